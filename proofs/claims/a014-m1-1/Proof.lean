import JvmDerived
import JvmDerived.Pilot.@@N@@Statement
import JvmDerived.Pilot.@@N@@Code
set_option linter.unusedVariables false
set_option linter.unusedSimpArgs false
@@BLOCK:NumsL.lean.txt@@
namespace Jvm.RoadKit
open Sem ClassFile Op Lib Jvm.Stand Jvm.Free Jvm.LawKit
section New
variable {p : Program} {l : Launch} {e : Env} {R : Room} {s : State} {m : MethodId} {args : Array Value} {below : List Frame} {meth : Method} {c : Code} {T : State} {locs : List Loc} {cells slots : Nat}
theorem retI (X : Stand p l e R s m args below meth c T locs cells slots) (hx : p.tables.exec = Jvm.exec) {pc : Nat} {Ls : Array Slot} {z : Int32} {rest : List Value} (hret : meth.sig.returnType = some .int) (hd : decode c.code pc = .ok (.ireturn, 1)) {fs : List Frame}
    (hl : ∀ (f : JFrame) (acts : List Action), f.method = m → f.locked = none → f.entered = [] → (doReturn e (T.setTop f) acts (some (.int z))).1 = T.setFrames fs) : Steps p.tables e below (T.setTop (mkF m pc Ls (.int z :: rest))) (T.setFrames fs) :=
  retOut X hx hret rfl (Or.inl ⟨rfl, Or.inl rfl, _, rfl⟩) hd hl
theorem retL (X : Stand p l e R s m args below meth c T locs cells slots) (hx : p.tables.exec = Jvm.exec) {pc : Nat} {Ls : Array Slot} {z : Int64} {rest : List Value} (hret : meth.sig.returnType = some .long) (hd : decode c.code pc = .ok (.lreturn, 1)) {fs : List Frame}
    (hl : ∀ (f : JFrame) (acts : List Action), f.method = m → f.locked = none → f.entered = [] → (doReturn e (T.setTop f) acts (some (.long z))).1 = T.setFrames fs) : Steps p.tables e below (T.setTop (mkF m pc Ls (.long z :: rest))) (T.setFrames fs) :=
  retOut X hx hret rfl (Or.inr (Or.inl ⟨rfl, rfl, _, rfl⟩)) hd hl
theorem retA (X : Stand p l e R s m args below meth c T locs cells slots) (hx : p.tables.exec = Jvm.exec) {pc : Nat} {Ls : Array Slot} {z : Addr} {t : FieldType} {rest : List Value} (hret : meth.sig.returnType = some t) (ht : t.isReference = true) (hd : decode c.code pc = .ok (.areturn, 1)) {fs : List Frame}
    (hn : narrow t (.ref z) = .ref z) (hl : ∀ (f : JFrame) (acts : List Action), f.method = m → f.locked = none → f.entered = [] → (doReturn e (T.setTop f) acts (some (.ref z))).1 = T.setFrames fs) : Steps p.tables e below (T.setTop (mkF m pc Ls (.ref z :: rest))) (T.setFrames fs) :=
  retOut X hx hret hn (Or.inr (Or.inr (Or.inr (Or.inr ⟨rfl, ht, rfl⟩)))) hd hl
end New
end Jvm.RoadKit
namespace Jvm.Pilot.@@N@@
open Jvm Jvm.ClassFile Sem Op Lib Jvm.Free Jvm.Stand Jvm.LawKit Jvm.RoadKit Bundle Jvm.Pilot.@@N@@.Jvm.D
/-- the walk moves on: what runs from S' runs from S -/
theorem own_go {tb : Tables} {e : Env} {below : List Frame} {S S' : State} {P : State → Outcome → Prop} (h : ∀ t, Steps tb e below S' t → Steps tb e below S t)
    (k : ∃ s₂ o, Steps tb e below S' s₂ ∧ s₂.status = .running ∧ Ended s₂ below o ∧ P s₂ o) : ∃ s₂ o, Steps tb e below S s₂ ∧ s₂.status = .running ∧ Ended s₂ below o ∧ P s₂ o := by
  obtain ⟨s₂, o, h1, h2⟩ := k
  exact ⟨s₂, o, h _ h1, h2⟩
/-- Java's x >>> y on ints and on longs -/
def own_ushr (x y : Int32) : Int32 := (x.toUInt32 >>> (y &&& 31).toUInt32).toInt32
def own_ushrL (x : Int64) (y : Int32) : Int64 := (x.toUInt64 >>> (y &&& 0x3f).toInt64.toUInt64).toInt64
def own_shlL (x : Int64) (y : Int32) : Int64 := x <<< (y &&& 0x3f).toInt64
def own_shrL (x : Int64) (y : Int32) : Int64 := x >>> (y &&& 0x3f).toInt64
def own_shl (x y : Int32) : Int32 := x <<< (y &&& 31)
def own_shr (x y : Int32) : Int32 := x >>> (y &&& 31)
/-- an array by its places: ints (byte, char, short, boolean too), longs -/
def own_AI (Z : State) (h : Heap) (a : Addr) (ty : FieldType) (n : Nat) (g : Nat → Int32) : Prop := ∃ c : Cell, Arr Z h a c ty ∧ c.slots.size = n ∧ n < 2 ^ 31 ∧ ∀ i, i < n → c.slots[i]? = some (.int (g i))
def own_AJ (Z : State) (h : Heap) (a : Addr) (ty : FieldType) (n : Nat) (g : Nat → Int64) : Prop := ∃ c : Cell, Arr Z h a c ty ∧ c.slots.size = n ∧ n < 2 ^ 31 ∧ ∀ i, i < n → c.slots[i]? = some (.long (g i))
def own_AD (Z : State) (h : Heap) (a : Addr) (ty : FieldType) (n : Nat) (g : Nat → UInt64) : Prop := ∃ c : Cell, Arr Z h a c ty ∧ c.slots.size = n ∧ n < 2 ^ 31 ∧ ∀ i, i < n → c.slots[i]? = some (.double (g i))
def own_upd {α : Type} (g : Nat → α) (j : Nat) (v : α) : Nat → α := fun i => if i = j then v else g i
theorem own_upd_same {α : Type} (g : Nat → α) (j : Nat) (v : α) : own_upd g j v j = v := if_pos rfl
theorem own_upd_ne {α : Type} (g : Nat → α) {i j : Nat} (v : α) (h : i ≠ j) : own_upd g j v i = g i := if_neg h
section OwnArrays
variable {Z : State} {h h' : Heap} {a b : Addr} {ty : FieldType} {n sl : Nat} {v : Value} {ws : List Addr}
theorem own_AI.lt {g : Nat → Int32} (F : own_AI Z h a ty n g) : a < h.size := by obtain ⟨c, A, -⟩ := F; exact A.lt
theorem own_AI.ext {g : Nat → Int32} (F : own_AI Z h a ty n g) (E : Ext h h') : own_AI Z h' a ty n g := by obtain ⟨c, A, r⟩ := F; exact ⟨c, A.ext E, r⟩
theorem own_AI.other {g : Nat → Int32} (F : own_AI Z h b ty n g) (W : Wr h h' a sl v) (q : b ≠ a) : own_AI Z h' b ty n g := by obtain ⟨c, A, r⟩ := F; exact ⟨c, A.other W q, r⟩
theorem own_AI.keep {g : Nat → Int32} (F : own_AI Z h a ty n g) (K : Keep h h' ws) (q : a ∉ ws) : own_AI Z h' a ty n g := by obtain ⟨c, A, r⟩ := F; exact ⟨c, ⟨K.2.1 a c A.1 q, A.2⟩, r⟩
theorem own_AJ.lt {g : Nat → Int64} (F : own_AJ Z h a ty n g) : a < h.size := by obtain ⟨c, A, -⟩ := F; exact A.lt
theorem own_AJ.ext {g : Nat → Int64} (F : own_AJ Z h a ty n g) (E : Ext h h') : own_AJ Z h' a ty n g := by obtain ⟨c, A, r⟩ := F; exact ⟨c, A.ext E, r⟩
theorem own_AJ.other {g : Nat → Int64} (F : own_AJ Z h b ty n g) (W : Wr h h' a sl v) (q : b ≠ a) : own_AJ Z h' b ty n g := by obtain ⟨c, A, r⟩ := F; exact ⟨c, A.other W q, r⟩
theorem own_AJ.keep {g : Nat → Int64} (F : own_AJ Z h a ty n g) (K : Keep h h' ws) (q : a ∉ ws) : own_AJ Z h' a ty n g := by obtain ⟨c, A, r⟩ := F; exact ⟨c, ⟨K.2.1 a c A.1 q, A.2⟩, r⟩
theorem own_AD.lt {g : Nat → UInt64} (F : own_AD Z h a ty n g) : a < h.size := by obtain ⟨c, A, -⟩ := F; exact A.lt
theorem own_AD.ext {g : Nat → UInt64} (F : own_AD Z h a ty n g) (E : Ext h h') : own_AD Z h' a ty n g := by obtain ⟨c, A, r⟩ := F; exact ⟨c, A.ext E, r⟩
theorem own_AD.other {g : Nat → UInt64} (F : own_AD Z h b ty n g) (W : Wr h h' a sl v) (q : b ≠ a) : own_AD Z h' b ty n g := by obtain ⟨c, A, r⟩ := F; exact ⟨c, A.other W q, r⟩
theorem own_AD.keep {g : Nat → UInt64} (F : own_AD Z h a ty n g) (K : Keep h h' ws) (q : a ∉ ws) : own_AD Z h' a ty n g := by obtain ⟨c, A, r⟩ := F; exact ⟨c, ⟨K.2.1 a c A.1 q, A.2⟩, r⟩
theorem own_AI.set {g : Nat → Int32} {c : Cell} {x : Int32} {j : Nat} (A : Arr Z h a c ty) (S : c.slots.size = n) (M : n < 2 ^ 31) (H : ∀ i, i < n → c.slots[i]? = some (.int (g i))) (W : Wr h h' a j (.int x)) : own_AI Z h' a ty n (own_upd g j x) := by
  refine ⟨_, A.same W, (sz_set _ _ _).trans S, M, fun i hi => ?_⟩
  simp only [Cell.setSlot, Array.getElem?_setIfInBounds, own_upd]
  by_cases q : j = i
  · subst q; simp [S, hi]
  · rw [if_neg q, if_neg (fun z => q z.symm)]; exact H i hi
theorem own_AJ.set {g : Nat → Int64} {c : Cell} {x : Int64} {j : Nat} (A : Arr Z h a c ty) (S : c.slots.size = n) (M : n < 2 ^ 31) (H : ∀ i, i < n → c.slots[i]? = some (.long (g i))) (W : Wr h h' a j (.long x)) : own_AJ Z h' a ty n (own_upd g j x) := by
  refine ⟨_, A.same W, (sz_set _ _ _).trans S, M, fun i hi => ?_⟩
  simp only [Cell.setSlot, Array.getElem?_setIfInBounds, own_upd]
  by_cases q : j = i
  · subst q; simp [S, hi]
  · rw [if_neg q, if_neg (fun z => q z.symm)]; exact H i hi
theorem own_AD.set {g : Nat → UInt64} {c : Cell} {x : UInt64} {j : Nat} (A : Arr Z h a c ty) (S : c.slots.size = n) (M : n < 2 ^ 31) (H : ∀ i, i < n → c.slots[i]? = some (.double (g i))) (W : Wr h h' a j (.double x)) : own_AD Z h' a ty n (own_upd g j x) := by
  refine ⟨_, A.same W, (sz_set _ _ _).trans S, M, fun i hi => ?_⟩
  simp only [Cell.setSlot, Array.getElem?_setIfInBounds, own_upd]
  by_cases q : j = i
  · subst q; simp [S, hi]
  · rw [if_neg q, if_neg (fun z => q z.symm)]; exact H i hi
theorem own_clamp_lt (z : Int32) : z.toNatClampNeg < 2 ^ 31 := by have := z.toInt_lt; simp only [Int32.toNatClampNeg]; omega
theorem own_AI.fresh {k : ClassId} {z : Int32} (A : Arr Z h a (newA k ty z) ty) (hd : defaultValue ty = .int 0) : own_AI Z h a ty z.toNatClampNeg (fun _ => 0) :=
  ⟨_, A, sz_new _ _ _, own_clamp_lt z, fun i hi => by simp [newA, hi, hd]⟩
theorem own_AJ.fresh {k : ClassId} {z : Int32} (A : Arr Z h a (newA k ty z) ty) (hd : defaultValue ty = .long 0) : own_AJ Z h a ty z.toNatClampNeg (fun _ => 0) :=
  ⟨_, A, sz_new _ _ _, own_clamp_lt z, fun i hi => by simp [newA, hi, hd]⟩
theorem own_AD.fresh {k : ClassId} {z : Int32} (A : Arr Z h a (newA k ty z) ty) (hd : defaultValue ty = .double 0) : own_AD Z h a ty z.toNatClampNeg (fun _ => 0) :=
  ⟨_, A, sz_new _ _ _, own_clamp_lt z, fun i hi => by simp [newA, hi, hd]⟩
theorem own_in {c : Cell} {j : Int32} (S : c.slots.size = n) (q : ¬ j < 0 ∧ j.toNatClampNeg < n) : ¬ (j < 0 ∨ c.slots.size ≤ j.toNatClampNeg) := by
  rw [S]; exact fun z => z.elim q.1 (fun y => by have := q.2; omega)
theorem own_len {c : Cell} (S : c.slots.size = n) : c.slots.size.toInt32 = Int32.ofNat n := by rw [S]
theorem own_fitI {g : Nat → Int32} {c : Cell} (A : Arr Z h a c .int) (S : c.slots.size = n) (H : ∀ i, i < n → c.slots[i]? = some (.int (g i))) : FitC Z c :=
  fitC_of A fun i hi v hv => by rw [H i (S ▸ hi)] at hv; cases hv; rfl
theorem own_nst {C : String} (E : Exa Z h a C) : ∃ c : Cell, h[a]? = some c ∧ c.vm.isStatics = false := by obtain ⟨c, k, h1, -, -, h4, -⟩ := E; exact ⟨c, h1, h4⟩
theorem own_Sta_keep {C f d : String} (F : Sta Z h C f d v) (K : Keep h h' ws) (q : ∀ x ∈ ws, ∃ c : Cell, h[x]? = some c ∧ c.vm.isStatics = false) : Sta Z h' C f d v := by
  obtain ⟨cf, i, k, f, st, cell, h1, h2, h3, h4, h5, h6, h7⟩ := F
  refine ⟨cf, i, k, f, st, cell, h1, h2, h3, h4, K.2.1 st cell h5 (fun z => ?_), h6, h7⟩
  obtain ⟨c, g1, g2⟩ := q st z
  cases h5.symm.trans g1
  rw [h6] at g2
  cases g2
end OwnArrays
theorem own_lremq (x y : Int64) : x - (x / y) * y = x % y := by
  apply Int64.toInt_inj.mp
  rw [Int64.toInt_sub, Int64.toInt_mul, Int64.toInt_div, Int64.toInt_mod]
  have h := Int.mul_tdiv_add_tmod x.toInt y.toInt
  have hl := x.toInt_lt; have hg := x.le_toInt
  simp only [Int.bmod_sub_bmod, Int.sub_bmod_bmod, Int.bmod_mul_bmod, Int.mul_bmod_bmod]
  have e : x.toInt - x.toInt.tdiv y.toInt * y.toInt = x.toInt.tmod y.toInt := by rw [Int.mul_comm]; omega
  rw [e]
  have h1 := (x % y).toInt_lt; have h2 := (x % y).le_toInt
  rw [Int64.toInt_mod] at h1 h2
  exact Int.bmod_eq_of_le (by omega) (by omega)
theorem d5_0 : decode prog_29_method_3_code 0 = .ok (.lload_n 0, 1) := by decide +kernel
theorem d5_1 : decode prog_29_method_3_code 1 = .ok (.lstore_n 2, 1) := by decide +kernel
theorem d5_2 : decode prog_29_method_3_code 2 = .ok (.lload_n 2, 1) := by decide +kernel
theorem d5_3 : decode prog_29_method_3_code 3 = .ok (.lload_n 2, 1) := by decide +kernel
theorem d5_4 : decode prog_29_method_3_code 4 = .ok (.bipush 30, 2) := by decide +kernel
theorem d5_6 : decode prog_29_method_3_code 6 = .ok (.lushr, 1) := by decide +kernel
theorem d5_7 : decode prog_29_method_3_code 7 = .ok (.lxor, 1) := by decide +kernel
theorem d5_8 : decode prog_29_method_3_code 8 = .ok (.ldc2_w 19, 3) := by decide +kernel
theorem d5_11 : decode prog_29_method_3_code 11 = .ok (.lmul, 1) := by decide +kernel
theorem d5_12 : decode prog_29_method_3_code 12 = .ok (.lstore_n 2, 1) := by decide +kernel
theorem d5_13 : decode prog_29_method_3_code 13 = .ok (.lload_n 2, 1) := by decide +kernel
theorem d5_14 : decode prog_29_method_3_code 14 = .ok (.lload_n 2, 1) := by decide +kernel
theorem d5_15 : decode prog_29_method_3_code 15 = .ok (.bipush 27, 2) := by decide +kernel
theorem d5_17 : decode prog_29_method_3_code 17 = .ok (.lushr, 1) := by decide +kernel
theorem d5_18 : decode prog_29_method_3_code 18 = .ok (.lxor, 1) := by decide +kernel
theorem d5_19 : decode prog_29_method_3_code 19 = .ok (.ldc2_w 21, 3) := by decide +kernel
theorem d5_22 : decode prog_29_method_3_code 22 = .ok (.lmul, 1) := by decide +kernel
theorem d5_23 : decode prog_29_method_3_code 23 = .ok (.lstore_n 2, 1) := by decide +kernel
theorem d5_24 : decode prog_29_method_3_code 24 = .ok (.lload_n 2, 1) := by decide +kernel
theorem d5_25 : decode prog_29_method_3_code 25 = .ok (.lload_n 2, 1) := by decide +kernel
theorem d5_26 : decode prog_29_method_3_code 26 = .ok (.bipush 31, 2) := by decide +kernel
theorem d5_28 : decode prog_29_method_3_code 28 = .ok (.lushr, 1) := by decide +kernel
theorem d5_29 : decode prog_29_method_3_code 29 = .ok (.lxor, 1) := by decide +kernel
theorem d5_30 : decode prog_29_method_3_code 30 = .ok (.lreturn, 1) := by decide +kernel
theorem own_pn0 : plainName "com/example/graphcrate/graphcrate/generate/SplitMix64" = true := by first | (simp [plainName, overriddenIn]; done) | decide +kernel
def own_mix (q0 : Int64) : Int64 := let z1 : Int64 := ((q0 ^^^ (own_ushrL q0 (30 : Int32))) * (-4658895280553007687 : Int64)); let z2 : Int64 := ((z1 ^^^ (own_ushrL z1 (27 : Int32))) * (-7723592293110705685 : Int64)); (z2 ^^^ (own_ushrL z2 (31 : Int32)))
set_option maxHeartbeats 40000000 in
theorem own_ef_rm5 (m : MethodId) (x0 : Int64) : entryFrame m #[(.long x0)] 4 = mkF m 0 #[.val (.long x0), .second, .unset, .unset] [] := by first | (simp [entryFrame, mkF, argsToLocals, Value.category]; done) | rfl
def Q5 (Z : State) (q0 : Int64) (h0 : Heap) (n0 : Nat) (v : Option Value) (h : Heap) (L : List Loc) : Prop := v = some (.long (own_mix q0)) ∧ Fr n0 L ∧ h = h0
set_option maxRecDepth 65536 in
set_option maxHeartbeats 40000000 in
theorem rm5 (l : Launch) (Z : State) (aZ : Array Value) (hw : ∀ d ∈ tables_1, d.before aZ Z = true) (ws : List Jvm.Cond) (q0 : Int64) (h0 : Heap) (n0 : Nat) (Z0 : n0 ≤ h0.size) :
    MetFree l (⟨"com/example/graphcrate/graphcrate/generate/SplitMix64", "mix", "(J)J"⟩ : MethodName) (head1 (Jvm.Cond.code (⟨"com/example/graphcrate/graphcrate/generate/SplitMix64", "mix", "(J)J"⟩ : MethodName) prog_29_method_3_code 4 (some .long) :: ws) ({ frames := 0, cells := 0, slots := 0, locals := 0 } : Room)) (fun a U => a = #[(.long q0)] ∧ Z.Warmed39 U.vm ∧ U.heap = h0) (fun _ _ _ _ _ => True) (fun _ U o U' => ∃ v L, o = .returned v ∧ Q5 Z q0 h0 n0 v U'.heap L ∧ FrameEnd U o U' L ({ frames := 0, cells := 0, slots := 0, locals := 0 } : Room).cells ({ frames := 0, cells := 0, slots := 0, locals := 0 } : Room).slots) := by
  refine MetFree.of_bodySF (plainFor_of_name own_pn0) hisR ?_
  intro p e s m args below meth c s₁ Bd hml0 hP hK
  obtain ⟨rfl, hZ, hh⟩ := hP
  have hx := Bd.exec
  have hby := Bd.bytes
  have hml : c.maxLocals = 4 := hml0
  have hown : s.vm.findClass "com/example/graphcrate/graphcrate/generate/SplitMix64" = some m.cls := findClass_of_methodNamed Bd.named
  have hnm := (name_of_methodNamed Bd.named Bd.method).1
  have X0 : Stand p l e ({ frames := 0, cells := 0, slots := 0, locals := 0 } : Room) s m #[(.long q0)] below meth c s₁ [] 0 0 := Stand.of_body Bd
  have e0 : s₁.heap = h0 := by rw [← hh, Bd.state]; rfl
  have N0 := Fr.nil n0
  refine own_go (S' := s₁.setTop (mkF m 0 #[.val (.long q0), .second, .unset, .unset] [])) (fun t k => castTop (own_ef_rm5 m q0) k) ?_
  obtain ⟨z1, h_z1⟩ : ∃ z : Int64, z = ((q0 ^^^ (own_ushrL q0 (30 : Int32))) * (-4658895280553007687 : Int64)) := ⟨_, rfl⟩
  refine own_go (S' := s₁.setTop (mkF m 13 #[.val (.long q0), .second, .val (.long z1), .second] [])) (fun target kt => ?_) ?_
  · subst h_z1
    show Steps p.tables e below (s₁.setTop (mkF m 0 #[.val (.long q0), .second, .unset, .unset] [])) _
    refine XS.lloadN X0.here hx rfl (hb hby d5_0) rfl ?_
    show Steps p.tables e below (s₁.setTop (mkF m 1 #[.val (.long q0), .second, .unset, .unset] [(.long q0)])) _
    refine XS.lstoreN X0.here hx rfl (hb hby d5_1) rfl (l' := #[.val (.long q0), .second, .val (.long q0), .second]) rfl ?_
    show Steps p.tables e below (s₁.setTop (mkF m 2 #[.val (.long q0), .second, .val (.long q0), .second] [])) _
    refine XS.lloadN X0.here hx rfl (hb hby d5_2) rfl ?_
    show Steps p.tables e below (s₁.setTop (mkF m 3 #[.val (.long q0), .second, .val (.long q0), .second] [(.long q0)])) _
    refine XS.lloadN X0.here hx rfl (hb hby d5_3) rfl ?_
    show Steps p.tables e below (s₁.setTop (mkF m 4 #[.val (.long q0), .second, .val (.long q0), .second] [(.long q0), (.long q0)])) _
    refine XS.bipush X0.here hx rfl (hb hby d5_4) ?_
    show Steps p.tables e below (s₁.setTop (mkF m 6 #[.val (.long q0), .second, .val (.long q0), .second] [(.int (30 : Int32)), (.long q0), (.long q0)])) _
    refine XS.lushr X0.here hx rfl (hb hby d5_6) rfl ?_
    show Steps p.tables e below (s₁.setTop (mkF m 7 #[.val (.long q0), .second, .val (.long q0), .second] [(.long (own_ushrL q0 (30 : Int32))), (.long q0)])) _
    refine XS.lxor X0.here hx rfl (hb hby d5_7) rfl ?_
    show Steps p.tables e below (s₁.setTop (mkF m 8 #[.val (.long q0), .second, .val (.long q0), .second] [(.long (q0 ^^^ (own_ushrL q0 (30 : Int32))))])) _
    refine X0.ldc2Long hx hown (mvT hZ (hw _ (List.mem_of_getElem? (i := 38) rfl))) (g := (mkF m 8 #[.val (.long q0), .second, .val (.long q0), .second] [(.long (q0 ^^^ (own_ushrL q0 (30 : Int32))))])) rfl (hb hby d5_8) _ ?_
    show Steps p.tables e below (s₁.setTop (mkF m 11 #[.val (.long q0), .second, .val (.long q0), .second] [(.long (-4658895280553007687 : Int64)), (.long (q0 ^^^ (own_ushrL q0 (30 : Int32))))])) _
    refine XS.lmul X0.here hx rfl (hb hby d5_11) rfl ?_
    show Steps p.tables e below (s₁.setTop (mkF m 12 #[.val (.long q0), .second, .val (.long q0), .second] [(.long ((q0 ^^^ (own_ushrL q0 (30 : Int32))) * (-4658895280553007687 : Int64)))])) _
    refine XS.lstoreN X0.here hx rfl (hb hby d5_12) rfl (l' := #[.val (.long q0), .second, .val (.long ((q0 ^^^ (own_ushrL q0 (30 : Int32))) * (-4658895280553007687 : Int64))), .second]) rfl ?_
    exact kt
  obtain ⟨z2, h_z2⟩ : ∃ z : Int64, z = ((z1 ^^^ (own_ushrL z1 (27 : Int32))) * (-7723592293110705685 : Int64)) := ⟨_, rfl⟩
  refine own_go (S' := s₁.setTop (mkF m 24 #[.val (.long q0), .second, .val (.long z2), .second] [])) (fun target kt => ?_) ?_
  · subst h_z2
    show Steps p.tables e below (s₁.setTop (mkF m 13 #[.val (.long q0), .second, .val (.long z1), .second] [])) _
    refine XS.lloadN X0.here hx rfl (hb hby d5_13) rfl ?_
    show Steps p.tables e below (s₁.setTop (mkF m 14 #[.val (.long q0), .second, .val (.long z1), .second] [(.long z1)])) _
    refine XS.lloadN X0.here hx rfl (hb hby d5_14) rfl ?_
    show Steps p.tables e below (s₁.setTop (mkF m 15 #[.val (.long q0), .second, .val (.long z1), .second] [(.long z1), (.long z1)])) _
    refine XS.bipush X0.here hx rfl (hb hby d5_15) ?_
    show Steps p.tables e below (s₁.setTop (mkF m 17 #[.val (.long q0), .second, .val (.long z1), .second] [(.int (27 : Int32)), (.long z1), (.long z1)])) _
    refine XS.lushr X0.here hx rfl (hb hby d5_17) rfl ?_
    show Steps p.tables e below (s₁.setTop (mkF m 18 #[.val (.long q0), .second, .val (.long z1), .second] [(.long (own_ushrL z1 (27 : Int32))), (.long z1)])) _
    refine XS.lxor X0.here hx rfl (hb hby d5_18) rfl ?_
    show Steps p.tables e below (s₁.setTop (mkF m 19 #[.val (.long q0), .second, .val (.long z1), .second] [(.long (z1 ^^^ (own_ushrL z1 (27 : Int32))))])) _
    refine X0.ldc2Long hx hown (mvT hZ (hw _ (List.mem_of_getElem? (i := 39) rfl))) (g := (mkF m 19 #[.val (.long q0), .second, .val (.long z1), .second] [(.long (z1 ^^^ (own_ushrL z1 (27 : Int32))))])) rfl (hb hby d5_19) _ ?_
    show Steps p.tables e below (s₁.setTop (mkF m 22 #[.val (.long q0), .second, .val (.long z1), .second] [(.long (-7723592293110705685 : Int64)), (.long (z1 ^^^ (own_ushrL z1 (27 : Int32))))])) _
    refine XS.lmul X0.here hx rfl (hb hby d5_22) rfl ?_
    show Steps p.tables e below (s₁.setTop (mkF m 23 #[.val (.long q0), .second, .val (.long z1), .second] [(.long ((z1 ^^^ (own_ushrL z1 (27 : Int32))) * (-7723592293110705685 : Int64)))])) _
    refine XS.lstoreN X0.here hx rfl (hb hby d5_23) rfl (l' := #[.val (.long q0), .second, .val (.long ((z1 ^^^ (own_ushrL z1 (27 : Int32))) * (-7723592293110705685 : Int64))), .second]) rfl ?_
    exact kt
  refine own_go (S' := s₁.setTop (mkF m 30 #[.val (.long q0), .second, .val (.long z2), .second] [(.long (z2 ^^^ (own_ushrL z2 (31 : Int32))))])) (fun target kt => ?_) ?_
  · skip
    show Steps p.tables e below (s₁.setTop (mkF m 24 #[.val (.long q0), .second, .val (.long z2), .second] [])) _
    refine XS.lloadN X0.here hx rfl (hb hby d5_24) rfl ?_
    show Steps p.tables e below (s₁.setTop (mkF m 25 #[.val (.long q0), .second, .val (.long z2), .second] [(.long z2)])) _
    refine XS.lloadN X0.here hx rfl (hb hby d5_25) rfl ?_
    show Steps p.tables e below (s₁.setTop (mkF m 26 #[.val (.long q0), .second, .val (.long z2), .second] [(.long z2), (.long z2)])) _
    refine XS.bipush X0.here hx rfl (hb hby d5_26) ?_
    show Steps p.tables e below (s₁.setTop (mkF m 28 #[.val (.long q0), .second, .val (.long z2), .second] [(.int (31 : Int32)), (.long z2), (.long z2)])) _
    refine XS.lushr X0.here hx rfl (hb hby d5_28) rfl ?_
    show Steps p.tables e below (s₁.setTop (mkF m 29 #[.val (.long q0), .second, .val (.long z2), .second] [(.long (own_ushrL z2 (31 : Int32))), (.long z2)])) _
    refine XS.lxor X0.here hx rfl (hb hby d5_29) rfl ?_
    exact kt
  obtain ⟨fs, hr, hrun, hended, hW, hsame⟩ := X0.leave (v := some (.long (z2 ^^^ (own_ushrL z2 (31 : Int32))))) (fun h => by rw [Bd.returns] at h; cases h)
  refine ⟨_, _, ?_, hrun, hended, _, _, rfl, ?_, ⟨_, rfl⟩, hW, hsame.mono (by decide) (by decide)⟩
  · exact retL X0 hx Bd.returns (hb hby d5_30) hr
  · show Q5 Z q0 h0 n0 _ s₁.heap _
    rw [e0]
    exact ⟨(by subst h_z1 h_z2; (first | rfl | (simp only [own_mix]; done) | (simp [own_mix]; done))), N0, rfl⟩
theorem d8_0 : decode method_4_code 0 = .ok (.lload_n 0, 1) := by decide +kernel
theorem d8_1 : decode method_4_code 1 = .ok (.lstore_n 2, 1) := by decide +kernel
theorem d8_2 : decode method_4_code 2 = .ok (.lload_n 2, 1) := by decide +kernel
theorem d8_3 : decode method_4_code 3 = .ok (.ldc2_w 35, 3) := by decide +kernel
theorem d8_6 : decode method_4_code 6 = .ok (.lload_n 0, 1) := by decide +kernel
theorem d8_7 : decode method_4_code 7 = .ok (.lload_n 2, 1) := by decide +kernel
theorem d8_8 : decode method_4_code 8 = .ok (.lmul, 1) := by decide +kernel
theorem d8_9 : decode method_4_code 9 = .ok (.lsub, 1) := by decide +kernel
theorem d8_10 : decode method_4_code 10 = .ok (.lmul, 1) := by decide +kernel
theorem d8_11 : decode method_4_code 11 = .ok (.lstore_n 2, 1) := by decide +kernel
theorem d8_12 : decode method_4_code 12 = .ok (.lload_n 2, 1) := by decide +kernel
theorem d8_13 : decode method_4_code 13 = .ok (.ldc2_w 35, 3) := by decide +kernel
theorem d8_16 : decode method_4_code 16 = .ok (.lload_n 0, 1) := by decide +kernel
theorem d8_17 : decode method_4_code 17 = .ok (.lload_n 2, 1) := by decide +kernel
theorem d8_18 : decode method_4_code 18 = .ok (.lmul, 1) := by decide +kernel
theorem d8_19 : decode method_4_code 19 = .ok (.lsub, 1) := by decide +kernel
theorem d8_20 : decode method_4_code 20 = .ok (.lmul, 1) := by decide +kernel
theorem d8_21 : decode method_4_code 21 = .ok (.lstore_n 2, 1) := by decide +kernel
theorem d8_22 : decode method_4_code 22 = .ok (.lload_n 2, 1) := by decide +kernel
theorem d8_23 : decode method_4_code 23 = .ok (.ldc2_w 35, 3) := by decide +kernel
theorem d8_26 : decode method_4_code 26 = .ok (.lload_n 0, 1) := by decide +kernel
theorem d8_27 : decode method_4_code 27 = .ok (.lload_n 2, 1) := by decide +kernel
theorem d8_28 : decode method_4_code 28 = .ok (.lmul, 1) := by decide +kernel
theorem d8_29 : decode method_4_code 29 = .ok (.lsub, 1) := by decide +kernel
theorem d8_30 : decode method_4_code 30 = .ok (.lmul, 1) := by decide +kernel
theorem d8_31 : decode method_4_code 31 = .ok (.lstore_n 2, 1) := by decide +kernel
theorem d8_32 : decode method_4_code 32 = .ok (.lload_n 2, 1) := by decide +kernel
theorem d8_33 : decode method_4_code 33 = .ok (.ldc2_w 35, 3) := by decide +kernel
theorem d8_36 : decode method_4_code 36 = .ok (.lload_n 0, 1) := by decide +kernel
theorem d8_37 : decode method_4_code 37 = .ok (.lload_n 2, 1) := by decide +kernel
theorem d8_38 : decode method_4_code 38 = .ok (.lmul, 1) := by decide +kernel
theorem d8_39 : decode method_4_code 39 = .ok (.lsub, 1) := by decide +kernel
theorem d8_40 : decode method_4_code 40 = .ok (.lmul, 1) := by decide +kernel
theorem d8_41 : decode method_4_code 41 = .ok (.lstore_n 2, 1) := by decide +kernel
theorem d8_42 : decode method_4_code 42 = .ok (.lload_n 2, 1) := by decide +kernel
theorem d8_43 : decode method_4_code 43 = .ok (.ldc2_w 35, 3) := by decide +kernel
theorem d8_46 : decode method_4_code 46 = .ok (.lload_n 0, 1) := by decide +kernel
theorem d8_47 : decode method_4_code 47 = .ok (.lload_n 2, 1) := by decide +kernel
theorem d8_48 : decode method_4_code 48 = .ok (.lmul, 1) := by decide +kernel
theorem d8_49 : decode method_4_code 49 = .ok (.lsub, 1) := by decide +kernel
theorem d8_50 : decode method_4_code 50 = .ok (.lmul, 1) := by decide +kernel
theorem d8_51 : decode method_4_code 51 = .ok (.lstore_n 2, 1) := by decide +kernel
theorem d8_52 : decode method_4_code 52 = .ok (.lload_n 2, 1) := by decide +kernel
theorem d8_53 : decode method_4_code 53 = .ok (.lreturn, 1) := by decide +kernel
theorem own_pn1 : plainName "com/example/graphcrate/graphcrate/generate/VertexRenamingRenamePinLaw" = true := by first | (simp [plainName, overriddenIn]; done) | decide +kernel
def own_inverse (q0 : Int64) : Int64 := let i1 : Int64 := (q0 * ((2 : Int64) - (q0 * q0))); let i2 : Int64 := (i1 * ((2 : Int64) - (q0 * i1))); let i3 : Int64 := (i2 * ((2 : Int64) - (q0 * i2))); let i4 : Int64 := (i3 * ((2 : Int64) - (q0 * i3))); let i5 : Int64 := (i4 * ((2 : Int64) - (q0 * i4))); i5
set_option maxHeartbeats 40000000 in
theorem own_ef_rm8 (m : MethodId) (x0 : Int64) : entryFrame m #[(.long x0)] 4 = mkF m 0 #[.val (.long x0), .second, .unset, .unset] [] := by first | (simp [entryFrame, mkF, argsToLocals, Value.category]; done) | rfl
def Q8 (Z : State) (q0 : Int64) (h0 : Heap) (n0 : Nat) (v : Option Value) (h : Heap) (L : List Loc) : Prop := v = some (.long (own_inverse q0)) ∧ Fr n0 L ∧ h = h0
set_option maxRecDepth 65536 in
set_option maxHeartbeats 40000000 in
theorem rm8 (l : Launch) (Z : State) (aZ : Array Value) (hw : ∀ d ∈ tables_1, d.before aZ Z = true) (ws : List Jvm.Cond) (q0 : Int64) (h0 : Heap) (n0 : Nat) (Z0 : n0 ≤ h0.size) :
    MetFree l (⟨"com/example/graphcrate/graphcrate/generate/VertexRenamingRenamePinLaw", "inverse", "(J)J"⟩ : MethodName) (head1 (Jvm.Cond.code (⟨"com/example/graphcrate/graphcrate/generate/VertexRenamingRenamePinLaw", "inverse", "(J)J"⟩ : MethodName) method_4_code 4 (some .long) :: ws) ({ frames := 0, cells := 0, slots := 0, locals := 0 } : Room)) (fun a U => a = #[(.long q0)] ∧ Z.Warmed39 U.vm ∧ U.heap = h0) (fun _ _ _ _ _ => True) (fun _ U o U' => ∃ v L, o = .returned v ∧ Q8 Z q0 h0 n0 v U'.heap L ∧ FrameEnd U o U' L ({ frames := 0, cells := 0, slots := 0, locals := 0 } : Room).cells ({ frames := 0, cells := 0, slots := 0, locals := 0 } : Room).slots) := by
  refine MetFree.of_bodySF (plainFor_of_name own_pn1) hisR ?_
  intro p e s m args below meth c s₁ Bd hml0 hP hK
  obtain ⟨rfl, hZ, hh⟩ := hP
  have hx := Bd.exec
  have hby := Bd.bytes
  have hml : c.maxLocals = 4 := hml0
  have hown : s.vm.findClass "com/example/graphcrate/graphcrate/generate/VertexRenamingRenamePinLaw" = some m.cls := findClass_of_methodNamed Bd.named
  have hnm := (name_of_methodNamed Bd.named Bd.method).1
  have X0 : Stand p l e ({ frames := 0, cells := 0, slots := 0, locals := 0 } : Room) s m #[(.long q0)] below meth c s₁ [] 0 0 := Stand.of_body Bd
  have e0 : s₁.heap = h0 := by rw [← hh, Bd.state]; rfl
  have N0 := Fr.nil n0
  refine own_go (S' := s₁.setTop (mkF m 0 #[.val (.long q0), .second, .unset, .unset] [])) (fun t k => castTop (own_ef_rm8 m q0) k) ?_
  obtain ⟨i1, h_i1⟩ : ∃ z : Int64, z = (q0 * ((2 : Int64) - (q0 * q0))) := ⟨_, rfl⟩
  refine own_go (S' := s₁.setTop (mkF m 12 #[.val (.long q0), .second, .val (.long i1), .second] [])) (fun target kt => ?_) ?_
  · subst h_i1
    show Steps p.tables e below (s₁.setTop (mkF m 0 #[.val (.long q0), .second, .unset, .unset] [])) _
    refine XS.lloadN X0.here hx rfl (hb hby d8_0) rfl ?_
    show Steps p.tables e below (s₁.setTop (mkF m 1 #[.val (.long q0), .second, .unset, .unset] [(.long q0)])) _
    refine XS.lstoreN X0.here hx rfl (hb hby d8_1) rfl (l' := #[.val (.long q0), .second, .val (.long q0), .second]) rfl ?_
    show Steps p.tables e below (s₁.setTop (mkF m 2 #[.val (.long q0), .second, .val (.long q0), .second] [])) _
    refine XS.lloadN X0.here hx rfl (hb hby d8_2) rfl ?_
    show Steps p.tables e below (s₁.setTop (mkF m 3 #[.val (.long q0), .second, .val (.long q0), .second] [(.long q0)])) _
    refine X0.ldc2Long hx hown (mvT hZ (hw _ (List.mem_of_getElem? (i := 53) rfl))) (g := (mkF m 3 #[.val (.long q0), .second, .val (.long q0), .second] [(.long q0)])) rfl (hb hby d8_3) _ ?_
    show Steps p.tables e below (s₁.setTop (mkF m 6 #[.val (.long q0), .second, .val (.long q0), .second] [(.long (2 : Int64)), (.long q0)])) _
    refine XS.lloadN X0.here hx rfl (hb hby d8_6) rfl ?_
    show Steps p.tables e below (s₁.setTop (mkF m 7 #[.val (.long q0), .second, .val (.long q0), .second] [(.long q0), (.long (2 : Int64)), (.long q0)])) _
    refine XS.lloadN X0.here hx rfl (hb hby d8_7) rfl ?_
    show Steps p.tables e below (s₁.setTop (mkF m 8 #[.val (.long q0), .second, .val (.long q0), .second] [(.long q0), (.long q0), (.long (2 : Int64)), (.long q0)])) _
    refine XS.lmul X0.here hx rfl (hb hby d8_8) rfl ?_
    show Steps p.tables e below (s₁.setTop (mkF m 9 #[.val (.long q0), .second, .val (.long q0), .second] [(.long (q0 * q0)), (.long (2 : Int64)), (.long q0)])) _
    refine XS.lsub X0.here hx rfl (hb hby d8_9) rfl ?_
    show Steps p.tables e below (s₁.setTop (mkF m 10 #[.val (.long q0), .second, .val (.long q0), .second] [(.long ((2 : Int64) - (q0 * q0))), (.long q0)])) _
    refine XS.lmul X0.here hx rfl (hb hby d8_10) rfl ?_
    show Steps p.tables e below (s₁.setTop (mkF m 11 #[.val (.long q0), .second, .val (.long q0), .second] [(.long (q0 * ((2 : Int64) - (q0 * q0))))])) _
    refine XS.lstoreN X0.here hx rfl (hb hby d8_11) rfl (l' := #[.val (.long q0), .second, .val (.long (q0 * ((2 : Int64) - (q0 * q0)))), .second]) rfl ?_
    exact kt
  obtain ⟨i2, h_i2⟩ : ∃ z : Int64, z = (i1 * ((2 : Int64) - (q0 * i1))) := ⟨_, rfl⟩
  refine own_go (S' := s₁.setTop (mkF m 22 #[.val (.long q0), .second, .val (.long i2), .second] [])) (fun target kt => ?_) ?_
  · subst h_i2
    show Steps p.tables e below (s₁.setTop (mkF m 12 #[.val (.long q0), .second, .val (.long i1), .second] [])) _
    refine XS.lloadN X0.here hx rfl (hb hby d8_12) rfl ?_
    show Steps p.tables e below (s₁.setTop (mkF m 13 #[.val (.long q0), .second, .val (.long i1), .second] [(.long i1)])) _
    refine X0.ldc2Long hx hown (mvT hZ (hw _ (List.mem_of_getElem? (i := 53) rfl))) (g := (mkF m 13 #[.val (.long q0), .second, .val (.long i1), .second] [(.long i1)])) rfl (hb hby d8_13) _ ?_
    show Steps p.tables e below (s₁.setTop (mkF m 16 #[.val (.long q0), .second, .val (.long i1), .second] [(.long (2 : Int64)), (.long i1)])) _
    refine XS.lloadN X0.here hx rfl (hb hby d8_16) rfl ?_
    show Steps p.tables e below (s₁.setTop (mkF m 17 #[.val (.long q0), .second, .val (.long i1), .second] [(.long q0), (.long (2 : Int64)), (.long i1)])) _
    refine XS.lloadN X0.here hx rfl (hb hby d8_17) rfl ?_
    show Steps p.tables e below (s₁.setTop (mkF m 18 #[.val (.long q0), .second, .val (.long i1), .second] [(.long i1), (.long q0), (.long (2 : Int64)), (.long i1)])) _
    refine XS.lmul X0.here hx rfl (hb hby d8_18) rfl ?_
    show Steps p.tables e below (s₁.setTop (mkF m 19 #[.val (.long q0), .second, .val (.long i1), .second] [(.long (q0 * i1)), (.long (2 : Int64)), (.long i1)])) _
    refine XS.lsub X0.here hx rfl (hb hby d8_19) rfl ?_
    show Steps p.tables e below (s₁.setTop (mkF m 20 #[.val (.long q0), .second, .val (.long i1), .second] [(.long ((2 : Int64) - (q0 * i1))), (.long i1)])) _
    refine XS.lmul X0.here hx rfl (hb hby d8_20) rfl ?_
    show Steps p.tables e below (s₁.setTop (mkF m 21 #[.val (.long q0), .second, .val (.long i1), .second] [(.long (i1 * ((2 : Int64) - (q0 * i1))))])) _
    refine XS.lstoreN X0.here hx rfl (hb hby d8_21) rfl (l' := #[.val (.long q0), .second, .val (.long (i1 * ((2 : Int64) - (q0 * i1)))), .second]) rfl ?_
    exact kt
  obtain ⟨i3, h_i3⟩ : ∃ z : Int64, z = (i2 * ((2 : Int64) - (q0 * i2))) := ⟨_, rfl⟩
  refine own_go (S' := s₁.setTop (mkF m 32 #[.val (.long q0), .second, .val (.long i3), .second] [])) (fun target kt => ?_) ?_
  · subst h_i3
    show Steps p.tables e below (s₁.setTop (mkF m 22 #[.val (.long q0), .second, .val (.long i2), .second] [])) _
    refine XS.lloadN X0.here hx rfl (hb hby d8_22) rfl ?_
    show Steps p.tables e below (s₁.setTop (mkF m 23 #[.val (.long q0), .second, .val (.long i2), .second] [(.long i2)])) _
    refine X0.ldc2Long hx hown (mvT hZ (hw _ (List.mem_of_getElem? (i := 53) rfl))) (g := (mkF m 23 #[.val (.long q0), .second, .val (.long i2), .second] [(.long i2)])) rfl (hb hby d8_23) _ ?_
    show Steps p.tables e below (s₁.setTop (mkF m 26 #[.val (.long q0), .second, .val (.long i2), .second] [(.long (2 : Int64)), (.long i2)])) _
    refine XS.lloadN X0.here hx rfl (hb hby d8_26) rfl ?_
    show Steps p.tables e below (s₁.setTop (mkF m 27 #[.val (.long q0), .second, .val (.long i2), .second] [(.long q0), (.long (2 : Int64)), (.long i2)])) _
    refine XS.lloadN X0.here hx rfl (hb hby d8_27) rfl ?_
    show Steps p.tables e below (s₁.setTop (mkF m 28 #[.val (.long q0), .second, .val (.long i2), .second] [(.long i2), (.long q0), (.long (2 : Int64)), (.long i2)])) _
    refine XS.lmul X0.here hx rfl (hb hby d8_28) rfl ?_
    show Steps p.tables e below (s₁.setTop (mkF m 29 #[.val (.long q0), .second, .val (.long i2), .second] [(.long (q0 * i2)), (.long (2 : Int64)), (.long i2)])) _
    refine XS.lsub X0.here hx rfl (hb hby d8_29) rfl ?_
    show Steps p.tables e below (s₁.setTop (mkF m 30 #[.val (.long q0), .second, .val (.long i2), .second] [(.long ((2 : Int64) - (q0 * i2))), (.long i2)])) _
    refine XS.lmul X0.here hx rfl (hb hby d8_30) rfl ?_
    show Steps p.tables e below (s₁.setTop (mkF m 31 #[.val (.long q0), .second, .val (.long i2), .second] [(.long (i2 * ((2 : Int64) - (q0 * i2))))])) _
    refine XS.lstoreN X0.here hx rfl (hb hby d8_31) rfl (l' := #[.val (.long q0), .second, .val (.long (i2 * ((2 : Int64) - (q0 * i2)))), .second]) rfl ?_
    exact kt
  obtain ⟨i4, h_i4⟩ : ∃ z : Int64, z = (i3 * ((2 : Int64) - (q0 * i3))) := ⟨_, rfl⟩
  refine own_go (S' := s₁.setTop (mkF m 42 #[.val (.long q0), .second, .val (.long i4), .second] [])) (fun target kt => ?_) ?_
  · subst h_i4
    show Steps p.tables e below (s₁.setTop (mkF m 32 #[.val (.long q0), .second, .val (.long i3), .second] [])) _
    refine XS.lloadN X0.here hx rfl (hb hby d8_32) rfl ?_
    show Steps p.tables e below (s₁.setTop (mkF m 33 #[.val (.long q0), .second, .val (.long i3), .second] [(.long i3)])) _
    refine X0.ldc2Long hx hown (mvT hZ (hw _ (List.mem_of_getElem? (i := 53) rfl))) (g := (mkF m 33 #[.val (.long q0), .second, .val (.long i3), .second] [(.long i3)])) rfl (hb hby d8_33) _ ?_
    show Steps p.tables e below (s₁.setTop (mkF m 36 #[.val (.long q0), .second, .val (.long i3), .second] [(.long (2 : Int64)), (.long i3)])) _
    refine XS.lloadN X0.here hx rfl (hb hby d8_36) rfl ?_
    show Steps p.tables e below (s₁.setTop (mkF m 37 #[.val (.long q0), .second, .val (.long i3), .second] [(.long q0), (.long (2 : Int64)), (.long i3)])) _
    refine XS.lloadN X0.here hx rfl (hb hby d8_37) rfl ?_
    show Steps p.tables e below (s₁.setTop (mkF m 38 #[.val (.long q0), .second, .val (.long i3), .second] [(.long i3), (.long q0), (.long (2 : Int64)), (.long i3)])) _
    refine XS.lmul X0.here hx rfl (hb hby d8_38) rfl ?_
    show Steps p.tables e below (s₁.setTop (mkF m 39 #[.val (.long q0), .second, .val (.long i3), .second] [(.long (q0 * i3)), (.long (2 : Int64)), (.long i3)])) _
    refine XS.lsub X0.here hx rfl (hb hby d8_39) rfl ?_
    show Steps p.tables e below (s₁.setTop (mkF m 40 #[.val (.long q0), .second, .val (.long i3), .second] [(.long ((2 : Int64) - (q0 * i3))), (.long i3)])) _
    refine XS.lmul X0.here hx rfl (hb hby d8_40) rfl ?_
    show Steps p.tables e below (s₁.setTop (mkF m 41 #[.val (.long q0), .second, .val (.long i3), .second] [(.long (i3 * ((2 : Int64) - (q0 * i3))))])) _
    refine XS.lstoreN X0.here hx rfl (hb hby d8_41) rfl (l' := #[.val (.long q0), .second, .val (.long (i3 * ((2 : Int64) - (q0 * i3)))), .second]) rfl ?_
    exact kt
  obtain ⟨i5, h_i5⟩ : ∃ z : Int64, z = (i4 * ((2 : Int64) - (q0 * i4))) := ⟨_, rfl⟩
  refine own_go (S' := s₁.setTop (mkF m 52 #[.val (.long q0), .second, .val (.long i5), .second] [])) (fun target kt => ?_) ?_
  · subst h_i5
    show Steps p.tables e below (s₁.setTop (mkF m 42 #[.val (.long q0), .second, .val (.long i4), .second] [])) _
    refine XS.lloadN X0.here hx rfl (hb hby d8_42) rfl ?_
    show Steps p.tables e below (s₁.setTop (mkF m 43 #[.val (.long q0), .second, .val (.long i4), .second] [(.long i4)])) _
    refine X0.ldc2Long hx hown (mvT hZ (hw _ (List.mem_of_getElem? (i := 53) rfl))) (g := (mkF m 43 #[.val (.long q0), .second, .val (.long i4), .second] [(.long i4)])) rfl (hb hby d8_43) _ ?_
    show Steps p.tables e below (s₁.setTop (mkF m 46 #[.val (.long q0), .second, .val (.long i4), .second] [(.long (2 : Int64)), (.long i4)])) _
    refine XS.lloadN X0.here hx rfl (hb hby d8_46) rfl ?_
    show Steps p.tables e below (s₁.setTop (mkF m 47 #[.val (.long q0), .second, .val (.long i4), .second] [(.long q0), (.long (2 : Int64)), (.long i4)])) _
    refine XS.lloadN X0.here hx rfl (hb hby d8_47) rfl ?_
    show Steps p.tables e below (s₁.setTop (mkF m 48 #[.val (.long q0), .second, .val (.long i4), .second] [(.long i4), (.long q0), (.long (2 : Int64)), (.long i4)])) _
    refine XS.lmul X0.here hx rfl (hb hby d8_48) rfl ?_
    show Steps p.tables e below (s₁.setTop (mkF m 49 #[.val (.long q0), .second, .val (.long i4), .second] [(.long (q0 * i4)), (.long (2 : Int64)), (.long i4)])) _
    refine XS.lsub X0.here hx rfl (hb hby d8_49) rfl ?_
    show Steps p.tables e below (s₁.setTop (mkF m 50 #[.val (.long q0), .second, .val (.long i4), .second] [(.long ((2 : Int64) - (q0 * i4))), (.long i4)])) _
    refine XS.lmul X0.here hx rfl (hb hby d8_50) rfl ?_
    show Steps p.tables e below (s₁.setTop (mkF m 51 #[.val (.long q0), .second, .val (.long i4), .second] [(.long (i4 * ((2 : Int64) - (q0 * i4))))])) _
    refine XS.lstoreN X0.here hx rfl (hb hby d8_51) rfl (l' := #[.val (.long q0), .second, .val (.long (i4 * ((2 : Int64) - (q0 * i4)))), .second]) rfl ?_
    exact kt
  refine own_go (S' := s₁.setTop (mkF m 53 #[.val (.long q0), .second, .val (.long i5), .second] [(.long i5)])) (fun target kt => ?_) ?_
  · skip
    show Steps p.tables e below (s₁.setTop (mkF m 52 #[.val (.long q0), .second, .val (.long i5), .second] [])) _
    refine XS.lloadN X0.here hx rfl (hb hby d8_52) rfl ?_
    exact kt
  obtain ⟨fs, hr, hrun, hended, hW, hsame⟩ := X0.leave (v := some (.long i5)) (fun h => by rw [Bd.returns] at h; cases h)
  refine ⟨_, _, ?_, hrun, hended, _, _, rfl, ?_, ⟨_, rfl⟩, hW, hsame.mono (by decide) (by decide)⟩
  · exact retL X0 hx Bd.returns (hb hby d8_53) hr
  · show Q8 Z q0 h0 n0 _ s₁.heap _
    rw [e0]
    exact ⟨(by subst h_i1 h_i2 h_i3 h_i4 h_i5; (first | rfl | (simp only [own_inverse]; done) | (simp [own_inverse]; done))), N0, rfl⟩
theorem d7_0 : decode method_3_code 0 = .ok (.lload_n 0, 1) := by decide +kernel
theorem d7_1 : decode method_3_code 1 = .ok (.lload_n 0, 1) := by decide +kernel
theorem d7_2 : decode method_3_code 2 = .ok (.iload 8, 2) := by decide +kernel
theorem d7_4 : decode method_3_code 4 = .ok (.lushr, 1) := by decide +kernel
theorem d7_5 : decode method_3_code 5 = .ok (.lxor, 1) := by decide +kernel
theorem d7_6 : decode method_3_code 6 = .ok (.lstore 9, 2) := by decide +kernel
theorem d7_8 : decode method_3_code 8 = .ok (.lload 9, 2) := by decide +kernel
theorem d7_10 : decode method_3_code 10 = .ok (.lload 4, 2) := by decide +kernel
theorem d7_12 : decode method_3_code 12 = .ok (.invokestatic 32, 3) := by decide +kernel
theorem d7_15 : decode method_3_code 15 = .ok (.lmul, 1) := by decide +kernel
theorem d7_16 : decode method_3_code 16 = .ok (.lload 6, 2) := by decide +kernel
theorem d7_18 : decode method_3_code 18 = .ok (.land, 1) := by decide +kernel
theorem d7_19 : decode method_3_code 19 = .ok (.lstore 9, 2) := by decide +kernel
theorem d7_21 : decode method_3_code 21 = .ok (.lload 9, 2) := by decide +kernel
theorem d7_23 : decode method_3_code 23 = .ok (.lload_n 2, 1) := by decide +kernel
theorem d7_24 : decode method_3_code 24 = .ok (.lsub, 1) := by decide +kernel
theorem d7_25 : decode method_3_code 25 = .ok (.lload 6, 2) := by decide +kernel
theorem d7_27 : decode method_3_code 27 = .ok (.land, 1) := by decide +kernel
theorem d7_28 : decode method_3_code 28 = .ok (.lreturn, 1) := by decide +kernel
theorem own_pd0 : parseMethodDescriptor "(J)J" = some ⟨[.long], some .long⟩ := by decide +kernel
def own_undo (q0 : Int64) (q1 : Int64) (q2 : Int64) (q3 : Int64) (p4 : Int32) : Int64 := let y1 : Int64 := (q0 ^^^ (own_ushrL q0 p4)); let y2 : Int64 := ((y1 * (own_inverse q2)) &&& q3); ((y2 - q1) &&& q3)
set_option maxHeartbeats 40000000 in
theorem own_ef_rm7 (m : MethodId) (x0 : Int64) (x1 : Int64) (x2 : Int64) (x3 : Int64) (x4 : Int32) : entryFrame m #[(.long x0), (.long x1), (.long x2), (.long x3), (.int x4)] 11 = mkF m 0 #[.val (.long x0), .second, .val (.long x1), .second, .val (.long x2), .second, .val (.long x3), .second, .val (.int x4), .unset, .unset] [] := by first | (simp [entryFrame, mkF, argsToLocals, Value.category]; done) | rfl
def Q7 (Z : State) (q0 : Int64) (q1 : Int64) (q2 : Int64) (q3 : Int64) (p4 : Int32) (h0 : Heap) (n0 : Nat) (v : Option Value) (h : Heap) (L : List Loc) : Prop := v = some (.long (own_undo q0 q1 q2 q3 p4)) ∧ Fr n0 L ∧ h = h0
set_option maxRecDepth 65536 in
set_option maxHeartbeats 40000000 in
theorem rm7 (l : Launch) (Z : State) (aZ : Array Value) (hw : ∀ d ∈ tables_1, d.before aZ Z = true) (ws : List Jvm.Cond) (q0 : Int64) (q1 : Int64) (q2 : Int64) (q3 : Int64) (p4 : Int32) (h0 : Heap) (n0 : Nat) (Z0 : n0 ≤ h0.size) :
    MetFree l (⟨"com/example/graphcrate/graphcrate/generate/VertexRenamingRenamePinLaw", "undo", "(JJJJI)J"⟩ : MethodName) (head1 (Jvm.Cond.code (⟨"com/example/graphcrate/graphcrate/generate/VertexRenamingRenamePinLaw", "undo", "(JJJJI)J"⟩ : MethodName) method_3_code 11 (some .long) :: ws) ({ frames := 1, cells := 0, slots := 0, locals := 17 } : Room)) (fun a U => a = #[(.long q0), (.long q1), (.long q2), (.long q3), (.int p4)] ∧ Z.Warmed39 U.vm ∧ U.heap = h0) (fun _ _ _ _ _ => True) (fun _ U o U' => ∃ v L, o = .returned v ∧ Q7 Z q0 q1 q2 q3 p4 h0 n0 v U'.heap L ∧ FrameEnd U o U' L ({ frames := 1, cells := 0, slots := 0, locals := 17 } : Room).cells ({ frames := 1, cells := 0, slots := 0, locals := 17 } : Room).slots) := by
  refine MetFree.of_bodySF (plainFor_of_name own_pn1) hisR ?_
  intro p e s m args below meth c s₁ Bd hml0 hP hK
  obtain ⟨rfl, hZ, hh⟩ := hP
  have hx := Bd.exec
  have hby := Bd.bytes
  have hml : c.maxLocals = 11 := hml0
  have hown : s.vm.findClass "com/example/graphcrate/graphcrate/generate/VertexRenamingRenamePinLaw" = some m.cls := findClass_of_methodNamed Bd.named
  have hnm := (name_of_methodNamed Bd.named Bd.method).1
  have X0 : Stand p l e ({ frames := 1, cells := 0, slots := 0, locals := 17 } : Room) s m #[(.long q0), (.long q1), (.long q2), (.long q3), (.int p4)] below meth c s₁ [] 0 0 := Stand.of_body Bd
  have e0 : s₁.heap = h0 := by rw [← hh, Bd.state]; rfl
  have N0 := Fr.nil n0
  refine own_go (S' := s₁.setTop (mkF m 0 #[.val (.long q0), .second, .val (.long q1), .second, .val (.long q2), .second, .val (.long q3), .second, .val (.int p4), .unset, .unset] [])) (fun t k => castTop (own_ef_rm7 m q0 q1 q2 q3 p4) k) ?_
  obtain ⟨y1, h_y1⟩ : ∃ z : Int64, z = (q0 ^^^ (own_ushrL q0 p4)) := ⟨_, rfl⟩
  refine own_go (S' := s₁.setTop (mkF m 8 #[.val (.long q0), .second, .val (.long q1), .second, .val (.long q2), .second, .val (.long q3), .second, .val (.int p4), .val (.long y1), .second] [])) (fun target kt => ?_) ?_
  · subst h_y1
    show Steps p.tables e below (s₁.setTop (mkF m 0 #[.val (.long q0), .second, .val (.long q1), .second, .val (.long q2), .second, .val (.long q3), .second, .val (.int p4), .unset, .unset] [])) _
    refine XS.lloadN X0.here hx rfl (hb hby d7_0) rfl ?_
    show Steps p.tables e below (s₁.setTop (mkF m 1 #[.val (.long q0), .second, .val (.long q1), .second, .val (.long q2), .second, .val (.long q3), .second, .val (.int p4), .unset, .unset] [(.long q0)])) _
    refine XS.lloadN X0.here hx rfl (hb hby d7_1) rfl ?_
    show Steps p.tables e below (s₁.setTop (mkF m 2 #[.val (.long q0), .second, .val (.long q1), .second, .val (.long q2), .second, .val (.long q3), .second, .val (.int p4), .unset, .unset] [(.long q0), (.long q0)])) _
    refine XS.iload X0.here hx rfl (hb hby d7_2) rfl ?_
    show Steps p.tables e below (s₁.setTop (mkF m 4 #[.val (.long q0), .second, .val (.long q1), .second, .val (.long q2), .second, .val (.long q3), .second, .val (.int p4), .unset, .unset] [(.int p4), (.long q0), (.long q0)])) _
    refine XS.lushr X0.here hx rfl (hb hby d7_4) rfl ?_
    show Steps p.tables e below (s₁.setTop (mkF m 5 #[.val (.long q0), .second, .val (.long q1), .second, .val (.long q2), .second, .val (.long q3), .second, .val (.int p4), .unset, .unset] [(.long (own_ushrL q0 p4)), (.long q0)])) _
    refine XS.lxor X0.here hx rfl (hb hby d7_5) rfl ?_
    show Steps p.tables e below (s₁.setTop (mkF m 6 #[.val (.long q0), .second, .val (.long q1), .second, .val (.long q2), .second, .val (.long q3), .second, .val (.int p4), .unset, .unset] [(.long (q0 ^^^ (own_ushrL q0 p4)))])) _
    refine XS.lstore X0.here hx rfl (hb hby d7_6) rfl (l' := #[.val (.long q0), .second, .val (.long q1), .second, .val (.long q2), .second, .val (.long q3), .second, .val (.int p4), .val (.long (q0 ^^^ (own_ushrL q0 p4))), .second]) rfl ?_
    exact kt
  refine own_go (S' := s₁.setTop (mkF m 12 #[.val (.long q0), .second, .val (.long q1), .second, .val (.long q2), .second, .val (.long q3), .second, .val (.int p4), .val (.long y1), .second] [(.long q2), (.long y1)])) (fun target kt => ?_) ?_
  · skip
    show Steps p.tables e below (s₁.setTop (mkF m 8 #[.val (.long q0), .second, .val (.long q1), .second, .val (.long q2), .second, .val (.long q3), .second, .val (.int p4), .val (.long y1), .second] [])) _
    refine XS.lload X0.here hx rfl (hb hby d7_8) rfl ?_
    show Steps p.tables e below (s₁.setTop (mkF m 10 #[.val (.long q0), .second, .val (.long q1), .second, .val (.long q2), .second, .val (.long q3), .second, .val (.int p4), .val (.long y1), .second] [(.long y1)])) _
    refine XS.lload X0.here hx rfl (hb hby d7_10) rfl ?_
    exact kt
  obtain ⟨_, _, ⟨T1, L1, k1, n1⟩, -, X1, ⟨Lc1, hQ1, l1, y1, z1⟩, st1⟩ := Jvm.LawKit.callS X0 hx (y := (⟨"com/example/graphcrate/graphcrate/generate/VertexRenamingRenamePinLaw", "inverse", "(J)J"⟩ : MethodName)) hown (mvT hZ (hw _ (List.mem_of_getElem? (i := 50) rfl))) (mvT hZ (hw _ (List.mem_of_getElem? (i := 51) rfl))) (mvT hZ (hw _ (List.mem_of_getElem? (i := 48) rfl))) (mvT hZ (hw _ (List.mem_of_getElem? (i := 52) rfl))) (by decide) (backOf (W := 2) (rm8 l Z aZ hw [] q2 h0 n0 Z0 ) hZ (hw _ (List.mem_of_getElem? (i := 52) rfl)) (hw _ (List.mem_of_getElem? (i := 48) rfl)) (by decide) (by decide)) (g := (mkF m 12 #[.val (.long q0), .second, .val (.long q1), .second, .val (.long q2), .second, .val (.long q3), .second, .val (.int p4), .val (.long y1), .second] [(.long q2), (.long y1)])) rfl (by rw [hml]; rfl) (argsL := [(.long q2)]) (rest := [(.long y1)]) (lenOf own_pd0 rfl) rfl (by show 2 * 0 + _ ≤ _; exact Nat.le_of_eq rfl) (hb hby d7_12) (fun _ _ => ⟨rfl, e0, (by decide : 0 + 0 ≤ _), (by decide : 0 + 0 ≤ _)⟩)
  dsimp only [Pt.U, Pt.locs, Pt.cells, Pt.slots] at X1 l1 y1 z1 st1 hQ1
  subst l1 y1 z1
  obtain ⟨rfl, N1q, e1⟩ := hQ1
  have N1 := Fr.app N0 N1q
  refine own_go (S' := T1.setTop (mkF m 15 #[.val (.long q0), .second, .val (.long q1), .second, .val (.long q2), .second, .val (.long q3), .second, .val (.int p4), .val (.long y1), .second] [(.long (own_inverse q2)), (.long y1)])) st1 ?_
  obtain ⟨y2, h_y2⟩ : ∃ z : Int64, z = ((y1 * (own_inverse q2)) &&& q3) := ⟨_, rfl⟩
  refine own_go (S' := T1.setTop (mkF m 21 #[.val (.long q0), .second, .val (.long q1), .second, .val (.long q2), .second, .val (.long q3), .second, .val (.int p4), .val (.long y2), .second] [])) (fun target kt => ?_) ?_
  · subst h_y2
    show Steps p.tables e below (T1.setTop (mkF m 15 #[.val (.long q0), .second, .val (.long q1), .second, .val (.long q2), .second, .val (.long q3), .second, .val (.int p4), .val (.long y1), .second] [(.long (own_inverse q2)), (.long y1)])) _
    refine XS.lmul X1.here hx rfl (hb hby d7_15) rfl ?_
    show Steps p.tables e below (T1.setTop (mkF m 16 #[.val (.long q0), .second, .val (.long q1), .second, .val (.long q2), .second, .val (.long q3), .second, .val (.int p4), .val (.long y1), .second] [(.long (y1 * (own_inverse q2)))])) _
    refine XS.lload X1.here hx rfl (hb hby d7_16) rfl ?_
    show Steps p.tables e below (T1.setTop (mkF m 18 #[.val (.long q0), .second, .val (.long q1), .second, .val (.long q2), .second, .val (.long q3), .second, .val (.int p4), .val (.long y1), .second] [(.long q3), (.long (y1 * (own_inverse q2)))])) _
    refine XS.land X1.here hx rfl (hb hby d7_18) rfl ?_
    show Steps p.tables e below (T1.setTop (mkF m 19 #[.val (.long q0), .second, .val (.long q1), .second, .val (.long q2), .second, .val (.long q3), .second, .val (.int p4), .val (.long y1), .second] [(.long ((y1 * (own_inverse q2)) &&& q3))])) _
    refine XS.lstore X1.here hx rfl (hb hby d7_19) rfl (l' := #[.val (.long q0), .second, .val (.long q1), .second, .val (.long q2), .second, .val (.long q3), .second, .val (.int p4), .val (.long ((y1 * (own_inverse q2)) &&& q3)), .second]) rfl ?_
    exact kt
  refine own_go (S' := T1.setTop (mkF m 28 #[.val (.long q0), .second, .val (.long q1), .second, .val (.long q2), .second, .val (.long q3), .second, .val (.int p4), .val (.long y2), .second] [(.long ((y2 - q1) &&& q3))])) (fun target kt => ?_) ?_
  · skip
    show Steps p.tables e below (T1.setTop (mkF m 21 #[.val (.long q0), .second, .val (.long q1), .second, .val (.long q2), .second, .val (.long q3), .second, .val (.int p4), .val (.long y2), .second] [])) _
    refine XS.lload X1.here hx rfl (hb hby d7_21) rfl ?_
    show Steps p.tables e below (T1.setTop (mkF m 23 #[.val (.long q0), .second, .val (.long q1), .second, .val (.long q2), .second, .val (.long q3), .second, .val (.int p4), .val (.long y2), .second] [(.long y2)])) _
    refine XS.lloadN X1.here hx rfl (hb hby d7_23) rfl ?_
    show Steps p.tables e below (T1.setTop (mkF m 24 #[.val (.long q0), .second, .val (.long q1), .second, .val (.long q2), .second, .val (.long q3), .second, .val (.int p4), .val (.long y2), .second] [(.long q1), (.long y2)])) _
    refine XS.lsub X1.here hx rfl (hb hby d7_24) rfl ?_
    show Steps p.tables e below (T1.setTop (mkF m 25 #[.val (.long q0), .second, .val (.long q1), .second, .val (.long q2), .second, .val (.long q3), .second, .val (.int p4), .val (.long y2), .second] [(.long (y2 - q1))])) _
    refine XS.lload X1.here hx rfl (hb hby d7_25) rfl ?_
    show Steps p.tables e below (T1.setTop (mkF m 27 #[.val (.long q0), .second, .val (.long q1), .second, .val (.long q2), .second, .val (.long q3), .second, .val (.int p4), .val (.long y2), .second] [(.long q3), (.long (y2 - q1))])) _
    refine XS.land X1.here hx rfl (hb hby d7_27) rfl ?_
    exact kt
  obtain ⟨fs, hr, hrun, hended, hW, hsame⟩ := X1.leave (v := some (.long ((y2 - q1) &&& q3))) (fun h => by rw [Bd.returns] at h; cases h)
  refine ⟨_, _, ?_, hrun, hended, _, _, rfl, ?_, ⟨_, rfl⟩, hW, hsame.mono (by decide) (by decide)⟩
  · exact retL X1 hx Bd.returns (hb hby d7_28) hr
  · show Q7 Z q0 q1 q2 q3 p4 h0 n0 _ T1.heap _
    rw [e1]
    exact ⟨(by subst h_y1 h_y2; (first | rfl | (simp only [own_undo]; done) | (simp [own_undo]; done))), N1, rfl⟩
theorem d1_0 : decode prog_29_method_1_code 0 = .ok (.aload_n 0, 1) := by decide +kernel
theorem d1_1 : decode prog_29_method_1_code 1 = .ok (.invokespecial 1, 3) := by decide +kernel
theorem d1_4 : decode prog_29_method_1_code 4 = .ok (.aload_n 0, 1) := by decide +kernel
theorem d1_5 : decode prog_29_method_1_code 5 = .ok (.lload_n 1, 1) := by decide +kernel
theorem d1_6 : decode prog_29_method_1_code 6 = .ok (.putfield 7, 3) := by decide +kernel
theorem d1_9 : decode prog_29_method_1_code 9 = .ok (.return_, 1) := by decide +kernel
theorem own_pd1 : parseMethodDescriptor "()V" = some ⟨[], none⟩ := by decide +kernel
set_option maxHeartbeats 40000000 in
theorem own_ef_rm1 (m : MethodId) (x0 : Addr) (x1 : Int64) : entryFrame m #[(.ref x0), (.long x1)] 3 = mkF m 0 #[.val (.ref x0), .val (.long x1), .second] [] := by first | (simp [entryFrame, mkF, argsToLocals, Value.category]; done) | rfl
def Q1 (Z : State) (a0 : Addr) (q1 : Int64) (h0 : Heap) (n0 : Nat) (v : Option Value) (h : Heap) (L : List Loc) : Prop := v = none ∧ Fr n0 L ∧ Keep h0 h [a0] ∧ Exa Z h a0 "com/example/graphcrate/graphcrate/generate/SplitMix64" ∧ Fld Z h a0 "com/example/graphcrate/graphcrate/generate/SplitMix64" "counter" "J" (.long q1)
set_option maxRecDepth 65536 in
set_option maxHeartbeats 40000000 in
theorem rm1 (l : Launch) (Z : State) (aZ : Array Value) (hw : ∀ d ∈ tables_1, d.before aZ Z = true) (ws : List Jvm.Cond) (a0 : Addr) (q1 : Int64) (h0 : Heap) (n0 : Nat) (Z0 : n0 ≤ h0.size) (pf0 : Exa Z h0 a0 "com/example/graphcrate/graphcrate/generate/SplitMix64") (pf1 : Fld Z h0 a0 "com/example/graphcrate/graphcrate/generate/SplitMix64" "counter" "J" (.long (0 : Int64))) (g_a0 : n0 ≤ a0) :
    MetFree l (⟨"com/example/graphcrate/graphcrate/generate/SplitMix64", "<init>", "(J)V"⟩ : MethodName) (head1 (Jvm.Cond.code (⟨"com/example/graphcrate/graphcrate/generate/SplitMix64", "<init>", "(J)V"⟩ : MethodName) prog_29_method_1_code 3 none :: ws) ({ frames := 1, cells := 0, slots := 0, locals := 12 } : Room)) (fun a U => a = #[(.ref a0), (.long q1)] ∧ Z.Warmed39 U.vm ∧ U.heap = h0) (fun _ _ _ _ _ => True) (fun _ U o U' => ∃ v L, o = .returned v ∧ Q1 Z a0 q1 h0 n0 v U'.heap L ∧ FrameEnd U o U' L ({ frames := 1, cells := 0, slots := 0, locals := 12 } : Room).cells ({ frames := 1, cells := 0, slots := 0, locals := 12 } : Room).slots) := by
  refine MetFree.of_bodySF (plainFor_of_name own_pn0) hisR ?_
  intro p e s m args below meth c s₁ Bd hml0 hP hK
  obtain ⟨rfl, hZ, hh⟩ := hP
  have hx := Bd.exec
  have hby := Bd.bytes
  have hml : c.maxLocals = 3 := hml0
  have hown : s.vm.findClass "com/example/graphcrate/graphcrate/generate/SplitMix64" = some m.cls := findClass_of_methodNamed Bd.named
  have hnm := (name_of_methodNamed Bd.named Bd.method).1
  have X0 : Stand p l e ({ frames := 1, cells := 0, slots := 0, locals := 12 } : Room) s m #[(.ref a0), (.long q1)] below meth c s₁ [] 0 0 := Stand.of_body Bd
  have e0 : s₁.heap = h0 := by rw [← hh, Bd.state]; rfl
  have N0 := Fr.nil n0
  have K0 : Keep h0 h0 [a0] := Keep.refl h0 _
  refine own_go (S' := s₁.setTop (mkF m 0 #[.val (.ref a0), .val (.long q1), .second] [])) (fun t k => castTop (own_ef_rm1 m a0 q1) k) ?_
  refine own_go (S' := s₁.setTop (mkF m 1 #[.val (.ref a0), .val (.long q1), .second] [(.ref a0)])) (fun target kt => ?_) ?_
  · skip
    show Steps p.tables e below (s₁.setTop (mkF m 0 #[.val (.ref a0), .val (.long q1), .second] [])) _
    refine XS.aloadN X0.here hx rfl (hb hby d1_0) rfl rfl ?_
    exact kt
  obtain ⟨T2, X2, e2, st2⟩ := initO X0 hx hZ hown (hw _ (List.mem_of_getElem? (i := 10) rfl)) (hw _ (List.mem_of_getElem? (i := 11) rfl)) (hw _ (List.mem_of_getElem? (i := 12) rfl)) e0 (g := (mkF m 1 #[.val (.ref a0), .val (.long q1), .second] [(.ref a0)])) rfl (by rw [hml]; rfl) rfl (hb hby d1_1) (by decide) (W := 0) (by show 2 * 0 + _ ≤ _; exact Nat.le_of_eq rfl) (by decide)
  refine own_go (S' := T2.setTop (mkF m 4 #[.val (.ref a0), .val (.long q1), .second] [])) st2 ?_
  refine own_go (S' := T2.setTop (mkF m 6 #[.val (.ref a0), .val (.long q1), .second] [(.long q1), (.ref a0)])) (fun target kt => ?_) ?_
  · skip
    show Steps p.tables e below (T2.setTop (mkF m 4 #[.val (.ref a0), .val (.long q1), .second] [])) _
    refine XS.aloadN X2.here hx rfl (hb hby d1_4) rfl rfl ?_
    show Steps p.tables e below (T2.setTop (mkF m 5 #[.val (.ref a0), .val (.long q1), .second] [(.ref a0)])) _
    refine XS.lloadN X2.here hx rfl (hb hby d1_5) rfl ?_
    exact kt
  obtain ⟨T3, h3, X3, e3, W3, st3⟩ := putF X2 hx hZ hown (host := "") (Or.inl (hw _ (List.mem_of_getElem? (i := 13) rfl))) Via.refl e2 pf1 pf0 (Or.inl (hw _ (List.mem_of_getElem? (i := 14) rfl))) (hw _ (List.mem_of_getElem? (i := 5) rfl)) (ty := .long) (by decide) rfl rfl (g := (mkF m 6 #[.val (.ref a0), .val (.long q1), .second] [(.long q1), (.ref a0)])) rfl rfl (hb hby d1_6)
  have f4 : Exa Z h3 a0 "com/example/graphcrate/graphcrate/generate/SplitMix64" := pf0.wr W3
  have f5 : Fld Z h3 a0 "com/example/graphcrate/graphcrate/generate/SplitMix64" "counter" "J" (.long q1) := pf1.same W3
  have Z3 : n0 ≤ h3.size := Nat.le_trans Z0 (Keep.of_wr W3).1
  have K3 : Keep h0 h3 [a0] := K0.wr W3 (Or.inl (List.mem_of_getElem? (i := 0) rfl))
  have N3 := Fr.snoc X3 N0 g_a0
  refine own_go (S' := T3.setTop (mkF m 9 #[.val (.ref a0), .val (.long q1), .second] [])) st3 ?_
  obtain ⟨fs, hr, hrun, hended, hW, hsame⟩ := X3.leave (v := none) (fun _ => rfl)
  refine ⟨_, _, ?_, hrun, hended, _, _, rfl, ?_, ⟨_, rfl⟩, hW, hsame.mono (by decide) (by decide)⟩
  · exact X3.returnOut hx Bd.returns (hb hby d1_9) hr
  · show Q1 Z a0 q1 h0 n0 _ T3.heap _
    rw [e3]
    exact ⟨rfl, N3, K3, f4, f5⟩
theorem d4_0 : decode prog_29_method_2_code 0 = .ok (.aload_n 0, 1) := by decide +kernel
theorem d4_1 : decode prog_29_method_2_code 1 = .ok (.dup, 1) := by decide +kernel
theorem d4_2 : decode prog_29_method_2_code 2 = .ok (.getfield 7, 3) := by decide +kernel
theorem d4_5 : decode prog_29_method_2_code 5 = .ok (.ldc2_w 13, 3) := by decide +kernel
theorem d4_8 : decode prog_29_method_2_code 8 = .ok (.ladd, 1) := by decide +kernel
theorem d4_9 : decode prog_29_method_2_code 9 = .ok (.putfield 7, 3) := by decide +kernel
theorem d4_12 : decode prog_29_method_2_code 12 = .ok (.aload_n 0, 1) := by decide +kernel
theorem d4_13 : decode prog_29_method_2_code 13 = .ok (.getfield 7, 3) := by decide +kernel
theorem d4_16 : decode prog_29_method_2_code 16 = .ok (.invokestatic 15, 3) := by decide +kernel
theorem d4_19 : decode prog_29_method_2_code 19 = .ok (.lreturn, 1) := by decide +kernel
set_option maxHeartbeats 40000000 in
theorem own_ef_rm4 (m : MethodId) (x0 : Addr) : entryFrame m #[(.ref x0)] 1 = mkF m 0 #[.val (.ref x0)] [] := by first | (simp [entryFrame, mkF, argsToLocals, Value.category]; done) | rfl
def Q4 (Z : State) (a0 : Addr) (w1 : Int64) (h0 : Heap) (n0 : Nat) (v : Option Value) (h : Heap) (L : List Loc) : Prop := v = some (.long (own_mix (w1 + (-7046029254386353131 : Int64)))) ∧ Fr n0 L ∧ Keep h0 h [a0] ∧ Exa Z h a0 "com/example/graphcrate/graphcrate/generate/SplitMix64" ∧ Fld Z h a0 "com/example/graphcrate/graphcrate/generate/SplitMix64" "counter" "J" (.long (w1 + (-7046029254386353131 : Int64)))
set_option maxRecDepth 65536 in
set_option maxHeartbeats 40000000 in
theorem rm4 (l : Launch) (Z : State) (aZ : Array Value) (hw : ∀ d ∈ tables_1, d.before aZ Z = true) (ws : List Jvm.Cond) (a0 : Addr) (w1 : Int64) (h0 : Heap) (n0 : Nat) (Z0 : n0 ≤ h0.size) (pf0 : Exa Z h0 a0 "com/example/graphcrate/graphcrate/generate/SplitMix64") (pf1 : Fld Z h0 a0 "com/example/graphcrate/graphcrate/generate/SplitMix64" "counter" "J" (.long w1)) (g_a0 : n0 ≤ a0) :
    MetFree l (⟨"com/example/graphcrate/graphcrate/generate/SplitMix64", "nextLong", "()J"⟩ : MethodName) (head1 (Jvm.Cond.code (⟨"com/example/graphcrate/graphcrate/generate/SplitMix64", "nextLong", "()J"⟩ : MethodName) prog_29_method_2_code 1 (some .long) :: ws) ({ frames := 1, cells := 0, slots := 0, locals := 15 } : Room)) (fun a U => a = #[(.ref a0)] ∧ Z.Warmed39 U.vm ∧ U.heap = h0) (fun _ _ _ _ _ => True) (fun _ U o U' => ∃ v L, o = .returned v ∧ Q4 Z a0 w1 h0 n0 v U'.heap L ∧ FrameEnd U o U' L ({ frames := 1, cells := 0, slots := 0, locals := 15 } : Room).cells ({ frames := 1, cells := 0, slots := 0, locals := 15 } : Room).slots) := by
  refine MetFree.of_bodySF (plainFor_of_name own_pn0) hisR ?_
  intro p e s m args below meth c s₁ Bd hml0 hP hK
  obtain ⟨rfl, hZ, hh⟩ := hP
  have hx := Bd.exec
  have hby := Bd.bytes
  have hml : c.maxLocals = 1 := hml0
  have hown : s.vm.findClass "com/example/graphcrate/graphcrate/generate/SplitMix64" = some m.cls := findClass_of_methodNamed Bd.named
  have hnm := (name_of_methodNamed Bd.named Bd.method).1
  have X0 : Stand p l e ({ frames := 1, cells := 0, slots := 0, locals := 15 } : Room) s m #[(.ref a0)] below meth c s₁ [] 0 0 := Stand.of_body Bd
  have e0 : s₁.heap = h0 := by rw [← hh, Bd.state]; rfl
  have N0 := Fr.nil n0
  have K0 : Keep h0 h0 [a0] := Keep.refl h0 _
  refine own_go (S' := s₁.setTop (mkF m 0 #[.val (.ref a0)] [])) (fun t k => castTop (own_ef_rm4 m a0) k) ?_
  refine own_go (S' := s₁.setTop (mkF m 2 #[.val (.ref a0)] [(.ref a0), (.ref a0)])) (fun target kt => ?_) ?_
  · skip
    show Steps p.tables e below (s₁.setTop (mkF m 0 #[.val (.ref a0)] [])) _
    refine XS.aloadN X0.here hx rfl (hb hby d4_0) rfl rfl ?_
    show Steps p.tables e below (s₁.setTop (mkF m 1 #[.val (.ref a0)] [(.ref a0)])) _
    refine XS.dup X0.here hx rfl (hb hby d4_1) rfl rfl ?_
    exact kt
  obtain ⟨T6, X6, e6, st6⟩ := getF X0 hx hZ hown (host := "") (Or.inl (hw _ (List.mem_of_getElem? (i := 13) rfl))) Via.refl e0 pf1 (g := (mkF m 2 #[.val (.ref a0)] [(.ref a0), (.ref a0)])) rfl rfl (hb hby d4_2)
  refine own_go (S' := T6.setTop (mkF m 5 #[.val (.ref a0)] [(.long w1), (.ref a0)])) st6 ?_
  refine own_go (S' := T6.setTop (mkF m 9 #[.val (.ref a0)] [(.long (w1 + (-7046029254386353131 : Int64))), (.ref a0)])) (fun target kt => ?_) ?_
  · skip
    show Steps p.tables e below (T6.setTop (mkF m 5 #[.val (.ref a0)] [(.long w1), (.ref a0)])) _
    refine X6.ldc2Long hx hown (mvT hZ (hw _ (List.mem_of_getElem? (i := 34) rfl))) (g := (mkF m 5 #[.val (.ref a0)] [(.long w1), (.ref a0)])) rfl (hb hby d4_5) _ ?_
    show Steps p.tables e below (T6.setTop (mkF m 8 #[.val (.ref a0)] [(.long (-7046029254386353131 : Int64)), (.long w1), (.ref a0)])) _
    refine XS.ladd X6.here hx rfl (hb hby d4_8) rfl ?_
    exact kt
  obtain ⟨T7, h7, X7, e7, W7, st7⟩ := putF X6 hx hZ hown (host := "") (Or.inl (hw _ (List.mem_of_getElem? (i := 13) rfl))) Via.refl e6 pf1 pf0 (Or.inl (hw _ (List.mem_of_getElem? (i := 14) rfl))) (hw _ (List.mem_of_getElem? (i := 5) rfl)) (ty := .long) (by decide) rfl rfl (g := (mkF m 9 #[.val (.ref a0)] [(.long (w1 + (-7046029254386353131 : Int64))), (.ref a0)])) rfl rfl (hb hby d4_9)
  have f8 : Exa Z h7 a0 "com/example/graphcrate/graphcrate/generate/SplitMix64" := pf0.wr W7
  have f9 : Fld Z h7 a0 "com/example/graphcrate/graphcrate/generate/SplitMix64" "counter" "J" (.long (w1 + (-7046029254386353131 : Int64))) := pf1.same W7
  have Z7 : n0 ≤ h7.size := Nat.le_trans Z0 (Keep.of_wr W7).1
  have K7 : Keep h0 h7 [a0] := K0.wr W7 (Or.inl (List.mem_of_getElem? (i := 0) rfl))
  have N7 := Fr.snoc X7 N0 g_a0
  refine own_go (S' := T7.setTop (mkF m 12 #[.val (.ref a0)] [])) st7 ?_
  refine own_go (S' := T7.setTop (mkF m 13 #[.val (.ref a0)] [(.ref a0)])) (fun target kt => ?_) ?_
  · skip
    show Steps p.tables e below (T7.setTop (mkF m 12 #[.val (.ref a0)] [])) _
    refine XS.aloadN X7.here hx rfl (hb hby d4_12) rfl rfl ?_
    exact kt
  obtain ⟨T10, X10, e10, st10⟩ := getF X7 hx hZ hown (host := "") (Or.inl (hw _ (List.mem_of_getElem? (i := 13) rfl))) Via.refl e7 f9 (g := (mkF m 13 #[.val (.ref a0)] [(.ref a0)])) rfl rfl (hb hby d4_13)
  refine own_go (S' := T10.setTop (mkF m 16 #[.val (.ref a0)] [(.long (w1 + (-7046029254386353131 : Int64)))])) st10 ?_
  obtain ⟨_, _, ⟨T11, L11, k11, n11⟩, -, X11, ⟨Lc11, hQ11, l11, y11, z11⟩, st11⟩ := Jvm.LawKit.callS X10 hx (y := (⟨"com/example/graphcrate/graphcrate/generate/SplitMix64", "mix", "(J)J"⟩ : MethodName)) hown (mvT hZ (hw _ (List.mem_of_getElem? (i := 35) rfl))) (mvT hZ (hw _ (List.mem_of_getElem? (i := 36) rfl))) (mvT hZ (hw _ (List.mem_of_getElem? (i := 6) rfl))) (mvT hZ (hw _ (List.mem_of_getElem? (i := 37) rfl))) (by decide) (backOf (W := 0) (rm5 l Z aZ hw [] (w1 + (-7046029254386353131 : Int64)) h7 n0 Z7 ) hZ (hw _ (List.mem_of_getElem? (i := 37) rfl)) (hw _ (List.mem_of_getElem? (i := 6) rfl)) (by decide) (by decide)) (g := (mkF m 16 #[.val (.ref a0)] [(.long (w1 + (-7046029254386353131 : Int64)))])) rfl (by rw [hml]; rfl) (argsL := [(.long (w1 + (-7046029254386353131 : Int64)))]) (rest := []) (lenOf own_pd0 rfl) rfl (by show 2 * 0 + _ ≤ _; exact Nat.le_of_eq rfl) (hb hby d4_16) (fun _ _ => ⟨rfl, e10, (by decide : 0 + 0 ≤ _), (by decide : 0 + 0 ≤ _)⟩)
  dsimp only [Pt.U, Pt.locs, Pt.cells, Pt.slots] at X11 l11 y11 z11 st11 hQ11
  subst l11 y11 z11
  obtain ⟨rfl, N11q, e11⟩ := hQ11
  have N11 := Fr.app N7 N11q
  refine own_go (S' := T11.setTop (mkF m 19 #[.val (.ref a0)] [(.long (own_mix (w1 + (-7046029254386353131 : Int64))))])) st11 ?_
  obtain ⟨fs, hr, hrun, hended, hW, hsame⟩ := X11.leave (v := some (.long (own_mix (w1 + (-7046029254386353131 : Int64))))) (fun h => by rw [Bd.returns] at h; cases h)
  refine ⟨_, _, ?_, hrun, hended, _, _, rfl, ?_, ⟨_, rfl⟩, hW, hsame.mono (by decide) (by decide)⟩
  · exact retL X11 hx Bd.returns (hb hby d4_19) hr
  · show Q4 Z a0 w1 h0 n0 _ T11.heap _
    rw [e11]
    exact ⟨rfl, N11, K7, f8, f9⟩
theorem d3_0 : decode prog_30_method_1_code 0 = .ok (.aload_n 0, 1) := by decide +kernel
theorem d3_1 : decode prog_30_method_1_code 1 = .ok (.invokespecial 1, 3) := by decide +kernel
theorem d3_4 : decode prog_30_method_1_code 4 = .ok (.aload_n 0, 1) := by decide +kernel
theorem d3_5 : decode prog_30_method_1_code 5 = .ok (.iconst 4, 1) := by decide +kernel
theorem d3_6 : decode prog_30_method_1_code 6 = .ok (.newarray .long, 2) := by decide +kernel
theorem d3_8 : decode prog_30_method_1_code 8 = .ok (.putfield 9, 3) := by decide +kernel
theorem d3_11 : decode prog_30_method_1_code 11 = .ok (.aload_n 0, 1) := by decide +kernel
theorem d3_12 : decode prog_30_method_1_code 12 = .ok (.iconst 4, 1) := by decide +kernel
theorem d3_13 : decode prog_30_method_1_code 13 = .ok (.newarray .long, 2) := by decide +kernel
theorem d3_15 : decode prog_30_method_1_code 15 = .ok (.putfield 13, 3) := by decide +kernel
theorem d3_18 : decode prog_30_method_1_code 18 = .ok (.iload_n 1, 1) := by decide +kernel
theorem d3_19 : decode prog_30_method_1_code 19 = .ok (.iconst 1, 1) := by decide +kernel
theorem d3_20 : decode prog_30_method_1_code 20 = .ok (.if_icmp .lt 9, 3) := by decide +kernel
theorem d3_23 : decode prog_30_method_1_code 23 = .ok (.iload_n 1, 1) := by decide +kernel
theorem d3_24 : decode prog_30_method_1_code 24 = .ok (.bipush 62, 2) := by decide +kernel
theorem d3_26 : decode prog_30_method_1_code 26 = .ok (.if_icmp .le 17, 3) := by decide +kernel
theorem d3_29 : decode prog_30_method_1_code 29 = .ok (.new 16, 3) := by decide +kernel
theorem d3_32 : decode prog_30_method_1_code 32 = .ok (.dup, 1) := by decide +kernel
theorem d3_33 : decode prog_30_method_1_code 33 = .ok (.iload_n 1, 1) := by decide +kernel
theorem d3_34 : decode prog_30_method_1_code 34 = .ok (.invokedynamic 18, 5) := by decide +kernel
theorem d3_39 : decode prog_30_method_1_code 39 = .ok (.invokespecial 22, 3) := by decide +kernel
theorem d3_42 : decode prog_30_method_1_code 42 = .ok (.athrow, 1) := by decide +kernel
theorem d3_43 : decode prog_30_method_1_code 43 = .ok (.aload_n 0, 1) := by decide +kernel
theorem d3_44 : decode prog_30_method_1_code 44 = .ok (.ldc2_w 25, 3) := by decide +kernel
theorem d3_47 : decode prog_30_method_1_code 47 = .ok (.bipush 64, 2) := by decide +kernel
theorem d3_49 : decode prog_30_method_1_code 49 = .ok (.iload_n 1, 1) := by decide +kernel
theorem d3_50 : decode prog_30_method_1_code 50 = .ok (.isub, 1) := by decide +kernel
theorem d3_51 : decode prog_30_method_1_code 51 = .ok (.lushr, 1) := by decide +kernel
theorem d3_52 : decode prog_30_method_1_code 52 = .ok (.putfield 27, 3) := by decide +kernel
theorem d3_55 : decode prog_30_method_1_code 55 = .ok (.aload_n 0, 1) := by decide +kernel
theorem d3_56 : decode prog_30_method_1_code 56 = .ok (.iload_n 1, 1) := by decide +kernel
theorem d3_57 : decode prog_30_method_1_code 57 = .ok (.iconst 1, 1) := by decide +kernel
theorem d3_58 : decode prog_30_method_1_code 58 = .ok (.iadd, 1) := by decide +kernel
theorem d3_59 : decode prog_30_method_1_code 59 = .ok (.iconst 2, 1) := by decide +kernel
theorem d3_60 : decode prog_30_method_1_code 60 = .ok (.idiv, 1) := by decide +kernel
theorem d3_61 : decode prog_30_method_1_code 61 = .ok (.putfield 31, 3) := by decide +kernel
theorem d3_64 : decode prog_30_method_1_code 64 = .ok (.iconst 0, 1) := by decide +kernel
theorem d3_65 : decode prog_30_method_1_code 65 = .ok (.istore_n 3, 1) := by decide +kernel
theorem d3_66 : decode prog_30_method_1_code 66 = .ok (.iload_n 3, 1) := by decide +kernel
theorem d3_67 : decode prog_30_method_1_code 67 = .ok (.iconst 4, 1) := by decide +kernel
theorem d3_68 : decode prog_30_method_1_code 68 = .ok (.if_icmp .ge 31, 3) := by decide +kernel
theorem d3_71 : decode prog_30_method_1_code 71 = .ok (.aload_n 0, 1) := by decide +kernel
theorem d3_72 : decode prog_30_method_1_code 72 = .ok (.getfield 9, 3) := by decide +kernel
theorem d3_75 : decode prog_30_method_1_code 75 = .ok (.iload_n 3, 1) := by decide +kernel
theorem d3_76 : decode prog_30_method_1_code 76 = .ok (.aload_n 2, 1) := by decide +kernel
theorem d3_77 : decode prog_30_method_1_code 77 = .ok (.invokevirtual 35, 3) := by decide +kernel
theorem d3_80 : decode prog_30_method_1_code 80 = .ok (.lastore, 1) := by decide +kernel
theorem d3_81 : decode prog_30_method_1_code 81 = .ok (.aload_n 0, 1) := by decide +kernel
theorem d3_82 : decode prog_30_method_1_code 82 = .ok (.getfield 13, 3) := by decide +kernel
theorem d3_85 : decode prog_30_method_1_code 85 = .ok (.iload_n 3, 1) := by decide +kernel
theorem d3_86 : decode prog_30_method_1_code 86 = .ok (.aload_n 2, 1) := by decide +kernel
theorem d3_87 : decode prog_30_method_1_code 87 = .ok (.invokevirtual 35, 3) := by decide +kernel
theorem d3_90 : decode prog_30_method_1_code 90 = .ok (.lconst 1, 1) := by decide +kernel
theorem d3_91 : decode prog_30_method_1_code 91 = .ok (.lor, 1) := by decide +kernel
theorem d3_92 : decode prog_30_method_1_code 92 = .ok (.lastore, 1) := by decide +kernel
theorem d3_93 : decode prog_30_method_1_code 93 = .ok (.iinc 3 1, 3) := by decide +kernel
theorem d3_96 : decode prog_30_method_1_code 96 = .ok (.goto (-30), 3) := by decide +kernel
theorem d3_99 : decode prog_30_method_1_code 99 = .ok (.return_, 1) := by decide +kernel
theorem own_pd2 : parseMethodDescriptor "()J" = some ⟨[], some .long⟩ := by decide +kernel
theorem own_pn2 : plainName "com/example/graphcrate/graphcrate/generate/VertexRenaming" = true := by first | (simp [plainName, overriddenIn]; done) | decide +kernel
set_option maxHeartbeats 40000000 in
theorem own_ef_rm3 (m : MethodId) (x0 : Addr) (x1 : Int32) (x2 : Addr) : entryFrame m #[(.ref x0), (.int x1), (.ref x2)] 4 = mkF m 0 #[.val (.ref x0), .val (.int x1), .val (.ref x2), .unset] [] := by first | (simp [entryFrame, mkF, argsToLocals, Value.category]; done) | rfl
def Q3 (Z : State) (a0 : Addr) (p1 : Int32) (a2 : Addr) (w1 : Int64) (h0 : Heap) (n0 : Nat) (v : Option Value) (h : Heap) (L : List Loc) : Prop := ∃ b1 : Addr, ∃ b2 : Addr, v = none ∧ Fr n0 L ∧ Keep h0 h [a0, a2] ∧ Exa Z h a0 "com/example/graphcrate/graphcrate/generate/VertexRenaming" ∧ Fld Z h a0 "com/example/graphcrate/graphcrate/generate/VertexRenaming" "addends" "[J" (.ref b1) ∧ Fld Z h a0 "com/example/graphcrate/graphcrate/generate/VertexRenaming" "multipliers" "[J" (.ref b2) ∧ Fld Z h a0 "com/example/graphcrate/graphcrate/generate/VertexRenaming" "mask" "J" (.long (own_ushrL (-1 : Int64) ((64 : Int32) - p1))) ∧ Fld Z h a0 "com/example/graphcrate/graphcrate/generate/VertexRenaming" "fold" "I" (.int ((p1 + (1 : Int32)) / (2 : Int32))) ∧ own_AJ Z h b1 .long 4 (own_upd (own_upd (own_upd (own_upd (fun _ => 0) 0 (own_mix (w1 + (-7046029254386353131 : Int64)))) 1 (own_mix (((w1 + (-7046029254386353131 : Int64)) + (-7046029254386353131 : Int64)) + (-7046029254386353131 : Int64)))) 2 (own_mix (((((w1 + (-7046029254386353131 : Int64)) + (-7046029254386353131 : Int64)) + (-7046029254386353131 : Int64)) + (-7046029254386353131 : Int64)) + (-7046029254386353131 : Int64)))) 3 (own_mix (((((((w1 + (-7046029254386353131 : Int64)) + (-7046029254386353131 : Int64)) + (-7046029254386353131 : Int64)) + (-7046029254386353131 : Int64)) + (-7046029254386353131 : Int64)) + (-7046029254386353131 : Int64)) + (-7046029254386353131 : Int64)))) ∧ own_AJ Z h b2 .long 4 (own_upd (own_upd (own_upd (own_upd (fun _ => 0) 0 ((own_mix ((w1 + (-7046029254386353131 : Int64)) + (-7046029254386353131 : Int64))) ||| (1 : Int64))) 1 ((own_mix ((((w1 + (-7046029254386353131 : Int64)) + (-7046029254386353131 : Int64)) + (-7046029254386353131 : Int64)) + (-7046029254386353131 : Int64))) ||| (1 : Int64))) 2 ((own_mix ((((((w1 + (-7046029254386353131 : Int64)) + (-7046029254386353131 : Int64)) + (-7046029254386353131 : Int64)) + (-7046029254386353131 : Int64)) + (-7046029254386353131 : Int64)) + (-7046029254386353131 : Int64))) ||| (1 : Int64))) 3 ((own_mix ((((((((w1 + (-7046029254386353131 : Int64)) + (-7046029254386353131 : Int64)) + (-7046029254386353131 : Int64)) + (-7046029254386353131 : Int64)) + (-7046029254386353131 : Int64)) + (-7046029254386353131 : Int64)) + (-7046029254386353131 : Int64)) + (-7046029254386353131 : Int64))) ||| (1 : Int64))) ∧ h0.size ≤ b1 ∧ h0.size ≤ b2
set_option maxRecDepth 65536 in
set_option maxHeartbeats 40000000 in
theorem rm3 (l : Launch) (Z : State) (aZ : Array Value) (hw : ∀ d ∈ tables_1, d.before aZ Z = true) (ws : List Jvm.Cond) (a0 : Addr) (p1 : Int32) (a2 : Addr) (w1 : Int64) (h0 : Heap) (n0 : Nat) (Z0 : n0 ≤ h0.size) (pf0 : Exa Z h0 a0 "com/example/graphcrate/graphcrate/generate/VertexRenaming") (pf1 : Fld Z h0 a0 "com/example/graphcrate/graphcrate/generate/VertexRenaming" "addends" "[J" .null) (pf2 : Fld Z h0 a0 "com/example/graphcrate/graphcrate/generate/VertexRenaming" "multipliers" "[J" .null) (pf3 : Fld Z h0 a0 "com/example/graphcrate/graphcrate/generate/VertexRenaming" "mask" "J" (.long (0 : Int64))) (pf4 : Fld Z h0 a0 "com/example/graphcrate/graphcrate/generate/VertexRenaming" "fold" "I" (.int (0 : Int32))) (pf5 : Exa Z h0 a2 "com/example/graphcrate/graphcrate/generate/SplitMix64") (pf6 : Fld Z h0 a2 "com/example/graphcrate/graphcrate/generate/SplitMix64" "counter" "J" (.long w1)) (g_a0 : n0 ≤ a0) (g_a2 : n0 ≤ a2) (h1 : ¬ p1 < (1 : Int32)) (h2 : ¬ (62 : Int32) < p1) (hne : a0 ≠ a2) :
    MetFree l (⟨"com/example/graphcrate/graphcrate/generate/VertexRenaming", "<init>", "(ILcom/example/graphcrate/graphcrate/generate/SplitMix64;)V"⟩ : MethodName) (head1 (Jvm.Cond.code (⟨"com/example/graphcrate/graphcrate/generate/VertexRenaming", "<init>", "(ILcom/example/graphcrate/graphcrate/generate/SplitMix64;)V"⟩ : MethodName) prog_30_method_1_code 4 none :: ws) ({ frames := 2, cells := 2, slots := 8, locals := 29 } : Room)) (fun a U => a = #[(.ref a0), (.int p1), (.ref a2)] ∧ Z.Warmed39 U.vm ∧ U.heap = h0) (fun _ _ _ _ _ => True) (fun _ U o U' => ∃ v L, o = .returned v ∧ Q3 Z a0 p1 a2 w1 h0 n0 v U'.heap L ∧ FrameEnd U o U' L ({ frames := 2, cells := 2, slots := 8, locals := 29 } : Room).cells ({ frames := 2, cells := 2, slots := 8, locals := 29 } : Room).slots) := by
  refine MetFree.of_bodySF (plainFor_of_name own_pn2) hisR ?_
  intro p e s m args below meth c s₁ Bd hml0 hP hK
  obtain ⟨rfl, hZ, hh⟩ := hP
  have hx := Bd.exec
  have hby := Bd.bytes
  have hml : c.maxLocals = 4 := hml0
  have hown : s.vm.findClass "com/example/graphcrate/graphcrate/generate/VertexRenaming" = some m.cls := findClass_of_methodNamed Bd.named
  have hnm := (name_of_methodNamed Bd.named Bd.method).1
  have X0 : Stand p l e ({ frames := 2, cells := 2, slots := 8, locals := 29 } : Room) s m #[(.ref a0), (.int p1), (.ref a2)] below meth c s₁ [] 0 0 := Stand.of_body Bd
  have e0 : s₁.heap = h0 := by rw [← hh, Bd.state]; rfl
  have N0 := Fr.nil n0
  have K0 : Keep h0 h0 [a0, a2] := Keep.refl h0 _
  refine own_go (S' := s₁.setTop (mkF m 0 #[.val (.ref a0), .val (.int p1), .val (.ref a2), .unset] [])) (fun t k => castTop (own_ef_rm3 m a0 p1 a2) k) ?_
  refine own_go (S' := s₁.setTop (mkF m 1 #[.val (.ref a0), .val (.int p1), .val (.ref a2), .unset] [(.ref a0)])) (fun target kt => ?_) ?_
  · skip
    show Steps p.tables e below (s₁.setTop (mkF m 0 #[.val (.ref a0), .val (.int p1), .val (.ref a2), .unset] [])) _
    refine XS.aloadN X0.here hx rfl (hb hby d3_0) rfl rfl ?_
    exact kt
  obtain ⟨T12, X12, e12, st12⟩ := initO X0 hx hZ hown (hw _ (List.mem_of_getElem? (i := 18) rfl)) (hw _ (List.mem_of_getElem? (i := 11) rfl)) (hw _ (List.mem_of_getElem? (i := 12) rfl)) e0 (g := (mkF m 1 #[.val (.ref a0), .val (.int p1), .val (.ref a2), .unset] [(.ref a0)])) rfl (by rw [hml]; rfl) rfl (hb hby d3_1) (by decide) (W := 0) (by show 2 * 0 + _ ≤ _; exact Nat.le_of_eq rfl) (by decide)
  refine own_go (S' := T12.setTop (mkF m 4 #[.val (.ref a0), .val (.int p1), .val (.ref a2), .unset] [])) st12 ?_
  refine own_go (S' := T12.setTop (mkF m 6 #[.val (.ref a0), .val (.int p1), .val (.ref a2), .unset] [(.int (4 : Int32)), (.ref a0)])) (fun target kt => ?_) ?_
  · skip
    show Steps p.tables e below (T12.setTop (mkF m 4 #[.val (.ref a0), .val (.int p1), .val (.ref a2), .unset] [])) _
    refine XS.aloadN X12.here hx rfl (hb hby d3_4) rfl rfl ?_
    show Steps p.tables e below (T12.setTop (mkF m 5 #[.val (.ref a0), .val (.int p1), .val (.ref a2), .unset] [(.ref a0)])) _
    refine XS.iconst X12.here hx rfl (hb hby d3_5) ?_
    exact kt
  obtain ⟨T13, h13, k13, X13, e13, E13, A13, B13, st13⟩ := newPE X12 hx hZ (hw _ (List.mem_of_getElem? (i := 19) rfl)) e12 (g := (mkF m 6 #[.val (.ref a0), .val (.int p1), .val (.ref a2), .unset] [(.int (4 : Int32)), (.ref a0)])) rfl (hb hby d3_6) rfl (by decide) (cap := 4) (by decide) (by decide) (by decide) (by decide) (ad := "[J") (by decide)
  obtain ⟨b13, g13⟩ : ∃ z, z = h0.size := ⟨_, rfl⟩
  rw [← g13] at A13 B13 st13
  have f14 : Exa Z h13 a0 "com/example/graphcrate/graphcrate/generate/VertexRenaming" := pf0.ext E13
  have f15 : Fld Z h13 a0 "com/example/graphcrate/graphcrate/generate/VertexRenaming" "addends" "[J" .null := pf1.ext E13
  have f16 : Fld Z h13 a0 "com/example/graphcrate/graphcrate/generate/VertexRenaming" "multipliers" "[J" .null := pf2.ext E13
  have f17 : Fld Z h13 a0 "com/example/graphcrate/graphcrate/generate/VertexRenaming" "mask" "J" (.long (0 : Int64)) := pf3.ext E13
  have f18 : Fld Z h13 a0 "com/example/graphcrate/graphcrate/generate/VertexRenaming" "fold" "I" (.int (0 : Int32)) := pf4.ext E13
  have f19 : Exa Z h13 a2 "com/example/graphcrate/graphcrate/generate/SplitMix64" := pf5.ext E13
  have f20 : Fld Z h13 a2 "com/example/graphcrate/graphcrate/generate/SplitMix64" "counter" "J" (.long w1) := pf6.ext E13
  have g_b13 : n0 ≤ b13 := Nat.le_trans Z0 (Nat.le_of_eq g13.symm)
  have sz_b13 : h0.size ≤ b13 := Nat.le_trans K0.1 (Nat.le_of_eq g13.symm)
  have ne_a0_b13 : a0 ≠ b13 := Nat.ne_of_lt (Nat.lt_of_lt_of_le pf0.lt (Nat.le_of_eq g13.symm))
  have ne_a2_b13 : a2 ≠ b13 := Nat.ne_of_lt (Nat.lt_of_lt_of_le pf5.lt (Nat.le_of_eq g13.symm))
  have Z13 : n0 ≤ h13.size := Nat.le_trans Z0 E13.1
  have K13 : Keep h0 h13 [a0, a2] := K0.ext E13
  have f21 : own_AJ Z h13 b13 .long 4 (fun _ => 0) := own_AJ.fresh A13 rfl
  refine own_go (S' := T13.setTop (mkF m 8 #[.val (.ref a0), .val (.int p1), .val (.ref a2), .unset] [(.ref b13), (.ref a0)])) st13 ?_
  obtain ⟨T22, h22, X22, e22, W22, st22⟩ := putF X13 hx hZ hown (host := "") (Or.inl (hw _ (List.mem_of_getElem? (i := 20) rfl))) Via.refl e13 f15 f14 (Or.inr ⟨(hw _ (List.mem_of_getElem? (i := 21) rfl)), rfl, hnm⟩) (hw _ (List.mem_of_getElem? (i := 2) rfl)) (ty := (.array .long)) (by decide) rfl rfl (g := (mkF m 8 #[.val (.ref a0), .val (.int p1), .val (.ref a2), .unset] [(.ref b13), (.ref a0)])) rfl rfl (hb hby d3_8)
  have f23 : Exa Z h22 a0 "com/example/graphcrate/graphcrate/generate/VertexRenaming" := f14.wr W22
  have f24 : Fld Z h22 a0 "com/example/graphcrate/graphcrate/generate/VertexRenaming" "multipliers" "[J" .null := f16.other W22 (Or.inr (slot_ne (Or.inr (hw _ (List.mem_of_getElem? (i := 23) rfl))) (Or.inr (hw _ (List.mem_of_getElem? (i := 21) rfl))) (by decide) (t := (.array .long)) (t' := (.array .long)) (by decide) (by decide)))
  have f25 : Fld Z h22 a0 "com/example/graphcrate/graphcrate/generate/VertexRenaming" "mask" "J" (.long (0 : Int64)) := f17.other W22 (Or.inr (slot_ne (Or.inr (hw _ (List.mem_of_getElem? (i := 26) rfl))) (Or.inr (hw _ (List.mem_of_getElem? (i := 21) rfl))) (by decide) (t := .long) (t' := (.array .long)) (by decide) (by decide)))
  have f26 : Fld Z h22 a0 "com/example/graphcrate/graphcrate/generate/VertexRenaming" "fold" "I" (.int (0 : Int32)) := f18.other W22 (Or.inr (slot_ne (Or.inr (hw _ (List.mem_of_getElem? (i := 28) rfl))) (Or.inr (hw _ (List.mem_of_getElem? (i := 21) rfl))) (by decide) (t := .int) (t' := (.array .long)) (by decide) (by decide)))
  have f27 : Exa Z h22 a2 "com/example/graphcrate/graphcrate/generate/SplitMix64" := f19.wr W22
  have f28 : Fld Z h22 a2 "com/example/graphcrate/graphcrate/generate/SplitMix64" "counter" "J" (.long w1) := f20.other W22 (Or.inl (Ne.symm hne))
  have f29 : own_AJ Z h22 b13 .long 4 (fun _ => 0) := f21.other W22 (Ne.symm ne_a0_b13)
  have f30 : Exa Z h22 b13 "[J" := B13.wr W22
  have f31 : Fld Z h22 a0 "com/example/graphcrate/graphcrate/generate/VertexRenaming" "addends" "[J" (.ref b13) := f15.same W22
  have Z22 : n0 ≤ h22.size := Nat.le_trans Z13 (Keep.of_wr W22).1
  have K22 : Keep h0 h22 [a0, a2] := K13.wr W22 (Or.inl (List.mem_of_getElem? (i := 0) rfl))
  have N22 := Fr.snoc X22 N0 g_a0
  refine own_go (S' := T22.setTop (mkF m 11 #[.val (.ref a0), .val (.int p1), .val (.ref a2), .unset] [])) st22 ?_
  refine own_go (S' := T22.setTop (mkF m 13 #[.val (.ref a0), .val (.int p1), .val (.ref a2), .unset] [(.int (4 : Int32)), (.ref a0)])) (fun target kt => ?_) ?_
  · skip
    show Steps p.tables e below (T22.setTop (mkF m 11 #[.val (.ref a0), .val (.int p1), .val (.ref a2), .unset] [])) _
    refine XS.aloadN X22.here hx rfl (hb hby d3_11) rfl rfl ?_
    show Steps p.tables e below (T22.setTop (mkF m 12 #[.val (.ref a0), .val (.int p1), .val (.ref a2), .unset] [(.ref a0)])) _
    refine XS.iconst X22.here hx rfl (hb hby d3_12) ?_
    exact kt
  obtain ⟨T32, h32, k32, X32, e32, E32, A32, B32, st32⟩ := newPE X22 hx hZ (hw _ (List.mem_of_getElem? (i := 19) rfl)) e22 (g := (mkF m 13 #[.val (.ref a0), .val (.int p1), .val (.ref a2), .unset] [(.int (4 : Int32)), (.ref a0)])) rfl (hb hby d3_13) rfl (by decide) (cap := 4) (by decide) (by decide) (by decide) (by decide) (ad := "[J") (by decide)
  obtain ⟨b32, g32⟩ : ∃ z, z = h22.size := ⟨_, rfl⟩
  rw [← g32] at A32 B32 st32
  have f33 : Exa Z h32 a0 "com/example/graphcrate/graphcrate/generate/VertexRenaming" := f23.ext E32
  have f34 : Fld Z h32 a0 "com/example/graphcrate/graphcrate/generate/VertexRenaming" "multipliers" "[J" .null := f24.ext E32
  have f35 : Fld Z h32 a0 "com/example/graphcrate/graphcrate/generate/VertexRenaming" "mask" "J" (.long (0 : Int64)) := f25.ext E32
  have f36 : Fld Z h32 a0 "com/example/graphcrate/graphcrate/generate/VertexRenaming" "fold" "I" (.int (0 : Int32)) := f26.ext E32
  have f37 : Exa Z h32 a2 "com/example/graphcrate/graphcrate/generate/SplitMix64" := f27.ext E32
  have f38 : Fld Z h32 a2 "com/example/graphcrate/graphcrate/generate/SplitMix64" "counter" "J" (.long w1) := f28.ext E32
  have f39 : own_AJ Z h32 b13 .long 4 (fun _ => 0) := f29.ext E32
  have f40 : Exa Z h32 b13 "[J" := f30.ext E32
  have f41 : Fld Z h32 a0 "com/example/graphcrate/graphcrate/generate/VertexRenaming" "addends" "[J" (.ref b13) := f31.ext E32
  have g_b32 : n0 ≤ b32 := Nat.le_trans Z22 (Nat.le_of_eq g32.symm)
  have sz_b32 : h0.size ≤ b32 := Nat.le_trans K22.1 (Nat.le_of_eq g32.symm)
  have ne_a0_b32 : a0 ≠ b32 := Nat.ne_of_lt (Nat.lt_of_lt_of_le f23.lt (Nat.le_of_eq g32.symm))
  have ne_a2_b32 : a2 ≠ b32 := Nat.ne_of_lt (Nat.lt_of_lt_of_le f27.lt (Nat.le_of_eq g32.symm))
  have ne_b13_b32 : b13 ≠ b32 := Nat.ne_of_lt (Nat.lt_of_lt_of_le f29.lt (Nat.le_of_eq g32.symm))
  have Z32 : n0 ≤ h32.size := Nat.le_trans Z22 E32.1
  have K32 : Keep h0 h32 [a0, a2] := K22.ext E32
  have f42 : own_AJ Z h32 b32 .long 4 (fun _ => 0) := own_AJ.fresh A32 rfl
  refine own_go (S' := T32.setTop (mkF m 15 #[.val (.ref a0), .val (.int p1), .val (.ref a2), .unset] [(.ref b32), (.ref a0)])) st32 ?_
  obtain ⟨T43, h43, X43, e43, W43, st43⟩ := putF X32 hx hZ hown (host := "") (Or.inl (hw _ (List.mem_of_getElem? (i := 22) rfl))) Via.refl e32 f34 f33 (Or.inr ⟨(hw _ (List.mem_of_getElem? (i := 23) rfl)), rfl, hnm⟩) (hw _ (List.mem_of_getElem? (i := 2) rfl)) (ty := (.array .long)) (by decide) rfl rfl (g := (mkF m 15 #[.val (.ref a0), .val (.int p1), .val (.ref a2), .unset] [(.ref b32), (.ref a0)])) rfl rfl (hb hby d3_15)
  have f44 : Exa Z h43 a0 "com/example/graphcrate/graphcrate/generate/VertexRenaming" := f33.wr W43
  have f45 : Fld Z h43 a0 "com/example/graphcrate/graphcrate/generate/VertexRenaming" "mask" "J" (.long (0 : Int64)) := f35.other W43 (Or.inr (slot_ne (Or.inr (hw _ (List.mem_of_getElem? (i := 26) rfl))) (Or.inr (hw _ (List.mem_of_getElem? (i := 23) rfl))) (by decide) (t := .long) (t' := (.array .long)) (by decide) (by decide)))
  have f46 : Fld Z h43 a0 "com/example/graphcrate/graphcrate/generate/VertexRenaming" "fold" "I" (.int (0 : Int32)) := f36.other W43 (Or.inr (slot_ne (Or.inr (hw _ (List.mem_of_getElem? (i := 28) rfl))) (Or.inr (hw _ (List.mem_of_getElem? (i := 23) rfl))) (by decide) (t := .int) (t' := (.array .long)) (by decide) (by decide)))
  have f47 : Exa Z h43 a2 "com/example/graphcrate/graphcrate/generate/SplitMix64" := f37.wr W43
  have f48 : Fld Z h43 a2 "com/example/graphcrate/graphcrate/generate/SplitMix64" "counter" "J" (.long w1) := f38.other W43 (Or.inl (Ne.symm hne))
  have f49 : own_AJ Z h43 b13 .long 4 (fun _ => 0) := f39.other W43 (Ne.symm ne_a0_b13)
  have f50 : Exa Z h43 b13 "[J" := f40.wr W43
  have f51 : Fld Z h43 a0 "com/example/graphcrate/graphcrate/generate/VertexRenaming" "addends" "[J" (.ref b13) := f41.other W43 (Or.inr (slot_ne (Or.inr (hw _ (List.mem_of_getElem? (i := 21) rfl))) (Or.inr (hw _ (List.mem_of_getElem? (i := 23) rfl))) (by decide) (t := (.array .long)) (t' := (.array .long)) (by decide) (by decide)))
  have f52 : own_AJ Z h43 b32 .long 4 (fun _ => 0) := f42.other W43 (Ne.symm ne_a0_b32)
  have f53 : Exa Z h43 b32 "[J" := B32.wr W43
  have f54 : Fld Z h43 a0 "com/example/graphcrate/graphcrate/generate/VertexRenaming" "multipliers" "[J" (.ref b32) := f34.same W43
  have Z43 : n0 ≤ h43.size := Nat.le_trans Z32 (Keep.of_wr W43).1
  have K43 : Keep h0 h43 [a0, a2] := K32.wr W43 (Or.inl (List.mem_of_getElem? (i := 0) rfl))
  have N43 := Fr.snoc X43 N22 g_a0
  refine own_go (S' := T43.setTop (mkF m 18 #[.val (.ref a0), .val (.int p1), .val (.ref a2), .unset] [])) st43 ?_
  refine own_go (S' := T43.setTop (mkF m 52 #[.val (.ref a0), .val (.int p1), .val (.ref a2), .unset] [(.long (own_ushrL (-1 : Int64) ((64 : Int32) - p1))), (.ref a0)])) (fun target kt => ?_) ?_
  · skip
    show Steps p.tables e below (T43.setTop (mkF m 18 #[.val (.ref a0), .val (.int p1), .val (.ref a2), .unset] [])) _
    refine XS.iloadN X43.here hx rfl (hb hby d3_18) rfl ?_
    show Steps p.tables e below (T43.setTop (mkF m 19 #[.val (.ref a0), .val (.int p1), .val (.ref a2), .unset] [(.int p1)])) _
    refine XS.iconst X43.here hx rfl (hb hby d3_19) ?_
    show Steps p.tables e below (T43.setTop (mkF m 20 #[.val (.ref a0), .val (.int p1), .val (.ref a2), .unset] [(.int (1 : Int32)), (.int p1)])) _
    refine XS.icmpNo X43.here hx rfl (hb hby d3_20) rfl (flt (h1 : ¬ (p1 < (1 : Int32)))).1 ?_
    show Steps p.tables e below (T43.setTop (mkF m 23 #[.val (.ref a0), .val (.int p1), .val (.ref a2), .unset] [])) _
    refine XS.iloadN X43.here hx rfl (hb hby d3_23) rfl ?_
    show Steps p.tables e below (T43.setTop (mkF m 24 #[.val (.ref a0), .val (.int p1), .val (.ref a2), .unset] [(.int p1)])) _
    refine XS.bipush X43.here hx rfl (hb hby d3_24) ?_
    show Steps p.tables e below (T43.setTop (mkF m 26 #[.val (.ref a0), .val (.int p1), .val (.ref a2), .unset] [(.int (62 : Int32)), (.int p1)])) _
    refine XS.icmpYes X43.here hx rfl (pc0 := 26) (pc' := 43) rfl (hb hby d3_26) rfl (flt (h2 : ¬ ((62 : Int32) < p1))).2.2.2 (by decide) (by decide) ?_
    show Steps p.tables e below (T43.setTop (mkF m 43 #[.val (.ref a0), .val (.int p1), .val (.ref a2), .unset] [])) _
    refine XS.aloadN X43.here hx rfl (hb hby d3_43) rfl rfl ?_
    show Steps p.tables e below (T43.setTop (mkF m 44 #[.val (.ref a0), .val (.int p1), .val (.ref a2), .unset] [(.ref a0)])) _
    refine X43.ldc2Long hx hown (mvT hZ (hw _ (List.mem_of_getElem? (i := 24) rfl))) (g := (mkF m 44 #[.val (.ref a0), .val (.int p1), .val (.ref a2), .unset] [(.ref a0)])) rfl (hb hby d3_44) _ ?_
    show Steps p.tables e below (T43.setTop (mkF m 47 #[.val (.ref a0), .val (.int p1), .val (.ref a2), .unset] [(.long (-1 : Int64)), (.ref a0)])) _
    refine XS.bipush X43.here hx rfl (hb hby d3_47) ?_
    show Steps p.tables e below (T43.setTop (mkF m 49 #[.val (.ref a0), .val (.int p1), .val (.ref a2), .unset] [(.int (64 : Int32)), (.long (-1 : Int64)), (.ref a0)])) _
    refine XS.iloadN X43.here hx rfl (hb hby d3_49) rfl ?_
    show Steps p.tables e below (T43.setTop (mkF m 50 #[.val (.ref a0), .val (.int p1), .val (.ref a2), .unset] [(.int p1), (.int (64 : Int32)), (.long (-1 : Int64)), (.ref a0)])) _
    refine XS.isub X43.here hx rfl (hb hby d3_50) rfl ?_
    show Steps p.tables e below (T43.setTop (mkF m 51 #[.val (.ref a0), .val (.int p1), .val (.ref a2), .unset] [(.int ((64 : Int32) - p1)), (.long (-1 : Int64)), (.ref a0)])) _
    refine XS.lushr X43.here hx rfl (hb hby d3_51) rfl ?_
    exact kt
  obtain ⟨T55, h55, X55, e55, W55, st55⟩ := putF X43 hx hZ hown (host := "") (Or.inl (hw _ (List.mem_of_getElem? (i := 25) rfl))) Via.refl e43 f45 f44 (Or.inr ⟨(hw _ (List.mem_of_getElem? (i := 26) rfl)), rfl, hnm⟩) (hw _ (List.mem_of_getElem? (i := 2) rfl)) (ty := .long) (by decide) rfl rfl (g := (mkF m 52 #[.val (.ref a0), .val (.int p1), .val (.ref a2), .unset] [(.long (own_ushrL (-1 : Int64) ((64 : Int32) - p1))), (.ref a0)])) rfl rfl (hb hby d3_52)
  have f56 : Exa Z h55 a0 "com/example/graphcrate/graphcrate/generate/VertexRenaming" := f44.wr W55
  have f57 : Fld Z h55 a0 "com/example/graphcrate/graphcrate/generate/VertexRenaming" "fold" "I" (.int (0 : Int32)) := f46.other W55 (Or.inr (slot_ne (Or.inr (hw _ (List.mem_of_getElem? (i := 28) rfl))) (Or.inr (hw _ (List.mem_of_getElem? (i := 26) rfl))) (by decide) (t := .int) (t' := .long) (by decide) (by decide)))
  have f58 : Exa Z h55 a2 "com/example/graphcrate/graphcrate/generate/SplitMix64" := f47.wr W55
  have f59 : Fld Z h55 a2 "com/example/graphcrate/graphcrate/generate/SplitMix64" "counter" "J" (.long w1) := f48.other W55 (Or.inl (Ne.symm hne))
  have f60 : own_AJ Z h55 b13 .long 4 (fun _ => 0) := f49.other W55 (Ne.symm ne_a0_b13)
  have f61 : Exa Z h55 b13 "[J" := f50.wr W55
  have f62 : Fld Z h55 a0 "com/example/graphcrate/graphcrate/generate/VertexRenaming" "addends" "[J" (.ref b13) := f51.other W55 (Or.inr (slot_ne (Or.inr (hw _ (List.mem_of_getElem? (i := 21) rfl))) (Or.inr (hw _ (List.mem_of_getElem? (i := 26) rfl))) (by decide) (t := (.array .long)) (t' := .long) (by decide) (by decide)))
  have f63 : own_AJ Z h55 b32 .long 4 (fun _ => 0) := f52.other W55 (Ne.symm ne_a0_b32)
  have f64 : Exa Z h55 b32 "[J" := f53.wr W55
  have f65 : Fld Z h55 a0 "com/example/graphcrate/graphcrate/generate/VertexRenaming" "multipliers" "[J" (.ref b32) := f54.other W55 (Or.inr (slot_ne (Or.inr (hw _ (List.mem_of_getElem? (i := 23) rfl))) (Or.inr (hw _ (List.mem_of_getElem? (i := 26) rfl))) (by decide) (t := (.array .long)) (t' := .long) (by decide) (by decide)))
  have f66 : Fld Z h55 a0 "com/example/graphcrate/graphcrate/generate/VertexRenaming" "mask" "J" (.long (own_ushrL (-1 : Int64) ((64 : Int32) - p1))) := f45.same W55
  have Z55 : n0 ≤ h55.size := Nat.le_trans Z43 (Keep.of_wr W55).1
  have K55 : Keep h0 h55 [a0, a2] := K43.wr W55 (Or.inl (List.mem_of_getElem? (i := 0) rfl))
  have N55 := Fr.snoc X55 N43 g_a0
  refine own_go (S' := T55.setTop (mkF m 55 #[.val (.ref a0), .val (.int p1), .val (.ref a2), .unset] [])) st55 ?_
  refine own_go (S' := T55.setTop (mkF m 61 #[.val (.ref a0), .val (.int p1), .val (.ref a2), .unset] [(.int ((p1 + (1 : Int32)) / (2 : Int32))), (.ref a0)])) (fun target kt => ?_) ?_
  · skip
    show Steps p.tables e below (T55.setTop (mkF m 55 #[.val (.ref a0), .val (.int p1), .val (.ref a2), .unset] [])) _
    refine XS.aloadN X55.here hx rfl (hb hby d3_55) rfl rfl ?_
    show Steps p.tables e below (T55.setTop (mkF m 56 #[.val (.ref a0), .val (.int p1), .val (.ref a2), .unset] [(.ref a0)])) _
    refine XS.iloadN X55.here hx rfl (hb hby d3_56) rfl ?_
    show Steps p.tables e below (T55.setTop (mkF m 57 #[.val (.ref a0), .val (.int p1), .val (.ref a2), .unset] [(.int p1), (.ref a0)])) _
    refine XS.iconst X55.here hx rfl (hb hby d3_57) ?_
    show Steps p.tables e below (T55.setTop (mkF m 58 #[.val (.ref a0), .val (.int p1), .val (.ref a2), .unset] [(.int (1 : Int32)), (.int p1), (.ref a0)])) _
    refine XS.iadd X55.here hx rfl (hb hby d3_58) rfl ?_
    show Steps p.tables e below (T55.setTop (mkF m 59 #[.val (.ref a0), .val (.int p1), .val (.ref a2), .unset] [(.int (p1 + (1 : Int32))), (.ref a0)])) _
    refine XS.iconst X55.here hx rfl (hb hby d3_59) ?_
    show Steps p.tables e below (T55.setTop (mkF m 60 #[.val (.ref a0), .val (.int p1), .val (.ref a2), .unset] [(.int (2 : Int32)), (.int (p1 + (1 : Int32))), (.ref a0)])) _
    refine XS.idiv X55.here hx rfl (hb hby d3_60) rfl (by decide) ?_
    exact kt
  obtain ⟨T67, h67, X67, e67, W67, st67⟩ := putF X55 hx hZ hown (host := "") (Or.inl (hw _ (List.mem_of_getElem? (i := 27) rfl))) Via.refl e55 f57 f56 (Or.inr ⟨(hw _ (List.mem_of_getElem? (i := 28) rfl)), rfl, hnm⟩) (hw _ (List.mem_of_getElem? (i := 2) rfl)) (ty := .int) (by decide) rfl rfl (g := (mkF m 61 #[.val (.ref a0), .val (.int p1), .val (.ref a2), .unset] [(.int ((p1 + (1 : Int32)) / (2 : Int32))), (.ref a0)])) rfl rfl (hb hby d3_61)
  have f68 : Exa Z h67 a0 "com/example/graphcrate/graphcrate/generate/VertexRenaming" := f56.wr W67
  have f69 : Exa Z h67 a2 "com/example/graphcrate/graphcrate/generate/SplitMix64" := f58.wr W67
  have f70 : Fld Z h67 a2 "com/example/graphcrate/graphcrate/generate/SplitMix64" "counter" "J" (.long w1) := f59.other W67 (Or.inl (Ne.symm hne))
  have f71 : own_AJ Z h67 b13 .long 4 (fun _ => 0) := f60.other W67 (Ne.symm ne_a0_b13)
  have f72 : Exa Z h67 b13 "[J" := f61.wr W67
  have f73 : Fld Z h67 a0 "com/example/graphcrate/graphcrate/generate/VertexRenaming" "addends" "[J" (.ref b13) := f62.other W67 (Or.inr (slot_ne (Or.inr (hw _ (List.mem_of_getElem? (i := 21) rfl))) (Or.inr (hw _ (List.mem_of_getElem? (i := 28) rfl))) (by decide) (t := (.array .long)) (t' := .int) (by decide) (by decide)))
  have f74 : own_AJ Z h67 b32 .long 4 (fun _ => 0) := f63.other W67 (Ne.symm ne_a0_b32)
  have f75 : Exa Z h67 b32 "[J" := f64.wr W67
  have f76 : Fld Z h67 a0 "com/example/graphcrate/graphcrate/generate/VertexRenaming" "multipliers" "[J" (.ref b32) := f65.other W67 (Or.inr (slot_ne (Or.inr (hw _ (List.mem_of_getElem? (i := 23) rfl))) (Or.inr (hw _ (List.mem_of_getElem? (i := 28) rfl))) (by decide) (t := (.array .long)) (t' := .int) (by decide) (by decide)))
  have f77 : Fld Z h67 a0 "com/example/graphcrate/graphcrate/generate/VertexRenaming" "mask" "J" (.long (own_ushrL (-1 : Int64) ((64 : Int32) - p1))) := f66.other W67 (Or.inr (slot_ne (Or.inr (hw _ (List.mem_of_getElem? (i := 26) rfl))) (Or.inr (hw _ (List.mem_of_getElem? (i := 28) rfl))) (by decide) (t := .long) (t' := .int) (by decide) (by decide)))
  have f78 : Fld Z h67 a0 "com/example/graphcrate/graphcrate/generate/VertexRenaming" "fold" "I" (.int ((p1 + (1 : Int32)) / (2 : Int32))) := f57.same W67
  have Z67 : n0 ≤ h67.size := Nat.le_trans Z55 (Keep.of_wr W67).1
  have K67 : Keep h0 h67 [a0, a2] := K55.wr W67 (Or.inl (List.mem_of_getElem? (i := 0) rfl))
  have N67 := Fr.snoc X67 N55 g_a0
  refine own_go (S' := T67.setTop (mkF m 64 #[.val (.ref a0), .val (.int p1), .val (.ref a2), .unset] [])) st67 ?_
  refine own_go (S' := T67.setTop (mkF m 72 #[.val (.ref a0), .val (.int p1), .val (.ref a2), .val (.int (0 : Int32))] [(.ref a0)])) (fun target kt => ?_) ?_
  · skip
    show Steps p.tables e below (T67.setTop (mkF m 64 #[.val (.ref a0), .val (.int p1), .val (.ref a2), .unset] [])) _
    refine XS.iconst X67.here hx rfl (hb hby d3_64) ?_
    show Steps p.tables e below (T67.setTop (mkF m 65 #[.val (.ref a0), .val (.int p1), .val (.ref a2), .unset] [(.int (0 : Int32))])) _
    refine XS.istoreN X67.here hx rfl (hb hby d3_65) rfl (l' := #[.val (.ref a0), .val (.int p1), .val (.ref a2), .val (.int (0 : Int32))]) rfl ?_
    show Steps p.tables e below (T67.setTop (mkF m 66 #[.val (.ref a0), .val (.int p1), .val (.ref a2), .val (.int (0 : Int32))] [])) _
    refine XS.iloadN X67.here hx rfl (hb hby d3_66) rfl ?_
    show Steps p.tables e below (T67.setTop (mkF m 67 #[.val (.ref a0), .val (.int p1), .val (.ref a2), .val (.int (0 : Int32))] [(.int (0 : Int32))])) _
    refine XS.iconst X67.here hx rfl (hb hby d3_67) ?_
    show Steps p.tables e below (T67.setTop (mkF m 68 #[.val (.ref a0), .val (.int p1), .val (.ref a2), .val (.int (0 : Int32))] [(.int (4 : Int32)), (.int (0 : Int32))])) _
    refine XS.icmpNo X67.here hx rfl (hb hby d3_68) rfl (tlt (by decide : (0 : Int32) < (4 : Int32))).2.1 ?_
    show Steps p.tables e below (T67.setTop (mkF m 71 #[.val (.ref a0), .val (.int p1), .val (.ref a2), .val (.int (0 : Int32))] [])) _
    refine XS.aloadN X67.here hx rfl (hb hby d3_71) rfl rfl ?_
    exact kt
  obtain ⟨T79, X79, e79, st79⟩ := getF X67 hx hZ hown (host := "") (Or.inl (hw _ (List.mem_of_getElem? (i := 20) rfl))) Via.refl e67 f73 (g := (mkF m 72 #[.val (.ref a0), .val (.int p1), .val (.ref a2), .val (.int (0 : Int32))] [(.ref a0)])) rfl rfl (hb hby d3_72)
  refine own_go (S' := T79.setTop (mkF m 75 #[.val (.ref a0), .val (.int p1), .val (.ref a2), .val (.int (0 : Int32))] [(.ref b13)])) st79 ?_
  refine own_go (S' := T79.setTop (mkF m 77 #[.val (.ref a0), .val (.int p1), .val (.ref a2), .val (.int (0 : Int32))] [(.ref a2), (.int (0 : Int32)), (.ref b13)])) (fun target kt => ?_) ?_
  · skip
    show Steps p.tables e below (T79.setTop (mkF m 75 #[.val (.ref a0), .val (.int p1), .val (.ref a2), .val (.int (0 : Int32))] [(.ref b13)])) _
    refine XS.iloadN X79.here hx rfl (hb hby d3_75) rfl ?_
    show Steps p.tables e below (T79.setTop (mkF m 76 #[.val (.ref a0), .val (.int p1), .val (.ref a2), .val (.int (0 : Int32))] [(.int (0 : Int32)), (.ref b13)])) _
    refine XS.aloadN X79.here hx rfl (hb hby d3_76) rfl rfl ?_
    exact kt
  obtain ⟨cq80, kq80, q80a, q80b, q80c⟩ := isOf hZ e79 f69
  obtain ⟨_, _, ⟨T80, L80, k80, n80⟩, -, X80, ⟨Lc80, hQ80, l80, y80, z80⟩, st80⟩ := X79.virtualBack hx (y := (⟨"com/example/graphcrate/graphcrate/generate/SplitMix64", "nextLong", "()J"⟩ : MethodName)) (z := (⟨"com/example/graphcrate/graphcrate/generate/SplitMix64", "nextLong", "()J"⟩ : MethodName)) hown (mvT hZ (hw _ (List.mem_of_getElem? (i := 29) rfl))) (mvT hZ (hw _ (List.mem_of_getElem? (i := 30) rfl))) (notFace_of_selects (args := #[]) (mvT hZ (hw _ (List.mem_of_getElem? (i := 32) rfl)))) (mvT hZ (hw _ (List.mem_of_getElem? (i := 32) rfl))) (mvT hZ (hw _ (List.mem_of_getElem? (i := 31) rfl))) (by decide) (backOf (W := 2) (rm4 l Z aZ hw [] a2 w1 h67 n0 Z67 f69 f70 g_a2) hZ (hw _ (List.mem_of_getElem? (i := 33) rfl)) (hw _ (List.mem_of_getElem? (i := 6) rfl)) (by decide) (by decide)) q80a q80c (g := (mkF m 77 #[.val (.ref a0), .val (.int p1), .val (.ref a2), .val (.int (0 : Int32))] [(.ref a2), (.int (0 : Int32)), (.ref b13)])) rfl (by rw [hml]; rfl) (Steps.refl _) (argsL := []) (rest := [(.int (0 : Int32)), (.ref b13)]) (lenOf own_pd2 rfl) rfl (by show 2 * 0 + _ ≤ _; exact Nat.le_of_eq rfl) (hb hby d3_77) (fun _ _ => ⟨rfl, e79, (by decide : 2 + 0 ≤ _), (by decide : 8 + 0 ≤ _)⟩)
  dsimp only [Pt.U, Pt.locs, Pt.cells, Pt.slots] at X80 l80 y80 z80 st80 hQ80
  subst l80 y80 z80
  obtain ⟨rfl, N80q, K80q, f80_0, f80_1⟩ := hQ80
  have N80 := Fr.app N67 N80q
  have f81 : Exa Z T80.heap a0 "com/example/graphcrate/graphcrate/generate/VertexRenaming" := f68.keep K80q
  have f82 : Exa Z T80.heap a2 "com/example/graphcrate/graphcrate/generate/SplitMix64" := f69.keep K80q
  have f83 : own_AJ Z T80.heap b13 .long 4 (fun _ => 0) := f71.keep K80q (ninS (Ne.symm ne_a2_b13) nin0)
  have f84 : Exa Z T80.heap b13 "[J" := f72.keep K80q
  have f85 : Fld Z T80.heap a0 "com/example/graphcrate/graphcrate/generate/VertexRenaming" "addends" "[J" (.ref b13) := f73.keep K80q (ninS hne nin0)
  have f86 : own_AJ Z T80.heap b32 .long 4 (fun _ => 0) := f74.keep K80q (ninS (Ne.symm ne_a2_b32) nin0)
  have f87 : Exa Z T80.heap b32 "[J" := f75.keep K80q
  have f88 : Fld Z T80.heap a0 "com/example/graphcrate/graphcrate/generate/VertexRenaming" "multipliers" "[J" (.ref b32) := f76.keep K80q (ninS hne nin0)
  have f89 : Fld Z T80.heap a0 "com/example/graphcrate/graphcrate/generate/VertexRenaming" "mask" "J" (.long (own_ushrL (-1 : Int64) ((64 : Int32) - p1))) := f77.keep K80q (ninS hne nin0)
  have f90 : Fld Z T80.heap a0 "com/example/graphcrate/graphcrate/generate/VertexRenaming" "fold" "I" (.int ((p1 + (1 : Int32)) / (2 : Int32))) := f78.keep K80q (ninS hne nin0)
  have Z80 : n0 ≤ T80.heap.size := Nat.le_trans Z67 K80q.1
  have K80 : Keep h0 T80.heap [a0, a2] := K67.trans K80q (allS (Or.inl (List.mem_of_getElem? (i := 1) rfl)) all0)
  refine own_go (S' := T80.setTop (mkF m 80 #[.val (.ref a0), .val (.int p1), .val (.ref a2), .val (.int (0 : Int32))] [(.long (own_mix (w1 + (-7046029254386353131 : Int64)))), (.int (0 : Int32)), (.ref b13)])) (fun _ k => st80.trans k) ?_
  obtain ⟨c91, Ar91, S91, M91, H91⟩ := id f83
  have hin91 : ¬ ((0 : Int32) < 0 ∨ c91.slots.size ≤ ((0 : Int32)).toNatClampNeg) := own_in S91 ⟨by decide, by decide⟩
  obtain ⟨T92, h92, X92, e92, W92, st92⟩ := stJ X80 hx hZ rfl Ar91 (j := (0 : Int32)) hin91 (g := (mkF m 80 #[.val (.ref a0), .val (.int p1), .val (.ref a2), .val (.int (0 : Int32))] [(.long (own_mix (w1 + (-7046029254386353131 : Int64)))), (.int (0 : Int32)), (.ref b13)])) rfl rfl (hb hby d3_80)
  have f94 : Exa Z h92 a0 "com/example/graphcrate/graphcrate/generate/VertexRenaming" := f81.wr W92
  have f95 : Exa Z h92 a2 "com/example/graphcrate/graphcrate/generate/SplitMix64" := f80_0.wr W92
  have f96 : Exa Z h92 b13 "[J" := f84.wr W92
  have f97 : Fld Z h92 a0 "com/example/graphcrate/graphcrate/generate/VertexRenaming" "addends" "[J" (.ref b13) := f85.other W92 (Or.inl ne_a0_b13)
  have f98 : own_AJ Z h92 b32 .long 4 (fun _ => 0) := f86.other W92 (Ne.symm ne_b13_b32)
  have f99 : Exa Z h92 b32 "[J" := f87.wr W92
  have f100 : Fld Z h92 a0 "com/example/graphcrate/graphcrate/generate/VertexRenaming" "multipliers" "[J" (.ref b32) := f88.other W92 (Or.inl ne_a0_b13)
  have f101 : Fld Z h92 a0 "com/example/graphcrate/graphcrate/generate/VertexRenaming" "mask" "J" (.long (own_ushrL (-1 : Int64) ((64 : Int32) - p1))) := f89.other W92 (Or.inl ne_a0_b13)
  have f102 : Fld Z h92 a0 "com/example/graphcrate/graphcrate/generate/VertexRenaming" "fold" "I" (.int ((p1 + (1 : Int32)) / (2 : Int32))) := f90.other W92 (Or.inl ne_a0_b13)
  have f103 : Fld Z h92 a2 "com/example/graphcrate/graphcrate/generate/SplitMix64" "counter" "J" (.long (w1 + (-7046029254386353131 : Int64))) := f80_1.other W92 (Or.inl ne_a2_b13)
  have f93 : own_AJ Z h92 b13 .long 4 (own_upd (fun _ => 0) 0 (own_mix (w1 + (-7046029254386353131 : Int64)))) := own_AJ.set Ar91 S91 M91 H91 W92
  have Z92 : n0 ≤ h92.size := Nat.le_trans Z80 (Keep.of_wr W92).1
  have K92 : Keep h0 h92 [a0, a2] := K80.wr W92 (Or.inr sz_b13)
  have N92 := Fr.snoc X92 N80 g_b13
  refine own_go (S' := T92.setTop (mkF m 81 #[.val (.ref a0), .val (.int p1), .val (.ref a2), .val (.int (0 : Int32))] [])) st92 ?_
  refine own_go (S' := T92.setTop (mkF m 82 #[.val (.ref a0), .val (.int p1), .val (.ref a2), .val (.int (0 : Int32))] [(.ref a0)])) (fun target kt => ?_) ?_
  · skip
    show Steps p.tables e below (T92.setTop (mkF m 81 #[.val (.ref a0), .val (.int p1), .val (.ref a2), .val (.int (0 : Int32))] [])) _
    refine XS.aloadN X92.here hx rfl (hb hby d3_81) rfl rfl ?_
    exact kt
  obtain ⟨T104, X104, e104, st104⟩ := getF X92 hx hZ hown (host := "") (Or.inl (hw _ (List.mem_of_getElem? (i := 22) rfl))) Via.refl e92 f100 (g := (mkF m 82 #[.val (.ref a0), .val (.int p1), .val (.ref a2), .val (.int (0 : Int32))] [(.ref a0)])) rfl rfl (hb hby d3_82)
  refine own_go (S' := T104.setTop (mkF m 85 #[.val (.ref a0), .val (.int p1), .val (.ref a2), .val (.int (0 : Int32))] [(.ref b32)])) st104 ?_
  refine own_go (S' := T104.setTop (mkF m 87 #[.val (.ref a0), .val (.int p1), .val (.ref a2), .val (.int (0 : Int32))] [(.ref a2), (.int (0 : Int32)), (.ref b32)])) (fun target kt => ?_) ?_
  · skip
    show Steps p.tables e below (T104.setTop (mkF m 85 #[.val (.ref a0), .val (.int p1), .val (.ref a2), .val (.int (0 : Int32))] [(.ref b32)])) _
    refine XS.iloadN X104.here hx rfl (hb hby d3_85) rfl ?_
    show Steps p.tables e below (T104.setTop (mkF m 86 #[.val (.ref a0), .val (.int p1), .val (.ref a2), .val (.int (0 : Int32))] [(.int (0 : Int32)), (.ref b32)])) _
    refine XS.aloadN X104.here hx rfl (hb hby d3_86) rfl rfl ?_
    exact kt
  obtain ⟨cq105, kq105, q105a, q105b, q105c⟩ := isOf hZ e104 f95
  obtain ⟨_, _, ⟨T105, L105, k105, n105⟩, -, X105, ⟨Lc105, hQ105, l105, y105, z105⟩, st105⟩ := X104.virtualBack hx (y := (⟨"com/example/graphcrate/graphcrate/generate/SplitMix64", "nextLong", "()J"⟩ : MethodName)) (z := (⟨"com/example/graphcrate/graphcrate/generate/SplitMix64", "nextLong", "()J"⟩ : MethodName)) hown (mvT hZ (hw _ (List.mem_of_getElem? (i := 29) rfl))) (mvT hZ (hw _ (List.mem_of_getElem? (i := 30) rfl))) (notFace_of_selects (args := #[]) (mvT hZ (hw _ (List.mem_of_getElem? (i := 32) rfl)))) (mvT hZ (hw _ (List.mem_of_getElem? (i := 32) rfl))) (mvT hZ (hw _ (List.mem_of_getElem? (i := 31) rfl))) (by decide) (backOf (W := 2) (rm4 l Z aZ hw [] a2 (w1 + (-7046029254386353131 : Int64)) h92 n0 Z92 f95 f103 g_a2) hZ (hw _ (List.mem_of_getElem? (i := 33) rfl)) (hw _ (List.mem_of_getElem? (i := 6) rfl)) (by decide) (by decide)) q105a q105c (g := (mkF m 87 #[.val (.ref a0), .val (.int p1), .val (.ref a2), .val (.int (0 : Int32))] [(.ref a2), (.int (0 : Int32)), (.ref b32)])) rfl (by rw [hml]; rfl) (Steps.refl _) (argsL := []) (rest := [(.int (0 : Int32)), (.ref b32)]) (lenOf own_pd2 rfl) rfl (by show 2 * 0 + _ ≤ _; exact Nat.le_of_eq rfl) (hb hby d3_87) (fun _ _ => ⟨rfl, e104, (by decide : 2 + 0 ≤ _), (by decide : 8 + 0 ≤ _)⟩)
  dsimp only [Pt.U, Pt.locs, Pt.cells, Pt.slots] at X105 l105 y105 z105 st105 hQ105
  subst l105 y105 z105
  obtain ⟨rfl, N105q, K105q, f105_0, f105_1⟩ := hQ105
  have N105 := Fr.app N92 N105q
  have f106 : Exa Z T105.heap a0 "com/example/graphcrate/graphcrate/generate/VertexRenaming" := f94.keep K105q
  have f107 : Exa Z T105.heap a2 "com/example/graphcrate/graphcrate/generate/SplitMix64" := f95.keep K105q
  have f108 : Exa Z T105.heap b13 "[J" := f96.keep K105q
  have f109 : Fld Z T105.heap a0 "com/example/graphcrate/graphcrate/generate/VertexRenaming" "addends" "[J" (.ref b13) := f97.keep K105q (ninS hne nin0)
  have f110 : own_AJ Z T105.heap b32 .long 4 (fun _ => 0) := f98.keep K105q (ninS (Ne.symm ne_a2_b32) nin0)
  have f111 : Exa Z T105.heap b32 "[J" := f99.keep K105q
  have f112 : Fld Z T105.heap a0 "com/example/graphcrate/graphcrate/generate/VertexRenaming" "multipliers" "[J" (.ref b32) := f100.keep K105q (ninS hne nin0)
  have f113 : Fld Z T105.heap a0 "com/example/graphcrate/graphcrate/generate/VertexRenaming" "mask" "J" (.long (own_ushrL (-1 : Int64) ((64 : Int32) - p1))) := f101.keep K105q (ninS hne nin0)
  have f114 : Fld Z T105.heap a0 "com/example/graphcrate/graphcrate/generate/VertexRenaming" "fold" "I" (.int ((p1 + (1 : Int32)) / (2 : Int32))) := f102.keep K105q (ninS hne nin0)
  have f115 : own_AJ Z T105.heap b13 .long 4 (own_upd (fun _ => 0) 0 (own_mix (w1 + (-7046029254386353131 : Int64)))) := f93.keep K105q (ninS (Ne.symm ne_a2_b13) nin0)
  have Z105 : n0 ≤ T105.heap.size := Nat.le_trans Z92 K105q.1
  have K105 : Keep h0 T105.heap [a0, a2] := K92.trans K105q (allS (Or.inl (List.mem_of_getElem? (i := 1) rfl)) all0)
  refine own_go (S' := T105.setTop (mkF m 90 #[.val (.ref a0), .val (.int p1), .val (.ref a2), .val (.int (0 : Int32))] [(.long (own_mix ((w1 + (-7046029254386353131 : Int64)) + (-7046029254386353131 : Int64)))), (.int (0 : Int32)), (.ref b32)])) (fun _ k => st105.trans k) ?_
  refine own_go (S' := T105.setTop (mkF m 92 #[.val (.ref a0), .val (.int p1), .val (.ref a2), .val (.int (0 : Int32))] [(.long ((own_mix ((w1 + (-7046029254386353131 : Int64)) + (-7046029254386353131 : Int64))) ||| (1 : Int64))), (.int (0 : Int32)), (.ref b32)])) (fun target kt => ?_) ?_
  · skip
    show Steps p.tables e below (T105.setTop (mkF m 90 #[.val (.ref a0), .val (.int p1), .val (.ref a2), .val (.int (0 : Int32))] [(.long (own_mix ((w1 + (-7046029254386353131 : Int64)) + (-7046029254386353131 : Int64)))), (.int (0 : Int32)), (.ref b32)])) _
    refine XS.lconst X105.here hx rfl (hb hby d3_90) ?_
    show Steps p.tables e below (T105.setTop (mkF m 91 #[.val (.ref a0), .val (.int p1), .val (.ref a2), .val (.int (0 : Int32))] [(.long (1 : Int64)), (.long (own_mix ((w1 + (-7046029254386353131 : Int64)) + (-7046029254386353131 : Int64)))), (.int (0 : Int32)), (.ref b32)])) _
    refine XS.lor X105.here hx rfl (hb hby d3_91) rfl ?_
    exact kt
  obtain ⟨c116, Ar116, S116, M116, H116⟩ := id f110
  have hin116 : ¬ ((0 : Int32) < 0 ∨ c116.slots.size ≤ ((0 : Int32)).toNatClampNeg) := own_in S116 ⟨by decide, by decide⟩
  obtain ⟨T117, h117, X117, e117, W117, st117⟩ := stJ X105 hx hZ rfl Ar116 (j := (0 : Int32)) hin116 (g := (mkF m 92 #[.val (.ref a0), .val (.int p1), .val (.ref a2), .val (.int (0 : Int32))] [(.long ((own_mix ((w1 + (-7046029254386353131 : Int64)) + (-7046029254386353131 : Int64))) ||| (1 : Int64))), (.int (0 : Int32)), (.ref b32)])) rfl rfl (hb hby d3_92)
  have f119 : Exa Z h117 a0 "com/example/graphcrate/graphcrate/generate/VertexRenaming" := f106.wr W117
  have f120 : Exa Z h117 a2 "com/example/graphcrate/graphcrate/generate/SplitMix64" := f105_0.wr W117
  have f121 : Exa Z h117 b13 "[J" := f108.wr W117
  have f122 : Fld Z h117 a0 "com/example/graphcrate/graphcrate/generate/VertexRenaming" "addends" "[J" (.ref b13) := f109.other W117 (Or.inl ne_a0_b32)
  have f123 : Exa Z h117 b32 "[J" := f111.wr W117
  have f124 : Fld Z h117 a0 "com/example/graphcrate/graphcrate/generate/VertexRenaming" "multipliers" "[J" (.ref b32) := f112.other W117 (Or.inl ne_a0_b32)
  have f125 : Fld Z h117 a0 "com/example/graphcrate/graphcrate/generate/VertexRenaming" "mask" "J" (.long (own_ushrL (-1 : Int64) ((64 : Int32) - p1))) := f113.other W117 (Or.inl ne_a0_b32)
  have f126 : Fld Z h117 a0 "com/example/graphcrate/graphcrate/generate/VertexRenaming" "fold" "I" (.int ((p1 + (1 : Int32)) / (2 : Int32))) := f114.other W117 (Or.inl ne_a0_b32)
  have f127 : own_AJ Z h117 b13 .long 4 (own_upd (fun _ => 0) 0 (own_mix (w1 + (-7046029254386353131 : Int64)))) := f115.other W117 ne_b13_b32
  have f128 : Fld Z h117 a2 "com/example/graphcrate/graphcrate/generate/SplitMix64" "counter" "J" (.long ((w1 + (-7046029254386353131 : Int64)) + (-7046029254386353131 : Int64))) := f105_1.other W117 (Or.inl ne_a2_b32)
  have f118 : own_AJ Z h117 b32 .long 4 (own_upd (fun _ => 0) 0 ((own_mix ((w1 + (-7046029254386353131 : Int64)) + (-7046029254386353131 : Int64))) ||| (1 : Int64))) := own_AJ.set Ar116 S116 M116 H116 W117
  have Z117 : n0 ≤ h117.size := Nat.le_trans Z105 (Keep.of_wr W117).1
  have K117 : Keep h0 h117 [a0, a2] := K105.wr W117 (Or.inr sz_b32)
  have N117 := Fr.snoc X117 N105 g_b32
  refine own_go (S' := T117.setTop (mkF m 93 #[.val (.ref a0), .val (.int p1), .val (.ref a2), .val (.int (0 : Int32))] [])) st117 ?_
  refine own_go (S' := T117.setTop (mkF m 72 #[.val (.ref a0), .val (.int p1), .val (.ref a2), .val (.int (1 : Int32))] [(.ref a0)])) (fun target kt => ?_) ?_
  · skip
    show Steps p.tables e below (T117.setTop (mkF m 93 #[.val (.ref a0), .val (.int p1), .val (.ref a2), .val (.int (0 : Int32))] [])) _
    refine XS.iinc X117.here hx rfl (hb hby d3_93) rfl (l' := #[.val (.ref a0), .val (.int p1), .val (.ref a2), .val (.int ((0 : Int32) + (1 : Int32)))]) rfl ?_
    rw [show ((0 : Int32) + (1 : Int32)) = (1 : Int32) from by decide]
    show Steps p.tables e below (T117.setTop (mkF m 96 #[.val (.ref a0), .val (.int p1), .val (.ref a2), .val (.int (1 : Int32))] [])) _
    refine XS.goto X117.here hx rfl (pc0 := 96) (pc' := 66) rfl (hb hby d3_96) (by decide) (by decide) ?_
    show Steps p.tables e below (T117.setTop (mkF m 66 #[.val (.ref a0), .val (.int p1), .val (.ref a2), .val (.int (1 : Int32))] [])) _
    refine XS.iloadN X117.here hx rfl (hb hby d3_66) rfl ?_
    show Steps p.tables e below (T117.setTop (mkF m 67 #[.val (.ref a0), .val (.int p1), .val (.ref a2), .val (.int (1 : Int32))] [(.int (1 : Int32))])) _
    refine XS.iconst X117.here hx rfl (hb hby d3_67) ?_
    show Steps p.tables e below (T117.setTop (mkF m 68 #[.val (.ref a0), .val (.int p1), .val (.ref a2), .val (.int (1 : Int32))] [(.int (4 : Int32)), (.int (1 : Int32))])) _
    refine XS.icmpNo X117.here hx rfl (hb hby d3_68) rfl (tlt (by decide : (1 : Int32) < (4 : Int32))).2.1 ?_
    show Steps p.tables e below (T117.setTop (mkF m 71 #[.val (.ref a0), .val (.int p1), .val (.ref a2), .val (.int (1 : Int32))] [])) _
    refine XS.aloadN X117.here hx rfl (hb hby d3_71) rfl rfl ?_
    exact kt
  obtain ⟨T129, X129, e129, st129⟩ := getF X117 hx hZ hown (host := "") (Or.inl (hw _ (List.mem_of_getElem? (i := 20) rfl))) Via.refl e117 f122 (g := (mkF m 72 #[.val (.ref a0), .val (.int p1), .val (.ref a2), .val (.int (1 : Int32))] [(.ref a0)])) rfl rfl (hb hby d3_72)
  refine own_go (S' := T129.setTop (mkF m 75 #[.val (.ref a0), .val (.int p1), .val (.ref a2), .val (.int (1 : Int32))] [(.ref b13)])) st129 ?_
  refine own_go (S' := T129.setTop (mkF m 77 #[.val (.ref a0), .val (.int p1), .val (.ref a2), .val (.int (1 : Int32))] [(.ref a2), (.int (1 : Int32)), (.ref b13)])) (fun target kt => ?_) ?_
  · skip
    show Steps p.tables e below (T129.setTop (mkF m 75 #[.val (.ref a0), .val (.int p1), .val (.ref a2), .val (.int (1 : Int32))] [(.ref b13)])) _
    refine XS.iloadN X129.here hx rfl (hb hby d3_75) rfl ?_
    show Steps p.tables e below (T129.setTop (mkF m 76 #[.val (.ref a0), .val (.int p1), .val (.ref a2), .val (.int (1 : Int32))] [(.int (1 : Int32)), (.ref b13)])) _
    refine XS.aloadN X129.here hx rfl (hb hby d3_76) rfl rfl ?_
    exact kt
  obtain ⟨cq130, kq130, q130a, q130b, q130c⟩ := isOf hZ e129 f120
  obtain ⟨_, _, ⟨T130, L130, k130, n130⟩, -, X130, ⟨Lc130, hQ130, l130, y130, z130⟩, st130⟩ := X129.virtualBack hx (y := (⟨"com/example/graphcrate/graphcrate/generate/SplitMix64", "nextLong", "()J"⟩ : MethodName)) (z := (⟨"com/example/graphcrate/graphcrate/generate/SplitMix64", "nextLong", "()J"⟩ : MethodName)) hown (mvT hZ (hw _ (List.mem_of_getElem? (i := 29) rfl))) (mvT hZ (hw _ (List.mem_of_getElem? (i := 30) rfl))) (notFace_of_selects (args := #[]) (mvT hZ (hw _ (List.mem_of_getElem? (i := 32) rfl)))) (mvT hZ (hw _ (List.mem_of_getElem? (i := 32) rfl))) (mvT hZ (hw _ (List.mem_of_getElem? (i := 31) rfl))) (by decide) (backOf (W := 2) (rm4 l Z aZ hw [] a2 ((w1 + (-7046029254386353131 : Int64)) + (-7046029254386353131 : Int64)) h117 n0 Z117 f120 f128 g_a2) hZ (hw _ (List.mem_of_getElem? (i := 33) rfl)) (hw _ (List.mem_of_getElem? (i := 6) rfl)) (by decide) (by decide)) q130a q130c (g := (mkF m 77 #[.val (.ref a0), .val (.int p1), .val (.ref a2), .val (.int (1 : Int32))] [(.ref a2), (.int (1 : Int32)), (.ref b13)])) rfl (by rw [hml]; rfl) (Steps.refl _) (argsL := []) (rest := [(.int (1 : Int32)), (.ref b13)]) (lenOf own_pd2 rfl) rfl (by show 2 * 0 + _ ≤ _; exact Nat.le_of_eq rfl) (hb hby d3_77) (fun _ _ => ⟨rfl, e129, (by decide : 2 + 0 ≤ _), (by decide : 8 + 0 ≤ _)⟩)
  dsimp only [Pt.U, Pt.locs, Pt.cells, Pt.slots] at X130 l130 y130 z130 st130 hQ130
  subst l130 y130 z130
  obtain ⟨rfl, N130q, K130q, f130_0, f130_1⟩ := hQ130
  have N130 := Fr.app N117 N130q
  have f131 : Exa Z T130.heap a0 "com/example/graphcrate/graphcrate/generate/VertexRenaming" := f119.keep K130q
  have f132 : Exa Z T130.heap a2 "com/example/graphcrate/graphcrate/generate/SplitMix64" := f120.keep K130q
  have f133 : Exa Z T130.heap b13 "[J" := f121.keep K130q
  have f134 : Fld Z T130.heap a0 "com/example/graphcrate/graphcrate/generate/VertexRenaming" "addends" "[J" (.ref b13) := f122.keep K130q (ninS hne nin0)
  have f135 : Exa Z T130.heap b32 "[J" := f123.keep K130q
  have f136 : Fld Z T130.heap a0 "com/example/graphcrate/graphcrate/generate/VertexRenaming" "multipliers" "[J" (.ref b32) := f124.keep K130q (ninS hne nin0)
  have f137 : Fld Z T130.heap a0 "com/example/graphcrate/graphcrate/generate/VertexRenaming" "mask" "J" (.long (own_ushrL (-1 : Int64) ((64 : Int32) - p1))) := f125.keep K130q (ninS hne nin0)
  have f138 : Fld Z T130.heap a0 "com/example/graphcrate/graphcrate/generate/VertexRenaming" "fold" "I" (.int ((p1 + (1 : Int32)) / (2 : Int32))) := f126.keep K130q (ninS hne nin0)
  have f139 : own_AJ Z T130.heap b13 .long 4 (own_upd (fun _ => 0) 0 (own_mix (w1 + (-7046029254386353131 : Int64)))) := f127.keep K130q (ninS (Ne.symm ne_a2_b13) nin0)
  have f140 : own_AJ Z T130.heap b32 .long 4 (own_upd (fun _ => 0) 0 ((own_mix ((w1 + (-7046029254386353131 : Int64)) + (-7046029254386353131 : Int64))) ||| (1 : Int64))) := f118.keep K130q (ninS (Ne.symm ne_a2_b32) nin0)
  have Z130 : n0 ≤ T130.heap.size := Nat.le_trans Z117 K130q.1
  have K130 : Keep h0 T130.heap [a0, a2] := K117.trans K130q (allS (Or.inl (List.mem_of_getElem? (i := 1) rfl)) all0)
  refine own_go (S' := T130.setTop (mkF m 80 #[.val (.ref a0), .val (.int p1), .val (.ref a2), .val (.int (1 : Int32))] [(.long (own_mix (((w1 + (-7046029254386353131 : Int64)) + (-7046029254386353131 : Int64)) + (-7046029254386353131 : Int64)))), (.int (1 : Int32)), (.ref b13)])) (fun _ k => st130.trans k) ?_
  obtain ⟨c141, Ar141, S141, M141, H141⟩ := id f139
  have hin141 : ¬ ((1 : Int32) < 0 ∨ c141.slots.size ≤ ((1 : Int32)).toNatClampNeg) := own_in S141 ⟨by decide, by decide⟩
  obtain ⟨T142, h142, X142, e142, W142, st142⟩ := stJ X130 hx hZ rfl Ar141 (j := (1 : Int32)) hin141 (g := (mkF m 80 #[.val (.ref a0), .val (.int p1), .val (.ref a2), .val (.int (1 : Int32))] [(.long (own_mix (((w1 + (-7046029254386353131 : Int64)) + (-7046029254386353131 : Int64)) + (-7046029254386353131 : Int64)))), (.int (1 : Int32)), (.ref b13)])) rfl rfl (hb hby d3_80)
  have f144 : Exa Z h142 a0 "com/example/graphcrate/graphcrate/generate/VertexRenaming" := f131.wr W142
  have f145 : Exa Z h142 a2 "com/example/graphcrate/graphcrate/generate/SplitMix64" := f130_0.wr W142
  have f146 : Exa Z h142 b13 "[J" := f133.wr W142
  have f147 : Fld Z h142 a0 "com/example/graphcrate/graphcrate/generate/VertexRenaming" "addends" "[J" (.ref b13) := f134.other W142 (Or.inl ne_a0_b13)
  have f148 : Exa Z h142 b32 "[J" := f135.wr W142
  have f149 : Fld Z h142 a0 "com/example/graphcrate/graphcrate/generate/VertexRenaming" "multipliers" "[J" (.ref b32) := f136.other W142 (Or.inl ne_a0_b13)
  have f150 : Fld Z h142 a0 "com/example/graphcrate/graphcrate/generate/VertexRenaming" "mask" "J" (.long (own_ushrL (-1 : Int64) ((64 : Int32) - p1))) := f137.other W142 (Or.inl ne_a0_b13)
  have f151 : Fld Z h142 a0 "com/example/graphcrate/graphcrate/generate/VertexRenaming" "fold" "I" (.int ((p1 + (1 : Int32)) / (2 : Int32))) := f138.other W142 (Or.inl ne_a0_b13)
  have f152 : own_AJ Z h142 b32 .long 4 (own_upd (fun _ => 0) 0 ((own_mix ((w1 + (-7046029254386353131 : Int64)) + (-7046029254386353131 : Int64))) ||| (1 : Int64))) := f140.other W142 (Ne.symm ne_b13_b32)
  have f153 : Fld Z h142 a2 "com/example/graphcrate/graphcrate/generate/SplitMix64" "counter" "J" (.long (((w1 + (-7046029254386353131 : Int64)) + (-7046029254386353131 : Int64)) + (-7046029254386353131 : Int64))) := f130_1.other W142 (Or.inl ne_a2_b13)
  have f143 : own_AJ Z h142 b13 .long 4 (own_upd (own_upd (fun _ => 0) 0 (own_mix (w1 + (-7046029254386353131 : Int64)))) 1 (own_mix (((w1 + (-7046029254386353131 : Int64)) + (-7046029254386353131 : Int64)) + (-7046029254386353131 : Int64)))) := own_AJ.set Ar141 S141 M141 H141 W142
  have Z142 : n0 ≤ h142.size := Nat.le_trans Z130 (Keep.of_wr W142).1
  have K142 : Keep h0 h142 [a0, a2] := K130.wr W142 (Or.inr sz_b13)
  have N142 := Fr.snoc X142 N130 g_b13
  refine own_go (S' := T142.setTop (mkF m 81 #[.val (.ref a0), .val (.int p1), .val (.ref a2), .val (.int (1 : Int32))] [])) st142 ?_
  refine own_go (S' := T142.setTop (mkF m 82 #[.val (.ref a0), .val (.int p1), .val (.ref a2), .val (.int (1 : Int32))] [(.ref a0)])) (fun target kt => ?_) ?_
  · skip
    show Steps p.tables e below (T142.setTop (mkF m 81 #[.val (.ref a0), .val (.int p1), .val (.ref a2), .val (.int (1 : Int32))] [])) _
    refine XS.aloadN X142.here hx rfl (hb hby d3_81) rfl rfl ?_
    exact kt
  obtain ⟨T154, X154, e154, st154⟩ := getF X142 hx hZ hown (host := "") (Or.inl (hw _ (List.mem_of_getElem? (i := 22) rfl))) Via.refl e142 f149 (g := (mkF m 82 #[.val (.ref a0), .val (.int p1), .val (.ref a2), .val (.int (1 : Int32))] [(.ref a0)])) rfl rfl (hb hby d3_82)
  refine own_go (S' := T154.setTop (mkF m 85 #[.val (.ref a0), .val (.int p1), .val (.ref a2), .val (.int (1 : Int32))] [(.ref b32)])) st154 ?_
  refine own_go (S' := T154.setTop (mkF m 87 #[.val (.ref a0), .val (.int p1), .val (.ref a2), .val (.int (1 : Int32))] [(.ref a2), (.int (1 : Int32)), (.ref b32)])) (fun target kt => ?_) ?_
  · skip
    show Steps p.tables e below (T154.setTop (mkF m 85 #[.val (.ref a0), .val (.int p1), .val (.ref a2), .val (.int (1 : Int32))] [(.ref b32)])) _
    refine XS.iloadN X154.here hx rfl (hb hby d3_85) rfl ?_
    show Steps p.tables e below (T154.setTop (mkF m 86 #[.val (.ref a0), .val (.int p1), .val (.ref a2), .val (.int (1 : Int32))] [(.int (1 : Int32)), (.ref b32)])) _
    refine XS.aloadN X154.here hx rfl (hb hby d3_86) rfl rfl ?_
    exact kt
  obtain ⟨cq155, kq155, q155a, q155b, q155c⟩ := isOf hZ e154 f145
  obtain ⟨_, _, ⟨T155, L155, k155, n155⟩, -, X155, ⟨Lc155, hQ155, l155, y155, z155⟩, st155⟩ := X154.virtualBack hx (y := (⟨"com/example/graphcrate/graphcrate/generate/SplitMix64", "nextLong", "()J"⟩ : MethodName)) (z := (⟨"com/example/graphcrate/graphcrate/generate/SplitMix64", "nextLong", "()J"⟩ : MethodName)) hown (mvT hZ (hw _ (List.mem_of_getElem? (i := 29) rfl))) (mvT hZ (hw _ (List.mem_of_getElem? (i := 30) rfl))) (notFace_of_selects (args := #[]) (mvT hZ (hw _ (List.mem_of_getElem? (i := 32) rfl)))) (mvT hZ (hw _ (List.mem_of_getElem? (i := 32) rfl))) (mvT hZ (hw _ (List.mem_of_getElem? (i := 31) rfl))) (by decide) (backOf (W := 2) (rm4 l Z aZ hw [] a2 (((w1 + (-7046029254386353131 : Int64)) + (-7046029254386353131 : Int64)) + (-7046029254386353131 : Int64)) h142 n0 Z142 f145 f153 g_a2) hZ (hw _ (List.mem_of_getElem? (i := 33) rfl)) (hw _ (List.mem_of_getElem? (i := 6) rfl)) (by decide) (by decide)) q155a q155c (g := (mkF m 87 #[.val (.ref a0), .val (.int p1), .val (.ref a2), .val (.int (1 : Int32))] [(.ref a2), (.int (1 : Int32)), (.ref b32)])) rfl (by rw [hml]; rfl) (Steps.refl _) (argsL := []) (rest := [(.int (1 : Int32)), (.ref b32)]) (lenOf own_pd2 rfl) rfl (by show 2 * 0 + _ ≤ _; exact Nat.le_of_eq rfl) (hb hby d3_87) (fun _ _ => ⟨rfl, e154, (by decide : 2 + 0 ≤ _), (by decide : 8 + 0 ≤ _)⟩)
  dsimp only [Pt.U, Pt.locs, Pt.cells, Pt.slots] at X155 l155 y155 z155 st155 hQ155
  subst l155 y155 z155
  obtain ⟨rfl, N155q, K155q, f155_0, f155_1⟩ := hQ155
  have N155 := Fr.app N142 N155q
  have f156 : Exa Z T155.heap a0 "com/example/graphcrate/graphcrate/generate/VertexRenaming" := f144.keep K155q
  have f157 : Exa Z T155.heap a2 "com/example/graphcrate/graphcrate/generate/SplitMix64" := f145.keep K155q
  have f158 : Exa Z T155.heap b13 "[J" := f146.keep K155q
  have f159 : Fld Z T155.heap a0 "com/example/graphcrate/graphcrate/generate/VertexRenaming" "addends" "[J" (.ref b13) := f147.keep K155q (ninS hne nin0)
  have f160 : Exa Z T155.heap b32 "[J" := f148.keep K155q
  have f161 : Fld Z T155.heap a0 "com/example/graphcrate/graphcrate/generate/VertexRenaming" "multipliers" "[J" (.ref b32) := f149.keep K155q (ninS hne nin0)
  have f162 : Fld Z T155.heap a0 "com/example/graphcrate/graphcrate/generate/VertexRenaming" "mask" "J" (.long (own_ushrL (-1 : Int64) ((64 : Int32) - p1))) := f150.keep K155q (ninS hne nin0)
  have f163 : Fld Z T155.heap a0 "com/example/graphcrate/graphcrate/generate/VertexRenaming" "fold" "I" (.int ((p1 + (1 : Int32)) / (2 : Int32))) := f151.keep K155q (ninS hne nin0)
  have f164 : own_AJ Z T155.heap b32 .long 4 (own_upd (fun _ => 0) 0 ((own_mix ((w1 + (-7046029254386353131 : Int64)) + (-7046029254386353131 : Int64))) ||| (1 : Int64))) := f152.keep K155q (ninS (Ne.symm ne_a2_b32) nin0)
  have f165 : own_AJ Z T155.heap b13 .long 4 (own_upd (own_upd (fun _ => 0) 0 (own_mix (w1 + (-7046029254386353131 : Int64)))) 1 (own_mix (((w1 + (-7046029254386353131 : Int64)) + (-7046029254386353131 : Int64)) + (-7046029254386353131 : Int64)))) := f143.keep K155q (ninS (Ne.symm ne_a2_b13) nin0)
  have Z155 : n0 ≤ T155.heap.size := Nat.le_trans Z142 K155q.1
  have K155 : Keep h0 T155.heap [a0, a2] := K142.trans K155q (allS (Or.inl (List.mem_of_getElem? (i := 1) rfl)) all0)
  refine own_go (S' := T155.setTop (mkF m 90 #[.val (.ref a0), .val (.int p1), .val (.ref a2), .val (.int (1 : Int32))] [(.long (own_mix ((((w1 + (-7046029254386353131 : Int64)) + (-7046029254386353131 : Int64)) + (-7046029254386353131 : Int64)) + (-7046029254386353131 : Int64)))), (.int (1 : Int32)), (.ref b32)])) (fun _ k => st155.trans k) ?_
  refine own_go (S' := T155.setTop (mkF m 92 #[.val (.ref a0), .val (.int p1), .val (.ref a2), .val (.int (1 : Int32))] [(.long ((own_mix ((((w1 + (-7046029254386353131 : Int64)) + (-7046029254386353131 : Int64)) + (-7046029254386353131 : Int64)) + (-7046029254386353131 : Int64))) ||| (1 : Int64))), (.int (1 : Int32)), (.ref b32)])) (fun target kt => ?_) ?_
  · skip
    show Steps p.tables e below (T155.setTop (mkF m 90 #[.val (.ref a0), .val (.int p1), .val (.ref a2), .val (.int (1 : Int32))] [(.long (own_mix ((((w1 + (-7046029254386353131 : Int64)) + (-7046029254386353131 : Int64)) + (-7046029254386353131 : Int64)) + (-7046029254386353131 : Int64)))), (.int (1 : Int32)), (.ref b32)])) _
    refine XS.lconst X155.here hx rfl (hb hby d3_90) ?_
    show Steps p.tables e below (T155.setTop (mkF m 91 #[.val (.ref a0), .val (.int p1), .val (.ref a2), .val (.int (1 : Int32))] [(.long (1 : Int64)), (.long (own_mix ((((w1 + (-7046029254386353131 : Int64)) + (-7046029254386353131 : Int64)) + (-7046029254386353131 : Int64)) + (-7046029254386353131 : Int64)))), (.int (1 : Int32)), (.ref b32)])) _
    refine XS.lor X155.here hx rfl (hb hby d3_91) rfl ?_
    exact kt
  obtain ⟨c166, Ar166, S166, M166, H166⟩ := id f164
  have hin166 : ¬ ((1 : Int32) < 0 ∨ c166.slots.size ≤ ((1 : Int32)).toNatClampNeg) := own_in S166 ⟨by decide, by decide⟩
  obtain ⟨T167, h167, X167, e167, W167, st167⟩ := stJ X155 hx hZ rfl Ar166 (j := (1 : Int32)) hin166 (g := (mkF m 92 #[.val (.ref a0), .val (.int p1), .val (.ref a2), .val (.int (1 : Int32))] [(.long ((own_mix ((((w1 + (-7046029254386353131 : Int64)) + (-7046029254386353131 : Int64)) + (-7046029254386353131 : Int64)) + (-7046029254386353131 : Int64))) ||| (1 : Int64))), (.int (1 : Int32)), (.ref b32)])) rfl rfl (hb hby d3_92)
  have f169 : Exa Z h167 a0 "com/example/graphcrate/graphcrate/generate/VertexRenaming" := f156.wr W167
  have f170 : Exa Z h167 a2 "com/example/graphcrate/graphcrate/generate/SplitMix64" := f155_0.wr W167
  have f171 : Exa Z h167 b13 "[J" := f158.wr W167
  have f172 : Fld Z h167 a0 "com/example/graphcrate/graphcrate/generate/VertexRenaming" "addends" "[J" (.ref b13) := f159.other W167 (Or.inl ne_a0_b32)
  have f173 : Exa Z h167 b32 "[J" := f160.wr W167
  have f174 : Fld Z h167 a0 "com/example/graphcrate/graphcrate/generate/VertexRenaming" "multipliers" "[J" (.ref b32) := f161.other W167 (Or.inl ne_a0_b32)
  have f175 : Fld Z h167 a0 "com/example/graphcrate/graphcrate/generate/VertexRenaming" "mask" "J" (.long (own_ushrL (-1 : Int64) ((64 : Int32) - p1))) := f162.other W167 (Or.inl ne_a0_b32)
  have f176 : Fld Z h167 a0 "com/example/graphcrate/graphcrate/generate/VertexRenaming" "fold" "I" (.int ((p1 + (1 : Int32)) / (2 : Int32))) := f163.other W167 (Or.inl ne_a0_b32)
  have f177 : own_AJ Z h167 b13 .long 4 (own_upd (own_upd (fun _ => 0) 0 (own_mix (w1 + (-7046029254386353131 : Int64)))) 1 (own_mix (((w1 + (-7046029254386353131 : Int64)) + (-7046029254386353131 : Int64)) + (-7046029254386353131 : Int64)))) := f165.other W167 ne_b13_b32
  have f178 : Fld Z h167 a2 "com/example/graphcrate/graphcrate/generate/SplitMix64" "counter" "J" (.long ((((w1 + (-7046029254386353131 : Int64)) + (-7046029254386353131 : Int64)) + (-7046029254386353131 : Int64)) + (-7046029254386353131 : Int64))) := f155_1.other W167 (Or.inl ne_a2_b32)
  have f168 : own_AJ Z h167 b32 .long 4 (own_upd (own_upd (fun _ => 0) 0 ((own_mix ((w1 + (-7046029254386353131 : Int64)) + (-7046029254386353131 : Int64))) ||| (1 : Int64))) 1 ((own_mix ((((w1 + (-7046029254386353131 : Int64)) + (-7046029254386353131 : Int64)) + (-7046029254386353131 : Int64)) + (-7046029254386353131 : Int64))) ||| (1 : Int64))) := own_AJ.set Ar166 S166 M166 H166 W167
  have Z167 : n0 ≤ h167.size := Nat.le_trans Z155 (Keep.of_wr W167).1
  have K167 : Keep h0 h167 [a0, a2] := K155.wr W167 (Or.inr sz_b32)
  have N167 := Fr.snoc X167 N155 g_b32
  refine own_go (S' := T167.setTop (mkF m 93 #[.val (.ref a0), .val (.int p1), .val (.ref a2), .val (.int (1 : Int32))] [])) st167 ?_
  refine own_go (S' := T167.setTop (mkF m 72 #[.val (.ref a0), .val (.int p1), .val (.ref a2), .val (.int (2 : Int32))] [(.ref a0)])) (fun target kt => ?_) ?_
  · skip
    show Steps p.tables e below (T167.setTop (mkF m 93 #[.val (.ref a0), .val (.int p1), .val (.ref a2), .val (.int (1 : Int32))] [])) _
    refine XS.iinc X167.here hx rfl (hb hby d3_93) rfl (l' := #[.val (.ref a0), .val (.int p1), .val (.ref a2), .val (.int ((1 : Int32) + (1 : Int32)))]) rfl ?_
    rw [show ((1 : Int32) + (1 : Int32)) = (2 : Int32) from by decide]
    show Steps p.tables e below (T167.setTop (mkF m 96 #[.val (.ref a0), .val (.int p1), .val (.ref a2), .val (.int (2 : Int32))] [])) _
    refine XS.goto X167.here hx rfl (pc0 := 96) (pc' := 66) rfl (hb hby d3_96) (by decide) (by decide) ?_
    show Steps p.tables e below (T167.setTop (mkF m 66 #[.val (.ref a0), .val (.int p1), .val (.ref a2), .val (.int (2 : Int32))] [])) _
    refine XS.iloadN X167.here hx rfl (hb hby d3_66) rfl ?_
    show Steps p.tables e below (T167.setTop (mkF m 67 #[.val (.ref a0), .val (.int p1), .val (.ref a2), .val (.int (2 : Int32))] [(.int (2 : Int32))])) _
    refine XS.iconst X167.here hx rfl (hb hby d3_67) ?_
    show Steps p.tables e below (T167.setTop (mkF m 68 #[.val (.ref a0), .val (.int p1), .val (.ref a2), .val (.int (2 : Int32))] [(.int (4 : Int32)), (.int (2 : Int32))])) _
    refine XS.icmpNo X167.here hx rfl (hb hby d3_68) rfl (tlt (by decide : (2 : Int32) < (4 : Int32))).2.1 ?_
    show Steps p.tables e below (T167.setTop (mkF m 71 #[.val (.ref a0), .val (.int p1), .val (.ref a2), .val (.int (2 : Int32))] [])) _
    refine XS.aloadN X167.here hx rfl (hb hby d3_71) rfl rfl ?_
    exact kt
  obtain ⟨T179, X179, e179, st179⟩ := getF X167 hx hZ hown (host := "") (Or.inl (hw _ (List.mem_of_getElem? (i := 20) rfl))) Via.refl e167 f172 (g := (mkF m 72 #[.val (.ref a0), .val (.int p1), .val (.ref a2), .val (.int (2 : Int32))] [(.ref a0)])) rfl rfl (hb hby d3_72)
  refine own_go (S' := T179.setTop (mkF m 75 #[.val (.ref a0), .val (.int p1), .val (.ref a2), .val (.int (2 : Int32))] [(.ref b13)])) st179 ?_
  refine own_go (S' := T179.setTop (mkF m 77 #[.val (.ref a0), .val (.int p1), .val (.ref a2), .val (.int (2 : Int32))] [(.ref a2), (.int (2 : Int32)), (.ref b13)])) (fun target kt => ?_) ?_
  · skip
    show Steps p.tables e below (T179.setTop (mkF m 75 #[.val (.ref a0), .val (.int p1), .val (.ref a2), .val (.int (2 : Int32))] [(.ref b13)])) _
    refine XS.iloadN X179.here hx rfl (hb hby d3_75) rfl ?_
    show Steps p.tables e below (T179.setTop (mkF m 76 #[.val (.ref a0), .val (.int p1), .val (.ref a2), .val (.int (2 : Int32))] [(.int (2 : Int32)), (.ref b13)])) _
    refine XS.aloadN X179.here hx rfl (hb hby d3_76) rfl rfl ?_
    exact kt
  obtain ⟨cq180, kq180, q180a, q180b, q180c⟩ := isOf hZ e179 f170
  obtain ⟨_, _, ⟨T180, L180, k180, n180⟩, -, X180, ⟨Lc180, hQ180, l180, y180, z180⟩, st180⟩ := X179.virtualBack hx (y := (⟨"com/example/graphcrate/graphcrate/generate/SplitMix64", "nextLong", "()J"⟩ : MethodName)) (z := (⟨"com/example/graphcrate/graphcrate/generate/SplitMix64", "nextLong", "()J"⟩ : MethodName)) hown (mvT hZ (hw _ (List.mem_of_getElem? (i := 29) rfl))) (mvT hZ (hw _ (List.mem_of_getElem? (i := 30) rfl))) (notFace_of_selects (args := #[]) (mvT hZ (hw _ (List.mem_of_getElem? (i := 32) rfl)))) (mvT hZ (hw _ (List.mem_of_getElem? (i := 32) rfl))) (mvT hZ (hw _ (List.mem_of_getElem? (i := 31) rfl))) (by decide) (backOf (W := 2) (rm4 l Z aZ hw [] a2 ((((w1 + (-7046029254386353131 : Int64)) + (-7046029254386353131 : Int64)) + (-7046029254386353131 : Int64)) + (-7046029254386353131 : Int64)) h167 n0 Z167 f170 f178 g_a2) hZ (hw _ (List.mem_of_getElem? (i := 33) rfl)) (hw _ (List.mem_of_getElem? (i := 6) rfl)) (by decide) (by decide)) q180a q180c (g := (mkF m 77 #[.val (.ref a0), .val (.int p1), .val (.ref a2), .val (.int (2 : Int32))] [(.ref a2), (.int (2 : Int32)), (.ref b13)])) rfl (by rw [hml]; rfl) (Steps.refl _) (argsL := []) (rest := [(.int (2 : Int32)), (.ref b13)]) (lenOf own_pd2 rfl) rfl (by show 2 * 0 + _ ≤ _; exact Nat.le_of_eq rfl) (hb hby d3_77) (fun _ _ => ⟨rfl, e179, (by decide : 2 + 0 ≤ _), (by decide : 8 + 0 ≤ _)⟩)
  dsimp only [Pt.U, Pt.locs, Pt.cells, Pt.slots] at X180 l180 y180 z180 st180 hQ180
  subst l180 y180 z180
  obtain ⟨rfl, N180q, K180q, f180_0, f180_1⟩ := hQ180
  have N180 := Fr.app N167 N180q
  have f181 : Exa Z T180.heap a0 "com/example/graphcrate/graphcrate/generate/VertexRenaming" := f169.keep K180q
  have f182 : Exa Z T180.heap a2 "com/example/graphcrate/graphcrate/generate/SplitMix64" := f170.keep K180q
  have f183 : Exa Z T180.heap b13 "[J" := f171.keep K180q
  have f184 : Fld Z T180.heap a0 "com/example/graphcrate/graphcrate/generate/VertexRenaming" "addends" "[J" (.ref b13) := f172.keep K180q (ninS hne nin0)
  have f185 : Exa Z T180.heap b32 "[J" := f173.keep K180q
  have f186 : Fld Z T180.heap a0 "com/example/graphcrate/graphcrate/generate/VertexRenaming" "multipliers" "[J" (.ref b32) := f174.keep K180q (ninS hne nin0)
  have f187 : Fld Z T180.heap a0 "com/example/graphcrate/graphcrate/generate/VertexRenaming" "mask" "J" (.long (own_ushrL (-1 : Int64) ((64 : Int32) - p1))) := f175.keep K180q (ninS hne nin0)
  have f188 : Fld Z T180.heap a0 "com/example/graphcrate/graphcrate/generate/VertexRenaming" "fold" "I" (.int ((p1 + (1 : Int32)) / (2 : Int32))) := f176.keep K180q (ninS hne nin0)
  have f189 : own_AJ Z T180.heap b13 .long 4 (own_upd (own_upd (fun _ => 0) 0 (own_mix (w1 + (-7046029254386353131 : Int64)))) 1 (own_mix (((w1 + (-7046029254386353131 : Int64)) + (-7046029254386353131 : Int64)) + (-7046029254386353131 : Int64)))) := f177.keep K180q (ninS (Ne.symm ne_a2_b13) nin0)
  have f190 : own_AJ Z T180.heap b32 .long 4 (own_upd (own_upd (fun _ => 0) 0 ((own_mix ((w1 + (-7046029254386353131 : Int64)) + (-7046029254386353131 : Int64))) ||| (1 : Int64))) 1 ((own_mix ((((w1 + (-7046029254386353131 : Int64)) + (-7046029254386353131 : Int64)) + (-7046029254386353131 : Int64)) + (-7046029254386353131 : Int64))) ||| (1 : Int64))) := f168.keep K180q (ninS (Ne.symm ne_a2_b32) nin0)
  have Z180 : n0 ≤ T180.heap.size := Nat.le_trans Z167 K180q.1
  have K180 : Keep h0 T180.heap [a0, a2] := K167.trans K180q (allS (Or.inl (List.mem_of_getElem? (i := 1) rfl)) all0)
  refine own_go (S' := T180.setTop (mkF m 80 #[.val (.ref a0), .val (.int p1), .val (.ref a2), .val (.int (2 : Int32))] [(.long (own_mix (((((w1 + (-7046029254386353131 : Int64)) + (-7046029254386353131 : Int64)) + (-7046029254386353131 : Int64)) + (-7046029254386353131 : Int64)) + (-7046029254386353131 : Int64)))), (.int (2 : Int32)), (.ref b13)])) (fun _ k => st180.trans k) ?_
  obtain ⟨c191, Ar191, S191, M191, H191⟩ := id f189
  have hin191 : ¬ ((2 : Int32) < 0 ∨ c191.slots.size ≤ ((2 : Int32)).toNatClampNeg) := own_in S191 ⟨by decide, by decide⟩
  obtain ⟨T192, h192, X192, e192, W192, st192⟩ := stJ X180 hx hZ rfl Ar191 (j := (2 : Int32)) hin191 (g := (mkF m 80 #[.val (.ref a0), .val (.int p1), .val (.ref a2), .val (.int (2 : Int32))] [(.long (own_mix (((((w1 + (-7046029254386353131 : Int64)) + (-7046029254386353131 : Int64)) + (-7046029254386353131 : Int64)) + (-7046029254386353131 : Int64)) + (-7046029254386353131 : Int64)))), (.int (2 : Int32)), (.ref b13)])) rfl rfl (hb hby d3_80)
  have f194 : Exa Z h192 a0 "com/example/graphcrate/graphcrate/generate/VertexRenaming" := f181.wr W192
  have f195 : Exa Z h192 a2 "com/example/graphcrate/graphcrate/generate/SplitMix64" := f180_0.wr W192
  have f196 : Exa Z h192 b13 "[J" := f183.wr W192
  have f197 : Fld Z h192 a0 "com/example/graphcrate/graphcrate/generate/VertexRenaming" "addends" "[J" (.ref b13) := f184.other W192 (Or.inl ne_a0_b13)
  have f198 : Exa Z h192 b32 "[J" := f185.wr W192
  have f199 : Fld Z h192 a0 "com/example/graphcrate/graphcrate/generate/VertexRenaming" "multipliers" "[J" (.ref b32) := f186.other W192 (Or.inl ne_a0_b13)
  have f200 : Fld Z h192 a0 "com/example/graphcrate/graphcrate/generate/VertexRenaming" "mask" "J" (.long (own_ushrL (-1 : Int64) ((64 : Int32) - p1))) := f187.other W192 (Or.inl ne_a0_b13)
  have f201 : Fld Z h192 a0 "com/example/graphcrate/graphcrate/generate/VertexRenaming" "fold" "I" (.int ((p1 + (1 : Int32)) / (2 : Int32))) := f188.other W192 (Or.inl ne_a0_b13)
  have f202 : own_AJ Z h192 b32 .long 4 (own_upd (own_upd (fun _ => 0) 0 ((own_mix ((w1 + (-7046029254386353131 : Int64)) + (-7046029254386353131 : Int64))) ||| (1 : Int64))) 1 ((own_mix ((((w1 + (-7046029254386353131 : Int64)) + (-7046029254386353131 : Int64)) + (-7046029254386353131 : Int64)) + (-7046029254386353131 : Int64))) ||| (1 : Int64))) := f190.other W192 (Ne.symm ne_b13_b32)
  have f203 : Fld Z h192 a2 "com/example/graphcrate/graphcrate/generate/SplitMix64" "counter" "J" (.long (((((w1 + (-7046029254386353131 : Int64)) + (-7046029254386353131 : Int64)) + (-7046029254386353131 : Int64)) + (-7046029254386353131 : Int64)) + (-7046029254386353131 : Int64))) := f180_1.other W192 (Or.inl ne_a2_b13)
  have f193 : own_AJ Z h192 b13 .long 4 (own_upd (own_upd (own_upd (fun _ => 0) 0 (own_mix (w1 + (-7046029254386353131 : Int64)))) 1 (own_mix (((w1 + (-7046029254386353131 : Int64)) + (-7046029254386353131 : Int64)) + (-7046029254386353131 : Int64)))) 2 (own_mix (((((w1 + (-7046029254386353131 : Int64)) + (-7046029254386353131 : Int64)) + (-7046029254386353131 : Int64)) + (-7046029254386353131 : Int64)) + (-7046029254386353131 : Int64)))) := own_AJ.set Ar191 S191 M191 H191 W192
  have Z192 : n0 ≤ h192.size := Nat.le_trans Z180 (Keep.of_wr W192).1
  have K192 : Keep h0 h192 [a0, a2] := K180.wr W192 (Or.inr sz_b13)
  have N192 := Fr.snoc X192 N180 g_b13
  refine own_go (S' := T192.setTop (mkF m 81 #[.val (.ref a0), .val (.int p1), .val (.ref a2), .val (.int (2 : Int32))] [])) st192 ?_
  refine own_go (S' := T192.setTop (mkF m 82 #[.val (.ref a0), .val (.int p1), .val (.ref a2), .val (.int (2 : Int32))] [(.ref a0)])) (fun target kt => ?_) ?_
  · skip
    show Steps p.tables e below (T192.setTop (mkF m 81 #[.val (.ref a0), .val (.int p1), .val (.ref a2), .val (.int (2 : Int32))] [])) _
    refine XS.aloadN X192.here hx rfl (hb hby d3_81) rfl rfl ?_
    exact kt
  obtain ⟨T204, X204, e204, st204⟩ := getF X192 hx hZ hown (host := "") (Or.inl (hw _ (List.mem_of_getElem? (i := 22) rfl))) Via.refl e192 f199 (g := (mkF m 82 #[.val (.ref a0), .val (.int p1), .val (.ref a2), .val (.int (2 : Int32))] [(.ref a0)])) rfl rfl (hb hby d3_82)
  refine own_go (S' := T204.setTop (mkF m 85 #[.val (.ref a0), .val (.int p1), .val (.ref a2), .val (.int (2 : Int32))] [(.ref b32)])) st204 ?_
  refine own_go (S' := T204.setTop (mkF m 87 #[.val (.ref a0), .val (.int p1), .val (.ref a2), .val (.int (2 : Int32))] [(.ref a2), (.int (2 : Int32)), (.ref b32)])) (fun target kt => ?_) ?_
  · skip
    show Steps p.tables e below (T204.setTop (mkF m 85 #[.val (.ref a0), .val (.int p1), .val (.ref a2), .val (.int (2 : Int32))] [(.ref b32)])) _
    refine XS.iloadN X204.here hx rfl (hb hby d3_85) rfl ?_
    show Steps p.tables e below (T204.setTop (mkF m 86 #[.val (.ref a0), .val (.int p1), .val (.ref a2), .val (.int (2 : Int32))] [(.int (2 : Int32)), (.ref b32)])) _
    refine XS.aloadN X204.here hx rfl (hb hby d3_86) rfl rfl ?_
    exact kt
  obtain ⟨cq205, kq205, q205a, q205b, q205c⟩ := isOf hZ e204 f195
  obtain ⟨_, _, ⟨T205, L205, k205, n205⟩, -, X205, ⟨Lc205, hQ205, l205, y205, z205⟩, st205⟩ := X204.virtualBack hx (y := (⟨"com/example/graphcrate/graphcrate/generate/SplitMix64", "nextLong", "()J"⟩ : MethodName)) (z := (⟨"com/example/graphcrate/graphcrate/generate/SplitMix64", "nextLong", "()J"⟩ : MethodName)) hown (mvT hZ (hw _ (List.mem_of_getElem? (i := 29) rfl))) (mvT hZ (hw _ (List.mem_of_getElem? (i := 30) rfl))) (notFace_of_selects (args := #[]) (mvT hZ (hw _ (List.mem_of_getElem? (i := 32) rfl)))) (mvT hZ (hw _ (List.mem_of_getElem? (i := 32) rfl))) (mvT hZ (hw _ (List.mem_of_getElem? (i := 31) rfl))) (by decide) (backOf (W := 2) (rm4 l Z aZ hw [] a2 (((((w1 + (-7046029254386353131 : Int64)) + (-7046029254386353131 : Int64)) + (-7046029254386353131 : Int64)) + (-7046029254386353131 : Int64)) + (-7046029254386353131 : Int64)) h192 n0 Z192 f195 f203 g_a2) hZ (hw _ (List.mem_of_getElem? (i := 33) rfl)) (hw _ (List.mem_of_getElem? (i := 6) rfl)) (by decide) (by decide)) q205a q205c (g := (mkF m 87 #[.val (.ref a0), .val (.int p1), .val (.ref a2), .val (.int (2 : Int32))] [(.ref a2), (.int (2 : Int32)), (.ref b32)])) rfl (by rw [hml]; rfl) (Steps.refl _) (argsL := []) (rest := [(.int (2 : Int32)), (.ref b32)]) (lenOf own_pd2 rfl) rfl (by show 2 * 0 + _ ≤ _; exact Nat.le_of_eq rfl) (hb hby d3_87) (fun _ _ => ⟨rfl, e204, (by decide : 2 + 0 ≤ _), (by decide : 8 + 0 ≤ _)⟩)
  dsimp only [Pt.U, Pt.locs, Pt.cells, Pt.slots] at X205 l205 y205 z205 st205 hQ205
  subst l205 y205 z205
  obtain ⟨rfl, N205q, K205q, f205_0, f205_1⟩ := hQ205
  have N205 := Fr.app N192 N205q
  have f206 : Exa Z T205.heap a0 "com/example/graphcrate/graphcrate/generate/VertexRenaming" := f194.keep K205q
  have f207 : Exa Z T205.heap a2 "com/example/graphcrate/graphcrate/generate/SplitMix64" := f195.keep K205q
  have f208 : Exa Z T205.heap b13 "[J" := f196.keep K205q
  have f209 : Fld Z T205.heap a0 "com/example/graphcrate/graphcrate/generate/VertexRenaming" "addends" "[J" (.ref b13) := f197.keep K205q (ninS hne nin0)
  have f210 : Exa Z T205.heap b32 "[J" := f198.keep K205q
  have f211 : Fld Z T205.heap a0 "com/example/graphcrate/graphcrate/generate/VertexRenaming" "multipliers" "[J" (.ref b32) := f199.keep K205q (ninS hne nin0)
  have f212 : Fld Z T205.heap a0 "com/example/graphcrate/graphcrate/generate/VertexRenaming" "mask" "J" (.long (own_ushrL (-1 : Int64) ((64 : Int32) - p1))) := f200.keep K205q (ninS hne nin0)
  have f213 : Fld Z T205.heap a0 "com/example/graphcrate/graphcrate/generate/VertexRenaming" "fold" "I" (.int ((p1 + (1 : Int32)) / (2 : Int32))) := f201.keep K205q (ninS hne nin0)
  have f214 : own_AJ Z T205.heap b32 .long 4 (own_upd (own_upd (fun _ => 0) 0 ((own_mix ((w1 + (-7046029254386353131 : Int64)) + (-7046029254386353131 : Int64))) ||| (1 : Int64))) 1 ((own_mix ((((w1 + (-7046029254386353131 : Int64)) + (-7046029254386353131 : Int64)) + (-7046029254386353131 : Int64)) + (-7046029254386353131 : Int64))) ||| (1 : Int64))) := f202.keep K205q (ninS (Ne.symm ne_a2_b32) nin0)
  have f215 : own_AJ Z T205.heap b13 .long 4 (own_upd (own_upd (own_upd (fun _ => 0) 0 (own_mix (w1 + (-7046029254386353131 : Int64)))) 1 (own_mix (((w1 + (-7046029254386353131 : Int64)) + (-7046029254386353131 : Int64)) + (-7046029254386353131 : Int64)))) 2 (own_mix (((((w1 + (-7046029254386353131 : Int64)) + (-7046029254386353131 : Int64)) + (-7046029254386353131 : Int64)) + (-7046029254386353131 : Int64)) + (-7046029254386353131 : Int64)))) := f193.keep K205q (ninS (Ne.symm ne_a2_b13) nin0)
  have Z205 : n0 ≤ T205.heap.size := Nat.le_trans Z192 K205q.1
  have K205 : Keep h0 T205.heap [a0, a2] := K192.trans K205q (allS (Or.inl (List.mem_of_getElem? (i := 1) rfl)) all0)
  refine own_go (S' := T205.setTop (mkF m 90 #[.val (.ref a0), .val (.int p1), .val (.ref a2), .val (.int (2 : Int32))] [(.long (own_mix ((((((w1 + (-7046029254386353131 : Int64)) + (-7046029254386353131 : Int64)) + (-7046029254386353131 : Int64)) + (-7046029254386353131 : Int64)) + (-7046029254386353131 : Int64)) + (-7046029254386353131 : Int64)))), (.int (2 : Int32)), (.ref b32)])) (fun _ k => st205.trans k) ?_
  refine own_go (S' := T205.setTop (mkF m 92 #[.val (.ref a0), .val (.int p1), .val (.ref a2), .val (.int (2 : Int32))] [(.long ((own_mix ((((((w1 + (-7046029254386353131 : Int64)) + (-7046029254386353131 : Int64)) + (-7046029254386353131 : Int64)) + (-7046029254386353131 : Int64)) + (-7046029254386353131 : Int64)) + (-7046029254386353131 : Int64))) ||| (1 : Int64))), (.int (2 : Int32)), (.ref b32)])) (fun target kt => ?_) ?_
  · skip
    show Steps p.tables e below (T205.setTop (mkF m 90 #[.val (.ref a0), .val (.int p1), .val (.ref a2), .val (.int (2 : Int32))] [(.long (own_mix ((((((w1 + (-7046029254386353131 : Int64)) + (-7046029254386353131 : Int64)) + (-7046029254386353131 : Int64)) + (-7046029254386353131 : Int64)) + (-7046029254386353131 : Int64)) + (-7046029254386353131 : Int64)))), (.int (2 : Int32)), (.ref b32)])) _
    refine XS.lconst X205.here hx rfl (hb hby d3_90) ?_
    show Steps p.tables e below (T205.setTop (mkF m 91 #[.val (.ref a0), .val (.int p1), .val (.ref a2), .val (.int (2 : Int32))] [(.long (1 : Int64)), (.long (own_mix ((((((w1 + (-7046029254386353131 : Int64)) + (-7046029254386353131 : Int64)) + (-7046029254386353131 : Int64)) + (-7046029254386353131 : Int64)) + (-7046029254386353131 : Int64)) + (-7046029254386353131 : Int64)))), (.int (2 : Int32)), (.ref b32)])) _
    refine XS.lor X205.here hx rfl (hb hby d3_91) rfl ?_
    exact kt
  obtain ⟨c216, Ar216, S216, M216, H216⟩ := id f214
  have hin216 : ¬ ((2 : Int32) < 0 ∨ c216.slots.size ≤ ((2 : Int32)).toNatClampNeg) := own_in S216 ⟨by decide, by decide⟩
  obtain ⟨T217, h217, X217, e217, W217, st217⟩ := stJ X205 hx hZ rfl Ar216 (j := (2 : Int32)) hin216 (g := (mkF m 92 #[.val (.ref a0), .val (.int p1), .val (.ref a2), .val (.int (2 : Int32))] [(.long ((own_mix ((((((w1 + (-7046029254386353131 : Int64)) + (-7046029254386353131 : Int64)) + (-7046029254386353131 : Int64)) + (-7046029254386353131 : Int64)) + (-7046029254386353131 : Int64)) + (-7046029254386353131 : Int64))) ||| (1 : Int64))), (.int (2 : Int32)), (.ref b32)])) rfl rfl (hb hby d3_92)
  have f219 : Exa Z h217 a0 "com/example/graphcrate/graphcrate/generate/VertexRenaming" := f206.wr W217
  have f220 : Exa Z h217 a2 "com/example/graphcrate/graphcrate/generate/SplitMix64" := f205_0.wr W217
  have f221 : Exa Z h217 b13 "[J" := f208.wr W217
  have f222 : Fld Z h217 a0 "com/example/graphcrate/graphcrate/generate/VertexRenaming" "addends" "[J" (.ref b13) := f209.other W217 (Or.inl ne_a0_b32)
  have f223 : Exa Z h217 b32 "[J" := f210.wr W217
  have f224 : Fld Z h217 a0 "com/example/graphcrate/graphcrate/generate/VertexRenaming" "multipliers" "[J" (.ref b32) := f211.other W217 (Or.inl ne_a0_b32)
  have f225 : Fld Z h217 a0 "com/example/graphcrate/graphcrate/generate/VertexRenaming" "mask" "J" (.long (own_ushrL (-1 : Int64) ((64 : Int32) - p1))) := f212.other W217 (Or.inl ne_a0_b32)
  have f226 : Fld Z h217 a0 "com/example/graphcrate/graphcrate/generate/VertexRenaming" "fold" "I" (.int ((p1 + (1 : Int32)) / (2 : Int32))) := f213.other W217 (Or.inl ne_a0_b32)
  have f227 : own_AJ Z h217 b13 .long 4 (own_upd (own_upd (own_upd (fun _ => 0) 0 (own_mix (w1 + (-7046029254386353131 : Int64)))) 1 (own_mix (((w1 + (-7046029254386353131 : Int64)) + (-7046029254386353131 : Int64)) + (-7046029254386353131 : Int64)))) 2 (own_mix (((((w1 + (-7046029254386353131 : Int64)) + (-7046029254386353131 : Int64)) + (-7046029254386353131 : Int64)) + (-7046029254386353131 : Int64)) + (-7046029254386353131 : Int64)))) := f215.other W217 ne_b13_b32
  have f228 : Fld Z h217 a2 "com/example/graphcrate/graphcrate/generate/SplitMix64" "counter" "J" (.long ((((((w1 + (-7046029254386353131 : Int64)) + (-7046029254386353131 : Int64)) + (-7046029254386353131 : Int64)) + (-7046029254386353131 : Int64)) + (-7046029254386353131 : Int64)) + (-7046029254386353131 : Int64))) := f205_1.other W217 (Or.inl ne_a2_b32)
  have f218 : own_AJ Z h217 b32 .long 4 (own_upd (own_upd (own_upd (fun _ => 0) 0 ((own_mix ((w1 + (-7046029254386353131 : Int64)) + (-7046029254386353131 : Int64))) ||| (1 : Int64))) 1 ((own_mix ((((w1 + (-7046029254386353131 : Int64)) + (-7046029254386353131 : Int64)) + (-7046029254386353131 : Int64)) + (-7046029254386353131 : Int64))) ||| (1 : Int64))) 2 ((own_mix ((((((w1 + (-7046029254386353131 : Int64)) + (-7046029254386353131 : Int64)) + (-7046029254386353131 : Int64)) + (-7046029254386353131 : Int64)) + (-7046029254386353131 : Int64)) + (-7046029254386353131 : Int64))) ||| (1 : Int64))) := own_AJ.set Ar216 S216 M216 H216 W217
  have Z217 : n0 ≤ h217.size := Nat.le_trans Z205 (Keep.of_wr W217).1
  have K217 : Keep h0 h217 [a0, a2] := K205.wr W217 (Or.inr sz_b32)
  have N217 := Fr.snoc X217 N205 g_b32
  refine own_go (S' := T217.setTop (mkF m 93 #[.val (.ref a0), .val (.int p1), .val (.ref a2), .val (.int (2 : Int32))] [])) st217 ?_
  refine own_go (S' := T217.setTop (mkF m 72 #[.val (.ref a0), .val (.int p1), .val (.ref a2), .val (.int (3 : Int32))] [(.ref a0)])) (fun target kt => ?_) ?_
  · skip
    show Steps p.tables e below (T217.setTop (mkF m 93 #[.val (.ref a0), .val (.int p1), .val (.ref a2), .val (.int (2 : Int32))] [])) _
    refine XS.iinc X217.here hx rfl (hb hby d3_93) rfl (l' := #[.val (.ref a0), .val (.int p1), .val (.ref a2), .val (.int ((2 : Int32) + (1 : Int32)))]) rfl ?_
    rw [show ((2 : Int32) + (1 : Int32)) = (3 : Int32) from by decide]
    show Steps p.tables e below (T217.setTop (mkF m 96 #[.val (.ref a0), .val (.int p1), .val (.ref a2), .val (.int (3 : Int32))] [])) _
    refine XS.goto X217.here hx rfl (pc0 := 96) (pc' := 66) rfl (hb hby d3_96) (by decide) (by decide) ?_
    show Steps p.tables e below (T217.setTop (mkF m 66 #[.val (.ref a0), .val (.int p1), .val (.ref a2), .val (.int (3 : Int32))] [])) _
    refine XS.iloadN X217.here hx rfl (hb hby d3_66) rfl ?_
    show Steps p.tables e below (T217.setTop (mkF m 67 #[.val (.ref a0), .val (.int p1), .val (.ref a2), .val (.int (3 : Int32))] [(.int (3 : Int32))])) _
    refine XS.iconst X217.here hx rfl (hb hby d3_67) ?_
    show Steps p.tables e below (T217.setTop (mkF m 68 #[.val (.ref a0), .val (.int p1), .val (.ref a2), .val (.int (3 : Int32))] [(.int (4 : Int32)), (.int (3 : Int32))])) _
    refine XS.icmpNo X217.here hx rfl (hb hby d3_68) rfl (tlt (by decide : (3 : Int32) < (4 : Int32))).2.1 ?_
    show Steps p.tables e below (T217.setTop (mkF m 71 #[.val (.ref a0), .val (.int p1), .val (.ref a2), .val (.int (3 : Int32))] [])) _
    refine XS.aloadN X217.here hx rfl (hb hby d3_71) rfl rfl ?_
    exact kt
  obtain ⟨T229, X229, e229, st229⟩ := getF X217 hx hZ hown (host := "") (Or.inl (hw _ (List.mem_of_getElem? (i := 20) rfl))) Via.refl e217 f222 (g := (mkF m 72 #[.val (.ref a0), .val (.int p1), .val (.ref a2), .val (.int (3 : Int32))] [(.ref a0)])) rfl rfl (hb hby d3_72)
  refine own_go (S' := T229.setTop (mkF m 75 #[.val (.ref a0), .val (.int p1), .val (.ref a2), .val (.int (3 : Int32))] [(.ref b13)])) st229 ?_
  refine own_go (S' := T229.setTop (mkF m 77 #[.val (.ref a0), .val (.int p1), .val (.ref a2), .val (.int (3 : Int32))] [(.ref a2), (.int (3 : Int32)), (.ref b13)])) (fun target kt => ?_) ?_
  · skip
    show Steps p.tables e below (T229.setTop (mkF m 75 #[.val (.ref a0), .val (.int p1), .val (.ref a2), .val (.int (3 : Int32))] [(.ref b13)])) _
    refine XS.iloadN X229.here hx rfl (hb hby d3_75) rfl ?_
    show Steps p.tables e below (T229.setTop (mkF m 76 #[.val (.ref a0), .val (.int p1), .val (.ref a2), .val (.int (3 : Int32))] [(.int (3 : Int32)), (.ref b13)])) _
    refine XS.aloadN X229.here hx rfl (hb hby d3_76) rfl rfl ?_
    exact kt
  obtain ⟨cq230, kq230, q230a, q230b, q230c⟩ := isOf hZ e229 f220
  obtain ⟨_, _, ⟨T230, L230, k230, n230⟩, -, X230, ⟨Lc230, hQ230, l230, y230, z230⟩, st230⟩ := X229.virtualBack hx (y := (⟨"com/example/graphcrate/graphcrate/generate/SplitMix64", "nextLong", "()J"⟩ : MethodName)) (z := (⟨"com/example/graphcrate/graphcrate/generate/SplitMix64", "nextLong", "()J"⟩ : MethodName)) hown (mvT hZ (hw _ (List.mem_of_getElem? (i := 29) rfl))) (mvT hZ (hw _ (List.mem_of_getElem? (i := 30) rfl))) (notFace_of_selects (args := #[]) (mvT hZ (hw _ (List.mem_of_getElem? (i := 32) rfl)))) (mvT hZ (hw _ (List.mem_of_getElem? (i := 32) rfl))) (mvT hZ (hw _ (List.mem_of_getElem? (i := 31) rfl))) (by decide) (backOf (W := 2) (rm4 l Z aZ hw [] a2 ((((((w1 + (-7046029254386353131 : Int64)) + (-7046029254386353131 : Int64)) + (-7046029254386353131 : Int64)) + (-7046029254386353131 : Int64)) + (-7046029254386353131 : Int64)) + (-7046029254386353131 : Int64)) h217 n0 Z217 f220 f228 g_a2) hZ (hw _ (List.mem_of_getElem? (i := 33) rfl)) (hw _ (List.mem_of_getElem? (i := 6) rfl)) (by decide) (by decide)) q230a q230c (g := (mkF m 77 #[.val (.ref a0), .val (.int p1), .val (.ref a2), .val (.int (3 : Int32))] [(.ref a2), (.int (3 : Int32)), (.ref b13)])) rfl (by rw [hml]; rfl) (Steps.refl _) (argsL := []) (rest := [(.int (3 : Int32)), (.ref b13)]) (lenOf own_pd2 rfl) rfl (by show 2 * 0 + _ ≤ _; exact Nat.le_of_eq rfl) (hb hby d3_77) (fun _ _ => ⟨rfl, e229, (by decide : 2 + 0 ≤ _), (by decide : 8 + 0 ≤ _)⟩)
  dsimp only [Pt.U, Pt.locs, Pt.cells, Pt.slots] at X230 l230 y230 z230 st230 hQ230
  subst l230 y230 z230
  obtain ⟨rfl, N230q, K230q, f230_0, f230_1⟩ := hQ230
  have N230 := Fr.app N217 N230q
  have f231 : Exa Z T230.heap a0 "com/example/graphcrate/graphcrate/generate/VertexRenaming" := f219.keep K230q
  have f232 : Exa Z T230.heap a2 "com/example/graphcrate/graphcrate/generate/SplitMix64" := f220.keep K230q
  have f233 : Exa Z T230.heap b13 "[J" := f221.keep K230q
  have f234 : Fld Z T230.heap a0 "com/example/graphcrate/graphcrate/generate/VertexRenaming" "addends" "[J" (.ref b13) := f222.keep K230q (ninS hne nin0)
  have f235 : Exa Z T230.heap b32 "[J" := f223.keep K230q
  have f236 : Fld Z T230.heap a0 "com/example/graphcrate/graphcrate/generate/VertexRenaming" "multipliers" "[J" (.ref b32) := f224.keep K230q (ninS hne nin0)
  have f237 : Fld Z T230.heap a0 "com/example/graphcrate/graphcrate/generate/VertexRenaming" "mask" "J" (.long (own_ushrL (-1 : Int64) ((64 : Int32) - p1))) := f225.keep K230q (ninS hne nin0)
  have f238 : Fld Z T230.heap a0 "com/example/graphcrate/graphcrate/generate/VertexRenaming" "fold" "I" (.int ((p1 + (1 : Int32)) / (2 : Int32))) := f226.keep K230q (ninS hne nin0)
  have f239 : own_AJ Z T230.heap b13 .long 4 (own_upd (own_upd (own_upd (fun _ => 0) 0 (own_mix (w1 + (-7046029254386353131 : Int64)))) 1 (own_mix (((w1 + (-7046029254386353131 : Int64)) + (-7046029254386353131 : Int64)) + (-7046029254386353131 : Int64)))) 2 (own_mix (((((w1 + (-7046029254386353131 : Int64)) + (-7046029254386353131 : Int64)) + (-7046029254386353131 : Int64)) + (-7046029254386353131 : Int64)) + (-7046029254386353131 : Int64)))) := f227.keep K230q (ninS (Ne.symm ne_a2_b13) nin0)
  have f240 : own_AJ Z T230.heap b32 .long 4 (own_upd (own_upd (own_upd (fun _ => 0) 0 ((own_mix ((w1 + (-7046029254386353131 : Int64)) + (-7046029254386353131 : Int64))) ||| (1 : Int64))) 1 ((own_mix ((((w1 + (-7046029254386353131 : Int64)) + (-7046029254386353131 : Int64)) + (-7046029254386353131 : Int64)) + (-7046029254386353131 : Int64))) ||| (1 : Int64))) 2 ((own_mix ((((((w1 + (-7046029254386353131 : Int64)) + (-7046029254386353131 : Int64)) + (-7046029254386353131 : Int64)) + (-7046029254386353131 : Int64)) + (-7046029254386353131 : Int64)) + (-7046029254386353131 : Int64))) ||| (1 : Int64))) := f218.keep K230q (ninS (Ne.symm ne_a2_b32) nin0)
  have Z230 : n0 ≤ T230.heap.size := Nat.le_trans Z217 K230q.1
  have K230 : Keep h0 T230.heap [a0, a2] := K217.trans K230q (allS (Or.inl (List.mem_of_getElem? (i := 1) rfl)) all0)
  refine own_go (S' := T230.setTop (mkF m 80 #[.val (.ref a0), .val (.int p1), .val (.ref a2), .val (.int (3 : Int32))] [(.long (own_mix (((((((w1 + (-7046029254386353131 : Int64)) + (-7046029254386353131 : Int64)) + (-7046029254386353131 : Int64)) + (-7046029254386353131 : Int64)) + (-7046029254386353131 : Int64)) + (-7046029254386353131 : Int64)) + (-7046029254386353131 : Int64)))), (.int (3 : Int32)), (.ref b13)])) (fun _ k => st230.trans k) ?_
  obtain ⟨c241, Ar241, S241, M241, H241⟩ := id f239
  have hin241 : ¬ ((3 : Int32) < 0 ∨ c241.slots.size ≤ ((3 : Int32)).toNatClampNeg) := own_in S241 ⟨by decide, by decide⟩
  obtain ⟨T242, h242, X242, e242, W242, st242⟩ := stJ X230 hx hZ rfl Ar241 (j := (3 : Int32)) hin241 (g := (mkF m 80 #[.val (.ref a0), .val (.int p1), .val (.ref a2), .val (.int (3 : Int32))] [(.long (own_mix (((((((w1 + (-7046029254386353131 : Int64)) + (-7046029254386353131 : Int64)) + (-7046029254386353131 : Int64)) + (-7046029254386353131 : Int64)) + (-7046029254386353131 : Int64)) + (-7046029254386353131 : Int64)) + (-7046029254386353131 : Int64)))), (.int (3 : Int32)), (.ref b13)])) rfl rfl (hb hby d3_80)
  have f244 : Exa Z h242 a0 "com/example/graphcrate/graphcrate/generate/VertexRenaming" := f231.wr W242
  have f245 : Exa Z h242 a2 "com/example/graphcrate/graphcrate/generate/SplitMix64" := f230_0.wr W242
  have f246 : Exa Z h242 b13 "[J" := f233.wr W242
  have f247 : Fld Z h242 a0 "com/example/graphcrate/graphcrate/generate/VertexRenaming" "addends" "[J" (.ref b13) := f234.other W242 (Or.inl ne_a0_b13)
  have f248 : Exa Z h242 b32 "[J" := f235.wr W242
  have f249 : Fld Z h242 a0 "com/example/graphcrate/graphcrate/generate/VertexRenaming" "multipliers" "[J" (.ref b32) := f236.other W242 (Or.inl ne_a0_b13)
  have f250 : Fld Z h242 a0 "com/example/graphcrate/graphcrate/generate/VertexRenaming" "mask" "J" (.long (own_ushrL (-1 : Int64) ((64 : Int32) - p1))) := f237.other W242 (Or.inl ne_a0_b13)
  have f251 : Fld Z h242 a0 "com/example/graphcrate/graphcrate/generate/VertexRenaming" "fold" "I" (.int ((p1 + (1 : Int32)) / (2 : Int32))) := f238.other W242 (Or.inl ne_a0_b13)
  have f252 : own_AJ Z h242 b32 .long 4 (own_upd (own_upd (own_upd (fun _ => 0) 0 ((own_mix ((w1 + (-7046029254386353131 : Int64)) + (-7046029254386353131 : Int64))) ||| (1 : Int64))) 1 ((own_mix ((((w1 + (-7046029254386353131 : Int64)) + (-7046029254386353131 : Int64)) + (-7046029254386353131 : Int64)) + (-7046029254386353131 : Int64))) ||| (1 : Int64))) 2 ((own_mix ((((((w1 + (-7046029254386353131 : Int64)) + (-7046029254386353131 : Int64)) + (-7046029254386353131 : Int64)) + (-7046029254386353131 : Int64)) + (-7046029254386353131 : Int64)) + (-7046029254386353131 : Int64))) ||| (1 : Int64))) := f240.other W242 (Ne.symm ne_b13_b32)
  have f253 : Fld Z h242 a2 "com/example/graphcrate/graphcrate/generate/SplitMix64" "counter" "J" (.long (((((((w1 + (-7046029254386353131 : Int64)) + (-7046029254386353131 : Int64)) + (-7046029254386353131 : Int64)) + (-7046029254386353131 : Int64)) + (-7046029254386353131 : Int64)) + (-7046029254386353131 : Int64)) + (-7046029254386353131 : Int64))) := f230_1.other W242 (Or.inl ne_a2_b13)
  have f243 : own_AJ Z h242 b13 .long 4 (own_upd (own_upd (own_upd (own_upd (fun _ => 0) 0 (own_mix (w1 + (-7046029254386353131 : Int64)))) 1 (own_mix (((w1 + (-7046029254386353131 : Int64)) + (-7046029254386353131 : Int64)) + (-7046029254386353131 : Int64)))) 2 (own_mix (((((w1 + (-7046029254386353131 : Int64)) + (-7046029254386353131 : Int64)) + (-7046029254386353131 : Int64)) + (-7046029254386353131 : Int64)) + (-7046029254386353131 : Int64)))) 3 (own_mix (((((((w1 + (-7046029254386353131 : Int64)) + (-7046029254386353131 : Int64)) + (-7046029254386353131 : Int64)) + (-7046029254386353131 : Int64)) + (-7046029254386353131 : Int64)) + (-7046029254386353131 : Int64)) + (-7046029254386353131 : Int64)))) := own_AJ.set Ar241 S241 M241 H241 W242
  have Z242 : n0 ≤ h242.size := Nat.le_trans Z230 (Keep.of_wr W242).1
  have K242 : Keep h0 h242 [a0, a2] := K230.wr W242 (Or.inr sz_b13)
  have N242 := Fr.snoc X242 N230 g_b13
  refine own_go (S' := T242.setTop (mkF m 81 #[.val (.ref a0), .val (.int p1), .val (.ref a2), .val (.int (3 : Int32))] [])) st242 ?_
  refine own_go (S' := T242.setTop (mkF m 82 #[.val (.ref a0), .val (.int p1), .val (.ref a2), .val (.int (3 : Int32))] [(.ref a0)])) (fun target kt => ?_) ?_
  · skip
    show Steps p.tables e below (T242.setTop (mkF m 81 #[.val (.ref a0), .val (.int p1), .val (.ref a2), .val (.int (3 : Int32))] [])) _
    refine XS.aloadN X242.here hx rfl (hb hby d3_81) rfl rfl ?_
    exact kt
  obtain ⟨T254, X254, e254, st254⟩ := getF X242 hx hZ hown (host := "") (Or.inl (hw _ (List.mem_of_getElem? (i := 22) rfl))) Via.refl e242 f249 (g := (mkF m 82 #[.val (.ref a0), .val (.int p1), .val (.ref a2), .val (.int (3 : Int32))] [(.ref a0)])) rfl rfl (hb hby d3_82)
  refine own_go (S' := T254.setTop (mkF m 85 #[.val (.ref a0), .val (.int p1), .val (.ref a2), .val (.int (3 : Int32))] [(.ref b32)])) st254 ?_
  refine own_go (S' := T254.setTop (mkF m 87 #[.val (.ref a0), .val (.int p1), .val (.ref a2), .val (.int (3 : Int32))] [(.ref a2), (.int (3 : Int32)), (.ref b32)])) (fun target kt => ?_) ?_
  · skip
    show Steps p.tables e below (T254.setTop (mkF m 85 #[.val (.ref a0), .val (.int p1), .val (.ref a2), .val (.int (3 : Int32))] [(.ref b32)])) _
    refine XS.iloadN X254.here hx rfl (hb hby d3_85) rfl ?_
    show Steps p.tables e below (T254.setTop (mkF m 86 #[.val (.ref a0), .val (.int p1), .val (.ref a2), .val (.int (3 : Int32))] [(.int (3 : Int32)), (.ref b32)])) _
    refine XS.aloadN X254.here hx rfl (hb hby d3_86) rfl rfl ?_
    exact kt
  obtain ⟨cq255, kq255, q255a, q255b, q255c⟩ := isOf hZ e254 f245
  obtain ⟨_, _, ⟨T255, L255, k255, n255⟩, -, X255, ⟨Lc255, hQ255, l255, y255, z255⟩, st255⟩ := X254.virtualBack hx (y := (⟨"com/example/graphcrate/graphcrate/generate/SplitMix64", "nextLong", "()J"⟩ : MethodName)) (z := (⟨"com/example/graphcrate/graphcrate/generate/SplitMix64", "nextLong", "()J"⟩ : MethodName)) hown (mvT hZ (hw _ (List.mem_of_getElem? (i := 29) rfl))) (mvT hZ (hw _ (List.mem_of_getElem? (i := 30) rfl))) (notFace_of_selects (args := #[]) (mvT hZ (hw _ (List.mem_of_getElem? (i := 32) rfl)))) (mvT hZ (hw _ (List.mem_of_getElem? (i := 32) rfl))) (mvT hZ (hw _ (List.mem_of_getElem? (i := 31) rfl))) (by decide) (backOf (W := 2) (rm4 l Z aZ hw [] a2 (((((((w1 + (-7046029254386353131 : Int64)) + (-7046029254386353131 : Int64)) + (-7046029254386353131 : Int64)) + (-7046029254386353131 : Int64)) + (-7046029254386353131 : Int64)) + (-7046029254386353131 : Int64)) + (-7046029254386353131 : Int64)) h242 n0 Z242 f245 f253 g_a2) hZ (hw _ (List.mem_of_getElem? (i := 33) rfl)) (hw _ (List.mem_of_getElem? (i := 6) rfl)) (by decide) (by decide)) q255a q255c (g := (mkF m 87 #[.val (.ref a0), .val (.int p1), .val (.ref a2), .val (.int (3 : Int32))] [(.ref a2), (.int (3 : Int32)), (.ref b32)])) rfl (by rw [hml]; rfl) (Steps.refl _) (argsL := []) (rest := [(.int (3 : Int32)), (.ref b32)]) (lenOf own_pd2 rfl) rfl (by show 2 * 0 + _ ≤ _; exact Nat.le_of_eq rfl) (hb hby d3_87) (fun _ _ => ⟨rfl, e254, (by decide : 2 + 0 ≤ _), (by decide : 8 + 0 ≤ _)⟩)
  dsimp only [Pt.U, Pt.locs, Pt.cells, Pt.slots] at X255 l255 y255 z255 st255 hQ255
  subst l255 y255 z255
  obtain ⟨rfl, N255q, K255q, f255_0, f255_1⟩ := hQ255
  have N255 := Fr.app N242 N255q
  have f256 : Exa Z T255.heap a0 "com/example/graphcrate/graphcrate/generate/VertexRenaming" := f244.keep K255q
  have f257 : Exa Z T255.heap a2 "com/example/graphcrate/graphcrate/generate/SplitMix64" := f245.keep K255q
  have f258 : Exa Z T255.heap b13 "[J" := f246.keep K255q
  have f259 : Fld Z T255.heap a0 "com/example/graphcrate/graphcrate/generate/VertexRenaming" "addends" "[J" (.ref b13) := f247.keep K255q (ninS hne nin0)
  have f260 : Exa Z T255.heap b32 "[J" := f248.keep K255q
  have f261 : Fld Z T255.heap a0 "com/example/graphcrate/graphcrate/generate/VertexRenaming" "multipliers" "[J" (.ref b32) := f249.keep K255q (ninS hne nin0)
  have f262 : Fld Z T255.heap a0 "com/example/graphcrate/graphcrate/generate/VertexRenaming" "mask" "J" (.long (own_ushrL (-1 : Int64) ((64 : Int32) - p1))) := f250.keep K255q (ninS hne nin0)
  have f263 : Fld Z T255.heap a0 "com/example/graphcrate/graphcrate/generate/VertexRenaming" "fold" "I" (.int ((p1 + (1 : Int32)) / (2 : Int32))) := f251.keep K255q (ninS hne nin0)
  have f264 : own_AJ Z T255.heap b32 .long 4 (own_upd (own_upd (own_upd (fun _ => 0) 0 ((own_mix ((w1 + (-7046029254386353131 : Int64)) + (-7046029254386353131 : Int64))) ||| (1 : Int64))) 1 ((own_mix ((((w1 + (-7046029254386353131 : Int64)) + (-7046029254386353131 : Int64)) + (-7046029254386353131 : Int64)) + (-7046029254386353131 : Int64))) ||| (1 : Int64))) 2 ((own_mix ((((((w1 + (-7046029254386353131 : Int64)) + (-7046029254386353131 : Int64)) + (-7046029254386353131 : Int64)) + (-7046029254386353131 : Int64)) + (-7046029254386353131 : Int64)) + (-7046029254386353131 : Int64))) ||| (1 : Int64))) := f252.keep K255q (ninS (Ne.symm ne_a2_b32) nin0)
  have f265 : own_AJ Z T255.heap b13 .long 4 (own_upd (own_upd (own_upd (own_upd (fun _ => 0) 0 (own_mix (w1 + (-7046029254386353131 : Int64)))) 1 (own_mix (((w1 + (-7046029254386353131 : Int64)) + (-7046029254386353131 : Int64)) + (-7046029254386353131 : Int64)))) 2 (own_mix (((((w1 + (-7046029254386353131 : Int64)) + (-7046029254386353131 : Int64)) + (-7046029254386353131 : Int64)) + (-7046029254386353131 : Int64)) + (-7046029254386353131 : Int64)))) 3 (own_mix (((((((w1 + (-7046029254386353131 : Int64)) + (-7046029254386353131 : Int64)) + (-7046029254386353131 : Int64)) + (-7046029254386353131 : Int64)) + (-7046029254386353131 : Int64)) + (-7046029254386353131 : Int64)) + (-7046029254386353131 : Int64)))) := f243.keep K255q (ninS (Ne.symm ne_a2_b13) nin0)
  have Z255 : n0 ≤ T255.heap.size := Nat.le_trans Z242 K255q.1
  have K255 : Keep h0 T255.heap [a0, a2] := K242.trans K255q (allS (Or.inl (List.mem_of_getElem? (i := 1) rfl)) all0)
  refine own_go (S' := T255.setTop (mkF m 90 #[.val (.ref a0), .val (.int p1), .val (.ref a2), .val (.int (3 : Int32))] [(.long (own_mix ((((((((w1 + (-7046029254386353131 : Int64)) + (-7046029254386353131 : Int64)) + (-7046029254386353131 : Int64)) + (-7046029254386353131 : Int64)) + (-7046029254386353131 : Int64)) + (-7046029254386353131 : Int64)) + (-7046029254386353131 : Int64)) + (-7046029254386353131 : Int64)))), (.int (3 : Int32)), (.ref b32)])) (fun _ k => st255.trans k) ?_
  refine own_go (S' := T255.setTop (mkF m 92 #[.val (.ref a0), .val (.int p1), .val (.ref a2), .val (.int (3 : Int32))] [(.long ((own_mix ((((((((w1 + (-7046029254386353131 : Int64)) + (-7046029254386353131 : Int64)) + (-7046029254386353131 : Int64)) + (-7046029254386353131 : Int64)) + (-7046029254386353131 : Int64)) + (-7046029254386353131 : Int64)) + (-7046029254386353131 : Int64)) + (-7046029254386353131 : Int64))) ||| (1 : Int64))), (.int (3 : Int32)), (.ref b32)])) (fun target kt => ?_) ?_
  · skip
    show Steps p.tables e below (T255.setTop (mkF m 90 #[.val (.ref a0), .val (.int p1), .val (.ref a2), .val (.int (3 : Int32))] [(.long (own_mix ((((((((w1 + (-7046029254386353131 : Int64)) + (-7046029254386353131 : Int64)) + (-7046029254386353131 : Int64)) + (-7046029254386353131 : Int64)) + (-7046029254386353131 : Int64)) + (-7046029254386353131 : Int64)) + (-7046029254386353131 : Int64)) + (-7046029254386353131 : Int64)))), (.int (3 : Int32)), (.ref b32)])) _
    refine XS.lconst X255.here hx rfl (hb hby d3_90) ?_
    show Steps p.tables e below (T255.setTop (mkF m 91 #[.val (.ref a0), .val (.int p1), .val (.ref a2), .val (.int (3 : Int32))] [(.long (1 : Int64)), (.long (own_mix ((((((((w1 + (-7046029254386353131 : Int64)) + (-7046029254386353131 : Int64)) + (-7046029254386353131 : Int64)) + (-7046029254386353131 : Int64)) + (-7046029254386353131 : Int64)) + (-7046029254386353131 : Int64)) + (-7046029254386353131 : Int64)) + (-7046029254386353131 : Int64)))), (.int (3 : Int32)), (.ref b32)])) _
    refine XS.lor X255.here hx rfl (hb hby d3_91) rfl ?_
    exact kt
  obtain ⟨c266, Ar266, S266, M266, H266⟩ := id f264
  have hin266 : ¬ ((3 : Int32) < 0 ∨ c266.slots.size ≤ ((3 : Int32)).toNatClampNeg) := own_in S266 ⟨by decide, by decide⟩
  obtain ⟨T267, h267, X267, e267, W267, st267⟩ := stJ X255 hx hZ rfl Ar266 (j := (3 : Int32)) hin266 (g := (mkF m 92 #[.val (.ref a0), .val (.int p1), .val (.ref a2), .val (.int (3 : Int32))] [(.long ((own_mix ((((((((w1 + (-7046029254386353131 : Int64)) + (-7046029254386353131 : Int64)) + (-7046029254386353131 : Int64)) + (-7046029254386353131 : Int64)) + (-7046029254386353131 : Int64)) + (-7046029254386353131 : Int64)) + (-7046029254386353131 : Int64)) + (-7046029254386353131 : Int64))) ||| (1 : Int64))), (.int (3 : Int32)), (.ref b32)])) rfl rfl (hb hby d3_92)
  have f269 : Exa Z h267 a0 "com/example/graphcrate/graphcrate/generate/VertexRenaming" := f256.wr W267
  have f270 : Exa Z h267 a2 "com/example/graphcrate/graphcrate/generate/SplitMix64" := f255_0.wr W267
  have f271 : Exa Z h267 b13 "[J" := f258.wr W267
  have f272 : Fld Z h267 a0 "com/example/graphcrate/graphcrate/generate/VertexRenaming" "addends" "[J" (.ref b13) := f259.other W267 (Or.inl ne_a0_b32)
  have f273 : Exa Z h267 b32 "[J" := f260.wr W267
  have f274 : Fld Z h267 a0 "com/example/graphcrate/graphcrate/generate/VertexRenaming" "multipliers" "[J" (.ref b32) := f261.other W267 (Or.inl ne_a0_b32)
  have f275 : Fld Z h267 a0 "com/example/graphcrate/graphcrate/generate/VertexRenaming" "mask" "J" (.long (own_ushrL (-1 : Int64) ((64 : Int32) - p1))) := f262.other W267 (Or.inl ne_a0_b32)
  have f276 : Fld Z h267 a0 "com/example/graphcrate/graphcrate/generate/VertexRenaming" "fold" "I" (.int ((p1 + (1 : Int32)) / (2 : Int32))) := f263.other W267 (Or.inl ne_a0_b32)
  have f277 : own_AJ Z h267 b13 .long 4 (own_upd (own_upd (own_upd (own_upd (fun _ => 0) 0 (own_mix (w1 + (-7046029254386353131 : Int64)))) 1 (own_mix (((w1 + (-7046029254386353131 : Int64)) + (-7046029254386353131 : Int64)) + (-7046029254386353131 : Int64)))) 2 (own_mix (((((w1 + (-7046029254386353131 : Int64)) + (-7046029254386353131 : Int64)) + (-7046029254386353131 : Int64)) + (-7046029254386353131 : Int64)) + (-7046029254386353131 : Int64)))) 3 (own_mix (((((((w1 + (-7046029254386353131 : Int64)) + (-7046029254386353131 : Int64)) + (-7046029254386353131 : Int64)) + (-7046029254386353131 : Int64)) + (-7046029254386353131 : Int64)) + (-7046029254386353131 : Int64)) + (-7046029254386353131 : Int64)))) := f265.other W267 ne_b13_b32
  have f278 : Fld Z h267 a2 "com/example/graphcrate/graphcrate/generate/SplitMix64" "counter" "J" (.long ((((((((w1 + (-7046029254386353131 : Int64)) + (-7046029254386353131 : Int64)) + (-7046029254386353131 : Int64)) + (-7046029254386353131 : Int64)) + (-7046029254386353131 : Int64)) + (-7046029254386353131 : Int64)) + (-7046029254386353131 : Int64)) + (-7046029254386353131 : Int64))) := f255_1.other W267 (Or.inl ne_a2_b32)
  have f268 : own_AJ Z h267 b32 .long 4 (own_upd (own_upd (own_upd (own_upd (fun _ => 0) 0 ((own_mix ((w1 + (-7046029254386353131 : Int64)) + (-7046029254386353131 : Int64))) ||| (1 : Int64))) 1 ((own_mix ((((w1 + (-7046029254386353131 : Int64)) + (-7046029254386353131 : Int64)) + (-7046029254386353131 : Int64)) + (-7046029254386353131 : Int64))) ||| (1 : Int64))) 2 ((own_mix ((((((w1 + (-7046029254386353131 : Int64)) + (-7046029254386353131 : Int64)) + (-7046029254386353131 : Int64)) + (-7046029254386353131 : Int64)) + (-7046029254386353131 : Int64)) + (-7046029254386353131 : Int64))) ||| (1 : Int64))) 3 ((own_mix ((((((((w1 + (-7046029254386353131 : Int64)) + (-7046029254386353131 : Int64)) + (-7046029254386353131 : Int64)) + (-7046029254386353131 : Int64)) + (-7046029254386353131 : Int64)) + (-7046029254386353131 : Int64)) + (-7046029254386353131 : Int64)) + (-7046029254386353131 : Int64))) ||| (1 : Int64))) := own_AJ.set Ar266 S266 M266 H266 W267
  have Z267 : n0 ≤ h267.size := Nat.le_trans Z255 (Keep.of_wr W267).1
  have K267 : Keep h0 h267 [a0, a2] := K255.wr W267 (Or.inr sz_b32)
  have N267 := Fr.snoc X267 N255 g_b32
  refine own_go (S' := T267.setTop (mkF m 93 #[.val (.ref a0), .val (.int p1), .val (.ref a2), .val (.int (3 : Int32))] [])) st267 ?_
  refine own_go (S' := T267.setTop (mkF m 99 #[.val (.ref a0), .val (.int p1), .val (.ref a2), .val (.int (4 : Int32))] [])) (fun target kt => ?_) ?_
  · skip
    show Steps p.tables e below (T267.setTop (mkF m 93 #[.val (.ref a0), .val (.int p1), .val (.ref a2), .val (.int (3 : Int32))] [])) _
    refine XS.iinc X267.here hx rfl (hb hby d3_93) rfl (l' := #[.val (.ref a0), .val (.int p1), .val (.ref a2), .val (.int ((3 : Int32) + (1 : Int32)))]) rfl ?_
    rw [show ((3 : Int32) + (1 : Int32)) = (4 : Int32) from by decide]
    show Steps p.tables e below (T267.setTop (mkF m 96 #[.val (.ref a0), .val (.int p1), .val (.ref a2), .val (.int (4 : Int32))] [])) _
    refine XS.goto X267.here hx rfl (pc0 := 96) (pc' := 66) rfl (hb hby d3_96) (by decide) (by decide) ?_
    show Steps p.tables e below (T267.setTop (mkF m 66 #[.val (.ref a0), .val (.int p1), .val (.ref a2), .val (.int (4 : Int32))] [])) _
    refine XS.iloadN X267.here hx rfl (hb hby d3_66) rfl ?_
    show Steps p.tables e below (T267.setTop (mkF m 67 #[.val (.ref a0), .val (.int p1), .val (.ref a2), .val (.int (4 : Int32))] [(.int (4 : Int32))])) _
    refine XS.iconst X267.here hx rfl (hb hby d3_67) ?_
    show Steps p.tables e below (T267.setTop (mkF m 68 #[.val (.ref a0), .val (.int p1), .val (.ref a2), .val (.int (4 : Int32))] [(.int (4 : Int32)), (.int (4 : Int32))])) _
    refine XS.icmpYes X267.here hx rfl (pc0 := 68) (pc' := 99) rfl (hb hby d3_68) rfl (flt (by decide : ¬ (4 : Int32) < (4 : Int32))).2.1 (by decide) (by decide) ?_
    exact kt
  obtain ⟨fs, hr, hrun, hended, hW, hsame⟩ := X267.leave (v := none) (fun _ => rfl)
  refine ⟨_, _, ?_, hrun, hended, _, _, rfl, ?_, ⟨_, rfl⟩, hW, hsame.mono (by decide) (by decide)⟩
  · exact X267.returnOut hx Bd.returns (hb hby d3_99) hr
  · show Q3 Z a0 p1 a2 w1 h0 n0 _ T267.heap _
    rw [e267]
    exact ⟨b13, b32, rfl, N267, K267, f269, f272, f274, f275, f276, f277, f268, (by assumption), (by assumption)⟩
def own_step (x a m mask : Int64) (fold : Int32) : Int64 := ((((x + a) * m) &&& mask) ^^^ (own_ushrL (((x + a) * m) &&& mask) fold))
theorem d6_0 : decode prog_30_method_2_code 0 = .ok (.lload_n 1, 1) := by decide +kernel
theorem d6_1 : decode prog_30_method_2_code 1 = .ok (.lstore_n 3, 1) := by decide +kernel
theorem d6_2 : decode prog_30_method_2_code 2 = .ok (.iconst 0, 1) := by decide +kernel
theorem d6_3 : decode prog_30_method_2_code 3 = .ok (.istore 5, 2) := by decide +kernel
theorem d6_5 : decode prog_30_method_2_code 5 = .ok (.iload 5, 2) := by decide +kernel
theorem d6_7 : decode prog_30_method_2_code 7 = .ok (.iconst 4, 1) := by decide +kernel
theorem d6_8 : decode prog_30_method_2_code 8 = .ok (.if_icmp .ge 41, 3) := by decide +kernel
theorem d6_11 : decode prog_30_method_2_code 11 = .ok (.lload_n 3, 1) := by decide +kernel
theorem d6_12 : decode prog_30_method_2_code 12 = .ok (.aload_n 0, 1) := by decide +kernel
theorem d6_13 : decode prog_30_method_2_code 13 = .ok (.getfield 9, 3) := by decide +kernel
theorem d6_16 : decode prog_30_method_2_code 16 = .ok (.iload 5, 2) := by decide +kernel
theorem d6_18 : decode prog_30_method_2_code 18 = .ok (.laload, 1) := by decide +kernel
theorem d6_19 : decode prog_30_method_2_code 19 = .ok (.ladd, 1) := by decide +kernel
theorem d6_20 : decode prog_30_method_2_code 20 = .ok (.aload_n 0, 1) := by decide +kernel
theorem d6_21 : decode prog_30_method_2_code 21 = .ok (.getfield 13, 3) := by decide +kernel
theorem d6_24 : decode prog_30_method_2_code 24 = .ok (.iload 5, 2) := by decide +kernel
theorem d6_26 : decode prog_30_method_2_code 26 = .ok (.laload, 1) := by decide +kernel
theorem d6_27 : decode prog_30_method_2_code 27 = .ok (.lmul, 1) := by decide +kernel
theorem d6_28 : decode prog_30_method_2_code 28 = .ok (.aload_n 0, 1) := by decide +kernel
theorem d6_29 : decode prog_30_method_2_code 29 = .ok (.getfield 27, 3) := by decide +kernel
theorem d6_32 : decode prog_30_method_2_code 32 = .ok (.land, 1) := by decide +kernel
theorem d6_33 : decode prog_30_method_2_code 33 = .ok (.lstore_n 3, 1) := by decide +kernel
theorem d6_34 : decode prog_30_method_2_code 34 = .ok (.lload_n 3, 1) := by decide +kernel
theorem d6_35 : decode prog_30_method_2_code 35 = .ok (.lload_n 3, 1) := by decide +kernel
theorem d6_36 : decode prog_30_method_2_code 36 = .ok (.aload_n 0, 1) := by decide +kernel
theorem d6_37 : decode prog_30_method_2_code 37 = .ok (.getfield 31, 3) := by decide +kernel
theorem d6_40 : decode prog_30_method_2_code 40 = .ok (.lushr, 1) := by decide +kernel
theorem d6_41 : decode prog_30_method_2_code 41 = .ok (.lxor, 1) := by decide +kernel
theorem d6_42 : decode prog_30_method_2_code 42 = .ok (.lstore_n 3, 1) := by decide +kernel
theorem d6_43 : decode prog_30_method_2_code 43 = .ok (.iinc 5 1, 3) := by decide +kernel
theorem d6_46 : decode prog_30_method_2_code 46 = .ok (.goto (-41), 3) := by decide +kernel
theorem d6_49 : decode prog_30_method_2_code 49 = .ok (.lload_n 3, 1) := by decide +kernel
theorem d6_50 : decode prog_30_method_2_code 50 = .ok (.lreturn, 1) := by decide +kernel
set_option maxHeartbeats 40000000 in
theorem own_ef_rm6 (m : MethodId) (x0 : Addr) (x1 : Int64) : entryFrame m #[(.ref x0), (.long x1)] 6 = mkF m 0 #[.val (.ref x0), .val (.long x1), .second, .unset, .unset, .unset] [] := by first | (simp [entryFrame, mkF, argsToLocals, Value.category]; done) | rfl
def Q6 (Z : State) (a0 : Addr) (q1 : Int64) (b1 : Addr) (b2 : Addr) (wm : Int64) (wf : Int32) (g1 : Nat → Int64) (g2 : Nat → Int64) (h0 : Heap) (n0 : Nat) (v : Option Value) (h : Heap) (L : List Loc) : Prop := v = some (.long (own_step (own_step (own_step (own_step q1 (g1 0) (g2 0) wm wf) (g1 1) (g2 1) wm wf) (g1 2) (g2 2) wm wf) (g1 3) (g2 3) wm wf)) ∧ Fr n0 L ∧ h = h0
set_option maxRecDepth 65536 in
set_option maxHeartbeats 40000000 in
theorem rm6 (l : Launch) (Z : State) (aZ : Array Value) (hw : ∀ d ∈ tables_1, d.before aZ Z = true) (ws : List Jvm.Cond) (a0 : Addr) (q1 : Int64) (b1 : Addr) (b2 : Addr) (wm : Int64) (wf : Int32) (g1 : Nat → Int64) (g2 : Nat → Int64) (h0 : Heap) (n0 : Nat) (Z0 : n0 ≤ h0.size) (pf0 : Fld Z h0 a0 "com/example/graphcrate/graphcrate/generate/VertexRenaming" "addends" "[J" (.ref b1)) (pf1 : Fld Z h0 a0 "com/example/graphcrate/graphcrate/generate/VertexRenaming" "multipliers" "[J" (.ref b2)) (pf2 : Fld Z h0 a0 "com/example/graphcrate/graphcrate/generate/VertexRenaming" "mask" "J" (.long wm)) (pf3 : Fld Z h0 a0 "com/example/graphcrate/graphcrate/generate/VertexRenaming" "fold" "I" (.int wf)) (pf4 : own_AJ Z h0 b1 .long 4 g1) (pf5 : own_AJ Z h0 b2 .long 4 g2) :
    MetFree l (⟨"com/example/graphcrate/graphcrate/generate/VertexRenaming", "rename", "(J)J"⟩ : MethodName) (head1 (Jvm.Cond.code (⟨"com/example/graphcrate/graphcrate/generate/VertexRenaming", "rename", "(J)J"⟩ : MethodName) prog_30_method_2_code 6 (some .long) :: ws) ({ frames := 0, cells := 0, slots := 0, locals := 0 } : Room)) (fun a U => a = #[(.ref a0), (.long q1)] ∧ Z.Warmed39 U.vm ∧ U.heap = h0) (fun _ _ _ _ _ => True) (fun _ U o U' => ∃ v L, o = .returned v ∧ Q6 Z a0 q1 b1 b2 wm wf g1 g2 h0 n0 v U'.heap L ∧ FrameEnd U o U' L ({ frames := 0, cells := 0, slots := 0, locals := 0 } : Room).cells ({ frames := 0, cells := 0, slots := 0, locals := 0 } : Room).slots) := by
  refine MetFree.of_bodySF (plainFor_of_name own_pn2) hisR ?_
  intro p e s m args below meth c s₁ Bd hml0 hP hK
  obtain ⟨rfl, hZ, hh⟩ := hP
  have hx := Bd.exec
  have hby := Bd.bytes
  have hml : c.maxLocals = 6 := hml0
  have hown : s.vm.findClass "com/example/graphcrate/graphcrate/generate/VertexRenaming" = some m.cls := findClass_of_methodNamed Bd.named
  have hnm := (name_of_methodNamed Bd.named Bd.method).1
  have X0 : Stand p l e ({ frames := 0, cells := 0, slots := 0, locals := 0 } : Room) s m #[(.ref a0), (.long q1)] below meth c s₁ [] 0 0 := Stand.of_body Bd
  have e0 : s₁.heap = h0 := by rw [← hh, Bd.state]; rfl
  have N0 := Fr.nil n0
  refine own_go (S' := s₁.setTop (mkF m 0 #[.val (.ref a0), .val (.long q1), .second, .unset, .unset, .unset] [])) (fun t k => castTop (own_ef_rm6 m a0 q1) k) ?_
  refine own_go (S' := s₁.setTop (mkF m 13 #[.val (.ref a0), .val (.long q1), .second, .val (.long q1), .second, .val (.int (0 : Int32))] [(.ref a0), (.long q1)])) (fun target kt => ?_) ?_
  · skip
    show Steps p.tables e below (s₁.setTop (mkF m 0 #[.val (.ref a0), .val (.long q1), .second, .unset, .unset, .unset] [])) _
    refine XS.lloadN X0.here hx rfl (hb hby d6_0) rfl ?_
    show Steps p.tables e below (s₁.setTop (mkF m 1 #[.val (.ref a0), .val (.long q1), .second, .unset, .unset, .unset] [(.long q1)])) _
    refine XS.lstoreN X0.here hx rfl (hb hby d6_1) rfl (l' := #[.val (.ref a0), .val (.long q1), .second, .val (.long q1), .second, .unset]) rfl ?_
    show Steps p.tables e below (s₁.setTop (mkF m 2 #[.val (.ref a0), .val (.long q1), .second, .val (.long q1), .second, .unset] [])) _
    refine XS.iconst X0.here hx rfl (hb hby d6_2) ?_
    show Steps p.tables e below (s₁.setTop (mkF m 3 #[.val (.ref a0), .val (.long q1), .second, .val (.long q1), .second, .unset] [(.int (0 : Int32))])) _
    refine XS.istore X0.here hx rfl (hb hby d6_3) rfl (l' := #[.val (.ref a0), .val (.long q1), .second, .val (.long q1), .second, .val (.int (0 : Int32))]) rfl ?_
    show Steps p.tables e below (s₁.setTop (mkF m 5 #[.val (.ref a0), .val (.long q1), .second, .val (.long q1), .second, .val (.int (0 : Int32))] [])) _
    refine XS.iload X0.here hx rfl (hb hby d6_5) rfl ?_
    show Steps p.tables e below (s₁.setTop (mkF m 7 #[.val (.ref a0), .val (.long q1), .second, .val (.long q1), .second, .val (.int (0 : Int32))] [(.int (0 : Int32))])) _
    refine XS.iconst X0.here hx rfl (hb hby d6_7) ?_
    show Steps p.tables e below (s₁.setTop (mkF m 8 #[.val (.ref a0), .val (.long q1), .second, .val (.long q1), .second, .val (.int (0 : Int32))] [(.int (4 : Int32)), (.int (0 : Int32))])) _
    refine XS.icmpNo X0.here hx rfl (hb hby d6_8) rfl (tlt (by decide : (0 : Int32) < (4 : Int32))).2.1 ?_
    show Steps p.tables e below (s₁.setTop (mkF m 11 #[.val (.ref a0), .val (.long q1), .second, .val (.long q1), .second, .val (.int (0 : Int32))] [])) _
    refine XS.lloadN X0.here hx rfl (hb hby d6_11) rfl ?_
    show Steps p.tables e below (s₁.setTop (mkF m 12 #[.val (.ref a0), .val (.long q1), .second, .val (.long q1), .second, .val (.int (0 : Int32))] [(.long q1)])) _
    refine XS.aloadN X0.here hx rfl (hb hby d6_12) rfl rfl ?_
    exact kt
  obtain ⟨T279, X279, e279, st279⟩ := getF X0 hx hZ hown (host := "") (Or.inl (hw _ (List.mem_of_getElem? (i := 20) rfl))) Via.refl e0 pf0 (g := (mkF m 13 #[.val (.ref a0), .val (.long q1), .second, .val (.long q1), .second, .val (.int (0 : Int32))] [(.ref a0), (.long q1)])) rfl rfl (hb hby d6_13)
  refine own_go (S' := T279.setTop (mkF m 16 #[.val (.ref a0), .val (.long q1), .second, .val (.long q1), .second, .val (.int (0 : Int32))] [(.ref b1), (.long q1)])) st279 ?_
  refine own_go (S' := T279.setTop (mkF m 18 #[.val (.ref a0), .val (.long q1), .second, .val (.long q1), .second, .val (.int (0 : Int32))] [(.int (0 : Int32)), (.ref b1), (.long q1)])) (fun target kt => ?_) ?_
  · skip
    show Steps p.tables e below (T279.setTop (mkF m 16 #[.val (.ref a0), .val (.long q1), .second, .val (.long q1), .second, .val (.int (0 : Int32))] [(.ref b1), (.long q1)])) _
    refine XS.iload X279.here hx rfl (hb hby d6_16) rfl ?_
    exact kt
  obtain ⟨c280, Ar280, S280, M280, H280⟩ := id pf4
  have hj280 : ¬ (0 : Int32) < 0 ∧ ((0 : Int32)).toNatClampNeg < 4 := ⟨by decide, by decide⟩
  have st280 : ∀ target, Steps p.tables e below (T279.setTop (mkF m 19 #[.val (.ref a0), .val (.long q1), .second, .val (.long q1), .second, .val (.int (0 : Int32))] [(.long (g1 0)), (.long q1)])) target → Steps p.tables e below (T279.setTop (mkF m 18 #[.val (.ref a0), .val (.long q1), .second, .val (.long q1), .second, .val (.int (0 : Int32))] [(.int (0 : Int32)), (.ref b1), (.long q1)])) target := fun target kt => X279.laload hx (j := (0 : Int32)) (v := (.long (g1 0))) (by rw [e279]; exact Ar280.1) (State.isArrayOf_alike hZ.alike Ar280.2.1) Ar280.2.2 (own_in S280 hj280) (H280 _ hj280.2) (g := (mkF m 18 #[.val (.ref a0), .val (.long q1), .second, .val (.long q1), .second, .val (.int (0 : Int32))] [(.int (0 : Int32)), (.ref b1), (.long q1)])) rfl rfl (hb hby d6_18) _ kt
  refine own_go (S' := T279.setTop (mkF m 19 #[.val (.ref a0), .val (.long q1), .second, .val (.long q1), .second, .val (.int (0 : Int32))] [(.long (g1 0)), (.long q1)])) st280 ?_
  refine own_go (S' := T279.setTop (mkF m 21 #[.val (.ref a0), .val (.long q1), .second, .val (.long q1), .second, .val (.int (0 : Int32))] [(.ref a0), (.long (q1 + (g1 0)))])) (fun target kt => ?_) ?_
  · skip
    show Steps p.tables e below (T279.setTop (mkF m 19 #[.val (.ref a0), .val (.long q1), .second, .val (.long q1), .second, .val (.int (0 : Int32))] [(.long (g1 0)), (.long q1)])) _
    refine XS.ladd X279.here hx rfl (hb hby d6_19) rfl ?_
    show Steps p.tables e below (T279.setTop (mkF m 20 #[.val (.ref a0), .val (.long q1), .second, .val (.long q1), .second, .val (.int (0 : Int32))] [(.long (q1 + (g1 0)))])) _
    refine XS.aloadN X279.here hx rfl (hb hby d6_20) rfl rfl ?_
    exact kt
  obtain ⟨T281, X281, e281, st281⟩ := getF X279 hx hZ hown (host := "") (Or.inl (hw _ (List.mem_of_getElem? (i := 22) rfl))) Via.refl e279 pf1 (g := (mkF m 21 #[.val (.ref a0), .val (.long q1), .second, .val (.long q1), .second, .val (.int (0 : Int32))] [(.ref a0), (.long (q1 + (g1 0)))])) rfl rfl (hb hby d6_21)
  refine own_go (S' := T281.setTop (mkF m 24 #[.val (.ref a0), .val (.long q1), .second, .val (.long q1), .second, .val (.int (0 : Int32))] [(.ref b2), (.long (q1 + (g1 0)))])) st281 ?_
  refine own_go (S' := T281.setTop (mkF m 26 #[.val (.ref a0), .val (.long q1), .second, .val (.long q1), .second, .val (.int (0 : Int32))] [(.int (0 : Int32)), (.ref b2), (.long (q1 + (g1 0)))])) (fun target kt => ?_) ?_
  · skip
    show Steps p.tables e below (T281.setTop (mkF m 24 #[.val (.ref a0), .val (.long q1), .second, .val (.long q1), .second, .val (.int (0 : Int32))] [(.ref b2), (.long (q1 + (g1 0)))])) _
    refine XS.iload X281.here hx rfl (hb hby d6_24) rfl ?_
    exact kt
  obtain ⟨c282, Ar282, S282, M282, H282⟩ := id pf5
  have hj282 : ¬ (0 : Int32) < 0 ∧ ((0 : Int32)).toNatClampNeg < 4 := ⟨by decide, by decide⟩
  have st282 : ∀ target, Steps p.tables e below (T281.setTop (mkF m 27 #[.val (.ref a0), .val (.long q1), .second, .val (.long q1), .second, .val (.int (0 : Int32))] [(.long (g2 0)), (.long (q1 + (g1 0)))])) target → Steps p.tables e below (T281.setTop (mkF m 26 #[.val (.ref a0), .val (.long q1), .second, .val (.long q1), .second, .val (.int (0 : Int32))] [(.int (0 : Int32)), (.ref b2), (.long (q1 + (g1 0)))])) target := fun target kt => X281.laload hx (j := (0 : Int32)) (v := (.long (g2 0))) (by rw [e281]; exact Ar282.1) (State.isArrayOf_alike hZ.alike Ar282.2.1) Ar282.2.2 (own_in S282 hj282) (H282 _ hj282.2) (g := (mkF m 26 #[.val (.ref a0), .val (.long q1), .second, .val (.long q1), .second, .val (.int (0 : Int32))] [(.int (0 : Int32)), (.ref b2), (.long (q1 + (g1 0)))])) rfl rfl (hb hby d6_26) _ kt
  refine own_go (S' := T281.setTop (mkF m 27 #[.val (.ref a0), .val (.long q1), .second, .val (.long q1), .second, .val (.int (0 : Int32))] [(.long (g2 0)), (.long (q1 + (g1 0)))])) st282 ?_
  refine own_go (S' := T281.setTop (mkF m 29 #[.val (.ref a0), .val (.long q1), .second, .val (.long q1), .second, .val (.int (0 : Int32))] [(.ref a0), (.long ((q1 + (g1 0)) * (g2 0)))])) (fun target kt => ?_) ?_
  · skip
    show Steps p.tables e below (T281.setTop (mkF m 27 #[.val (.ref a0), .val (.long q1), .second, .val (.long q1), .second, .val (.int (0 : Int32))] [(.long (g2 0)), (.long (q1 + (g1 0)))])) _
    refine XS.lmul X281.here hx rfl (hb hby d6_27) rfl ?_
    show Steps p.tables e below (T281.setTop (mkF m 28 #[.val (.ref a0), .val (.long q1), .second, .val (.long q1), .second, .val (.int (0 : Int32))] [(.long ((q1 + (g1 0)) * (g2 0)))])) _
    refine XS.aloadN X281.here hx rfl (hb hby d6_28) rfl rfl ?_
    exact kt
  obtain ⟨T283, X283, e283, st283⟩ := getF X281 hx hZ hown (host := "") (Or.inl (hw _ (List.mem_of_getElem? (i := 25) rfl))) Via.refl e281 pf2 (g := (mkF m 29 #[.val (.ref a0), .val (.long q1), .second, .val (.long q1), .second, .val (.int (0 : Int32))] [(.ref a0), (.long ((q1 + (g1 0)) * (g2 0)))])) rfl rfl (hb hby d6_29)
  refine own_go (S' := T283.setTop (mkF m 32 #[.val (.ref a0), .val (.long q1), .second, .val (.long q1), .second, .val (.int (0 : Int32))] [(.long wm), (.long ((q1 + (g1 0)) * (g2 0)))])) st283 ?_
  obtain ⟨y1, h_y1⟩ : ∃ z : Int64, z = (((q1 + (g1 0)) * (g2 0)) &&& wm) := ⟨_, rfl⟩
  refine own_go (S' := T283.setTop (mkF m 34 #[.val (.ref a0), .val (.long q1), .second, .val (.long y1), .second, .val (.int (0 : Int32))] [])) (fun target kt => ?_) ?_
  · subst h_y1
    show Steps p.tables e below (T283.setTop (mkF m 32 #[.val (.ref a0), .val (.long q1), .second, .val (.long q1), .second, .val (.int (0 : Int32))] [(.long wm), (.long ((q1 + (g1 0)) * (g2 0)))])) _
    refine XS.land X283.here hx rfl (hb hby d6_32) rfl ?_
    show Steps p.tables e below (T283.setTop (mkF m 33 #[.val (.ref a0), .val (.long q1), .second, .val (.long q1), .second, .val (.int (0 : Int32))] [(.long (((q1 + (g1 0)) * (g2 0)) &&& wm))])) _
    refine XS.lstoreN X283.here hx rfl (hb hby d6_33) rfl (l' := #[.val (.ref a0), .val (.long q1), .second, .val (.long (((q1 + (g1 0)) * (g2 0)) &&& wm)), .second, .val (.int (0 : Int32))]) rfl ?_
    exact kt
  refine own_go (S' := T283.setTop (mkF m 37 #[.val (.ref a0), .val (.long q1), .second, .val (.long y1), .second, .val (.int (0 : Int32))] [(.ref a0), (.long y1), (.long y1)])) (fun target kt => ?_) ?_
  · skip
    show Steps p.tables e below (T283.setTop (mkF m 34 #[.val (.ref a0), .val (.long q1), .second, .val (.long y1), .second, .val (.int (0 : Int32))] [])) _
    refine XS.lloadN X283.here hx rfl (hb hby d6_34) rfl ?_
    show Steps p.tables e below (T283.setTop (mkF m 35 #[.val (.ref a0), .val (.long q1), .second, .val (.long y1), .second, .val (.int (0 : Int32))] [(.long y1)])) _
    refine XS.lloadN X283.here hx rfl (hb hby d6_35) rfl ?_
    show Steps p.tables e below (T283.setTop (mkF m 36 #[.val (.ref a0), .val (.long q1), .second, .val (.long y1), .second, .val (.int (0 : Int32))] [(.long y1), (.long y1)])) _
    refine XS.aloadN X283.here hx rfl (hb hby d6_36) rfl rfl ?_
    exact kt
  obtain ⟨T284, X284, e284, st284⟩ := getF X283 hx hZ hown (host := "") (Or.inl (hw _ (List.mem_of_getElem? (i := 27) rfl))) Via.refl e283 pf3 (g := (mkF m 37 #[.val (.ref a0), .val (.long q1), .second, .val (.long y1), .second, .val (.int (0 : Int32))] [(.ref a0), (.long y1), (.long y1)])) rfl rfl (hb hby d6_37)
  refine own_go (S' := T284.setTop (mkF m 40 #[.val (.ref a0), .val (.long q1), .second, .val (.long y1), .second, .val (.int (0 : Int32))] [(.int wf), (.long y1), (.long y1)])) st284 ?_
  obtain ⟨x1, h_x1⟩ : ∃ z : Int64, z = (y1 ^^^ (own_ushrL y1 wf)) := ⟨_, rfl⟩
  refine own_go (S' := T284.setTop (mkF m 43 #[.val (.ref a0), .val (.long q1), .second, .val (.long x1), .second, .val (.int (0 : Int32))] [])) (fun target kt => ?_) ?_
  · subst h_x1
    show Steps p.tables e below (T284.setTop (mkF m 40 #[.val (.ref a0), .val (.long q1), .second, .val (.long y1), .second, .val (.int (0 : Int32))] [(.int wf), (.long y1), (.long y1)])) _
    refine XS.lushr X284.here hx rfl (hb hby d6_40) rfl ?_
    show Steps p.tables e below (T284.setTop (mkF m 41 #[.val (.ref a0), .val (.long q1), .second, .val (.long y1), .second, .val (.int (0 : Int32))] [(.long (own_ushrL y1 wf)), (.long y1)])) _
    refine XS.lxor X284.here hx rfl (hb hby d6_41) rfl ?_
    show Steps p.tables e below (T284.setTop (mkF m 42 #[.val (.ref a0), .val (.long q1), .second, .val (.long y1), .second, .val (.int (0 : Int32))] [(.long (y1 ^^^ (own_ushrL y1 wf)))])) _
    refine XS.lstoreN X284.here hx rfl (hb hby d6_42) rfl (l' := #[.val (.ref a0), .val (.long q1), .second, .val (.long (y1 ^^^ (own_ushrL y1 wf))), .second, .val (.int (0 : Int32))]) rfl ?_
    exact kt
  refine own_go (S' := T284.setTop (mkF m 13 #[.val (.ref a0), .val (.long q1), .second, .val (.long x1), .second, .val (.int (1 : Int32))] [(.ref a0), (.long x1)])) (fun target kt => ?_) ?_
  · skip
    show Steps p.tables e below (T284.setTop (mkF m 43 #[.val (.ref a0), .val (.long q1), .second, .val (.long x1), .second, .val (.int (0 : Int32))] [])) _
    refine XS.iinc X284.here hx rfl (hb hby d6_43) rfl (l' := #[.val (.ref a0), .val (.long q1), .second, .val (.long x1), .second, .val (.int ((0 : Int32) + (1 : Int32)))]) rfl ?_
    rw [show ((0 : Int32) + (1 : Int32)) = (1 : Int32) from by decide]
    show Steps p.tables e below (T284.setTop (mkF m 46 #[.val (.ref a0), .val (.long q1), .second, .val (.long x1), .second, .val (.int (1 : Int32))] [])) _
    refine XS.goto X284.here hx rfl (pc0 := 46) (pc' := 5) rfl (hb hby d6_46) (by decide) (by decide) ?_
    show Steps p.tables e below (T284.setTop (mkF m 5 #[.val (.ref a0), .val (.long q1), .second, .val (.long x1), .second, .val (.int (1 : Int32))] [])) _
    refine XS.iload X284.here hx rfl (hb hby d6_5) rfl ?_
    show Steps p.tables e below (T284.setTop (mkF m 7 #[.val (.ref a0), .val (.long q1), .second, .val (.long x1), .second, .val (.int (1 : Int32))] [(.int (1 : Int32))])) _
    refine XS.iconst X284.here hx rfl (hb hby d6_7) ?_
    show Steps p.tables e below (T284.setTop (mkF m 8 #[.val (.ref a0), .val (.long q1), .second, .val (.long x1), .second, .val (.int (1 : Int32))] [(.int (4 : Int32)), (.int (1 : Int32))])) _
    refine XS.icmpNo X284.here hx rfl (hb hby d6_8) rfl (tlt (by decide : (1 : Int32) < (4 : Int32))).2.1 ?_
    show Steps p.tables e below (T284.setTop (mkF m 11 #[.val (.ref a0), .val (.long q1), .second, .val (.long x1), .second, .val (.int (1 : Int32))] [])) _
    refine XS.lloadN X284.here hx rfl (hb hby d6_11) rfl ?_
    show Steps p.tables e below (T284.setTop (mkF m 12 #[.val (.ref a0), .val (.long q1), .second, .val (.long x1), .second, .val (.int (1 : Int32))] [(.long x1)])) _
    refine XS.aloadN X284.here hx rfl (hb hby d6_12) rfl rfl ?_
    exact kt
  obtain ⟨T285, X285, e285, st285⟩ := getF X284 hx hZ hown (host := "") (Or.inl (hw _ (List.mem_of_getElem? (i := 20) rfl))) Via.refl e284 pf0 (g := (mkF m 13 #[.val (.ref a0), .val (.long q1), .second, .val (.long x1), .second, .val (.int (1 : Int32))] [(.ref a0), (.long x1)])) rfl rfl (hb hby d6_13)
  refine own_go (S' := T285.setTop (mkF m 16 #[.val (.ref a0), .val (.long q1), .second, .val (.long x1), .second, .val (.int (1 : Int32))] [(.ref b1), (.long x1)])) st285 ?_
  refine own_go (S' := T285.setTop (mkF m 18 #[.val (.ref a0), .val (.long q1), .second, .val (.long x1), .second, .val (.int (1 : Int32))] [(.int (1 : Int32)), (.ref b1), (.long x1)])) (fun target kt => ?_) ?_
  · skip
    show Steps p.tables e below (T285.setTop (mkF m 16 #[.val (.ref a0), .val (.long q1), .second, .val (.long x1), .second, .val (.int (1 : Int32))] [(.ref b1), (.long x1)])) _
    refine XS.iload X285.here hx rfl (hb hby d6_16) rfl ?_
    exact kt
  obtain ⟨c286, Ar286, S286, M286, H286⟩ := id pf4
  have hj286 : ¬ (1 : Int32) < 0 ∧ ((1 : Int32)).toNatClampNeg < 4 := ⟨by decide, by decide⟩
  have st286 : ∀ target, Steps p.tables e below (T285.setTop (mkF m 19 #[.val (.ref a0), .val (.long q1), .second, .val (.long x1), .second, .val (.int (1 : Int32))] [(.long (g1 1)), (.long x1)])) target → Steps p.tables e below (T285.setTop (mkF m 18 #[.val (.ref a0), .val (.long q1), .second, .val (.long x1), .second, .val (.int (1 : Int32))] [(.int (1 : Int32)), (.ref b1), (.long x1)])) target := fun target kt => X285.laload hx (j := (1 : Int32)) (v := (.long (g1 1))) (by rw [e285]; exact Ar286.1) (State.isArrayOf_alike hZ.alike Ar286.2.1) Ar286.2.2 (own_in S286 hj286) (H286 _ hj286.2) (g := (mkF m 18 #[.val (.ref a0), .val (.long q1), .second, .val (.long x1), .second, .val (.int (1 : Int32))] [(.int (1 : Int32)), (.ref b1), (.long x1)])) rfl rfl (hb hby d6_18) _ kt
  refine own_go (S' := T285.setTop (mkF m 19 #[.val (.ref a0), .val (.long q1), .second, .val (.long x1), .second, .val (.int (1 : Int32))] [(.long (g1 1)), (.long x1)])) st286 ?_
  refine own_go (S' := T285.setTop (mkF m 21 #[.val (.ref a0), .val (.long q1), .second, .val (.long x1), .second, .val (.int (1 : Int32))] [(.ref a0), (.long (x1 + (g1 1)))])) (fun target kt => ?_) ?_
  · skip
    show Steps p.tables e below (T285.setTop (mkF m 19 #[.val (.ref a0), .val (.long q1), .second, .val (.long x1), .second, .val (.int (1 : Int32))] [(.long (g1 1)), (.long x1)])) _
    refine XS.ladd X285.here hx rfl (hb hby d6_19) rfl ?_
    show Steps p.tables e below (T285.setTop (mkF m 20 #[.val (.ref a0), .val (.long q1), .second, .val (.long x1), .second, .val (.int (1 : Int32))] [(.long (x1 + (g1 1)))])) _
    refine XS.aloadN X285.here hx rfl (hb hby d6_20) rfl rfl ?_
    exact kt
  obtain ⟨T287, X287, e287, st287⟩ := getF X285 hx hZ hown (host := "") (Or.inl (hw _ (List.mem_of_getElem? (i := 22) rfl))) Via.refl e285 pf1 (g := (mkF m 21 #[.val (.ref a0), .val (.long q1), .second, .val (.long x1), .second, .val (.int (1 : Int32))] [(.ref a0), (.long (x1 + (g1 1)))])) rfl rfl (hb hby d6_21)
  refine own_go (S' := T287.setTop (mkF m 24 #[.val (.ref a0), .val (.long q1), .second, .val (.long x1), .second, .val (.int (1 : Int32))] [(.ref b2), (.long (x1 + (g1 1)))])) st287 ?_
  refine own_go (S' := T287.setTop (mkF m 26 #[.val (.ref a0), .val (.long q1), .second, .val (.long x1), .second, .val (.int (1 : Int32))] [(.int (1 : Int32)), (.ref b2), (.long (x1 + (g1 1)))])) (fun target kt => ?_) ?_
  · skip
    show Steps p.tables e below (T287.setTop (mkF m 24 #[.val (.ref a0), .val (.long q1), .second, .val (.long x1), .second, .val (.int (1 : Int32))] [(.ref b2), (.long (x1 + (g1 1)))])) _
    refine XS.iload X287.here hx rfl (hb hby d6_24) rfl ?_
    exact kt
  obtain ⟨c288, Ar288, S288, M288, H288⟩ := id pf5
  have hj288 : ¬ (1 : Int32) < 0 ∧ ((1 : Int32)).toNatClampNeg < 4 := ⟨by decide, by decide⟩
  have st288 : ∀ target, Steps p.tables e below (T287.setTop (mkF m 27 #[.val (.ref a0), .val (.long q1), .second, .val (.long x1), .second, .val (.int (1 : Int32))] [(.long (g2 1)), (.long (x1 + (g1 1)))])) target → Steps p.tables e below (T287.setTop (mkF m 26 #[.val (.ref a0), .val (.long q1), .second, .val (.long x1), .second, .val (.int (1 : Int32))] [(.int (1 : Int32)), (.ref b2), (.long (x1 + (g1 1)))])) target := fun target kt => X287.laload hx (j := (1 : Int32)) (v := (.long (g2 1))) (by rw [e287]; exact Ar288.1) (State.isArrayOf_alike hZ.alike Ar288.2.1) Ar288.2.2 (own_in S288 hj288) (H288 _ hj288.2) (g := (mkF m 26 #[.val (.ref a0), .val (.long q1), .second, .val (.long x1), .second, .val (.int (1 : Int32))] [(.int (1 : Int32)), (.ref b2), (.long (x1 + (g1 1)))])) rfl rfl (hb hby d6_26) _ kt
  refine own_go (S' := T287.setTop (mkF m 27 #[.val (.ref a0), .val (.long q1), .second, .val (.long x1), .second, .val (.int (1 : Int32))] [(.long (g2 1)), (.long (x1 + (g1 1)))])) st288 ?_
  refine own_go (S' := T287.setTop (mkF m 29 #[.val (.ref a0), .val (.long q1), .second, .val (.long x1), .second, .val (.int (1 : Int32))] [(.ref a0), (.long ((x1 + (g1 1)) * (g2 1)))])) (fun target kt => ?_) ?_
  · skip
    show Steps p.tables e below (T287.setTop (mkF m 27 #[.val (.ref a0), .val (.long q1), .second, .val (.long x1), .second, .val (.int (1 : Int32))] [(.long (g2 1)), (.long (x1 + (g1 1)))])) _
    refine XS.lmul X287.here hx rfl (hb hby d6_27) rfl ?_
    show Steps p.tables e below (T287.setTop (mkF m 28 #[.val (.ref a0), .val (.long q1), .second, .val (.long x1), .second, .val (.int (1 : Int32))] [(.long ((x1 + (g1 1)) * (g2 1)))])) _
    refine XS.aloadN X287.here hx rfl (hb hby d6_28) rfl rfl ?_
    exact kt
  obtain ⟨T289, X289, e289, st289⟩ := getF X287 hx hZ hown (host := "") (Or.inl (hw _ (List.mem_of_getElem? (i := 25) rfl))) Via.refl e287 pf2 (g := (mkF m 29 #[.val (.ref a0), .val (.long q1), .second, .val (.long x1), .second, .val (.int (1 : Int32))] [(.ref a0), (.long ((x1 + (g1 1)) * (g2 1)))])) rfl rfl (hb hby d6_29)
  refine own_go (S' := T289.setTop (mkF m 32 #[.val (.ref a0), .val (.long q1), .second, .val (.long x1), .second, .val (.int (1 : Int32))] [(.long wm), (.long ((x1 + (g1 1)) * (g2 1)))])) st289 ?_
  obtain ⟨y2, h_y2⟩ : ∃ z : Int64, z = (((x1 + (g1 1)) * (g2 1)) &&& wm) := ⟨_, rfl⟩
  refine own_go (S' := T289.setTop (mkF m 34 #[.val (.ref a0), .val (.long q1), .second, .val (.long y2), .second, .val (.int (1 : Int32))] [])) (fun target kt => ?_) ?_
  · subst h_y2
    show Steps p.tables e below (T289.setTop (mkF m 32 #[.val (.ref a0), .val (.long q1), .second, .val (.long x1), .second, .val (.int (1 : Int32))] [(.long wm), (.long ((x1 + (g1 1)) * (g2 1)))])) _
    refine XS.land X289.here hx rfl (hb hby d6_32) rfl ?_
    show Steps p.tables e below (T289.setTop (mkF m 33 #[.val (.ref a0), .val (.long q1), .second, .val (.long x1), .second, .val (.int (1 : Int32))] [(.long (((x1 + (g1 1)) * (g2 1)) &&& wm))])) _
    refine XS.lstoreN X289.here hx rfl (hb hby d6_33) rfl (l' := #[.val (.ref a0), .val (.long q1), .second, .val (.long (((x1 + (g1 1)) * (g2 1)) &&& wm)), .second, .val (.int (1 : Int32))]) rfl ?_
    exact kt
  refine own_go (S' := T289.setTop (mkF m 37 #[.val (.ref a0), .val (.long q1), .second, .val (.long y2), .second, .val (.int (1 : Int32))] [(.ref a0), (.long y2), (.long y2)])) (fun target kt => ?_) ?_
  · skip
    show Steps p.tables e below (T289.setTop (mkF m 34 #[.val (.ref a0), .val (.long q1), .second, .val (.long y2), .second, .val (.int (1 : Int32))] [])) _
    refine XS.lloadN X289.here hx rfl (hb hby d6_34) rfl ?_
    show Steps p.tables e below (T289.setTop (mkF m 35 #[.val (.ref a0), .val (.long q1), .second, .val (.long y2), .second, .val (.int (1 : Int32))] [(.long y2)])) _
    refine XS.lloadN X289.here hx rfl (hb hby d6_35) rfl ?_
    show Steps p.tables e below (T289.setTop (mkF m 36 #[.val (.ref a0), .val (.long q1), .second, .val (.long y2), .second, .val (.int (1 : Int32))] [(.long y2), (.long y2)])) _
    refine XS.aloadN X289.here hx rfl (hb hby d6_36) rfl rfl ?_
    exact kt
  obtain ⟨T290, X290, e290, st290⟩ := getF X289 hx hZ hown (host := "") (Or.inl (hw _ (List.mem_of_getElem? (i := 27) rfl))) Via.refl e289 pf3 (g := (mkF m 37 #[.val (.ref a0), .val (.long q1), .second, .val (.long y2), .second, .val (.int (1 : Int32))] [(.ref a0), (.long y2), (.long y2)])) rfl rfl (hb hby d6_37)
  refine own_go (S' := T290.setTop (mkF m 40 #[.val (.ref a0), .val (.long q1), .second, .val (.long y2), .second, .val (.int (1 : Int32))] [(.int wf), (.long y2), (.long y2)])) st290 ?_
  obtain ⟨x2, h_x2⟩ : ∃ z : Int64, z = (y2 ^^^ (own_ushrL y2 wf)) := ⟨_, rfl⟩
  refine own_go (S' := T290.setTop (mkF m 43 #[.val (.ref a0), .val (.long q1), .second, .val (.long x2), .second, .val (.int (1 : Int32))] [])) (fun target kt => ?_) ?_
  · subst h_x2
    show Steps p.tables e below (T290.setTop (mkF m 40 #[.val (.ref a0), .val (.long q1), .second, .val (.long y2), .second, .val (.int (1 : Int32))] [(.int wf), (.long y2), (.long y2)])) _
    refine XS.lushr X290.here hx rfl (hb hby d6_40) rfl ?_
    show Steps p.tables e below (T290.setTop (mkF m 41 #[.val (.ref a0), .val (.long q1), .second, .val (.long y2), .second, .val (.int (1 : Int32))] [(.long (own_ushrL y2 wf)), (.long y2)])) _
    refine XS.lxor X290.here hx rfl (hb hby d6_41) rfl ?_
    show Steps p.tables e below (T290.setTop (mkF m 42 #[.val (.ref a0), .val (.long q1), .second, .val (.long y2), .second, .val (.int (1 : Int32))] [(.long (y2 ^^^ (own_ushrL y2 wf)))])) _
    refine XS.lstoreN X290.here hx rfl (hb hby d6_42) rfl (l' := #[.val (.ref a0), .val (.long q1), .second, .val (.long (y2 ^^^ (own_ushrL y2 wf))), .second, .val (.int (1 : Int32))]) rfl ?_
    exact kt
  refine own_go (S' := T290.setTop (mkF m 13 #[.val (.ref a0), .val (.long q1), .second, .val (.long x2), .second, .val (.int (2 : Int32))] [(.ref a0), (.long x2)])) (fun target kt => ?_) ?_
  · skip
    show Steps p.tables e below (T290.setTop (mkF m 43 #[.val (.ref a0), .val (.long q1), .second, .val (.long x2), .second, .val (.int (1 : Int32))] [])) _
    refine XS.iinc X290.here hx rfl (hb hby d6_43) rfl (l' := #[.val (.ref a0), .val (.long q1), .second, .val (.long x2), .second, .val (.int ((1 : Int32) + (1 : Int32)))]) rfl ?_
    rw [show ((1 : Int32) + (1 : Int32)) = (2 : Int32) from by decide]
    show Steps p.tables e below (T290.setTop (mkF m 46 #[.val (.ref a0), .val (.long q1), .second, .val (.long x2), .second, .val (.int (2 : Int32))] [])) _
    refine XS.goto X290.here hx rfl (pc0 := 46) (pc' := 5) rfl (hb hby d6_46) (by decide) (by decide) ?_
    show Steps p.tables e below (T290.setTop (mkF m 5 #[.val (.ref a0), .val (.long q1), .second, .val (.long x2), .second, .val (.int (2 : Int32))] [])) _
    refine XS.iload X290.here hx rfl (hb hby d6_5) rfl ?_
    show Steps p.tables e below (T290.setTop (mkF m 7 #[.val (.ref a0), .val (.long q1), .second, .val (.long x2), .second, .val (.int (2 : Int32))] [(.int (2 : Int32))])) _
    refine XS.iconst X290.here hx rfl (hb hby d6_7) ?_
    show Steps p.tables e below (T290.setTop (mkF m 8 #[.val (.ref a0), .val (.long q1), .second, .val (.long x2), .second, .val (.int (2 : Int32))] [(.int (4 : Int32)), (.int (2 : Int32))])) _
    refine XS.icmpNo X290.here hx rfl (hb hby d6_8) rfl (tlt (by decide : (2 : Int32) < (4 : Int32))).2.1 ?_
    show Steps p.tables e below (T290.setTop (mkF m 11 #[.val (.ref a0), .val (.long q1), .second, .val (.long x2), .second, .val (.int (2 : Int32))] [])) _
    refine XS.lloadN X290.here hx rfl (hb hby d6_11) rfl ?_
    show Steps p.tables e below (T290.setTop (mkF m 12 #[.val (.ref a0), .val (.long q1), .second, .val (.long x2), .second, .val (.int (2 : Int32))] [(.long x2)])) _
    refine XS.aloadN X290.here hx rfl (hb hby d6_12) rfl rfl ?_
    exact kt
  obtain ⟨T291, X291, e291, st291⟩ := getF X290 hx hZ hown (host := "") (Or.inl (hw _ (List.mem_of_getElem? (i := 20) rfl))) Via.refl e290 pf0 (g := (mkF m 13 #[.val (.ref a0), .val (.long q1), .second, .val (.long x2), .second, .val (.int (2 : Int32))] [(.ref a0), (.long x2)])) rfl rfl (hb hby d6_13)
  refine own_go (S' := T291.setTop (mkF m 16 #[.val (.ref a0), .val (.long q1), .second, .val (.long x2), .second, .val (.int (2 : Int32))] [(.ref b1), (.long x2)])) st291 ?_
  refine own_go (S' := T291.setTop (mkF m 18 #[.val (.ref a0), .val (.long q1), .second, .val (.long x2), .second, .val (.int (2 : Int32))] [(.int (2 : Int32)), (.ref b1), (.long x2)])) (fun target kt => ?_) ?_
  · skip
    show Steps p.tables e below (T291.setTop (mkF m 16 #[.val (.ref a0), .val (.long q1), .second, .val (.long x2), .second, .val (.int (2 : Int32))] [(.ref b1), (.long x2)])) _
    refine XS.iload X291.here hx rfl (hb hby d6_16) rfl ?_
    exact kt
  obtain ⟨c292, Ar292, S292, M292, H292⟩ := id pf4
  have hj292 : ¬ (2 : Int32) < 0 ∧ ((2 : Int32)).toNatClampNeg < 4 := ⟨by decide, by decide⟩
  have st292 : ∀ target, Steps p.tables e below (T291.setTop (mkF m 19 #[.val (.ref a0), .val (.long q1), .second, .val (.long x2), .second, .val (.int (2 : Int32))] [(.long (g1 2)), (.long x2)])) target → Steps p.tables e below (T291.setTop (mkF m 18 #[.val (.ref a0), .val (.long q1), .second, .val (.long x2), .second, .val (.int (2 : Int32))] [(.int (2 : Int32)), (.ref b1), (.long x2)])) target := fun target kt => X291.laload hx (j := (2 : Int32)) (v := (.long (g1 2))) (by rw [e291]; exact Ar292.1) (State.isArrayOf_alike hZ.alike Ar292.2.1) Ar292.2.2 (own_in S292 hj292) (H292 _ hj292.2) (g := (mkF m 18 #[.val (.ref a0), .val (.long q1), .second, .val (.long x2), .second, .val (.int (2 : Int32))] [(.int (2 : Int32)), (.ref b1), (.long x2)])) rfl rfl (hb hby d6_18) _ kt
  refine own_go (S' := T291.setTop (mkF m 19 #[.val (.ref a0), .val (.long q1), .second, .val (.long x2), .second, .val (.int (2 : Int32))] [(.long (g1 2)), (.long x2)])) st292 ?_
  refine own_go (S' := T291.setTop (mkF m 21 #[.val (.ref a0), .val (.long q1), .second, .val (.long x2), .second, .val (.int (2 : Int32))] [(.ref a0), (.long (x2 + (g1 2)))])) (fun target kt => ?_) ?_
  · skip
    show Steps p.tables e below (T291.setTop (mkF m 19 #[.val (.ref a0), .val (.long q1), .second, .val (.long x2), .second, .val (.int (2 : Int32))] [(.long (g1 2)), (.long x2)])) _
    refine XS.ladd X291.here hx rfl (hb hby d6_19) rfl ?_
    show Steps p.tables e below (T291.setTop (mkF m 20 #[.val (.ref a0), .val (.long q1), .second, .val (.long x2), .second, .val (.int (2 : Int32))] [(.long (x2 + (g1 2)))])) _
    refine XS.aloadN X291.here hx rfl (hb hby d6_20) rfl rfl ?_
    exact kt
  obtain ⟨T293, X293, e293, st293⟩ := getF X291 hx hZ hown (host := "") (Or.inl (hw _ (List.mem_of_getElem? (i := 22) rfl))) Via.refl e291 pf1 (g := (mkF m 21 #[.val (.ref a0), .val (.long q1), .second, .val (.long x2), .second, .val (.int (2 : Int32))] [(.ref a0), (.long (x2 + (g1 2)))])) rfl rfl (hb hby d6_21)
  refine own_go (S' := T293.setTop (mkF m 24 #[.val (.ref a0), .val (.long q1), .second, .val (.long x2), .second, .val (.int (2 : Int32))] [(.ref b2), (.long (x2 + (g1 2)))])) st293 ?_
  refine own_go (S' := T293.setTop (mkF m 26 #[.val (.ref a0), .val (.long q1), .second, .val (.long x2), .second, .val (.int (2 : Int32))] [(.int (2 : Int32)), (.ref b2), (.long (x2 + (g1 2)))])) (fun target kt => ?_) ?_
  · skip
    show Steps p.tables e below (T293.setTop (mkF m 24 #[.val (.ref a0), .val (.long q1), .second, .val (.long x2), .second, .val (.int (2 : Int32))] [(.ref b2), (.long (x2 + (g1 2)))])) _
    refine XS.iload X293.here hx rfl (hb hby d6_24) rfl ?_
    exact kt
  obtain ⟨c294, Ar294, S294, M294, H294⟩ := id pf5
  have hj294 : ¬ (2 : Int32) < 0 ∧ ((2 : Int32)).toNatClampNeg < 4 := ⟨by decide, by decide⟩
  have st294 : ∀ target, Steps p.tables e below (T293.setTop (mkF m 27 #[.val (.ref a0), .val (.long q1), .second, .val (.long x2), .second, .val (.int (2 : Int32))] [(.long (g2 2)), (.long (x2 + (g1 2)))])) target → Steps p.tables e below (T293.setTop (mkF m 26 #[.val (.ref a0), .val (.long q1), .second, .val (.long x2), .second, .val (.int (2 : Int32))] [(.int (2 : Int32)), (.ref b2), (.long (x2 + (g1 2)))])) target := fun target kt => X293.laload hx (j := (2 : Int32)) (v := (.long (g2 2))) (by rw [e293]; exact Ar294.1) (State.isArrayOf_alike hZ.alike Ar294.2.1) Ar294.2.2 (own_in S294 hj294) (H294 _ hj294.2) (g := (mkF m 26 #[.val (.ref a0), .val (.long q1), .second, .val (.long x2), .second, .val (.int (2 : Int32))] [(.int (2 : Int32)), (.ref b2), (.long (x2 + (g1 2)))])) rfl rfl (hb hby d6_26) _ kt
  refine own_go (S' := T293.setTop (mkF m 27 #[.val (.ref a0), .val (.long q1), .second, .val (.long x2), .second, .val (.int (2 : Int32))] [(.long (g2 2)), (.long (x2 + (g1 2)))])) st294 ?_
  refine own_go (S' := T293.setTop (mkF m 29 #[.val (.ref a0), .val (.long q1), .second, .val (.long x2), .second, .val (.int (2 : Int32))] [(.ref a0), (.long ((x2 + (g1 2)) * (g2 2)))])) (fun target kt => ?_) ?_
  · skip
    show Steps p.tables e below (T293.setTop (mkF m 27 #[.val (.ref a0), .val (.long q1), .second, .val (.long x2), .second, .val (.int (2 : Int32))] [(.long (g2 2)), (.long (x2 + (g1 2)))])) _
    refine XS.lmul X293.here hx rfl (hb hby d6_27) rfl ?_
    show Steps p.tables e below (T293.setTop (mkF m 28 #[.val (.ref a0), .val (.long q1), .second, .val (.long x2), .second, .val (.int (2 : Int32))] [(.long ((x2 + (g1 2)) * (g2 2)))])) _
    refine XS.aloadN X293.here hx rfl (hb hby d6_28) rfl rfl ?_
    exact kt
  obtain ⟨T295, X295, e295, st295⟩ := getF X293 hx hZ hown (host := "") (Or.inl (hw _ (List.mem_of_getElem? (i := 25) rfl))) Via.refl e293 pf2 (g := (mkF m 29 #[.val (.ref a0), .val (.long q1), .second, .val (.long x2), .second, .val (.int (2 : Int32))] [(.ref a0), (.long ((x2 + (g1 2)) * (g2 2)))])) rfl rfl (hb hby d6_29)
  refine own_go (S' := T295.setTop (mkF m 32 #[.val (.ref a0), .val (.long q1), .second, .val (.long x2), .second, .val (.int (2 : Int32))] [(.long wm), (.long ((x2 + (g1 2)) * (g2 2)))])) st295 ?_
  obtain ⟨y3, h_y3⟩ : ∃ z : Int64, z = (((x2 + (g1 2)) * (g2 2)) &&& wm) := ⟨_, rfl⟩
  refine own_go (S' := T295.setTop (mkF m 34 #[.val (.ref a0), .val (.long q1), .second, .val (.long y3), .second, .val (.int (2 : Int32))] [])) (fun target kt => ?_) ?_
  · subst h_y3
    show Steps p.tables e below (T295.setTop (mkF m 32 #[.val (.ref a0), .val (.long q1), .second, .val (.long x2), .second, .val (.int (2 : Int32))] [(.long wm), (.long ((x2 + (g1 2)) * (g2 2)))])) _
    refine XS.land X295.here hx rfl (hb hby d6_32) rfl ?_
    show Steps p.tables e below (T295.setTop (mkF m 33 #[.val (.ref a0), .val (.long q1), .second, .val (.long x2), .second, .val (.int (2 : Int32))] [(.long (((x2 + (g1 2)) * (g2 2)) &&& wm))])) _
    refine XS.lstoreN X295.here hx rfl (hb hby d6_33) rfl (l' := #[.val (.ref a0), .val (.long q1), .second, .val (.long (((x2 + (g1 2)) * (g2 2)) &&& wm)), .second, .val (.int (2 : Int32))]) rfl ?_
    exact kt
  refine own_go (S' := T295.setTop (mkF m 37 #[.val (.ref a0), .val (.long q1), .second, .val (.long y3), .second, .val (.int (2 : Int32))] [(.ref a0), (.long y3), (.long y3)])) (fun target kt => ?_) ?_
  · skip
    show Steps p.tables e below (T295.setTop (mkF m 34 #[.val (.ref a0), .val (.long q1), .second, .val (.long y3), .second, .val (.int (2 : Int32))] [])) _
    refine XS.lloadN X295.here hx rfl (hb hby d6_34) rfl ?_
    show Steps p.tables e below (T295.setTop (mkF m 35 #[.val (.ref a0), .val (.long q1), .second, .val (.long y3), .second, .val (.int (2 : Int32))] [(.long y3)])) _
    refine XS.lloadN X295.here hx rfl (hb hby d6_35) rfl ?_
    show Steps p.tables e below (T295.setTop (mkF m 36 #[.val (.ref a0), .val (.long q1), .second, .val (.long y3), .second, .val (.int (2 : Int32))] [(.long y3), (.long y3)])) _
    refine XS.aloadN X295.here hx rfl (hb hby d6_36) rfl rfl ?_
    exact kt
  obtain ⟨T296, X296, e296, st296⟩ := getF X295 hx hZ hown (host := "") (Or.inl (hw _ (List.mem_of_getElem? (i := 27) rfl))) Via.refl e295 pf3 (g := (mkF m 37 #[.val (.ref a0), .val (.long q1), .second, .val (.long y3), .second, .val (.int (2 : Int32))] [(.ref a0), (.long y3), (.long y3)])) rfl rfl (hb hby d6_37)
  refine own_go (S' := T296.setTop (mkF m 40 #[.val (.ref a0), .val (.long q1), .second, .val (.long y3), .second, .val (.int (2 : Int32))] [(.int wf), (.long y3), (.long y3)])) st296 ?_
  obtain ⟨x3, h_x3⟩ : ∃ z : Int64, z = (y3 ^^^ (own_ushrL y3 wf)) := ⟨_, rfl⟩
  refine own_go (S' := T296.setTop (mkF m 43 #[.val (.ref a0), .val (.long q1), .second, .val (.long x3), .second, .val (.int (2 : Int32))] [])) (fun target kt => ?_) ?_
  · subst h_x3
    show Steps p.tables e below (T296.setTop (mkF m 40 #[.val (.ref a0), .val (.long q1), .second, .val (.long y3), .second, .val (.int (2 : Int32))] [(.int wf), (.long y3), (.long y3)])) _
    refine XS.lushr X296.here hx rfl (hb hby d6_40) rfl ?_
    show Steps p.tables e below (T296.setTop (mkF m 41 #[.val (.ref a0), .val (.long q1), .second, .val (.long y3), .second, .val (.int (2 : Int32))] [(.long (own_ushrL y3 wf)), (.long y3)])) _
    refine XS.lxor X296.here hx rfl (hb hby d6_41) rfl ?_
    show Steps p.tables e below (T296.setTop (mkF m 42 #[.val (.ref a0), .val (.long q1), .second, .val (.long y3), .second, .val (.int (2 : Int32))] [(.long (y3 ^^^ (own_ushrL y3 wf)))])) _
    refine XS.lstoreN X296.here hx rfl (hb hby d6_42) rfl (l' := #[.val (.ref a0), .val (.long q1), .second, .val (.long (y3 ^^^ (own_ushrL y3 wf))), .second, .val (.int (2 : Int32))]) rfl ?_
    exact kt
  refine own_go (S' := T296.setTop (mkF m 13 #[.val (.ref a0), .val (.long q1), .second, .val (.long x3), .second, .val (.int (3 : Int32))] [(.ref a0), (.long x3)])) (fun target kt => ?_) ?_
  · skip
    show Steps p.tables e below (T296.setTop (mkF m 43 #[.val (.ref a0), .val (.long q1), .second, .val (.long x3), .second, .val (.int (2 : Int32))] [])) _
    refine XS.iinc X296.here hx rfl (hb hby d6_43) rfl (l' := #[.val (.ref a0), .val (.long q1), .second, .val (.long x3), .second, .val (.int ((2 : Int32) + (1 : Int32)))]) rfl ?_
    rw [show ((2 : Int32) + (1 : Int32)) = (3 : Int32) from by decide]
    show Steps p.tables e below (T296.setTop (mkF m 46 #[.val (.ref a0), .val (.long q1), .second, .val (.long x3), .second, .val (.int (3 : Int32))] [])) _
    refine XS.goto X296.here hx rfl (pc0 := 46) (pc' := 5) rfl (hb hby d6_46) (by decide) (by decide) ?_
    show Steps p.tables e below (T296.setTop (mkF m 5 #[.val (.ref a0), .val (.long q1), .second, .val (.long x3), .second, .val (.int (3 : Int32))] [])) _
    refine XS.iload X296.here hx rfl (hb hby d6_5) rfl ?_
    show Steps p.tables e below (T296.setTop (mkF m 7 #[.val (.ref a0), .val (.long q1), .second, .val (.long x3), .second, .val (.int (3 : Int32))] [(.int (3 : Int32))])) _
    refine XS.iconst X296.here hx rfl (hb hby d6_7) ?_
    show Steps p.tables e below (T296.setTop (mkF m 8 #[.val (.ref a0), .val (.long q1), .second, .val (.long x3), .second, .val (.int (3 : Int32))] [(.int (4 : Int32)), (.int (3 : Int32))])) _
    refine XS.icmpNo X296.here hx rfl (hb hby d6_8) rfl (tlt (by decide : (3 : Int32) < (4 : Int32))).2.1 ?_
    show Steps p.tables e below (T296.setTop (mkF m 11 #[.val (.ref a0), .val (.long q1), .second, .val (.long x3), .second, .val (.int (3 : Int32))] [])) _
    refine XS.lloadN X296.here hx rfl (hb hby d6_11) rfl ?_
    show Steps p.tables e below (T296.setTop (mkF m 12 #[.val (.ref a0), .val (.long q1), .second, .val (.long x3), .second, .val (.int (3 : Int32))] [(.long x3)])) _
    refine XS.aloadN X296.here hx rfl (hb hby d6_12) rfl rfl ?_
    exact kt
  obtain ⟨T297, X297, e297, st297⟩ := getF X296 hx hZ hown (host := "") (Or.inl (hw _ (List.mem_of_getElem? (i := 20) rfl))) Via.refl e296 pf0 (g := (mkF m 13 #[.val (.ref a0), .val (.long q1), .second, .val (.long x3), .second, .val (.int (3 : Int32))] [(.ref a0), (.long x3)])) rfl rfl (hb hby d6_13)
  refine own_go (S' := T297.setTop (mkF m 16 #[.val (.ref a0), .val (.long q1), .second, .val (.long x3), .second, .val (.int (3 : Int32))] [(.ref b1), (.long x3)])) st297 ?_
  refine own_go (S' := T297.setTop (mkF m 18 #[.val (.ref a0), .val (.long q1), .second, .val (.long x3), .second, .val (.int (3 : Int32))] [(.int (3 : Int32)), (.ref b1), (.long x3)])) (fun target kt => ?_) ?_
  · skip
    show Steps p.tables e below (T297.setTop (mkF m 16 #[.val (.ref a0), .val (.long q1), .second, .val (.long x3), .second, .val (.int (3 : Int32))] [(.ref b1), (.long x3)])) _
    refine XS.iload X297.here hx rfl (hb hby d6_16) rfl ?_
    exact kt
  obtain ⟨c298, Ar298, S298, M298, H298⟩ := id pf4
  have hj298 : ¬ (3 : Int32) < 0 ∧ ((3 : Int32)).toNatClampNeg < 4 := ⟨by decide, by decide⟩
  have st298 : ∀ target, Steps p.tables e below (T297.setTop (mkF m 19 #[.val (.ref a0), .val (.long q1), .second, .val (.long x3), .second, .val (.int (3 : Int32))] [(.long (g1 3)), (.long x3)])) target → Steps p.tables e below (T297.setTop (mkF m 18 #[.val (.ref a0), .val (.long q1), .second, .val (.long x3), .second, .val (.int (3 : Int32))] [(.int (3 : Int32)), (.ref b1), (.long x3)])) target := fun target kt => X297.laload hx (j := (3 : Int32)) (v := (.long (g1 3))) (by rw [e297]; exact Ar298.1) (State.isArrayOf_alike hZ.alike Ar298.2.1) Ar298.2.2 (own_in S298 hj298) (H298 _ hj298.2) (g := (mkF m 18 #[.val (.ref a0), .val (.long q1), .second, .val (.long x3), .second, .val (.int (3 : Int32))] [(.int (3 : Int32)), (.ref b1), (.long x3)])) rfl rfl (hb hby d6_18) _ kt
  refine own_go (S' := T297.setTop (mkF m 19 #[.val (.ref a0), .val (.long q1), .second, .val (.long x3), .second, .val (.int (3 : Int32))] [(.long (g1 3)), (.long x3)])) st298 ?_
  refine own_go (S' := T297.setTop (mkF m 21 #[.val (.ref a0), .val (.long q1), .second, .val (.long x3), .second, .val (.int (3 : Int32))] [(.ref a0), (.long (x3 + (g1 3)))])) (fun target kt => ?_) ?_
  · skip
    show Steps p.tables e below (T297.setTop (mkF m 19 #[.val (.ref a0), .val (.long q1), .second, .val (.long x3), .second, .val (.int (3 : Int32))] [(.long (g1 3)), (.long x3)])) _
    refine XS.ladd X297.here hx rfl (hb hby d6_19) rfl ?_
    show Steps p.tables e below (T297.setTop (mkF m 20 #[.val (.ref a0), .val (.long q1), .second, .val (.long x3), .second, .val (.int (3 : Int32))] [(.long (x3 + (g1 3)))])) _
    refine XS.aloadN X297.here hx rfl (hb hby d6_20) rfl rfl ?_
    exact kt
  obtain ⟨T299, X299, e299, st299⟩ := getF X297 hx hZ hown (host := "") (Or.inl (hw _ (List.mem_of_getElem? (i := 22) rfl))) Via.refl e297 pf1 (g := (mkF m 21 #[.val (.ref a0), .val (.long q1), .second, .val (.long x3), .second, .val (.int (3 : Int32))] [(.ref a0), (.long (x3 + (g1 3)))])) rfl rfl (hb hby d6_21)
  refine own_go (S' := T299.setTop (mkF m 24 #[.val (.ref a0), .val (.long q1), .second, .val (.long x3), .second, .val (.int (3 : Int32))] [(.ref b2), (.long (x3 + (g1 3)))])) st299 ?_
  refine own_go (S' := T299.setTop (mkF m 26 #[.val (.ref a0), .val (.long q1), .second, .val (.long x3), .second, .val (.int (3 : Int32))] [(.int (3 : Int32)), (.ref b2), (.long (x3 + (g1 3)))])) (fun target kt => ?_) ?_
  · skip
    show Steps p.tables e below (T299.setTop (mkF m 24 #[.val (.ref a0), .val (.long q1), .second, .val (.long x3), .second, .val (.int (3 : Int32))] [(.ref b2), (.long (x3 + (g1 3)))])) _
    refine XS.iload X299.here hx rfl (hb hby d6_24) rfl ?_
    exact kt
  obtain ⟨c300, Ar300, S300, M300, H300⟩ := id pf5
  have hj300 : ¬ (3 : Int32) < 0 ∧ ((3 : Int32)).toNatClampNeg < 4 := ⟨by decide, by decide⟩
  have st300 : ∀ target, Steps p.tables e below (T299.setTop (mkF m 27 #[.val (.ref a0), .val (.long q1), .second, .val (.long x3), .second, .val (.int (3 : Int32))] [(.long (g2 3)), (.long (x3 + (g1 3)))])) target → Steps p.tables e below (T299.setTop (mkF m 26 #[.val (.ref a0), .val (.long q1), .second, .val (.long x3), .second, .val (.int (3 : Int32))] [(.int (3 : Int32)), (.ref b2), (.long (x3 + (g1 3)))])) target := fun target kt => X299.laload hx (j := (3 : Int32)) (v := (.long (g2 3))) (by rw [e299]; exact Ar300.1) (State.isArrayOf_alike hZ.alike Ar300.2.1) Ar300.2.2 (own_in S300 hj300) (H300 _ hj300.2) (g := (mkF m 26 #[.val (.ref a0), .val (.long q1), .second, .val (.long x3), .second, .val (.int (3 : Int32))] [(.int (3 : Int32)), (.ref b2), (.long (x3 + (g1 3)))])) rfl rfl (hb hby d6_26) _ kt
  refine own_go (S' := T299.setTop (mkF m 27 #[.val (.ref a0), .val (.long q1), .second, .val (.long x3), .second, .val (.int (3 : Int32))] [(.long (g2 3)), (.long (x3 + (g1 3)))])) st300 ?_
  refine own_go (S' := T299.setTop (mkF m 29 #[.val (.ref a0), .val (.long q1), .second, .val (.long x3), .second, .val (.int (3 : Int32))] [(.ref a0), (.long ((x3 + (g1 3)) * (g2 3)))])) (fun target kt => ?_) ?_
  · skip
    show Steps p.tables e below (T299.setTop (mkF m 27 #[.val (.ref a0), .val (.long q1), .second, .val (.long x3), .second, .val (.int (3 : Int32))] [(.long (g2 3)), (.long (x3 + (g1 3)))])) _
    refine XS.lmul X299.here hx rfl (hb hby d6_27) rfl ?_
    show Steps p.tables e below (T299.setTop (mkF m 28 #[.val (.ref a0), .val (.long q1), .second, .val (.long x3), .second, .val (.int (3 : Int32))] [(.long ((x3 + (g1 3)) * (g2 3)))])) _
    refine XS.aloadN X299.here hx rfl (hb hby d6_28) rfl rfl ?_
    exact kt
  obtain ⟨T301, X301, e301, st301⟩ := getF X299 hx hZ hown (host := "") (Or.inl (hw _ (List.mem_of_getElem? (i := 25) rfl))) Via.refl e299 pf2 (g := (mkF m 29 #[.val (.ref a0), .val (.long q1), .second, .val (.long x3), .second, .val (.int (3 : Int32))] [(.ref a0), (.long ((x3 + (g1 3)) * (g2 3)))])) rfl rfl (hb hby d6_29)
  refine own_go (S' := T301.setTop (mkF m 32 #[.val (.ref a0), .val (.long q1), .second, .val (.long x3), .second, .val (.int (3 : Int32))] [(.long wm), (.long ((x3 + (g1 3)) * (g2 3)))])) st301 ?_
  obtain ⟨y4, h_y4⟩ : ∃ z : Int64, z = (((x3 + (g1 3)) * (g2 3)) &&& wm) := ⟨_, rfl⟩
  refine own_go (S' := T301.setTop (mkF m 34 #[.val (.ref a0), .val (.long q1), .second, .val (.long y4), .second, .val (.int (3 : Int32))] [])) (fun target kt => ?_) ?_
  · subst h_y4
    show Steps p.tables e below (T301.setTop (mkF m 32 #[.val (.ref a0), .val (.long q1), .second, .val (.long x3), .second, .val (.int (3 : Int32))] [(.long wm), (.long ((x3 + (g1 3)) * (g2 3)))])) _
    refine XS.land X301.here hx rfl (hb hby d6_32) rfl ?_
    show Steps p.tables e below (T301.setTop (mkF m 33 #[.val (.ref a0), .val (.long q1), .second, .val (.long x3), .second, .val (.int (3 : Int32))] [(.long (((x3 + (g1 3)) * (g2 3)) &&& wm))])) _
    refine XS.lstoreN X301.here hx rfl (hb hby d6_33) rfl (l' := #[.val (.ref a0), .val (.long q1), .second, .val (.long (((x3 + (g1 3)) * (g2 3)) &&& wm)), .second, .val (.int (3 : Int32))]) rfl ?_
    exact kt
  refine own_go (S' := T301.setTop (mkF m 37 #[.val (.ref a0), .val (.long q1), .second, .val (.long y4), .second, .val (.int (3 : Int32))] [(.ref a0), (.long y4), (.long y4)])) (fun target kt => ?_) ?_
  · skip
    show Steps p.tables e below (T301.setTop (mkF m 34 #[.val (.ref a0), .val (.long q1), .second, .val (.long y4), .second, .val (.int (3 : Int32))] [])) _
    refine XS.lloadN X301.here hx rfl (hb hby d6_34) rfl ?_
    show Steps p.tables e below (T301.setTop (mkF m 35 #[.val (.ref a0), .val (.long q1), .second, .val (.long y4), .second, .val (.int (3 : Int32))] [(.long y4)])) _
    refine XS.lloadN X301.here hx rfl (hb hby d6_35) rfl ?_
    show Steps p.tables e below (T301.setTop (mkF m 36 #[.val (.ref a0), .val (.long q1), .second, .val (.long y4), .second, .val (.int (3 : Int32))] [(.long y4), (.long y4)])) _
    refine XS.aloadN X301.here hx rfl (hb hby d6_36) rfl rfl ?_
    exact kt
  obtain ⟨T302, X302, e302, st302⟩ := getF X301 hx hZ hown (host := "") (Or.inl (hw _ (List.mem_of_getElem? (i := 27) rfl))) Via.refl e301 pf3 (g := (mkF m 37 #[.val (.ref a0), .val (.long q1), .second, .val (.long y4), .second, .val (.int (3 : Int32))] [(.ref a0), (.long y4), (.long y4)])) rfl rfl (hb hby d6_37)
  refine own_go (S' := T302.setTop (mkF m 40 #[.val (.ref a0), .val (.long q1), .second, .val (.long y4), .second, .val (.int (3 : Int32))] [(.int wf), (.long y4), (.long y4)])) st302 ?_
  obtain ⟨x4, h_x4⟩ : ∃ z : Int64, z = (y4 ^^^ (own_ushrL y4 wf)) := ⟨_, rfl⟩
  refine own_go (S' := T302.setTop (mkF m 43 #[.val (.ref a0), .val (.long q1), .second, .val (.long x4), .second, .val (.int (3 : Int32))] [])) (fun target kt => ?_) ?_
  · subst h_x4
    show Steps p.tables e below (T302.setTop (mkF m 40 #[.val (.ref a0), .val (.long q1), .second, .val (.long y4), .second, .val (.int (3 : Int32))] [(.int wf), (.long y4), (.long y4)])) _
    refine XS.lushr X302.here hx rfl (hb hby d6_40) rfl ?_
    show Steps p.tables e below (T302.setTop (mkF m 41 #[.val (.ref a0), .val (.long q1), .second, .val (.long y4), .second, .val (.int (3 : Int32))] [(.long (own_ushrL y4 wf)), (.long y4)])) _
    refine XS.lxor X302.here hx rfl (hb hby d6_41) rfl ?_
    show Steps p.tables e below (T302.setTop (mkF m 42 #[.val (.ref a0), .val (.long q1), .second, .val (.long y4), .second, .val (.int (3 : Int32))] [(.long (y4 ^^^ (own_ushrL y4 wf)))])) _
    refine XS.lstoreN X302.here hx rfl (hb hby d6_42) rfl (l' := #[.val (.ref a0), .val (.long q1), .second, .val (.long (y4 ^^^ (own_ushrL y4 wf))), .second, .val (.int (3 : Int32))]) rfl ?_
    exact kt
  refine own_go (S' := T302.setTop (mkF m 50 #[.val (.ref a0), .val (.long q1), .second, .val (.long x4), .second, .val (.int (4 : Int32))] [(.long x4)])) (fun target kt => ?_) ?_
  · skip
    show Steps p.tables e below (T302.setTop (mkF m 43 #[.val (.ref a0), .val (.long q1), .second, .val (.long x4), .second, .val (.int (3 : Int32))] [])) _
    refine XS.iinc X302.here hx rfl (hb hby d6_43) rfl (l' := #[.val (.ref a0), .val (.long q1), .second, .val (.long x4), .second, .val (.int ((3 : Int32) + (1 : Int32)))]) rfl ?_
    rw [show ((3 : Int32) + (1 : Int32)) = (4 : Int32) from by decide]
    show Steps p.tables e below (T302.setTop (mkF m 46 #[.val (.ref a0), .val (.long q1), .second, .val (.long x4), .second, .val (.int (4 : Int32))] [])) _
    refine XS.goto X302.here hx rfl (pc0 := 46) (pc' := 5) rfl (hb hby d6_46) (by decide) (by decide) ?_
    show Steps p.tables e below (T302.setTop (mkF m 5 #[.val (.ref a0), .val (.long q1), .second, .val (.long x4), .second, .val (.int (4 : Int32))] [])) _
    refine XS.iload X302.here hx rfl (hb hby d6_5) rfl ?_
    show Steps p.tables e below (T302.setTop (mkF m 7 #[.val (.ref a0), .val (.long q1), .second, .val (.long x4), .second, .val (.int (4 : Int32))] [(.int (4 : Int32))])) _
    refine XS.iconst X302.here hx rfl (hb hby d6_7) ?_
    show Steps p.tables e below (T302.setTop (mkF m 8 #[.val (.ref a0), .val (.long q1), .second, .val (.long x4), .second, .val (.int (4 : Int32))] [(.int (4 : Int32)), (.int (4 : Int32))])) _
    refine XS.icmpYes X302.here hx rfl (pc0 := 8) (pc' := 49) rfl (hb hby d6_8) rfl (flt (by decide : ¬ (4 : Int32) < (4 : Int32))).2.1 (by decide) (by decide) ?_
    show Steps p.tables e below (T302.setTop (mkF m 49 #[.val (.ref a0), .val (.long q1), .second, .val (.long x4), .second, .val (.int (4 : Int32))] [])) _
    refine XS.lloadN X302.here hx rfl (hb hby d6_49) rfl ?_
    exact kt
  obtain ⟨fs, hr, hrun, hended, hW, hsame⟩ := X302.leave (v := some (.long x4)) (fun h => by rw [Bd.returns] at h; cases h)
  refine ⟨_, _, ?_, hrun, hended, _, _, rfl, ?_, ⟨_, rfl⟩, hW, hsame.mono (by decide) (by decide)⟩
  · exact retL X302 hx Bd.returns (hb hby d6_50) hr
  · show Q6 Z a0 q1 b1 b2 wm wf g1 g2 h0 n0 _ T302.heap _
    rw [e302]
    exact ⟨(by subst h_y1 h_x1 h_y2 h_x2 h_y3 h_x3 h_y4 h_x4; (first | rfl | (simp only []; done) | (simp []; done))), N0, rfl⟩
-- THE PLAIN LAW
def own_N (x : Int64) : Nat := x.toBitVec.toNat
theorem own_N_lt (x : Int64) : own_N x < 2 ^ 64 := x.toBitVec.isLt
theorem own_N_inj {x y : Int64} (h : own_N x = own_N y) : x = y := Int64.toBitVec_inj.mp (BitVec.eq_of_toNat_eq h)
theorem own_m32 {q k : Int32} (h : 0 ≤ q.toInt) : (q % k).toInt = q.toInt % k.toInt := by rw [Int32.toInt_mod, Int.tmod_eq_emod_of_nonneg h]
theorem own_bits {x bits : Int32} (h : bits = ((1 : Int32) + ((x &&& (2147483647 : Int32)) % (62 : Int32)))) : ¬ bits < (1 : Int32) ∧ ¬ (62 : Int32) < bits := by
  have e := Jvm.Kit.i32_mask x 2147483647 (k := 31) (by decide) (by decide)
  have k62 : (62 : Int32).toInt = 62 := by decide
  have k1 : (1 : Int32).toInt = 1 := by decide
  have hn : ((x &&& (2147483647 : Int32)) % (62 : Int32)).toInt = (x &&& (2147483647 : Int32)).toInt % 62 := by rw [own_m32 (by omega), k62]
  have hb : bits.toInt = 1 + (x &&& (2147483647 : Int32)).toInt % 62 := by rw [h, Jvm.Kit.i32_add (by omega) (by omega), hn, k1]
  rw [Int32.lt_iff_toInt_lt, Int32.lt_iff_toInt_lt, k1, k62]
  omega
theorem own_bn {bits : Int32} (h : ¬ bits < (1 : Int32) ∧ ¬ (62 : Int32) < bits) : bits.toInt = (bits.toNatClampNeg : Int) ∧ 1 ≤ bits.toNatClampNeg ∧ bits.toNatClampNeg ≤ 62 := by
  have k62 : (62 : Int32).toInt = 62 := by decide
  have k1 : (1 : Int32).toInt = 1 := by decide
  rw [Int32.lt_iff_toInt_lt, Int32.lt_iff_toInt_lt, k1, k62] at h
  simp only [Int32.toNatClampNeg]
  omega
/-- a shift's distance -/
theorem own_dist {y : Int32} {k : Nat} (h : y.toInt = k) (hk : k < 64) : ((y &&& 0x3f).toInt64).toBitVec.toNat = k := by
  have e := Jvm.Kit.i32_mask y 63 (k := 6) (by decide) (by decide)
  have e2 : ((y &&& 0x3f).toInt64).toInt = k := by
    rw [Int32.toInt_toInt64]
    show (y &&& 63).toInt = k
    rw [e, h]; omega
  have e3 : ((y &&& 0x3f).toInt64).toInt = ((y &&& 0x3f).toInt64).toBitVec.toInt := rfl
  rw [e3, BitVec.toInt_eq_toNat_cond] at e2
  have := ((y &&& 0x3f).toInt64).toBitVec.isLt
  split at e2 <;> omega
theorem own_ushr_bv (x : Int64) {y : Int32} {k : Nat} (h : y.toInt = k) (hk : k < 64) : (own_ushrL x y).toBitVec = x.toBitVec >>> k := by
  show (x.toUInt64 >>> (y &&& 0x3f).toInt64.toUInt64).toBitVec = _
  rw [UInt64.toBitVec_shiftRight, BitVec.ushiftRight_eq']
  have e : ((y &&& 0x3f).toInt64.toUInt64.toBitVec % 64#64).toNat = k := by
    rw [BitVec.toNat_umod]
    show ((y &&& 0x3f).toInt64).toBitVec.toNat % 64 = k
    rw [own_dist h hk]; omega
  have e' : ((y &&& 0x3f).toInt64.toUInt64.toBitVec % 64).toNat = k := e
  rw [e']
  rfl
theorem own_shl_bv (x : Int64) {y : Int32} {k : Nat} (h : y.toInt = k) (hk : k < 64) : (own_shlL x y).toBitVec = x.toBitVec <<< k := by
  show (x <<< (y &&& 0x3f).toInt64).toBitVec = _
  rw [Int64.toBitVec_shiftLeft, BitVec.shiftLeft_eq']
  have e : (((y &&& 0x3f).toInt64).toBitVec.smod 64#64).toNat = k := by
    have d := own_dist h hk
    have d2 : ((y &&& 0x3f).toInt64).toBitVec = BitVec.ofNat 64 k := by
      apply BitVec.eq_of_toNat_eq; rw [d, BitVec.toNat_ofNat]; omega
    rw [d2]
    have := (by decide : ∀ k : Fin 64, ((BitVec.ofNat 64 k.val).smod 64#64).toNat = k.val) ⟨k, hk⟩
    exact this
  have e' : (((y &&& 0x3f).toInt64).toBitVec.smod 64).toNat = k := e
  rw [e']
/-- mask has the lowest bits alone -/
def own_isMask (bits : Int32) (mask : Int64) : Prop := mask.toBitVec.toNat = 2 ^ bits.toNatClampNeg - 1 ∧ 1 ≤ bits.toNatClampNeg ∧ bits.toNatClampNeg ≤ 62
theorem own_mask {bits : Int32} {mask : Int64} (hb : ¬ bits < (1 : Int32) ∧ ¬ (62 : Int32) < bits) (h : mask = ((own_shlL (1 : Int64) bits) - (1 : Int64))) : own_isMask bits mask := by
  obtain ⟨h1, h2, h3⟩ := own_bn hb
  refine ⟨?_, h2, h3⟩
  rw [h, Int64.toBitVec_sub, own_shl_bv _ h1 (by omega)]
  have p : 2 ^ bits.toNatClampNeg ≤ 2 ^ 62 := Nat.pow_le_pow_right (by decide) h3
  have p1 : 1 ≤ 2 ^ bits.toNatClampNeg := Nat.one_le_two_pow
  have e1 : ((1 : Int64).toBitVec <<< bits.toNatClampNeg).toNat = 2 ^ bits.toNatClampNeg := by
    rw [BitVec.toNat_shiftLeft]
    show 1 <<< bits.toNatClampNeg % 2 ^ 64 = _
    rw [Nat.shiftLeft_eq, Nat.one_mul, Nat.mod_eq_of_lt (Nat.lt_of_le_of_lt p (by decide))]
  rw [BitVec.toNat_sub, e1]
  show (2 ^ 64 - 1 + 2 ^ bits.toNatClampNeg) % 2 ^ 64 = _
  omega
theorem own_masks {bits : Int32} {mask : Int64} (hb : ¬ bits < (1 : Int32) ∧ ¬ (62 : Int32) < bits) (h : own_isMask bits mask) : (own_ushrL (-1 : Int64) ((64 : Int32) - bits)) = mask := by
  obtain ⟨h1, h2, h3⟩ := own_bn hb
  have k64 : (64 : Int32).toInt = 64 := by decide
  have hd : ((64 : Int32) - bits).toInt = ((64 - bits.toNatClampNeg : Nat) : Int) := by
    rw [Jvm.Kit.i32_sub (by omega) (by omega), k64]; omega
  apply own_N_inj
  show (own_ushrL (-1 : Int64) ((64 : Int32) - bits)).toBitVec.toNat = mask.toBitVec.toNat
  rw [own_ushr_bv _ hd (by omega), h.1, BitVec.toNat_ushiftRight]
  have e : ((-1 : Int64)).toBitVec.toNat = 2 ^ 64 - 1 := by decide
  rw [e, Nat.shiftRight_eq_div_pow]
  have e2 : 2 ^ 64 = 2 ^ bits.toNatClampNeg * 2 ^ (64 - bits.toNatClampNeg) := by rw [← Nat.pow_add]; congr 1; omega
  have p : 0 < 2 ^ (64 - bits.toNatClampNeg) := Nat.two_pow_pos _
  rw [e2]
  generalize 2 ^ (64 - bits.toNatClampNeg) = q at *
  generalize 2 ^ bits.toNatClampNeg = r at *
  have pr : 1 ≤ r := by
    rcases Nat.eq_zero_or_pos r with z | z
    · subst z; simp at e2
    · exact z
  obtain ⟨r', rfl⟩ : ∃ r', r = r' + 1 := ⟨r - 1, by omega⟩
  rw [Nat.add_mul, Nat.one_mul, Nat.add_sub_assoc p, Nat.mul_comm, Nat.mul_add_div p, Nat.div_eq_of_lt (by omega)]
  omega
theorem own_fold {bits fold : Int32} (hb : ¬ bits < (1 : Int32) ∧ ¬ (62 : Int32) < bits) (h : fold = ((bits + (1 : Int32)) / (2 : Int32))) : fold.toInt = (((bits.toNatClampNeg + 1) / 2 : Nat) : Int) := by
  obtain ⟨h1, h2, h3⟩ := own_bn hb
  have k1 : (1 : Int32).toInt = 1 := by decide
  have k2 : (2 : Int32).toInt = 2 := by decide
  have e : (bits + (1 : Int32)).toInt = bits.toNatClampNeg + 1 := by rw [Jvm.Kit.i32_add (by omega) (by omega), k1, h1]
  rw [h, Jvm.Kit.i32_div (by rw [k2]; omega), e, k2, Int.tdiv_eq_ediv_of_nonneg (by omega)]
  omega
theorem own_and {bits : Int32} {mask : Int64} (h : own_isMask bits mask) (x : Int64) : own_N (x &&& mask) = own_N x % 2 ^ bits.toNatClampNeg := by
  show (x &&& mask).toBitVec.toNat = _
  rw [Int64.toBitVec_and, BitVec.toNat_and, h.1, Nat.and_two_pow_sub_one_eq_mod]; rfl
theorem own_and_lt {bits : Int32} {mask : Int64} (h : own_isMask bits mask) (x : Int64) : own_N (x &&& mask) < 2 ^ bits.toNatClampNeg := by
  rw [own_and h]; exact Nat.mod_lt _ (Nat.two_pow_pos _)
theorem own_idle {bits : Int32} {mask q id : Int64} (h : own_isMask bits mask) (h2 : id = (q &&& mask)) : own_N id < 2 ^ bits.toNatClampNeg := by rw [h2]; exact own_and_lt h _
/-- alike in the lowest b bits -/
def own_cg (b : Nat) (u v : Int64) : Prop := own_N u % 2 ^ b = own_N v % 2 ^ b
theorem own_dvd {b : Nat} (hb : b ≤ 64) : 2 ^ b ∣ 2 ^ 64 := Nat.pow_dvd_pow 2 hb
theorem own_cg_mul {b : Nat} (hb : b ≤ 64) {u v w : Int64} (h : own_cg b u v) : own_cg b (u * w) (v * w) := by
  have e : ∀ x : Int64, own_N (x * w) % 2 ^ b = (own_N x % 2 ^ b) * (own_N w % 2 ^ b) % 2 ^ b := fun x => by
    show (x * w).toBitVec.toNat % _ = _
    rw [Int64.toBitVec_mul, BitVec.toNat_mul, Nat.mod_mod_of_dvd _ (own_dvd hb), Nat.mul_mod]; rfl
  unfold own_cg; rw [e, e, h]
theorem own_cg_sub {b : Nat} (hb : b ≤ 64) {u v w : Int64} (h : own_cg b u v) : own_cg b (u - w) (v - w) := by
  have e : ∀ x : Int64, own_N (x - w) % 2 ^ b = ((2 ^ 64 - own_N w) % 2 ^ b + own_N x % 2 ^ b) % 2 ^ b := fun x => by
    show (x - w).toBitVec.toNat % _ = _
    rw [Int64.toBitVec_sub, BitVec.toNat_sub, Nat.mod_mod_of_dvd _ (own_dvd hb), Nat.add_mod]; rfl
  unfold own_cg; rw [e, e, h]
theorem own_cg_and {bits : Int32} {mask : Int64} (h : own_isMask bits mask) (x : Int64) : own_cg bits.toNatClampNeg (x &&& mask) x := by
  unfold own_cg; rw [own_and h, Nat.mod_mod]
theorem own_cg_eq {b : Nat} {u v : Int64} (h : own_cg b u v) (hu : own_N u < 2 ^ b) (hv : own_N v < 2 ^ b) : u = v := by
  unfold own_cg at h; rw [Nat.mod_eq_of_lt hu, Nat.mod_eq_of_lt hv] at h; exact own_N_inj h
theorem own_xs {x : BitVec 64} {b f : Nat} (hx : x.toNat < 2 ^ b) (hf : b ≤ 2 * f) : (x ^^^ (x >>> f)) ^^^ ((x ^^^ (x >>> f)) >>> f) = x := by
  ext i hi
  have h3 : x.getLsbD (f + (f + i)) = false := by
    rw [BitVec.getLsbD]
    exact Nat.testBit_lt_two_pow (Nat.lt_of_lt_of_le hx (Nat.pow_le_pow_right (by decide) (by omega)))
  simp only [BitVec.getElem_xor, BitVec.getElem_ushiftRight, BitVec.getLsbD_xor, BitVec.getLsbD_ushiftRight, h3]
  cases x[i] <;> cases x.getLsbD (f + i) <;> rfl
theorem own_step_lt {bits fold : Int32} {mask : Int64} (h : own_isMask bits mask) (hf : fold.toInt = (((bits.toNatClampNeg + 1) / 2 : Nat) : Int)) (x a m : Int64) : own_N (own_step x a m mask fold) < 2 ^ bits.toNatClampNeg := by
  unfold own_step
  generalize hy : (((x + a) * m) &&& mask) = y
  have hyl : own_N y < 2 ^ bits.toNatClampNeg := by rw [← hy]; exact own_and_lt h _
  show (y ^^^ own_ushrL y fold).toBitVec.toNat < _
  have := h.2.2
  rw [Int64.toBitVec_xor, own_ushr_bv _ hf (by omega), BitVec.toNat_xor, BitVec.toNat_ushiftRight]
  refine Nat.xor_lt_two_pow hyl (Nat.lt_of_le_of_lt ?_ hyl)
  rw [Nat.shiftRight_eq_div_pow]
  exact Nat.div_le_self _ _
theorem own_unstep {bits fold : Int32} {mask x a m : Int64} (h : own_isMask bits mask) (hf : fold.toInt = (((bits.toNatClampNeg + 1) / 2 : Nat) : Int)) (hm : m * own_inverse m = 1) (hx : own_N x < 2 ^ bits.toNatClampNeg) :
    own_undo (own_step x a m mask fold) a m mask fold = x := by
  unfold own_step own_undo
  generalize hy : (((x + a) * m) &&& mask) = y
  have hyl : own_N y < 2 ^ bits.toNatClampNeg := by rw [← hy]; exact own_and_lt h _
  have hb := h.2.2
  have e1 : ((y ^^^ own_ushrL y fold) ^^^ own_ushrL (y ^^^ own_ushrL y fold) fold) = y := by
    apply Int64.toBitVec_inj.mp
    simp only [Int64.toBitVec_xor, own_ushr_bv _ hf (show (bits.toNatClampNeg + 1) / 2 < 64 by omega)]
    exact own_xs hyl (by omega)
  simp only [e1]
  refine own_cg_eq ?_ (own_and_lt h _) hx
  have c1 : own_cg bits.toNatClampNeg ((y * own_inverse m) &&& mask) (x + a) := by
    refine Eq.trans (own_cg_and h _) ?_
    rw [← hy]
    refine Eq.trans (own_cg_mul (by omega) (own_cg_and h _)) ?_
    rw [Int64.mul_assoc, hm, Int64.mul_one]
  refine Eq.trans (own_cg_and h _) ?_
  refine Eq.trans (own_cg_sub (by omega) c1) ?_
  rw [Int64.add_sub_cancel]
theorem own_sq (m i : Int64) : 1 - m * (i * (2 - m * i)) = (1 - m * i) * (1 - m * i) := by grind
theorem own_half (x : Int64) : ∃ j : Int64, x = 2 * j ∨ x = 2 * j + 1 := by
  refine ⟨Int64.ofBitVec (BitVec.ofNat 64 (own_N x / 2)), ?_⟩
  have hl := own_N_lt x
  have e : own_N (Int64.ofBitVec (BitVec.ofNat 64 (own_N x / 2))) = own_N x / 2 := by
    show (BitVec.ofNat 64 (own_N x / 2)).toNat = _
    rw [BitVec.toNat_ofNat]; omega
  generalize Int64.ofBitVec (BitVec.ofNat 64 (own_N x / 2)) = j at *
  have e2 : own_N (2 * j) = 2 * own_N j % 2 ^ 64 := by
    show (2 * j).toBitVec.toNat = _
    rw [Int64.toBitVec_mul, BitVec.toNat_mul]; rfl
  have e3 : own_N (2 * j + 1) = (2 * own_N j % 2 ^ 64 + 1) % 2 ^ 64 := by
    show (2 * j + 1).toBitVec.toNat = _
    rw [Int64.toBitVec_add, BitVec.toNat_add]
    show (own_N (2 * j) + 1) % 2 ^ 64 = _
    rw [e2]
  rcases Nat.mod_two_eq_zero_or_one (own_N x) with q | q
  · left; apply own_N_inj; rw [e2, e]; omega
  · right; apply own_N_inj; rw [e3, e]; omega
theorem own_odd {m k : Int64} (h : m = (k ||| (1 : Int64))) : ∃ j : Int64, m = 2 * j + 1 := by
  obtain ⟨j, hj | hj⟩ := own_half m
  · exfalso
    have e1 : own_N m % 2 = 1 := by
      rw [h]
      show (k ||| 1).toBitVec.toNat % 2 = 1
      rw [Int64.toBitVec_or, BitVec.toNat_or]
      show (own_N k ||| 1) % 2 = 1
      exact Nat.or_mod_two_eq_one.mpr (Or.inr rfl)
    have e2 : own_N m = 2 * own_N j % 2 ^ 64 := by
      rw [hj]
      show (2 * j).toBitVec.toNat = _
      rw [Int64.toBitVec_mul, BitVec.toNat_mul]; rfl
    omega
  · exact ⟨j, hj⟩
theorem own_e0 {m k : Int64} (h : m = (k ||| (1 : Int64))) : ∃ t : Int64, 1 - m * m = 8 * t := by
  obtain ⟨j, hj⟩ := own_odd h
  obtain ⟨u, hu | hu⟩ := own_half j
  · exact ⟨-(u * (j + 1)), by rw [hj, hu]; grind⟩
  · exact ⟨-(j * (u + 1)), by rw [hj, hu]; grind⟩
theorem own_inv {m k : Int64} (h : m = (k ||| (1 : Int64))) : m * own_inverse m = 1 := by
  obtain ⟨t, ht⟩ := own_e0 h
  have key : 1 - m * own_inverse m = 0 := by
    simp only [own_inverse]
    rw [own_sq, own_sq, own_sq, own_sq, own_sq, ht]
    have e : ((8 * t) * (8 * t)) * ((8 * t) * (8 * t)) = 4096 * (t * t * t * t) := by grind
    rw [e]
    generalize t * t * t * t = w
    have e2 : (4096 * w * (4096 * w)) * (4096 * w * (4096 * w)) = 281474976710656 * (w * w * w * w) := by grind
    rw [e2]
    generalize w * w * w * w = z
    have e3 : (281474976710656 * z) * (281474976710656 * z) = (281474976710656 * 281474976710656) * (z * z) := by grind
    rw [e3]
    have e4 : (281474976710656 : Int64) * 281474976710656 = 0 := by decide
    rw [e4, Int64.zero_mul]
  grind
theorem own_out1 {bits fold : Int32} {mask out x a m : Int64} (h : own_isMask bits mask ∧ fold.toInt = (((bits.toNatClampNeg + 1) / 2 : Nat) : Int)) (ho : out = own_step x a m mask fold) : ¬ out < (0 : Int64) := by
  have hl := own_step_lt h.1 h.2 x a m
  rw [← ho] at hl
  have p : 2 ^ bits.toNatClampNeg ≤ 2 ^ 62 := Nat.pow_le_pow_right (by decide) h.1.2.2
  have z : (0 : Int64).toInt = 0 := by decide
  rw [Int64.lt_iff_toInt_lt, z]
  have : out.toInt = out.toBitVec.toInt := rfl
  rw [this, BitVec.toInt_eq_toNat_cond]
  have : out.toBitVec.toNat = own_N out := rfl
  split <;> omega
theorem own_out2 {bits fold : Int32} {mask out x a m : Int64} (h : own_isMask bits mask ∧ fold.toInt = (((bits.toNatClampNeg + 1) / 2 : Nat) : Int)) (ho : out = own_step x a m mask fold) : ¬ mask < out := by
  have hl := own_step_lt h.1 h.2 x a m
  rw [← ho] at hl
  have p : 2 ^ bits.toNatClampNeg ≤ 2 ^ 62 := Nat.pow_le_pow_right (by decide) h.1.2.2
  have hm := h.1.1
  rw [Int64.lt_iff_toInt_lt]
  have e1 : out.toInt = out.toBitVec.toInt := rfl
  have e2 : mask.toInt = mask.toBitVec.toInt := rfl
  rw [e1, e2, BitVec.toInt_eq_toNat_cond, BitVec.toInt_eq_toNat_cond]
  have : out.toBitVec.toNat = own_N out := rfl
  split <;> split <;> omega
theorem own_undone {bits fold : Int32} {mask id out ka0 km0 ka1 km1 ka2 km2 ka3 km3 x3 x2 x1 x0 k0 k1 k2 k3 : Int64} (hmask : own_isMask bits mask) (hfold : fold.toInt = (((bits.toNatClampNeg + 1) / 2 : Nat) : Int)) (hid : own_N id < 2 ^ bits.toNatClampNeg)
    (hout : out = own_step (own_step (own_step (own_step id ka0 km0 mask fold) ka1 km1 mask fold) ka2 km2 mask fold) ka3 km3 mask fold)
    (h0 : km0 = (k0 ||| (1 : Int64))) (h1 : km1 = (k1 ||| (1 : Int64))) (h2 : km2 = (k2 ||| (1 : Int64))) (h3 : km3 = (k3 ||| (1 : Int64)))
    (hx3 : x3 = own_undo out ka3 km3 mask fold) (hx2 : x2 = own_undo x3 ka2 km2 mask fold) (hx1 : x1 = own_undo x2 ka1 km1 mask fold) (hx0 : x0 = own_undo x1 ka0 km0 mask fold) : x0 = id := by
  rw [hx0, hx1, hx2, hx3, hout, own_unstep hmask hfold (own_inv h3) (own_step_lt hmask hfold _ _ _), own_unstep hmask hfold (own_inv h2) (own_step_lt hmask hfold _ _ _), own_unstep hmask hfold (own_inv h1) (own_step_lt hmask hfold _ _ _), own_unstep hmask hfold (own_inv h0) hid]

theorem own_pd3 : parseMethodDescriptor "(J)V" = some ⟨[.long], none⟩ := by decide +kernel
theorem own_pd4 : parseMethodDescriptor "(ILcom/example/graphcrate/graphcrate/generate/SplitMix64;)V" = some ⟨[.int, (.object "com/example/graphcrate/graphcrate/generate/SplitMix64")], none⟩ := by decide +kernel
theorem own_pd5 : parseMethodDescriptor "(JJJJI)J" = some ⟨[.long, .long, .long, .long, .int], some .long⟩ := by decide +kernel
set_option maxHeartbeats 40000000 in
theorem own_ef_rm0 (m : MethodId) (x0 : Int32) (x1 : Int64) (x2 : Int64) : entryFrame m #[(.int x0), (.long x1), (.long x2)] maxLocals = mkF m 0 #[.val (.int x0), .val (.long x1), .second, .val (.long x2), .second, .unset, .unset, .unset, .unset, .unset, .unset, .unset, .unset, .unset, .unset, .unset, .unset, .unset, .unset, .unset, .unset, .unset, .unset, .unset, .unset, .unset, .unset, .unset, .unset, .unset, .unset, .unset, .unset] [] := by first | (simp [entryFrame, mkF, argsToLocals, Value.category, maxLocals]; done) | rfl
def Q0 (Z : State) (p0 : Int32) (q1 : Int64) (q2 : Int64) (h0 : Heap) (n0 : Nat) (v : Option Value) (h : Heap) (L : List Loc) : Prop := v = some (.int 1) ∧ Fr n0 L
set_option maxRecDepth 65536 in
set_option maxHeartbeats 40000000 in
theorem rm0 (l : Launch) (Z : State) (aZ : Array Value) (hw : ∀ d ∈ tables_1, d.before aZ Z = true) (ws : List Jvm.Cond) (p0 : Int32) (q1 : Int64) (q2 : Int64) (h0 : Heap) (n0 : Nat) (Z0 : n0 ≤ h0.size) :
    MetFree l x (head1 (Jvm.Cond.code x code maxLocals ret :: ws) room_1) (fun a U => a = #[(.int p0), (.long q1), (.long q2)] ∧ Z.Warmed39 U.vm ∧ U.heap = h0) (fun _ _ _ _ _ => True) (fun _ U o U' => ∃ v L, o = .returned v ∧ Q0 Z p0 q1 q2 h0 n0 v U'.heap L ∧ FrameEnd U o U' L room_1.cells room_1.slots) := by
  refine MetFree.of_bodySF (plainFor_of_name own_pn1) hisR ?_
  intro p e s m args below meth c s₁ Bd hml0 hP hK
  obtain ⟨rfl, hZ, hh⟩ := hP
  have hx := Bd.exec
  have hby := Bd.bytes
  have hml : c.maxLocals = 33 := hml0
  have hown : s.vm.findClass "com/example/graphcrate/graphcrate/generate/VertexRenamingRenamePinLaw" = some m.cls := findClass_of_methodNamed Bd.named
  have hnm := (name_of_methodNamed Bd.named Bd.method).1
  have X0 : Stand p l e room_1 s m #[(.int p0), (.long q1), (.long q2)] below meth c s₁ [] 0 0 := Stand.of_body Bd
  have e0 : s₁.heap = h0 := by rw [← hh, Bd.state]; rfl
  have N0 := Fr.nil n0
  refine own_go (S' := s₁.setTop (mkF m 0 #[.val (.int p0), .val (.long q1), .second, .val (.long q2), .second, .unset, .unset, .unset, .unset, .unset, .unset, .unset, .unset, .unset, .unset, .unset, .unset, .unset, .unset, .unset, .unset, .unset, .unset, .unset, .unset, .unset, .unset, .unset, .unset, .unset, .unset, .unset, .unset] [])) (fun t k => castTop (own_ef_rm0 m p0 q1 q2) k) ?_
  obtain ⟨bits, h_bits⟩ : ∃ z : Int32, z = ((1 : Int32) + ((p0 &&& (2147483647 : Int32)) % (62 : Int32))) := ⟨_, rfl⟩
  refine own_go (S' := s₁.setTop (mkF m 11 #[.val (.int p0), .val (.long q1), .second, .val (.long q2), .second, .val (.int bits), .unset, .unset, .unset, .unset, .unset, .unset, .unset, .unset, .unset, .unset, .unset, .unset, .unset, .unset, .unset, .unset, .unset, .unset, .unset, .unset, .unset, .unset, .unset, .unset, .unset, .unset, .unset] [])) (fun target kt => ?_) ?_
  · subst h_bits
    show Steps p.tables e below (s₁.setTop (mkF m 0 #[.val (.int p0), .val (.long q1), .second, .val (.long q2), .second, .unset, .unset, .unset, .unset, .unset, .unset, .unset, .unset, .unset, .unset, .unset, .unset, .unset, .unset, .unset, .unset, .unset, .unset, .unset, .unset, .unset, .unset, .unset, .unset, .unset, .unset, .unset, .unset] [])) _
    refine XS.iconst X0.here hx rfl (hb hby at_0) ?_
    show Steps p.tables e below (s₁.setTop (mkF m 1 #[.val (.int p0), .val (.long q1), .second, .val (.long q2), .second, .unset, .unset, .unset, .unset, .unset, .unset, .unset, .unset, .unset, .unset, .unset, .unset, .unset, .unset, .unset, .unset, .unset, .unset, .unset, .unset, .unset, .unset, .unset, .unset, .unset, .unset, .unset, .unset] [(.int (1 : Int32))])) _
    refine XS.iloadN X0.here hx rfl (hb hby at_1) rfl ?_
    show Steps p.tables e below (s₁.setTop (mkF m 2 #[.val (.int p0), .val (.long q1), .second, .val (.long q2), .second, .unset, .unset, .unset, .unset, .unset, .unset, .unset, .unset, .unset, .unset, .unset, .unset, .unset, .unset, .unset, .unset, .unset, .unset, .unset, .unset, .unset, .unset, .unset, .unset, .unset, .unset, .unset, .unset] [(.int p0), (.int (1 : Int32))])) _
    refine X0.ldcInt hx hown (mvT hZ (hw _ (List.mem_of_getElem? (i := 0) rfl))) (g := (mkF m 2 #[.val (.int p0), .val (.long q1), .second, .val (.long q2), .second, .unset, .unset, .unset, .unset, .unset, .unset, .unset, .unset, .unset, .unset, .unset, .unset, .unset, .unset, .unset, .unset, .unset, .unset, .unset, .unset, .unset, .unset, .unset, .unset, .unset, .unset, .unset, .unset] [(.int p0), (.int (1 : Int32))])) rfl (hb hby at_2) _ ?_
    show Steps p.tables e below (s₁.setTop (mkF m 4 #[.val (.int p0), .val (.long q1), .second, .val (.long q2), .second, .unset, .unset, .unset, .unset, .unset, .unset, .unset, .unset, .unset, .unset, .unset, .unset, .unset, .unset, .unset, .unset, .unset, .unset, .unset, .unset, .unset, .unset, .unset, .unset, .unset, .unset, .unset, .unset] [(.int (2147483647 : Int32)), (.int p0), (.int (1 : Int32))])) _
    refine XS.iand X0.here hx rfl (hb hby at_4) rfl ?_
    show Steps p.tables e below (s₁.setTop (mkF m 5 #[.val (.int p0), .val (.long q1), .second, .val (.long q2), .second, .unset, .unset, .unset, .unset, .unset, .unset, .unset, .unset, .unset, .unset, .unset, .unset, .unset, .unset, .unset, .unset, .unset, .unset, .unset, .unset, .unset, .unset, .unset, .unset, .unset, .unset, .unset, .unset] [(.int (p0 &&& (2147483647 : Int32))), (.int (1 : Int32))])) _
    refine XS.bipush X0.here hx rfl (hb hby at_5) ?_
    show Steps p.tables e below (s₁.setTop (mkF m 7 #[.val (.int p0), .val (.long q1), .second, .val (.long q2), .second, .unset, .unset, .unset, .unset, .unset, .unset, .unset, .unset, .unset, .unset, .unset, .unset, .unset, .unset, .unset, .unset, .unset, .unset, .unset, .unset, .unset, .unset, .unset, .unset, .unset, .unset, .unset, .unset] [(.int (62 : Int32)), (.int (p0 &&& (2147483647 : Int32))), (.int (1 : Int32))])) _
    refine iremM (g := (mkF m 7 #[.val (.int p0), .val (.long q1), .second, .val (.long q2), .second, .unset, .unset, .unset, .unset, .unset, .unset, .unset, .unset, .unset, .unset, .unset, .unset, .unset, .unset, .unset, .unset, .unset, .unset, .unset, .unset, .unset, .unset, .unset, .unset, .unset, .unset, .unset, .unset] [(.int (62 : Int32)), (.int (p0 &&& (2147483647 : Int32))), (.int (1 : Int32))])) X0 hx rfl (hb hby at_7) rfl (by decide) ?_
    show Steps p.tables e below (s₁.setTop (mkF m 8 #[.val (.int p0), .val (.long q1), .second, .val (.long q2), .second, .unset, .unset, .unset, .unset, .unset, .unset, .unset, .unset, .unset, .unset, .unset, .unset, .unset, .unset, .unset, .unset, .unset, .unset, .unset, .unset, .unset, .unset, .unset, .unset, .unset, .unset, .unset, .unset] [(.int ((p0 &&& (2147483647 : Int32)) % (62 : Int32))), (.int (1 : Int32))])) _
    refine XS.iadd X0.here hx rfl (hb hby at_8) rfl ?_
    show Steps p.tables e below (s₁.setTop (mkF m 9 #[.val (.int p0), .val (.long q1), .second, .val (.long q2), .second, .unset, .unset, .unset, .unset, .unset, .unset, .unset, .unset, .unset, .unset, .unset, .unset, .unset, .unset, .unset, .unset, .unset, .unset, .unset, .unset, .unset, .unset, .unset, .unset, .unset, .unset, .unset, .unset] [(.int ((1 : Int32) + ((p0 &&& (2147483647 : Int32)) % (62 : Int32))))])) _
    refine XS.istore X0.here hx rfl (hb hby at_9) rfl (l' := #[.val (.int p0), .val (.long q1), .second, .val (.long q2), .second, .val (.int ((1 : Int32) + ((p0 &&& (2147483647 : Int32)) % (62 : Int32)))), .unset, .unset, .unset, .unset, .unset, .unset, .unset, .unset, .unset, .unset, .unset, .unset, .unset, .unset, .unset, .unset, .unset, .unset, .unset, .unset, .unset, .unset, .unset, .unset, .unset, .unset, .unset]) rfl ?_
    exact kt
  obtain ⟨mask, h_mask⟩ : ∃ z : Int64, z = ((own_shlL (1 : Int64) bits) - (1 : Int64)) := ⟨_, rfl⟩
  refine own_go (S' := s₁.setTop (mkF m 19 #[.val (.int p0), .val (.long q1), .second, .val (.long q2), .second, .val (.int bits), .val (.long mask), .second, .unset, .unset, .unset, .unset, .unset, .unset, .unset, .unset, .unset, .unset, .unset, .unset, .unset, .unset, .unset, .unset, .unset, .unset, .unset, .unset, .unset, .unset, .unset, .unset, .unset] [])) (fun target kt => ?_) ?_
  · subst h_mask
    show Steps p.tables e below (s₁.setTop (mkF m 11 #[.val (.int p0), .val (.long q1), .second, .val (.long q2), .second, .val (.int bits), .unset, .unset, .unset, .unset, .unset, .unset, .unset, .unset, .unset, .unset, .unset, .unset, .unset, .unset, .unset, .unset, .unset, .unset, .unset, .unset, .unset, .unset, .unset, .unset, .unset, .unset, .unset] [])) _
    refine XS.lconst X0.here hx rfl (hb hby at_11) ?_
    show Steps p.tables e below (s₁.setTop (mkF m 12 #[.val (.int p0), .val (.long q1), .second, .val (.long q2), .second, .val (.int bits), .unset, .unset, .unset, .unset, .unset, .unset, .unset, .unset, .unset, .unset, .unset, .unset, .unset, .unset, .unset, .unset, .unset, .unset, .unset, .unset, .unset, .unset, .unset, .unset, .unset, .unset, .unset] [(.long (1 : Int64))])) _
    refine XS.iload X0.here hx rfl (hb hby at_12) rfl ?_
    show Steps p.tables e below (s₁.setTop (mkF m 14 #[.val (.int p0), .val (.long q1), .second, .val (.long q2), .second, .val (.int bits), .unset, .unset, .unset, .unset, .unset, .unset, .unset, .unset, .unset, .unset, .unset, .unset, .unset, .unset, .unset, .unset, .unset, .unset, .unset, .unset, .unset, .unset, .unset, .unset, .unset, .unset, .unset] [(.int bits), (.long (1 : Int64))])) _
    refine XS.lshl X0.here hx rfl (hb hby at_14) rfl ?_
    show Steps p.tables e below (s₁.setTop (mkF m 15 #[.val (.int p0), .val (.long q1), .second, .val (.long q2), .second, .val (.int bits), .unset, .unset, .unset, .unset, .unset, .unset, .unset, .unset, .unset, .unset, .unset, .unset, .unset, .unset, .unset, .unset, .unset, .unset, .unset, .unset, .unset, .unset, .unset, .unset, .unset, .unset, .unset] [(.long (own_shlL (1 : Int64) bits))])) _
    refine XS.lconst X0.here hx rfl (hb hby at_15) ?_
    show Steps p.tables e below (s₁.setTop (mkF m 16 #[.val (.int p0), .val (.long q1), .second, .val (.long q2), .second, .val (.int bits), .unset, .unset, .unset, .unset, .unset, .unset, .unset, .unset, .unset, .unset, .unset, .unset, .unset, .unset, .unset, .unset, .unset, .unset, .unset, .unset, .unset, .unset, .unset, .unset, .unset, .unset, .unset] [(.long (1 : Int64)), (.long (own_shlL (1 : Int64) bits))])) _
    refine XS.lsub X0.here hx rfl (hb hby at_16) rfl ?_
    show Steps p.tables e below (s₁.setTop (mkF m 17 #[.val (.int p0), .val (.long q1), .second, .val (.long q2), .second, .val (.int bits), .unset, .unset, .unset, .unset, .unset, .unset, .unset, .unset, .unset, .unset, .unset, .unset, .unset, .unset, .unset, .unset, .unset, .unset, .unset, .unset, .unset, .unset, .unset, .unset, .unset, .unset, .unset] [(.long ((own_shlL (1 : Int64) bits) - (1 : Int64)))])) _
    refine XS.lstore X0.here hx rfl (hb hby at_17) rfl (l' := #[.val (.int p0), .val (.long q1), .second, .val (.long q2), .second, .val (.int bits), .val (.long ((own_shlL (1 : Int64) bits) - (1 : Int64))), .second, .unset, .unset, .unset, .unset, .unset, .unset, .unset, .unset, .unset, .unset, .unset, .unset, .unset, .unset, .unset, .unset, .unset, .unset, .unset, .unset, .unset, .unset, .unset, .unset, .unset]) rfl ?_
    exact kt
  obtain ⟨fold, h_fold⟩ : ∃ z : Int32, z = ((bits + (1 : Int32)) / (2 : Int32)) := ⟨_, rfl⟩
  refine own_go (S' := s₁.setTop (mkF m 27 #[.val (.int p0), .val (.long q1), .second, .val (.long q2), .second, .val (.int bits), .val (.long mask), .second, .val (.int fold), .unset, .unset, .unset, .unset, .unset, .unset, .unset, .unset, .unset, .unset, .unset, .unset, .unset, .unset, .unset, .unset, .unset, .unset, .unset, .unset, .unset, .unset, .unset, .unset] [])) (fun target kt => ?_) ?_
  · subst h_fold
    show Steps p.tables e below (s₁.setTop (mkF m 19 #[.val (.int p0), .val (.long q1), .second, .val (.long q2), .second, .val (.int bits), .val (.long mask), .second, .unset, .unset, .unset, .unset, .unset, .unset, .unset, .unset, .unset, .unset, .unset, .unset, .unset, .unset, .unset, .unset, .unset, .unset, .unset, .unset, .unset, .unset, .unset, .unset, .unset] [])) _
    refine XS.iload X0.here hx rfl (hb hby at_19) rfl ?_
    show Steps p.tables e below (s₁.setTop (mkF m 21 #[.val (.int p0), .val (.long q1), .second, .val (.long q2), .second, .val (.int bits), .val (.long mask), .second, .unset, .unset, .unset, .unset, .unset, .unset, .unset, .unset, .unset, .unset, .unset, .unset, .unset, .unset, .unset, .unset, .unset, .unset, .unset, .unset, .unset, .unset, .unset, .unset, .unset] [(.int bits)])) _
    refine XS.iconst X0.here hx rfl (hb hby at_21) ?_
    show Steps p.tables e below (s₁.setTop (mkF m 22 #[.val (.int p0), .val (.long q1), .second, .val (.long q2), .second, .val (.int bits), .val (.long mask), .second, .unset, .unset, .unset, .unset, .unset, .unset, .unset, .unset, .unset, .unset, .unset, .unset, .unset, .unset, .unset, .unset, .unset, .unset, .unset, .unset, .unset, .unset, .unset, .unset, .unset] [(.int (1 : Int32)), (.int bits)])) _
    refine XS.iadd X0.here hx rfl (hb hby at_22) rfl ?_
    show Steps p.tables e below (s₁.setTop (mkF m 23 #[.val (.int p0), .val (.long q1), .second, .val (.long q2), .second, .val (.int bits), .val (.long mask), .second, .unset, .unset, .unset, .unset, .unset, .unset, .unset, .unset, .unset, .unset, .unset, .unset, .unset, .unset, .unset, .unset, .unset, .unset, .unset, .unset, .unset, .unset, .unset, .unset, .unset] [(.int (bits + (1 : Int32)))])) _
    refine XS.iconst X0.here hx rfl (hb hby at_23) ?_
    show Steps p.tables e below (s₁.setTop (mkF m 24 #[.val (.int p0), .val (.long q1), .second, .val (.long q2), .second, .val (.int bits), .val (.long mask), .second, .unset, .unset, .unset, .unset, .unset, .unset, .unset, .unset, .unset, .unset, .unset, .unset, .unset, .unset, .unset, .unset, .unset, .unset, .unset, .unset, .unset, .unset, .unset, .unset, .unset] [(.int (2 : Int32)), (.int (bits + (1 : Int32)))])) _
    refine XS.idiv X0.here hx rfl (hb hby at_24) rfl (by decide) ?_
    show Steps p.tables e below (s₁.setTop (mkF m 25 #[.val (.int p0), .val (.long q1), .second, .val (.long q2), .second, .val (.int bits), .val (.long mask), .second, .unset, .unset, .unset, .unset, .unset, .unset, .unset, .unset, .unset, .unset, .unset, .unset, .unset, .unset, .unset, .unset, .unset, .unset, .unset, .unset, .unset, .unset, .unset, .unset, .unset] [(.int ((bits + (1 : Int32)) / (2 : Int32)))])) _
    refine XS.istore X0.here hx rfl (hb hby at_25) rfl (l' := #[.val (.int p0), .val (.long q1), .second, .val (.long q2), .second, .val (.int bits), .val (.long mask), .second, .val (.int ((bits + (1 : Int32)) / (2 : Int32))), .unset, .unset, .unset, .unset, .unset, .unset, .unset, .unset, .unset, .unset, .unset, .unset, .unset, .unset, .unset, .unset, .unset, .unset, .unset, .unset, .unset, .unset, .unset, .unset]) rfl ?_
    exact kt
  obtain ⟨id, h_id⟩ : ∃ z : Int64, z = (q2 &&& mask) := ⟨_, rfl⟩
  refine own_go (S' := s₁.setTop (mkF m 33 #[.val (.int p0), .val (.long q1), .second, .val (.long q2), .second, .val (.int bits), .val (.long mask), .second, .val (.int fold), .val (.long id), .second, .unset, .unset, .unset, .unset, .unset, .unset, .unset, .unset, .unset, .unset, .unset, .unset, .unset, .unset, .unset, .unset, .unset, .unset, .unset, .unset, .unset, .unset] [])) (fun target kt => ?_) ?_
  · subst h_id
    show Steps p.tables e below (s₁.setTop (mkF m 27 #[.val (.int p0), .val (.long q1), .second, .val (.long q2), .second, .val (.int bits), .val (.long mask), .second, .val (.int fold), .unset, .unset, .unset, .unset, .unset, .unset, .unset, .unset, .unset, .unset, .unset, .unset, .unset, .unset, .unset, .unset, .unset, .unset, .unset, .unset, .unset, .unset, .unset, .unset] [])) _
    refine XS.lloadN X0.here hx rfl (hb hby at_27) rfl ?_
    show Steps p.tables e below (s₁.setTop (mkF m 28 #[.val (.int p0), .val (.long q1), .second, .val (.long q2), .second, .val (.int bits), .val (.long mask), .second, .val (.int fold), .unset, .unset, .unset, .unset, .unset, .unset, .unset, .unset, .unset, .unset, .unset, .unset, .unset, .unset, .unset, .unset, .unset, .unset, .unset, .unset, .unset, .unset, .unset, .unset] [(.long q2)])) _
    refine XS.lload X0.here hx rfl (hb hby at_28) rfl ?_
    show Steps p.tables e below (s₁.setTop (mkF m 30 #[.val (.int p0), .val (.long q1), .second, .val (.long q2), .second, .val (.int bits), .val (.long mask), .second, .val (.int fold), .unset, .unset, .unset, .unset, .unset, .unset, .unset, .unset, .unset, .unset, .unset, .unset, .unset, .unset, .unset, .unset, .unset, .unset, .unset, .unset, .unset, .unset, .unset, .unset] [(.long mask), (.long q2)])) _
    refine XS.land X0.here hx rfl (hb hby at_30) rfl ?_
    show Steps p.tables e below (s₁.setTop (mkF m 31 #[.val (.int p0), .val (.long q1), .second, .val (.long q2), .second, .val (.int bits), .val (.long mask), .second, .val (.int fold), .unset, .unset, .unset, .unset, .unset, .unset, .unset, .unset, .unset, .unset, .unset, .unset, .unset, .unset, .unset, .unset, .unset, .unset, .unset, .unset, .unset, .unset, .unset, .unset] [(.long (q2 &&& mask))])) _
    refine XS.lstore X0.here hx rfl (hb hby at_31) rfl (l' := #[.val (.int p0), .val (.long q1), .second, .val (.long q2), .second, .val (.int bits), .val (.long mask), .second, .val (.int fold), .val (.long (q2 &&& mask)), .second, .unset, .unset, .unset, .unset, .unset, .unset, .unset, .unset, .unset, .unset, .unset, .unset, .unset, .unset, .unset, .unset, .unset, .unset, .unset, .unset, .unset, .unset]) rfl ?_
    exact kt
  have hbits := own_bits h_bits
  have hmask := own_mask hbits h_mask
  have hfold := own_fold hbits h_fold
  have hid := own_idle hmask h_id
  obtain ⟨T303, h303, X303, e303, E303, A303, D303, -, st303⟩ := newO X0 hx hZ hown (hw _ (List.mem_of_getElem? (i := 1) rfl)) (hw _ (List.mem_of_getElem? (i := 2) rfl)) (hw _ (List.mem_of_getElem? (i := 3) rfl)) e0 (g := (mkF m 33 #[.val (.int p0), .val (.long q1), .second, .val (.long q2), .second, .val (.int bits), .val (.long mask), .second, .val (.int fold), .val (.long id), .second, .unset, .unset, .unset, .unset, .unset, .unset, .unset, .unset, .unset, .unset, .unset, .unset, .unset, .unset, .unset, .unset, .unset, .unset, .unset, .unset, .unset, .unset] [])) rfl (hb hby at_33) (by decide) (by decide)
  obtain ⟨b303, g303⟩ : ∃ z, z = h0.size := ⟨_, rfl⟩
  rw [← g303] at A303 D303 st303
  have g_b303 : n0 ≤ b303 := Nat.le_trans Z0 (Nat.le_of_eq g303.symm)
  have Z303 : n0 ≤ h303.size := Nat.le_trans Z0 E303.1
  have f304 : Fld Z h303 b303 "com/example/graphcrate/graphcrate/generate/VertexRenaming" "addends" "[J" .null := D303 (Or.inr (hw _ (List.mem_of_getElem? (i := 21) rfl))) (ty := (.array .long)) (by decide)
  have f305 : Fld Z h303 b303 "com/example/graphcrate/graphcrate/generate/VertexRenaming" "multipliers" "[J" .null := D303 (Or.inr (hw _ (List.mem_of_getElem? (i := 23) rfl))) (ty := (.array .long)) (by decide)
  have f306 : Fld Z h303 b303 "com/example/graphcrate/graphcrate/generate/VertexRenaming" "mask" "J" (.long (0 : Int64)) := D303 (Or.inr (hw _ (List.mem_of_getElem? (i := 26) rfl))) (ty := .long) (by decide)
  have f307 : Fld Z h303 b303 "com/example/graphcrate/graphcrate/generate/VertexRenaming" "fold" "I" (.int (0 : Int32)) := D303 (Or.inr (hw _ (List.mem_of_getElem? (i := 28) rfl))) (ty := .int) (by decide)
  refine own_go (S' := T303.setTop (mkF m 36 #[.val (.int p0), .val (.long q1), .second, .val (.long q2), .second, .val (.int bits), .val (.long mask), .second, .val (.int fold), .val (.long id), .second, .unset, .unset, .unset, .unset, .unset, .unset, .unset, .unset, .unset, .unset, .unset, .unset, .unset, .unset, .unset, .unset, .unset, .unset, .unset, .unset, .unset, .unset] [(.ref b303)])) st303 ?_
  refine own_go (S' := T303.setTop (mkF m 39 #[.val (.int p0), .val (.long q1), .second, .val (.long q2), .second, .val (.int bits), .val (.long mask), .second, .val (.int fold), .val (.long id), .second, .unset, .unset, .unset, .unset, .unset, .unset, .unset, .unset, .unset, .unset, .unset, .unset, .unset, .unset, .unset, .unset, .unset, .unset, .unset, .unset, .unset, .unset] [(.int bits), (.ref b303), (.ref b303)])) (fun target kt => ?_) ?_
  · skip
    show Steps p.tables e below (T303.setTop (mkF m 36 #[.val (.int p0), .val (.long q1), .second, .val (.long q2), .second, .val (.int bits), .val (.long mask), .second, .val (.int fold), .val (.long id), .second, .unset, .unset, .unset, .unset, .unset, .unset, .unset, .unset, .unset, .unset, .unset, .unset, .unset, .unset, .unset, .unset, .unset, .unset, .unset, .unset, .unset, .unset] [(.ref b303)])) _
    refine XS.dup X303.here hx rfl (hb hby at_36) rfl rfl ?_
    show Steps p.tables e below (T303.setTop (mkF m 37 #[.val (.int p0), .val (.long q1), .second, .val (.long q2), .second, .val (.int bits), .val (.long mask), .second, .val (.int fold), .val (.long id), .second, .unset, .unset, .unset, .unset, .unset, .unset, .unset, .unset, .unset, .unset, .unset, .unset, .unset, .unset, .unset, .unset, .unset, .unset, .unset, .unset, .unset, .unset] [(.ref b303), (.ref b303)])) _
    refine XS.iload X303.here hx rfl (hb hby at_37) rfl ?_
    exact kt
  obtain ⟨T308, h308, X308, e308, E308, A308, D308, -, st308⟩ := newO X303 hx hZ hown (hw _ (List.mem_of_getElem? (i := 4) rfl)) (hw _ (List.mem_of_getElem? (i := 5) rfl)) (hw _ (List.mem_of_getElem? (i := 6) rfl)) e303 (g := (mkF m 39 #[.val (.int p0), .val (.long q1), .second, .val (.long q2), .second, .val (.int bits), .val (.long mask), .second, .val (.int fold), .val (.long id), .second, .unset, .unset, .unset, .unset, .unset, .unset, .unset, .unset, .unset, .unset, .unset, .unset, .unset, .unset, .unset, .unset, .unset, .unset, .unset, .unset, .unset, .unset] [(.int bits), (.ref b303), (.ref b303)])) rfl (hb hby at_39) (by decide) (by decide)
  obtain ⟨b308, g308⟩ : ∃ z, z = h303.size := ⟨_, rfl⟩
  rw [← g308] at A308 D308 st308
  have f309 : Exa Z h308 b303 "com/example/graphcrate/graphcrate/generate/VertexRenaming" := A303.ext E308
  have f310 : Fld Z h308 b303 "com/example/graphcrate/graphcrate/generate/VertexRenaming" "addends" "[J" .null := f304.ext E308
  have f311 : Fld Z h308 b303 "com/example/graphcrate/graphcrate/generate/VertexRenaming" "multipliers" "[J" .null := f305.ext E308
  have f312 : Fld Z h308 b303 "com/example/graphcrate/graphcrate/generate/VertexRenaming" "mask" "J" (.long (0 : Int64)) := f306.ext E308
  have f313 : Fld Z h308 b303 "com/example/graphcrate/graphcrate/generate/VertexRenaming" "fold" "I" (.int (0 : Int32)) := f307.ext E308
  have g_b308 : n0 ≤ b308 := Nat.le_trans Z303 (Nat.le_of_eq g308.symm)
  have ne_b303_b308 : b303 ≠ b308 := Nat.ne_of_lt (Nat.lt_of_lt_of_le A303.lt (Nat.le_of_eq g308.symm))
  have Z308 : n0 ≤ h308.size := Nat.le_trans Z303 E308.1
  have f314 : Fld Z h308 b308 "com/example/graphcrate/graphcrate/generate/SplitMix64" "counter" "J" (.long (0 : Int64)) := D308 (Or.inl (hw _ (List.mem_of_getElem? (i := 14) rfl))) (ty := .long) (by decide)
  refine own_go (S' := T308.setTop (mkF m 42 #[.val (.int p0), .val (.long q1), .second, .val (.long q2), .second, .val (.int bits), .val (.long mask), .second, .val (.int fold), .val (.long id), .second, .unset, .unset, .unset, .unset, .unset, .unset, .unset, .unset, .unset, .unset, .unset, .unset, .unset, .unset, .unset, .unset, .unset, .unset, .unset, .unset, .unset, .unset] [(.ref b308), (.int bits), (.ref b303), (.ref b303)])) st308 ?_
  refine own_go (S' := T308.setTop (mkF m 44 #[.val (.int p0), .val (.long q1), .second, .val (.long q2), .second, .val (.int bits), .val (.long mask), .second, .val (.int fold), .val (.long id), .second, .unset, .unset, .unset, .unset, .unset, .unset, .unset, .unset, .unset, .unset, .unset, .unset, .unset, .unset, .unset, .unset, .unset, .unset, .unset, .unset, .unset, .unset] [(.long q1), (.ref b308), (.ref b308), (.int bits), (.ref b303), (.ref b303)])) (fun target kt => ?_) ?_
  · skip
    show Steps p.tables e below (T308.setTop (mkF m 42 #[.val (.int p0), .val (.long q1), .second, .val (.long q2), .second, .val (.int bits), .val (.long mask), .second, .val (.int fold), .val (.long id), .second, .unset, .unset, .unset, .unset, .unset, .unset, .unset, .unset, .unset, .unset, .unset, .unset, .unset, .unset, .unset, .unset, .unset, .unset, .unset, .unset, .unset, .unset] [(.ref b308), (.int bits), (.ref b303), (.ref b303)])) _
    refine XS.dup X308.here hx rfl (hb hby at_42) rfl rfl ?_
    show Steps p.tables e below (T308.setTop (mkF m 43 #[.val (.int p0), .val (.long q1), .second, .val (.long q2), .second, .val (.int bits), .val (.long mask), .second, .val (.int fold), .val (.long id), .second, .unset, .unset, .unset, .unset, .unset, .unset, .unset, .unset, .unset, .unset, .unset, .unset, .unset, .unset, .unset, .unset, .unset, .unset, .unset, .unset, .unset, .unset] [(.ref b308), (.ref b308), (.int bits), (.ref b303), (.ref b303)])) _
    refine XS.lloadN X308.here hx rfl (hb hby at_43) rfl ?_
    exact kt
  obtain ⟨_, _, ⟨T315, L315, k315, n315⟩, -, X315, ⟨Lc315, hQ315, l315, y315, z315⟩, st315⟩ := X308.specialBack hx (y := (⟨"com/example/graphcrate/graphcrate/generate/SplitMix64", "<init>", "(J)V"⟩ : MethodName)) rfl hown (mvT hZ (hw _ (List.mem_of_getElem? (i := 7) rfl))) (mvT hZ (hw _ (List.mem_of_getElem? (i := 8) rfl))) (mvT hZ (hw _ (List.mem_of_getElem? (i := 9) rfl))) (by decide) (backOf (W := 4) (rm1 l Z aZ hw [] b308 q1 h308 n0 Z308 A308 f314 g_b308) hZ (hw _ (List.mem_of_getElem? (i := 9) rfl)) (hw _ (List.mem_of_getElem? (i := 6) rfl)) (by decide) (by decide)) (g := (mkF m 44 #[.val (.int p0), .val (.long q1), .second, .val (.long q2), .second, .val (.int bits), .val (.long mask), .second, .val (.int fold), .val (.long id), .second, .unset, .unset, .unset, .unset, .unset, .unset, .unset, .unset, .unset, .unset, .unset, .unset, .unset, .unset, .unset, .unset, .unset, .unset, .unset, .unset, .unset, .unset] [(.long q1), (.ref b308), (.ref b308), (.int bits), (.ref b303), (.ref b303)])) rfl (by rw [hml]; rfl) (Steps.refl _) (a := b308) (argsL := [(.long q1)]) (rest := [(.ref b308), (.int bits), (.ref b303), (.ref b303)]) (lenOf own_pd3 rfl) rfl (by show 2 * 0 + _ ≤ _; exact Nat.le_of_eq rfl) (hb hby at_44) (fun _ _ => ⟨rfl, e308, (by decide : 2 + 0 ≤ _), (by decide : 5 + 0 ≤ _)⟩)
  dsimp only [Pt.U, Pt.locs, Pt.cells, Pt.slots] at X315 l315 y315 z315 st315 hQ315
  subst l315 y315 z315
  obtain ⟨rfl, N315q, K315q, f315_0, f315_1⟩ := hQ315
  have N315 := Fr.app N0 N315q
  have f316 : Exa Z T315.heap b303 "com/example/graphcrate/graphcrate/generate/VertexRenaming" := f309.keep K315q
  have f317 : Fld Z T315.heap b303 "com/example/graphcrate/graphcrate/generate/VertexRenaming" "addends" "[J" .null := f310.keep K315q (ninS ne_b303_b308 nin0)
  have f318 : Fld Z T315.heap b303 "com/example/graphcrate/graphcrate/generate/VertexRenaming" "multipliers" "[J" .null := f311.keep K315q (ninS ne_b303_b308 nin0)
  have f319 : Fld Z T315.heap b303 "com/example/graphcrate/graphcrate/generate/VertexRenaming" "mask" "J" (.long (0 : Int64)) := f312.keep K315q (ninS ne_b303_b308 nin0)
  have f320 : Fld Z T315.heap b303 "com/example/graphcrate/graphcrate/generate/VertexRenaming" "fold" "I" (.int (0 : Int32)) := f313.keep K315q (ninS ne_b303_b308 nin0)
  have f321 : Exa Z T315.heap b308 "com/example/graphcrate/graphcrate/generate/SplitMix64" := A308.keep K315q
  have Z315 : n0 ≤ T315.heap.size := Nat.le_trans Z308 K315q.1
  refine own_go (S' := T315.setTop (mkF m 47 #[.val (.int p0), .val (.long q1), .second, .val (.long q2), .second, .val (.int bits), .val (.long mask), .second, .val (.int fold), .val (.long id), .second, .unset, .unset, .unset, .unset, .unset, .unset, .unset, .unset, .unset, .unset, .unset, .unset, .unset, .unset, .unset, .unset, .unset, .unset, .unset, .unset, .unset, .unset] [(.ref b308), (.int bits), (.ref b303), (.ref b303)])) (fun _ k => st315.trans k) ?_
  obtain ⟨_, _, ⟨T322, L322, k322, n322⟩, -, X322, ⟨Lc322, hQ322, l322, y322, z322⟩, st322⟩ := X315.specialBack hx (y := (⟨"com/example/graphcrate/graphcrate/generate/VertexRenaming", "<init>", "(ILcom/example/graphcrate/graphcrate/generate/SplitMix64;)V"⟩ : MethodName)) rfl hown (mvT hZ (hw _ (List.mem_of_getElem? (i := 15) rfl))) (mvT hZ (hw _ (List.mem_of_getElem? (i := 16) rfl))) (mvT hZ (hw _ (List.mem_of_getElem? (i := 17) rfl))) (by decide) (backOf (W := 1) (rm3 l Z aZ hw [] b303 bits b308 q1 T315.heap n0 Z315 f316 f317 f318 f319 f320 f315_0 f315_1 g_b303 g_b308 (hbits.1 : ¬ bits < (1 : Int32)) (hbits.2 : ¬ (62 : Int32) < bits) ne_b303_b308) hZ (hw _ (List.mem_of_getElem? (i := 17) rfl)) (hw _ (List.mem_of_getElem? (i := 3) rfl)) (by decide) (by decide)) (g := (mkF m 47 #[.val (.int p0), .val (.long q1), .second, .val (.long q2), .second, .val (.int bits), .val (.long mask), .second, .val (.int fold), .val (.long id), .second, .unset, .unset, .unset, .unset, .unset, .unset, .unset, .unset, .unset, .unset, .unset, .unset, .unset, .unset, .unset, .unset, .unset, .unset, .unset, .unset, .unset, .unset] [(.ref b308), (.int bits), (.ref b303), (.ref b303)])) rfl (by rw [hml]; rfl) (Steps.refl _) (a := b303) (argsL := [(.int bits), (.ref b308)]) (rest := [(.ref b303)]) (lenOf own_pd4 rfl) rfl (by show 2 * 0 + _ ≤ _; exact Nat.le_of_eq rfl) (hb hby at_47) (fun _ _ => ⟨rfl, rfl, (by decide : 2 + 2 ≤ _), (by decide : 5 + 8 ≤ _)⟩)
  dsimp only [Pt.U, Pt.locs, Pt.cells, Pt.slots] at X322 l322 y322 z322 st322 hQ322
  subst l322 y322 z322
  obtain ⟨b1_322, b2_322, rfl, N322q, K322q, f322_0, f322_1, f322_2, f322_3, f322_4, f322_5, f322_6, u322_0, u322_1⟩ := hQ322
  have N322 := Fr.app N315 N322q
  have f323 : Exa Z T322.heap b303 "com/example/graphcrate/graphcrate/generate/VertexRenaming" := f316.keep K322q
  have f324 : Exa Z T322.heap b308 "com/example/graphcrate/graphcrate/generate/SplitMix64" := f315_0.keep K322q
  have Z322 : n0 ≤ T322.heap.size := Nat.le_trans Z315 K322q.1
  have g_b1_322 : n0 ≤ b1_322 := Nat.le_trans Z315 u322_0
  have ne_b303_b1_322 : b303 ≠ b1_322 := Nat.ne_of_lt (Nat.lt_of_lt_of_le f316.lt u322_0)
  have ne_b308_b1_322 : b308 ≠ b1_322 := Nat.ne_of_lt (Nat.lt_of_lt_of_le f315_0.lt u322_0)
  have g_b2_322 : n0 ≤ b2_322 := Nat.le_trans Z315 u322_1
  have ne_b303_b2_322 : b303 ≠ b2_322 := Nat.ne_of_lt (Nat.lt_of_lt_of_le f316.lt u322_1)
  have ne_b308_b2_322 : b308 ≠ b2_322 := Nat.ne_of_lt (Nat.lt_of_lt_of_le f315_0.lt u322_1)
  refine own_go (S' := T322.setTop (mkF m 50 #[.val (.int p0), .val (.long q1), .second, .val (.long q2), .second, .val (.int bits), .val (.long mask), .second, .val (.int fold), .val (.long id), .second, .unset, .unset, .unset, .unset, .unset, .unset, .unset, .unset, .unset, .unset, .unset, .unset, .unset, .unset, .unset, .unset, .unset, .unset, .unset, .unset, .unset, .unset] [(.ref b303)])) (fun _ k => st322.trans k) ?_
  refine own_go (S' := T322.setTop (mkF m 52 #[.val (.int p0), .val (.long q1), .second, .val (.long q2), .second, .val (.int bits), .val (.long mask), .second, .val (.int fold), .val (.long id), .second, .val (.ref b303), .unset, .unset, .unset, .unset, .unset, .unset, .unset, .unset, .unset, .unset, .unset, .unset, .unset, .unset, .unset, .unset, .unset, .unset, .unset, .unset, .unset] [])) (fun target kt => ?_) ?_
  · skip
    show Steps p.tables e below (T322.setTop (mkF m 50 #[.val (.int p0), .val (.long q1), .second, .val (.long q2), .second, .val (.int bits), .val (.long mask), .second, .val (.int fold), .val (.long id), .second, .unset, .unset, .unset, .unset, .unset, .unset, .unset, .unset, .unset, .unset, .unset, .unset, .unset, .unset, .unset, .unset, .unset, .unset, .unset, .unset, .unset, .unset] [(.ref b303)])) _
    refine XS.astore X322.here hx rfl (hb hby at_50) rfl rfl (l' := #[.val (.int p0), .val (.long q1), .second, .val (.long q2), .second, .val (.int bits), .val (.long mask), .second, .val (.int fold), .val (.long id), .second, .val (.ref b303), .unset, .unset, .unset, .unset, .unset, .unset, .unset, .unset, .unset, .unset, .unset, .unset, .unset, .unset, .unset, .unset, .unset, .unset, .unset, .unset, .unset]) rfl ?_
    exact kt
  obtain ⟨T326, h326, X326, e326, E326, A326, D326, -, st326⟩ := newO X322 hx hZ hown (hw _ (List.mem_of_getElem? (i := 4) rfl)) (hw _ (List.mem_of_getElem? (i := 5) rfl)) (hw _ (List.mem_of_getElem? (i := 6) rfl)) rfl (g := (mkF m 52 #[.val (.int p0), .val (.long q1), .second, .val (.long q2), .second, .val (.int bits), .val (.long mask), .second, .val (.int fold), .val (.long id), .second, .val (.ref b303), .unset, .unset, .unset, .unset, .unset, .unset, .unset, .unset, .unset, .unset, .unset, .unset, .unset, .unset, .unset, .unset, .unset, .unset, .unset, .unset, .unset] [])) rfl (hb hby at_52) (by decide) (by decide)
  obtain ⟨b326, g326⟩ : ∃ z, z = T322.heap.size := ⟨_, rfl⟩
  rw [← g326] at A326 D326 st326
  have f327 : Exa Z h326 b303 "com/example/graphcrate/graphcrate/generate/VertexRenaming" := f322_0.ext E326
  have f328 : Exa Z h326 b308 "com/example/graphcrate/graphcrate/generate/SplitMix64" := f324.ext E326
  have f329 : Fld Z h326 b303 "com/example/graphcrate/graphcrate/generate/VertexRenaming" "addends" "[J" (.ref b1_322) := f322_1.ext E326
  have f330 : Fld Z h326 b303 "com/example/graphcrate/graphcrate/generate/VertexRenaming" "multipliers" "[J" (.ref b2_322) := f322_2.ext E326
  have f331 : Fld Z h326 b303 "com/example/graphcrate/graphcrate/generate/VertexRenaming" "mask" "J" (.long (own_ushrL (-1 : Int64) ((64 : Int32) - bits))) := f322_3.ext E326
  have f332 : Fld Z h326 b303 "com/example/graphcrate/graphcrate/generate/VertexRenaming" "fold" "I" (.int ((bits + (1 : Int32)) / (2 : Int32))) := f322_4.ext E326
  have f333 : own_AJ Z h326 b1_322 .long 4 (own_upd (own_upd (own_upd (own_upd (fun _ => 0) 0 (own_mix (q1 + (-7046029254386353131 : Int64)))) 1 (own_mix (((q1 + (-7046029254386353131 : Int64)) + (-7046029254386353131 : Int64)) + (-7046029254386353131 : Int64)))) 2 (own_mix (((((q1 + (-7046029254386353131 : Int64)) + (-7046029254386353131 : Int64)) + (-7046029254386353131 : Int64)) + (-7046029254386353131 : Int64)) + (-7046029254386353131 : Int64)))) 3 (own_mix (((((((q1 + (-7046029254386353131 : Int64)) + (-7046029254386353131 : Int64)) + (-7046029254386353131 : Int64)) + (-7046029254386353131 : Int64)) + (-7046029254386353131 : Int64)) + (-7046029254386353131 : Int64)) + (-7046029254386353131 : Int64)))) := f322_5.ext E326
  have f334 : own_AJ Z h326 b2_322 .long 4 (own_upd (own_upd (own_upd (own_upd (fun _ => 0) 0 ((own_mix ((q1 + (-7046029254386353131 : Int64)) + (-7046029254386353131 : Int64))) ||| (1 : Int64))) 1 ((own_mix ((((q1 + (-7046029254386353131 : Int64)) + (-7046029254386353131 : Int64)) + (-7046029254386353131 : Int64)) + (-7046029254386353131 : Int64))) ||| (1 : Int64))) 2 ((own_mix ((((((q1 + (-7046029254386353131 : Int64)) + (-7046029254386353131 : Int64)) + (-7046029254386353131 : Int64)) + (-7046029254386353131 : Int64)) + (-7046029254386353131 : Int64)) + (-7046029254386353131 : Int64))) ||| (1 : Int64))) 3 ((own_mix ((((((((q1 + (-7046029254386353131 : Int64)) + (-7046029254386353131 : Int64)) + (-7046029254386353131 : Int64)) + (-7046029254386353131 : Int64)) + (-7046029254386353131 : Int64)) + (-7046029254386353131 : Int64)) + (-7046029254386353131 : Int64)) + (-7046029254386353131 : Int64))) ||| (1 : Int64))) := f322_6.ext E326
  have g_b326 : n0 ≤ b326 := Nat.le_trans Z322 (Nat.le_of_eq g326.symm)
  have ne_b303_b326 : b303 ≠ b326 := Nat.ne_of_lt (Nat.lt_of_lt_of_le f322_0.lt (Nat.le_of_eq g326.symm))
  have ne_b308_b326 : b308 ≠ b326 := Nat.ne_of_lt (Nat.lt_of_lt_of_le f324.lt (Nat.le_of_eq g326.symm))
  have ne_b1_322_b326 : b1_322 ≠ b326 := Nat.ne_of_lt (Nat.lt_of_lt_of_le f322_5.lt (Nat.le_of_eq g326.symm))
  have ne_b2_322_b326 : b2_322 ≠ b326 := Nat.ne_of_lt (Nat.lt_of_lt_of_le f322_6.lt (Nat.le_of_eq g326.symm))
  have Z326 : n0 ≤ h326.size := Nat.le_trans Z322 E326.1
  have f335 : Fld Z h326 b326 "com/example/graphcrate/graphcrate/generate/SplitMix64" "counter" "J" (.long (0 : Int64)) := D326 (Or.inl (hw _ (List.mem_of_getElem? (i := 14) rfl))) (ty := .long) (by decide)
  refine own_go (S' := T326.setTop (mkF m 55 #[.val (.int p0), .val (.long q1), .second, .val (.long q2), .second, .val (.int bits), .val (.long mask), .second, .val (.int fold), .val (.long id), .second, .val (.ref b303), .unset, .unset, .unset, .unset, .unset, .unset, .unset, .unset, .unset, .unset, .unset, .unset, .unset, .unset, .unset, .unset, .unset, .unset, .unset, .unset, .unset] [(.ref b326)])) st326 ?_
  refine own_go (S' := T326.setTop (mkF m 57 #[.val (.int p0), .val (.long q1), .second, .val (.long q2), .second, .val (.int bits), .val (.long mask), .second, .val (.int fold), .val (.long id), .second, .val (.ref b303), .unset, .unset, .unset, .unset, .unset, .unset, .unset, .unset, .unset, .unset, .unset, .unset, .unset, .unset, .unset, .unset, .unset, .unset, .unset, .unset, .unset] [(.long q1), (.ref b326), (.ref b326)])) (fun target kt => ?_) ?_
  · skip
    show Steps p.tables e below (T326.setTop (mkF m 55 #[.val (.int p0), .val (.long q1), .second, .val (.long q2), .second, .val (.int bits), .val (.long mask), .second, .val (.int fold), .val (.long id), .second, .val (.ref b303), .unset, .unset, .unset, .unset, .unset, .unset, .unset, .unset, .unset, .unset, .unset, .unset, .unset, .unset, .unset, .unset, .unset, .unset, .unset, .unset, .unset] [(.ref b326)])) _
    refine XS.dup X326.here hx rfl (hb hby at_55) rfl rfl ?_
    show Steps p.tables e below (T326.setTop (mkF m 56 #[.val (.int p0), .val (.long q1), .second, .val (.long q2), .second, .val (.int bits), .val (.long mask), .second, .val (.int fold), .val (.long id), .second, .val (.ref b303), .unset, .unset, .unset, .unset, .unset, .unset, .unset, .unset, .unset, .unset, .unset, .unset, .unset, .unset, .unset, .unset, .unset, .unset, .unset, .unset, .unset] [(.ref b326), (.ref b326)])) _
    refine XS.lloadN X326.here hx rfl (hb hby at_56) rfl ?_
    exact kt
  obtain ⟨_, _, ⟨T336, L336, k336, n336⟩, -, X336, ⟨Lc336, hQ336, l336, y336, z336⟩, st336⟩ := X326.specialBack hx (y := (⟨"com/example/graphcrate/graphcrate/generate/SplitMix64", "<init>", "(J)V"⟩ : MethodName)) rfl hown (mvT hZ (hw _ (List.mem_of_getElem? (i := 7) rfl))) (mvT hZ (hw _ (List.mem_of_getElem? (i := 8) rfl))) (mvT hZ (hw _ (List.mem_of_getElem? (i := 9) rfl))) (by decide) (backOf (W := 1) (rm1 l Z aZ hw [] b326 q1 h326 n0 Z326 A326 f335 g_b326) hZ (hw _ (List.mem_of_getElem? (i := 9) rfl)) (hw _ (List.mem_of_getElem? (i := 6) rfl)) (by decide) (by decide)) (g := (mkF m 57 #[.val (.int p0), .val (.long q1), .second, .val (.long q2), .second, .val (.int bits), .val (.long mask), .second, .val (.int fold), .val (.long id), .second, .val (.ref b303), .unset, .unset, .unset, .unset, .unset, .unset, .unset, .unset, .unset, .unset, .unset, .unset, .unset, .unset, .unset, .unset, .unset, .unset, .unset, .unset, .unset] [(.long q1), (.ref b326), (.ref b326)])) rfl (by rw [hml]; rfl) (Steps.refl _) (a := b326) (argsL := [(.long q1)]) (rest := [(.ref b326)]) (lenOf own_pd3 rfl) rfl (by show 2 * 0 + _ ≤ _; exact Nat.le_of_eq rfl) (hb hby at_57) (fun _ _ => ⟨rfl, e326, (by decide : 5 + 0 ≤ _), (by decide : 14 + 0 ≤ _)⟩)
  dsimp only [Pt.U, Pt.locs, Pt.cells, Pt.slots] at X336 l336 y336 z336 st336 hQ336
  subst l336 y336 z336
  obtain ⟨rfl, N336q, K336q, f336_0, f336_1⟩ := hQ336
  have N336 := Fr.app N322 N336q
  have f337 : Exa Z T336.heap b303 "com/example/graphcrate/graphcrate/generate/VertexRenaming" := f327.keep K336q
  have f338 : Exa Z T336.heap b308 "com/example/graphcrate/graphcrate/generate/SplitMix64" := f328.keep K336q
  have f339 : Fld Z T336.heap b303 "com/example/graphcrate/graphcrate/generate/VertexRenaming" "addends" "[J" (.ref b1_322) := f329.keep K336q (ninS ne_b303_b326 nin0)
  have f340 : Fld Z T336.heap b303 "com/example/graphcrate/graphcrate/generate/VertexRenaming" "multipliers" "[J" (.ref b2_322) := f330.keep K336q (ninS ne_b303_b326 nin0)
  have f341 : Fld Z T336.heap b303 "com/example/graphcrate/graphcrate/generate/VertexRenaming" "mask" "J" (.long (own_ushrL (-1 : Int64) ((64 : Int32) - bits))) := f331.keep K336q (ninS ne_b303_b326 nin0)
  have f342 : Fld Z T336.heap b303 "com/example/graphcrate/graphcrate/generate/VertexRenaming" "fold" "I" (.int ((bits + (1 : Int32)) / (2 : Int32))) := f332.keep K336q (ninS ne_b303_b326 nin0)
  have f343 : own_AJ Z T336.heap b1_322 .long 4 (own_upd (own_upd (own_upd (own_upd (fun _ => 0) 0 (own_mix (q1 + (-7046029254386353131 : Int64)))) 1 (own_mix (((q1 + (-7046029254386353131 : Int64)) + (-7046029254386353131 : Int64)) + (-7046029254386353131 : Int64)))) 2 (own_mix (((((q1 + (-7046029254386353131 : Int64)) + (-7046029254386353131 : Int64)) + (-7046029254386353131 : Int64)) + (-7046029254386353131 : Int64)) + (-7046029254386353131 : Int64)))) 3 (own_mix (((((((q1 + (-7046029254386353131 : Int64)) + (-7046029254386353131 : Int64)) + (-7046029254386353131 : Int64)) + (-7046029254386353131 : Int64)) + (-7046029254386353131 : Int64)) + (-7046029254386353131 : Int64)) + (-7046029254386353131 : Int64)))) := f333.keep K336q (ninS ne_b1_322_b326 nin0)
  have f344 : own_AJ Z T336.heap b2_322 .long 4 (own_upd (own_upd (own_upd (own_upd (fun _ => 0) 0 ((own_mix ((q1 + (-7046029254386353131 : Int64)) + (-7046029254386353131 : Int64))) ||| (1 : Int64))) 1 ((own_mix ((((q1 + (-7046029254386353131 : Int64)) + (-7046029254386353131 : Int64)) + (-7046029254386353131 : Int64)) + (-7046029254386353131 : Int64))) ||| (1 : Int64))) 2 ((own_mix ((((((q1 + (-7046029254386353131 : Int64)) + (-7046029254386353131 : Int64)) + (-7046029254386353131 : Int64)) + (-7046029254386353131 : Int64)) + (-7046029254386353131 : Int64)) + (-7046029254386353131 : Int64))) ||| (1 : Int64))) 3 ((own_mix ((((((((q1 + (-7046029254386353131 : Int64)) + (-7046029254386353131 : Int64)) + (-7046029254386353131 : Int64)) + (-7046029254386353131 : Int64)) + (-7046029254386353131 : Int64)) + (-7046029254386353131 : Int64)) + (-7046029254386353131 : Int64)) + (-7046029254386353131 : Int64))) ||| (1 : Int64))) := f334.keep K336q (ninS ne_b2_322_b326 nin0)
  have f345 : Exa Z T336.heap b326 "com/example/graphcrate/graphcrate/generate/SplitMix64" := A326.keep K336q
  have Z336 : n0 ≤ T336.heap.size := Nat.le_trans Z326 K336q.1
  refine own_go (S' := T336.setTop (mkF m 60 #[.val (.int p0), .val (.long q1), .second, .val (.long q2), .second, .val (.int bits), .val (.long mask), .second, .val (.int fold), .val (.long id), .second, .val (.ref b303), .unset, .unset, .unset, .unset, .unset, .unset, .unset, .unset, .unset, .unset, .unset, .unset, .unset, .unset, .unset, .unset, .unset, .unset, .unset, .unset, .unset] [(.ref b326)])) (fun _ k => st336.trans k) ?_
  refine own_go (S' := T336.setTop (mkF m 64 #[.val (.int p0), .val (.long q1), .second, .val (.long q2), .second, .val (.int bits), .val (.long mask), .second, .val (.int fold), .val (.long id), .second, .val (.ref b303), .val (.ref b326), .unset, .unset, .unset, .unset, .unset, .unset, .unset, .unset, .unset, .unset, .unset, .unset, .unset, .unset, .unset, .unset, .unset, .unset, .unset, .unset] [(.ref b326)])) (fun target kt => ?_) ?_
  · skip
    show Steps p.tables e below (T336.setTop (mkF m 60 #[.val (.int p0), .val (.long q1), .second, .val (.long q2), .second, .val (.int bits), .val (.long mask), .second, .val (.int fold), .val (.long id), .second, .val (.ref b303), .unset, .unset, .unset, .unset, .unset, .unset, .unset, .unset, .unset, .unset, .unset, .unset, .unset, .unset, .unset, .unset, .unset, .unset, .unset, .unset, .unset] [(.ref b326)])) _
    refine XS.astore X336.here hx rfl (hb hby at_60) rfl rfl (l' := #[.val (.int p0), .val (.long q1), .second, .val (.long q2), .second, .val (.int bits), .val (.long mask), .second, .val (.int fold), .val (.long id), .second, .val (.ref b303), .val (.ref b326), .unset, .unset, .unset, .unset, .unset, .unset, .unset, .unset, .unset, .unset, .unset, .unset, .unset, .unset, .unset, .unset, .unset, .unset, .unset, .unset]) rfl ?_
    show Steps p.tables e below (T336.setTop (mkF m 62 #[.val (.int p0), .val (.long q1), .second, .val (.long q2), .second, .val (.int bits), .val (.long mask), .second, .val (.int fold), .val (.long id), .second, .val (.ref b303), .val (.ref b326), .unset, .unset, .unset, .unset, .unset, .unset, .unset, .unset, .unset, .unset, .unset, .unset, .unset, .unset, .unset, .unset, .unset, .unset, .unset, .unset] [])) _
    refine XS.aload X336.here hx rfl (hb hby at_62) rfl rfl ?_
    exact kt
  obtain ⟨cq346, kq346, q346a, q346b, q346c⟩ := isOf hZ rfl f336_0
  obtain ⟨_, _, ⟨T346, L346, k346, n346⟩, -, X346, ⟨Lc346, hQ346, l346, y346, z346⟩, st346⟩ := X336.virtualBack hx (y := (⟨"com/example/graphcrate/graphcrate/generate/SplitMix64", "nextLong", "()J"⟩ : MethodName)) (z := (⟨"com/example/graphcrate/graphcrate/generate/SplitMix64", "nextLong", "()J"⟩ : MethodName)) hown (mvT hZ (hw _ (List.mem_of_getElem? (i := 40) rfl))) (mvT hZ (hw _ (List.mem_of_getElem? (i := 30) rfl))) (notFace_of_selects (args := #[]) (mvT hZ (hw _ (List.mem_of_getElem? (i := 32) rfl)))) (mvT hZ (hw _ (List.mem_of_getElem? (i := 32) rfl))) (mvT hZ (hw _ (List.mem_of_getElem? (i := 31) rfl))) (by decide) (backOf (W := 0) (rm4 l Z aZ hw [] b326 q1 T336.heap n0 Z336 f336_0 f336_1 g_b326) hZ (hw _ (List.mem_of_getElem? (i := 33) rfl)) (hw _ (List.mem_of_getElem? (i := 6) rfl)) (by decide) (by decide)) q346a q346c (g := (mkF m 64 #[.val (.int p0), .val (.long q1), .second, .val (.long q2), .second, .val (.int bits), .val (.long mask), .second, .val (.int fold), .val (.long id), .second, .val (.ref b303), .val (.ref b326), .unset, .unset, .unset, .unset, .unset, .unset, .unset, .unset, .unset, .unset, .unset, .unset, .unset, .unset, .unset, .unset, .unset, .unset, .unset, .unset] [(.ref b326)])) rfl (by rw [hml]; rfl) (Steps.refl _) (argsL := []) (rest := []) (lenOf own_pd2 rfl) rfl (by show 2 * 0 + _ ≤ _; exact Nat.le_of_eq rfl) (hb hby at_64) (fun _ _ => ⟨rfl, rfl, (by decide : 5 + 0 ≤ _), (by decide : 14 + 0 ≤ _)⟩)
  dsimp only [Pt.U, Pt.locs, Pt.cells, Pt.slots] at X346 l346 y346 z346 st346 hQ346
  subst l346 y346 z346
  obtain ⟨rfl, N346q, K346q, f346_0, f346_1⟩ := hQ346
  have N346 := Fr.app N336 N346q
  have f347 : Exa Z T346.heap b303 "com/example/graphcrate/graphcrate/generate/VertexRenaming" := f337.keep K346q
  have f348 : Exa Z T346.heap b308 "com/example/graphcrate/graphcrate/generate/SplitMix64" := f338.keep K346q
  have f349 : Fld Z T346.heap b303 "com/example/graphcrate/graphcrate/generate/VertexRenaming" "addends" "[J" (.ref b1_322) := f339.keep K346q (ninS ne_b303_b326 nin0)
  have f350 : Fld Z T346.heap b303 "com/example/graphcrate/graphcrate/generate/VertexRenaming" "multipliers" "[J" (.ref b2_322) := f340.keep K346q (ninS ne_b303_b326 nin0)
  have f351 : Fld Z T346.heap b303 "com/example/graphcrate/graphcrate/generate/VertexRenaming" "mask" "J" (.long (own_ushrL (-1 : Int64) ((64 : Int32) - bits))) := f341.keep K346q (ninS ne_b303_b326 nin0)
  have f352 : Fld Z T346.heap b303 "com/example/graphcrate/graphcrate/generate/VertexRenaming" "fold" "I" (.int ((bits + (1 : Int32)) / (2 : Int32))) := f342.keep K346q (ninS ne_b303_b326 nin0)
  have f353 : own_AJ Z T346.heap b1_322 .long 4 (own_upd (own_upd (own_upd (own_upd (fun _ => 0) 0 (own_mix (q1 + (-7046029254386353131 : Int64)))) 1 (own_mix (((q1 + (-7046029254386353131 : Int64)) + (-7046029254386353131 : Int64)) + (-7046029254386353131 : Int64)))) 2 (own_mix (((((q1 + (-7046029254386353131 : Int64)) + (-7046029254386353131 : Int64)) + (-7046029254386353131 : Int64)) + (-7046029254386353131 : Int64)) + (-7046029254386353131 : Int64)))) 3 (own_mix (((((((q1 + (-7046029254386353131 : Int64)) + (-7046029254386353131 : Int64)) + (-7046029254386353131 : Int64)) + (-7046029254386353131 : Int64)) + (-7046029254386353131 : Int64)) + (-7046029254386353131 : Int64)) + (-7046029254386353131 : Int64)))) := f343.keep K346q (ninS ne_b1_322_b326 nin0)
  have f354 : own_AJ Z T346.heap b2_322 .long 4 (own_upd (own_upd (own_upd (own_upd (fun _ => 0) 0 ((own_mix ((q1 + (-7046029254386353131 : Int64)) + (-7046029254386353131 : Int64))) ||| (1 : Int64))) 1 ((own_mix ((((q1 + (-7046029254386353131 : Int64)) + (-7046029254386353131 : Int64)) + (-7046029254386353131 : Int64)) + (-7046029254386353131 : Int64))) ||| (1 : Int64))) 2 ((own_mix ((((((q1 + (-7046029254386353131 : Int64)) + (-7046029254386353131 : Int64)) + (-7046029254386353131 : Int64)) + (-7046029254386353131 : Int64)) + (-7046029254386353131 : Int64)) + (-7046029254386353131 : Int64))) ||| (1 : Int64))) 3 ((own_mix ((((((((q1 + (-7046029254386353131 : Int64)) + (-7046029254386353131 : Int64)) + (-7046029254386353131 : Int64)) + (-7046029254386353131 : Int64)) + (-7046029254386353131 : Int64)) + (-7046029254386353131 : Int64)) + (-7046029254386353131 : Int64)) + (-7046029254386353131 : Int64))) ||| (1 : Int64))) := f344.keep K346q (ninS ne_b2_322_b326 nin0)
  have f355 : Exa Z T346.heap b326 "com/example/graphcrate/graphcrate/generate/SplitMix64" := f336_0.keep K346q
  have Z346 : n0 ≤ T346.heap.size := Nat.le_trans Z336 K346q.1
  refine own_go (S' := T346.setTop (mkF m 67 #[.val (.int p0), .val (.long q1), .second, .val (.long q2), .second, .val (.int bits), .val (.long mask), .second, .val (.int fold), .val (.long id), .second, .val (.ref b303), .val (.ref b326), .unset, .unset, .unset, .unset, .unset, .unset, .unset, .unset, .unset, .unset, .unset, .unset, .unset, .unset, .unset, .unset, .unset, .unset, .unset, .unset] [(.long (own_mix (q1 + (-7046029254386353131 : Int64))))])) (fun _ k => st346.trans k) ?_
  obtain ⟨ka0, h_ka0⟩ : ∃ z : Int64, z = (own_mix (q1 + (-7046029254386353131 : Int64))) := ⟨_, rfl⟩
  refine own_go (S' := T346.setTop (mkF m 69 #[.val (.int p0), .val (.long q1), .second, .val (.long q2), .second, .val (.int bits), .val (.long mask), .second, .val (.int fold), .val (.long id), .second, .val (.ref b303), .val (.ref b326), .val (.long ka0), .second, .unset, .unset, .unset, .unset, .unset, .unset, .unset, .unset, .unset, .unset, .unset, .unset, .unset, .unset, .unset, .unset, .unset, .unset] [])) (fun target kt => ?_) ?_
  · subst h_ka0
    show Steps p.tables e below (T346.setTop (mkF m 67 #[.val (.int p0), .val (.long q1), .second, .val (.long q2), .second, .val (.int bits), .val (.long mask), .second, .val (.int fold), .val (.long id), .second, .val (.ref b303), .val (.ref b326), .unset, .unset, .unset, .unset, .unset, .unset, .unset, .unset, .unset, .unset, .unset, .unset, .unset, .unset, .unset, .unset, .unset, .unset, .unset, .unset] [(.long (own_mix (q1 + (-7046029254386353131 : Int64))))])) _
    refine XS.lstore X346.here hx rfl (hb hby at_67) rfl (l' := #[.val (.int p0), .val (.long q1), .second, .val (.long q2), .second, .val (.int bits), .val (.long mask), .second, .val (.int fold), .val (.long id), .second, .val (.ref b303), .val (.ref b326), .val (.long (own_mix (q1 + (-7046029254386353131 : Int64)))), .second, .unset, .unset, .unset, .unset, .unset, .unset, .unset, .unset, .unset, .unset, .unset, .unset, .unset, .unset, .unset, .unset, .unset, .unset]) rfl ?_
    exact kt
  refine own_go (S' := T346.setTop (mkF m 71 #[.val (.int p0), .val (.long q1), .second, .val (.long q2), .second, .val (.int bits), .val (.long mask), .second, .val (.int fold), .val (.long id), .second, .val (.ref b303), .val (.ref b326), .val (.long ka0), .second, .unset, .unset, .unset, .unset, .unset, .unset, .unset, .unset, .unset, .unset, .unset, .unset, .unset, .unset, .unset, .unset, .unset, .unset] [(.ref b326)])) (fun target kt => ?_) ?_
  · skip
    show Steps p.tables e below (T346.setTop (mkF m 69 #[.val (.int p0), .val (.long q1), .second, .val (.long q2), .second, .val (.int bits), .val (.long mask), .second, .val (.int fold), .val (.long id), .second, .val (.ref b303), .val (.ref b326), .val (.long ka0), .second, .unset, .unset, .unset, .unset, .unset, .unset, .unset, .unset, .unset, .unset, .unset, .unset, .unset, .unset, .unset, .unset, .unset, .unset] [])) _
    refine XS.aload X346.here hx rfl (hb hby at_69) rfl rfl ?_
    exact kt
  obtain ⟨cq356, kq356, q356a, q356b, q356c⟩ := isOf hZ rfl f346_0
  obtain ⟨_, _, ⟨T356, L356, k356, n356⟩, -, X356, ⟨Lc356, hQ356, l356, y356, z356⟩, st356⟩ := X346.virtualBack hx (y := (⟨"com/example/graphcrate/graphcrate/generate/SplitMix64", "nextLong", "()J"⟩ : MethodName)) (z := (⟨"com/example/graphcrate/graphcrate/generate/SplitMix64", "nextLong", "()J"⟩ : MethodName)) hown (mvT hZ (hw _ (List.mem_of_getElem? (i := 40) rfl))) (mvT hZ (hw _ (List.mem_of_getElem? (i := 30) rfl))) (notFace_of_selects (args := #[]) (mvT hZ (hw _ (List.mem_of_getElem? (i := 32) rfl)))) (mvT hZ (hw _ (List.mem_of_getElem? (i := 32) rfl))) (mvT hZ (hw _ (List.mem_of_getElem? (i := 31) rfl))) (by decide) (backOf (W := 0) (rm4 l Z aZ hw [] b326 (q1 + (-7046029254386353131 : Int64)) T346.heap n0 Z346 f346_0 f346_1 g_b326) hZ (hw _ (List.mem_of_getElem? (i := 33) rfl)) (hw _ (List.mem_of_getElem? (i := 6) rfl)) (by decide) (by decide)) q356a q356c (g := (mkF m 71 #[.val (.int p0), .val (.long q1), .second, .val (.long q2), .second, .val (.int bits), .val (.long mask), .second, .val (.int fold), .val (.long id), .second, .val (.ref b303), .val (.ref b326), .val (.long ka0), .second, .unset, .unset, .unset, .unset, .unset, .unset, .unset, .unset, .unset, .unset, .unset, .unset, .unset, .unset, .unset, .unset, .unset, .unset] [(.ref b326)])) rfl (by rw [hml]; rfl) (Steps.refl _) (argsL := []) (rest := []) (lenOf own_pd2 rfl) rfl (by show 2 * 0 + _ ≤ _; exact Nat.le_of_eq rfl) (hb hby at_71) (fun _ _ => ⟨rfl, rfl, (by decide : 5 + 0 ≤ _), (by decide : 14 + 0 ≤ _)⟩)
  dsimp only [Pt.U, Pt.locs, Pt.cells, Pt.slots] at X356 l356 y356 z356 st356 hQ356
  subst l356 y356 z356
  obtain ⟨rfl, N356q, K356q, f356_0, f356_1⟩ := hQ356
  have N356 := Fr.app N346 N356q
  have f357 : Exa Z T356.heap b303 "com/example/graphcrate/graphcrate/generate/VertexRenaming" := f347.keep K356q
  have f358 : Exa Z T356.heap b308 "com/example/graphcrate/graphcrate/generate/SplitMix64" := f348.keep K356q
  have f359 : Fld Z T356.heap b303 "com/example/graphcrate/graphcrate/generate/VertexRenaming" "addends" "[J" (.ref b1_322) := f349.keep K356q (ninS ne_b303_b326 nin0)
  have f360 : Fld Z T356.heap b303 "com/example/graphcrate/graphcrate/generate/VertexRenaming" "multipliers" "[J" (.ref b2_322) := f350.keep K356q (ninS ne_b303_b326 nin0)
  have f361 : Fld Z T356.heap b303 "com/example/graphcrate/graphcrate/generate/VertexRenaming" "mask" "J" (.long (own_ushrL (-1 : Int64) ((64 : Int32) - bits))) := f351.keep K356q (ninS ne_b303_b326 nin0)
  have f362 : Fld Z T356.heap b303 "com/example/graphcrate/graphcrate/generate/VertexRenaming" "fold" "I" (.int ((bits + (1 : Int32)) / (2 : Int32))) := f352.keep K356q (ninS ne_b303_b326 nin0)
  have f363 : own_AJ Z T356.heap b1_322 .long 4 (own_upd (own_upd (own_upd (own_upd (fun _ => 0) 0 (own_mix (q1 + (-7046029254386353131 : Int64)))) 1 (own_mix (((q1 + (-7046029254386353131 : Int64)) + (-7046029254386353131 : Int64)) + (-7046029254386353131 : Int64)))) 2 (own_mix (((((q1 + (-7046029254386353131 : Int64)) + (-7046029254386353131 : Int64)) + (-7046029254386353131 : Int64)) + (-7046029254386353131 : Int64)) + (-7046029254386353131 : Int64)))) 3 (own_mix (((((((q1 + (-7046029254386353131 : Int64)) + (-7046029254386353131 : Int64)) + (-7046029254386353131 : Int64)) + (-7046029254386353131 : Int64)) + (-7046029254386353131 : Int64)) + (-7046029254386353131 : Int64)) + (-7046029254386353131 : Int64)))) := f353.keep K356q (ninS ne_b1_322_b326 nin0)
  have f364 : own_AJ Z T356.heap b2_322 .long 4 (own_upd (own_upd (own_upd (own_upd (fun _ => 0) 0 ((own_mix ((q1 + (-7046029254386353131 : Int64)) + (-7046029254386353131 : Int64))) ||| (1 : Int64))) 1 ((own_mix ((((q1 + (-7046029254386353131 : Int64)) + (-7046029254386353131 : Int64)) + (-7046029254386353131 : Int64)) + (-7046029254386353131 : Int64))) ||| (1 : Int64))) 2 ((own_mix ((((((q1 + (-7046029254386353131 : Int64)) + (-7046029254386353131 : Int64)) + (-7046029254386353131 : Int64)) + (-7046029254386353131 : Int64)) + (-7046029254386353131 : Int64)) + (-7046029254386353131 : Int64))) ||| (1 : Int64))) 3 ((own_mix ((((((((q1 + (-7046029254386353131 : Int64)) + (-7046029254386353131 : Int64)) + (-7046029254386353131 : Int64)) + (-7046029254386353131 : Int64)) + (-7046029254386353131 : Int64)) + (-7046029254386353131 : Int64)) + (-7046029254386353131 : Int64)) + (-7046029254386353131 : Int64))) ||| (1 : Int64))) := f354.keep K356q (ninS ne_b2_322_b326 nin0)
  have f365 : Exa Z T356.heap b326 "com/example/graphcrate/graphcrate/generate/SplitMix64" := f346_0.keep K356q
  have Z356 : n0 ≤ T356.heap.size := Nat.le_trans Z346 K356q.1
  refine own_go (S' := T356.setTop (mkF m 74 #[.val (.int p0), .val (.long q1), .second, .val (.long q2), .second, .val (.int bits), .val (.long mask), .second, .val (.int fold), .val (.long id), .second, .val (.ref b303), .val (.ref b326), .val (.long ka0), .second, .unset, .unset, .unset, .unset, .unset, .unset, .unset, .unset, .unset, .unset, .unset, .unset, .unset, .unset, .unset, .unset, .unset, .unset] [(.long (own_mix ((q1 + (-7046029254386353131 : Int64)) + (-7046029254386353131 : Int64))))])) (fun _ k => st356.trans k) ?_
  obtain ⟨km0, h_km0⟩ : ∃ z : Int64, z = ((own_mix ((q1 + (-7046029254386353131 : Int64)) + (-7046029254386353131 : Int64))) ||| (1 : Int64)) := ⟨_, rfl⟩
  refine own_go (S' := T356.setTop (mkF m 78 #[.val (.int p0), .val (.long q1), .second, .val (.long q2), .second, .val (.int bits), .val (.long mask), .second, .val (.int fold), .val (.long id), .second, .val (.ref b303), .val (.ref b326), .val (.long ka0), .second, .val (.long km0), .second, .unset, .unset, .unset, .unset, .unset, .unset, .unset, .unset, .unset, .unset, .unset, .unset, .unset, .unset, .unset, .unset] [])) (fun target kt => ?_) ?_
  · subst h_km0
    show Steps p.tables e below (T356.setTop (mkF m 74 #[.val (.int p0), .val (.long q1), .second, .val (.long q2), .second, .val (.int bits), .val (.long mask), .second, .val (.int fold), .val (.long id), .second, .val (.ref b303), .val (.ref b326), .val (.long ka0), .second, .unset, .unset, .unset, .unset, .unset, .unset, .unset, .unset, .unset, .unset, .unset, .unset, .unset, .unset, .unset, .unset, .unset, .unset] [(.long (own_mix ((q1 + (-7046029254386353131 : Int64)) + (-7046029254386353131 : Int64))))])) _
    refine XS.lconst X356.here hx rfl (hb hby at_74) ?_
    show Steps p.tables e below (T356.setTop (mkF m 75 #[.val (.int p0), .val (.long q1), .second, .val (.long q2), .second, .val (.int bits), .val (.long mask), .second, .val (.int fold), .val (.long id), .second, .val (.ref b303), .val (.ref b326), .val (.long ka0), .second, .unset, .unset, .unset, .unset, .unset, .unset, .unset, .unset, .unset, .unset, .unset, .unset, .unset, .unset, .unset, .unset, .unset, .unset] [(.long (1 : Int64)), (.long (own_mix ((q1 + (-7046029254386353131 : Int64)) + (-7046029254386353131 : Int64))))])) _
    refine XS.lor X356.here hx rfl (hb hby at_75) rfl ?_
    show Steps p.tables e below (T356.setTop (mkF m 76 #[.val (.int p0), .val (.long q1), .second, .val (.long q2), .second, .val (.int bits), .val (.long mask), .second, .val (.int fold), .val (.long id), .second, .val (.ref b303), .val (.ref b326), .val (.long ka0), .second, .unset, .unset, .unset, .unset, .unset, .unset, .unset, .unset, .unset, .unset, .unset, .unset, .unset, .unset, .unset, .unset, .unset, .unset] [(.long ((own_mix ((q1 + (-7046029254386353131 : Int64)) + (-7046029254386353131 : Int64))) ||| (1 : Int64)))])) _
    refine XS.lstore X356.here hx rfl (hb hby at_76) rfl (l' := #[.val (.int p0), .val (.long q1), .second, .val (.long q2), .second, .val (.int bits), .val (.long mask), .second, .val (.int fold), .val (.long id), .second, .val (.ref b303), .val (.ref b326), .val (.long ka0), .second, .val (.long ((own_mix ((q1 + (-7046029254386353131 : Int64)) + (-7046029254386353131 : Int64))) ||| (1 : Int64))), .second, .unset, .unset, .unset, .unset, .unset, .unset, .unset, .unset, .unset, .unset, .unset, .unset, .unset, .unset, .unset, .unset]) rfl ?_
    exact kt
  refine own_go (S' := T356.setTop (mkF m 80 #[.val (.int p0), .val (.long q1), .second, .val (.long q2), .second, .val (.int bits), .val (.long mask), .second, .val (.int fold), .val (.long id), .second, .val (.ref b303), .val (.ref b326), .val (.long ka0), .second, .val (.long km0), .second, .unset, .unset, .unset, .unset, .unset, .unset, .unset, .unset, .unset, .unset, .unset, .unset, .unset, .unset, .unset, .unset] [(.ref b326)])) (fun target kt => ?_) ?_
  · skip
    show Steps p.tables e below (T356.setTop (mkF m 78 #[.val (.int p0), .val (.long q1), .second, .val (.long q2), .second, .val (.int bits), .val (.long mask), .second, .val (.int fold), .val (.long id), .second, .val (.ref b303), .val (.ref b326), .val (.long ka0), .second, .val (.long km0), .second, .unset, .unset, .unset, .unset, .unset, .unset, .unset, .unset, .unset, .unset, .unset, .unset, .unset, .unset, .unset, .unset] [])) _
    refine XS.aload X356.here hx rfl (hb hby at_78) rfl rfl ?_
    exact kt
  obtain ⟨cq366, kq366, q366a, q366b, q366c⟩ := isOf hZ rfl f356_0
  obtain ⟨_, _, ⟨T366, L366, k366, n366⟩, -, X366, ⟨Lc366, hQ366, l366, y366, z366⟩, st366⟩ := X356.virtualBack hx (y := (⟨"com/example/graphcrate/graphcrate/generate/SplitMix64", "nextLong", "()J"⟩ : MethodName)) (z := (⟨"com/example/graphcrate/graphcrate/generate/SplitMix64", "nextLong", "()J"⟩ : MethodName)) hown (mvT hZ (hw _ (List.mem_of_getElem? (i := 40) rfl))) (mvT hZ (hw _ (List.mem_of_getElem? (i := 30) rfl))) (notFace_of_selects (args := #[]) (mvT hZ (hw _ (List.mem_of_getElem? (i := 32) rfl)))) (mvT hZ (hw _ (List.mem_of_getElem? (i := 32) rfl))) (mvT hZ (hw _ (List.mem_of_getElem? (i := 31) rfl))) (by decide) (backOf (W := 0) (rm4 l Z aZ hw [] b326 ((q1 + (-7046029254386353131 : Int64)) + (-7046029254386353131 : Int64)) T356.heap n0 Z356 f356_0 f356_1 g_b326) hZ (hw _ (List.mem_of_getElem? (i := 33) rfl)) (hw _ (List.mem_of_getElem? (i := 6) rfl)) (by decide) (by decide)) q366a q366c (g := (mkF m 80 #[.val (.int p0), .val (.long q1), .second, .val (.long q2), .second, .val (.int bits), .val (.long mask), .second, .val (.int fold), .val (.long id), .second, .val (.ref b303), .val (.ref b326), .val (.long ka0), .second, .val (.long km0), .second, .unset, .unset, .unset, .unset, .unset, .unset, .unset, .unset, .unset, .unset, .unset, .unset, .unset, .unset, .unset, .unset] [(.ref b326)])) rfl (by rw [hml]; rfl) (Steps.refl _) (argsL := []) (rest := []) (lenOf own_pd2 rfl) rfl (by show 2 * 0 + _ ≤ _; exact Nat.le_of_eq rfl) (hb hby at_80) (fun _ _ => ⟨rfl, rfl, (by decide : 5 + 0 ≤ _), (by decide : 14 + 0 ≤ _)⟩)
  dsimp only [Pt.U, Pt.locs, Pt.cells, Pt.slots] at X366 l366 y366 z366 st366 hQ366
  subst l366 y366 z366
  obtain ⟨rfl, N366q, K366q, f366_0, f366_1⟩ := hQ366
  have N366 := Fr.app N356 N366q
  have f367 : Exa Z T366.heap b303 "com/example/graphcrate/graphcrate/generate/VertexRenaming" := f357.keep K366q
  have f368 : Exa Z T366.heap b308 "com/example/graphcrate/graphcrate/generate/SplitMix64" := f358.keep K366q
  have f369 : Fld Z T366.heap b303 "com/example/graphcrate/graphcrate/generate/VertexRenaming" "addends" "[J" (.ref b1_322) := f359.keep K366q (ninS ne_b303_b326 nin0)
  have f370 : Fld Z T366.heap b303 "com/example/graphcrate/graphcrate/generate/VertexRenaming" "multipliers" "[J" (.ref b2_322) := f360.keep K366q (ninS ne_b303_b326 nin0)
  have f371 : Fld Z T366.heap b303 "com/example/graphcrate/graphcrate/generate/VertexRenaming" "mask" "J" (.long (own_ushrL (-1 : Int64) ((64 : Int32) - bits))) := f361.keep K366q (ninS ne_b303_b326 nin0)
  have f372 : Fld Z T366.heap b303 "com/example/graphcrate/graphcrate/generate/VertexRenaming" "fold" "I" (.int ((bits + (1 : Int32)) / (2 : Int32))) := f362.keep K366q (ninS ne_b303_b326 nin0)
  have f373 : own_AJ Z T366.heap b1_322 .long 4 (own_upd (own_upd (own_upd (own_upd (fun _ => 0) 0 (own_mix (q1 + (-7046029254386353131 : Int64)))) 1 (own_mix (((q1 + (-7046029254386353131 : Int64)) + (-7046029254386353131 : Int64)) + (-7046029254386353131 : Int64)))) 2 (own_mix (((((q1 + (-7046029254386353131 : Int64)) + (-7046029254386353131 : Int64)) + (-7046029254386353131 : Int64)) + (-7046029254386353131 : Int64)) + (-7046029254386353131 : Int64)))) 3 (own_mix (((((((q1 + (-7046029254386353131 : Int64)) + (-7046029254386353131 : Int64)) + (-7046029254386353131 : Int64)) + (-7046029254386353131 : Int64)) + (-7046029254386353131 : Int64)) + (-7046029254386353131 : Int64)) + (-7046029254386353131 : Int64)))) := f363.keep K366q (ninS ne_b1_322_b326 nin0)
  have f374 : own_AJ Z T366.heap b2_322 .long 4 (own_upd (own_upd (own_upd (own_upd (fun _ => 0) 0 ((own_mix ((q1 + (-7046029254386353131 : Int64)) + (-7046029254386353131 : Int64))) ||| (1 : Int64))) 1 ((own_mix ((((q1 + (-7046029254386353131 : Int64)) + (-7046029254386353131 : Int64)) + (-7046029254386353131 : Int64)) + (-7046029254386353131 : Int64))) ||| (1 : Int64))) 2 ((own_mix ((((((q1 + (-7046029254386353131 : Int64)) + (-7046029254386353131 : Int64)) + (-7046029254386353131 : Int64)) + (-7046029254386353131 : Int64)) + (-7046029254386353131 : Int64)) + (-7046029254386353131 : Int64))) ||| (1 : Int64))) 3 ((own_mix ((((((((q1 + (-7046029254386353131 : Int64)) + (-7046029254386353131 : Int64)) + (-7046029254386353131 : Int64)) + (-7046029254386353131 : Int64)) + (-7046029254386353131 : Int64)) + (-7046029254386353131 : Int64)) + (-7046029254386353131 : Int64)) + (-7046029254386353131 : Int64))) ||| (1 : Int64))) := f364.keep K366q (ninS ne_b2_322_b326 nin0)
  have f375 : Exa Z T366.heap b326 "com/example/graphcrate/graphcrate/generate/SplitMix64" := f356_0.keep K366q
  have Z366 : n0 ≤ T366.heap.size := Nat.le_trans Z356 K366q.1
  refine own_go (S' := T366.setTop (mkF m 83 #[.val (.int p0), .val (.long q1), .second, .val (.long q2), .second, .val (.int bits), .val (.long mask), .second, .val (.int fold), .val (.long id), .second, .val (.ref b303), .val (.ref b326), .val (.long ka0), .second, .val (.long km0), .second, .unset, .unset, .unset, .unset, .unset, .unset, .unset, .unset, .unset, .unset, .unset, .unset, .unset, .unset, .unset, .unset] [(.long (own_mix (((q1 + (-7046029254386353131 : Int64)) + (-7046029254386353131 : Int64)) + (-7046029254386353131 : Int64))))])) (fun _ k => st366.trans k) ?_
  obtain ⟨ka1, h_ka1⟩ : ∃ z : Int64, z = (own_mix (((q1 + (-7046029254386353131 : Int64)) + (-7046029254386353131 : Int64)) + (-7046029254386353131 : Int64))) := ⟨_, rfl⟩
  refine own_go (S' := T366.setTop (mkF m 85 #[.val (.int p0), .val (.long q1), .second, .val (.long q2), .second, .val (.int bits), .val (.long mask), .second, .val (.int fold), .val (.long id), .second, .val (.ref b303), .val (.ref b326), .val (.long ka0), .second, .val (.long km0), .second, .val (.long ka1), .second, .unset, .unset, .unset, .unset, .unset, .unset, .unset, .unset, .unset, .unset, .unset, .unset, .unset, .unset] [])) (fun target kt => ?_) ?_
  · subst h_ka1
    show Steps p.tables e below (T366.setTop (mkF m 83 #[.val (.int p0), .val (.long q1), .second, .val (.long q2), .second, .val (.int bits), .val (.long mask), .second, .val (.int fold), .val (.long id), .second, .val (.ref b303), .val (.ref b326), .val (.long ka0), .second, .val (.long km0), .second, .unset, .unset, .unset, .unset, .unset, .unset, .unset, .unset, .unset, .unset, .unset, .unset, .unset, .unset, .unset, .unset] [(.long (own_mix (((q1 + (-7046029254386353131 : Int64)) + (-7046029254386353131 : Int64)) + (-7046029254386353131 : Int64))))])) _
    refine XS.lstore X366.here hx rfl (hb hby at_83) rfl (l' := #[.val (.int p0), .val (.long q1), .second, .val (.long q2), .second, .val (.int bits), .val (.long mask), .second, .val (.int fold), .val (.long id), .second, .val (.ref b303), .val (.ref b326), .val (.long ka0), .second, .val (.long km0), .second, .val (.long (own_mix (((q1 + (-7046029254386353131 : Int64)) + (-7046029254386353131 : Int64)) + (-7046029254386353131 : Int64)))), .second, .unset, .unset, .unset, .unset, .unset, .unset, .unset, .unset, .unset, .unset, .unset, .unset, .unset, .unset]) rfl ?_
    exact kt
  refine own_go (S' := T366.setTop (mkF m 87 #[.val (.int p0), .val (.long q1), .second, .val (.long q2), .second, .val (.int bits), .val (.long mask), .second, .val (.int fold), .val (.long id), .second, .val (.ref b303), .val (.ref b326), .val (.long ka0), .second, .val (.long km0), .second, .val (.long ka1), .second, .unset, .unset, .unset, .unset, .unset, .unset, .unset, .unset, .unset, .unset, .unset, .unset, .unset, .unset] [(.ref b326)])) (fun target kt => ?_) ?_
  · skip
    show Steps p.tables e below (T366.setTop (mkF m 85 #[.val (.int p0), .val (.long q1), .second, .val (.long q2), .second, .val (.int bits), .val (.long mask), .second, .val (.int fold), .val (.long id), .second, .val (.ref b303), .val (.ref b326), .val (.long ka0), .second, .val (.long km0), .second, .val (.long ka1), .second, .unset, .unset, .unset, .unset, .unset, .unset, .unset, .unset, .unset, .unset, .unset, .unset, .unset, .unset] [])) _
    refine XS.aload X366.here hx rfl (hb hby at_85) rfl rfl ?_
    exact kt
  obtain ⟨cq376, kq376, q376a, q376b, q376c⟩ := isOf hZ rfl f366_0
  obtain ⟨_, _, ⟨T376, L376, k376, n376⟩, -, X376, ⟨Lc376, hQ376, l376, y376, z376⟩, st376⟩ := X366.virtualBack hx (y := (⟨"com/example/graphcrate/graphcrate/generate/SplitMix64", "nextLong", "()J"⟩ : MethodName)) (z := (⟨"com/example/graphcrate/graphcrate/generate/SplitMix64", "nextLong", "()J"⟩ : MethodName)) hown (mvT hZ (hw _ (List.mem_of_getElem? (i := 40) rfl))) (mvT hZ (hw _ (List.mem_of_getElem? (i := 30) rfl))) (notFace_of_selects (args := #[]) (mvT hZ (hw _ (List.mem_of_getElem? (i := 32) rfl)))) (mvT hZ (hw _ (List.mem_of_getElem? (i := 32) rfl))) (mvT hZ (hw _ (List.mem_of_getElem? (i := 31) rfl))) (by decide) (backOf (W := 0) (rm4 l Z aZ hw [] b326 (((q1 + (-7046029254386353131 : Int64)) + (-7046029254386353131 : Int64)) + (-7046029254386353131 : Int64)) T366.heap n0 Z366 f366_0 f366_1 g_b326) hZ (hw _ (List.mem_of_getElem? (i := 33) rfl)) (hw _ (List.mem_of_getElem? (i := 6) rfl)) (by decide) (by decide)) q376a q376c (g := (mkF m 87 #[.val (.int p0), .val (.long q1), .second, .val (.long q2), .second, .val (.int bits), .val (.long mask), .second, .val (.int fold), .val (.long id), .second, .val (.ref b303), .val (.ref b326), .val (.long ka0), .second, .val (.long km0), .second, .val (.long ka1), .second, .unset, .unset, .unset, .unset, .unset, .unset, .unset, .unset, .unset, .unset, .unset, .unset, .unset, .unset] [(.ref b326)])) rfl (by rw [hml]; rfl) (Steps.refl _) (argsL := []) (rest := []) (lenOf own_pd2 rfl) rfl (by show 2 * 0 + _ ≤ _; exact Nat.le_of_eq rfl) (hb hby at_87) (fun _ _ => ⟨rfl, rfl, (by decide : 5 + 0 ≤ _), (by decide : 14 + 0 ≤ _)⟩)
  dsimp only [Pt.U, Pt.locs, Pt.cells, Pt.slots] at X376 l376 y376 z376 st376 hQ376
  subst l376 y376 z376
  obtain ⟨rfl, N376q, K376q, f376_0, f376_1⟩ := hQ376
  have N376 := Fr.app N366 N376q
  have f377 : Exa Z T376.heap b303 "com/example/graphcrate/graphcrate/generate/VertexRenaming" := f367.keep K376q
  have f378 : Exa Z T376.heap b308 "com/example/graphcrate/graphcrate/generate/SplitMix64" := f368.keep K376q
  have f379 : Fld Z T376.heap b303 "com/example/graphcrate/graphcrate/generate/VertexRenaming" "addends" "[J" (.ref b1_322) := f369.keep K376q (ninS ne_b303_b326 nin0)
  have f380 : Fld Z T376.heap b303 "com/example/graphcrate/graphcrate/generate/VertexRenaming" "multipliers" "[J" (.ref b2_322) := f370.keep K376q (ninS ne_b303_b326 nin0)
  have f381 : Fld Z T376.heap b303 "com/example/graphcrate/graphcrate/generate/VertexRenaming" "mask" "J" (.long (own_ushrL (-1 : Int64) ((64 : Int32) - bits))) := f371.keep K376q (ninS ne_b303_b326 nin0)
  have f382 : Fld Z T376.heap b303 "com/example/graphcrate/graphcrate/generate/VertexRenaming" "fold" "I" (.int ((bits + (1 : Int32)) / (2 : Int32))) := f372.keep K376q (ninS ne_b303_b326 nin0)
  have f383 : own_AJ Z T376.heap b1_322 .long 4 (own_upd (own_upd (own_upd (own_upd (fun _ => 0) 0 (own_mix (q1 + (-7046029254386353131 : Int64)))) 1 (own_mix (((q1 + (-7046029254386353131 : Int64)) + (-7046029254386353131 : Int64)) + (-7046029254386353131 : Int64)))) 2 (own_mix (((((q1 + (-7046029254386353131 : Int64)) + (-7046029254386353131 : Int64)) + (-7046029254386353131 : Int64)) + (-7046029254386353131 : Int64)) + (-7046029254386353131 : Int64)))) 3 (own_mix (((((((q1 + (-7046029254386353131 : Int64)) + (-7046029254386353131 : Int64)) + (-7046029254386353131 : Int64)) + (-7046029254386353131 : Int64)) + (-7046029254386353131 : Int64)) + (-7046029254386353131 : Int64)) + (-7046029254386353131 : Int64)))) := f373.keep K376q (ninS ne_b1_322_b326 nin0)
  have f384 : own_AJ Z T376.heap b2_322 .long 4 (own_upd (own_upd (own_upd (own_upd (fun _ => 0) 0 ((own_mix ((q1 + (-7046029254386353131 : Int64)) + (-7046029254386353131 : Int64))) ||| (1 : Int64))) 1 ((own_mix ((((q1 + (-7046029254386353131 : Int64)) + (-7046029254386353131 : Int64)) + (-7046029254386353131 : Int64)) + (-7046029254386353131 : Int64))) ||| (1 : Int64))) 2 ((own_mix ((((((q1 + (-7046029254386353131 : Int64)) + (-7046029254386353131 : Int64)) + (-7046029254386353131 : Int64)) + (-7046029254386353131 : Int64)) + (-7046029254386353131 : Int64)) + (-7046029254386353131 : Int64))) ||| (1 : Int64))) 3 ((own_mix ((((((((q1 + (-7046029254386353131 : Int64)) + (-7046029254386353131 : Int64)) + (-7046029254386353131 : Int64)) + (-7046029254386353131 : Int64)) + (-7046029254386353131 : Int64)) + (-7046029254386353131 : Int64)) + (-7046029254386353131 : Int64)) + (-7046029254386353131 : Int64))) ||| (1 : Int64))) := f374.keep K376q (ninS ne_b2_322_b326 nin0)
  have f385 : Exa Z T376.heap b326 "com/example/graphcrate/graphcrate/generate/SplitMix64" := f366_0.keep K376q
  have Z376 : n0 ≤ T376.heap.size := Nat.le_trans Z366 K376q.1
  refine own_go (S' := T376.setTop (mkF m 90 #[.val (.int p0), .val (.long q1), .second, .val (.long q2), .second, .val (.int bits), .val (.long mask), .second, .val (.int fold), .val (.long id), .second, .val (.ref b303), .val (.ref b326), .val (.long ka0), .second, .val (.long km0), .second, .val (.long ka1), .second, .unset, .unset, .unset, .unset, .unset, .unset, .unset, .unset, .unset, .unset, .unset, .unset, .unset, .unset] [(.long (own_mix ((((q1 + (-7046029254386353131 : Int64)) + (-7046029254386353131 : Int64)) + (-7046029254386353131 : Int64)) + (-7046029254386353131 : Int64))))])) (fun _ k => st376.trans k) ?_
  obtain ⟨km1, h_km1⟩ : ∃ z : Int64, z = ((own_mix ((((q1 + (-7046029254386353131 : Int64)) + (-7046029254386353131 : Int64)) + (-7046029254386353131 : Int64)) + (-7046029254386353131 : Int64))) ||| (1 : Int64)) := ⟨_, rfl⟩
  refine own_go (S' := T376.setTop (mkF m 94 #[.val (.int p0), .val (.long q1), .second, .val (.long q2), .second, .val (.int bits), .val (.long mask), .second, .val (.int fold), .val (.long id), .second, .val (.ref b303), .val (.ref b326), .val (.long ka0), .second, .val (.long km0), .second, .val (.long ka1), .second, .val (.long km1), .second, .unset, .unset, .unset, .unset, .unset, .unset, .unset, .unset, .unset, .unset, .unset, .unset] [])) (fun target kt => ?_) ?_
  · subst h_km1
    show Steps p.tables e below (T376.setTop (mkF m 90 #[.val (.int p0), .val (.long q1), .second, .val (.long q2), .second, .val (.int bits), .val (.long mask), .second, .val (.int fold), .val (.long id), .second, .val (.ref b303), .val (.ref b326), .val (.long ka0), .second, .val (.long km0), .second, .val (.long ka1), .second, .unset, .unset, .unset, .unset, .unset, .unset, .unset, .unset, .unset, .unset, .unset, .unset, .unset, .unset] [(.long (own_mix ((((q1 + (-7046029254386353131 : Int64)) + (-7046029254386353131 : Int64)) + (-7046029254386353131 : Int64)) + (-7046029254386353131 : Int64))))])) _
    refine XS.lconst X376.here hx rfl (hb hby at_90) ?_
    show Steps p.tables e below (T376.setTop (mkF m 91 #[.val (.int p0), .val (.long q1), .second, .val (.long q2), .second, .val (.int bits), .val (.long mask), .second, .val (.int fold), .val (.long id), .second, .val (.ref b303), .val (.ref b326), .val (.long ka0), .second, .val (.long km0), .second, .val (.long ka1), .second, .unset, .unset, .unset, .unset, .unset, .unset, .unset, .unset, .unset, .unset, .unset, .unset, .unset, .unset] [(.long (1 : Int64)), (.long (own_mix ((((q1 + (-7046029254386353131 : Int64)) + (-7046029254386353131 : Int64)) + (-7046029254386353131 : Int64)) + (-7046029254386353131 : Int64))))])) _
    refine XS.lor X376.here hx rfl (hb hby at_91) rfl ?_
    show Steps p.tables e below (T376.setTop (mkF m 92 #[.val (.int p0), .val (.long q1), .second, .val (.long q2), .second, .val (.int bits), .val (.long mask), .second, .val (.int fold), .val (.long id), .second, .val (.ref b303), .val (.ref b326), .val (.long ka0), .second, .val (.long km0), .second, .val (.long ka1), .second, .unset, .unset, .unset, .unset, .unset, .unset, .unset, .unset, .unset, .unset, .unset, .unset, .unset, .unset] [(.long ((own_mix ((((q1 + (-7046029254386353131 : Int64)) + (-7046029254386353131 : Int64)) + (-7046029254386353131 : Int64)) + (-7046029254386353131 : Int64))) ||| (1 : Int64)))])) _
    refine XS.lstore X376.here hx rfl (hb hby at_92) rfl (l' := #[.val (.int p0), .val (.long q1), .second, .val (.long q2), .second, .val (.int bits), .val (.long mask), .second, .val (.int fold), .val (.long id), .second, .val (.ref b303), .val (.ref b326), .val (.long ka0), .second, .val (.long km0), .second, .val (.long ka1), .second, .val (.long ((own_mix ((((q1 + (-7046029254386353131 : Int64)) + (-7046029254386353131 : Int64)) + (-7046029254386353131 : Int64)) + (-7046029254386353131 : Int64))) ||| (1 : Int64))), .second, .unset, .unset, .unset, .unset, .unset, .unset, .unset, .unset, .unset, .unset, .unset, .unset]) rfl ?_
    exact kt
  refine own_go (S' := T376.setTop (mkF m 96 #[.val (.int p0), .val (.long q1), .second, .val (.long q2), .second, .val (.int bits), .val (.long mask), .second, .val (.int fold), .val (.long id), .second, .val (.ref b303), .val (.ref b326), .val (.long ka0), .second, .val (.long km0), .second, .val (.long ka1), .second, .val (.long km1), .second, .unset, .unset, .unset, .unset, .unset, .unset, .unset, .unset, .unset, .unset, .unset, .unset] [(.ref b326)])) (fun target kt => ?_) ?_
  · skip
    show Steps p.tables e below (T376.setTop (mkF m 94 #[.val (.int p0), .val (.long q1), .second, .val (.long q2), .second, .val (.int bits), .val (.long mask), .second, .val (.int fold), .val (.long id), .second, .val (.ref b303), .val (.ref b326), .val (.long ka0), .second, .val (.long km0), .second, .val (.long ka1), .second, .val (.long km1), .second, .unset, .unset, .unset, .unset, .unset, .unset, .unset, .unset, .unset, .unset, .unset, .unset] [])) _
    refine XS.aload X376.here hx rfl (hb hby at_94) rfl rfl ?_
    exact kt
  obtain ⟨cq386, kq386, q386a, q386b, q386c⟩ := isOf hZ rfl f376_0
  obtain ⟨_, _, ⟨T386, L386, k386, n386⟩, -, X386, ⟨Lc386, hQ386, l386, y386, z386⟩, st386⟩ := X376.virtualBack hx (y := (⟨"com/example/graphcrate/graphcrate/generate/SplitMix64", "nextLong", "()J"⟩ : MethodName)) (z := (⟨"com/example/graphcrate/graphcrate/generate/SplitMix64", "nextLong", "()J"⟩ : MethodName)) hown (mvT hZ (hw _ (List.mem_of_getElem? (i := 40) rfl))) (mvT hZ (hw _ (List.mem_of_getElem? (i := 30) rfl))) (notFace_of_selects (args := #[]) (mvT hZ (hw _ (List.mem_of_getElem? (i := 32) rfl)))) (mvT hZ (hw _ (List.mem_of_getElem? (i := 32) rfl))) (mvT hZ (hw _ (List.mem_of_getElem? (i := 31) rfl))) (by decide) (backOf (W := 0) (rm4 l Z aZ hw [] b326 ((((q1 + (-7046029254386353131 : Int64)) + (-7046029254386353131 : Int64)) + (-7046029254386353131 : Int64)) + (-7046029254386353131 : Int64)) T376.heap n0 Z376 f376_0 f376_1 g_b326) hZ (hw _ (List.mem_of_getElem? (i := 33) rfl)) (hw _ (List.mem_of_getElem? (i := 6) rfl)) (by decide) (by decide)) q386a q386c (g := (mkF m 96 #[.val (.int p0), .val (.long q1), .second, .val (.long q2), .second, .val (.int bits), .val (.long mask), .second, .val (.int fold), .val (.long id), .second, .val (.ref b303), .val (.ref b326), .val (.long ka0), .second, .val (.long km0), .second, .val (.long ka1), .second, .val (.long km1), .second, .unset, .unset, .unset, .unset, .unset, .unset, .unset, .unset, .unset, .unset, .unset, .unset] [(.ref b326)])) rfl (by rw [hml]; rfl) (Steps.refl _) (argsL := []) (rest := []) (lenOf own_pd2 rfl) rfl (by show 2 * 0 + _ ≤ _; exact Nat.le_of_eq rfl) (hb hby at_96) (fun _ _ => ⟨rfl, rfl, (by decide : 5 + 0 ≤ _), (by decide : 14 + 0 ≤ _)⟩)
  dsimp only [Pt.U, Pt.locs, Pt.cells, Pt.slots] at X386 l386 y386 z386 st386 hQ386
  subst l386 y386 z386
  obtain ⟨rfl, N386q, K386q, f386_0, f386_1⟩ := hQ386
  have N386 := Fr.app N376 N386q
  have f387 : Exa Z T386.heap b303 "com/example/graphcrate/graphcrate/generate/VertexRenaming" := f377.keep K386q
  have f388 : Exa Z T386.heap b308 "com/example/graphcrate/graphcrate/generate/SplitMix64" := f378.keep K386q
  have f389 : Fld Z T386.heap b303 "com/example/graphcrate/graphcrate/generate/VertexRenaming" "addends" "[J" (.ref b1_322) := f379.keep K386q (ninS ne_b303_b326 nin0)
  have f390 : Fld Z T386.heap b303 "com/example/graphcrate/graphcrate/generate/VertexRenaming" "multipliers" "[J" (.ref b2_322) := f380.keep K386q (ninS ne_b303_b326 nin0)
  have f391 : Fld Z T386.heap b303 "com/example/graphcrate/graphcrate/generate/VertexRenaming" "mask" "J" (.long (own_ushrL (-1 : Int64) ((64 : Int32) - bits))) := f381.keep K386q (ninS ne_b303_b326 nin0)
  have f392 : Fld Z T386.heap b303 "com/example/graphcrate/graphcrate/generate/VertexRenaming" "fold" "I" (.int ((bits + (1 : Int32)) / (2 : Int32))) := f382.keep K386q (ninS ne_b303_b326 nin0)
  have f393 : own_AJ Z T386.heap b1_322 .long 4 (own_upd (own_upd (own_upd (own_upd (fun _ => 0) 0 (own_mix (q1 + (-7046029254386353131 : Int64)))) 1 (own_mix (((q1 + (-7046029254386353131 : Int64)) + (-7046029254386353131 : Int64)) + (-7046029254386353131 : Int64)))) 2 (own_mix (((((q1 + (-7046029254386353131 : Int64)) + (-7046029254386353131 : Int64)) + (-7046029254386353131 : Int64)) + (-7046029254386353131 : Int64)) + (-7046029254386353131 : Int64)))) 3 (own_mix (((((((q1 + (-7046029254386353131 : Int64)) + (-7046029254386353131 : Int64)) + (-7046029254386353131 : Int64)) + (-7046029254386353131 : Int64)) + (-7046029254386353131 : Int64)) + (-7046029254386353131 : Int64)) + (-7046029254386353131 : Int64)))) := f383.keep K386q (ninS ne_b1_322_b326 nin0)
  have f394 : own_AJ Z T386.heap b2_322 .long 4 (own_upd (own_upd (own_upd (own_upd (fun _ => 0) 0 ((own_mix ((q1 + (-7046029254386353131 : Int64)) + (-7046029254386353131 : Int64))) ||| (1 : Int64))) 1 ((own_mix ((((q1 + (-7046029254386353131 : Int64)) + (-7046029254386353131 : Int64)) + (-7046029254386353131 : Int64)) + (-7046029254386353131 : Int64))) ||| (1 : Int64))) 2 ((own_mix ((((((q1 + (-7046029254386353131 : Int64)) + (-7046029254386353131 : Int64)) + (-7046029254386353131 : Int64)) + (-7046029254386353131 : Int64)) + (-7046029254386353131 : Int64)) + (-7046029254386353131 : Int64))) ||| (1 : Int64))) 3 ((own_mix ((((((((q1 + (-7046029254386353131 : Int64)) + (-7046029254386353131 : Int64)) + (-7046029254386353131 : Int64)) + (-7046029254386353131 : Int64)) + (-7046029254386353131 : Int64)) + (-7046029254386353131 : Int64)) + (-7046029254386353131 : Int64)) + (-7046029254386353131 : Int64))) ||| (1 : Int64))) := f384.keep K386q (ninS ne_b2_322_b326 nin0)
  have f395 : Exa Z T386.heap b326 "com/example/graphcrate/graphcrate/generate/SplitMix64" := f376_0.keep K386q
  have Z386 : n0 ≤ T386.heap.size := Nat.le_trans Z376 K386q.1
  refine own_go (S' := T386.setTop (mkF m 99 #[.val (.int p0), .val (.long q1), .second, .val (.long q2), .second, .val (.int bits), .val (.long mask), .second, .val (.int fold), .val (.long id), .second, .val (.ref b303), .val (.ref b326), .val (.long ka0), .second, .val (.long km0), .second, .val (.long ka1), .second, .val (.long km1), .second, .unset, .unset, .unset, .unset, .unset, .unset, .unset, .unset, .unset, .unset, .unset, .unset] [(.long (own_mix (((((q1 + (-7046029254386353131 : Int64)) + (-7046029254386353131 : Int64)) + (-7046029254386353131 : Int64)) + (-7046029254386353131 : Int64)) + (-7046029254386353131 : Int64))))])) (fun _ k => st386.trans k) ?_
  obtain ⟨ka2, h_ka2⟩ : ∃ z : Int64, z = (own_mix (((((q1 + (-7046029254386353131 : Int64)) + (-7046029254386353131 : Int64)) + (-7046029254386353131 : Int64)) + (-7046029254386353131 : Int64)) + (-7046029254386353131 : Int64))) := ⟨_, rfl⟩
  refine own_go (S' := T386.setTop (mkF m 101 #[.val (.int p0), .val (.long q1), .second, .val (.long q2), .second, .val (.int bits), .val (.long mask), .second, .val (.int fold), .val (.long id), .second, .val (.ref b303), .val (.ref b326), .val (.long ka0), .second, .val (.long km0), .second, .val (.long ka1), .second, .val (.long km1), .second, .val (.long ka2), .second, .unset, .unset, .unset, .unset, .unset, .unset, .unset, .unset, .unset, .unset] [])) (fun target kt => ?_) ?_
  · subst h_ka2
    show Steps p.tables e below (T386.setTop (mkF m 99 #[.val (.int p0), .val (.long q1), .second, .val (.long q2), .second, .val (.int bits), .val (.long mask), .second, .val (.int fold), .val (.long id), .second, .val (.ref b303), .val (.ref b326), .val (.long ka0), .second, .val (.long km0), .second, .val (.long ka1), .second, .val (.long km1), .second, .unset, .unset, .unset, .unset, .unset, .unset, .unset, .unset, .unset, .unset, .unset, .unset] [(.long (own_mix (((((q1 + (-7046029254386353131 : Int64)) + (-7046029254386353131 : Int64)) + (-7046029254386353131 : Int64)) + (-7046029254386353131 : Int64)) + (-7046029254386353131 : Int64))))])) _
    refine XS.lstore X386.here hx rfl (hb hby at_99) rfl (l' := #[.val (.int p0), .val (.long q1), .second, .val (.long q2), .second, .val (.int bits), .val (.long mask), .second, .val (.int fold), .val (.long id), .second, .val (.ref b303), .val (.ref b326), .val (.long ka0), .second, .val (.long km0), .second, .val (.long ka1), .second, .val (.long km1), .second, .val (.long (own_mix (((((q1 + (-7046029254386353131 : Int64)) + (-7046029254386353131 : Int64)) + (-7046029254386353131 : Int64)) + (-7046029254386353131 : Int64)) + (-7046029254386353131 : Int64)))), .second, .unset, .unset, .unset, .unset, .unset, .unset, .unset, .unset, .unset, .unset]) rfl ?_
    exact kt
  refine own_go (S' := T386.setTop (mkF m 103 #[.val (.int p0), .val (.long q1), .second, .val (.long q2), .second, .val (.int bits), .val (.long mask), .second, .val (.int fold), .val (.long id), .second, .val (.ref b303), .val (.ref b326), .val (.long ka0), .second, .val (.long km0), .second, .val (.long ka1), .second, .val (.long km1), .second, .val (.long ka2), .second, .unset, .unset, .unset, .unset, .unset, .unset, .unset, .unset, .unset, .unset] [(.ref b326)])) (fun target kt => ?_) ?_
  · skip
    show Steps p.tables e below (T386.setTop (mkF m 101 #[.val (.int p0), .val (.long q1), .second, .val (.long q2), .second, .val (.int bits), .val (.long mask), .second, .val (.int fold), .val (.long id), .second, .val (.ref b303), .val (.ref b326), .val (.long ka0), .second, .val (.long km0), .second, .val (.long ka1), .second, .val (.long km1), .second, .val (.long ka2), .second, .unset, .unset, .unset, .unset, .unset, .unset, .unset, .unset, .unset, .unset] [])) _
    refine XS.aload X386.here hx rfl (hb hby at_101) rfl rfl ?_
    exact kt
  obtain ⟨cq396, kq396, q396a, q396b, q396c⟩ := isOf hZ rfl f386_0
  obtain ⟨_, _, ⟨T396, L396, k396, n396⟩, -, X396, ⟨Lc396, hQ396, l396, y396, z396⟩, st396⟩ := X386.virtualBack hx (y := (⟨"com/example/graphcrate/graphcrate/generate/SplitMix64", "nextLong", "()J"⟩ : MethodName)) (z := (⟨"com/example/graphcrate/graphcrate/generate/SplitMix64", "nextLong", "()J"⟩ : MethodName)) hown (mvT hZ (hw _ (List.mem_of_getElem? (i := 40) rfl))) (mvT hZ (hw _ (List.mem_of_getElem? (i := 30) rfl))) (notFace_of_selects (args := #[]) (mvT hZ (hw _ (List.mem_of_getElem? (i := 32) rfl)))) (mvT hZ (hw _ (List.mem_of_getElem? (i := 32) rfl))) (mvT hZ (hw _ (List.mem_of_getElem? (i := 31) rfl))) (by decide) (backOf (W := 0) (rm4 l Z aZ hw [] b326 (((((q1 + (-7046029254386353131 : Int64)) + (-7046029254386353131 : Int64)) + (-7046029254386353131 : Int64)) + (-7046029254386353131 : Int64)) + (-7046029254386353131 : Int64)) T386.heap n0 Z386 f386_0 f386_1 g_b326) hZ (hw _ (List.mem_of_getElem? (i := 33) rfl)) (hw _ (List.mem_of_getElem? (i := 6) rfl)) (by decide) (by decide)) q396a q396c (g := (mkF m 103 #[.val (.int p0), .val (.long q1), .second, .val (.long q2), .second, .val (.int bits), .val (.long mask), .second, .val (.int fold), .val (.long id), .second, .val (.ref b303), .val (.ref b326), .val (.long ka0), .second, .val (.long km0), .second, .val (.long ka1), .second, .val (.long km1), .second, .val (.long ka2), .second, .unset, .unset, .unset, .unset, .unset, .unset, .unset, .unset, .unset, .unset] [(.ref b326)])) rfl (by rw [hml]; rfl) (Steps.refl _) (argsL := []) (rest := []) (lenOf own_pd2 rfl) rfl (by show 2 * 0 + _ ≤ _; exact Nat.le_of_eq rfl) (hb hby at_103) (fun _ _ => ⟨rfl, rfl, (by decide : 5 + 0 ≤ _), (by decide : 14 + 0 ≤ _)⟩)
  dsimp only [Pt.U, Pt.locs, Pt.cells, Pt.slots] at X396 l396 y396 z396 st396 hQ396
  subst l396 y396 z396
  obtain ⟨rfl, N396q, K396q, f396_0, f396_1⟩ := hQ396
  have N396 := Fr.app N386 N396q
  have f397 : Exa Z T396.heap b303 "com/example/graphcrate/graphcrate/generate/VertexRenaming" := f387.keep K396q
  have f398 : Exa Z T396.heap b308 "com/example/graphcrate/graphcrate/generate/SplitMix64" := f388.keep K396q
  have f399 : Fld Z T396.heap b303 "com/example/graphcrate/graphcrate/generate/VertexRenaming" "addends" "[J" (.ref b1_322) := f389.keep K396q (ninS ne_b303_b326 nin0)
  have f400 : Fld Z T396.heap b303 "com/example/graphcrate/graphcrate/generate/VertexRenaming" "multipliers" "[J" (.ref b2_322) := f390.keep K396q (ninS ne_b303_b326 nin0)
  have f401 : Fld Z T396.heap b303 "com/example/graphcrate/graphcrate/generate/VertexRenaming" "mask" "J" (.long (own_ushrL (-1 : Int64) ((64 : Int32) - bits))) := f391.keep K396q (ninS ne_b303_b326 nin0)
  have f402 : Fld Z T396.heap b303 "com/example/graphcrate/graphcrate/generate/VertexRenaming" "fold" "I" (.int ((bits + (1 : Int32)) / (2 : Int32))) := f392.keep K396q (ninS ne_b303_b326 nin0)
  have f403 : own_AJ Z T396.heap b1_322 .long 4 (own_upd (own_upd (own_upd (own_upd (fun _ => 0) 0 (own_mix (q1 + (-7046029254386353131 : Int64)))) 1 (own_mix (((q1 + (-7046029254386353131 : Int64)) + (-7046029254386353131 : Int64)) + (-7046029254386353131 : Int64)))) 2 (own_mix (((((q1 + (-7046029254386353131 : Int64)) + (-7046029254386353131 : Int64)) + (-7046029254386353131 : Int64)) + (-7046029254386353131 : Int64)) + (-7046029254386353131 : Int64)))) 3 (own_mix (((((((q1 + (-7046029254386353131 : Int64)) + (-7046029254386353131 : Int64)) + (-7046029254386353131 : Int64)) + (-7046029254386353131 : Int64)) + (-7046029254386353131 : Int64)) + (-7046029254386353131 : Int64)) + (-7046029254386353131 : Int64)))) := f393.keep K396q (ninS ne_b1_322_b326 nin0)
  have f404 : own_AJ Z T396.heap b2_322 .long 4 (own_upd (own_upd (own_upd (own_upd (fun _ => 0) 0 ((own_mix ((q1 + (-7046029254386353131 : Int64)) + (-7046029254386353131 : Int64))) ||| (1 : Int64))) 1 ((own_mix ((((q1 + (-7046029254386353131 : Int64)) + (-7046029254386353131 : Int64)) + (-7046029254386353131 : Int64)) + (-7046029254386353131 : Int64))) ||| (1 : Int64))) 2 ((own_mix ((((((q1 + (-7046029254386353131 : Int64)) + (-7046029254386353131 : Int64)) + (-7046029254386353131 : Int64)) + (-7046029254386353131 : Int64)) + (-7046029254386353131 : Int64)) + (-7046029254386353131 : Int64))) ||| (1 : Int64))) 3 ((own_mix ((((((((q1 + (-7046029254386353131 : Int64)) + (-7046029254386353131 : Int64)) + (-7046029254386353131 : Int64)) + (-7046029254386353131 : Int64)) + (-7046029254386353131 : Int64)) + (-7046029254386353131 : Int64)) + (-7046029254386353131 : Int64)) + (-7046029254386353131 : Int64))) ||| (1 : Int64))) := f394.keep K396q (ninS ne_b2_322_b326 nin0)
  have f405 : Exa Z T396.heap b326 "com/example/graphcrate/graphcrate/generate/SplitMix64" := f386_0.keep K396q
  have Z396 : n0 ≤ T396.heap.size := Nat.le_trans Z386 K396q.1
  refine own_go (S' := T396.setTop (mkF m 106 #[.val (.int p0), .val (.long q1), .second, .val (.long q2), .second, .val (.int bits), .val (.long mask), .second, .val (.int fold), .val (.long id), .second, .val (.ref b303), .val (.ref b326), .val (.long ka0), .second, .val (.long km0), .second, .val (.long ka1), .second, .val (.long km1), .second, .val (.long ka2), .second, .unset, .unset, .unset, .unset, .unset, .unset, .unset, .unset, .unset, .unset] [(.long (own_mix ((((((q1 + (-7046029254386353131 : Int64)) + (-7046029254386353131 : Int64)) + (-7046029254386353131 : Int64)) + (-7046029254386353131 : Int64)) + (-7046029254386353131 : Int64)) + (-7046029254386353131 : Int64))))])) (fun _ k => st396.trans k) ?_
  obtain ⟨km2, h_km2⟩ : ∃ z : Int64, z = ((own_mix ((((((q1 + (-7046029254386353131 : Int64)) + (-7046029254386353131 : Int64)) + (-7046029254386353131 : Int64)) + (-7046029254386353131 : Int64)) + (-7046029254386353131 : Int64)) + (-7046029254386353131 : Int64))) ||| (1 : Int64)) := ⟨_, rfl⟩
  refine own_go (S' := T396.setTop (mkF m 110 #[.val (.int p0), .val (.long q1), .second, .val (.long q2), .second, .val (.int bits), .val (.long mask), .second, .val (.int fold), .val (.long id), .second, .val (.ref b303), .val (.ref b326), .val (.long ka0), .second, .val (.long km0), .second, .val (.long ka1), .second, .val (.long km1), .second, .val (.long ka2), .second, .val (.long km2), .second, .unset, .unset, .unset, .unset, .unset, .unset, .unset, .unset] [])) (fun target kt => ?_) ?_
  · subst h_km2
    show Steps p.tables e below (T396.setTop (mkF m 106 #[.val (.int p0), .val (.long q1), .second, .val (.long q2), .second, .val (.int bits), .val (.long mask), .second, .val (.int fold), .val (.long id), .second, .val (.ref b303), .val (.ref b326), .val (.long ka0), .second, .val (.long km0), .second, .val (.long ka1), .second, .val (.long km1), .second, .val (.long ka2), .second, .unset, .unset, .unset, .unset, .unset, .unset, .unset, .unset, .unset, .unset] [(.long (own_mix ((((((q1 + (-7046029254386353131 : Int64)) + (-7046029254386353131 : Int64)) + (-7046029254386353131 : Int64)) + (-7046029254386353131 : Int64)) + (-7046029254386353131 : Int64)) + (-7046029254386353131 : Int64))))])) _
    refine XS.lconst X396.here hx rfl (hb hby at_106) ?_
    show Steps p.tables e below (T396.setTop (mkF m 107 #[.val (.int p0), .val (.long q1), .second, .val (.long q2), .second, .val (.int bits), .val (.long mask), .second, .val (.int fold), .val (.long id), .second, .val (.ref b303), .val (.ref b326), .val (.long ka0), .second, .val (.long km0), .second, .val (.long ka1), .second, .val (.long km1), .second, .val (.long ka2), .second, .unset, .unset, .unset, .unset, .unset, .unset, .unset, .unset, .unset, .unset] [(.long (1 : Int64)), (.long (own_mix ((((((q1 + (-7046029254386353131 : Int64)) + (-7046029254386353131 : Int64)) + (-7046029254386353131 : Int64)) + (-7046029254386353131 : Int64)) + (-7046029254386353131 : Int64)) + (-7046029254386353131 : Int64))))])) _
    refine XS.lor X396.here hx rfl (hb hby at_107) rfl ?_
    show Steps p.tables e below (T396.setTop (mkF m 108 #[.val (.int p0), .val (.long q1), .second, .val (.long q2), .second, .val (.int bits), .val (.long mask), .second, .val (.int fold), .val (.long id), .second, .val (.ref b303), .val (.ref b326), .val (.long ka0), .second, .val (.long km0), .second, .val (.long ka1), .second, .val (.long km1), .second, .val (.long ka2), .second, .unset, .unset, .unset, .unset, .unset, .unset, .unset, .unset, .unset, .unset] [(.long ((own_mix ((((((q1 + (-7046029254386353131 : Int64)) + (-7046029254386353131 : Int64)) + (-7046029254386353131 : Int64)) + (-7046029254386353131 : Int64)) + (-7046029254386353131 : Int64)) + (-7046029254386353131 : Int64))) ||| (1 : Int64)))])) _
    refine XS.lstore X396.here hx rfl (hb hby at_108) rfl (l' := #[.val (.int p0), .val (.long q1), .second, .val (.long q2), .second, .val (.int bits), .val (.long mask), .second, .val (.int fold), .val (.long id), .second, .val (.ref b303), .val (.ref b326), .val (.long ka0), .second, .val (.long km0), .second, .val (.long ka1), .second, .val (.long km1), .second, .val (.long ka2), .second, .val (.long ((own_mix ((((((q1 + (-7046029254386353131 : Int64)) + (-7046029254386353131 : Int64)) + (-7046029254386353131 : Int64)) + (-7046029254386353131 : Int64)) + (-7046029254386353131 : Int64)) + (-7046029254386353131 : Int64))) ||| (1 : Int64))), .second, .unset, .unset, .unset, .unset, .unset, .unset, .unset, .unset]) rfl ?_
    exact kt
  refine own_go (S' := T396.setTop (mkF m 112 #[.val (.int p0), .val (.long q1), .second, .val (.long q2), .second, .val (.int bits), .val (.long mask), .second, .val (.int fold), .val (.long id), .second, .val (.ref b303), .val (.ref b326), .val (.long ka0), .second, .val (.long km0), .second, .val (.long ka1), .second, .val (.long km1), .second, .val (.long ka2), .second, .val (.long km2), .second, .unset, .unset, .unset, .unset, .unset, .unset, .unset, .unset] [(.ref b326)])) (fun target kt => ?_) ?_
  · skip
    show Steps p.tables e below (T396.setTop (mkF m 110 #[.val (.int p0), .val (.long q1), .second, .val (.long q2), .second, .val (.int bits), .val (.long mask), .second, .val (.int fold), .val (.long id), .second, .val (.ref b303), .val (.ref b326), .val (.long ka0), .second, .val (.long km0), .second, .val (.long ka1), .second, .val (.long km1), .second, .val (.long ka2), .second, .val (.long km2), .second, .unset, .unset, .unset, .unset, .unset, .unset, .unset, .unset] [])) _
    refine XS.aload X396.here hx rfl (hb hby at_110) rfl rfl ?_
    exact kt
  obtain ⟨cq406, kq406, q406a, q406b, q406c⟩ := isOf hZ rfl f396_0
  obtain ⟨_, _, ⟨T406, L406, k406, n406⟩, -, X406, ⟨Lc406, hQ406, l406, y406, z406⟩, st406⟩ := X396.virtualBack hx (y := (⟨"com/example/graphcrate/graphcrate/generate/SplitMix64", "nextLong", "()J"⟩ : MethodName)) (z := (⟨"com/example/graphcrate/graphcrate/generate/SplitMix64", "nextLong", "()J"⟩ : MethodName)) hown (mvT hZ (hw _ (List.mem_of_getElem? (i := 40) rfl))) (mvT hZ (hw _ (List.mem_of_getElem? (i := 30) rfl))) (notFace_of_selects (args := #[]) (mvT hZ (hw _ (List.mem_of_getElem? (i := 32) rfl)))) (mvT hZ (hw _ (List.mem_of_getElem? (i := 32) rfl))) (mvT hZ (hw _ (List.mem_of_getElem? (i := 31) rfl))) (by decide) (backOf (W := 0) (rm4 l Z aZ hw [] b326 ((((((q1 + (-7046029254386353131 : Int64)) + (-7046029254386353131 : Int64)) + (-7046029254386353131 : Int64)) + (-7046029254386353131 : Int64)) + (-7046029254386353131 : Int64)) + (-7046029254386353131 : Int64)) T396.heap n0 Z396 f396_0 f396_1 g_b326) hZ (hw _ (List.mem_of_getElem? (i := 33) rfl)) (hw _ (List.mem_of_getElem? (i := 6) rfl)) (by decide) (by decide)) q406a q406c (g := (mkF m 112 #[.val (.int p0), .val (.long q1), .second, .val (.long q2), .second, .val (.int bits), .val (.long mask), .second, .val (.int fold), .val (.long id), .second, .val (.ref b303), .val (.ref b326), .val (.long ka0), .second, .val (.long km0), .second, .val (.long ka1), .second, .val (.long km1), .second, .val (.long ka2), .second, .val (.long km2), .second, .unset, .unset, .unset, .unset, .unset, .unset, .unset, .unset] [(.ref b326)])) rfl (by rw [hml]; rfl) (Steps.refl _) (argsL := []) (rest := []) (lenOf own_pd2 rfl) rfl (by show 2 * 0 + _ ≤ _; exact Nat.le_of_eq rfl) (hb hby at_112) (fun _ _ => ⟨rfl, rfl, (by decide : 5 + 0 ≤ _), (by decide : 14 + 0 ≤ _)⟩)
  dsimp only [Pt.U, Pt.locs, Pt.cells, Pt.slots] at X406 l406 y406 z406 st406 hQ406
  subst l406 y406 z406
  obtain ⟨rfl, N406q, K406q, f406_0, f406_1⟩ := hQ406
  have N406 := Fr.app N396 N406q
  have f407 : Exa Z T406.heap b303 "com/example/graphcrate/graphcrate/generate/VertexRenaming" := f397.keep K406q
  have f408 : Exa Z T406.heap b308 "com/example/graphcrate/graphcrate/generate/SplitMix64" := f398.keep K406q
  have f409 : Fld Z T406.heap b303 "com/example/graphcrate/graphcrate/generate/VertexRenaming" "addends" "[J" (.ref b1_322) := f399.keep K406q (ninS ne_b303_b326 nin0)
  have f410 : Fld Z T406.heap b303 "com/example/graphcrate/graphcrate/generate/VertexRenaming" "multipliers" "[J" (.ref b2_322) := f400.keep K406q (ninS ne_b303_b326 nin0)
  have f411 : Fld Z T406.heap b303 "com/example/graphcrate/graphcrate/generate/VertexRenaming" "mask" "J" (.long (own_ushrL (-1 : Int64) ((64 : Int32) - bits))) := f401.keep K406q (ninS ne_b303_b326 nin0)
  have f412 : Fld Z T406.heap b303 "com/example/graphcrate/graphcrate/generate/VertexRenaming" "fold" "I" (.int ((bits + (1 : Int32)) / (2 : Int32))) := f402.keep K406q (ninS ne_b303_b326 nin0)
  have f413 : own_AJ Z T406.heap b1_322 .long 4 (own_upd (own_upd (own_upd (own_upd (fun _ => 0) 0 (own_mix (q1 + (-7046029254386353131 : Int64)))) 1 (own_mix (((q1 + (-7046029254386353131 : Int64)) + (-7046029254386353131 : Int64)) + (-7046029254386353131 : Int64)))) 2 (own_mix (((((q1 + (-7046029254386353131 : Int64)) + (-7046029254386353131 : Int64)) + (-7046029254386353131 : Int64)) + (-7046029254386353131 : Int64)) + (-7046029254386353131 : Int64)))) 3 (own_mix (((((((q1 + (-7046029254386353131 : Int64)) + (-7046029254386353131 : Int64)) + (-7046029254386353131 : Int64)) + (-7046029254386353131 : Int64)) + (-7046029254386353131 : Int64)) + (-7046029254386353131 : Int64)) + (-7046029254386353131 : Int64)))) := f403.keep K406q (ninS ne_b1_322_b326 nin0)
  have f414 : own_AJ Z T406.heap b2_322 .long 4 (own_upd (own_upd (own_upd (own_upd (fun _ => 0) 0 ((own_mix ((q1 + (-7046029254386353131 : Int64)) + (-7046029254386353131 : Int64))) ||| (1 : Int64))) 1 ((own_mix ((((q1 + (-7046029254386353131 : Int64)) + (-7046029254386353131 : Int64)) + (-7046029254386353131 : Int64)) + (-7046029254386353131 : Int64))) ||| (1 : Int64))) 2 ((own_mix ((((((q1 + (-7046029254386353131 : Int64)) + (-7046029254386353131 : Int64)) + (-7046029254386353131 : Int64)) + (-7046029254386353131 : Int64)) + (-7046029254386353131 : Int64)) + (-7046029254386353131 : Int64))) ||| (1 : Int64))) 3 ((own_mix ((((((((q1 + (-7046029254386353131 : Int64)) + (-7046029254386353131 : Int64)) + (-7046029254386353131 : Int64)) + (-7046029254386353131 : Int64)) + (-7046029254386353131 : Int64)) + (-7046029254386353131 : Int64)) + (-7046029254386353131 : Int64)) + (-7046029254386353131 : Int64))) ||| (1 : Int64))) := f404.keep K406q (ninS ne_b2_322_b326 nin0)
  have f415 : Exa Z T406.heap b326 "com/example/graphcrate/graphcrate/generate/SplitMix64" := f396_0.keep K406q
  have Z406 : n0 ≤ T406.heap.size := Nat.le_trans Z396 K406q.1
  refine own_go (S' := T406.setTop (mkF m 115 #[.val (.int p0), .val (.long q1), .second, .val (.long q2), .second, .val (.int bits), .val (.long mask), .second, .val (.int fold), .val (.long id), .second, .val (.ref b303), .val (.ref b326), .val (.long ka0), .second, .val (.long km0), .second, .val (.long ka1), .second, .val (.long km1), .second, .val (.long ka2), .second, .val (.long km2), .second, .unset, .unset, .unset, .unset, .unset, .unset, .unset, .unset] [(.long (own_mix (((((((q1 + (-7046029254386353131 : Int64)) + (-7046029254386353131 : Int64)) + (-7046029254386353131 : Int64)) + (-7046029254386353131 : Int64)) + (-7046029254386353131 : Int64)) + (-7046029254386353131 : Int64)) + (-7046029254386353131 : Int64))))])) (fun _ k => st406.trans k) ?_
  obtain ⟨ka3, h_ka3⟩ : ∃ z : Int64, z = (own_mix (((((((q1 + (-7046029254386353131 : Int64)) + (-7046029254386353131 : Int64)) + (-7046029254386353131 : Int64)) + (-7046029254386353131 : Int64)) + (-7046029254386353131 : Int64)) + (-7046029254386353131 : Int64)) + (-7046029254386353131 : Int64))) := ⟨_, rfl⟩
  refine own_go (S' := T406.setTop (mkF m 117 #[.val (.int p0), .val (.long q1), .second, .val (.long q2), .second, .val (.int bits), .val (.long mask), .second, .val (.int fold), .val (.long id), .second, .val (.ref b303), .val (.ref b326), .val (.long ka0), .second, .val (.long km0), .second, .val (.long ka1), .second, .val (.long km1), .second, .val (.long ka2), .second, .val (.long km2), .second, .val (.long ka3), .second, .unset, .unset, .unset, .unset, .unset, .unset] [])) (fun target kt => ?_) ?_
  · subst h_ka3
    show Steps p.tables e below (T406.setTop (mkF m 115 #[.val (.int p0), .val (.long q1), .second, .val (.long q2), .second, .val (.int bits), .val (.long mask), .second, .val (.int fold), .val (.long id), .second, .val (.ref b303), .val (.ref b326), .val (.long ka0), .second, .val (.long km0), .second, .val (.long ka1), .second, .val (.long km1), .second, .val (.long ka2), .second, .val (.long km2), .second, .unset, .unset, .unset, .unset, .unset, .unset, .unset, .unset] [(.long (own_mix (((((((q1 + (-7046029254386353131 : Int64)) + (-7046029254386353131 : Int64)) + (-7046029254386353131 : Int64)) + (-7046029254386353131 : Int64)) + (-7046029254386353131 : Int64)) + (-7046029254386353131 : Int64)) + (-7046029254386353131 : Int64))))])) _
    refine XS.lstore X406.here hx rfl (hb hby at_115) rfl (l' := #[.val (.int p0), .val (.long q1), .second, .val (.long q2), .second, .val (.int bits), .val (.long mask), .second, .val (.int fold), .val (.long id), .second, .val (.ref b303), .val (.ref b326), .val (.long ka0), .second, .val (.long km0), .second, .val (.long ka1), .second, .val (.long km1), .second, .val (.long ka2), .second, .val (.long km2), .second, .val (.long (own_mix (((((((q1 + (-7046029254386353131 : Int64)) + (-7046029254386353131 : Int64)) + (-7046029254386353131 : Int64)) + (-7046029254386353131 : Int64)) + (-7046029254386353131 : Int64)) + (-7046029254386353131 : Int64)) + (-7046029254386353131 : Int64)))), .second, .unset, .unset, .unset, .unset, .unset, .unset]) rfl ?_
    exact kt
  refine own_go (S' := T406.setTop (mkF m 119 #[.val (.int p0), .val (.long q1), .second, .val (.long q2), .second, .val (.int bits), .val (.long mask), .second, .val (.int fold), .val (.long id), .second, .val (.ref b303), .val (.ref b326), .val (.long ka0), .second, .val (.long km0), .second, .val (.long ka1), .second, .val (.long km1), .second, .val (.long ka2), .second, .val (.long km2), .second, .val (.long ka3), .second, .unset, .unset, .unset, .unset, .unset, .unset] [(.ref b326)])) (fun target kt => ?_) ?_
  · skip
    show Steps p.tables e below (T406.setTop (mkF m 117 #[.val (.int p0), .val (.long q1), .second, .val (.long q2), .second, .val (.int bits), .val (.long mask), .second, .val (.int fold), .val (.long id), .second, .val (.ref b303), .val (.ref b326), .val (.long ka0), .second, .val (.long km0), .second, .val (.long ka1), .second, .val (.long km1), .second, .val (.long ka2), .second, .val (.long km2), .second, .val (.long ka3), .second, .unset, .unset, .unset, .unset, .unset, .unset] [])) _
    refine XS.aload X406.here hx rfl (hb hby at_117) rfl rfl ?_
    exact kt
  obtain ⟨cq416, kq416, q416a, q416b, q416c⟩ := isOf hZ rfl f406_0
  obtain ⟨_, _, ⟨T416, L416, k416, n416⟩, -, X416, ⟨Lc416, hQ416, l416, y416, z416⟩, st416⟩ := X406.virtualBack hx (y := (⟨"com/example/graphcrate/graphcrate/generate/SplitMix64", "nextLong", "()J"⟩ : MethodName)) (z := (⟨"com/example/graphcrate/graphcrate/generate/SplitMix64", "nextLong", "()J"⟩ : MethodName)) hown (mvT hZ (hw _ (List.mem_of_getElem? (i := 40) rfl))) (mvT hZ (hw _ (List.mem_of_getElem? (i := 30) rfl))) (notFace_of_selects (args := #[]) (mvT hZ (hw _ (List.mem_of_getElem? (i := 32) rfl)))) (mvT hZ (hw _ (List.mem_of_getElem? (i := 32) rfl))) (mvT hZ (hw _ (List.mem_of_getElem? (i := 31) rfl))) (by decide) (backOf (W := 0) (rm4 l Z aZ hw [] b326 (((((((q1 + (-7046029254386353131 : Int64)) + (-7046029254386353131 : Int64)) + (-7046029254386353131 : Int64)) + (-7046029254386353131 : Int64)) + (-7046029254386353131 : Int64)) + (-7046029254386353131 : Int64)) + (-7046029254386353131 : Int64)) T406.heap n0 Z406 f406_0 f406_1 g_b326) hZ (hw _ (List.mem_of_getElem? (i := 33) rfl)) (hw _ (List.mem_of_getElem? (i := 6) rfl)) (by decide) (by decide)) q416a q416c (g := (mkF m 119 #[.val (.int p0), .val (.long q1), .second, .val (.long q2), .second, .val (.int bits), .val (.long mask), .second, .val (.int fold), .val (.long id), .second, .val (.ref b303), .val (.ref b326), .val (.long ka0), .second, .val (.long km0), .second, .val (.long ka1), .second, .val (.long km1), .second, .val (.long ka2), .second, .val (.long km2), .second, .val (.long ka3), .second, .unset, .unset, .unset, .unset, .unset, .unset] [(.ref b326)])) rfl (by rw [hml]; rfl) (Steps.refl _) (argsL := []) (rest := []) (lenOf own_pd2 rfl) rfl (by show 2 * 0 + _ ≤ _; exact Nat.le_of_eq rfl) (hb hby at_119) (fun _ _ => ⟨rfl, rfl, (by decide : 5 + 0 ≤ _), (by decide : 14 + 0 ≤ _)⟩)
  dsimp only [Pt.U, Pt.locs, Pt.cells, Pt.slots] at X416 l416 y416 z416 st416 hQ416
  subst l416 y416 z416
  obtain ⟨rfl, N416q, K416q, f416_0, f416_1⟩ := hQ416
  have N416 := Fr.app N406 N416q
  have f417 : Exa Z T416.heap b303 "com/example/graphcrate/graphcrate/generate/VertexRenaming" := f407.keep K416q
  have f418 : Exa Z T416.heap b308 "com/example/graphcrate/graphcrate/generate/SplitMix64" := f408.keep K416q
  have f419 : Fld Z T416.heap b303 "com/example/graphcrate/graphcrate/generate/VertexRenaming" "addends" "[J" (.ref b1_322) := f409.keep K416q (ninS ne_b303_b326 nin0)
  have f420 : Fld Z T416.heap b303 "com/example/graphcrate/graphcrate/generate/VertexRenaming" "multipliers" "[J" (.ref b2_322) := f410.keep K416q (ninS ne_b303_b326 nin0)
  have f421 : Fld Z T416.heap b303 "com/example/graphcrate/graphcrate/generate/VertexRenaming" "mask" "J" (.long (own_ushrL (-1 : Int64) ((64 : Int32) - bits))) := f411.keep K416q (ninS ne_b303_b326 nin0)
  have f422 : Fld Z T416.heap b303 "com/example/graphcrate/graphcrate/generate/VertexRenaming" "fold" "I" (.int ((bits + (1 : Int32)) / (2 : Int32))) := f412.keep K416q (ninS ne_b303_b326 nin0)
  have f423 : own_AJ Z T416.heap b1_322 .long 4 (own_upd (own_upd (own_upd (own_upd (fun _ => 0) 0 (own_mix (q1 + (-7046029254386353131 : Int64)))) 1 (own_mix (((q1 + (-7046029254386353131 : Int64)) + (-7046029254386353131 : Int64)) + (-7046029254386353131 : Int64)))) 2 (own_mix (((((q1 + (-7046029254386353131 : Int64)) + (-7046029254386353131 : Int64)) + (-7046029254386353131 : Int64)) + (-7046029254386353131 : Int64)) + (-7046029254386353131 : Int64)))) 3 (own_mix (((((((q1 + (-7046029254386353131 : Int64)) + (-7046029254386353131 : Int64)) + (-7046029254386353131 : Int64)) + (-7046029254386353131 : Int64)) + (-7046029254386353131 : Int64)) + (-7046029254386353131 : Int64)) + (-7046029254386353131 : Int64)))) := f413.keep K416q (ninS ne_b1_322_b326 nin0)
  have f424 : own_AJ Z T416.heap b2_322 .long 4 (own_upd (own_upd (own_upd (own_upd (fun _ => 0) 0 ((own_mix ((q1 + (-7046029254386353131 : Int64)) + (-7046029254386353131 : Int64))) ||| (1 : Int64))) 1 ((own_mix ((((q1 + (-7046029254386353131 : Int64)) + (-7046029254386353131 : Int64)) + (-7046029254386353131 : Int64)) + (-7046029254386353131 : Int64))) ||| (1 : Int64))) 2 ((own_mix ((((((q1 + (-7046029254386353131 : Int64)) + (-7046029254386353131 : Int64)) + (-7046029254386353131 : Int64)) + (-7046029254386353131 : Int64)) + (-7046029254386353131 : Int64)) + (-7046029254386353131 : Int64))) ||| (1 : Int64))) 3 ((own_mix ((((((((q1 + (-7046029254386353131 : Int64)) + (-7046029254386353131 : Int64)) + (-7046029254386353131 : Int64)) + (-7046029254386353131 : Int64)) + (-7046029254386353131 : Int64)) + (-7046029254386353131 : Int64)) + (-7046029254386353131 : Int64)) + (-7046029254386353131 : Int64))) ||| (1 : Int64))) := f414.keep K416q (ninS ne_b2_322_b326 nin0)
  have f425 : Exa Z T416.heap b326 "com/example/graphcrate/graphcrate/generate/SplitMix64" := f406_0.keep K416q
  have Z416 : n0 ≤ T416.heap.size := Nat.le_trans Z406 K416q.1
  refine own_go (S' := T416.setTop (mkF m 122 #[.val (.int p0), .val (.long q1), .second, .val (.long q2), .second, .val (.int bits), .val (.long mask), .second, .val (.int fold), .val (.long id), .second, .val (.ref b303), .val (.ref b326), .val (.long ka0), .second, .val (.long km0), .second, .val (.long ka1), .second, .val (.long km1), .second, .val (.long ka2), .second, .val (.long km2), .second, .val (.long ka3), .second, .unset, .unset, .unset, .unset, .unset, .unset] [(.long (own_mix ((((((((q1 + (-7046029254386353131 : Int64)) + (-7046029254386353131 : Int64)) + (-7046029254386353131 : Int64)) + (-7046029254386353131 : Int64)) + (-7046029254386353131 : Int64)) + (-7046029254386353131 : Int64)) + (-7046029254386353131 : Int64)) + (-7046029254386353131 : Int64))))])) (fun _ k => st416.trans k) ?_
  obtain ⟨km3, h_km3⟩ : ∃ z : Int64, z = ((own_mix ((((((((q1 + (-7046029254386353131 : Int64)) + (-7046029254386353131 : Int64)) + (-7046029254386353131 : Int64)) + (-7046029254386353131 : Int64)) + (-7046029254386353131 : Int64)) + (-7046029254386353131 : Int64)) + (-7046029254386353131 : Int64)) + (-7046029254386353131 : Int64))) ||| (1 : Int64)) := ⟨_, rfl⟩
  refine own_go (S' := T416.setTop (mkF m 126 #[.val (.int p0), .val (.long q1), .second, .val (.long q2), .second, .val (.int bits), .val (.long mask), .second, .val (.int fold), .val (.long id), .second, .val (.ref b303), .val (.ref b326), .val (.long ka0), .second, .val (.long km0), .second, .val (.long ka1), .second, .val (.long km1), .second, .val (.long ka2), .second, .val (.long km2), .second, .val (.long ka3), .second, .val (.long km3), .second, .unset, .unset, .unset, .unset] [])) (fun target kt => ?_) ?_
  · subst h_km3
    show Steps p.tables e below (T416.setTop (mkF m 122 #[.val (.int p0), .val (.long q1), .second, .val (.long q2), .second, .val (.int bits), .val (.long mask), .second, .val (.int fold), .val (.long id), .second, .val (.ref b303), .val (.ref b326), .val (.long ka0), .second, .val (.long km0), .second, .val (.long ka1), .second, .val (.long km1), .second, .val (.long ka2), .second, .val (.long km2), .second, .val (.long ka3), .second, .unset, .unset, .unset, .unset, .unset, .unset] [(.long (own_mix ((((((((q1 + (-7046029254386353131 : Int64)) + (-7046029254386353131 : Int64)) + (-7046029254386353131 : Int64)) + (-7046029254386353131 : Int64)) + (-7046029254386353131 : Int64)) + (-7046029254386353131 : Int64)) + (-7046029254386353131 : Int64)) + (-7046029254386353131 : Int64))))])) _
    refine XS.lconst X416.here hx rfl (hb hby at_122) ?_
    show Steps p.tables e below (T416.setTop (mkF m 123 #[.val (.int p0), .val (.long q1), .second, .val (.long q2), .second, .val (.int bits), .val (.long mask), .second, .val (.int fold), .val (.long id), .second, .val (.ref b303), .val (.ref b326), .val (.long ka0), .second, .val (.long km0), .second, .val (.long ka1), .second, .val (.long km1), .second, .val (.long ka2), .second, .val (.long km2), .second, .val (.long ka3), .second, .unset, .unset, .unset, .unset, .unset, .unset] [(.long (1 : Int64)), (.long (own_mix ((((((((q1 + (-7046029254386353131 : Int64)) + (-7046029254386353131 : Int64)) + (-7046029254386353131 : Int64)) + (-7046029254386353131 : Int64)) + (-7046029254386353131 : Int64)) + (-7046029254386353131 : Int64)) + (-7046029254386353131 : Int64)) + (-7046029254386353131 : Int64))))])) _
    refine XS.lor X416.here hx rfl (hb hby at_123) rfl ?_
    show Steps p.tables e below (T416.setTop (mkF m 124 #[.val (.int p0), .val (.long q1), .second, .val (.long q2), .second, .val (.int bits), .val (.long mask), .second, .val (.int fold), .val (.long id), .second, .val (.ref b303), .val (.ref b326), .val (.long ka0), .second, .val (.long km0), .second, .val (.long ka1), .second, .val (.long km1), .second, .val (.long ka2), .second, .val (.long km2), .second, .val (.long ka3), .second, .unset, .unset, .unset, .unset, .unset, .unset] [(.long ((own_mix ((((((((q1 + (-7046029254386353131 : Int64)) + (-7046029254386353131 : Int64)) + (-7046029254386353131 : Int64)) + (-7046029254386353131 : Int64)) + (-7046029254386353131 : Int64)) + (-7046029254386353131 : Int64)) + (-7046029254386353131 : Int64)) + (-7046029254386353131 : Int64))) ||| (1 : Int64)))])) _
    refine XS.lstore X416.here hx rfl (hb hby at_124) rfl (l' := #[.val (.int p0), .val (.long q1), .second, .val (.long q2), .second, .val (.int bits), .val (.long mask), .second, .val (.int fold), .val (.long id), .second, .val (.ref b303), .val (.ref b326), .val (.long ka0), .second, .val (.long km0), .second, .val (.long ka1), .second, .val (.long km1), .second, .val (.long ka2), .second, .val (.long km2), .second, .val (.long ka3), .second, .val (.long ((own_mix ((((((((q1 + (-7046029254386353131 : Int64)) + (-7046029254386353131 : Int64)) + (-7046029254386353131 : Int64)) + (-7046029254386353131 : Int64)) + (-7046029254386353131 : Int64)) + (-7046029254386353131 : Int64)) + (-7046029254386353131 : Int64)) + (-7046029254386353131 : Int64))) ||| (1 : Int64))), .second, .unset, .unset, .unset, .unset]) rfl ?_
    exact kt
  refine own_go (S' := T416.setTop (mkF m 130 #[.val (.int p0), .val (.long q1), .second, .val (.long q2), .second, .val (.int bits), .val (.long mask), .second, .val (.int fold), .val (.long id), .second, .val (.ref b303), .val (.ref b326), .val (.long ka0), .second, .val (.long km0), .second, .val (.long ka1), .second, .val (.long km1), .second, .val (.long ka2), .second, .val (.long km2), .second, .val (.long ka3), .second, .val (.long km3), .second, .unset, .unset, .unset, .unset] [(.long id), (.ref b303)])) (fun target kt => ?_) ?_
  · skip
    show Steps p.tables e below (T416.setTop (mkF m 126 #[.val (.int p0), .val (.long q1), .second, .val (.long q2), .second, .val (.int bits), .val (.long mask), .second, .val (.int fold), .val (.long id), .second, .val (.ref b303), .val (.ref b326), .val (.long ka0), .second, .val (.long km0), .second, .val (.long ka1), .second, .val (.long km1), .second, .val (.long ka2), .second, .val (.long km2), .second, .val (.long ka3), .second, .val (.long km3), .second, .unset, .unset, .unset, .unset] [])) _
    refine XS.aload X416.here hx rfl (hb hby at_126) rfl rfl ?_
    show Steps p.tables e below (T416.setTop (mkF m 128 #[.val (.int p0), .val (.long q1), .second, .val (.long q2), .second, .val (.int bits), .val (.long mask), .second, .val (.int fold), .val (.long id), .second, .val (.ref b303), .val (.ref b326), .val (.long ka0), .second, .val (.long km0), .second, .val (.long ka1), .second, .val (.long km1), .second, .val (.long ka2), .second, .val (.long km2), .second, .val (.long ka3), .second, .val (.long km3), .second, .unset, .unset, .unset, .unset] [(.ref b303)])) _
    refine XS.lload X416.here hx rfl (hb hby at_128) rfl ?_
    exact kt
  obtain ⟨cq426, kq426, q426a, q426b, q426c⟩ := isOf hZ rfl f417
  obtain ⟨_, _, ⟨T426, L426, k426, n426⟩, -, X426, ⟨Lc426, hQ426, l426, y426, z426⟩, st426⟩ := X416.virtualBack hx (y := (⟨"com/example/graphcrate/graphcrate/generate/VertexRenaming", "rename", "(J)J"⟩ : MethodName)) (z := (⟨"com/example/graphcrate/graphcrate/generate/VertexRenaming", "rename", "(J)J"⟩ : MethodName)) hown (mvT hZ (hw _ (List.mem_of_getElem? (i := 41) rfl))) (mvT hZ (hw _ (List.mem_of_getElem? (i := 42) rfl))) (notFace_of_selects (args := #[]) (mvT hZ (hw _ (List.mem_of_getElem? (i := 44) rfl)))) (mvT hZ (hw _ (List.mem_of_getElem? (i := 44) rfl))) (mvT hZ (hw _ (List.mem_of_getElem? (i := 43) rfl))) (by decide) (backOf (W := 0) (rm6 l Z aZ hw [] b303 id b1_322 b2_322 (own_ushrL (-1 : Int64) ((64 : Int32) - bits)) ((bits + (1 : Int32)) / (2 : Int32)) (own_upd (own_upd (own_upd (own_upd (fun _ => 0) 0 (own_mix (q1 + (-7046029254386353131 : Int64)))) 1 (own_mix (((q1 + (-7046029254386353131 : Int64)) + (-7046029254386353131 : Int64)) + (-7046029254386353131 : Int64)))) 2 (own_mix (((((q1 + (-7046029254386353131 : Int64)) + (-7046029254386353131 : Int64)) + (-7046029254386353131 : Int64)) + (-7046029254386353131 : Int64)) + (-7046029254386353131 : Int64)))) 3 (own_mix (((((((q1 + (-7046029254386353131 : Int64)) + (-7046029254386353131 : Int64)) + (-7046029254386353131 : Int64)) + (-7046029254386353131 : Int64)) + (-7046029254386353131 : Int64)) + (-7046029254386353131 : Int64)) + (-7046029254386353131 : Int64)))) (own_upd (own_upd (own_upd (own_upd (fun _ => 0) 0 ((own_mix ((q1 + (-7046029254386353131 : Int64)) + (-7046029254386353131 : Int64))) ||| (1 : Int64))) 1 ((own_mix ((((q1 + (-7046029254386353131 : Int64)) + (-7046029254386353131 : Int64)) + (-7046029254386353131 : Int64)) + (-7046029254386353131 : Int64))) ||| (1 : Int64))) 2 ((own_mix ((((((q1 + (-7046029254386353131 : Int64)) + (-7046029254386353131 : Int64)) + (-7046029254386353131 : Int64)) + (-7046029254386353131 : Int64)) + (-7046029254386353131 : Int64)) + (-7046029254386353131 : Int64))) ||| (1 : Int64))) 3 ((own_mix ((((((((q1 + (-7046029254386353131 : Int64)) + (-7046029254386353131 : Int64)) + (-7046029254386353131 : Int64)) + (-7046029254386353131 : Int64)) + (-7046029254386353131 : Int64)) + (-7046029254386353131 : Int64)) + (-7046029254386353131 : Int64)) + (-7046029254386353131 : Int64))) ||| (1 : Int64))) T416.heap n0 Z416 f419 f420 f421 f422 f423 f424) hZ (hw _ (List.mem_of_getElem? (i := 45) rfl)) (hw _ (List.mem_of_getElem? (i := 3) rfl)) (by decide) (by decide)) q426a q426c (g := (mkF m 130 #[.val (.int p0), .val (.long q1), .second, .val (.long q2), .second, .val (.int bits), .val (.long mask), .second, .val (.int fold), .val (.long id), .second, .val (.ref b303), .val (.ref b326), .val (.long ka0), .second, .val (.long km0), .second, .val (.long ka1), .second, .val (.long km1), .second, .val (.long ka2), .second, .val (.long km2), .second, .val (.long ka3), .second, .val (.long km3), .second, .unset, .unset, .unset, .unset] [(.long id), (.ref b303)])) rfl (by rw [hml]; rfl) (Steps.refl _) (argsL := [(.long id)]) (rest := []) (lenOf own_pd0 rfl) rfl (by show 2 * 0 + _ ≤ _; exact Nat.le_of_eq rfl) (hb hby at_130) (fun _ _ => ⟨rfl, rfl, (by decide : 5 + 0 ≤ _), (by decide : 14 + 0 ≤ _)⟩)
  dsimp only [Pt.U, Pt.locs, Pt.cells, Pt.slots] at X426 l426 y426 z426 st426 hQ426
  subst l426 y426 z426
  obtain ⟨rfl, N426q, e426⟩ := hQ426
  have N426 := Fr.app N416 N426q
  refine own_go (S' := T426.setTop (mkF m 133 #[.val (.int p0), .val (.long q1), .second, .val (.long q2), .second, .val (.int bits), .val (.long mask), .second, .val (.int fold), .val (.long id), .second, .val (.ref b303), .val (.ref b326), .val (.long ka0), .second, .val (.long km0), .second, .val (.long ka1), .second, .val (.long km1), .second, .val (.long ka2), .second, .val (.long km2), .second, .val (.long ka3), .second, .val (.long km3), .second, .unset, .unset, .unset, .unset] [(.long (own_step (own_step (own_step (own_step id ((own_upd (own_upd (own_upd (own_upd (fun _ => 0) 0 (own_mix (q1 + (-7046029254386353131 : Int64)))) 1 (own_mix (((q1 + (-7046029254386353131 : Int64)) + (-7046029254386353131 : Int64)) + (-7046029254386353131 : Int64)))) 2 (own_mix (((((q1 + (-7046029254386353131 : Int64)) + (-7046029254386353131 : Int64)) + (-7046029254386353131 : Int64)) + (-7046029254386353131 : Int64)) + (-7046029254386353131 : Int64)))) 3 (own_mix (((((((q1 + (-7046029254386353131 : Int64)) + (-7046029254386353131 : Int64)) + (-7046029254386353131 : Int64)) + (-7046029254386353131 : Int64)) + (-7046029254386353131 : Int64)) + (-7046029254386353131 : Int64)) + (-7046029254386353131 : Int64)))) 0) ((own_upd (own_upd (own_upd (own_upd (fun _ => 0) 0 ((own_mix ((q1 + (-7046029254386353131 : Int64)) + (-7046029254386353131 : Int64))) ||| (1 : Int64))) 1 ((own_mix ((((q1 + (-7046029254386353131 : Int64)) + (-7046029254386353131 : Int64)) + (-7046029254386353131 : Int64)) + (-7046029254386353131 : Int64))) ||| (1 : Int64))) 2 ((own_mix ((((((q1 + (-7046029254386353131 : Int64)) + (-7046029254386353131 : Int64)) + (-7046029254386353131 : Int64)) + (-7046029254386353131 : Int64)) + (-7046029254386353131 : Int64)) + (-7046029254386353131 : Int64))) ||| (1 : Int64))) 3 ((own_mix ((((((((q1 + (-7046029254386353131 : Int64)) + (-7046029254386353131 : Int64)) + (-7046029254386353131 : Int64)) + (-7046029254386353131 : Int64)) + (-7046029254386353131 : Int64)) + (-7046029254386353131 : Int64)) + (-7046029254386353131 : Int64)) + (-7046029254386353131 : Int64))) ||| (1 : Int64))) 0) (own_ushrL (-1 : Int64) ((64 : Int32) - bits)) ((bits + (1 : Int32)) / (2 : Int32))) ((own_upd (own_upd (own_upd (own_upd (fun _ => 0) 0 (own_mix (q1 + (-7046029254386353131 : Int64)))) 1 (own_mix (((q1 + (-7046029254386353131 : Int64)) + (-7046029254386353131 : Int64)) + (-7046029254386353131 : Int64)))) 2 (own_mix (((((q1 + (-7046029254386353131 : Int64)) + (-7046029254386353131 : Int64)) + (-7046029254386353131 : Int64)) + (-7046029254386353131 : Int64)) + (-7046029254386353131 : Int64)))) 3 (own_mix (((((((q1 + (-7046029254386353131 : Int64)) + (-7046029254386353131 : Int64)) + (-7046029254386353131 : Int64)) + (-7046029254386353131 : Int64)) + (-7046029254386353131 : Int64)) + (-7046029254386353131 : Int64)) + (-7046029254386353131 : Int64)))) 1) ((own_upd (own_upd (own_upd (own_upd (fun _ => 0) 0 ((own_mix ((q1 + (-7046029254386353131 : Int64)) + (-7046029254386353131 : Int64))) ||| (1 : Int64))) 1 ((own_mix ((((q1 + (-7046029254386353131 : Int64)) + (-7046029254386353131 : Int64)) + (-7046029254386353131 : Int64)) + (-7046029254386353131 : Int64))) ||| (1 : Int64))) 2 ((own_mix ((((((q1 + (-7046029254386353131 : Int64)) + (-7046029254386353131 : Int64)) + (-7046029254386353131 : Int64)) + (-7046029254386353131 : Int64)) + (-7046029254386353131 : Int64)) + (-7046029254386353131 : Int64))) ||| (1 : Int64))) 3 ((own_mix ((((((((q1 + (-7046029254386353131 : Int64)) + (-7046029254386353131 : Int64)) + (-7046029254386353131 : Int64)) + (-7046029254386353131 : Int64)) + (-7046029254386353131 : Int64)) + (-7046029254386353131 : Int64)) + (-7046029254386353131 : Int64)) + (-7046029254386353131 : Int64))) ||| (1 : Int64))) 1) (own_ushrL (-1 : Int64) ((64 : Int32) - bits)) ((bits + (1 : Int32)) / (2 : Int32))) ((own_upd (own_upd (own_upd (own_upd (fun _ => 0) 0 (own_mix (q1 + (-7046029254386353131 : Int64)))) 1 (own_mix (((q1 + (-7046029254386353131 : Int64)) + (-7046029254386353131 : Int64)) + (-7046029254386353131 : Int64)))) 2 (own_mix (((((q1 + (-7046029254386353131 : Int64)) + (-7046029254386353131 : Int64)) + (-7046029254386353131 : Int64)) + (-7046029254386353131 : Int64)) + (-7046029254386353131 : Int64)))) 3 (own_mix (((((((q1 + (-7046029254386353131 : Int64)) + (-7046029254386353131 : Int64)) + (-7046029254386353131 : Int64)) + (-7046029254386353131 : Int64)) + (-7046029254386353131 : Int64)) + (-7046029254386353131 : Int64)) + (-7046029254386353131 : Int64)))) 2) ((own_upd (own_upd (own_upd (own_upd (fun _ => 0) 0 ((own_mix ((q1 + (-7046029254386353131 : Int64)) + (-7046029254386353131 : Int64))) ||| (1 : Int64))) 1 ((own_mix ((((q1 + (-7046029254386353131 : Int64)) + (-7046029254386353131 : Int64)) + (-7046029254386353131 : Int64)) + (-7046029254386353131 : Int64))) ||| (1 : Int64))) 2 ((own_mix ((((((q1 + (-7046029254386353131 : Int64)) + (-7046029254386353131 : Int64)) + (-7046029254386353131 : Int64)) + (-7046029254386353131 : Int64)) + (-7046029254386353131 : Int64)) + (-7046029254386353131 : Int64))) ||| (1 : Int64))) 3 ((own_mix ((((((((q1 + (-7046029254386353131 : Int64)) + (-7046029254386353131 : Int64)) + (-7046029254386353131 : Int64)) + (-7046029254386353131 : Int64)) + (-7046029254386353131 : Int64)) + (-7046029254386353131 : Int64)) + (-7046029254386353131 : Int64)) + (-7046029254386353131 : Int64))) ||| (1 : Int64))) 2) (own_ushrL (-1 : Int64) ((64 : Int32) - bits)) ((bits + (1 : Int32)) / (2 : Int32))) ((own_upd (own_upd (own_upd (own_upd (fun _ => 0) 0 (own_mix (q1 + (-7046029254386353131 : Int64)))) 1 (own_mix (((q1 + (-7046029254386353131 : Int64)) + (-7046029254386353131 : Int64)) + (-7046029254386353131 : Int64)))) 2 (own_mix (((((q1 + (-7046029254386353131 : Int64)) + (-7046029254386353131 : Int64)) + (-7046029254386353131 : Int64)) + (-7046029254386353131 : Int64)) + (-7046029254386353131 : Int64)))) 3 (own_mix (((((((q1 + (-7046029254386353131 : Int64)) + (-7046029254386353131 : Int64)) + (-7046029254386353131 : Int64)) + (-7046029254386353131 : Int64)) + (-7046029254386353131 : Int64)) + (-7046029254386353131 : Int64)) + (-7046029254386353131 : Int64)))) 3) ((own_upd (own_upd (own_upd (own_upd (fun _ => 0) 0 ((own_mix ((q1 + (-7046029254386353131 : Int64)) + (-7046029254386353131 : Int64))) ||| (1 : Int64))) 1 ((own_mix ((((q1 + (-7046029254386353131 : Int64)) + (-7046029254386353131 : Int64)) + (-7046029254386353131 : Int64)) + (-7046029254386353131 : Int64))) ||| (1 : Int64))) 2 ((own_mix ((((((q1 + (-7046029254386353131 : Int64)) + (-7046029254386353131 : Int64)) + (-7046029254386353131 : Int64)) + (-7046029254386353131 : Int64)) + (-7046029254386353131 : Int64)) + (-7046029254386353131 : Int64))) ||| (1 : Int64))) 3 ((own_mix ((((((((q1 + (-7046029254386353131 : Int64)) + (-7046029254386353131 : Int64)) + (-7046029254386353131 : Int64)) + (-7046029254386353131 : Int64)) + (-7046029254386353131 : Int64)) + (-7046029254386353131 : Int64)) + (-7046029254386353131 : Int64)) + (-7046029254386353131 : Int64))) ||| (1 : Int64))) 3) (own_ushrL (-1 : Int64) ((64 : Int32) - bits)) ((bits + (1 : Int32)) / (2 : Int32))))])) (fun _ k => st426.trans k) ?_
  obtain ⟨out, h_out⟩ : ∃ z : Int64, z = (own_step (own_step (own_step (own_step id ((own_upd (own_upd (own_upd (own_upd (fun _ => 0) 0 (own_mix (q1 + (-7046029254386353131 : Int64)))) 1 (own_mix (((q1 + (-7046029254386353131 : Int64)) + (-7046029254386353131 : Int64)) + (-7046029254386353131 : Int64)))) 2 (own_mix (((((q1 + (-7046029254386353131 : Int64)) + (-7046029254386353131 : Int64)) + (-7046029254386353131 : Int64)) + (-7046029254386353131 : Int64)) + (-7046029254386353131 : Int64)))) 3 (own_mix (((((((q1 + (-7046029254386353131 : Int64)) + (-7046029254386353131 : Int64)) + (-7046029254386353131 : Int64)) + (-7046029254386353131 : Int64)) + (-7046029254386353131 : Int64)) + (-7046029254386353131 : Int64)) + (-7046029254386353131 : Int64)))) 0) ((own_upd (own_upd (own_upd (own_upd (fun _ => 0) 0 ((own_mix ((q1 + (-7046029254386353131 : Int64)) + (-7046029254386353131 : Int64))) ||| (1 : Int64))) 1 ((own_mix ((((q1 + (-7046029254386353131 : Int64)) + (-7046029254386353131 : Int64)) + (-7046029254386353131 : Int64)) + (-7046029254386353131 : Int64))) ||| (1 : Int64))) 2 ((own_mix ((((((q1 + (-7046029254386353131 : Int64)) + (-7046029254386353131 : Int64)) + (-7046029254386353131 : Int64)) + (-7046029254386353131 : Int64)) + (-7046029254386353131 : Int64)) + (-7046029254386353131 : Int64))) ||| (1 : Int64))) 3 ((own_mix ((((((((q1 + (-7046029254386353131 : Int64)) + (-7046029254386353131 : Int64)) + (-7046029254386353131 : Int64)) + (-7046029254386353131 : Int64)) + (-7046029254386353131 : Int64)) + (-7046029254386353131 : Int64)) + (-7046029254386353131 : Int64)) + (-7046029254386353131 : Int64))) ||| (1 : Int64))) 0) (own_ushrL (-1 : Int64) ((64 : Int32) - bits)) ((bits + (1 : Int32)) / (2 : Int32))) ((own_upd (own_upd (own_upd (own_upd (fun _ => 0) 0 (own_mix (q1 + (-7046029254386353131 : Int64)))) 1 (own_mix (((q1 + (-7046029254386353131 : Int64)) + (-7046029254386353131 : Int64)) + (-7046029254386353131 : Int64)))) 2 (own_mix (((((q1 + (-7046029254386353131 : Int64)) + (-7046029254386353131 : Int64)) + (-7046029254386353131 : Int64)) + (-7046029254386353131 : Int64)) + (-7046029254386353131 : Int64)))) 3 (own_mix (((((((q1 + (-7046029254386353131 : Int64)) + (-7046029254386353131 : Int64)) + (-7046029254386353131 : Int64)) + (-7046029254386353131 : Int64)) + (-7046029254386353131 : Int64)) + (-7046029254386353131 : Int64)) + (-7046029254386353131 : Int64)))) 1) ((own_upd (own_upd (own_upd (own_upd (fun _ => 0) 0 ((own_mix ((q1 + (-7046029254386353131 : Int64)) + (-7046029254386353131 : Int64))) ||| (1 : Int64))) 1 ((own_mix ((((q1 + (-7046029254386353131 : Int64)) + (-7046029254386353131 : Int64)) + (-7046029254386353131 : Int64)) + (-7046029254386353131 : Int64))) ||| (1 : Int64))) 2 ((own_mix ((((((q1 + (-7046029254386353131 : Int64)) + (-7046029254386353131 : Int64)) + (-7046029254386353131 : Int64)) + (-7046029254386353131 : Int64)) + (-7046029254386353131 : Int64)) + (-7046029254386353131 : Int64))) ||| (1 : Int64))) 3 ((own_mix ((((((((q1 + (-7046029254386353131 : Int64)) + (-7046029254386353131 : Int64)) + (-7046029254386353131 : Int64)) + (-7046029254386353131 : Int64)) + (-7046029254386353131 : Int64)) + (-7046029254386353131 : Int64)) + (-7046029254386353131 : Int64)) + (-7046029254386353131 : Int64))) ||| (1 : Int64))) 1) (own_ushrL (-1 : Int64) ((64 : Int32) - bits)) ((bits + (1 : Int32)) / (2 : Int32))) ((own_upd (own_upd (own_upd (own_upd (fun _ => 0) 0 (own_mix (q1 + (-7046029254386353131 : Int64)))) 1 (own_mix (((q1 + (-7046029254386353131 : Int64)) + (-7046029254386353131 : Int64)) + (-7046029254386353131 : Int64)))) 2 (own_mix (((((q1 + (-7046029254386353131 : Int64)) + (-7046029254386353131 : Int64)) + (-7046029254386353131 : Int64)) + (-7046029254386353131 : Int64)) + (-7046029254386353131 : Int64)))) 3 (own_mix (((((((q1 + (-7046029254386353131 : Int64)) + (-7046029254386353131 : Int64)) + (-7046029254386353131 : Int64)) + (-7046029254386353131 : Int64)) + (-7046029254386353131 : Int64)) + (-7046029254386353131 : Int64)) + (-7046029254386353131 : Int64)))) 2) ((own_upd (own_upd (own_upd (own_upd (fun _ => 0) 0 ((own_mix ((q1 + (-7046029254386353131 : Int64)) + (-7046029254386353131 : Int64))) ||| (1 : Int64))) 1 ((own_mix ((((q1 + (-7046029254386353131 : Int64)) + (-7046029254386353131 : Int64)) + (-7046029254386353131 : Int64)) + (-7046029254386353131 : Int64))) ||| (1 : Int64))) 2 ((own_mix ((((((q1 + (-7046029254386353131 : Int64)) + (-7046029254386353131 : Int64)) + (-7046029254386353131 : Int64)) + (-7046029254386353131 : Int64)) + (-7046029254386353131 : Int64)) + (-7046029254386353131 : Int64))) ||| (1 : Int64))) 3 ((own_mix ((((((((q1 + (-7046029254386353131 : Int64)) + (-7046029254386353131 : Int64)) + (-7046029254386353131 : Int64)) + (-7046029254386353131 : Int64)) + (-7046029254386353131 : Int64)) + (-7046029254386353131 : Int64)) + (-7046029254386353131 : Int64)) + (-7046029254386353131 : Int64))) ||| (1 : Int64))) 2) (own_ushrL (-1 : Int64) ((64 : Int32) - bits)) ((bits + (1 : Int32)) / (2 : Int32))) ((own_upd (own_upd (own_upd (own_upd (fun _ => 0) 0 (own_mix (q1 + (-7046029254386353131 : Int64)))) 1 (own_mix (((q1 + (-7046029254386353131 : Int64)) + (-7046029254386353131 : Int64)) + (-7046029254386353131 : Int64)))) 2 (own_mix (((((q1 + (-7046029254386353131 : Int64)) + (-7046029254386353131 : Int64)) + (-7046029254386353131 : Int64)) + (-7046029254386353131 : Int64)) + (-7046029254386353131 : Int64)))) 3 (own_mix (((((((q1 + (-7046029254386353131 : Int64)) + (-7046029254386353131 : Int64)) + (-7046029254386353131 : Int64)) + (-7046029254386353131 : Int64)) + (-7046029254386353131 : Int64)) + (-7046029254386353131 : Int64)) + (-7046029254386353131 : Int64)))) 3) ((own_upd (own_upd (own_upd (own_upd (fun _ => 0) 0 ((own_mix ((q1 + (-7046029254386353131 : Int64)) + (-7046029254386353131 : Int64))) ||| (1 : Int64))) 1 ((own_mix ((((q1 + (-7046029254386353131 : Int64)) + (-7046029254386353131 : Int64)) + (-7046029254386353131 : Int64)) + (-7046029254386353131 : Int64))) ||| (1 : Int64))) 2 ((own_mix ((((((q1 + (-7046029254386353131 : Int64)) + (-7046029254386353131 : Int64)) + (-7046029254386353131 : Int64)) + (-7046029254386353131 : Int64)) + (-7046029254386353131 : Int64)) + (-7046029254386353131 : Int64))) ||| (1 : Int64))) 3 ((own_mix ((((((((q1 + (-7046029254386353131 : Int64)) + (-7046029254386353131 : Int64)) + (-7046029254386353131 : Int64)) + (-7046029254386353131 : Int64)) + (-7046029254386353131 : Int64)) + (-7046029254386353131 : Int64)) + (-7046029254386353131 : Int64)) + (-7046029254386353131 : Int64))) ||| (1 : Int64))) 3) (own_ushrL (-1 : Int64) ((64 : Int32) - bits)) ((bits + (1 : Int32)) / (2 : Int32))) := ⟨_, rfl⟩
  refine own_go (S' := T426.setTop (mkF m 135 #[.val (.int p0), .val (.long q1), .second, .val (.long q2), .second, .val (.int bits), .val (.long mask), .second, .val (.int fold), .val (.long id), .second, .val (.ref b303), .val (.ref b326), .val (.long ka0), .second, .val (.long km0), .second, .val (.long ka1), .second, .val (.long km1), .second, .val (.long ka2), .second, .val (.long km2), .second, .val (.long ka3), .second, .val (.long km3), .second, .val (.long out), .second, .unset, .unset] [])) (fun target kt => ?_) ?_
  · subst h_out
    show Steps p.tables e below (T426.setTop (mkF m 133 #[.val (.int p0), .val (.long q1), .second, .val (.long q2), .second, .val (.int bits), .val (.long mask), .second, .val (.int fold), .val (.long id), .second, .val (.ref b303), .val (.ref b326), .val (.long ka0), .second, .val (.long km0), .second, .val (.long ka1), .second, .val (.long km1), .second, .val (.long ka2), .second, .val (.long km2), .second, .val (.long ka3), .second, .val (.long km3), .second, .unset, .unset, .unset, .unset] [(.long (own_step (own_step (own_step (own_step id ((own_upd (own_upd (own_upd (own_upd (fun _ => 0) 0 (own_mix (q1 + (-7046029254386353131 : Int64)))) 1 (own_mix (((q1 + (-7046029254386353131 : Int64)) + (-7046029254386353131 : Int64)) + (-7046029254386353131 : Int64)))) 2 (own_mix (((((q1 + (-7046029254386353131 : Int64)) + (-7046029254386353131 : Int64)) + (-7046029254386353131 : Int64)) + (-7046029254386353131 : Int64)) + (-7046029254386353131 : Int64)))) 3 (own_mix (((((((q1 + (-7046029254386353131 : Int64)) + (-7046029254386353131 : Int64)) + (-7046029254386353131 : Int64)) + (-7046029254386353131 : Int64)) + (-7046029254386353131 : Int64)) + (-7046029254386353131 : Int64)) + (-7046029254386353131 : Int64)))) 0) ((own_upd (own_upd (own_upd (own_upd (fun _ => 0) 0 ((own_mix ((q1 + (-7046029254386353131 : Int64)) + (-7046029254386353131 : Int64))) ||| (1 : Int64))) 1 ((own_mix ((((q1 + (-7046029254386353131 : Int64)) + (-7046029254386353131 : Int64)) + (-7046029254386353131 : Int64)) + (-7046029254386353131 : Int64))) ||| (1 : Int64))) 2 ((own_mix ((((((q1 + (-7046029254386353131 : Int64)) + (-7046029254386353131 : Int64)) + (-7046029254386353131 : Int64)) + (-7046029254386353131 : Int64)) + (-7046029254386353131 : Int64)) + (-7046029254386353131 : Int64))) ||| (1 : Int64))) 3 ((own_mix ((((((((q1 + (-7046029254386353131 : Int64)) + (-7046029254386353131 : Int64)) + (-7046029254386353131 : Int64)) + (-7046029254386353131 : Int64)) + (-7046029254386353131 : Int64)) + (-7046029254386353131 : Int64)) + (-7046029254386353131 : Int64)) + (-7046029254386353131 : Int64))) ||| (1 : Int64))) 0) (own_ushrL (-1 : Int64) ((64 : Int32) - bits)) ((bits + (1 : Int32)) / (2 : Int32))) ((own_upd (own_upd (own_upd (own_upd (fun _ => 0) 0 (own_mix (q1 + (-7046029254386353131 : Int64)))) 1 (own_mix (((q1 + (-7046029254386353131 : Int64)) + (-7046029254386353131 : Int64)) + (-7046029254386353131 : Int64)))) 2 (own_mix (((((q1 + (-7046029254386353131 : Int64)) + (-7046029254386353131 : Int64)) + (-7046029254386353131 : Int64)) + (-7046029254386353131 : Int64)) + (-7046029254386353131 : Int64)))) 3 (own_mix (((((((q1 + (-7046029254386353131 : Int64)) + (-7046029254386353131 : Int64)) + (-7046029254386353131 : Int64)) + (-7046029254386353131 : Int64)) + (-7046029254386353131 : Int64)) + (-7046029254386353131 : Int64)) + (-7046029254386353131 : Int64)))) 1) ((own_upd (own_upd (own_upd (own_upd (fun _ => 0) 0 ((own_mix ((q1 + (-7046029254386353131 : Int64)) + (-7046029254386353131 : Int64))) ||| (1 : Int64))) 1 ((own_mix ((((q1 + (-7046029254386353131 : Int64)) + (-7046029254386353131 : Int64)) + (-7046029254386353131 : Int64)) + (-7046029254386353131 : Int64))) ||| (1 : Int64))) 2 ((own_mix ((((((q1 + (-7046029254386353131 : Int64)) + (-7046029254386353131 : Int64)) + (-7046029254386353131 : Int64)) + (-7046029254386353131 : Int64)) + (-7046029254386353131 : Int64)) + (-7046029254386353131 : Int64))) ||| (1 : Int64))) 3 ((own_mix ((((((((q1 + (-7046029254386353131 : Int64)) + (-7046029254386353131 : Int64)) + (-7046029254386353131 : Int64)) + (-7046029254386353131 : Int64)) + (-7046029254386353131 : Int64)) + (-7046029254386353131 : Int64)) + (-7046029254386353131 : Int64)) + (-7046029254386353131 : Int64))) ||| (1 : Int64))) 1) (own_ushrL (-1 : Int64) ((64 : Int32) - bits)) ((bits + (1 : Int32)) / (2 : Int32))) ((own_upd (own_upd (own_upd (own_upd (fun _ => 0) 0 (own_mix (q1 + (-7046029254386353131 : Int64)))) 1 (own_mix (((q1 + (-7046029254386353131 : Int64)) + (-7046029254386353131 : Int64)) + (-7046029254386353131 : Int64)))) 2 (own_mix (((((q1 + (-7046029254386353131 : Int64)) + (-7046029254386353131 : Int64)) + (-7046029254386353131 : Int64)) + (-7046029254386353131 : Int64)) + (-7046029254386353131 : Int64)))) 3 (own_mix (((((((q1 + (-7046029254386353131 : Int64)) + (-7046029254386353131 : Int64)) + (-7046029254386353131 : Int64)) + (-7046029254386353131 : Int64)) + (-7046029254386353131 : Int64)) + (-7046029254386353131 : Int64)) + (-7046029254386353131 : Int64)))) 2) ((own_upd (own_upd (own_upd (own_upd (fun _ => 0) 0 ((own_mix ((q1 + (-7046029254386353131 : Int64)) + (-7046029254386353131 : Int64))) ||| (1 : Int64))) 1 ((own_mix ((((q1 + (-7046029254386353131 : Int64)) + (-7046029254386353131 : Int64)) + (-7046029254386353131 : Int64)) + (-7046029254386353131 : Int64))) ||| (1 : Int64))) 2 ((own_mix ((((((q1 + (-7046029254386353131 : Int64)) + (-7046029254386353131 : Int64)) + (-7046029254386353131 : Int64)) + (-7046029254386353131 : Int64)) + (-7046029254386353131 : Int64)) + (-7046029254386353131 : Int64))) ||| (1 : Int64))) 3 ((own_mix ((((((((q1 + (-7046029254386353131 : Int64)) + (-7046029254386353131 : Int64)) + (-7046029254386353131 : Int64)) + (-7046029254386353131 : Int64)) + (-7046029254386353131 : Int64)) + (-7046029254386353131 : Int64)) + (-7046029254386353131 : Int64)) + (-7046029254386353131 : Int64))) ||| (1 : Int64))) 2) (own_ushrL (-1 : Int64) ((64 : Int32) - bits)) ((bits + (1 : Int32)) / (2 : Int32))) ((own_upd (own_upd (own_upd (own_upd (fun _ => 0) 0 (own_mix (q1 + (-7046029254386353131 : Int64)))) 1 (own_mix (((q1 + (-7046029254386353131 : Int64)) + (-7046029254386353131 : Int64)) + (-7046029254386353131 : Int64)))) 2 (own_mix (((((q1 + (-7046029254386353131 : Int64)) + (-7046029254386353131 : Int64)) + (-7046029254386353131 : Int64)) + (-7046029254386353131 : Int64)) + (-7046029254386353131 : Int64)))) 3 (own_mix (((((((q1 + (-7046029254386353131 : Int64)) + (-7046029254386353131 : Int64)) + (-7046029254386353131 : Int64)) + (-7046029254386353131 : Int64)) + (-7046029254386353131 : Int64)) + (-7046029254386353131 : Int64)) + (-7046029254386353131 : Int64)))) 3) ((own_upd (own_upd (own_upd (own_upd (fun _ => 0) 0 ((own_mix ((q1 + (-7046029254386353131 : Int64)) + (-7046029254386353131 : Int64))) ||| (1 : Int64))) 1 ((own_mix ((((q1 + (-7046029254386353131 : Int64)) + (-7046029254386353131 : Int64)) + (-7046029254386353131 : Int64)) + (-7046029254386353131 : Int64))) ||| (1 : Int64))) 2 ((own_mix ((((((q1 + (-7046029254386353131 : Int64)) + (-7046029254386353131 : Int64)) + (-7046029254386353131 : Int64)) + (-7046029254386353131 : Int64)) + (-7046029254386353131 : Int64)) + (-7046029254386353131 : Int64))) ||| (1 : Int64))) 3 ((own_mix ((((((((q1 + (-7046029254386353131 : Int64)) + (-7046029254386353131 : Int64)) + (-7046029254386353131 : Int64)) + (-7046029254386353131 : Int64)) + (-7046029254386353131 : Int64)) + (-7046029254386353131 : Int64)) + (-7046029254386353131 : Int64)) + (-7046029254386353131 : Int64))) ||| (1 : Int64))) 3) (own_ushrL (-1 : Int64) ((64 : Int32) - bits)) ((bits + (1 : Int32)) / (2 : Int32))))])) _
    refine XS.lstore X426.here hx rfl (hb hby at_133) rfl (l' := #[.val (.int p0), .val (.long q1), .second, .val (.long q2), .second, .val (.int bits), .val (.long mask), .second, .val (.int fold), .val (.long id), .second, .val (.ref b303), .val (.ref b326), .val (.long ka0), .second, .val (.long km0), .second, .val (.long ka1), .second, .val (.long km1), .second, .val (.long ka2), .second, .val (.long km2), .second, .val (.long ka3), .second, .val (.long km3), .second, .val (.long (own_step (own_step (own_step (own_step id ((own_upd (own_upd (own_upd (own_upd (fun _ => 0) 0 (own_mix (q1 + (-7046029254386353131 : Int64)))) 1 (own_mix (((q1 + (-7046029254386353131 : Int64)) + (-7046029254386353131 : Int64)) + (-7046029254386353131 : Int64)))) 2 (own_mix (((((q1 + (-7046029254386353131 : Int64)) + (-7046029254386353131 : Int64)) + (-7046029254386353131 : Int64)) + (-7046029254386353131 : Int64)) + (-7046029254386353131 : Int64)))) 3 (own_mix (((((((q1 + (-7046029254386353131 : Int64)) + (-7046029254386353131 : Int64)) + (-7046029254386353131 : Int64)) + (-7046029254386353131 : Int64)) + (-7046029254386353131 : Int64)) + (-7046029254386353131 : Int64)) + (-7046029254386353131 : Int64)))) 0) ((own_upd (own_upd (own_upd (own_upd (fun _ => 0) 0 ((own_mix ((q1 + (-7046029254386353131 : Int64)) + (-7046029254386353131 : Int64))) ||| (1 : Int64))) 1 ((own_mix ((((q1 + (-7046029254386353131 : Int64)) + (-7046029254386353131 : Int64)) + (-7046029254386353131 : Int64)) + (-7046029254386353131 : Int64))) ||| (1 : Int64))) 2 ((own_mix ((((((q1 + (-7046029254386353131 : Int64)) + (-7046029254386353131 : Int64)) + (-7046029254386353131 : Int64)) + (-7046029254386353131 : Int64)) + (-7046029254386353131 : Int64)) + (-7046029254386353131 : Int64))) ||| (1 : Int64))) 3 ((own_mix ((((((((q1 + (-7046029254386353131 : Int64)) + (-7046029254386353131 : Int64)) + (-7046029254386353131 : Int64)) + (-7046029254386353131 : Int64)) + (-7046029254386353131 : Int64)) + (-7046029254386353131 : Int64)) + (-7046029254386353131 : Int64)) + (-7046029254386353131 : Int64))) ||| (1 : Int64))) 0) (own_ushrL (-1 : Int64) ((64 : Int32) - bits)) ((bits + (1 : Int32)) / (2 : Int32))) ((own_upd (own_upd (own_upd (own_upd (fun _ => 0) 0 (own_mix (q1 + (-7046029254386353131 : Int64)))) 1 (own_mix (((q1 + (-7046029254386353131 : Int64)) + (-7046029254386353131 : Int64)) + (-7046029254386353131 : Int64)))) 2 (own_mix (((((q1 + (-7046029254386353131 : Int64)) + (-7046029254386353131 : Int64)) + (-7046029254386353131 : Int64)) + (-7046029254386353131 : Int64)) + (-7046029254386353131 : Int64)))) 3 (own_mix (((((((q1 + (-7046029254386353131 : Int64)) + (-7046029254386353131 : Int64)) + (-7046029254386353131 : Int64)) + (-7046029254386353131 : Int64)) + (-7046029254386353131 : Int64)) + (-7046029254386353131 : Int64)) + (-7046029254386353131 : Int64)))) 1) ((own_upd (own_upd (own_upd (own_upd (fun _ => 0) 0 ((own_mix ((q1 + (-7046029254386353131 : Int64)) + (-7046029254386353131 : Int64))) ||| (1 : Int64))) 1 ((own_mix ((((q1 + (-7046029254386353131 : Int64)) + (-7046029254386353131 : Int64)) + (-7046029254386353131 : Int64)) + (-7046029254386353131 : Int64))) ||| (1 : Int64))) 2 ((own_mix ((((((q1 + (-7046029254386353131 : Int64)) + (-7046029254386353131 : Int64)) + (-7046029254386353131 : Int64)) + (-7046029254386353131 : Int64)) + (-7046029254386353131 : Int64)) + (-7046029254386353131 : Int64))) ||| (1 : Int64))) 3 ((own_mix ((((((((q1 + (-7046029254386353131 : Int64)) + (-7046029254386353131 : Int64)) + (-7046029254386353131 : Int64)) + (-7046029254386353131 : Int64)) + (-7046029254386353131 : Int64)) + (-7046029254386353131 : Int64)) + (-7046029254386353131 : Int64)) + (-7046029254386353131 : Int64))) ||| (1 : Int64))) 1) (own_ushrL (-1 : Int64) ((64 : Int32) - bits)) ((bits + (1 : Int32)) / (2 : Int32))) ((own_upd (own_upd (own_upd (own_upd (fun _ => 0) 0 (own_mix (q1 + (-7046029254386353131 : Int64)))) 1 (own_mix (((q1 + (-7046029254386353131 : Int64)) + (-7046029254386353131 : Int64)) + (-7046029254386353131 : Int64)))) 2 (own_mix (((((q1 + (-7046029254386353131 : Int64)) + (-7046029254386353131 : Int64)) + (-7046029254386353131 : Int64)) + (-7046029254386353131 : Int64)) + (-7046029254386353131 : Int64)))) 3 (own_mix (((((((q1 + (-7046029254386353131 : Int64)) + (-7046029254386353131 : Int64)) + (-7046029254386353131 : Int64)) + (-7046029254386353131 : Int64)) + (-7046029254386353131 : Int64)) + (-7046029254386353131 : Int64)) + (-7046029254386353131 : Int64)))) 2) ((own_upd (own_upd (own_upd (own_upd (fun _ => 0) 0 ((own_mix ((q1 + (-7046029254386353131 : Int64)) + (-7046029254386353131 : Int64))) ||| (1 : Int64))) 1 ((own_mix ((((q1 + (-7046029254386353131 : Int64)) + (-7046029254386353131 : Int64)) + (-7046029254386353131 : Int64)) + (-7046029254386353131 : Int64))) ||| (1 : Int64))) 2 ((own_mix ((((((q1 + (-7046029254386353131 : Int64)) + (-7046029254386353131 : Int64)) + (-7046029254386353131 : Int64)) + (-7046029254386353131 : Int64)) + (-7046029254386353131 : Int64)) + (-7046029254386353131 : Int64))) ||| (1 : Int64))) 3 ((own_mix ((((((((q1 + (-7046029254386353131 : Int64)) + (-7046029254386353131 : Int64)) + (-7046029254386353131 : Int64)) + (-7046029254386353131 : Int64)) + (-7046029254386353131 : Int64)) + (-7046029254386353131 : Int64)) + (-7046029254386353131 : Int64)) + (-7046029254386353131 : Int64))) ||| (1 : Int64))) 2) (own_ushrL (-1 : Int64) ((64 : Int32) - bits)) ((bits + (1 : Int32)) / (2 : Int32))) ((own_upd (own_upd (own_upd (own_upd (fun _ => 0) 0 (own_mix (q1 + (-7046029254386353131 : Int64)))) 1 (own_mix (((q1 + (-7046029254386353131 : Int64)) + (-7046029254386353131 : Int64)) + (-7046029254386353131 : Int64)))) 2 (own_mix (((((q1 + (-7046029254386353131 : Int64)) + (-7046029254386353131 : Int64)) + (-7046029254386353131 : Int64)) + (-7046029254386353131 : Int64)) + (-7046029254386353131 : Int64)))) 3 (own_mix (((((((q1 + (-7046029254386353131 : Int64)) + (-7046029254386353131 : Int64)) + (-7046029254386353131 : Int64)) + (-7046029254386353131 : Int64)) + (-7046029254386353131 : Int64)) + (-7046029254386353131 : Int64)) + (-7046029254386353131 : Int64)))) 3) ((own_upd (own_upd (own_upd (own_upd (fun _ => 0) 0 ((own_mix ((q1 + (-7046029254386353131 : Int64)) + (-7046029254386353131 : Int64))) ||| (1 : Int64))) 1 ((own_mix ((((q1 + (-7046029254386353131 : Int64)) + (-7046029254386353131 : Int64)) + (-7046029254386353131 : Int64)) + (-7046029254386353131 : Int64))) ||| (1 : Int64))) 2 ((own_mix ((((((q1 + (-7046029254386353131 : Int64)) + (-7046029254386353131 : Int64)) + (-7046029254386353131 : Int64)) + (-7046029254386353131 : Int64)) + (-7046029254386353131 : Int64)) + (-7046029254386353131 : Int64))) ||| (1 : Int64))) 3 ((own_mix ((((((((q1 + (-7046029254386353131 : Int64)) + (-7046029254386353131 : Int64)) + (-7046029254386353131 : Int64)) + (-7046029254386353131 : Int64)) + (-7046029254386353131 : Int64)) + (-7046029254386353131 : Int64)) + (-7046029254386353131 : Int64)) + (-7046029254386353131 : Int64))) ||| (1 : Int64))) 3) (own_ushrL (-1 : Int64) ((64 : Int32) - bits)) ((bits + (1 : Int32)) / (2 : Int32)))), .second, .unset, .unset]) rfl ?_
    exact kt
  have hout : out = own_step (own_step (own_step (own_step id ka0 km0 mask fold) ka1 km1 mask fold) ka2 km2 mask fold) ka3 km3 mask fold := by rw [h_out, own_masks hbits hmask, ← h_fold, h_ka0, h_ka1, h_ka2, h_ka3, h_km0, h_km1, h_km2, h_km3]; rfl
  refine own_go (S' := T426.setTop (mkF m 166 #[.val (.int p0), .val (.long q1), .second, .val (.long q2), .second, .val (.int bits), .val (.long mask), .second, .val (.int fold), .val (.long id), .second, .val (.ref b303), .val (.ref b326), .val (.long ka0), .second, .val (.long km0), .second, .val (.long ka1), .second, .val (.long km1), .second, .val (.long ka2), .second, .val (.long km2), .second, .val (.long ka3), .second, .val (.long km3), .second, .val (.long out), .second, .val (.long out), .second] [(.int fold), (.long mask), (.long km3), (.long ka3), (.long out)])) (fun target kt => ?_) ?_
  · skip
    show Steps p.tables e below (T426.setTop (mkF m 135 #[.val (.int p0), .val (.long q1), .second, .val (.long q2), .second, .val (.int bits), .val (.long mask), .second, .val (.int fold), .val (.long id), .second, .val (.ref b303), .val (.ref b326), .val (.long ka0), .second, .val (.long km0), .second, .val (.long ka1), .second, .val (.long km1), .second, .val (.long ka2), .second, .val (.long km2), .second, .val (.long ka3), .second, .val (.long km3), .second, .val (.long out), .second, .unset, .unset] [])) _
    refine XS.lload X426.here hx rfl (hb hby at_135) rfl ?_
    show Steps p.tables e below (T426.setTop (mkF m 137 #[.val (.int p0), .val (.long q1), .second, .val (.long q2), .second, .val (.int bits), .val (.long mask), .second, .val (.int fold), .val (.long id), .second, .val (.ref b303), .val (.ref b326), .val (.long ka0), .second, .val (.long km0), .second, .val (.long ka1), .second, .val (.long km1), .second, .val (.long ka2), .second, .val (.long km2), .second, .val (.long ka3), .second, .val (.long km3), .second, .val (.long out), .second, .unset, .unset] [(.long out)])) _
    refine XS.lconst X426.here hx rfl (hb hby at_137) ?_
    show Steps p.tables e below (T426.setTop (mkF m 138 #[.val (.int p0), .val (.long q1), .second, .val (.long q2), .second, .val (.int bits), .val (.long mask), .second, .val (.int fold), .val (.long id), .second, .val (.ref b303), .val (.ref b326), .val (.long ka0), .second, .val (.long km0), .second, .val (.long ka1), .second, .val (.long km1), .second, .val (.long ka2), .second, .val (.long km2), .second, .val (.long ka3), .second, .val (.long km3), .second, .val (.long out), .second, .unset, .unset] [(.long (0 : Int64)), (.long out)])) _
    refine XS.lcmp X426.here hx rfl (hb hby at_138) rfl ?_
    show Steps p.tables e below (T426.setTop (mkF m 139 #[.val (.int p0), .val (.long q1), .second, .val (.long q2), .second, .val (.int bits), .val (.long mask), .second, .val (.int fold), .val (.long id), .second, .val (.ref b303), .val (.ref b326), .val (.long ka0), .second, .val (.long km0), .second, .val (.long ka1), .second, .val (.long km1), .second, .val (.long ka2), .second, .val (.long km2), .second, .val (.long ka3), .second, .val (.long km3), .second, .val (.long out), .second, .unset, .unset] [(.int (lcmpW out (0 : Int64)))])) _
    refine XS.ifNo X426.here hx rfl (hb hby at_139) rfl (show ifCond.holds .lt (lcmpW out (0 : Int64)) = false from Jvm.Free.XT.ll_lt_f (own_out1 ⟨hmask, hfold⟩ hout : ¬ (out < (0 : Int64)))) ?_
    show Steps p.tables e below (T426.setTop (mkF m 142 #[.val (.int p0), .val (.long q1), .second, .val (.long q2), .second, .val (.int bits), .val (.long mask), .second, .val (.int fold), .val (.long id), .second, .val (.ref b303), .val (.ref b326), .val (.long ka0), .second, .val (.long km0), .second, .val (.long ka1), .second, .val (.long km1), .second, .val (.long ka2), .second, .val (.long km2), .second, .val (.long ka3), .second, .val (.long km3), .second, .val (.long out), .second, .unset, .unset] [])) _
    refine XS.lload X426.here hx rfl (hb hby at_142) rfl ?_
    show Steps p.tables e below (T426.setTop (mkF m 144 #[.val (.int p0), .val (.long q1), .second, .val (.long q2), .second, .val (.int bits), .val (.long mask), .second, .val (.int fold), .val (.long id), .second, .val (.ref b303), .val (.ref b326), .val (.long ka0), .second, .val (.long km0), .second, .val (.long ka1), .second, .val (.long km1), .second, .val (.long ka2), .second, .val (.long km2), .second, .val (.long ka3), .second, .val (.long km3), .second, .val (.long out), .second, .unset, .unset] [(.long out)])) _
    refine XS.lload X426.here hx rfl (hb hby at_144) rfl ?_
    show Steps p.tables e below (T426.setTop (mkF m 146 #[.val (.int p0), .val (.long q1), .second, .val (.long q2), .second, .val (.int bits), .val (.long mask), .second, .val (.int fold), .val (.long id), .second, .val (.ref b303), .val (.ref b326), .val (.long ka0), .second, .val (.long km0), .second, .val (.long ka1), .second, .val (.long km1), .second, .val (.long ka2), .second, .val (.long km2), .second, .val (.long ka3), .second, .val (.long km3), .second, .val (.long out), .second, .unset, .unset] [(.long mask), (.long out)])) _
    refine XS.lcmp X426.here hx rfl (hb hby at_146) rfl ?_
    show Steps p.tables e below (T426.setTop (mkF m 147 #[.val (.int p0), .val (.long q1), .second, .val (.long q2), .second, .val (.int bits), .val (.long mask), .second, .val (.int fold), .val (.long id), .second, .val (.ref b303), .val (.ref b326), .val (.long ka0), .second, .val (.long km0), .second, .val (.long ka1), .second, .val (.long km1), .second, .val (.long ka2), .second, .val (.long km2), .second, .val (.long ka3), .second, .val (.long km3), .second, .val (.long out), .second, .unset, .unset] [(.int (lcmpW out mask))])) _
    refine XS.ifYes X426.here hx rfl (pc0 := 147) (pc' := 152) rfl (hb hby at_147) rfl (show ifCond.holds .le (lcmpW out mask) = true from Jvm.Free.XT.ll_le_t (own_out2 ⟨hmask, hfold⟩ hout : ¬ (mask < out))) (by decide) (by decide) ?_
    show Steps p.tables e below (T426.setTop (mkF m 152 #[.val (.int p0), .val (.long q1), .second, .val (.long q2), .second, .val (.int bits), .val (.long mask), .second, .val (.int fold), .val (.long id), .second, .val (.ref b303), .val (.ref b326), .val (.long ka0), .second, .val (.long km0), .second, .val (.long ka1), .second, .val (.long km1), .second, .val (.long ka2), .second, .val (.long km2), .second, .val (.long ka3), .second, .val (.long km3), .second, .val (.long out), .second, .unset, .unset] [])) _
    refine XS.lload X426.here hx rfl (hb hby at_152) rfl ?_
    show Steps p.tables e below (T426.setTop (mkF m 154 #[.val (.int p0), .val (.long q1), .second, .val (.long q2), .second, .val (.int bits), .val (.long mask), .second, .val (.int fold), .val (.long id), .second, .val (.ref b303), .val (.ref b326), .val (.long ka0), .second, .val (.long km0), .second, .val (.long ka1), .second, .val (.long km1), .second, .val (.long ka2), .second, .val (.long km2), .second, .val (.long ka3), .second, .val (.long km3), .second, .val (.long out), .second, .unset, .unset] [(.long out)])) _
    refine XS.lstore X426.here hx rfl (hb hby at_154) rfl (l' := #[.val (.int p0), .val (.long q1), .second, .val (.long q2), .second, .val (.int bits), .val (.long mask), .second, .val (.int fold), .val (.long id), .second, .val (.ref b303), .val (.ref b326), .val (.long ka0), .second, .val (.long km0), .second, .val (.long ka1), .second, .val (.long km1), .second, .val (.long ka2), .second, .val (.long km2), .second, .val (.long ka3), .second, .val (.long km3), .second, .val (.long out), .second, .val (.long out), .second]) rfl ?_
    show Steps p.tables e below (T426.setTop (mkF m 156 #[.val (.int p0), .val (.long q1), .second, .val (.long q2), .second, .val (.int bits), .val (.long mask), .second, .val (.int fold), .val (.long id), .second, .val (.ref b303), .val (.ref b326), .val (.long ka0), .second, .val (.long km0), .second, .val (.long ka1), .second, .val (.long km1), .second, .val (.long ka2), .second, .val (.long km2), .second, .val (.long ka3), .second, .val (.long km3), .second, .val (.long out), .second, .val (.long out), .second] [])) _
    refine XS.lload X426.here hx rfl (hb hby at_156) rfl ?_
    show Steps p.tables e below (T426.setTop (mkF m 158 #[.val (.int p0), .val (.long q1), .second, .val (.long q2), .second, .val (.int bits), .val (.long mask), .second, .val (.int fold), .val (.long id), .second, .val (.ref b303), .val (.ref b326), .val (.long ka0), .second, .val (.long km0), .second, .val (.long ka1), .second, .val (.long km1), .second, .val (.long ka2), .second, .val (.long km2), .second, .val (.long ka3), .second, .val (.long km3), .second, .val (.long out), .second, .val (.long out), .second] [(.long out)])) _
    refine XS.lload X426.here hx rfl (hb hby at_158) rfl ?_
    show Steps p.tables e below (T426.setTop (mkF m 160 #[.val (.int p0), .val (.long q1), .second, .val (.long q2), .second, .val (.int bits), .val (.long mask), .second, .val (.int fold), .val (.long id), .second, .val (.ref b303), .val (.ref b326), .val (.long ka0), .second, .val (.long km0), .second, .val (.long ka1), .second, .val (.long km1), .second, .val (.long ka2), .second, .val (.long km2), .second, .val (.long ka3), .second, .val (.long km3), .second, .val (.long out), .second, .val (.long out), .second] [(.long ka3), (.long out)])) _
    refine XS.lload X426.here hx rfl (hb hby at_160) rfl ?_
    show Steps p.tables e below (T426.setTop (mkF m 162 #[.val (.int p0), .val (.long q1), .second, .val (.long q2), .second, .val (.int bits), .val (.long mask), .second, .val (.int fold), .val (.long id), .second, .val (.ref b303), .val (.ref b326), .val (.long ka0), .second, .val (.long km0), .second, .val (.long ka1), .second, .val (.long km1), .second, .val (.long ka2), .second, .val (.long km2), .second, .val (.long ka3), .second, .val (.long km3), .second, .val (.long out), .second, .val (.long out), .second] [(.long km3), (.long ka3), (.long out)])) _
    refine XS.lload X426.here hx rfl (hb hby at_162) rfl ?_
    show Steps p.tables e below (T426.setTop (mkF m 164 #[.val (.int p0), .val (.long q1), .second, .val (.long q2), .second, .val (.int bits), .val (.long mask), .second, .val (.int fold), .val (.long id), .second, .val (.ref b303), .val (.ref b326), .val (.long ka0), .second, .val (.long km0), .second, .val (.long ka1), .second, .val (.long km1), .second, .val (.long ka2), .second, .val (.long km2), .second, .val (.long ka3), .second, .val (.long km3), .second, .val (.long out), .second, .val (.long out), .second] [(.long mask), (.long km3), (.long ka3), (.long out)])) _
    refine XS.iload X426.here hx rfl (hb hby at_164) rfl ?_
    exact kt
  obtain ⟨_, _, ⟨T427, L427, k427, n427⟩, -, X427, ⟨Lc427, hQ427, l427, y427, z427⟩, st427⟩ := Jvm.LawKit.callS X426 hx (y := (⟨"com/example/graphcrate/graphcrate/generate/VertexRenamingRenamePinLaw", "undo", "(JJJJI)J"⟩ : MethodName)) hown (mvT hZ (hw _ (List.mem_of_getElem? (i := 46) rfl))) (mvT hZ (hw _ (List.mem_of_getElem? (i := 47) rfl))) (mvT hZ (hw _ (List.mem_of_getElem? (i := 48) rfl))) (mvT hZ (hw _ (List.mem_of_getElem? (i := 49) rfl))) (by decide) (backOf (W := 0) (rm7 l Z aZ hw [] out ka3 km3 mask fold T416.heap n0 Z416 ) hZ (hw _ (List.mem_of_getElem? (i := 49) rfl)) (hw _ (List.mem_of_getElem? (i := 48) rfl)) (by decide) (by decide)) (g := (mkF m 166 #[.val (.int p0), .val (.long q1), .second, .val (.long q2), .second, .val (.int bits), .val (.long mask), .second, .val (.int fold), .val (.long id), .second, .val (.ref b303), .val (.ref b326), .val (.long ka0), .second, .val (.long km0), .second, .val (.long ka1), .second, .val (.long km1), .second, .val (.long ka2), .second, .val (.long km2), .second, .val (.long ka3), .second, .val (.long km3), .second, .val (.long out), .second, .val (.long out), .second] [(.int fold), (.long mask), (.long km3), (.long ka3), (.long out)])) rfl (by rw [hml]; rfl) (argsL := [(.long out), (.long ka3), (.long km3), (.long mask), (.int fold)]) (rest := []) (lenOf own_pd5 rfl) rfl (by show 2 * 0 + _ ≤ _; exact Nat.le_of_eq rfl) (hb hby at_166) (fun _ _ => ⟨rfl, e426, (by decide : 5 + 0 ≤ _), (by decide : 14 + 0 ≤ _)⟩)
  dsimp only [Pt.U, Pt.locs, Pt.cells, Pt.slots] at X427 l427 y427 z427 st427 hQ427
  subst l427 y427 z427
  obtain ⟨rfl, N427q, e427⟩ := hQ427
  have N427 := Fr.app N426 N427q
  refine own_go (S' := T427.setTop (mkF m 169 #[.val (.int p0), .val (.long q1), .second, .val (.long q2), .second, .val (.int bits), .val (.long mask), .second, .val (.int fold), .val (.long id), .second, .val (.ref b303), .val (.ref b326), .val (.long ka0), .second, .val (.long km0), .second, .val (.long ka1), .second, .val (.long km1), .second, .val (.long ka2), .second, .val (.long km2), .second, .val (.long ka3), .second, .val (.long km3), .second, .val (.long out), .second, .val (.long out), .second] [(.long (own_undo out ka3 km3 mask fold))])) st427 ?_
  obtain ⟨x3, h_x3⟩ : ∃ z : Int64, z = (own_undo out ka3 km3 mask fold) := ⟨_, rfl⟩
  refine own_go (S' := T427.setTop (mkF m 171 #[.val (.int p0), .val (.long q1), .second, .val (.long q2), .second, .val (.int bits), .val (.long mask), .second, .val (.int fold), .val (.long id), .second, .val (.ref b303), .val (.ref b326), .val (.long ka0), .second, .val (.long km0), .second, .val (.long ka1), .second, .val (.long km1), .second, .val (.long ka2), .second, .val (.long km2), .second, .val (.long ka3), .second, .val (.long km3), .second, .val (.long out), .second, .val (.long x3), .second] [])) (fun target kt => ?_) ?_
  · subst h_x3
    show Steps p.tables e below (T427.setTop (mkF m 169 #[.val (.int p0), .val (.long q1), .second, .val (.long q2), .second, .val (.int bits), .val (.long mask), .second, .val (.int fold), .val (.long id), .second, .val (.ref b303), .val (.ref b326), .val (.long ka0), .second, .val (.long km0), .second, .val (.long ka1), .second, .val (.long km1), .second, .val (.long ka2), .second, .val (.long km2), .second, .val (.long ka3), .second, .val (.long km3), .second, .val (.long out), .second, .val (.long out), .second] [(.long (own_undo out ka3 km3 mask fold))])) _
    refine XS.lstore X427.here hx rfl (hb hby at_169) rfl (l' := #[.val (.int p0), .val (.long q1), .second, .val (.long q2), .second, .val (.int bits), .val (.long mask), .second, .val (.int fold), .val (.long id), .second, .val (.ref b303), .val (.ref b326), .val (.long ka0), .second, .val (.long km0), .second, .val (.long ka1), .second, .val (.long km1), .second, .val (.long ka2), .second, .val (.long km2), .second, .val (.long ka3), .second, .val (.long km3), .second, .val (.long out), .second, .val (.long (own_undo out ka3 km3 mask fold)), .second]) rfl ?_
    exact kt
  refine own_go (S' := T427.setTop (mkF m 181 #[.val (.int p0), .val (.long q1), .second, .val (.long q2), .second, .val (.int bits), .val (.long mask), .second, .val (.int fold), .val (.long id), .second, .val (.ref b303), .val (.ref b326), .val (.long ka0), .second, .val (.long km0), .second, .val (.long ka1), .second, .val (.long km1), .second, .val (.long ka2), .second, .val (.long km2), .second, .val (.long ka3), .second, .val (.long km3), .second, .val (.long out), .second, .val (.long x3), .second] [(.int fold), (.long mask), (.long km2), (.long ka2), (.long x3)])) (fun target kt => ?_) ?_
  · skip
    show Steps p.tables e below (T427.setTop (mkF m 171 #[.val (.int p0), .val (.long q1), .second, .val (.long q2), .second, .val (.int bits), .val (.long mask), .second, .val (.int fold), .val (.long id), .second, .val (.ref b303), .val (.ref b326), .val (.long ka0), .second, .val (.long km0), .second, .val (.long ka1), .second, .val (.long km1), .second, .val (.long ka2), .second, .val (.long km2), .second, .val (.long ka3), .second, .val (.long km3), .second, .val (.long out), .second, .val (.long x3), .second] [])) _
    refine XS.lload X427.here hx rfl (hb hby at_171) rfl ?_
    show Steps p.tables e below (T427.setTop (mkF m 173 #[.val (.int p0), .val (.long q1), .second, .val (.long q2), .second, .val (.int bits), .val (.long mask), .second, .val (.int fold), .val (.long id), .second, .val (.ref b303), .val (.ref b326), .val (.long ka0), .second, .val (.long km0), .second, .val (.long ka1), .second, .val (.long km1), .second, .val (.long ka2), .second, .val (.long km2), .second, .val (.long ka3), .second, .val (.long km3), .second, .val (.long out), .second, .val (.long x3), .second] [(.long x3)])) _
    refine XS.lload X427.here hx rfl (hb hby at_173) rfl ?_
    show Steps p.tables e below (T427.setTop (mkF m 175 #[.val (.int p0), .val (.long q1), .second, .val (.long q2), .second, .val (.int bits), .val (.long mask), .second, .val (.int fold), .val (.long id), .second, .val (.ref b303), .val (.ref b326), .val (.long ka0), .second, .val (.long km0), .second, .val (.long ka1), .second, .val (.long km1), .second, .val (.long ka2), .second, .val (.long km2), .second, .val (.long ka3), .second, .val (.long km3), .second, .val (.long out), .second, .val (.long x3), .second] [(.long ka2), (.long x3)])) _
    refine XS.lload X427.here hx rfl (hb hby at_175) rfl ?_
    show Steps p.tables e below (T427.setTop (mkF m 177 #[.val (.int p0), .val (.long q1), .second, .val (.long q2), .second, .val (.int bits), .val (.long mask), .second, .val (.int fold), .val (.long id), .second, .val (.ref b303), .val (.ref b326), .val (.long ka0), .second, .val (.long km0), .second, .val (.long ka1), .second, .val (.long km1), .second, .val (.long ka2), .second, .val (.long km2), .second, .val (.long ka3), .second, .val (.long km3), .second, .val (.long out), .second, .val (.long x3), .second] [(.long km2), (.long ka2), (.long x3)])) _
    refine XS.lload X427.here hx rfl (hb hby at_177) rfl ?_
    show Steps p.tables e below (T427.setTop (mkF m 179 #[.val (.int p0), .val (.long q1), .second, .val (.long q2), .second, .val (.int bits), .val (.long mask), .second, .val (.int fold), .val (.long id), .second, .val (.ref b303), .val (.ref b326), .val (.long ka0), .second, .val (.long km0), .second, .val (.long ka1), .second, .val (.long km1), .second, .val (.long ka2), .second, .val (.long km2), .second, .val (.long ka3), .second, .val (.long km3), .second, .val (.long out), .second, .val (.long x3), .second] [(.long mask), (.long km2), (.long ka2), (.long x3)])) _
    refine XS.iload X427.here hx rfl (hb hby at_179) rfl ?_
    exact kt
  obtain ⟨_, _, ⟨T428, L428, k428, n428⟩, -, X428, ⟨Lc428, hQ428, l428, y428, z428⟩, st428⟩ := Jvm.LawKit.callS X427 hx (y := (⟨"com/example/graphcrate/graphcrate/generate/VertexRenamingRenamePinLaw", "undo", "(JJJJI)J"⟩ : MethodName)) hown (mvT hZ (hw _ (List.mem_of_getElem? (i := 46) rfl))) (mvT hZ (hw _ (List.mem_of_getElem? (i := 47) rfl))) (mvT hZ (hw _ (List.mem_of_getElem? (i := 48) rfl))) (mvT hZ (hw _ (List.mem_of_getElem? (i := 49) rfl))) (by decide) (backOf (W := 0) (rm7 l Z aZ hw [] x3 ka2 km2 mask fold T416.heap n0 Z416 ) hZ (hw _ (List.mem_of_getElem? (i := 49) rfl)) (hw _ (List.mem_of_getElem? (i := 48) rfl)) (by decide) (by decide)) (g := (mkF m 181 #[.val (.int p0), .val (.long q1), .second, .val (.long q2), .second, .val (.int bits), .val (.long mask), .second, .val (.int fold), .val (.long id), .second, .val (.ref b303), .val (.ref b326), .val (.long ka0), .second, .val (.long km0), .second, .val (.long ka1), .second, .val (.long km1), .second, .val (.long ka2), .second, .val (.long km2), .second, .val (.long ka3), .second, .val (.long km3), .second, .val (.long out), .second, .val (.long x3), .second] [(.int fold), (.long mask), (.long km2), (.long ka2), (.long x3)])) rfl (by rw [hml]; rfl) (argsL := [(.long x3), (.long ka2), (.long km2), (.long mask), (.int fold)]) (rest := []) (lenOf own_pd5 rfl) rfl (by show 2 * 0 + _ ≤ _; exact Nat.le_of_eq rfl) (hb hby at_181) (fun _ _ => ⟨rfl, e427, (by decide : 5 + 0 ≤ _), (by decide : 14 + 0 ≤ _)⟩)
  dsimp only [Pt.U, Pt.locs, Pt.cells, Pt.slots] at X428 l428 y428 z428 st428 hQ428
  subst l428 y428 z428
  obtain ⟨rfl, N428q, e428⟩ := hQ428
  have N428 := Fr.app N427 N428q
  refine own_go (S' := T428.setTop (mkF m 184 #[.val (.int p0), .val (.long q1), .second, .val (.long q2), .second, .val (.int bits), .val (.long mask), .second, .val (.int fold), .val (.long id), .second, .val (.ref b303), .val (.ref b326), .val (.long ka0), .second, .val (.long km0), .second, .val (.long ka1), .second, .val (.long km1), .second, .val (.long ka2), .second, .val (.long km2), .second, .val (.long ka3), .second, .val (.long km3), .second, .val (.long out), .second, .val (.long x3), .second] [(.long (own_undo x3 ka2 km2 mask fold))])) st428 ?_
  obtain ⟨x2, h_x2⟩ : ∃ z : Int64, z = (own_undo x3 ka2 km2 mask fold) := ⟨_, rfl⟩
  refine own_go (S' := T428.setTop (mkF m 186 #[.val (.int p0), .val (.long q1), .second, .val (.long q2), .second, .val (.int bits), .val (.long mask), .second, .val (.int fold), .val (.long id), .second, .val (.ref b303), .val (.ref b326), .val (.long ka0), .second, .val (.long km0), .second, .val (.long ka1), .second, .val (.long km1), .second, .val (.long ka2), .second, .val (.long km2), .second, .val (.long ka3), .second, .val (.long km3), .second, .val (.long out), .second, .val (.long x2), .second] [])) (fun target kt => ?_) ?_
  · subst h_x2
    show Steps p.tables e below (T428.setTop (mkF m 184 #[.val (.int p0), .val (.long q1), .second, .val (.long q2), .second, .val (.int bits), .val (.long mask), .second, .val (.int fold), .val (.long id), .second, .val (.ref b303), .val (.ref b326), .val (.long ka0), .second, .val (.long km0), .second, .val (.long ka1), .second, .val (.long km1), .second, .val (.long ka2), .second, .val (.long km2), .second, .val (.long ka3), .second, .val (.long km3), .second, .val (.long out), .second, .val (.long x3), .second] [(.long (own_undo x3 ka2 km2 mask fold))])) _
    refine XS.lstore X428.here hx rfl (hb hby at_184) rfl (l' := #[.val (.int p0), .val (.long q1), .second, .val (.long q2), .second, .val (.int bits), .val (.long mask), .second, .val (.int fold), .val (.long id), .second, .val (.ref b303), .val (.ref b326), .val (.long ka0), .second, .val (.long km0), .second, .val (.long ka1), .second, .val (.long km1), .second, .val (.long ka2), .second, .val (.long km2), .second, .val (.long ka3), .second, .val (.long km3), .second, .val (.long out), .second, .val (.long (own_undo x3 ka2 km2 mask fold)), .second]) rfl ?_
    exact kt
  refine own_go (S' := T428.setTop (mkF m 196 #[.val (.int p0), .val (.long q1), .second, .val (.long q2), .second, .val (.int bits), .val (.long mask), .second, .val (.int fold), .val (.long id), .second, .val (.ref b303), .val (.ref b326), .val (.long ka0), .second, .val (.long km0), .second, .val (.long ka1), .second, .val (.long km1), .second, .val (.long ka2), .second, .val (.long km2), .second, .val (.long ka3), .second, .val (.long km3), .second, .val (.long out), .second, .val (.long x2), .second] [(.int fold), (.long mask), (.long km1), (.long ka1), (.long x2)])) (fun target kt => ?_) ?_
  · skip
    show Steps p.tables e below (T428.setTop (mkF m 186 #[.val (.int p0), .val (.long q1), .second, .val (.long q2), .second, .val (.int bits), .val (.long mask), .second, .val (.int fold), .val (.long id), .second, .val (.ref b303), .val (.ref b326), .val (.long ka0), .second, .val (.long km0), .second, .val (.long ka1), .second, .val (.long km1), .second, .val (.long ka2), .second, .val (.long km2), .second, .val (.long ka3), .second, .val (.long km3), .second, .val (.long out), .second, .val (.long x2), .second] [])) _
    refine XS.lload X428.here hx rfl (hb hby at_186) rfl ?_
    show Steps p.tables e below (T428.setTop (mkF m 188 #[.val (.int p0), .val (.long q1), .second, .val (.long q2), .second, .val (.int bits), .val (.long mask), .second, .val (.int fold), .val (.long id), .second, .val (.ref b303), .val (.ref b326), .val (.long ka0), .second, .val (.long km0), .second, .val (.long ka1), .second, .val (.long km1), .second, .val (.long ka2), .second, .val (.long km2), .second, .val (.long ka3), .second, .val (.long km3), .second, .val (.long out), .second, .val (.long x2), .second] [(.long x2)])) _
    refine XS.lload X428.here hx rfl (hb hby at_188) rfl ?_
    show Steps p.tables e below (T428.setTop (mkF m 190 #[.val (.int p0), .val (.long q1), .second, .val (.long q2), .second, .val (.int bits), .val (.long mask), .second, .val (.int fold), .val (.long id), .second, .val (.ref b303), .val (.ref b326), .val (.long ka0), .second, .val (.long km0), .second, .val (.long ka1), .second, .val (.long km1), .second, .val (.long ka2), .second, .val (.long km2), .second, .val (.long ka3), .second, .val (.long km3), .second, .val (.long out), .second, .val (.long x2), .second] [(.long ka1), (.long x2)])) _
    refine XS.lload X428.here hx rfl (hb hby at_190) rfl ?_
    show Steps p.tables e below (T428.setTop (mkF m 192 #[.val (.int p0), .val (.long q1), .second, .val (.long q2), .second, .val (.int bits), .val (.long mask), .second, .val (.int fold), .val (.long id), .second, .val (.ref b303), .val (.ref b326), .val (.long ka0), .second, .val (.long km0), .second, .val (.long ka1), .second, .val (.long km1), .second, .val (.long ka2), .second, .val (.long km2), .second, .val (.long ka3), .second, .val (.long km3), .second, .val (.long out), .second, .val (.long x2), .second] [(.long km1), (.long ka1), (.long x2)])) _
    refine XS.lload X428.here hx rfl (hb hby at_192) rfl ?_
    show Steps p.tables e below (T428.setTop (mkF m 194 #[.val (.int p0), .val (.long q1), .second, .val (.long q2), .second, .val (.int bits), .val (.long mask), .second, .val (.int fold), .val (.long id), .second, .val (.ref b303), .val (.ref b326), .val (.long ka0), .second, .val (.long km0), .second, .val (.long ka1), .second, .val (.long km1), .second, .val (.long ka2), .second, .val (.long km2), .second, .val (.long ka3), .second, .val (.long km3), .second, .val (.long out), .second, .val (.long x2), .second] [(.long mask), (.long km1), (.long ka1), (.long x2)])) _
    refine XS.iload X428.here hx rfl (hb hby at_194) rfl ?_
    exact kt
  obtain ⟨_, _, ⟨T429, L429, k429, n429⟩, -, X429, ⟨Lc429, hQ429, l429, y429, z429⟩, st429⟩ := Jvm.LawKit.callS X428 hx (y := (⟨"com/example/graphcrate/graphcrate/generate/VertexRenamingRenamePinLaw", "undo", "(JJJJI)J"⟩ : MethodName)) hown (mvT hZ (hw _ (List.mem_of_getElem? (i := 46) rfl))) (mvT hZ (hw _ (List.mem_of_getElem? (i := 47) rfl))) (mvT hZ (hw _ (List.mem_of_getElem? (i := 48) rfl))) (mvT hZ (hw _ (List.mem_of_getElem? (i := 49) rfl))) (by decide) (backOf (W := 0) (rm7 l Z aZ hw [] x2 ka1 km1 mask fold T416.heap n0 Z416 ) hZ (hw _ (List.mem_of_getElem? (i := 49) rfl)) (hw _ (List.mem_of_getElem? (i := 48) rfl)) (by decide) (by decide)) (g := (mkF m 196 #[.val (.int p0), .val (.long q1), .second, .val (.long q2), .second, .val (.int bits), .val (.long mask), .second, .val (.int fold), .val (.long id), .second, .val (.ref b303), .val (.ref b326), .val (.long ka0), .second, .val (.long km0), .second, .val (.long ka1), .second, .val (.long km1), .second, .val (.long ka2), .second, .val (.long km2), .second, .val (.long ka3), .second, .val (.long km3), .second, .val (.long out), .second, .val (.long x2), .second] [(.int fold), (.long mask), (.long km1), (.long ka1), (.long x2)])) rfl (by rw [hml]; rfl) (argsL := [(.long x2), (.long ka1), (.long km1), (.long mask), (.int fold)]) (rest := []) (lenOf own_pd5 rfl) rfl (by show 2 * 0 + _ ≤ _; exact Nat.le_of_eq rfl) (hb hby at_196) (fun _ _ => ⟨rfl, e428, (by decide : 5 + 0 ≤ _), (by decide : 14 + 0 ≤ _)⟩)
  dsimp only [Pt.U, Pt.locs, Pt.cells, Pt.slots] at X429 l429 y429 z429 st429 hQ429
  subst l429 y429 z429
  obtain ⟨rfl, N429q, e429⟩ := hQ429
  have N429 := Fr.app N428 N429q
  refine own_go (S' := T429.setTop (mkF m 199 #[.val (.int p0), .val (.long q1), .second, .val (.long q2), .second, .val (.int bits), .val (.long mask), .second, .val (.int fold), .val (.long id), .second, .val (.ref b303), .val (.ref b326), .val (.long ka0), .second, .val (.long km0), .second, .val (.long ka1), .second, .val (.long km1), .second, .val (.long ka2), .second, .val (.long km2), .second, .val (.long ka3), .second, .val (.long km3), .second, .val (.long out), .second, .val (.long x2), .second] [(.long (own_undo x2 ka1 km1 mask fold))])) st429 ?_
  obtain ⟨x1, h_x1⟩ : ∃ z : Int64, z = (own_undo x2 ka1 km1 mask fold) := ⟨_, rfl⟩
  refine own_go (S' := T429.setTop (mkF m 201 #[.val (.int p0), .val (.long q1), .second, .val (.long q2), .second, .val (.int bits), .val (.long mask), .second, .val (.int fold), .val (.long id), .second, .val (.ref b303), .val (.ref b326), .val (.long ka0), .second, .val (.long km0), .second, .val (.long ka1), .second, .val (.long km1), .second, .val (.long ka2), .second, .val (.long km2), .second, .val (.long ka3), .second, .val (.long km3), .second, .val (.long out), .second, .val (.long x1), .second] [])) (fun target kt => ?_) ?_
  · subst h_x1
    show Steps p.tables e below (T429.setTop (mkF m 199 #[.val (.int p0), .val (.long q1), .second, .val (.long q2), .second, .val (.int bits), .val (.long mask), .second, .val (.int fold), .val (.long id), .second, .val (.ref b303), .val (.ref b326), .val (.long ka0), .second, .val (.long km0), .second, .val (.long ka1), .second, .val (.long km1), .second, .val (.long ka2), .second, .val (.long km2), .second, .val (.long ka3), .second, .val (.long km3), .second, .val (.long out), .second, .val (.long x2), .second] [(.long (own_undo x2 ka1 km1 mask fold))])) _
    refine XS.lstore X429.here hx rfl (hb hby at_199) rfl (l' := #[.val (.int p0), .val (.long q1), .second, .val (.long q2), .second, .val (.int bits), .val (.long mask), .second, .val (.int fold), .val (.long id), .second, .val (.ref b303), .val (.ref b326), .val (.long ka0), .second, .val (.long km0), .second, .val (.long ka1), .second, .val (.long km1), .second, .val (.long ka2), .second, .val (.long km2), .second, .val (.long ka3), .second, .val (.long km3), .second, .val (.long out), .second, .val (.long (own_undo x2 ka1 km1 mask fold)), .second]) rfl ?_
    exact kt
  refine own_go (S' := T429.setTop (mkF m 211 #[.val (.int p0), .val (.long q1), .second, .val (.long q2), .second, .val (.int bits), .val (.long mask), .second, .val (.int fold), .val (.long id), .second, .val (.ref b303), .val (.ref b326), .val (.long ka0), .second, .val (.long km0), .second, .val (.long ka1), .second, .val (.long km1), .second, .val (.long ka2), .second, .val (.long km2), .second, .val (.long ka3), .second, .val (.long km3), .second, .val (.long out), .second, .val (.long x1), .second] [(.int fold), (.long mask), (.long km0), (.long ka0), (.long x1)])) (fun target kt => ?_) ?_
  · skip
    show Steps p.tables e below (T429.setTop (mkF m 201 #[.val (.int p0), .val (.long q1), .second, .val (.long q2), .second, .val (.int bits), .val (.long mask), .second, .val (.int fold), .val (.long id), .second, .val (.ref b303), .val (.ref b326), .val (.long ka0), .second, .val (.long km0), .second, .val (.long ka1), .second, .val (.long km1), .second, .val (.long ka2), .second, .val (.long km2), .second, .val (.long ka3), .second, .val (.long km3), .second, .val (.long out), .second, .val (.long x1), .second] [])) _
    refine XS.lload X429.here hx rfl (hb hby at_201) rfl ?_
    show Steps p.tables e below (T429.setTop (mkF m 203 #[.val (.int p0), .val (.long q1), .second, .val (.long q2), .second, .val (.int bits), .val (.long mask), .second, .val (.int fold), .val (.long id), .second, .val (.ref b303), .val (.ref b326), .val (.long ka0), .second, .val (.long km0), .second, .val (.long ka1), .second, .val (.long km1), .second, .val (.long ka2), .second, .val (.long km2), .second, .val (.long ka3), .second, .val (.long km3), .second, .val (.long out), .second, .val (.long x1), .second] [(.long x1)])) _
    refine XS.lload X429.here hx rfl (hb hby at_203) rfl ?_
    show Steps p.tables e below (T429.setTop (mkF m 205 #[.val (.int p0), .val (.long q1), .second, .val (.long q2), .second, .val (.int bits), .val (.long mask), .second, .val (.int fold), .val (.long id), .second, .val (.ref b303), .val (.ref b326), .val (.long ka0), .second, .val (.long km0), .second, .val (.long ka1), .second, .val (.long km1), .second, .val (.long ka2), .second, .val (.long km2), .second, .val (.long ka3), .second, .val (.long km3), .second, .val (.long out), .second, .val (.long x1), .second] [(.long ka0), (.long x1)])) _
    refine XS.lload X429.here hx rfl (hb hby at_205) rfl ?_
    show Steps p.tables e below (T429.setTop (mkF m 207 #[.val (.int p0), .val (.long q1), .second, .val (.long q2), .second, .val (.int bits), .val (.long mask), .second, .val (.int fold), .val (.long id), .second, .val (.ref b303), .val (.ref b326), .val (.long ka0), .second, .val (.long km0), .second, .val (.long ka1), .second, .val (.long km1), .second, .val (.long ka2), .second, .val (.long km2), .second, .val (.long ka3), .second, .val (.long km3), .second, .val (.long out), .second, .val (.long x1), .second] [(.long km0), (.long ka0), (.long x1)])) _
    refine XS.lload X429.here hx rfl (hb hby at_207) rfl ?_
    show Steps p.tables e below (T429.setTop (mkF m 209 #[.val (.int p0), .val (.long q1), .second, .val (.long q2), .second, .val (.int bits), .val (.long mask), .second, .val (.int fold), .val (.long id), .second, .val (.ref b303), .val (.ref b326), .val (.long ka0), .second, .val (.long km0), .second, .val (.long ka1), .second, .val (.long km1), .second, .val (.long ka2), .second, .val (.long km2), .second, .val (.long ka3), .second, .val (.long km3), .second, .val (.long out), .second, .val (.long x1), .second] [(.long mask), (.long km0), (.long ka0), (.long x1)])) _
    refine XS.iload X429.here hx rfl (hb hby at_209) rfl ?_
    exact kt
  obtain ⟨_, _, ⟨T430, L430, k430, n430⟩, -, X430, ⟨Lc430, hQ430, l430, y430, z430⟩, st430⟩ := Jvm.LawKit.callS X429 hx (y := (⟨"com/example/graphcrate/graphcrate/generate/VertexRenamingRenamePinLaw", "undo", "(JJJJI)J"⟩ : MethodName)) hown (mvT hZ (hw _ (List.mem_of_getElem? (i := 46) rfl))) (mvT hZ (hw _ (List.mem_of_getElem? (i := 47) rfl))) (mvT hZ (hw _ (List.mem_of_getElem? (i := 48) rfl))) (mvT hZ (hw _ (List.mem_of_getElem? (i := 49) rfl))) (by decide) (backOf (W := 0) (rm7 l Z aZ hw [] x1 ka0 km0 mask fold T416.heap n0 Z416 ) hZ (hw _ (List.mem_of_getElem? (i := 49) rfl)) (hw _ (List.mem_of_getElem? (i := 48) rfl)) (by decide) (by decide)) (g := (mkF m 211 #[.val (.int p0), .val (.long q1), .second, .val (.long q2), .second, .val (.int bits), .val (.long mask), .second, .val (.int fold), .val (.long id), .second, .val (.ref b303), .val (.ref b326), .val (.long ka0), .second, .val (.long km0), .second, .val (.long ka1), .second, .val (.long km1), .second, .val (.long ka2), .second, .val (.long km2), .second, .val (.long ka3), .second, .val (.long km3), .second, .val (.long out), .second, .val (.long x1), .second] [(.int fold), (.long mask), (.long km0), (.long ka0), (.long x1)])) rfl (by rw [hml]; rfl) (argsL := [(.long x1), (.long ka0), (.long km0), (.long mask), (.int fold)]) (rest := []) (lenOf own_pd5 rfl) rfl (by show 2 * 0 + _ ≤ _; exact Nat.le_of_eq rfl) (hb hby at_211) (fun _ _ => ⟨rfl, e429, (by decide : 5 + 0 ≤ _), (by decide : 14 + 0 ≤ _)⟩)
  dsimp only [Pt.U, Pt.locs, Pt.cells, Pt.slots] at X430 l430 y430 z430 st430 hQ430
  subst l430 y430 z430
  obtain ⟨rfl, N430q, e430⟩ := hQ430
  have N430 := Fr.app N429 N430q
  refine own_go (S' := T430.setTop (mkF m 214 #[.val (.int p0), .val (.long q1), .second, .val (.long q2), .second, .val (.int bits), .val (.long mask), .second, .val (.int fold), .val (.long id), .second, .val (.ref b303), .val (.ref b326), .val (.long ka0), .second, .val (.long km0), .second, .val (.long ka1), .second, .val (.long km1), .second, .val (.long ka2), .second, .val (.long km2), .second, .val (.long ka3), .second, .val (.long km3), .second, .val (.long out), .second, .val (.long x1), .second] [(.long (own_undo x1 ka0 km0 mask fold))])) st430 ?_
  obtain ⟨x0, h_x0⟩ : ∃ z : Int64, z = (own_undo x1 ka0 km0 mask fold) := ⟨_, rfl⟩
  refine own_go (S' := T430.setTop (mkF m 216 #[.val (.int p0), .val (.long q1), .second, .val (.long q2), .second, .val (.int bits), .val (.long mask), .second, .val (.int fold), .val (.long id), .second, .val (.ref b303), .val (.ref b326), .val (.long ka0), .second, .val (.long km0), .second, .val (.long ka1), .second, .val (.long km1), .second, .val (.long ka2), .second, .val (.long km2), .second, .val (.long ka3), .second, .val (.long km3), .second, .val (.long out), .second, .val (.long x0), .second] [])) (fun target kt => ?_) ?_
  · subst h_x0
    show Steps p.tables e below (T430.setTop (mkF m 214 #[.val (.int p0), .val (.long q1), .second, .val (.long q2), .second, .val (.int bits), .val (.long mask), .second, .val (.int fold), .val (.long id), .second, .val (.ref b303), .val (.ref b326), .val (.long ka0), .second, .val (.long km0), .second, .val (.long ka1), .second, .val (.long km1), .second, .val (.long ka2), .second, .val (.long km2), .second, .val (.long ka3), .second, .val (.long km3), .second, .val (.long out), .second, .val (.long x1), .second] [(.long (own_undo x1 ka0 km0 mask fold))])) _
    refine XS.lstore X430.here hx rfl (hb hby at_214) rfl (l' := #[.val (.int p0), .val (.long q1), .second, .val (.long q2), .second, .val (.int bits), .val (.long mask), .second, .val (.int fold), .val (.long id), .second, .val (.ref b303), .val (.ref b326), .val (.long ka0), .second, .val (.long km0), .second, .val (.long ka1), .second, .val (.long km1), .second, .val (.long ka2), .second, .val (.long km2), .second, .val (.long ka3), .second, .val (.long km3), .second, .val (.long out), .second, .val (.long (own_undo x1 ka0 km0 mask fold)), .second]) rfl ?_
    exact kt
  refine own_go (S' := T430.setTop (mkF m 229 #[.val (.int p0), .val (.long q1), .second, .val (.long q2), .second, .val (.int bits), .val (.long mask), .second, .val (.int fold), .val (.long id), .second, .val (.ref b303), .val (.ref b326), .val (.long ka0), .second, .val (.long km0), .second, .val (.long ka1), .second, .val (.long km1), .second, .val (.long ka2), .second, .val (.long km2), .second, .val (.long ka3), .second, .val (.long km3), .second, .val (.long out), .second, .val (.long x0), .second] [(.int (1 : Int32))])) (fun target kt => ?_) ?_
  · skip
    show Steps p.tables e below (T430.setTop (mkF m 216 #[.val (.int p0), .val (.long q1), .second, .val (.long q2), .second, .val (.int bits), .val (.long mask), .second, .val (.int fold), .val (.long id), .second, .val (.ref b303), .val (.ref b326), .val (.long ka0), .second, .val (.long km0), .second, .val (.long ka1), .second, .val (.long km1), .second, .val (.long ka2), .second, .val (.long km2), .second, .val (.long ka3), .second, .val (.long km3), .second, .val (.long out), .second, .val (.long x0), .second] [])) _
    refine XS.lload X430.here hx rfl (hb hby at_216) rfl ?_
    show Steps p.tables e below (T430.setTop (mkF m 218 #[.val (.int p0), .val (.long q1), .second, .val (.long q2), .second, .val (.int bits), .val (.long mask), .second, .val (.int fold), .val (.long id), .second, .val (.ref b303), .val (.ref b326), .val (.long ka0), .second, .val (.long km0), .second, .val (.long ka1), .second, .val (.long km1), .second, .val (.long ka2), .second, .val (.long km2), .second, .val (.long ka3), .second, .val (.long km3), .second, .val (.long out), .second, .val (.long x0), .second] [(.long x0)])) _
    refine XS.lload X430.here hx rfl (hb hby at_218) rfl ?_
    show Steps p.tables e below (T430.setTop (mkF m 220 #[.val (.int p0), .val (.long q1), .second, .val (.long q2), .second, .val (.int bits), .val (.long mask), .second, .val (.int fold), .val (.long id), .second, .val (.ref b303), .val (.ref b326), .val (.long ka0), .second, .val (.long km0), .second, .val (.long ka1), .second, .val (.long km1), .second, .val (.long ka2), .second, .val (.long km2), .second, .val (.long ka3), .second, .val (.long km3), .second, .val (.long out), .second, .val (.long x0), .second] [(.long id), (.long x0)])) _
    refine XS.lcmp X430.here hx rfl (hb hby at_220) rfl ?_
    show Steps p.tables e below (T430.setTop (mkF m 221 #[.val (.int p0), .val (.long q1), .second, .val (.long q2), .second, .val (.int bits), .val (.long mask), .second, .val (.int fold), .val (.long id), .second, .val (.ref b303), .val (.ref b326), .val (.long ka0), .second, .val (.long km0), .second, .val (.long ka1), .second, .val (.long km1), .second, .val (.long ka2), .second, .val (.long km2), .second, .val (.long ka3), .second, .val (.long km3), .second, .val (.long out), .second, .val (.long x0), .second] [(.int (lcmpW x0 id))])) _
    refine XS.ifNo X430.here hx rfl (hb hby at_221) rfl (show ifCond.holds .ne (lcmpW x0 id) = false from Jvm.Free.XT.ll_ne_f (own_undone hmask hfold hid hout h_km0 h_km1 h_km2 h_km3 h_x3 h_x2 h_x1 h_x0 : x0 = id)) ?_
    show Steps p.tables e below (T430.setTop (mkF m 224 #[.val (.int p0), .val (.long q1), .second, .val (.long q2), .second, .val (.int bits), .val (.long mask), .second, .val (.int fold), .val (.long id), .second, .val (.ref b303), .val (.ref b326), .val (.long ka0), .second, .val (.long km0), .second, .val (.long ka1), .second, .val (.long km1), .second, .val (.long ka2), .second, .val (.long km2), .second, .val (.long ka3), .second, .val (.long km3), .second, .val (.long out), .second, .val (.long x0), .second] [])) _
    refine XS.iconst X430.here hx rfl (hb hby at_224) ?_
    show Steps p.tables e below (T430.setTop (mkF m 225 #[.val (.int p0), .val (.long q1), .second, .val (.long q2), .second, .val (.int bits), .val (.long mask), .second, .val (.int fold), .val (.long id), .second, .val (.ref b303), .val (.ref b326), .val (.long ka0), .second, .val (.long km0), .second, .val (.long ka1), .second, .val (.long km1), .second, .val (.long ka2), .second, .val (.long km2), .second, .val (.long ka3), .second, .val (.long km3), .second, .val (.long out), .second, .val (.long x0), .second] [(.int (1 : Int32))])) _
    refine XS.goto X430.here hx rfl (pc0 := 225) (pc' := 229) rfl (hb hby at_225) (by decide) (by decide) ?_
    exact kt
  obtain ⟨fs, hr, hrun, hended, hW, hsame⟩ := X430.leave (v := some (.int (1 : Int32))) (fun h => by rw [Bd.returns] at h; cases h)
  refine ⟨_, _, ?_, hrun, hended, _, _, rfl, ?_, ⟨_, rfl⟩, hW, hsame.mono (by decide) (by decide)⟩
  · exact retN X430 hx (t := .boolean) Bd.returns (by simp) (hb hby at_229) hr
  · show Q0 Z p0 q1 q2 h0 n0 _ T430.heap _
    rw [e430]
    exact ⟨rfl, N430⟩
set_option maxRecDepth 65536 in
set_option maxHeartbeats 40000000 in
theorem comes_1 {Post : Tables → Env → Array Value → State → Outcome → State → Prop} (hpost : ∀ tb e args s v u, (limb_1_1.after args s (.returned v) u = true ∧ limb_1_2.after args s (.returned v) u = true) → FrameEnd s (.returned v) u (Jvm.fieldLocs frame_1_writes args s ++ Jvm.arrayLocs frame_1_arrays args s ++ Jvm.staticLocs frame_1_statics s) 24 128 → Post tb e args s (.returned v) u) :
    ArmFor flags0 classFile x code maxLocals ret World_1 tables_1 room_1 Calls_1 rest_1 Pre_1 Post := by
  intro l hfl _ _ p e ha hc hk s m args below hf hA hF happ hP
  obtain ⟨hcalls, hrest, hpre⟩ := hP
  obtain ⟨-, -, -, hnamed, -, -, -, hat⟩ := (Spec.applies_iff hf).mp happ
  obtain ⟨hg, hn⟩ := and_e (Cond.before_iff.mp (show (Jvm.Cond.and given_1 narrow_1).before args s = true from hpre))
  obtain ⟨hg1, hg2⟩ := and_e hg
  obtain ⟨hg3, hg4⟩ := and_e hg2
  obtain ⟨hg5, hg6⟩ := and_e hg4
  obtain ⟨w0, w1, w2, rfl⟩ : ∃ w0 w1 w2 : Value, args = #[w0, w1, w2] := by
    have hs : args.size = 3 := by simpa [Cond.value, given_1] using hg1
    obtain ⟨L⟩ := args
    match L, hs with
    | [w0, w1, w2], _ => exact ⟨w0, w1, w2, rfl⟩
  have hw := fun d (hd : d ∈ tables_1) => atoms_spec (ws := Jvm.Cond.code x code maxLocals ret :: tables_1) hat d (List.mem_cons_of_mem _ hd)
  obtain ⟨i0, ei0⟩ := is_v hg3
  obtain rfl : w0 = (.int i0) := Option.some.inj ei0
  obtain ⟨i1, ei1⟩ := isL_v hg5
  obtain rfl : w1 = (.long i1) := Option.some.inj ei1
  obtain ⟨i2, ei2⟩ := isL_v hg6
  obtain rfl : w2 = (.long i2) := Option.some.inj ei2
  obtain ⟨n, o, h1, h2, h3, _, L, rfl, ⟨rfl, N⟩, hq⟩ := rm0 l s _ hw tables_1 i0 i1 i2 s.heap s.heap.size (Nat.le_refl _)  p e ha hc hk s m _ below hf ((Spec.applies_iff_loose hf).mp happ).1 ⟨rfl, State.Warmed39.refl s, rfl⟩ trivial
  refine ⟨n, _, h1, h2, h3, hpost _ _ _ _ _ _ ⟨Cond.after_iff.mpr rfl, Cond.after_iff.mpr (eq_i res_at (Term.int_eval (1)) rfl)⟩ ⟨hq.1, hq.2.1, (hq.2.2.sift fun y hy => Or.inr (N y hy)).mono (by decide) (by decide)⟩⟩
theorem main_1_1 : Claimed_1_1 := comes_1 fun _ _ _ _ _ _ h hF => ⟨h.1, hF⟩
theorem main_1_2 : Claimed_1_2 := comes_1 fun _ _ _ _ _ _ h hF => ⟨h.2, hF⟩
end Jvm.Pilot.@@N@@
namespace Jvm.Pilot.@@N@@
open Jvm Jvm.ClassFile Sem Op Lib Jvm.Free Jvm.Stand Jvm.Pilot.@@N@@.Jvm.D
/-! MADE BY PROGRAM (witnessworld.py) out of the Statement's table words and the real class files: 12 classes; the members and pool entries that the words name. The judged class is class 1, her method 1. -/
namespace start1
open Jvm.ClassFile
def u (s : String) : CpInfo := .utf8 (stringToUtf16 s)
/-- a pool by its gaps: so many unusable entries, then the entry; so many at the end -/
def gap : Nat → List CpInfo → List CpInfo
  | 0, r => r
  | n + 1, r => .unusable :: gap n r
def poolList (es : List (Nat × CpInfo)) (last : Nat) : List CpInfo := es.foldr (fun e r => gap e.1 (e.2 :: r)) (gap last [])
def pool (es : List (Nat × CpInfo)) (last : Nat) : Array CpInfo := ⟨poolList es last⟩
def fileOf (pool : Array CpInfo) (this : Nat) (attrs : Array Attribute := #[]) (ms : Array MethodInfo := #[]) (fl : Nat := 33) (sup : Nat := 0) (ifs : Array Nat := #[]) (fds : Array FieldInfo := #[]) : ClassFile where
  minorVersion := 0
  majorVersion := 65
  constantPool := pool
  accessFlags := fl
  thisClass := this
  superClass := sup
  interfaces := ifs
  fields := fds
  methods := ms
  attributes := attrs
def plain (name : String) (sup : Option ClassId) : Class where
  name := name
  kind := .ordinary
  loader := none
  accessFlags := 33
  super := sup
  interfaces := #[]
  cf := none
  fields := #[]
  methods := #[]
  instanceTypes := #[]
  staticTypes := #[]
  resolved := #[]
  callSites := []
  init := .initialized
  statics := none
  mirror := none

def pool0 : Array CpInfo := pool [(5, u "<init>"), (0, u "()V"), (1, .class_ 10), (1, u "java/lang/Object")] 113

def k0c0 : Code := { maxStack := 0, maxLocals := 1, code := object_method_1_code, exceptionTable := #[], attributes := #[] }
def k0m0 : Method := { name := "<init>", desc := "()V", sig := { parameters := [], returnType := none }, accessFlags := 1, code := some k0c0 }
/-- java/lang/Object -/
def k0 : Class := { plain "java/lang/Object" none with
  accessFlags := 33
  interfaces := #[]
  cf := some (fileOf pool0 8 #[] #[{ accessFlags := 1, nameIndex := 5, descriptorIndex := 6, attributes := #[] }] 33 0 #[] #[])
  fields := #[]
  methods := #[k0m0]
  instanceTypes := #[]
  staticTypes := #[]
  resolved := Array.replicate 124 none
  statics := none }

def pool1 : Array CpInfo := pool [(2, .class_ 4), (1, u "java/lang/Object"), (0, u "<init>"), (0, u "()V"), (0, .integer 2147483647), (0, .class_ 9), (0, u "com/example/graphcrate/graphcrate/generate/VertexRenaming"), (0, .class_ 11), (0, u "com/example/graphcrate/graphcrate/generate/SplitMix64"), (0, .methodref 10 13), (0, .nameAndType 5 14), (0, u "(J)V"), (0, .methodref 8 16), (0, .nameAndType 5 17), (0, u "(ILcom/example/graphcrate/graphcrate/generate/SplitMix64;)V"), (0, .methodref 10 19), (0, .nameAndType 20 21), (0, u "nextLong"), (0, u "()J"), (0, .methodref 8 23), (0, .nameAndType 24 25), (0, u "rename"), (0, u "(J)J"), (0, .methodref 27 28), (0, .class_ 29), (0, .nameAndType 30 31), (0, u "com/example/graphcrate/graphcrate/generate/VertexRenamingRenamePinLaw"), (0, u "undo"), (0, u "(JJJJI)J"), (0, .methodref 27 33), (0, .nameAndType 34 25), (0, u "inverse"), (0, .long 2), (3, u "law"), (0, u "(IJJ)Z")] 3

def k1m0 : Method := { name := "<init>", desc := "()V", sig := { parameters := [], returnType := none }, accessFlags := 1, code := none }
def k1c1 : Code := { maxStack := 9, maxLocals := 33, code := code, exceptionTable := #[], attributes := #[] }
def k1m1 : Method := { name := "law", desc := "(IJJ)Z", sig := { parameters := [.int, .long, .long], returnType := some .boolean }, accessFlags := 9, code := some k1c1 }
def k1c2 : Code := { maxStack := 5, maxLocals := 11, code := method_3_code, exceptionTable := #[], attributes := #[] }
def k1m2 : Method := { name := "undo", desc := "(JJJJI)J", sig := { parameters := [.long, .long, .long, .long, .int], returnType := some .long }, accessFlags := 10, code := some k1c2 }
def k1c3 : Code := { maxStack := 8, maxLocals := 4, code := method_4_code, exceptionTable := #[], attributes := #[] }
def k1m3 : Method := { name := "inverse", desc := "(J)J", sig := { parameters := [.long], returnType := some .long }, accessFlags := 10, code := some k1c3 }
/-- com/example/graphcrate/graphcrate/generate/VertexRenamingRenamePinLaw -/
def k1 : Class := { plain "com/example/graphcrate/graphcrate/generate/VertexRenamingRenamePinLaw" (some 0) with
  accessFlags := 49
  interfaces := #[]
  cf := some (fileOf pool1 27 #[] #[{ accessFlags := 1, nameIndex := 5, descriptorIndex := 6, attributes := #[] }, { accessFlags := 9, nameIndex := 39, descriptorIndex := 40, attributes := #[] }, { accessFlags := 10, nameIndex := 30, descriptorIndex := 31, attributes := #[] }, { accessFlags := 10, nameIndex := 34, descriptorIndex := 25, attributes := #[] }] 49 2 #[] #[])
  fields := #[]
  methods := #[k1m0, k1m1, k1m2, k1m3]
  instanceTypes := #[]
  staticTypes := #[]
  resolved := Array.replicate 44 none
  statics := none }

def pool2 : Array CpInfo := pool [(1, .methodref 2 3), (0, .class_ 4), (0, .nameAndType 5 6), (0, u "java/lang/Object"), (0, u "<init>"), (0, u "()V"), (0, .class_ 8), (0, u "com/example/graphcrate/graphcrate/generate/VertexRenaming"), (0, .fieldref 7 10), (0, .nameAndType 11 12), (0, u "addends"), (0, u "[J"), (0, .fieldref 7 14), (0, .nameAndType 15 12), (0, u "multipliers"), (9, .long 18446744073709551615), (1, .fieldref 7 28), (0, .nameAndType 29 30), (0, u "mask"), (0, u "J"), (0, .fieldref 7 32), (0, .nameAndType 33 34), (0, u "fold"), (0, u "I"), (0, .methodref 36 37), (0, .class_ 38), (0, .nameAndType 39 40), (0, u "com/example/graphcrate/graphcrate/generate/SplitMix64"), (0, u "nextLong"), (0, u "()J"), (0, u "ROUNDS"), (2, u "(ILcom/example/graphcrate/graphcrate/generate/SplitMix64;)V"), (3, u "rename"), (0, u "(J)J")] 17

def k2c0 : Code := { maxStack := 6, maxLocals := 4, code := prog_30_method_1_code, exceptionTable := #[], attributes := #[] }
def k2m0 : Method := { name := "<init>", desc := "(ILcom/example/graphcrate/graphcrate/generate/SplitMix64;)V", sig := { parameters := [.int, (.object "com/example/graphcrate/graphcrate/generate/SplitMix64")], returnType := none }, accessFlags := 0, code := some k2c0 }
def k2c1 : Code := { maxStack := 5, maxLocals := 6, code := prog_30_method_2_code, exceptionTable := #[], attributes := #[] }
def k2m1 : Method := { name := "rename", desc := "(J)J", sig := { parameters := [.long], returnType := some .long }, accessFlags := 0, code := some k2c1 }
/-- com/example/graphcrate/graphcrate/generate/VertexRenaming -/
def k2 : Class := { plain "com/example/graphcrate/graphcrate/generate/VertexRenaming" (some 0) with
  accessFlags := 48
  interfaces := #[]
  cf := some (fileOf pool2 7 #[] #[{ accessFlags := 0, nameIndex := 5, descriptorIndex := 44, attributes := #[] }, { accessFlags := 0, nameIndex := 48, descriptorIndex := 49, attributes := #[] }] 48 2 #[] #[{ accessFlags := 26, nameIndex := 41, descriptorIndex := 34, attributes := #[] }, { accessFlags := 18, nameIndex := 29, descriptorIndex := 30, attributes := #[] }, { accessFlags := 18, nameIndex := 33, descriptorIndex := 34, attributes := #[] }, { accessFlags := 18, nameIndex := 11, descriptorIndex := 12, attributes := #[] }, { accessFlags := 18, nameIndex := 15, descriptorIndex := 12, attributes := #[] }])
  fields := #[{ name := "ROUNDS", type := .int, accessFlags := 26, slot := 0, constantValue := 0 }, { name := "mask", type := .long, accessFlags := 18, slot := 0, constantValue := 0 }, { name := "fold", type := .int, accessFlags := 18, slot := 1, constantValue := 0 }, { name := "addends", type := (.array .long), accessFlags := 18, slot := 2, constantValue := 0 }, { name := "multipliers", type := (.array .long), accessFlags := 18, slot := 3, constantValue := 0 }]
  methods := #[k2m0, k2m1]
  instanceTypes := #[.long, .int, (.array .long), (.array .long)]
  staticTypes := #[.int]
  resolved := Array.replicate 67 none
  statics := none }

def pool3 : Array CpInfo := pool [(1, .methodref 2 3), (0, .class_ 4), (0, .nameAndType 5 6), (0, u "java/lang/Object"), (0, u "<init>"), (0, u "()V"), (0, .fieldref 8 9), (0, .class_ 10), (0, .nameAndType 11 12), (0, u "com/example/graphcrate/graphcrate/generate/SplitMix64"), (0, u "counter"), (0, u "J"), (0, .long 11400714819323198485), (1, .methodref 8 16), (0, .nameAndType 17 18), (0, u "mix"), (0, u "(J)J"), (0, .long 13787848793156543929), (1, .long 10723151780598845931), (1, u "STEP"), (1, u "(J)V"), (2, u "nextLong"), (0, u "()J")] 2

def k3c0 : Code := { maxStack := 3, maxLocals := 3, code := prog_29_method_1_code, exceptionTable := #[], attributes := #[] }
def k3m0 : Method := { name := "<init>", desc := "(J)V", sig := { parameters := [.long], returnType := none }, accessFlags := 0, code := some k3c0 }
def k3c1 : Code := { maxStack := 5, maxLocals := 1, code := prog_29_method_2_code, exceptionTable := #[], attributes := #[] }
def k3m1 : Method := { name := "nextLong", desc := "()J", sig := { parameters := [], returnType := some .long }, accessFlags := 0, code := some k3c1 }
def k3c2 : Code := { maxStack := 5, maxLocals := 4, code := prog_29_method_3_code, exceptionTable := #[], attributes := #[] }
def k3m2 : Method := { name := "mix", desc := "(J)J", sig := { parameters := [.long], returnType := some .long }, accessFlags := 9, code := some k3c2 }
/-- com/example/graphcrate/graphcrate/generate/SplitMix64 -/
def k3 : Class := { plain "com/example/graphcrate/graphcrate/generate/SplitMix64" (some 0) with
  accessFlags := 49
  interfaces := #[]
  cf := some (fileOf pool3 8 #[] #[{ accessFlags := 0, nameIndex := 5, descriptorIndex := 25, attributes := #[] }, { accessFlags := 0, nameIndex := 28, descriptorIndex := 29, attributes := #[] }, { accessFlags := 9, nameIndex := 17, descriptorIndex := 18, attributes := #[] }] 49 2 #[] #[{ accessFlags := 26, nameIndex := 23, descriptorIndex := 12, attributes := #[] }, { accessFlags := 2, nameIndex := 11, descriptorIndex := 12, attributes := #[] }])
  fields := #[{ name := "STEP", type := .long, accessFlags := 26, slot := 0, constantValue := 0 }, { name := "counter", type := .long, accessFlags := 2, slot := 0, constantValue := 0 }]
  methods := #[k3m0, k3m1, k3m2]
  instanceTypes := #[.long]
  staticTypes := #[.long]
  resolved := Array.replicate 32 none
  statics := none }

def pool4 : Array CpInfo := pool [(1, u "java/lang/Cloneable"), (0, .class_ 1), (0, u "java/lang/Object"), (0, .class_ 3)] 3

/-- java/lang/Cloneable -/
def k4 : Class := { plain "java/lang/Cloneable" (some 0) with
  accessFlags := 1537
  interfaces := #[]
  cf := some (fileOf pool4 2 #[] #[] 1537 4 #[] #[])
  fields := #[]
  methods := #[]
  instanceTypes := #[]
  staticTypes := #[]
  resolved := Array.replicate 8 none
  statics := none }

def pool5 : Array CpInfo := pool [(1, u "java/io/Serializable"), (0, .class_ 1), (0, u "java/lang/Object"), (0, .class_ 3)] 3

/-- java/io/Serializable -/
def k5 : Class := { plain "java/io/Serializable" (some 0) with
  accessFlags := 1537
  interfaces := #[]
  cf := some (fileOf pool5 2 #[] #[] 1537 4 #[] #[])
  fields := #[]
  methods := #[]
  instanceTypes := #[]
  staticTypes := #[]
  resolved := Array.replicate 8 none
  statics := none }

/-- the primitive byte -/
def k6 : Class := { plain "byte" none with kind := .primitive 'B', accessFlags := 0x411 }
/-- [B -/
def k7 : Class := { plain "[B" (some 0) with kind := .array 6 .byte, interfaces := #[4, 5], accessFlags := 1041 }

/-- the primitive int -/
def k8 : Class := { plain "int" none with kind := .primitive 'I', accessFlags := 0x411 }
/-- [I -/
def k9 : Class := { plain "[I" (some 0) with kind := .array 8 .int, interfaces := #[4, 5], accessFlags := 1041 }

/-- the primitive long -/
def k10 : Class := { plain "long" none with kind := .primitive 'J', accessFlags := 0x411 }
/-- [J -/
def k11 : Class := { plain "[J" (some 0) with kind := .array 10 .long, interfaces := #[4, 5], accessFlags := 1041 }

def heap : Heap := #[]
def classes : Array Class := #[k0, k1, k2, k3, k4, k5, k6, k7, k8, k9, k10, k11]
def interned : List (Array UInt16 × Addr) := []
def slotsUsed : Nat := 0
def theMethod : MethodId := ⟨1, 1⟩
def args0 : Array Value := #[.int 5, .long 7, .long 9]
def aboutOver (below : List Frame) : State where
  vm := { classes := classes, interned := interned.toArray }
  heap := heap
  slotsUsed := slotsUsed
  threads := #[{ frames := .invoking theMethod args0 :: below }]
def below0 : List Frame := [.native { method := ⟨0, 0⟩, args := #[] }]
def about1 : State := aboutOver below0
def p0 : Program := .bare "" "" ""
def e0 : Env := launch0.env 0 0 0
theorem w_frames : about1.frames = Frame.invoking theMethod args0 :: below0 := rfl
set_option maxRecDepth 65536 in
theorem w_args : argsFit about1.vm theMethod args0 = true := by decide +kernel
set_option maxRecDepth 65536 in
theorem w_heap : heapFits about1 = true := by decide +kernel
set_option maxRecDepth 65536 in
theorem w_runnable : about1.curStatus? = some .runnable := by decide +kernel
set_option maxRecDepth 65536 in
theorem w_alone : about1.alone = true := by decide +kernel
set_option maxRecDepth 65536 in
theorem w_named : about1.methodNamed? x = some theMethod := by decide +kernel
set_option maxRecDepth 65536 in
theorem w_hears : about1.hears theMethod below0 = true := by decide +kernel
set_option maxRecDepth 65536 in
theorem w_ripe : about1.ripe theMethod args0 below0 = true := by decide +kernel
theorem w_running : about1.status = .running := rfl
set_option maxRecDepth 65536 in
theorem w_room : about1.hasRoom e0.platform room_1 = true :=
  launch0.hasRoom_least _ room_1 (by decide +kernel) (by decide +kernel) (by decide +kernel) (by decide +kernel) (by decide +kernel) (by decide +kernel)
theorem allAtoms_all (ts : List Jvm.Cond) (a : Array Jvm.Value) (st : Jvm.State) : (allAtoms ts).before a st = ts.all (fun c => c.before a st) := by
  induction ts with
  | nil => rfl
  | cons c t ih =>
    show (Jvm.Cond.and c (allAtoms t)).before a st = _
    rw [Jvm.Cond.before_and, ih, List.all_cons]
def words1 : List Jvm.Cond := Jvm.Cond.code x code maxLocals ret :: tables_1
/-- a 'code' word, met by the world's own term for the bytes: nothing is compared byte by byte -/
theorem code_word {y : MethodName} {bytes : ByteArray} {mx : Nat} {rt : Option FieldType} {a : Array Value} {s : State} {m : MethodId} {meth : Method} {c : Code} (h1 : s.methodNamed? y = some m) (h2 : s.vm.method? m = some meth) (h3 : meth.code = some c) (h4 : c.code = bytes)
    (h5 : (c.maxLocals == mx && c.exceptionTable.isEmpty && decide (c.maxStack ≤ mostOperands) && decide (meth.sig.returnType = rt) && !meth.locks && decide (parseMethodDescriptor y.desc = some meth.sig)) = true) : (Jvm.Cond.code y bytes mx rt).before a s = true := by
  simp only [Bool.and_eq_true, beq_iff_eq, Bool.not_eq_true', decide_eq_true_eq] at h5
  obtain ⟨⟨⟨⟨⟨g1, g2⟩, g3⟩, g4⟩, g5⟩, g6⟩ := h5
  simp [Cond.before, Cond.holds, Cond.value, h1, h2, h3, h4, g1, g2, g3, g4, g5, g6]
def isCode : Jvm.Cond → Bool
  | .code _ _ _ _ => true
  | _ => false
theorem all_split {L : List Jvm.Cond} {P : Jvm.Cond → Bool} (h1 : L.all (fun c => isCode c || P c) = true) (h2 : ∀ c ∈ L.filter isCode, P c = true) : L.all P = true := by
  refine List.all_eq_true.mpr fun c hc => ?_
  have h := List.all_eq_true.mp h1 c hc
  rcases Bool.eq_false_or_eq_true (isCode c) with hi | hi
  · exact h2 c (List.mem_filter.mpr ⟨hc, hi⟩)
  · simpa [hi] using h
set_option maxRecDepth 65536 in
theorem w_c0 : (Jvm.Cond.code x code maxLocals ret).before args0 about1 = true := code_word (m := ⟨1, 1⟩) (meth := k1m1) (c := k1c1) (by decide +kernel) rfl rfl rfl (by decide +kernel)
set_option maxRecDepth 65536 in
theorem w_c1 : (Jvm.Cond.code ({ cls := "com/example/graphcrate/graphcrate/generate/SplitMix64", name := "<init>", desc := "(J)V" } : Jvm.MethodName) prog_29_method_1_code (3 : Nat) (Option.none : Option Jvm.ClassFile.FieldType)).before args0 about1 = true := code_word (m := ⟨3, 0⟩) (meth := k3m0) (c := k3c0) (by decide +kernel) rfl rfl rfl (by decide +kernel)
set_option maxRecDepth 65536 in
theorem w_c2 : (Jvm.Cond.code ({ cls := "java/lang/Object", name := "<init>", desc := "()V" } : Jvm.MethodName) object_method_1_code (1 : Nat) (Option.none : Option Jvm.ClassFile.FieldType)).before args0 about1 = true := code_word (m := ⟨0, 0⟩) (meth := k0m0) (c := k0c0) (by decide +kernel) rfl rfl rfl (by decide +kernel)
set_option maxRecDepth 65536 in
theorem w_c3 : (Jvm.Cond.code ({ cls := "com/example/graphcrate/graphcrate/generate/VertexRenaming", name := "<init>", desc := "(ILcom/example/graphcrate/graphcrate/generate/SplitMix64;)V" } : Jvm.MethodName) prog_30_method_1_code (4 : Nat) (Option.none : Option Jvm.ClassFile.FieldType)).before args0 about1 = true := code_word (m := ⟨2, 0⟩) (meth := k2m0) (c := k2c0) (by decide +kernel) rfl rfl rfl (by decide +kernel)
set_option maxRecDepth 65536 in
theorem w_c4 : (Jvm.Cond.code ({ cls := "com/example/graphcrate/graphcrate/generate/SplitMix64", name := "nextLong", desc := "()J" } : Jvm.MethodName) prog_29_method_2_code (1 : Nat) (Option.some Jvm.ClassFile.FieldType.long)).before args0 about1 = true := code_word (m := ⟨3, 1⟩) (meth := k3m1) (c := k3c1) (by decide +kernel) rfl rfl rfl (by decide +kernel)
set_option maxRecDepth 65536 in
theorem w_c5 : (Jvm.Cond.code ({ cls := "com/example/graphcrate/graphcrate/generate/SplitMix64", name := "mix", desc := "(J)J" } : Jvm.MethodName) prog_29_method_3_code (4 : Nat) (Option.some Jvm.ClassFile.FieldType.long)).before args0 about1 = true := code_word (m := ⟨3, 2⟩) (meth := k3m2) (c := k3c2) (by decide +kernel) rfl rfl rfl (by decide +kernel)
set_option maxRecDepth 65536 in
theorem w_c6 : (Jvm.Cond.code ({ cls := "com/example/graphcrate/graphcrate/generate/VertexRenaming", name := "rename", desc := "(J)J" } : Jvm.MethodName) prog_30_method_2_code (6 : Nat) (Option.some Jvm.ClassFile.FieldType.long)).before args0 about1 = true := code_word (m := ⟨2, 1⟩) (meth := k2m1) (c := k2c1) (by decide +kernel) rfl rfl rfl (by decide +kernel)
set_option maxRecDepth 65536 in
theorem w_c7 : (Jvm.Cond.code ({ cls := "com/example/graphcrate/graphcrate/generate/VertexRenamingRenamePinLaw", name := "undo", desc := "(JJJJI)J" } : Jvm.MethodName) method_3_code (11 : Nat) (Option.some Jvm.ClassFile.FieldType.long)).before args0 about1 = true := code_word (m := ⟨1, 2⟩) (meth := k1m2) (c := k1c2) (by decide +kernel) rfl rfl rfl (by decide +kernel)
set_option maxRecDepth 65536 in
theorem w_c8 : (Jvm.Cond.code ({ cls := "com/example/graphcrate/graphcrate/generate/VertexRenamingRenamePinLaw", name := "inverse", desc := "(J)J" } : Jvm.MethodName) method_4_code (4 : Nat) (Option.some Jvm.ClassFile.FieldType.long)).before args0 about1 = true := code_word (m := ⟨1, 3⟩) (meth := k1m3) (c := k1c3) (by decide +kernel) rfl rfl rfl (by decide +kernel)
def codes1 : List Jvm.Cond := [Jvm.Cond.code x code maxLocals ret, Jvm.Cond.code ({ cls := "com/example/graphcrate/graphcrate/generate/SplitMix64", name := "<init>", desc := "(J)V" } : Jvm.MethodName) prog_29_method_1_code (3 : Nat) (Option.none : Option Jvm.ClassFile.FieldType), Jvm.Cond.code ({ cls := "java/lang/Object", name := "<init>", desc := "()V" } : Jvm.MethodName) object_method_1_code (1 : Nat) (Option.none : Option Jvm.ClassFile.FieldType), Jvm.Cond.code ({ cls := "com/example/graphcrate/graphcrate/generate/VertexRenaming", name := "<init>", desc := "(ILcom/example/graphcrate/graphcrate/generate/SplitMix64;)V" } : Jvm.MethodName) prog_30_method_1_code (4 : Nat) (Option.none : Option Jvm.ClassFile.FieldType), Jvm.Cond.code ({ cls := "com/example/graphcrate/graphcrate/generate/SplitMix64", name := "nextLong", desc := "()J" } : Jvm.MethodName) prog_29_method_2_code (1 : Nat) (Option.some Jvm.ClassFile.FieldType.long), Jvm.Cond.code ({ cls := "com/example/graphcrate/graphcrate/generate/SplitMix64", name := "mix", desc := "(J)J" } : Jvm.MethodName) prog_29_method_3_code (4 : Nat) (Option.some Jvm.ClassFile.FieldType.long), Jvm.Cond.code ({ cls := "com/example/graphcrate/graphcrate/generate/VertexRenaming", name := "rename", desc := "(J)J" } : Jvm.MethodName) prog_30_method_2_code (6 : Nat) (Option.some Jvm.ClassFile.FieldType.long), Jvm.Cond.code ({ cls := "com/example/graphcrate/graphcrate/generate/VertexRenamingRenamePinLaw", name := "undo", desc := "(JJJJI)J" } : Jvm.MethodName) method_3_code (11 : Nat) (Option.some Jvm.ClassFile.FieldType.long), Jvm.Cond.code ({ cls := "com/example/graphcrate/graphcrate/generate/VertexRenamingRenamePinLaw", name := "inverse", desc := "(J)J" } : Jvm.MethodName) method_4_code (4 : Nat) (Option.some Jvm.ClassFile.FieldType.long)]
set_option maxRecDepth 65536 in
theorem codes_eq : words1.filter isCode = codes1 := rfl
theorem w_codes : ∀ c ∈ words1.filter isCode, c.before args0 about1 = true := by
  rw [codes_eq]
  intro c hc
  simp only [codes1, List.mem_cons, List.not_mem_nil, or_false] at hc
  rcases hc with rfl | rfl | rfl | rfl | rfl | rfl | rfl | rfl | rfl
  · exact w_c0
  · exact w_c1
  · exact w_c2
  · exact w_c3
  · exact w_c4
  · exact w_c5
  · exact w_c6
  · exact w_c7
  · exact w_c8
set_option maxRecDepth 65536 in
theorem w_t1 : (words1.take 24).all (fun c => isCode c || c.before args0 about1) = true := by decide +kernel
set_option maxRecDepth 65536 in
theorem w_t2 : ((words1.drop 24).take 24).all (fun c => isCode c || c.before args0 about1) = true := by decide +kernel
set_option maxRecDepth 65536 in
theorem w_t3 : ((words1.drop 24).drop 24).all (fun c => isCode c || c.before args0 about1) = true := by decide +kernel
theorem w_tables : (allAtoms (Jvm.Cond.code x code maxLocals ret :: tables_1)).before args0 about1 = true := by
  rw [allAtoms_all]
  show words1.all (fun c => c.before args0 about1) = true
  refine all_split ?_ w_codes
  rw [← List.take_append_drop 24 words1, List.all_append, w_t1, ← List.take_append_drop 24 (words1.drop 24), List.all_append, w_t2, w_t3]
  rfl
set_option maxRecDepth 65536 in
theorem w_case : (Jvm.Cond.and given_1 narrow_1).before args0 about1 = true := by decide +kernel
theorem w_applies : (headSpec (Jvm.Cond.code x code maxLocals ret :: tables_1) room_1).applies x e0.platform about1 = true :=
  (Spec.applies_iff w_frames).mpr ⟨w_running, w_runnable, w_alone, w_named, w_hears, w_ripe, w_room, w_tables⟩
theorem atStart : AtStart classFile x code maxLocals ret World_1 tables_1 room_1 Calls_1 rest_1 Pre_1 launch0 p0 e0 about1 theMethod args0 below0 :=
  ⟨lists_1, trivial, launch0.admits_env _ _ _, launch0.least_env, fairChoices_fair.cas, fairChoices_fair.clock, w_frames, w_args, w_heap, w_applies, trivial, trivial, w_case⟩
end start1
theorem witness_1 : WitnessClaimed_1 := ⟨start1.p0, start1.e0, start1.about1, start1.theMethod, start1.args0, start1.below0, start1.atStart⟩
end Jvm.Pilot.@@N@@
