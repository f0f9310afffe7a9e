import JvmDerived
import JvmDerived.Pilot.@@N@@Statement
import JvmDerived.Pilot.@@N@@Code
set_option linter.unusedVariables false
set_option linter.unusedSimpArgs false
@@BLOCK:NumsL.lean.txt@@
namespace Jvm.RoadKit
open Sem ClassFile Op Lib Jvm.Stand Jvm.Free Jvm.LawKit
section New
variable {p : Program} {l : Launch} {e : Env} {R : Room} {s : State} {m : MethodId} {args : Array Value} {below : List Frame} {meth : Method} {c : Code} {T : State} {locs : List Loc} {cells slots : Nat}
theorem retI (X : Stand p l e R s m args below meth c T locs cells slots) (hx : p.tables.exec = Jvm.exec) {pc : Nat} {Ls : Array Slot} {z : Int32} {rest : List Value} (hret : meth.sig.returnType = some .int) (hd : decode c.code pc = .ok (.ireturn, 1)) {fs : List Frame}
    (hl : ∀ (f : JFrame) (acts : List Action), f.method = m → f.locked = none → f.entered = [] → (doReturn e (T.setTop f) acts (some (.int z))).1 = T.setFrames fs) : Steps p.tables e below (T.setTop (mkF m pc Ls (.int z :: rest))) (T.setFrames fs) :=
  retOut X hx hret rfl (Or.inl ⟨rfl, Or.inl rfl, _, rfl⟩) hd hl
theorem retL (X : Stand p l e R s m args below meth c T locs cells slots) (hx : p.tables.exec = Jvm.exec) {pc : Nat} {Ls : Array Slot} {z : Int64} {rest : List Value} (hret : meth.sig.returnType = some .long) (hd : decode c.code pc = .ok (.lreturn, 1)) {fs : List Frame}
    (hl : ∀ (f : JFrame) (acts : List Action), f.method = m → f.locked = none → f.entered = [] → (doReturn e (T.setTop f) acts (some (.long z))).1 = T.setFrames fs) : Steps p.tables e below (T.setTop (mkF m pc Ls (.long z :: rest))) (T.setFrames fs) :=
  retOut X hx hret rfl (Or.inr (Or.inl ⟨rfl, rfl, _, rfl⟩)) hd hl
theorem retA (X : Stand p l e R s m args below meth c T locs cells slots) (hx : p.tables.exec = Jvm.exec) {pc : Nat} {Ls : Array Slot} {z : Addr} {t : FieldType} {rest : List Value} (hret : meth.sig.returnType = some t) (ht : t.isReference = true) (hd : decode c.code pc = .ok (.areturn, 1)) {fs : List Frame}
    (hn : narrow t (.ref z) = .ref z) (hl : ∀ (f : JFrame) (acts : List Action), f.method = m → f.locked = none → f.entered = [] → (doReturn e (T.setTop f) acts (some (.ref z))).1 = T.setFrames fs) : Steps p.tables e below (T.setTop (mkF m pc Ls (.ref z :: rest))) (T.setFrames fs) :=
  retOut X hx hret hn (Or.inr (Or.inr (Or.inr (Or.inr ⟨rfl, ht, rfl⟩)))) hd hl
end New
end Jvm.RoadKit
namespace Jvm.Pilot.@@N@@
open Jvm Jvm.ClassFile Sem Op Lib Jvm.Free Jvm.Stand Jvm.LawKit Jvm.RoadKit Bundle Jvm.Pilot.@@N@@.Jvm.D
/-- the walk moves on: what runs from S' runs from S -/
theorem own_go {tb : Tables} {e : Env} {below : List Frame} {S S' : State} {P : State → Outcome → Prop} (h : ∀ t, Steps tb e below S' t → Steps tb e below S t)
    (k : ∃ s₂ o, Steps tb e below S' s₂ ∧ s₂.status = .running ∧ Ended s₂ below o ∧ P s₂ o) : ∃ s₂ o, Steps tb e below S s₂ ∧ s₂.status = .running ∧ Ended s₂ below o ∧ P s₂ o := by
  obtain ⟨s₂, o, h1, h2⟩ := k
  exact ⟨s₂, o, h _ h1, h2⟩
/-- Java's x >>> y on ints and on longs -/
def own_ushr (x y : Int32) : Int32 := (x.toUInt32 >>> (y &&& 31).toUInt32).toInt32
def own_ushrL (x : Int64) (y : Int32) : Int64 := (x.toUInt64 >>> (y &&& 0x3f).toInt64.toUInt64).toInt64
def own_shlL (x : Int64) (y : Int32) : Int64 := x <<< (y &&& 0x3f).toInt64
def own_shrL (x : Int64) (y : Int32) : Int64 := x >>> (y &&& 0x3f).toInt64
def own_shl (x y : Int32) : Int32 := x <<< (y &&& 31)
def own_shr (x y : Int32) : Int32 := x >>> (y &&& 31)
/-- an array by its places: ints (byte, char, short, boolean too), longs -/
def own_AI (Z : State) (h : Heap) (a : Addr) (ty : FieldType) (n : Nat) (g : Nat → Int32) : Prop := ∃ c : Cell, Arr Z h a c ty ∧ c.slots.size = n ∧ n < 2 ^ 31 ∧ ∀ i, i < n → c.slots[i]? = some (.int (g i))
def own_AJ (Z : State) (h : Heap) (a : Addr) (ty : FieldType) (n : Nat) (g : Nat → Int64) : Prop := ∃ c : Cell, Arr Z h a c ty ∧ c.slots.size = n ∧ n < 2 ^ 31 ∧ ∀ i, i < n → c.slots[i]? = some (.long (g i))
def own_AD (Z : State) (h : Heap) (a : Addr) (ty : FieldType) (n : Nat) (g : Nat → UInt64) : Prop := ∃ c : Cell, Arr Z h a c ty ∧ c.slots.size = n ∧ n < 2 ^ 31 ∧ ∀ i, i < n → c.slots[i]? = some (.double (g i))
def own_upd {α : Type} (g : Nat → α) (j : Nat) (v : α) : Nat → α := fun i => if i = j then v else g i
theorem own_upd_same {α : Type} (g : Nat → α) (j : Nat) (v : α) : own_upd g j v j = v := if_pos rfl
theorem own_upd_ne {α : Type} (g : Nat → α) {i j : Nat} (v : α) (h : i ≠ j) : own_upd g j v i = g i := if_neg h
section OwnArrays
variable {Z : State} {h h' : Heap} {a b : Addr} {ty : FieldType} {n sl : Nat} {v : Value} {ws : List Addr}
theorem own_AI.lt {g : Nat → Int32} (F : own_AI Z h a ty n g) : a < h.size := by obtain ⟨c, A, -⟩ := F; exact A.lt
theorem own_AI.ext {g : Nat → Int32} (F : own_AI Z h a ty n g) (E : Ext h h') : own_AI Z h' a ty n g := by obtain ⟨c, A, r⟩ := F; exact ⟨c, A.ext E, r⟩
theorem own_AI.other {g : Nat → Int32} (F : own_AI Z h b ty n g) (W : Wr h h' a sl v) (q : b ≠ a) : own_AI Z h' b ty n g := by obtain ⟨c, A, r⟩ := F; exact ⟨c, A.other W q, r⟩
theorem own_AI.keep {g : Nat → Int32} (F : own_AI Z h a ty n g) (K : Keep h h' ws) (q : a ∉ ws) : own_AI Z h' a ty n g := by obtain ⟨c, A, r⟩ := F; exact ⟨c, ⟨K.2.1 a c A.1 q, A.2⟩, r⟩
theorem own_AJ.lt {g : Nat → Int64} (F : own_AJ Z h a ty n g) : a < h.size := by obtain ⟨c, A, -⟩ := F; exact A.lt
theorem own_AJ.ext {g : Nat → Int64} (F : own_AJ Z h a ty n g) (E : Ext h h') : own_AJ Z h' a ty n g := by obtain ⟨c, A, r⟩ := F; exact ⟨c, A.ext E, r⟩
theorem own_AJ.other {g : Nat → Int64} (F : own_AJ Z h b ty n g) (W : Wr h h' a sl v) (q : b ≠ a) : own_AJ Z h' b ty n g := by obtain ⟨c, A, r⟩ := F; exact ⟨c, A.other W q, r⟩
theorem own_AJ.keep {g : Nat → Int64} (F : own_AJ Z h a ty n g) (K : Keep h h' ws) (q : a ∉ ws) : own_AJ Z h' a ty n g := by obtain ⟨c, A, r⟩ := F; exact ⟨c, ⟨K.2.1 a c A.1 q, A.2⟩, r⟩
theorem own_AD.lt {g : Nat → UInt64} (F : own_AD Z h a ty n g) : a < h.size := by obtain ⟨c, A, -⟩ := F; exact A.lt
theorem own_AD.ext {g : Nat → UInt64} (F : own_AD Z h a ty n g) (E : Ext h h') : own_AD Z h' a ty n g := by obtain ⟨c, A, r⟩ := F; exact ⟨c, A.ext E, r⟩
theorem own_AD.other {g : Nat → UInt64} (F : own_AD Z h b ty n g) (W : Wr h h' a sl v) (q : b ≠ a) : own_AD Z h' b ty n g := by obtain ⟨c, A, r⟩ := F; exact ⟨c, A.other W q, r⟩
theorem own_AD.keep {g : Nat → UInt64} (F : own_AD Z h a ty n g) (K : Keep h h' ws) (q : a ∉ ws) : own_AD Z h' a ty n g := by obtain ⟨c, A, r⟩ := F; exact ⟨c, ⟨K.2.1 a c A.1 q, A.2⟩, r⟩
theorem own_AI.set {g : Nat → Int32} {c : Cell} {x : Int32} {j : Nat} (A : Arr Z h a c ty) (S : c.slots.size = n) (M : n < 2 ^ 31) (H : ∀ i, i < n → c.slots[i]? = some (.int (g i))) (W : Wr h h' a j (.int x)) : own_AI Z h' a ty n (own_upd g j x) := by
  refine ⟨_, A.same W, (sz_set _ _ _).trans S, M, fun i hi => ?_⟩
  simp only [Cell.setSlot, Array.getElem?_setIfInBounds, own_upd]
  by_cases q : j = i
  · subst q; simp [S, hi]
  · rw [if_neg q, if_neg (fun z => q z.symm)]; exact H i hi
theorem own_AJ.set {g : Nat → Int64} {c : Cell} {x : Int64} {j : Nat} (A : Arr Z h a c ty) (S : c.slots.size = n) (M : n < 2 ^ 31) (H : ∀ i, i < n → c.slots[i]? = some (.long (g i))) (W : Wr h h' a j (.long x)) : own_AJ Z h' a ty n (own_upd g j x) := by
  refine ⟨_, A.same W, (sz_set _ _ _).trans S, M, fun i hi => ?_⟩
  simp only [Cell.setSlot, Array.getElem?_setIfInBounds, own_upd]
  by_cases q : j = i
  · subst q; simp [S, hi]
  · rw [if_neg q, if_neg (fun z => q z.symm)]; exact H i hi
theorem own_AD.set {g : Nat → UInt64} {c : Cell} {x : UInt64} {j : Nat} (A : Arr Z h a c ty) (S : c.slots.size = n) (M : n < 2 ^ 31) (H : ∀ i, i < n → c.slots[i]? = some (.double (g i))) (W : Wr h h' a j (.double x)) : own_AD Z h' a ty n (own_upd g j x) := by
  refine ⟨_, A.same W, (sz_set _ _ _).trans S, M, fun i hi => ?_⟩
  simp only [Cell.setSlot, Array.getElem?_setIfInBounds, own_upd]
  by_cases q : j = i
  · subst q; simp [S, hi]
  · rw [if_neg q, if_neg (fun z => q z.symm)]; exact H i hi
theorem own_clamp_lt (z : Int32) : z.toNatClampNeg < 2 ^ 31 := by have := z.toInt_lt; simp only [Int32.toNatClampNeg]; omega
theorem own_AI.fresh {k : ClassId} {z : Int32} (A : Arr Z h a (newA k ty z) ty) (hd : defaultValue ty = .int 0) : own_AI Z h a ty z.toNatClampNeg (fun _ => 0) :=
  ⟨_, A, sz_new _ _ _, own_clamp_lt z, fun i hi => by simp [newA, hi, hd]⟩
theorem own_AJ.fresh {k : ClassId} {z : Int32} (A : Arr Z h a (newA k ty z) ty) (hd : defaultValue ty = .long 0) : own_AJ Z h a ty z.toNatClampNeg (fun _ => 0) :=
  ⟨_, A, sz_new _ _ _, own_clamp_lt z, fun i hi => by simp [newA, hi, hd]⟩
theorem own_AD.fresh {k : ClassId} {z : Int32} (A : Arr Z h a (newA k ty z) ty) (hd : defaultValue ty = .double 0) : own_AD Z h a ty z.toNatClampNeg (fun _ => 0) :=
  ⟨_, A, sz_new _ _ _, own_clamp_lt z, fun i hi => by simp [newA, hi, hd]⟩
theorem own_in {c : Cell} {j : Int32} (S : c.slots.size = n) (q : ¬ j < 0 ∧ j.toNatClampNeg < n) : ¬ (j < 0 ∨ c.slots.size ≤ j.toNatClampNeg) := by
  rw [S]; exact fun z => z.elim q.1 (fun y => by have := q.2; omega)
theorem own_len {c : Cell} (S : c.slots.size = n) : c.slots.size.toInt32 = Int32.ofNat n := by rw [S]
theorem own_fitI {g : Nat → Int32} {c : Cell} (A : Arr Z h a c .int) (S : c.slots.size = n) (H : ∀ i, i < n → c.slots[i]? = some (.int (g i))) : FitC Z c :=
  fitC_of A fun i hi v hv => by rw [H i (S ▸ hi)] at hv; cases hv; rfl
theorem own_nst {C : String} (E : Exa Z h a C) : ∃ c : Cell, h[a]? = some c ∧ c.vm.isStatics = false := by obtain ⟨c, k, h1, -, -, h4, -⟩ := E; exact ⟨c, h1, h4⟩
theorem own_Sta_keep {C f d : String} (F : Sta Z h C f d v) (K : Keep h h' ws) (q : ∀ x ∈ ws, ∃ c : Cell, h[x]? = some c ∧ c.vm.isStatics = false) : Sta Z h' C f d v := by
  obtain ⟨cf, i, k, f, st, cell, h1, h2, h3, h4, h5, h6, h7⟩ := F
  refine ⟨cf, i, k, f, st, cell, h1, h2, h3, h4, K.2.1 st cell h5 (fun z => ?_), h6, h7⟩
  obtain ⟨c, g1, g2⟩ := q st z
  cases h5.symm.trans g1
  rw [h6] at g2
  cases g2
end OwnArrays
theorem own_lremq (x y : Int64) : x - (x / y) * y = x % y := by
  apply Int64.toInt_inj.mp
  rw [Int64.toInt_sub, Int64.toInt_mul, Int64.toInt_div, Int64.toInt_mod]
  have h := Int.mul_tdiv_add_tmod x.toInt y.toInt
  have hl := x.toInt_lt; have hg := x.le_toInt
  simp only [Int.bmod_sub_bmod, Int.sub_bmod_bmod, Int.bmod_mul_bmod, Int.mul_bmod_bmod]
  have e : x.toInt - x.toInt.tdiv y.toInt * y.toInt = x.toInt.tmod y.toInt := by rw [Int.mul_comm]; omega
  rw [e]
  have h1 := (x % y).toInt_lt; have h2 := (x % y).le_toInt
  rw [Int64.toInt_mod] at h1 h2
  exact Int.bmod_eq_of_le (by omega) (by omega)
theorem d3_0 : decode method_4_code 0 = .ok (.iload_n 0, 1) := by decide +kernel
theorem d3_1 : decode method_4_code 1 = .ok (.ifCond .ne 5, 3) := by decide +kernel
theorem d3_4 : decode method_4_code 4 = .ok (.iload_n 1, 1) := by decide +kernel
theorem d3_5 : decode method_4_code 5 = .ok (.ireturn, 1) := by decide +kernel
theorem d3_6 : decode method_4_code 6 = .ok (.iload_n 0, 1) := by decide +kernel
theorem d3_7 : decode method_4_code 7 = .ok (.iconst 1, 1) := by decide +kernel
theorem d3_8 : decode method_4_code 8 = .ok (.if_icmp .ne 5, 3) := by decide +kernel
theorem d3_11 : decode method_4_code 11 = .ok (.iload_n 2, 1) := by decide +kernel
theorem d3_12 : decode method_4_code 12 = .ok (.ireturn, 1) := by decide +kernel
theorem d3_13 : decode method_4_code 13 = .ok (.iload_n 0, 1) := by decide +kernel
theorem d3_14 : decode method_4_code 14 = .ok (.iconst 2, 1) := by decide +kernel
theorem d3_15 : decode method_4_code 15 = .ok (.if_icmp .ne 5, 3) := by decide +kernel
theorem d3_18 : decode method_4_code 18 = .ok (.iload_n 3, 1) := by decide +kernel
theorem d3_19 : decode method_4_code 19 = .ok (.ireturn, 1) := by decide +kernel
theorem d3_20 : decode method_4_code 20 = .ok (.iload_n 0, 1) := by decide +kernel
theorem d3_21 : decode method_4_code 21 = .ok (.iconst 3, 1) := by decide +kernel
theorem d3_22 : decode method_4_code 22 = .ok (.if_icmp .ne 6, 3) := by decide +kernel
theorem d3_25 : decode method_4_code 25 = .ok (.iload 4, 2) := by decide +kernel
theorem d3_27 : decode method_4_code 27 = .ok (.ireturn, 1) := by decide +kernel
theorem d3_28 : decode method_4_code 28 = .ok (.iload 5, 2) := by decide +kernel
theorem d3_30 : decode method_4_code 30 = .ok (.ireturn, 1) := by decide +kernel
theorem own_pn0 : plainName "com/example/paretoforge/paretoforge/core/PermutationsSwappedPinLaw" = true := by first | (simp [plainName, overriddenIn]; done) | decide +kernel
def own_orig (p0 : Int32) (p1 : Int32) (p2 : Int32) (p3 : Int32) (p4 : Int32) (p5 : Int32) : Int32 := (if p0 = (0 : Int32) then p1 else (if p0 = (1 : Int32) then p2 else (if p0 = (2 : Int32) then p3 else (if p0 = (3 : Int32) then p4 else p5))))
set_option maxHeartbeats 40000000 in
theorem own_ef_rm3 (m : MethodId) (x0 : Int32) (x1 : Int32) (x2 : Int32) (x3 : Int32) (x4 : Int32) (x5 : Int32) : entryFrame m #[(.int x0), (.int x1), (.int x2), (.int x3), (.int x4), (.int x5)] 6 = mkF m 0 #[.val (.int x0), .val (.int x1), .val (.int x2), .val (.int x3), .val (.int x4), .val (.int x5)] [] := by first | (simp [entryFrame, mkF, argsToLocals, Value.category]; done) | rfl
def Q3 (Z : State) (p0 : Int32) (p1 : Int32) (p2 : Int32) (p3 : Int32) (p4 : Int32) (p5 : Int32) (h0 : Heap) (n0 : Nat) (v : Option Value) (h : Heap) (L : List Loc) : Prop := v = some (.int (own_orig p0 p1 p2 p3 p4 p5)) ∧ Fr n0 L ∧ h = h0
set_option maxRecDepth 65536 in
set_option maxHeartbeats 40000000 in
theorem rm3 (l : Launch) (Z : State) (aZ : Array Value) (hw : ∀ d ∈ tables_1, d.before aZ Z = true) (ws : List Jvm.Cond) (p0 : Int32) (p1 : Int32) (p2 : Int32) (p3 : Int32) (p4 : Int32) (p5 : Int32) (h0 : Heap) (n0 : Nat) (Z0 : n0 ≤ h0.size) :
    MetFree l (⟨"com/example/paretoforge/paretoforge/core/PermutationsSwappedPinLaw", "orig", "(IIIIII)I"⟩ : MethodName) (head1 (Jvm.Cond.code (⟨"com/example/paretoforge/paretoforge/core/PermutationsSwappedPinLaw", "orig", "(IIIIII)I"⟩ : MethodName) method_4_code 6 (some .int) :: ws) ({ frames := 0, cells := 0, slots := 0, locals := 0 } : Room)) (fun a U => a = #[(.int p0), (.int p1), (.int p2), (.int p3), (.int p4), (.int p5)] ∧ Z.Warmed39 U.vm ∧ U.heap = h0) (fun _ _ _ _ _ => True) (fun _ U o U' => ∃ v L, o = .returned v ∧ Q3 Z p0 p1 p2 p3 p4 p5 h0 n0 v U'.heap L ∧ FrameEnd U o U' L ({ frames := 0, cells := 0, slots := 0, locals := 0 } : Room).cells ({ frames := 0, cells := 0, slots := 0, locals := 0 } : Room).slots) := by
  refine MetFree.of_bodySF (plainFor_of_name own_pn0) hisR ?_
  intro p e s m args below meth c s₁ Bd hml0 hP hK
  obtain ⟨rfl, hZ, hh⟩ := hP
  have hx := Bd.exec
  have hby := Bd.bytes
  have hml : c.maxLocals = 6 := hml0
  have hown : s.vm.findClass "com/example/paretoforge/paretoforge/core/PermutationsSwappedPinLaw" = some m.cls := findClass_of_methodNamed Bd.named
  have hnm := (name_of_methodNamed Bd.named Bd.method).1
  have X0 : Stand p l e ({ frames := 0, cells := 0, slots := 0, locals := 0 } : Room) s m #[(.int p0), (.int p1), (.int p2), (.int p3), (.int p4), (.int p5)] below meth c s₁ [] 0 0 := Stand.of_body Bd
  have e0 : s₁.heap = h0 := by rw [← hh, Bd.state]; rfl
  have N0 := Fr.nil n0
  refine own_go (S' := s₁.setTop (mkF m 0 #[.val (.int p0), .val (.int p1), .val (.int p2), .val (.int p3), .val (.int p4), .val (.int p5)] [])) (fun t k => castTop (own_ef_rm3 m p0 p1 p2 p3 p4 p5) k) ?_
  refine own_go (S' := s₁.setTop (mkF m 1 #[.val (.int p0), .val (.int p1), .val (.int p2), .val (.int p3), .val (.int p4), .val (.int p5)] [(.int p0)])) (fun target kt => ?_) ?_
  · skip
    show Steps p.tables e below (s₁.setTop (mkF m 0 #[.val (.int p0), .val (.int p1), .val (.int p2), .val (.int p3), .val (.int p4), .val (.int p5)] [])) _
    refine XS.iloadN X0.here hx rfl (hb hby d3_0) rfl ?_
    exact kt
  by_cases hc1 : p0 = (0 : Int32)
  · skip
    refine own_go (S' := s₁.setTop (mkF m 5 #[.val (.int p0), .val (.int p1), .val (.int p2), .val (.int p3), .val (.int p4), .val (.int p5)] [(.int p1)])) (fun target kt => ?_) ?_
    · skip
      show Steps p.tables e below (s₁.setTop (mkF m 1 #[.val (.int p0), .val (.int p1), .val (.int p2), .val (.int p3), .val (.int p4), .val (.int p5)] [(.int p0)])) _
      refine XS.ifNo X0.here hx rfl (hb hby d3_1) rfl ((if0 _ _).trans (teq hc1).2) ?_
      show Steps p.tables e below (s₁.setTop (mkF m 4 #[.val (.int p0), .val (.int p1), .val (.int p2), .val (.int p3), .val (.int p4), .val (.int p5)] [])) _
      refine XS.iloadN X0.here hx rfl (hb hby d3_4) rfl ?_
      exact kt
    obtain ⟨fs, hr, hrun, hended, hW, hsame⟩ := X0.leave (v := some (.int p1)) (fun h => by rw [Bd.returns] at h; cases h)
    refine ⟨_, _, ?_, hrun, hended, _, _, rfl, ?_, ⟨_, rfl⟩, hW, hsame.mono (by decide) (by decide)⟩
    · exact retI X0 hx Bd.returns (hb hby d3_5) hr
    · show Q3 Z p0 p1 p2 p3 p4 p5 h0 n0 _ s₁.heap _
      rw [e0]
      exact ⟨(by (first | rfl | (simp only [own_orig, if_pos hc1]; done) | (simp [own_orig, if_pos hc1]; done))), N0, rfl⟩
  · skip
    refine own_go (S' := s₁.setTop (mkF m 8 #[.val (.int p0), .val (.int p1), .val (.int p2), .val (.int p3), .val (.int p4), .val (.int p5)] [(.int (1 : Int32)), (.int p0)])) (fun target kt => ?_) ?_
    · skip
      show Steps p.tables e below (s₁.setTop (mkF m 1 #[.val (.int p0), .val (.int p1), .val (.int p2), .val (.int p3), .val (.int p4), .val (.int p5)] [(.int p0)])) _
      refine XS.ifYes X0.here hx rfl (pc0 := 1) (pc' := 6) rfl (hb hby d3_1) rfl ((if0 _ _).trans (feq hc1).2) (by decide) (by decide) ?_
      show Steps p.tables e below (s₁.setTop (mkF m 6 #[.val (.int p0), .val (.int p1), .val (.int p2), .val (.int p3), .val (.int p4), .val (.int p5)] [])) _
      refine XS.iloadN X0.here hx rfl (hb hby d3_6) rfl ?_
      show Steps p.tables e below (s₁.setTop (mkF m 7 #[.val (.int p0), .val (.int p1), .val (.int p2), .val (.int p3), .val (.int p4), .val (.int p5)] [(.int p0)])) _
      refine XS.iconst X0.here hx rfl (hb hby d3_7) ?_
      exact kt
    by_cases hc8 : p0 = (1 : Int32)
    · skip
      refine own_go (S' := s₁.setTop (mkF m 12 #[.val (.int p0), .val (.int p1), .val (.int p2), .val (.int p3), .val (.int p4), .val (.int p5)] [(.int p2)])) (fun target kt => ?_) ?_
      · skip
        show Steps p.tables e below (s₁.setTop (mkF m 8 #[.val (.int p0), .val (.int p1), .val (.int p2), .val (.int p3), .val (.int p4), .val (.int p5)] [(.int (1 : Int32)), (.int p0)])) _
        refine XS.icmpNo X0.here hx rfl (hb hby d3_8) rfl (teq hc8).2 ?_
        show Steps p.tables e below (s₁.setTop (mkF m 11 #[.val (.int p0), .val (.int p1), .val (.int p2), .val (.int p3), .val (.int p4), .val (.int p5)] [])) _
        refine XS.iloadN X0.here hx rfl (hb hby d3_11) rfl ?_
        exact kt
      obtain ⟨fs, hr, hrun, hended, hW, hsame⟩ := X0.leave (v := some (.int p2)) (fun h => by rw [Bd.returns] at h; cases h)
      refine ⟨_, _, ?_, hrun, hended, _, _, rfl, ?_, ⟨_, rfl⟩, hW, hsame.mono (by decide) (by decide)⟩
      · exact retI X0 hx Bd.returns (hb hby d3_12) hr
      · show Q3 Z p0 p1 p2 p3 p4 p5 h0 n0 _ s₁.heap _
        rw [e0]
        exact ⟨(by (first | rfl | (simp only [own_orig, if_neg hc1, if_pos hc8]; done) | (simp [own_orig, if_neg hc1, if_pos hc8]; done))), N0, rfl⟩
    · skip
      refine own_go (S' := s₁.setTop (mkF m 15 #[.val (.int p0), .val (.int p1), .val (.int p2), .val (.int p3), .val (.int p4), .val (.int p5)] [(.int (2 : Int32)), (.int p0)])) (fun target kt => ?_) ?_
      · skip
        show Steps p.tables e below (s₁.setTop (mkF m 8 #[.val (.int p0), .val (.int p1), .val (.int p2), .val (.int p3), .val (.int p4), .val (.int p5)] [(.int (1 : Int32)), (.int p0)])) _
        refine XS.icmpYes X0.here hx rfl (pc0 := 8) (pc' := 13) rfl (hb hby d3_8) rfl (feq hc8).2 (by decide) (by decide) ?_
        show Steps p.tables e below (s₁.setTop (mkF m 13 #[.val (.int p0), .val (.int p1), .val (.int p2), .val (.int p3), .val (.int p4), .val (.int p5)] [])) _
        refine XS.iloadN X0.here hx rfl (hb hby d3_13) rfl ?_
        show Steps p.tables e below (s₁.setTop (mkF m 14 #[.val (.int p0), .val (.int p1), .val (.int p2), .val (.int p3), .val (.int p4), .val (.int p5)] [(.int p0)])) _
        refine XS.iconst X0.here hx rfl (hb hby d3_14) ?_
        exact kt
      by_cases hc15 : p0 = (2 : Int32)
      · skip
        refine own_go (S' := s₁.setTop (mkF m 19 #[.val (.int p0), .val (.int p1), .val (.int p2), .val (.int p3), .val (.int p4), .val (.int p5)] [(.int p3)])) (fun target kt => ?_) ?_
        · skip
          show Steps p.tables e below (s₁.setTop (mkF m 15 #[.val (.int p0), .val (.int p1), .val (.int p2), .val (.int p3), .val (.int p4), .val (.int p5)] [(.int (2 : Int32)), (.int p0)])) _
          refine XS.icmpNo X0.here hx rfl (hb hby d3_15) rfl (teq hc15).2 ?_
          show Steps p.tables e below (s₁.setTop (mkF m 18 #[.val (.int p0), .val (.int p1), .val (.int p2), .val (.int p3), .val (.int p4), .val (.int p5)] [])) _
          refine XS.iloadN X0.here hx rfl (hb hby d3_18) rfl ?_
          exact kt
        obtain ⟨fs, hr, hrun, hended, hW, hsame⟩ := X0.leave (v := some (.int p3)) (fun h => by rw [Bd.returns] at h; cases h)
        refine ⟨_, _, ?_, hrun, hended, _, _, rfl, ?_, ⟨_, rfl⟩, hW, hsame.mono (by decide) (by decide)⟩
        · exact retI X0 hx Bd.returns (hb hby d3_19) hr
        · show Q3 Z p0 p1 p2 p3 p4 p5 h0 n0 _ s₁.heap _
          rw [e0]
          exact ⟨(by (first | rfl | (simp only [own_orig, if_neg hc1, if_neg hc8, if_pos hc15]; done) | (simp [own_orig, if_neg hc1, if_neg hc8, if_pos hc15]; done))), N0, rfl⟩
      · skip
        refine own_go (S' := s₁.setTop (mkF m 22 #[.val (.int p0), .val (.int p1), .val (.int p2), .val (.int p3), .val (.int p4), .val (.int p5)] [(.int (3 : Int32)), (.int p0)])) (fun target kt => ?_) ?_
        · skip
          show Steps p.tables e below (s₁.setTop (mkF m 15 #[.val (.int p0), .val (.int p1), .val (.int p2), .val (.int p3), .val (.int p4), .val (.int p5)] [(.int (2 : Int32)), (.int p0)])) _
          refine XS.icmpYes X0.here hx rfl (pc0 := 15) (pc' := 20) rfl (hb hby d3_15) rfl (feq hc15).2 (by decide) (by decide) ?_
          show Steps p.tables e below (s₁.setTop (mkF m 20 #[.val (.int p0), .val (.int p1), .val (.int p2), .val (.int p3), .val (.int p4), .val (.int p5)] [])) _
          refine XS.iloadN X0.here hx rfl (hb hby d3_20) rfl ?_
          show Steps p.tables e below (s₁.setTop (mkF m 21 #[.val (.int p0), .val (.int p1), .val (.int p2), .val (.int p3), .val (.int p4), .val (.int p5)] [(.int p0)])) _
          refine XS.iconst X0.here hx rfl (hb hby d3_21) ?_
          exact kt
        by_cases hc22 : p0 = (3 : Int32)
        · skip
          refine own_go (S' := s₁.setTop (mkF m 27 #[.val (.int p0), .val (.int p1), .val (.int p2), .val (.int p3), .val (.int p4), .val (.int p5)] [(.int p4)])) (fun target kt => ?_) ?_
          · skip
            show Steps p.tables e below (s₁.setTop (mkF m 22 #[.val (.int p0), .val (.int p1), .val (.int p2), .val (.int p3), .val (.int p4), .val (.int p5)] [(.int (3 : Int32)), (.int p0)])) _
            refine XS.icmpNo X0.here hx rfl (hb hby d3_22) rfl (teq hc22).2 ?_
            show Steps p.tables e below (s₁.setTop (mkF m 25 #[.val (.int p0), .val (.int p1), .val (.int p2), .val (.int p3), .val (.int p4), .val (.int p5)] [])) _
            refine XS.iload X0.here hx rfl (hb hby d3_25) rfl ?_
            exact kt
          obtain ⟨fs, hr, hrun, hended, hW, hsame⟩ := X0.leave (v := some (.int p4)) (fun h => by rw [Bd.returns] at h; cases h)
          refine ⟨_, _, ?_, hrun, hended, _, _, rfl, ?_, ⟨_, rfl⟩, hW, hsame.mono (by decide) (by decide)⟩
          · exact retI X0 hx Bd.returns (hb hby d3_27) hr
          · show Q3 Z p0 p1 p2 p3 p4 p5 h0 n0 _ s₁.heap _
            rw [e0]
            exact ⟨(by (first | rfl | (simp only [own_orig, if_neg hc1, if_neg hc8, if_neg hc15, if_pos hc22]; done) | (simp [own_orig, if_neg hc1, if_neg hc8, if_neg hc15, if_pos hc22]; done))), N0, rfl⟩
        · skip
          refine own_go (S' := s₁.setTop (mkF m 30 #[.val (.int p0), .val (.int p1), .val (.int p2), .val (.int p3), .val (.int p4), .val (.int p5)] [(.int p5)])) (fun target kt => ?_) ?_
          · skip
            show Steps p.tables e below (s₁.setTop (mkF m 22 #[.val (.int p0), .val (.int p1), .val (.int p2), .val (.int p3), .val (.int p4), .val (.int p5)] [(.int (3 : Int32)), (.int p0)])) _
            refine XS.icmpYes X0.here hx rfl (pc0 := 22) (pc' := 28) rfl (hb hby d3_22) rfl (feq hc22).2 (by decide) (by decide) ?_
            show Steps p.tables e below (s₁.setTop (mkF m 28 #[.val (.int p0), .val (.int p1), .val (.int p2), .val (.int p3), .val (.int p4), .val (.int p5)] [])) _
            refine XS.iload X0.here hx rfl (hb hby d3_28) rfl ?_
            exact kt
          obtain ⟨fs, hr, hrun, hended, hW, hsame⟩ := X0.leave (v := some (.int p5)) (fun h => by rw [Bd.returns] at h; cases h)
          refine ⟨_, _, ?_, hrun, hended, _, _, rfl, ?_, ⟨_, rfl⟩, hW, hsame.mono (by decide) (by decide)⟩
          · exact retI X0 hx Bd.returns (hb hby d3_30) hr
          · show Q3 Z p0 p1 p2 p3 p4 p5 h0 n0 _ s₁.heap _
            rw [e0]
            exact ⟨(by (first | rfl | (simp only [own_orig, if_neg hc1, if_neg hc8, if_neg hc15, if_neg hc22]; done) | (simp [own_orig, if_neg hc1, if_neg hc8, if_neg hc15, if_neg hc22]; done))), N0, rfl⟩
theorem d2_0 : decode method_3_code 0 = .ok (.iload_n 0, 1) := by decide +kernel
theorem d2_1 : decode method_3_code 1 = .ok (.iload_n 1, 1) := by decide +kernel
theorem d2_2 : decode method_3_code 2 = .ok (.if_icmp .ne 7, 3) := by decide +kernel
theorem d2_5 : decode method_3_code 5 = .ok (.iload_n 2, 1) := by decide +kernel
theorem d2_6 : decode method_3_code 6 = .ok (.goto 13, 3) := by decide +kernel
theorem d2_9 : decode method_3_code 9 = .ok (.iload_n 0, 1) := by decide +kernel
theorem d2_10 : decode method_3_code 10 = .ok (.iload_n 2, 1) := by decide +kernel
theorem d2_11 : decode method_3_code 11 = .ok (.if_icmp .ne 7, 3) := by decide +kernel
theorem d2_14 : decode method_3_code 14 = .ok (.iload_n 1, 1) := by decide +kernel
theorem d2_15 : decode method_3_code 15 = .ok (.goto 4, 3) := by decide +kernel
theorem d2_18 : decode method_3_code 18 = .ok (.iload_n 0, 1) := by decide +kernel
theorem d2_19 : decode method_3_code 19 = .ok (.istore 8, 2) := by decide +kernel
theorem d2_21 : decode method_3_code 21 = .ok (.iload 8, 2) := by decide +kernel
theorem d2_23 : decode method_3_code 23 = .ok (.iload_n 3, 1) := by decide +kernel
theorem d2_24 : decode method_3_code 24 = .ok (.iload 4, 2) := by decide +kernel
theorem d2_26 : decode method_3_code 26 = .ok (.iload 5, 2) := by decide +kernel
theorem d2_28 : decode method_3_code 28 = .ok (.iload 6, 2) := by decide +kernel
theorem d2_30 : decode method_3_code 30 = .ok (.iload 7, 2) := by decide +kernel
theorem d2_32 : decode method_3_code 32 = .ok (.invokestatic 19, 3) := by decide +kernel
theorem d2_35 : decode method_3_code 35 = .ok (.ireturn, 1) := by decide +kernel
theorem own_pd0 : parseMethodDescriptor "(IIIIII)I" = some ⟨[.int, .int, .int, .int, .int, .int], some .int⟩ := by decide +kernel
def own_expect (p0 : Int32) (p1 : Int32) (p2 : Int32) (p3 : Int32) (p4 : Int32) (p5 : Int32) (p6 : Int32) (p7 : Int32) : Int32 := let src : Int32 := (if p0 = p1 then p2 else (if p0 = p2 then p1 else p0)); (own_orig src p3 p4 p5 p6 p7)
set_option maxHeartbeats 40000000 in
theorem own_ef_rm2 (m : MethodId) (x0 : Int32) (x1 : Int32) (x2 : Int32) (x3 : Int32) (x4 : Int32) (x5 : Int32) (x6 : Int32) (x7 : Int32) : entryFrame m #[(.int x0), (.int x1), (.int x2), (.int x3), (.int x4), (.int x5), (.int x6), (.int x7)] 9 = mkF m 0 #[.val (.int x0), .val (.int x1), .val (.int x2), .val (.int x3), .val (.int x4), .val (.int x5), .val (.int x6), .val (.int x7), .unset] [] := by first | (simp [entryFrame, mkF, argsToLocals, Value.category]; done) | rfl
def Q2 (Z : State) (p0 : Int32) (p1 : Int32) (p2 : Int32) (p3 : Int32) (p4 : Int32) (p5 : Int32) (p6 : Int32) (p7 : Int32) (h0 : Heap) (n0 : Nat) (v : Option Value) (h : Heap) (L : List Loc) : Prop := v = some (.int (own_expect p0 p1 p2 p3 p4 p5 p6 p7)) ∧ Fr n0 L ∧ h = h0
set_option maxRecDepth 65536 in
set_option maxHeartbeats 40000000 in
theorem rm2 (l : Launch) (Z : State) (aZ : Array Value) (hw : ∀ d ∈ tables_1, d.before aZ Z = true) (ws : List Jvm.Cond) (p0 : Int32) (p1 : Int32) (p2 : Int32) (p3 : Int32) (p4 : Int32) (p5 : Int32) (p6 : Int32) (p7 : Int32) (h0 : Heap) (n0 : Nat) (Z0 : n0 ≤ h0.size) :
    MetFree l (⟨"com/example/paretoforge/paretoforge/core/PermutationsSwappedPinLaw", "expect", "(IIIIIIII)I"⟩ : MethodName) (head1 (Jvm.Cond.code (⟨"com/example/paretoforge/paretoforge/core/PermutationsSwappedPinLaw", "expect", "(IIIIIIII)I"⟩ : MethodName) method_3_code 9 (some .int) :: ws) ({ frames := 1, cells := 0, slots := 0, locals := 17 } : Room)) (fun a U => a = #[(.int p0), (.int p1), (.int p2), (.int p3), (.int p4), (.int p5), (.int p6), (.int p7)] ∧ Z.Warmed39 U.vm ∧ U.heap = h0) (fun _ _ _ _ _ => True) (fun _ U o U' => ∃ v L, o = .returned v ∧ Q2 Z p0 p1 p2 p3 p4 p5 p6 p7 h0 n0 v U'.heap L ∧ FrameEnd U o U' L ({ frames := 1, cells := 0, slots := 0, locals := 17 } : Room).cells ({ frames := 1, cells := 0, slots := 0, locals := 17 } : Room).slots) := by
  refine MetFree.of_bodySF (plainFor_of_name own_pn0) hisR ?_
  intro p e s m args below meth c s₁ Bd hml0 hP hK
  obtain ⟨rfl, hZ, hh⟩ := hP
  have hx := Bd.exec
  have hby := Bd.bytes
  have hml : c.maxLocals = 9 := hml0
  have hown : s.vm.findClass "com/example/paretoforge/paretoforge/core/PermutationsSwappedPinLaw" = some m.cls := findClass_of_methodNamed Bd.named
  have hnm := (name_of_methodNamed Bd.named Bd.method).1
  have X0 : Stand p l e ({ frames := 1, cells := 0, slots := 0, locals := 17 } : Room) s m #[(.int p0), (.int p1), (.int p2), (.int p3), (.int p4), (.int p5), (.int p6), (.int p7)] below meth c s₁ [] 0 0 := Stand.of_body Bd
  have e0 : s₁.heap = h0 := by rw [← hh, Bd.state]; rfl
  have N0 := Fr.nil n0
  refine own_go (S' := s₁.setTop (mkF m 0 #[.val (.int p0), .val (.int p1), .val (.int p2), .val (.int p3), .val (.int p4), .val (.int p5), .val (.int p6), .val (.int p7), .unset] [])) (fun t k => castTop (own_ef_rm2 m p0 p1 p2 p3 p4 p5 p6 p7) k) ?_
  refine own_go (S' := s₁.setTop (mkF m 2 #[.val (.int p0), .val (.int p1), .val (.int p2), .val (.int p3), .val (.int p4), .val (.int p5), .val (.int p6), .val (.int p7), .unset] [(.int p1), (.int p0)])) (fun target kt => ?_) ?_
  · skip
    show Steps p.tables e below (s₁.setTop (mkF m 0 #[.val (.int p0), .val (.int p1), .val (.int p2), .val (.int p3), .val (.int p4), .val (.int p5), .val (.int p6), .val (.int p7), .unset] [])) _
    refine XS.iloadN X0.here hx rfl (hb hby d2_0) rfl ?_
    show Steps p.tables e below (s₁.setTop (mkF m 1 #[.val (.int p0), .val (.int p1), .val (.int p2), .val (.int p3), .val (.int p4), .val (.int p5), .val (.int p6), .val (.int p7), .unset] [(.int p0)])) _
    refine XS.iloadN X0.here hx rfl (hb hby d2_1) rfl ?_
    exact kt
  obtain ⟨y1, h_y1⟩ : ∃ z : Int32, z = (if p0 = p1 then p2 else (if p0 = p2 then p1 else p0)) := ⟨_, rfl⟩
  refine own_go (S' := s₁.setTop (mkF m 19 #[.val (.int p0), .val (.int p1), .val (.int p2), .val (.int p3), .val (.int p4), .val (.int p5), .val (.int p6), .val (.int p7), .unset] [(.int y1)])) (fun target kt => ?_) ?_
  · skip
    by_cases hm2 : p0 = p1
    · skip
      show Steps p.tables e below (s₁.setTop (mkF m 2 #[.val (.int p0), .val (.int p1), .val (.int p2), .val (.int p3), .val (.int p4), .val (.int p5), .val (.int p6), .val (.int p7), .unset] [(.int p1), (.int p0)])) _
      refine XS.icmpNo X0.here hx rfl (hb hby d2_2) rfl (teq hm2).2 ?_
      show Steps p.tables e below (s₁.setTop (mkF m 5 #[.val (.int p0), .val (.int p1), .val (.int p2), .val (.int p3), .val (.int p4), .val (.int p5), .val (.int p6), .val (.int p7), .unset] [])) _
      refine XS.iloadN X0.here hx rfl (hb hby d2_5) rfl ?_
      show Steps p.tables e below (s₁.setTop (mkF m 6 #[.val (.int p0), .val (.int p1), .val (.int p2), .val (.int p3), .val (.int p4), .val (.int p5), .val (.int p6), .val (.int p7), .unset] [(.int p2)])) _
      refine XS.goto X0.here hx rfl (pc0 := 6) (pc' := 19) rfl (hb hby d2_6) (by decide) (by decide) ?_
      rw [h_y1, if_pos hm2] at kt
      exact kt
    · skip
      show Steps p.tables e below (s₁.setTop (mkF m 2 #[.val (.int p0), .val (.int p1), .val (.int p2), .val (.int p3), .val (.int p4), .val (.int p5), .val (.int p6), .val (.int p7), .unset] [(.int p1), (.int p0)])) _
      refine XS.icmpYes X0.here hx rfl (pc0 := 2) (pc' := 9) rfl (hb hby d2_2) rfl (feq hm2).2 (by decide) (by decide) ?_
      show Steps p.tables e below (s₁.setTop (mkF m 9 #[.val (.int p0), .val (.int p1), .val (.int p2), .val (.int p3), .val (.int p4), .val (.int p5), .val (.int p6), .val (.int p7), .unset] [])) _
      refine XS.iloadN X0.here hx rfl (hb hby d2_9) rfl ?_
      show Steps p.tables e below (s₁.setTop (mkF m 10 #[.val (.int p0), .val (.int p1), .val (.int p2), .val (.int p3), .val (.int p4), .val (.int p5), .val (.int p6), .val (.int p7), .unset] [(.int p0)])) _
      refine XS.iloadN X0.here hx rfl (hb hby d2_10) rfl ?_
      by_cases hm11 : p0 = p2
      · skip
        show Steps p.tables e below (s₁.setTop (mkF m 11 #[.val (.int p0), .val (.int p1), .val (.int p2), .val (.int p3), .val (.int p4), .val (.int p5), .val (.int p6), .val (.int p7), .unset] [(.int p2), (.int p0)])) _
        refine XS.icmpNo X0.here hx rfl (hb hby d2_11) rfl (teq hm11).2 ?_
        show Steps p.tables e below (s₁.setTop (mkF m 14 #[.val (.int p0), .val (.int p1), .val (.int p2), .val (.int p3), .val (.int p4), .val (.int p5), .val (.int p6), .val (.int p7), .unset] [])) _
        refine XS.iloadN X0.here hx rfl (hb hby d2_14) rfl ?_
        show Steps p.tables e below (s₁.setTop (mkF m 15 #[.val (.int p0), .val (.int p1), .val (.int p2), .val (.int p3), .val (.int p4), .val (.int p5), .val (.int p6), .val (.int p7), .unset] [(.int p1)])) _
        refine XS.goto X0.here hx rfl (pc0 := 15) (pc' := 19) rfl (hb hby d2_15) (by decide) (by decide) ?_
        rw [h_y1, if_neg hm2, if_pos hm11] at kt
        exact kt
      · skip
        show Steps p.tables e below (s₁.setTop (mkF m 11 #[.val (.int p0), .val (.int p1), .val (.int p2), .val (.int p3), .val (.int p4), .val (.int p5), .val (.int p6), .val (.int p7), .unset] [(.int p2), (.int p0)])) _
        refine XS.icmpYes X0.here hx rfl (pc0 := 11) (pc' := 18) rfl (hb hby d2_11) rfl (feq hm11).2 (by decide) (by decide) ?_
        show Steps p.tables e below (s₁.setTop (mkF m 18 #[.val (.int p0), .val (.int p1), .val (.int p2), .val (.int p3), .val (.int p4), .val (.int p5), .val (.int p6), .val (.int p7), .unset] [])) _
        refine XS.iloadN X0.here hx rfl (hb hby d2_18) rfl ?_
        rw [h_y1, if_neg hm2, if_neg hm11] at kt
        exact kt
  refine own_go (S' := s₁.setTop (mkF m 32 #[.val (.int p0), .val (.int p1), .val (.int p2), .val (.int p3), .val (.int p4), .val (.int p5), .val (.int p6), .val (.int p7), .val (.int y1)] [(.int p7), (.int p6), (.int p5), (.int p4), (.int p3), (.int y1)])) (fun target kt => ?_) ?_
  · skip
    show Steps p.tables e below (s₁.setTop (mkF m 19 #[.val (.int p0), .val (.int p1), .val (.int p2), .val (.int p3), .val (.int p4), .val (.int p5), .val (.int p6), .val (.int p7), .unset] [(.int y1)])) _
    refine XS.istore X0.here hx rfl (hb hby d2_19) rfl (l' := #[.val (.int p0), .val (.int p1), .val (.int p2), .val (.int p3), .val (.int p4), .val (.int p5), .val (.int p6), .val (.int p7), .val (.int y1)]) rfl ?_
    show Steps p.tables e below (s₁.setTop (mkF m 21 #[.val (.int p0), .val (.int p1), .val (.int p2), .val (.int p3), .val (.int p4), .val (.int p5), .val (.int p6), .val (.int p7), .val (.int y1)] [])) _
    refine XS.iload X0.here hx rfl (hb hby d2_21) rfl ?_
    show Steps p.tables e below (s₁.setTop (mkF m 23 #[.val (.int p0), .val (.int p1), .val (.int p2), .val (.int p3), .val (.int p4), .val (.int p5), .val (.int p6), .val (.int p7), .val (.int y1)] [(.int y1)])) _
    refine XS.iloadN X0.here hx rfl (hb hby d2_23) rfl ?_
    show Steps p.tables e below (s₁.setTop (mkF m 24 #[.val (.int p0), .val (.int p1), .val (.int p2), .val (.int p3), .val (.int p4), .val (.int p5), .val (.int p6), .val (.int p7), .val (.int y1)] [(.int p3), (.int y1)])) _
    refine XS.iload X0.here hx rfl (hb hby d2_24) rfl ?_
    show Steps p.tables e below (s₁.setTop (mkF m 26 #[.val (.int p0), .val (.int p1), .val (.int p2), .val (.int p3), .val (.int p4), .val (.int p5), .val (.int p6), .val (.int p7), .val (.int y1)] [(.int p4), (.int p3), (.int y1)])) _
    refine XS.iload X0.here hx rfl (hb hby d2_26) rfl ?_
    show Steps p.tables e below (s₁.setTop (mkF m 28 #[.val (.int p0), .val (.int p1), .val (.int p2), .val (.int p3), .val (.int p4), .val (.int p5), .val (.int p6), .val (.int p7), .val (.int y1)] [(.int p5), (.int p4), (.int p3), (.int y1)])) _
    refine XS.iload X0.here hx rfl (hb hby d2_28) rfl ?_
    show Steps p.tables e below (s₁.setTop (mkF m 30 #[.val (.int p0), .val (.int p1), .val (.int p2), .val (.int p3), .val (.int p4), .val (.int p5), .val (.int p6), .val (.int p7), .val (.int y1)] [(.int p6), (.int p5), (.int p4), (.int p3), (.int y1)])) _
    refine XS.iload X0.here hx rfl (hb hby d2_30) rfl ?_
    exact kt
  obtain ⟨_, _, ⟨T2, L2, k2, n2⟩, -, X2, ⟨Lc2, hQ2, l2, y2, z2⟩, st2⟩ := Jvm.LawKit.callS X0 hx (y := (⟨"com/example/paretoforge/paretoforge/core/PermutationsSwappedPinLaw", "orig", "(IIIIII)I"⟩ : MethodName)) hown (mvT hZ (hw _ (List.mem_of_getElem? (i := 18) rfl))) (mvT hZ (hw _ (List.mem_of_getElem? (i := 19) rfl))) (mvT hZ (hw _ (List.mem_of_getElem? (i := 16) rfl))) (mvT hZ (hw _ (List.mem_of_getElem? (i := 20) rfl))) (by decide) (backOf (W := 0) (rm3 l Z aZ hw [] y1 p3 p4 p5 p6 p7 h0 n0 Z0 ) hZ (hw _ (List.mem_of_getElem? (i := 20) rfl)) (hw _ (List.mem_of_getElem? (i := 16) rfl)) (by decide) (by decide)) (g := (mkF m 32 #[.val (.int p0), .val (.int p1), .val (.int p2), .val (.int p3), .val (.int p4), .val (.int p5), .val (.int p6), .val (.int p7), .val (.int y1)] [(.int p7), (.int p6), (.int p5), (.int p4), (.int p3), (.int y1)])) rfl (by rw [hml]; rfl) (argsL := [(.int y1), (.int p3), (.int p4), (.int p5), (.int p6), (.int p7)]) (rest := []) (lenOf own_pd0 rfl) rfl (by show 2 * 0 + _ ≤ _; exact Nat.le_of_eq rfl) (hb hby d2_32) (fun _ _ => ⟨rfl, e0, (by decide : 0 + 0 ≤ _), (by decide : 0 + 0 ≤ _)⟩)
  dsimp only [Pt.U, Pt.locs, Pt.cells, Pt.slots] at X2 l2 y2 z2 st2 hQ2
  subst l2 y2 z2
  obtain ⟨rfl, N2q, e2⟩ := hQ2
  have N2 := Fr.app N0 N2q
  refine own_go (S' := T2.setTop (mkF m 35 #[.val (.int p0), .val (.int p1), .val (.int p2), .val (.int p3), .val (.int p4), .val (.int p5), .val (.int p6), .val (.int p7), .val (.int y1)] [(.int (own_orig y1 p3 p4 p5 p6 p7))])) st2 ?_
  obtain ⟨fs, hr, hrun, hended, hW, hsame⟩ := X2.leave (v := some (.int (own_orig y1 p3 p4 p5 p6 p7))) (fun h => by rw [Bd.returns] at h; cases h)
  refine ⟨_, _, ?_, hrun, hended, _, _, rfl, ?_, ⟨_, rfl⟩, hW, hsame.mono (by decide) (by decide)⟩
  · exact retI X2 hx Bd.returns (hb hby d2_35) hr
  · show Q2 Z p0 p1 p2 p3 p4 p5 p6 p7 h0 n0 _ T2.heap _
    rw [e2]
    exact ⟨(by subst h_y1; (first | rfl | (simp only [own_expect]; done) | (simp [own_expect]; done))), N2, rfl⟩
theorem d1_0 : decode prog_60_method_4_code 0 = .ok (.aload_n 0, 1) := by decide +kernel
theorem d1_1 : decode prog_60_method_4_code 1 = .ok (.invokevirtual 13, 3) := by decide +kernel
theorem d1_4 : decode prog_60_method_4_code 4 = .ok (.checkcast 14, 3) := by decide +kernel
theorem d1_7 : decode prog_60_method_4_code 7 = .ok (.astore_n 3, 1) := by decide +kernel
theorem d1_8 : decode prog_60_method_4_code 8 = .ok (.aload_n 3, 1) := by decide +kernel
theorem d1_9 : decode prog_60_method_4_code 9 = .ok (.iload_n 1, 1) := by decide +kernel
theorem d1_10 : decode prog_60_method_4_code 10 = .ok (.aload_n 0, 1) := by decide +kernel
theorem d1_11 : decode prog_60_method_4_code 11 = .ok (.iload_n 2, 1) := by decide +kernel
theorem d1_12 : decode prog_60_method_4_code 12 = .ok (.iaload, 1) := by decide +kernel
theorem d1_13 : decode prog_60_method_4_code 13 = .ok (.iastore, 1) := by decide +kernel
theorem d1_14 : decode prog_60_method_4_code 14 = .ok (.aload_n 3, 1) := by decide +kernel
theorem d1_15 : decode prog_60_method_4_code 15 = .ok (.iload_n 2, 1) := by decide +kernel
theorem d1_16 : decode prog_60_method_4_code 16 = .ok (.aload_n 0, 1) := by decide +kernel
theorem d1_17 : decode prog_60_method_4_code 17 = .ok (.iload_n 1, 1) := by decide +kernel
theorem d1_18 : decode prog_60_method_4_code 18 = .ok (.iaload, 1) := by decide +kernel
theorem d1_19 : decode prog_60_method_4_code 19 = .ok (.iastore, 1) := by decide +kernel
theorem d1_20 : decode prog_60_method_4_code 20 = .ok (.aload_n 3, 1) := by decide +kernel
theorem d1_21 : decode prog_60_method_4_code 21 = .ok (.areturn, 1) := by decide +kernel
theorem own_pd1 : parseMethodDescriptor "()Ljava/lang/Object;" = some ⟨[], some (.object "java/lang/Object")⟩ := by decide +kernel
theorem own_pn1 : plainName "com/example/paretoforge/paretoforge/core/Permutations" = true := by first | (simp [plainName, overriddenIn]; done) | decide +kernel
set_option maxHeartbeats 40000000 in
theorem own_ef_rm1 (m : MethodId) (x0 : Addr) (x1 : Int32) (x2 : Int32) : entryFrame m #[(.ref x0), (.int x1), (.int x2)] 4 = mkF m 0 #[.val (.ref x0), .val (.int x1), .val (.int x2), .unset] [] := by first | (simp [entryFrame, mkF, argsToLocals, Value.category]; done) | rfl
def Q1 (Z : State) (a0 : Addr) (p1 : Int32) (p2 : Int32) (g : Nat → Int32) (h0 : Heap) (n0 : Nat) (v : Option Value) (h : Heap) (L : List Loc) : Prop := ∃ b : Addr, v = some (.ref b) ∧ Fr n0 L ∧ Keep h0 h [] ∧ own_AI Z h b .int 5 (own_upd (own_upd g (p1).toNatClampNeg (g (p2).toNatClampNeg)) (p2).toNatClampNeg (g (p1).toNatClampNeg)) ∧ h0.size ≤ b
set_option maxRecDepth 65536 in
set_option maxHeartbeats 40000000 in
theorem rm1 (l : Launch) (Z : State) (aZ : Array Value) (hw : ∀ d ∈ tables_1, d.before aZ Z = true) (ws : List Jvm.Cond) (a0 : Addr) (p1 : Int32) (p2 : Int32) (g : Nat → Int32) (h0 : Heap) (n0 : Nat) (Z0 : n0 ≤ h0.size) (pf0 : own_AI Z h0 a0 .int 5 g) (pf1 : Exa Z h0 a0 "[I") (hi1 : ¬ p1 < 0 ∧ (p1).toNatClampNeg < 5) (hi2 : ¬ p2 < 0 ∧ (p2).toNatClampNeg < 5) :
    MetFree l (⟨"com/example/paretoforge/paretoforge/core/Permutations", "swapped", "([III)[I"⟩ : MethodName) (head1 (Jvm.Cond.code (⟨"com/example/paretoforge/paretoforge/core/Permutations", "swapped", "([III)[I"⟩ : MethodName) prog_60_method_4_code 4 (some (.array .int)) :: ws) ({ frames := 1, cells := 1, slots := 5, locals := 14 } : Room)) (fun a U => a = #[(.ref a0), (.int p1), (.int p2)] ∧ Z.Warmed39 U.vm ∧ U.heap = h0) (fun _ _ _ _ _ => True) (fun _ U o U' => ∃ v L, o = .returned v ∧ Q1 Z a0 p1 p2 g h0 n0 v U'.heap L ∧ FrameEnd U o U' L ({ frames := 1, cells := 1, slots := 5, locals := 14 } : Room).cells ({ frames := 1, cells := 1, slots := 5, locals := 14 } : Room).slots) := by
  refine MetFree.of_bodySF (plainFor_of_name own_pn1) hisR ?_
  intro p e s m args below meth c s₁ Bd hml0 hP hK
  obtain ⟨rfl, hZ, hh⟩ := hP
  have hx := Bd.exec
  have hby := Bd.bytes
  have hml : c.maxLocals = 4 := hml0
  have hown : s.vm.findClass "com/example/paretoforge/paretoforge/core/Permutations" = some m.cls := findClass_of_methodNamed Bd.named
  have hnm := (name_of_methodNamed Bd.named Bd.method).1
  have X0 : Stand p l e ({ frames := 1, cells := 1, slots := 5, locals := 14 } : Room) s m #[(.ref a0), (.int p1), (.int p2)] below meth c s₁ [] 0 0 := Stand.of_body Bd
  have e0 : s₁.heap = h0 := by rw [← hh, Bd.state]; rfl
  have N0 := Fr.nil n0
  have K0 : Keep h0 h0 [] := Keep.refl h0 _
  refine own_go (S' := s₁.setTop (mkF m 0 #[.val (.ref a0), .val (.int p1), .val (.int p2), .unset] [])) (fun t k => castTop (own_ef_rm1 m a0 p1 p2) k) ?_
  refine own_go (S' := s₁.setTop (mkF m 1 #[.val (.ref a0), .val (.int p1), .val (.int p2), .unset] [(.ref a0)])) (fun target kt => ?_) ?_
  · skip
    show Steps p.tables e below (s₁.setTop (mkF m 0 #[.val (.ref a0), .val (.int p1), .val (.int p2), .unset] [])) _
    refine XS.aloadN X0.here hx rfl (hb hby d1_0) rfl rfl ?_
    exact kt
  obtain ⟨c3, Ar3, S3, M3, H3⟩ := id pf0
  obtain ⟨T4, h4, X4, e4, E4, A4, B4, st4⟩ := cloneA X0 hx hZ hown (hw _ (List.mem_of_getElem? (i := 5) rfl)) (hw _ (List.mem_of_getElem? (i := 6) rfl)) (hw _ (List.mem_of_getElem? (i := 10) rfl)) (hw _ (List.mem_of_getElem? (i := 8) rfl)) (hw _ (List.mem_of_getElem? (i := 9) rfl)) (hw _ (List.mem_of_getElem? (i := 11) rfl)) e0 Ar3 pf1 (own_fitI Ar3 S3 H3) (g := (mkF m 1 #[.val (.ref a0), .val (.int p1), .val (.int p2), .unset] [(.ref a0)])) rfl (by rw [hml]; rfl) rfl (hb hby d1_1) (by decide) (W := 0) (cap := 5) (by show 2 * 0 + _ ≤ _; exact Nat.le_of_eq rfl) (by decide) (by rw [S3]; decide) (by decide) (by decide)
  obtain ⟨b4, g4⟩ : ∃ z, z = h0.size := ⟨_, rfl⟩
  rw [← g4] at A4 B4 st4
  have f5 : own_AI Z h4 a0 .int 5 g := pf0.ext E4
  have f6 : Exa Z h4 a0 "[I" := pf1.ext E4
  have g_b4 : n0 ≤ b4 := Nat.le_trans Z0 (Nat.le_of_eq g4.symm)
  have sz_b4 : h0.size ≤ b4 := Nat.le_trans K0.1 (Nat.le_of_eq g4.symm)
  have ne_a0_b4 : a0 ≠ b4 := Nat.ne_of_lt (Nat.lt_of_lt_of_le pf0.lt (Nat.le_of_eq g4.symm))
  have Z4 : n0 ≤ h4.size := Nat.le_trans Z0 E4.1
  have K4 : Keep h0 h4 [] := K0.ext E4
  have f7 : own_AI Z h4 b4 .int 5 g := ⟨_, A4, S3, M3, H3⟩
  refine own_go (S' := T4.setTop (mkF m 4 #[.val (.ref a0), .val (.int p1), .val (.int p2), .unset] [(.ref b4)])) st4 ?_
  obtain ⟨T8, X8, e8, st8⟩ := castY X4 hx hZ hown (hw _ (List.mem_of_getElem? (i := 12) rfl)) e4 (Ins.self B4) (g := (mkF m 4 #[.val (.ref a0), .val (.int p1), .val (.int p2), .unset] [(.ref b4)])) rfl rfl (hb hby d1_4)
  refine own_go (S' := T8.setTop (mkF m 7 #[.val (.ref a0), .val (.int p1), .val (.int p2), .unset] [(.ref b4)])) st8 ?_
  refine own_go (S' := T8.setTop (mkF m 12 #[.val (.ref a0), .val (.int p1), .val (.int p2), .val (.ref b4)] [(.int p2), (.ref a0), (.int p1), (.ref b4)])) (fun target kt => ?_) ?_
  · skip
    show Steps p.tables e below (T8.setTop (mkF m 7 #[.val (.ref a0), .val (.int p1), .val (.int p2), .unset] [(.ref b4)])) _
    refine XS.astoreN X8.here hx rfl (hb hby d1_7) rfl rfl (l' := #[.val (.ref a0), .val (.int p1), .val (.int p2), .val (.ref b4)]) rfl ?_
    show Steps p.tables e below (T8.setTop (mkF m 8 #[.val (.ref a0), .val (.int p1), .val (.int p2), .val (.ref b4)] [])) _
    refine XS.aloadN X8.here hx rfl (hb hby d1_8) rfl rfl ?_
    show Steps p.tables e below (T8.setTop (mkF m 9 #[.val (.ref a0), .val (.int p1), .val (.int p2), .val (.ref b4)] [(.ref b4)])) _
    refine XS.iloadN X8.here hx rfl (hb hby d1_9) rfl ?_
    show Steps p.tables e below (T8.setTop (mkF m 10 #[.val (.ref a0), .val (.int p1), .val (.int p2), .val (.ref b4)] [(.int p1), (.ref b4)])) _
    refine XS.aloadN X8.here hx rfl (hb hby d1_10) rfl rfl ?_
    show Steps p.tables e below (T8.setTop (mkF m 11 #[.val (.ref a0), .val (.int p1), .val (.int p2), .val (.ref b4)] [(.ref a0), (.int p1), (.ref b4)])) _
    refine XS.iloadN X8.here hx rfl (hb hby d1_11) rfl ?_
    exact kt
  obtain ⟨c9, Ar9, S9, M9, H9⟩ := id f5
  have hj9 : ¬ p2 < 0 ∧ (p2).toNatClampNeg < 5 := hi2
  have st9 : ∀ target, Steps p.tables e below (T8.setTop (mkF m 13 #[.val (.ref a0), .val (.int p1), .val (.int p2), .val (.ref b4)] [(.int (g (p2).toNatClampNeg)), (.int p1), (.ref b4)])) target → Steps p.tables e below (T8.setTop (mkF m 12 #[.val (.ref a0), .val (.int p1), .val (.int p2), .val (.ref b4)] [(.int p2), (.ref a0), (.int p1), (.ref b4)])) target := fun target kt => X8.iaload hx (j := p2) (v := (.int (g (p2).toNatClampNeg))) (by rw [e8]; exact Ar9.1) (State.isArrayOf_alike hZ.alike Ar9.2.1) Ar9.2.2 (own_in S9 hj9) (H9 _ hj9.2) (g := (mkF m 12 #[.val (.ref a0), .val (.int p1), .val (.int p2), .val (.ref b4)] [(.int p2), (.ref a0), (.int p1), (.ref b4)])) rfl rfl (hb hby d1_12) _ kt
  refine own_go (S' := T8.setTop (mkF m 13 #[.val (.ref a0), .val (.int p1), .val (.int p2), .val (.ref b4)] [(.int (g (p2).toNatClampNeg)), (.int p1), (.ref b4)])) st9 ?_
  obtain ⟨c10, Ar10, S10, M10, H10⟩ := id f7
  have hin10 : ¬ (p1 < 0 ∨ c10.slots.size ≤ (p1).toNatClampNeg) := own_in S10 hi1
  obtain ⟨T11, h11, X11, e11, W11, st11⟩ := stI X8 hx hZ e8 Ar10 (j := p1) hin10 (g := (mkF m 13 #[.val (.ref a0), .val (.int p1), .val (.int p2), .val (.ref b4)] [(.int (g (p2).toNatClampNeg)), (.int p1), (.ref b4)])) rfl rfl (hb hby d1_13)
  have f13 : own_AI Z h11 a0 .int 5 g := f5.other W11 ne_a0_b4
  have f14 : Exa Z h11 a0 "[I" := f6.wr W11
  have f15 : Exa Z h11 b4 "[I" := B4.wr W11
  have f12 : own_AI Z h11 b4 .int 5 (own_upd g (p1).toNatClampNeg (g (p2).toNatClampNeg)) := own_AI.set Ar10 S10 M10 H10 W11
  have Z11 : n0 ≤ h11.size := Nat.le_trans Z4 (Keep.of_wr W11).1
  have K11 : Keep h0 h11 [] := K4.wr W11 (Or.inr sz_b4)
  have N11 := Fr.snoc X11 N0 g_b4
  refine own_go (S' := T11.setTop (mkF m 14 #[.val (.ref a0), .val (.int p1), .val (.int p2), .val (.ref b4)] [])) st11 ?_
  refine own_go (S' := T11.setTop (mkF m 18 #[.val (.ref a0), .val (.int p1), .val (.int p2), .val (.ref b4)] [(.int p1), (.ref a0), (.int p2), (.ref b4)])) (fun target kt => ?_) ?_
  · skip
    show Steps p.tables e below (T11.setTop (mkF m 14 #[.val (.ref a0), .val (.int p1), .val (.int p2), .val (.ref b4)] [])) _
    refine XS.aloadN X11.here hx rfl (hb hby d1_14) rfl rfl ?_
    show Steps p.tables e below (T11.setTop (mkF m 15 #[.val (.ref a0), .val (.int p1), .val (.int p2), .val (.ref b4)] [(.ref b4)])) _
    refine XS.iloadN X11.here hx rfl (hb hby d1_15) rfl ?_
    show Steps p.tables e below (T11.setTop (mkF m 16 #[.val (.ref a0), .val (.int p1), .val (.int p2), .val (.ref b4)] [(.int p2), (.ref b4)])) _
    refine XS.aloadN X11.here hx rfl (hb hby d1_16) rfl rfl ?_
    show Steps p.tables e below (T11.setTop (mkF m 17 #[.val (.ref a0), .val (.int p1), .val (.int p2), .val (.ref b4)] [(.ref a0), (.int p2), (.ref b4)])) _
    refine XS.iloadN X11.here hx rfl (hb hby d1_17) rfl ?_
    exact kt
  obtain ⟨c16, Ar16, S16, M16, H16⟩ := id f13
  have hj16 : ¬ p1 < 0 ∧ (p1).toNatClampNeg < 5 := hi1
  have st16 : ∀ target, Steps p.tables e below (T11.setTop (mkF m 19 #[.val (.ref a0), .val (.int p1), .val (.int p2), .val (.ref b4)] [(.int (g (p1).toNatClampNeg)), (.int p2), (.ref b4)])) target → Steps p.tables e below (T11.setTop (mkF m 18 #[.val (.ref a0), .val (.int p1), .val (.int p2), .val (.ref b4)] [(.int p1), (.ref a0), (.int p2), (.ref b4)])) target := fun target kt => X11.iaload hx (j := p1) (v := (.int (g (p1).toNatClampNeg))) (by rw [e11]; exact Ar16.1) (State.isArrayOf_alike hZ.alike Ar16.2.1) Ar16.2.2 (own_in S16 hj16) (H16 _ hj16.2) (g := (mkF m 18 #[.val (.ref a0), .val (.int p1), .val (.int p2), .val (.ref b4)] [(.int p1), (.ref a0), (.int p2), (.ref b4)])) rfl rfl (hb hby d1_18) _ kt
  refine own_go (S' := T11.setTop (mkF m 19 #[.val (.ref a0), .val (.int p1), .val (.int p2), .val (.ref b4)] [(.int (g (p1).toNatClampNeg)), (.int p2), (.ref b4)])) st16 ?_
  obtain ⟨c17, Ar17, S17, M17, H17⟩ := id f12
  have hin17 : ¬ (p2 < 0 ∨ c17.slots.size ≤ (p2).toNatClampNeg) := own_in S17 hi2
  obtain ⟨T18, h18, X18, e18, W18, st18⟩ := stI X11 hx hZ e11 Ar17 (j := p2) hin17 (g := (mkF m 19 #[.val (.ref a0), .val (.int p1), .val (.int p2), .val (.ref b4)] [(.int (g (p1).toNatClampNeg)), (.int p2), (.ref b4)])) rfl rfl (hb hby d1_19)
  have f20 : own_AI Z h18 a0 .int 5 g := f13.other W18 ne_a0_b4
  have f21 : Exa Z h18 a0 "[I" := f14.wr W18
  have f22 : Exa Z h18 b4 "[I" := f15.wr W18
  have f19 : own_AI Z h18 b4 .int 5 (own_upd (own_upd g (p1).toNatClampNeg (g (p2).toNatClampNeg)) (p2).toNatClampNeg (g (p1).toNatClampNeg)) := own_AI.set Ar17 S17 M17 H17 W18
  have Z18 : n0 ≤ h18.size := Nat.le_trans Z11 (Keep.of_wr W18).1
  have K18 : Keep h0 h18 [] := K11.wr W18 (Or.inr sz_b4)
  have N18 := Fr.snoc X18 N11 g_b4
  refine own_go (S' := T18.setTop (mkF m 20 #[.val (.ref a0), .val (.int p1), .val (.int p2), .val (.ref b4)] [])) st18 ?_
  refine own_go (S' := T18.setTop (mkF m 21 #[.val (.ref a0), .val (.int p1), .val (.int p2), .val (.ref b4)] [(.ref b4)])) (fun target kt => ?_) ?_
  · skip
    show Steps p.tables e below (T18.setTop (mkF m 20 #[.val (.ref a0), .val (.int p1), .val (.int p2), .val (.ref b4)] [])) _
    refine XS.aloadN X18.here hx rfl (hb hby d1_20) rfl rfl ?_
    exact kt
  obtain ⟨fs, hr, hrun, hended, hW, hsame⟩ := X18.leave (v := some (.ref b4)) (fun h => by rw [Bd.returns] at h; cases h)
  refine ⟨_, _, ?_, hrun, hended, _, _, rfl, ?_, ⟨_, rfl⟩, hW, hsame.mono (by decide) (by decide)⟩
  · exact retA X18 hx Bd.returns rfl (hb hby d1_21) rfl hr
  · show Q1 Z a0 p1 p2 g h0 n0 _ T18.heap _
    rw [e18]
    exact ⟨b4, rfl, N18, K18, f19, (by assumption)⟩
theorem own_m32 {q k : Int32} (h : 0 ≤ q.toInt) : (q % k).toInt = q.toInt % k.toInt := by rw [Int32.toInt_mod, Int.tmod_eq_emod_of_nonneg h]
theorem own_c1 {x i : Int32} (h : i = ((x &&& (255 : Int32)) % (5 : Int32))) : i = 0 ∨ i = 1 ∨ i = 2 ∨ i = 3 ∨ i = 4 := by
  have e := Jvm.Kit.i32_mask x 255 (k := 8) (by decide) (by decide)
  have k5 : (5 : Int32).toInt = 5 := by decide
  have hn : i.toInt = (x &&& (255 : Int32)).toInt % 5 := by rw [h, own_m32 (by omega), k5]
  have c : i.toInt = 0 ∨ i.toInt = 1 ∨ i.toInt = 2 ∨ i.toInt = 3 ∨ i.toInt = 4 := by omega
  rcases c with c | c | c | c | c
  · exact Or.inl (Int32.toInt_inj.mp c)
  · exact Or.inr (Or.inl (Int32.toInt_inj.mp c))
  · exact Or.inr (Or.inr (Or.inl (Int32.toInt_inj.mp c)))
  · exact Or.inr (Or.inr (Or.inr (Or.inl (Int32.toInt_inj.mp c))))
  · exact Or.inr (Or.inr (Or.inr (Or.inr (Int32.toInt_inj.mp c))))
theorem own_c2 {x i : Int32} (h : i = (((own_ushr x (8 : Int32)) &&& (255 : Int32)) % (5 : Int32))) : i = 0 ∨ i = 1 ∨ i = 2 ∨ i = 3 ∨ i = 4 := own_c1 h
theorem own_ib {i : Int32} (h : i = 0 ∨ i = 1 ∨ i = 2 ∨ i = 3 ∨ i = 4) : ¬ i < 0 ∧ (i).toNatClampNeg < 5 := by rcases h with rfl | rfl | rfl | rfl | rfl <;> exact ⟨by decide, by decide⟩

theorem own_sw0 {gp : Nat → Int32} {i j a b c d e : Int32} (hg : gp = own_upd (own_upd (own_upd (own_upd (own_upd (fun _ => 0) 0 a) 1 b) 2 c) 3 d) 4 e) (hi : i = 0 ∨ i = 1 ∨ i = 2 ∨ i = 3 ∨ i = 4) (hj : j = 0 ∨ j = 1 ∨ j = 2 ∨ j = 3 ∨ j = 4) : (own_upd (own_upd gp (i).toNatClampNeg (gp (j).toNatClampNeg)) (j).toNatClampNeg (gp (i).toNatClampNeg)) 0 = own_expect (0 : Int32) i j a b c d e := by
  subst hg; rcases hi with rfl | rfl | rfl | rfl | rfl <;> rcases hj with rfl | rfl | rfl | rfl | rfl <;> rfl
theorem own_sw1 {gp : Nat → Int32} {i j a b c d e : Int32} (hg : gp = own_upd (own_upd (own_upd (own_upd (own_upd (fun _ => 0) 0 a) 1 b) 2 c) 3 d) 4 e) (hi : i = 0 ∨ i = 1 ∨ i = 2 ∨ i = 3 ∨ i = 4) (hj : j = 0 ∨ j = 1 ∨ j = 2 ∨ j = 3 ∨ j = 4) : (own_upd (own_upd gp (i).toNatClampNeg (gp (j).toNatClampNeg)) (j).toNatClampNeg (gp (i).toNatClampNeg)) 1 = own_expect (1 : Int32) i j a b c d e := by
  subst hg; rcases hi with rfl | rfl | rfl | rfl | rfl <;> rcases hj with rfl | rfl | rfl | rfl | rfl <;> rfl
theorem own_sw2 {gp : Nat → Int32} {i j a b c d e : Int32} (hg : gp = own_upd (own_upd (own_upd (own_upd (own_upd (fun _ => 0) 0 a) 1 b) 2 c) 3 d) 4 e) (hi : i = 0 ∨ i = 1 ∨ i = 2 ∨ i = 3 ∨ i = 4) (hj : j = 0 ∨ j = 1 ∨ j = 2 ∨ j = 3 ∨ j = 4) : (own_upd (own_upd gp (i).toNatClampNeg (gp (j).toNatClampNeg)) (j).toNatClampNeg (gp (i).toNatClampNeg)) 2 = own_expect (2 : Int32) i j a b c d e := by
  subst hg; rcases hi with rfl | rfl | rfl | rfl | rfl <;> rcases hj with rfl | rfl | rfl | rfl | rfl <;> rfl
theorem own_sw3 {gp : Nat → Int32} {i j a b c d e : Int32} (hg : gp = own_upd (own_upd (own_upd (own_upd (own_upd (fun _ => 0) 0 a) 1 b) 2 c) 3 d) 4 e) (hi : i = 0 ∨ i = 1 ∨ i = 2 ∨ i = 3 ∨ i = 4) (hj : j = 0 ∨ j = 1 ∨ j = 2 ∨ j = 3 ∨ j = 4) : (own_upd (own_upd gp (i).toNatClampNeg (gp (j).toNatClampNeg)) (j).toNatClampNeg (gp (i).toNatClampNeg)) 3 = own_expect (3 : Int32) i j a b c d e := by
  subst hg; rcases hi with rfl | rfl | rfl | rfl | rfl <;> rcases hj with rfl | rfl | rfl | rfl | rfl <;> rfl
theorem own_sw4 {gp : Nat → Int32} {i j a b c d e : Int32} (hg : gp = own_upd (own_upd (own_upd (own_upd (own_upd (fun _ => 0) 0 a) 1 b) 2 c) 3 d) 4 e) (hi : i = 0 ∨ i = 1 ∨ i = 2 ∨ i = 3 ∨ i = 4) (hj : j = 0 ∨ j = 1 ∨ j = 2 ∨ j = 3 ∨ j = 4) : (own_upd (own_upd gp (i).toNatClampNeg (gp (j).toNatClampNeg)) (j).toNatClampNeg (gp (i).toNatClampNeg)) 4 = own_expect (4 : Int32) i j a b c d e := by
  subst hg; rcases hi with rfl | rfl | rfl | rfl | rfl <;> rcases hj with rfl | rfl | rfl | rfl | rfl <;> rfl
theorem own_pd2 : parseMethodDescriptor "([III)[I" = some ⟨[(.array .int), .int, .int], some (.array .int)⟩ := by decide +kernel
theorem own_pd3 : parseMethodDescriptor "(IIIIIIII)I" = some ⟨[.int, .int, .int, .int, .int, .int, .int, .int], some .int⟩ := by decide +kernel
set_option maxHeartbeats 40000000 in
theorem own_ef_rm0 (m : MethodId) (x0 : Int32) (x1 : Int32) (x2 : Int32) (x3 : Int32) (x4 : Int32) (x5 : Int32) : entryFrame m #[(.int x0), (.int x1), (.int x2), (.int x3), (.int x4), (.int x5)] maxLocals = mkF m 0 #[.val (.int x0), .val (.int x1), .val (.int x2), .val (.int x3), .val (.int x4), .val (.int x5), .unset, .unset, .unset, .unset, .unset, .unset] [] := by first | (simp [entryFrame, mkF, argsToLocals, Value.category, maxLocals]; done) | rfl
def Q0 (Z : State) (p0 : Int32) (p1 : Int32) (p2 : Int32) (p3 : Int32) (p4 : Int32) (p5 : Int32) (h0 : Heap) (n0 : Nat) (v : Option Value) (h : Heap) (L : List Loc) : Prop := v = some (.int 1) ∧ Fr n0 L
set_option maxRecDepth 65536 in
set_option maxHeartbeats 40000000 in
theorem rm0 (l : Launch) (Z : State) (aZ : Array Value) (hw : ∀ d ∈ tables_1, d.before aZ Z = true) (ws : List Jvm.Cond) (p0 : Int32) (p1 : Int32) (p2 : Int32) (p3 : Int32) (p4 : Int32) (p5 : Int32) (h0 : Heap) (n0 : Nat) (Z0 : n0 ≤ h0.size) :
    MetFree l x (head1 (Jvm.Cond.code x code maxLocals ret :: ws) room_1) (fun a U => a = #[(.int p0), (.int p1), (.int p2), (.int p3), (.int p4), (.int p5)] ∧ Z.Warmed39 U.vm ∧ U.heap = h0) (fun _ _ _ _ _ => True) (fun _ U o U' => ∃ v L, o = .returned v ∧ Q0 Z p0 p1 p2 p3 p4 p5 h0 n0 v U'.heap L ∧ FrameEnd U o U' L room_1.cells room_1.slots) := by
  refine MetFree.of_bodySF (plainFor_of_name own_pn0) hisR ?_
  intro p e s m args below meth c s₁ Bd hml0 hP hK
  obtain ⟨rfl, hZ, hh⟩ := hP
  have hx := Bd.exec
  have hby := Bd.bytes
  have hml : c.maxLocals = 12 := hml0
  have hown : s.vm.findClass "com/example/paretoforge/paretoforge/core/PermutationsSwappedPinLaw" = some m.cls := findClass_of_methodNamed Bd.named
  have hnm := (name_of_methodNamed Bd.named Bd.method).1
  have X0 : Stand p l e room_1 s m #[(.int p0), (.int p1), (.int p2), (.int p3), (.int p4), (.int p5)] below meth c s₁ [] 0 0 := Stand.of_body Bd
  have e0 : s₁.heap = h0 := by rw [← hh, Bd.state]; rfl
  have N0 := Fr.nil n0
  refine own_go (S' := s₁.setTop (mkF m 0 #[.val (.int p0), .val (.int p1), .val (.int p2), .val (.int p3), .val (.int p4), .val (.int p5), .unset, .unset, .unset, .unset, .unset, .unset] [])) (fun t k => castTop (own_ef_rm0 m p0 p1 p2 p3 p4 p5) k) ?_
  obtain ⟨i, h_i⟩ : ∃ z : Int32, z = ((p5 &&& (255 : Int32)) % (5 : Int32)) := ⟨_, rfl⟩
  refine own_go (S' := s₁.setTop (mkF m 10 #[.val (.int p0), .val (.int p1), .val (.int p2), .val (.int p3), .val (.int p4), .val (.int p5), .val (.int i), .unset, .unset, .unset, .unset, .unset] [])) (fun target kt => ?_) ?_
  · subst h_i
    show Steps p.tables e below (s₁.setTop (mkF m 0 #[.val (.int p0), .val (.int p1), .val (.int p2), .val (.int p3), .val (.int p4), .val (.int p5), .unset, .unset, .unset, .unset, .unset, .unset] [])) _
    refine XS.iload X0.here hx rfl (hb hby at_0) rfl ?_
    show Steps p.tables e below (s₁.setTop (mkF m 2 #[.val (.int p0), .val (.int p1), .val (.int p2), .val (.int p3), .val (.int p4), .val (.int p5), .unset, .unset, .unset, .unset, .unset, .unset] [(.int p5)])) _
    refine XS.sipush X0.here hx rfl (hb hby at_2) ?_
    show Steps p.tables e below (s₁.setTop (mkF m 5 #[.val (.int p0), .val (.int p1), .val (.int p2), .val (.int p3), .val (.int p4), .val (.int p5), .unset, .unset, .unset, .unset, .unset, .unset] [(.int (255 : Int32)), (.int p5)])) _
    refine XS.iand X0.here hx rfl (hb hby at_5) rfl ?_
    show Steps p.tables e below (s₁.setTop (mkF m 6 #[.val (.int p0), .val (.int p1), .val (.int p2), .val (.int p3), .val (.int p4), .val (.int p5), .unset, .unset, .unset, .unset, .unset, .unset] [(.int (p5 &&& (255 : Int32)))])) _
    refine XS.iconst X0.here hx rfl (hb hby at_6) ?_
    show Steps p.tables e below (s₁.setTop (mkF m 7 #[.val (.int p0), .val (.int p1), .val (.int p2), .val (.int p3), .val (.int p4), .val (.int p5), .unset, .unset, .unset, .unset, .unset, .unset] [(.int (5 : Int32)), (.int (p5 &&& (255 : Int32)))])) _
    refine iremM (g := (mkF m 7 #[.val (.int p0), .val (.int p1), .val (.int p2), .val (.int p3), .val (.int p4), .val (.int p5), .unset, .unset, .unset, .unset, .unset, .unset] [(.int (5 : Int32)), (.int (p5 &&& (255 : Int32)))])) X0 hx rfl (hb hby at_7) rfl (by decide) ?_
    show Steps p.tables e below (s₁.setTop (mkF m 8 #[.val (.int p0), .val (.int p1), .val (.int p2), .val (.int p3), .val (.int p4), .val (.int p5), .unset, .unset, .unset, .unset, .unset, .unset] [(.int ((p5 &&& (255 : Int32)) % (5 : Int32)))])) _
    refine XS.istore X0.here hx rfl (hb hby at_8) rfl (l' := #[.val (.int p0), .val (.int p1), .val (.int p2), .val (.int p3), .val (.int p4), .val (.int p5), .val (.int ((p5 &&& (255 : Int32)) % (5 : Int32))), .unset, .unset, .unset, .unset, .unset]) rfl ?_
    exact kt
  obtain ⟨j, h_j⟩ : ∃ z : Int32, z = (((own_ushr p5 (8 : Int32)) &&& (255 : Int32)) % (5 : Int32)) := ⟨_, rfl⟩
  refine own_go (S' := s₁.setTop (mkF m 23 #[.val (.int p0), .val (.int p1), .val (.int p2), .val (.int p3), .val (.int p4), .val (.int p5), .val (.int i), .val (.int j), .unset, .unset, .unset, .unset] [])) (fun target kt => ?_) ?_
  · subst h_j
    show Steps p.tables e below (s₁.setTop (mkF m 10 #[.val (.int p0), .val (.int p1), .val (.int p2), .val (.int p3), .val (.int p4), .val (.int p5), .val (.int i), .unset, .unset, .unset, .unset, .unset] [])) _
    refine XS.iload X0.here hx rfl (hb hby at_10) rfl ?_
    show Steps p.tables e below (s₁.setTop (mkF m 12 #[.val (.int p0), .val (.int p1), .val (.int p2), .val (.int p3), .val (.int p4), .val (.int p5), .val (.int i), .unset, .unset, .unset, .unset, .unset] [(.int p5)])) _
    refine XS.bipush X0.here hx rfl (hb hby at_12) ?_
    show Steps p.tables e below (s₁.setTop (mkF m 14 #[.val (.int p0), .val (.int p1), .val (.int p2), .val (.int p3), .val (.int p4), .val (.int p5), .val (.int i), .unset, .unset, .unset, .unset, .unset] [(.int (8 : Int32)), (.int p5)])) _
    refine XS.iushr X0.here hx rfl (hb hby at_14) rfl ?_
    show Steps p.tables e below (s₁.setTop (mkF m 15 #[.val (.int p0), .val (.int p1), .val (.int p2), .val (.int p3), .val (.int p4), .val (.int p5), .val (.int i), .unset, .unset, .unset, .unset, .unset] [(.int (own_ushr p5 (8 : Int32)))])) _
    refine XS.sipush X0.here hx rfl (hb hby at_15) ?_
    show Steps p.tables e below (s₁.setTop (mkF m 18 #[.val (.int p0), .val (.int p1), .val (.int p2), .val (.int p3), .val (.int p4), .val (.int p5), .val (.int i), .unset, .unset, .unset, .unset, .unset] [(.int (255 : Int32)), (.int (own_ushr p5 (8 : Int32)))])) _
    refine XS.iand X0.here hx rfl (hb hby at_18) rfl ?_
    show Steps p.tables e below (s₁.setTop (mkF m 19 #[.val (.int p0), .val (.int p1), .val (.int p2), .val (.int p3), .val (.int p4), .val (.int p5), .val (.int i), .unset, .unset, .unset, .unset, .unset] [(.int ((own_ushr p5 (8 : Int32)) &&& (255 : Int32)))])) _
    refine XS.iconst X0.here hx rfl (hb hby at_19) ?_
    show Steps p.tables e below (s₁.setTop (mkF m 20 #[.val (.int p0), .val (.int p1), .val (.int p2), .val (.int p3), .val (.int p4), .val (.int p5), .val (.int i), .unset, .unset, .unset, .unset, .unset] [(.int (5 : Int32)), (.int ((own_ushr p5 (8 : Int32)) &&& (255 : Int32)))])) _
    refine iremM (g := (mkF m 20 #[.val (.int p0), .val (.int p1), .val (.int p2), .val (.int p3), .val (.int p4), .val (.int p5), .val (.int i), .unset, .unset, .unset, .unset, .unset] [(.int (5 : Int32)), (.int ((own_ushr p5 (8 : Int32)) &&& (255 : Int32)))])) X0 hx rfl (hb hby at_20) rfl (by decide) ?_
    show Steps p.tables e below (s₁.setTop (mkF m 21 #[.val (.int p0), .val (.int p1), .val (.int p2), .val (.int p3), .val (.int p4), .val (.int p5), .val (.int i), .unset, .unset, .unset, .unset, .unset] [(.int (((own_ushr p5 (8 : Int32)) &&& (255 : Int32)) % (5 : Int32)))])) _
    refine XS.istore X0.here hx rfl (hb hby at_21) rfl (l' := #[.val (.int p0), .val (.int p1), .val (.int p2), .val (.int p3), .val (.int p4), .val (.int p5), .val (.int i), .val (.int (((own_ushr p5 (8 : Int32)) &&& (255 : Int32)) % (5 : Int32))), .unset, .unset, .unset, .unset]) rfl ?_
    exact kt
  have ci := own_c1 h_i
  have cj := own_c2 h_j
  refine own_go (S' := s₁.setTop (mkF m 24 #[.val (.int p0), .val (.int p1), .val (.int p2), .val (.int p3), .val (.int p4), .val (.int p5), .val (.int i), .val (.int j), .unset, .unset, .unset, .unset] [(.int (5 : Int32))])) (fun target kt => ?_) ?_
  · skip
    show Steps p.tables e below (s₁.setTop (mkF m 23 #[.val (.int p0), .val (.int p1), .val (.int p2), .val (.int p3), .val (.int p4), .val (.int p5), .val (.int i), .val (.int j), .unset, .unset, .unset, .unset] [])) _
    refine XS.iconst X0.here hx rfl (hb hby at_23) ?_
    exact kt
  obtain ⟨T23, h23, k23, X23, e23, E23, A23, B23, st23⟩ := newPE X0 hx hZ (hw _ (List.mem_of_getElem? (i := 0) rfl)) e0 (g := (mkF m 24 #[.val (.int p0), .val (.int p1), .val (.int p2), .val (.int p3), .val (.int p4), .val (.int p5), .val (.int i), .val (.int j), .unset, .unset, .unset, .unset] [(.int (5 : Int32))])) rfl (hb hby at_24) rfl (by decide) (cap := 5) (by decide) (by decide) (by decide) (by decide) (ad := "[I") (by decide)
  obtain ⟨b23, g23⟩ : ∃ z, z = h0.size := ⟨_, rfl⟩
  rw [← g23] at A23 B23 st23
  have g_b23 : n0 ≤ b23 := Nat.le_trans Z0 (Nat.le_of_eq g23.symm)
  have Z23 : n0 ≤ h23.size := Nat.le_trans Z0 E23.1
  have f24 : own_AI Z h23 b23 .int 5 (fun _ => 0) := own_AI.fresh A23 rfl
  refine own_go (S' := T23.setTop (mkF m 26 #[.val (.int p0), .val (.int p1), .val (.int p2), .val (.int p3), .val (.int p4), .val (.int p5), .val (.int i), .val (.int j), .unset, .unset, .unset, .unset] [(.ref b23)])) st23 ?_
  refine own_go (S' := T23.setTop (mkF m 29 #[.val (.int p0), .val (.int p1), .val (.int p2), .val (.int p3), .val (.int p4), .val (.int p5), .val (.int i), .val (.int j), .unset, .unset, .unset, .unset] [(.int p0), (.int (0 : Int32)), (.ref b23), (.ref b23)])) (fun target kt => ?_) ?_
  · skip
    show Steps p.tables e below (T23.setTop (mkF m 26 #[.val (.int p0), .val (.int p1), .val (.int p2), .val (.int p3), .val (.int p4), .val (.int p5), .val (.int i), .val (.int j), .unset, .unset, .unset, .unset] [(.ref b23)])) _
    refine XS.dup X23.here hx rfl (hb hby at_26) rfl rfl ?_
    show Steps p.tables e below (T23.setTop (mkF m 27 #[.val (.int p0), .val (.int p1), .val (.int p2), .val (.int p3), .val (.int p4), .val (.int p5), .val (.int i), .val (.int j), .unset, .unset, .unset, .unset] [(.ref b23), (.ref b23)])) _
    refine XS.iconst X23.here hx rfl (hb hby at_27) ?_
    show Steps p.tables e below (T23.setTop (mkF m 28 #[.val (.int p0), .val (.int p1), .val (.int p2), .val (.int p3), .val (.int p4), .val (.int p5), .val (.int i), .val (.int j), .unset, .unset, .unset, .unset] [(.int (0 : Int32)), (.ref b23), (.ref b23)])) _
    refine XS.iloadN X23.here hx rfl (hb hby at_28) rfl ?_
    exact kt
  obtain ⟨c25, Ar25, S25, M25, H25⟩ := id f24
  have hin25 : ¬ ((0 : Int32) < 0 ∨ c25.slots.size ≤ ((0 : Int32)).toNatClampNeg) := own_in S25 ⟨by decide, by decide⟩
  obtain ⟨T26, h26, X26, e26, W26, st26⟩ := stI X23 hx hZ e23 Ar25 (j := (0 : Int32)) hin25 (g := (mkF m 29 #[.val (.int p0), .val (.int p1), .val (.int p2), .val (.int p3), .val (.int p4), .val (.int p5), .val (.int i), .val (.int j), .unset, .unset, .unset, .unset] [(.int p0), (.int (0 : Int32)), (.ref b23), (.ref b23)])) rfl rfl (hb hby at_29)
  have f28 : Exa Z h26 b23 "[I" := B23.wr W26
  have f27 : own_AI Z h26 b23 .int 5 (own_upd (fun _ => 0) 0 p0) := own_AI.set Ar25 S25 M25 H25 W26
  have Z26 : n0 ≤ h26.size := Nat.le_trans Z23 (Keep.of_wr W26).1
  have N26 := Fr.snoc X26 N0 g_b23
  refine own_go (S' := T26.setTop (mkF m 30 #[.val (.int p0), .val (.int p1), .val (.int p2), .val (.int p3), .val (.int p4), .val (.int p5), .val (.int i), .val (.int j), .unset, .unset, .unset, .unset] [(.ref b23)])) st26 ?_
  refine own_go (S' := T26.setTop (mkF m 33 #[.val (.int p0), .val (.int p1), .val (.int p2), .val (.int p3), .val (.int p4), .val (.int p5), .val (.int i), .val (.int j), .unset, .unset, .unset, .unset] [(.int p1), (.int (1 : Int32)), (.ref b23), (.ref b23)])) (fun target kt => ?_) ?_
  · skip
    show Steps p.tables e below (T26.setTop (mkF m 30 #[.val (.int p0), .val (.int p1), .val (.int p2), .val (.int p3), .val (.int p4), .val (.int p5), .val (.int i), .val (.int j), .unset, .unset, .unset, .unset] [(.ref b23)])) _
    refine XS.dup X26.here hx rfl (hb hby at_30) rfl rfl ?_
    show Steps p.tables e below (T26.setTop (mkF m 31 #[.val (.int p0), .val (.int p1), .val (.int p2), .val (.int p3), .val (.int p4), .val (.int p5), .val (.int i), .val (.int j), .unset, .unset, .unset, .unset] [(.ref b23), (.ref b23)])) _
    refine XS.iconst X26.here hx rfl (hb hby at_31) ?_
    show Steps p.tables e below (T26.setTop (mkF m 32 #[.val (.int p0), .val (.int p1), .val (.int p2), .val (.int p3), .val (.int p4), .val (.int p5), .val (.int i), .val (.int j), .unset, .unset, .unset, .unset] [(.int (1 : Int32)), (.ref b23), (.ref b23)])) _
    refine XS.iloadN X26.here hx rfl (hb hby at_32) rfl ?_
    exact kt
  obtain ⟨c29, Ar29, S29, M29, H29⟩ := id f27
  have hin29 : ¬ ((1 : Int32) < 0 ∨ c29.slots.size ≤ ((1 : Int32)).toNatClampNeg) := own_in S29 ⟨by decide, by decide⟩
  obtain ⟨T30, h30, X30, e30, W30, st30⟩ := stI X26 hx hZ e26 Ar29 (j := (1 : Int32)) hin29 (g := (mkF m 33 #[.val (.int p0), .val (.int p1), .val (.int p2), .val (.int p3), .val (.int p4), .val (.int p5), .val (.int i), .val (.int j), .unset, .unset, .unset, .unset] [(.int p1), (.int (1 : Int32)), (.ref b23), (.ref b23)])) rfl rfl (hb hby at_33)
  have f32 : Exa Z h30 b23 "[I" := f28.wr W30
  have f31 : own_AI Z h30 b23 .int 5 (own_upd (own_upd (fun _ => 0) 0 p0) 1 p1) := own_AI.set Ar29 S29 M29 H29 W30
  have Z30 : n0 ≤ h30.size := Nat.le_trans Z26 (Keep.of_wr W30).1
  have N30 := Fr.snoc X30 N26 g_b23
  refine own_go (S' := T30.setTop (mkF m 34 #[.val (.int p0), .val (.int p1), .val (.int p2), .val (.int p3), .val (.int p4), .val (.int p5), .val (.int i), .val (.int j), .unset, .unset, .unset, .unset] [(.ref b23)])) st30 ?_
  refine own_go (S' := T30.setTop (mkF m 37 #[.val (.int p0), .val (.int p1), .val (.int p2), .val (.int p3), .val (.int p4), .val (.int p5), .val (.int i), .val (.int j), .unset, .unset, .unset, .unset] [(.int p2), (.int (2 : Int32)), (.ref b23), (.ref b23)])) (fun target kt => ?_) ?_
  · skip
    show Steps p.tables e below (T30.setTop (mkF m 34 #[.val (.int p0), .val (.int p1), .val (.int p2), .val (.int p3), .val (.int p4), .val (.int p5), .val (.int i), .val (.int j), .unset, .unset, .unset, .unset] [(.ref b23)])) _
    refine XS.dup X30.here hx rfl (hb hby at_34) rfl rfl ?_
    show Steps p.tables e below (T30.setTop (mkF m 35 #[.val (.int p0), .val (.int p1), .val (.int p2), .val (.int p3), .val (.int p4), .val (.int p5), .val (.int i), .val (.int j), .unset, .unset, .unset, .unset] [(.ref b23), (.ref b23)])) _
    refine XS.iconst X30.here hx rfl (hb hby at_35) ?_
    show Steps p.tables e below (T30.setTop (mkF m 36 #[.val (.int p0), .val (.int p1), .val (.int p2), .val (.int p3), .val (.int p4), .val (.int p5), .val (.int i), .val (.int j), .unset, .unset, .unset, .unset] [(.int (2 : Int32)), (.ref b23), (.ref b23)])) _
    refine XS.iloadN X30.here hx rfl (hb hby at_36) rfl ?_
    exact kt
  obtain ⟨c33, Ar33, S33, M33, H33⟩ := id f31
  have hin33 : ¬ ((2 : Int32) < 0 ∨ c33.slots.size ≤ ((2 : Int32)).toNatClampNeg) := own_in S33 ⟨by decide, by decide⟩
  obtain ⟨T34, h34, X34, e34, W34, st34⟩ := stI X30 hx hZ e30 Ar33 (j := (2 : Int32)) hin33 (g := (mkF m 37 #[.val (.int p0), .val (.int p1), .val (.int p2), .val (.int p3), .val (.int p4), .val (.int p5), .val (.int i), .val (.int j), .unset, .unset, .unset, .unset] [(.int p2), (.int (2 : Int32)), (.ref b23), (.ref b23)])) rfl rfl (hb hby at_37)
  have f36 : Exa Z h34 b23 "[I" := f32.wr W34
  have f35 : own_AI Z h34 b23 .int 5 (own_upd (own_upd (own_upd (fun _ => 0) 0 p0) 1 p1) 2 p2) := own_AI.set Ar33 S33 M33 H33 W34
  have Z34 : n0 ≤ h34.size := Nat.le_trans Z30 (Keep.of_wr W34).1
  have N34 := Fr.snoc X34 N30 g_b23
  refine own_go (S' := T34.setTop (mkF m 38 #[.val (.int p0), .val (.int p1), .val (.int p2), .val (.int p3), .val (.int p4), .val (.int p5), .val (.int i), .val (.int j), .unset, .unset, .unset, .unset] [(.ref b23)])) st34 ?_
  refine own_go (S' := T34.setTop (mkF m 41 #[.val (.int p0), .val (.int p1), .val (.int p2), .val (.int p3), .val (.int p4), .val (.int p5), .val (.int i), .val (.int j), .unset, .unset, .unset, .unset] [(.int p3), (.int (3 : Int32)), (.ref b23), (.ref b23)])) (fun target kt => ?_) ?_
  · skip
    show Steps p.tables e below (T34.setTop (mkF m 38 #[.val (.int p0), .val (.int p1), .val (.int p2), .val (.int p3), .val (.int p4), .val (.int p5), .val (.int i), .val (.int j), .unset, .unset, .unset, .unset] [(.ref b23)])) _
    refine XS.dup X34.here hx rfl (hb hby at_38) rfl rfl ?_
    show Steps p.tables e below (T34.setTop (mkF m 39 #[.val (.int p0), .val (.int p1), .val (.int p2), .val (.int p3), .val (.int p4), .val (.int p5), .val (.int i), .val (.int j), .unset, .unset, .unset, .unset] [(.ref b23), (.ref b23)])) _
    refine XS.iconst X34.here hx rfl (hb hby at_39) ?_
    show Steps p.tables e below (T34.setTop (mkF m 40 #[.val (.int p0), .val (.int p1), .val (.int p2), .val (.int p3), .val (.int p4), .val (.int p5), .val (.int i), .val (.int j), .unset, .unset, .unset, .unset] [(.int (3 : Int32)), (.ref b23), (.ref b23)])) _
    refine XS.iloadN X34.here hx rfl (hb hby at_40) rfl ?_
    exact kt
  obtain ⟨c37, Ar37, S37, M37, H37⟩ := id f35
  have hin37 : ¬ ((3 : Int32) < 0 ∨ c37.slots.size ≤ ((3 : Int32)).toNatClampNeg) := own_in S37 ⟨by decide, by decide⟩
  obtain ⟨T38, h38, X38, e38, W38, st38⟩ := stI X34 hx hZ e34 Ar37 (j := (3 : Int32)) hin37 (g := (mkF m 41 #[.val (.int p0), .val (.int p1), .val (.int p2), .val (.int p3), .val (.int p4), .val (.int p5), .val (.int i), .val (.int j), .unset, .unset, .unset, .unset] [(.int p3), (.int (3 : Int32)), (.ref b23), (.ref b23)])) rfl rfl (hb hby at_41)
  have f40 : Exa Z h38 b23 "[I" := f36.wr W38
  have f39 : own_AI Z h38 b23 .int 5 (own_upd (own_upd (own_upd (own_upd (fun _ => 0) 0 p0) 1 p1) 2 p2) 3 p3) := own_AI.set Ar37 S37 M37 H37 W38
  have Z38 : n0 ≤ h38.size := Nat.le_trans Z34 (Keep.of_wr W38).1
  have N38 := Fr.snoc X38 N34 g_b23
  refine own_go (S' := T38.setTop (mkF m 42 #[.val (.int p0), .val (.int p1), .val (.int p2), .val (.int p3), .val (.int p4), .val (.int p5), .val (.int i), .val (.int j), .unset, .unset, .unset, .unset] [(.ref b23)])) st38 ?_
  refine own_go (S' := T38.setTop (mkF m 46 #[.val (.int p0), .val (.int p1), .val (.int p2), .val (.int p3), .val (.int p4), .val (.int p5), .val (.int i), .val (.int j), .unset, .unset, .unset, .unset] [(.int p4), (.int (4 : Int32)), (.ref b23), (.ref b23)])) (fun target kt => ?_) ?_
  · skip
    show Steps p.tables e below (T38.setTop (mkF m 42 #[.val (.int p0), .val (.int p1), .val (.int p2), .val (.int p3), .val (.int p4), .val (.int p5), .val (.int i), .val (.int j), .unset, .unset, .unset, .unset] [(.ref b23)])) _
    refine XS.dup X38.here hx rfl (hb hby at_42) rfl rfl ?_
    show Steps p.tables e below (T38.setTop (mkF m 43 #[.val (.int p0), .val (.int p1), .val (.int p2), .val (.int p3), .val (.int p4), .val (.int p5), .val (.int i), .val (.int j), .unset, .unset, .unset, .unset] [(.ref b23), (.ref b23)])) _
    refine XS.iconst X38.here hx rfl (hb hby at_43) ?_
    show Steps p.tables e below (T38.setTop (mkF m 44 #[.val (.int p0), .val (.int p1), .val (.int p2), .val (.int p3), .val (.int p4), .val (.int p5), .val (.int i), .val (.int j), .unset, .unset, .unset, .unset] [(.int (4 : Int32)), (.ref b23), (.ref b23)])) _
    refine XS.iload X38.here hx rfl (hb hby at_44) rfl ?_
    exact kt
  obtain ⟨c41, Ar41, S41, M41, H41⟩ := id f39
  have hin41 : ¬ ((4 : Int32) < 0 ∨ c41.slots.size ≤ ((4 : Int32)).toNatClampNeg) := own_in S41 ⟨by decide, by decide⟩
  obtain ⟨T42, h42, X42, e42, W42, st42⟩ := stI X38 hx hZ e38 Ar41 (j := (4 : Int32)) hin41 (g := (mkF m 46 #[.val (.int p0), .val (.int p1), .val (.int p2), .val (.int p3), .val (.int p4), .val (.int p5), .val (.int i), .val (.int j), .unset, .unset, .unset, .unset] [(.int p4), (.int (4 : Int32)), (.ref b23), (.ref b23)])) rfl rfl (hb hby at_46)
  have f44 : Exa Z h42 b23 "[I" := f40.wr W42
  have f43 : own_AI Z h42 b23 .int 5 (own_upd (own_upd (own_upd (own_upd (own_upd (fun _ => 0) 0 p0) 1 p1) 2 p2) 3 p3) 4 p4) := own_AI.set Ar41 S41 M41 H41 W42
  have Z42 : n0 ≤ h42.size := Nat.le_trans Z38 (Keep.of_wr W42).1
  have N42 := Fr.snoc X42 N38 g_b23
  obtain ⟨gp, h_gp⟩ : ∃ z : Nat → Int32, z = (own_upd (own_upd (own_upd (own_upd (own_upd (fun _ => 0) 0 p0) 1 p1) 2 p2) 3 p3) 4 p4) := ⟨_, rfl⟩
  rw [← h_gp] at f43
  refine own_go (S' := T42.setTop (mkF m 47 #[.val (.int p0), .val (.int p1), .val (.int p2), .val (.int p3), .val (.int p4), .val (.int p5), .val (.int i), .val (.int j), .unset, .unset, .unset, .unset] [(.ref b23)])) st42 ?_
  refine own_go (S' := T42.setTop (mkF m 55 #[.val (.int p0), .val (.int p1), .val (.int p2), .val (.int p3), .val (.int p4), .val (.int p5), .val (.int i), .val (.int j), .val (.ref b23), .unset, .unset, .unset] [(.int j), (.int i), (.ref b23)])) (fun target kt => ?_) ?_
  · skip
    show Steps p.tables e below (T42.setTop (mkF m 47 #[.val (.int p0), .val (.int p1), .val (.int p2), .val (.int p3), .val (.int p4), .val (.int p5), .val (.int i), .val (.int j), .unset, .unset, .unset, .unset] [(.ref b23)])) _
    refine XS.astore X42.here hx rfl (hb hby at_47) rfl rfl (l' := #[.val (.int p0), .val (.int p1), .val (.int p2), .val (.int p3), .val (.int p4), .val (.int p5), .val (.int i), .val (.int j), .val (.ref b23), .unset, .unset, .unset]) rfl ?_
    show Steps p.tables e below (T42.setTop (mkF m 49 #[.val (.int p0), .val (.int p1), .val (.int p2), .val (.int p3), .val (.int p4), .val (.int p5), .val (.int i), .val (.int j), .val (.ref b23), .unset, .unset, .unset] [])) _
    refine XS.aload X42.here hx rfl (hb hby at_49) rfl rfl ?_
    show Steps p.tables e below (T42.setTop (mkF m 51 #[.val (.int p0), .val (.int p1), .val (.int p2), .val (.int p3), .val (.int p4), .val (.int p5), .val (.int i), .val (.int j), .val (.ref b23), .unset, .unset, .unset] [(.ref b23)])) _
    refine XS.iload X42.here hx rfl (hb hby at_51) rfl ?_
    show Steps p.tables e below (T42.setTop (mkF m 53 #[.val (.int p0), .val (.int p1), .val (.int p2), .val (.int p3), .val (.int p4), .val (.int p5), .val (.int i), .val (.int j), .val (.ref b23), .unset, .unset, .unset] [(.int i), (.ref b23)])) _
    refine XS.iload X42.here hx rfl (hb hby at_53) rfl ?_
    exact kt
  obtain ⟨_, _, ⟨T45, L45, k45, n45⟩, -, X45, ⟨Lc45, hQ45, l45, y45, z45⟩, st45⟩ := Jvm.LawKit.callS X42 hx (y := (⟨"com/example/paretoforge/paretoforge/core/Permutations", "swapped", "([III)[I"⟩ : MethodName)) hown (mvT hZ (hw _ (List.mem_of_getElem? (i := 1) rfl))) (mvT hZ (hw _ (List.mem_of_getElem? (i := 2) rfl))) (mvT hZ (hw _ (List.mem_of_getElem? (i := 3) rfl))) (mvT hZ (hw _ (List.mem_of_getElem? (i := 4) rfl))) (by decide) (backOf (W := 0) (rm1 l Z aZ hw [] b23 i j gp h42 n0 Z42 f43 f44 (own_ib ci : ¬ i < 0 ∧ (i).toNatClampNeg < 5) (own_ib cj : ¬ j < 0 ∧ (j).toNatClampNeg < 5)) hZ (hw _ (List.mem_of_getElem? (i := 4) rfl)) (hw _ (List.mem_of_getElem? (i := 3) rfl)) (by decide) (by decide)) (g := (mkF m 55 #[.val (.int p0), .val (.int p1), .val (.int p2), .val (.int p3), .val (.int p4), .val (.int p5), .val (.int i), .val (.int j), .val (.ref b23), .unset, .unset, .unset] [(.int j), (.int i), (.ref b23)])) rfl (by rw [hml]; rfl) (argsL := [(.ref b23), (.int i), (.int j)]) (rest := []) (lenOf own_pd2 rfl) rfl (by show 2 * 0 + _ ≤ _; exact Nat.le_of_eq rfl) (hb hby at_55) (fun _ _ => ⟨rfl, e42, (by decide : 1 + 1 ≤ _), (by decide : 5 + 5 ≤ _)⟩)
  dsimp only [Pt.U, Pt.locs, Pt.cells, Pt.slots] at X45 l45 y45 z45 st45 hQ45
  subst l45 y45 z45
  obtain ⟨b_45, rfl, N45q, K45q, f45_0, u45_0⟩ := hQ45
  have N45 := Fr.app N42 N45q
  have f46 : Exa Z T45.heap b23 "[I" := f44.keep K45q
  have f47 : own_AI Z T45.heap b23 .int 5 gp := f43.keep K45q nin0
  have Z45 : n0 ≤ T45.heap.size := Nat.le_trans Z42 K45q.1
  have g_b_45 : n0 ≤ b_45 := Nat.le_trans Z42 u45_0
  have ne_b23_b_45 : b23 ≠ b_45 := Nat.ne_of_lt (Nat.lt_of_lt_of_le f44.lt u45_0)
  refine own_go (S' := T45.setTop (mkF m 58 #[.val (.int p0), .val (.int p1), .val (.int p2), .val (.int p3), .val (.int p4), .val (.int p5), .val (.int i), .val (.int j), .val (.ref b23), .unset, .unset, .unset] [(.ref b_45)])) st45 ?_
  refine own_go (S' := T45.setTop (mkF m 69 #[.val (.int p0), .val (.int p1), .val (.int p2), .val (.int p3), .val (.int p4), .val (.int p5), .val (.int i), .val (.int j), .val (.ref b23), .val (.ref b_45), .unset, .unset] [(.ref b_45)])) (fun target kt => ?_) ?_
  · skip
    show Steps p.tables e below (T45.setTop (mkF m 58 #[.val (.int p0), .val (.int p1), .val (.int p2), .val (.int p3), .val (.int p4), .val (.int p5), .val (.int i), .val (.int j), .val (.ref b23), .unset, .unset, .unset] [(.ref b_45)])) _
    refine XS.astore X45.here hx rfl (hb hby at_58) rfl rfl (l' := #[.val (.int p0), .val (.int p1), .val (.int p2), .val (.int p3), .val (.int p4), .val (.int p5), .val (.int i), .val (.int j), .val (.ref b23), .val (.ref b_45), .unset, .unset]) rfl ?_
    show Steps p.tables e below (T45.setTop (mkF m 60 #[.val (.int p0), .val (.int p1), .val (.int p2), .val (.int p3), .val (.int p4), .val (.int p5), .val (.int i), .val (.int j), .val (.ref b23), .val (.ref b_45), .unset, .unset] [])) _
    refine XS.aload X45.here hx rfl (hb hby at_60) rfl rfl ?_
    show Steps p.tables e below (T45.setTop (mkF m 62 #[.val (.int p0), .val (.int p1), .val (.int p2), .val (.int p3), .val (.int p4), .val (.int p5), .val (.int i), .val (.int j), .val (.ref b23), .val (.ref b_45), .unset, .unset] [(.ref b_45)])) _
    refine XS.aload X45.here hx rfl (hb hby at_62) rfl rfl ?_
    show Steps p.tables e below (T45.setTop (mkF m 64 #[.val (.int p0), .val (.int p1), .val (.int p2), .val (.int p3), .val (.int p4), .val (.int p5), .val (.int i), .val (.int j), .val (.ref b23), .val (.ref b_45), .unset, .unset] [(.ref b23), (.ref b_45)])) _
    refine Jvm.RoadKit.acmp (g := (mkF m 64 #[.val (.int p0), .val (.int p1), .val (.int p2), .val (.int p3), .val (.int p4), .val (.int p5), .val (.int i), .val (.int j), .val (.ref b23), .val (.ref b_45), .unset, .unset] [(.ref b23), (.ref b_45)])) X45 hx rfl rfl rfl (pc0 := 64) (pc' := 67) (same := false) rfl (hb hby at_64) rfl (decide_eq_false fun q => (Ne.symm ne_b23_b_45) (Value.ref.inj q)) (by decide) (by decide) ?_
    show Steps p.tables e below (T45.setTop (mkF m 67 #[.val (.int p0), .val (.int p1), .val (.int p2), .val (.int p3), .val (.int p4), .val (.int p5), .val (.int i), .val (.int j), .val (.ref b23), .val (.ref b_45), .unset, .unset] [])) _
    refine XS.aload X45.here hx rfl (hb hby at_67) rfl rfl ?_
    exact kt
  obtain ⟨c48, Ar48, S48, M48, H48⟩ := id f45_0
  have st48 : ∀ target, Steps p.tables e below (T45.setTop (mkF m 70 #[.val (.int p0), .val (.int p1), .val (.int p2), .val (.int p3), .val (.int p4), .val (.int p5), .val (.int i), .val (.int j), .val (.ref b23), .val (.ref b_45), .unset, .unset] [(.int (5 : Int32))])) target → Steps p.tables e below (T45.setTop (mkF m 69 #[.val (.int p0), .val (.int p1), .val (.int p2), .val (.int p3), .val (.int p4), .val (.int p5), .val (.int i), .val (.int j), .val (.ref b23), .val (.ref b_45), .unset, .unset] [(.ref b_45)])) target := fun target kt => X45.arraylength hx (cell := c48) Ar48.1 (State.isArrayOf_alike hZ.alike Ar48.2.1) (g := (mkF m 69 #[.val (.int p0), .val (.int p1), .val (.int p2), .val (.int p3), .val (.int p4), .val (.int p5), .val (.int i), .val (.int j), .val (.ref b23), .val (.ref b_45), .unset, .unset] [(.ref b_45)])) rfl rfl (hb hby at_69) _ (by rw [own_len S48]; exact kt)
  refine own_go (S' := T45.setTop (mkF m 70 #[.val (.int p0), .val (.int p1), .val (.int p2), .val (.int p3), .val (.int p4), .val (.int p5), .val (.int i), .val (.int j), .val (.ref b23), .val (.ref b_45), .unset, .unset] [(.int (5 : Int32))])) st48 ?_
  refine own_go (S' := T45.setTop (mkF m 79 #[.val (.int p0), .val (.int p1), .val (.int p2), .val (.int p3), .val (.int p4), .val (.int p5), .val (.int i), .val (.int j), .val (.ref b23), .val (.ref b_45), .unset, .unset] [(.int (0 : Int32)), (.ref b23)])) (fun target kt => ?_) ?_
  · skip
    show Steps p.tables e below (T45.setTop (mkF m 70 #[.val (.int p0), .val (.int p1), .val (.int p2), .val (.int p3), .val (.int p4), .val (.int p5), .val (.int i), .val (.int j), .val (.ref b23), .val (.ref b_45), .unset, .unset] [(.int (5 : Int32))])) _
    refine XS.iconst X45.here hx rfl (hb hby at_70) ?_
    show Steps p.tables e below (T45.setTop (mkF m 71 #[.val (.int p0), .val (.int p1), .val (.int p2), .val (.int p3), .val (.int p4), .val (.int p5), .val (.int i), .val (.int j), .val (.ref b23), .val (.ref b_45), .unset, .unset] [(.int (5 : Int32)), (.int (5 : Int32))])) _
    refine XS.icmpYes X45.here hx rfl (pc0 := 71) (pc' := 76) rfl (hb hby at_71) rfl (teq (by decide : (5 : Int32) = (5 : Int32))).1 (by decide) (by decide) ?_
    show Steps p.tables e below (T45.setTop (mkF m 76 #[.val (.int p0), .val (.int p1), .val (.int p2), .val (.int p3), .val (.int p4), .val (.int p5), .val (.int i), .val (.int j), .val (.ref b23), .val (.ref b_45), .unset, .unset] [])) _
    refine XS.aload X45.here hx rfl (hb hby at_76) rfl rfl ?_
    show Steps p.tables e below (T45.setTop (mkF m 78 #[.val (.int p0), .val (.int p1), .val (.int p2), .val (.int p3), .val (.int p4), .val (.int p5), .val (.int i), .val (.int j), .val (.ref b23), .val (.ref b_45), .unset, .unset] [(.ref b23)])) _
    refine XS.iconst X45.here hx rfl (hb hby at_78) ?_
    exact kt
  obtain ⟨c49, Ar49, S49, M49, H49⟩ := id f47
  have hj49 : ¬ (0 : Int32) < 0 ∧ ((0 : Int32)).toNatClampNeg < 5 := ⟨by decide, by decide⟩
  have st49 : ∀ target, Steps p.tables e below (T45.setTop (mkF m 80 #[.val (.int p0), .val (.int p1), .val (.int p2), .val (.int p3), .val (.int p4), .val (.int p5), .val (.int i), .val (.int j), .val (.ref b23), .val (.ref b_45), .unset, .unset] [(.int (gp 0))])) target → Steps p.tables e below (T45.setTop (mkF m 79 #[.val (.int p0), .val (.int p1), .val (.int p2), .val (.int p3), .val (.int p4), .val (.int p5), .val (.int i), .val (.int j), .val (.ref b23), .val (.ref b_45), .unset, .unset] [(.int (0 : Int32)), (.ref b23)])) target := fun target kt => X45.iaload hx (j := (0 : Int32)) (v := (.int (gp 0))) Ar49.1 (State.isArrayOf_alike hZ.alike Ar49.2.1) Ar49.2.2 (own_in S49 hj49) (H49 _ hj49.2) (g := (mkF m 79 #[.val (.int p0), .val (.int p1), .val (.int p2), .val (.int p3), .val (.int p4), .val (.int p5), .val (.int i), .val (.int j), .val (.ref b23), .val (.ref b_45), .unset, .unset] [(.int (0 : Int32)), (.ref b23)])) rfl rfl (hb hby at_79) _ kt
  refine own_go (S' := T45.setTop (mkF m 80 #[.val (.int p0), .val (.int p1), .val (.int p2), .val (.int p3), .val (.int p4), .val (.int p5), .val (.int i), .val (.int j), .val (.ref b23), .val (.ref b_45), .unset, .unset] [(.int (gp 0))])) st49 ?_
  refine own_go (S' := T45.setTop (mkF m 87 #[.val (.int p0), .val (.int p1), .val (.int p2), .val (.int p3), .val (.int p4), .val (.int p5), .val (.int i), .val (.int j), .val (.ref b23), .val (.ref b_45), .unset, .unset] [(.int (1 : Int32)), (.ref b23)])) (fun target kt => ?_) ?_
  · skip
    show Steps p.tables e below (T45.setTop (mkF m 80 #[.val (.int p0), .val (.int p1), .val (.int p2), .val (.int p3), .val (.int p4), .val (.int p5), .val (.int i), .val (.int j), .val (.ref b23), .val (.ref b_45), .unset, .unset] [(.int (gp 0))])) _
    refine XS.iloadN X45.here hx rfl (hb hby at_80) rfl ?_
    show Steps p.tables e below (T45.setTop (mkF m 81 #[.val (.int p0), .val (.int p1), .val (.int p2), .val (.int p3), .val (.int p4), .val (.int p5), .val (.int i), .val (.int j), .val (.ref b23), .val (.ref b_45), .unset, .unset] [(.int p0), (.int (gp 0))])) _
    refine XS.icmpNo X45.here hx rfl (hb hby at_81) rfl (teq (by rw [h_gp]; rfl : (gp 0) = p0)).2 ?_
    show Steps p.tables e below (T45.setTop (mkF m 84 #[.val (.int p0), .val (.int p1), .val (.int p2), .val (.int p3), .val (.int p4), .val (.int p5), .val (.int i), .val (.int j), .val (.ref b23), .val (.ref b_45), .unset, .unset] [])) _
    refine XS.aload X45.here hx rfl (hb hby at_84) rfl rfl ?_
    show Steps p.tables e below (T45.setTop (mkF m 86 #[.val (.int p0), .val (.int p1), .val (.int p2), .val (.int p3), .val (.int p4), .val (.int p5), .val (.int i), .val (.int j), .val (.ref b23), .val (.ref b_45), .unset, .unset] [(.ref b23)])) _
    refine XS.iconst X45.here hx rfl (hb hby at_86) ?_
    exact kt
  obtain ⟨c50, Ar50, S50, M50, H50⟩ := id f47
  have hj50 : ¬ (1 : Int32) < 0 ∧ ((1 : Int32)).toNatClampNeg < 5 := ⟨by decide, by decide⟩
  have st50 : ∀ target, Steps p.tables e below (T45.setTop (mkF m 88 #[.val (.int p0), .val (.int p1), .val (.int p2), .val (.int p3), .val (.int p4), .val (.int p5), .val (.int i), .val (.int j), .val (.ref b23), .val (.ref b_45), .unset, .unset] [(.int (gp 1))])) target → Steps p.tables e below (T45.setTop (mkF m 87 #[.val (.int p0), .val (.int p1), .val (.int p2), .val (.int p3), .val (.int p4), .val (.int p5), .val (.int i), .val (.int j), .val (.ref b23), .val (.ref b_45), .unset, .unset] [(.int (1 : Int32)), (.ref b23)])) target := fun target kt => X45.iaload hx (j := (1 : Int32)) (v := (.int (gp 1))) Ar50.1 (State.isArrayOf_alike hZ.alike Ar50.2.1) Ar50.2.2 (own_in S50 hj50) (H50 _ hj50.2) (g := (mkF m 87 #[.val (.int p0), .val (.int p1), .val (.int p2), .val (.int p3), .val (.int p4), .val (.int p5), .val (.int i), .val (.int j), .val (.ref b23), .val (.ref b_45), .unset, .unset] [(.int (1 : Int32)), (.ref b23)])) rfl rfl (hb hby at_87) _ kt
  refine own_go (S' := T45.setTop (mkF m 88 #[.val (.int p0), .val (.int p1), .val (.int p2), .val (.int p3), .val (.int p4), .val (.int p5), .val (.int i), .val (.int j), .val (.ref b23), .val (.ref b_45), .unset, .unset] [(.int (gp 1))])) st50 ?_
  refine own_go (S' := T45.setTop (mkF m 95 #[.val (.int p0), .val (.int p1), .val (.int p2), .val (.int p3), .val (.int p4), .val (.int p5), .val (.int i), .val (.int j), .val (.ref b23), .val (.ref b_45), .unset, .unset] [(.int (2 : Int32)), (.ref b23)])) (fun target kt => ?_) ?_
  · skip
    show Steps p.tables e below (T45.setTop (mkF m 88 #[.val (.int p0), .val (.int p1), .val (.int p2), .val (.int p3), .val (.int p4), .val (.int p5), .val (.int i), .val (.int j), .val (.ref b23), .val (.ref b_45), .unset, .unset] [(.int (gp 1))])) _
    refine XS.iloadN X45.here hx rfl (hb hby at_88) rfl ?_
    show Steps p.tables e below (T45.setTop (mkF m 89 #[.val (.int p0), .val (.int p1), .val (.int p2), .val (.int p3), .val (.int p4), .val (.int p5), .val (.int i), .val (.int j), .val (.ref b23), .val (.ref b_45), .unset, .unset] [(.int p1), (.int (gp 1))])) _
    refine XS.icmpNo X45.here hx rfl (hb hby at_89) rfl (teq (by rw [h_gp]; rfl : (gp 1) = p1)).2 ?_
    show Steps p.tables e below (T45.setTop (mkF m 92 #[.val (.int p0), .val (.int p1), .val (.int p2), .val (.int p3), .val (.int p4), .val (.int p5), .val (.int i), .val (.int j), .val (.ref b23), .val (.ref b_45), .unset, .unset] [])) _
    refine XS.aload X45.here hx rfl (hb hby at_92) rfl rfl ?_
    show Steps p.tables e below (T45.setTop (mkF m 94 #[.val (.int p0), .val (.int p1), .val (.int p2), .val (.int p3), .val (.int p4), .val (.int p5), .val (.int i), .val (.int j), .val (.ref b23), .val (.ref b_45), .unset, .unset] [(.ref b23)])) _
    refine XS.iconst X45.here hx rfl (hb hby at_94) ?_
    exact kt
  obtain ⟨c51, Ar51, S51, M51, H51⟩ := id f47
  have hj51 : ¬ (2 : Int32) < 0 ∧ ((2 : Int32)).toNatClampNeg < 5 := ⟨by decide, by decide⟩
  have st51 : ∀ target, Steps p.tables e below (T45.setTop (mkF m 96 #[.val (.int p0), .val (.int p1), .val (.int p2), .val (.int p3), .val (.int p4), .val (.int p5), .val (.int i), .val (.int j), .val (.ref b23), .val (.ref b_45), .unset, .unset] [(.int (gp 2))])) target → Steps p.tables e below (T45.setTop (mkF m 95 #[.val (.int p0), .val (.int p1), .val (.int p2), .val (.int p3), .val (.int p4), .val (.int p5), .val (.int i), .val (.int j), .val (.ref b23), .val (.ref b_45), .unset, .unset] [(.int (2 : Int32)), (.ref b23)])) target := fun target kt => X45.iaload hx (j := (2 : Int32)) (v := (.int (gp 2))) Ar51.1 (State.isArrayOf_alike hZ.alike Ar51.2.1) Ar51.2.2 (own_in S51 hj51) (H51 _ hj51.2) (g := (mkF m 95 #[.val (.int p0), .val (.int p1), .val (.int p2), .val (.int p3), .val (.int p4), .val (.int p5), .val (.int i), .val (.int j), .val (.ref b23), .val (.ref b_45), .unset, .unset] [(.int (2 : Int32)), (.ref b23)])) rfl rfl (hb hby at_95) _ kt
  refine own_go (S' := T45.setTop (mkF m 96 #[.val (.int p0), .val (.int p1), .val (.int p2), .val (.int p3), .val (.int p4), .val (.int p5), .val (.int i), .val (.int j), .val (.ref b23), .val (.ref b_45), .unset, .unset] [(.int (gp 2))])) st51 ?_
  refine own_go (S' := T45.setTop (mkF m 103 #[.val (.int p0), .val (.int p1), .val (.int p2), .val (.int p3), .val (.int p4), .val (.int p5), .val (.int i), .val (.int j), .val (.ref b23), .val (.ref b_45), .unset, .unset] [(.int (3 : Int32)), (.ref b23)])) (fun target kt => ?_) ?_
  · skip
    show Steps p.tables e below (T45.setTop (mkF m 96 #[.val (.int p0), .val (.int p1), .val (.int p2), .val (.int p3), .val (.int p4), .val (.int p5), .val (.int i), .val (.int j), .val (.ref b23), .val (.ref b_45), .unset, .unset] [(.int (gp 2))])) _
    refine XS.iloadN X45.here hx rfl (hb hby at_96) rfl ?_
    show Steps p.tables e below (T45.setTop (mkF m 97 #[.val (.int p0), .val (.int p1), .val (.int p2), .val (.int p3), .val (.int p4), .val (.int p5), .val (.int i), .val (.int j), .val (.ref b23), .val (.ref b_45), .unset, .unset] [(.int p2), (.int (gp 2))])) _
    refine XS.icmpNo X45.here hx rfl (hb hby at_97) rfl (teq (by rw [h_gp]; rfl : (gp 2) = p2)).2 ?_
    show Steps p.tables e below (T45.setTop (mkF m 100 #[.val (.int p0), .val (.int p1), .val (.int p2), .val (.int p3), .val (.int p4), .val (.int p5), .val (.int i), .val (.int j), .val (.ref b23), .val (.ref b_45), .unset, .unset] [])) _
    refine XS.aload X45.here hx rfl (hb hby at_100) rfl rfl ?_
    show Steps p.tables e below (T45.setTop (mkF m 102 #[.val (.int p0), .val (.int p1), .val (.int p2), .val (.int p3), .val (.int p4), .val (.int p5), .val (.int i), .val (.int j), .val (.ref b23), .val (.ref b_45), .unset, .unset] [(.ref b23)])) _
    refine XS.iconst X45.here hx rfl (hb hby at_102) ?_
    exact kt
  obtain ⟨c52, Ar52, S52, M52, H52⟩ := id f47
  have hj52 : ¬ (3 : Int32) < 0 ∧ ((3 : Int32)).toNatClampNeg < 5 := ⟨by decide, by decide⟩
  have st52 : ∀ target, Steps p.tables e below (T45.setTop (mkF m 104 #[.val (.int p0), .val (.int p1), .val (.int p2), .val (.int p3), .val (.int p4), .val (.int p5), .val (.int i), .val (.int j), .val (.ref b23), .val (.ref b_45), .unset, .unset] [(.int (gp 3))])) target → Steps p.tables e below (T45.setTop (mkF m 103 #[.val (.int p0), .val (.int p1), .val (.int p2), .val (.int p3), .val (.int p4), .val (.int p5), .val (.int i), .val (.int j), .val (.ref b23), .val (.ref b_45), .unset, .unset] [(.int (3 : Int32)), (.ref b23)])) target := fun target kt => X45.iaload hx (j := (3 : Int32)) (v := (.int (gp 3))) Ar52.1 (State.isArrayOf_alike hZ.alike Ar52.2.1) Ar52.2.2 (own_in S52 hj52) (H52 _ hj52.2) (g := (mkF m 103 #[.val (.int p0), .val (.int p1), .val (.int p2), .val (.int p3), .val (.int p4), .val (.int p5), .val (.int i), .val (.int j), .val (.ref b23), .val (.ref b_45), .unset, .unset] [(.int (3 : Int32)), (.ref b23)])) rfl rfl (hb hby at_103) _ kt
  refine own_go (S' := T45.setTop (mkF m 104 #[.val (.int p0), .val (.int p1), .val (.int p2), .val (.int p3), .val (.int p4), .val (.int p5), .val (.int i), .val (.int j), .val (.ref b23), .val (.ref b_45), .unset, .unset] [(.int (gp 3))])) st52 ?_
  refine own_go (S' := T45.setTop (mkF m 111 #[.val (.int p0), .val (.int p1), .val (.int p2), .val (.int p3), .val (.int p4), .val (.int p5), .val (.int i), .val (.int j), .val (.ref b23), .val (.ref b_45), .unset, .unset] [(.int (4 : Int32)), (.ref b23)])) (fun target kt => ?_) ?_
  · skip
    show Steps p.tables e below (T45.setTop (mkF m 104 #[.val (.int p0), .val (.int p1), .val (.int p2), .val (.int p3), .val (.int p4), .val (.int p5), .val (.int i), .val (.int j), .val (.ref b23), .val (.ref b_45), .unset, .unset] [(.int (gp 3))])) _
    refine XS.iloadN X45.here hx rfl (hb hby at_104) rfl ?_
    show Steps p.tables e below (T45.setTop (mkF m 105 #[.val (.int p0), .val (.int p1), .val (.int p2), .val (.int p3), .val (.int p4), .val (.int p5), .val (.int i), .val (.int j), .val (.ref b23), .val (.ref b_45), .unset, .unset] [(.int p3), (.int (gp 3))])) _
    refine XS.icmpNo X45.here hx rfl (hb hby at_105) rfl (teq (by rw [h_gp]; rfl : (gp 3) = p3)).2 ?_
    show Steps p.tables e below (T45.setTop (mkF m 108 #[.val (.int p0), .val (.int p1), .val (.int p2), .val (.int p3), .val (.int p4), .val (.int p5), .val (.int i), .val (.int j), .val (.ref b23), .val (.ref b_45), .unset, .unset] [])) _
    refine XS.aload X45.here hx rfl (hb hby at_108) rfl rfl ?_
    show Steps p.tables e below (T45.setTop (mkF m 110 #[.val (.int p0), .val (.int p1), .val (.int p2), .val (.int p3), .val (.int p4), .val (.int p5), .val (.int i), .val (.int j), .val (.ref b23), .val (.ref b_45), .unset, .unset] [(.ref b23)])) _
    refine XS.iconst X45.here hx rfl (hb hby at_110) ?_
    exact kt
  obtain ⟨c53, Ar53, S53, M53, H53⟩ := id f47
  have hj53 : ¬ (4 : Int32) < 0 ∧ ((4 : Int32)).toNatClampNeg < 5 := ⟨by decide, by decide⟩
  have st53 : ∀ target, Steps p.tables e below (T45.setTop (mkF m 112 #[.val (.int p0), .val (.int p1), .val (.int p2), .val (.int p3), .val (.int p4), .val (.int p5), .val (.int i), .val (.int j), .val (.ref b23), .val (.ref b_45), .unset, .unset] [(.int (gp 4))])) target → Steps p.tables e below (T45.setTop (mkF m 111 #[.val (.int p0), .val (.int p1), .val (.int p2), .val (.int p3), .val (.int p4), .val (.int p5), .val (.int i), .val (.int j), .val (.ref b23), .val (.ref b_45), .unset, .unset] [(.int (4 : Int32)), (.ref b23)])) target := fun target kt => X45.iaload hx (j := (4 : Int32)) (v := (.int (gp 4))) Ar53.1 (State.isArrayOf_alike hZ.alike Ar53.2.1) Ar53.2.2 (own_in S53 hj53) (H53 _ hj53.2) (g := (mkF m 111 #[.val (.int p0), .val (.int p1), .val (.int p2), .val (.int p3), .val (.int p4), .val (.int p5), .val (.int i), .val (.int j), .val (.ref b23), .val (.ref b_45), .unset, .unset] [(.int (4 : Int32)), (.ref b23)])) rfl rfl (hb hby at_111) _ kt
  refine own_go (S' := T45.setTop (mkF m 112 #[.val (.int p0), .val (.int p1), .val (.int p2), .val (.int p3), .val (.int p4), .val (.int p5), .val (.int i), .val (.int j), .val (.ref b23), .val (.ref b_45), .unset, .unset] [(.int (gp 4))])) st53 ?_
  refine own_go (S' := T45.setTop (mkF m 127 #[.val (.int p0), .val (.int p1), .val (.int p2), .val (.int p3), .val (.int p4), .val (.int p5), .val (.int i), .val (.int j), .val (.ref b23), .val (.ref b_45), .val (.int (1 : Int32)), .unset] [(.int (0 : Int32)), (.ref b_45)])) (fun target kt => ?_) ?_
  · skip
    show Steps p.tables e below (T45.setTop (mkF m 112 #[.val (.int p0), .val (.int p1), .val (.int p2), .val (.int p3), .val (.int p4), .val (.int p5), .val (.int i), .val (.int j), .val (.ref b23), .val (.ref b_45), .unset, .unset] [(.int (gp 4))])) _
    refine XS.iload X45.here hx rfl (hb hby at_112) rfl ?_
    show Steps p.tables e below (T45.setTop (mkF m 114 #[.val (.int p0), .val (.int p1), .val (.int p2), .val (.int p3), .val (.int p4), .val (.int p5), .val (.int i), .val (.int j), .val (.ref b23), .val (.ref b_45), .unset, .unset] [(.int p4), (.int (gp 4))])) _
    refine XS.icmpNo X45.here hx rfl (hb hby at_114) rfl (teq (by rw [h_gp]; rfl : (gp 4) = p4)).2 ?_
    show Steps p.tables e below (T45.setTop (mkF m 117 #[.val (.int p0), .val (.int p1), .val (.int p2), .val (.int p3), .val (.int p4), .val (.int p5), .val (.int i), .val (.int j), .val (.ref b23), .val (.ref b_45), .unset, .unset] [])) _
    refine XS.iconst X45.here hx rfl (hb hby at_117) ?_
    show Steps p.tables e below (T45.setTop (mkF m 118 #[.val (.int p0), .val (.int p1), .val (.int p2), .val (.int p3), .val (.int p4), .val (.int p5), .val (.int i), .val (.int j), .val (.ref b23), .val (.ref b_45), .unset, .unset] [(.int (1 : Int32))])) _
    refine XS.goto X45.here hx rfl (pc0 := 118) (pc' := 122) rfl (hb hby at_118) (by decide) (by decide) ?_
    show Steps p.tables e below (T45.setTop (mkF m 122 #[.val (.int p0), .val (.int p1), .val (.int p2), .val (.int p3), .val (.int p4), .val (.int p5), .val (.int i), .val (.int j), .val (.ref b23), .val (.ref b_45), .unset, .unset] [(.int (1 : Int32))])) _
    refine XS.istore X45.here hx rfl (hb hby at_122) rfl (l' := #[.val (.int p0), .val (.int p1), .val (.int p2), .val (.int p3), .val (.int p4), .val (.int p5), .val (.int i), .val (.int j), .val (.ref b23), .val (.ref b_45), .val (.int (1 : Int32)), .unset]) rfl ?_
    show Steps p.tables e below (T45.setTop (mkF m 124 #[.val (.int p0), .val (.int p1), .val (.int p2), .val (.int p3), .val (.int p4), .val (.int p5), .val (.int i), .val (.int j), .val (.ref b23), .val (.ref b_45), .val (.int (1 : Int32)), .unset] [])) _
    refine XS.aload X45.here hx rfl (hb hby at_124) rfl rfl ?_
    show Steps p.tables e below (T45.setTop (mkF m 126 #[.val (.int p0), .val (.int p1), .val (.int p2), .val (.int p3), .val (.int p4), .val (.int p5), .val (.int i), .val (.int j), .val (.ref b23), .val (.ref b_45), .val (.int (1 : Int32)), .unset] [(.ref b_45)])) _
    refine XS.iconst X45.here hx rfl (hb hby at_126) ?_
    exact kt
  obtain ⟨c54, Ar54, S54, M54, H54⟩ := id f45_0
  have hj54 : ¬ (0 : Int32) < 0 ∧ ((0 : Int32)).toNatClampNeg < 5 := ⟨by decide, by decide⟩
  have st54 : ∀ target, Steps p.tables e below (T45.setTop (mkF m 128 #[.val (.int p0), .val (.int p1), .val (.int p2), .val (.int p3), .val (.int p4), .val (.int p5), .val (.int i), .val (.int j), .val (.ref b23), .val (.ref b_45), .val (.int (1 : Int32)), .unset] [(.int ((own_upd (own_upd gp (i).toNatClampNeg (gp (j).toNatClampNeg)) (j).toNatClampNeg (gp (i).toNatClampNeg)) 0))])) target → Steps p.tables e below (T45.setTop (mkF m 127 #[.val (.int p0), .val (.int p1), .val (.int p2), .val (.int p3), .val (.int p4), .val (.int p5), .val (.int i), .val (.int j), .val (.ref b23), .val (.ref b_45), .val (.int (1 : Int32)), .unset] [(.int (0 : Int32)), (.ref b_45)])) target := fun target kt => X45.iaload hx (j := (0 : Int32)) (v := (.int ((own_upd (own_upd gp (i).toNatClampNeg (gp (j).toNatClampNeg)) (j).toNatClampNeg (gp (i).toNatClampNeg)) 0))) Ar54.1 (State.isArrayOf_alike hZ.alike Ar54.2.1) Ar54.2.2 (own_in S54 hj54) (H54 _ hj54.2) (g := (mkF m 127 #[.val (.int p0), .val (.int p1), .val (.int p2), .val (.int p3), .val (.int p4), .val (.int p5), .val (.int i), .val (.int j), .val (.ref b23), .val (.ref b_45), .val (.int (1 : Int32)), .unset] [(.int (0 : Int32)), (.ref b_45)])) rfl rfl (hb hby at_127) _ kt
  refine own_go (S' := T45.setTop (mkF m 128 #[.val (.int p0), .val (.int p1), .val (.int p2), .val (.int p3), .val (.int p4), .val (.int p5), .val (.int i), .val (.int j), .val (.ref b23), .val (.ref b_45), .val (.int (1 : Int32)), .unset] [(.int ((own_upd (own_upd gp (i).toNatClampNeg (gp (j).toNatClampNeg)) (j).toNatClampNeg (gp (i).toNatClampNeg)) 0))])) st54 ?_
  refine own_go (S' := T45.setTop (mkF m 139 #[.val (.int p0), .val (.int p1), .val (.int p2), .val (.int p3), .val (.int p4), .val (.int p5), .val (.int i), .val (.int j), .val (.ref b23), .val (.ref b_45), .val (.int (1 : Int32)), .unset] [(.int p4), (.int p3), (.int p2), (.int p1), (.int p0), (.int j), (.int i), (.int (0 : Int32)), (.int ((own_upd (own_upd gp (i).toNatClampNeg (gp (j).toNatClampNeg)) (j).toNatClampNeg (gp (i).toNatClampNeg)) 0))])) (fun target kt => ?_) ?_
  · skip
    show Steps p.tables e below (T45.setTop (mkF m 128 #[.val (.int p0), .val (.int p1), .val (.int p2), .val (.int p3), .val (.int p4), .val (.int p5), .val (.int i), .val (.int j), .val (.ref b23), .val (.ref b_45), .val (.int (1 : Int32)), .unset] [(.int ((own_upd (own_upd gp (i).toNatClampNeg (gp (j).toNatClampNeg)) (j).toNatClampNeg (gp (i).toNatClampNeg)) 0))])) _
    refine XS.iconst X45.here hx rfl (hb hby at_128) ?_
    show Steps p.tables e below (T45.setTop (mkF m 129 #[.val (.int p0), .val (.int p1), .val (.int p2), .val (.int p3), .val (.int p4), .val (.int p5), .val (.int i), .val (.int j), .val (.ref b23), .val (.ref b_45), .val (.int (1 : Int32)), .unset] [(.int (0 : Int32)), (.int ((own_upd (own_upd gp (i).toNatClampNeg (gp (j).toNatClampNeg)) (j).toNatClampNeg (gp (i).toNatClampNeg)) 0))])) _
    refine XS.iload X45.here hx rfl (hb hby at_129) rfl ?_
    show Steps p.tables e below (T45.setTop (mkF m 131 #[.val (.int p0), .val (.int p1), .val (.int p2), .val (.int p3), .val (.int p4), .val (.int p5), .val (.int i), .val (.int j), .val (.ref b23), .val (.ref b_45), .val (.int (1 : Int32)), .unset] [(.int i), (.int (0 : Int32)), (.int ((own_upd (own_upd gp (i).toNatClampNeg (gp (j).toNatClampNeg)) (j).toNatClampNeg (gp (i).toNatClampNeg)) 0))])) _
    refine XS.iload X45.here hx rfl (hb hby at_131) rfl ?_
    show Steps p.tables e below (T45.setTop (mkF m 133 #[.val (.int p0), .val (.int p1), .val (.int p2), .val (.int p3), .val (.int p4), .val (.int p5), .val (.int i), .val (.int j), .val (.ref b23), .val (.ref b_45), .val (.int (1 : Int32)), .unset] [(.int j), (.int i), (.int (0 : Int32)), (.int ((own_upd (own_upd gp (i).toNatClampNeg (gp (j).toNatClampNeg)) (j).toNatClampNeg (gp (i).toNatClampNeg)) 0))])) _
    refine XS.iloadN X45.here hx rfl (hb hby at_133) rfl ?_
    show Steps p.tables e below (T45.setTop (mkF m 134 #[.val (.int p0), .val (.int p1), .val (.int p2), .val (.int p3), .val (.int p4), .val (.int p5), .val (.int i), .val (.int j), .val (.ref b23), .val (.ref b_45), .val (.int (1 : Int32)), .unset] [(.int p0), (.int j), (.int i), (.int (0 : Int32)), (.int ((own_upd (own_upd gp (i).toNatClampNeg (gp (j).toNatClampNeg)) (j).toNatClampNeg (gp (i).toNatClampNeg)) 0))])) _
    refine XS.iloadN X45.here hx rfl (hb hby at_134) rfl ?_
    show Steps p.tables e below (T45.setTop (mkF m 135 #[.val (.int p0), .val (.int p1), .val (.int p2), .val (.int p3), .val (.int p4), .val (.int p5), .val (.int i), .val (.int j), .val (.ref b23), .val (.ref b_45), .val (.int (1 : Int32)), .unset] [(.int p1), (.int p0), (.int j), (.int i), (.int (0 : Int32)), (.int ((own_upd (own_upd gp (i).toNatClampNeg (gp (j).toNatClampNeg)) (j).toNatClampNeg (gp (i).toNatClampNeg)) 0))])) _
    refine XS.iloadN X45.here hx rfl (hb hby at_135) rfl ?_
    show Steps p.tables e below (T45.setTop (mkF m 136 #[.val (.int p0), .val (.int p1), .val (.int p2), .val (.int p3), .val (.int p4), .val (.int p5), .val (.int i), .val (.int j), .val (.ref b23), .val (.ref b_45), .val (.int (1 : Int32)), .unset] [(.int p2), (.int p1), (.int p0), (.int j), (.int i), (.int (0 : Int32)), (.int ((own_upd (own_upd gp (i).toNatClampNeg (gp (j).toNatClampNeg)) (j).toNatClampNeg (gp (i).toNatClampNeg)) 0))])) _
    refine XS.iloadN X45.here hx rfl (hb hby at_136) rfl ?_
    show Steps p.tables e below (T45.setTop (mkF m 137 #[.val (.int p0), .val (.int p1), .val (.int p2), .val (.int p3), .val (.int p4), .val (.int p5), .val (.int i), .val (.int j), .val (.ref b23), .val (.ref b_45), .val (.int (1 : Int32)), .unset] [(.int p3), (.int p2), (.int p1), (.int p0), (.int j), (.int i), (.int (0 : Int32)), (.int ((own_upd (own_upd gp (i).toNatClampNeg (gp (j).toNatClampNeg)) (j).toNatClampNeg (gp (i).toNatClampNeg)) 0))])) _
    refine XS.iload X45.here hx rfl (hb hby at_137) rfl ?_
    exact kt
  obtain ⟨_, _, ⟨T55, L55, k55, n55⟩, -, X55, ⟨Lc55, hQ55, l55, y55, z55⟩, st55⟩ := Jvm.LawKit.callS X45 hx (y := (⟨"com/example/paretoforge/paretoforge/core/PermutationsSwappedPinLaw", "expect", "(IIIIIIII)I"⟩ : MethodName)) hown (mvT hZ (hw _ (List.mem_of_getElem? (i := 14) rfl))) (mvT hZ (hw _ (List.mem_of_getElem? (i := 15) rfl))) (mvT hZ (hw _ (List.mem_of_getElem? (i := 16) rfl))) (mvT hZ (hw _ (List.mem_of_getElem? (i := 17) rfl))) (by decide) (backOf (W := 1) (rm2 l Z aZ hw [] (0 : Int32) i j p0 p1 p2 p3 p4 T45.heap n0 Z45 ) hZ (hw _ (List.mem_of_getElem? (i := 17) rfl)) (hw _ (List.mem_of_getElem? (i := 16) rfl)) (by decide) (by decide)) (g := (mkF m 139 #[.val (.int p0), .val (.int p1), .val (.int p2), .val (.int p3), .val (.int p4), .val (.int p5), .val (.int i), .val (.int j), .val (.ref b23), .val (.ref b_45), .val (.int (1 : Int32)), .unset] [(.int p4), (.int p3), (.int p2), (.int p1), (.int p0), (.int j), (.int i), (.int (0 : Int32)), (.int ((own_upd (own_upd gp (i).toNatClampNeg (gp (j).toNatClampNeg)) (j).toNatClampNeg (gp (i).toNatClampNeg)) 0))])) rfl (by rw [hml]; rfl) (argsL := [(.int (0 : Int32)), (.int i), (.int j), (.int p0), (.int p1), (.int p2), (.int p3), (.int p4)]) (rest := [(.int ((own_upd (own_upd gp (i).toNatClampNeg (gp (j).toNatClampNeg)) (j).toNatClampNeg (gp (i).toNatClampNeg)) 0))]) (lenOf own_pd3 rfl) rfl (by show 2 * 0 + _ ≤ _; exact Nat.le_of_eq rfl) (hb hby at_139) (fun _ _ => ⟨rfl, rfl, (by decide : 2 + 0 ≤ _), (by decide : 10 + 0 ≤ _)⟩)
  dsimp only [Pt.U, Pt.locs, Pt.cells, Pt.slots] at X55 l55 y55 z55 st55 hQ55
  subst l55 y55 z55
  obtain ⟨rfl, N55q, e55⟩ := hQ55
  have N55 := Fr.app N45 N55q
  refine own_go (S' := T55.setTop (mkF m 142 #[.val (.int p0), .val (.int p1), .val (.int p2), .val (.int p3), .val (.int p4), .val (.int p5), .val (.int i), .val (.int j), .val (.ref b23), .val (.ref b_45), .val (.int (1 : Int32)), .unset] [(.int (own_expect (0 : Int32) i j p0 p1 p2 p3 p4)), (.int ((own_upd (own_upd gp (i).toNatClampNeg (gp (j).toNatClampNeg)) (j).toNatClampNeg (gp (i).toNatClampNeg)) 0))])) st55 ?_
  refine own_go (S' := T55.setTop (mkF m 148 #[.val (.int p0), .val (.int p1), .val (.int p2), .val (.int p3), .val (.int p4), .val (.int p5), .val (.int i), .val (.int j), .val (.ref b23), .val (.ref b_45), .val (.int (1 : Int32)), .unset] [(.int (1 : Int32)), (.ref b_45)])) (fun target kt => ?_) ?_
  · skip
    show Steps p.tables e below (T55.setTop (mkF m 142 #[.val (.int p0), .val (.int p1), .val (.int p2), .val (.int p3), .val (.int p4), .val (.int p5), .val (.int i), .val (.int j), .val (.ref b23), .val (.ref b_45), .val (.int (1 : Int32)), .unset] [(.int (own_expect (0 : Int32) i j p0 p1 p2 p3 p4)), (.int ((own_upd (own_upd gp (i).toNatClampNeg (gp (j).toNatClampNeg)) (j).toNatClampNeg (gp (i).toNatClampNeg)) 0))])) _
    refine XS.icmpNo X55.here hx rfl (hb hby at_142) rfl (teq (own_sw0 h_gp ci cj : ((own_upd (own_upd gp (i).toNatClampNeg (gp (j).toNatClampNeg)) (j).toNatClampNeg (gp (i).toNatClampNeg)) 0) = (own_expect (0 : Int32) i j p0 p1 p2 p3 p4))).2 ?_
    show Steps p.tables e below (T55.setTop (mkF m 145 #[.val (.int p0), .val (.int p1), .val (.int p2), .val (.int p3), .val (.int p4), .val (.int p5), .val (.int i), .val (.int j), .val (.ref b23), .val (.ref b_45), .val (.int (1 : Int32)), .unset] [])) _
    refine XS.aload X55.here hx rfl (hb hby at_145) rfl rfl ?_
    show Steps p.tables e below (T55.setTop (mkF m 147 #[.val (.int p0), .val (.int p1), .val (.int p2), .val (.int p3), .val (.int p4), .val (.int p5), .val (.int i), .val (.int j), .val (.ref b23), .val (.ref b_45), .val (.int (1 : Int32)), .unset] [(.ref b_45)])) _
    refine XS.iconst X55.here hx rfl (hb hby at_147) ?_
    exact kt
  obtain ⟨c56, Ar56, S56, M56, H56⟩ := id f45_0
  have hj56 : ¬ (1 : Int32) < 0 ∧ ((1 : Int32)).toNatClampNeg < 5 := ⟨by decide, by decide⟩
  have st56 : ∀ target, Steps p.tables e below (T55.setTop (mkF m 149 #[.val (.int p0), .val (.int p1), .val (.int p2), .val (.int p3), .val (.int p4), .val (.int p5), .val (.int i), .val (.int j), .val (.ref b23), .val (.ref b_45), .val (.int (1 : Int32)), .unset] [(.int ((own_upd (own_upd gp (i).toNatClampNeg (gp (j).toNatClampNeg)) (j).toNatClampNeg (gp (i).toNatClampNeg)) 1))])) target → Steps p.tables e below (T55.setTop (mkF m 148 #[.val (.int p0), .val (.int p1), .val (.int p2), .val (.int p3), .val (.int p4), .val (.int p5), .val (.int i), .val (.int j), .val (.ref b23), .val (.ref b_45), .val (.int (1 : Int32)), .unset] [(.int (1 : Int32)), (.ref b_45)])) target := fun target kt => X55.iaload hx (j := (1 : Int32)) (v := (.int ((own_upd (own_upd gp (i).toNatClampNeg (gp (j).toNatClampNeg)) (j).toNatClampNeg (gp (i).toNatClampNeg)) 1))) (by rw [e55]; exact Ar56.1) (State.isArrayOf_alike hZ.alike Ar56.2.1) Ar56.2.2 (own_in S56 hj56) (H56 _ hj56.2) (g := (mkF m 148 #[.val (.int p0), .val (.int p1), .val (.int p2), .val (.int p3), .val (.int p4), .val (.int p5), .val (.int i), .val (.int j), .val (.ref b23), .val (.ref b_45), .val (.int (1 : Int32)), .unset] [(.int (1 : Int32)), (.ref b_45)])) rfl rfl (hb hby at_148) _ kt
  refine own_go (S' := T55.setTop (mkF m 149 #[.val (.int p0), .val (.int p1), .val (.int p2), .val (.int p3), .val (.int p4), .val (.int p5), .val (.int i), .val (.int j), .val (.ref b23), .val (.ref b_45), .val (.int (1 : Int32)), .unset] [(.int ((own_upd (own_upd gp (i).toNatClampNeg (gp (j).toNatClampNeg)) (j).toNatClampNeg (gp (i).toNatClampNeg)) 1))])) st56 ?_
  refine own_go (S' := T55.setTop (mkF m 160 #[.val (.int p0), .val (.int p1), .val (.int p2), .val (.int p3), .val (.int p4), .val (.int p5), .val (.int i), .val (.int j), .val (.ref b23), .val (.ref b_45), .val (.int (1 : Int32)), .unset] [(.int p4), (.int p3), (.int p2), (.int p1), (.int p0), (.int j), (.int i), (.int (1 : Int32)), (.int ((own_upd (own_upd gp (i).toNatClampNeg (gp (j).toNatClampNeg)) (j).toNatClampNeg (gp (i).toNatClampNeg)) 1))])) (fun target kt => ?_) ?_
  · skip
    show Steps p.tables e below (T55.setTop (mkF m 149 #[.val (.int p0), .val (.int p1), .val (.int p2), .val (.int p3), .val (.int p4), .val (.int p5), .val (.int i), .val (.int j), .val (.ref b23), .val (.ref b_45), .val (.int (1 : Int32)), .unset] [(.int ((own_upd (own_upd gp (i).toNatClampNeg (gp (j).toNatClampNeg)) (j).toNatClampNeg (gp (i).toNatClampNeg)) 1))])) _
    refine XS.iconst X55.here hx rfl (hb hby at_149) ?_
    show Steps p.tables e below (T55.setTop (mkF m 150 #[.val (.int p0), .val (.int p1), .val (.int p2), .val (.int p3), .val (.int p4), .val (.int p5), .val (.int i), .val (.int j), .val (.ref b23), .val (.ref b_45), .val (.int (1 : Int32)), .unset] [(.int (1 : Int32)), (.int ((own_upd (own_upd gp (i).toNatClampNeg (gp (j).toNatClampNeg)) (j).toNatClampNeg (gp (i).toNatClampNeg)) 1))])) _
    refine XS.iload X55.here hx rfl (hb hby at_150) rfl ?_
    show Steps p.tables e below (T55.setTop (mkF m 152 #[.val (.int p0), .val (.int p1), .val (.int p2), .val (.int p3), .val (.int p4), .val (.int p5), .val (.int i), .val (.int j), .val (.ref b23), .val (.ref b_45), .val (.int (1 : Int32)), .unset] [(.int i), (.int (1 : Int32)), (.int ((own_upd (own_upd gp (i).toNatClampNeg (gp (j).toNatClampNeg)) (j).toNatClampNeg (gp (i).toNatClampNeg)) 1))])) _
    refine XS.iload X55.here hx rfl (hb hby at_152) rfl ?_
    show Steps p.tables e below (T55.setTop (mkF m 154 #[.val (.int p0), .val (.int p1), .val (.int p2), .val (.int p3), .val (.int p4), .val (.int p5), .val (.int i), .val (.int j), .val (.ref b23), .val (.ref b_45), .val (.int (1 : Int32)), .unset] [(.int j), (.int i), (.int (1 : Int32)), (.int ((own_upd (own_upd gp (i).toNatClampNeg (gp (j).toNatClampNeg)) (j).toNatClampNeg (gp (i).toNatClampNeg)) 1))])) _
    refine XS.iloadN X55.here hx rfl (hb hby at_154) rfl ?_
    show Steps p.tables e below (T55.setTop (mkF m 155 #[.val (.int p0), .val (.int p1), .val (.int p2), .val (.int p3), .val (.int p4), .val (.int p5), .val (.int i), .val (.int j), .val (.ref b23), .val (.ref b_45), .val (.int (1 : Int32)), .unset] [(.int p0), (.int j), (.int i), (.int (1 : Int32)), (.int ((own_upd (own_upd gp (i).toNatClampNeg (gp (j).toNatClampNeg)) (j).toNatClampNeg (gp (i).toNatClampNeg)) 1))])) _
    refine XS.iloadN X55.here hx rfl (hb hby at_155) rfl ?_
    show Steps p.tables e below (T55.setTop (mkF m 156 #[.val (.int p0), .val (.int p1), .val (.int p2), .val (.int p3), .val (.int p4), .val (.int p5), .val (.int i), .val (.int j), .val (.ref b23), .val (.ref b_45), .val (.int (1 : Int32)), .unset] [(.int p1), (.int p0), (.int j), (.int i), (.int (1 : Int32)), (.int ((own_upd (own_upd gp (i).toNatClampNeg (gp (j).toNatClampNeg)) (j).toNatClampNeg (gp (i).toNatClampNeg)) 1))])) _
    refine XS.iloadN X55.here hx rfl (hb hby at_156) rfl ?_
    show Steps p.tables e below (T55.setTop (mkF m 157 #[.val (.int p0), .val (.int p1), .val (.int p2), .val (.int p3), .val (.int p4), .val (.int p5), .val (.int i), .val (.int j), .val (.ref b23), .val (.ref b_45), .val (.int (1 : Int32)), .unset] [(.int p2), (.int p1), (.int p0), (.int j), (.int i), (.int (1 : Int32)), (.int ((own_upd (own_upd gp (i).toNatClampNeg (gp (j).toNatClampNeg)) (j).toNatClampNeg (gp (i).toNatClampNeg)) 1))])) _
    refine XS.iloadN X55.here hx rfl (hb hby at_157) rfl ?_
    show Steps p.tables e below (T55.setTop (mkF m 158 #[.val (.int p0), .val (.int p1), .val (.int p2), .val (.int p3), .val (.int p4), .val (.int p5), .val (.int i), .val (.int j), .val (.ref b23), .val (.ref b_45), .val (.int (1 : Int32)), .unset] [(.int p3), (.int p2), (.int p1), (.int p0), (.int j), (.int i), (.int (1 : Int32)), (.int ((own_upd (own_upd gp (i).toNatClampNeg (gp (j).toNatClampNeg)) (j).toNatClampNeg (gp (i).toNatClampNeg)) 1))])) _
    refine XS.iload X55.here hx rfl (hb hby at_158) rfl ?_
    exact kt
  obtain ⟨_, _, ⟨T57, L57, k57, n57⟩, -, X57, ⟨Lc57, hQ57, l57, y57, z57⟩, st57⟩ := Jvm.LawKit.callS X55 hx (y := (⟨"com/example/paretoforge/paretoforge/core/PermutationsSwappedPinLaw", "expect", "(IIIIIIII)I"⟩ : MethodName)) hown (mvT hZ (hw _ (List.mem_of_getElem? (i := 14) rfl))) (mvT hZ (hw _ (List.mem_of_getElem? (i := 15) rfl))) (mvT hZ (hw _ (List.mem_of_getElem? (i := 16) rfl))) (mvT hZ (hw _ (List.mem_of_getElem? (i := 17) rfl))) (by decide) (backOf (W := 1) (rm2 l Z aZ hw [] (1 : Int32) i j p0 p1 p2 p3 p4 T45.heap n0 Z45 ) hZ (hw _ (List.mem_of_getElem? (i := 17) rfl)) (hw _ (List.mem_of_getElem? (i := 16) rfl)) (by decide) (by decide)) (g := (mkF m 160 #[.val (.int p0), .val (.int p1), .val (.int p2), .val (.int p3), .val (.int p4), .val (.int p5), .val (.int i), .val (.int j), .val (.ref b23), .val (.ref b_45), .val (.int (1 : Int32)), .unset] [(.int p4), (.int p3), (.int p2), (.int p1), (.int p0), (.int j), (.int i), (.int (1 : Int32)), (.int ((own_upd (own_upd gp (i).toNatClampNeg (gp (j).toNatClampNeg)) (j).toNatClampNeg (gp (i).toNatClampNeg)) 1))])) rfl (by rw [hml]; rfl) (argsL := [(.int (1 : Int32)), (.int i), (.int j), (.int p0), (.int p1), (.int p2), (.int p3), (.int p4)]) (rest := [(.int ((own_upd (own_upd gp (i).toNatClampNeg (gp (j).toNatClampNeg)) (j).toNatClampNeg (gp (i).toNatClampNeg)) 1))]) (lenOf own_pd3 rfl) rfl (by show 2 * 0 + _ ≤ _; exact Nat.le_of_eq rfl) (hb hby at_160) (fun _ _ => ⟨rfl, e55, (by decide : 2 + 0 ≤ _), (by decide : 10 + 0 ≤ _)⟩)
  dsimp only [Pt.U, Pt.locs, Pt.cells, Pt.slots] at X57 l57 y57 z57 st57 hQ57
  subst l57 y57 z57
  obtain ⟨rfl, N57q, e57⟩ := hQ57
  have N57 := Fr.app N55 N57q
  refine own_go (S' := T57.setTop (mkF m 163 #[.val (.int p0), .val (.int p1), .val (.int p2), .val (.int p3), .val (.int p4), .val (.int p5), .val (.int i), .val (.int j), .val (.ref b23), .val (.ref b_45), .val (.int (1 : Int32)), .unset] [(.int (own_expect (1 : Int32) i j p0 p1 p2 p3 p4)), (.int ((own_upd (own_upd gp (i).toNatClampNeg (gp (j).toNatClampNeg)) (j).toNatClampNeg (gp (i).toNatClampNeg)) 1))])) st57 ?_
  refine own_go (S' := T57.setTop (mkF m 169 #[.val (.int p0), .val (.int p1), .val (.int p2), .val (.int p3), .val (.int p4), .val (.int p5), .val (.int i), .val (.int j), .val (.ref b23), .val (.ref b_45), .val (.int (1 : Int32)), .unset] [(.int (2 : Int32)), (.ref b_45)])) (fun target kt => ?_) ?_
  · skip
    show Steps p.tables e below (T57.setTop (mkF m 163 #[.val (.int p0), .val (.int p1), .val (.int p2), .val (.int p3), .val (.int p4), .val (.int p5), .val (.int i), .val (.int j), .val (.ref b23), .val (.ref b_45), .val (.int (1 : Int32)), .unset] [(.int (own_expect (1 : Int32) i j p0 p1 p2 p3 p4)), (.int ((own_upd (own_upd gp (i).toNatClampNeg (gp (j).toNatClampNeg)) (j).toNatClampNeg (gp (i).toNatClampNeg)) 1))])) _
    refine XS.icmpNo X57.here hx rfl (hb hby at_163) rfl (teq (own_sw1 h_gp ci cj : ((own_upd (own_upd gp (i).toNatClampNeg (gp (j).toNatClampNeg)) (j).toNatClampNeg (gp (i).toNatClampNeg)) 1) = (own_expect (1 : Int32) i j p0 p1 p2 p3 p4))).2 ?_
    show Steps p.tables e below (T57.setTop (mkF m 166 #[.val (.int p0), .val (.int p1), .val (.int p2), .val (.int p3), .val (.int p4), .val (.int p5), .val (.int i), .val (.int j), .val (.ref b23), .val (.ref b_45), .val (.int (1 : Int32)), .unset] [])) _
    refine XS.aload X57.here hx rfl (hb hby at_166) rfl rfl ?_
    show Steps p.tables e below (T57.setTop (mkF m 168 #[.val (.int p0), .val (.int p1), .val (.int p2), .val (.int p3), .val (.int p4), .val (.int p5), .val (.int i), .val (.int j), .val (.ref b23), .val (.ref b_45), .val (.int (1 : Int32)), .unset] [(.ref b_45)])) _
    refine XS.iconst X57.here hx rfl (hb hby at_168) ?_
    exact kt
  obtain ⟨c58, Ar58, S58, M58, H58⟩ := id f45_0
  have hj58 : ¬ (2 : Int32) < 0 ∧ ((2 : Int32)).toNatClampNeg < 5 := ⟨by decide, by decide⟩
  have st58 : ∀ target, Steps p.tables e below (T57.setTop (mkF m 170 #[.val (.int p0), .val (.int p1), .val (.int p2), .val (.int p3), .val (.int p4), .val (.int p5), .val (.int i), .val (.int j), .val (.ref b23), .val (.ref b_45), .val (.int (1 : Int32)), .unset] [(.int ((own_upd (own_upd gp (i).toNatClampNeg (gp (j).toNatClampNeg)) (j).toNatClampNeg (gp (i).toNatClampNeg)) 2))])) target → Steps p.tables e below (T57.setTop (mkF m 169 #[.val (.int p0), .val (.int p1), .val (.int p2), .val (.int p3), .val (.int p4), .val (.int p5), .val (.int i), .val (.int j), .val (.ref b23), .val (.ref b_45), .val (.int (1 : Int32)), .unset] [(.int (2 : Int32)), (.ref b_45)])) target := fun target kt => X57.iaload hx (j := (2 : Int32)) (v := (.int ((own_upd (own_upd gp (i).toNatClampNeg (gp (j).toNatClampNeg)) (j).toNatClampNeg (gp (i).toNatClampNeg)) 2))) (by rw [e57]; exact Ar58.1) (State.isArrayOf_alike hZ.alike Ar58.2.1) Ar58.2.2 (own_in S58 hj58) (H58 _ hj58.2) (g := (mkF m 169 #[.val (.int p0), .val (.int p1), .val (.int p2), .val (.int p3), .val (.int p4), .val (.int p5), .val (.int i), .val (.int j), .val (.ref b23), .val (.ref b_45), .val (.int (1 : Int32)), .unset] [(.int (2 : Int32)), (.ref b_45)])) rfl rfl (hb hby at_169) _ kt
  refine own_go (S' := T57.setTop (mkF m 170 #[.val (.int p0), .val (.int p1), .val (.int p2), .val (.int p3), .val (.int p4), .val (.int p5), .val (.int i), .val (.int j), .val (.ref b23), .val (.ref b_45), .val (.int (1 : Int32)), .unset] [(.int ((own_upd (own_upd gp (i).toNatClampNeg (gp (j).toNatClampNeg)) (j).toNatClampNeg (gp (i).toNatClampNeg)) 2))])) st58 ?_
  refine own_go (S' := T57.setTop (mkF m 181 #[.val (.int p0), .val (.int p1), .val (.int p2), .val (.int p3), .val (.int p4), .val (.int p5), .val (.int i), .val (.int j), .val (.ref b23), .val (.ref b_45), .val (.int (1 : Int32)), .unset] [(.int p4), (.int p3), (.int p2), (.int p1), (.int p0), (.int j), (.int i), (.int (2 : Int32)), (.int ((own_upd (own_upd gp (i).toNatClampNeg (gp (j).toNatClampNeg)) (j).toNatClampNeg (gp (i).toNatClampNeg)) 2))])) (fun target kt => ?_) ?_
  · skip
    show Steps p.tables e below (T57.setTop (mkF m 170 #[.val (.int p0), .val (.int p1), .val (.int p2), .val (.int p3), .val (.int p4), .val (.int p5), .val (.int i), .val (.int j), .val (.ref b23), .val (.ref b_45), .val (.int (1 : Int32)), .unset] [(.int ((own_upd (own_upd gp (i).toNatClampNeg (gp (j).toNatClampNeg)) (j).toNatClampNeg (gp (i).toNatClampNeg)) 2))])) _
    refine XS.iconst X57.here hx rfl (hb hby at_170) ?_
    show Steps p.tables e below (T57.setTop (mkF m 171 #[.val (.int p0), .val (.int p1), .val (.int p2), .val (.int p3), .val (.int p4), .val (.int p5), .val (.int i), .val (.int j), .val (.ref b23), .val (.ref b_45), .val (.int (1 : Int32)), .unset] [(.int (2 : Int32)), (.int ((own_upd (own_upd gp (i).toNatClampNeg (gp (j).toNatClampNeg)) (j).toNatClampNeg (gp (i).toNatClampNeg)) 2))])) _
    refine XS.iload X57.here hx rfl (hb hby at_171) rfl ?_
    show Steps p.tables e below (T57.setTop (mkF m 173 #[.val (.int p0), .val (.int p1), .val (.int p2), .val (.int p3), .val (.int p4), .val (.int p5), .val (.int i), .val (.int j), .val (.ref b23), .val (.ref b_45), .val (.int (1 : Int32)), .unset] [(.int i), (.int (2 : Int32)), (.int ((own_upd (own_upd gp (i).toNatClampNeg (gp (j).toNatClampNeg)) (j).toNatClampNeg (gp (i).toNatClampNeg)) 2))])) _
    refine XS.iload X57.here hx rfl (hb hby at_173) rfl ?_
    show Steps p.tables e below (T57.setTop (mkF m 175 #[.val (.int p0), .val (.int p1), .val (.int p2), .val (.int p3), .val (.int p4), .val (.int p5), .val (.int i), .val (.int j), .val (.ref b23), .val (.ref b_45), .val (.int (1 : Int32)), .unset] [(.int j), (.int i), (.int (2 : Int32)), (.int ((own_upd (own_upd gp (i).toNatClampNeg (gp (j).toNatClampNeg)) (j).toNatClampNeg (gp (i).toNatClampNeg)) 2))])) _
    refine XS.iloadN X57.here hx rfl (hb hby at_175) rfl ?_
    show Steps p.tables e below (T57.setTop (mkF m 176 #[.val (.int p0), .val (.int p1), .val (.int p2), .val (.int p3), .val (.int p4), .val (.int p5), .val (.int i), .val (.int j), .val (.ref b23), .val (.ref b_45), .val (.int (1 : Int32)), .unset] [(.int p0), (.int j), (.int i), (.int (2 : Int32)), (.int ((own_upd (own_upd gp (i).toNatClampNeg (gp (j).toNatClampNeg)) (j).toNatClampNeg (gp (i).toNatClampNeg)) 2))])) _
    refine XS.iloadN X57.here hx rfl (hb hby at_176) rfl ?_
    show Steps p.tables e below (T57.setTop (mkF m 177 #[.val (.int p0), .val (.int p1), .val (.int p2), .val (.int p3), .val (.int p4), .val (.int p5), .val (.int i), .val (.int j), .val (.ref b23), .val (.ref b_45), .val (.int (1 : Int32)), .unset] [(.int p1), (.int p0), (.int j), (.int i), (.int (2 : Int32)), (.int ((own_upd (own_upd gp (i).toNatClampNeg (gp (j).toNatClampNeg)) (j).toNatClampNeg (gp (i).toNatClampNeg)) 2))])) _
    refine XS.iloadN X57.here hx rfl (hb hby at_177) rfl ?_
    show Steps p.tables e below (T57.setTop (mkF m 178 #[.val (.int p0), .val (.int p1), .val (.int p2), .val (.int p3), .val (.int p4), .val (.int p5), .val (.int i), .val (.int j), .val (.ref b23), .val (.ref b_45), .val (.int (1 : Int32)), .unset] [(.int p2), (.int p1), (.int p0), (.int j), (.int i), (.int (2 : Int32)), (.int ((own_upd (own_upd gp (i).toNatClampNeg (gp (j).toNatClampNeg)) (j).toNatClampNeg (gp (i).toNatClampNeg)) 2))])) _
    refine XS.iloadN X57.here hx rfl (hb hby at_178) rfl ?_
    show Steps p.tables e below (T57.setTop (mkF m 179 #[.val (.int p0), .val (.int p1), .val (.int p2), .val (.int p3), .val (.int p4), .val (.int p5), .val (.int i), .val (.int j), .val (.ref b23), .val (.ref b_45), .val (.int (1 : Int32)), .unset] [(.int p3), (.int p2), (.int p1), (.int p0), (.int j), (.int i), (.int (2 : Int32)), (.int ((own_upd (own_upd gp (i).toNatClampNeg (gp (j).toNatClampNeg)) (j).toNatClampNeg (gp (i).toNatClampNeg)) 2))])) _
    refine XS.iload X57.here hx rfl (hb hby at_179) rfl ?_
    exact kt
  obtain ⟨_, _, ⟨T59, L59, k59, n59⟩, -, X59, ⟨Lc59, hQ59, l59, y59, z59⟩, st59⟩ := Jvm.LawKit.callS X57 hx (y := (⟨"com/example/paretoforge/paretoforge/core/PermutationsSwappedPinLaw", "expect", "(IIIIIIII)I"⟩ : MethodName)) hown (mvT hZ (hw _ (List.mem_of_getElem? (i := 14) rfl))) (mvT hZ (hw _ (List.mem_of_getElem? (i := 15) rfl))) (mvT hZ (hw _ (List.mem_of_getElem? (i := 16) rfl))) (mvT hZ (hw _ (List.mem_of_getElem? (i := 17) rfl))) (by decide) (backOf (W := 1) (rm2 l Z aZ hw [] (2 : Int32) i j p0 p1 p2 p3 p4 T45.heap n0 Z45 ) hZ (hw _ (List.mem_of_getElem? (i := 17) rfl)) (hw _ (List.mem_of_getElem? (i := 16) rfl)) (by decide) (by decide)) (g := (mkF m 181 #[.val (.int p0), .val (.int p1), .val (.int p2), .val (.int p3), .val (.int p4), .val (.int p5), .val (.int i), .val (.int j), .val (.ref b23), .val (.ref b_45), .val (.int (1 : Int32)), .unset] [(.int p4), (.int p3), (.int p2), (.int p1), (.int p0), (.int j), (.int i), (.int (2 : Int32)), (.int ((own_upd (own_upd gp (i).toNatClampNeg (gp (j).toNatClampNeg)) (j).toNatClampNeg (gp (i).toNatClampNeg)) 2))])) rfl (by rw [hml]; rfl) (argsL := [(.int (2 : Int32)), (.int i), (.int j), (.int p0), (.int p1), (.int p2), (.int p3), (.int p4)]) (rest := [(.int ((own_upd (own_upd gp (i).toNatClampNeg (gp (j).toNatClampNeg)) (j).toNatClampNeg (gp (i).toNatClampNeg)) 2))]) (lenOf own_pd3 rfl) rfl (by show 2 * 0 + _ ≤ _; exact Nat.le_of_eq rfl) (hb hby at_181) (fun _ _ => ⟨rfl, e57, (by decide : 2 + 0 ≤ _), (by decide : 10 + 0 ≤ _)⟩)
  dsimp only [Pt.U, Pt.locs, Pt.cells, Pt.slots] at X59 l59 y59 z59 st59 hQ59
  subst l59 y59 z59
  obtain ⟨rfl, N59q, e59⟩ := hQ59
  have N59 := Fr.app N57 N59q
  refine own_go (S' := T59.setTop (mkF m 184 #[.val (.int p0), .val (.int p1), .val (.int p2), .val (.int p3), .val (.int p4), .val (.int p5), .val (.int i), .val (.int j), .val (.ref b23), .val (.ref b_45), .val (.int (1 : Int32)), .unset] [(.int (own_expect (2 : Int32) i j p0 p1 p2 p3 p4)), (.int ((own_upd (own_upd gp (i).toNatClampNeg (gp (j).toNatClampNeg)) (j).toNatClampNeg (gp (i).toNatClampNeg)) 2))])) st59 ?_
  refine own_go (S' := T59.setTop (mkF m 190 #[.val (.int p0), .val (.int p1), .val (.int p2), .val (.int p3), .val (.int p4), .val (.int p5), .val (.int i), .val (.int j), .val (.ref b23), .val (.ref b_45), .val (.int (1 : Int32)), .unset] [(.int (3 : Int32)), (.ref b_45)])) (fun target kt => ?_) ?_
  · skip
    show Steps p.tables e below (T59.setTop (mkF m 184 #[.val (.int p0), .val (.int p1), .val (.int p2), .val (.int p3), .val (.int p4), .val (.int p5), .val (.int i), .val (.int j), .val (.ref b23), .val (.ref b_45), .val (.int (1 : Int32)), .unset] [(.int (own_expect (2 : Int32) i j p0 p1 p2 p3 p4)), (.int ((own_upd (own_upd gp (i).toNatClampNeg (gp (j).toNatClampNeg)) (j).toNatClampNeg (gp (i).toNatClampNeg)) 2))])) _
    refine XS.icmpNo X59.here hx rfl (hb hby at_184) rfl (teq (own_sw2 h_gp ci cj : ((own_upd (own_upd gp (i).toNatClampNeg (gp (j).toNatClampNeg)) (j).toNatClampNeg (gp (i).toNatClampNeg)) 2) = (own_expect (2 : Int32) i j p0 p1 p2 p3 p4))).2 ?_
    show Steps p.tables e below (T59.setTop (mkF m 187 #[.val (.int p0), .val (.int p1), .val (.int p2), .val (.int p3), .val (.int p4), .val (.int p5), .val (.int i), .val (.int j), .val (.ref b23), .val (.ref b_45), .val (.int (1 : Int32)), .unset] [])) _
    refine XS.aload X59.here hx rfl (hb hby at_187) rfl rfl ?_
    show Steps p.tables e below (T59.setTop (mkF m 189 #[.val (.int p0), .val (.int p1), .val (.int p2), .val (.int p3), .val (.int p4), .val (.int p5), .val (.int i), .val (.int j), .val (.ref b23), .val (.ref b_45), .val (.int (1 : Int32)), .unset] [(.ref b_45)])) _
    refine XS.iconst X59.here hx rfl (hb hby at_189) ?_
    exact kt
  obtain ⟨c60, Ar60, S60, M60, H60⟩ := id f45_0
  have hj60 : ¬ (3 : Int32) < 0 ∧ ((3 : Int32)).toNatClampNeg < 5 := ⟨by decide, by decide⟩
  have st60 : ∀ target, Steps p.tables e below (T59.setTop (mkF m 191 #[.val (.int p0), .val (.int p1), .val (.int p2), .val (.int p3), .val (.int p4), .val (.int p5), .val (.int i), .val (.int j), .val (.ref b23), .val (.ref b_45), .val (.int (1 : Int32)), .unset] [(.int ((own_upd (own_upd gp (i).toNatClampNeg (gp (j).toNatClampNeg)) (j).toNatClampNeg (gp (i).toNatClampNeg)) 3))])) target → Steps p.tables e below (T59.setTop (mkF m 190 #[.val (.int p0), .val (.int p1), .val (.int p2), .val (.int p3), .val (.int p4), .val (.int p5), .val (.int i), .val (.int j), .val (.ref b23), .val (.ref b_45), .val (.int (1 : Int32)), .unset] [(.int (3 : Int32)), (.ref b_45)])) target := fun target kt => X59.iaload hx (j := (3 : Int32)) (v := (.int ((own_upd (own_upd gp (i).toNatClampNeg (gp (j).toNatClampNeg)) (j).toNatClampNeg (gp (i).toNatClampNeg)) 3))) (by rw [e59]; exact Ar60.1) (State.isArrayOf_alike hZ.alike Ar60.2.1) Ar60.2.2 (own_in S60 hj60) (H60 _ hj60.2) (g := (mkF m 190 #[.val (.int p0), .val (.int p1), .val (.int p2), .val (.int p3), .val (.int p4), .val (.int p5), .val (.int i), .val (.int j), .val (.ref b23), .val (.ref b_45), .val (.int (1 : Int32)), .unset] [(.int (3 : Int32)), (.ref b_45)])) rfl rfl (hb hby at_190) _ kt
  refine own_go (S' := T59.setTop (mkF m 191 #[.val (.int p0), .val (.int p1), .val (.int p2), .val (.int p3), .val (.int p4), .val (.int p5), .val (.int i), .val (.int j), .val (.ref b23), .val (.ref b_45), .val (.int (1 : Int32)), .unset] [(.int ((own_upd (own_upd gp (i).toNatClampNeg (gp (j).toNatClampNeg)) (j).toNatClampNeg (gp (i).toNatClampNeg)) 3))])) st60 ?_
  refine own_go (S' := T59.setTop (mkF m 202 #[.val (.int p0), .val (.int p1), .val (.int p2), .val (.int p3), .val (.int p4), .val (.int p5), .val (.int i), .val (.int j), .val (.ref b23), .val (.ref b_45), .val (.int (1 : Int32)), .unset] [(.int p4), (.int p3), (.int p2), (.int p1), (.int p0), (.int j), (.int i), (.int (3 : Int32)), (.int ((own_upd (own_upd gp (i).toNatClampNeg (gp (j).toNatClampNeg)) (j).toNatClampNeg (gp (i).toNatClampNeg)) 3))])) (fun target kt => ?_) ?_
  · skip
    show Steps p.tables e below (T59.setTop (mkF m 191 #[.val (.int p0), .val (.int p1), .val (.int p2), .val (.int p3), .val (.int p4), .val (.int p5), .val (.int i), .val (.int j), .val (.ref b23), .val (.ref b_45), .val (.int (1 : Int32)), .unset] [(.int ((own_upd (own_upd gp (i).toNatClampNeg (gp (j).toNatClampNeg)) (j).toNatClampNeg (gp (i).toNatClampNeg)) 3))])) _
    refine XS.iconst X59.here hx rfl (hb hby at_191) ?_
    show Steps p.tables e below (T59.setTop (mkF m 192 #[.val (.int p0), .val (.int p1), .val (.int p2), .val (.int p3), .val (.int p4), .val (.int p5), .val (.int i), .val (.int j), .val (.ref b23), .val (.ref b_45), .val (.int (1 : Int32)), .unset] [(.int (3 : Int32)), (.int ((own_upd (own_upd gp (i).toNatClampNeg (gp (j).toNatClampNeg)) (j).toNatClampNeg (gp (i).toNatClampNeg)) 3))])) _
    refine XS.iload X59.here hx rfl (hb hby at_192) rfl ?_
    show Steps p.tables e below (T59.setTop (mkF m 194 #[.val (.int p0), .val (.int p1), .val (.int p2), .val (.int p3), .val (.int p4), .val (.int p5), .val (.int i), .val (.int j), .val (.ref b23), .val (.ref b_45), .val (.int (1 : Int32)), .unset] [(.int i), (.int (3 : Int32)), (.int ((own_upd (own_upd gp (i).toNatClampNeg (gp (j).toNatClampNeg)) (j).toNatClampNeg (gp (i).toNatClampNeg)) 3))])) _
    refine XS.iload X59.here hx rfl (hb hby at_194) rfl ?_
    show Steps p.tables e below (T59.setTop (mkF m 196 #[.val (.int p0), .val (.int p1), .val (.int p2), .val (.int p3), .val (.int p4), .val (.int p5), .val (.int i), .val (.int j), .val (.ref b23), .val (.ref b_45), .val (.int (1 : Int32)), .unset] [(.int j), (.int i), (.int (3 : Int32)), (.int ((own_upd (own_upd gp (i).toNatClampNeg (gp (j).toNatClampNeg)) (j).toNatClampNeg (gp (i).toNatClampNeg)) 3))])) _
    refine XS.iloadN X59.here hx rfl (hb hby at_196) rfl ?_
    show Steps p.tables e below (T59.setTop (mkF m 197 #[.val (.int p0), .val (.int p1), .val (.int p2), .val (.int p3), .val (.int p4), .val (.int p5), .val (.int i), .val (.int j), .val (.ref b23), .val (.ref b_45), .val (.int (1 : Int32)), .unset] [(.int p0), (.int j), (.int i), (.int (3 : Int32)), (.int ((own_upd (own_upd gp (i).toNatClampNeg (gp (j).toNatClampNeg)) (j).toNatClampNeg (gp (i).toNatClampNeg)) 3))])) _
    refine XS.iloadN X59.here hx rfl (hb hby at_197) rfl ?_
    show Steps p.tables e below (T59.setTop (mkF m 198 #[.val (.int p0), .val (.int p1), .val (.int p2), .val (.int p3), .val (.int p4), .val (.int p5), .val (.int i), .val (.int j), .val (.ref b23), .val (.ref b_45), .val (.int (1 : Int32)), .unset] [(.int p1), (.int p0), (.int j), (.int i), (.int (3 : Int32)), (.int ((own_upd (own_upd gp (i).toNatClampNeg (gp (j).toNatClampNeg)) (j).toNatClampNeg (gp (i).toNatClampNeg)) 3))])) _
    refine XS.iloadN X59.here hx rfl (hb hby at_198) rfl ?_
    show Steps p.tables e below (T59.setTop (mkF m 199 #[.val (.int p0), .val (.int p1), .val (.int p2), .val (.int p3), .val (.int p4), .val (.int p5), .val (.int i), .val (.int j), .val (.ref b23), .val (.ref b_45), .val (.int (1 : Int32)), .unset] [(.int p2), (.int p1), (.int p0), (.int j), (.int i), (.int (3 : Int32)), (.int ((own_upd (own_upd gp (i).toNatClampNeg (gp (j).toNatClampNeg)) (j).toNatClampNeg (gp (i).toNatClampNeg)) 3))])) _
    refine XS.iloadN X59.here hx rfl (hb hby at_199) rfl ?_
    show Steps p.tables e below (T59.setTop (mkF m 200 #[.val (.int p0), .val (.int p1), .val (.int p2), .val (.int p3), .val (.int p4), .val (.int p5), .val (.int i), .val (.int j), .val (.ref b23), .val (.ref b_45), .val (.int (1 : Int32)), .unset] [(.int p3), (.int p2), (.int p1), (.int p0), (.int j), (.int i), (.int (3 : Int32)), (.int ((own_upd (own_upd gp (i).toNatClampNeg (gp (j).toNatClampNeg)) (j).toNatClampNeg (gp (i).toNatClampNeg)) 3))])) _
    refine XS.iload X59.here hx rfl (hb hby at_200) rfl ?_
    exact kt
  obtain ⟨_, _, ⟨T61, L61, k61, n61⟩, -, X61, ⟨Lc61, hQ61, l61, y61, z61⟩, st61⟩ := Jvm.LawKit.callS X59 hx (y := (⟨"com/example/paretoforge/paretoforge/core/PermutationsSwappedPinLaw", "expect", "(IIIIIIII)I"⟩ : MethodName)) hown (mvT hZ (hw _ (List.mem_of_getElem? (i := 14) rfl))) (mvT hZ (hw _ (List.mem_of_getElem? (i := 15) rfl))) (mvT hZ (hw _ (List.mem_of_getElem? (i := 16) rfl))) (mvT hZ (hw _ (List.mem_of_getElem? (i := 17) rfl))) (by decide) (backOf (W := 1) (rm2 l Z aZ hw [] (3 : Int32) i j p0 p1 p2 p3 p4 T45.heap n0 Z45 ) hZ (hw _ (List.mem_of_getElem? (i := 17) rfl)) (hw _ (List.mem_of_getElem? (i := 16) rfl)) (by decide) (by decide)) (g := (mkF m 202 #[.val (.int p0), .val (.int p1), .val (.int p2), .val (.int p3), .val (.int p4), .val (.int p5), .val (.int i), .val (.int j), .val (.ref b23), .val (.ref b_45), .val (.int (1 : Int32)), .unset] [(.int p4), (.int p3), (.int p2), (.int p1), (.int p0), (.int j), (.int i), (.int (3 : Int32)), (.int ((own_upd (own_upd gp (i).toNatClampNeg (gp (j).toNatClampNeg)) (j).toNatClampNeg (gp (i).toNatClampNeg)) 3))])) rfl (by rw [hml]; rfl) (argsL := [(.int (3 : Int32)), (.int i), (.int j), (.int p0), (.int p1), (.int p2), (.int p3), (.int p4)]) (rest := [(.int ((own_upd (own_upd gp (i).toNatClampNeg (gp (j).toNatClampNeg)) (j).toNatClampNeg (gp (i).toNatClampNeg)) 3))]) (lenOf own_pd3 rfl) rfl (by show 2 * 0 + _ ≤ _; exact Nat.le_of_eq rfl) (hb hby at_202) (fun _ _ => ⟨rfl, e59, (by decide : 2 + 0 ≤ _), (by decide : 10 + 0 ≤ _)⟩)
  dsimp only [Pt.U, Pt.locs, Pt.cells, Pt.slots] at X61 l61 y61 z61 st61 hQ61
  subst l61 y61 z61
  obtain ⟨rfl, N61q, e61⟩ := hQ61
  have N61 := Fr.app N59 N61q
  refine own_go (S' := T61.setTop (mkF m 205 #[.val (.int p0), .val (.int p1), .val (.int p2), .val (.int p3), .val (.int p4), .val (.int p5), .val (.int i), .val (.int j), .val (.ref b23), .val (.ref b_45), .val (.int (1 : Int32)), .unset] [(.int (own_expect (3 : Int32) i j p0 p1 p2 p3 p4)), (.int ((own_upd (own_upd gp (i).toNatClampNeg (gp (j).toNatClampNeg)) (j).toNatClampNeg (gp (i).toNatClampNeg)) 3))])) st61 ?_
  refine own_go (S' := T61.setTop (mkF m 211 #[.val (.int p0), .val (.int p1), .val (.int p2), .val (.int p3), .val (.int p4), .val (.int p5), .val (.int i), .val (.int j), .val (.ref b23), .val (.ref b_45), .val (.int (1 : Int32)), .unset] [(.int (4 : Int32)), (.ref b_45)])) (fun target kt => ?_) ?_
  · skip
    show Steps p.tables e below (T61.setTop (mkF m 205 #[.val (.int p0), .val (.int p1), .val (.int p2), .val (.int p3), .val (.int p4), .val (.int p5), .val (.int i), .val (.int j), .val (.ref b23), .val (.ref b_45), .val (.int (1 : Int32)), .unset] [(.int (own_expect (3 : Int32) i j p0 p1 p2 p3 p4)), (.int ((own_upd (own_upd gp (i).toNatClampNeg (gp (j).toNatClampNeg)) (j).toNatClampNeg (gp (i).toNatClampNeg)) 3))])) _
    refine XS.icmpNo X61.here hx rfl (hb hby at_205) rfl (teq (own_sw3 h_gp ci cj : ((own_upd (own_upd gp (i).toNatClampNeg (gp (j).toNatClampNeg)) (j).toNatClampNeg (gp (i).toNatClampNeg)) 3) = (own_expect (3 : Int32) i j p0 p1 p2 p3 p4))).2 ?_
    show Steps p.tables e below (T61.setTop (mkF m 208 #[.val (.int p0), .val (.int p1), .val (.int p2), .val (.int p3), .val (.int p4), .val (.int p5), .val (.int i), .val (.int j), .val (.ref b23), .val (.ref b_45), .val (.int (1 : Int32)), .unset] [])) _
    refine XS.aload X61.here hx rfl (hb hby at_208) rfl rfl ?_
    show Steps p.tables e below (T61.setTop (mkF m 210 #[.val (.int p0), .val (.int p1), .val (.int p2), .val (.int p3), .val (.int p4), .val (.int p5), .val (.int i), .val (.int j), .val (.ref b23), .val (.ref b_45), .val (.int (1 : Int32)), .unset] [(.ref b_45)])) _
    refine XS.iconst X61.here hx rfl (hb hby at_210) ?_
    exact kt
  obtain ⟨c62, Ar62, S62, M62, H62⟩ := id f45_0
  have hj62 : ¬ (4 : Int32) < 0 ∧ ((4 : Int32)).toNatClampNeg < 5 := ⟨by decide, by decide⟩
  have st62 : ∀ target, Steps p.tables e below (T61.setTop (mkF m 212 #[.val (.int p0), .val (.int p1), .val (.int p2), .val (.int p3), .val (.int p4), .val (.int p5), .val (.int i), .val (.int j), .val (.ref b23), .val (.ref b_45), .val (.int (1 : Int32)), .unset] [(.int ((own_upd (own_upd gp (i).toNatClampNeg (gp (j).toNatClampNeg)) (j).toNatClampNeg (gp (i).toNatClampNeg)) 4))])) target → Steps p.tables e below (T61.setTop (mkF m 211 #[.val (.int p0), .val (.int p1), .val (.int p2), .val (.int p3), .val (.int p4), .val (.int p5), .val (.int i), .val (.int j), .val (.ref b23), .val (.ref b_45), .val (.int (1 : Int32)), .unset] [(.int (4 : Int32)), (.ref b_45)])) target := fun target kt => X61.iaload hx (j := (4 : Int32)) (v := (.int ((own_upd (own_upd gp (i).toNatClampNeg (gp (j).toNatClampNeg)) (j).toNatClampNeg (gp (i).toNatClampNeg)) 4))) (by rw [e61]; exact Ar62.1) (State.isArrayOf_alike hZ.alike Ar62.2.1) Ar62.2.2 (own_in S62 hj62) (H62 _ hj62.2) (g := (mkF m 211 #[.val (.int p0), .val (.int p1), .val (.int p2), .val (.int p3), .val (.int p4), .val (.int p5), .val (.int i), .val (.int j), .val (.ref b23), .val (.ref b_45), .val (.int (1 : Int32)), .unset] [(.int (4 : Int32)), (.ref b_45)])) rfl rfl (hb hby at_211) _ kt
  refine own_go (S' := T61.setTop (mkF m 212 #[.val (.int p0), .val (.int p1), .val (.int p2), .val (.int p3), .val (.int p4), .val (.int p5), .val (.int i), .val (.int j), .val (.ref b23), .val (.ref b_45), .val (.int (1 : Int32)), .unset] [(.int ((own_upd (own_upd gp (i).toNatClampNeg (gp (j).toNatClampNeg)) (j).toNatClampNeg (gp (i).toNatClampNeg)) 4))])) st62 ?_
  refine own_go (S' := T61.setTop (mkF m 223 #[.val (.int p0), .val (.int p1), .val (.int p2), .val (.int p3), .val (.int p4), .val (.int p5), .val (.int i), .val (.int j), .val (.ref b23), .val (.ref b_45), .val (.int (1 : Int32)), .unset] [(.int p4), (.int p3), (.int p2), (.int p1), (.int p0), (.int j), (.int i), (.int (4 : Int32)), (.int ((own_upd (own_upd gp (i).toNatClampNeg (gp (j).toNatClampNeg)) (j).toNatClampNeg (gp (i).toNatClampNeg)) 4))])) (fun target kt => ?_) ?_
  · skip
    show Steps p.tables e below (T61.setTop (mkF m 212 #[.val (.int p0), .val (.int p1), .val (.int p2), .val (.int p3), .val (.int p4), .val (.int p5), .val (.int i), .val (.int j), .val (.ref b23), .val (.ref b_45), .val (.int (1 : Int32)), .unset] [(.int ((own_upd (own_upd gp (i).toNatClampNeg (gp (j).toNatClampNeg)) (j).toNatClampNeg (gp (i).toNatClampNeg)) 4))])) _
    refine XS.iconst X61.here hx rfl (hb hby at_212) ?_
    show Steps p.tables e below (T61.setTop (mkF m 213 #[.val (.int p0), .val (.int p1), .val (.int p2), .val (.int p3), .val (.int p4), .val (.int p5), .val (.int i), .val (.int j), .val (.ref b23), .val (.ref b_45), .val (.int (1 : Int32)), .unset] [(.int (4 : Int32)), (.int ((own_upd (own_upd gp (i).toNatClampNeg (gp (j).toNatClampNeg)) (j).toNatClampNeg (gp (i).toNatClampNeg)) 4))])) _
    refine XS.iload X61.here hx rfl (hb hby at_213) rfl ?_
    show Steps p.tables e below (T61.setTop (mkF m 215 #[.val (.int p0), .val (.int p1), .val (.int p2), .val (.int p3), .val (.int p4), .val (.int p5), .val (.int i), .val (.int j), .val (.ref b23), .val (.ref b_45), .val (.int (1 : Int32)), .unset] [(.int i), (.int (4 : Int32)), (.int ((own_upd (own_upd gp (i).toNatClampNeg (gp (j).toNatClampNeg)) (j).toNatClampNeg (gp (i).toNatClampNeg)) 4))])) _
    refine XS.iload X61.here hx rfl (hb hby at_215) rfl ?_
    show Steps p.tables e below (T61.setTop (mkF m 217 #[.val (.int p0), .val (.int p1), .val (.int p2), .val (.int p3), .val (.int p4), .val (.int p5), .val (.int i), .val (.int j), .val (.ref b23), .val (.ref b_45), .val (.int (1 : Int32)), .unset] [(.int j), (.int i), (.int (4 : Int32)), (.int ((own_upd (own_upd gp (i).toNatClampNeg (gp (j).toNatClampNeg)) (j).toNatClampNeg (gp (i).toNatClampNeg)) 4))])) _
    refine XS.iloadN X61.here hx rfl (hb hby at_217) rfl ?_
    show Steps p.tables e below (T61.setTop (mkF m 218 #[.val (.int p0), .val (.int p1), .val (.int p2), .val (.int p3), .val (.int p4), .val (.int p5), .val (.int i), .val (.int j), .val (.ref b23), .val (.ref b_45), .val (.int (1 : Int32)), .unset] [(.int p0), (.int j), (.int i), (.int (4 : Int32)), (.int ((own_upd (own_upd gp (i).toNatClampNeg (gp (j).toNatClampNeg)) (j).toNatClampNeg (gp (i).toNatClampNeg)) 4))])) _
    refine XS.iloadN X61.here hx rfl (hb hby at_218) rfl ?_
    show Steps p.tables e below (T61.setTop (mkF m 219 #[.val (.int p0), .val (.int p1), .val (.int p2), .val (.int p3), .val (.int p4), .val (.int p5), .val (.int i), .val (.int j), .val (.ref b23), .val (.ref b_45), .val (.int (1 : Int32)), .unset] [(.int p1), (.int p0), (.int j), (.int i), (.int (4 : Int32)), (.int ((own_upd (own_upd gp (i).toNatClampNeg (gp (j).toNatClampNeg)) (j).toNatClampNeg (gp (i).toNatClampNeg)) 4))])) _
    refine XS.iloadN X61.here hx rfl (hb hby at_219) rfl ?_
    show Steps p.tables e below (T61.setTop (mkF m 220 #[.val (.int p0), .val (.int p1), .val (.int p2), .val (.int p3), .val (.int p4), .val (.int p5), .val (.int i), .val (.int j), .val (.ref b23), .val (.ref b_45), .val (.int (1 : Int32)), .unset] [(.int p2), (.int p1), (.int p0), (.int j), (.int i), (.int (4 : Int32)), (.int ((own_upd (own_upd gp (i).toNatClampNeg (gp (j).toNatClampNeg)) (j).toNatClampNeg (gp (i).toNatClampNeg)) 4))])) _
    refine XS.iloadN X61.here hx rfl (hb hby at_220) rfl ?_
    show Steps p.tables e below (T61.setTop (mkF m 221 #[.val (.int p0), .val (.int p1), .val (.int p2), .val (.int p3), .val (.int p4), .val (.int p5), .val (.int i), .val (.int j), .val (.ref b23), .val (.ref b_45), .val (.int (1 : Int32)), .unset] [(.int p3), (.int p2), (.int p1), (.int p0), (.int j), (.int i), (.int (4 : Int32)), (.int ((own_upd (own_upd gp (i).toNatClampNeg (gp (j).toNatClampNeg)) (j).toNatClampNeg (gp (i).toNatClampNeg)) 4))])) _
    refine XS.iload X61.here hx rfl (hb hby at_221) rfl ?_
    exact kt
  obtain ⟨_, _, ⟨T63, L63, k63, n63⟩, -, X63, ⟨Lc63, hQ63, l63, y63, z63⟩, st63⟩ := Jvm.LawKit.callS X61 hx (y := (⟨"com/example/paretoforge/paretoforge/core/PermutationsSwappedPinLaw", "expect", "(IIIIIIII)I"⟩ : MethodName)) hown (mvT hZ (hw _ (List.mem_of_getElem? (i := 14) rfl))) (mvT hZ (hw _ (List.mem_of_getElem? (i := 15) rfl))) (mvT hZ (hw _ (List.mem_of_getElem? (i := 16) rfl))) (mvT hZ (hw _ (List.mem_of_getElem? (i := 17) rfl))) (by decide) (backOf (W := 1) (rm2 l Z aZ hw [] (4 : Int32) i j p0 p1 p2 p3 p4 T45.heap n0 Z45 ) hZ (hw _ (List.mem_of_getElem? (i := 17) rfl)) (hw _ (List.mem_of_getElem? (i := 16) rfl)) (by decide) (by decide)) (g := (mkF m 223 #[.val (.int p0), .val (.int p1), .val (.int p2), .val (.int p3), .val (.int p4), .val (.int p5), .val (.int i), .val (.int j), .val (.ref b23), .val (.ref b_45), .val (.int (1 : Int32)), .unset] [(.int p4), (.int p3), (.int p2), (.int p1), (.int p0), (.int j), (.int i), (.int (4 : Int32)), (.int ((own_upd (own_upd gp (i).toNatClampNeg (gp (j).toNatClampNeg)) (j).toNatClampNeg (gp (i).toNatClampNeg)) 4))])) rfl (by rw [hml]; rfl) (argsL := [(.int (4 : Int32)), (.int i), (.int j), (.int p0), (.int p1), (.int p2), (.int p3), (.int p4)]) (rest := [(.int ((own_upd (own_upd gp (i).toNatClampNeg (gp (j).toNatClampNeg)) (j).toNatClampNeg (gp (i).toNatClampNeg)) 4))]) (lenOf own_pd3 rfl) rfl (by show 2 * 0 + _ ≤ _; exact Nat.le_of_eq rfl) (hb hby at_223) (fun _ _ => ⟨rfl, e61, (by decide : 2 + 0 ≤ _), (by decide : 10 + 0 ≤ _)⟩)
  dsimp only [Pt.U, Pt.locs, Pt.cells, Pt.slots] at X63 l63 y63 z63 st63 hQ63
  subst l63 y63 z63
  obtain ⟨rfl, N63q, e63⟩ := hQ63
  have N63 := Fr.app N61 N63q
  refine own_go (S' := T63.setTop (mkF m 226 #[.val (.int p0), .val (.int p1), .val (.int p2), .val (.int p3), .val (.int p4), .val (.int p5), .val (.int i), .val (.int j), .val (.ref b23), .val (.ref b_45), .val (.int (1 : Int32)), .unset] [(.int (own_expect (4 : Int32) i j p0 p1 p2 p3 p4)), (.int ((own_upd (own_upd gp (i).toNatClampNeg (gp (j).toNatClampNeg)) (j).toNatClampNeg (gp (i).toNatClampNeg)) 4))])) st63 ?_
  refine own_go (S' := T63.setTop (mkF m 251 #[.val (.int p0), .val (.int p1), .val (.int p2), .val (.int p3), .val (.int p4), .val (.int p5), .val (.int i), .val (.int j), .val (.ref b23), .val (.ref b_45), .val (.int (1 : Int32)), .val (.int (1 : Int32))] [(.int (1 : Int32))])) (fun target kt => ?_) ?_
  · skip
    show Steps p.tables e below (T63.setTop (mkF m 226 #[.val (.int p0), .val (.int p1), .val (.int p2), .val (.int p3), .val (.int p4), .val (.int p5), .val (.int i), .val (.int j), .val (.ref b23), .val (.ref b_45), .val (.int (1 : Int32)), .unset] [(.int (own_expect (4 : Int32) i j p0 p1 p2 p3 p4)), (.int ((own_upd (own_upd gp (i).toNatClampNeg (gp (j).toNatClampNeg)) (j).toNatClampNeg (gp (i).toNatClampNeg)) 4))])) _
    refine XS.icmpNo X63.here hx rfl (hb hby at_226) rfl (teq (own_sw4 h_gp ci cj : ((own_upd (own_upd gp (i).toNatClampNeg (gp (j).toNatClampNeg)) (j).toNatClampNeg (gp (i).toNatClampNeg)) 4) = (own_expect (4 : Int32) i j p0 p1 p2 p3 p4))).2 ?_
    show Steps p.tables e below (T63.setTop (mkF m 229 #[.val (.int p0), .val (.int p1), .val (.int p2), .val (.int p3), .val (.int p4), .val (.int p5), .val (.int i), .val (.int j), .val (.ref b23), .val (.ref b_45), .val (.int (1 : Int32)), .unset] [])) _
    refine XS.iconst X63.here hx rfl (hb hby at_229) ?_
    show Steps p.tables e below (T63.setTop (mkF m 230 #[.val (.int p0), .val (.int p1), .val (.int p2), .val (.int p3), .val (.int p4), .val (.int p5), .val (.int i), .val (.int j), .val (.ref b23), .val (.ref b_45), .val (.int (1 : Int32)), .unset] [(.int (1 : Int32))])) _
    refine XS.goto X63.here hx rfl (pc0 := 230) (pc' := 234) rfl (hb hby at_230) (by decide) (by decide) ?_
    show Steps p.tables e below (T63.setTop (mkF m 234 #[.val (.int p0), .val (.int p1), .val (.int p2), .val (.int p3), .val (.int p4), .val (.int p5), .val (.int i), .val (.int j), .val (.ref b23), .val (.ref b_45), .val (.int (1 : Int32)), .unset] [(.int (1 : Int32))])) _
    refine XS.istore X63.here hx rfl (hb hby at_234) rfl (l' := #[.val (.int p0), .val (.int p1), .val (.int p2), .val (.int p3), .val (.int p4), .val (.int p5), .val (.int i), .val (.int j), .val (.ref b23), .val (.ref b_45), .val (.int (1 : Int32)), .val (.int (1 : Int32))]) rfl ?_
    show Steps p.tables e below (T63.setTop (mkF m 236 #[.val (.int p0), .val (.int p1), .val (.int p2), .val (.int p3), .val (.int p4), .val (.int p5), .val (.int i), .val (.int j), .val (.ref b23), .val (.ref b_45), .val (.int (1 : Int32)), .val (.int (1 : Int32))] [])) _
    refine XS.iload X63.here hx rfl (hb hby at_236) rfl ?_
    show Steps p.tables e below (T63.setTop (mkF m 238 #[.val (.int p0), .val (.int p1), .val (.int p2), .val (.int p3), .val (.int p4), .val (.int p5), .val (.int i), .val (.int j), .val (.ref b23), .val (.ref b_45), .val (.int (1 : Int32)), .val (.int (1 : Int32))] [(.int (1 : Int32))])) _
    refine XS.ifNo X63.here hx rfl (hb hby at_238) rfl ((if0 _ _).trans (feq (by decide : ¬ ((1 : Int32) = (0 : Int32)))).1) ?_
    show Steps p.tables e below (T63.setTop (mkF m 241 #[.val (.int p0), .val (.int p1), .val (.int p2), .val (.int p3), .val (.int p4), .val (.int p5), .val (.int i), .val (.int j), .val (.ref b23), .val (.ref b_45), .val (.int (1 : Int32)), .val (.int (1 : Int32))] [])) _
    refine XS.iload X63.here hx rfl (hb hby at_241) rfl ?_
    show Steps p.tables e below (T63.setTop (mkF m 243 #[.val (.int p0), .val (.int p1), .val (.int p2), .val (.int p3), .val (.int p4), .val (.int p5), .val (.int i), .val (.int j), .val (.ref b23), .val (.ref b_45), .val (.int (1 : Int32)), .val (.int (1 : Int32))] [(.int (1 : Int32))])) _
    refine XS.ifNo X63.here hx rfl (hb hby at_243) rfl ((if0 _ _).trans (feq (by decide : ¬ ((1 : Int32) = (0 : Int32)))).1) ?_
    show Steps p.tables e below (T63.setTop (mkF m 246 #[.val (.int p0), .val (.int p1), .val (.int p2), .val (.int p3), .val (.int p4), .val (.int p5), .val (.int i), .val (.int j), .val (.ref b23), .val (.ref b_45), .val (.int (1 : Int32)), .val (.int (1 : Int32))] [])) _
    refine XS.iconst X63.here hx rfl (hb hby at_246) ?_
    show Steps p.tables e below (T63.setTop (mkF m 247 #[.val (.int p0), .val (.int p1), .val (.int p2), .val (.int p3), .val (.int p4), .val (.int p5), .val (.int i), .val (.int j), .val (.ref b23), .val (.ref b_45), .val (.int (1 : Int32)), .val (.int (1 : Int32))] [(.int (1 : Int32))])) _
    refine XS.goto X63.here hx rfl (pc0 := 247) (pc' := 251) rfl (hb hby at_247) (by decide) (by decide) ?_
    exact kt
  obtain ⟨fs, hr, hrun, hended, hW, hsame⟩ := X63.leave (v := some (.int (1 : Int32))) (fun h => by rw [Bd.returns] at h; cases h)
  refine ⟨_, _, ?_, hrun, hended, _, _, rfl, ?_, ⟨_, rfl⟩, hW, hsame.mono (by decide) (by decide)⟩
  · exact retN X63 hx (t := .boolean) Bd.returns (by simp) (hb hby at_251) hr
  · show Q0 Z p0 p1 p2 p3 p4 p5 h0 n0 _ T63.heap _
    rw [e63]
    exact ⟨rfl, N63⟩
set_option maxRecDepth 65536 in
set_option maxHeartbeats 40000000 in
theorem comes_1 {Post : Tables → Env → Array Value → State → Outcome → State → Prop} (hpost : ∀ tb e args s v u, (limb_1_1.after args s (.returned v) u = true ∧ limb_1_2.after args s (.returned v) u = true) → FrameEnd s (.returned v) u (Jvm.fieldLocs frame_1_writes args s ++ Jvm.arrayLocs frame_1_arrays args s ++ Jvm.staticLocs frame_1_statics s) 16 128 → Post tb e args s (.returned v) u) :
    ArmFor flags0 classFile x code maxLocals ret World_1 tables_1 room_1 Calls_1 rest_1 Pre_1 Post := by
  intro l hfl _ _ p e ha hc hk s m args below hf hA hF happ hP
  obtain ⟨hcalls, hrest, hpre⟩ := hP
  obtain ⟨-, -, -, hnamed, -, -, -, hat⟩ := (Spec.applies_iff hf).mp happ
  obtain ⟨hg, hn⟩ := and_e (Cond.before_iff.mp (show (Jvm.Cond.and given_1 narrow_1).before args s = true from hpre))
  obtain ⟨hg1, hg2⟩ := and_e hg
  obtain ⟨hg3, hg4⟩ := and_e hg2
  obtain ⟨hg5, hg6⟩ := and_e hg4
  obtain ⟨hg7, hg8⟩ := and_e hg6
  obtain ⟨hg9, hg10⟩ := and_e hg8
  obtain ⟨hg11, hg12⟩ := and_e hg10
  obtain ⟨w0, w1, w2, w3, w4, w5, rfl⟩ : ∃ w0 w1 w2 w3 w4 w5 : Value, args = #[w0, w1, w2, w3, w4, w5] := by
    have hs : args.size = 6 := by simpa [Cond.value, given_1] using hg1
    obtain ⟨L⟩ := args
    match L, hs with
    | [w0, w1, w2, w3, w4, w5], _ => exact ⟨w0, w1, w2, w3, w4, w5, rfl⟩
  have hw := fun d (hd : d ∈ tables_1) => atoms_spec (ws := Jvm.Cond.code x code maxLocals ret :: tables_1) hat d (List.mem_cons_of_mem _ hd)
  obtain ⟨i0, ei0⟩ := is_v hg3
  obtain rfl : w0 = (.int i0) := Option.some.inj ei0
  obtain ⟨i1, ei1⟩ := is_v hg5
  obtain rfl : w1 = (.int i1) := Option.some.inj ei1
  obtain ⟨i2, ei2⟩ := is_v hg7
  obtain rfl : w2 = (.int i2) := Option.some.inj ei2
  obtain ⟨i3, ei3⟩ := is_v hg9
  obtain rfl : w3 = (.int i3) := Option.some.inj ei3
  obtain ⟨i4, ei4⟩ := is_v hg11
  obtain rfl : w4 = (.int i4) := Option.some.inj ei4
  obtain ⟨i5, ei5⟩ := is_v hg12
  obtain rfl : w5 = (.int i5) := Option.some.inj ei5
  obtain ⟨n, o, h1, h2, h3, _, L, rfl, ⟨rfl, N⟩, hq⟩ := rm0 l s _ hw tables_1 i0 i1 i2 i3 i4 i5 s.heap s.heap.size (Nat.le_refl _)  p e ha hc hk s m _ below hf ((Spec.applies_iff_loose hf).mp happ).1 ⟨rfl, State.Warmed39.refl s, rfl⟩ trivial
  refine ⟨n, _, h1, h2, h3, hpost _ _ _ _ _ _ ⟨Cond.after_iff.mpr rfl, Cond.after_iff.mpr (eq_i res_at (Term.int_eval (1)) rfl)⟩ ⟨hq.1, hq.2.1, (hq.2.2.sift fun y hy => Or.inr (N y hy)).mono (by decide) (by decide)⟩⟩
theorem main_1_1 : Claimed_1_1 := comes_1 fun _ _ _ _ _ _ h hF => ⟨h.1, hF⟩
theorem main_1_2 : Claimed_1_2 := comes_1 fun _ _ _ _ _ _ h hF => ⟨h.2, hF⟩
end Jvm.Pilot.@@N@@
namespace Jvm.Pilot.@@N@@
open Jvm Jvm.ClassFile Sem Op Lib Jvm.Free Jvm.Stand Jvm.Pilot.@@N@@.Jvm.D
/-! MADE BY PROGRAM (witnessworld.py) out of the Statement's table words and the real class files: 9 classes; the members and pool entries that the words name. The judged class is class 1, her method 1. -/
namespace start1
open Jvm.ClassFile
def u (s : String) : CpInfo := .utf8 (stringToUtf16 s)
/-- a pool by its gaps: so many unusable entries, then the entry; so many at the end -/
def gap : Nat → List CpInfo → List CpInfo
  | 0, r => r
  | n + 1, r => .unusable :: gap n r
def poolList (es : List (Nat × CpInfo)) (last : Nat) : List CpInfo := es.foldr (fun e r => gap e.1 (e.2 :: r)) (gap last [])
def pool (es : List (Nat × CpInfo)) (last : Nat) : Array CpInfo := ⟨poolList es last⟩
def fileOf (pool : Array CpInfo) (this : Nat) (attrs : Array Attribute := #[]) (ms : Array MethodInfo := #[]) (fl : Nat := 33) (sup : Nat := 0) (ifs : Array Nat := #[]) (fds : Array FieldInfo := #[]) : ClassFile where
  minorVersion := 0
  majorVersion := 65
  constantPool := pool
  accessFlags := fl
  thisClass := this
  superClass := sup
  interfaces := ifs
  fields := fds
  methods := ms
  attributes := attrs
def plain (name : String) (sup : Option ClassId) : Class where
  name := name
  kind := .ordinary
  loader := none
  accessFlags := 33
  super := sup
  interfaces := #[]
  cf := none
  fields := #[]
  methods := #[]
  instanceTypes := #[]
  staticTypes := #[]
  resolved := #[]
  callSites := []
  init := .initialized
  statics := none
  mirror := none

def pool0 : Array CpInfo := pool [(5, u "<init>"), (0, u "()V"), (1, .class_ 10), (1, u "java/lang/Object"), (85, u "clone"), (0, u "()Ljava/lang/Object;")] 26

def k0m0 : Method := { name := "<init>", desc := "()V", sig := { parameters := [], returnType := none }, accessFlags := 1, code := none }
def k0m1 : Method := { name := "clone", desc := "()Ljava/lang/Object;", sig := { parameters := [], returnType := some (.object "java/lang/Object") }, accessFlags := 260, code := none }
/-- java/lang/Object -/
def k0 : Class := { plain "java/lang/Object" none with
  accessFlags := 33
  interfaces := #[]
  cf := some (fileOf pool0 8 #[] #[{ accessFlags := 1, nameIndex := 5, descriptorIndex := 6, attributes := #[] }, { accessFlags := 260, nameIndex := 96, descriptorIndex := 97, attributes := #[] }] 33 0 #[] #[])
  fields := #[]
  methods := #[k0m0, k0m1]
  instanceTypes := #[]
  staticTypes := #[]
  resolved := Array.replicate 124 none
  statics := none }

def pool1 : Array CpInfo := pool [(2, .class_ 4), (1, u "java/lang/Object"), (0, u "<init>"), (0, u "()V"), (0, .methodref 8 9), (0, .class_ 10), (0, .nameAndType 11 12), (0, u "com/example/paretoforge/paretoforge/core/Permutations"), (0, u "swapped"), (0, u "([III)[I"), (0, .methodref 14 15), (0, .class_ 16), (0, .nameAndType 17 18), (0, u "com/example/paretoforge/paretoforge/core/PermutationsSwappedPinLaw"), (0, u "expect"), (0, u "(IIIIIIII)I"), (0, .methodref 14 20), (0, .nameAndType 21 22), (0, u "orig"), (0, u "(IIIIII)I"), (2, u "law"), (0, u "(IIIIII)Z")] 5

def k1m0 : Method := { name := "<init>", desc := "()V", sig := { parameters := [], returnType := none }, accessFlags := 2, code := none }
def k1c1 : Code := { maxStack := 9, maxLocals := 12, code := code, exceptionTable := #[], attributes := #[] }
def k1m1 : Method := { name := "law", desc := "(IIIIII)Z", sig := { parameters := [.int, .int, .int, .int, .int, .int], returnType := some .boolean }, accessFlags := 9, code := some k1c1 }
def k1c2 : Code := { maxStack := 6, maxLocals := 9, code := method_3_code, exceptionTable := #[], attributes := #[] }
def k1m2 : Method := { name := "expect", desc := "(IIIIIIII)I", sig := { parameters := [.int, .int, .int, .int, .int, .int, .int, .int], returnType := some .int }, accessFlags := 10, code := some k1c2 }
def k1c3 : Code := { maxStack := 2, maxLocals := 6, code := method_4_code, exceptionTable := #[], attributes := #[] }
def k1m3 : Method := { name := "orig", desc := "(IIIIII)I", sig := { parameters := [.int, .int, .int, .int, .int, .int], returnType := some .int }, accessFlags := 10, code := some k1c3 }
/-- com/example/paretoforge/paretoforge/core/PermutationsSwappedPinLaw -/
def k1 : Class := { plain "com/example/paretoforge/paretoforge/core/PermutationsSwappedPinLaw" (some 0) with
  accessFlags := 49
  interfaces := #[]
  cf := some (fileOf pool1 14 #[] #[{ accessFlags := 2, nameIndex := 5, descriptorIndex := 6, attributes := #[] }, { accessFlags := 9, nameIndex := 25, descriptorIndex := 26, attributes := #[] }, { accessFlags := 10, nameIndex := 17, descriptorIndex := 18, attributes := #[] }, { accessFlags := 10, nameIndex := 21, descriptorIndex := 22, attributes := #[] }] 49 2 #[] #[])
  fields := #[]
  methods := #[k1m0, k1m1, k1m2, k1m3]
  instanceTypes := #[]
  staticTypes := #[]
  resolved := Array.replicate 32 none
  statics := none }

def pool2 : Array CpInfo := pool [(2, .class_ 4), (1, u "java/lang/Object"), (0, u "<init>"), (0, u "()V"), (6, .methodref 14 15), (0, .class_ 16), (0, .nameAndType 17 18), (0, u "[I"), (0, u "clone"), (0, u "()Ljava/lang/Object;"), (4, .class_ 25), (1, u "com/example/paretoforge/paretoforge/core/Permutations"), (39, u "swapped"), (0, u "([III)[I")] 40

def k2m0 : Method := { name := "<init>", desc := "()V", sig := { parameters := [], returnType := none }, accessFlags := 2, code := none }
def k2c1 : Code := { maxStack := 4, maxLocals := 4, code := prog_60_method_4_code, exceptionTable := #[], attributes := #[] }
def k2m1 : Method := { name := "swapped", desc := "([III)[I", sig := { parameters := [(.array .int), .int, .int], returnType := some (.array .int) }, accessFlags := 9, code := some k2c1 }
/-- com/example/paretoforge/paretoforge/core/Permutations -/
def k2 : Class := { plain "com/example/paretoforge/paretoforge/core/Permutations" (some 0) with
  accessFlags := 49
  interfaces := #[]
  cf := some (fileOf pool2 23 #[] #[{ accessFlags := 2, nameIndex := 5, descriptorIndex := 6, attributes := #[] }, { accessFlags := 9, nameIndex := 65, descriptorIndex := 66, attributes := #[] }] 49 2 #[] #[])
  fields := #[]
  methods := #[k2m0, k2m1]
  instanceTypes := #[]
  staticTypes := #[]
  resolved := Array.replicate 107 none
  statics := none }

def pool3 : Array CpInfo := pool [(1, .class_ 2), (0, u "java/lang/Cloneable"), (0, .class_ 4), (0, u "java/lang/Object")] 2

/-- java/lang/Cloneable -/
def k3 : Class := { plain "java/lang/Cloneable" (some 0) with
  accessFlags := 1537
  interfaces := #[]
  cf := some (fileOf pool3 1 #[] #[] 1537 3 #[] #[])
  fields := #[]
  methods := #[]
  instanceTypes := #[]
  staticTypes := #[]
  resolved := Array.replicate 7 none
  statics := none }

def pool4 : Array CpInfo := pool [(1, u "java/io/Serializable"), (0, .class_ 1), (0, u "java/lang/Object"), (0, .class_ 3)] 3

/-- java/io/Serializable -/
def k4 : Class := { plain "java/io/Serializable" (some 0) with
  accessFlags := 1537
  interfaces := #[]
  cf := some (fileOf pool4 2 #[] #[] 1537 4 #[] #[])
  fields := #[]
  methods := #[]
  instanceTypes := #[]
  staticTypes := #[]
  resolved := Array.replicate 8 none
  statics := none }

/-- the primitive byte -/
def k5 : Class := { plain "byte" none with kind := .primitive 'B', accessFlags := 0x411 }
/-- [B -/
def k6 : Class := { plain "[B" (some 0) with kind := .array 5 .byte, interfaces := #[3, 4], accessFlags := 1041 }

/-- the primitive int -/
def k7 : Class := { plain "int" none with kind := .primitive 'I', accessFlags := 0x411 }
/-- [I -/
def k8 : Class := { plain "[I" (some 0) with kind := .array 7 .int, interfaces := #[3, 4], accessFlags := 1041 }

def heap : Heap := #[]
def classes : Array Class := #[k0, k1, k2, k3, k4, k5, k6, k7, k8]
def interned : List (Array UInt16 × Addr) := []
def slotsUsed : Nat := 0
def theMethod : MethodId := ⟨1, 1⟩
def args0 : Array Value := #[.int 5, .int 7, .int 9, .int 11, .int 13, .int 515]
def aboutOver (below : List Frame) : State where
  vm := { classes := classes, interned := interned.toArray }
  heap := heap
  slotsUsed := slotsUsed
  threads := #[{ frames := .invoking theMethod args0 :: below }]
def below0 : List Frame := [.native { method := ⟨0, 0⟩, args := #[] }]
def about1 : State := aboutOver below0
def p0 : Program := .bare "" "" ""
def e0 : Env := launch0.env 0 0 0
theorem w_frames : about1.frames = Frame.invoking theMethod args0 :: below0 := rfl
set_option maxRecDepth 65536 in
theorem w_args : argsFit about1.vm theMethod args0 = true := by decide +kernel
set_option maxRecDepth 65536 in
theorem w_heap : heapFits about1 = true := by decide +kernel
set_option maxRecDepth 65536 in
theorem w_runnable : about1.curStatus? = some .runnable := by decide +kernel
set_option maxRecDepth 65536 in
theorem w_alone : about1.alone = true := by decide +kernel
set_option maxRecDepth 65536 in
theorem w_named : about1.methodNamed? x = some theMethod := by decide +kernel
set_option maxRecDepth 65536 in
theorem w_hears : about1.hears theMethod below0 = true := by decide +kernel
set_option maxRecDepth 65536 in
theorem w_ripe : about1.ripe theMethod args0 below0 = true := by decide +kernel
theorem w_running : about1.status = .running := rfl
set_option maxRecDepth 65536 in
theorem w_room : about1.hasRoom e0.platform room_1 = true :=
  launch0.hasRoom_least _ room_1 (by decide +kernel) (by decide +kernel) (by decide +kernel) (by decide +kernel) (by decide +kernel) (by decide +kernel)
theorem allAtoms_all (ts : List Jvm.Cond) (a : Array Jvm.Value) (st : Jvm.State) : (allAtoms ts).before a st = ts.all (fun c => c.before a st) := by
  induction ts with
  | nil => rfl
  | cons c t ih =>
    show (Jvm.Cond.and c (allAtoms t)).before a st = _
    rw [Jvm.Cond.before_and, ih, List.all_cons]
def words1 : List Jvm.Cond := Jvm.Cond.code x code maxLocals ret :: tables_1
/-- a 'code' word, met by the world's own term for the bytes: nothing is compared byte by byte -/
theorem code_word {y : MethodName} {bytes : ByteArray} {mx : Nat} {rt : Option FieldType} {a : Array Value} {s : State} {m : MethodId} {meth : Method} {c : Code} (h1 : s.methodNamed? y = some m) (h2 : s.vm.method? m = some meth) (h3 : meth.code = some c) (h4 : c.code = bytes)
    (h5 : (c.maxLocals == mx && c.exceptionTable.isEmpty && decide (c.maxStack ≤ mostOperands) && decide (meth.sig.returnType = rt) && !meth.locks && decide (parseMethodDescriptor y.desc = some meth.sig)) = true) : (Jvm.Cond.code y bytes mx rt).before a s = true := by
  simp only [Bool.and_eq_true, beq_iff_eq, Bool.not_eq_true', decide_eq_true_eq] at h5
  obtain ⟨⟨⟨⟨⟨g1, g2⟩, g3⟩, g4⟩, g5⟩, g6⟩ := h5
  simp [Cond.before, Cond.holds, Cond.value, h1, h2, h3, h4, g1, g2, g3, g4, g5, g6]
def isCode : Jvm.Cond → Bool
  | .code _ _ _ _ => true
  | _ => false
theorem all_split {L : List Jvm.Cond} {P : Jvm.Cond → Bool} (h1 : L.all (fun c => isCode c || P c) = true) (h2 : ∀ c ∈ L.filter isCode, P c = true) : L.all P = true := by
  refine List.all_eq_true.mpr fun c hc => ?_
  have h := List.all_eq_true.mp h1 c hc
  rcases Bool.eq_false_or_eq_true (isCode c) with hi | hi
  · exact h2 c (List.mem_filter.mpr ⟨hc, hi⟩)
  · simpa [hi] using h
set_option maxRecDepth 65536 in
theorem w_c0 : (Jvm.Cond.code x code maxLocals ret).before args0 about1 = true := code_word (m := ⟨1, 1⟩) (meth := k1m1) (c := k1c1) (by decide +kernel) rfl rfl rfl (by decide +kernel)
set_option maxRecDepth 65536 in
theorem w_c1 : (Jvm.Cond.code ({ cls := "com/example/paretoforge/paretoforge/core/Permutations", name := "swapped", desc := "([III)[I" } : Jvm.MethodName) prog_60_method_4_code (4 : Nat) (Option.some (Jvm.ClassFile.FieldType.array Jvm.ClassFile.FieldType.int))).before args0 about1 = true := code_word (m := ⟨2, 1⟩) (meth := k2m1) (c := k2c1) (by decide +kernel) rfl rfl rfl (by decide +kernel)
set_option maxRecDepth 65536 in
theorem w_c2 : (Jvm.Cond.code ({ cls := "com/example/paretoforge/paretoforge/core/PermutationsSwappedPinLaw", name := "expect", desc := "(IIIIIIII)I" } : Jvm.MethodName) method_3_code (9 : Nat) (Option.some Jvm.ClassFile.FieldType.int)).before args0 about1 = true := code_word (m := ⟨1, 2⟩) (meth := k1m2) (c := k1c2) (by decide +kernel) rfl rfl rfl (by decide +kernel)
set_option maxRecDepth 65536 in
theorem w_c3 : (Jvm.Cond.code ({ cls := "com/example/paretoforge/paretoforge/core/PermutationsSwappedPinLaw", name := "orig", desc := "(IIIIII)I" } : Jvm.MethodName) method_4_code (6 : Nat) (Option.some Jvm.ClassFile.FieldType.int)).before args0 about1 = true := code_word (m := ⟨1, 3⟩) (meth := k1m3) (c := k1c3) (by decide +kernel) rfl rfl rfl (by decide +kernel)
def codes1 : List Jvm.Cond := [Jvm.Cond.code x code maxLocals ret, Jvm.Cond.code ({ cls := "com/example/paretoforge/paretoforge/core/Permutations", name := "swapped", desc := "([III)[I" } : Jvm.MethodName) prog_60_method_4_code (4 : Nat) (Option.some (Jvm.ClassFile.FieldType.array Jvm.ClassFile.FieldType.int)), Jvm.Cond.code ({ cls := "com/example/paretoforge/paretoforge/core/PermutationsSwappedPinLaw", name := "expect", desc := "(IIIIIIII)I" } : Jvm.MethodName) method_3_code (9 : Nat) (Option.some Jvm.ClassFile.FieldType.int), Jvm.Cond.code ({ cls := "com/example/paretoforge/paretoforge/core/PermutationsSwappedPinLaw", name := "orig", desc := "(IIIIII)I" } : Jvm.MethodName) method_4_code (6 : Nat) (Option.some Jvm.ClassFile.FieldType.int)]
set_option maxRecDepth 65536 in
theorem codes_eq : words1.filter isCode = codes1 := rfl
theorem w_codes : ∀ c ∈ words1.filter isCode, c.before args0 about1 = true := by
  rw [codes_eq]
  intro c hc
  simp only [codes1, List.mem_cons, List.not_mem_nil, or_false] at hc
  rcases hc with rfl | rfl | rfl | rfl
  · exact w_c0
  · exact w_c1
  · exact w_c2
  · exact w_c3
set_option maxRecDepth 65536 in
theorem w_t1 : words1.all (fun c => isCode c || c.before args0 about1) = true := by decide +kernel
theorem w_tables : (allAtoms (Jvm.Cond.code x code maxLocals ret :: tables_1)).before args0 about1 = true := by
  rw [allAtoms_all]
  show words1.all (fun c => c.before args0 about1) = true
  refine all_split ?_ w_codes
  rw [w_t1]
set_option maxRecDepth 65536 in
theorem w_case : (Jvm.Cond.and given_1 narrow_1).before args0 about1 = true := by decide +kernel
theorem w_applies : (headSpec (Jvm.Cond.code x code maxLocals ret :: tables_1) room_1).applies x e0.platform about1 = true :=
  (Spec.applies_iff w_frames).mpr ⟨w_running, w_runnable, w_alone, w_named, w_hears, w_ripe, w_room, w_tables⟩
theorem atStart : AtStart classFile x code maxLocals ret World_1 tables_1 room_1 Calls_1 rest_1 Pre_1 launch0 p0 e0 about1 theMethod args0 below0 :=
  ⟨lists_1, trivial, launch0.admits_env _ _ _, launch0.least_env, fairChoices_fair.cas, fairChoices_fair.clock, w_frames, w_args, w_heap, w_applies, trivial, trivial, w_case⟩
end start1
theorem witness_1 : WitnessClaimed_1 := ⟨start1.p0, start1.e0, start1.about1, start1.theMethod, start1.args0, start1.below0, start1.atStart⟩
end Jvm.Pilot.@@N@@
