import JvmDerived
import JvmDerived.Pilot.@@N@@Statement
import JvmDerived.Pilot.@@N@@Code
set_option linter.unusedVariables false
set_option linter.unusedSimpArgs false
@@BLOCK:NumsL.lean.txt@@
namespace Jvm.RoadKit
open Sem ClassFile Op Lib Jvm.Stand Jvm.Free Jvm.LawKit
section New
variable {p : Program} {l : Launch} {e : Env} {R : Room} {s : State} {m : MethodId} {args : Array Value} {below : List Frame} {meth : Method} {c : Code} {T : State} {locs : List Loc} {cells slots : Nat}
theorem retI (X : Stand p l e R s m args below meth c T locs cells slots) (hx : p.tables.exec = Jvm.exec) {pc : Nat} {Ls : Array Slot} {z : Int32} {rest : List Value} (hret : meth.sig.returnType = some .int) (hd : decode c.code pc = .ok (.ireturn, 1)) {fs : List Frame}
    (hl : ∀ (f : JFrame) (acts : List Action), f.method = m → f.locked = none → f.entered = [] → (doReturn e (T.setTop f) acts (some (.int z))).1 = T.setFrames fs) : Steps p.tables e below (T.setTop (mkF m pc Ls (.int z :: rest))) (T.setFrames fs) :=
  retOut X hx hret rfl (Or.inl ⟨rfl, Or.inl rfl, _, rfl⟩) hd hl
theorem retL (X : Stand p l e R s m args below meth c T locs cells slots) (hx : p.tables.exec = Jvm.exec) {pc : Nat} {Ls : Array Slot} {z : Int64} {rest : List Value} (hret : meth.sig.returnType = some .long) (hd : decode c.code pc = .ok (.lreturn, 1)) {fs : List Frame}
    (hl : ∀ (f : JFrame) (acts : List Action), f.method = m → f.locked = none → f.entered = [] → (doReturn e (T.setTop f) acts (some (.long z))).1 = T.setFrames fs) : Steps p.tables e below (T.setTop (mkF m pc Ls (.long z :: rest))) (T.setFrames fs) :=
  retOut X hx hret rfl (Or.inr (Or.inl ⟨rfl, rfl, _, rfl⟩)) hd hl
theorem retA (X : Stand p l e R s m args below meth c T locs cells slots) (hx : p.tables.exec = Jvm.exec) {pc : Nat} {Ls : Array Slot} {z : Addr} {t : FieldType} {rest : List Value} (hret : meth.sig.returnType = some t) (ht : t.isReference = true) (hd : decode c.code pc = .ok (.areturn, 1)) {fs : List Frame}
    (hn : narrow t (.ref z) = .ref z) (hl : ∀ (f : JFrame) (acts : List Action), f.method = m → f.locked = none → f.entered = [] → (doReturn e (T.setTop f) acts (some (.ref z))).1 = T.setFrames fs) : Steps p.tables e below (T.setTop (mkF m pc Ls (.ref z :: rest))) (T.setFrames fs) :=
  retOut X hx hret hn (Or.inr (Or.inr (Or.inr (Or.inr ⟨rfl, ht, rfl⟩)))) hd hl
end New
end Jvm.RoadKit
namespace Jvm.Pilot.@@N@@
open Jvm Jvm.ClassFile Sem Op Lib Jvm.Free Jvm.Stand Jvm.LawKit Jvm.RoadKit Bundle Jvm.Pilot.@@N@@.Jvm.D
/-- the walk moves on: what runs from S' runs from S -/
theorem own_go {tb : Tables} {e : Env} {below : List Frame} {S S' : State} {P : State → Outcome → Prop} (h : ∀ t, Steps tb e below S' t → Steps tb e below S t)
    (k : ∃ s₂ o, Steps tb e below S' s₂ ∧ s₂.status = .running ∧ Ended s₂ below o ∧ P s₂ o) : ∃ s₂ o, Steps tb e below S s₂ ∧ s₂.status = .running ∧ Ended s₂ below o ∧ P s₂ o := by
  obtain ⟨s₂, o, h1, h2⟩ := k
  exact ⟨s₂, o, h _ h1, h2⟩
/-- the same, on the way to a joint -/
theorem own_goR {tb : Tables} {e : Env} {below : List Frame} {S S' : State} {α : Type} {Φ : α → Prop} {Ψ : α → State} (h : ∀ t, Steps tb e below S' t → Steps tb e below S t)
    (k : ∃ x, Φ x ∧ ∀ t, Steps tb e below (Ψ x) t → Steps tb e below S' t) : ∃ x, Φ x ∧ ∀ t, Steps tb e below (Ψ x) t → Steps tb e below S t := by
  obtain ⟨x, h1, h2⟩ := k
  exact ⟨x, h1, fun t kt => h t (h2 t kt)⟩
/-- a private method is selected, where a method of its class is -/
theorem own_selp {s : State} {args args' : Array Value} {cls : String} {x' y' y : MethodName} (h : (Jvm.Cond.selects cls x' y').before args s = true) (e : y'.cls = y.cls) (hpriv : s.PrivateAt y) (hinst : (Jvm.Cond.instanceMethod y).before args' s = true) (hy : y.cls ≠ "java/lang/invoke/MethodHandle" ∧ y.cls ≠ "java/lang/invoke/VarHandle") : (Jvm.Cond.selects y.cls y y).before args' s = true := by
  obtain ⟨c, r, m, -, -, h3, -, mk, h4, h5⟩ := Cond.selects_spec h
  exact Jvm.Stand.selects_self_of_private (e ▸ findClass_of_methodNamed h3) h4 h5 hpriv hinst hy
/-- Java's x >>> y on ints and on longs -/
def own_ushr (x y : Int32) : Int32 := (x.toUInt32 >>> (y &&& 31).toUInt32).toInt32
def own_ushrL (x : Int64) (y : Int32) : Int64 := (x.toUInt64 >>> (y &&& 0x3f).toInt64.toUInt64).toInt64
def own_shlL (x : Int64) (y : Int32) : Int64 := x <<< (y &&& 0x3f).toInt64
def own_shrL (x : Int64) (y : Int32) : Int64 := x >>> (y &&& 0x3f).toInt64
def own_shl (x y : Int32) : Int32 := x <<< (y &&& 31)
def own_shr (x y : Int32) : Int32 := x >>> (y &&& 31)
/-- an array by its places: ints (byte, char, short, boolean too), longs -/
def own_AI (Z : State) (h : Heap) (a : Addr) (ty : FieldType) (n : Nat) (g : Nat → Int32) : Prop := ∃ c : Cell, Arr Z h a c ty ∧ c.slots.size = n ∧ n < 2 ^ 31 ∧ ∀ i, i < n → c.slots[i]? = some (.int (g i))
def own_AJ (Z : State) (h : Heap) (a : Addr) (ty : FieldType) (n : Nat) (g : Nat → Int64) : Prop := ∃ c : Cell, Arr Z h a c ty ∧ c.slots.size = n ∧ n < 2 ^ 31 ∧ ∀ i, i < n → c.slots[i]? = some (.long (g i))
def own_AD (Z : State) (h : Heap) (a : Addr) (ty : FieldType) (n : Nat) (g : Nat → UInt64) : Prop := ∃ c : Cell, Arr Z h a c ty ∧ c.slots.size = n ∧ n < 2 ^ 31 ∧ ∀ i, i < n → c.slots[i]? = some (.double (g i))
def own_upd {α : Type} (g : Nat → α) (j : Nat) (v : α) : Nat → α := fun i => if i = j then v else g i
theorem own_upd_same {α : Type} (g : Nat → α) (j : Nat) (v : α) : own_upd g j v j = v := if_pos rfl
theorem own_upd_ne {α : Type} (g : Nat → α) {i j : Nat} (v : α) (h : i ≠ j) : own_upd g j v i = g i := if_neg h
section OwnArrays
variable {Z : State} {h h' : Heap} {a b : Addr} {ty : FieldType} {n sl : Nat} {v : Value} {ws : List Addr}
theorem own_AI.lt {g : Nat → Int32} (F : own_AI Z h a ty n g) : a < h.size := by obtain ⟨c, A, -⟩ := F; exact A.lt
theorem own_AI.ext {g : Nat → Int32} (F : own_AI Z h a ty n g) (E : Ext h h') : own_AI Z h' a ty n g := by obtain ⟨c, A, r⟩ := F; exact ⟨c, A.ext E, r⟩
theorem own_AI.other {g : Nat → Int32} (F : own_AI Z h b ty n g) (W : Wr h h' a sl v) (q : b ≠ a) : own_AI Z h' b ty n g := by obtain ⟨c, A, r⟩ := F; exact ⟨c, A.other W q, r⟩
theorem own_AI.keep {g : Nat → Int32} (F : own_AI Z h a ty n g) (K : Keep h h' ws) (q : a ∉ ws) : own_AI Z h' a ty n g := by obtain ⟨c, A, r⟩ := F; exact ⟨c, ⟨K.2.1 a c A.1 q, A.2⟩, r⟩
theorem own_AJ.lt {g : Nat → Int64} (F : own_AJ Z h a ty n g) : a < h.size := by obtain ⟨c, A, -⟩ := F; exact A.lt
theorem own_AJ.ext {g : Nat → Int64} (F : own_AJ Z h a ty n g) (E : Ext h h') : own_AJ Z h' a ty n g := by obtain ⟨c, A, r⟩ := F; exact ⟨c, A.ext E, r⟩
theorem own_AJ.other {g : Nat → Int64} (F : own_AJ Z h b ty n g) (W : Wr h h' a sl v) (q : b ≠ a) : own_AJ Z h' b ty n g := by obtain ⟨c, A, r⟩ := F; exact ⟨c, A.other W q, r⟩
theorem own_AJ.keep {g : Nat → Int64} (F : own_AJ Z h a ty n g) (K : Keep h h' ws) (q : a ∉ ws) : own_AJ Z h' a ty n g := by obtain ⟨c, A, r⟩ := F; exact ⟨c, ⟨K.2.1 a c A.1 q, A.2⟩, r⟩
theorem own_AD.lt {g : Nat → UInt64} (F : own_AD Z h a ty n g) : a < h.size := by obtain ⟨c, A, -⟩ := F; exact A.lt
theorem own_AD.ext {g : Nat → UInt64} (F : own_AD Z h a ty n g) (E : Ext h h') : own_AD Z h' a ty n g := by obtain ⟨c, A, r⟩ := F; exact ⟨c, A.ext E, r⟩
theorem own_AD.other {g : Nat → UInt64} (F : own_AD Z h b ty n g) (W : Wr h h' a sl v) (q : b ≠ a) : own_AD Z h' b ty n g := by obtain ⟨c, A, r⟩ := F; exact ⟨c, A.other W q, r⟩
theorem own_AD.keep {g : Nat → UInt64} (F : own_AD Z h a ty n g) (K : Keep h h' ws) (q : a ∉ ws) : own_AD Z h' a ty n g := by obtain ⟨c, A, r⟩ := F; exact ⟨c, ⟨K.2.1 a c A.1 q, A.2⟩, r⟩
theorem own_AI.set {g : Nat → Int32} {c : Cell} {x : Int32} {j : Nat} (A : Arr Z h a c ty) (S : c.slots.size = n) (M : n < 2 ^ 31) (H : ∀ i, i < n → c.slots[i]? = some (.int (g i))) (W : Wr h h' a j (.int x)) : own_AI Z h' a ty n (own_upd g j x) := by
  refine ⟨_, A.same W, (sz_set _ _ _).trans S, M, fun i hi => ?_⟩
  simp only [Cell.setSlot, Array.getElem?_setIfInBounds, own_upd]
  by_cases q : j = i
  · subst q; simp [S, hi]
  · rw [if_neg q, if_neg (fun z => q z.symm)]; exact H i hi
theorem own_AJ.set {g : Nat → Int64} {c : Cell} {x : Int64} {j : Nat} (A : Arr Z h a c ty) (S : c.slots.size = n) (M : n < 2 ^ 31) (H : ∀ i, i < n → c.slots[i]? = some (.long (g i))) (W : Wr h h' a j (.long x)) : own_AJ Z h' a ty n (own_upd g j x) := by
  refine ⟨_, A.same W, (sz_set _ _ _).trans S, M, fun i hi => ?_⟩
  simp only [Cell.setSlot, Array.getElem?_setIfInBounds, own_upd]
  by_cases q : j = i
  · subst q; simp [S, hi]
  · rw [if_neg q, if_neg (fun z => q z.symm)]; exact H i hi
theorem own_AD.set {g : Nat → UInt64} {c : Cell} {x : UInt64} {j : Nat} (A : Arr Z h a c ty) (S : c.slots.size = n) (M : n < 2 ^ 31) (H : ∀ i, i < n → c.slots[i]? = some (.double (g i))) (W : Wr h h' a j (.double x)) : own_AD Z h' a ty n (own_upd g j x) := by
  refine ⟨_, A.same W, (sz_set _ _ _).trans S, M, fun i hi => ?_⟩
  simp only [Cell.setSlot, Array.getElem?_setIfInBounds, own_upd]
  by_cases q : j = i
  · subst q; simp [S, hi]
  · rw [if_neg q, if_neg (fun z => q z.symm)]; exact H i hi
theorem own_clamp_lt (z : Int32) : z.toNatClampNeg < 2 ^ 31 := by have := z.toInt_lt; simp only [Int32.toNatClampNeg]; omega
theorem own_AI.fresh {k : ClassId} {z : Int32} (A : Arr Z h a (newA k ty z) ty) (hd : defaultValue ty = .int 0) : own_AI Z h a ty z.toNatClampNeg (fun _ => 0) :=
  ⟨_, A, sz_new _ _ _, own_clamp_lt z, fun i hi => by simp [newA, hi, hd]⟩
theorem own_AJ.fresh {k : ClassId} {z : Int32} (A : Arr Z h a (newA k ty z) ty) (hd : defaultValue ty = .long 0) : own_AJ Z h a ty z.toNatClampNeg (fun _ => 0) :=
  ⟨_, A, sz_new _ _ _, own_clamp_lt z, fun i hi => by simp [newA, hi, hd]⟩
theorem own_AD.fresh {k : ClassId} {z : Int32} (A : Arr Z h a (newA k ty z) ty) (hd : defaultValue ty = .double 0) : own_AD Z h a ty z.toNatClampNeg (fun _ => 0) :=
  ⟨_, A, sz_new _ _ _, own_clamp_lt z, fun i hi => by simp [newA, hi, hd]⟩
theorem own_in {c : Cell} {j : Int32} (S : c.slots.size = n) (q : ¬ j < 0 ∧ j.toNatClampNeg < n) : ¬ (j < 0 ∨ c.slots.size ≤ j.toNatClampNeg) := by
  rw [S]; exact fun z => z.elim q.1 (fun y => by have := q.2; omega)
theorem own_len {c : Cell} (S : c.slots.size = n) : c.slots.size.toInt32 = Int32.ofNat n := by rw [S]
theorem own_fitI {g : Nat → Int32} {c : Cell} (A : Arr Z h a c .int) (S : c.slots.size = n) (H : ∀ i, i < n → c.slots[i]? = some (.int (g i))) : FitC Z c :=
  fitC_of A fun i hi v hv => by rw [H i (S ▸ hi)] at hv; cases hv; rfl
theorem own_nst {C : String} (E : Exa Z h a C) : ∃ c : Cell, h[a]? = some c ∧ c.vm.isStatics = false := by obtain ⟨c, k, h1, -, -, h4, -⟩ := E; exact ⟨c, h1, h4⟩
theorem own_Sta_keep {C f d : String} (F : Sta Z h C f d v) (K : Keep h h' ws) (q : ∀ x ∈ ws, ∃ c : Cell, h[x]? = some c ∧ c.vm.isStatics = false) : Sta Z h' C f d v := by
  obtain ⟨cf, i, k, f, st, cell, h1, h2, h3, h4, h5, h6, h7⟩ := F
  refine ⟨cf, i, k, f, st, cell, h1, h2, h3, h4, K.2.1 st cell h5 (fun z => ?_), h6, h7⟩
  obtain ⟨c, g1, g2⟩ := q st z
  cases h5.symm.trans g1
  rw [h6] at g2
  cases g2
end OwnArrays
theorem own_lremq (x y : Int64) : x - (x / y) * y = x % y := by
  apply Int64.toInt_inj.mp
  rw [Int64.toInt_sub, Int64.toInt_mul, Int64.toInt_div, Int64.toInt_mod]
  have h := Int.mul_tdiv_add_tmod x.toInt y.toInt
  have hl := x.toInt_lt; have hg := x.le_toInt
  simp only [Int.bmod_sub_bmod, Int.sub_bmod_bmod, Int.bmod_mul_bmod, Int.mul_bmod_bmod]
  have e : x.toInt - x.toInt.tdiv y.toInt * y.toInt = x.toInt.tmod y.toInt := by rw [Int.mul_comm]; omega
  rw [e]
  have h1 := (x % y).toInt_lt; have h2 := (x % y).le_toInt
  rw [Int64.toInt_mod] at h1 h2
  exact Int.bmod_eq_of_le (by omega) (by omega)
theorem own_m32 {q k : Int32} (h : 0 ≤ q.toInt) : (q % k).toInt = q.toInt % k.toInt := by rw [Int32.toInt_mod, Int.tmod_eq_emod_of_nonneg h]
theorem own_ofn {i : Nat} (h : i ≤ 1000) : (Int32.ofNat i).toInt = i := Int32.toInt_ofNat_of_lt (by omega)
theorem own_lt {i n : Nat} (h : i < n) (hn : n ≤ 1000) : Int32.ofNat i < Int32.ofNat n := by rw [Int32.lt_iff_toInt_lt, own_ofn (by omega), own_ofn (by omega)]; omega
theorem own_nlt {i n : Nat} (h : n ≤ i) (hn : n ≤ 1000) (hi : i ≤ 1000) : ¬ Int32.ofNat i < Int32.ofNat n := by rw [Int32.lt_iff_toInt_lt, own_ofn (by omega), own_ofn (by omega)]; omega
theorem own_one (i : Nat) : Int32.ofNat i + (1 : Int32) = Int32.ofNat (i + 1) := (Int32.ofNat_add i 1).symm
theorem own_clamp {i : Nat} (h : i ≤ 1000) : ((Int32.ofNat i)).toNatClampNeg = i := by simp only [Int32.toNatClampNeg, own_ofn h]; omega
theorem own_ofinj {i j : Nat} (hi : i ≤ 1000) (hj : j ≤ 1000) : (Int32.ofNat i) = (Int32.ofNat j) ↔ i = j := by
  refine ⟨fun h => ?_, fun h => by rw [h]⟩
  have := congrArg Int32.toInt h
  rw [own_ofn hi, own_ofn hj] at this
  omega
theorem own_inb {i : Nat} (h : i < 8) : ¬ (Int32.ofNat i) < 0 ∧ ((Int32.ofNat i)).toNatClampNeg < 8 := by
  rw [own_clamp (by omega)]
  refine ⟨?_, h⟩
  rw [Int32.lt_iff_toInt_lt, own_ofn (by omega), show (0 : Int32).toInt = 0 from rfl]
  omega

theorem d1_0 : decode method_3_code 0 = .ok (.iload_n 1, 1) := by decide +kernel
theorem d1_1 : decode method_3_code 1 = .ok (.iconst 2, 1) := by decide +kernel
theorem d1_2 : decode method_3_code 2 = .ok (.iload_n 2, 1) := by decide +kernel
theorem d1_3 : decode method_3_code 3 = .ok (.imul, 1) := by decide +kernel
theorem d1_4 : decode method_3_code 4 = .ok (.iushr, 1) := by decide +kernel
theorem d1_5 : decode method_3_code 5 = .ok (.iconst 3, 1) := by decide +kernel
theorem d1_6 : decode method_3_code 6 = .ok (.iand, 1) := by decide +kernel
theorem d1_7 : decode method_3_code 7 = .ok (.istore_n 3, 1) := by decide +kernel
theorem d1_8 : decode method_3_code 8 = .ok (.iload_n 3, 1) := by decide +kernel
theorem d1_9 : decode method_3_code 9 = .ok (.ifCond .ne 6, 3) := by decide +kernel
theorem d1_12 : decode method_3_code 12 = .ok (.bipush 9, 2) := by decide +kernel
theorem d1_14 : decode method_3_code 14 = .ok (.ireturn, 1) := by decide +kernel
theorem d1_15 : decode method_3_code 15 = .ok (.iload_n 3, 1) := by decide +kernel
theorem d1_16 : decode method_3_code 16 = .ok (.iconst 1, 1) := by decide +kernel
theorem d1_17 : decode method_3_code 17 = .ok (.if_icmp .ne 6, 3) := by decide +kernel
theorem d1_20 : decode method_3_code 20 = .ok (.bipush 10, 2) := by decide +kernel
theorem d1_22 : decode method_3_code 22 = .ok (.ireturn, 1) := by decide +kernel
theorem d1_23 : decode method_3_code 23 = .ok (.iload_n 0, 1) := by decide +kernel
theorem d1_24 : decode method_3_code 24 = .ok (.bipush 8, 2) := by decide +kernel
theorem d1_26 : decode method_3_code 26 = .ok (.iload_n 2, 1) := by decide +kernel
theorem d1_27 : decode method_3_code 27 = .ok (.imul, 1) := by decide +kernel
theorem d1_28 : decode method_3_code 28 = .ok (.iushr, 1) := by decide +kernel
theorem d1_29 : decode method_3_code 29 = .ok (.i2b, 1) := by decide +kernel
theorem d1_30 : decode method_3_code 30 = .ok (.ireturn, 1) := by decide +kernel
theorem own_pn0 : plainName "com/example/long_walk/longwalk/EdgeListLineScanPinLaw" = true := by first | (simp [plainName, overriddenIn]; done) | decide +kernel
set_option maxHeartbeats 40000000 in
theorem own_ef_rm1 (m : MethodId) (x0 : Int32) (x1 : Int32) (x2 : Int32) : entryFrame m #[(.int x0), (.int x1), (.int x2)] 4 = mkF m 0 #[.val (.int x0), .val (.int x1), .val (.int x2), .unset] [] := by first | (simp [entryFrame, mkF, argsToLocals, Value.category]; done) | rfl
def Q1 (Z : State) (p0 : Int32) (p1 : Int32) (p2 : Int32) (h0 : Heap) (n0 : Nat) (v : Option Value) (h : Heap) (L : List Loc) : Prop := ∃ r : Int32, v = some (.int r) ∧ Fr n0 L ∧ h = h0
set_option maxRecDepth 65536 in
set_option maxHeartbeats 40000000 in
theorem rm1 (l : Launch) (Z : State) (aZ : Array Value) (hw : ∀ d ∈ tables_1, d.before aZ Z = true) (ws : List Jvm.Cond) (p0 : Int32) (p1 : Int32) (p2 : Int32) (h0 : Heap) (n0 : Nat) (Z0 : n0 ≤ h0.size) :
    MetFree l (⟨"com/example/long_walk/longwalk/EdgeListLineScanPinLaw", "draw", "(III)B"⟩ : MethodName) (head1 (Jvm.Cond.code (⟨"com/example/long_walk/longwalk/EdgeListLineScanPinLaw", "draw", "(III)B"⟩ : MethodName) method_3_code 4 (some .byte) :: ws) ({ frames := 0, cells := 0, slots := 0, locals := 0 } : Room)) (fun a U => a = #[(.int p0), (.int p1), (.int p2)] ∧ Z.Warmed39 U.vm ∧ U.heap = h0) (fun _ _ _ _ _ => True) (fun _ U o U' => ∃ v L, o = .returned v ∧ Q1 Z p0 p1 p2 h0 n0 v U'.heap L ∧ FrameEnd U o U' L ({ frames := 0, cells := 0, slots := 0, locals := 0 } : Room).cells ({ frames := 0, cells := 0, slots := 0, locals := 0 } : Room).slots) := by
  refine MetFree.of_bodySF (plainFor_of_name own_pn0) hisR ?_
  intro p e s m args below meth c s₁ Bd hml0 hP hK
  obtain ⟨rfl, hZ, hh⟩ := hP
  have hx := Bd.exec
  have hby := Bd.bytes
  have hml : c.maxLocals = 4 := hml0
  have hown : s.vm.findClass "com/example/long_walk/longwalk/EdgeListLineScanPinLaw" = some m.cls := findClass_of_methodNamed Bd.named
  have hnm := (name_of_methodNamed Bd.named Bd.method).1
  have X0 : Stand p l e ({ frames := 0, cells := 0, slots := 0, locals := 0 } : Room) s m #[(.int p0), (.int p1), (.int p2)] below meth c s₁ [] 0 0 := Stand.of_body Bd
  have e0 : s₁.heap = h0 := by rw [← hh, Bd.state]; rfl
  have N0 := Fr.nil n0
  refine own_go (S' := s₁.setTop (mkF m 0 #[.val (.int p0), .val (.int p1), .val (.int p2), .unset] [])) (fun tt0 kk0 => castTop (own_ef_rm1 m p0 p1 p2) kk0) ?_
  obtain ⟨kd, h_kd⟩ : ∃ z : Int32, z = ((own_ushr p1 ((2 : Int32) * p2)) &&& (3 : Int32)) := ⟨_, rfl⟩
  refine own_go (S' := s₁.setTop (mkF m 8 #[.val (.int p0), .val (.int p1), .val (.int p2), .val (.int kd)] [])) (fun target kt => ?_) ?_
  · subst h_kd
    show Steps p.tables e below (s₁.setTop (mkF m 0 #[.val (.int p0), .val (.int p1), .val (.int p2), .unset] [])) _
    refine XS.iloadN X0.here hx rfl (hb hby d1_0) rfl ?_
    show Steps p.tables e below (s₁.setTop (mkF m 1 #[.val (.int p0), .val (.int p1), .val (.int p2), .unset] [(.int p1)])) _
    refine XS.iconst X0.here hx rfl (hb hby d1_1) ?_
    show Steps p.tables e below (s₁.setTop (mkF m 2 #[.val (.int p0), .val (.int p1), .val (.int p2), .unset] [(.int (2 : Int32)), (.int p1)])) _
    refine XS.iloadN X0.here hx rfl (hb hby d1_2) rfl ?_
    show Steps p.tables e below (s₁.setTop (mkF m 3 #[.val (.int p0), .val (.int p1), .val (.int p2), .unset] [(.int p2), (.int (2 : Int32)), (.int p1)])) _
    refine XS.imul X0.here hx rfl (hb hby d1_3) rfl ?_
    show Steps p.tables e below (s₁.setTop (mkF m 4 #[.val (.int p0), .val (.int p1), .val (.int p2), .unset] [(.int ((2 : Int32) * p2)), (.int p1)])) _
    refine XS.iushr X0.here hx rfl (hb hby d1_4) rfl ?_
    show Steps p.tables e below (s₁.setTop (mkF m 5 #[.val (.int p0), .val (.int p1), .val (.int p2), .unset] [(.int (own_ushr p1 ((2 : Int32) * p2)))])) _
    refine XS.iconst X0.here hx rfl (hb hby d1_5) ?_
    show Steps p.tables e below (s₁.setTop (mkF m 6 #[.val (.int p0), .val (.int p1), .val (.int p2), .unset] [(.int (3 : Int32)), (.int (own_ushr p1 ((2 : Int32) * p2)))])) _
    refine XS.iand X0.here hx rfl (hb hby d1_6) rfl ?_
    show Steps p.tables e below (s₁.setTop (mkF m 7 #[.val (.int p0), .val (.int p1), .val (.int p2), .unset] [(.int ((own_ushr p1 ((2 : Int32) * p2)) &&& (3 : Int32)))])) _
    refine XS.istoreN X0.here hx rfl (hb hby d1_7) rfl (l' := #[.val (.int p0), .val (.int p1), .val (.int p2), .val (.int ((own_ushr p1 ((2 : Int32) * p2)) &&& (3 : Int32)))]) rfl ?_
    exact kt
  refine own_go (S' := s₁.setTop (mkF m 9 #[.val (.int p0), .val (.int p1), .val (.int p2), .val (.int kd)] [(.int kd)])) (fun target kt => ?_) ?_
  · skip
    show Steps p.tables e below (s₁.setTop (mkF m 8 #[.val (.int p0), .val (.int p1), .val (.int p2), .val (.int kd)] [])) _
    refine XS.iloadN X0.here hx rfl (hb hby d1_8) rfl ?_
    exact kt
  by_cases hc9 : kd = (0 : Int32)
  · skip
    refine own_go (S' := s₁.setTop (mkF m 14 #[.val (.int p0), .val (.int p1), .val (.int p2), .val (.int kd)] [(.int (9 : Int32))])) (fun target kt => ?_) ?_
    · skip
      show Steps p.tables e below (s₁.setTop (mkF m 9 #[.val (.int p0), .val (.int p1), .val (.int p2), .val (.int kd)] [(.int kd)])) _
      refine XS.ifNo X0.here hx rfl (hb hby d1_9) rfl ((if0 _ _).trans (teq hc9).2) ?_
      show Steps p.tables e below (s₁.setTop (mkF m 12 #[.val (.int p0), .val (.int p1), .val (.int p2), .val (.int kd)] [])) _
      refine XS.bipush X0.here hx rfl (hb hby d1_12) ?_
      exact kt
    obtain ⟨fs, hr, hrun, hended, hW, hsame⟩ := X0.leave (v := some (.int (9 : Int32))) (fun h => by rw [Bd.returns] at h; cases h)
    refine ⟨_, _, ?_, hrun, hended, _, _, rfl, ?_, ⟨_, rfl⟩, hW, hsame.mono (by decide) (by decide)⟩
    · exact retN X0 hx (t := .byte) Bd.returns (by simp) (hb hby d1_14) hr
    · show Q1 Z p0 p1 p2 h0 n0 _ s₁.heap _
      rw [e0]
      exact ⟨(9 : Int32), rfl, N0, rfl⟩
  · skip
    refine own_go (S' := s₁.setTop (mkF m 17 #[.val (.int p0), .val (.int p1), .val (.int p2), .val (.int kd)] [(.int (1 : Int32)), (.int kd)])) (fun target kt => ?_) ?_
    · skip
      show Steps p.tables e below (s₁.setTop (mkF m 9 #[.val (.int p0), .val (.int p1), .val (.int p2), .val (.int kd)] [(.int kd)])) _
      refine XS.ifYes X0.here hx rfl (pc0 := 9) (pc' := 15) rfl (hb hby d1_9) rfl ((if0 _ _).trans (feq hc9).2) (by decide) (by decide) ?_
      show Steps p.tables e below (s₁.setTop (mkF m 15 #[.val (.int p0), .val (.int p1), .val (.int p2), .val (.int kd)] [])) _
      refine XS.iloadN X0.here hx rfl (hb hby d1_15) rfl ?_
      show Steps p.tables e below (s₁.setTop (mkF m 16 #[.val (.int p0), .val (.int p1), .val (.int p2), .val (.int kd)] [(.int kd)])) _
      refine XS.iconst X0.here hx rfl (hb hby d1_16) ?_
      exact kt
    by_cases hc17 : kd = (1 : Int32)
    · skip
      refine own_go (S' := s₁.setTop (mkF m 22 #[.val (.int p0), .val (.int p1), .val (.int p2), .val (.int kd)] [(.int (10 : Int32))])) (fun target kt => ?_) ?_
      · skip
        show Steps p.tables e below (s₁.setTop (mkF m 17 #[.val (.int p0), .val (.int p1), .val (.int p2), .val (.int kd)] [(.int (1 : Int32)), (.int kd)])) _
        refine XS.icmpNo X0.here hx rfl (hb hby d1_17) rfl (teq hc17).2 ?_
        show Steps p.tables e below (s₁.setTop (mkF m 20 #[.val (.int p0), .val (.int p1), .val (.int p2), .val (.int kd)] [])) _
        refine XS.bipush X0.here hx rfl (hb hby d1_20) ?_
        exact kt
      obtain ⟨fs, hr, hrun, hended, hW, hsame⟩ := X0.leave (v := some (.int (10 : Int32))) (fun h => by rw [Bd.returns] at h; cases h)
      refine ⟨_, _, ?_, hrun, hended, _, _, rfl, ?_, ⟨_, rfl⟩, hW, hsame.mono (by decide) (by decide)⟩
      · exact retN X0 hx (t := .byte) Bd.returns (by simp) (hb hby d1_22) hr
      · show Q1 Z p0 p1 p2 h0 n0 _ s₁.heap _
        rw [e0]
        exact ⟨(10 : Int32), rfl, N0, rfl⟩
    · skip
      refine own_go (S' := s₁.setTop (mkF m 30 #[.val (.int p0), .val (.int p1), .val (.int p2), .val (.int kd)] [(.int ((own_ushr p0 ((8 : Int32) * p2)).toInt8.toInt32))])) (fun target kt => ?_) ?_
      · skip
        show Steps p.tables e below (s₁.setTop (mkF m 17 #[.val (.int p0), .val (.int p1), .val (.int p2), .val (.int kd)] [(.int (1 : Int32)), (.int kd)])) _
        refine XS.icmpYes X0.here hx rfl (pc0 := 17) (pc' := 23) rfl (hb hby d1_17) rfl (feq hc17).2 (by decide) (by decide) ?_
        show Steps p.tables e below (s₁.setTop (mkF m 23 #[.val (.int p0), .val (.int p1), .val (.int p2), .val (.int kd)] [])) _
        refine XS.iloadN X0.here hx rfl (hb hby d1_23) rfl ?_
        show Steps p.tables e below (s₁.setTop (mkF m 24 #[.val (.int p0), .val (.int p1), .val (.int p2), .val (.int kd)] [(.int p0)])) _
        refine XS.bipush X0.here hx rfl (hb hby d1_24) ?_
        show Steps p.tables e below (s₁.setTop (mkF m 26 #[.val (.int p0), .val (.int p1), .val (.int p2), .val (.int kd)] [(.int (8 : Int32)), (.int p0)])) _
        refine XS.iloadN X0.here hx rfl (hb hby d1_26) rfl ?_
        show Steps p.tables e below (s₁.setTop (mkF m 27 #[.val (.int p0), .val (.int p1), .val (.int p2), .val (.int kd)] [(.int p2), (.int (8 : Int32)), (.int p0)])) _
        refine XS.imul X0.here hx rfl (hb hby d1_27) rfl ?_
        show Steps p.tables e below (s₁.setTop (mkF m 28 #[.val (.int p0), .val (.int p1), .val (.int p2), .val (.int kd)] [(.int ((8 : Int32) * p2)), (.int p0)])) _
        refine XS.iushr X0.here hx rfl (hb hby d1_28) rfl ?_
        show Steps p.tables e below (s₁.setTop (mkF m 29 #[.val (.int p0), .val (.int p1), .val (.int p2), .val (.int kd)] [(.int (own_ushr p0 ((8 : Int32) * p2)))])) _
        refine XS.i2b X0.here hx rfl (hb hby d1_29) rfl ?_
        exact kt
      obtain ⟨fs, hr, hrun, hended, hW, hsame⟩ := X0.leave (v := some (.int (nar .byte ((own_ushr p0 ((8 : Int32) * p2)).toInt8.toInt32)))) (fun h => by rw [Bd.returns] at h; cases h)
      refine ⟨_, _, ?_, hrun, hended, _, _, rfl, ?_, ⟨_, rfl⟩, hW, hsame.mono (by decide) (by decide)⟩
      · exact retN X0 hx (t := .byte) Bd.returns (by simp) (hb hby d1_30) hr
      · show Q1 Z p0 p1 p2 h0 n0 _ s₁.heap _
        rw [e0]
        exact ⟨(nar .byte ((own_ushr p0 ((8 : Int32) * p2)).toInt8.toInt32)), rfl, N0, rfl⟩
theorem d2_0 : decode jdk_29_method_65_code 0 = .ok (.iload_n 0, 1) := by decide +kernel
theorem d2_1 : decode jdk_29_method_65_code 1 = .ok (.iload_n 1, 1) := by decide +kernel
theorem d2_2 : decode jdk_29_method_65_code 2 = .ok (.if_icmp .lt 7, 3) := by decide +kernel
theorem d2_5 : decode jdk_29_method_65_code 5 = .ok (.iload_n 0, 1) := by decide +kernel
theorem d2_6 : decode jdk_29_method_65_code 6 = .ok (.goto 4, 3) := by decide +kernel
theorem d2_9 : decode jdk_29_method_65_code 9 = .ok (.iload_n 1, 1) := by decide +kernel
theorem d2_10 : decode jdk_29_method_65_code 10 = .ok (.ireturn, 1) := by decide +kernel
def own_max (p0 : Int32) (p1 : Int32) : Int32 := let mx : Int32 := (if p0 < p1 then p1 else p0); mx
set_option maxHeartbeats 40000000 in
theorem own_ef_rm2 (m : MethodId) (x0 : Int32) (x1 : Int32) : entryFrame m #[(.int x0), (.int x1)] 2 = mkF m 0 #[.val (.int x0), .val (.int x1)] [] := by first | (simp [entryFrame, mkF, argsToLocals, Value.category]; done) | rfl
def Q2 (Z : State) (p0 : Int32) (p1 : Int32) (h0 : Heap) (n0 : Nat) (v : Option Value) (h : Heap) (L : List Loc) : Prop := v = some (.int (own_max p0 p1)) ∧ Fr n0 L ∧ h = h0
set_option maxRecDepth 65536 in
set_option maxHeartbeats 40000000 in
theorem rm2 (l : Launch) (Z : State) (aZ : Array Value) (hw : ∀ d ∈ tables_1, d.before aZ Z = true) (ws : List Jvm.Cond) (p0 : Int32) (p1 : Int32) (h0 : Heap) (n0 : Nat) (Z0 : n0 ≤ h0.size) :
    MetFree l (⟨"java/lang/Math", "max", "(II)I"⟩ : MethodName) (head1 (Jvm.Cond.code (⟨"java/lang/Math", "max", "(II)I"⟩ : MethodName) jdk_29_method_65_code 2 (some .int) :: ws) ({ frames := 0, cells := 0, slots := 0, locals := 0 } : Room)) (fun a U => a = #[(.int p0), (.int p1)] ∧ Z.Warmed39 U.vm ∧ U.heap = h0) (fun _ _ _ _ _ => True) (fun _ U o U' => ∃ v L, o = .returned v ∧ Q2 Z p0 p1 h0 n0 v U'.heap L ∧ FrameEnd U o U' L ({ frames := 0, cells := 0, slots := 0, locals := 0 } : Room).cells ({ frames := 0, cells := 0, slots := 0, locals := 0 } : Room).slots) := by
  refine MetFree.of_bodySF (Jvm.Free.JP.mathPlain rfl (by decide +kernel)) hisR ?_
  intro p e s m args below meth c s₁ Bd hml0 hP hK
  obtain ⟨rfl, hZ, hh⟩ := hP
  have hx := Bd.exec
  have hby := Bd.bytes
  have hml : c.maxLocals = 2 := hml0
  have hown : s.vm.findClass "java/lang/Math" = some m.cls := findClass_of_methodNamed Bd.named
  have hnm := (name_of_methodNamed Bd.named Bd.method).1
  have X0 : Stand p l e ({ frames := 0, cells := 0, slots := 0, locals := 0 } : Room) s m #[(.int p0), (.int p1)] below meth c s₁ [] 0 0 := Stand.of_body Bd
  have e0 : s₁.heap = h0 := by rw [← hh, Bd.state]; rfl
  have N0 := Fr.nil n0
  refine own_go (S' := s₁.setTop (mkF m 0 #[.val (.int p0), .val (.int p1)] [])) (fun tt0 kk0 => castTop (own_ef_rm2 m p0 p1) kk0) ?_
  refine own_go (S' := s₁.setTop (mkF m 2 #[.val (.int p0), .val (.int p1)] [(.int p1), (.int p0)])) (fun target kt => ?_) ?_
  · skip
    show Steps p.tables e below (s₁.setTop (mkF m 0 #[.val (.int p0), .val (.int p1)] [])) _
    refine XS.iloadN X0.here hx rfl (hb hby d2_0) rfl ?_
    show Steps p.tables e below (s₁.setTop (mkF m 1 #[.val (.int p0), .val (.int p1)] [(.int p0)])) _
    refine XS.iloadN X0.here hx rfl (hb hby d2_1) rfl ?_
    exact kt
  obtain ⟨y1, h_y1⟩ : ∃ z : Int32, z = (if p0 < p1 then p1 else p0) := ⟨_, rfl⟩
  refine own_go (S' := s₁.setTop (mkF m 10 #[.val (.int p0), .val (.int p1)] [(.int y1)])) (fun target kt => ?_) ?_
  · skip
    by_cases hm2 : p0 < p1
    · skip
      show Steps p.tables e below (s₁.setTop (mkF m 2 #[.val (.int p0), .val (.int p1)] [(.int p1), (.int p0)])) _
      refine XS.icmpYes X0.here hx rfl (pc0 := 2) (pc' := 9) rfl (hb hby d2_2) rfl (tlt hm2).1 (by decide) (by decide) ?_
      show Steps p.tables e below (s₁.setTop (mkF m 9 #[.val (.int p0), .val (.int p1)] [])) _
      refine XS.iloadN X0.here hx rfl (hb hby d2_9) rfl ?_
      rw [h_y1, if_pos hm2] at kt
      exact kt
    · skip
      show Steps p.tables e below (s₁.setTop (mkF m 2 #[.val (.int p0), .val (.int p1)] [(.int p1), (.int p0)])) _
      refine XS.icmpNo X0.here hx rfl (hb hby d2_2) rfl (flt hm2).1 ?_
      show Steps p.tables e below (s₁.setTop (mkF m 5 #[.val (.int p0), .val (.int p1)] [])) _
      refine XS.iloadN X0.here hx rfl (hb hby d2_5) rfl ?_
      show Steps p.tables e below (s₁.setTop (mkF m 6 #[.val (.int p0), .val (.int p1)] [(.int p0)])) _
      refine XS.goto X0.here hx rfl (pc0 := 6) (pc' := 10) rfl (hb hby d2_6) (by decide) (by decide) ?_
      rw [h_y1, if_neg hm2] at kt
      exact kt
  obtain ⟨fs, hr, hrun, hended, hW, hsame⟩ := X0.leave (v := some (.int y1)) (fun h => by rw [Bd.returns] at h; cases h)
  refine ⟨_, _, ?_, hrun, hended, _, _, rfl, ?_, ⟨_, rfl⟩, hW, hsame.mono (by decide) (by decide)⟩
  · exact retI X0 hx Bd.returns (hb hby d2_10) hr
  · show Q2 Z p0 p1 h0 n0 _ s₁.heap _
    rw [e0]
    exact ⟨(by subst h_y1; (first | rfl | (simp only [own_max]; done) | (simp [own_max]; done))), N0, rfl⟩
theorem d11_0 : decode jdk_29_method_69_code 0 = .ok (.iload_n 0, 1) := by decide +kernel
theorem d11_1 : decode jdk_29_method_69_code 1 = .ok (.iload_n 1, 1) := by decide +kernel
theorem d11_2 : decode jdk_29_method_69_code 2 = .ok (.if_icmp .gt 7, 3) := by decide +kernel
theorem d11_5 : decode jdk_29_method_69_code 5 = .ok (.iload_n 0, 1) := by decide +kernel
theorem d11_6 : decode jdk_29_method_69_code 6 = .ok (.goto 4, 3) := by decide +kernel
theorem d11_9 : decode jdk_29_method_69_code 9 = .ok (.iload_n 1, 1) := by decide +kernel
theorem d11_10 : decode jdk_29_method_69_code 10 = .ok (.ireturn, 1) := by decide +kernel
def own_min (p0 : Int32) (p1 : Int32) : Int32 := let mx : Int32 := (if p1 < p0 then p1 else p0); mx
set_option maxHeartbeats 40000000 in
theorem own_ef_rm11 (m : MethodId) (x0 : Int32) (x1 : Int32) : entryFrame m #[(.int x0), (.int x1)] 2 = mkF m 0 #[.val (.int x0), .val (.int x1)] [] := by first | (simp [entryFrame, mkF, argsToLocals, Value.category]; done) | rfl
def Q11 (Z : State) (p0 : Int32) (p1 : Int32) (h0 : Heap) (n0 : Nat) (v : Option Value) (h : Heap) (L : List Loc) : Prop := v = some (.int (own_min p0 p1)) ∧ Fr n0 L ∧ h = h0
set_option maxRecDepth 65536 in
set_option maxHeartbeats 40000000 in
theorem rm11 (l : Launch) (Z : State) (aZ : Array Value) (hw : ∀ d ∈ tables_1, d.before aZ Z = true) (ws : List Jvm.Cond) (p0 : Int32) (p1 : Int32) (h0 : Heap) (n0 : Nat) (Z0 : n0 ≤ h0.size) :
    MetFree l (⟨"java/lang/Math", "min", "(II)I"⟩ : MethodName) (head1 (Jvm.Cond.code (⟨"java/lang/Math", "min", "(II)I"⟩ : MethodName) jdk_29_method_69_code 2 (some .int) :: ws) ({ frames := 0, cells := 0, slots := 0, locals := 0 } : Room)) (fun a U => a = #[(.int p0), (.int p1)] ∧ Z.Warmed39 U.vm ∧ U.heap = h0) (fun _ _ _ _ _ => True) (fun _ U o U' => ∃ v L, o = .returned v ∧ Q11 Z p0 p1 h0 n0 v U'.heap L ∧ FrameEnd U o U' L ({ frames := 0, cells := 0, slots := 0, locals := 0 } : Room).cells ({ frames := 0, cells := 0, slots := 0, locals := 0 } : Room).slots) := by
  refine MetFree.of_bodySF (Jvm.Free.JP.mathPlain rfl (by decide +kernel)) hisR ?_
  intro p e s m args below meth c s₁ Bd hml0 hP hK
  obtain ⟨rfl, hZ, hh⟩ := hP
  have hx := Bd.exec
  have hby := Bd.bytes
  have hml : c.maxLocals = 2 := hml0
  have hown : s.vm.findClass "java/lang/Math" = some m.cls := findClass_of_methodNamed Bd.named
  have hnm := (name_of_methodNamed Bd.named Bd.method).1
  have X0 : Stand p l e ({ frames := 0, cells := 0, slots := 0, locals := 0 } : Room) s m #[(.int p0), (.int p1)] below meth c s₁ [] 0 0 := Stand.of_body Bd
  have e0 : s₁.heap = h0 := by rw [← hh, Bd.state]; rfl
  have N0 := Fr.nil n0
  refine own_go (S' := s₁.setTop (mkF m 0 #[.val (.int p0), .val (.int p1)] [])) (fun tt0 kk0 => castTop (own_ef_rm11 m p0 p1) kk0) ?_
  refine own_go (S' := s₁.setTop (mkF m 2 #[.val (.int p0), .val (.int p1)] [(.int p1), (.int p0)])) (fun target kt => ?_) ?_
  · skip
    show Steps p.tables e below (s₁.setTop (mkF m 0 #[.val (.int p0), .val (.int p1)] [])) _
    refine XS.iloadN X0.here hx rfl (hb hby d11_0) rfl ?_
    show Steps p.tables e below (s₁.setTop (mkF m 1 #[.val (.int p0), .val (.int p1)] [(.int p0)])) _
    refine XS.iloadN X0.here hx rfl (hb hby d11_1) rfl ?_
    exact kt
  obtain ⟨y2, h_y2⟩ : ∃ z : Int32, z = (if p1 < p0 then p1 else p0) := ⟨_, rfl⟩
  refine own_go (S' := s₁.setTop (mkF m 10 #[.val (.int p0), .val (.int p1)] [(.int y2)])) (fun target kt => ?_) ?_
  · skip
    by_cases hm2 : p1 < p0
    · skip
      show Steps p.tables e below (s₁.setTop (mkF m 2 #[.val (.int p0), .val (.int p1)] [(.int p1), (.int p0)])) _
      refine XS.icmpYes X0.here hx rfl (pc0 := 2) (pc' := 9) rfl (hb hby d11_2) rfl (tlt hm2).2.2.1 (by decide) (by decide) ?_
      show Steps p.tables e below (s₁.setTop (mkF m 9 #[.val (.int p0), .val (.int p1)] [])) _
      refine XS.iloadN X0.here hx rfl (hb hby d11_9) rfl ?_
      rw [h_y2, if_pos hm2] at kt
      exact kt
    · skip
      show Steps p.tables e below (s₁.setTop (mkF m 2 #[.val (.int p0), .val (.int p1)] [(.int p1), (.int p0)])) _
      refine XS.icmpNo X0.here hx rfl (hb hby d11_2) rfl (flt hm2).2.2.1 ?_
      show Steps p.tables e below (s₁.setTop (mkF m 5 #[.val (.int p0), .val (.int p1)] [])) _
      refine XS.iloadN X0.here hx rfl (hb hby d11_5) rfl ?_
      show Steps p.tables e below (s₁.setTop (mkF m 6 #[.val (.int p0), .val (.int p1)] [(.int p0)])) _
      refine XS.goto X0.here hx rfl (pc0 := 6) (pc' := 10) rfl (hb hby d11_6) (by decide) (by decide) ?_
      rw [h_y2, if_neg hm2] at kt
      exact kt
  obtain ⟨fs, hr, hrun, hended, hW, hsame⟩ := X0.leave (v := some (.int y2)) (fun h => by rw [Bd.returns] at h; cases h)
  refine ⟨_, _, ?_, hrun, hended, _, _, rfl, ?_, ⟨_, rfl⟩, hW, hsame.mono (by decide) (by decide)⟩
  · exact retI X0 hx Bd.returns (hb hby d11_10) hr
  · show Q11 Z p0 p1 h0 n0 _ s₁.heap _
    rw [e0]
    exact ⟨(by subst h_y2; (first | rfl | (simp only [own_min]; done) | (simp [own_min]; done))), N0, rfl⟩
theorem d4_0 : decode method_4_code 0 = .ok (.iload_n 1, 1) := by decide +kernel
theorem d4_1 : decode method_4_code 1 = .ok (.iload_n 2, 1) := by decide +kernel
theorem d4_2 : decode method_4_code 2 = .ok (.if_icmp .lt 20, 3) := by decide +kernel
theorem d4_5 : decode method_4_code 5 = .ok (.iload_n 1, 1) := by decide +kernel
theorem d4_6 : decode method_4_code 6 = .ok (.iload_n 3, 1) := by decide +kernel
theorem d4_7 : decode method_4_code 7 = .ok (.if_icmp .ge 15, 3) := by decide +kernel
theorem d4_10 : decode method_4_code 10 = .ok (.aload_n 0, 1) := by decide +kernel
theorem d4_11 : decode method_4_code 11 = .ok (.iload_n 1, 1) := by decide +kernel
theorem d4_12 : decode method_4_code 12 = .ok (.baload, 1) := by decide +kernel
theorem d4_13 : decode method_4_code 13 = .ok (.iload 4, 2) := by decide +kernel
theorem d4_15 : decode method_4_code 15 = .ok (.if_icmp .ne 7, 3) := by decide +kernel
theorem d4_18 : decode method_4_code 18 = .ok (.iconst 1, 1) := by decide +kernel
theorem d4_19 : decode method_4_code 19 = .ok (.goto 4, 3) := by decide +kernel
theorem d4_22 : decode method_4_code 22 = .ok (.iconst 0, 1) := by decide +kernel
theorem d4_23 : decode method_4_code 23 = .ok (.ireturn, 1) := by decide +kernel
def own_hit (p1 : Int32) (p2 : Int32) (p3 : Int32) (p4 : Int32) (g : Nat → Int32) : Int32 := (if p1 < p2 then (0 : Int32) else (if p1 < p3 then (if (g (p1).toNatClampNeg) = p4 then (1 : Int32) else (0 : Int32)) else (0 : Int32)))
set_option maxHeartbeats 40000000 in
theorem own_ef_rm4 (m : MethodId) (x0 : Addr) (x1 : Int32) (x2 : Int32) (x3 : Int32) (x4 : Int32) : entryFrame m #[(.ref x0), (.int x1), (.int x2), (.int x3), (.int x4)] 5 = mkF m 0 #[.val (.ref x0), .val (.int x1), .val (.int x2), .val (.int x3), .val (.int x4)] [] := by first | (simp [entryFrame, mkF, argsToLocals, Value.category]; done) | rfl
def Q4 (Z : State) (a0 : Addr) (p1 : Int32) (p2 : Int32) (p3 : Int32) (p4 : Int32) (g : Nat → Int32) (h0 : Heap) (n0 : Nat) (v : Option Value) (h : Heap) (L : List Loc) : Prop := v = some (.int (own_hit p1 p2 p3 p4 g)) ∧ Fr n0 L ∧ h = h0
set_option maxRecDepth 65536 in
set_option maxHeartbeats 40000000 in
theorem rm4 (l : Launch) (Z : State) (aZ : Array Value) (hw : ∀ d ∈ tables_1, d.before aZ Z = true) (ws : List Jvm.Cond) (a0 : Addr) (p1 : Int32) (p2 : Int32) (p3 : Int32) (p4 : Int32) (g : Nat → Int32) (h0 : Heap) (n0 : Nat) (Z0 : n0 ≤ h0.size) (pf0 : own_AI Z h0 a0 .byte 8 g) (hi : ¬ p1 < 0 ∧ (p1).toNatClampNeg < 8) :
    MetFree l (⟨"com/example/long_walk/longwalk/EdgeListLineScanPinLaw", "hit", "([BIIII)Z"⟩ : MethodName) (head1 (Jvm.Cond.code (⟨"com/example/long_walk/longwalk/EdgeListLineScanPinLaw", "hit", "([BIIII)Z"⟩ : MethodName) method_4_code 5 (some .boolean) :: ws) ({ frames := 0, cells := 0, slots := 0, locals := 0 } : Room)) (fun a U => a = #[(.ref a0), (.int p1), (.int p2), (.int p3), (.int p4)] ∧ Z.Warmed39 U.vm ∧ U.heap = h0) (fun _ _ _ _ _ => True) (fun _ U o U' => ∃ v L, o = .returned v ∧ Q4 Z a0 p1 p2 p3 p4 g h0 n0 v U'.heap L ∧ FrameEnd U o U' L ({ frames := 0, cells := 0, slots := 0, locals := 0 } : Room).cells ({ frames := 0, cells := 0, slots := 0, locals := 0 } : Room).slots) := by
  refine MetFree.of_bodySF (plainFor_of_name own_pn0) hisR ?_
  intro p e s m args below meth c s₁ Bd hml0 hP hK
  obtain ⟨rfl, hZ, hh⟩ := hP
  have hx := Bd.exec
  have hby := Bd.bytes
  have hml : c.maxLocals = 5 := hml0
  have hown : s.vm.findClass "com/example/long_walk/longwalk/EdgeListLineScanPinLaw" = some m.cls := findClass_of_methodNamed Bd.named
  have hnm := (name_of_methodNamed Bd.named Bd.method).1
  have X0 : Stand p l e ({ frames := 0, cells := 0, slots := 0, locals := 0 } : Room) s m #[(.ref a0), (.int p1), (.int p2), (.int p3), (.int p4)] below meth c s₁ [] 0 0 := Stand.of_body Bd
  have e0 : s₁.heap = h0 := by rw [← hh, Bd.state]; rfl
  have N0 := Fr.nil n0
  refine own_go (S' := s₁.setTop (mkF m 0 #[.val (.ref a0), .val (.int p1), .val (.int p2), .val (.int p3), .val (.int p4)] [])) (fun tt0 kk0 => castTop (own_ef_rm4 m a0 p1 p2 p3 p4) kk0) ?_
  refine own_go (S' := s₁.setTop (mkF m 2 #[.val (.ref a0), .val (.int p1), .val (.int p2), .val (.int p3), .val (.int p4)] [(.int p2), (.int p1)])) (fun target kt => ?_) ?_
  · skip
    show Steps p.tables e below (s₁.setTop (mkF m 0 #[.val (.ref a0), .val (.int p1), .val (.int p2), .val (.int p3), .val (.int p4)] [])) _
    refine XS.iloadN X0.here hx rfl (hb hby d4_0) rfl ?_
    show Steps p.tables e below (s₁.setTop (mkF m 1 #[.val (.ref a0), .val (.int p1), .val (.int p2), .val (.int p3), .val (.int p4)] [(.int p1)])) _
    refine XS.iloadN X0.here hx rfl (hb hby d4_1) rfl ?_
    exact kt
  by_cases hc2 : p1 < p2
  · skip
    refine own_go (S' := s₁.setTop (mkF m 23 #[.val (.ref a0), .val (.int p1), .val (.int p2), .val (.int p3), .val (.int p4)] [(.int (0 : Int32))])) (fun target kt => ?_) ?_
    · skip
      show Steps p.tables e below (s₁.setTop (mkF m 2 #[.val (.ref a0), .val (.int p1), .val (.int p2), .val (.int p3), .val (.int p4)] [(.int p2), (.int p1)])) _
      refine XS.icmpYes X0.here hx rfl (pc0 := 2) (pc' := 22) rfl (hb hby d4_2) rfl (tlt hc2).1 (by decide) (by decide) ?_
      show Steps p.tables e below (s₁.setTop (mkF m 22 #[.val (.ref a0), .val (.int p1), .val (.int p2), .val (.int p3), .val (.int p4)] [])) _
      refine XS.iconst X0.here hx rfl (hb hby d4_22) ?_
      exact kt
    obtain ⟨fs, hr, hrun, hended, hW, hsame⟩ := X0.leave (v := some (.int (0 : Int32))) (fun h => by rw [Bd.returns] at h; cases h)
    refine ⟨_, _, ?_, hrun, hended, _, _, rfl, ?_, ⟨_, rfl⟩, hW, hsame.mono (by decide) (by decide)⟩
    · exact retN X0 hx (t := .boolean) Bd.returns (by simp) (hb hby d4_23) hr
    · show Q4 Z a0 p1 p2 p3 p4 g h0 n0 _ s₁.heap _
      rw [e0]
      exact ⟨(by (first | (simp only [own_hit, if_pos hc2]; done) | (simp [own_hit, if_pos hc2]; done) | rfl)), N0, rfl⟩
  · skip
    refine own_go (S' := s₁.setTop (mkF m 7 #[.val (.ref a0), .val (.int p1), .val (.int p2), .val (.int p3), .val (.int p4)] [(.int p3), (.int p1)])) (fun target kt => ?_) ?_
    · skip
      show Steps p.tables e below (s₁.setTop (mkF m 2 #[.val (.ref a0), .val (.int p1), .val (.int p2), .val (.int p3), .val (.int p4)] [(.int p2), (.int p1)])) _
      refine XS.icmpNo X0.here hx rfl (hb hby d4_2) rfl (flt hc2).1 ?_
      show Steps p.tables e below (s₁.setTop (mkF m 5 #[.val (.ref a0), .val (.int p1), .val (.int p2), .val (.int p3), .val (.int p4)] [])) _
      refine XS.iloadN X0.here hx rfl (hb hby d4_5) rfl ?_
      show Steps p.tables e below (s₁.setTop (mkF m 6 #[.val (.ref a0), .val (.int p1), .val (.int p2), .val (.int p3), .val (.int p4)] [(.int p1)])) _
      refine XS.iloadN X0.here hx rfl (hb hby d4_6) rfl ?_
      exact kt
    by_cases hc7 : p1 < p3
    · skip
      refine own_go (S' := s₁.setTop (mkF m 12 #[.val (.ref a0), .val (.int p1), .val (.int p2), .val (.int p3), .val (.int p4)] [(.int p1), (.ref a0)])) (fun target kt => ?_) ?_
      · skip
        show Steps p.tables e below (s₁.setTop (mkF m 7 #[.val (.ref a0), .val (.int p1), .val (.int p2), .val (.int p3), .val (.int p4)] [(.int p3), (.int p1)])) _
        refine XS.icmpNo X0.here hx rfl (hb hby d4_7) rfl (tlt hc7).2.1 ?_
        show Steps p.tables e below (s₁.setTop (mkF m 10 #[.val (.ref a0), .val (.int p1), .val (.int p2), .val (.int p3), .val (.int p4)] [])) _
        refine XS.aloadN X0.here hx rfl (hb hby d4_10) rfl rfl ?_
        show Steps p.tables e below (s₁.setTop (mkF m 11 #[.val (.ref a0), .val (.int p1), .val (.int p2), .val (.int p3), .val (.int p4)] [(.ref a0)])) _
        refine XS.iloadN X0.here hx rfl (hb hby d4_11) rfl ?_
        exact kt
      obtain ⟨c3, Ar3, S3, M3, H3⟩ := id pf0
      have hj3 : ¬ p1 < 0 ∧ (p1).toNatClampNeg < 8 := (hi)
      have st3 : ∀ target, Steps p.tables e below (s₁.setTop (mkF m 13 #[.val (.ref a0), .val (.int p1), .val (.int p2), .val (.int p3), .val (.int p4)] [(.int (g (p1).toNatClampNeg))])) target → Steps p.tables e below (s₁.setTop (mkF m 12 #[.val (.ref a0), .val (.int p1), .val (.int p2), .val (.int p3), .val (.int p4)] [(.int p1), (.ref a0)])) target := fun target kt => X0.baloadBytes hx (j := p1) (v := (.int (g (p1).toNatClampNeg))) (by rw [e0]; exact Ar3.1) (State.isArrayOf_alike hZ.alike Ar3.2.1) Ar3.2.2 (own_in S3 hj3) (H3 _ hj3.2) (g := (mkF m 12 #[.val (.ref a0), .val (.int p1), .val (.int p2), .val (.int p3), .val (.int p4)] [(.int p1), (.ref a0)])) rfl rfl (hb hby d4_12) _ kt
      refine own_go (S' := s₁.setTop (mkF m 13 #[.val (.ref a0), .val (.int p1), .val (.int p2), .val (.int p3), .val (.int p4)] [(.int (g (p1).toNatClampNeg))])) st3 ?_
      refine own_go (S' := s₁.setTop (mkF m 15 #[.val (.ref a0), .val (.int p1), .val (.int p2), .val (.int p3), .val (.int p4)] [(.int p4), (.int (g (p1).toNatClampNeg))])) (fun target kt => ?_) ?_
      · skip
        show Steps p.tables e below (s₁.setTop (mkF m 13 #[.val (.ref a0), .val (.int p1), .val (.int p2), .val (.int p3), .val (.int p4)] [(.int (g (p1).toNatClampNeg))])) _
        refine XS.iload X0.here hx rfl (hb hby d4_13) rfl ?_
        exact kt
      by_cases hc15 : (g (p1).toNatClampNeg) = p4
      · skip
        refine own_go (S' := s₁.setTop (mkF m 23 #[.val (.ref a0), .val (.int p1), .val (.int p2), .val (.int p3), .val (.int p4)] [(.int (1 : Int32))])) (fun target kt => ?_) ?_
        · skip
          show Steps p.tables e below (s₁.setTop (mkF m 15 #[.val (.ref a0), .val (.int p1), .val (.int p2), .val (.int p3), .val (.int p4)] [(.int p4), (.int (g (p1).toNatClampNeg))])) _
          refine XS.icmpNo X0.here hx rfl (hb hby d4_15) rfl (teq hc15).2 ?_
          show Steps p.tables e below (s₁.setTop (mkF m 18 #[.val (.ref a0), .val (.int p1), .val (.int p2), .val (.int p3), .val (.int p4)] [])) _
          refine XS.iconst X0.here hx rfl (hb hby d4_18) ?_
          show Steps p.tables e below (s₁.setTop (mkF m 19 #[.val (.ref a0), .val (.int p1), .val (.int p2), .val (.int p3), .val (.int p4)] [(.int (1 : Int32))])) _
          refine XS.goto X0.here hx rfl (pc0 := 19) (pc' := 23) rfl (hb hby d4_19) (by decide) (by decide) ?_
          exact kt
        obtain ⟨fs, hr, hrun, hended, hW, hsame⟩ := X0.leave (v := some (.int (1 : Int32))) (fun h => by rw [Bd.returns] at h; cases h)
        refine ⟨_, _, ?_, hrun, hended, _, _, rfl, ?_, ⟨_, rfl⟩, hW, hsame.mono (by decide) (by decide)⟩
        · exact retN X0 hx (t := .boolean) Bd.returns (by simp) (hb hby d4_23) hr
        · show Q4 Z a0 p1 p2 p3 p4 g h0 n0 _ s₁.heap _
          rw [e0]
          exact ⟨(by (first | (simp only [own_hit, if_neg hc2, if_pos hc7, if_pos hc15]; done) | (simp [own_hit, if_neg hc2, if_pos hc7, if_pos hc15]; done) | rfl)), N0, rfl⟩
      · skip
        refine own_go (S' := s₁.setTop (mkF m 23 #[.val (.ref a0), .val (.int p1), .val (.int p2), .val (.int p3), .val (.int p4)] [(.int (0 : Int32))])) (fun target kt => ?_) ?_
        · skip
          show Steps p.tables e below (s₁.setTop (mkF m 15 #[.val (.ref a0), .val (.int p1), .val (.int p2), .val (.int p3), .val (.int p4)] [(.int p4), (.int (g (p1).toNatClampNeg))])) _
          refine XS.icmpYes X0.here hx rfl (pc0 := 15) (pc' := 22) rfl (hb hby d4_15) rfl (feq hc15).2 (by decide) (by decide) ?_
          show Steps p.tables e below (s₁.setTop (mkF m 22 #[.val (.ref a0), .val (.int p1), .val (.int p2), .val (.int p3), .val (.int p4)] [])) _
          refine XS.iconst X0.here hx rfl (hb hby d4_22) ?_
          exact kt
        obtain ⟨fs, hr, hrun, hended, hW, hsame⟩ := X0.leave (v := some (.int (0 : Int32))) (fun h => by rw [Bd.returns] at h; cases h)
        refine ⟨_, _, ?_, hrun, hended, _, _, rfl, ?_, ⟨_, rfl⟩, hW, hsame.mono (by decide) (by decide)⟩
        · exact retN X0 hx (t := .boolean) Bd.returns (by simp) (hb hby d4_23) hr
        · show Q4 Z a0 p1 p2 p3 p4 g h0 n0 _ s₁.heap _
          rw [e0]
          exact ⟨(by (first | (simp only [own_hit, if_neg hc2, if_pos hc7, if_neg hc15]; done) | (simp [own_hit, if_neg hc2, if_pos hc7, if_neg hc15]; done) | rfl)), N0, rfl⟩
    · skip
      refine own_go (S' := s₁.setTop (mkF m 23 #[.val (.ref a0), .val (.int p1), .val (.int p2), .val (.int p3), .val (.int p4)] [(.int (0 : Int32))])) (fun target kt => ?_) ?_
      · skip
        show Steps p.tables e below (s₁.setTop (mkF m 7 #[.val (.ref a0), .val (.int p1), .val (.int p2), .val (.int p3), .val (.int p4)] [(.int p3), (.int p1)])) _
        refine XS.icmpYes X0.here hx rfl (pc0 := 7) (pc' := 22) rfl (hb hby d4_7) rfl (flt hc7).2.1 (by decide) (by decide) ?_
        show Steps p.tables e below (s₁.setTop (mkF m 22 #[.val (.ref a0), .val (.int p1), .val (.int p2), .val (.int p3), .val (.int p4)] [])) _
        refine XS.iconst X0.here hx rfl (hb hby d4_22) ?_
        exact kt
      obtain ⟨fs, hr, hrun, hended, hW, hsame⟩ := X0.leave (v := some (.int (0 : Int32))) (fun h => by rw [Bd.returns] at h; cases h)
      refine ⟨_, _, ?_, hrun, hended, _, _, rfl, ?_, ⟨_, rfl⟩, hW, hsame.mono (by decide) (by decide)⟩
      · exact retN X0 hx (t := .boolean) Bd.returns (by simp) (hb hby d4_23) hr
      · show Q4 Z a0 p1 p2 p3 p4 g h0 n0 _ s₁.heap _
        rw [e0]
        exact ⟨(by (first | (simp only [own_hit, if_neg hc2, if_neg hc7]; done) | (simp [own_hit, if_neg hc2, if_neg hc7]; done) | rfl)), N0, rfl⟩
theorem d5_0 : decode method_5_code 0 = .ok (.iload_n 1, 1) := by decide +kernel
theorem d5_1 : decode method_5_code 1 = .ok (.iload_n 2, 1) := by decide +kernel
theorem d5_2 : decode method_5_code 2 = .ok (.if_icmp .lt 18, 3) := by decide +kernel
theorem d5_5 : decode method_5_code 5 = .ok (.iload_n 1, 1) := by decide +kernel
theorem d5_6 : decode method_5_code 6 = .ok (.iload_n 3, 1) := by decide +kernel
theorem d5_7 : decode method_5_code 7 = .ok (.if_icmp .ge 13, 3) := by decide +kernel
theorem d5_10 : decode method_5_code 10 = .ok (.aload_n 0, 1) := by decide +kernel
theorem d5_11 : decode method_5_code 11 = .ok (.iload_n 1, 1) := by decide +kernel
theorem d5_12 : decode method_5_code 12 = .ok (.baload, 1) := by decide +kernel
theorem d5_13 : decode method_5_code 13 = .ok (.ifCond .ge 7, 3) := by decide +kernel
theorem d5_16 : decode method_5_code 16 = .ok (.iconst 1, 1) := by decide +kernel
theorem d5_17 : decode method_5_code 17 = .ok (.goto 4, 3) := by decide +kernel
theorem d5_20 : decode method_5_code 20 = .ok (.iconst 0, 1) := by decide +kernel
theorem d5_21 : decode method_5_code 21 = .ok (.ireturn, 1) := by decide +kernel
def own_neg (p1 : Int32) (p2 : Int32) (p3 : Int32) (g : Nat → Int32) : Int32 := (if p1 < p2 then (0 : Int32) else (if p1 < p3 then (if (g (p1).toNatClampNeg) < (0 : Int32) then (1 : Int32) else (0 : Int32)) else (0 : Int32)))
set_option maxHeartbeats 40000000 in
theorem own_ef_rm5 (m : MethodId) (x0 : Addr) (x1 : Int32) (x2 : Int32) (x3 : Int32) : entryFrame m #[(.ref x0), (.int x1), (.int x2), (.int x3)] 4 = mkF m 0 #[.val (.ref x0), .val (.int x1), .val (.int x2), .val (.int x3)] [] := by first | (simp [entryFrame, mkF, argsToLocals, Value.category]; done) | rfl
def Q5 (Z : State) (a0 : Addr) (p1 : Int32) (p2 : Int32) (p3 : Int32) (g : Nat → Int32) (h0 : Heap) (n0 : Nat) (v : Option Value) (h : Heap) (L : List Loc) : Prop := v = some (.int (own_neg p1 p2 p3 g)) ∧ Fr n0 L ∧ h = h0
set_option maxRecDepth 65536 in
set_option maxHeartbeats 40000000 in
theorem rm5 (l : Launch) (Z : State) (aZ : Array Value) (hw : ∀ d ∈ tables_1, d.before aZ Z = true) (ws : List Jvm.Cond) (a0 : Addr) (p1 : Int32) (p2 : Int32) (p3 : Int32) (g : Nat → Int32) (h0 : Heap) (n0 : Nat) (Z0 : n0 ≤ h0.size) (pf0 : own_AI Z h0 a0 .byte 8 g) (hi : ¬ p1 < 0 ∧ (p1).toNatClampNeg < 8) :
    MetFree l (⟨"com/example/long_walk/longwalk/EdgeListLineScanPinLaw", "neg", "([BIII)Z"⟩ : MethodName) (head1 (Jvm.Cond.code (⟨"com/example/long_walk/longwalk/EdgeListLineScanPinLaw", "neg", "([BIII)Z"⟩ : MethodName) method_5_code 4 (some .boolean) :: ws) ({ frames := 0, cells := 0, slots := 0, locals := 0 } : Room)) (fun a U => a = #[(.ref a0), (.int p1), (.int p2), (.int p3)] ∧ Z.Warmed39 U.vm ∧ U.heap = h0) (fun _ _ _ _ _ => True) (fun _ U o U' => ∃ v L, o = .returned v ∧ Q5 Z a0 p1 p2 p3 g h0 n0 v U'.heap L ∧ FrameEnd U o U' L ({ frames := 0, cells := 0, slots := 0, locals := 0 } : Room).cells ({ frames := 0, cells := 0, slots := 0, locals := 0 } : Room).slots) := by
  refine MetFree.of_bodySF (plainFor_of_name own_pn0) hisR ?_
  intro p e s m args below meth c s₁ Bd hml0 hP hK
  obtain ⟨rfl, hZ, hh⟩ := hP
  have hx := Bd.exec
  have hby := Bd.bytes
  have hml : c.maxLocals = 4 := hml0
  have hown : s.vm.findClass "com/example/long_walk/longwalk/EdgeListLineScanPinLaw" = some m.cls := findClass_of_methodNamed Bd.named
  have hnm := (name_of_methodNamed Bd.named Bd.method).1
  have X0 : Stand p l e ({ frames := 0, cells := 0, slots := 0, locals := 0 } : Room) s m #[(.ref a0), (.int p1), (.int p2), (.int p3)] below meth c s₁ [] 0 0 := Stand.of_body Bd
  have e0 : s₁.heap = h0 := by rw [← hh, Bd.state]; rfl
  have N0 := Fr.nil n0
  refine own_go (S' := s₁.setTop (mkF m 0 #[.val (.ref a0), .val (.int p1), .val (.int p2), .val (.int p3)] [])) (fun tt0 kk0 => castTop (own_ef_rm5 m a0 p1 p2 p3) kk0) ?_
  refine own_go (S' := s₁.setTop (mkF m 2 #[.val (.ref a0), .val (.int p1), .val (.int p2), .val (.int p3)] [(.int p2), (.int p1)])) (fun target kt => ?_) ?_
  · skip
    show Steps p.tables e below (s₁.setTop (mkF m 0 #[.val (.ref a0), .val (.int p1), .val (.int p2), .val (.int p3)] [])) _
    refine XS.iloadN X0.here hx rfl (hb hby d5_0) rfl ?_
    show Steps p.tables e below (s₁.setTop (mkF m 1 #[.val (.ref a0), .val (.int p1), .val (.int p2), .val (.int p3)] [(.int p1)])) _
    refine XS.iloadN X0.here hx rfl (hb hby d5_1) rfl ?_
    exact kt
  by_cases hc2 : p1 < p2
  · skip
    refine own_go (S' := s₁.setTop (mkF m 21 #[.val (.ref a0), .val (.int p1), .val (.int p2), .val (.int p3)] [(.int (0 : Int32))])) (fun target kt => ?_) ?_
    · skip
      show Steps p.tables e below (s₁.setTop (mkF m 2 #[.val (.ref a0), .val (.int p1), .val (.int p2), .val (.int p3)] [(.int p2), (.int p1)])) _
      refine XS.icmpYes X0.here hx rfl (pc0 := 2) (pc' := 20) rfl (hb hby d5_2) rfl (tlt hc2).1 (by decide) (by decide) ?_
      show Steps p.tables e below (s₁.setTop (mkF m 20 #[.val (.ref a0), .val (.int p1), .val (.int p2), .val (.int p3)] [])) _
      refine XS.iconst X0.here hx rfl (hb hby d5_20) ?_
      exact kt
    obtain ⟨fs, hr, hrun, hended, hW, hsame⟩ := X0.leave (v := some (.int (0 : Int32))) (fun h => by rw [Bd.returns] at h; cases h)
    refine ⟨_, _, ?_, hrun, hended, _, _, rfl, ?_, ⟨_, rfl⟩, hW, hsame.mono (by decide) (by decide)⟩
    · exact retN X0 hx (t := .boolean) Bd.returns (by simp) (hb hby d5_21) hr
    · show Q5 Z a0 p1 p2 p3 g h0 n0 _ s₁.heap _
      rw [e0]
      exact ⟨(by (first | (simp only [own_neg, if_pos hc2]; done) | (simp [own_neg, if_pos hc2]; done) | rfl)), N0, rfl⟩
  · skip
    refine own_go (S' := s₁.setTop (mkF m 7 #[.val (.ref a0), .val (.int p1), .val (.int p2), .val (.int p3)] [(.int p3), (.int p1)])) (fun target kt => ?_) ?_
    · skip
      show Steps p.tables e below (s₁.setTop (mkF m 2 #[.val (.ref a0), .val (.int p1), .val (.int p2), .val (.int p3)] [(.int p2), (.int p1)])) _
      refine XS.icmpNo X0.here hx rfl (hb hby d5_2) rfl (flt hc2).1 ?_
      show Steps p.tables e below (s₁.setTop (mkF m 5 #[.val (.ref a0), .val (.int p1), .val (.int p2), .val (.int p3)] [])) _
      refine XS.iloadN X0.here hx rfl (hb hby d5_5) rfl ?_
      show Steps p.tables e below (s₁.setTop (mkF m 6 #[.val (.ref a0), .val (.int p1), .val (.int p2), .val (.int p3)] [(.int p1)])) _
      refine XS.iloadN X0.here hx rfl (hb hby d5_6) rfl ?_
      exact kt
    by_cases hc7 : p1 < p3
    · skip
      refine own_go (S' := s₁.setTop (mkF m 12 #[.val (.ref a0), .val (.int p1), .val (.int p2), .val (.int p3)] [(.int p1), (.ref a0)])) (fun target kt => ?_) ?_
      · skip
        show Steps p.tables e below (s₁.setTop (mkF m 7 #[.val (.ref a0), .val (.int p1), .val (.int p2), .val (.int p3)] [(.int p3), (.int p1)])) _
        refine XS.icmpNo X0.here hx rfl (hb hby d5_7) rfl (tlt hc7).2.1 ?_
        show Steps p.tables e below (s₁.setTop (mkF m 10 #[.val (.ref a0), .val (.int p1), .val (.int p2), .val (.int p3)] [])) _
        refine XS.aloadN X0.here hx rfl (hb hby d5_10) rfl rfl ?_
        show Steps p.tables e below (s₁.setTop (mkF m 11 #[.val (.ref a0), .val (.int p1), .val (.int p2), .val (.int p3)] [(.ref a0)])) _
        refine XS.iloadN X0.here hx rfl (hb hby d5_11) rfl ?_
        exact kt
      obtain ⟨c4, Ar4, S4, M4, H4⟩ := id pf0
      have hj4 : ¬ p1 < 0 ∧ (p1).toNatClampNeg < 8 := (hi)
      have st4 : ∀ target, Steps p.tables e below (s₁.setTop (mkF m 13 #[.val (.ref a0), .val (.int p1), .val (.int p2), .val (.int p3)] [(.int (g (p1).toNatClampNeg))])) target → Steps p.tables e below (s₁.setTop (mkF m 12 #[.val (.ref a0), .val (.int p1), .val (.int p2), .val (.int p3)] [(.int p1), (.ref a0)])) target := fun target kt => X0.baloadBytes hx (j := p1) (v := (.int (g (p1).toNatClampNeg))) (by rw [e0]; exact Ar4.1) (State.isArrayOf_alike hZ.alike Ar4.2.1) Ar4.2.2 (own_in S4 hj4) (H4 _ hj4.2) (g := (mkF m 12 #[.val (.ref a0), .val (.int p1), .val (.int p2), .val (.int p3)] [(.int p1), (.ref a0)])) rfl rfl (hb hby d5_12) _ kt
      refine own_go (S' := s₁.setTop (mkF m 13 #[.val (.ref a0), .val (.int p1), .val (.int p2), .val (.int p3)] [(.int (g (p1).toNatClampNeg))])) st4 ?_
      by_cases hc13 : (g (p1).toNatClampNeg) < (0 : Int32)
      · skip
        refine own_go (S' := s₁.setTop (mkF m 21 #[.val (.ref a0), .val (.int p1), .val (.int p2), .val (.int p3)] [(.int (1 : Int32))])) (fun target kt => ?_) ?_
        · skip
          show Steps p.tables e below (s₁.setTop (mkF m 13 #[.val (.ref a0), .val (.int p1), .val (.int p2), .val (.int p3)] [(.int (g (p1).toNatClampNeg))])) _
          refine XS.ifNo X0.here hx rfl (hb hby d5_13) rfl ((if0 _ _).trans (tlt hc13).2.1) ?_
          show Steps p.tables e below (s₁.setTop (mkF m 16 #[.val (.ref a0), .val (.int p1), .val (.int p2), .val (.int p3)] [])) _
          refine XS.iconst X0.here hx rfl (hb hby d5_16) ?_
          show Steps p.tables e below (s₁.setTop (mkF m 17 #[.val (.ref a0), .val (.int p1), .val (.int p2), .val (.int p3)] [(.int (1 : Int32))])) _
          refine XS.goto X0.here hx rfl (pc0 := 17) (pc' := 21) rfl (hb hby d5_17) (by decide) (by decide) ?_
          exact kt
        obtain ⟨fs, hr, hrun, hended, hW, hsame⟩ := X0.leave (v := some (.int (1 : Int32))) (fun h => by rw [Bd.returns] at h; cases h)
        refine ⟨_, _, ?_, hrun, hended, _, _, rfl, ?_, ⟨_, rfl⟩, hW, hsame.mono (by decide) (by decide)⟩
        · exact retN X0 hx (t := .boolean) Bd.returns (by simp) (hb hby d5_21) hr
        · show Q5 Z a0 p1 p2 p3 g h0 n0 _ s₁.heap _
          rw [e0]
          exact ⟨(by (first | (simp only [own_neg, if_neg hc2, if_pos hc7, if_pos hc13]; done) | (simp [own_neg, if_neg hc2, if_pos hc7, if_pos hc13]; done) | rfl)), N0, rfl⟩
      · skip
        refine own_go (S' := s₁.setTop (mkF m 21 #[.val (.ref a0), .val (.int p1), .val (.int p2), .val (.int p3)] [(.int (0 : Int32))])) (fun target kt => ?_) ?_
        · skip
          show Steps p.tables e below (s₁.setTop (mkF m 13 #[.val (.ref a0), .val (.int p1), .val (.int p2), .val (.int p3)] [(.int (g (p1).toNatClampNeg))])) _
          refine XS.ifYes X0.here hx rfl (pc0 := 13) (pc' := 20) rfl (hb hby d5_13) rfl ((if0 _ _).trans (flt hc13).2.1) (by decide) (by decide) ?_
          show Steps p.tables e below (s₁.setTop (mkF m 20 #[.val (.ref a0), .val (.int p1), .val (.int p2), .val (.int p3)] [])) _
          refine XS.iconst X0.here hx rfl (hb hby d5_20) ?_
          exact kt
        obtain ⟨fs, hr, hrun, hended, hW, hsame⟩ := X0.leave (v := some (.int (0 : Int32))) (fun h => by rw [Bd.returns] at h; cases h)
        refine ⟨_, _, ?_, hrun, hended, _, _, rfl, ?_, ⟨_, rfl⟩, hW, hsame.mono (by decide) (by decide)⟩
        · exact retN X0 hx (t := .boolean) Bd.returns (by simp) (hb hby d5_21) hr
        · show Q5 Z a0 p1 p2 p3 g h0 n0 _ s₁.heap _
          rw [e0]
          exact ⟨(by (first | (simp only [own_neg, if_neg hc2, if_pos hc7, if_neg hc13]; done) | (simp [own_neg, if_neg hc2, if_pos hc7, if_neg hc13]; done) | rfl)), N0, rfl⟩
    · skip
      refine own_go (S' := s₁.setTop (mkF m 21 #[.val (.ref a0), .val (.int p1), .val (.int p2), .val (.int p3)] [(.int (0 : Int32))])) (fun target kt => ?_) ?_
      · skip
        show Steps p.tables e below (s₁.setTop (mkF m 7 #[.val (.ref a0), .val (.int p1), .val (.int p2), .val (.int p3)] [(.int p3), (.int p1)])) _
        refine XS.icmpYes X0.here hx rfl (pc0 := 7) (pc' := 20) rfl (hb hby d5_7) rfl (flt hc7).2.1 (by decide) (by decide) ?_
        show Steps p.tables e below (s₁.setTop (mkF m 20 #[.val (.ref a0), .val (.int p1), .val (.int p2), .val (.int p3)] [])) _
        refine XS.iconst X0.here hx rfl (hb hby d5_20) ?_
        exact kt
      obtain ⟨fs, hr, hrun, hended, hW, hsame⟩ := X0.leave (v := some (.int (0 : Int32))) (fun h => by rw [Bd.returns] at h; cases h)
      refine ⟨_, _, ?_, hrun, hended, _, _, rfl, ?_, ⟨_, rfl⟩, hW, hsame.mono (by decide) (by decide)⟩
      · exact retN X0 hx (t := .boolean) Bd.returns (by simp) (hb hby d5_21) hr
      · show Q5 Z a0 p1 p2 p3 g h0 n0 _ s₁.heap _
        rw [e0]
        exact ⟨(by (first | (simp only [own_neg, if_neg hc2, if_neg hc7]; done) | (simp [own_neg, if_neg hc2, if_neg hc7]; done) | rfl)), N0, rfl⟩
theorem d3_0 : decode method_6_code 0 = .ok (.iload_n 1, 1) := by decide +kernel
theorem d3_1 : decode method_6_code 1 = .ok (.iload_n 2, 1) := by decide +kernel
theorem d3_2 : decode method_6_code 2 = .ok (.invokestatic 18, 3) := by decide +kernel
theorem d3_5 : decode method_6_code 5 = .ok (.istore 4, 2) := by decide +kernel
theorem d3_7 : decode method_6_code 7 = .ok (.aload_n 0, 1) := by decide +kernel
theorem d3_8 : decode method_6_code 8 = .ok (.bipush 7, 2) := by decide +kernel
theorem d3_10 : decode method_6_code 10 = .ok (.iload_n 1, 1) := by decide +kernel
theorem d3_11 : decode method_6_code 11 = .ok (.iload_n 2, 1) := by decide +kernel
theorem d3_12 : decode method_6_code 12 = .ok (.iload_n 3, 1) := by decide +kernel
theorem d3_13 : decode method_6_code 13 = .ok (.invokestatic 55, 3) := by decide +kernel
theorem d3_16 : decode method_6_code 16 = .ok (.ifCond .eq 7, 3) := by decide +kernel
theorem d3_19 : decode method_6_code 19 = .ok (.bipush 7, 2) := by decide +kernel
theorem d3_21 : decode method_6_code 21 = .ok (.istore 4, 2) := by decide +kernel
theorem d3_23 : decode method_6_code 23 = .ok (.aload_n 0, 1) := by decide +kernel
theorem d3_24 : decode method_6_code 24 = .ok (.bipush 6, 2) := by decide +kernel
theorem d3_26 : decode method_6_code 26 = .ok (.iload_n 1, 1) := by decide +kernel
theorem d3_27 : decode method_6_code 27 = .ok (.iload_n 2, 1) := by decide +kernel
theorem d3_28 : decode method_6_code 28 = .ok (.iload_n 3, 1) := by decide +kernel
theorem d3_29 : decode method_6_code 29 = .ok (.invokestatic 55, 3) := by decide +kernel
theorem d3_32 : decode method_6_code 32 = .ok (.ifCond .eq 7, 3) := by decide +kernel
theorem d3_35 : decode method_6_code 35 = .ok (.bipush 6, 2) := by decide +kernel
theorem d3_37 : decode method_6_code 37 = .ok (.istore 4, 2) := by decide +kernel
theorem d3_39 : decode method_6_code 39 = .ok (.aload_n 0, 1) := by decide +kernel
theorem d3_40 : decode method_6_code 40 = .ok (.iconst 5, 1) := by decide +kernel
theorem d3_41 : decode method_6_code 41 = .ok (.iload_n 1, 1) := by decide +kernel
theorem d3_42 : decode method_6_code 42 = .ok (.iload_n 2, 1) := by decide +kernel
theorem d3_43 : decode method_6_code 43 = .ok (.iload_n 3, 1) := by decide +kernel
theorem d3_44 : decode method_6_code 44 = .ok (.invokestatic 55, 3) := by decide +kernel
theorem d3_47 : decode method_6_code 47 = .ok (.ifCond .eq 6, 3) := by decide +kernel
theorem d3_50 : decode method_6_code 50 = .ok (.iconst 5, 1) := by decide +kernel
theorem d3_51 : decode method_6_code 51 = .ok (.istore 4, 2) := by decide +kernel
theorem d3_53 : decode method_6_code 53 = .ok (.aload_n 0, 1) := by decide +kernel
theorem d3_54 : decode method_6_code 54 = .ok (.iconst 4, 1) := by decide +kernel
theorem d3_55 : decode method_6_code 55 = .ok (.iload_n 1, 1) := by decide +kernel
theorem d3_56 : decode method_6_code 56 = .ok (.iload_n 2, 1) := by decide +kernel
theorem d3_57 : decode method_6_code 57 = .ok (.iload_n 3, 1) := by decide +kernel
theorem d3_58 : decode method_6_code 58 = .ok (.invokestatic 55, 3) := by decide +kernel
theorem d3_61 : decode method_6_code 61 = .ok (.ifCond .eq 6, 3) := by decide +kernel
theorem d3_64 : decode method_6_code 64 = .ok (.iconst 4, 1) := by decide +kernel
theorem d3_65 : decode method_6_code 65 = .ok (.istore 4, 2) := by decide +kernel
theorem d3_67 : decode method_6_code 67 = .ok (.iload 4, 2) := by decide +kernel
theorem d3_69 : decode method_6_code 69 = .ok (.ireturn, 1) := by decide +kernel
theorem own_pd0 : parseMethodDescriptor "(II)I" = some ⟨[.int, .int], some .int⟩ := by decide +kernel
theorem own_pd1 : parseMethodDescriptor "([BIIII)Z" = some ⟨[(.array .byte), .int, .int, .int, .int], some .boolean⟩ := by decide +kernel
def own_first (p1 : Int32) (p2 : Int32) (p3 : Int32) (g : Nat → Int32) : Int32 := let r7 : Int32 := (if (own_hit (7 : Int32) p1 p2 p3 g) = (0 : Int32) then (own_max p1 p2) else (7 : Int32)); let r6 : Int32 := (if (own_hit (6 : Int32) p1 p2 p3 g) = (0 : Int32) then r7 else (6 : Int32)); let r5 : Int32 := (if (own_hit (5 : Int32) p1 p2 p3 g) = (0 : Int32) then r6 else (5 : Int32)); let r4 : Int32 := (if (own_hit (4 : Int32) p1 p2 p3 g) = (0 : Int32) then r5 else (4 : Int32)); r4
set_option maxHeartbeats 40000000 in
theorem own_ef_rm3 (m : MethodId) (x0 : Addr) (x1 : Int32) (x2 : Int32) (x3 : Int32) : entryFrame m #[(.ref x0), (.int x1), (.int x2), (.int x3)] 5 = mkF m 0 #[.val (.ref x0), .val (.int x1), .val (.int x2), .val (.int x3), .unset] [] := by first | (simp [entryFrame, mkF, argsToLocals, Value.category]; done) | rfl
def Q3 (Z : State) (a0 : Addr) (p1 : Int32) (p2 : Int32) (p3 : Int32) (g : Nat → Int32) (h0 : Heap) (n0 : Nat) (v : Option Value) (h : Heap) (L : List Loc) : Prop := v = some (.int (own_first p1 p2 p3 g)) ∧ Fr n0 L ∧ h = h0
set_option maxRecDepth 65536 in
set_option maxHeartbeats 40000000 in
theorem rm3 (l : Launch) (Z : State) (aZ : Array Value) (hw : ∀ d ∈ tables_1, d.before aZ Z = true) (ws : List Jvm.Cond) (a0 : Addr) (p1 : Int32) (p2 : Int32) (p3 : Int32) (g : Nat → Int32) (h0 : Heap) (n0 : Nat) (Z0 : n0 ≤ h0.size) (pf0 : own_AI Z h0 a0 .byte 8 g) :
    MetFree l (⟨"com/example/long_walk/longwalk/EdgeListLineScanPinLaw", "firstIndex", "([BIII)I"⟩ : MethodName) (head1 (Jvm.Cond.code (⟨"com/example/long_walk/longwalk/EdgeListLineScanPinLaw", "firstIndex", "([BIII)I"⟩ : MethodName) method_6_code 5 (some .int) :: ws) ({ frames := 1, cells := 0, slots := 0, locals := 16 } : Room)) (fun a U => a = #[(.ref a0), (.int p1), (.int p2), (.int p3)] ∧ Z.Warmed39 U.vm ∧ U.heap = h0) (fun _ _ _ _ _ => True) (fun _ U o U' => ∃ v L, o = .returned v ∧ Q3 Z a0 p1 p2 p3 g h0 n0 v U'.heap L ∧ FrameEnd U o U' L ({ frames := 1, cells := 0, slots := 0, locals := 16 } : Room).cells ({ frames := 1, cells := 0, slots := 0, locals := 16 } : Room).slots) := by
  refine MetFree.of_bodySF (plainFor_of_name own_pn0) hisR ?_
  intro p e s m args below meth c s₁ Bd hml0 hP hK
  obtain ⟨rfl, hZ, hh⟩ := hP
  have hx := Bd.exec
  have hby := Bd.bytes
  have hml : c.maxLocals = 5 := hml0
  have hown : s.vm.findClass "com/example/long_walk/longwalk/EdgeListLineScanPinLaw" = some m.cls := findClass_of_methodNamed Bd.named
  have hnm := (name_of_methodNamed Bd.named Bd.method).1
  have X0 : Stand p l e ({ frames := 1, cells := 0, slots := 0, locals := 16 } : Room) s m #[(.ref a0), (.int p1), (.int p2), (.int p3)] below meth c s₁ [] 0 0 := Stand.of_body Bd
  have e0 : s₁.heap = h0 := by rw [← hh, Bd.state]; rfl
  have N0 := Fr.nil n0
  refine own_go (S' := s₁.setTop (mkF m 0 #[.val (.ref a0), .val (.int p1), .val (.int p2), .val (.int p3), .unset] [])) (fun tt0 kk0 => castTop (own_ef_rm3 m a0 p1 p2 p3) kk0) ?_
  refine own_go (S' := s₁.setTop (mkF m 2 #[.val (.ref a0), .val (.int p1), .val (.int p2), .val (.int p3), .unset] [(.int p2), (.int p1)])) (fun target kt => ?_) ?_
  · skip
    show Steps p.tables e below (s₁.setTop (mkF m 0 #[.val (.ref a0), .val (.int p1), .val (.int p2), .val (.int p3), .unset] [])) _
    refine XS.iloadN X0.here hx rfl (hb hby d3_0) rfl ?_
    show Steps p.tables e below (s₁.setTop (mkF m 1 #[.val (.ref a0), .val (.int p1), .val (.int p2), .val (.int p3), .unset] [(.int p1)])) _
    refine XS.iloadN X0.here hx rfl (hb hby d3_1) rfl ?_
    exact kt
  obtain ⟨_, _, ⟨T5, L5, k5, n5⟩, -, X5, ⟨Lc5, hQ5, l5, y5, z5⟩, st5⟩ := Jvm.LawKit.callS X0 hx (y := (⟨"java/lang/Math", "max", "(II)I"⟩ : MethodName)) hown (mvT hZ (hw _ (List.mem_of_getElem? (i := 6) rfl))) (mvT hZ (hw _ (List.mem_of_getElem? (i := 7) rfl))) (mvT hZ (hw _ (List.mem_of_getElem? (i := 8) rfl))) (mvT hZ (hw _ (List.mem_of_getElem? (i := 9) rfl))) (by decide) (backOf (W := 0) (rm2 l Z aZ hw [] p1 p2 h0 n0 Z0 ) hZ (hw _ (List.mem_of_getElem? (i := 9) rfl)) (hw _ (List.mem_of_getElem? (i := 8) rfl)) (by decide) (by decide)) (g := (mkF m 2 #[.val (.ref a0), .val (.int p1), .val (.int p2), .val (.int p3), .unset] [(.int p2), (.int p1)])) rfl (by rw [hml]; rfl) (argsL := [(.int p1), (.int p2)]) (rest := []) (lenOf own_pd0 rfl) rfl (by show 2 * 0 + _ ≤ _; exact Nat.le_of_eq rfl) (hb hby d3_2) (fun _ _ => ⟨rfl, e0, (by decide : 0 + 0 ≤ _), (by decide : 0 + 0 ≤ _)⟩)
  dsimp only [Pt.U, Pt.locs, Pt.cells, Pt.slots] at X5 l5 y5 z5 st5 hQ5
  subst l5 y5 z5
  obtain ⟨rfl, N5q, e5⟩ := hQ5
  have N5 := Fr.app N0 N5q
  refine own_go (S' := T5.setTop (mkF m 5 #[.val (.ref a0), .val (.int p1), .val (.int p2), .val (.int p3), .unset] [(.int (own_max p1 p2))])) st5 ?_
  refine own_go (S' := T5.setTop (mkF m 13 #[.val (.ref a0), .val (.int p1), .val (.int p2), .val (.int p3), .val (.int (own_max p1 p2))] [(.int p3), (.int p2), (.int p1), (.int (7 : Int32)), (.ref a0)])) (fun target kt => ?_) ?_
  · skip
    show Steps p.tables e below (T5.setTop (mkF m 5 #[.val (.ref a0), .val (.int p1), .val (.int p2), .val (.int p3), .unset] [(.int (own_max p1 p2))])) _
    refine XS.istore X5.here hx rfl (hb hby d3_5) rfl (l' := #[.val (.ref a0), .val (.int p1), .val (.int p2), .val (.int p3), .val (.int (own_max p1 p2))]) rfl ?_
    show Steps p.tables e below (T5.setTop (mkF m 7 #[.val (.ref a0), .val (.int p1), .val (.int p2), .val (.int p3), .val (.int (own_max p1 p2))] [])) _
    refine XS.aloadN X5.here hx rfl (hb hby d3_7) rfl rfl ?_
    show Steps p.tables e below (T5.setTop (mkF m 8 #[.val (.ref a0), .val (.int p1), .val (.int p2), .val (.int p3), .val (.int (own_max p1 p2))] [(.ref a0)])) _
    refine XS.bipush X5.here hx rfl (hb hby d3_8) ?_
    show Steps p.tables e below (T5.setTop (mkF m 10 #[.val (.ref a0), .val (.int p1), .val (.int p2), .val (.int p3), .val (.int (own_max p1 p2))] [(.int (7 : Int32)), (.ref a0)])) _
    refine XS.iloadN X5.here hx rfl (hb hby d3_10) rfl ?_
    show Steps p.tables e below (T5.setTop (mkF m 11 #[.val (.ref a0), .val (.int p1), .val (.int p2), .val (.int p3), .val (.int (own_max p1 p2))] [(.int p1), (.int (7 : Int32)), (.ref a0)])) _
    refine XS.iloadN X5.here hx rfl (hb hby d3_11) rfl ?_
    show Steps p.tables e below (T5.setTop (mkF m 12 #[.val (.ref a0), .val (.int p1), .val (.int p2), .val (.int p3), .val (.int (own_max p1 p2))] [(.int p2), (.int p1), (.int (7 : Int32)), (.ref a0)])) _
    refine XS.iloadN X5.here hx rfl (hb hby d3_12) rfl ?_
    exact kt
  obtain ⟨_, _, ⟨T6, L6, k6, n6⟩, -, X6, ⟨Lc6, hQ6, l6, y6, z6⟩, st6⟩ := Jvm.LawKit.callS X5 hx (y := (⟨"com/example/long_walk/longwalk/EdgeListLineScanPinLaw", "hit", "([BIIII)Z"⟩ : MethodName)) hown (mvT hZ (hw _ (List.mem_of_getElem? (i := 13) rfl))) (mvT hZ (hw _ (List.mem_of_getElem? (i := 14) rfl))) (mvT hZ (hw _ (List.mem_of_getElem? (i := 4) rfl))) (mvT hZ (hw _ (List.mem_of_getElem? (i := 15) rfl))) (by decide) (backOf (W := 0) (rm4 l Z aZ hw [] a0 (7 : Int32) p1 p2 p3 g h0 n0 Z0 pf0 (⟨by decide, by decide⟩ : ¬ (7 : Int32) < 0 ∧ ((7 : Int32)).toNatClampNeg < 8)) hZ (hw _ (List.mem_of_getElem? (i := 15) rfl)) (hw _ (List.mem_of_getElem? (i := 4) rfl)) (by decide) (by decide)) (g := (mkF m 13 #[.val (.ref a0), .val (.int p1), .val (.int p2), .val (.int p3), .val (.int (own_max p1 p2))] [(.int p3), (.int p2), (.int p1), (.int (7 : Int32)), (.ref a0)])) rfl (by rw [hml]; rfl) (argsL := [(.ref a0), (.int (7 : Int32)), (.int p1), (.int p2), (.int p3)]) (rest := []) (lenOf own_pd1 rfl) rfl (by show 2 * 0 + _ ≤ _; exact Nat.le_of_eq rfl) (hb hby d3_13) (fun _ _ => ⟨rfl, e5, (by decide : 0 + 0 ≤ _), (by decide : 0 + 0 ≤ _)⟩)
  dsimp only [Pt.U, Pt.locs, Pt.cells, Pt.slots] at X6 l6 y6 z6 st6 hQ6
  subst l6 y6 z6
  obtain ⟨rfl, N6q, e6⟩ := hQ6
  have N6 := Fr.app N5 N6q
  refine own_go (S' := T6.setTop (mkF m 16 #[.val (.ref a0), .val (.int p1), .val (.int p2), .val (.int p3), .val (.int (own_max p1 p2))] [(.int (own_hit (7 : Int32) p1 p2 p3 g))])) st6 ?_
  obtain ⟨y7, h_y7⟩ : ∃ z : Int32, z = (if (own_hit (7 : Int32) p1 p2 p3 g) = (0 : Int32) then (own_max p1 p2) else (7 : Int32)) := ⟨_, rfl⟩
  refine own_go (S' := T6.setTop (mkF m 23 #[.val (.ref a0), .val (.int p1), .val (.int p2), .val (.int p3), .val (.int y7)] [])) (fun target kt => ?_) ?_
  · skip
    by_cases hm16 : (own_hit (7 : Int32) p1 p2 p3 g) = (0 : Int32)
    · skip
      show Steps p.tables e below (T6.setTop (mkF m 16 #[.val (.ref a0), .val (.int p1), .val (.int p2), .val (.int p3), .val (.int (own_max p1 p2))] [(.int (own_hit (7 : Int32) p1 p2 p3 g))])) _
      refine XS.ifYes X6.here hx rfl (pc0 := 16) (pc' := 23) rfl (hb hby d3_16) rfl ((if0 _ _).trans (teq hm16).1) (by decide) (by decide) ?_
      rw [h_y7, if_pos hm16] at kt
      exact kt
    · skip
      show Steps p.tables e below (T6.setTop (mkF m 16 #[.val (.ref a0), .val (.int p1), .val (.int p2), .val (.int p3), .val (.int (own_max p1 p2))] [(.int (own_hit (7 : Int32) p1 p2 p3 g))])) _
      refine XS.ifNo X6.here hx rfl (hb hby d3_16) rfl ((if0 _ _).trans (feq hm16).1) ?_
      show Steps p.tables e below (T6.setTop (mkF m 19 #[.val (.ref a0), .val (.int p1), .val (.int p2), .val (.int p3), .val (.int (own_max p1 p2))] [])) _
      refine XS.bipush X6.here hx rfl (hb hby d3_19) ?_
      show Steps p.tables e below (T6.setTop (mkF m 21 #[.val (.ref a0), .val (.int p1), .val (.int p2), .val (.int p3), .val (.int (own_max p1 p2))] [(.int (7 : Int32))])) _
      refine XS.istore X6.here hx rfl (hb hby d3_21) rfl (l' := #[.val (.ref a0), .val (.int p1), .val (.int p2), .val (.int p3), .val (.int (7 : Int32))]) rfl ?_
      rw [h_y7, if_neg hm16] at kt
      exact kt
  refine own_go (S' := T6.setTop (mkF m 29 #[.val (.ref a0), .val (.int p1), .val (.int p2), .val (.int p3), .val (.int y7)] [(.int p3), (.int p2), (.int p1), (.int (6 : Int32)), (.ref a0)])) (fun target kt => ?_) ?_
  · skip
    show Steps p.tables e below (T6.setTop (mkF m 23 #[.val (.ref a0), .val (.int p1), .val (.int p2), .val (.int p3), .val (.int y7)] [])) _
    refine XS.aloadN X6.here hx rfl (hb hby d3_23) rfl rfl ?_
    show Steps p.tables e below (T6.setTop (mkF m 24 #[.val (.ref a0), .val (.int p1), .val (.int p2), .val (.int p3), .val (.int y7)] [(.ref a0)])) _
    refine XS.bipush X6.here hx rfl (hb hby d3_24) ?_
    show Steps p.tables e below (T6.setTop (mkF m 26 #[.val (.ref a0), .val (.int p1), .val (.int p2), .val (.int p3), .val (.int y7)] [(.int (6 : Int32)), (.ref a0)])) _
    refine XS.iloadN X6.here hx rfl (hb hby d3_26) rfl ?_
    show Steps p.tables e below (T6.setTop (mkF m 27 #[.val (.ref a0), .val (.int p1), .val (.int p2), .val (.int p3), .val (.int y7)] [(.int p1), (.int (6 : Int32)), (.ref a0)])) _
    refine XS.iloadN X6.here hx rfl (hb hby d3_27) rfl ?_
    show Steps p.tables e below (T6.setTop (mkF m 28 #[.val (.ref a0), .val (.int p1), .val (.int p2), .val (.int p3), .val (.int y7)] [(.int p2), (.int p1), (.int (6 : Int32)), (.ref a0)])) _
    refine XS.iloadN X6.here hx rfl (hb hby d3_28) rfl ?_
    exact kt
  obtain ⟨_, _, ⟨T8, L8, k8, n8⟩, -, X8, ⟨Lc8, hQ8, l8, y8, z8⟩, st8⟩ := Jvm.LawKit.callS X6 hx (y := (⟨"com/example/long_walk/longwalk/EdgeListLineScanPinLaw", "hit", "([BIIII)Z"⟩ : MethodName)) hown (mvT hZ (hw _ (List.mem_of_getElem? (i := 13) rfl))) (mvT hZ (hw _ (List.mem_of_getElem? (i := 14) rfl))) (mvT hZ (hw _ (List.mem_of_getElem? (i := 4) rfl))) (mvT hZ (hw _ (List.mem_of_getElem? (i := 15) rfl))) (by decide) (backOf (W := 0) (rm4 l Z aZ hw [] a0 (6 : Int32) p1 p2 p3 g h0 n0 Z0 pf0 (⟨by decide, by decide⟩ : ¬ (6 : Int32) < 0 ∧ ((6 : Int32)).toNatClampNeg < 8)) hZ (hw _ (List.mem_of_getElem? (i := 15) rfl)) (hw _ (List.mem_of_getElem? (i := 4) rfl)) (by decide) (by decide)) (g := (mkF m 29 #[.val (.ref a0), .val (.int p1), .val (.int p2), .val (.int p3), .val (.int y7)] [(.int p3), (.int p2), (.int p1), (.int (6 : Int32)), (.ref a0)])) rfl (by rw [hml]; rfl) (argsL := [(.ref a0), (.int (6 : Int32)), (.int p1), (.int p2), (.int p3)]) (rest := []) (lenOf own_pd1 rfl) rfl (by show 2 * 0 + _ ≤ _; exact Nat.le_of_eq rfl) (hb hby d3_29) (fun _ _ => ⟨rfl, e6, (by decide : 0 + 0 ≤ _), (by decide : 0 + 0 ≤ _)⟩)
  dsimp only [Pt.U, Pt.locs, Pt.cells, Pt.slots] at X8 l8 y8 z8 st8 hQ8
  subst l8 y8 z8
  obtain ⟨rfl, N8q, e8⟩ := hQ8
  have N8 := Fr.app N6 N8q
  refine own_go (S' := T8.setTop (mkF m 32 #[.val (.ref a0), .val (.int p1), .val (.int p2), .val (.int p3), .val (.int y7)] [(.int (own_hit (6 : Int32) p1 p2 p3 g))])) st8 ?_
  obtain ⟨y9, h_y9⟩ : ∃ z : Int32, z = (if (own_hit (6 : Int32) p1 p2 p3 g) = (0 : Int32) then y7 else (6 : Int32)) := ⟨_, rfl⟩
  refine own_go (S' := T8.setTop (mkF m 39 #[.val (.ref a0), .val (.int p1), .val (.int p2), .val (.int p3), .val (.int y9)] [])) (fun target kt => ?_) ?_
  · skip
    by_cases hm32 : (own_hit (6 : Int32) p1 p2 p3 g) = (0 : Int32)
    · skip
      show Steps p.tables e below (T8.setTop (mkF m 32 #[.val (.ref a0), .val (.int p1), .val (.int p2), .val (.int p3), .val (.int y7)] [(.int (own_hit (6 : Int32) p1 p2 p3 g))])) _
      refine XS.ifYes X8.here hx rfl (pc0 := 32) (pc' := 39) rfl (hb hby d3_32) rfl ((if0 _ _).trans (teq hm32).1) (by decide) (by decide) ?_
      rw [h_y9, if_pos hm32] at kt
      exact kt
    · skip
      show Steps p.tables e below (T8.setTop (mkF m 32 #[.val (.ref a0), .val (.int p1), .val (.int p2), .val (.int p3), .val (.int y7)] [(.int (own_hit (6 : Int32) p1 p2 p3 g))])) _
      refine XS.ifNo X8.here hx rfl (hb hby d3_32) rfl ((if0 _ _).trans (feq hm32).1) ?_
      show Steps p.tables e below (T8.setTop (mkF m 35 #[.val (.ref a0), .val (.int p1), .val (.int p2), .val (.int p3), .val (.int y7)] [])) _
      refine XS.bipush X8.here hx rfl (hb hby d3_35) ?_
      show Steps p.tables e below (T8.setTop (mkF m 37 #[.val (.ref a0), .val (.int p1), .val (.int p2), .val (.int p3), .val (.int y7)] [(.int (6 : Int32))])) _
      refine XS.istore X8.here hx rfl (hb hby d3_37) rfl (l' := #[.val (.ref a0), .val (.int p1), .val (.int p2), .val (.int p3), .val (.int (6 : Int32))]) rfl ?_
      rw [h_y9, if_neg hm32] at kt
      exact kt
  refine own_go (S' := T8.setTop (mkF m 44 #[.val (.ref a0), .val (.int p1), .val (.int p2), .val (.int p3), .val (.int y9)] [(.int p3), (.int p2), (.int p1), (.int (5 : Int32)), (.ref a0)])) (fun target kt => ?_) ?_
  · skip
    show Steps p.tables e below (T8.setTop (mkF m 39 #[.val (.ref a0), .val (.int p1), .val (.int p2), .val (.int p3), .val (.int y9)] [])) _
    refine XS.aloadN X8.here hx rfl (hb hby d3_39) rfl rfl ?_
    show Steps p.tables e below (T8.setTop (mkF m 40 #[.val (.ref a0), .val (.int p1), .val (.int p2), .val (.int p3), .val (.int y9)] [(.ref a0)])) _
    refine XS.iconst X8.here hx rfl (hb hby d3_40) ?_
    show Steps p.tables e below (T8.setTop (mkF m 41 #[.val (.ref a0), .val (.int p1), .val (.int p2), .val (.int p3), .val (.int y9)] [(.int (5 : Int32)), (.ref a0)])) _
    refine XS.iloadN X8.here hx rfl (hb hby d3_41) rfl ?_
    show Steps p.tables e below (T8.setTop (mkF m 42 #[.val (.ref a0), .val (.int p1), .val (.int p2), .val (.int p3), .val (.int y9)] [(.int p1), (.int (5 : Int32)), (.ref a0)])) _
    refine XS.iloadN X8.here hx rfl (hb hby d3_42) rfl ?_
    show Steps p.tables e below (T8.setTop (mkF m 43 #[.val (.ref a0), .val (.int p1), .val (.int p2), .val (.int p3), .val (.int y9)] [(.int p2), (.int p1), (.int (5 : Int32)), (.ref a0)])) _
    refine XS.iloadN X8.here hx rfl (hb hby d3_43) rfl ?_
    exact kt
  obtain ⟨_, _, ⟨T10, L10, k10, n10⟩, -, X10, ⟨Lc10, hQ10, l10, y10, z10⟩, st10⟩ := Jvm.LawKit.callS X8 hx (y := (⟨"com/example/long_walk/longwalk/EdgeListLineScanPinLaw", "hit", "([BIIII)Z"⟩ : MethodName)) hown (mvT hZ (hw _ (List.mem_of_getElem? (i := 13) rfl))) (mvT hZ (hw _ (List.mem_of_getElem? (i := 14) rfl))) (mvT hZ (hw _ (List.mem_of_getElem? (i := 4) rfl))) (mvT hZ (hw _ (List.mem_of_getElem? (i := 15) rfl))) (by decide) (backOf (W := 0) (rm4 l Z aZ hw [] a0 (5 : Int32) p1 p2 p3 g h0 n0 Z0 pf0 (⟨by decide, by decide⟩ : ¬ (5 : Int32) < 0 ∧ ((5 : Int32)).toNatClampNeg < 8)) hZ (hw _ (List.mem_of_getElem? (i := 15) rfl)) (hw _ (List.mem_of_getElem? (i := 4) rfl)) (by decide) (by decide)) (g := (mkF m 44 #[.val (.ref a0), .val (.int p1), .val (.int p2), .val (.int p3), .val (.int y9)] [(.int p3), (.int p2), (.int p1), (.int (5 : Int32)), (.ref a0)])) rfl (by rw [hml]; rfl) (argsL := [(.ref a0), (.int (5 : Int32)), (.int p1), (.int p2), (.int p3)]) (rest := []) (lenOf own_pd1 rfl) rfl (by show 2 * 0 + _ ≤ _; exact Nat.le_of_eq rfl) (hb hby d3_44) (fun _ _ => ⟨rfl, e8, (by decide : 0 + 0 ≤ _), (by decide : 0 + 0 ≤ _)⟩)
  dsimp only [Pt.U, Pt.locs, Pt.cells, Pt.slots] at X10 l10 y10 z10 st10 hQ10
  subst l10 y10 z10
  obtain ⟨rfl, N10q, e10⟩ := hQ10
  have N10 := Fr.app N8 N10q
  refine own_go (S' := T10.setTop (mkF m 47 #[.val (.ref a0), .val (.int p1), .val (.int p2), .val (.int p3), .val (.int y9)] [(.int (own_hit (5 : Int32) p1 p2 p3 g))])) st10 ?_
  obtain ⟨y11, h_y11⟩ : ∃ z : Int32, z = (if (own_hit (5 : Int32) p1 p2 p3 g) = (0 : Int32) then y9 else (5 : Int32)) := ⟨_, rfl⟩
  refine own_go (S' := T10.setTop (mkF m 53 #[.val (.ref a0), .val (.int p1), .val (.int p2), .val (.int p3), .val (.int y11)] [])) (fun target kt => ?_) ?_
  · skip
    by_cases hm47 : (own_hit (5 : Int32) p1 p2 p3 g) = (0 : Int32)
    · skip
      show Steps p.tables e below (T10.setTop (mkF m 47 #[.val (.ref a0), .val (.int p1), .val (.int p2), .val (.int p3), .val (.int y9)] [(.int (own_hit (5 : Int32) p1 p2 p3 g))])) _
      refine XS.ifYes X10.here hx rfl (pc0 := 47) (pc' := 53) rfl (hb hby d3_47) rfl ((if0 _ _).trans (teq hm47).1) (by decide) (by decide) ?_
      rw [h_y11, if_pos hm47] at kt
      exact kt
    · skip
      show Steps p.tables e below (T10.setTop (mkF m 47 #[.val (.ref a0), .val (.int p1), .val (.int p2), .val (.int p3), .val (.int y9)] [(.int (own_hit (5 : Int32) p1 p2 p3 g))])) _
      refine XS.ifNo X10.here hx rfl (hb hby d3_47) rfl ((if0 _ _).trans (feq hm47).1) ?_
      show Steps p.tables e below (T10.setTop (mkF m 50 #[.val (.ref a0), .val (.int p1), .val (.int p2), .val (.int p3), .val (.int y9)] [])) _
      refine XS.iconst X10.here hx rfl (hb hby d3_50) ?_
      show Steps p.tables e below (T10.setTop (mkF m 51 #[.val (.ref a0), .val (.int p1), .val (.int p2), .val (.int p3), .val (.int y9)] [(.int (5 : Int32))])) _
      refine XS.istore X10.here hx rfl (hb hby d3_51) rfl (l' := #[.val (.ref a0), .val (.int p1), .val (.int p2), .val (.int p3), .val (.int (5 : Int32))]) rfl ?_
      rw [h_y11, if_neg hm47] at kt
      exact kt
  refine own_go (S' := T10.setTop (mkF m 58 #[.val (.ref a0), .val (.int p1), .val (.int p2), .val (.int p3), .val (.int y11)] [(.int p3), (.int p2), (.int p1), (.int (4 : Int32)), (.ref a0)])) (fun target kt => ?_) ?_
  · skip
    show Steps p.tables e below (T10.setTop (mkF m 53 #[.val (.ref a0), .val (.int p1), .val (.int p2), .val (.int p3), .val (.int y11)] [])) _
    refine XS.aloadN X10.here hx rfl (hb hby d3_53) rfl rfl ?_
    show Steps p.tables e below (T10.setTop (mkF m 54 #[.val (.ref a0), .val (.int p1), .val (.int p2), .val (.int p3), .val (.int y11)] [(.ref a0)])) _
    refine XS.iconst X10.here hx rfl (hb hby d3_54) ?_
    show Steps p.tables e below (T10.setTop (mkF m 55 #[.val (.ref a0), .val (.int p1), .val (.int p2), .val (.int p3), .val (.int y11)] [(.int (4 : Int32)), (.ref a0)])) _
    refine XS.iloadN X10.here hx rfl (hb hby d3_55) rfl ?_
    show Steps p.tables e below (T10.setTop (mkF m 56 #[.val (.ref a0), .val (.int p1), .val (.int p2), .val (.int p3), .val (.int y11)] [(.int p1), (.int (4 : Int32)), (.ref a0)])) _
    refine XS.iloadN X10.here hx rfl (hb hby d3_56) rfl ?_
    show Steps p.tables e below (T10.setTop (mkF m 57 #[.val (.ref a0), .val (.int p1), .val (.int p2), .val (.int p3), .val (.int y11)] [(.int p2), (.int p1), (.int (4 : Int32)), (.ref a0)])) _
    refine XS.iloadN X10.here hx rfl (hb hby d3_57) rfl ?_
    exact kt
  obtain ⟨_, _, ⟨T12, L12, k12, n12⟩, -, X12, ⟨Lc12, hQ12, l12, y12, z12⟩, st12⟩ := Jvm.LawKit.callS X10 hx (y := (⟨"com/example/long_walk/longwalk/EdgeListLineScanPinLaw", "hit", "([BIIII)Z"⟩ : MethodName)) hown (mvT hZ (hw _ (List.mem_of_getElem? (i := 13) rfl))) (mvT hZ (hw _ (List.mem_of_getElem? (i := 14) rfl))) (mvT hZ (hw _ (List.mem_of_getElem? (i := 4) rfl))) (mvT hZ (hw _ (List.mem_of_getElem? (i := 15) rfl))) (by decide) (backOf (W := 0) (rm4 l Z aZ hw [] a0 (4 : Int32) p1 p2 p3 g h0 n0 Z0 pf0 (⟨by decide, by decide⟩ : ¬ (4 : Int32) < 0 ∧ ((4 : Int32)).toNatClampNeg < 8)) hZ (hw _ (List.mem_of_getElem? (i := 15) rfl)) (hw _ (List.mem_of_getElem? (i := 4) rfl)) (by decide) (by decide)) (g := (mkF m 58 #[.val (.ref a0), .val (.int p1), .val (.int p2), .val (.int p3), .val (.int y11)] [(.int p3), (.int p2), (.int p1), (.int (4 : Int32)), (.ref a0)])) rfl (by rw [hml]; rfl) (argsL := [(.ref a0), (.int (4 : Int32)), (.int p1), (.int p2), (.int p3)]) (rest := []) (lenOf own_pd1 rfl) rfl (by show 2 * 0 + _ ≤ _; exact Nat.le_of_eq rfl) (hb hby d3_58) (fun _ _ => ⟨rfl, e10, (by decide : 0 + 0 ≤ _), (by decide : 0 + 0 ≤ _)⟩)
  dsimp only [Pt.U, Pt.locs, Pt.cells, Pt.slots] at X12 l12 y12 z12 st12 hQ12
  subst l12 y12 z12
  obtain ⟨rfl, N12q, e12⟩ := hQ12
  have N12 := Fr.app N10 N12q
  refine own_go (S' := T12.setTop (mkF m 61 #[.val (.ref a0), .val (.int p1), .val (.int p2), .val (.int p3), .val (.int y11)] [(.int (own_hit (4 : Int32) p1 p2 p3 g))])) st12 ?_
  obtain ⟨y13, h_y13⟩ : ∃ z : Int32, z = (if (own_hit (4 : Int32) p1 p2 p3 g) = (0 : Int32) then y11 else (4 : Int32)) := ⟨_, rfl⟩
  refine own_go (S' := T12.setTop (mkF m 67 #[.val (.ref a0), .val (.int p1), .val (.int p2), .val (.int p3), .val (.int y13)] [])) (fun target kt => ?_) ?_
  · skip
    by_cases hm61 : (own_hit (4 : Int32) p1 p2 p3 g) = (0 : Int32)
    · skip
      show Steps p.tables e below (T12.setTop (mkF m 61 #[.val (.ref a0), .val (.int p1), .val (.int p2), .val (.int p3), .val (.int y11)] [(.int (own_hit (4 : Int32) p1 p2 p3 g))])) _
      refine XS.ifYes X12.here hx rfl (pc0 := 61) (pc' := 67) rfl (hb hby d3_61) rfl ((if0 _ _).trans (teq hm61).1) (by decide) (by decide) ?_
      rw [h_y13, if_pos hm61] at kt
      exact kt
    · skip
      show Steps p.tables e below (T12.setTop (mkF m 61 #[.val (.ref a0), .val (.int p1), .val (.int p2), .val (.int p3), .val (.int y11)] [(.int (own_hit (4 : Int32) p1 p2 p3 g))])) _
      refine XS.ifNo X12.here hx rfl (hb hby d3_61) rfl ((if0 _ _).trans (feq hm61).1) ?_
      show Steps p.tables e below (T12.setTop (mkF m 64 #[.val (.ref a0), .val (.int p1), .val (.int p2), .val (.int p3), .val (.int y11)] [])) _
      refine XS.iconst X12.here hx rfl (hb hby d3_64) ?_
      show Steps p.tables e below (T12.setTop (mkF m 65 #[.val (.ref a0), .val (.int p1), .val (.int p2), .val (.int p3), .val (.int y11)] [(.int (4 : Int32))])) _
      refine XS.istore X12.here hx rfl (hb hby d3_65) rfl (l' := #[.val (.ref a0), .val (.int p1), .val (.int p2), .val (.int p3), .val (.int (4 : Int32))]) rfl ?_
      rw [h_y13, if_neg hm61] at kt
      exact kt
  refine own_go (S' := T12.setTop (mkF m 69 #[.val (.ref a0), .val (.int p1), .val (.int p2), .val (.int p3), .val (.int y13)] [(.int y13)])) (fun target kt => ?_) ?_
  · skip
    show Steps p.tables e below (T12.setTop (mkF m 67 #[.val (.ref a0), .val (.int p1), .val (.int p2), .val (.int p3), .val (.int y13)] [])) _
    refine XS.iload X12.here hx rfl (hb hby d3_67) rfl ?_
    exact kt
  obtain ⟨fs, hr, hrun, hended, hW, hsame⟩ := X12.leave (v := some (.int y13)) (fun h => by rw [Bd.returns] at h; cases h)
  refine ⟨_, _, ?_, hrun, hended, _, _, rfl, ?_, ⟨_, rfl⟩, hW, hsame.mono (by decide) (by decide)⟩
  · exact retI X12 hx Bd.returns (hb hby d3_69) hr
  · show Q3 Z a0 p1 p2 p3 g h0 n0 _ T12.heap _
    rw [e12]
    exact ⟨(by subst h_y7 h_y9 h_y11 h_y13; (first | rfl | (simp only [own_first]; done) | (simp [own_first]; done))), N12, rfl⟩
theorem d6_0 : decode prog_7_method_1_code 0 = .ok (.aload_n 0, 1) := by decide +kernel
theorem d6_1 : decode prog_7_method_1_code 1 = .ok (.invokespecial 1, 3) := by decide +kernel
theorem d6_4 : decode prog_7_method_1_code 4 = .ok (.return_, 1) := by decide +kernel
theorem own_pd2 : parseMethodDescriptor "()V" = some ⟨[], none⟩ := by decide +kernel
theorem own_pn3 : plainName "com/example/long_walk/longwalk/EdgeListLine" = true := by first | (simp [plainName, overriddenIn]; done) | decide +kernel
set_option maxHeartbeats 40000000 in
theorem own_ef_rm6 (m : MethodId) (x0 : Addr) : entryFrame m #[(.ref x0)] 1 = mkF m 0 #[.val (.ref x0)] [] := by first | (simp [entryFrame, mkF, argsToLocals, Value.category]; done) | rfl
def Q6 (Z : State) (a0 : Addr) (h0 : Heap) (n0 : Nat) (v : Option Value) (h : Heap) (L : List Loc) : Prop := v = none ∧ Fr n0 L ∧ h = h0
set_option maxRecDepth 65536 in
set_option maxHeartbeats 40000000 in
theorem rm6 (l : Launch) (Z : State) (aZ : Array Value) (hw : ∀ d ∈ tables_1, d.before aZ Z = true) (ws : List Jvm.Cond) (a0 : Addr) (h0 : Heap) (n0 : Nat) (Z0 : n0 ≤ h0.size) :
    MetFree l (⟨"com/example/long_walk/longwalk/EdgeListLine", "<init>", "()V"⟩ : MethodName) (head1 (Jvm.Cond.code (⟨"com/example/long_walk/longwalk/EdgeListLine", "<init>", "()V"⟩ : MethodName) prog_7_method_1_code 1 none :: ws) ({ frames := 1, cells := 0, slots := 0, locals := 12 } : Room)) (fun a U => a = #[(.ref a0)] ∧ Z.Warmed39 U.vm ∧ U.heap = h0) (fun _ _ _ _ _ => True) (fun _ U o U' => ∃ v L, o = .returned v ∧ Q6 Z a0 h0 n0 v U'.heap L ∧ FrameEnd U o U' L ({ frames := 1, cells := 0, slots := 0, locals := 12 } : Room).cells ({ frames := 1, cells := 0, slots := 0, locals := 12 } : Room).slots) := by
  refine MetFree.of_bodySF (plainFor_of_name own_pn3) hisR ?_
  intro p e s m args below meth c s₁ Bd hml0 hP hK
  obtain ⟨rfl, hZ, hh⟩ := hP
  have hx := Bd.exec
  have hby := Bd.bytes
  have hml : c.maxLocals = 1 := hml0
  have hown : s.vm.findClass "com/example/long_walk/longwalk/EdgeListLine" = some m.cls := findClass_of_methodNamed Bd.named
  have hnm := (name_of_methodNamed Bd.named Bd.method).1
  have X0 : Stand p l e ({ frames := 1, cells := 0, slots := 0, locals := 12 } : Room) s m #[(.ref a0)] below meth c s₁ [] 0 0 := Stand.of_body Bd
  have e0 : s₁.heap = h0 := by rw [← hh, Bd.state]; rfl
  have N0 := Fr.nil n0
  refine own_go (S' := s₁.setTop (mkF m 0 #[.val (.ref a0)] [])) (fun tt0 kk0 => castTop (own_ef_rm6 m a0) kk0) ?_
  refine own_go (S' := s₁.setTop (mkF m 1 #[.val (.ref a0)] [(.ref a0)])) (fun target kt => ?_) ?_
  · skip
    show Steps p.tables e below (s₁.setTop (mkF m 0 #[.val (.ref a0)] [])) _
    refine XS.aloadN X0.here hx rfl (hb hby d6_0) rfl rfl ?_
    exact kt
  obtain ⟨T14, X14, e14, st14⟩ := initO X0 hx hZ hown (hw _ (List.mem_of_getElem? (i := 25) rfl)) (hw _ (List.mem_of_getElem? (i := 26) rfl)) (hw _ (List.mem_of_getElem? (i := 27) rfl)) e0 (g := (mkF m 1 #[.val (.ref a0)] [(.ref a0)])) rfl (by rw [hml]; rfl) rfl (hb hby d6_1) (by decide) (W := 0) (by show 2 * 0 + _ ≤ _; exact Nat.le_of_eq rfl) (by decide)
  refine own_go (S' := T14.setTop (mkF m 4 #[.val (.ref a0)] [])) st14 ?_
  obtain ⟨fs, hr, hrun, hended, hW, hsame⟩ := X14.leave (v := none) (fun _ => rfl)
  refine ⟨_, _, ?_, hrun, hended, _, _, rfl, ?_, ⟨_, rfl⟩, hW, hsame.mono (by decide) (by decide)⟩
  · exact X14.returnOut hx Bd.returns (hb hby d6_4) hr
  · show Q6 Z a0 h0 n0 _ T14.heap _
    rw [e14]
    exact ⟨rfl, N0, rfl⟩
/-- scan's loop: k turns left from place i on: where it stops, the tabs met, whether all is ascii, the two tabs' places -/
def own_sc (g : Nat → Int32) (lf : Int32) : Nat → Nat → Int32 → Int32 → Int32 → Int32 → Nat × Int32 × Int32 × Int32 × Int32
  | 0, i, tb, sa, x1, x2 => (i, tb, sa, x1, x2)
  | k + 1, i, tb, sa, x1, x2 => if ¬ lf = (0 : Int32) ∧ g i = (10 : Int32) then (i, tb, sa, x1, x2) else if g i = (9 : Int32) ∧ tb = (0 : Int32) then own_sc g lf k (i + 1) (1 : Int32) sa (Int32.ofNat i) x2 else if g i = (9 : Int32) ∧ tb = (1 : Int32) then own_sc g lf k (i + 1) (2 : Int32) sa x1 (Int32.ofNat i) else
    if g i < (0 : Int32) then own_sc g lf k (i + 1) tb (0 : Int32) x1 x2 else own_sc g lf k (i + 1) tb sa x1 x2
section OwnSc
variable {g : Nat → Int32} {lf tb sa x1 x2 bb : Int32} {k i : Nat}
theorem own_sc_zero : own_sc g lf 0 i tb sa x1 x2 = (i, tb, sa, x1, x2) := rfl
theorem own_sc_brk (h1 : ¬ lf = (0 : Int32)) (h2 : (g i) = (10 : Int32)) : own_sc g lf (k + 1) i tb sa x1 x2 = (i, tb, sa, x1, x2) := by rw [own_sc, if_pos ⟨h1, h2⟩]
theorem own_nbrk (nb : lf = (0 : Int32) ∨ ¬ (g i) = (10 : Int32)) : ¬ (¬ lf = (0 : Int32) ∧ g i = (10 : Int32)) := fun h => nb.elim h.1 (fun z => z h.2)
theorem own_sc_t0 (nb : lf = (0 : Int32) ∨ ¬ (g i) = (10 : Int32)) (hb : bb = (g i)) (h1 : bb = (9 : Int32)) (h2 : tb = (0 : Int32)) : own_sc g lf (k + 1) i tb sa x1 x2 = own_sc g lf k (i + 1) (1 : Int32) sa (Int32.ofNat i) x2 := by
  rw [own_sc, if_neg (own_nbrk nb), if_pos ⟨hb ▸ h1, h2⟩]
theorem own_sc_t1 (nb : lf = (0 : Int32) ∨ ¬ (g i) = (10 : Int32)) (hb : bb = (g i)) (h1 : bb = (9 : Int32)) (h2 : ¬ tb = (0 : Int32)) (h3 : tb = (1 : Int32)) : own_sc g lf (k + 1) i tb sa x1 x2 = own_sc g lf k (i + 1) (2 : Int32) sa x1 (Int32.ofNat i) := by
  rw [own_sc, if_neg (own_nbrk nb), if_neg (fun h => h2 h.2), if_pos ⟨hb ▸ h1, h3⟩]
theorem own_sc_neg (nb : lf = (0 : Int32) ∨ ¬ (g i) = (10 : Int32)) (hb : bb = (g i)) (h1 : bb < (0 : Int32)) : own_sc g lf (k + 1) i tb sa x1 x2 = own_sc g lf k (i + 1) tb (0 : Int32) x1 x2 := by
  have n9 : ¬ g i = (9 : Int32) := fun h => by rw [hb, h] at h1; exact absurd h1 (by decide)
  rw [own_sc, if_neg (own_nbrk nb), if_neg (fun h => n9 h.1), if_neg (fun h => n9 h.1), if_pos (hb ▸ h1)]
theorem own_sc_pos (nb : lf = (0 : Int32) ∨ ¬ (g i) = (10 : Int32)) (hb : bb = (g i)) (h1 : ¬ bb = (9 : Int32) ∨ (¬ tb = (0 : Int32) ∧ ¬ tb = (1 : Int32))) (h2 : ¬ bb < (0 : Int32)) : own_sc g lf (k + 1) i tb sa x1 x2 = own_sc g lf k (i + 1) tb sa x1 x2 := by
  rw [own_sc, if_neg (own_nbrk nb), if_neg (fun h => h1.elim (fun z => z (hb.trans h.1)) (fun z => z.1 h.2)), if_neg (fun h => h1.elim (fun z => z (hb.trans h.1)) (fun z => z.2 h.2)), if_neg (hb ▸ h2)]
end OwnSc
theorem own_nb1 {x : Int32} (hx : x = 0 ∨ x = 1) : narrow .boolean (.int x) = .int x := by rcases hx with rfl | rfl <;> rfl
theorem own_fb1 {x : Int32} (hx : x = 0 ∨ x = 1) : fits .boolean (.int x) = true := by rcases hx with rfl | rfl <;> rfl

theorem d8_0 : decode prog_7_method_3_code 0 = .ok (.iconst 0, 1) := by decide +kernel
theorem d8_1 : decode prog_7_method_3_code 1 = .ok (.istore 5, 2) := by decide +kernel
theorem d8_3 : decode prog_7_method_3_code 3 = .ok (.iconst 1, 1) := by decide +kernel
theorem d8_4 : decode prog_7_method_3_code 4 = .ok (.istore 6, 2) := by decide +kernel
theorem d8_6 : decode prog_7_method_3_code 6 = .ok (.iload_n 2, 1) := by decide +kernel
theorem d8_7 : decode prog_7_method_3_code 7 = .ok (.istore 7, 2) := by decide +kernel
theorem d8_9 : decode prog_7_method_3_code 9 = .ok (.iload 7, 2) := by decide +kernel
theorem d8_11 : decode prog_7_method_3_code 11 = .ok (.iload_n 3, 1) := by decide +kernel
theorem d8_12 : decode prog_7_method_3_code 12 = .ok (.if_icmp .ge 86, 3) := by decide +kernel
theorem d8_15 : decode prog_7_method_3_code 15 = .ok (.iload 4, 2) := by decide +kernel
theorem d8_17 : decode prog_7_method_3_code 17 = .ok (.ifCond .eq 12, 3) := by decide +kernel
theorem d8_20 : decode prog_7_method_3_code 20 = .ok (.aload_n 1, 1) := by decide +kernel
theorem d8_21 : decode prog_7_method_3_code 21 = .ok (.iload 7, 2) := by decide +kernel
theorem d8_23 : decode prog_7_method_3_code 23 = .ok (.baload, 1) := by decide +kernel
theorem d8_24 : decode prog_7_method_3_code 24 = .ok (.bipush 10, 2) := by decide +kernel
theorem d8_26 : decode prog_7_method_3_code 26 = .ok (.if_icmp .eq 72, 3) := by decide +kernel
theorem d8_29 : decode prog_7_method_3_code 29 = .ok (.aload_n 1, 1) := by decide +kernel
theorem d8_30 : decode prog_7_method_3_code 30 = .ok (.iload 7, 2) := by decide +kernel
theorem d8_32 : decode prog_7_method_3_code 32 = .ok (.baload, 1) := by decide +kernel
theorem d8_33 : decode prog_7_method_3_code 33 = .ok (.istore 8, 2) := by decide +kernel
theorem d8_35 : decode prog_7_method_3_code 35 = .ok (.iload 8, 2) := by decide +kernel
theorem d8_37 : decode prog_7_method_3_code 37 = .ok (.bipush 9, 2) := by decide +kernel
theorem d8_39 : decode prog_7_method_3_code 39 = .ok (.if_icmp .ne 20, 3) := by decide +kernel
theorem d8_42 : decode prog_7_method_3_code 42 = .ok (.iload 5, 2) := by decide +kernel
theorem d8_44 : decode prog_7_method_3_code 44 = .ok (.ifCond .ne 15, 3) := by decide +kernel
theorem d8_47 : decode prog_7_method_3_code 47 = .ok (.aload_n 0, 1) := by decide +kernel
theorem d8_48 : decode prog_7_method_3_code 48 = .ok (.iload 7, 2) := by decide +kernel
theorem d8_50 : decode prog_7_method_3_code 50 = .ok (.putfield 23, 3) := by decide +kernel
theorem d8_53 : decode prog_7_method_3_code 53 = .ok (.iconst 1, 1) := by decide +kernel
theorem d8_54 : decode prog_7_method_3_code 54 = .ok (.istore 5, 2) := by decide +kernel
theorem d8_56 : decode prog_7_method_3_code 56 = .ok (.goto 36, 3) := by decide +kernel
theorem d8_59 : decode prog_7_method_3_code 59 = .ok (.iload 8, 2) := by decide +kernel
theorem d8_61 : decode prog_7_method_3_code 61 = .ok (.bipush 9, 2) := by decide +kernel
theorem d8_63 : decode prog_7_method_3_code 63 = .ok (.if_icmp .ne 21, 3) := by decide +kernel
theorem d8_66 : decode prog_7_method_3_code 66 = .ok (.iload 5, 2) := by decide +kernel
theorem d8_68 : decode prog_7_method_3_code 68 = .ok (.iconst 1, 1) := by decide +kernel
theorem d8_69 : decode prog_7_method_3_code 69 = .ok (.if_icmp .ne 15, 3) := by decide +kernel
theorem d8_72 : decode prog_7_method_3_code 72 = .ok (.aload_n 0, 1) := by decide +kernel
theorem d8_73 : decode prog_7_method_3_code 73 = .ok (.iload 7, 2) := by decide +kernel
theorem d8_75 : decode prog_7_method_3_code 75 = .ok (.putfield 27, 3) := by decide +kernel
theorem d8_78 : decode prog_7_method_3_code 78 = .ok (.iconst 2, 1) := by decide +kernel
theorem d8_79 : decode prog_7_method_3_code 79 = .ok (.istore 5, 2) := by decide +kernel
theorem d8_81 : decode prog_7_method_3_code 81 = .ok (.goto 11, 3) := by decide +kernel
theorem d8_84 : decode prog_7_method_3_code 84 = .ok (.iload 8, 2) := by decide +kernel
theorem d8_86 : decode prog_7_method_3_code 86 = .ok (.ifCond .ge 6, 3) := by decide +kernel
theorem d8_89 : decode prog_7_method_3_code 89 = .ok (.iconst 0, 1) := by decide +kernel
theorem d8_90 : decode prog_7_method_3_code 90 = .ok (.istore 6, 2) := by decide +kernel
theorem d8_92 : decode prog_7_method_3_code 92 = .ok (.iinc 7 1, 3) := by decide +kernel
theorem d8_95 : decode prog_7_method_3_code 95 = .ok (.goto (-86), 3) := by decide +kernel
theorem d8_98 : decode prog_7_method_3_code 98 = .ok (.aload_n 0, 1) := by decide +kernel
theorem d8_99 : decode prog_7_method_3_code 99 = .ok (.iload 5, 2) := by decide +kernel
theorem d8_101 : decode prog_7_method_3_code 101 = .ok (.ifCond .le 10, 3) := by decide +kernel
theorem d8_104 : decode prog_7_method_3_code 104 = .ok (.aload_n 0, 1) := by decide +kernel
theorem d8_105 : decode prog_7_method_3_code 105 = .ok (.getfield 23, 3) := by decide +kernel
theorem d8_108 : decode prog_7_method_3_code 108 = .ok (.goto 5, 3) := by decide +kernel
theorem d8_111 : decode prog_7_method_3_code 111 = .ok (.iload 7, 2) := by decide +kernel
theorem d8_113 : decode prog_7_method_3_code 113 = .ok (.putfield 23, 3) := by decide +kernel
theorem d8_116 : decode prog_7_method_3_code 116 = .ok (.aload_n 0, 1) := by decide +kernel
theorem d8_117 : decode prog_7_method_3_code 117 = .ok (.iload 5, 2) := by decide +kernel
theorem d8_119 : decode prog_7_method_3_code 119 = .ok (.iconst 1, 1) := by decide +kernel
theorem d8_120 : decode prog_7_method_3_code 120 = .ok (.if_icmp .le 10, 3) := by decide +kernel
theorem d8_123 : decode prog_7_method_3_code 123 = .ok (.aload_n 0, 1) := by decide +kernel
theorem d8_124 : decode prog_7_method_3_code 124 = .ok (.getfield 27, 3) := by decide +kernel
theorem d8_127 : decode prog_7_method_3_code 127 = .ok (.goto 5, 3) := by decide +kernel
theorem d8_130 : decode prog_7_method_3_code 130 = .ok (.iload 7, 2) := by decide +kernel
theorem d8_132 : decode prog_7_method_3_code 132 = .ok (.putfield 27, 3) := by decide +kernel
theorem d8_135 : decode prog_7_method_3_code 135 = .ok (.aload_n 0, 1) := by decide +kernel
theorem d8_136 : decode prog_7_method_3_code 136 = .ok (.iload 6, 2) := by decide +kernel
theorem d8_138 : decode prog_7_method_3_code 138 = .ok (.putfield 30, 3) := by decide +kernel
theorem d8_141 : decode prog_7_method_3_code 141 = .ok (.iload 7, 2) := by decide +kernel
theorem d8_143 : decode prog_7_method_3_code 143 = .ok (.ireturn, 1) := by decide +kernel
set_option maxHeartbeats 40000000 in
theorem own_ef_rm8 (m : MethodId) (x0 : Addr) (x1 : Addr) (x2 : Int32) (x3 : Int32) (x4 : Int32) : entryFrame m #[(.ref x0), (.ref x1), (.int x2), (.int x3), (.int x4)] 9 = mkF m 0 #[.val (.ref x0), .val (.ref x1), .val (.int x2), .val (.int x3), .val (.int x4), .unset, .unset, .unset, .unset] [] := by first | (simp [entryFrame, mkF, argsToLocals, Value.category]; done) | rfl
def Q8 (Z : State) (a0 : Addr) (a1 : Addr) (p4 : Int32) (f : Nat) (l3 : Nat) (g : Nat → Int32) (h0 : Heap) (n0 : Nat) (v : Option Value) (h : Heap) (L : List Loc) : Prop := ∃ ft : Int32, ∃ sc : Int32, ∃ ac : Int32, v = some (.int (Int32.ofNat (own_sc g p4 (l3 - f) f (0 : Int32) (1 : Int32) (0 : Int32) (0 : Int32)).1)) ∧ Fr n0 L ∧ Keep h0 h [a0] ∧ Exa Z h a0 "com/example/long_walk/longwalk/EdgeListLine" ∧ Fld Z h a0 "com/example/long_walk/longwalk/EdgeListLine" "sourceStart" "I" (.int (0 : Int32)) ∧ Fld Z h a0 "com/example/long_walk/longwalk/EdgeListLine" "sourceEnd" "I" (.int (0 : Int32)) ∧ Fld Z h a0 "com/example/long_walk/longwalk/EdgeListLine" "targetStart" "I" (.int (0 : Int32)) ∧ Fld Z h a0 "com/example/long_walk/longwalk/EdgeListLine" "targetEnd" "I" (.int (0 : Int32)) ∧ Fld Z h a0 "com/example/long_walk/longwalk/EdgeListLine" "firstTab" "I" (.int ft) ∧ Fld Z h a0 "com/example/long_walk/longwalk/EdgeListLine" "secondTab" "I" (.int sc) ∧ Fld Z h a0 "com/example/long_walk/longwalk/EdgeListLine" "ascii" "Z" (.int ac) ∧ ft = (if (0 : Int32) < (own_sc g p4 (l3 - f) f (0 : Int32) (1 : Int32) (0 : Int32) (0 : Int32)).2.1 then (own_sc g p4 (l3 - f) f (0 : Int32) (1 : Int32) (0 : Int32) (0 : Int32)).2.2.2.1 else (Int32.ofNat (own_sc g p4 (l3 - f) f (0 : Int32) (1 : Int32) (0 : Int32) (0 : Int32)).1)) ∧ sc = (if (1 : Int32) < (own_sc g p4 (l3 - f) f (0 : Int32) (1 : Int32) (0 : Int32) (0 : Int32)).2.1 then (own_sc g p4 (l3 - f) f (0 : Int32) (1 : Int32) (0 : Int32) (0 : Int32)).2.2.2.2 else (Int32.ofNat (own_sc g p4 (l3 - f) f (0 : Int32) (1 : Int32) (0 : Int32) (0 : Int32)).1)) ∧ ac = (own_sc g p4 (l3 - f) f (0 : Int32) (1 : Int32) (0 : Int32) (0 : Int32)).2.2.1
set_option maxRecDepth 65536 in
set_option maxHeartbeats 40000000 in
theorem rm8 (l : Launch) (Z : State) (aZ : Array Value) (hw : ∀ d ∈ tables_1, d.before aZ Z = true) (ws : List Jvm.Cond) (a0 : Addr) (a1 : Addr) (p4 : Int32) (f : Nat) (l3 : Nat) (g : Nat → Int32) (h0 : Heap) (n0 : Nat) (Z0 : n0 ≤ h0.size) (pf0 : Exa Z h0 a0 "com/example/long_walk/longwalk/EdgeListLine") (pf1 : Fld Z h0 a0 "com/example/long_walk/longwalk/EdgeListLine" "sourceStart" "I" (.int (0 : Int32))) (pf2 : Fld Z h0 a0 "com/example/long_walk/longwalk/EdgeListLine" "sourceEnd" "I" (.int (0 : Int32))) (pf3 : Fld Z h0 a0 "com/example/long_walk/longwalk/EdgeListLine" "targetStart" "I" (.int (0 : Int32))) (pf4 : Fld Z h0 a0 "com/example/long_walk/longwalk/EdgeListLine" "targetEnd" "I" (.int (0 : Int32))) (pf5 : Fld Z h0 a0 "com/example/long_walk/longwalk/EdgeListLine" "firstTab" "I" (.int (0 : Int32))) (pf6 : Fld Z h0 a0 "com/example/long_walk/longwalk/EdgeListLine" "secondTab" "I" (.int (0 : Int32))) (pf7 : Fld Z h0 a0 "com/example/long_walk/longwalk/EdgeListLine" "ascii" "Z" (.int (0 : Int32))) (pf8 : own_AI Z h0 a1 .byte 8 g) (g_a0 : n0 ≤ a0) (hl : l3 ≤ 8) (hf : f ≤ 8) (hne : a0 ≠ a1) :
    MetFree l (⟨"com/example/long_walk/longwalk/EdgeListLine", "scan", "([BIIZ)I"⟩ : MethodName) (head1 (Jvm.Cond.code (⟨"com/example/long_walk/longwalk/EdgeListLine", "scan", "([BIIZ)I"⟩ : MethodName) prog_7_method_3_code 9 (some .int) :: ws) ({ frames := 0, cells := 0, slots := 0, locals := 0 } : Room)) (fun a U => a = #[(.ref a0), (.ref a1), (.int (Int32.ofNat f)), (.int (Int32.ofNat l3)), (.int p4)] ∧ Z.Warmed39 U.vm ∧ U.heap = h0) (fun _ _ _ _ _ => True) (fun _ U o U' => ∃ v L, o = .returned v ∧ Q8 Z a0 a1 p4 f l3 g h0 n0 v U'.heap L ∧ FrameEnd U o U' L ({ frames := 0, cells := 0, slots := 0, locals := 0 } : Room).cells ({ frames := 0, cells := 0, slots := 0, locals := 0 } : Room).slots) := by
  refine MetFree.of_bodySF (plainFor_of_name own_pn3) hisR ?_
  intro p e s m args below meth c s₁ Bd hml0 hP hK
  obtain ⟨rfl, hZ, hh⟩ := hP
  have hx := Bd.exec
  have hby := Bd.bytes
  have hml : c.maxLocals = 9 := hml0
  have hown : s.vm.findClass "com/example/long_walk/longwalk/EdgeListLine" = some m.cls := findClass_of_methodNamed Bd.named
  have hnm := (name_of_methodNamed Bd.named Bd.method).1
  have X0 : Stand p l e ({ frames := 0, cells := 0, slots := 0, locals := 0 } : Room) s m #[(.ref a0), (.ref a1), (.int (Int32.ofNat f)), (.int (Int32.ofNat l3)), (.int p4)] below meth c s₁ [] 0 0 := Stand.of_body Bd
  have e0 : s₁.heap = h0 := by rw [← hh, Bd.state]; rfl
  have N0 := Fr.nil n0
  have K0 : Keep h0 h0 [a0] := Keep.refl h0 _
  refine own_go (S' := s₁.setTop (mkF m 0 #[.val (.ref a0), .val (.ref a1), .val (.int (Int32.ofNat f)), .val (.int (Int32.ofNat l3)), .val (.int p4), .unset, .unset, .unset, .unset] [])) (fun tt0 kk0 => castTop (own_ef_rm8 m a0 a1 (Int32.ofNat f) (Int32.ofNat l3) p4) kk0) ?_
  refine own_go (S' := s₁.setTop (mkF m 9 #[.val (.ref a0), .val (.ref a1), .val (.int (Int32.ofNat f)), .val (.int (Int32.ofNat l3)), .val (.int p4), .val (.int (0 : Int32)), .val (.int (1 : Int32)), .val (.int (Int32.ofNat f)), .unset] [])) (fun target kt => ?_) ?_
  · skip
    show Steps p.tables e below (s₁.setTop (mkF m 0 #[.val (.ref a0), .val (.ref a1), .val (.int (Int32.ofNat f)), .val (.int (Int32.ofNat l3)), .val (.int p4), .unset, .unset, .unset, .unset] [])) _
    refine XS.iconst X0.here hx rfl (hb hby d8_0) ?_
    show Steps p.tables e below (s₁.setTop (mkF m 1 #[.val (.ref a0), .val (.ref a1), .val (.int (Int32.ofNat f)), .val (.int (Int32.ofNat l3)), .val (.int p4), .unset, .unset, .unset, .unset] [(.int (0 : Int32))])) _
    refine XS.istore X0.here hx rfl (hb hby d8_1) rfl (l' := #[.val (.ref a0), .val (.ref a1), .val (.int (Int32.ofNat f)), .val (.int (Int32.ofNat l3)), .val (.int p4), .val (.int (0 : Int32)), .unset, .unset, .unset]) rfl ?_
    show Steps p.tables e below (s₁.setTop (mkF m 3 #[.val (.ref a0), .val (.ref a1), .val (.int (Int32.ofNat f)), .val (.int (Int32.ofNat l3)), .val (.int p4), .val (.int (0 : Int32)), .unset, .unset, .unset] [])) _
    refine XS.iconst X0.here hx rfl (hb hby d8_3) ?_
    show Steps p.tables e below (s₁.setTop (mkF m 4 #[.val (.ref a0), .val (.ref a1), .val (.int (Int32.ofNat f)), .val (.int (Int32.ofNat l3)), .val (.int p4), .val (.int (0 : Int32)), .unset, .unset, .unset] [(.int (1 : Int32))])) _
    refine XS.istore X0.here hx rfl (hb hby d8_4) rfl (l' := #[.val (.ref a0), .val (.ref a1), .val (.int (Int32.ofNat f)), .val (.int (Int32.ofNat l3)), .val (.int p4), .val (.int (0 : Int32)), .val (.int (1 : Int32)), .unset, .unset]) rfl ?_
    show Steps p.tables e below (s₁.setTop (mkF m 6 #[.val (.ref a0), .val (.ref a1), .val (.int (Int32.ofNat f)), .val (.int (Int32.ofNat l3)), .val (.int p4), .val (.int (0 : Int32)), .val (.int (1 : Int32)), .unset, .unset] [])) _
    refine XS.iloadN X0.here hx rfl (hb hby d8_6) rfl ?_
    show Steps p.tables e below (s₁.setTop (mkF m 7 #[.val (.ref a0), .val (.ref a1), .val (.int (Int32.ofNat f)), .val (.int (Int32.ofNat l3)), .val (.int p4), .val (.int (0 : Int32)), .val (.int (1 : Int32)), .unset, .unset] [(.int (Int32.ofNat f))])) _
    refine XS.istore X0.here hx rfl (hb hby d8_7) rfl (l' := #[.val (.ref a0), .val (.ref a1), .val (.int (Int32.ofNat f)), .val (.int (Int32.ofNat l3)), .val (.int p4), .val (.int (0 : Int32)), .val (.int (1 : Int32)), .val (.int (Int32.ofNat f)), .unset]) rfl ?_
    exact kt
  have own_loop : ∀ (k : Nat) (i : Nat) (tb : Int32) (sa : Int32) (x1 : Int32) (x2 : Int32) (d : Slot) (T : State) (h : Heap) (locs : List Loc), (hk : k = l3 - i) → (hi8 : i ≤ 8) → (has : sa = 0 ∨ sa = 1) → (h_d : One d) → Stand p l e ({ frames := 0, cells := 0, slots := 0, locals := 0 } : Room) s m #[(.ref a0), (.ref a1), (.int (Int32.ofNat f)), (.int (Int32.ofNat l3)), (.int p4)] below meth c T locs 0 0 → T.heap = h → Fr n0 locs → n0 ≤ h.size → Keep h0 h [a0] → Exa Z h a0 "com/example/long_walk/longwalk/EdgeListLine" → Fld Z h a0 "com/example/long_walk/longwalk/EdgeListLine" "sourceStart" "I" (.int (0 : Int32)) → Fld Z h a0 "com/example/long_walk/longwalk/EdgeListLine" "sourceEnd" "I" (.int (0 : Int32)) → Fld Z h a0 "com/example/long_walk/longwalk/EdgeListLine" "targetStart" "I" (.int (0 : Int32)) → Fld Z h a0 "com/example/long_walk/longwalk/EdgeListLine" "targetEnd" "I" (.int (0 : Int32)) → Fld Z h a0 "com/example/long_walk/longwalk/EdgeListLine" "firstTab" "I" (.int x1) → Fld Z h a0 "com/example/long_walk/longwalk/EdgeListLine" "secondTab" "I" (.int x2) → Fld Z h a0 "com/example/long_walk/longwalk/EdgeListLine" "ascii" "Z" (.int (0 : Int32)) → own_AI Z h a1 .byte 8 g → ∃ s₂ o, Steps p.tables e below (T.setTop (mkF m 9 #[.val (.ref a0), .val (.ref a1), .val (.int (Int32.ofNat f)), .val (.int (Int32.ofNat l3)), .val (.int p4), .val (.int tb), .val (.int sa), .val (.int (Int32.ofNat i)), d] [])) s₂ ∧ s₂.status = .running ∧ Ended s₂ below o ∧ ∃ v LL, o = .returned v ∧ (v = some (.int (Int32.ofNat (own_sc g p4 k i tb sa x1 x2).1)) ∧ Fr n0 LL ∧ Keep h0 s₂.heap [a0] ∧ Exa Z s₂.heap a0 "com/example/long_walk/longwalk/EdgeListLine" ∧ Fld Z s₂.heap a0 "com/example/long_walk/longwalk/EdgeListLine" "sourceStart" "I" (.int (0 : Int32)) ∧ Fld Z s₂.heap a0 "com/example/long_walk/longwalk/EdgeListLine" "sourceEnd" "I" (.int (0 : Int32)) ∧ Fld Z s₂.heap a0 "com/example/long_walk/longwalk/EdgeListLine" "targetStart" "I" (.int (0 : Int32)) ∧ Fld Z s₂.heap a0 "com/example/long_walk/longwalk/EdgeListLine" "targetEnd" "I" (.int (0 : Int32)) ∧ Fld Z s₂.heap a0 "com/example/long_walk/longwalk/EdgeListLine" "firstTab" "I" (.int (if (0 : Int32) < (own_sc g p4 k i tb sa x1 x2).2.1 then (own_sc g p4 k i tb sa x1 x2).2.2.2.1 else (Int32.ofNat (own_sc g p4 k i tb sa x1 x2).1))) ∧ Fld Z s₂.heap a0 "com/example/long_walk/longwalk/EdgeListLine" "secondTab" "I" (.int (if (1 : Int32) < (own_sc g p4 k i tb sa x1 x2).2.1 then (own_sc g p4 k i tb sa x1 x2).2.2.2.2 else (Int32.ofNat (own_sc g p4 k i tb sa x1 x2).1))) ∧ Fld Z s₂.heap a0 "com/example/long_walk/longwalk/EdgeListLine" "ascii" "Z" (.int (own_sc g p4 k i tb sa x1 x2).2.2.1)) ∧ FrameEnd s o s₂ LL ({ frames := 0, cells := 0, slots := 0, locals := 0 } : Room).cells ({ frames := 0, cells := 0, slots := 0, locals := 0 } : Room).slots := by
    intro k
    induction k with
    | zero =>
      intro i tb sa x1 x2 d T h locs hk hi8 has h_d XL eL NL ZL KL fl0 fl1 fl2 fl3 fl4 fl5 fl6 fl7 fl8
      refine own_go (S' := T.setTop (mkF m 101 #[.val (.ref a0), .val (.ref a1), .val (.int (Int32.ofNat f)), .val (.int (Int32.ofNat l3)), .val (.int p4), .val (.int tb), .val (.int sa), .val (.int (Int32.ofNat i)), d] [(.int tb), (.ref a0)])) (fun target kt => ?_) ?_
      · skip
        show Steps p.tables e below (T.setTop (mkF m 9 #[.val (.ref a0), .val (.ref a1), .val (.int (Int32.ofNat f)), .val (.int (Int32.ofNat l3)), .val (.int p4), .val (.int tb), .val (.int sa), .val (.int (Int32.ofNat i)), d] [])) _
        refine XS.iload XL.here hx rfl (hb hby d8_9) rfl ?_
        show Steps p.tables e below (T.setTop (mkF m 11 #[.val (.ref a0), .val (.ref a1), .val (.int (Int32.ofNat f)), .val (.int (Int32.ofNat l3)), .val (.int p4), .val (.int tb), .val (.int sa), .val (.int (Int32.ofNat i)), d] [(.int (Int32.ofNat i))])) _
        refine XS.iloadN XL.here hx rfl (hb hby d8_11) rfl ?_
        show Steps p.tables e below (T.setTop (mkF m 12 #[.val (.ref a0), .val (.ref a1), .val (.int (Int32.ofNat f)), .val (.int (Int32.ofNat l3)), .val (.int p4), .val (.int tb), .val (.int sa), .val (.int (Int32.ofNat i)), d] [(.int (Int32.ofNat l3)), (.int (Int32.ofNat i))])) _
        refine XS.icmpYes XL.here hx rfl (pc0 := 12) (pc' := 98) rfl (hb hby d8_12) rfl (flt (own_nlt (by omega) (by omega) (by omega) : ¬ ((Int32.ofNat i) < (Int32.ofNat l3)))).2.1 (by decide) (by decide) ?_
        show Steps p.tables e below (T.setTop (mkF m 98 #[.val (.ref a0), .val (.ref a1), .val (.int (Int32.ofNat f)), .val (.int (Int32.ofNat l3)), .val (.int p4), .val (.int tb), .val (.int sa), .val (.int (Int32.ofNat i)), d] [])) _
        refine XS.aloadN XL.here hx rfl (hb hby d8_98) rfl rfl ?_
        show Steps p.tables e below (T.setTop (mkF m 99 #[.val (.ref a0), .val (.ref a1), .val (.int (Int32.ofNat f)), .val (.int (Int32.ofNat l3)), .val (.int p4), .val (.int tb), .val (.int sa), .val (.int (Int32.ofNat i)), d] [(.ref a0)])) _
        refine XS.iload XL.here hx rfl (hb hby d8_99) rfl ?_
        exact kt
      by_cases hc101 : (0 : Int32) < tb
      · skip
        refine own_go (S' := T.setTop (mkF m 105 #[.val (.ref a0), .val (.ref a1), .val (.int (Int32.ofNat f)), .val (.int (Int32.ofNat l3)), .val (.int p4), .val (.int tb), .val (.int sa), .val (.int (Int32.ofNat i)), d] [(.ref a0), (.ref a0)])) (fun target kt => ?_) ?_
        · skip
          show Steps p.tables e below (T.setTop (mkF m 101 #[.val (.ref a0), .val (.ref a1), .val (.int (Int32.ofNat f)), .val (.int (Int32.ofNat l3)), .val (.int p4), .val (.int tb), .val (.int sa), .val (.int (Int32.ofNat i)), d] [(.int tb), (.ref a0)])) _
          refine XS.ifNo XL.here hx rfl (hb hby d8_101) rfl ((if0 _ _).trans (tlt hc101).2.2.2) ?_
          show Steps p.tables e below (T.setTop (mkF m 104 #[.val (.ref a0), .val (.ref a1), .val (.int (Int32.ofNat f)), .val (.int (Int32.ofNat l3)), .val (.int p4), .val (.int tb), .val (.int sa), .val (.int (Int32.ofNat i)), d] [(.ref a0)])) _
          refine XS.aloadN XL.here hx rfl (hb hby d8_104) rfl rfl ?_
          exact kt
        obtain ⟨T15, X15, e15, st15⟩ := getF XL hx hZ hown (host := "") (Or.inl (hw _ (List.mem_of_getElem? (i := 33) rfl))) Via.refl eL fl5 (g := (mkF m 105 #[.val (.ref a0), .val (.ref a1), .val (.int (Int32.ofNat f)), .val (.int (Int32.ofNat l3)), .val (.int p4), .val (.int tb), .val (.int sa), .val (.int (Int32.ofNat i)), d] [(.ref a0), (.ref a0)])) rfl rfl (hb hby d8_105)
        refine own_go (S' := T15.setTop (mkF m 108 #[.val (.ref a0), .val (.ref a1), .val (.int (Int32.ofNat f)), .val (.int (Int32.ofNat l3)), .val (.int p4), .val (.int tb), .val (.int sa), .val (.int (Int32.ofNat i)), d] [(.int x1), (.ref a0)])) st15 ?_
        refine own_go (S' := T15.setTop (mkF m 113 #[.val (.ref a0), .val (.ref a1), .val (.int (Int32.ofNat f)), .val (.int (Int32.ofNat l3)), .val (.int p4), .val (.int tb), .val (.int sa), .val (.int (Int32.ofNat i)), d] [(.int x1), (.ref a0)])) (fun target kt => ?_) ?_
        · skip
          show Steps p.tables e below (T15.setTop (mkF m 108 #[.val (.ref a0), .val (.ref a1), .val (.int (Int32.ofNat f)), .val (.int (Int32.ofNat l3)), .val (.int p4), .val (.int tb), .val (.int sa), .val (.int (Int32.ofNat i)), d] [(.int x1), (.ref a0)])) _
          refine XS.goto X15.here hx rfl (pc0 := 108) (pc' := 113) rfl (hb hby d8_108) (by decide) (by decide) ?_
          exact kt
        obtain ⟨T16, h16, X16, e16, W16, st16⟩ := putF X15 hx hZ hown (host := "") (Or.inl (hw _ (List.mem_of_getElem? (i := 33) rfl))) Via.refl e15 fl5 fl0 (Or.inl (hw _ (List.mem_of_getElem? (i := 34) rfl))) (hw _ (List.mem_of_getElem? (i := 20) rfl)) (ty := .int) (by decide) rfl rfl (g := (mkF m 113 #[.val (.ref a0), .val (.ref a1), .val (.int (Int32.ofNat f)), .val (.int (Int32.ofNat l3)), .val (.int p4), .val (.int tb), .val (.int sa), .val (.int (Int32.ofNat i)), d] [(.int x1), (.ref a0)])) rfl rfl (hb hby d8_113)
        have f17 : Exa Z h16 a0 "com/example/long_walk/longwalk/EdgeListLine" := fl0.wr W16
        have f18 : Fld Z h16 a0 "com/example/long_walk/longwalk/EdgeListLine" "sourceStart" "I" (.int (0 : Int32)) := fl1.other W16 (Or.inr (slot_ne (Or.inl (hw _ (List.mem_of_getElem? (i := 55) rfl))) (Or.inl (hw _ (List.mem_of_getElem? (i := 34) rfl))) (by decide) (t := .int) (t' := .int) (by decide) (by decide)))
        have f19 : Fld Z h16 a0 "com/example/long_walk/longwalk/EdgeListLine" "sourceEnd" "I" (.int (0 : Int32)) := fl2.other W16 (Or.inr (slot_ne (Or.inl (hw _ (List.mem_of_getElem? (i := 57) rfl))) (Or.inl (hw _ (List.mem_of_getElem? (i := 34) rfl))) (by decide) (t := .int) (t' := .int) (by decide) (by decide)))
        have f20 : Fld Z h16 a0 "com/example/long_walk/longwalk/EdgeListLine" "targetStart" "I" (.int (0 : Int32)) := fl3.other W16 (Or.inr (slot_ne (Or.inl (hw _ (List.mem_of_getElem? (i := 59) rfl))) (Or.inl (hw _ (List.mem_of_getElem? (i := 34) rfl))) (by decide) (t := .int) (t' := .int) (by decide) (by decide)))
        have f21 : Fld Z h16 a0 "com/example/long_walk/longwalk/EdgeListLine" "targetEnd" "I" (.int (0 : Int32)) := fl4.other W16 (Or.inr (slot_ne (Or.inl (hw _ (List.mem_of_getElem? (i := 61) rfl))) (Or.inl (hw _ (List.mem_of_getElem? (i := 34) rfl))) (by decide) (t := .int) (t' := .int) (by decide) (by decide)))
        have f22 : Fld Z h16 a0 "com/example/long_walk/longwalk/EdgeListLine" "secondTab" "I" (.int x2) := fl6.other W16 (Or.inr (slot_ne (Or.inl (hw _ (List.mem_of_getElem? (i := 36) rfl))) (Or.inl (hw _ (List.mem_of_getElem? (i := 34) rfl))) (by decide) (t := .int) (t' := .int) (by decide) (by decide)))
        have f23 : Fld Z h16 a0 "com/example/long_walk/longwalk/EdgeListLine" "ascii" "Z" (.int (0 : Int32)) := fl7.other W16 (Or.inr (slot_ne (Or.inl (hw _ (List.mem_of_getElem? (i := 38) rfl))) (Or.inl (hw _ (List.mem_of_getElem? (i := 34) rfl))) (by decide) (t := .boolean) (t' := .int) (by decide) (by decide)))
        have f24 : own_AI Z h16 a1 .byte 8 g := fl8.other W16 (Ne.symm hne)
        have f25 : Fld Z h16 a0 "com/example/long_walk/longwalk/EdgeListLine" "firstTab" "I" (.int x1) := fl5.same W16
        have Z16 : n0 ≤ h16.size := Nat.le_trans ZL (Keep.of_wr W16).1
        have K16 : Keep h0 h16 [a0] := KL.wr W16 (Or.inl (List.mem_of_getElem? (i := 0) rfl))
        have N16 := Fr.snoc X16 NL g_a0
        refine own_go (S' := T16.setTop (mkF m 116 #[.val (.ref a0), .val (.ref a1), .val (.int (Int32.ofNat f)), .val (.int (Int32.ofNat l3)), .val (.int p4), .val (.int tb), .val (.int sa), .val (.int (Int32.ofNat i)), d] [])) st16 ?_
        refine own_go (S' := T16.setTop (mkF m 120 #[.val (.ref a0), .val (.ref a1), .val (.int (Int32.ofNat f)), .val (.int (Int32.ofNat l3)), .val (.int p4), .val (.int tb), .val (.int sa), .val (.int (Int32.ofNat i)), d] [(.int (1 : Int32)), (.int tb), (.ref a0)])) (fun target kt => ?_) ?_
        · skip
          show Steps p.tables e below (T16.setTop (mkF m 116 #[.val (.ref a0), .val (.ref a1), .val (.int (Int32.ofNat f)), .val (.int (Int32.ofNat l3)), .val (.int p4), .val (.int tb), .val (.int sa), .val (.int (Int32.ofNat i)), d] [])) _
          refine XS.aloadN X16.here hx rfl (hb hby d8_116) rfl rfl ?_
          show Steps p.tables e below (T16.setTop (mkF m 117 #[.val (.ref a0), .val (.ref a1), .val (.int (Int32.ofNat f)), .val (.int (Int32.ofNat l3)), .val (.int p4), .val (.int tb), .val (.int sa), .val (.int (Int32.ofNat i)), d] [(.ref a0)])) _
          refine XS.iload X16.here hx rfl (hb hby d8_117) rfl ?_
          show Steps p.tables e below (T16.setTop (mkF m 119 #[.val (.ref a0), .val (.ref a1), .val (.int (Int32.ofNat f)), .val (.int (Int32.ofNat l3)), .val (.int p4), .val (.int tb), .val (.int sa), .val (.int (Int32.ofNat i)), d] [(.int tb), (.ref a0)])) _
          refine XS.iconst X16.here hx rfl (hb hby d8_119) ?_
          exact kt
        by_cases hc120 : (1 : Int32) < tb
        · skip
          refine own_go (S' := T16.setTop (mkF m 124 #[.val (.ref a0), .val (.ref a1), .val (.int (Int32.ofNat f)), .val (.int (Int32.ofNat l3)), .val (.int p4), .val (.int tb), .val (.int sa), .val (.int (Int32.ofNat i)), d] [(.ref a0), (.ref a0)])) (fun target kt => ?_) ?_
          · skip
            show Steps p.tables e below (T16.setTop (mkF m 120 #[.val (.ref a0), .val (.ref a1), .val (.int (Int32.ofNat f)), .val (.int (Int32.ofNat l3)), .val (.int p4), .val (.int tb), .val (.int sa), .val (.int (Int32.ofNat i)), d] [(.int (1 : Int32)), (.int tb), (.ref a0)])) _
            refine XS.icmpNo X16.here hx rfl (hb hby d8_120) rfl (tlt hc120).2.2.2 ?_
            show Steps p.tables e below (T16.setTop (mkF m 123 #[.val (.ref a0), .val (.ref a1), .val (.int (Int32.ofNat f)), .val (.int (Int32.ofNat l3)), .val (.int p4), .val (.int tb), .val (.int sa), .val (.int (Int32.ofNat i)), d] [(.ref a0)])) _
            refine XS.aloadN X16.here hx rfl (hb hby d8_123) rfl rfl ?_
            exact kt
          obtain ⟨T26, X26, e26, st26⟩ := getF X16 hx hZ hown (host := "") (Or.inl (hw _ (List.mem_of_getElem? (i := 35) rfl))) Via.refl e16 f22 (g := (mkF m 124 #[.val (.ref a0), .val (.ref a1), .val (.int (Int32.ofNat f)), .val (.int (Int32.ofNat l3)), .val (.int p4), .val (.int tb), .val (.int sa), .val (.int (Int32.ofNat i)), d] [(.ref a0), (.ref a0)])) rfl rfl (hb hby d8_124)
          refine own_go (S' := T26.setTop (mkF m 127 #[.val (.ref a0), .val (.ref a1), .val (.int (Int32.ofNat f)), .val (.int (Int32.ofNat l3)), .val (.int p4), .val (.int tb), .val (.int sa), .val (.int (Int32.ofNat i)), d] [(.int x2), (.ref a0)])) st26 ?_
          refine own_go (S' := T26.setTop (mkF m 132 #[.val (.ref a0), .val (.ref a1), .val (.int (Int32.ofNat f)), .val (.int (Int32.ofNat l3)), .val (.int p4), .val (.int tb), .val (.int sa), .val (.int (Int32.ofNat i)), d] [(.int x2), (.ref a0)])) (fun target kt => ?_) ?_
          · skip
            show Steps p.tables e below (T26.setTop (mkF m 127 #[.val (.ref a0), .val (.ref a1), .val (.int (Int32.ofNat f)), .val (.int (Int32.ofNat l3)), .val (.int p4), .val (.int tb), .val (.int sa), .val (.int (Int32.ofNat i)), d] [(.int x2), (.ref a0)])) _
            refine XS.goto X26.here hx rfl (pc0 := 127) (pc' := 132) rfl (hb hby d8_127) (by decide) (by decide) ?_
            exact kt
          obtain ⟨T27, h27, X27, e27, W27, st27⟩ := putF X26 hx hZ hown (host := "") (Or.inl (hw _ (List.mem_of_getElem? (i := 35) rfl))) Via.refl e26 f22 f17 (Or.inl (hw _ (List.mem_of_getElem? (i := 36) rfl))) (hw _ (List.mem_of_getElem? (i := 20) rfl)) (ty := .int) (by decide) rfl rfl (g := (mkF m 132 #[.val (.ref a0), .val (.ref a1), .val (.int (Int32.ofNat f)), .val (.int (Int32.ofNat l3)), .val (.int p4), .val (.int tb), .val (.int sa), .val (.int (Int32.ofNat i)), d] [(.int x2), (.ref a0)])) rfl rfl (hb hby d8_132)
          have f28 : Exa Z h27 a0 "com/example/long_walk/longwalk/EdgeListLine" := f17.wr W27
          have f29 : Fld Z h27 a0 "com/example/long_walk/longwalk/EdgeListLine" "sourceStart" "I" (.int (0 : Int32)) := f18.other W27 (Or.inr (slot_ne (Or.inl (hw _ (List.mem_of_getElem? (i := 55) rfl))) (Or.inl (hw _ (List.mem_of_getElem? (i := 36) rfl))) (by decide) (t := .int) (t' := .int) (by decide) (by decide)))
          have f30 : Fld Z h27 a0 "com/example/long_walk/longwalk/EdgeListLine" "sourceEnd" "I" (.int (0 : Int32)) := f19.other W27 (Or.inr (slot_ne (Or.inl (hw _ (List.mem_of_getElem? (i := 57) rfl))) (Or.inl (hw _ (List.mem_of_getElem? (i := 36) rfl))) (by decide) (t := .int) (t' := .int) (by decide) (by decide)))
          have f31 : Fld Z h27 a0 "com/example/long_walk/longwalk/EdgeListLine" "targetStart" "I" (.int (0 : Int32)) := f20.other W27 (Or.inr (slot_ne (Or.inl (hw _ (List.mem_of_getElem? (i := 59) rfl))) (Or.inl (hw _ (List.mem_of_getElem? (i := 36) rfl))) (by decide) (t := .int) (t' := .int) (by decide) (by decide)))
          have f32 : Fld Z h27 a0 "com/example/long_walk/longwalk/EdgeListLine" "targetEnd" "I" (.int (0 : Int32)) := f21.other W27 (Or.inr (slot_ne (Or.inl (hw _ (List.mem_of_getElem? (i := 61) rfl))) (Or.inl (hw _ (List.mem_of_getElem? (i := 36) rfl))) (by decide) (t := .int) (t' := .int) (by decide) (by decide)))
          have f33 : Fld Z h27 a0 "com/example/long_walk/longwalk/EdgeListLine" "ascii" "Z" (.int (0 : Int32)) := f23.other W27 (Or.inr (slot_ne (Or.inl (hw _ (List.mem_of_getElem? (i := 38) rfl))) (Or.inl (hw _ (List.mem_of_getElem? (i := 36) rfl))) (by decide) (t := .boolean) (t' := .int) (by decide) (by decide)))
          have f34 : own_AI Z h27 a1 .byte 8 g := f24.other W27 (Ne.symm hne)
          have f35 : Fld Z h27 a0 "com/example/long_walk/longwalk/EdgeListLine" "firstTab" "I" (.int x1) := f25.other W27 (Or.inr (slot_ne (Or.inl (hw _ (List.mem_of_getElem? (i := 34) rfl))) (Or.inl (hw _ (List.mem_of_getElem? (i := 36) rfl))) (by decide) (t := .int) (t' := .int) (by decide) (by decide)))
          have f36 : Fld Z h27 a0 "com/example/long_walk/longwalk/EdgeListLine" "secondTab" "I" (.int x2) := f22.same W27
          have Z27 : n0 ≤ h27.size := Nat.le_trans Z16 (Keep.of_wr W27).1
          have K27 : Keep h0 h27 [a0] := K16.wr W27 (Or.inl (List.mem_of_getElem? (i := 0) rfl))
          have N27 := Fr.snoc X27 N16 g_a0
          refine own_go (S' := T27.setTop (mkF m 135 #[.val (.ref a0), .val (.ref a1), .val (.int (Int32.ofNat f)), .val (.int (Int32.ofNat l3)), .val (.int p4), .val (.int tb), .val (.int sa), .val (.int (Int32.ofNat i)), d] [])) st27 ?_
          refine own_go (S' := T27.setTop (mkF m 138 #[.val (.ref a0), .val (.ref a1), .val (.int (Int32.ofNat f)), .val (.int (Int32.ofNat l3)), .val (.int p4), .val (.int tb), .val (.int sa), .val (.int (Int32.ofNat i)), d] [(.int sa), (.ref a0)])) (fun target kt => ?_) ?_
          · skip
            show Steps p.tables e below (T27.setTop (mkF m 135 #[.val (.ref a0), .val (.ref a1), .val (.int (Int32.ofNat f)), .val (.int (Int32.ofNat l3)), .val (.int p4), .val (.int tb), .val (.int sa), .val (.int (Int32.ofNat i)), d] [])) _
            refine XS.aloadN X27.here hx rfl (hb hby d8_135) rfl rfl ?_
            show Steps p.tables e below (T27.setTop (mkF m 136 #[.val (.ref a0), .val (.ref a1), .val (.int (Int32.ofNat f)), .val (.int (Int32.ofNat l3)), .val (.int p4), .val (.int tb), .val (.int sa), .val (.int (Int32.ofNat i)), d] [(.ref a0)])) _
            refine XS.iload X27.here hx rfl (hb hby d8_136) rfl ?_
            exact kt
          obtain ⟨T37, h37, X37, e37, W37, st37⟩ := putFN X27 hx hZ hown (hw _ (List.mem_of_getElem? (i := 37) rfl)) Via.refl e27 f33 f28 (Or.inl (hw _ (List.mem_of_getElem? (i := 38) rfl))) (hw _ (List.mem_of_getElem? (i := 20) rfl)) (ty := .boolean) (v' := (.int sa)) (by decide) (own_nb1 has) (own_fb1 has) (g := (mkF m 138 #[.val (.ref a0), .val (.ref a1), .val (.int (Int32.ofNat f)), .val (.int (Int32.ofNat l3)), .val (.int p4), .val (.int tb), .val (.int sa), .val (.int (Int32.ofNat i)), d] [(.int sa), (.ref a0)])) rfl rfl (hb hby d8_138)
          have f38 : Exa Z h37 a0 "com/example/long_walk/longwalk/EdgeListLine" := f28.wr W37
          have f39 : Fld Z h37 a0 "com/example/long_walk/longwalk/EdgeListLine" "sourceStart" "I" (.int (0 : Int32)) := f29.other W37 (Or.inr (slot_ne (Or.inl (hw _ (List.mem_of_getElem? (i := 55) rfl))) (Or.inl (hw _ (List.mem_of_getElem? (i := 38) rfl))) (by decide) (t := .int) (t' := .boolean) (by decide) (by decide)))
          have f40 : Fld Z h37 a0 "com/example/long_walk/longwalk/EdgeListLine" "sourceEnd" "I" (.int (0 : Int32)) := f30.other W37 (Or.inr (slot_ne (Or.inl (hw _ (List.mem_of_getElem? (i := 57) rfl))) (Or.inl (hw _ (List.mem_of_getElem? (i := 38) rfl))) (by decide) (t := .int) (t' := .boolean) (by decide) (by decide)))
          have f41 : Fld Z h37 a0 "com/example/long_walk/longwalk/EdgeListLine" "targetStart" "I" (.int (0 : Int32)) := f31.other W37 (Or.inr (slot_ne (Or.inl (hw _ (List.mem_of_getElem? (i := 59) rfl))) (Or.inl (hw _ (List.mem_of_getElem? (i := 38) rfl))) (by decide) (t := .int) (t' := .boolean) (by decide) (by decide)))
          have f42 : Fld Z h37 a0 "com/example/long_walk/longwalk/EdgeListLine" "targetEnd" "I" (.int (0 : Int32)) := f32.other W37 (Or.inr (slot_ne (Or.inl (hw _ (List.mem_of_getElem? (i := 61) rfl))) (Or.inl (hw _ (List.mem_of_getElem? (i := 38) rfl))) (by decide) (t := .int) (t' := .boolean) (by decide) (by decide)))
          have f43 : own_AI Z h37 a1 .byte 8 g := f34.other W37 (Ne.symm hne)
          have f44 : Fld Z h37 a0 "com/example/long_walk/longwalk/EdgeListLine" "firstTab" "I" (.int x1) := f35.other W37 (Or.inr (slot_ne (Or.inl (hw _ (List.mem_of_getElem? (i := 34) rfl))) (Or.inl (hw _ (List.mem_of_getElem? (i := 38) rfl))) (by decide) (t := .int) (t' := .boolean) (by decide) (by decide)))
          have f45 : Fld Z h37 a0 "com/example/long_walk/longwalk/EdgeListLine" "secondTab" "I" (.int x2) := f36.other W37 (Or.inr (slot_ne (Or.inl (hw _ (List.mem_of_getElem? (i := 36) rfl))) (Or.inl (hw _ (List.mem_of_getElem? (i := 38) rfl))) (by decide) (t := .int) (t' := .boolean) (by decide) (by decide)))
          have f46 : Fld Z h37 a0 "com/example/long_walk/longwalk/EdgeListLine" "ascii" "Z" (.int sa) := f33.same W37
          have Z37 : n0 ≤ h37.size := Nat.le_trans Z27 (Keep.of_wr W37).1
          have K37 : Keep h0 h37 [a0] := K27.wr W37 (Or.inl (List.mem_of_getElem? (i := 0) rfl))
          have N37 := Fr.snoc X37 N27 g_a0
          refine own_go (S' := T37.setTop (mkF m 141 #[.val (.ref a0), .val (.ref a1), .val (.int (Int32.ofNat f)), .val (.int (Int32.ofNat l3)), .val (.int p4), .val (.int tb), .val (.int sa), .val (.int (Int32.ofNat i)), d] [])) st37 ?_
          refine own_go (S' := T37.setTop (mkF m 143 #[.val (.ref a0), .val (.ref a1), .val (.int (Int32.ofNat f)), .val (.int (Int32.ofNat l3)), .val (.int p4), .val (.int tb), .val (.int sa), .val (.int (Int32.ofNat i)), d] [(.int (Int32.ofNat i))])) (fun target kt => ?_) ?_
          · skip
            show Steps p.tables e below (T37.setTop (mkF m 141 #[.val (.ref a0), .val (.ref a1), .val (.int (Int32.ofNat f)), .val (.int (Int32.ofNat l3)), .val (.int p4), .val (.int tb), .val (.int sa), .val (.int (Int32.ofNat i)), d] [])) _
            refine XS.iload X37.here hx rfl (hb hby d8_141) rfl ?_
            exact kt
          obtain ⟨fs, hr, hrun, hended, hW, hsame⟩ := X37.leave (v := some (.int (Int32.ofNat i))) (fun h => by rw [Bd.returns] at h; cases h)
          refine ⟨_, _, ?_, hrun, hended, _, _, rfl, ?_, ⟨_, rfl⟩, hW, hsame.mono (by decide) (by decide)⟩
          · exact retI X37 hx Bd.returns (hb hby d8_143) hr
          · skip
            rw [own_sc_zero]
            dsimp only
            rw [if_pos hc101, if_pos hc120]
            rw [show (T37.setFrames fs).heap = h37 from e37]
            exact ⟨rfl, N37, K37, f38, f39, f40, f41, f42, f44, f45, f46⟩
        · skip
          refine own_go (S' := T16.setTop (mkF m 132 #[.val (.ref a0), .val (.ref a1), .val (.int (Int32.ofNat f)), .val (.int (Int32.ofNat l3)), .val (.int p4), .val (.int tb), .val (.int sa), .val (.int (Int32.ofNat i)), d] [(.int (Int32.ofNat i)), (.ref a0)])) (fun target kt => ?_) ?_
          · skip
            show Steps p.tables e below (T16.setTop (mkF m 120 #[.val (.ref a0), .val (.ref a1), .val (.int (Int32.ofNat f)), .val (.int (Int32.ofNat l3)), .val (.int p4), .val (.int tb), .val (.int sa), .val (.int (Int32.ofNat i)), d] [(.int (1 : Int32)), (.int tb), (.ref a0)])) _
            refine XS.icmpYes X16.here hx rfl (pc0 := 120) (pc' := 130) rfl (hb hby d8_120) rfl (flt hc120).2.2.2 (by decide) (by decide) ?_
            show Steps p.tables e below (T16.setTop (mkF m 130 #[.val (.ref a0), .val (.ref a1), .val (.int (Int32.ofNat f)), .val (.int (Int32.ofNat l3)), .val (.int p4), .val (.int tb), .val (.int sa), .val (.int (Int32.ofNat i)), d] [(.ref a0)])) _
            refine XS.iload X16.here hx rfl (hb hby d8_130) rfl ?_
            exact kt
          obtain ⟨T47, h47, X47, e47, W47, st47⟩ := putF X16 hx hZ hown (host := "") (Or.inl (hw _ (List.mem_of_getElem? (i := 35) rfl))) Via.refl e16 f22 f17 (Or.inl (hw _ (List.mem_of_getElem? (i := 36) rfl))) (hw _ (List.mem_of_getElem? (i := 20) rfl)) (ty := .int) (by decide) rfl rfl (g := (mkF m 132 #[.val (.ref a0), .val (.ref a1), .val (.int (Int32.ofNat f)), .val (.int (Int32.ofNat l3)), .val (.int p4), .val (.int tb), .val (.int sa), .val (.int (Int32.ofNat i)), d] [(.int (Int32.ofNat i)), (.ref a0)])) rfl rfl (hb hby d8_132)
          have f48 : Exa Z h47 a0 "com/example/long_walk/longwalk/EdgeListLine" := f17.wr W47
          have f49 : Fld Z h47 a0 "com/example/long_walk/longwalk/EdgeListLine" "sourceStart" "I" (.int (0 : Int32)) := f18.other W47 (Or.inr (slot_ne (Or.inl (hw _ (List.mem_of_getElem? (i := 55) rfl))) (Or.inl (hw _ (List.mem_of_getElem? (i := 36) rfl))) (by decide) (t := .int) (t' := .int) (by decide) (by decide)))
          have f50 : Fld Z h47 a0 "com/example/long_walk/longwalk/EdgeListLine" "sourceEnd" "I" (.int (0 : Int32)) := f19.other W47 (Or.inr (slot_ne (Or.inl (hw _ (List.mem_of_getElem? (i := 57) rfl))) (Or.inl (hw _ (List.mem_of_getElem? (i := 36) rfl))) (by decide) (t := .int) (t' := .int) (by decide) (by decide)))
          have f51 : Fld Z h47 a0 "com/example/long_walk/longwalk/EdgeListLine" "targetStart" "I" (.int (0 : Int32)) := f20.other W47 (Or.inr (slot_ne (Or.inl (hw _ (List.mem_of_getElem? (i := 59) rfl))) (Or.inl (hw _ (List.mem_of_getElem? (i := 36) rfl))) (by decide) (t := .int) (t' := .int) (by decide) (by decide)))
          have f52 : Fld Z h47 a0 "com/example/long_walk/longwalk/EdgeListLine" "targetEnd" "I" (.int (0 : Int32)) := f21.other W47 (Or.inr (slot_ne (Or.inl (hw _ (List.mem_of_getElem? (i := 61) rfl))) (Or.inl (hw _ (List.mem_of_getElem? (i := 36) rfl))) (by decide) (t := .int) (t' := .int) (by decide) (by decide)))
          have f53 : Fld Z h47 a0 "com/example/long_walk/longwalk/EdgeListLine" "ascii" "Z" (.int (0 : Int32)) := f23.other W47 (Or.inr (slot_ne (Or.inl (hw _ (List.mem_of_getElem? (i := 38) rfl))) (Or.inl (hw _ (List.mem_of_getElem? (i := 36) rfl))) (by decide) (t := .boolean) (t' := .int) (by decide) (by decide)))
          have f54 : own_AI Z h47 a1 .byte 8 g := f24.other W47 (Ne.symm hne)
          have f55 : Fld Z h47 a0 "com/example/long_walk/longwalk/EdgeListLine" "firstTab" "I" (.int x1) := f25.other W47 (Or.inr (slot_ne (Or.inl (hw _ (List.mem_of_getElem? (i := 34) rfl))) (Or.inl (hw _ (List.mem_of_getElem? (i := 36) rfl))) (by decide) (t := .int) (t' := .int) (by decide) (by decide)))
          have f56 : Fld Z h47 a0 "com/example/long_walk/longwalk/EdgeListLine" "secondTab" "I" (.int (Int32.ofNat i)) := f22.same W47
          have Z47 : n0 ≤ h47.size := Nat.le_trans Z16 (Keep.of_wr W47).1
          have K47 : Keep h0 h47 [a0] := K16.wr W47 (Or.inl (List.mem_of_getElem? (i := 0) rfl))
          have N47 := Fr.snoc X47 N16 g_a0
          refine own_go (S' := T47.setTop (mkF m 135 #[.val (.ref a0), .val (.ref a1), .val (.int (Int32.ofNat f)), .val (.int (Int32.ofNat l3)), .val (.int p4), .val (.int tb), .val (.int sa), .val (.int (Int32.ofNat i)), d] [])) st47 ?_
          refine own_go (S' := T47.setTop (mkF m 138 #[.val (.ref a0), .val (.ref a1), .val (.int (Int32.ofNat f)), .val (.int (Int32.ofNat l3)), .val (.int p4), .val (.int tb), .val (.int sa), .val (.int (Int32.ofNat i)), d] [(.int sa), (.ref a0)])) (fun target kt => ?_) ?_
          · skip
            show Steps p.tables e below (T47.setTop (mkF m 135 #[.val (.ref a0), .val (.ref a1), .val (.int (Int32.ofNat f)), .val (.int (Int32.ofNat l3)), .val (.int p4), .val (.int tb), .val (.int sa), .val (.int (Int32.ofNat i)), d] [])) _
            refine XS.aloadN X47.here hx rfl (hb hby d8_135) rfl rfl ?_
            show Steps p.tables e below (T47.setTop (mkF m 136 #[.val (.ref a0), .val (.ref a1), .val (.int (Int32.ofNat f)), .val (.int (Int32.ofNat l3)), .val (.int p4), .val (.int tb), .val (.int sa), .val (.int (Int32.ofNat i)), d] [(.ref a0)])) _
            refine XS.iload X47.here hx rfl (hb hby d8_136) rfl ?_
            exact kt
          obtain ⟨T57, h57, X57, e57, W57, st57⟩ := putFN X47 hx hZ hown (hw _ (List.mem_of_getElem? (i := 37) rfl)) Via.refl e47 f53 f48 (Or.inl (hw _ (List.mem_of_getElem? (i := 38) rfl))) (hw _ (List.mem_of_getElem? (i := 20) rfl)) (ty := .boolean) (v' := (.int sa)) (by decide) (own_nb1 has) (own_fb1 has) (g := (mkF m 138 #[.val (.ref a0), .val (.ref a1), .val (.int (Int32.ofNat f)), .val (.int (Int32.ofNat l3)), .val (.int p4), .val (.int tb), .val (.int sa), .val (.int (Int32.ofNat i)), d] [(.int sa), (.ref a0)])) rfl rfl (hb hby d8_138)
          have f58 : Exa Z h57 a0 "com/example/long_walk/longwalk/EdgeListLine" := f48.wr W57
          have f59 : Fld Z h57 a0 "com/example/long_walk/longwalk/EdgeListLine" "sourceStart" "I" (.int (0 : Int32)) := f49.other W57 (Or.inr (slot_ne (Or.inl (hw _ (List.mem_of_getElem? (i := 55) rfl))) (Or.inl (hw _ (List.mem_of_getElem? (i := 38) rfl))) (by decide) (t := .int) (t' := .boolean) (by decide) (by decide)))
          have f60 : Fld Z h57 a0 "com/example/long_walk/longwalk/EdgeListLine" "sourceEnd" "I" (.int (0 : Int32)) := f50.other W57 (Or.inr (slot_ne (Or.inl (hw _ (List.mem_of_getElem? (i := 57) rfl))) (Or.inl (hw _ (List.mem_of_getElem? (i := 38) rfl))) (by decide) (t := .int) (t' := .boolean) (by decide) (by decide)))
          have f61 : Fld Z h57 a0 "com/example/long_walk/longwalk/EdgeListLine" "targetStart" "I" (.int (0 : Int32)) := f51.other W57 (Or.inr (slot_ne (Or.inl (hw _ (List.mem_of_getElem? (i := 59) rfl))) (Or.inl (hw _ (List.mem_of_getElem? (i := 38) rfl))) (by decide) (t := .int) (t' := .boolean) (by decide) (by decide)))
          have f62 : Fld Z h57 a0 "com/example/long_walk/longwalk/EdgeListLine" "targetEnd" "I" (.int (0 : Int32)) := f52.other W57 (Or.inr (slot_ne (Or.inl (hw _ (List.mem_of_getElem? (i := 61) rfl))) (Or.inl (hw _ (List.mem_of_getElem? (i := 38) rfl))) (by decide) (t := .int) (t' := .boolean) (by decide) (by decide)))
          have f63 : own_AI Z h57 a1 .byte 8 g := f54.other W57 (Ne.symm hne)
          have f64 : Fld Z h57 a0 "com/example/long_walk/longwalk/EdgeListLine" "firstTab" "I" (.int x1) := f55.other W57 (Or.inr (slot_ne (Or.inl (hw _ (List.mem_of_getElem? (i := 34) rfl))) (Or.inl (hw _ (List.mem_of_getElem? (i := 38) rfl))) (by decide) (t := .int) (t' := .boolean) (by decide) (by decide)))
          have f65 : Fld Z h57 a0 "com/example/long_walk/longwalk/EdgeListLine" "secondTab" "I" (.int (Int32.ofNat i)) := f56.other W57 (Or.inr (slot_ne (Or.inl (hw _ (List.mem_of_getElem? (i := 36) rfl))) (Or.inl (hw _ (List.mem_of_getElem? (i := 38) rfl))) (by decide) (t := .int) (t' := .boolean) (by decide) (by decide)))
          have f66 : Fld Z h57 a0 "com/example/long_walk/longwalk/EdgeListLine" "ascii" "Z" (.int sa) := f53.same W57
          have Z57 : n0 ≤ h57.size := Nat.le_trans Z47 (Keep.of_wr W57).1
          have K57 : Keep h0 h57 [a0] := K47.wr W57 (Or.inl (List.mem_of_getElem? (i := 0) rfl))
          have N57 := Fr.snoc X57 N47 g_a0
          refine own_go (S' := T57.setTop (mkF m 141 #[.val (.ref a0), .val (.ref a1), .val (.int (Int32.ofNat f)), .val (.int (Int32.ofNat l3)), .val (.int p4), .val (.int tb), .val (.int sa), .val (.int (Int32.ofNat i)), d] [])) st57 ?_
          refine own_go (S' := T57.setTop (mkF m 143 #[.val (.ref a0), .val (.ref a1), .val (.int (Int32.ofNat f)), .val (.int (Int32.ofNat l3)), .val (.int p4), .val (.int tb), .val (.int sa), .val (.int (Int32.ofNat i)), d] [(.int (Int32.ofNat i))])) (fun target kt => ?_) ?_
          · skip
            show Steps p.tables e below (T57.setTop (mkF m 141 #[.val (.ref a0), .val (.ref a1), .val (.int (Int32.ofNat f)), .val (.int (Int32.ofNat l3)), .val (.int p4), .val (.int tb), .val (.int sa), .val (.int (Int32.ofNat i)), d] [])) _
            refine XS.iload X57.here hx rfl (hb hby d8_141) rfl ?_
            exact kt
          obtain ⟨fs, hr, hrun, hended, hW, hsame⟩ := X57.leave (v := some (.int (Int32.ofNat i))) (fun h => by rw [Bd.returns] at h; cases h)
          refine ⟨_, _, ?_, hrun, hended, _, _, rfl, ?_, ⟨_, rfl⟩, hW, hsame.mono (by decide) (by decide)⟩
          · exact retI X57 hx Bd.returns (hb hby d8_143) hr
          · skip
            rw [own_sc_zero]
            dsimp only
            rw [if_pos hc101, if_neg hc120]
            rw [show (T57.setFrames fs).heap = h57 from e57]
            exact ⟨rfl, N57, K57, f58, f59, f60, f61, f62, f64, f65, f66⟩
      · skip
        refine own_go (S' := T.setTop (mkF m 113 #[.val (.ref a0), .val (.ref a1), .val (.int (Int32.ofNat f)), .val (.int (Int32.ofNat l3)), .val (.int p4), .val (.int tb), .val (.int sa), .val (.int (Int32.ofNat i)), d] [(.int (Int32.ofNat i)), (.ref a0)])) (fun target kt => ?_) ?_
        · skip
          show Steps p.tables e below (T.setTop (mkF m 101 #[.val (.ref a0), .val (.ref a1), .val (.int (Int32.ofNat f)), .val (.int (Int32.ofNat l3)), .val (.int p4), .val (.int tb), .val (.int sa), .val (.int (Int32.ofNat i)), d] [(.int tb), (.ref a0)])) _
          refine XS.ifYes XL.here hx rfl (pc0 := 101) (pc' := 111) rfl (hb hby d8_101) rfl ((if0 _ _).trans (flt hc101).2.2.2) (by decide) (by decide) ?_
          show Steps p.tables e below (T.setTop (mkF m 111 #[.val (.ref a0), .val (.ref a1), .val (.int (Int32.ofNat f)), .val (.int (Int32.ofNat l3)), .val (.int p4), .val (.int tb), .val (.int sa), .val (.int (Int32.ofNat i)), d] [(.ref a0)])) _
          refine XS.iload XL.here hx rfl (hb hby d8_111) rfl ?_
          exact kt
        obtain ⟨T67, h67, X67, e67, W67, st67⟩ := putF XL hx hZ hown (host := "") (Or.inl (hw _ (List.mem_of_getElem? (i := 33) rfl))) Via.refl eL fl5 fl0 (Or.inl (hw _ (List.mem_of_getElem? (i := 34) rfl))) (hw _ (List.mem_of_getElem? (i := 20) rfl)) (ty := .int) (by decide) rfl rfl (g := (mkF m 113 #[.val (.ref a0), .val (.ref a1), .val (.int (Int32.ofNat f)), .val (.int (Int32.ofNat l3)), .val (.int p4), .val (.int tb), .val (.int sa), .val (.int (Int32.ofNat i)), d] [(.int (Int32.ofNat i)), (.ref a0)])) rfl rfl (hb hby d8_113)
        have f68 : Exa Z h67 a0 "com/example/long_walk/longwalk/EdgeListLine" := fl0.wr W67
        have f69 : Fld Z h67 a0 "com/example/long_walk/longwalk/EdgeListLine" "sourceStart" "I" (.int (0 : Int32)) := fl1.other W67 (Or.inr (slot_ne (Or.inl (hw _ (List.mem_of_getElem? (i := 55) rfl))) (Or.inl (hw _ (List.mem_of_getElem? (i := 34) rfl))) (by decide) (t := .int) (t' := .int) (by decide) (by decide)))
        have f70 : Fld Z h67 a0 "com/example/long_walk/longwalk/EdgeListLine" "sourceEnd" "I" (.int (0 : Int32)) := fl2.other W67 (Or.inr (slot_ne (Or.inl (hw _ (List.mem_of_getElem? (i := 57) rfl))) (Or.inl (hw _ (List.mem_of_getElem? (i := 34) rfl))) (by decide) (t := .int) (t' := .int) (by decide) (by decide)))
        have f71 : Fld Z h67 a0 "com/example/long_walk/longwalk/EdgeListLine" "targetStart" "I" (.int (0 : Int32)) := fl3.other W67 (Or.inr (slot_ne (Or.inl (hw _ (List.mem_of_getElem? (i := 59) rfl))) (Or.inl (hw _ (List.mem_of_getElem? (i := 34) rfl))) (by decide) (t := .int) (t' := .int) (by decide) (by decide)))
        have f72 : Fld Z h67 a0 "com/example/long_walk/longwalk/EdgeListLine" "targetEnd" "I" (.int (0 : Int32)) := fl4.other W67 (Or.inr (slot_ne (Or.inl (hw _ (List.mem_of_getElem? (i := 61) rfl))) (Or.inl (hw _ (List.mem_of_getElem? (i := 34) rfl))) (by decide) (t := .int) (t' := .int) (by decide) (by decide)))
        have f73 : Fld Z h67 a0 "com/example/long_walk/longwalk/EdgeListLine" "secondTab" "I" (.int x2) := fl6.other W67 (Or.inr (slot_ne (Or.inl (hw _ (List.mem_of_getElem? (i := 36) rfl))) (Or.inl (hw _ (List.mem_of_getElem? (i := 34) rfl))) (by decide) (t := .int) (t' := .int) (by decide) (by decide)))
        have f74 : Fld Z h67 a0 "com/example/long_walk/longwalk/EdgeListLine" "ascii" "Z" (.int (0 : Int32)) := fl7.other W67 (Or.inr (slot_ne (Or.inl (hw _ (List.mem_of_getElem? (i := 38) rfl))) (Or.inl (hw _ (List.mem_of_getElem? (i := 34) rfl))) (by decide) (t := .boolean) (t' := .int) (by decide) (by decide)))
        have f75 : own_AI Z h67 a1 .byte 8 g := fl8.other W67 (Ne.symm hne)
        have f76 : Fld Z h67 a0 "com/example/long_walk/longwalk/EdgeListLine" "firstTab" "I" (.int (Int32.ofNat i)) := fl5.same W67
        have Z67 : n0 ≤ h67.size := Nat.le_trans ZL (Keep.of_wr W67).1
        have K67 : Keep h0 h67 [a0] := KL.wr W67 (Or.inl (List.mem_of_getElem? (i := 0) rfl))
        have N67 := Fr.snoc X67 NL g_a0
        refine own_go (S' := T67.setTop (mkF m 116 #[.val (.ref a0), .val (.ref a1), .val (.int (Int32.ofNat f)), .val (.int (Int32.ofNat l3)), .val (.int p4), .val (.int tb), .val (.int sa), .val (.int (Int32.ofNat i)), d] [])) st67 ?_
        refine own_go (S' := T67.setTop (mkF m 120 #[.val (.ref a0), .val (.ref a1), .val (.int (Int32.ofNat f)), .val (.int (Int32.ofNat l3)), .val (.int p4), .val (.int tb), .val (.int sa), .val (.int (Int32.ofNat i)), d] [(.int (1 : Int32)), (.int tb), (.ref a0)])) (fun target kt => ?_) ?_
        · skip
          show Steps p.tables e below (T67.setTop (mkF m 116 #[.val (.ref a0), .val (.ref a1), .val (.int (Int32.ofNat f)), .val (.int (Int32.ofNat l3)), .val (.int p4), .val (.int tb), .val (.int sa), .val (.int (Int32.ofNat i)), d] [])) _
          refine XS.aloadN X67.here hx rfl (hb hby d8_116) rfl rfl ?_
          show Steps p.tables e below (T67.setTop (mkF m 117 #[.val (.ref a0), .val (.ref a1), .val (.int (Int32.ofNat f)), .val (.int (Int32.ofNat l3)), .val (.int p4), .val (.int tb), .val (.int sa), .val (.int (Int32.ofNat i)), d] [(.ref a0)])) _
          refine XS.iload X67.here hx rfl (hb hby d8_117) rfl ?_
          show Steps p.tables e below (T67.setTop (mkF m 119 #[.val (.ref a0), .val (.ref a1), .val (.int (Int32.ofNat f)), .val (.int (Int32.ofNat l3)), .val (.int p4), .val (.int tb), .val (.int sa), .val (.int (Int32.ofNat i)), d] [(.int tb), (.ref a0)])) _
          refine XS.iconst X67.here hx rfl (hb hby d8_119) ?_
          exact kt
        by_cases hc120 : (1 : Int32) < tb
        · skip
          refine own_go (S' := T67.setTop (mkF m 124 #[.val (.ref a0), .val (.ref a1), .val (.int (Int32.ofNat f)), .val (.int (Int32.ofNat l3)), .val (.int p4), .val (.int tb), .val (.int sa), .val (.int (Int32.ofNat i)), d] [(.ref a0), (.ref a0)])) (fun target kt => ?_) ?_
          · skip
            show Steps p.tables e below (T67.setTop (mkF m 120 #[.val (.ref a0), .val (.ref a1), .val (.int (Int32.ofNat f)), .val (.int (Int32.ofNat l3)), .val (.int p4), .val (.int tb), .val (.int sa), .val (.int (Int32.ofNat i)), d] [(.int (1 : Int32)), (.int tb), (.ref a0)])) _
            refine XS.icmpNo X67.here hx rfl (hb hby d8_120) rfl (tlt hc120).2.2.2 ?_
            show Steps p.tables e below (T67.setTop (mkF m 123 #[.val (.ref a0), .val (.ref a1), .val (.int (Int32.ofNat f)), .val (.int (Int32.ofNat l3)), .val (.int p4), .val (.int tb), .val (.int sa), .val (.int (Int32.ofNat i)), d] [(.ref a0)])) _
            refine XS.aloadN X67.here hx rfl (hb hby d8_123) rfl rfl ?_
            exact kt
          obtain ⟨T77, X77, e77, st77⟩ := getF X67 hx hZ hown (host := "") (Or.inl (hw _ (List.mem_of_getElem? (i := 35) rfl))) Via.refl e67 f73 (g := (mkF m 124 #[.val (.ref a0), .val (.ref a1), .val (.int (Int32.ofNat f)), .val (.int (Int32.ofNat l3)), .val (.int p4), .val (.int tb), .val (.int sa), .val (.int (Int32.ofNat i)), d] [(.ref a0), (.ref a0)])) rfl rfl (hb hby d8_124)
          refine own_go (S' := T77.setTop (mkF m 127 #[.val (.ref a0), .val (.ref a1), .val (.int (Int32.ofNat f)), .val (.int (Int32.ofNat l3)), .val (.int p4), .val (.int tb), .val (.int sa), .val (.int (Int32.ofNat i)), d] [(.int x2), (.ref a0)])) st77 ?_
          refine own_go (S' := T77.setTop (mkF m 132 #[.val (.ref a0), .val (.ref a1), .val (.int (Int32.ofNat f)), .val (.int (Int32.ofNat l3)), .val (.int p4), .val (.int tb), .val (.int sa), .val (.int (Int32.ofNat i)), d] [(.int x2), (.ref a0)])) (fun target kt => ?_) ?_
          · skip
            show Steps p.tables e below (T77.setTop (mkF m 127 #[.val (.ref a0), .val (.ref a1), .val (.int (Int32.ofNat f)), .val (.int (Int32.ofNat l3)), .val (.int p4), .val (.int tb), .val (.int sa), .val (.int (Int32.ofNat i)), d] [(.int x2), (.ref a0)])) _
            refine XS.goto X77.here hx rfl (pc0 := 127) (pc' := 132) rfl (hb hby d8_127) (by decide) (by decide) ?_
            exact kt
          obtain ⟨T78, h78, X78, e78, W78, st78⟩ := putF X77 hx hZ hown (host := "") (Or.inl (hw _ (List.mem_of_getElem? (i := 35) rfl))) Via.refl e77 f73 f68 (Or.inl (hw _ (List.mem_of_getElem? (i := 36) rfl))) (hw _ (List.mem_of_getElem? (i := 20) rfl)) (ty := .int) (by decide) rfl rfl (g := (mkF m 132 #[.val (.ref a0), .val (.ref a1), .val (.int (Int32.ofNat f)), .val (.int (Int32.ofNat l3)), .val (.int p4), .val (.int tb), .val (.int sa), .val (.int (Int32.ofNat i)), d] [(.int x2), (.ref a0)])) rfl rfl (hb hby d8_132)
          have f79 : Exa Z h78 a0 "com/example/long_walk/longwalk/EdgeListLine" := f68.wr W78
          have f80 : Fld Z h78 a0 "com/example/long_walk/longwalk/EdgeListLine" "sourceStart" "I" (.int (0 : Int32)) := f69.other W78 (Or.inr (slot_ne (Or.inl (hw _ (List.mem_of_getElem? (i := 55) rfl))) (Or.inl (hw _ (List.mem_of_getElem? (i := 36) rfl))) (by decide) (t := .int) (t' := .int) (by decide) (by decide)))
          have f81 : Fld Z h78 a0 "com/example/long_walk/longwalk/EdgeListLine" "sourceEnd" "I" (.int (0 : Int32)) := f70.other W78 (Or.inr (slot_ne (Or.inl (hw _ (List.mem_of_getElem? (i := 57) rfl))) (Or.inl (hw _ (List.mem_of_getElem? (i := 36) rfl))) (by decide) (t := .int) (t' := .int) (by decide) (by decide)))
          have f82 : Fld Z h78 a0 "com/example/long_walk/longwalk/EdgeListLine" "targetStart" "I" (.int (0 : Int32)) := f71.other W78 (Or.inr (slot_ne (Or.inl (hw _ (List.mem_of_getElem? (i := 59) rfl))) (Or.inl (hw _ (List.mem_of_getElem? (i := 36) rfl))) (by decide) (t := .int) (t' := .int) (by decide) (by decide)))
          have f83 : Fld Z h78 a0 "com/example/long_walk/longwalk/EdgeListLine" "targetEnd" "I" (.int (0 : Int32)) := f72.other W78 (Or.inr (slot_ne (Or.inl (hw _ (List.mem_of_getElem? (i := 61) rfl))) (Or.inl (hw _ (List.mem_of_getElem? (i := 36) rfl))) (by decide) (t := .int) (t' := .int) (by decide) (by decide)))
          have f84 : Fld Z h78 a0 "com/example/long_walk/longwalk/EdgeListLine" "ascii" "Z" (.int (0 : Int32)) := f74.other W78 (Or.inr (slot_ne (Or.inl (hw _ (List.mem_of_getElem? (i := 38) rfl))) (Or.inl (hw _ (List.mem_of_getElem? (i := 36) rfl))) (by decide) (t := .boolean) (t' := .int) (by decide) (by decide)))
          have f85 : own_AI Z h78 a1 .byte 8 g := f75.other W78 (Ne.symm hne)
          have f86 : Fld Z h78 a0 "com/example/long_walk/longwalk/EdgeListLine" "firstTab" "I" (.int (Int32.ofNat i)) := f76.other W78 (Or.inr (slot_ne (Or.inl (hw _ (List.mem_of_getElem? (i := 34) rfl))) (Or.inl (hw _ (List.mem_of_getElem? (i := 36) rfl))) (by decide) (t := .int) (t' := .int) (by decide) (by decide)))
          have f87 : Fld Z h78 a0 "com/example/long_walk/longwalk/EdgeListLine" "secondTab" "I" (.int x2) := f73.same W78
          have Z78 : n0 ≤ h78.size := Nat.le_trans Z67 (Keep.of_wr W78).1
          have K78 : Keep h0 h78 [a0] := K67.wr W78 (Or.inl (List.mem_of_getElem? (i := 0) rfl))
          have N78 := Fr.snoc X78 N67 g_a0
          refine own_go (S' := T78.setTop (mkF m 135 #[.val (.ref a0), .val (.ref a1), .val (.int (Int32.ofNat f)), .val (.int (Int32.ofNat l3)), .val (.int p4), .val (.int tb), .val (.int sa), .val (.int (Int32.ofNat i)), d] [])) st78 ?_
          refine own_go (S' := T78.setTop (mkF m 138 #[.val (.ref a0), .val (.ref a1), .val (.int (Int32.ofNat f)), .val (.int (Int32.ofNat l3)), .val (.int p4), .val (.int tb), .val (.int sa), .val (.int (Int32.ofNat i)), d] [(.int sa), (.ref a0)])) (fun target kt => ?_) ?_
          · skip
            show Steps p.tables e below (T78.setTop (mkF m 135 #[.val (.ref a0), .val (.ref a1), .val (.int (Int32.ofNat f)), .val (.int (Int32.ofNat l3)), .val (.int p4), .val (.int tb), .val (.int sa), .val (.int (Int32.ofNat i)), d] [])) _
            refine XS.aloadN X78.here hx rfl (hb hby d8_135) rfl rfl ?_
            show Steps p.tables e below (T78.setTop (mkF m 136 #[.val (.ref a0), .val (.ref a1), .val (.int (Int32.ofNat f)), .val (.int (Int32.ofNat l3)), .val (.int p4), .val (.int tb), .val (.int sa), .val (.int (Int32.ofNat i)), d] [(.ref a0)])) _
            refine XS.iload X78.here hx rfl (hb hby d8_136) rfl ?_
            exact kt
          obtain ⟨T88, h88, X88, e88, W88, st88⟩ := putFN X78 hx hZ hown (hw _ (List.mem_of_getElem? (i := 37) rfl)) Via.refl e78 f84 f79 (Or.inl (hw _ (List.mem_of_getElem? (i := 38) rfl))) (hw _ (List.mem_of_getElem? (i := 20) rfl)) (ty := .boolean) (v' := (.int sa)) (by decide) (own_nb1 has) (own_fb1 has) (g := (mkF m 138 #[.val (.ref a0), .val (.ref a1), .val (.int (Int32.ofNat f)), .val (.int (Int32.ofNat l3)), .val (.int p4), .val (.int tb), .val (.int sa), .val (.int (Int32.ofNat i)), d] [(.int sa), (.ref a0)])) rfl rfl (hb hby d8_138)
          have f89 : Exa Z h88 a0 "com/example/long_walk/longwalk/EdgeListLine" := f79.wr W88
          have f90 : Fld Z h88 a0 "com/example/long_walk/longwalk/EdgeListLine" "sourceStart" "I" (.int (0 : Int32)) := f80.other W88 (Or.inr (slot_ne (Or.inl (hw _ (List.mem_of_getElem? (i := 55) rfl))) (Or.inl (hw _ (List.mem_of_getElem? (i := 38) rfl))) (by decide) (t := .int) (t' := .boolean) (by decide) (by decide)))
          have f91 : Fld Z h88 a0 "com/example/long_walk/longwalk/EdgeListLine" "sourceEnd" "I" (.int (0 : Int32)) := f81.other W88 (Or.inr (slot_ne (Or.inl (hw _ (List.mem_of_getElem? (i := 57) rfl))) (Or.inl (hw _ (List.mem_of_getElem? (i := 38) rfl))) (by decide) (t := .int) (t' := .boolean) (by decide) (by decide)))
          have f92 : Fld Z h88 a0 "com/example/long_walk/longwalk/EdgeListLine" "targetStart" "I" (.int (0 : Int32)) := f82.other W88 (Or.inr (slot_ne (Or.inl (hw _ (List.mem_of_getElem? (i := 59) rfl))) (Or.inl (hw _ (List.mem_of_getElem? (i := 38) rfl))) (by decide) (t := .int) (t' := .boolean) (by decide) (by decide)))
          have f93 : Fld Z h88 a0 "com/example/long_walk/longwalk/EdgeListLine" "targetEnd" "I" (.int (0 : Int32)) := f83.other W88 (Or.inr (slot_ne (Or.inl (hw _ (List.mem_of_getElem? (i := 61) rfl))) (Or.inl (hw _ (List.mem_of_getElem? (i := 38) rfl))) (by decide) (t := .int) (t' := .boolean) (by decide) (by decide)))
          have f94 : own_AI Z h88 a1 .byte 8 g := f85.other W88 (Ne.symm hne)
          have f95 : Fld Z h88 a0 "com/example/long_walk/longwalk/EdgeListLine" "firstTab" "I" (.int (Int32.ofNat i)) := f86.other W88 (Or.inr (slot_ne (Or.inl (hw _ (List.mem_of_getElem? (i := 34) rfl))) (Or.inl (hw _ (List.mem_of_getElem? (i := 38) rfl))) (by decide) (t := .int) (t' := .boolean) (by decide) (by decide)))
          have f96 : Fld Z h88 a0 "com/example/long_walk/longwalk/EdgeListLine" "secondTab" "I" (.int x2) := f87.other W88 (Or.inr (slot_ne (Or.inl (hw _ (List.mem_of_getElem? (i := 36) rfl))) (Or.inl (hw _ (List.mem_of_getElem? (i := 38) rfl))) (by decide) (t := .int) (t' := .boolean) (by decide) (by decide)))
          have f97 : Fld Z h88 a0 "com/example/long_walk/longwalk/EdgeListLine" "ascii" "Z" (.int sa) := f84.same W88
          have Z88 : n0 ≤ h88.size := Nat.le_trans Z78 (Keep.of_wr W88).1
          have K88 : Keep h0 h88 [a0] := K78.wr W88 (Or.inl (List.mem_of_getElem? (i := 0) rfl))
          have N88 := Fr.snoc X88 N78 g_a0
          refine own_go (S' := T88.setTop (mkF m 141 #[.val (.ref a0), .val (.ref a1), .val (.int (Int32.ofNat f)), .val (.int (Int32.ofNat l3)), .val (.int p4), .val (.int tb), .val (.int sa), .val (.int (Int32.ofNat i)), d] [])) st88 ?_
          refine own_go (S' := T88.setTop (mkF m 143 #[.val (.ref a0), .val (.ref a1), .val (.int (Int32.ofNat f)), .val (.int (Int32.ofNat l3)), .val (.int p4), .val (.int tb), .val (.int sa), .val (.int (Int32.ofNat i)), d] [(.int (Int32.ofNat i))])) (fun target kt => ?_) ?_
          · skip
            show Steps p.tables e below (T88.setTop (mkF m 141 #[.val (.ref a0), .val (.ref a1), .val (.int (Int32.ofNat f)), .val (.int (Int32.ofNat l3)), .val (.int p4), .val (.int tb), .val (.int sa), .val (.int (Int32.ofNat i)), d] [])) _
            refine XS.iload X88.here hx rfl (hb hby d8_141) rfl ?_
            exact kt
          obtain ⟨fs, hr, hrun, hended, hW, hsame⟩ := X88.leave (v := some (.int (Int32.ofNat i))) (fun h => by rw [Bd.returns] at h; cases h)
          refine ⟨_, _, ?_, hrun, hended, _, _, rfl, ?_, ⟨_, rfl⟩, hW, hsame.mono (by decide) (by decide)⟩
          · exact retI X88 hx Bd.returns (hb hby d8_143) hr
          · skip
            rw [own_sc_zero]
            dsimp only
            rw [if_neg hc101, if_pos hc120]
            rw [show (T88.setFrames fs).heap = h88 from e88]
            exact ⟨rfl, N88, K88, f89, f90, f91, f92, f93, f95, f96, f97⟩
        · skip
          refine own_go (S' := T67.setTop (mkF m 132 #[.val (.ref a0), .val (.ref a1), .val (.int (Int32.ofNat f)), .val (.int (Int32.ofNat l3)), .val (.int p4), .val (.int tb), .val (.int sa), .val (.int (Int32.ofNat i)), d] [(.int (Int32.ofNat i)), (.ref a0)])) (fun target kt => ?_) ?_
          · skip
            show Steps p.tables e below (T67.setTop (mkF m 120 #[.val (.ref a0), .val (.ref a1), .val (.int (Int32.ofNat f)), .val (.int (Int32.ofNat l3)), .val (.int p4), .val (.int tb), .val (.int sa), .val (.int (Int32.ofNat i)), d] [(.int (1 : Int32)), (.int tb), (.ref a0)])) _
            refine XS.icmpYes X67.here hx rfl (pc0 := 120) (pc' := 130) rfl (hb hby d8_120) rfl (flt hc120).2.2.2 (by decide) (by decide) ?_
            show Steps p.tables e below (T67.setTop (mkF m 130 #[.val (.ref a0), .val (.ref a1), .val (.int (Int32.ofNat f)), .val (.int (Int32.ofNat l3)), .val (.int p4), .val (.int tb), .val (.int sa), .val (.int (Int32.ofNat i)), d] [(.ref a0)])) _
            refine XS.iload X67.here hx rfl (hb hby d8_130) rfl ?_
            exact kt
          obtain ⟨T98, h98, X98, e98, W98, st98⟩ := putF X67 hx hZ hown (host := "") (Or.inl (hw _ (List.mem_of_getElem? (i := 35) rfl))) Via.refl e67 f73 f68 (Or.inl (hw _ (List.mem_of_getElem? (i := 36) rfl))) (hw _ (List.mem_of_getElem? (i := 20) rfl)) (ty := .int) (by decide) rfl rfl (g := (mkF m 132 #[.val (.ref a0), .val (.ref a1), .val (.int (Int32.ofNat f)), .val (.int (Int32.ofNat l3)), .val (.int p4), .val (.int tb), .val (.int sa), .val (.int (Int32.ofNat i)), d] [(.int (Int32.ofNat i)), (.ref a0)])) rfl rfl (hb hby d8_132)
          have f99 : Exa Z h98 a0 "com/example/long_walk/longwalk/EdgeListLine" := f68.wr W98
          have f100 : Fld Z h98 a0 "com/example/long_walk/longwalk/EdgeListLine" "sourceStart" "I" (.int (0 : Int32)) := f69.other W98 (Or.inr (slot_ne (Or.inl (hw _ (List.mem_of_getElem? (i := 55) rfl))) (Or.inl (hw _ (List.mem_of_getElem? (i := 36) rfl))) (by decide) (t := .int) (t' := .int) (by decide) (by decide)))
          have f101 : Fld Z h98 a0 "com/example/long_walk/longwalk/EdgeListLine" "sourceEnd" "I" (.int (0 : Int32)) := f70.other W98 (Or.inr (slot_ne (Or.inl (hw _ (List.mem_of_getElem? (i := 57) rfl))) (Or.inl (hw _ (List.mem_of_getElem? (i := 36) rfl))) (by decide) (t := .int) (t' := .int) (by decide) (by decide)))
          have f102 : Fld Z h98 a0 "com/example/long_walk/longwalk/EdgeListLine" "targetStart" "I" (.int (0 : Int32)) := f71.other W98 (Or.inr (slot_ne (Or.inl (hw _ (List.mem_of_getElem? (i := 59) rfl))) (Or.inl (hw _ (List.mem_of_getElem? (i := 36) rfl))) (by decide) (t := .int) (t' := .int) (by decide) (by decide)))
          have f103 : Fld Z h98 a0 "com/example/long_walk/longwalk/EdgeListLine" "targetEnd" "I" (.int (0 : Int32)) := f72.other W98 (Or.inr (slot_ne (Or.inl (hw _ (List.mem_of_getElem? (i := 61) rfl))) (Or.inl (hw _ (List.mem_of_getElem? (i := 36) rfl))) (by decide) (t := .int) (t' := .int) (by decide) (by decide)))
          have f104 : Fld Z h98 a0 "com/example/long_walk/longwalk/EdgeListLine" "ascii" "Z" (.int (0 : Int32)) := f74.other W98 (Or.inr (slot_ne (Or.inl (hw _ (List.mem_of_getElem? (i := 38) rfl))) (Or.inl (hw _ (List.mem_of_getElem? (i := 36) rfl))) (by decide) (t := .boolean) (t' := .int) (by decide) (by decide)))
          have f105 : own_AI Z h98 a1 .byte 8 g := f75.other W98 (Ne.symm hne)
          have f106 : Fld Z h98 a0 "com/example/long_walk/longwalk/EdgeListLine" "firstTab" "I" (.int (Int32.ofNat i)) := f76.other W98 (Or.inr (slot_ne (Or.inl (hw _ (List.mem_of_getElem? (i := 34) rfl))) (Or.inl (hw _ (List.mem_of_getElem? (i := 36) rfl))) (by decide) (t := .int) (t' := .int) (by decide) (by decide)))
          have f107 : Fld Z h98 a0 "com/example/long_walk/longwalk/EdgeListLine" "secondTab" "I" (.int (Int32.ofNat i)) := f73.same W98
          have Z98 : n0 ≤ h98.size := Nat.le_trans Z67 (Keep.of_wr W98).1
          have K98 : Keep h0 h98 [a0] := K67.wr W98 (Or.inl (List.mem_of_getElem? (i := 0) rfl))
          have N98 := Fr.snoc X98 N67 g_a0
          refine own_go (S' := T98.setTop (mkF m 135 #[.val (.ref a0), .val (.ref a1), .val (.int (Int32.ofNat f)), .val (.int (Int32.ofNat l3)), .val (.int p4), .val (.int tb), .val (.int sa), .val (.int (Int32.ofNat i)), d] [])) st98 ?_
          refine own_go (S' := T98.setTop (mkF m 138 #[.val (.ref a0), .val (.ref a1), .val (.int (Int32.ofNat f)), .val (.int (Int32.ofNat l3)), .val (.int p4), .val (.int tb), .val (.int sa), .val (.int (Int32.ofNat i)), d] [(.int sa), (.ref a0)])) (fun target kt => ?_) ?_
          · skip
            show Steps p.tables e below (T98.setTop (mkF m 135 #[.val (.ref a0), .val (.ref a1), .val (.int (Int32.ofNat f)), .val (.int (Int32.ofNat l3)), .val (.int p4), .val (.int tb), .val (.int sa), .val (.int (Int32.ofNat i)), d] [])) _
            refine XS.aloadN X98.here hx rfl (hb hby d8_135) rfl rfl ?_
            show Steps p.tables e below (T98.setTop (mkF m 136 #[.val (.ref a0), .val (.ref a1), .val (.int (Int32.ofNat f)), .val (.int (Int32.ofNat l3)), .val (.int p4), .val (.int tb), .val (.int sa), .val (.int (Int32.ofNat i)), d] [(.ref a0)])) _
            refine XS.iload X98.here hx rfl (hb hby d8_136) rfl ?_
            exact kt
          obtain ⟨T108, h108, X108, e108, W108, st108⟩ := putFN X98 hx hZ hown (hw _ (List.mem_of_getElem? (i := 37) rfl)) Via.refl e98 f104 f99 (Or.inl (hw _ (List.mem_of_getElem? (i := 38) rfl))) (hw _ (List.mem_of_getElem? (i := 20) rfl)) (ty := .boolean) (v' := (.int sa)) (by decide) (own_nb1 has) (own_fb1 has) (g := (mkF m 138 #[.val (.ref a0), .val (.ref a1), .val (.int (Int32.ofNat f)), .val (.int (Int32.ofNat l3)), .val (.int p4), .val (.int tb), .val (.int sa), .val (.int (Int32.ofNat i)), d] [(.int sa), (.ref a0)])) rfl rfl (hb hby d8_138)
          have f109 : Exa Z h108 a0 "com/example/long_walk/longwalk/EdgeListLine" := f99.wr W108
          have f110 : Fld Z h108 a0 "com/example/long_walk/longwalk/EdgeListLine" "sourceStart" "I" (.int (0 : Int32)) := f100.other W108 (Or.inr (slot_ne (Or.inl (hw _ (List.mem_of_getElem? (i := 55) rfl))) (Or.inl (hw _ (List.mem_of_getElem? (i := 38) rfl))) (by decide) (t := .int) (t' := .boolean) (by decide) (by decide)))
          have f111 : Fld Z h108 a0 "com/example/long_walk/longwalk/EdgeListLine" "sourceEnd" "I" (.int (0 : Int32)) := f101.other W108 (Or.inr (slot_ne (Or.inl (hw _ (List.mem_of_getElem? (i := 57) rfl))) (Or.inl (hw _ (List.mem_of_getElem? (i := 38) rfl))) (by decide) (t := .int) (t' := .boolean) (by decide) (by decide)))
          have f112 : Fld Z h108 a0 "com/example/long_walk/longwalk/EdgeListLine" "targetStart" "I" (.int (0 : Int32)) := f102.other W108 (Or.inr (slot_ne (Or.inl (hw _ (List.mem_of_getElem? (i := 59) rfl))) (Or.inl (hw _ (List.mem_of_getElem? (i := 38) rfl))) (by decide) (t := .int) (t' := .boolean) (by decide) (by decide)))
          have f113 : Fld Z h108 a0 "com/example/long_walk/longwalk/EdgeListLine" "targetEnd" "I" (.int (0 : Int32)) := f103.other W108 (Or.inr (slot_ne (Or.inl (hw _ (List.mem_of_getElem? (i := 61) rfl))) (Or.inl (hw _ (List.mem_of_getElem? (i := 38) rfl))) (by decide) (t := .int) (t' := .boolean) (by decide) (by decide)))
          have f114 : own_AI Z h108 a1 .byte 8 g := f105.other W108 (Ne.symm hne)
          have f115 : Fld Z h108 a0 "com/example/long_walk/longwalk/EdgeListLine" "firstTab" "I" (.int (Int32.ofNat i)) := f106.other W108 (Or.inr (slot_ne (Or.inl (hw _ (List.mem_of_getElem? (i := 34) rfl))) (Or.inl (hw _ (List.mem_of_getElem? (i := 38) rfl))) (by decide) (t := .int) (t' := .boolean) (by decide) (by decide)))
          have f116 : Fld Z h108 a0 "com/example/long_walk/longwalk/EdgeListLine" "secondTab" "I" (.int (Int32.ofNat i)) := f107.other W108 (Or.inr (slot_ne (Or.inl (hw _ (List.mem_of_getElem? (i := 36) rfl))) (Or.inl (hw _ (List.mem_of_getElem? (i := 38) rfl))) (by decide) (t := .int) (t' := .boolean) (by decide) (by decide)))
          have f117 : Fld Z h108 a0 "com/example/long_walk/longwalk/EdgeListLine" "ascii" "Z" (.int sa) := f104.same W108
          have Z108 : n0 ≤ h108.size := Nat.le_trans Z98 (Keep.of_wr W108).1
          have K108 : Keep h0 h108 [a0] := K98.wr W108 (Or.inl (List.mem_of_getElem? (i := 0) rfl))
          have N108 := Fr.snoc X108 N98 g_a0
          refine own_go (S' := T108.setTop (mkF m 141 #[.val (.ref a0), .val (.ref a1), .val (.int (Int32.ofNat f)), .val (.int (Int32.ofNat l3)), .val (.int p4), .val (.int tb), .val (.int sa), .val (.int (Int32.ofNat i)), d] [])) st108 ?_
          refine own_go (S' := T108.setTop (mkF m 143 #[.val (.ref a0), .val (.ref a1), .val (.int (Int32.ofNat f)), .val (.int (Int32.ofNat l3)), .val (.int p4), .val (.int tb), .val (.int sa), .val (.int (Int32.ofNat i)), d] [(.int (Int32.ofNat i))])) (fun target kt => ?_) ?_
          · skip
            show Steps p.tables e below (T108.setTop (mkF m 141 #[.val (.ref a0), .val (.ref a1), .val (.int (Int32.ofNat f)), .val (.int (Int32.ofNat l3)), .val (.int p4), .val (.int tb), .val (.int sa), .val (.int (Int32.ofNat i)), d] [])) _
            refine XS.iload X108.here hx rfl (hb hby d8_141) rfl ?_
            exact kt
          obtain ⟨fs, hr, hrun, hended, hW, hsame⟩ := X108.leave (v := some (.int (Int32.ofNat i))) (fun h => by rw [Bd.returns] at h; cases h)
          refine ⟨_, _, ?_, hrun, hended, _, _, rfl, ?_, ⟨_, rfl⟩, hW, hsame.mono (by decide) (by decide)⟩
          · exact retI X108 hx Bd.returns (hb hby d8_143) hr
          · skip
            rw [own_sc_zero]
            dsimp only
            rw [if_neg hc101, if_neg hc120]
            rw [show (T108.setFrames fs).heap = h108 from e108]
            exact ⟨rfl, N108, K108, f109, f110, f111, f112, f113, f115, f116, f117⟩
    | succ k ih =>
      intro i tb sa x1 x2 d T h locs hk hi8 has h_d XL eL NL ZL KL fl0 fl1 fl2 fl3 fl4 fl5 fl6 fl7 fl8
      refine own_go (S' := T.setTop (mkF m 17 #[.val (.ref a0), .val (.ref a1), .val (.int (Int32.ofNat f)), .val (.int (Int32.ofNat l3)), .val (.int p4), .val (.int tb), .val (.int sa), .val (.int (Int32.ofNat i)), d] [(.int p4)])) (fun target kt => ?_) ?_
      · skip
        show Steps p.tables e below (T.setTop (mkF m 9 #[.val (.ref a0), .val (.ref a1), .val (.int (Int32.ofNat f)), .val (.int (Int32.ofNat l3)), .val (.int p4), .val (.int tb), .val (.int sa), .val (.int (Int32.ofNat i)), d] [])) _
        refine XS.iload XL.here hx rfl (hb hby d8_9) rfl ?_
        show Steps p.tables e below (T.setTop (mkF m 11 #[.val (.ref a0), .val (.ref a1), .val (.int (Int32.ofNat f)), .val (.int (Int32.ofNat l3)), .val (.int p4), .val (.int tb), .val (.int sa), .val (.int (Int32.ofNat i)), d] [(.int (Int32.ofNat i))])) _
        refine XS.iloadN XL.here hx rfl (hb hby d8_11) rfl ?_
        show Steps p.tables e below (T.setTop (mkF m 12 #[.val (.ref a0), .val (.ref a1), .val (.int (Int32.ofNat f)), .val (.int (Int32.ofNat l3)), .val (.int p4), .val (.int tb), .val (.int sa), .val (.int (Int32.ofNat i)), d] [(.int (Int32.ofNat l3)), (.int (Int32.ofNat i))])) _
        refine XS.icmpNo XL.here hx rfl (hb hby d8_12) rfl (tlt (own_lt (by omega) (by omega) : (Int32.ofNat i) < (Int32.ofNat l3))).2.1 ?_
        show Steps p.tables e below (T.setTop (mkF m 15 #[.val (.ref a0), .val (.ref a1), .val (.int (Int32.ofNat f)), .val (.int (Int32.ofNat l3)), .val (.int p4), .val (.int tb), .val (.int sa), .val (.int (Int32.ofNat i)), d] [])) _
        refine XS.iload XL.here hx rfl (hb hby d8_15) rfl ?_
        exact kt
      by_cases hc17 : p4 = (0 : Int32)
      · skip
        refine own_go (S' := T.setTop (mkF m 32 #[.val (.ref a0), .val (.ref a1), .val (.int (Int32.ofNat f)), .val (.int (Int32.ofNat l3)), .val (.int p4), .val (.int tb), .val (.int sa), .val (.int (Int32.ofNat i)), d] [(.int (Int32.ofNat i)), (.ref a1)])) (fun target kt => ?_) ?_
        · skip
          show Steps p.tables e below (T.setTop (mkF m 17 #[.val (.ref a0), .val (.ref a1), .val (.int (Int32.ofNat f)), .val (.int (Int32.ofNat l3)), .val (.int p4), .val (.int tb), .val (.int sa), .val (.int (Int32.ofNat i)), d] [(.int p4)])) _
          refine XS.ifYes XL.here hx rfl (pc0 := 17) (pc' := 29) rfl (hb hby d8_17) rfl ((if0 _ _).trans (teq hc17).1) (by decide) (by decide) ?_
          show Steps p.tables e below (T.setTop (mkF m 29 #[.val (.ref a0), .val (.ref a1), .val (.int (Int32.ofNat f)), .val (.int (Int32.ofNat l3)), .val (.int p4), .val (.int tb), .val (.int sa), .val (.int (Int32.ofNat i)), d] [])) _
          refine XS.aloadN XL.here hx rfl (hb hby d8_29) rfl rfl ?_
          show Steps p.tables e below (T.setTop (mkF m 30 #[.val (.ref a0), .val (.ref a1), .val (.int (Int32.ofNat f)), .val (.int (Int32.ofNat l3)), .val (.int p4), .val (.int tb), .val (.int sa), .val (.int (Int32.ofNat i)), d] [(.ref a1)])) _
          refine XS.iload XL.here hx rfl (hb hby d8_30) rfl ?_
          exact kt
        obtain ⟨c118, Ar118, S118, M118, H118⟩ := id fl8
        have hj118 : ¬ (Int32.ofNat i) < 0 ∧ ((Int32.ofNat i)).toNatClampNeg < 8 := (own_inb (by omega))
        have st118 : ∀ target, Steps p.tables e below (T.setTop (mkF m 33 #[.val (.ref a0), .val (.ref a1), .val (.int (Int32.ofNat f)), .val (.int (Int32.ofNat l3)), .val (.int p4), .val (.int tb), .val (.int sa), .val (.int (Int32.ofNat i)), d] [(.int (g ((Int32.ofNat i)).toNatClampNeg))])) target → Steps p.tables e below (T.setTop (mkF m 32 #[.val (.ref a0), .val (.ref a1), .val (.int (Int32.ofNat f)), .val (.int (Int32.ofNat l3)), .val (.int p4), .val (.int tb), .val (.int sa), .val (.int (Int32.ofNat i)), d] [(.int (Int32.ofNat i)), (.ref a1)])) target := fun target kt => XL.baloadBytes hx (j := (Int32.ofNat i)) (v := (.int (g ((Int32.ofNat i)).toNatClampNeg))) (by rw [eL]; exact Ar118.1) (State.isArrayOf_alike hZ.alike Ar118.2.1) Ar118.2.2 (own_in S118 hj118) (H118 _ hj118.2) (g := (mkF m 32 #[.val (.ref a0), .val (.ref a1), .val (.int (Int32.ofNat f)), .val (.int (Int32.ofNat l3)), .val (.int p4), .val (.int tb), .val (.int sa), .val (.int (Int32.ofNat i)), d] [(.int (Int32.ofNat i)), (.ref a1)])) rfl rfl (hb hby d8_32) _ kt
        refine own_go (S' := T.setTop (mkF m 33 #[.val (.ref a0), .val (.ref a1), .val (.int (Int32.ofNat f)), .val (.int (Int32.ofNat l3)), .val (.int p4), .val (.int tb), .val (.int sa), .val (.int (Int32.ofNat i)), d] [(.int (g ((Int32.ofNat i)).toNatClampNeg))])) st118 ?_
        rw [show (g ((Int32.ofNat i)).toNatClampNeg) = (g i) from congrArg g (own_clamp (by omega))]
        obtain ⟨bb, h_bb⟩ : ∃ z : Int32, z = (g i) := ⟨_, rfl⟩
        refine own_go (S' := T.setTop (mkF m 35 #[.val (.ref a0), .val (.ref a1), .val (.int (Int32.ofNat f)), .val (.int (Int32.ofNat l3)), .val (.int p4), .val (.int tb), .val (.int sa), .val (.int (Int32.ofNat i)), .val (.int bb)] [])) (fun target kt => ?_) ?_
        · subst h_bb
          show Steps p.tables e below (T.setTop (mkF m 33 #[.val (.ref a0), .val (.ref a1), .val (.int (Int32.ofNat f)), .val (.int (Int32.ofNat l3)), .val (.int p4), .val (.int tb), .val (.int sa), .val (.int (Int32.ofNat i)), d] [(.int (g i))])) _
          refine XS.istore XL.here hx rfl (hb hby d8_33) rfl (l' := #[.val (.ref a0), .val (.ref a1), .val (.int (Int32.ofNat f)), .val (.int (Int32.ofNat l3)), .val (.int p4), .val (.int tb), .val (.int sa), .val (.int (Int32.ofNat i)), .val (.int (g i))]) (by rcases h_d with rfl | ⟨w, rfl, hw⟩ <;> first | rfl | (cases w <;> first | rfl | (simp [Value.category] at hw))) ?_
          exact kt
        refine own_go (S' := T.setTop (mkF m 39 #[.val (.ref a0), .val (.ref a1), .val (.int (Int32.ofNat f)), .val (.int (Int32.ofNat l3)), .val (.int p4), .val (.int tb), .val (.int sa), .val (.int (Int32.ofNat i)), .val (.int bb)] [(.int (9 : Int32)), (.int bb)])) (fun target kt => ?_) ?_
        · skip
          show Steps p.tables e below (T.setTop (mkF m 35 #[.val (.ref a0), .val (.ref a1), .val (.int (Int32.ofNat f)), .val (.int (Int32.ofNat l3)), .val (.int p4), .val (.int tb), .val (.int sa), .val (.int (Int32.ofNat i)), .val (.int bb)] [])) _
          refine XS.iload XL.here hx rfl (hb hby d8_35) rfl ?_
          show Steps p.tables e below (T.setTop (mkF m 37 #[.val (.ref a0), .val (.ref a1), .val (.int (Int32.ofNat f)), .val (.int (Int32.ofNat l3)), .val (.int p4), .val (.int tb), .val (.int sa), .val (.int (Int32.ofNat i)), .val (.int bb)] [(.int bb)])) _
          refine XS.bipush XL.here hx rfl (hb hby d8_37) ?_
          exact kt
        by_cases hc39 : bb = (9 : Int32)
        · skip
          refine own_go (S' := T.setTop (mkF m 44 #[.val (.ref a0), .val (.ref a1), .val (.int (Int32.ofNat f)), .val (.int (Int32.ofNat l3)), .val (.int p4), .val (.int tb), .val (.int sa), .val (.int (Int32.ofNat i)), .val (.int bb)] [(.int tb)])) (fun target kt => ?_) ?_
          · skip
            show Steps p.tables e below (T.setTop (mkF m 39 #[.val (.ref a0), .val (.ref a1), .val (.int (Int32.ofNat f)), .val (.int (Int32.ofNat l3)), .val (.int p4), .val (.int tb), .val (.int sa), .val (.int (Int32.ofNat i)), .val (.int bb)] [(.int (9 : Int32)), (.int bb)])) _
            refine XS.icmpNo XL.here hx rfl (hb hby d8_39) rfl (teq hc39).2 ?_
            show Steps p.tables e below (T.setTop (mkF m 42 #[.val (.ref a0), .val (.ref a1), .val (.int (Int32.ofNat f)), .val (.int (Int32.ofNat l3)), .val (.int p4), .val (.int tb), .val (.int sa), .val (.int (Int32.ofNat i)), .val (.int bb)] [])) _
            refine XS.iload XL.here hx rfl (hb hby d8_42) rfl ?_
            exact kt
          by_cases hc44 : tb = (0 : Int32)
          · skip
            refine own_go (S' := T.setTop (mkF m 50 #[.val (.ref a0), .val (.ref a1), .val (.int (Int32.ofNat f)), .val (.int (Int32.ofNat l3)), .val (.int p4), .val (.int tb), .val (.int sa), .val (.int (Int32.ofNat i)), .val (.int bb)] [(.int (Int32.ofNat i)), (.ref a0)])) (fun target kt => ?_) ?_
            · skip
              show Steps p.tables e below (T.setTop (mkF m 44 #[.val (.ref a0), .val (.ref a1), .val (.int (Int32.ofNat f)), .val (.int (Int32.ofNat l3)), .val (.int p4), .val (.int tb), .val (.int sa), .val (.int (Int32.ofNat i)), .val (.int bb)] [(.int tb)])) _
              refine XS.ifNo XL.here hx rfl (hb hby d8_44) rfl ((if0 _ _).trans (teq hc44).2) ?_
              show Steps p.tables e below (T.setTop (mkF m 47 #[.val (.ref a0), .val (.ref a1), .val (.int (Int32.ofNat f)), .val (.int (Int32.ofNat l3)), .val (.int p4), .val (.int tb), .val (.int sa), .val (.int (Int32.ofNat i)), .val (.int bb)] [])) _
              refine XS.aloadN XL.here hx rfl (hb hby d8_47) rfl rfl ?_
              show Steps p.tables e below (T.setTop (mkF m 48 #[.val (.ref a0), .val (.ref a1), .val (.int (Int32.ofNat f)), .val (.int (Int32.ofNat l3)), .val (.int p4), .val (.int tb), .val (.int sa), .val (.int (Int32.ofNat i)), .val (.int bb)] [(.ref a0)])) _
              refine XS.iload XL.here hx rfl (hb hby d8_48) rfl ?_
              exact kt
            obtain ⟨T119, h119, X119, e119, W119, st119⟩ := putF XL hx hZ hown (host := "") (Or.inl (hw _ (List.mem_of_getElem? (i := 33) rfl))) Via.refl eL fl5 fl0 (Or.inl (hw _ (List.mem_of_getElem? (i := 34) rfl))) (hw _ (List.mem_of_getElem? (i := 20) rfl)) (ty := .int) (by decide) rfl rfl (g := (mkF m 50 #[.val (.ref a0), .val (.ref a1), .val (.int (Int32.ofNat f)), .val (.int (Int32.ofNat l3)), .val (.int p4), .val (.int tb), .val (.int sa), .val (.int (Int32.ofNat i)), .val (.int bb)] [(.int (Int32.ofNat i)), (.ref a0)])) rfl rfl (hb hby d8_50)
            have f120 : Exa Z h119 a0 "com/example/long_walk/longwalk/EdgeListLine" := fl0.wr W119
            have f121 : Fld Z h119 a0 "com/example/long_walk/longwalk/EdgeListLine" "sourceStart" "I" (.int (0 : Int32)) := fl1.other W119 (Or.inr (slot_ne (Or.inl (hw _ (List.mem_of_getElem? (i := 55) rfl))) (Or.inl (hw _ (List.mem_of_getElem? (i := 34) rfl))) (by decide) (t := .int) (t' := .int) (by decide) (by decide)))
            have f122 : Fld Z h119 a0 "com/example/long_walk/longwalk/EdgeListLine" "sourceEnd" "I" (.int (0 : Int32)) := fl2.other W119 (Or.inr (slot_ne (Or.inl (hw _ (List.mem_of_getElem? (i := 57) rfl))) (Or.inl (hw _ (List.mem_of_getElem? (i := 34) rfl))) (by decide) (t := .int) (t' := .int) (by decide) (by decide)))
            have f123 : Fld Z h119 a0 "com/example/long_walk/longwalk/EdgeListLine" "targetStart" "I" (.int (0 : Int32)) := fl3.other W119 (Or.inr (slot_ne (Or.inl (hw _ (List.mem_of_getElem? (i := 59) rfl))) (Or.inl (hw _ (List.mem_of_getElem? (i := 34) rfl))) (by decide) (t := .int) (t' := .int) (by decide) (by decide)))
            have f124 : Fld Z h119 a0 "com/example/long_walk/longwalk/EdgeListLine" "targetEnd" "I" (.int (0 : Int32)) := fl4.other W119 (Or.inr (slot_ne (Or.inl (hw _ (List.mem_of_getElem? (i := 61) rfl))) (Or.inl (hw _ (List.mem_of_getElem? (i := 34) rfl))) (by decide) (t := .int) (t' := .int) (by decide) (by decide)))
            have f125 : Fld Z h119 a0 "com/example/long_walk/longwalk/EdgeListLine" "secondTab" "I" (.int x2) := fl6.other W119 (Or.inr (slot_ne (Or.inl (hw _ (List.mem_of_getElem? (i := 36) rfl))) (Or.inl (hw _ (List.mem_of_getElem? (i := 34) rfl))) (by decide) (t := .int) (t' := .int) (by decide) (by decide)))
            have f126 : Fld Z h119 a0 "com/example/long_walk/longwalk/EdgeListLine" "ascii" "Z" (.int (0 : Int32)) := fl7.other W119 (Or.inr (slot_ne (Or.inl (hw _ (List.mem_of_getElem? (i := 38) rfl))) (Or.inl (hw _ (List.mem_of_getElem? (i := 34) rfl))) (by decide) (t := .boolean) (t' := .int) (by decide) (by decide)))
            have f127 : own_AI Z h119 a1 .byte 8 g := fl8.other W119 (Ne.symm hne)
            have f128 : Fld Z h119 a0 "com/example/long_walk/longwalk/EdgeListLine" "firstTab" "I" (.int (Int32.ofNat i)) := fl5.same W119
            have Z119 : n0 ≤ h119.size := Nat.le_trans ZL (Keep.of_wr W119).1
            have K119 : Keep h0 h119 [a0] := KL.wr W119 (Or.inl (List.mem_of_getElem? (i := 0) rfl))
            have N119 := Fr.snoc X119 NL g_a0
            refine own_go (S' := T119.setTop (mkF m 53 #[.val (.ref a0), .val (.ref a1), .val (.int (Int32.ofNat f)), .val (.int (Int32.ofNat l3)), .val (.int p4), .val (.int tb), .val (.int sa), .val (.int (Int32.ofNat i)), .val (.int bb)] [])) st119 ?_
            obtain ⟨i1, h_i1⟩ : ∃ z : Int32, z = ((Int32.ofNat i) + (1 : Int32)) := ⟨_, rfl⟩
            refine own_go (S' := T119.setTop (mkF m 95 #[.val (.ref a0), .val (.ref a1), .val (.int (Int32.ofNat f)), .val (.int (Int32.ofNat l3)), .val (.int p4), .val (.int (1 : Int32)), .val (.int sa), .val (.int i1), .val (.int bb)] [])) (fun target kt => ?_) ?_
            · subst h_i1
              show Steps p.tables e below (T119.setTop (mkF m 53 #[.val (.ref a0), .val (.ref a1), .val (.int (Int32.ofNat f)), .val (.int (Int32.ofNat l3)), .val (.int p4), .val (.int tb), .val (.int sa), .val (.int (Int32.ofNat i)), .val (.int bb)] [])) _
              refine XS.iconst X119.here hx rfl (hb hby d8_53) ?_
              show Steps p.tables e below (T119.setTop (mkF m 54 #[.val (.ref a0), .val (.ref a1), .val (.int (Int32.ofNat f)), .val (.int (Int32.ofNat l3)), .val (.int p4), .val (.int tb), .val (.int sa), .val (.int (Int32.ofNat i)), .val (.int bb)] [(.int (1 : Int32))])) _
              refine XS.istore X119.here hx rfl (hb hby d8_54) rfl (l' := #[.val (.ref a0), .val (.ref a1), .val (.int (Int32.ofNat f)), .val (.int (Int32.ofNat l3)), .val (.int p4), .val (.int (1 : Int32)), .val (.int sa), .val (.int (Int32.ofNat i)), .val (.int bb)]) rfl ?_
              show Steps p.tables e below (T119.setTop (mkF m 56 #[.val (.ref a0), .val (.ref a1), .val (.int (Int32.ofNat f)), .val (.int (Int32.ofNat l3)), .val (.int p4), .val (.int (1 : Int32)), .val (.int sa), .val (.int (Int32.ofNat i)), .val (.int bb)] [])) _
              refine XS.goto X119.here hx rfl (pc0 := 56) (pc' := 92) rfl (hb hby d8_56) (by decide) (by decide) ?_
              show Steps p.tables e below (T119.setTop (mkF m 92 #[.val (.ref a0), .val (.ref a1), .val (.int (Int32.ofNat f)), .val (.int (Int32.ofNat l3)), .val (.int p4), .val (.int (1 : Int32)), .val (.int sa), .val (.int (Int32.ofNat i)), .val (.int bb)] [])) _
              refine XS.iinc X119.here hx rfl (hb hby d8_92) rfl (l' := #[.val (.ref a0), .val (.ref a1), .val (.int (Int32.ofNat f)), .val (.int (Int32.ofNat l3)), .val (.int p4), .val (.int (1 : Int32)), .val (.int sa), .val (.int ((Int32.ofNat i) + (1 : Int32))), .val (.int bb)]) rfl ?_
              exact kt
            have hb_i1 : i1 = (Int32.ofNat (i + 1)) := h_i1.trans (own_one i)
            subst hb_i1
            refine own_go (S' := T119.setTop (mkF m 9 #[.val (.ref a0), .val (.ref a1), .val (.int (Int32.ofNat f)), .val (.int (Int32.ofNat l3)), .val (.int p4), .val (.int (1 : Int32)), .val (.int sa), .val (.int (Int32.ofNat (i + 1))), .val (.int bb)] [])) (fun target kt => ?_) ?_
            · skip
              show Steps p.tables e below (T119.setTop (mkF m 95 #[.val (.ref a0), .val (.ref a1), .val (.int (Int32.ofNat f)), .val (.int (Int32.ofNat l3)), .val (.int p4), .val (.int (1 : Int32)), .val (.int sa), .val (.int (Int32.ofNat (i + 1))), .val (.int bb)] [])) _
              refine XS.goto X119.here hx rfl (pc0 := 95) (pc' := 9) rfl (hb hby d8_95) (by decide) (by decide) ?_
              exact kt
            rw [(own_sc_t0 (Or.inl hc17) h_bb hc39 hc44 : own_sc g p4 (k + 1) i tb sa x1 x2 = own_sc g p4 k (i + 1) (1 : Int32) sa (Int32.ofNat i) x2)]
            exact ih (i + 1) (1 : Int32) sa (Int32.ofNat i) x2 (.val (.int bb)) T119 h119 _ (by omega) (by omega) (has) (One.val rfl) X119 e119 N119 Z119 K119 f120 f121 f122 f123 f124 f128 f125 f126 f127
          · skip
            refine own_go (S' := T.setTop (mkF m 69 #[.val (.ref a0), .val (.ref a1), .val (.int (Int32.ofNat f)), .val (.int (Int32.ofNat l3)), .val (.int p4), .val (.int tb), .val (.int sa), .val (.int (Int32.ofNat i)), .val (.int bb)] [(.int (1 : Int32)), (.int tb)])) (fun target kt => ?_) ?_
            · skip
              show Steps p.tables e below (T.setTop (mkF m 44 #[.val (.ref a0), .val (.ref a1), .val (.int (Int32.ofNat f)), .val (.int (Int32.ofNat l3)), .val (.int p4), .val (.int tb), .val (.int sa), .val (.int (Int32.ofNat i)), .val (.int bb)] [(.int tb)])) _
              refine XS.ifYes XL.here hx rfl (pc0 := 44) (pc' := 59) rfl (hb hby d8_44) rfl ((if0 _ _).trans (feq hc44).2) (by decide) (by decide) ?_
              show Steps p.tables e below (T.setTop (mkF m 59 #[.val (.ref a0), .val (.ref a1), .val (.int (Int32.ofNat f)), .val (.int (Int32.ofNat l3)), .val (.int p4), .val (.int tb), .val (.int sa), .val (.int (Int32.ofNat i)), .val (.int bb)] [])) _
              refine XS.iload XL.here hx rfl (hb hby d8_59) rfl ?_
              show Steps p.tables e below (T.setTop (mkF m 61 #[.val (.ref a0), .val (.ref a1), .val (.int (Int32.ofNat f)), .val (.int (Int32.ofNat l3)), .val (.int p4), .val (.int tb), .val (.int sa), .val (.int (Int32.ofNat i)), .val (.int bb)] [(.int bb)])) _
              refine XS.bipush XL.here hx rfl (hb hby d8_61) ?_
              show Steps p.tables e below (T.setTop (mkF m 63 #[.val (.ref a0), .val (.ref a1), .val (.int (Int32.ofNat f)), .val (.int (Int32.ofNat l3)), .val (.int p4), .val (.int tb), .val (.int sa), .val (.int (Int32.ofNat i)), .val (.int bb)] [(.int (9 : Int32)), (.int bb)])) _
              refine XS.icmpNo XL.here hx rfl (hb hby d8_63) rfl (teq hc39).2 ?_
              show Steps p.tables e below (T.setTop (mkF m 66 #[.val (.ref a0), .val (.ref a1), .val (.int (Int32.ofNat f)), .val (.int (Int32.ofNat l3)), .val (.int p4), .val (.int tb), .val (.int sa), .val (.int (Int32.ofNat i)), .val (.int bb)] [])) _
              refine XS.iload XL.here hx rfl (hb hby d8_66) rfl ?_
              show Steps p.tables e below (T.setTop (mkF m 68 #[.val (.ref a0), .val (.ref a1), .val (.int (Int32.ofNat f)), .val (.int (Int32.ofNat l3)), .val (.int p4), .val (.int tb), .val (.int sa), .val (.int (Int32.ofNat i)), .val (.int bb)] [(.int tb)])) _
              refine XS.iconst XL.here hx rfl (hb hby d8_68) ?_
              exact kt
            by_cases hc69 : tb = (1 : Int32)
            · skip
              refine own_go (S' := T.setTop (mkF m 75 #[.val (.ref a0), .val (.ref a1), .val (.int (Int32.ofNat f)), .val (.int (Int32.ofNat l3)), .val (.int p4), .val (.int tb), .val (.int sa), .val (.int (Int32.ofNat i)), .val (.int bb)] [(.int (Int32.ofNat i)), (.ref a0)])) (fun target kt => ?_) ?_
              · skip
                show Steps p.tables e below (T.setTop (mkF m 69 #[.val (.ref a0), .val (.ref a1), .val (.int (Int32.ofNat f)), .val (.int (Int32.ofNat l3)), .val (.int p4), .val (.int tb), .val (.int sa), .val (.int (Int32.ofNat i)), .val (.int bb)] [(.int (1 : Int32)), (.int tb)])) _
                refine XS.icmpNo XL.here hx rfl (hb hby d8_69) rfl (teq hc69).2 ?_
                show Steps p.tables e below (T.setTop (mkF m 72 #[.val (.ref a0), .val (.ref a1), .val (.int (Int32.ofNat f)), .val (.int (Int32.ofNat l3)), .val (.int p4), .val (.int tb), .val (.int sa), .val (.int (Int32.ofNat i)), .val (.int bb)] [])) _
                refine XS.aloadN XL.here hx rfl (hb hby d8_72) rfl rfl ?_
                show Steps p.tables e below (T.setTop (mkF m 73 #[.val (.ref a0), .val (.ref a1), .val (.int (Int32.ofNat f)), .val (.int (Int32.ofNat l3)), .val (.int p4), .val (.int tb), .val (.int sa), .val (.int (Int32.ofNat i)), .val (.int bb)] [(.ref a0)])) _
                refine XS.iload XL.here hx rfl (hb hby d8_73) rfl ?_
                exact kt
              obtain ⟨T129, h129, X129, e129, W129, st129⟩ := putF XL hx hZ hown (host := "") (Or.inl (hw _ (List.mem_of_getElem? (i := 35) rfl))) Via.refl eL fl6 fl0 (Or.inl (hw _ (List.mem_of_getElem? (i := 36) rfl))) (hw _ (List.mem_of_getElem? (i := 20) rfl)) (ty := .int) (by decide) rfl rfl (g := (mkF m 75 #[.val (.ref a0), .val (.ref a1), .val (.int (Int32.ofNat f)), .val (.int (Int32.ofNat l3)), .val (.int p4), .val (.int tb), .val (.int sa), .val (.int (Int32.ofNat i)), .val (.int bb)] [(.int (Int32.ofNat i)), (.ref a0)])) rfl rfl (hb hby d8_75)
              have f130 : Exa Z h129 a0 "com/example/long_walk/longwalk/EdgeListLine" := fl0.wr W129
              have f131 : Fld Z h129 a0 "com/example/long_walk/longwalk/EdgeListLine" "sourceStart" "I" (.int (0 : Int32)) := fl1.other W129 (Or.inr (slot_ne (Or.inl (hw _ (List.mem_of_getElem? (i := 55) rfl))) (Or.inl (hw _ (List.mem_of_getElem? (i := 36) rfl))) (by decide) (t := .int) (t' := .int) (by decide) (by decide)))
              have f132 : Fld Z h129 a0 "com/example/long_walk/longwalk/EdgeListLine" "sourceEnd" "I" (.int (0 : Int32)) := fl2.other W129 (Or.inr (slot_ne (Or.inl (hw _ (List.mem_of_getElem? (i := 57) rfl))) (Or.inl (hw _ (List.mem_of_getElem? (i := 36) rfl))) (by decide) (t := .int) (t' := .int) (by decide) (by decide)))
              have f133 : Fld Z h129 a0 "com/example/long_walk/longwalk/EdgeListLine" "targetStart" "I" (.int (0 : Int32)) := fl3.other W129 (Or.inr (slot_ne (Or.inl (hw _ (List.mem_of_getElem? (i := 59) rfl))) (Or.inl (hw _ (List.mem_of_getElem? (i := 36) rfl))) (by decide) (t := .int) (t' := .int) (by decide) (by decide)))
              have f134 : Fld Z h129 a0 "com/example/long_walk/longwalk/EdgeListLine" "targetEnd" "I" (.int (0 : Int32)) := fl4.other W129 (Or.inr (slot_ne (Or.inl (hw _ (List.mem_of_getElem? (i := 61) rfl))) (Or.inl (hw _ (List.mem_of_getElem? (i := 36) rfl))) (by decide) (t := .int) (t' := .int) (by decide) (by decide)))
              have f135 : Fld Z h129 a0 "com/example/long_walk/longwalk/EdgeListLine" "firstTab" "I" (.int x1) := fl5.other W129 (Or.inr (slot_ne (Or.inl (hw _ (List.mem_of_getElem? (i := 34) rfl))) (Or.inl (hw _ (List.mem_of_getElem? (i := 36) rfl))) (by decide) (t := .int) (t' := .int) (by decide) (by decide)))
              have f136 : Fld Z h129 a0 "com/example/long_walk/longwalk/EdgeListLine" "ascii" "Z" (.int (0 : Int32)) := fl7.other W129 (Or.inr (slot_ne (Or.inl (hw _ (List.mem_of_getElem? (i := 38) rfl))) (Or.inl (hw _ (List.mem_of_getElem? (i := 36) rfl))) (by decide) (t := .boolean) (t' := .int) (by decide) (by decide)))
              have f137 : own_AI Z h129 a1 .byte 8 g := fl8.other W129 (Ne.symm hne)
              have f138 : Fld Z h129 a0 "com/example/long_walk/longwalk/EdgeListLine" "secondTab" "I" (.int (Int32.ofNat i)) := fl6.same W129
              have Z129 : n0 ≤ h129.size := Nat.le_trans ZL (Keep.of_wr W129).1
              have K129 : Keep h0 h129 [a0] := KL.wr W129 (Or.inl (List.mem_of_getElem? (i := 0) rfl))
              have N129 := Fr.snoc X129 NL g_a0
              refine own_go (S' := T129.setTop (mkF m 78 #[.val (.ref a0), .val (.ref a1), .val (.int (Int32.ofNat f)), .val (.int (Int32.ofNat l3)), .val (.int p4), .val (.int tb), .val (.int sa), .val (.int (Int32.ofNat i)), .val (.int bb)] [])) st129 ?_
              obtain ⟨i1, h_i1⟩ : ∃ z : Int32, z = ((Int32.ofNat i) + (1 : Int32)) := ⟨_, rfl⟩
              refine own_go (S' := T129.setTop (mkF m 95 #[.val (.ref a0), .val (.ref a1), .val (.int (Int32.ofNat f)), .val (.int (Int32.ofNat l3)), .val (.int p4), .val (.int (2 : Int32)), .val (.int sa), .val (.int i1), .val (.int bb)] [])) (fun target kt => ?_) ?_
              · subst h_i1
                show Steps p.tables e below (T129.setTop (mkF m 78 #[.val (.ref a0), .val (.ref a1), .val (.int (Int32.ofNat f)), .val (.int (Int32.ofNat l3)), .val (.int p4), .val (.int tb), .val (.int sa), .val (.int (Int32.ofNat i)), .val (.int bb)] [])) _
                refine XS.iconst X129.here hx rfl (hb hby d8_78) ?_
                show Steps p.tables e below (T129.setTop (mkF m 79 #[.val (.ref a0), .val (.ref a1), .val (.int (Int32.ofNat f)), .val (.int (Int32.ofNat l3)), .val (.int p4), .val (.int tb), .val (.int sa), .val (.int (Int32.ofNat i)), .val (.int bb)] [(.int (2 : Int32))])) _
                refine XS.istore X129.here hx rfl (hb hby d8_79) rfl (l' := #[.val (.ref a0), .val (.ref a1), .val (.int (Int32.ofNat f)), .val (.int (Int32.ofNat l3)), .val (.int p4), .val (.int (2 : Int32)), .val (.int sa), .val (.int (Int32.ofNat i)), .val (.int bb)]) rfl ?_
                show Steps p.tables e below (T129.setTop (mkF m 81 #[.val (.ref a0), .val (.ref a1), .val (.int (Int32.ofNat f)), .val (.int (Int32.ofNat l3)), .val (.int p4), .val (.int (2 : Int32)), .val (.int sa), .val (.int (Int32.ofNat i)), .val (.int bb)] [])) _
                refine XS.goto X129.here hx rfl (pc0 := 81) (pc' := 92) rfl (hb hby d8_81) (by decide) (by decide) ?_
                show Steps p.tables e below (T129.setTop (mkF m 92 #[.val (.ref a0), .val (.ref a1), .val (.int (Int32.ofNat f)), .val (.int (Int32.ofNat l3)), .val (.int p4), .val (.int (2 : Int32)), .val (.int sa), .val (.int (Int32.ofNat i)), .val (.int bb)] [])) _
                refine XS.iinc X129.here hx rfl (hb hby d8_92) rfl (l' := #[.val (.ref a0), .val (.ref a1), .val (.int (Int32.ofNat f)), .val (.int (Int32.ofNat l3)), .val (.int p4), .val (.int (2 : Int32)), .val (.int sa), .val (.int ((Int32.ofNat i) + (1 : Int32))), .val (.int bb)]) rfl ?_
                exact kt
              have hb_i1 : i1 = (Int32.ofNat (i + 1)) := h_i1.trans (own_one i)
              subst hb_i1
              refine own_go (S' := T129.setTop (mkF m 9 #[.val (.ref a0), .val (.ref a1), .val (.int (Int32.ofNat f)), .val (.int (Int32.ofNat l3)), .val (.int p4), .val (.int (2 : Int32)), .val (.int sa), .val (.int (Int32.ofNat (i + 1))), .val (.int bb)] [])) (fun target kt => ?_) ?_
              · skip
                show Steps p.tables e below (T129.setTop (mkF m 95 #[.val (.ref a0), .val (.ref a1), .val (.int (Int32.ofNat f)), .val (.int (Int32.ofNat l3)), .val (.int p4), .val (.int (2 : Int32)), .val (.int sa), .val (.int (Int32.ofNat (i + 1))), .val (.int bb)] [])) _
                refine XS.goto X129.here hx rfl (pc0 := 95) (pc' := 9) rfl (hb hby d8_95) (by decide) (by decide) ?_
                exact kt
              rw [(own_sc_t1 (Or.inl hc17) h_bb hc39 hc44 hc69 : own_sc g p4 (k + 1) i tb sa x1 x2 = own_sc g p4 k (i + 1) (2 : Int32) sa x1 (Int32.ofNat i))]
              exact ih (i + 1) (2 : Int32) sa x1 (Int32.ofNat i) (.val (.int bb)) T129 h129 _ (by omega) (by omega) (has) (One.val rfl) X129 e129 N129 Z129 K129 f130 f131 f132 f133 f134 f135 f138 f136 f137
            · skip
              refine own_go (S' := T.setTop (mkF m 86 #[.val (.ref a0), .val (.ref a1), .val (.int (Int32.ofNat f)), .val (.int (Int32.ofNat l3)), .val (.int p4), .val (.int tb), .val (.int sa), .val (.int (Int32.ofNat i)), .val (.int bb)] [(.int bb)])) (fun target kt => ?_) ?_
              · skip
                show Steps p.tables e below (T.setTop (mkF m 69 #[.val (.ref a0), .val (.ref a1), .val (.int (Int32.ofNat f)), .val (.int (Int32.ofNat l3)), .val (.int p4), .val (.int tb), .val (.int sa), .val (.int (Int32.ofNat i)), .val (.int bb)] [(.int (1 : Int32)), (.int tb)])) _
                refine XS.icmpYes XL.here hx rfl (pc0 := 69) (pc' := 84) rfl (hb hby d8_69) rfl (feq hc69).2 (by decide) (by decide) ?_
                show Steps p.tables e below (T.setTop (mkF m 84 #[.val (.ref a0), .val (.ref a1), .val (.int (Int32.ofNat f)), .val (.int (Int32.ofNat l3)), .val (.int p4), .val (.int tb), .val (.int sa), .val (.int (Int32.ofNat i)), .val (.int bb)] [])) _
                refine XS.iload XL.here hx rfl (hb hby d8_84) rfl ?_
                exact kt
              by_cases hc86 : bb < (0 : Int32)
              · skip
                obtain ⟨i1, h_i1⟩ : ∃ z : Int32, z = ((Int32.ofNat i) + (1 : Int32)) := ⟨_, rfl⟩
                refine own_go (S' := T.setTop (mkF m 95 #[.val (.ref a0), .val (.ref a1), .val (.int (Int32.ofNat f)), .val (.int (Int32.ofNat l3)), .val (.int p4), .val (.int tb), .val (.int (0 : Int32)), .val (.int i1), .val (.int bb)] [])) (fun target kt => ?_) ?_
                · subst h_i1
                  show Steps p.tables e below (T.setTop (mkF m 86 #[.val (.ref a0), .val (.ref a1), .val (.int (Int32.ofNat f)), .val (.int (Int32.ofNat l3)), .val (.int p4), .val (.int tb), .val (.int sa), .val (.int (Int32.ofNat i)), .val (.int bb)] [(.int bb)])) _
                  refine XS.ifNo XL.here hx rfl (hb hby d8_86) rfl ((if0 _ _).trans (tlt hc86).2.1) ?_
                  show Steps p.tables e below (T.setTop (mkF m 89 #[.val (.ref a0), .val (.ref a1), .val (.int (Int32.ofNat f)), .val (.int (Int32.ofNat l3)), .val (.int p4), .val (.int tb), .val (.int sa), .val (.int (Int32.ofNat i)), .val (.int bb)] [])) _
                  refine XS.iconst XL.here hx rfl (hb hby d8_89) ?_
                  show Steps p.tables e below (T.setTop (mkF m 90 #[.val (.ref a0), .val (.ref a1), .val (.int (Int32.ofNat f)), .val (.int (Int32.ofNat l3)), .val (.int p4), .val (.int tb), .val (.int sa), .val (.int (Int32.ofNat i)), .val (.int bb)] [(.int (0 : Int32))])) _
                  refine XS.istore XL.here hx rfl (hb hby d8_90) rfl (l' := #[.val (.ref a0), .val (.ref a1), .val (.int (Int32.ofNat f)), .val (.int (Int32.ofNat l3)), .val (.int p4), .val (.int tb), .val (.int (0 : Int32)), .val (.int (Int32.ofNat i)), .val (.int bb)]) rfl ?_
                  show Steps p.tables e below (T.setTop (mkF m 92 #[.val (.ref a0), .val (.ref a1), .val (.int (Int32.ofNat f)), .val (.int (Int32.ofNat l3)), .val (.int p4), .val (.int tb), .val (.int (0 : Int32)), .val (.int (Int32.ofNat i)), .val (.int bb)] [])) _
                  refine XS.iinc XL.here hx rfl (hb hby d8_92) rfl (l' := #[.val (.ref a0), .val (.ref a1), .val (.int (Int32.ofNat f)), .val (.int (Int32.ofNat l3)), .val (.int p4), .val (.int tb), .val (.int (0 : Int32)), .val (.int ((Int32.ofNat i) + (1 : Int32))), .val (.int bb)]) rfl ?_
                  exact kt
                have hb_i1 : i1 = (Int32.ofNat (i + 1)) := h_i1.trans (own_one i)
                subst hb_i1
                refine own_go (S' := T.setTop (mkF m 9 #[.val (.ref a0), .val (.ref a1), .val (.int (Int32.ofNat f)), .val (.int (Int32.ofNat l3)), .val (.int p4), .val (.int tb), .val (.int (0 : Int32)), .val (.int (Int32.ofNat (i + 1))), .val (.int bb)] [])) (fun target kt => ?_) ?_
                · skip
                  show Steps p.tables e below (T.setTop (mkF m 95 #[.val (.ref a0), .val (.ref a1), .val (.int (Int32.ofNat f)), .val (.int (Int32.ofNat l3)), .val (.int p4), .val (.int tb), .val (.int (0 : Int32)), .val (.int (Int32.ofNat (i + 1))), .val (.int bb)] [])) _
                  refine XS.goto XL.here hx rfl (pc0 := 95) (pc' := 9) rfl (hb hby d8_95) (by decide) (by decide) ?_
                  exact kt
                rw [(own_sc_neg (Or.inl hc17) h_bb hc86 : own_sc g p4 (k + 1) i tb sa x1 x2 = own_sc g p4 k (i + 1) tb (0 : Int32) x1 x2)]
                exact ih (i + 1) tb (0 : Int32) x1 x2 (.val (.int bb)) T h _ (by omega) (by omega) (Or.inl rfl) (One.val rfl) XL eL NL ZL KL fl0 fl1 fl2 fl3 fl4 fl5 fl6 fl7 fl8
              · skip
                obtain ⟨i1, h_i1⟩ : ∃ z : Int32, z = ((Int32.ofNat i) + (1 : Int32)) := ⟨_, rfl⟩
                refine own_go (S' := T.setTop (mkF m 95 #[.val (.ref a0), .val (.ref a1), .val (.int (Int32.ofNat f)), .val (.int (Int32.ofNat l3)), .val (.int p4), .val (.int tb), .val (.int sa), .val (.int i1), .val (.int bb)] [])) (fun target kt => ?_) ?_
                · subst h_i1
                  show Steps p.tables e below (T.setTop (mkF m 86 #[.val (.ref a0), .val (.ref a1), .val (.int (Int32.ofNat f)), .val (.int (Int32.ofNat l3)), .val (.int p4), .val (.int tb), .val (.int sa), .val (.int (Int32.ofNat i)), .val (.int bb)] [(.int bb)])) _
                  refine XS.ifYes XL.here hx rfl (pc0 := 86) (pc' := 92) rfl (hb hby d8_86) rfl ((if0 _ _).trans (flt hc86).2.1) (by decide) (by decide) ?_
                  show Steps p.tables e below (T.setTop (mkF m 92 #[.val (.ref a0), .val (.ref a1), .val (.int (Int32.ofNat f)), .val (.int (Int32.ofNat l3)), .val (.int p4), .val (.int tb), .val (.int sa), .val (.int (Int32.ofNat i)), .val (.int bb)] [])) _
                  refine XS.iinc XL.here hx rfl (hb hby d8_92) rfl (l' := #[.val (.ref a0), .val (.ref a1), .val (.int (Int32.ofNat f)), .val (.int (Int32.ofNat l3)), .val (.int p4), .val (.int tb), .val (.int sa), .val (.int ((Int32.ofNat i) + (1 : Int32))), .val (.int bb)]) rfl ?_
                  exact kt
                have hb_i1 : i1 = (Int32.ofNat (i + 1)) := h_i1.trans (own_one i)
                subst hb_i1
                refine own_go (S' := T.setTop (mkF m 9 #[.val (.ref a0), .val (.ref a1), .val (.int (Int32.ofNat f)), .val (.int (Int32.ofNat l3)), .val (.int p4), .val (.int tb), .val (.int sa), .val (.int (Int32.ofNat (i + 1))), .val (.int bb)] [])) (fun target kt => ?_) ?_
                · skip
                  show Steps p.tables e below (T.setTop (mkF m 95 #[.val (.ref a0), .val (.ref a1), .val (.int (Int32.ofNat f)), .val (.int (Int32.ofNat l3)), .val (.int p4), .val (.int tb), .val (.int sa), .val (.int (Int32.ofNat (i + 1))), .val (.int bb)] [])) _
                  refine XS.goto XL.here hx rfl (pc0 := 95) (pc' := 9) rfl (hb hby d8_95) (by decide) (by decide) ?_
                  exact kt
                rw [(own_sc_pos (Or.inl hc17) h_bb (Or.inr ⟨hc44, hc69⟩) hc86 : own_sc g p4 (k + 1) i tb sa x1 x2 = own_sc g p4 k (i + 1) tb sa x1 x2)]
                exact ih (i + 1) tb sa x1 x2 (.val (.int bb)) T h _ (by omega) (by omega) (has) (One.val rfl) XL eL NL ZL KL fl0 fl1 fl2 fl3 fl4 fl5 fl6 fl7 fl8
        · skip
          refine own_go (S' := T.setTop (mkF m 86 #[.val (.ref a0), .val (.ref a1), .val (.int (Int32.ofNat f)), .val (.int (Int32.ofNat l3)), .val (.int p4), .val (.int tb), .val (.int sa), .val (.int (Int32.ofNat i)), .val (.int bb)] [(.int bb)])) (fun target kt => ?_) ?_
          · skip
            show Steps p.tables e below (T.setTop (mkF m 39 #[.val (.ref a0), .val (.ref a1), .val (.int (Int32.ofNat f)), .val (.int (Int32.ofNat l3)), .val (.int p4), .val (.int tb), .val (.int sa), .val (.int (Int32.ofNat i)), .val (.int bb)] [(.int (9 : Int32)), (.int bb)])) _
            refine XS.icmpYes XL.here hx rfl (pc0 := 39) (pc' := 59) rfl (hb hby d8_39) rfl (feq hc39).2 (by decide) (by decide) ?_
            show Steps p.tables e below (T.setTop (mkF m 59 #[.val (.ref a0), .val (.ref a1), .val (.int (Int32.ofNat f)), .val (.int (Int32.ofNat l3)), .val (.int p4), .val (.int tb), .val (.int sa), .val (.int (Int32.ofNat i)), .val (.int bb)] [])) _
            refine XS.iload XL.here hx rfl (hb hby d8_59) rfl ?_
            show Steps p.tables e below (T.setTop (mkF m 61 #[.val (.ref a0), .val (.ref a1), .val (.int (Int32.ofNat f)), .val (.int (Int32.ofNat l3)), .val (.int p4), .val (.int tb), .val (.int sa), .val (.int (Int32.ofNat i)), .val (.int bb)] [(.int bb)])) _
            refine XS.bipush XL.here hx rfl (hb hby d8_61) ?_
            show Steps p.tables e below (T.setTop (mkF m 63 #[.val (.ref a0), .val (.ref a1), .val (.int (Int32.ofNat f)), .val (.int (Int32.ofNat l3)), .val (.int p4), .val (.int tb), .val (.int sa), .val (.int (Int32.ofNat i)), .val (.int bb)] [(.int (9 : Int32)), (.int bb)])) _
            refine XS.icmpYes XL.here hx rfl (pc0 := 63) (pc' := 84) rfl (hb hby d8_63) rfl (feq hc39).2 (by decide) (by decide) ?_
            show Steps p.tables e below (T.setTop (mkF m 84 #[.val (.ref a0), .val (.ref a1), .val (.int (Int32.ofNat f)), .val (.int (Int32.ofNat l3)), .val (.int p4), .val (.int tb), .val (.int sa), .val (.int (Int32.ofNat i)), .val (.int bb)] [])) _
            refine XS.iload XL.here hx rfl (hb hby d8_84) rfl ?_
            exact kt
          by_cases hc86 : bb < (0 : Int32)
          · skip
            obtain ⟨i1, h_i1⟩ : ∃ z : Int32, z = ((Int32.ofNat i) + (1 : Int32)) := ⟨_, rfl⟩
            refine own_go (S' := T.setTop (mkF m 95 #[.val (.ref a0), .val (.ref a1), .val (.int (Int32.ofNat f)), .val (.int (Int32.ofNat l3)), .val (.int p4), .val (.int tb), .val (.int (0 : Int32)), .val (.int i1), .val (.int bb)] [])) (fun target kt => ?_) ?_
            · subst h_i1
              show Steps p.tables e below (T.setTop (mkF m 86 #[.val (.ref a0), .val (.ref a1), .val (.int (Int32.ofNat f)), .val (.int (Int32.ofNat l3)), .val (.int p4), .val (.int tb), .val (.int sa), .val (.int (Int32.ofNat i)), .val (.int bb)] [(.int bb)])) _
              refine XS.ifNo XL.here hx rfl (hb hby d8_86) rfl ((if0 _ _).trans (tlt hc86).2.1) ?_
              show Steps p.tables e below (T.setTop (mkF m 89 #[.val (.ref a0), .val (.ref a1), .val (.int (Int32.ofNat f)), .val (.int (Int32.ofNat l3)), .val (.int p4), .val (.int tb), .val (.int sa), .val (.int (Int32.ofNat i)), .val (.int bb)] [])) _
              refine XS.iconst XL.here hx rfl (hb hby d8_89) ?_
              show Steps p.tables e below (T.setTop (mkF m 90 #[.val (.ref a0), .val (.ref a1), .val (.int (Int32.ofNat f)), .val (.int (Int32.ofNat l3)), .val (.int p4), .val (.int tb), .val (.int sa), .val (.int (Int32.ofNat i)), .val (.int bb)] [(.int (0 : Int32))])) _
              refine XS.istore XL.here hx rfl (hb hby d8_90) rfl (l' := #[.val (.ref a0), .val (.ref a1), .val (.int (Int32.ofNat f)), .val (.int (Int32.ofNat l3)), .val (.int p4), .val (.int tb), .val (.int (0 : Int32)), .val (.int (Int32.ofNat i)), .val (.int bb)]) rfl ?_
              show Steps p.tables e below (T.setTop (mkF m 92 #[.val (.ref a0), .val (.ref a1), .val (.int (Int32.ofNat f)), .val (.int (Int32.ofNat l3)), .val (.int p4), .val (.int tb), .val (.int (0 : Int32)), .val (.int (Int32.ofNat i)), .val (.int bb)] [])) _
              refine XS.iinc XL.here hx rfl (hb hby d8_92) rfl (l' := #[.val (.ref a0), .val (.ref a1), .val (.int (Int32.ofNat f)), .val (.int (Int32.ofNat l3)), .val (.int p4), .val (.int tb), .val (.int (0 : Int32)), .val (.int ((Int32.ofNat i) + (1 : Int32))), .val (.int bb)]) rfl ?_
              exact kt
            have hb_i1 : i1 = (Int32.ofNat (i + 1)) := h_i1.trans (own_one i)
            subst hb_i1
            refine own_go (S' := T.setTop (mkF m 9 #[.val (.ref a0), .val (.ref a1), .val (.int (Int32.ofNat f)), .val (.int (Int32.ofNat l3)), .val (.int p4), .val (.int tb), .val (.int (0 : Int32)), .val (.int (Int32.ofNat (i + 1))), .val (.int bb)] [])) (fun target kt => ?_) ?_
            · skip
              show Steps p.tables e below (T.setTop (mkF m 95 #[.val (.ref a0), .val (.ref a1), .val (.int (Int32.ofNat f)), .val (.int (Int32.ofNat l3)), .val (.int p4), .val (.int tb), .val (.int (0 : Int32)), .val (.int (Int32.ofNat (i + 1))), .val (.int bb)] [])) _
              refine XS.goto XL.here hx rfl (pc0 := 95) (pc' := 9) rfl (hb hby d8_95) (by decide) (by decide) ?_
              exact kt
            rw [(own_sc_neg (Or.inl hc17) h_bb hc86 : own_sc g p4 (k + 1) i tb sa x1 x2 = own_sc g p4 k (i + 1) tb (0 : Int32) x1 x2)]
            exact ih (i + 1) tb (0 : Int32) x1 x2 (.val (.int bb)) T h _ (by omega) (by omega) (Or.inl rfl) (One.val rfl) XL eL NL ZL KL fl0 fl1 fl2 fl3 fl4 fl5 fl6 fl7 fl8
          · skip
            obtain ⟨i1, h_i1⟩ : ∃ z : Int32, z = ((Int32.ofNat i) + (1 : Int32)) := ⟨_, rfl⟩
            refine own_go (S' := T.setTop (mkF m 95 #[.val (.ref a0), .val (.ref a1), .val (.int (Int32.ofNat f)), .val (.int (Int32.ofNat l3)), .val (.int p4), .val (.int tb), .val (.int sa), .val (.int i1), .val (.int bb)] [])) (fun target kt => ?_) ?_
            · subst h_i1
              show Steps p.tables e below (T.setTop (mkF m 86 #[.val (.ref a0), .val (.ref a1), .val (.int (Int32.ofNat f)), .val (.int (Int32.ofNat l3)), .val (.int p4), .val (.int tb), .val (.int sa), .val (.int (Int32.ofNat i)), .val (.int bb)] [(.int bb)])) _
              refine XS.ifYes XL.here hx rfl (pc0 := 86) (pc' := 92) rfl (hb hby d8_86) rfl ((if0 _ _).trans (flt hc86).2.1) (by decide) (by decide) ?_
              show Steps p.tables e below (T.setTop (mkF m 92 #[.val (.ref a0), .val (.ref a1), .val (.int (Int32.ofNat f)), .val (.int (Int32.ofNat l3)), .val (.int p4), .val (.int tb), .val (.int sa), .val (.int (Int32.ofNat i)), .val (.int bb)] [])) _
              refine XS.iinc XL.here hx rfl (hb hby d8_92) rfl (l' := #[.val (.ref a0), .val (.ref a1), .val (.int (Int32.ofNat f)), .val (.int (Int32.ofNat l3)), .val (.int p4), .val (.int tb), .val (.int sa), .val (.int ((Int32.ofNat i) + (1 : Int32))), .val (.int bb)]) rfl ?_
              exact kt
            have hb_i1 : i1 = (Int32.ofNat (i + 1)) := h_i1.trans (own_one i)
            subst hb_i1
            refine own_go (S' := T.setTop (mkF m 9 #[.val (.ref a0), .val (.ref a1), .val (.int (Int32.ofNat f)), .val (.int (Int32.ofNat l3)), .val (.int p4), .val (.int tb), .val (.int sa), .val (.int (Int32.ofNat (i + 1))), .val (.int bb)] [])) (fun target kt => ?_) ?_
            · skip
              show Steps p.tables e below (T.setTop (mkF m 95 #[.val (.ref a0), .val (.ref a1), .val (.int (Int32.ofNat f)), .val (.int (Int32.ofNat l3)), .val (.int p4), .val (.int tb), .val (.int sa), .val (.int (Int32.ofNat (i + 1))), .val (.int bb)] [])) _
              refine XS.goto XL.here hx rfl (pc0 := 95) (pc' := 9) rfl (hb hby d8_95) (by decide) (by decide) ?_
              exact kt
            rw [(own_sc_pos (Or.inl hc17) h_bb (Or.inl hc39) hc86 : own_sc g p4 (k + 1) i tb sa x1 x2 = own_sc g p4 k (i + 1) tb sa x1 x2)]
            exact ih (i + 1) tb sa x1 x2 (.val (.int bb)) T h _ (by omega) (by omega) (has) (One.val rfl) XL eL NL ZL KL fl0 fl1 fl2 fl3 fl4 fl5 fl6 fl7 fl8
      · skip
        refine own_go (S' := T.setTop (mkF m 23 #[.val (.ref a0), .val (.ref a1), .val (.int (Int32.ofNat f)), .val (.int (Int32.ofNat l3)), .val (.int p4), .val (.int tb), .val (.int sa), .val (.int (Int32.ofNat i)), d] [(.int (Int32.ofNat i)), (.ref a1)])) (fun target kt => ?_) ?_
        · skip
          show Steps p.tables e below (T.setTop (mkF m 17 #[.val (.ref a0), .val (.ref a1), .val (.int (Int32.ofNat f)), .val (.int (Int32.ofNat l3)), .val (.int p4), .val (.int tb), .val (.int sa), .val (.int (Int32.ofNat i)), d] [(.int p4)])) _
          refine XS.ifNo XL.here hx rfl (hb hby d8_17) rfl ((if0 _ _).trans (feq hc17).1) ?_
          show Steps p.tables e below (T.setTop (mkF m 20 #[.val (.ref a0), .val (.ref a1), .val (.int (Int32.ofNat f)), .val (.int (Int32.ofNat l3)), .val (.int p4), .val (.int tb), .val (.int sa), .val (.int (Int32.ofNat i)), d] [])) _
          refine XS.aloadN XL.here hx rfl (hb hby d8_20) rfl rfl ?_
          show Steps p.tables e below (T.setTop (mkF m 21 #[.val (.ref a0), .val (.ref a1), .val (.int (Int32.ofNat f)), .val (.int (Int32.ofNat l3)), .val (.int p4), .val (.int tb), .val (.int sa), .val (.int (Int32.ofNat i)), d] [(.ref a1)])) _
          refine XS.iload XL.here hx rfl (hb hby d8_21) rfl ?_
          exact kt
        obtain ⟨c139, Ar139, S139, M139, H139⟩ := id fl8
        have hj139 : ¬ (Int32.ofNat i) < 0 ∧ ((Int32.ofNat i)).toNatClampNeg < 8 := (own_inb (by omega))
        have st139 : ∀ target, Steps p.tables e below (T.setTop (mkF m 24 #[.val (.ref a0), .val (.ref a1), .val (.int (Int32.ofNat f)), .val (.int (Int32.ofNat l3)), .val (.int p4), .val (.int tb), .val (.int sa), .val (.int (Int32.ofNat i)), d] [(.int (g ((Int32.ofNat i)).toNatClampNeg))])) target → Steps p.tables e below (T.setTop (mkF m 23 #[.val (.ref a0), .val (.ref a1), .val (.int (Int32.ofNat f)), .val (.int (Int32.ofNat l3)), .val (.int p4), .val (.int tb), .val (.int sa), .val (.int (Int32.ofNat i)), d] [(.int (Int32.ofNat i)), (.ref a1)])) target := fun target kt => XL.baloadBytes hx (j := (Int32.ofNat i)) (v := (.int (g ((Int32.ofNat i)).toNatClampNeg))) (by rw [eL]; exact Ar139.1) (State.isArrayOf_alike hZ.alike Ar139.2.1) Ar139.2.2 (own_in S139 hj139) (H139 _ hj139.2) (g := (mkF m 23 #[.val (.ref a0), .val (.ref a1), .val (.int (Int32.ofNat f)), .val (.int (Int32.ofNat l3)), .val (.int p4), .val (.int tb), .val (.int sa), .val (.int (Int32.ofNat i)), d] [(.int (Int32.ofNat i)), (.ref a1)])) rfl rfl (hb hby d8_23) _ kt
        refine own_go (S' := T.setTop (mkF m 24 #[.val (.ref a0), .val (.ref a1), .val (.int (Int32.ofNat f)), .val (.int (Int32.ofNat l3)), .val (.int p4), .val (.int tb), .val (.int sa), .val (.int (Int32.ofNat i)), d] [(.int (g ((Int32.ofNat i)).toNatClampNeg))])) st139 ?_
        rw [show (g ((Int32.ofNat i)).toNatClampNeg) = (g i) from congrArg g (own_clamp (by omega))]
        refine own_go (S' := T.setTop (mkF m 26 #[.val (.ref a0), .val (.ref a1), .val (.int (Int32.ofNat f)), .val (.int (Int32.ofNat l3)), .val (.int p4), .val (.int tb), .val (.int sa), .val (.int (Int32.ofNat i)), d] [(.int (10 : Int32)), (.int (g i))])) (fun target kt => ?_) ?_
        · skip
          show Steps p.tables e below (T.setTop (mkF m 24 #[.val (.ref a0), .val (.ref a1), .val (.int (Int32.ofNat f)), .val (.int (Int32.ofNat l3)), .val (.int p4), .val (.int tb), .val (.int sa), .val (.int (Int32.ofNat i)), d] [(.int (g i))])) _
          refine XS.bipush XL.here hx rfl (hb hby d8_24) ?_
          exact kt
        by_cases hc26 : (g i) = (10 : Int32)
        · skip
          refine own_go (S' := T.setTop (mkF m 101 #[.val (.ref a0), .val (.ref a1), .val (.int (Int32.ofNat f)), .val (.int (Int32.ofNat l3)), .val (.int p4), .val (.int tb), .val (.int sa), .val (.int (Int32.ofNat i)), d] [(.int tb), (.ref a0)])) (fun target kt => ?_) ?_
          · skip
            show Steps p.tables e below (T.setTop (mkF m 26 #[.val (.ref a0), .val (.ref a1), .val (.int (Int32.ofNat f)), .val (.int (Int32.ofNat l3)), .val (.int p4), .val (.int tb), .val (.int sa), .val (.int (Int32.ofNat i)), d] [(.int (10 : Int32)), (.int (g i))])) _
            refine XS.icmpYes XL.here hx rfl (pc0 := 26) (pc' := 98) rfl (hb hby d8_26) rfl (teq hc26).1 (by decide) (by decide) ?_
            show Steps p.tables e below (T.setTop (mkF m 98 #[.val (.ref a0), .val (.ref a1), .val (.int (Int32.ofNat f)), .val (.int (Int32.ofNat l3)), .val (.int p4), .val (.int tb), .val (.int sa), .val (.int (Int32.ofNat i)), d] [])) _
            refine XS.aloadN XL.here hx rfl (hb hby d8_98) rfl rfl ?_
            show Steps p.tables e below (T.setTop (mkF m 99 #[.val (.ref a0), .val (.ref a1), .val (.int (Int32.ofNat f)), .val (.int (Int32.ofNat l3)), .val (.int p4), .val (.int tb), .val (.int sa), .val (.int (Int32.ofNat i)), d] [(.ref a0)])) _
            refine XS.iload XL.here hx rfl (hb hby d8_99) rfl ?_
            exact kt
          by_cases hc101 : (0 : Int32) < tb
          · skip
            refine own_go (S' := T.setTop (mkF m 105 #[.val (.ref a0), .val (.ref a1), .val (.int (Int32.ofNat f)), .val (.int (Int32.ofNat l3)), .val (.int p4), .val (.int tb), .val (.int sa), .val (.int (Int32.ofNat i)), d] [(.ref a0), (.ref a0)])) (fun target kt => ?_) ?_
            · skip
              show Steps p.tables e below (T.setTop (mkF m 101 #[.val (.ref a0), .val (.ref a1), .val (.int (Int32.ofNat f)), .val (.int (Int32.ofNat l3)), .val (.int p4), .val (.int tb), .val (.int sa), .val (.int (Int32.ofNat i)), d] [(.int tb), (.ref a0)])) _
              refine XS.ifNo XL.here hx rfl (hb hby d8_101) rfl ((if0 _ _).trans (tlt hc101).2.2.2) ?_
              show Steps p.tables e below (T.setTop (mkF m 104 #[.val (.ref a0), .val (.ref a1), .val (.int (Int32.ofNat f)), .val (.int (Int32.ofNat l3)), .val (.int p4), .val (.int tb), .val (.int sa), .val (.int (Int32.ofNat i)), d] [(.ref a0)])) _
              refine XS.aloadN XL.here hx rfl (hb hby d8_104) rfl rfl ?_
              exact kt
            obtain ⟨T140, X140, e140, st140⟩ := getF XL hx hZ hown (host := "") (Or.inl (hw _ (List.mem_of_getElem? (i := 33) rfl))) Via.refl eL fl5 (g := (mkF m 105 #[.val (.ref a0), .val (.ref a1), .val (.int (Int32.ofNat f)), .val (.int (Int32.ofNat l3)), .val (.int p4), .val (.int tb), .val (.int sa), .val (.int (Int32.ofNat i)), d] [(.ref a0), (.ref a0)])) rfl rfl (hb hby d8_105)
            refine own_go (S' := T140.setTop (mkF m 108 #[.val (.ref a0), .val (.ref a1), .val (.int (Int32.ofNat f)), .val (.int (Int32.ofNat l3)), .val (.int p4), .val (.int tb), .val (.int sa), .val (.int (Int32.ofNat i)), d] [(.int x1), (.ref a0)])) st140 ?_
            refine own_go (S' := T140.setTop (mkF m 113 #[.val (.ref a0), .val (.ref a1), .val (.int (Int32.ofNat f)), .val (.int (Int32.ofNat l3)), .val (.int p4), .val (.int tb), .val (.int sa), .val (.int (Int32.ofNat i)), d] [(.int x1), (.ref a0)])) (fun target kt => ?_) ?_
            · skip
              show Steps p.tables e below (T140.setTop (mkF m 108 #[.val (.ref a0), .val (.ref a1), .val (.int (Int32.ofNat f)), .val (.int (Int32.ofNat l3)), .val (.int p4), .val (.int tb), .val (.int sa), .val (.int (Int32.ofNat i)), d] [(.int x1), (.ref a0)])) _
              refine XS.goto X140.here hx rfl (pc0 := 108) (pc' := 113) rfl (hb hby d8_108) (by decide) (by decide) ?_
              exact kt
            obtain ⟨T141, h141, X141, e141, W141, st141⟩ := putF X140 hx hZ hown (host := "") (Or.inl (hw _ (List.mem_of_getElem? (i := 33) rfl))) Via.refl e140 fl5 fl0 (Or.inl (hw _ (List.mem_of_getElem? (i := 34) rfl))) (hw _ (List.mem_of_getElem? (i := 20) rfl)) (ty := .int) (by decide) rfl rfl (g := (mkF m 113 #[.val (.ref a0), .val (.ref a1), .val (.int (Int32.ofNat f)), .val (.int (Int32.ofNat l3)), .val (.int p4), .val (.int tb), .val (.int sa), .val (.int (Int32.ofNat i)), d] [(.int x1), (.ref a0)])) rfl rfl (hb hby d8_113)
            have f142 : Exa Z h141 a0 "com/example/long_walk/longwalk/EdgeListLine" := fl0.wr W141
            have f143 : Fld Z h141 a0 "com/example/long_walk/longwalk/EdgeListLine" "sourceStart" "I" (.int (0 : Int32)) := fl1.other W141 (Or.inr (slot_ne (Or.inl (hw _ (List.mem_of_getElem? (i := 55) rfl))) (Or.inl (hw _ (List.mem_of_getElem? (i := 34) rfl))) (by decide) (t := .int) (t' := .int) (by decide) (by decide)))
            have f144 : Fld Z h141 a0 "com/example/long_walk/longwalk/EdgeListLine" "sourceEnd" "I" (.int (0 : Int32)) := fl2.other W141 (Or.inr (slot_ne (Or.inl (hw _ (List.mem_of_getElem? (i := 57) rfl))) (Or.inl (hw _ (List.mem_of_getElem? (i := 34) rfl))) (by decide) (t := .int) (t' := .int) (by decide) (by decide)))
            have f145 : Fld Z h141 a0 "com/example/long_walk/longwalk/EdgeListLine" "targetStart" "I" (.int (0 : Int32)) := fl3.other W141 (Or.inr (slot_ne (Or.inl (hw _ (List.mem_of_getElem? (i := 59) rfl))) (Or.inl (hw _ (List.mem_of_getElem? (i := 34) rfl))) (by decide) (t := .int) (t' := .int) (by decide) (by decide)))
            have f146 : Fld Z h141 a0 "com/example/long_walk/longwalk/EdgeListLine" "targetEnd" "I" (.int (0 : Int32)) := fl4.other W141 (Or.inr (slot_ne (Or.inl (hw _ (List.mem_of_getElem? (i := 61) rfl))) (Or.inl (hw _ (List.mem_of_getElem? (i := 34) rfl))) (by decide) (t := .int) (t' := .int) (by decide) (by decide)))
            have f147 : Fld Z h141 a0 "com/example/long_walk/longwalk/EdgeListLine" "secondTab" "I" (.int x2) := fl6.other W141 (Or.inr (slot_ne (Or.inl (hw _ (List.mem_of_getElem? (i := 36) rfl))) (Or.inl (hw _ (List.mem_of_getElem? (i := 34) rfl))) (by decide) (t := .int) (t' := .int) (by decide) (by decide)))
            have f148 : Fld Z h141 a0 "com/example/long_walk/longwalk/EdgeListLine" "ascii" "Z" (.int (0 : Int32)) := fl7.other W141 (Or.inr (slot_ne (Or.inl (hw _ (List.mem_of_getElem? (i := 38) rfl))) (Or.inl (hw _ (List.mem_of_getElem? (i := 34) rfl))) (by decide) (t := .boolean) (t' := .int) (by decide) (by decide)))
            have f149 : own_AI Z h141 a1 .byte 8 g := fl8.other W141 (Ne.symm hne)
            have f150 : Fld Z h141 a0 "com/example/long_walk/longwalk/EdgeListLine" "firstTab" "I" (.int x1) := fl5.same W141
            have Z141 : n0 ≤ h141.size := Nat.le_trans ZL (Keep.of_wr W141).1
            have K141 : Keep h0 h141 [a0] := KL.wr W141 (Or.inl (List.mem_of_getElem? (i := 0) rfl))
            have N141 := Fr.snoc X141 NL g_a0
            refine own_go (S' := T141.setTop (mkF m 116 #[.val (.ref a0), .val (.ref a1), .val (.int (Int32.ofNat f)), .val (.int (Int32.ofNat l3)), .val (.int p4), .val (.int tb), .val (.int sa), .val (.int (Int32.ofNat i)), d] [])) st141 ?_
            refine own_go (S' := T141.setTop (mkF m 120 #[.val (.ref a0), .val (.ref a1), .val (.int (Int32.ofNat f)), .val (.int (Int32.ofNat l3)), .val (.int p4), .val (.int tb), .val (.int sa), .val (.int (Int32.ofNat i)), d] [(.int (1 : Int32)), (.int tb), (.ref a0)])) (fun target kt => ?_) ?_
            · skip
              show Steps p.tables e below (T141.setTop (mkF m 116 #[.val (.ref a0), .val (.ref a1), .val (.int (Int32.ofNat f)), .val (.int (Int32.ofNat l3)), .val (.int p4), .val (.int tb), .val (.int sa), .val (.int (Int32.ofNat i)), d] [])) _
              refine XS.aloadN X141.here hx rfl (hb hby d8_116) rfl rfl ?_
              show Steps p.tables e below (T141.setTop (mkF m 117 #[.val (.ref a0), .val (.ref a1), .val (.int (Int32.ofNat f)), .val (.int (Int32.ofNat l3)), .val (.int p4), .val (.int tb), .val (.int sa), .val (.int (Int32.ofNat i)), d] [(.ref a0)])) _
              refine XS.iload X141.here hx rfl (hb hby d8_117) rfl ?_
              show Steps p.tables e below (T141.setTop (mkF m 119 #[.val (.ref a0), .val (.ref a1), .val (.int (Int32.ofNat f)), .val (.int (Int32.ofNat l3)), .val (.int p4), .val (.int tb), .val (.int sa), .val (.int (Int32.ofNat i)), d] [(.int tb), (.ref a0)])) _
              refine XS.iconst X141.here hx rfl (hb hby d8_119) ?_
              exact kt
            by_cases hc120 : (1 : Int32) < tb
            · skip
              refine own_go (S' := T141.setTop (mkF m 124 #[.val (.ref a0), .val (.ref a1), .val (.int (Int32.ofNat f)), .val (.int (Int32.ofNat l3)), .val (.int p4), .val (.int tb), .val (.int sa), .val (.int (Int32.ofNat i)), d] [(.ref a0), (.ref a0)])) (fun target kt => ?_) ?_
              · skip
                show Steps p.tables e below (T141.setTop (mkF m 120 #[.val (.ref a0), .val (.ref a1), .val (.int (Int32.ofNat f)), .val (.int (Int32.ofNat l3)), .val (.int p4), .val (.int tb), .val (.int sa), .val (.int (Int32.ofNat i)), d] [(.int (1 : Int32)), (.int tb), (.ref a0)])) _
                refine XS.icmpNo X141.here hx rfl (hb hby d8_120) rfl (tlt hc120).2.2.2 ?_
                show Steps p.tables e below (T141.setTop (mkF m 123 #[.val (.ref a0), .val (.ref a1), .val (.int (Int32.ofNat f)), .val (.int (Int32.ofNat l3)), .val (.int p4), .val (.int tb), .val (.int sa), .val (.int (Int32.ofNat i)), d] [(.ref a0)])) _
                refine XS.aloadN X141.here hx rfl (hb hby d8_123) rfl rfl ?_
                exact kt
              obtain ⟨T151, X151, e151, st151⟩ := getF X141 hx hZ hown (host := "") (Or.inl (hw _ (List.mem_of_getElem? (i := 35) rfl))) Via.refl e141 f147 (g := (mkF m 124 #[.val (.ref a0), .val (.ref a1), .val (.int (Int32.ofNat f)), .val (.int (Int32.ofNat l3)), .val (.int p4), .val (.int tb), .val (.int sa), .val (.int (Int32.ofNat i)), d] [(.ref a0), (.ref a0)])) rfl rfl (hb hby d8_124)
              refine own_go (S' := T151.setTop (mkF m 127 #[.val (.ref a0), .val (.ref a1), .val (.int (Int32.ofNat f)), .val (.int (Int32.ofNat l3)), .val (.int p4), .val (.int tb), .val (.int sa), .val (.int (Int32.ofNat i)), d] [(.int x2), (.ref a0)])) st151 ?_
              refine own_go (S' := T151.setTop (mkF m 132 #[.val (.ref a0), .val (.ref a1), .val (.int (Int32.ofNat f)), .val (.int (Int32.ofNat l3)), .val (.int p4), .val (.int tb), .val (.int sa), .val (.int (Int32.ofNat i)), d] [(.int x2), (.ref a0)])) (fun target kt => ?_) ?_
              · skip
                show Steps p.tables e below (T151.setTop (mkF m 127 #[.val (.ref a0), .val (.ref a1), .val (.int (Int32.ofNat f)), .val (.int (Int32.ofNat l3)), .val (.int p4), .val (.int tb), .val (.int sa), .val (.int (Int32.ofNat i)), d] [(.int x2), (.ref a0)])) _
                refine XS.goto X151.here hx rfl (pc0 := 127) (pc' := 132) rfl (hb hby d8_127) (by decide) (by decide) ?_
                exact kt
              obtain ⟨T152, h152, X152, e152, W152, st152⟩ := putF X151 hx hZ hown (host := "") (Or.inl (hw _ (List.mem_of_getElem? (i := 35) rfl))) Via.refl e151 f147 f142 (Or.inl (hw _ (List.mem_of_getElem? (i := 36) rfl))) (hw _ (List.mem_of_getElem? (i := 20) rfl)) (ty := .int) (by decide) rfl rfl (g := (mkF m 132 #[.val (.ref a0), .val (.ref a1), .val (.int (Int32.ofNat f)), .val (.int (Int32.ofNat l3)), .val (.int p4), .val (.int tb), .val (.int sa), .val (.int (Int32.ofNat i)), d] [(.int x2), (.ref a0)])) rfl rfl (hb hby d8_132)
              have f153 : Exa Z h152 a0 "com/example/long_walk/longwalk/EdgeListLine" := f142.wr W152
              have f154 : Fld Z h152 a0 "com/example/long_walk/longwalk/EdgeListLine" "sourceStart" "I" (.int (0 : Int32)) := f143.other W152 (Or.inr (slot_ne (Or.inl (hw _ (List.mem_of_getElem? (i := 55) rfl))) (Or.inl (hw _ (List.mem_of_getElem? (i := 36) rfl))) (by decide) (t := .int) (t' := .int) (by decide) (by decide)))
              have f155 : Fld Z h152 a0 "com/example/long_walk/longwalk/EdgeListLine" "sourceEnd" "I" (.int (0 : Int32)) := f144.other W152 (Or.inr (slot_ne (Or.inl (hw _ (List.mem_of_getElem? (i := 57) rfl))) (Or.inl (hw _ (List.mem_of_getElem? (i := 36) rfl))) (by decide) (t := .int) (t' := .int) (by decide) (by decide)))
              have f156 : Fld Z h152 a0 "com/example/long_walk/longwalk/EdgeListLine" "targetStart" "I" (.int (0 : Int32)) := f145.other W152 (Or.inr (slot_ne (Or.inl (hw _ (List.mem_of_getElem? (i := 59) rfl))) (Or.inl (hw _ (List.mem_of_getElem? (i := 36) rfl))) (by decide) (t := .int) (t' := .int) (by decide) (by decide)))
              have f157 : Fld Z h152 a0 "com/example/long_walk/longwalk/EdgeListLine" "targetEnd" "I" (.int (0 : Int32)) := f146.other W152 (Or.inr (slot_ne (Or.inl (hw _ (List.mem_of_getElem? (i := 61) rfl))) (Or.inl (hw _ (List.mem_of_getElem? (i := 36) rfl))) (by decide) (t := .int) (t' := .int) (by decide) (by decide)))
              have f158 : Fld Z h152 a0 "com/example/long_walk/longwalk/EdgeListLine" "ascii" "Z" (.int (0 : Int32)) := f148.other W152 (Or.inr (slot_ne (Or.inl (hw _ (List.mem_of_getElem? (i := 38) rfl))) (Or.inl (hw _ (List.mem_of_getElem? (i := 36) rfl))) (by decide) (t := .boolean) (t' := .int) (by decide) (by decide)))
              have f159 : own_AI Z h152 a1 .byte 8 g := f149.other W152 (Ne.symm hne)
              have f160 : Fld Z h152 a0 "com/example/long_walk/longwalk/EdgeListLine" "firstTab" "I" (.int x1) := f150.other W152 (Or.inr (slot_ne (Or.inl (hw _ (List.mem_of_getElem? (i := 34) rfl))) (Or.inl (hw _ (List.mem_of_getElem? (i := 36) rfl))) (by decide) (t := .int) (t' := .int) (by decide) (by decide)))
              have f161 : Fld Z h152 a0 "com/example/long_walk/longwalk/EdgeListLine" "secondTab" "I" (.int x2) := f147.same W152
              have Z152 : n0 ≤ h152.size := Nat.le_trans Z141 (Keep.of_wr W152).1
              have K152 : Keep h0 h152 [a0] := K141.wr W152 (Or.inl (List.mem_of_getElem? (i := 0) rfl))
              have N152 := Fr.snoc X152 N141 g_a0
              refine own_go (S' := T152.setTop (mkF m 135 #[.val (.ref a0), .val (.ref a1), .val (.int (Int32.ofNat f)), .val (.int (Int32.ofNat l3)), .val (.int p4), .val (.int tb), .val (.int sa), .val (.int (Int32.ofNat i)), d] [])) st152 ?_
              refine own_go (S' := T152.setTop (mkF m 138 #[.val (.ref a0), .val (.ref a1), .val (.int (Int32.ofNat f)), .val (.int (Int32.ofNat l3)), .val (.int p4), .val (.int tb), .val (.int sa), .val (.int (Int32.ofNat i)), d] [(.int sa), (.ref a0)])) (fun target kt => ?_) ?_
              · skip
                show Steps p.tables e below (T152.setTop (mkF m 135 #[.val (.ref a0), .val (.ref a1), .val (.int (Int32.ofNat f)), .val (.int (Int32.ofNat l3)), .val (.int p4), .val (.int tb), .val (.int sa), .val (.int (Int32.ofNat i)), d] [])) _
                refine XS.aloadN X152.here hx rfl (hb hby d8_135) rfl rfl ?_
                show Steps p.tables e below (T152.setTop (mkF m 136 #[.val (.ref a0), .val (.ref a1), .val (.int (Int32.ofNat f)), .val (.int (Int32.ofNat l3)), .val (.int p4), .val (.int tb), .val (.int sa), .val (.int (Int32.ofNat i)), d] [(.ref a0)])) _
                refine XS.iload X152.here hx rfl (hb hby d8_136) rfl ?_
                exact kt
              obtain ⟨T162, h162, X162, e162, W162, st162⟩ := putFN X152 hx hZ hown (hw _ (List.mem_of_getElem? (i := 37) rfl)) Via.refl e152 f158 f153 (Or.inl (hw _ (List.mem_of_getElem? (i := 38) rfl))) (hw _ (List.mem_of_getElem? (i := 20) rfl)) (ty := .boolean) (v' := (.int sa)) (by decide) (own_nb1 has) (own_fb1 has) (g := (mkF m 138 #[.val (.ref a0), .val (.ref a1), .val (.int (Int32.ofNat f)), .val (.int (Int32.ofNat l3)), .val (.int p4), .val (.int tb), .val (.int sa), .val (.int (Int32.ofNat i)), d] [(.int sa), (.ref a0)])) rfl rfl (hb hby d8_138)
              have f163 : Exa Z h162 a0 "com/example/long_walk/longwalk/EdgeListLine" := f153.wr W162
              have f164 : Fld Z h162 a0 "com/example/long_walk/longwalk/EdgeListLine" "sourceStart" "I" (.int (0 : Int32)) := f154.other W162 (Or.inr (slot_ne (Or.inl (hw _ (List.mem_of_getElem? (i := 55) rfl))) (Or.inl (hw _ (List.mem_of_getElem? (i := 38) rfl))) (by decide) (t := .int) (t' := .boolean) (by decide) (by decide)))
              have f165 : Fld Z h162 a0 "com/example/long_walk/longwalk/EdgeListLine" "sourceEnd" "I" (.int (0 : Int32)) := f155.other W162 (Or.inr (slot_ne (Or.inl (hw _ (List.mem_of_getElem? (i := 57) rfl))) (Or.inl (hw _ (List.mem_of_getElem? (i := 38) rfl))) (by decide) (t := .int) (t' := .boolean) (by decide) (by decide)))
              have f166 : Fld Z h162 a0 "com/example/long_walk/longwalk/EdgeListLine" "targetStart" "I" (.int (0 : Int32)) := f156.other W162 (Or.inr (slot_ne (Or.inl (hw _ (List.mem_of_getElem? (i := 59) rfl))) (Or.inl (hw _ (List.mem_of_getElem? (i := 38) rfl))) (by decide) (t := .int) (t' := .boolean) (by decide) (by decide)))
              have f167 : Fld Z h162 a0 "com/example/long_walk/longwalk/EdgeListLine" "targetEnd" "I" (.int (0 : Int32)) := f157.other W162 (Or.inr (slot_ne (Or.inl (hw _ (List.mem_of_getElem? (i := 61) rfl))) (Or.inl (hw _ (List.mem_of_getElem? (i := 38) rfl))) (by decide) (t := .int) (t' := .boolean) (by decide) (by decide)))
              have f168 : own_AI Z h162 a1 .byte 8 g := f159.other W162 (Ne.symm hne)
              have f169 : Fld Z h162 a0 "com/example/long_walk/longwalk/EdgeListLine" "firstTab" "I" (.int x1) := f160.other W162 (Or.inr (slot_ne (Or.inl (hw _ (List.mem_of_getElem? (i := 34) rfl))) (Or.inl (hw _ (List.mem_of_getElem? (i := 38) rfl))) (by decide) (t := .int) (t' := .boolean) (by decide) (by decide)))
              have f170 : Fld Z h162 a0 "com/example/long_walk/longwalk/EdgeListLine" "secondTab" "I" (.int x2) := f161.other W162 (Or.inr (slot_ne (Or.inl (hw _ (List.mem_of_getElem? (i := 36) rfl))) (Or.inl (hw _ (List.mem_of_getElem? (i := 38) rfl))) (by decide) (t := .int) (t' := .boolean) (by decide) (by decide)))
              have f171 : Fld Z h162 a0 "com/example/long_walk/longwalk/EdgeListLine" "ascii" "Z" (.int sa) := f158.same W162
              have Z162 : n0 ≤ h162.size := Nat.le_trans Z152 (Keep.of_wr W162).1
              have K162 : Keep h0 h162 [a0] := K152.wr W162 (Or.inl (List.mem_of_getElem? (i := 0) rfl))
              have N162 := Fr.snoc X162 N152 g_a0
              refine own_go (S' := T162.setTop (mkF m 141 #[.val (.ref a0), .val (.ref a1), .val (.int (Int32.ofNat f)), .val (.int (Int32.ofNat l3)), .val (.int p4), .val (.int tb), .val (.int sa), .val (.int (Int32.ofNat i)), d] [])) st162 ?_
              refine own_go (S' := T162.setTop (mkF m 143 #[.val (.ref a0), .val (.ref a1), .val (.int (Int32.ofNat f)), .val (.int (Int32.ofNat l3)), .val (.int p4), .val (.int tb), .val (.int sa), .val (.int (Int32.ofNat i)), d] [(.int (Int32.ofNat i))])) (fun target kt => ?_) ?_
              · skip
                show Steps p.tables e below (T162.setTop (mkF m 141 #[.val (.ref a0), .val (.ref a1), .val (.int (Int32.ofNat f)), .val (.int (Int32.ofNat l3)), .val (.int p4), .val (.int tb), .val (.int sa), .val (.int (Int32.ofNat i)), d] [])) _
                refine XS.iload X162.here hx rfl (hb hby d8_141) rfl ?_
                exact kt
              obtain ⟨fs, hr, hrun, hended, hW, hsame⟩ := X162.leave (v := some (.int (Int32.ofNat i))) (fun h => by rw [Bd.returns] at h; cases h)
              refine ⟨_, _, ?_, hrun, hended, _, _, rfl, ?_, ⟨_, rfl⟩, hW, hsame.mono (by decide) (by decide)⟩
              · exact retI X162 hx Bd.returns (hb hby d8_143) hr
              · skip
                rw [own_sc_brk (by first | exact hc17 | assumption) hc26]
                dsimp only
                rw [if_pos hc101, if_pos hc120]
                rw [show (T162.setFrames fs).heap = h162 from e162]
                exact ⟨rfl, N162, K162, f163, f164, f165, f166, f167, f169, f170, f171⟩
            · skip
              refine own_go (S' := T141.setTop (mkF m 132 #[.val (.ref a0), .val (.ref a1), .val (.int (Int32.ofNat f)), .val (.int (Int32.ofNat l3)), .val (.int p4), .val (.int tb), .val (.int sa), .val (.int (Int32.ofNat i)), d] [(.int (Int32.ofNat i)), (.ref a0)])) (fun target kt => ?_) ?_
              · skip
                show Steps p.tables e below (T141.setTop (mkF m 120 #[.val (.ref a0), .val (.ref a1), .val (.int (Int32.ofNat f)), .val (.int (Int32.ofNat l3)), .val (.int p4), .val (.int tb), .val (.int sa), .val (.int (Int32.ofNat i)), d] [(.int (1 : Int32)), (.int tb), (.ref a0)])) _
                refine XS.icmpYes X141.here hx rfl (pc0 := 120) (pc' := 130) rfl (hb hby d8_120) rfl (flt hc120).2.2.2 (by decide) (by decide) ?_
                show Steps p.tables e below (T141.setTop (mkF m 130 #[.val (.ref a0), .val (.ref a1), .val (.int (Int32.ofNat f)), .val (.int (Int32.ofNat l3)), .val (.int p4), .val (.int tb), .val (.int sa), .val (.int (Int32.ofNat i)), d] [(.ref a0)])) _
                refine XS.iload X141.here hx rfl (hb hby d8_130) rfl ?_
                exact kt
              obtain ⟨T172, h172, X172, e172, W172, st172⟩ := putF X141 hx hZ hown (host := "") (Or.inl (hw _ (List.mem_of_getElem? (i := 35) rfl))) Via.refl e141 f147 f142 (Or.inl (hw _ (List.mem_of_getElem? (i := 36) rfl))) (hw _ (List.mem_of_getElem? (i := 20) rfl)) (ty := .int) (by decide) rfl rfl (g := (mkF m 132 #[.val (.ref a0), .val (.ref a1), .val (.int (Int32.ofNat f)), .val (.int (Int32.ofNat l3)), .val (.int p4), .val (.int tb), .val (.int sa), .val (.int (Int32.ofNat i)), d] [(.int (Int32.ofNat i)), (.ref a0)])) rfl rfl (hb hby d8_132)
              have f173 : Exa Z h172 a0 "com/example/long_walk/longwalk/EdgeListLine" := f142.wr W172
              have f174 : Fld Z h172 a0 "com/example/long_walk/longwalk/EdgeListLine" "sourceStart" "I" (.int (0 : Int32)) := f143.other W172 (Or.inr (slot_ne (Or.inl (hw _ (List.mem_of_getElem? (i := 55) rfl))) (Or.inl (hw _ (List.mem_of_getElem? (i := 36) rfl))) (by decide) (t := .int) (t' := .int) (by decide) (by decide)))
              have f175 : Fld Z h172 a0 "com/example/long_walk/longwalk/EdgeListLine" "sourceEnd" "I" (.int (0 : Int32)) := f144.other W172 (Or.inr (slot_ne (Or.inl (hw _ (List.mem_of_getElem? (i := 57) rfl))) (Or.inl (hw _ (List.mem_of_getElem? (i := 36) rfl))) (by decide) (t := .int) (t' := .int) (by decide) (by decide)))
              have f176 : Fld Z h172 a0 "com/example/long_walk/longwalk/EdgeListLine" "targetStart" "I" (.int (0 : Int32)) := f145.other W172 (Or.inr (slot_ne (Or.inl (hw _ (List.mem_of_getElem? (i := 59) rfl))) (Or.inl (hw _ (List.mem_of_getElem? (i := 36) rfl))) (by decide) (t := .int) (t' := .int) (by decide) (by decide)))
              have f177 : Fld Z h172 a0 "com/example/long_walk/longwalk/EdgeListLine" "targetEnd" "I" (.int (0 : Int32)) := f146.other W172 (Or.inr (slot_ne (Or.inl (hw _ (List.mem_of_getElem? (i := 61) rfl))) (Or.inl (hw _ (List.mem_of_getElem? (i := 36) rfl))) (by decide) (t := .int) (t' := .int) (by decide) (by decide)))
              have f178 : Fld Z h172 a0 "com/example/long_walk/longwalk/EdgeListLine" "ascii" "Z" (.int (0 : Int32)) := f148.other W172 (Or.inr (slot_ne (Or.inl (hw _ (List.mem_of_getElem? (i := 38) rfl))) (Or.inl (hw _ (List.mem_of_getElem? (i := 36) rfl))) (by decide) (t := .boolean) (t' := .int) (by decide) (by decide)))
              have f179 : own_AI Z h172 a1 .byte 8 g := f149.other W172 (Ne.symm hne)
              have f180 : Fld Z h172 a0 "com/example/long_walk/longwalk/EdgeListLine" "firstTab" "I" (.int x1) := f150.other W172 (Or.inr (slot_ne (Or.inl (hw _ (List.mem_of_getElem? (i := 34) rfl))) (Or.inl (hw _ (List.mem_of_getElem? (i := 36) rfl))) (by decide) (t := .int) (t' := .int) (by decide) (by decide)))
              have f181 : Fld Z h172 a0 "com/example/long_walk/longwalk/EdgeListLine" "secondTab" "I" (.int (Int32.ofNat i)) := f147.same W172
              have Z172 : n0 ≤ h172.size := Nat.le_trans Z141 (Keep.of_wr W172).1
              have K172 : Keep h0 h172 [a0] := K141.wr W172 (Or.inl (List.mem_of_getElem? (i := 0) rfl))
              have N172 := Fr.snoc X172 N141 g_a0
              refine own_go (S' := T172.setTop (mkF m 135 #[.val (.ref a0), .val (.ref a1), .val (.int (Int32.ofNat f)), .val (.int (Int32.ofNat l3)), .val (.int p4), .val (.int tb), .val (.int sa), .val (.int (Int32.ofNat i)), d] [])) st172 ?_
              refine own_go (S' := T172.setTop (mkF m 138 #[.val (.ref a0), .val (.ref a1), .val (.int (Int32.ofNat f)), .val (.int (Int32.ofNat l3)), .val (.int p4), .val (.int tb), .val (.int sa), .val (.int (Int32.ofNat i)), d] [(.int sa), (.ref a0)])) (fun target kt => ?_) ?_
              · skip
                show Steps p.tables e below (T172.setTop (mkF m 135 #[.val (.ref a0), .val (.ref a1), .val (.int (Int32.ofNat f)), .val (.int (Int32.ofNat l3)), .val (.int p4), .val (.int tb), .val (.int sa), .val (.int (Int32.ofNat i)), d] [])) _
                refine XS.aloadN X172.here hx rfl (hb hby d8_135) rfl rfl ?_
                show Steps p.tables e below (T172.setTop (mkF m 136 #[.val (.ref a0), .val (.ref a1), .val (.int (Int32.ofNat f)), .val (.int (Int32.ofNat l3)), .val (.int p4), .val (.int tb), .val (.int sa), .val (.int (Int32.ofNat i)), d] [(.ref a0)])) _
                refine XS.iload X172.here hx rfl (hb hby d8_136) rfl ?_
                exact kt
              obtain ⟨T182, h182, X182, e182, W182, st182⟩ := putFN X172 hx hZ hown (hw _ (List.mem_of_getElem? (i := 37) rfl)) Via.refl e172 f178 f173 (Or.inl (hw _ (List.mem_of_getElem? (i := 38) rfl))) (hw _ (List.mem_of_getElem? (i := 20) rfl)) (ty := .boolean) (v' := (.int sa)) (by decide) (own_nb1 has) (own_fb1 has) (g := (mkF m 138 #[.val (.ref a0), .val (.ref a1), .val (.int (Int32.ofNat f)), .val (.int (Int32.ofNat l3)), .val (.int p4), .val (.int tb), .val (.int sa), .val (.int (Int32.ofNat i)), d] [(.int sa), (.ref a0)])) rfl rfl (hb hby d8_138)
              have f183 : Exa Z h182 a0 "com/example/long_walk/longwalk/EdgeListLine" := f173.wr W182
              have f184 : Fld Z h182 a0 "com/example/long_walk/longwalk/EdgeListLine" "sourceStart" "I" (.int (0 : Int32)) := f174.other W182 (Or.inr (slot_ne (Or.inl (hw _ (List.mem_of_getElem? (i := 55) rfl))) (Or.inl (hw _ (List.mem_of_getElem? (i := 38) rfl))) (by decide) (t := .int) (t' := .boolean) (by decide) (by decide)))
              have f185 : Fld Z h182 a0 "com/example/long_walk/longwalk/EdgeListLine" "sourceEnd" "I" (.int (0 : Int32)) := f175.other W182 (Or.inr (slot_ne (Or.inl (hw _ (List.mem_of_getElem? (i := 57) rfl))) (Or.inl (hw _ (List.mem_of_getElem? (i := 38) rfl))) (by decide) (t := .int) (t' := .boolean) (by decide) (by decide)))
              have f186 : Fld Z h182 a0 "com/example/long_walk/longwalk/EdgeListLine" "targetStart" "I" (.int (0 : Int32)) := f176.other W182 (Or.inr (slot_ne (Or.inl (hw _ (List.mem_of_getElem? (i := 59) rfl))) (Or.inl (hw _ (List.mem_of_getElem? (i := 38) rfl))) (by decide) (t := .int) (t' := .boolean) (by decide) (by decide)))
              have f187 : Fld Z h182 a0 "com/example/long_walk/longwalk/EdgeListLine" "targetEnd" "I" (.int (0 : Int32)) := f177.other W182 (Or.inr (slot_ne (Or.inl (hw _ (List.mem_of_getElem? (i := 61) rfl))) (Or.inl (hw _ (List.mem_of_getElem? (i := 38) rfl))) (by decide) (t := .int) (t' := .boolean) (by decide) (by decide)))
              have f188 : own_AI Z h182 a1 .byte 8 g := f179.other W182 (Ne.symm hne)
              have f189 : Fld Z h182 a0 "com/example/long_walk/longwalk/EdgeListLine" "firstTab" "I" (.int x1) := f180.other W182 (Or.inr (slot_ne (Or.inl (hw _ (List.mem_of_getElem? (i := 34) rfl))) (Or.inl (hw _ (List.mem_of_getElem? (i := 38) rfl))) (by decide) (t := .int) (t' := .boolean) (by decide) (by decide)))
              have f190 : Fld Z h182 a0 "com/example/long_walk/longwalk/EdgeListLine" "secondTab" "I" (.int (Int32.ofNat i)) := f181.other W182 (Or.inr (slot_ne (Or.inl (hw _ (List.mem_of_getElem? (i := 36) rfl))) (Or.inl (hw _ (List.mem_of_getElem? (i := 38) rfl))) (by decide) (t := .int) (t' := .boolean) (by decide) (by decide)))
              have f191 : Fld Z h182 a0 "com/example/long_walk/longwalk/EdgeListLine" "ascii" "Z" (.int sa) := f178.same W182
              have Z182 : n0 ≤ h182.size := Nat.le_trans Z172 (Keep.of_wr W182).1
              have K182 : Keep h0 h182 [a0] := K172.wr W182 (Or.inl (List.mem_of_getElem? (i := 0) rfl))
              have N182 := Fr.snoc X182 N172 g_a0
              refine own_go (S' := T182.setTop (mkF m 141 #[.val (.ref a0), .val (.ref a1), .val (.int (Int32.ofNat f)), .val (.int (Int32.ofNat l3)), .val (.int p4), .val (.int tb), .val (.int sa), .val (.int (Int32.ofNat i)), d] [])) st182 ?_
              refine own_go (S' := T182.setTop (mkF m 143 #[.val (.ref a0), .val (.ref a1), .val (.int (Int32.ofNat f)), .val (.int (Int32.ofNat l3)), .val (.int p4), .val (.int tb), .val (.int sa), .val (.int (Int32.ofNat i)), d] [(.int (Int32.ofNat i))])) (fun target kt => ?_) ?_
              · skip
                show Steps p.tables e below (T182.setTop (mkF m 141 #[.val (.ref a0), .val (.ref a1), .val (.int (Int32.ofNat f)), .val (.int (Int32.ofNat l3)), .val (.int p4), .val (.int tb), .val (.int sa), .val (.int (Int32.ofNat i)), d] [])) _
                refine XS.iload X182.here hx rfl (hb hby d8_141) rfl ?_
                exact kt
              obtain ⟨fs, hr, hrun, hended, hW, hsame⟩ := X182.leave (v := some (.int (Int32.ofNat i))) (fun h => by rw [Bd.returns] at h; cases h)
              refine ⟨_, _, ?_, hrun, hended, _, _, rfl, ?_, ⟨_, rfl⟩, hW, hsame.mono (by decide) (by decide)⟩
              · exact retI X182 hx Bd.returns (hb hby d8_143) hr
              · skip
                rw [own_sc_brk (by first | exact hc17 | assumption) hc26]
                dsimp only
                rw [if_pos hc101, if_neg hc120]
                rw [show (T182.setFrames fs).heap = h182 from e182]
                exact ⟨rfl, N182, K182, f183, f184, f185, f186, f187, f189, f190, f191⟩
          · skip
            refine own_go (S' := T.setTop (mkF m 113 #[.val (.ref a0), .val (.ref a1), .val (.int (Int32.ofNat f)), .val (.int (Int32.ofNat l3)), .val (.int p4), .val (.int tb), .val (.int sa), .val (.int (Int32.ofNat i)), d] [(.int (Int32.ofNat i)), (.ref a0)])) (fun target kt => ?_) ?_
            · skip
              show Steps p.tables e below (T.setTop (mkF m 101 #[.val (.ref a0), .val (.ref a1), .val (.int (Int32.ofNat f)), .val (.int (Int32.ofNat l3)), .val (.int p4), .val (.int tb), .val (.int sa), .val (.int (Int32.ofNat i)), d] [(.int tb), (.ref a0)])) _
              refine XS.ifYes XL.here hx rfl (pc0 := 101) (pc' := 111) rfl (hb hby d8_101) rfl ((if0 _ _).trans (flt hc101).2.2.2) (by decide) (by decide) ?_
              show Steps p.tables e below (T.setTop (mkF m 111 #[.val (.ref a0), .val (.ref a1), .val (.int (Int32.ofNat f)), .val (.int (Int32.ofNat l3)), .val (.int p4), .val (.int tb), .val (.int sa), .val (.int (Int32.ofNat i)), d] [(.ref a0)])) _
              refine XS.iload XL.here hx rfl (hb hby d8_111) rfl ?_
              exact kt
            obtain ⟨T192, h192, X192, e192, W192, st192⟩ := putF XL hx hZ hown (host := "") (Or.inl (hw _ (List.mem_of_getElem? (i := 33) rfl))) Via.refl eL fl5 fl0 (Or.inl (hw _ (List.mem_of_getElem? (i := 34) rfl))) (hw _ (List.mem_of_getElem? (i := 20) rfl)) (ty := .int) (by decide) rfl rfl (g := (mkF m 113 #[.val (.ref a0), .val (.ref a1), .val (.int (Int32.ofNat f)), .val (.int (Int32.ofNat l3)), .val (.int p4), .val (.int tb), .val (.int sa), .val (.int (Int32.ofNat i)), d] [(.int (Int32.ofNat i)), (.ref a0)])) rfl rfl (hb hby d8_113)
            have f193 : Exa Z h192 a0 "com/example/long_walk/longwalk/EdgeListLine" := fl0.wr W192
            have f194 : Fld Z h192 a0 "com/example/long_walk/longwalk/EdgeListLine" "sourceStart" "I" (.int (0 : Int32)) := fl1.other W192 (Or.inr (slot_ne (Or.inl (hw _ (List.mem_of_getElem? (i := 55) rfl))) (Or.inl (hw _ (List.mem_of_getElem? (i := 34) rfl))) (by decide) (t := .int) (t' := .int) (by decide) (by decide)))
            have f195 : Fld Z h192 a0 "com/example/long_walk/longwalk/EdgeListLine" "sourceEnd" "I" (.int (0 : Int32)) := fl2.other W192 (Or.inr (slot_ne (Or.inl (hw _ (List.mem_of_getElem? (i := 57) rfl))) (Or.inl (hw _ (List.mem_of_getElem? (i := 34) rfl))) (by decide) (t := .int) (t' := .int) (by decide) (by decide)))
            have f196 : Fld Z h192 a0 "com/example/long_walk/longwalk/EdgeListLine" "targetStart" "I" (.int (0 : Int32)) := fl3.other W192 (Or.inr (slot_ne (Or.inl (hw _ (List.mem_of_getElem? (i := 59) rfl))) (Or.inl (hw _ (List.mem_of_getElem? (i := 34) rfl))) (by decide) (t := .int) (t' := .int) (by decide) (by decide)))
            have f197 : Fld Z h192 a0 "com/example/long_walk/longwalk/EdgeListLine" "targetEnd" "I" (.int (0 : Int32)) := fl4.other W192 (Or.inr (slot_ne (Or.inl (hw _ (List.mem_of_getElem? (i := 61) rfl))) (Or.inl (hw _ (List.mem_of_getElem? (i := 34) rfl))) (by decide) (t := .int) (t' := .int) (by decide) (by decide)))
            have f198 : Fld Z h192 a0 "com/example/long_walk/longwalk/EdgeListLine" "secondTab" "I" (.int x2) := fl6.other W192 (Or.inr (slot_ne (Or.inl (hw _ (List.mem_of_getElem? (i := 36) rfl))) (Or.inl (hw _ (List.mem_of_getElem? (i := 34) rfl))) (by decide) (t := .int) (t' := .int) (by decide) (by decide)))
            have f199 : Fld Z h192 a0 "com/example/long_walk/longwalk/EdgeListLine" "ascii" "Z" (.int (0 : Int32)) := fl7.other W192 (Or.inr (slot_ne (Or.inl (hw _ (List.mem_of_getElem? (i := 38) rfl))) (Or.inl (hw _ (List.mem_of_getElem? (i := 34) rfl))) (by decide) (t := .boolean) (t' := .int) (by decide) (by decide)))
            have f200 : own_AI Z h192 a1 .byte 8 g := fl8.other W192 (Ne.symm hne)
            have f201 : Fld Z h192 a0 "com/example/long_walk/longwalk/EdgeListLine" "firstTab" "I" (.int (Int32.ofNat i)) := fl5.same W192
            have Z192 : n0 ≤ h192.size := Nat.le_trans ZL (Keep.of_wr W192).1
            have K192 : Keep h0 h192 [a0] := KL.wr W192 (Or.inl (List.mem_of_getElem? (i := 0) rfl))
            have N192 := Fr.snoc X192 NL g_a0
            refine own_go (S' := T192.setTop (mkF m 116 #[.val (.ref a0), .val (.ref a1), .val (.int (Int32.ofNat f)), .val (.int (Int32.ofNat l3)), .val (.int p4), .val (.int tb), .val (.int sa), .val (.int (Int32.ofNat i)), d] [])) st192 ?_
            refine own_go (S' := T192.setTop (mkF m 120 #[.val (.ref a0), .val (.ref a1), .val (.int (Int32.ofNat f)), .val (.int (Int32.ofNat l3)), .val (.int p4), .val (.int tb), .val (.int sa), .val (.int (Int32.ofNat i)), d] [(.int (1 : Int32)), (.int tb), (.ref a0)])) (fun target kt => ?_) ?_
            · skip
              show Steps p.tables e below (T192.setTop (mkF m 116 #[.val (.ref a0), .val (.ref a1), .val (.int (Int32.ofNat f)), .val (.int (Int32.ofNat l3)), .val (.int p4), .val (.int tb), .val (.int sa), .val (.int (Int32.ofNat i)), d] [])) _
              refine XS.aloadN X192.here hx rfl (hb hby d8_116) rfl rfl ?_
              show Steps p.tables e below (T192.setTop (mkF m 117 #[.val (.ref a0), .val (.ref a1), .val (.int (Int32.ofNat f)), .val (.int (Int32.ofNat l3)), .val (.int p4), .val (.int tb), .val (.int sa), .val (.int (Int32.ofNat i)), d] [(.ref a0)])) _
              refine XS.iload X192.here hx rfl (hb hby d8_117) rfl ?_
              show Steps p.tables e below (T192.setTop (mkF m 119 #[.val (.ref a0), .val (.ref a1), .val (.int (Int32.ofNat f)), .val (.int (Int32.ofNat l3)), .val (.int p4), .val (.int tb), .val (.int sa), .val (.int (Int32.ofNat i)), d] [(.int tb), (.ref a0)])) _
              refine XS.iconst X192.here hx rfl (hb hby d8_119) ?_
              exact kt
            by_cases hc120 : (1 : Int32) < tb
            · skip
              refine own_go (S' := T192.setTop (mkF m 124 #[.val (.ref a0), .val (.ref a1), .val (.int (Int32.ofNat f)), .val (.int (Int32.ofNat l3)), .val (.int p4), .val (.int tb), .val (.int sa), .val (.int (Int32.ofNat i)), d] [(.ref a0), (.ref a0)])) (fun target kt => ?_) ?_
              · skip
                show Steps p.tables e below (T192.setTop (mkF m 120 #[.val (.ref a0), .val (.ref a1), .val (.int (Int32.ofNat f)), .val (.int (Int32.ofNat l3)), .val (.int p4), .val (.int tb), .val (.int sa), .val (.int (Int32.ofNat i)), d] [(.int (1 : Int32)), (.int tb), (.ref a0)])) _
                refine XS.icmpNo X192.here hx rfl (hb hby d8_120) rfl (tlt hc120).2.2.2 ?_
                show Steps p.tables e below (T192.setTop (mkF m 123 #[.val (.ref a0), .val (.ref a1), .val (.int (Int32.ofNat f)), .val (.int (Int32.ofNat l3)), .val (.int p4), .val (.int tb), .val (.int sa), .val (.int (Int32.ofNat i)), d] [(.ref a0)])) _
                refine XS.aloadN X192.here hx rfl (hb hby d8_123) rfl rfl ?_
                exact kt
              obtain ⟨T202, X202, e202, st202⟩ := getF X192 hx hZ hown (host := "") (Or.inl (hw _ (List.mem_of_getElem? (i := 35) rfl))) Via.refl e192 f198 (g := (mkF m 124 #[.val (.ref a0), .val (.ref a1), .val (.int (Int32.ofNat f)), .val (.int (Int32.ofNat l3)), .val (.int p4), .val (.int tb), .val (.int sa), .val (.int (Int32.ofNat i)), d] [(.ref a0), (.ref a0)])) rfl rfl (hb hby d8_124)
              refine own_go (S' := T202.setTop (mkF m 127 #[.val (.ref a0), .val (.ref a1), .val (.int (Int32.ofNat f)), .val (.int (Int32.ofNat l3)), .val (.int p4), .val (.int tb), .val (.int sa), .val (.int (Int32.ofNat i)), d] [(.int x2), (.ref a0)])) st202 ?_
              refine own_go (S' := T202.setTop (mkF m 132 #[.val (.ref a0), .val (.ref a1), .val (.int (Int32.ofNat f)), .val (.int (Int32.ofNat l3)), .val (.int p4), .val (.int tb), .val (.int sa), .val (.int (Int32.ofNat i)), d] [(.int x2), (.ref a0)])) (fun target kt => ?_) ?_
              · skip
                show Steps p.tables e below (T202.setTop (mkF m 127 #[.val (.ref a0), .val (.ref a1), .val (.int (Int32.ofNat f)), .val (.int (Int32.ofNat l3)), .val (.int p4), .val (.int tb), .val (.int sa), .val (.int (Int32.ofNat i)), d] [(.int x2), (.ref a0)])) _
                refine XS.goto X202.here hx rfl (pc0 := 127) (pc' := 132) rfl (hb hby d8_127) (by decide) (by decide) ?_
                exact kt
              obtain ⟨T203, h203, X203, e203, W203, st203⟩ := putF X202 hx hZ hown (host := "") (Or.inl (hw _ (List.mem_of_getElem? (i := 35) rfl))) Via.refl e202 f198 f193 (Or.inl (hw _ (List.mem_of_getElem? (i := 36) rfl))) (hw _ (List.mem_of_getElem? (i := 20) rfl)) (ty := .int) (by decide) rfl rfl (g := (mkF m 132 #[.val (.ref a0), .val (.ref a1), .val (.int (Int32.ofNat f)), .val (.int (Int32.ofNat l3)), .val (.int p4), .val (.int tb), .val (.int sa), .val (.int (Int32.ofNat i)), d] [(.int x2), (.ref a0)])) rfl rfl (hb hby d8_132)
              have f204 : Exa Z h203 a0 "com/example/long_walk/longwalk/EdgeListLine" := f193.wr W203
              have f205 : Fld Z h203 a0 "com/example/long_walk/longwalk/EdgeListLine" "sourceStart" "I" (.int (0 : Int32)) := f194.other W203 (Or.inr (slot_ne (Or.inl (hw _ (List.mem_of_getElem? (i := 55) rfl))) (Or.inl (hw _ (List.mem_of_getElem? (i := 36) rfl))) (by decide) (t := .int) (t' := .int) (by decide) (by decide)))
              have f206 : Fld Z h203 a0 "com/example/long_walk/longwalk/EdgeListLine" "sourceEnd" "I" (.int (0 : Int32)) := f195.other W203 (Or.inr (slot_ne (Or.inl (hw _ (List.mem_of_getElem? (i := 57) rfl))) (Or.inl (hw _ (List.mem_of_getElem? (i := 36) rfl))) (by decide) (t := .int) (t' := .int) (by decide) (by decide)))
              have f207 : Fld Z h203 a0 "com/example/long_walk/longwalk/EdgeListLine" "targetStart" "I" (.int (0 : Int32)) := f196.other W203 (Or.inr (slot_ne (Or.inl (hw _ (List.mem_of_getElem? (i := 59) rfl))) (Or.inl (hw _ (List.mem_of_getElem? (i := 36) rfl))) (by decide) (t := .int) (t' := .int) (by decide) (by decide)))
              have f208 : Fld Z h203 a0 "com/example/long_walk/longwalk/EdgeListLine" "targetEnd" "I" (.int (0 : Int32)) := f197.other W203 (Or.inr (slot_ne (Or.inl (hw _ (List.mem_of_getElem? (i := 61) rfl))) (Or.inl (hw _ (List.mem_of_getElem? (i := 36) rfl))) (by decide) (t := .int) (t' := .int) (by decide) (by decide)))
              have f209 : Fld Z h203 a0 "com/example/long_walk/longwalk/EdgeListLine" "ascii" "Z" (.int (0 : Int32)) := f199.other W203 (Or.inr (slot_ne (Or.inl (hw _ (List.mem_of_getElem? (i := 38) rfl))) (Or.inl (hw _ (List.mem_of_getElem? (i := 36) rfl))) (by decide) (t := .boolean) (t' := .int) (by decide) (by decide)))
              have f210 : own_AI Z h203 a1 .byte 8 g := f200.other W203 (Ne.symm hne)
              have f211 : Fld Z h203 a0 "com/example/long_walk/longwalk/EdgeListLine" "firstTab" "I" (.int (Int32.ofNat i)) := f201.other W203 (Or.inr (slot_ne (Or.inl (hw _ (List.mem_of_getElem? (i := 34) rfl))) (Or.inl (hw _ (List.mem_of_getElem? (i := 36) rfl))) (by decide) (t := .int) (t' := .int) (by decide) (by decide)))
              have f212 : Fld Z h203 a0 "com/example/long_walk/longwalk/EdgeListLine" "secondTab" "I" (.int x2) := f198.same W203
              have Z203 : n0 ≤ h203.size := Nat.le_trans Z192 (Keep.of_wr W203).1
              have K203 : Keep h0 h203 [a0] := K192.wr W203 (Or.inl (List.mem_of_getElem? (i := 0) rfl))
              have N203 := Fr.snoc X203 N192 g_a0
              refine own_go (S' := T203.setTop (mkF m 135 #[.val (.ref a0), .val (.ref a1), .val (.int (Int32.ofNat f)), .val (.int (Int32.ofNat l3)), .val (.int p4), .val (.int tb), .val (.int sa), .val (.int (Int32.ofNat i)), d] [])) st203 ?_
              refine own_go (S' := T203.setTop (mkF m 138 #[.val (.ref a0), .val (.ref a1), .val (.int (Int32.ofNat f)), .val (.int (Int32.ofNat l3)), .val (.int p4), .val (.int tb), .val (.int sa), .val (.int (Int32.ofNat i)), d] [(.int sa), (.ref a0)])) (fun target kt => ?_) ?_
              · skip
                show Steps p.tables e below (T203.setTop (mkF m 135 #[.val (.ref a0), .val (.ref a1), .val (.int (Int32.ofNat f)), .val (.int (Int32.ofNat l3)), .val (.int p4), .val (.int tb), .val (.int sa), .val (.int (Int32.ofNat i)), d] [])) _
                refine XS.aloadN X203.here hx rfl (hb hby d8_135) rfl rfl ?_
                show Steps p.tables e below (T203.setTop (mkF m 136 #[.val (.ref a0), .val (.ref a1), .val (.int (Int32.ofNat f)), .val (.int (Int32.ofNat l3)), .val (.int p4), .val (.int tb), .val (.int sa), .val (.int (Int32.ofNat i)), d] [(.ref a0)])) _
                refine XS.iload X203.here hx rfl (hb hby d8_136) rfl ?_
                exact kt
              obtain ⟨T213, h213, X213, e213, W213, st213⟩ := putFN X203 hx hZ hown (hw _ (List.mem_of_getElem? (i := 37) rfl)) Via.refl e203 f209 f204 (Or.inl (hw _ (List.mem_of_getElem? (i := 38) rfl))) (hw _ (List.mem_of_getElem? (i := 20) rfl)) (ty := .boolean) (v' := (.int sa)) (by decide) (own_nb1 has) (own_fb1 has) (g := (mkF m 138 #[.val (.ref a0), .val (.ref a1), .val (.int (Int32.ofNat f)), .val (.int (Int32.ofNat l3)), .val (.int p4), .val (.int tb), .val (.int sa), .val (.int (Int32.ofNat i)), d] [(.int sa), (.ref a0)])) rfl rfl (hb hby d8_138)
              have f214 : Exa Z h213 a0 "com/example/long_walk/longwalk/EdgeListLine" := f204.wr W213
              have f215 : Fld Z h213 a0 "com/example/long_walk/longwalk/EdgeListLine" "sourceStart" "I" (.int (0 : Int32)) := f205.other W213 (Or.inr (slot_ne (Or.inl (hw _ (List.mem_of_getElem? (i := 55) rfl))) (Or.inl (hw _ (List.mem_of_getElem? (i := 38) rfl))) (by decide) (t := .int) (t' := .boolean) (by decide) (by decide)))
              have f216 : Fld Z h213 a0 "com/example/long_walk/longwalk/EdgeListLine" "sourceEnd" "I" (.int (0 : Int32)) := f206.other W213 (Or.inr (slot_ne (Or.inl (hw _ (List.mem_of_getElem? (i := 57) rfl))) (Or.inl (hw _ (List.mem_of_getElem? (i := 38) rfl))) (by decide) (t := .int) (t' := .boolean) (by decide) (by decide)))
              have f217 : Fld Z h213 a0 "com/example/long_walk/longwalk/EdgeListLine" "targetStart" "I" (.int (0 : Int32)) := f207.other W213 (Or.inr (slot_ne (Or.inl (hw _ (List.mem_of_getElem? (i := 59) rfl))) (Or.inl (hw _ (List.mem_of_getElem? (i := 38) rfl))) (by decide) (t := .int) (t' := .boolean) (by decide) (by decide)))
              have f218 : Fld Z h213 a0 "com/example/long_walk/longwalk/EdgeListLine" "targetEnd" "I" (.int (0 : Int32)) := f208.other W213 (Or.inr (slot_ne (Or.inl (hw _ (List.mem_of_getElem? (i := 61) rfl))) (Or.inl (hw _ (List.mem_of_getElem? (i := 38) rfl))) (by decide) (t := .int) (t' := .boolean) (by decide) (by decide)))
              have f219 : own_AI Z h213 a1 .byte 8 g := f210.other W213 (Ne.symm hne)
              have f220 : Fld Z h213 a0 "com/example/long_walk/longwalk/EdgeListLine" "firstTab" "I" (.int (Int32.ofNat i)) := f211.other W213 (Or.inr (slot_ne (Or.inl (hw _ (List.mem_of_getElem? (i := 34) rfl))) (Or.inl (hw _ (List.mem_of_getElem? (i := 38) rfl))) (by decide) (t := .int) (t' := .boolean) (by decide) (by decide)))
              have f221 : Fld Z h213 a0 "com/example/long_walk/longwalk/EdgeListLine" "secondTab" "I" (.int x2) := f212.other W213 (Or.inr (slot_ne (Or.inl (hw _ (List.mem_of_getElem? (i := 36) rfl))) (Or.inl (hw _ (List.mem_of_getElem? (i := 38) rfl))) (by decide) (t := .int) (t' := .boolean) (by decide) (by decide)))
              have f222 : Fld Z h213 a0 "com/example/long_walk/longwalk/EdgeListLine" "ascii" "Z" (.int sa) := f209.same W213
              have Z213 : n0 ≤ h213.size := Nat.le_trans Z203 (Keep.of_wr W213).1
              have K213 : Keep h0 h213 [a0] := K203.wr W213 (Or.inl (List.mem_of_getElem? (i := 0) rfl))
              have N213 := Fr.snoc X213 N203 g_a0
              refine own_go (S' := T213.setTop (mkF m 141 #[.val (.ref a0), .val (.ref a1), .val (.int (Int32.ofNat f)), .val (.int (Int32.ofNat l3)), .val (.int p4), .val (.int tb), .val (.int sa), .val (.int (Int32.ofNat i)), d] [])) st213 ?_
              refine own_go (S' := T213.setTop (mkF m 143 #[.val (.ref a0), .val (.ref a1), .val (.int (Int32.ofNat f)), .val (.int (Int32.ofNat l3)), .val (.int p4), .val (.int tb), .val (.int sa), .val (.int (Int32.ofNat i)), d] [(.int (Int32.ofNat i))])) (fun target kt => ?_) ?_
              · skip
                show Steps p.tables e below (T213.setTop (mkF m 141 #[.val (.ref a0), .val (.ref a1), .val (.int (Int32.ofNat f)), .val (.int (Int32.ofNat l3)), .val (.int p4), .val (.int tb), .val (.int sa), .val (.int (Int32.ofNat i)), d] [])) _
                refine XS.iload X213.here hx rfl (hb hby d8_141) rfl ?_
                exact kt
              obtain ⟨fs, hr, hrun, hended, hW, hsame⟩ := X213.leave (v := some (.int (Int32.ofNat i))) (fun h => by rw [Bd.returns] at h; cases h)
              refine ⟨_, _, ?_, hrun, hended, _, _, rfl, ?_, ⟨_, rfl⟩, hW, hsame.mono (by decide) (by decide)⟩
              · exact retI X213 hx Bd.returns (hb hby d8_143) hr
              · skip
                rw [own_sc_brk (by first | exact hc17 | assumption) hc26]
                dsimp only
                rw [if_neg hc101, if_pos hc120]
                rw [show (T213.setFrames fs).heap = h213 from e213]
                exact ⟨rfl, N213, K213, f214, f215, f216, f217, f218, f220, f221, f222⟩
            · skip
              refine own_go (S' := T192.setTop (mkF m 132 #[.val (.ref a0), .val (.ref a1), .val (.int (Int32.ofNat f)), .val (.int (Int32.ofNat l3)), .val (.int p4), .val (.int tb), .val (.int sa), .val (.int (Int32.ofNat i)), d] [(.int (Int32.ofNat i)), (.ref a0)])) (fun target kt => ?_) ?_
              · skip
                show Steps p.tables e below (T192.setTop (mkF m 120 #[.val (.ref a0), .val (.ref a1), .val (.int (Int32.ofNat f)), .val (.int (Int32.ofNat l3)), .val (.int p4), .val (.int tb), .val (.int sa), .val (.int (Int32.ofNat i)), d] [(.int (1 : Int32)), (.int tb), (.ref a0)])) _
                refine XS.icmpYes X192.here hx rfl (pc0 := 120) (pc' := 130) rfl (hb hby d8_120) rfl (flt hc120).2.2.2 (by decide) (by decide) ?_
                show Steps p.tables e below (T192.setTop (mkF m 130 #[.val (.ref a0), .val (.ref a1), .val (.int (Int32.ofNat f)), .val (.int (Int32.ofNat l3)), .val (.int p4), .val (.int tb), .val (.int sa), .val (.int (Int32.ofNat i)), d] [(.ref a0)])) _
                refine XS.iload X192.here hx rfl (hb hby d8_130) rfl ?_
                exact kt
              obtain ⟨T223, h223, X223, e223, W223, st223⟩ := putF X192 hx hZ hown (host := "") (Or.inl (hw _ (List.mem_of_getElem? (i := 35) rfl))) Via.refl e192 f198 f193 (Or.inl (hw _ (List.mem_of_getElem? (i := 36) rfl))) (hw _ (List.mem_of_getElem? (i := 20) rfl)) (ty := .int) (by decide) rfl rfl (g := (mkF m 132 #[.val (.ref a0), .val (.ref a1), .val (.int (Int32.ofNat f)), .val (.int (Int32.ofNat l3)), .val (.int p4), .val (.int tb), .val (.int sa), .val (.int (Int32.ofNat i)), d] [(.int (Int32.ofNat i)), (.ref a0)])) rfl rfl (hb hby d8_132)
              have f224 : Exa Z h223 a0 "com/example/long_walk/longwalk/EdgeListLine" := f193.wr W223
              have f225 : Fld Z h223 a0 "com/example/long_walk/longwalk/EdgeListLine" "sourceStart" "I" (.int (0 : Int32)) := f194.other W223 (Or.inr (slot_ne (Or.inl (hw _ (List.mem_of_getElem? (i := 55) rfl))) (Or.inl (hw _ (List.mem_of_getElem? (i := 36) rfl))) (by decide) (t := .int) (t' := .int) (by decide) (by decide)))
              have f226 : Fld Z h223 a0 "com/example/long_walk/longwalk/EdgeListLine" "sourceEnd" "I" (.int (0 : Int32)) := f195.other W223 (Or.inr (slot_ne (Or.inl (hw _ (List.mem_of_getElem? (i := 57) rfl))) (Or.inl (hw _ (List.mem_of_getElem? (i := 36) rfl))) (by decide) (t := .int) (t' := .int) (by decide) (by decide)))
              have f227 : Fld Z h223 a0 "com/example/long_walk/longwalk/EdgeListLine" "targetStart" "I" (.int (0 : Int32)) := f196.other W223 (Or.inr (slot_ne (Or.inl (hw _ (List.mem_of_getElem? (i := 59) rfl))) (Or.inl (hw _ (List.mem_of_getElem? (i := 36) rfl))) (by decide) (t := .int) (t' := .int) (by decide) (by decide)))
              have f228 : Fld Z h223 a0 "com/example/long_walk/longwalk/EdgeListLine" "targetEnd" "I" (.int (0 : Int32)) := f197.other W223 (Or.inr (slot_ne (Or.inl (hw _ (List.mem_of_getElem? (i := 61) rfl))) (Or.inl (hw _ (List.mem_of_getElem? (i := 36) rfl))) (by decide) (t := .int) (t' := .int) (by decide) (by decide)))
              have f229 : Fld Z h223 a0 "com/example/long_walk/longwalk/EdgeListLine" "ascii" "Z" (.int (0 : Int32)) := f199.other W223 (Or.inr (slot_ne (Or.inl (hw _ (List.mem_of_getElem? (i := 38) rfl))) (Or.inl (hw _ (List.mem_of_getElem? (i := 36) rfl))) (by decide) (t := .boolean) (t' := .int) (by decide) (by decide)))
              have f230 : own_AI Z h223 a1 .byte 8 g := f200.other W223 (Ne.symm hne)
              have f231 : Fld Z h223 a0 "com/example/long_walk/longwalk/EdgeListLine" "firstTab" "I" (.int (Int32.ofNat i)) := f201.other W223 (Or.inr (slot_ne (Or.inl (hw _ (List.mem_of_getElem? (i := 34) rfl))) (Or.inl (hw _ (List.mem_of_getElem? (i := 36) rfl))) (by decide) (t := .int) (t' := .int) (by decide) (by decide)))
              have f232 : Fld Z h223 a0 "com/example/long_walk/longwalk/EdgeListLine" "secondTab" "I" (.int (Int32.ofNat i)) := f198.same W223
              have Z223 : n0 ≤ h223.size := Nat.le_trans Z192 (Keep.of_wr W223).1
              have K223 : Keep h0 h223 [a0] := K192.wr W223 (Or.inl (List.mem_of_getElem? (i := 0) rfl))
              have N223 := Fr.snoc X223 N192 g_a0
              refine own_go (S' := T223.setTop (mkF m 135 #[.val (.ref a0), .val (.ref a1), .val (.int (Int32.ofNat f)), .val (.int (Int32.ofNat l3)), .val (.int p4), .val (.int tb), .val (.int sa), .val (.int (Int32.ofNat i)), d] [])) st223 ?_
              refine own_go (S' := T223.setTop (mkF m 138 #[.val (.ref a0), .val (.ref a1), .val (.int (Int32.ofNat f)), .val (.int (Int32.ofNat l3)), .val (.int p4), .val (.int tb), .val (.int sa), .val (.int (Int32.ofNat i)), d] [(.int sa), (.ref a0)])) (fun target kt => ?_) ?_
              · skip
                show Steps p.tables e below (T223.setTop (mkF m 135 #[.val (.ref a0), .val (.ref a1), .val (.int (Int32.ofNat f)), .val (.int (Int32.ofNat l3)), .val (.int p4), .val (.int tb), .val (.int sa), .val (.int (Int32.ofNat i)), d] [])) _
                refine XS.aloadN X223.here hx rfl (hb hby d8_135) rfl rfl ?_
                show Steps p.tables e below (T223.setTop (mkF m 136 #[.val (.ref a0), .val (.ref a1), .val (.int (Int32.ofNat f)), .val (.int (Int32.ofNat l3)), .val (.int p4), .val (.int tb), .val (.int sa), .val (.int (Int32.ofNat i)), d] [(.ref a0)])) _
                refine XS.iload X223.here hx rfl (hb hby d8_136) rfl ?_
                exact kt
              obtain ⟨T233, h233, X233, e233, W233, st233⟩ := putFN X223 hx hZ hown (hw _ (List.mem_of_getElem? (i := 37) rfl)) Via.refl e223 f229 f224 (Or.inl (hw _ (List.mem_of_getElem? (i := 38) rfl))) (hw _ (List.mem_of_getElem? (i := 20) rfl)) (ty := .boolean) (v' := (.int sa)) (by decide) (own_nb1 has) (own_fb1 has) (g := (mkF m 138 #[.val (.ref a0), .val (.ref a1), .val (.int (Int32.ofNat f)), .val (.int (Int32.ofNat l3)), .val (.int p4), .val (.int tb), .val (.int sa), .val (.int (Int32.ofNat i)), d] [(.int sa), (.ref a0)])) rfl rfl (hb hby d8_138)
              have f234 : Exa Z h233 a0 "com/example/long_walk/longwalk/EdgeListLine" := f224.wr W233
              have f235 : Fld Z h233 a0 "com/example/long_walk/longwalk/EdgeListLine" "sourceStart" "I" (.int (0 : Int32)) := f225.other W233 (Or.inr (slot_ne (Or.inl (hw _ (List.mem_of_getElem? (i := 55) rfl))) (Or.inl (hw _ (List.mem_of_getElem? (i := 38) rfl))) (by decide) (t := .int) (t' := .boolean) (by decide) (by decide)))
              have f236 : Fld Z h233 a0 "com/example/long_walk/longwalk/EdgeListLine" "sourceEnd" "I" (.int (0 : Int32)) := f226.other W233 (Or.inr (slot_ne (Or.inl (hw _ (List.mem_of_getElem? (i := 57) rfl))) (Or.inl (hw _ (List.mem_of_getElem? (i := 38) rfl))) (by decide) (t := .int) (t' := .boolean) (by decide) (by decide)))
              have f237 : Fld Z h233 a0 "com/example/long_walk/longwalk/EdgeListLine" "targetStart" "I" (.int (0 : Int32)) := f227.other W233 (Or.inr (slot_ne (Or.inl (hw _ (List.mem_of_getElem? (i := 59) rfl))) (Or.inl (hw _ (List.mem_of_getElem? (i := 38) rfl))) (by decide) (t := .int) (t' := .boolean) (by decide) (by decide)))
              have f238 : Fld Z h233 a0 "com/example/long_walk/longwalk/EdgeListLine" "targetEnd" "I" (.int (0 : Int32)) := f228.other W233 (Or.inr (slot_ne (Or.inl (hw _ (List.mem_of_getElem? (i := 61) rfl))) (Or.inl (hw _ (List.mem_of_getElem? (i := 38) rfl))) (by decide) (t := .int) (t' := .boolean) (by decide) (by decide)))
              have f239 : own_AI Z h233 a1 .byte 8 g := f230.other W233 (Ne.symm hne)
              have f240 : Fld Z h233 a0 "com/example/long_walk/longwalk/EdgeListLine" "firstTab" "I" (.int (Int32.ofNat i)) := f231.other W233 (Or.inr (slot_ne (Or.inl (hw _ (List.mem_of_getElem? (i := 34) rfl))) (Or.inl (hw _ (List.mem_of_getElem? (i := 38) rfl))) (by decide) (t := .int) (t' := .boolean) (by decide) (by decide)))
              have f241 : Fld Z h233 a0 "com/example/long_walk/longwalk/EdgeListLine" "secondTab" "I" (.int (Int32.ofNat i)) := f232.other W233 (Or.inr (slot_ne (Or.inl (hw _ (List.mem_of_getElem? (i := 36) rfl))) (Or.inl (hw _ (List.mem_of_getElem? (i := 38) rfl))) (by decide) (t := .int) (t' := .boolean) (by decide) (by decide)))
              have f242 : Fld Z h233 a0 "com/example/long_walk/longwalk/EdgeListLine" "ascii" "Z" (.int sa) := f229.same W233
              have Z233 : n0 ≤ h233.size := Nat.le_trans Z223 (Keep.of_wr W233).1
              have K233 : Keep h0 h233 [a0] := K223.wr W233 (Or.inl (List.mem_of_getElem? (i := 0) rfl))
              have N233 := Fr.snoc X233 N223 g_a0
              refine own_go (S' := T233.setTop (mkF m 141 #[.val (.ref a0), .val (.ref a1), .val (.int (Int32.ofNat f)), .val (.int (Int32.ofNat l3)), .val (.int p4), .val (.int tb), .val (.int sa), .val (.int (Int32.ofNat i)), d] [])) st233 ?_
              refine own_go (S' := T233.setTop (mkF m 143 #[.val (.ref a0), .val (.ref a1), .val (.int (Int32.ofNat f)), .val (.int (Int32.ofNat l3)), .val (.int p4), .val (.int tb), .val (.int sa), .val (.int (Int32.ofNat i)), d] [(.int (Int32.ofNat i))])) (fun target kt => ?_) ?_
              · skip
                show Steps p.tables e below (T233.setTop (mkF m 141 #[.val (.ref a0), .val (.ref a1), .val (.int (Int32.ofNat f)), .val (.int (Int32.ofNat l3)), .val (.int p4), .val (.int tb), .val (.int sa), .val (.int (Int32.ofNat i)), d] [])) _
                refine XS.iload X233.here hx rfl (hb hby d8_141) rfl ?_
                exact kt
              obtain ⟨fs, hr, hrun, hended, hW, hsame⟩ := X233.leave (v := some (.int (Int32.ofNat i))) (fun h => by rw [Bd.returns] at h; cases h)
              refine ⟨_, _, ?_, hrun, hended, _, _, rfl, ?_, ⟨_, rfl⟩, hW, hsame.mono (by decide) (by decide)⟩
              · exact retI X233 hx Bd.returns (hb hby d8_143) hr
              · skip
                rw [own_sc_brk (by first | exact hc17 | assumption) hc26]
                dsimp only
                rw [if_neg hc101, if_neg hc120]
                rw [show (T233.setFrames fs).heap = h233 from e233]
                exact ⟨rfl, N233, K233, f234, f235, f236, f237, f238, f240, f241, f242⟩
        · skip
          refine own_go (S' := T.setTop (mkF m 32 #[.val (.ref a0), .val (.ref a1), .val (.int (Int32.ofNat f)), .val (.int (Int32.ofNat l3)), .val (.int p4), .val (.int tb), .val (.int sa), .val (.int (Int32.ofNat i)), d] [(.int (Int32.ofNat i)), (.ref a1)])) (fun target kt => ?_) ?_
          · skip
            show Steps p.tables e below (T.setTop (mkF m 26 #[.val (.ref a0), .val (.ref a1), .val (.int (Int32.ofNat f)), .val (.int (Int32.ofNat l3)), .val (.int p4), .val (.int tb), .val (.int sa), .val (.int (Int32.ofNat i)), d] [(.int (10 : Int32)), (.int (g i))])) _
            refine XS.icmpNo XL.here hx rfl (hb hby d8_26) rfl (feq hc26).1 ?_
            show Steps p.tables e below (T.setTop (mkF m 29 #[.val (.ref a0), .val (.ref a1), .val (.int (Int32.ofNat f)), .val (.int (Int32.ofNat l3)), .val (.int p4), .val (.int tb), .val (.int sa), .val (.int (Int32.ofNat i)), d] [])) _
            refine XS.aloadN XL.here hx rfl (hb hby d8_29) rfl rfl ?_
            show Steps p.tables e below (T.setTop (mkF m 30 #[.val (.ref a0), .val (.ref a1), .val (.int (Int32.ofNat f)), .val (.int (Int32.ofNat l3)), .val (.int p4), .val (.int tb), .val (.int sa), .val (.int (Int32.ofNat i)), d] [(.ref a1)])) _
            refine XS.iload XL.here hx rfl (hb hby d8_30) rfl ?_
            exact kt
          obtain ⟨c243, Ar243, S243, M243, H243⟩ := id fl8
          have hj243 : ¬ (Int32.ofNat i) < 0 ∧ ((Int32.ofNat i)).toNatClampNeg < 8 := (own_inb (by omega))
          have st243 : ∀ target, Steps p.tables e below (T.setTop (mkF m 33 #[.val (.ref a0), .val (.ref a1), .val (.int (Int32.ofNat f)), .val (.int (Int32.ofNat l3)), .val (.int p4), .val (.int tb), .val (.int sa), .val (.int (Int32.ofNat i)), d] [(.int (g ((Int32.ofNat i)).toNatClampNeg))])) target → Steps p.tables e below (T.setTop (mkF m 32 #[.val (.ref a0), .val (.ref a1), .val (.int (Int32.ofNat f)), .val (.int (Int32.ofNat l3)), .val (.int p4), .val (.int tb), .val (.int sa), .val (.int (Int32.ofNat i)), d] [(.int (Int32.ofNat i)), (.ref a1)])) target := fun target kt => XL.baloadBytes hx (j := (Int32.ofNat i)) (v := (.int (g ((Int32.ofNat i)).toNatClampNeg))) (by rw [eL]; exact Ar243.1) (State.isArrayOf_alike hZ.alike Ar243.2.1) Ar243.2.2 (own_in S243 hj243) (H243 _ hj243.2) (g := (mkF m 32 #[.val (.ref a0), .val (.ref a1), .val (.int (Int32.ofNat f)), .val (.int (Int32.ofNat l3)), .val (.int p4), .val (.int tb), .val (.int sa), .val (.int (Int32.ofNat i)), d] [(.int (Int32.ofNat i)), (.ref a1)])) rfl rfl (hb hby d8_32) _ kt
          refine own_go (S' := T.setTop (mkF m 33 #[.val (.ref a0), .val (.ref a1), .val (.int (Int32.ofNat f)), .val (.int (Int32.ofNat l3)), .val (.int p4), .val (.int tb), .val (.int sa), .val (.int (Int32.ofNat i)), d] [(.int (g ((Int32.ofNat i)).toNatClampNeg))])) st243 ?_
          rw [show (g ((Int32.ofNat i)).toNatClampNeg) = (g i) from congrArg g (own_clamp (by omega))]
          obtain ⟨bb, h_bb⟩ : ∃ z : Int32, z = (g i) := ⟨_, rfl⟩
          refine own_go (S' := T.setTop (mkF m 35 #[.val (.ref a0), .val (.ref a1), .val (.int (Int32.ofNat f)), .val (.int (Int32.ofNat l3)), .val (.int p4), .val (.int tb), .val (.int sa), .val (.int (Int32.ofNat i)), .val (.int bb)] [])) (fun target kt => ?_) ?_
          · subst h_bb
            show Steps p.tables e below (T.setTop (mkF m 33 #[.val (.ref a0), .val (.ref a1), .val (.int (Int32.ofNat f)), .val (.int (Int32.ofNat l3)), .val (.int p4), .val (.int tb), .val (.int sa), .val (.int (Int32.ofNat i)), d] [(.int (g i))])) _
            refine XS.istore XL.here hx rfl (hb hby d8_33) rfl (l' := #[.val (.ref a0), .val (.ref a1), .val (.int (Int32.ofNat f)), .val (.int (Int32.ofNat l3)), .val (.int p4), .val (.int tb), .val (.int sa), .val (.int (Int32.ofNat i)), .val (.int (g i))]) (by rcases h_d with rfl | ⟨w, rfl, hw⟩ <;> first | rfl | (cases w <;> first | rfl | (simp [Value.category] at hw))) ?_
            exact kt
          refine own_go (S' := T.setTop (mkF m 39 #[.val (.ref a0), .val (.ref a1), .val (.int (Int32.ofNat f)), .val (.int (Int32.ofNat l3)), .val (.int p4), .val (.int tb), .val (.int sa), .val (.int (Int32.ofNat i)), .val (.int bb)] [(.int (9 : Int32)), (.int bb)])) (fun target kt => ?_) ?_
          · skip
            show Steps p.tables e below (T.setTop (mkF m 35 #[.val (.ref a0), .val (.ref a1), .val (.int (Int32.ofNat f)), .val (.int (Int32.ofNat l3)), .val (.int p4), .val (.int tb), .val (.int sa), .val (.int (Int32.ofNat i)), .val (.int bb)] [])) _
            refine XS.iload XL.here hx rfl (hb hby d8_35) rfl ?_
            show Steps p.tables e below (T.setTop (mkF m 37 #[.val (.ref a0), .val (.ref a1), .val (.int (Int32.ofNat f)), .val (.int (Int32.ofNat l3)), .val (.int p4), .val (.int tb), .val (.int sa), .val (.int (Int32.ofNat i)), .val (.int bb)] [(.int bb)])) _
            refine XS.bipush XL.here hx rfl (hb hby d8_37) ?_
            exact kt
          by_cases hc39 : bb = (9 : Int32)
          · skip
            refine own_go (S' := T.setTop (mkF m 44 #[.val (.ref a0), .val (.ref a1), .val (.int (Int32.ofNat f)), .val (.int (Int32.ofNat l3)), .val (.int p4), .val (.int tb), .val (.int sa), .val (.int (Int32.ofNat i)), .val (.int bb)] [(.int tb)])) (fun target kt => ?_) ?_
            · skip
              show Steps p.tables e below (T.setTop (mkF m 39 #[.val (.ref a0), .val (.ref a1), .val (.int (Int32.ofNat f)), .val (.int (Int32.ofNat l3)), .val (.int p4), .val (.int tb), .val (.int sa), .val (.int (Int32.ofNat i)), .val (.int bb)] [(.int (9 : Int32)), (.int bb)])) _
              refine XS.icmpNo XL.here hx rfl (hb hby d8_39) rfl (teq hc39).2 ?_
              show Steps p.tables e below (T.setTop (mkF m 42 #[.val (.ref a0), .val (.ref a1), .val (.int (Int32.ofNat f)), .val (.int (Int32.ofNat l3)), .val (.int p4), .val (.int tb), .val (.int sa), .val (.int (Int32.ofNat i)), .val (.int bb)] [])) _
              refine XS.iload XL.here hx rfl (hb hby d8_42) rfl ?_
              exact kt
            by_cases hc44 : tb = (0 : Int32)
            · skip
              refine own_go (S' := T.setTop (mkF m 50 #[.val (.ref a0), .val (.ref a1), .val (.int (Int32.ofNat f)), .val (.int (Int32.ofNat l3)), .val (.int p4), .val (.int tb), .val (.int sa), .val (.int (Int32.ofNat i)), .val (.int bb)] [(.int (Int32.ofNat i)), (.ref a0)])) (fun target kt => ?_) ?_
              · skip
                show Steps p.tables e below (T.setTop (mkF m 44 #[.val (.ref a0), .val (.ref a1), .val (.int (Int32.ofNat f)), .val (.int (Int32.ofNat l3)), .val (.int p4), .val (.int tb), .val (.int sa), .val (.int (Int32.ofNat i)), .val (.int bb)] [(.int tb)])) _
                refine XS.ifNo XL.here hx rfl (hb hby d8_44) rfl ((if0 _ _).trans (teq hc44).2) ?_
                show Steps p.tables e below (T.setTop (mkF m 47 #[.val (.ref a0), .val (.ref a1), .val (.int (Int32.ofNat f)), .val (.int (Int32.ofNat l3)), .val (.int p4), .val (.int tb), .val (.int sa), .val (.int (Int32.ofNat i)), .val (.int bb)] [])) _
                refine XS.aloadN XL.here hx rfl (hb hby d8_47) rfl rfl ?_
                show Steps p.tables e below (T.setTop (mkF m 48 #[.val (.ref a0), .val (.ref a1), .val (.int (Int32.ofNat f)), .val (.int (Int32.ofNat l3)), .val (.int p4), .val (.int tb), .val (.int sa), .val (.int (Int32.ofNat i)), .val (.int bb)] [(.ref a0)])) _
                refine XS.iload XL.here hx rfl (hb hby d8_48) rfl ?_
                exact kt
              obtain ⟨T244, h244, X244, e244, W244, st244⟩ := putF XL hx hZ hown (host := "") (Or.inl (hw _ (List.mem_of_getElem? (i := 33) rfl))) Via.refl eL fl5 fl0 (Or.inl (hw _ (List.mem_of_getElem? (i := 34) rfl))) (hw _ (List.mem_of_getElem? (i := 20) rfl)) (ty := .int) (by decide) rfl rfl (g := (mkF m 50 #[.val (.ref a0), .val (.ref a1), .val (.int (Int32.ofNat f)), .val (.int (Int32.ofNat l3)), .val (.int p4), .val (.int tb), .val (.int sa), .val (.int (Int32.ofNat i)), .val (.int bb)] [(.int (Int32.ofNat i)), (.ref a0)])) rfl rfl (hb hby d8_50)
              have f245 : Exa Z h244 a0 "com/example/long_walk/longwalk/EdgeListLine" := fl0.wr W244
              have f246 : Fld Z h244 a0 "com/example/long_walk/longwalk/EdgeListLine" "sourceStart" "I" (.int (0 : Int32)) := fl1.other W244 (Or.inr (slot_ne (Or.inl (hw _ (List.mem_of_getElem? (i := 55) rfl))) (Or.inl (hw _ (List.mem_of_getElem? (i := 34) rfl))) (by decide) (t := .int) (t' := .int) (by decide) (by decide)))
              have f247 : Fld Z h244 a0 "com/example/long_walk/longwalk/EdgeListLine" "sourceEnd" "I" (.int (0 : Int32)) := fl2.other W244 (Or.inr (slot_ne (Or.inl (hw _ (List.mem_of_getElem? (i := 57) rfl))) (Or.inl (hw _ (List.mem_of_getElem? (i := 34) rfl))) (by decide) (t := .int) (t' := .int) (by decide) (by decide)))
              have f248 : Fld Z h244 a0 "com/example/long_walk/longwalk/EdgeListLine" "targetStart" "I" (.int (0 : Int32)) := fl3.other W244 (Or.inr (slot_ne (Or.inl (hw _ (List.mem_of_getElem? (i := 59) rfl))) (Or.inl (hw _ (List.mem_of_getElem? (i := 34) rfl))) (by decide) (t := .int) (t' := .int) (by decide) (by decide)))
              have f249 : Fld Z h244 a0 "com/example/long_walk/longwalk/EdgeListLine" "targetEnd" "I" (.int (0 : Int32)) := fl4.other W244 (Or.inr (slot_ne (Or.inl (hw _ (List.mem_of_getElem? (i := 61) rfl))) (Or.inl (hw _ (List.mem_of_getElem? (i := 34) rfl))) (by decide) (t := .int) (t' := .int) (by decide) (by decide)))
              have f250 : Fld Z h244 a0 "com/example/long_walk/longwalk/EdgeListLine" "secondTab" "I" (.int x2) := fl6.other W244 (Or.inr (slot_ne (Or.inl (hw _ (List.mem_of_getElem? (i := 36) rfl))) (Or.inl (hw _ (List.mem_of_getElem? (i := 34) rfl))) (by decide) (t := .int) (t' := .int) (by decide) (by decide)))
              have f251 : Fld Z h244 a0 "com/example/long_walk/longwalk/EdgeListLine" "ascii" "Z" (.int (0 : Int32)) := fl7.other W244 (Or.inr (slot_ne (Or.inl (hw _ (List.mem_of_getElem? (i := 38) rfl))) (Or.inl (hw _ (List.mem_of_getElem? (i := 34) rfl))) (by decide) (t := .boolean) (t' := .int) (by decide) (by decide)))
              have f252 : own_AI Z h244 a1 .byte 8 g := fl8.other W244 (Ne.symm hne)
              have f253 : Fld Z h244 a0 "com/example/long_walk/longwalk/EdgeListLine" "firstTab" "I" (.int (Int32.ofNat i)) := fl5.same W244
              have Z244 : n0 ≤ h244.size := Nat.le_trans ZL (Keep.of_wr W244).1
              have K244 : Keep h0 h244 [a0] := KL.wr W244 (Or.inl (List.mem_of_getElem? (i := 0) rfl))
              have N244 := Fr.snoc X244 NL g_a0
              refine own_go (S' := T244.setTop (mkF m 53 #[.val (.ref a0), .val (.ref a1), .val (.int (Int32.ofNat f)), .val (.int (Int32.ofNat l3)), .val (.int p4), .val (.int tb), .val (.int sa), .val (.int (Int32.ofNat i)), .val (.int bb)] [])) st244 ?_
              obtain ⟨i1, h_i1⟩ : ∃ z : Int32, z = ((Int32.ofNat i) + (1 : Int32)) := ⟨_, rfl⟩
              refine own_go (S' := T244.setTop (mkF m 95 #[.val (.ref a0), .val (.ref a1), .val (.int (Int32.ofNat f)), .val (.int (Int32.ofNat l3)), .val (.int p4), .val (.int (1 : Int32)), .val (.int sa), .val (.int i1), .val (.int bb)] [])) (fun target kt => ?_) ?_
              · subst h_i1
                show Steps p.tables e below (T244.setTop (mkF m 53 #[.val (.ref a0), .val (.ref a1), .val (.int (Int32.ofNat f)), .val (.int (Int32.ofNat l3)), .val (.int p4), .val (.int tb), .val (.int sa), .val (.int (Int32.ofNat i)), .val (.int bb)] [])) _
                refine XS.iconst X244.here hx rfl (hb hby d8_53) ?_
                show Steps p.tables e below (T244.setTop (mkF m 54 #[.val (.ref a0), .val (.ref a1), .val (.int (Int32.ofNat f)), .val (.int (Int32.ofNat l3)), .val (.int p4), .val (.int tb), .val (.int sa), .val (.int (Int32.ofNat i)), .val (.int bb)] [(.int (1 : Int32))])) _
                refine XS.istore X244.here hx rfl (hb hby d8_54) rfl (l' := #[.val (.ref a0), .val (.ref a1), .val (.int (Int32.ofNat f)), .val (.int (Int32.ofNat l3)), .val (.int p4), .val (.int (1 : Int32)), .val (.int sa), .val (.int (Int32.ofNat i)), .val (.int bb)]) rfl ?_
                show Steps p.tables e below (T244.setTop (mkF m 56 #[.val (.ref a0), .val (.ref a1), .val (.int (Int32.ofNat f)), .val (.int (Int32.ofNat l3)), .val (.int p4), .val (.int (1 : Int32)), .val (.int sa), .val (.int (Int32.ofNat i)), .val (.int bb)] [])) _
                refine XS.goto X244.here hx rfl (pc0 := 56) (pc' := 92) rfl (hb hby d8_56) (by decide) (by decide) ?_
                show Steps p.tables e below (T244.setTop (mkF m 92 #[.val (.ref a0), .val (.ref a1), .val (.int (Int32.ofNat f)), .val (.int (Int32.ofNat l3)), .val (.int p4), .val (.int (1 : Int32)), .val (.int sa), .val (.int (Int32.ofNat i)), .val (.int bb)] [])) _
                refine XS.iinc X244.here hx rfl (hb hby d8_92) rfl (l' := #[.val (.ref a0), .val (.ref a1), .val (.int (Int32.ofNat f)), .val (.int (Int32.ofNat l3)), .val (.int p4), .val (.int (1 : Int32)), .val (.int sa), .val (.int ((Int32.ofNat i) + (1 : Int32))), .val (.int bb)]) rfl ?_
                exact kt
              have hb_i1 : i1 = (Int32.ofNat (i + 1)) := h_i1.trans (own_one i)
              subst hb_i1
              refine own_go (S' := T244.setTop (mkF m 9 #[.val (.ref a0), .val (.ref a1), .val (.int (Int32.ofNat f)), .val (.int (Int32.ofNat l3)), .val (.int p4), .val (.int (1 : Int32)), .val (.int sa), .val (.int (Int32.ofNat (i + 1))), .val (.int bb)] [])) (fun target kt => ?_) ?_
              · skip
                show Steps p.tables e below (T244.setTop (mkF m 95 #[.val (.ref a0), .val (.ref a1), .val (.int (Int32.ofNat f)), .val (.int (Int32.ofNat l3)), .val (.int p4), .val (.int (1 : Int32)), .val (.int sa), .val (.int (Int32.ofNat (i + 1))), .val (.int bb)] [])) _
                refine XS.goto X244.here hx rfl (pc0 := 95) (pc' := 9) rfl (hb hby d8_95) (by decide) (by decide) ?_
                exact kt
              rw [(own_sc_t0 (Or.inr hc26) h_bb hc39 hc44 : own_sc g p4 (k + 1) i tb sa x1 x2 = own_sc g p4 k (i + 1) (1 : Int32) sa (Int32.ofNat i) x2)]
              exact ih (i + 1) (1 : Int32) sa (Int32.ofNat i) x2 (.val (.int bb)) T244 h244 _ (by omega) (by omega) (has) (One.val rfl) X244 e244 N244 Z244 K244 f245 f246 f247 f248 f249 f253 f250 f251 f252
            · skip
              refine own_go (S' := T.setTop (mkF m 69 #[.val (.ref a0), .val (.ref a1), .val (.int (Int32.ofNat f)), .val (.int (Int32.ofNat l3)), .val (.int p4), .val (.int tb), .val (.int sa), .val (.int (Int32.ofNat i)), .val (.int bb)] [(.int (1 : Int32)), (.int tb)])) (fun target kt => ?_) ?_
              · skip
                show Steps p.tables e below (T.setTop (mkF m 44 #[.val (.ref a0), .val (.ref a1), .val (.int (Int32.ofNat f)), .val (.int (Int32.ofNat l3)), .val (.int p4), .val (.int tb), .val (.int sa), .val (.int (Int32.ofNat i)), .val (.int bb)] [(.int tb)])) _
                refine XS.ifYes XL.here hx rfl (pc0 := 44) (pc' := 59) rfl (hb hby d8_44) rfl ((if0 _ _).trans (feq hc44).2) (by decide) (by decide) ?_
                show Steps p.tables e below (T.setTop (mkF m 59 #[.val (.ref a0), .val (.ref a1), .val (.int (Int32.ofNat f)), .val (.int (Int32.ofNat l3)), .val (.int p4), .val (.int tb), .val (.int sa), .val (.int (Int32.ofNat i)), .val (.int bb)] [])) _
                refine XS.iload XL.here hx rfl (hb hby d8_59) rfl ?_
                show Steps p.tables e below (T.setTop (mkF m 61 #[.val (.ref a0), .val (.ref a1), .val (.int (Int32.ofNat f)), .val (.int (Int32.ofNat l3)), .val (.int p4), .val (.int tb), .val (.int sa), .val (.int (Int32.ofNat i)), .val (.int bb)] [(.int bb)])) _
                refine XS.bipush XL.here hx rfl (hb hby d8_61) ?_
                show Steps p.tables e below (T.setTop (mkF m 63 #[.val (.ref a0), .val (.ref a1), .val (.int (Int32.ofNat f)), .val (.int (Int32.ofNat l3)), .val (.int p4), .val (.int tb), .val (.int sa), .val (.int (Int32.ofNat i)), .val (.int bb)] [(.int (9 : Int32)), (.int bb)])) _
                refine XS.icmpNo XL.here hx rfl (hb hby d8_63) rfl (teq hc39).2 ?_
                show Steps p.tables e below (T.setTop (mkF m 66 #[.val (.ref a0), .val (.ref a1), .val (.int (Int32.ofNat f)), .val (.int (Int32.ofNat l3)), .val (.int p4), .val (.int tb), .val (.int sa), .val (.int (Int32.ofNat i)), .val (.int bb)] [])) _
                refine XS.iload XL.here hx rfl (hb hby d8_66) rfl ?_
                show Steps p.tables e below (T.setTop (mkF m 68 #[.val (.ref a0), .val (.ref a1), .val (.int (Int32.ofNat f)), .val (.int (Int32.ofNat l3)), .val (.int p4), .val (.int tb), .val (.int sa), .val (.int (Int32.ofNat i)), .val (.int bb)] [(.int tb)])) _
                refine XS.iconst XL.here hx rfl (hb hby d8_68) ?_
                exact kt
              by_cases hc69 : tb = (1 : Int32)
              · skip
                refine own_go (S' := T.setTop (mkF m 75 #[.val (.ref a0), .val (.ref a1), .val (.int (Int32.ofNat f)), .val (.int (Int32.ofNat l3)), .val (.int p4), .val (.int tb), .val (.int sa), .val (.int (Int32.ofNat i)), .val (.int bb)] [(.int (Int32.ofNat i)), (.ref a0)])) (fun target kt => ?_) ?_
                · skip
                  show Steps p.tables e below (T.setTop (mkF m 69 #[.val (.ref a0), .val (.ref a1), .val (.int (Int32.ofNat f)), .val (.int (Int32.ofNat l3)), .val (.int p4), .val (.int tb), .val (.int sa), .val (.int (Int32.ofNat i)), .val (.int bb)] [(.int (1 : Int32)), (.int tb)])) _
                  refine XS.icmpNo XL.here hx rfl (hb hby d8_69) rfl (teq hc69).2 ?_
                  show Steps p.tables e below (T.setTop (mkF m 72 #[.val (.ref a0), .val (.ref a1), .val (.int (Int32.ofNat f)), .val (.int (Int32.ofNat l3)), .val (.int p4), .val (.int tb), .val (.int sa), .val (.int (Int32.ofNat i)), .val (.int bb)] [])) _
                  refine XS.aloadN XL.here hx rfl (hb hby d8_72) rfl rfl ?_
                  show Steps p.tables e below (T.setTop (mkF m 73 #[.val (.ref a0), .val (.ref a1), .val (.int (Int32.ofNat f)), .val (.int (Int32.ofNat l3)), .val (.int p4), .val (.int tb), .val (.int sa), .val (.int (Int32.ofNat i)), .val (.int bb)] [(.ref a0)])) _
                  refine XS.iload XL.here hx rfl (hb hby d8_73) rfl ?_
                  exact kt
                obtain ⟨T254, h254, X254, e254, W254, st254⟩ := putF XL hx hZ hown (host := "") (Or.inl (hw _ (List.mem_of_getElem? (i := 35) rfl))) Via.refl eL fl6 fl0 (Or.inl (hw _ (List.mem_of_getElem? (i := 36) rfl))) (hw _ (List.mem_of_getElem? (i := 20) rfl)) (ty := .int) (by decide) rfl rfl (g := (mkF m 75 #[.val (.ref a0), .val (.ref a1), .val (.int (Int32.ofNat f)), .val (.int (Int32.ofNat l3)), .val (.int p4), .val (.int tb), .val (.int sa), .val (.int (Int32.ofNat i)), .val (.int bb)] [(.int (Int32.ofNat i)), (.ref a0)])) rfl rfl (hb hby d8_75)
                have f255 : Exa Z h254 a0 "com/example/long_walk/longwalk/EdgeListLine" := fl0.wr W254
                have f256 : Fld Z h254 a0 "com/example/long_walk/longwalk/EdgeListLine" "sourceStart" "I" (.int (0 : Int32)) := fl1.other W254 (Or.inr (slot_ne (Or.inl (hw _ (List.mem_of_getElem? (i := 55) rfl))) (Or.inl (hw _ (List.mem_of_getElem? (i := 36) rfl))) (by decide) (t := .int) (t' := .int) (by decide) (by decide)))
                have f257 : Fld Z h254 a0 "com/example/long_walk/longwalk/EdgeListLine" "sourceEnd" "I" (.int (0 : Int32)) := fl2.other W254 (Or.inr (slot_ne (Or.inl (hw _ (List.mem_of_getElem? (i := 57) rfl))) (Or.inl (hw _ (List.mem_of_getElem? (i := 36) rfl))) (by decide) (t := .int) (t' := .int) (by decide) (by decide)))
                have f258 : Fld Z h254 a0 "com/example/long_walk/longwalk/EdgeListLine" "targetStart" "I" (.int (0 : Int32)) := fl3.other W254 (Or.inr (slot_ne (Or.inl (hw _ (List.mem_of_getElem? (i := 59) rfl))) (Or.inl (hw _ (List.mem_of_getElem? (i := 36) rfl))) (by decide) (t := .int) (t' := .int) (by decide) (by decide)))
                have f259 : Fld Z h254 a0 "com/example/long_walk/longwalk/EdgeListLine" "targetEnd" "I" (.int (0 : Int32)) := fl4.other W254 (Or.inr (slot_ne (Or.inl (hw _ (List.mem_of_getElem? (i := 61) rfl))) (Or.inl (hw _ (List.mem_of_getElem? (i := 36) rfl))) (by decide) (t := .int) (t' := .int) (by decide) (by decide)))
                have f260 : Fld Z h254 a0 "com/example/long_walk/longwalk/EdgeListLine" "firstTab" "I" (.int x1) := fl5.other W254 (Or.inr (slot_ne (Or.inl (hw _ (List.mem_of_getElem? (i := 34) rfl))) (Or.inl (hw _ (List.mem_of_getElem? (i := 36) rfl))) (by decide) (t := .int) (t' := .int) (by decide) (by decide)))
                have f261 : Fld Z h254 a0 "com/example/long_walk/longwalk/EdgeListLine" "ascii" "Z" (.int (0 : Int32)) := fl7.other W254 (Or.inr (slot_ne (Or.inl (hw _ (List.mem_of_getElem? (i := 38) rfl))) (Or.inl (hw _ (List.mem_of_getElem? (i := 36) rfl))) (by decide) (t := .boolean) (t' := .int) (by decide) (by decide)))
                have f262 : own_AI Z h254 a1 .byte 8 g := fl8.other W254 (Ne.symm hne)
                have f263 : Fld Z h254 a0 "com/example/long_walk/longwalk/EdgeListLine" "secondTab" "I" (.int (Int32.ofNat i)) := fl6.same W254
                have Z254 : n0 ≤ h254.size := Nat.le_trans ZL (Keep.of_wr W254).1
                have K254 : Keep h0 h254 [a0] := KL.wr W254 (Or.inl (List.mem_of_getElem? (i := 0) rfl))
                have N254 := Fr.snoc X254 NL g_a0
                refine own_go (S' := T254.setTop (mkF m 78 #[.val (.ref a0), .val (.ref a1), .val (.int (Int32.ofNat f)), .val (.int (Int32.ofNat l3)), .val (.int p4), .val (.int tb), .val (.int sa), .val (.int (Int32.ofNat i)), .val (.int bb)] [])) st254 ?_
                obtain ⟨i1, h_i1⟩ : ∃ z : Int32, z = ((Int32.ofNat i) + (1 : Int32)) := ⟨_, rfl⟩
                refine own_go (S' := T254.setTop (mkF m 95 #[.val (.ref a0), .val (.ref a1), .val (.int (Int32.ofNat f)), .val (.int (Int32.ofNat l3)), .val (.int p4), .val (.int (2 : Int32)), .val (.int sa), .val (.int i1), .val (.int bb)] [])) (fun target kt => ?_) ?_
                · subst h_i1
                  show Steps p.tables e below (T254.setTop (mkF m 78 #[.val (.ref a0), .val (.ref a1), .val (.int (Int32.ofNat f)), .val (.int (Int32.ofNat l3)), .val (.int p4), .val (.int tb), .val (.int sa), .val (.int (Int32.ofNat i)), .val (.int bb)] [])) _
                  refine XS.iconst X254.here hx rfl (hb hby d8_78) ?_
                  show Steps p.tables e below (T254.setTop (mkF m 79 #[.val (.ref a0), .val (.ref a1), .val (.int (Int32.ofNat f)), .val (.int (Int32.ofNat l3)), .val (.int p4), .val (.int tb), .val (.int sa), .val (.int (Int32.ofNat i)), .val (.int bb)] [(.int (2 : Int32))])) _
                  refine XS.istore X254.here hx rfl (hb hby d8_79) rfl (l' := #[.val (.ref a0), .val (.ref a1), .val (.int (Int32.ofNat f)), .val (.int (Int32.ofNat l3)), .val (.int p4), .val (.int (2 : Int32)), .val (.int sa), .val (.int (Int32.ofNat i)), .val (.int bb)]) rfl ?_
                  show Steps p.tables e below (T254.setTop (mkF m 81 #[.val (.ref a0), .val (.ref a1), .val (.int (Int32.ofNat f)), .val (.int (Int32.ofNat l3)), .val (.int p4), .val (.int (2 : Int32)), .val (.int sa), .val (.int (Int32.ofNat i)), .val (.int bb)] [])) _
                  refine XS.goto X254.here hx rfl (pc0 := 81) (pc' := 92) rfl (hb hby d8_81) (by decide) (by decide) ?_
                  show Steps p.tables e below (T254.setTop (mkF m 92 #[.val (.ref a0), .val (.ref a1), .val (.int (Int32.ofNat f)), .val (.int (Int32.ofNat l3)), .val (.int p4), .val (.int (2 : Int32)), .val (.int sa), .val (.int (Int32.ofNat i)), .val (.int bb)] [])) _
                  refine XS.iinc X254.here hx rfl (hb hby d8_92) rfl (l' := #[.val (.ref a0), .val (.ref a1), .val (.int (Int32.ofNat f)), .val (.int (Int32.ofNat l3)), .val (.int p4), .val (.int (2 : Int32)), .val (.int sa), .val (.int ((Int32.ofNat i) + (1 : Int32))), .val (.int bb)]) rfl ?_
                  exact kt
                have hb_i1 : i1 = (Int32.ofNat (i + 1)) := h_i1.trans (own_one i)
                subst hb_i1
                refine own_go (S' := T254.setTop (mkF m 9 #[.val (.ref a0), .val (.ref a1), .val (.int (Int32.ofNat f)), .val (.int (Int32.ofNat l3)), .val (.int p4), .val (.int (2 : Int32)), .val (.int sa), .val (.int (Int32.ofNat (i + 1))), .val (.int bb)] [])) (fun target kt => ?_) ?_
                · skip
                  show Steps p.tables e below (T254.setTop (mkF m 95 #[.val (.ref a0), .val (.ref a1), .val (.int (Int32.ofNat f)), .val (.int (Int32.ofNat l3)), .val (.int p4), .val (.int (2 : Int32)), .val (.int sa), .val (.int (Int32.ofNat (i + 1))), .val (.int bb)] [])) _
                  refine XS.goto X254.here hx rfl (pc0 := 95) (pc' := 9) rfl (hb hby d8_95) (by decide) (by decide) ?_
                  exact kt
                rw [(own_sc_t1 (Or.inr hc26) h_bb hc39 hc44 hc69 : own_sc g p4 (k + 1) i tb sa x1 x2 = own_sc g p4 k (i + 1) (2 : Int32) sa x1 (Int32.ofNat i))]
                exact ih (i + 1) (2 : Int32) sa x1 (Int32.ofNat i) (.val (.int bb)) T254 h254 _ (by omega) (by omega) (has) (One.val rfl) X254 e254 N254 Z254 K254 f255 f256 f257 f258 f259 f260 f263 f261 f262
              · skip
                refine own_go (S' := T.setTop (mkF m 86 #[.val (.ref a0), .val (.ref a1), .val (.int (Int32.ofNat f)), .val (.int (Int32.ofNat l3)), .val (.int p4), .val (.int tb), .val (.int sa), .val (.int (Int32.ofNat i)), .val (.int bb)] [(.int bb)])) (fun target kt => ?_) ?_
                · skip
                  show Steps p.tables e below (T.setTop (mkF m 69 #[.val (.ref a0), .val (.ref a1), .val (.int (Int32.ofNat f)), .val (.int (Int32.ofNat l3)), .val (.int p4), .val (.int tb), .val (.int sa), .val (.int (Int32.ofNat i)), .val (.int bb)] [(.int (1 : Int32)), (.int tb)])) _
                  refine XS.icmpYes XL.here hx rfl (pc0 := 69) (pc' := 84) rfl (hb hby d8_69) rfl (feq hc69).2 (by decide) (by decide) ?_
                  show Steps p.tables e below (T.setTop (mkF m 84 #[.val (.ref a0), .val (.ref a1), .val (.int (Int32.ofNat f)), .val (.int (Int32.ofNat l3)), .val (.int p4), .val (.int tb), .val (.int sa), .val (.int (Int32.ofNat i)), .val (.int bb)] [])) _
                  refine XS.iload XL.here hx rfl (hb hby d8_84) rfl ?_
                  exact kt
                by_cases hc86 : bb < (0 : Int32)
                · skip
                  obtain ⟨i1, h_i1⟩ : ∃ z : Int32, z = ((Int32.ofNat i) + (1 : Int32)) := ⟨_, rfl⟩
                  refine own_go (S' := T.setTop (mkF m 95 #[.val (.ref a0), .val (.ref a1), .val (.int (Int32.ofNat f)), .val (.int (Int32.ofNat l3)), .val (.int p4), .val (.int tb), .val (.int (0 : Int32)), .val (.int i1), .val (.int bb)] [])) (fun target kt => ?_) ?_
                  · subst h_i1
                    show Steps p.tables e below (T.setTop (mkF m 86 #[.val (.ref a0), .val (.ref a1), .val (.int (Int32.ofNat f)), .val (.int (Int32.ofNat l3)), .val (.int p4), .val (.int tb), .val (.int sa), .val (.int (Int32.ofNat i)), .val (.int bb)] [(.int bb)])) _
                    refine XS.ifNo XL.here hx rfl (hb hby d8_86) rfl ((if0 _ _).trans (tlt hc86).2.1) ?_
                    show Steps p.tables e below (T.setTop (mkF m 89 #[.val (.ref a0), .val (.ref a1), .val (.int (Int32.ofNat f)), .val (.int (Int32.ofNat l3)), .val (.int p4), .val (.int tb), .val (.int sa), .val (.int (Int32.ofNat i)), .val (.int bb)] [])) _
                    refine XS.iconst XL.here hx rfl (hb hby d8_89) ?_
                    show Steps p.tables e below (T.setTop (mkF m 90 #[.val (.ref a0), .val (.ref a1), .val (.int (Int32.ofNat f)), .val (.int (Int32.ofNat l3)), .val (.int p4), .val (.int tb), .val (.int sa), .val (.int (Int32.ofNat i)), .val (.int bb)] [(.int (0 : Int32))])) _
                    refine XS.istore XL.here hx rfl (hb hby d8_90) rfl (l' := #[.val (.ref a0), .val (.ref a1), .val (.int (Int32.ofNat f)), .val (.int (Int32.ofNat l3)), .val (.int p4), .val (.int tb), .val (.int (0 : Int32)), .val (.int (Int32.ofNat i)), .val (.int bb)]) rfl ?_
                    show Steps p.tables e below (T.setTop (mkF m 92 #[.val (.ref a0), .val (.ref a1), .val (.int (Int32.ofNat f)), .val (.int (Int32.ofNat l3)), .val (.int p4), .val (.int tb), .val (.int (0 : Int32)), .val (.int (Int32.ofNat i)), .val (.int bb)] [])) _
                    refine XS.iinc XL.here hx rfl (hb hby d8_92) rfl (l' := #[.val (.ref a0), .val (.ref a1), .val (.int (Int32.ofNat f)), .val (.int (Int32.ofNat l3)), .val (.int p4), .val (.int tb), .val (.int (0 : Int32)), .val (.int ((Int32.ofNat i) + (1 : Int32))), .val (.int bb)]) rfl ?_
                    exact kt
                  have hb_i1 : i1 = (Int32.ofNat (i + 1)) := h_i1.trans (own_one i)
                  subst hb_i1
                  refine own_go (S' := T.setTop (mkF m 9 #[.val (.ref a0), .val (.ref a1), .val (.int (Int32.ofNat f)), .val (.int (Int32.ofNat l3)), .val (.int p4), .val (.int tb), .val (.int (0 : Int32)), .val (.int (Int32.ofNat (i + 1))), .val (.int bb)] [])) (fun target kt => ?_) ?_
                  · skip
                    show Steps p.tables e below (T.setTop (mkF m 95 #[.val (.ref a0), .val (.ref a1), .val (.int (Int32.ofNat f)), .val (.int (Int32.ofNat l3)), .val (.int p4), .val (.int tb), .val (.int (0 : Int32)), .val (.int (Int32.ofNat (i + 1))), .val (.int bb)] [])) _
                    refine XS.goto XL.here hx rfl (pc0 := 95) (pc' := 9) rfl (hb hby d8_95) (by decide) (by decide) ?_
                    exact kt
                  rw [(own_sc_neg (Or.inr hc26) h_bb hc86 : own_sc g p4 (k + 1) i tb sa x1 x2 = own_sc g p4 k (i + 1) tb (0 : Int32) x1 x2)]
                  exact ih (i + 1) tb (0 : Int32) x1 x2 (.val (.int bb)) T h _ (by omega) (by omega) (Or.inl rfl) (One.val rfl) XL eL NL ZL KL fl0 fl1 fl2 fl3 fl4 fl5 fl6 fl7 fl8
                · skip
                  obtain ⟨i1, h_i1⟩ : ∃ z : Int32, z = ((Int32.ofNat i) + (1 : Int32)) := ⟨_, rfl⟩
                  refine own_go (S' := T.setTop (mkF m 95 #[.val (.ref a0), .val (.ref a1), .val (.int (Int32.ofNat f)), .val (.int (Int32.ofNat l3)), .val (.int p4), .val (.int tb), .val (.int sa), .val (.int i1), .val (.int bb)] [])) (fun target kt => ?_) ?_
                  · subst h_i1
                    show Steps p.tables e below (T.setTop (mkF m 86 #[.val (.ref a0), .val (.ref a1), .val (.int (Int32.ofNat f)), .val (.int (Int32.ofNat l3)), .val (.int p4), .val (.int tb), .val (.int sa), .val (.int (Int32.ofNat i)), .val (.int bb)] [(.int bb)])) _
                    refine XS.ifYes XL.here hx rfl (pc0 := 86) (pc' := 92) rfl (hb hby d8_86) rfl ((if0 _ _).trans (flt hc86).2.1) (by decide) (by decide) ?_
                    show Steps p.tables e below (T.setTop (mkF m 92 #[.val (.ref a0), .val (.ref a1), .val (.int (Int32.ofNat f)), .val (.int (Int32.ofNat l3)), .val (.int p4), .val (.int tb), .val (.int sa), .val (.int (Int32.ofNat i)), .val (.int bb)] [])) _
                    refine XS.iinc XL.here hx rfl (hb hby d8_92) rfl (l' := #[.val (.ref a0), .val (.ref a1), .val (.int (Int32.ofNat f)), .val (.int (Int32.ofNat l3)), .val (.int p4), .val (.int tb), .val (.int sa), .val (.int ((Int32.ofNat i) + (1 : Int32))), .val (.int bb)]) rfl ?_
                    exact kt
                  have hb_i1 : i1 = (Int32.ofNat (i + 1)) := h_i1.trans (own_one i)
                  subst hb_i1
                  refine own_go (S' := T.setTop (mkF m 9 #[.val (.ref a0), .val (.ref a1), .val (.int (Int32.ofNat f)), .val (.int (Int32.ofNat l3)), .val (.int p4), .val (.int tb), .val (.int sa), .val (.int (Int32.ofNat (i + 1))), .val (.int bb)] [])) (fun target kt => ?_) ?_
                  · skip
                    show Steps p.tables e below (T.setTop (mkF m 95 #[.val (.ref a0), .val (.ref a1), .val (.int (Int32.ofNat f)), .val (.int (Int32.ofNat l3)), .val (.int p4), .val (.int tb), .val (.int sa), .val (.int (Int32.ofNat (i + 1))), .val (.int bb)] [])) _
                    refine XS.goto XL.here hx rfl (pc0 := 95) (pc' := 9) rfl (hb hby d8_95) (by decide) (by decide) ?_
                    exact kt
                  rw [(own_sc_pos (Or.inr hc26) h_bb (Or.inr ⟨hc44, hc69⟩) hc86 : own_sc g p4 (k + 1) i tb sa x1 x2 = own_sc g p4 k (i + 1) tb sa x1 x2)]
                  exact ih (i + 1) tb sa x1 x2 (.val (.int bb)) T h _ (by omega) (by omega) (has) (One.val rfl) XL eL NL ZL KL fl0 fl1 fl2 fl3 fl4 fl5 fl6 fl7 fl8
          · skip
            refine own_go (S' := T.setTop (mkF m 86 #[.val (.ref a0), .val (.ref a1), .val (.int (Int32.ofNat f)), .val (.int (Int32.ofNat l3)), .val (.int p4), .val (.int tb), .val (.int sa), .val (.int (Int32.ofNat i)), .val (.int bb)] [(.int bb)])) (fun target kt => ?_) ?_
            · skip
              show Steps p.tables e below (T.setTop (mkF m 39 #[.val (.ref a0), .val (.ref a1), .val (.int (Int32.ofNat f)), .val (.int (Int32.ofNat l3)), .val (.int p4), .val (.int tb), .val (.int sa), .val (.int (Int32.ofNat i)), .val (.int bb)] [(.int (9 : Int32)), (.int bb)])) _
              refine XS.icmpYes XL.here hx rfl (pc0 := 39) (pc' := 59) rfl (hb hby d8_39) rfl (feq hc39).2 (by decide) (by decide) ?_
              show Steps p.tables e below (T.setTop (mkF m 59 #[.val (.ref a0), .val (.ref a1), .val (.int (Int32.ofNat f)), .val (.int (Int32.ofNat l3)), .val (.int p4), .val (.int tb), .val (.int sa), .val (.int (Int32.ofNat i)), .val (.int bb)] [])) _
              refine XS.iload XL.here hx rfl (hb hby d8_59) rfl ?_
              show Steps p.tables e below (T.setTop (mkF m 61 #[.val (.ref a0), .val (.ref a1), .val (.int (Int32.ofNat f)), .val (.int (Int32.ofNat l3)), .val (.int p4), .val (.int tb), .val (.int sa), .val (.int (Int32.ofNat i)), .val (.int bb)] [(.int bb)])) _
              refine XS.bipush XL.here hx rfl (hb hby d8_61) ?_
              show Steps p.tables e below (T.setTop (mkF m 63 #[.val (.ref a0), .val (.ref a1), .val (.int (Int32.ofNat f)), .val (.int (Int32.ofNat l3)), .val (.int p4), .val (.int tb), .val (.int sa), .val (.int (Int32.ofNat i)), .val (.int bb)] [(.int (9 : Int32)), (.int bb)])) _
              refine XS.icmpYes XL.here hx rfl (pc0 := 63) (pc' := 84) rfl (hb hby d8_63) rfl (feq hc39).2 (by decide) (by decide) ?_
              show Steps p.tables e below (T.setTop (mkF m 84 #[.val (.ref a0), .val (.ref a1), .val (.int (Int32.ofNat f)), .val (.int (Int32.ofNat l3)), .val (.int p4), .val (.int tb), .val (.int sa), .val (.int (Int32.ofNat i)), .val (.int bb)] [])) _
              refine XS.iload XL.here hx rfl (hb hby d8_84) rfl ?_
              exact kt
            by_cases hc86 : bb < (0 : Int32)
            · skip
              obtain ⟨i1, h_i1⟩ : ∃ z : Int32, z = ((Int32.ofNat i) + (1 : Int32)) := ⟨_, rfl⟩
              refine own_go (S' := T.setTop (mkF m 95 #[.val (.ref a0), .val (.ref a1), .val (.int (Int32.ofNat f)), .val (.int (Int32.ofNat l3)), .val (.int p4), .val (.int tb), .val (.int (0 : Int32)), .val (.int i1), .val (.int bb)] [])) (fun target kt => ?_) ?_
              · subst h_i1
                show Steps p.tables e below (T.setTop (mkF m 86 #[.val (.ref a0), .val (.ref a1), .val (.int (Int32.ofNat f)), .val (.int (Int32.ofNat l3)), .val (.int p4), .val (.int tb), .val (.int sa), .val (.int (Int32.ofNat i)), .val (.int bb)] [(.int bb)])) _
                refine XS.ifNo XL.here hx rfl (hb hby d8_86) rfl ((if0 _ _).trans (tlt hc86).2.1) ?_
                show Steps p.tables e below (T.setTop (mkF m 89 #[.val (.ref a0), .val (.ref a1), .val (.int (Int32.ofNat f)), .val (.int (Int32.ofNat l3)), .val (.int p4), .val (.int tb), .val (.int sa), .val (.int (Int32.ofNat i)), .val (.int bb)] [])) _
                refine XS.iconst XL.here hx rfl (hb hby d8_89) ?_
                show Steps p.tables e below (T.setTop (mkF m 90 #[.val (.ref a0), .val (.ref a1), .val (.int (Int32.ofNat f)), .val (.int (Int32.ofNat l3)), .val (.int p4), .val (.int tb), .val (.int sa), .val (.int (Int32.ofNat i)), .val (.int bb)] [(.int (0 : Int32))])) _
                refine XS.istore XL.here hx rfl (hb hby d8_90) rfl (l' := #[.val (.ref a0), .val (.ref a1), .val (.int (Int32.ofNat f)), .val (.int (Int32.ofNat l3)), .val (.int p4), .val (.int tb), .val (.int (0 : Int32)), .val (.int (Int32.ofNat i)), .val (.int bb)]) rfl ?_
                show Steps p.tables e below (T.setTop (mkF m 92 #[.val (.ref a0), .val (.ref a1), .val (.int (Int32.ofNat f)), .val (.int (Int32.ofNat l3)), .val (.int p4), .val (.int tb), .val (.int (0 : Int32)), .val (.int (Int32.ofNat i)), .val (.int bb)] [])) _
                refine XS.iinc XL.here hx rfl (hb hby d8_92) rfl (l' := #[.val (.ref a0), .val (.ref a1), .val (.int (Int32.ofNat f)), .val (.int (Int32.ofNat l3)), .val (.int p4), .val (.int tb), .val (.int (0 : Int32)), .val (.int ((Int32.ofNat i) + (1 : Int32))), .val (.int bb)]) rfl ?_
                exact kt
              have hb_i1 : i1 = (Int32.ofNat (i + 1)) := h_i1.trans (own_one i)
              subst hb_i1
              refine own_go (S' := T.setTop (mkF m 9 #[.val (.ref a0), .val (.ref a1), .val (.int (Int32.ofNat f)), .val (.int (Int32.ofNat l3)), .val (.int p4), .val (.int tb), .val (.int (0 : Int32)), .val (.int (Int32.ofNat (i + 1))), .val (.int bb)] [])) (fun target kt => ?_) ?_
              · skip
                show Steps p.tables e below (T.setTop (mkF m 95 #[.val (.ref a0), .val (.ref a1), .val (.int (Int32.ofNat f)), .val (.int (Int32.ofNat l3)), .val (.int p4), .val (.int tb), .val (.int (0 : Int32)), .val (.int (Int32.ofNat (i + 1))), .val (.int bb)] [])) _
                refine XS.goto XL.here hx rfl (pc0 := 95) (pc' := 9) rfl (hb hby d8_95) (by decide) (by decide) ?_
                exact kt
              rw [(own_sc_neg (Or.inr hc26) h_bb hc86 : own_sc g p4 (k + 1) i tb sa x1 x2 = own_sc g p4 k (i + 1) tb (0 : Int32) x1 x2)]
              exact ih (i + 1) tb (0 : Int32) x1 x2 (.val (.int bb)) T h _ (by omega) (by omega) (Or.inl rfl) (One.val rfl) XL eL NL ZL KL fl0 fl1 fl2 fl3 fl4 fl5 fl6 fl7 fl8
            · skip
              obtain ⟨i1, h_i1⟩ : ∃ z : Int32, z = ((Int32.ofNat i) + (1 : Int32)) := ⟨_, rfl⟩
              refine own_go (S' := T.setTop (mkF m 95 #[.val (.ref a0), .val (.ref a1), .val (.int (Int32.ofNat f)), .val (.int (Int32.ofNat l3)), .val (.int p4), .val (.int tb), .val (.int sa), .val (.int i1), .val (.int bb)] [])) (fun target kt => ?_) ?_
              · subst h_i1
                show Steps p.tables e below (T.setTop (mkF m 86 #[.val (.ref a0), .val (.ref a1), .val (.int (Int32.ofNat f)), .val (.int (Int32.ofNat l3)), .val (.int p4), .val (.int tb), .val (.int sa), .val (.int (Int32.ofNat i)), .val (.int bb)] [(.int bb)])) _
                refine XS.ifYes XL.here hx rfl (pc0 := 86) (pc' := 92) rfl (hb hby d8_86) rfl ((if0 _ _).trans (flt hc86).2.1) (by decide) (by decide) ?_
                show Steps p.tables e below (T.setTop (mkF m 92 #[.val (.ref a0), .val (.ref a1), .val (.int (Int32.ofNat f)), .val (.int (Int32.ofNat l3)), .val (.int p4), .val (.int tb), .val (.int sa), .val (.int (Int32.ofNat i)), .val (.int bb)] [])) _
                refine XS.iinc XL.here hx rfl (hb hby d8_92) rfl (l' := #[.val (.ref a0), .val (.ref a1), .val (.int (Int32.ofNat f)), .val (.int (Int32.ofNat l3)), .val (.int p4), .val (.int tb), .val (.int sa), .val (.int ((Int32.ofNat i) + (1 : Int32))), .val (.int bb)]) rfl ?_
                exact kt
              have hb_i1 : i1 = (Int32.ofNat (i + 1)) := h_i1.trans (own_one i)
              subst hb_i1
              refine own_go (S' := T.setTop (mkF m 9 #[.val (.ref a0), .val (.ref a1), .val (.int (Int32.ofNat f)), .val (.int (Int32.ofNat l3)), .val (.int p4), .val (.int tb), .val (.int sa), .val (.int (Int32.ofNat (i + 1))), .val (.int bb)] [])) (fun target kt => ?_) ?_
              · skip
                show Steps p.tables e below (T.setTop (mkF m 95 #[.val (.ref a0), .val (.ref a1), .val (.int (Int32.ofNat f)), .val (.int (Int32.ofNat l3)), .val (.int p4), .val (.int tb), .val (.int sa), .val (.int (Int32.ofNat (i + 1))), .val (.int bb)] [])) _
                refine XS.goto XL.here hx rfl (pc0 := 95) (pc' := 9) rfl (hb hby d8_95) (by decide) (by decide) ?_
                exact kt
              rw [(own_sc_pos (Or.inr hc26) h_bb (Or.inl hc39) hc86 : own_sc g p4 (k + 1) i tb sa x1 x2 = own_sc g p4 k (i + 1) tb sa x1 x2)]
              exact ih (i + 1) tb sa x1 x2 (.val (.int bb)) T h _ (by omega) (by omega) (has) (One.val rfl) XL eL NL ZL KL fl0 fl1 fl2 fl3 fl4 fl5 fl6 fl7 fl8
  obtain ⟨s₂, o, r1, r2, r3, v, LL, r4, ⟨q0, q1, q2, q3, q4, q5, q6, q7, q8, q9, q10⟩, r8⟩ := own_loop (l3 - f) f (0 : Int32) (1 : Int32) (0 : Int32) (0 : Int32) .unset s₁ h0 _ (rfl) (hf) (Or.inr rfl) (One.u) X0 e0 N0 Z0 K0 pf0 pf1 pf2 pf3 pf4 pf5 pf6 pf7 pf8
  exact ⟨s₂, o, r1, r2, r3, v, LL, r4, ⟨_, _, _, q0, q1, q2, q3, q4, q5, q6, q7, q8, q9, q10, rfl, rfl, rfl⟩, r8⟩
/-- what is asked of the probe -/
def own_pr (PT : Nat) (g : Nat → Int32) : Prop := 4 ≤ PT ∧ PT ≤ 8 ∧ (¬ (g 0) = (32 : Int32) ∧ ¬ (g 0) = (9 : Int32) ∧ ¬ (g 0) = (35 : Int32)) ∧ (g 1) = (32 : Int32) ∧ (g 2) = (32 : Int32) ∧ ¬ (g 3) = (9 : Int32) ∧ ∀ j, 3 ≤ j → j < 8 → ¬ (g j) = (32 : Int32)
theorem own_klt {k : Int32} {PT : Nat} (h : k < (4 : Int32)) (hP : 4 ≤ PT ∧ PT ≤ 8) : k < (Int32.ofNat PT) := by
  rw [Int32.lt_iff_toInt_lt, show (4 : Int32).toInt = 4 from rfl] at h
  rw [Int32.lt_iff_toInt_lt, own_ofn (by omega)]; omega
theorem own_kne {k : Int32} {PT : Nat} (h : k < (4 : Int32)) (hP : 4 ≤ PT ∧ PT ≤ 8) : ¬ k = (Int32.ofNat PT) := fun e => by
  have := own_klt h hP
  rw [← e, Int32.lt_iff_toInt_lt] at this
  omega

theorem d10_0 : decode prog_7_method_11_code 0 = .ok (.iload_n 1, 1) := by decide +kernel
theorem d10_1 : decode prog_7_method_11_code 1 = .ok (.istore_n 3, 1) := by decide +kernel
theorem d10_2 : decode prog_7_method_11_code 2 = .ok (.iload_n 3, 1) := by decide +kernel
theorem d10_3 : decode prog_7_method_11_code 3 = .ok (.iload_n 2, 1) := by decide +kernel
theorem d10_4 : decode prog_7_method_11_code 4 = .ok (.if_icmp .ge 25, 3) := by decide +kernel
theorem d10_7 : decode prog_7_method_11_code 7 = .ok (.aload_n 0, 1) := by decide +kernel
theorem d10_8 : decode prog_7_method_11_code 8 = .ok (.iload_n 3, 1) := by decide +kernel
theorem d10_9 : decode prog_7_method_11_code 9 = .ok (.baload, 1) := by decide +kernel
theorem d10_10 : decode prog_7_method_11_code 10 = .ok (.bipush 32, 2) := by decide +kernel
theorem d10_12 : decode prog_7_method_11_code 12 = .ok (.if_icmp .eq 11, 3) := by decide +kernel
theorem d10_15 : decode prog_7_method_11_code 15 = .ok (.aload_n 0, 1) := by decide +kernel
theorem d10_16 : decode prog_7_method_11_code 16 = .ok (.iload_n 3, 1) := by decide +kernel
theorem d10_17 : decode prog_7_method_11_code 17 = .ok (.baload, 1) := by decide +kernel
theorem d10_18 : decode prog_7_method_11_code 18 = .ok (.bipush 9, 2) := by decide +kernel
theorem d10_20 : decode prog_7_method_11_code 20 = .ok (.if_icmp .ne 9, 3) := by decide +kernel
theorem d10_23 : decode prog_7_method_11_code 23 = .ok (.iinc 3 1, 3) := by decide +kernel
theorem d10_26 : decode prog_7_method_11_code 26 = .ok (.goto (-24), 3) := by decide +kernel
theorem d10_29 : decode prog_7_method_11_code 29 = .ok (.iload_n 3, 1) := by decide +kernel
theorem d10_30 : decode prog_7_method_11_code 30 = .ok (.ireturn, 1) := by decide +kernel
set_option maxHeartbeats 40000000 in
theorem own_ef_rm10_0 (m : MethodId) (x0 : Addr) (x1 : Int32) (x2 : Int32) : entryFrame m #[(.ref x0), (.int x1), (.int x2)] 4 = mkF m 0 #[.val (.ref x0), .val (.int x1), .val (.int x2), .unset] [] := by first | (simp [entryFrame, mkF, argsToLocals, Value.category]; done) | rfl
def Q10_0 (Z : State) (a0 : Addr) (PT : Nat) (g : Nat → Int32) (h0 : Heap) (n0 : Nat) (v : Option Value) (h : Heap) (L : List Loc) : Prop := v = some (.int (0 : Int32)) ∧ Fr n0 L ∧ h = h0
set_option maxRecDepth 65536 in
set_option maxHeartbeats 40000000 in
theorem rm10_0 (l : Launch) (Z : State) (aZ : Array Value) (hw : ∀ d ∈ tables_1, d.before aZ Z = true) (ws : List Jvm.Cond) (a0 : Addr) (PT : Nat) (g : Nat → Int32) (h0 : Heap) (n0 : Nat) (Z0 : n0 ≤ h0.size) (pf0 : own_AI Z h0 a0 .byte 8 g) (hP : own_pr PT g) :
    MetFree l (⟨"com/example/long_walk/longwalk/EdgeListLine", "skipBlanks", "([BII)I"⟩ : MethodName) (head1 (Jvm.Cond.code (⟨"com/example/long_walk/longwalk/EdgeListLine", "skipBlanks", "([BII)I"⟩ : MethodName) prog_7_method_11_code 4 (some .int) :: ws) ({ frames := 0, cells := 0, slots := 0, locals := 0 } : Room)) (fun a U => a = #[(.ref a0), (.int (0 : Int32)), (.int (Int32.ofNat PT))] ∧ Z.Warmed39 U.vm ∧ U.heap = h0) (fun _ _ _ _ _ => True) (fun _ U o U' => ∃ v L, o = .returned v ∧ Q10_0 Z a0 PT g h0 n0 v U'.heap L ∧ FrameEnd U o U' L ({ frames := 0, cells := 0, slots := 0, locals := 0 } : Room).cells ({ frames := 0, cells := 0, slots := 0, locals := 0 } : Room).slots) := by
  refine MetFree.of_bodySF (plainFor_of_name own_pn3) hisR ?_
  intro p e s m args below meth c s₁ Bd hml0 hP hK
  obtain ⟨rfl, hZ, hh⟩ := hP
  have hx := Bd.exec
  have hby := Bd.bytes
  have hml : c.maxLocals = 4 := hml0
  have hown : s.vm.findClass "com/example/long_walk/longwalk/EdgeListLine" = some m.cls := findClass_of_methodNamed Bd.named
  have hnm := (name_of_methodNamed Bd.named Bd.method).1
  have X0 : Stand p l e ({ frames := 0, cells := 0, slots := 0, locals := 0 } : Room) s m #[(.ref a0), (.int (0 : Int32)), (.int (Int32.ofNat PT))] below meth c s₁ [] 0 0 := Stand.of_body Bd
  have e0 : s₁.heap = h0 := by rw [← hh, Bd.state]; rfl
  have N0 := Fr.nil n0
  refine own_go (S' := s₁.setTop (mkF m 0 #[.val (.ref a0), .val (.int (0 : Int32)), .val (.int (Int32.ofNat PT)), .unset] [])) (fun tt0 kk0 => castTop (own_ef_rm10_0 m a0 (0 : Int32) (Int32.ofNat PT)) kk0) ?_
  refine own_go (S' := s₁.setTop (mkF m 9 #[.val (.ref a0), .val (.int (0 : Int32)), .val (.int (Int32.ofNat PT)), .val (.int (0 : Int32))] [(.int (0 : Int32)), (.ref a0)])) (fun target kt => ?_) ?_
  · skip
    show Steps p.tables e below (s₁.setTop (mkF m 0 #[.val (.ref a0), .val (.int (0 : Int32)), .val (.int (Int32.ofNat PT)), .unset] [])) _
    refine XS.iloadN X0.here hx rfl (hb hby d10_0) rfl ?_
    show Steps p.tables e below (s₁.setTop (mkF m 1 #[.val (.ref a0), .val (.int (0 : Int32)), .val (.int (Int32.ofNat PT)), .unset] [(.int (0 : Int32))])) _
    refine XS.istoreN X0.here hx rfl (hb hby d10_1) rfl (l' := #[.val (.ref a0), .val (.int (0 : Int32)), .val (.int (Int32.ofNat PT)), .val (.int (0 : Int32))]) rfl ?_
    show Steps p.tables e below (s₁.setTop (mkF m 2 #[.val (.ref a0), .val (.int (0 : Int32)), .val (.int (Int32.ofNat PT)), .val (.int (0 : Int32))] [])) _
    refine XS.iloadN X0.here hx rfl (hb hby d10_2) rfl ?_
    show Steps p.tables e below (s₁.setTop (mkF m 3 #[.val (.ref a0), .val (.int (0 : Int32)), .val (.int (Int32.ofNat PT)), .val (.int (0 : Int32))] [(.int (0 : Int32))])) _
    refine XS.iloadN X0.here hx rfl (hb hby d10_3) rfl ?_
    show Steps p.tables e below (s₁.setTop (mkF m 4 #[.val (.ref a0), .val (.int (0 : Int32)), .val (.int (Int32.ofNat PT)), .val (.int (0 : Int32))] [(.int (Int32.ofNat PT)), (.int (0 : Int32))])) _
    refine XS.icmpNo X0.here hx rfl (hb hby d10_4) rfl (tlt (own_klt (by decide) ⟨hP.1, hP.2.1⟩ : (0 : Int32) < (Int32.ofNat PT))).2.1 ?_
    show Steps p.tables e below (s₁.setTop (mkF m 7 #[.val (.ref a0), .val (.int (0 : Int32)), .val (.int (Int32.ofNat PT)), .val (.int (0 : Int32))] [])) _
    refine XS.aloadN X0.here hx rfl (hb hby d10_7) rfl rfl ?_
    show Steps p.tables e below (s₁.setTop (mkF m 8 #[.val (.ref a0), .val (.int (0 : Int32)), .val (.int (Int32.ofNat PT)), .val (.int (0 : Int32))] [(.ref a0)])) _
    refine XS.iloadN X0.here hx rfl (hb hby d10_8) rfl ?_
    exact kt
  obtain ⟨c264, Ar264, S264, M264, H264⟩ := id pf0
  have hj264 : ¬ (0 : Int32) < 0 ∧ ((0 : Int32)).toNatClampNeg < 8 := ⟨by decide, by decide⟩
  have st264 : ∀ target, Steps p.tables e below (s₁.setTop (mkF m 10 #[.val (.ref a0), .val (.int (0 : Int32)), .val (.int (Int32.ofNat PT)), .val (.int (0 : Int32))] [(.int (g 0))])) target → Steps p.tables e below (s₁.setTop (mkF m 9 #[.val (.ref a0), .val (.int (0 : Int32)), .val (.int (Int32.ofNat PT)), .val (.int (0 : Int32))] [(.int (0 : Int32)), (.ref a0)])) target := fun target kt => X0.baloadBytes hx (j := (0 : Int32)) (v := (.int (g 0))) (by rw [e0]; exact Ar264.1) (State.isArrayOf_alike hZ.alike Ar264.2.1) Ar264.2.2 (own_in S264 hj264) (H264 _ hj264.2) (g := (mkF m 9 #[.val (.ref a0), .val (.int (0 : Int32)), .val (.int (Int32.ofNat PT)), .val (.int (0 : Int32))] [(.int (0 : Int32)), (.ref a0)])) rfl rfl (hb hby d10_9) _ kt
  refine own_go (S' := s₁.setTop (mkF m 10 #[.val (.ref a0), .val (.int (0 : Int32)), .val (.int (Int32.ofNat PT)), .val (.int (0 : Int32))] [(.int (g 0))])) st264 ?_
  refine own_go (S' := s₁.setTop (mkF m 17 #[.val (.ref a0), .val (.int (0 : Int32)), .val (.int (Int32.ofNat PT)), .val (.int (0 : Int32))] [(.int (0 : Int32)), (.ref a0)])) (fun target kt => ?_) ?_
  · skip
    show Steps p.tables e below (s₁.setTop (mkF m 10 #[.val (.ref a0), .val (.int (0 : Int32)), .val (.int (Int32.ofNat PT)), .val (.int (0 : Int32))] [(.int (g 0))])) _
    refine XS.bipush X0.here hx rfl (hb hby d10_10) ?_
    show Steps p.tables e below (s₁.setTop (mkF m 12 #[.val (.ref a0), .val (.int (0 : Int32)), .val (.int (Int32.ofNat PT)), .val (.int (0 : Int32))] [(.int (32 : Int32)), (.int (g 0))])) _
    refine XS.icmpNo X0.here hx rfl (hb hby d10_12) rfl (feq (hP.2.2.1.1 : ¬ ((g 0) = (32 : Int32)))).1 ?_
    show Steps p.tables e below (s₁.setTop (mkF m 15 #[.val (.ref a0), .val (.int (0 : Int32)), .val (.int (Int32.ofNat PT)), .val (.int (0 : Int32))] [])) _
    refine XS.aloadN X0.here hx rfl (hb hby d10_15) rfl rfl ?_
    show Steps p.tables e below (s₁.setTop (mkF m 16 #[.val (.ref a0), .val (.int (0 : Int32)), .val (.int (Int32.ofNat PT)), .val (.int (0 : Int32))] [(.ref a0)])) _
    refine XS.iloadN X0.here hx rfl (hb hby d10_16) rfl ?_
    exact kt
  obtain ⟨c265, Ar265, S265, M265, H265⟩ := id pf0
  have hj265 : ¬ (0 : Int32) < 0 ∧ ((0 : Int32)).toNatClampNeg < 8 := ⟨by decide, by decide⟩
  have st265 : ∀ target, Steps p.tables e below (s₁.setTop (mkF m 18 #[.val (.ref a0), .val (.int (0 : Int32)), .val (.int (Int32.ofNat PT)), .val (.int (0 : Int32))] [(.int (g 0))])) target → Steps p.tables e below (s₁.setTop (mkF m 17 #[.val (.ref a0), .val (.int (0 : Int32)), .val (.int (Int32.ofNat PT)), .val (.int (0 : Int32))] [(.int (0 : Int32)), (.ref a0)])) target := fun target kt => X0.baloadBytes hx (j := (0 : Int32)) (v := (.int (g 0))) (by rw [e0]; exact Ar265.1) (State.isArrayOf_alike hZ.alike Ar265.2.1) Ar265.2.2 (own_in S265 hj265) (H265 _ hj265.2) (g := (mkF m 17 #[.val (.ref a0), .val (.int (0 : Int32)), .val (.int (Int32.ofNat PT)), .val (.int (0 : Int32))] [(.int (0 : Int32)), (.ref a0)])) rfl rfl (hb hby d10_17) _ kt
  refine own_go (S' := s₁.setTop (mkF m 18 #[.val (.ref a0), .val (.int (0 : Int32)), .val (.int (Int32.ofNat PT)), .val (.int (0 : Int32))] [(.int (g 0))])) st265 ?_
  refine own_go (S' := s₁.setTop (mkF m 30 #[.val (.ref a0), .val (.int (0 : Int32)), .val (.int (Int32.ofNat PT)), .val (.int (0 : Int32))] [(.int (0 : Int32))])) (fun target kt => ?_) ?_
  · skip
    show Steps p.tables e below (s₁.setTop (mkF m 18 #[.val (.ref a0), .val (.int (0 : Int32)), .val (.int (Int32.ofNat PT)), .val (.int (0 : Int32))] [(.int (g 0))])) _
    refine XS.bipush X0.here hx rfl (hb hby d10_18) ?_
    show Steps p.tables e below (s₁.setTop (mkF m 20 #[.val (.ref a0), .val (.int (0 : Int32)), .val (.int (Int32.ofNat PT)), .val (.int (0 : Int32))] [(.int (9 : Int32)), (.int (g 0))])) _
    refine XS.icmpYes X0.here hx rfl (pc0 := 20) (pc' := 29) rfl (hb hby d10_20) rfl (feq (hP.2.2.1.2.1 : ¬ ((g 0) = (9 : Int32)))).2 (by decide) (by decide) ?_
    show Steps p.tables e below (s₁.setTop (mkF m 29 #[.val (.ref a0), .val (.int (0 : Int32)), .val (.int (Int32.ofNat PT)), .val (.int (0 : Int32))] [])) _
    refine XS.iloadN X0.here hx rfl (hb hby d10_29) rfl ?_
    exact kt
  obtain ⟨fs, hr, hrun, hended, hW, hsame⟩ := X0.leave (v := some (.int (0 : Int32))) (fun h => by rw [Bd.returns] at h; cases h)
  refine ⟨_, _, ?_, hrun, hended, _, _, rfl, ?_, ⟨_, rfl⟩, hW, hsame.mono (by decide) (by decide)⟩
  · exact retI X0 hx Bd.returns (hb hby d10_30) hr
  · show Q10_0 Z a0 PT g h0 n0 _ s₁.heap _
    rw [e0]
    exact ⟨rfl, N0, rfl⟩
set_option maxHeartbeats 40000000 in
theorem own_ef_rm10_1 (m : MethodId) (x0 : Addr) (x1 : Int32) (x2 : Int32) : entryFrame m #[(.ref x0), (.int x1), (.int x2)] 4 = mkF m 0 #[.val (.ref x0), .val (.int x1), .val (.int x2), .unset] [] := by first | (simp [entryFrame, mkF, argsToLocals, Value.category]; done) | rfl
def Q10_1 (Z : State) (a0 : Addr) (PT : Nat) (g : Nat → Int32) (h0 : Heap) (n0 : Nat) (v : Option Value) (h : Heap) (L : List Loc) : Prop := v = some (.int (3 : Int32)) ∧ Fr n0 L ∧ h = h0
set_option maxRecDepth 65536 in
set_option maxHeartbeats 40000000 in
theorem rm10_1 (l : Launch) (Z : State) (aZ : Array Value) (hw : ∀ d ∈ tables_1, d.before aZ Z = true) (ws : List Jvm.Cond) (a0 : Addr) (PT : Nat) (g : Nat → Int32) (h0 : Heap) (n0 : Nat) (Z0 : n0 ≤ h0.size) (pf0 : own_AI Z h0 a0 .byte 8 g) (hP : own_pr PT g) :
    MetFree l (⟨"com/example/long_walk/longwalk/EdgeListLine", "skipBlanks", "([BII)I"⟩ : MethodName) (head1 (Jvm.Cond.code (⟨"com/example/long_walk/longwalk/EdgeListLine", "skipBlanks", "([BII)I"⟩ : MethodName) prog_7_method_11_code 4 (some .int) :: ws) ({ frames := 0, cells := 0, slots := 0, locals := 0 } : Room)) (fun a U => a = #[(.ref a0), (.int (1 : Int32)), (.int (Int32.ofNat PT))] ∧ Z.Warmed39 U.vm ∧ U.heap = h0) (fun _ _ _ _ _ => True) (fun _ U o U' => ∃ v L, o = .returned v ∧ Q10_1 Z a0 PT g h0 n0 v U'.heap L ∧ FrameEnd U o U' L ({ frames := 0, cells := 0, slots := 0, locals := 0 } : Room).cells ({ frames := 0, cells := 0, slots := 0, locals := 0 } : Room).slots) := by
  refine MetFree.of_bodySF (plainFor_of_name own_pn3) hisR ?_
  intro p e s m args below meth c s₁ Bd hml0 hP hK
  obtain ⟨rfl, hZ, hh⟩ := hP
  have hx := Bd.exec
  have hby := Bd.bytes
  have hml : c.maxLocals = 4 := hml0
  have hown : s.vm.findClass "com/example/long_walk/longwalk/EdgeListLine" = some m.cls := findClass_of_methodNamed Bd.named
  have hnm := (name_of_methodNamed Bd.named Bd.method).1
  have X0 : Stand p l e ({ frames := 0, cells := 0, slots := 0, locals := 0 } : Room) s m #[(.ref a0), (.int (1 : Int32)), (.int (Int32.ofNat PT))] below meth c s₁ [] 0 0 := Stand.of_body Bd
  have e0 : s₁.heap = h0 := by rw [← hh, Bd.state]; rfl
  have N0 := Fr.nil n0
  refine own_go (S' := s₁.setTop (mkF m 0 #[.val (.ref a0), .val (.int (1 : Int32)), .val (.int (Int32.ofNat PT)), .unset] [])) (fun tt0 kk0 => castTop (own_ef_rm10_1 m a0 (1 : Int32) (Int32.ofNat PT)) kk0) ?_
  refine own_go (S' := s₁.setTop (mkF m 9 #[.val (.ref a0), .val (.int (1 : Int32)), .val (.int (Int32.ofNat PT)), .val (.int (1 : Int32))] [(.int (1 : Int32)), (.ref a0)])) (fun target kt => ?_) ?_
  · skip
    show Steps p.tables e below (s₁.setTop (mkF m 0 #[.val (.ref a0), .val (.int (1 : Int32)), .val (.int (Int32.ofNat PT)), .unset] [])) _
    refine XS.iloadN X0.here hx rfl (hb hby d10_0) rfl ?_
    show Steps p.tables e below (s₁.setTop (mkF m 1 #[.val (.ref a0), .val (.int (1 : Int32)), .val (.int (Int32.ofNat PT)), .unset] [(.int (1 : Int32))])) _
    refine XS.istoreN X0.here hx rfl (hb hby d10_1) rfl (l' := #[.val (.ref a0), .val (.int (1 : Int32)), .val (.int (Int32.ofNat PT)), .val (.int (1 : Int32))]) rfl ?_
    show Steps p.tables e below (s₁.setTop (mkF m 2 #[.val (.ref a0), .val (.int (1 : Int32)), .val (.int (Int32.ofNat PT)), .val (.int (1 : Int32))] [])) _
    refine XS.iloadN X0.here hx rfl (hb hby d10_2) rfl ?_
    show Steps p.tables e below (s₁.setTop (mkF m 3 #[.val (.ref a0), .val (.int (1 : Int32)), .val (.int (Int32.ofNat PT)), .val (.int (1 : Int32))] [(.int (1 : Int32))])) _
    refine XS.iloadN X0.here hx rfl (hb hby d10_3) rfl ?_
    show Steps p.tables e below (s₁.setTop (mkF m 4 #[.val (.ref a0), .val (.int (1 : Int32)), .val (.int (Int32.ofNat PT)), .val (.int (1 : Int32))] [(.int (Int32.ofNat PT)), (.int (1 : Int32))])) _
    refine XS.icmpNo X0.here hx rfl (hb hby d10_4) rfl (tlt (own_klt (by decide) ⟨hP.1, hP.2.1⟩ : (1 : Int32) < (Int32.ofNat PT))).2.1 ?_
    show Steps p.tables e below (s₁.setTop (mkF m 7 #[.val (.ref a0), .val (.int (1 : Int32)), .val (.int (Int32.ofNat PT)), .val (.int (1 : Int32))] [])) _
    refine XS.aloadN X0.here hx rfl (hb hby d10_7) rfl rfl ?_
    show Steps p.tables e below (s₁.setTop (mkF m 8 #[.val (.ref a0), .val (.int (1 : Int32)), .val (.int (Int32.ofNat PT)), .val (.int (1 : Int32))] [(.ref a0)])) _
    refine XS.iloadN X0.here hx rfl (hb hby d10_8) rfl ?_
    exact kt
  obtain ⟨c266, Ar266, S266, M266, H266⟩ := id pf0
  have hj266 : ¬ (1 : Int32) < 0 ∧ ((1 : Int32)).toNatClampNeg < 8 := ⟨by decide, by decide⟩
  have st266 : ∀ target, Steps p.tables e below (s₁.setTop (mkF m 10 #[.val (.ref a0), .val (.int (1 : Int32)), .val (.int (Int32.ofNat PT)), .val (.int (1 : Int32))] [(.int (g 1))])) target → Steps p.tables e below (s₁.setTop (mkF m 9 #[.val (.ref a0), .val (.int (1 : Int32)), .val (.int (Int32.ofNat PT)), .val (.int (1 : Int32))] [(.int (1 : Int32)), (.ref a0)])) target := fun target kt => X0.baloadBytes hx (j := (1 : Int32)) (v := (.int (g 1))) (by rw [e0]; exact Ar266.1) (State.isArrayOf_alike hZ.alike Ar266.2.1) Ar266.2.2 (own_in S266 hj266) (H266 _ hj266.2) (g := (mkF m 9 #[.val (.ref a0), .val (.int (1 : Int32)), .val (.int (Int32.ofNat PT)), .val (.int (1 : Int32))] [(.int (1 : Int32)), (.ref a0)])) rfl rfl (hb hby d10_9) _ kt
  refine own_go (S' := s₁.setTop (mkF m 10 #[.val (.ref a0), .val (.int (1 : Int32)), .val (.int (Int32.ofNat PT)), .val (.int (1 : Int32))] [(.int (g 1))])) st266 ?_
  refine own_go (S' := s₁.setTop (mkF m 9 #[.val (.ref a0), .val (.int (1 : Int32)), .val (.int (Int32.ofNat PT)), .val (.int (2 : Int32))] [(.int (2 : Int32)), (.ref a0)])) (fun target kt => ?_) ?_
  · skip
    show Steps p.tables e below (s₁.setTop (mkF m 10 #[.val (.ref a0), .val (.int (1 : Int32)), .val (.int (Int32.ofNat PT)), .val (.int (1 : Int32))] [(.int (g 1))])) _
    refine XS.bipush X0.here hx rfl (hb hby d10_10) ?_
    show Steps p.tables e below (s₁.setTop (mkF m 12 #[.val (.ref a0), .val (.int (1 : Int32)), .val (.int (Int32.ofNat PT)), .val (.int (1 : Int32))] [(.int (32 : Int32)), (.int (g 1))])) _
    refine XS.icmpYes X0.here hx rfl (pc0 := 12) (pc' := 23) rfl (hb hby d10_12) rfl (teq (hP.2.2.2.1 : (g 1) = (32 : Int32))).1 (by decide) (by decide) ?_
    show Steps p.tables e below (s₁.setTop (mkF m 23 #[.val (.ref a0), .val (.int (1 : Int32)), .val (.int (Int32.ofNat PT)), .val (.int (1 : Int32))] [])) _
    refine XS.iinc X0.here hx rfl (hb hby d10_23) rfl (l' := #[.val (.ref a0), .val (.int (1 : Int32)), .val (.int (Int32.ofNat PT)), .val (.int ((1 : Int32) + (1 : Int32)))]) rfl ?_
    rw [show ((1 : Int32) + (1 : Int32)) = (2 : Int32) from by decide]
    show Steps p.tables e below (s₁.setTop (mkF m 26 #[.val (.ref a0), .val (.int (1 : Int32)), .val (.int (Int32.ofNat PT)), .val (.int (2 : Int32))] [])) _
    refine XS.goto X0.here hx rfl (pc0 := 26) (pc' := 2) rfl (hb hby d10_26) (by decide) (by decide) ?_
    show Steps p.tables e below (s₁.setTop (mkF m 2 #[.val (.ref a0), .val (.int (1 : Int32)), .val (.int (Int32.ofNat PT)), .val (.int (2 : Int32))] [])) _
    refine XS.iloadN X0.here hx rfl (hb hby d10_2) rfl ?_
    show Steps p.tables e below (s₁.setTop (mkF m 3 #[.val (.ref a0), .val (.int (1 : Int32)), .val (.int (Int32.ofNat PT)), .val (.int (2 : Int32))] [(.int (2 : Int32))])) _
    refine XS.iloadN X0.here hx rfl (hb hby d10_3) rfl ?_
    show Steps p.tables e below (s₁.setTop (mkF m 4 #[.val (.ref a0), .val (.int (1 : Int32)), .val (.int (Int32.ofNat PT)), .val (.int (2 : Int32))] [(.int (Int32.ofNat PT)), (.int (2 : Int32))])) _
    refine XS.icmpNo X0.here hx rfl (hb hby d10_4) rfl (tlt (own_klt (by decide) ⟨hP.1, hP.2.1⟩ : (2 : Int32) < (Int32.ofNat PT))).2.1 ?_
    show Steps p.tables e below (s₁.setTop (mkF m 7 #[.val (.ref a0), .val (.int (1 : Int32)), .val (.int (Int32.ofNat PT)), .val (.int (2 : Int32))] [])) _
    refine XS.aloadN X0.here hx rfl (hb hby d10_7) rfl rfl ?_
    show Steps p.tables e below (s₁.setTop (mkF m 8 #[.val (.ref a0), .val (.int (1 : Int32)), .val (.int (Int32.ofNat PT)), .val (.int (2 : Int32))] [(.ref a0)])) _
    refine XS.iloadN X0.here hx rfl (hb hby d10_8) rfl ?_
    exact kt
  obtain ⟨c267, Ar267, S267, M267, H267⟩ := id pf0
  have hj267 : ¬ (2 : Int32) < 0 ∧ ((2 : Int32)).toNatClampNeg < 8 := ⟨by decide, by decide⟩
  have st267 : ∀ target, Steps p.tables e below (s₁.setTop (mkF m 10 #[.val (.ref a0), .val (.int (1 : Int32)), .val (.int (Int32.ofNat PT)), .val (.int (2 : Int32))] [(.int (g 2))])) target → Steps p.tables e below (s₁.setTop (mkF m 9 #[.val (.ref a0), .val (.int (1 : Int32)), .val (.int (Int32.ofNat PT)), .val (.int (2 : Int32))] [(.int (2 : Int32)), (.ref a0)])) target := fun target kt => X0.baloadBytes hx (j := (2 : Int32)) (v := (.int (g 2))) (by rw [e0]; exact Ar267.1) (State.isArrayOf_alike hZ.alike Ar267.2.1) Ar267.2.2 (own_in S267 hj267) (H267 _ hj267.2) (g := (mkF m 9 #[.val (.ref a0), .val (.int (1 : Int32)), .val (.int (Int32.ofNat PT)), .val (.int (2 : Int32))] [(.int (2 : Int32)), (.ref a0)])) rfl rfl (hb hby d10_9) _ kt
  refine own_go (S' := s₁.setTop (mkF m 10 #[.val (.ref a0), .val (.int (1 : Int32)), .val (.int (Int32.ofNat PT)), .val (.int (2 : Int32))] [(.int (g 2))])) st267 ?_
  refine own_go (S' := s₁.setTop (mkF m 9 #[.val (.ref a0), .val (.int (1 : Int32)), .val (.int (Int32.ofNat PT)), .val (.int (3 : Int32))] [(.int (3 : Int32)), (.ref a0)])) (fun target kt => ?_) ?_
  · skip
    show Steps p.tables e below (s₁.setTop (mkF m 10 #[.val (.ref a0), .val (.int (1 : Int32)), .val (.int (Int32.ofNat PT)), .val (.int (2 : Int32))] [(.int (g 2))])) _
    refine XS.bipush X0.here hx rfl (hb hby d10_10) ?_
    show Steps p.tables e below (s₁.setTop (mkF m 12 #[.val (.ref a0), .val (.int (1 : Int32)), .val (.int (Int32.ofNat PT)), .val (.int (2 : Int32))] [(.int (32 : Int32)), (.int (g 2))])) _
    refine XS.icmpYes X0.here hx rfl (pc0 := 12) (pc' := 23) rfl (hb hby d10_12) rfl (teq (hP.2.2.2.2.1 : (g 2) = (32 : Int32))).1 (by decide) (by decide) ?_
    show Steps p.tables e below (s₁.setTop (mkF m 23 #[.val (.ref a0), .val (.int (1 : Int32)), .val (.int (Int32.ofNat PT)), .val (.int (2 : Int32))] [])) _
    refine XS.iinc X0.here hx rfl (hb hby d10_23) rfl (l' := #[.val (.ref a0), .val (.int (1 : Int32)), .val (.int (Int32.ofNat PT)), .val (.int ((2 : Int32) + (1 : Int32)))]) rfl ?_
    rw [show ((2 : Int32) + (1 : Int32)) = (3 : Int32) from by decide]
    show Steps p.tables e below (s₁.setTop (mkF m 26 #[.val (.ref a0), .val (.int (1 : Int32)), .val (.int (Int32.ofNat PT)), .val (.int (3 : Int32))] [])) _
    refine XS.goto X0.here hx rfl (pc0 := 26) (pc' := 2) rfl (hb hby d10_26) (by decide) (by decide) ?_
    show Steps p.tables e below (s₁.setTop (mkF m 2 #[.val (.ref a0), .val (.int (1 : Int32)), .val (.int (Int32.ofNat PT)), .val (.int (3 : Int32))] [])) _
    refine XS.iloadN X0.here hx rfl (hb hby d10_2) rfl ?_
    show Steps p.tables e below (s₁.setTop (mkF m 3 #[.val (.ref a0), .val (.int (1 : Int32)), .val (.int (Int32.ofNat PT)), .val (.int (3 : Int32))] [(.int (3 : Int32))])) _
    refine XS.iloadN X0.here hx rfl (hb hby d10_3) rfl ?_
    show Steps p.tables e below (s₁.setTop (mkF m 4 #[.val (.ref a0), .val (.int (1 : Int32)), .val (.int (Int32.ofNat PT)), .val (.int (3 : Int32))] [(.int (Int32.ofNat PT)), (.int (3 : Int32))])) _
    refine XS.icmpNo X0.here hx rfl (hb hby d10_4) rfl (tlt (own_klt (by decide) ⟨hP.1, hP.2.1⟩ : (3 : Int32) < (Int32.ofNat PT))).2.1 ?_
    show Steps p.tables e below (s₁.setTop (mkF m 7 #[.val (.ref a0), .val (.int (1 : Int32)), .val (.int (Int32.ofNat PT)), .val (.int (3 : Int32))] [])) _
    refine XS.aloadN X0.here hx rfl (hb hby d10_7) rfl rfl ?_
    show Steps p.tables e below (s₁.setTop (mkF m 8 #[.val (.ref a0), .val (.int (1 : Int32)), .val (.int (Int32.ofNat PT)), .val (.int (3 : Int32))] [(.ref a0)])) _
    refine XS.iloadN X0.here hx rfl (hb hby d10_8) rfl ?_
    exact kt
  obtain ⟨c268, Ar268, S268, M268, H268⟩ := id pf0
  have hj268 : ¬ (3 : Int32) < 0 ∧ ((3 : Int32)).toNatClampNeg < 8 := ⟨by decide, by decide⟩
  have st268 : ∀ target, Steps p.tables e below (s₁.setTop (mkF m 10 #[.val (.ref a0), .val (.int (1 : Int32)), .val (.int (Int32.ofNat PT)), .val (.int (3 : Int32))] [(.int (g 3))])) target → Steps p.tables e below (s₁.setTop (mkF m 9 #[.val (.ref a0), .val (.int (1 : Int32)), .val (.int (Int32.ofNat PT)), .val (.int (3 : Int32))] [(.int (3 : Int32)), (.ref a0)])) target := fun target kt => X0.baloadBytes hx (j := (3 : Int32)) (v := (.int (g 3))) (by rw [e0]; exact Ar268.1) (State.isArrayOf_alike hZ.alike Ar268.2.1) Ar268.2.2 (own_in S268 hj268) (H268 _ hj268.2) (g := (mkF m 9 #[.val (.ref a0), .val (.int (1 : Int32)), .val (.int (Int32.ofNat PT)), .val (.int (3 : Int32))] [(.int (3 : Int32)), (.ref a0)])) rfl rfl (hb hby d10_9) _ kt
  refine own_go (S' := s₁.setTop (mkF m 10 #[.val (.ref a0), .val (.int (1 : Int32)), .val (.int (Int32.ofNat PT)), .val (.int (3 : Int32))] [(.int (g 3))])) st268 ?_
  refine own_go (S' := s₁.setTop (mkF m 17 #[.val (.ref a0), .val (.int (1 : Int32)), .val (.int (Int32.ofNat PT)), .val (.int (3 : Int32))] [(.int (3 : Int32)), (.ref a0)])) (fun target kt => ?_) ?_
  · skip
    show Steps p.tables e below (s₁.setTop (mkF m 10 #[.val (.ref a0), .val (.int (1 : Int32)), .val (.int (Int32.ofNat PT)), .val (.int (3 : Int32))] [(.int (g 3))])) _
    refine XS.bipush X0.here hx rfl (hb hby d10_10) ?_
    show Steps p.tables e below (s₁.setTop (mkF m 12 #[.val (.ref a0), .val (.int (1 : Int32)), .val (.int (Int32.ofNat PT)), .val (.int (3 : Int32))] [(.int (32 : Int32)), (.int (g 3))])) _
    refine XS.icmpNo X0.here hx rfl (hb hby d10_12) rfl (feq (hP.2.2.2.2.2.2 3 (by decide) (by decide) : ¬ ((g 3) = (32 : Int32)))).1 ?_
    show Steps p.tables e below (s₁.setTop (mkF m 15 #[.val (.ref a0), .val (.int (1 : Int32)), .val (.int (Int32.ofNat PT)), .val (.int (3 : Int32))] [])) _
    refine XS.aloadN X0.here hx rfl (hb hby d10_15) rfl rfl ?_
    show Steps p.tables e below (s₁.setTop (mkF m 16 #[.val (.ref a0), .val (.int (1 : Int32)), .val (.int (Int32.ofNat PT)), .val (.int (3 : Int32))] [(.ref a0)])) _
    refine XS.iloadN X0.here hx rfl (hb hby d10_16) rfl ?_
    exact kt
  obtain ⟨c269, Ar269, S269, M269, H269⟩ := id pf0
  have hj269 : ¬ (3 : Int32) < 0 ∧ ((3 : Int32)).toNatClampNeg < 8 := ⟨by decide, by decide⟩
  have st269 : ∀ target, Steps p.tables e below (s₁.setTop (mkF m 18 #[.val (.ref a0), .val (.int (1 : Int32)), .val (.int (Int32.ofNat PT)), .val (.int (3 : Int32))] [(.int (g 3))])) target → Steps p.tables e below (s₁.setTop (mkF m 17 #[.val (.ref a0), .val (.int (1 : Int32)), .val (.int (Int32.ofNat PT)), .val (.int (3 : Int32))] [(.int (3 : Int32)), (.ref a0)])) target := fun target kt => X0.baloadBytes hx (j := (3 : Int32)) (v := (.int (g 3))) (by rw [e0]; exact Ar269.1) (State.isArrayOf_alike hZ.alike Ar269.2.1) Ar269.2.2 (own_in S269 hj269) (H269 _ hj269.2) (g := (mkF m 17 #[.val (.ref a0), .val (.int (1 : Int32)), .val (.int (Int32.ofNat PT)), .val (.int (3 : Int32))] [(.int (3 : Int32)), (.ref a0)])) rfl rfl (hb hby d10_17) _ kt
  refine own_go (S' := s₁.setTop (mkF m 18 #[.val (.ref a0), .val (.int (1 : Int32)), .val (.int (Int32.ofNat PT)), .val (.int (3 : Int32))] [(.int (g 3))])) st269 ?_
  refine own_go (S' := s₁.setTop (mkF m 30 #[.val (.ref a0), .val (.int (1 : Int32)), .val (.int (Int32.ofNat PT)), .val (.int (3 : Int32))] [(.int (3 : Int32))])) (fun target kt => ?_) ?_
  · skip
    show Steps p.tables e below (s₁.setTop (mkF m 18 #[.val (.ref a0), .val (.int (1 : Int32)), .val (.int (Int32.ofNat PT)), .val (.int (3 : Int32))] [(.int (g 3))])) _
    refine XS.bipush X0.here hx rfl (hb hby d10_18) ?_
    show Steps p.tables e below (s₁.setTop (mkF m 20 #[.val (.ref a0), .val (.int (1 : Int32)), .val (.int (Int32.ofNat PT)), .val (.int (3 : Int32))] [(.int (9 : Int32)), (.int (g 3))])) _
    refine XS.icmpYes X0.here hx rfl (pc0 := 20) (pc' := 29) rfl (hb hby d10_20) rfl (feq (hP.2.2.2.2.2.1 : ¬ ((g 3) = (9 : Int32)))).2 (by decide) (by decide) ?_
    show Steps p.tables e below (s₁.setTop (mkF m 29 #[.val (.ref a0), .val (.int (1 : Int32)), .val (.int (Int32.ofNat PT)), .val (.int (3 : Int32))] [])) _
    refine XS.iloadN X0.here hx rfl (hb hby d10_29) rfl ?_
    exact kt
  obtain ⟨fs, hr, hrun, hended, hW, hsame⟩ := X0.leave (v := some (.int (3 : Int32))) (fun h => by rw [Bd.returns] at h; cases h)
  refine ⟨_, _, ?_, hrun, hended, _, _, rfl, ?_, ⟨_, rfl⟩, hW, hsame.mono (by decide) (by decide)⟩
  · exact retI X0 hx Bd.returns (hb hby d10_30) hr
  · show Q10_1 Z a0 PT g h0 n0 _ s₁.heap _
    rw [e0]
    exact ⟨rfl, N0, rfl⟩
theorem d18_0 : decode prog_2_method_2_code 0 = .ok (.iload_n 1, 1) := by decide +kernel
theorem d18_1 : decode prog_2_method_2_code 1 = .ok (.istore 4, 2) := by decide +kernel
theorem d18_3 : decode prog_2_method_2_code 3 = .ok (.iload 4, 2) := by decide +kernel
theorem d18_5 : decode prog_2_method_2_code 5 = .ok (.iload_n 2, 1) := by decide +kernel
theorem d18_6 : decode prog_2_method_2_code 6 = .ok (.if_icmp .ge 17, 3) := by decide +kernel
theorem d18_9 : decode prog_2_method_2_code 9 = .ok (.aload_n 0, 1) := by decide +kernel
theorem d18_10 : decode prog_2_method_2_code 10 = .ok (.iload 4, 2) := by decide +kernel
theorem d18_12 : decode prog_2_method_2_code 12 = .ok (.baload, 1) := by decide +kernel
theorem d18_13 : decode prog_2_method_2_code 13 = .ok (.iload_n 3, 1) := by decide +kernel
theorem d18_14 : decode prog_2_method_2_code 14 = .ok (.if_icmp .eq 9, 3) := by decide +kernel
theorem d18_17 : decode prog_2_method_2_code 17 = .ok (.iinc 4 1, 3) := by decide +kernel
theorem d18_20 : decode prog_2_method_2_code 20 = .ok (.goto (-17), 3) := by decide +kernel
theorem d18_23 : decode prog_2_method_2_code 23 = .ok (.iload 4, 2) := by decide +kernel
theorem d18_25 : decode prog_2_method_2_code 25 = .ok (.ireturn, 1) := by decide +kernel
theorem own_pn4 : plainName "com/example/long_walk/longwalk/Bytes" = true := by first | (simp [plainName, overriddenIn]; done) | decide +kernel
set_option maxHeartbeats 40000000 in
theorem own_ef_rm18_0 (m : MethodId) (x0 : Addr) (x1 : Int32) (x2 : Int32) (x3 : Int32) : entryFrame m #[(.ref x0), (.int x1), (.int x2), (.int x3)] 5 = mkF m 0 #[.val (.ref x0), .val (.int x1), .val (.int x2), .val (.int x3), .unset] [] := by first | (simp [entryFrame, mkF, argsToLocals, Value.category]; done) | rfl
def Q18_0 (Z : State) (a0 : Addr) (PT : Nat) (g : Nat → Int32) (h0 : Heap) (n0 : Nat) (v : Option Value) (h : Heap) (L : List Loc) : Prop := v = some (.int (1 : Int32)) ∧ Fr n0 L ∧ h = h0
set_option maxRecDepth 65536 in
set_option maxHeartbeats 40000000 in
theorem rm18_0 (l : Launch) (Z : State) (aZ : Array Value) (hw : ∀ d ∈ tables_1, d.before aZ Z = true) (ws : List Jvm.Cond) (a0 : Addr) (PT : Nat) (g : Nat → Int32) (h0 : Heap) (n0 : Nat) (Z0 : n0 ≤ h0.size) (pf0 : own_AI Z h0 a0 .byte 8 g) (hP : own_pr PT g) :
    MetFree l (⟨"com/example/long_walk/longwalk/Bytes", "find", "([BIIB)I"⟩ : MethodName) (head1 (Jvm.Cond.code (⟨"com/example/long_walk/longwalk/Bytes", "find", "([BIIB)I"⟩ : MethodName) prog_2_method_2_code 5 (some .int) :: ws) ({ frames := 0, cells := 0, slots := 0, locals := 0 } : Room)) (fun a U => a = #[(.ref a0), (.int (0 : Int32)), (.int (Int32.ofNat PT)), (.int (32 : Int32))] ∧ Z.Warmed39 U.vm ∧ U.heap = h0) (fun _ _ _ _ _ => True) (fun _ U o U' => ∃ v L, o = .returned v ∧ Q18_0 Z a0 PT g h0 n0 v U'.heap L ∧ FrameEnd U o U' L ({ frames := 0, cells := 0, slots := 0, locals := 0 } : Room).cells ({ frames := 0, cells := 0, slots := 0, locals := 0 } : Room).slots) := by
  refine MetFree.of_bodySF (plainFor_of_name own_pn4) hisR ?_
  intro p e s m args below meth c s₁ Bd hml0 hP hK
  obtain ⟨rfl, hZ, hh⟩ := hP
  have hx := Bd.exec
  have hby := Bd.bytes
  have hml : c.maxLocals = 5 := hml0
  have hown : s.vm.findClass "com/example/long_walk/longwalk/Bytes" = some m.cls := findClass_of_methodNamed Bd.named
  have hnm := (name_of_methodNamed Bd.named Bd.method).1
  have X0 : Stand p l e ({ frames := 0, cells := 0, slots := 0, locals := 0 } : Room) s m #[(.ref a0), (.int (0 : Int32)), (.int (Int32.ofNat PT)), (.int (32 : Int32))] below meth c s₁ [] 0 0 := Stand.of_body Bd
  have e0 : s₁.heap = h0 := by rw [← hh, Bd.state]; rfl
  have N0 := Fr.nil n0
  refine own_go (S' := s₁.setTop (mkF m 0 #[.val (.ref a0), .val (.int (0 : Int32)), .val (.int (Int32.ofNat PT)), .val (.int (32 : Int32)), .unset] [])) (fun tt0 kk0 => castTop (own_ef_rm18_0 m a0 (0 : Int32) (Int32.ofNat PT) (32 : Int32)) kk0) ?_
  refine own_go (S' := s₁.setTop (mkF m 12 #[.val (.ref a0), .val (.int (0 : Int32)), .val (.int (Int32.ofNat PT)), .val (.int (32 : Int32)), .val (.int (0 : Int32))] [(.int (0 : Int32)), (.ref a0)])) (fun target kt => ?_) ?_
  · skip
    show Steps p.tables e below (s₁.setTop (mkF m 0 #[.val (.ref a0), .val (.int (0 : Int32)), .val (.int (Int32.ofNat PT)), .val (.int (32 : Int32)), .unset] [])) _
    refine XS.iloadN X0.here hx rfl (hb hby d18_0) rfl ?_
    show Steps p.tables e below (s₁.setTop (mkF m 1 #[.val (.ref a0), .val (.int (0 : Int32)), .val (.int (Int32.ofNat PT)), .val (.int (32 : Int32)), .unset] [(.int (0 : Int32))])) _
    refine XS.istore X0.here hx rfl (hb hby d18_1) rfl (l' := #[.val (.ref a0), .val (.int (0 : Int32)), .val (.int (Int32.ofNat PT)), .val (.int (32 : Int32)), .val (.int (0 : Int32))]) rfl ?_
    show Steps p.tables e below (s₁.setTop (mkF m 3 #[.val (.ref a0), .val (.int (0 : Int32)), .val (.int (Int32.ofNat PT)), .val (.int (32 : Int32)), .val (.int (0 : Int32))] [])) _
    refine XS.iload X0.here hx rfl (hb hby d18_3) rfl ?_
    show Steps p.tables e below (s₁.setTop (mkF m 5 #[.val (.ref a0), .val (.int (0 : Int32)), .val (.int (Int32.ofNat PT)), .val (.int (32 : Int32)), .val (.int (0 : Int32))] [(.int (0 : Int32))])) _
    refine XS.iloadN X0.here hx rfl (hb hby d18_5) rfl ?_
    show Steps p.tables e below (s₁.setTop (mkF m 6 #[.val (.ref a0), .val (.int (0 : Int32)), .val (.int (Int32.ofNat PT)), .val (.int (32 : Int32)), .val (.int (0 : Int32))] [(.int (Int32.ofNat PT)), (.int (0 : Int32))])) _
    refine XS.icmpNo X0.here hx rfl (hb hby d18_6) rfl (tlt (own_klt (by decide) ⟨hP.1, hP.2.1⟩ : (0 : Int32) < (Int32.ofNat PT))).2.1 ?_
    show Steps p.tables e below (s₁.setTop (mkF m 9 #[.val (.ref a0), .val (.int (0 : Int32)), .val (.int (Int32.ofNat PT)), .val (.int (32 : Int32)), .val (.int (0 : Int32))] [])) _
    refine XS.aloadN X0.here hx rfl (hb hby d18_9) rfl rfl ?_
    show Steps p.tables e below (s₁.setTop (mkF m 10 #[.val (.ref a0), .val (.int (0 : Int32)), .val (.int (Int32.ofNat PT)), .val (.int (32 : Int32)), .val (.int (0 : Int32))] [(.ref a0)])) _
    refine XS.iload X0.here hx rfl (hb hby d18_10) rfl ?_
    exact kt
  obtain ⟨c270, Ar270, S270, M270, H270⟩ := id pf0
  have hj270 : ¬ (0 : Int32) < 0 ∧ ((0 : Int32)).toNatClampNeg < 8 := ⟨by decide, by decide⟩
  have st270 : ∀ target, Steps p.tables e below (s₁.setTop (mkF m 13 #[.val (.ref a0), .val (.int (0 : Int32)), .val (.int (Int32.ofNat PT)), .val (.int (32 : Int32)), .val (.int (0 : Int32))] [(.int (g 0))])) target → Steps p.tables e below (s₁.setTop (mkF m 12 #[.val (.ref a0), .val (.int (0 : Int32)), .val (.int (Int32.ofNat PT)), .val (.int (32 : Int32)), .val (.int (0 : Int32))] [(.int (0 : Int32)), (.ref a0)])) target := fun target kt => X0.baloadBytes hx (j := (0 : Int32)) (v := (.int (g 0))) (by rw [e0]; exact Ar270.1) (State.isArrayOf_alike hZ.alike Ar270.2.1) Ar270.2.2 (own_in S270 hj270) (H270 _ hj270.2) (g := (mkF m 12 #[.val (.ref a0), .val (.int (0 : Int32)), .val (.int (Int32.ofNat PT)), .val (.int (32 : Int32)), .val (.int (0 : Int32))] [(.int (0 : Int32)), (.ref a0)])) rfl rfl (hb hby d18_12) _ kt
  refine own_go (S' := s₁.setTop (mkF m 13 #[.val (.ref a0), .val (.int (0 : Int32)), .val (.int (Int32.ofNat PT)), .val (.int (32 : Int32)), .val (.int (0 : Int32))] [(.int (g 0))])) st270 ?_
  refine own_go (S' := s₁.setTop (mkF m 12 #[.val (.ref a0), .val (.int (0 : Int32)), .val (.int (Int32.ofNat PT)), .val (.int (32 : Int32)), .val (.int (1 : Int32))] [(.int (1 : Int32)), (.ref a0)])) (fun target kt => ?_) ?_
  · skip
    show Steps p.tables e below (s₁.setTop (mkF m 13 #[.val (.ref a0), .val (.int (0 : Int32)), .val (.int (Int32.ofNat PT)), .val (.int (32 : Int32)), .val (.int (0 : Int32))] [(.int (g 0))])) _
    refine XS.iloadN X0.here hx rfl (hb hby d18_13) rfl ?_
    show Steps p.tables e below (s₁.setTop (mkF m 14 #[.val (.ref a0), .val (.int (0 : Int32)), .val (.int (Int32.ofNat PT)), .val (.int (32 : Int32)), .val (.int (0 : Int32))] [(.int (32 : Int32)), (.int (g 0))])) _
    refine XS.icmpNo X0.here hx rfl (hb hby d18_14) rfl (feq (hP.2.2.1.1 : ¬ ((g 0) = (32 : Int32)))).1 ?_
    show Steps p.tables e below (s₁.setTop (mkF m 17 #[.val (.ref a0), .val (.int (0 : Int32)), .val (.int (Int32.ofNat PT)), .val (.int (32 : Int32)), .val (.int (0 : Int32))] [])) _
    refine XS.iinc X0.here hx rfl (hb hby d18_17) rfl (l' := #[.val (.ref a0), .val (.int (0 : Int32)), .val (.int (Int32.ofNat PT)), .val (.int (32 : Int32)), .val (.int ((0 : Int32) + (1 : Int32)))]) rfl ?_
    rw [show ((0 : Int32) + (1 : Int32)) = (1 : Int32) from by decide]
    show Steps p.tables e below (s₁.setTop (mkF m 20 #[.val (.ref a0), .val (.int (0 : Int32)), .val (.int (Int32.ofNat PT)), .val (.int (32 : Int32)), .val (.int (1 : Int32))] [])) _
    refine XS.goto X0.here hx rfl (pc0 := 20) (pc' := 3) rfl (hb hby d18_20) (by decide) (by decide) ?_
    show Steps p.tables e below (s₁.setTop (mkF m 3 #[.val (.ref a0), .val (.int (0 : Int32)), .val (.int (Int32.ofNat PT)), .val (.int (32 : Int32)), .val (.int (1 : Int32))] [])) _
    refine XS.iload X0.here hx rfl (hb hby d18_3) rfl ?_
    show Steps p.tables e below (s₁.setTop (mkF m 5 #[.val (.ref a0), .val (.int (0 : Int32)), .val (.int (Int32.ofNat PT)), .val (.int (32 : Int32)), .val (.int (1 : Int32))] [(.int (1 : Int32))])) _
    refine XS.iloadN X0.here hx rfl (hb hby d18_5) rfl ?_
    show Steps p.tables e below (s₁.setTop (mkF m 6 #[.val (.ref a0), .val (.int (0 : Int32)), .val (.int (Int32.ofNat PT)), .val (.int (32 : Int32)), .val (.int (1 : Int32))] [(.int (Int32.ofNat PT)), (.int (1 : Int32))])) _
    refine XS.icmpNo X0.here hx rfl (hb hby d18_6) rfl (tlt (own_klt (by decide) ⟨hP.1, hP.2.1⟩ : (1 : Int32) < (Int32.ofNat PT))).2.1 ?_
    show Steps p.tables e below (s₁.setTop (mkF m 9 #[.val (.ref a0), .val (.int (0 : Int32)), .val (.int (Int32.ofNat PT)), .val (.int (32 : Int32)), .val (.int (1 : Int32))] [])) _
    refine XS.aloadN X0.here hx rfl (hb hby d18_9) rfl rfl ?_
    show Steps p.tables e below (s₁.setTop (mkF m 10 #[.val (.ref a0), .val (.int (0 : Int32)), .val (.int (Int32.ofNat PT)), .val (.int (32 : Int32)), .val (.int (1 : Int32))] [(.ref a0)])) _
    refine XS.iload X0.here hx rfl (hb hby d18_10) rfl ?_
    exact kt
  obtain ⟨c271, Ar271, S271, M271, H271⟩ := id pf0
  have hj271 : ¬ (1 : Int32) < 0 ∧ ((1 : Int32)).toNatClampNeg < 8 := ⟨by decide, by decide⟩
  have st271 : ∀ target, Steps p.tables e below (s₁.setTop (mkF m 13 #[.val (.ref a0), .val (.int (0 : Int32)), .val (.int (Int32.ofNat PT)), .val (.int (32 : Int32)), .val (.int (1 : Int32))] [(.int (g 1))])) target → Steps p.tables e below (s₁.setTop (mkF m 12 #[.val (.ref a0), .val (.int (0 : Int32)), .val (.int (Int32.ofNat PT)), .val (.int (32 : Int32)), .val (.int (1 : Int32))] [(.int (1 : Int32)), (.ref a0)])) target := fun target kt => X0.baloadBytes hx (j := (1 : Int32)) (v := (.int (g 1))) (by rw [e0]; exact Ar271.1) (State.isArrayOf_alike hZ.alike Ar271.2.1) Ar271.2.2 (own_in S271 hj271) (H271 _ hj271.2) (g := (mkF m 12 #[.val (.ref a0), .val (.int (0 : Int32)), .val (.int (Int32.ofNat PT)), .val (.int (32 : Int32)), .val (.int (1 : Int32))] [(.int (1 : Int32)), (.ref a0)])) rfl rfl (hb hby d18_12) _ kt
  refine own_go (S' := s₁.setTop (mkF m 13 #[.val (.ref a0), .val (.int (0 : Int32)), .val (.int (Int32.ofNat PT)), .val (.int (32 : Int32)), .val (.int (1 : Int32))] [(.int (g 1))])) st271 ?_
  refine own_go (S' := s₁.setTop (mkF m 25 #[.val (.ref a0), .val (.int (0 : Int32)), .val (.int (Int32.ofNat PT)), .val (.int (32 : Int32)), .val (.int (1 : Int32))] [(.int (1 : Int32))])) (fun target kt => ?_) ?_
  · skip
    show Steps p.tables e below (s₁.setTop (mkF m 13 #[.val (.ref a0), .val (.int (0 : Int32)), .val (.int (Int32.ofNat PT)), .val (.int (32 : Int32)), .val (.int (1 : Int32))] [(.int (g 1))])) _
    refine XS.iloadN X0.here hx rfl (hb hby d18_13) rfl ?_
    show Steps p.tables e below (s₁.setTop (mkF m 14 #[.val (.ref a0), .val (.int (0 : Int32)), .val (.int (Int32.ofNat PT)), .val (.int (32 : Int32)), .val (.int (1 : Int32))] [(.int (32 : Int32)), (.int (g 1))])) _
    refine XS.icmpYes X0.here hx rfl (pc0 := 14) (pc' := 23) rfl (hb hby d18_14) rfl (teq (hP.2.2.2.1 : (g 1) = (32 : Int32))).1 (by decide) (by decide) ?_
    show Steps p.tables e below (s₁.setTop (mkF m 23 #[.val (.ref a0), .val (.int (0 : Int32)), .val (.int (Int32.ofNat PT)), .val (.int (32 : Int32)), .val (.int (1 : Int32))] [])) _
    refine XS.iload X0.here hx rfl (hb hby d18_23) rfl ?_
    exact kt
  obtain ⟨fs, hr, hrun, hended, hW, hsame⟩ := X0.leave (v := some (.int (1 : Int32))) (fun h => by rw [Bd.returns] at h; cases h)
  refine ⟨_, _, ?_, hrun, hended, _, _, rfl, ?_, ⟨_, rfl⟩, hW, hsame.mono (by decide) (by decide)⟩
  · exact retI X0 hx Bd.returns (hb hby d18_25) hr
  · show Q18_0 Z a0 PT g h0 n0 _ s₁.heap _
    rw [e0]
    exact ⟨rfl, N0, rfl⟩
set_option maxHeartbeats 40000000 in
theorem own_ef_rm18_3 (m : MethodId) (x0 : Addr) (x1 : Int32) (x2 : Int32) (x3 : Int32) : entryFrame m #[(.ref x0), (.int x1), (.int x2), (.int x3)] 5 = mkF m 0 #[.val (.ref x0), .val (.int x1), .val (.int x2), .val (.int x3), .unset] [] := by first | (simp [entryFrame, mkF, argsToLocals, Value.category]; done) | rfl
def Q18_3 (Z : State) (a0 : Addr) (PT : Nat) (g : Nat → Int32) (h0 : Heap) (n0 : Nat) (v : Option Value) (h : Heap) (L : List Loc) : Prop := v = some (.int (Int32.ofNat PT)) ∧ Fr n0 L ∧ h = h0
set_option maxRecDepth 65536 in
set_option maxHeartbeats 40000000 in
theorem rm18_3 (l : Launch) (Z : State) (aZ : Array Value) (hw : ∀ d ∈ tables_1, d.before aZ Z = true) (ws : List Jvm.Cond) (a0 : Addr) (PT : Nat) (g : Nat → Int32) (h0 : Heap) (n0 : Nat) (Z0 : n0 ≤ h0.size) (pf0 : own_AI Z h0 a0 .byte 8 g) (hP : own_pr PT g) :
    MetFree l (⟨"com/example/long_walk/longwalk/Bytes", "find", "([BIIB)I"⟩ : MethodName) (head1 (Jvm.Cond.code (⟨"com/example/long_walk/longwalk/Bytes", "find", "([BIIB)I"⟩ : MethodName) prog_2_method_2_code 5 (some .int) :: ws) ({ frames := 0, cells := 0, slots := 0, locals := 0 } : Room)) (fun a U => a = #[(.ref a0), (.int (3 : Int32)), (.int (Int32.ofNat PT)), (.int (32 : Int32))] ∧ Z.Warmed39 U.vm ∧ U.heap = h0) (fun _ _ _ _ _ => True) (fun _ U o U' => ∃ v L, o = .returned v ∧ Q18_3 Z a0 PT g h0 n0 v U'.heap L ∧ FrameEnd U o U' L ({ frames := 0, cells := 0, slots := 0, locals := 0 } : Room).cells ({ frames := 0, cells := 0, slots := 0, locals := 0 } : Room).slots) := by
  refine MetFree.of_bodySF (plainFor_of_name own_pn4) hisR ?_
  intro p e s m args below meth c s₁ Bd hml0 hP hK
  obtain ⟨rfl, hZ, hh⟩ := hP
  have hx := Bd.exec
  have hby := Bd.bytes
  have hml : c.maxLocals = 5 := hml0
  have hown : s.vm.findClass "com/example/long_walk/longwalk/Bytes" = some m.cls := findClass_of_methodNamed Bd.named
  have hnm := (name_of_methodNamed Bd.named Bd.method).1
  have X0 : Stand p l e ({ frames := 0, cells := 0, slots := 0, locals := 0 } : Room) s m #[(.ref a0), (.int (3 : Int32)), (.int (Int32.ofNat PT)), (.int (32 : Int32))] below meth c s₁ [] 0 0 := Stand.of_body Bd
  have e0 : s₁.heap = h0 := by rw [← hh, Bd.state]; rfl
  have N0 := Fr.nil n0
  have hP1 := hP.1
  have hP2 := hP.2.1
  refine own_go (S' := s₁.setTop (mkF m 0 #[.val (.ref a0), .val (.int (3 : Int32)), .val (.int (Int32.ofNat PT)), .val (.int (32 : Int32)), .unset] [])) (fun tt0 kk0 => castTop (own_ef_rm18_3 m a0 (3 : Int32) (Int32.ofNat PT) (32 : Int32)) kk0) ?_
  refine own_go (S' := s₁.setTop (mkF m 3 #[.val (.ref a0), .val (.int (3 : Int32)), .val (.int (Int32.ofNat PT)), .val (.int (32 : Int32)), .val (.int (3 : Int32))] [])) (fun target kt => ?_) ?_
  · skip
    show Steps p.tables e below (s₁.setTop (mkF m 0 #[.val (.ref a0), .val (.int (3 : Int32)), .val (.int (Int32.ofNat PT)), .val (.int (32 : Int32)), .unset] [])) _
    refine XS.iloadN X0.here hx rfl (hb hby d18_0) rfl ?_
    show Steps p.tables e below (s₁.setTop (mkF m 1 #[.val (.ref a0), .val (.int (3 : Int32)), .val (.int (Int32.ofNat PT)), .val (.int (32 : Int32)), .unset] [(.int (3 : Int32))])) _
    refine XS.istore X0.here hx rfl (hb hby d18_1) rfl (l' := #[.val (.ref a0), .val (.int (3 : Int32)), .val (.int (Int32.ofNat PT)), .val (.int (32 : Int32)), .val (.int (3 : Int32))]) rfl ?_
    exact kt
  have own_loop : ∀ (k : Nat) (i : Nat) (T : State) (locs : List Loc), (hk : i + k = PT) → (h3 : 3 ≤ i) → Stand p l e ({ frames := 0, cells := 0, slots := 0, locals := 0 } : Room) s m #[(.ref a0), (.int (3 : Int32)), (.int (Int32.ofNat PT)), (.int (32 : Int32))] below meth c T locs 0 0 → T.heap = h0 → Fr n0 locs → ∃ s₂ o, Steps p.tables e below (T.setTop (mkF m 3 #[.val (.ref a0), .val (.int (3 : Int32)), .val (.int (Int32.ofNat PT)), .val (.int (32 : Int32)), .val (.int (Int32.ofNat i))] [])) s₂ ∧ s₂.status = .running ∧ Ended s₂ below o ∧ ∃ v LL, o = .returned v ∧ (v = some (.int (Int32.ofNat PT)) ∧ Fr n0 LL ∧ s₂.heap = h0) ∧ FrameEnd s o s₂ LL ({ frames := 0, cells := 0, slots := 0, locals := 0 } : Room).cells ({ frames := 0, cells := 0, slots := 0, locals := 0 } : Room).slots := by
    intro k
    induction k with
    | zero =>
      intro i T locs hk h3 XL eL NL
      refine own_go (S' := T.setTop (mkF m 25 #[.val (.ref a0), .val (.int (3 : Int32)), .val (.int (Int32.ofNat PT)), .val (.int (32 : Int32)), .val (.int (Int32.ofNat i))] [(.int (Int32.ofNat i))])) (fun target kt => ?_) ?_
      · skip
        show Steps p.tables e below (T.setTop (mkF m 3 #[.val (.ref a0), .val (.int (3 : Int32)), .val (.int (Int32.ofNat PT)), .val (.int (32 : Int32)), .val (.int (Int32.ofNat i))] [])) _
        refine XS.iload XL.here hx rfl (hb hby d18_3) rfl ?_
        show Steps p.tables e below (T.setTop (mkF m 5 #[.val (.ref a0), .val (.int (3 : Int32)), .val (.int (Int32.ofNat PT)), .val (.int (32 : Int32)), .val (.int (Int32.ofNat i))] [(.int (Int32.ofNat i))])) _
        refine XS.iloadN XL.here hx rfl (hb hby d18_5) rfl ?_
        show Steps p.tables e below (T.setTop (mkF m 6 #[.val (.ref a0), .val (.int (3 : Int32)), .val (.int (Int32.ofNat PT)), .val (.int (32 : Int32)), .val (.int (Int32.ofNat i))] [(.int (Int32.ofNat PT)), (.int (Int32.ofNat i))])) _
        refine XS.icmpYes XL.here hx rfl (pc0 := 6) (pc' := 23) rfl (hb hby d18_6) rfl (flt (own_nlt (by omega) (by omega) (by omega) : ¬ ((Int32.ofNat i) < (Int32.ofNat PT)))).2.1 (by decide) (by decide) ?_
        show Steps p.tables e below (T.setTop (mkF m 23 #[.val (.ref a0), .val (.int (3 : Int32)), .val (.int (Int32.ofNat PT)), .val (.int (32 : Int32)), .val (.int (Int32.ofNat i))] [])) _
        refine XS.iload XL.here hx rfl (hb hby d18_23) rfl ?_
        exact kt
      obtain ⟨fs, hr, hrun, hended, hW, hsame⟩ := XL.leave (v := some (.int (Int32.ofNat i))) (fun h => by rw [Bd.returns] at h; cases h)
      refine ⟨_, _, ?_, hrun, hended, _, _, rfl, ?_, ⟨_, rfl⟩, hW, hsame.mono (by decide) (by decide)⟩
      · exact retI XL hx Bd.returns (hb hby d18_25) hr
      · skip
        exact ⟨(by rw [show i = PT by omega]), NL, eL⟩
    | succ k ih =>
      intro i T locs hk h3 XL eL NL
      refine own_go (S' := T.setTop (mkF m 12 #[.val (.ref a0), .val (.int (3 : Int32)), .val (.int (Int32.ofNat PT)), .val (.int (32 : Int32)), .val (.int (Int32.ofNat i))] [(.int (Int32.ofNat i)), (.ref a0)])) (fun target kt => ?_) ?_
      · skip
        show Steps p.tables e below (T.setTop (mkF m 3 #[.val (.ref a0), .val (.int (3 : Int32)), .val (.int (Int32.ofNat PT)), .val (.int (32 : Int32)), .val (.int (Int32.ofNat i))] [])) _
        refine XS.iload XL.here hx rfl (hb hby d18_3) rfl ?_
        show Steps p.tables e below (T.setTop (mkF m 5 #[.val (.ref a0), .val (.int (3 : Int32)), .val (.int (Int32.ofNat PT)), .val (.int (32 : Int32)), .val (.int (Int32.ofNat i))] [(.int (Int32.ofNat i))])) _
        refine XS.iloadN XL.here hx rfl (hb hby d18_5) rfl ?_
        show Steps p.tables e below (T.setTop (mkF m 6 #[.val (.ref a0), .val (.int (3 : Int32)), .val (.int (Int32.ofNat PT)), .val (.int (32 : Int32)), .val (.int (Int32.ofNat i))] [(.int (Int32.ofNat PT)), (.int (Int32.ofNat i))])) _
        refine XS.icmpNo XL.here hx rfl (hb hby d18_6) rfl (tlt (own_lt (by omega) (by omega) : (Int32.ofNat i) < (Int32.ofNat PT))).2.1 ?_
        show Steps p.tables e below (T.setTop (mkF m 9 #[.val (.ref a0), .val (.int (3 : Int32)), .val (.int (Int32.ofNat PT)), .val (.int (32 : Int32)), .val (.int (Int32.ofNat i))] [])) _
        refine XS.aloadN XL.here hx rfl (hb hby d18_9) rfl rfl ?_
        show Steps p.tables e below (T.setTop (mkF m 10 #[.val (.ref a0), .val (.int (3 : Int32)), .val (.int (Int32.ofNat PT)), .val (.int (32 : Int32)), .val (.int (Int32.ofNat i))] [(.ref a0)])) _
        refine XS.iload XL.here hx rfl (hb hby d18_10) rfl ?_
        exact kt
      obtain ⟨c272, Ar272, S272, M272, H272⟩ := id pf0
      have hj272 : ¬ (Int32.ofNat i) < 0 ∧ ((Int32.ofNat i)).toNatClampNeg < 8 := (own_inb (by omega))
      have st272 : ∀ target, Steps p.tables e below (T.setTop (mkF m 13 #[.val (.ref a0), .val (.int (3 : Int32)), .val (.int (Int32.ofNat PT)), .val (.int (32 : Int32)), .val (.int (Int32.ofNat i))] [(.int (g ((Int32.ofNat i)).toNatClampNeg))])) target → Steps p.tables e below (T.setTop (mkF m 12 #[.val (.ref a0), .val (.int (3 : Int32)), .val (.int (Int32.ofNat PT)), .val (.int (32 : Int32)), .val (.int (Int32.ofNat i))] [(.int (Int32.ofNat i)), (.ref a0)])) target := fun target kt => XL.baloadBytes hx (j := (Int32.ofNat i)) (v := (.int (g ((Int32.ofNat i)).toNatClampNeg))) (by rw [eL]; exact Ar272.1) (State.isArrayOf_alike hZ.alike Ar272.2.1) Ar272.2.2 (own_in S272 hj272) (H272 _ hj272.2) (g := (mkF m 12 #[.val (.ref a0), .val (.int (3 : Int32)), .val (.int (Int32.ofNat PT)), .val (.int (32 : Int32)), .val (.int (Int32.ofNat i))] [(.int (Int32.ofNat i)), (.ref a0)])) rfl rfl (hb hby d18_12) _ kt
      refine own_go (S' := T.setTop (mkF m 13 #[.val (.ref a0), .val (.int (3 : Int32)), .val (.int (Int32.ofNat PT)), .val (.int (32 : Int32)), .val (.int (Int32.ofNat i))] [(.int (g ((Int32.ofNat i)).toNatClampNeg))])) st272 ?_
      rw [show (g ((Int32.ofNat i)).toNatClampNeg) = (g i) from congrArg g (own_clamp (by omega))]
      obtain ⟨i1, h_i1⟩ : ∃ z : Int32, z = ((Int32.ofNat i) + (1 : Int32)) := ⟨_, rfl⟩
      refine own_go (S' := T.setTop (mkF m 20 #[.val (.ref a0), .val (.int (3 : Int32)), .val (.int (Int32.ofNat PT)), .val (.int (32 : Int32)), .val (.int i1)] [])) (fun target kt => ?_) ?_
      · subst h_i1
        show Steps p.tables e below (T.setTop (mkF m 13 #[.val (.ref a0), .val (.int (3 : Int32)), .val (.int (Int32.ofNat PT)), .val (.int (32 : Int32)), .val (.int (Int32.ofNat i))] [(.int (g i))])) _
        refine XS.iloadN XL.here hx rfl (hb hby d18_13) rfl ?_
        show Steps p.tables e below (T.setTop (mkF m 14 #[.val (.ref a0), .val (.int (3 : Int32)), .val (.int (Int32.ofNat PT)), .val (.int (32 : Int32)), .val (.int (Int32.ofNat i))] [(.int (32 : Int32)), (.int (g i))])) _
        refine XS.icmpNo XL.here hx rfl (hb hby d18_14) rfl (feq (hP.2.2.2.2.2.2 i (by omega) (by omega) : ¬ ((g i) = (32 : Int32)))).1 ?_
        show Steps p.tables e below (T.setTop (mkF m 17 #[.val (.ref a0), .val (.int (3 : Int32)), .val (.int (Int32.ofNat PT)), .val (.int (32 : Int32)), .val (.int (Int32.ofNat i))] [])) _
        refine XS.iinc XL.here hx rfl (hb hby d18_17) rfl (l' := #[.val (.ref a0), .val (.int (3 : Int32)), .val (.int (Int32.ofNat PT)), .val (.int (32 : Int32)), .val (.int ((Int32.ofNat i) + (1 : Int32)))]) rfl ?_
        exact kt
      have hb_i1 : i1 = (Int32.ofNat (i + 1)) := h_i1.trans (own_one i)
      subst hb_i1
      refine own_go (S' := T.setTop (mkF m 3 #[.val (.ref a0), .val (.int (3 : Int32)), .val (.int (Int32.ofNat PT)), .val (.int (32 : Int32)), .val (.int (Int32.ofNat (i + 1)))] [])) (fun target kt => ?_) ?_
      · skip
        show Steps p.tables e below (T.setTop (mkF m 20 #[.val (.ref a0), .val (.int (3 : Int32)), .val (.int (Int32.ofNat PT)), .val (.int (32 : Int32)), .val (.int (Int32.ofNat (i + 1)))] [])) _
        refine XS.goto XL.here hx rfl (pc0 := 20) (pc' := 3) rfl (hb hby d18_20) (by decide) (by decide) ?_
        exact kt
      exact ih (i + 1) T _ (by omega) (by omega) XL eL NL
  exact own_loop (PT - 3) 3 s₁ _ (by have := hP.1; omega) (by decide) X0 e0 N0
theorem d19_0 : decode prog_31_method_4_code 0 = .ok (.iload_n 1, 1) := by decide +kernel
theorem d19_1 : decode prog_31_method_4_code 1 = .ok (.istore_n 3, 1) := by decide +kernel
theorem d19_2 : decode prog_31_method_4_code 2 = .ok (.iload_n 3, 1) := by decide +kernel
theorem d19_3 : decode prog_31_method_4_code 3 = .ok (.iload_n 2, 1) := by decide +kernel
theorem d19_4 : decode prog_31_method_4_code 4 = .ok (.if_icmp .ge 36, 3) := by decide +kernel
theorem d19_7 : decode prog_31_method_4_code 7 = .ok (.aload_n 0, 1) := by decide +kernel
theorem d19_8 : decode prog_31_method_4_code 8 = .ok (.iload_n 3, 1) := by decide +kernel
theorem d19_9 : decode prog_31_method_4_code 9 = .ok (.baload, 1) := by decide +kernel
theorem d19_10 : decode prog_31_method_4_code 10 = .ok (.ifCond .lt 7, 3) := by decide +kernel
theorem d19_13 : decode prog_31_method_4_code 13 = .ok (.iconst 1, 1) := by decide +kernel
theorem d19_14 : decode prog_31_method_4_code 14 = .ok (.goto 9, 3) := by decide +kernel
theorem d19_17 : decode prog_31_method_4_code 17 = .ok (.aload_n 0, 1) := by decide +kernel
theorem d19_18 : decode prog_31_method_4_code 18 = .ok (.iload_n 3, 1) := by decide +kernel
theorem d19_19 : decode prog_31_method_4_code 19 = .ok (.iload_n 2, 1) := by decide +kernel
theorem d19_20 : decode prog_31_method_4_code 20 = .ok (.invokestatic 29, 3) := by decide +kernel
theorem d19_23 : decode prog_31_method_4_code 23 = .ok (.istore 4, 2) := by decide +kernel
theorem d19_25 : decode prog_31_method_4_code 25 = .ok (.iload 4, 2) := by decide +kernel
theorem d19_27 : decode prog_31_method_4_code 27 = .ok (.ifCond .ne 5, 3) := by decide +kernel
theorem d19_30 : decode prog_31_method_4_code 30 = .ok (.iload_n 3, 1) := by decide +kernel
theorem d19_31 : decode prog_31_method_4_code 31 = .ok (.ireturn, 1) := by decide +kernel
theorem d19_32 : decode prog_31_method_4_code 32 = .ok (.iload_n 3, 1) := by decide +kernel
theorem d19_33 : decode prog_31_method_4_code 33 = .ok (.iload 4, 2) := by decide +kernel
theorem d19_35 : decode prog_31_method_4_code 35 = .ok (.iadd, 1) := by decide +kernel
theorem d19_36 : decode prog_31_method_4_code 36 = .ok (.istore_n 3, 1) := by decide +kernel
theorem d19_37 : decode prog_31_method_4_code 37 = .ok (.goto (-35), 3) := by decide +kernel
theorem d19_40 : decode prog_31_method_4_code 40 = .ok (.iconst (-1), 1) := by decide +kernel
theorem d19_41 : decode prog_31_method_4_code 41 = .ok (.ireturn, 1) := by decide +kernel
theorem own_pn5 : plainName "com/example/long_walk/longwalk/Utf8" = true := by first | (simp [plainName, overriddenIn]; done) | decide +kernel
set_option maxHeartbeats 40000000 in
theorem own_ef_rm19 (m : MethodId) (x0 : Addr) (x1 : Int32) (x2 : Int32) : entryFrame m #[(.ref x0), (.int x1), (.int x2)] 5 = mkF m 0 #[.val (.ref x0), .val (.int x1), .val (.int x2), .unset, .unset] [] := by first | (simp [entryFrame, mkF, argsToLocals, Value.category]; done) | rfl
def Q19 (Z : State) (a0 : Addr) (PT : Nat) (g : Nat → Int32) (h0 : Heap) (n0 : Nat) (v : Option Value) (h : Heap) (L : List Loc) : Prop := v = some (.int (-1 : Int32)) ∧ Fr n0 L ∧ h = h0
set_option maxRecDepth 65536 in
set_option maxHeartbeats 40000000 in
theorem rm19 (l : Launch) (Z : State) (aZ : Array Value) (hw : ∀ d ∈ tables_1, d.before aZ Z = true) (ws : List Jvm.Cond) (a0 : Addr) (PT : Nat) (g : Nat → Int32) (h0 : Heap) (n0 : Nat) (Z0 : n0 ≤ h0.size) (pf0 : own_AI Z h0 a0 .byte 8 g) (hP8 : PT ≤ 8) (hneg : ∀ j, j < 8 → ¬ (g j) < (0 : Int32)) :
    MetFree l (⟨"com/example/long_walk/longwalk/Utf8", "firstInvalid", "([BII)I"⟩ : MethodName) (head1 (Jvm.Cond.code (⟨"com/example/long_walk/longwalk/Utf8", "firstInvalid", "([BII)I"⟩ : MethodName) prog_31_method_4_code 5 (some .int) :: ws) ({ frames := 0, cells := 0, slots := 0, locals := 0 } : Room)) (fun a U => a = #[(.ref a0), (.int (0 : Int32)), (.int (Int32.ofNat PT))] ∧ Z.Warmed39 U.vm ∧ U.heap = h0) (fun _ _ _ _ _ => True) (fun _ U o U' => ∃ v L, o = .returned v ∧ Q19 Z a0 PT g h0 n0 v U'.heap L ∧ FrameEnd U o U' L ({ frames := 0, cells := 0, slots := 0, locals := 0 } : Room).cells ({ frames := 0, cells := 0, slots := 0, locals := 0 } : Room).slots) := by
  refine MetFree.of_bodySF (plainFor_of_name own_pn5) hisR ?_
  intro p e s m args below meth c s₁ Bd hml0 hP hK
  obtain ⟨rfl, hZ, hh⟩ := hP
  have hx := Bd.exec
  have hby := Bd.bytes
  have hml : c.maxLocals = 5 := hml0
  have hown : s.vm.findClass "com/example/long_walk/longwalk/Utf8" = some m.cls := findClass_of_methodNamed Bd.named
  have hnm := (name_of_methodNamed Bd.named Bd.method).1
  have X0 : Stand p l e ({ frames := 0, cells := 0, slots := 0, locals := 0 } : Room) s m #[(.ref a0), (.int (0 : Int32)), (.int (Int32.ofNat PT))] below meth c s₁ [] 0 0 := Stand.of_body Bd
  have e0 : s₁.heap = h0 := by rw [← hh, Bd.state]; rfl
  have N0 := Fr.nil n0
  refine own_go (S' := s₁.setTop (mkF m 0 #[.val (.ref a0), .val (.int (0 : Int32)), .val (.int (Int32.ofNat PT)), .unset, .unset] [])) (fun tt0 kk0 => castTop (own_ef_rm19 m a0 (0 : Int32) (Int32.ofNat PT)) kk0) ?_
  refine own_go (S' := s₁.setTop (mkF m 2 #[.val (.ref a0), .val (.int (0 : Int32)), .val (.int (Int32.ofNat PT)), .val (.int (0 : Int32)), .unset] [])) (fun target kt => ?_) ?_
  · skip
    show Steps p.tables e below (s₁.setTop (mkF m 0 #[.val (.ref a0), .val (.int (0 : Int32)), .val (.int (Int32.ofNat PT)), .unset, .unset] [])) _
    refine XS.iloadN X0.here hx rfl (hb hby d19_0) rfl ?_
    show Steps p.tables e below (s₁.setTop (mkF m 1 #[.val (.ref a0), .val (.int (0 : Int32)), .val (.int (Int32.ofNat PT)), .unset, .unset] [(.int (0 : Int32))])) _
    refine XS.istoreN X0.here hx rfl (hb hby d19_1) rfl (l' := #[.val (.ref a0), .val (.int (0 : Int32)), .val (.int (Int32.ofNat PT)), .val (.int (0 : Int32)), .unset]) rfl ?_
    exact kt
  have own_loop : ∀ (k : Nat) (i : Nat) (d : Slot) (T : State) (locs : List Loc), (hk : i + k = PT) → (h_d : One d) → Stand p l e ({ frames := 0, cells := 0, slots := 0, locals := 0 } : Room) s m #[(.ref a0), (.int (0 : Int32)), (.int (Int32.ofNat PT))] below meth c T locs 0 0 → T.heap = h0 → Fr n0 locs → ∃ s₂ o, Steps p.tables e below (T.setTop (mkF m 2 #[.val (.ref a0), .val (.int (0 : Int32)), .val (.int (Int32.ofNat PT)), .val (.int (Int32.ofNat i)), d] [])) s₂ ∧ s₂.status = .running ∧ Ended s₂ below o ∧ ∃ v LL, o = .returned v ∧ (v = some (.int (-1 : Int32)) ∧ Fr n0 LL ∧ s₂.heap = h0) ∧ FrameEnd s o s₂ LL ({ frames := 0, cells := 0, slots := 0, locals := 0 } : Room).cells ({ frames := 0, cells := 0, slots := 0, locals := 0 } : Room).slots := by
    intro k
    induction k with
    | zero =>
      intro i d T locs hk h_d XL eL NL
      refine own_go (S' := T.setTop (mkF m 41 #[.val (.ref a0), .val (.int (0 : Int32)), .val (.int (Int32.ofNat PT)), .val (.int (Int32.ofNat i)), d] [(.int (-1 : Int32))])) (fun target kt => ?_) ?_
      · skip
        show Steps p.tables e below (T.setTop (mkF m 2 #[.val (.ref a0), .val (.int (0 : Int32)), .val (.int (Int32.ofNat PT)), .val (.int (Int32.ofNat i)), d] [])) _
        refine XS.iloadN XL.here hx rfl (hb hby d19_2) rfl ?_
        show Steps p.tables e below (T.setTop (mkF m 3 #[.val (.ref a0), .val (.int (0 : Int32)), .val (.int (Int32.ofNat PT)), .val (.int (Int32.ofNat i)), d] [(.int (Int32.ofNat i))])) _
        refine XS.iloadN XL.here hx rfl (hb hby d19_3) rfl ?_
        show Steps p.tables e below (T.setTop (mkF m 4 #[.val (.ref a0), .val (.int (0 : Int32)), .val (.int (Int32.ofNat PT)), .val (.int (Int32.ofNat i)), d] [(.int (Int32.ofNat PT)), (.int (Int32.ofNat i))])) _
        refine XS.icmpYes XL.here hx rfl (pc0 := 4) (pc' := 40) rfl (hb hby d19_4) rfl (flt (own_nlt (by omega) (by omega) (by omega) : ¬ ((Int32.ofNat i) < (Int32.ofNat PT)))).2.1 (by decide) (by decide) ?_
        show Steps p.tables e below (T.setTop (mkF m 40 #[.val (.ref a0), .val (.int (0 : Int32)), .val (.int (Int32.ofNat PT)), .val (.int (Int32.ofNat i)), d] [])) _
        refine XS.iconst XL.here hx rfl (hb hby d19_40) ?_
        exact kt
      obtain ⟨fs, hr, hrun, hended, hW, hsame⟩ := XL.leave (v := some (.int (-1 : Int32))) (fun h => by rw [Bd.returns] at h; cases h)
      refine ⟨_, _, ?_, hrun, hended, _, _, rfl, ?_, ⟨_, rfl⟩, hW, hsame.mono (by decide) (by decide)⟩
      · exact retI XL hx Bd.returns (hb hby d19_41) hr
      · skip
        exact ⟨rfl, NL, eL⟩
    | succ k ih =>
      intro i d T locs hk h_d XL eL NL
      refine own_go (S' := T.setTop (mkF m 9 #[.val (.ref a0), .val (.int (0 : Int32)), .val (.int (Int32.ofNat PT)), .val (.int (Int32.ofNat i)), d] [(.int (Int32.ofNat i)), (.ref a0)])) (fun target kt => ?_) ?_
      · skip
        show Steps p.tables e below (T.setTop (mkF m 2 #[.val (.ref a0), .val (.int (0 : Int32)), .val (.int (Int32.ofNat PT)), .val (.int (Int32.ofNat i)), d] [])) _
        refine XS.iloadN XL.here hx rfl (hb hby d19_2) rfl ?_
        show Steps p.tables e below (T.setTop (mkF m 3 #[.val (.ref a0), .val (.int (0 : Int32)), .val (.int (Int32.ofNat PT)), .val (.int (Int32.ofNat i)), d] [(.int (Int32.ofNat i))])) _
        refine XS.iloadN XL.here hx rfl (hb hby d19_3) rfl ?_
        show Steps p.tables e below (T.setTop (mkF m 4 #[.val (.ref a0), .val (.int (0 : Int32)), .val (.int (Int32.ofNat PT)), .val (.int (Int32.ofNat i)), d] [(.int (Int32.ofNat PT)), (.int (Int32.ofNat i))])) _
        refine XS.icmpNo XL.here hx rfl (hb hby d19_4) rfl (tlt (own_lt (by omega) (by omega) : (Int32.ofNat i) < (Int32.ofNat PT))).2.1 ?_
        show Steps p.tables e below (T.setTop (mkF m 7 #[.val (.ref a0), .val (.int (0 : Int32)), .val (.int (Int32.ofNat PT)), .val (.int (Int32.ofNat i)), d] [])) _
        refine XS.aloadN XL.here hx rfl (hb hby d19_7) rfl rfl ?_
        show Steps p.tables e below (T.setTop (mkF m 8 #[.val (.ref a0), .val (.int (0 : Int32)), .val (.int (Int32.ofNat PT)), .val (.int (Int32.ofNat i)), d] [(.ref a0)])) _
        refine XS.iloadN XL.here hx rfl (hb hby d19_8) rfl ?_
        exact kt
      obtain ⟨c273, Ar273, S273, M273, H273⟩ := id pf0
      have hj273 : ¬ (Int32.ofNat i) < 0 ∧ ((Int32.ofNat i)).toNatClampNeg < 8 := (own_inb (by omega))
      have st273 : ∀ target, Steps p.tables e below (T.setTop (mkF m 10 #[.val (.ref a0), .val (.int (0 : Int32)), .val (.int (Int32.ofNat PT)), .val (.int (Int32.ofNat i)), d] [(.int (g ((Int32.ofNat i)).toNatClampNeg))])) target → Steps p.tables e below (T.setTop (mkF m 9 #[.val (.ref a0), .val (.int (0 : Int32)), .val (.int (Int32.ofNat PT)), .val (.int (Int32.ofNat i)), d] [(.int (Int32.ofNat i)), (.ref a0)])) target := fun target kt => XL.baloadBytes hx (j := (Int32.ofNat i)) (v := (.int (g ((Int32.ofNat i)).toNatClampNeg))) (by rw [eL]; exact Ar273.1) (State.isArrayOf_alike hZ.alike Ar273.2.1) Ar273.2.2 (own_in S273 hj273) (H273 _ hj273.2) (g := (mkF m 9 #[.val (.ref a0), .val (.int (0 : Int32)), .val (.int (Int32.ofNat PT)), .val (.int (Int32.ofNat i)), d] [(.int (Int32.ofNat i)), (.ref a0)])) rfl rfl (hb hby d19_9) _ kt
      refine own_go (S' := T.setTop (mkF m 10 #[.val (.ref a0), .val (.int (0 : Int32)), .val (.int (Int32.ofNat PT)), .val (.int (Int32.ofNat i)), d] [(.int (g ((Int32.ofNat i)).toNatClampNeg))])) st273 ?_
      rw [show (g ((Int32.ofNat i)).toNatClampNeg) = (g i) from congrArg g (own_clamp (by omega))]
      obtain ⟨i1, h_i1⟩ : ∃ z : Int32, z = ((Int32.ofNat i) + (1 : Int32)) := ⟨_, rfl⟩
      refine own_go (S' := T.setTop (mkF m 37 #[.val (.ref a0), .val (.int (0 : Int32)), .val (.int (Int32.ofNat PT)), .val (.int i1), .val (.int (1 : Int32))] [])) (fun target kt => ?_) ?_
      · subst h_i1
        show Steps p.tables e below (T.setTop (mkF m 10 #[.val (.ref a0), .val (.int (0 : Int32)), .val (.int (Int32.ofNat PT)), .val (.int (Int32.ofNat i)), d] [(.int (g i))])) _
        refine XS.ifNo XL.here hx rfl (hb hby d19_10) rfl ((if0 _ _).trans (flt (hneg i (by omega) : ¬ ((g i) < (0 : Int32)))).1) ?_
        show Steps p.tables e below (T.setTop (mkF m 13 #[.val (.ref a0), .val (.int (0 : Int32)), .val (.int (Int32.ofNat PT)), .val (.int (Int32.ofNat i)), d] [])) _
        refine XS.iconst XL.here hx rfl (hb hby d19_13) ?_
        show Steps p.tables e below (T.setTop (mkF m 14 #[.val (.ref a0), .val (.int (0 : Int32)), .val (.int (Int32.ofNat PT)), .val (.int (Int32.ofNat i)), d] [(.int (1 : Int32))])) _
        refine XS.goto XL.here hx rfl (pc0 := 14) (pc' := 23) rfl (hb hby d19_14) (by decide) (by decide) ?_
        show Steps p.tables e below (T.setTop (mkF m 23 #[.val (.ref a0), .val (.int (0 : Int32)), .val (.int (Int32.ofNat PT)), .val (.int (Int32.ofNat i)), d] [(.int (1 : Int32))])) _
        refine XS.istore XL.here hx rfl (hb hby d19_23) rfl (l' := #[.val (.ref a0), .val (.int (0 : Int32)), .val (.int (Int32.ofNat PT)), .val (.int (Int32.ofNat i)), .val (.int (1 : Int32))]) (by rcases h_d with rfl | ⟨w, rfl, hw⟩ <;> first | rfl | (cases w <;> first | rfl | (simp [Value.category] at hw))) ?_
        show Steps p.tables e below (T.setTop (mkF m 25 #[.val (.ref a0), .val (.int (0 : Int32)), .val (.int (Int32.ofNat PT)), .val (.int (Int32.ofNat i)), .val (.int (1 : Int32))] [])) _
        refine XS.iload XL.here hx rfl (hb hby d19_25) rfl ?_
        show Steps p.tables e below (T.setTop (mkF m 27 #[.val (.ref a0), .val (.int (0 : Int32)), .val (.int (Int32.ofNat PT)), .val (.int (Int32.ofNat i)), .val (.int (1 : Int32))] [(.int (1 : Int32))])) _
        refine XS.ifYes XL.here hx rfl (pc0 := 27) (pc' := 32) rfl (hb hby d19_27) rfl ((if0 _ _).trans (feq (by decide : ¬ ((1 : Int32) = (0 : Int32)))).2) (by decide) (by decide) ?_
        show Steps p.tables e below (T.setTop (mkF m 32 #[.val (.ref a0), .val (.int (0 : Int32)), .val (.int (Int32.ofNat PT)), .val (.int (Int32.ofNat i)), .val (.int (1 : Int32))] [])) _
        refine XS.iloadN XL.here hx rfl (hb hby d19_32) rfl ?_
        show Steps p.tables e below (T.setTop (mkF m 33 #[.val (.ref a0), .val (.int (0 : Int32)), .val (.int (Int32.ofNat PT)), .val (.int (Int32.ofNat i)), .val (.int (1 : Int32))] [(.int (Int32.ofNat i))])) _
        refine XS.iload XL.here hx rfl (hb hby d19_33) rfl ?_
        show Steps p.tables e below (T.setTop (mkF m 35 #[.val (.ref a0), .val (.int (0 : Int32)), .val (.int (Int32.ofNat PT)), .val (.int (Int32.ofNat i)), .val (.int (1 : Int32))] [(.int (1 : Int32)), (.int (Int32.ofNat i))])) _
        refine XS.iadd XL.here hx rfl (hb hby d19_35) rfl ?_
        show Steps p.tables e below (T.setTop (mkF m 36 #[.val (.ref a0), .val (.int (0 : Int32)), .val (.int (Int32.ofNat PT)), .val (.int (Int32.ofNat i)), .val (.int (1 : Int32))] [(.int ((Int32.ofNat i) + (1 : Int32)))])) _
        refine XS.istoreN XL.here hx rfl (hb hby d19_36) rfl (l' := #[.val (.ref a0), .val (.int (0 : Int32)), .val (.int (Int32.ofNat PT)), .val (.int ((Int32.ofNat i) + (1 : Int32))), .val (.int (1 : Int32))]) rfl ?_
        exact kt
      have hb_i1 : i1 = (Int32.ofNat (i + 1)) := h_i1.trans (own_one i)
      subst hb_i1
      refine own_go (S' := T.setTop (mkF m 2 #[.val (.ref a0), .val (.int (0 : Int32)), .val (.int (Int32.ofNat PT)), .val (.int (Int32.ofNat (i + 1))), .val (.int (1 : Int32))] [])) (fun target kt => ?_) ?_
      · skip
        show Steps p.tables e below (T.setTop (mkF m 37 #[.val (.ref a0), .val (.int (0 : Int32)), .val (.int (Int32.ofNat PT)), .val (.int (Int32.ofNat (i + 1))), .val (.int (1 : Int32))] [])) _
        refine XS.goto XL.here hx rfl (pc0 := 37) (pc' := 2) rfl (hb hby d19_37) (by decide) (by decide) ?_
        exact kt
      exact ih (i + 1) (.val (.int (1 : Int32))) T _ (by omega) (One.val rfl) XL eL NL
  exact own_loop PT 0 .unset s₁ _ (by omega) (One.u) X0 e0 N0
theorem d12_0 : decode prog_7_method_9_code 0 = .ok (.iload_n 2, 1) := by decide +kernel
theorem d12_1 : decode prog_7_method_9_code 1 = .ok (.iload_n 1, 1) := by decide +kernel
theorem d12_2 : decode prog_7_method_9_code 2 = .ok (.if_icmp .ne 15, 3) := by decide +kernel
theorem d12_5 : decode prog_7_method_9_code 5 = .ok (.new 40, 3) := by decide +kernel
theorem d12_8 : decode prog_7_method_9_code 8 = .ok (.dup, 1) := by decide +kernel
theorem d12_9 : decode prog_7_method_9_code 9 = .ok (.lload 4, 2) := by decide +kernel
theorem d12_11 : decode prog_7_method_9_code 11 = .ok (.ldc 78, 2) := by decide +kernel
theorem d12_13 : decode prog_7_method_9_code 13 = .ok (.invokespecial 46, 3) := by decide +kernel
theorem d12_16 : decode prog_7_method_9_code 16 = .ok (.athrow, 1) := by decide +kernel
theorem d12_17 : decode prog_7_method_9_code 17 = .ok (.iload_n 3, 1) := by decide +kernel
theorem d12_18 : decode prog_7_method_9_code 18 = .ok (.iload_n 2, 1) := by decide +kernel
theorem d12_19 : decode prog_7_method_9_code 19 = .ok (.iconst 1, 1) := by decide +kernel
theorem d12_20 : decode prog_7_method_9_code 20 = .ok (.iadd, 1) := by decide +kernel
theorem d12_21 : decode prog_7_method_9_code 21 = .ok (.if_icmp .ne 15, 3) := by decide +kernel
theorem d12_24 : decode prog_7_method_9_code 24 = .ok (.new 40, 3) := by decide +kernel
theorem d12_27 : decode prog_7_method_9_code 27 = .ok (.dup, 1) := by decide +kernel
theorem d12_28 : decode prog_7_method_9_code 28 = .ok (.lload 4, 2) := by decide +kernel
theorem d12_30 : decode prog_7_method_9_code 30 = .ok (.ldc 80, 2) := by decide +kernel
theorem d12_32 : decode prog_7_method_9_code 32 = .ok (.invokespecial 46, 3) := by decide +kernel
theorem d12_35 : decode prog_7_method_9_code 35 = .ok (.athrow, 1) := by decide +kernel
theorem d12_36 : decode prog_7_method_9_code 36 = .ok (.aload_n 0, 1) := by decide +kernel
theorem d12_37 : decode prog_7_method_9_code 37 = .ok (.iload_n 1, 1) := by decide +kernel
theorem d12_38 : decode prog_7_method_9_code 38 = .ok (.putfield 66, 3) := by decide +kernel
theorem d12_41 : decode prog_7_method_9_code 41 = .ok (.aload_n 0, 1) := by decide +kernel
theorem d12_42 : decode prog_7_method_9_code 42 = .ok (.iload_n 2, 1) := by decide +kernel
theorem d12_43 : decode prog_7_method_9_code 43 = .ok (.putfield 69, 3) := by decide +kernel
theorem d12_46 : decode prog_7_method_9_code 46 = .ok (.aload_n 0, 1) := by decide +kernel
theorem d12_47 : decode prog_7_method_9_code 47 = .ok (.iload_n 2, 1) := by decide +kernel
theorem d12_48 : decode prog_7_method_9_code 48 = .ok (.iconst 1, 1) := by decide +kernel
theorem d12_49 : decode prog_7_method_9_code 49 = .ok (.iadd, 1) := by decide +kernel
theorem d12_50 : decode prog_7_method_9_code 50 = .ok (.putfield 72, 3) := by decide +kernel
theorem d12_53 : decode prog_7_method_9_code 53 = .ok (.aload_n 0, 1) := by decide +kernel
theorem d12_54 : decode prog_7_method_9_code 54 = .ok (.iload_n 3, 1) := by decide +kernel
theorem d12_55 : decode prog_7_method_9_code 55 = .ok (.putfield 75, 3) := by decide +kernel
theorem d12_58 : decode prog_7_method_9_code 58 = .ok (.return_, 1) := by decide +kernel
set_option maxHeartbeats 40000000 in
theorem own_ef_rm12 (m : MethodId) (x0 : Addr) (x1 : Int32) (x2 : Int32) (x3 : Int32) (x4 : Int64) : entryFrame m #[(.ref x0), (.int x1), (.int x2), (.int x3), (.long x4)] 6 = mkF m 0 #[.val (.ref x0), .val (.int x1), .val (.int x2), .val (.int x3), .val (.long x4), .second] [] := by first | (simp [entryFrame, mkF, argsToLocals, Value.category]; done) | rfl
def Q12 (Z : State) (a0 : Addr) (p1 : Int32) (p2 : Int32) (p3 : Int32) (q4 : Int64) (w1 : Int32) (w2 : Int32) (wa : Int32) (h0 : Heap) (n0 : Nat) (v : Option Value) (h : Heap) (L : List Loc) : Prop := v = none ∧ Fr n0 L ∧ Keep h0 h [a0] ∧ Exa Z h a0 "com/example/long_walk/longwalk/EdgeListLine" ∧ Fld Z h a0 "com/example/long_walk/longwalk/EdgeListLine" "sourceStart" "I" (.int p1) ∧ Fld Z h a0 "com/example/long_walk/longwalk/EdgeListLine" "sourceEnd" "I" (.int p2) ∧ Fld Z h a0 "com/example/long_walk/longwalk/EdgeListLine" "targetStart" "I" (.int (p2 + (1 : Int32))) ∧ Fld Z h a0 "com/example/long_walk/longwalk/EdgeListLine" "targetEnd" "I" (.int p3) ∧ Fld Z h a0 "com/example/long_walk/longwalk/EdgeListLine" "firstTab" "I" (.int w1) ∧ Fld Z h a0 "com/example/long_walk/longwalk/EdgeListLine" "secondTab" "I" (.int w2) ∧ Fld Z h a0 "com/example/long_walk/longwalk/EdgeListLine" "ascii" "Z" (.int wa)
set_option maxRecDepth 65536 in
set_option maxHeartbeats 40000000 in
theorem rm12 (l : Launch) (Z : State) (aZ : Array Value) (hw : ∀ d ∈ tables_1, d.before aZ Z = true) (ws : List Jvm.Cond) (a0 : Addr) (p1 : Int32) (p2 : Int32) (p3 : Int32) (q4 : Int64) (w1 : Int32) (w2 : Int32) (wa : Int32) (h0 : Heap) (n0 : Nat) (Z0 : n0 ≤ h0.size) (pf0 : Exa Z h0 a0 "com/example/long_walk/longwalk/EdgeListLine") (pf1 : Fld Z h0 a0 "com/example/long_walk/longwalk/EdgeListLine" "sourceStart" "I" (.int (0 : Int32))) (pf2 : Fld Z h0 a0 "com/example/long_walk/longwalk/EdgeListLine" "sourceEnd" "I" (.int (0 : Int32))) (pf3 : Fld Z h0 a0 "com/example/long_walk/longwalk/EdgeListLine" "targetStart" "I" (.int (0 : Int32))) (pf4 : Fld Z h0 a0 "com/example/long_walk/longwalk/EdgeListLine" "targetEnd" "I" (.int (0 : Int32))) (pf5 : Fld Z h0 a0 "com/example/long_walk/longwalk/EdgeListLine" "firstTab" "I" (.int w1)) (pf6 : Fld Z h0 a0 "com/example/long_walk/longwalk/EdgeListLine" "secondTab" "I" (.int w2)) (pf7 : Fld Z h0 a0 "com/example/long_walk/longwalk/EdgeListLine" "ascii" "Z" (.int wa)) (g_a0 : n0 ≤ a0) (h1 : ¬ p2 = p1) (h2 : ¬ p3 = (p2 + (1 : Int32))) :
    MetFree l (⟨"com/example/long_walk/longwalk/EdgeListLine", "readTabSeparated", "(IIIJ)V"⟩ : MethodName) (head1 (Jvm.Cond.code (⟨"com/example/long_walk/longwalk/EdgeListLine", "readTabSeparated", "(IIIJ)V"⟩ : MethodName) prog_7_method_9_code 6 none :: ws) ({ frames := 0, cells := 0, slots := 0, locals := 0 } : Room)) (fun a U => a = #[(.ref a0), (.int p1), (.int p2), (.int p3), (.long q4)] ∧ Z.Warmed39 U.vm ∧ U.heap = h0) (fun _ _ _ _ _ => True) (fun _ U o U' => ∃ v L, o = .returned v ∧ Q12 Z a0 p1 p2 p3 q4 w1 w2 wa h0 n0 v U'.heap L ∧ FrameEnd U o U' L ({ frames := 0, cells := 0, slots := 0, locals := 0 } : Room).cells ({ frames := 0, cells := 0, slots := 0, locals := 0 } : Room).slots) := by
  refine MetFree.of_bodySF (plainFor_of_name own_pn3) hisR ?_
  intro p e s m args below meth c s₁ Bd hml0 hP hK
  obtain ⟨rfl, hZ, hh⟩ := hP
  have hx := Bd.exec
  have hby := Bd.bytes
  have hml : c.maxLocals = 6 := hml0
  have hown : s.vm.findClass "com/example/long_walk/longwalk/EdgeListLine" = some m.cls := findClass_of_methodNamed Bd.named
  have hnm := (name_of_methodNamed Bd.named Bd.method).1
  have X0 : Stand p l e ({ frames := 0, cells := 0, slots := 0, locals := 0 } : Room) s m #[(.ref a0), (.int p1), (.int p2), (.int p3), (.long q4)] below meth c s₁ [] 0 0 := Stand.of_body Bd
  have e0 : s₁.heap = h0 := by rw [← hh, Bd.state]; rfl
  have N0 := Fr.nil n0
  have K0 : Keep h0 h0 [a0] := Keep.refl h0 _
  refine own_go (S' := s₁.setTop (mkF m 0 #[.val (.ref a0), .val (.int p1), .val (.int p2), .val (.int p3), .val (.long q4), .second] [])) (fun tt0 kk0 => castTop (own_ef_rm12 m a0 p1 p2 p3 q4) kk0) ?_
  refine own_go (S' := s₁.setTop (mkF m 38 #[.val (.ref a0), .val (.int p1), .val (.int p2), .val (.int p3), .val (.long q4), .second] [(.int p1), (.ref a0)])) (fun target kt => ?_) ?_
  · skip
    show Steps p.tables e below (s₁.setTop (mkF m 0 #[.val (.ref a0), .val (.int p1), .val (.int p2), .val (.int p3), .val (.long q4), .second] [])) _
    refine XS.iloadN X0.here hx rfl (hb hby d12_0) rfl ?_
    show Steps p.tables e below (s₁.setTop (mkF m 1 #[.val (.ref a0), .val (.int p1), .val (.int p2), .val (.int p3), .val (.long q4), .second] [(.int p2)])) _
    refine XS.iloadN X0.here hx rfl (hb hby d12_1) rfl ?_
    show Steps p.tables e below (s₁.setTop (mkF m 2 #[.val (.ref a0), .val (.int p1), .val (.int p2), .val (.int p3), .val (.long q4), .second] [(.int p1), (.int p2)])) _
    refine XS.icmpYes X0.here hx rfl (pc0 := 2) (pc' := 17) rfl (hb hby d12_2) rfl (feq (h1 : ¬ (p2 = p1))).2 (by decide) (by decide) ?_
    show Steps p.tables e below (s₁.setTop (mkF m 17 #[.val (.ref a0), .val (.int p1), .val (.int p2), .val (.int p3), .val (.long q4), .second] [])) _
    refine XS.iloadN X0.here hx rfl (hb hby d12_17) rfl ?_
    show Steps p.tables e below (s₁.setTop (mkF m 18 #[.val (.ref a0), .val (.int p1), .val (.int p2), .val (.int p3), .val (.long q4), .second] [(.int p3)])) _
    refine XS.iloadN X0.here hx rfl (hb hby d12_18) rfl ?_
    show Steps p.tables e below (s₁.setTop (mkF m 19 #[.val (.ref a0), .val (.int p1), .val (.int p2), .val (.int p3), .val (.long q4), .second] [(.int p2), (.int p3)])) _
    refine XS.iconst X0.here hx rfl (hb hby d12_19) ?_
    show Steps p.tables e below (s₁.setTop (mkF m 20 #[.val (.ref a0), .val (.int p1), .val (.int p2), .val (.int p3), .val (.long q4), .second] [(.int (1 : Int32)), (.int p2), (.int p3)])) _
    refine XS.iadd X0.here hx rfl (hb hby d12_20) rfl ?_
    show Steps p.tables e below (s₁.setTop (mkF m 21 #[.val (.ref a0), .val (.int p1), .val (.int p2), .val (.int p3), .val (.long q4), .second] [(.int (p2 + (1 : Int32))), (.int p3)])) _
    refine XS.icmpYes X0.here hx rfl (pc0 := 21) (pc' := 36) rfl (hb hby d12_21) rfl (feq (h2 : ¬ (p3 = (p2 + (1 : Int32))))).2 (by decide) (by decide) ?_
    show Steps p.tables e below (s₁.setTop (mkF m 36 #[.val (.ref a0), .val (.int p1), .val (.int p2), .val (.int p3), .val (.long q4), .second] [])) _
    refine XS.aloadN X0.here hx rfl (hb hby d12_36) rfl rfl ?_
    show Steps p.tables e below (s₁.setTop (mkF m 37 #[.val (.ref a0), .val (.int p1), .val (.int p2), .val (.int p3), .val (.long q4), .second] [(.ref a0)])) _
    refine XS.iloadN X0.here hx rfl (hb hby d12_37) rfl ?_
    exact kt
  obtain ⟨T274, h274, X274, e274, W274, st274⟩ := putF X0 hx hZ hown (host := "") (Or.inl (hw _ (List.mem_of_getElem? (i := 54) rfl))) Via.refl e0 pf1 pf0 (Or.inl (hw _ (List.mem_of_getElem? (i := 55) rfl))) (hw _ (List.mem_of_getElem? (i := 20) rfl)) (ty := .int) (by decide) rfl rfl (g := (mkF m 38 #[.val (.ref a0), .val (.int p1), .val (.int p2), .val (.int p3), .val (.long q4), .second] [(.int p1), (.ref a0)])) rfl rfl (hb hby d12_38)
  have f275 : Exa Z h274 a0 "com/example/long_walk/longwalk/EdgeListLine" := pf0.wr W274
  have f276 : Fld Z h274 a0 "com/example/long_walk/longwalk/EdgeListLine" "sourceEnd" "I" (.int (0 : Int32)) := pf2.other W274 (Or.inr (slot_ne (Or.inl (hw _ (List.mem_of_getElem? (i := 57) rfl))) (Or.inl (hw _ (List.mem_of_getElem? (i := 55) rfl))) (by decide) (t := .int) (t' := .int) (by decide) (by decide)))
  have f277 : Fld Z h274 a0 "com/example/long_walk/longwalk/EdgeListLine" "targetStart" "I" (.int (0 : Int32)) := pf3.other W274 (Or.inr (slot_ne (Or.inl (hw _ (List.mem_of_getElem? (i := 59) rfl))) (Or.inl (hw _ (List.mem_of_getElem? (i := 55) rfl))) (by decide) (t := .int) (t' := .int) (by decide) (by decide)))
  have f278 : Fld Z h274 a0 "com/example/long_walk/longwalk/EdgeListLine" "targetEnd" "I" (.int (0 : Int32)) := pf4.other W274 (Or.inr (slot_ne (Or.inl (hw _ (List.mem_of_getElem? (i := 61) rfl))) (Or.inl (hw _ (List.mem_of_getElem? (i := 55) rfl))) (by decide) (t := .int) (t' := .int) (by decide) (by decide)))
  have f279 : Fld Z h274 a0 "com/example/long_walk/longwalk/EdgeListLine" "firstTab" "I" (.int w1) := pf5.other W274 (Or.inr (slot_ne (Or.inl (hw _ (List.mem_of_getElem? (i := 34) rfl))) (Or.inl (hw _ (List.mem_of_getElem? (i := 55) rfl))) (by decide) (t := .int) (t' := .int) (by decide) (by decide)))
  have f280 : Fld Z h274 a0 "com/example/long_walk/longwalk/EdgeListLine" "secondTab" "I" (.int w2) := pf6.other W274 (Or.inr (slot_ne (Or.inl (hw _ (List.mem_of_getElem? (i := 36) rfl))) (Or.inl (hw _ (List.mem_of_getElem? (i := 55) rfl))) (by decide) (t := .int) (t' := .int) (by decide) (by decide)))
  have f281 : Fld Z h274 a0 "com/example/long_walk/longwalk/EdgeListLine" "ascii" "Z" (.int wa) := pf7.other W274 (Or.inr (slot_ne (Or.inl (hw _ (List.mem_of_getElem? (i := 38) rfl))) (Or.inl (hw _ (List.mem_of_getElem? (i := 55) rfl))) (by decide) (t := .boolean) (t' := .int) (by decide) (by decide)))
  have f282 : Fld Z h274 a0 "com/example/long_walk/longwalk/EdgeListLine" "sourceStart" "I" (.int p1) := pf1.same W274
  have Z274 : n0 ≤ h274.size := Nat.le_trans Z0 (Keep.of_wr W274).1
  have K274 : Keep h0 h274 [a0] := K0.wr W274 (Or.inl (List.mem_of_getElem? (i := 0) rfl))
  have N274 := Fr.snoc X274 N0 g_a0
  refine own_go (S' := T274.setTop (mkF m 41 #[.val (.ref a0), .val (.int p1), .val (.int p2), .val (.int p3), .val (.long q4), .second] [])) st274 ?_
  refine own_go (S' := T274.setTop (mkF m 43 #[.val (.ref a0), .val (.int p1), .val (.int p2), .val (.int p3), .val (.long q4), .second] [(.int p2), (.ref a0)])) (fun target kt => ?_) ?_
  · skip
    show Steps p.tables e below (T274.setTop (mkF m 41 #[.val (.ref a0), .val (.int p1), .val (.int p2), .val (.int p3), .val (.long q4), .second] [])) _
    refine XS.aloadN X274.here hx rfl (hb hby d12_41) rfl rfl ?_
    show Steps p.tables e below (T274.setTop (mkF m 42 #[.val (.ref a0), .val (.int p1), .val (.int p2), .val (.int p3), .val (.long q4), .second] [(.ref a0)])) _
    refine XS.iloadN X274.here hx rfl (hb hby d12_42) rfl ?_
    exact kt
  obtain ⟨T283, h283, X283, e283, W283, st283⟩ := putF X274 hx hZ hown (host := "") (Or.inl (hw _ (List.mem_of_getElem? (i := 56) rfl))) Via.refl e274 f276 f275 (Or.inl (hw _ (List.mem_of_getElem? (i := 57) rfl))) (hw _ (List.mem_of_getElem? (i := 20) rfl)) (ty := .int) (by decide) rfl rfl (g := (mkF m 43 #[.val (.ref a0), .val (.int p1), .val (.int p2), .val (.int p3), .val (.long q4), .second] [(.int p2), (.ref a0)])) rfl rfl (hb hby d12_43)
  have f284 : Exa Z h283 a0 "com/example/long_walk/longwalk/EdgeListLine" := f275.wr W283
  have f285 : Fld Z h283 a0 "com/example/long_walk/longwalk/EdgeListLine" "targetStart" "I" (.int (0 : Int32)) := f277.other W283 (Or.inr (slot_ne (Or.inl (hw _ (List.mem_of_getElem? (i := 59) rfl))) (Or.inl (hw _ (List.mem_of_getElem? (i := 57) rfl))) (by decide) (t := .int) (t' := .int) (by decide) (by decide)))
  have f286 : Fld Z h283 a0 "com/example/long_walk/longwalk/EdgeListLine" "targetEnd" "I" (.int (0 : Int32)) := f278.other W283 (Or.inr (slot_ne (Or.inl (hw _ (List.mem_of_getElem? (i := 61) rfl))) (Or.inl (hw _ (List.mem_of_getElem? (i := 57) rfl))) (by decide) (t := .int) (t' := .int) (by decide) (by decide)))
  have f287 : Fld Z h283 a0 "com/example/long_walk/longwalk/EdgeListLine" "firstTab" "I" (.int w1) := f279.other W283 (Or.inr (slot_ne (Or.inl (hw _ (List.mem_of_getElem? (i := 34) rfl))) (Or.inl (hw _ (List.mem_of_getElem? (i := 57) rfl))) (by decide) (t := .int) (t' := .int) (by decide) (by decide)))
  have f288 : Fld Z h283 a0 "com/example/long_walk/longwalk/EdgeListLine" "secondTab" "I" (.int w2) := f280.other W283 (Or.inr (slot_ne (Or.inl (hw _ (List.mem_of_getElem? (i := 36) rfl))) (Or.inl (hw _ (List.mem_of_getElem? (i := 57) rfl))) (by decide) (t := .int) (t' := .int) (by decide) (by decide)))
  have f289 : Fld Z h283 a0 "com/example/long_walk/longwalk/EdgeListLine" "ascii" "Z" (.int wa) := f281.other W283 (Or.inr (slot_ne (Or.inl (hw _ (List.mem_of_getElem? (i := 38) rfl))) (Or.inl (hw _ (List.mem_of_getElem? (i := 57) rfl))) (by decide) (t := .boolean) (t' := .int) (by decide) (by decide)))
  have f290 : Fld Z h283 a0 "com/example/long_walk/longwalk/EdgeListLine" "sourceStart" "I" (.int p1) := f282.other W283 (Or.inr (slot_ne (Or.inl (hw _ (List.mem_of_getElem? (i := 55) rfl))) (Or.inl (hw _ (List.mem_of_getElem? (i := 57) rfl))) (by decide) (t := .int) (t' := .int) (by decide) (by decide)))
  have f291 : Fld Z h283 a0 "com/example/long_walk/longwalk/EdgeListLine" "sourceEnd" "I" (.int p2) := f276.same W283
  have Z283 : n0 ≤ h283.size := Nat.le_trans Z274 (Keep.of_wr W283).1
  have K283 : Keep h0 h283 [a0] := K274.wr W283 (Or.inl (List.mem_of_getElem? (i := 0) rfl))
  have N283 := Fr.snoc X283 N274 g_a0
  refine own_go (S' := T283.setTop (mkF m 46 #[.val (.ref a0), .val (.int p1), .val (.int p2), .val (.int p3), .val (.long q4), .second] [])) st283 ?_
  refine own_go (S' := T283.setTop (mkF m 50 #[.val (.ref a0), .val (.int p1), .val (.int p2), .val (.int p3), .val (.long q4), .second] [(.int (p2 + (1 : Int32))), (.ref a0)])) (fun target kt => ?_) ?_
  · skip
    show Steps p.tables e below (T283.setTop (mkF m 46 #[.val (.ref a0), .val (.int p1), .val (.int p2), .val (.int p3), .val (.long q4), .second] [])) _
    refine XS.aloadN X283.here hx rfl (hb hby d12_46) rfl rfl ?_
    show Steps p.tables e below (T283.setTop (mkF m 47 #[.val (.ref a0), .val (.int p1), .val (.int p2), .val (.int p3), .val (.long q4), .second] [(.ref a0)])) _
    refine XS.iloadN X283.here hx rfl (hb hby d12_47) rfl ?_
    show Steps p.tables e below (T283.setTop (mkF m 48 #[.val (.ref a0), .val (.int p1), .val (.int p2), .val (.int p3), .val (.long q4), .second] [(.int p2), (.ref a0)])) _
    refine XS.iconst X283.here hx rfl (hb hby d12_48) ?_
    show Steps p.tables e below (T283.setTop (mkF m 49 #[.val (.ref a0), .val (.int p1), .val (.int p2), .val (.int p3), .val (.long q4), .second] [(.int (1 : Int32)), (.int p2), (.ref a0)])) _
    refine XS.iadd X283.here hx rfl (hb hby d12_49) rfl ?_
    exact kt
  obtain ⟨T292, h292, X292, e292, W292, st292⟩ := putF X283 hx hZ hown (host := "") (Or.inl (hw _ (List.mem_of_getElem? (i := 58) rfl))) Via.refl e283 f285 f284 (Or.inl (hw _ (List.mem_of_getElem? (i := 59) rfl))) (hw _ (List.mem_of_getElem? (i := 20) rfl)) (ty := .int) (by decide) rfl rfl (g := (mkF m 50 #[.val (.ref a0), .val (.int p1), .val (.int p2), .val (.int p3), .val (.long q4), .second] [(.int (p2 + (1 : Int32))), (.ref a0)])) rfl rfl (hb hby d12_50)
  have f293 : Exa Z h292 a0 "com/example/long_walk/longwalk/EdgeListLine" := f284.wr W292
  have f294 : Fld Z h292 a0 "com/example/long_walk/longwalk/EdgeListLine" "targetEnd" "I" (.int (0 : Int32)) := f286.other W292 (Or.inr (slot_ne (Or.inl (hw _ (List.mem_of_getElem? (i := 61) rfl))) (Or.inl (hw _ (List.mem_of_getElem? (i := 59) rfl))) (by decide) (t := .int) (t' := .int) (by decide) (by decide)))
  have f295 : Fld Z h292 a0 "com/example/long_walk/longwalk/EdgeListLine" "firstTab" "I" (.int w1) := f287.other W292 (Or.inr (slot_ne (Or.inl (hw _ (List.mem_of_getElem? (i := 34) rfl))) (Or.inl (hw _ (List.mem_of_getElem? (i := 59) rfl))) (by decide) (t := .int) (t' := .int) (by decide) (by decide)))
  have f296 : Fld Z h292 a0 "com/example/long_walk/longwalk/EdgeListLine" "secondTab" "I" (.int w2) := f288.other W292 (Or.inr (slot_ne (Or.inl (hw _ (List.mem_of_getElem? (i := 36) rfl))) (Or.inl (hw _ (List.mem_of_getElem? (i := 59) rfl))) (by decide) (t := .int) (t' := .int) (by decide) (by decide)))
  have f297 : Fld Z h292 a0 "com/example/long_walk/longwalk/EdgeListLine" "ascii" "Z" (.int wa) := f289.other W292 (Or.inr (slot_ne (Or.inl (hw _ (List.mem_of_getElem? (i := 38) rfl))) (Or.inl (hw _ (List.mem_of_getElem? (i := 59) rfl))) (by decide) (t := .boolean) (t' := .int) (by decide) (by decide)))
  have f298 : Fld Z h292 a0 "com/example/long_walk/longwalk/EdgeListLine" "sourceStart" "I" (.int p1) := f290.other W292 (Or.inr (slot_ne (Or.inl (hw _ (List.mem_of_getElem? (i := 55) rfl))) (Or.inl (hw _ (List.mem_of_getElem? (i := 59) rfl))) (by decide) (t := .int) (t' := .int) (by decide) (by decide)))
  have f299 : Fld Z h292 a0 "com/example/long_walk/longwalk/EdgeListLine" "sourceEnd" "I" (.int p2) := f291.other W292 (Or.inr (slot_ne (Or.inl (hw _ (List.mem_of_getElem? (i := 57) rfl))) (Or.inl (hw _ (List.mem_of_getElem? (i := 59) rfl))) (by decide) (t := .int) (t' := .int) (by decide) (by decide)))
  have f300 : Fld Z h292 a0 "com/example/long_walk/longwalk/EdgeListLine" "targetStart" "I" (.int (p2 + (1 : Int32))) := f285.same W292
  have Z292 : n0 ≤ h292.size := Nat.le_trans Z283 (Keep.of_wr W292).1
  have K292 : Keep h0 h292 [a0] := K283.wr W292 (Or.inl (List.mem_of_getElem? (i := 0) rfl))
  have N292 := Fr.snoc X292 N283 g_a0
  refine own_go (S' := T292.setTop (mkF m 53 #[.val (.ref a0), .val (.int p1), .val (.int p2), .val (.int p3), .val (.long q4), .second] [])) st292 ?_
  refine own_go (S' := T292.setTop (mkF m 55 #[.val (.ref a0), .val (.int p1), .val (.int p2), .val (.int p3), .val (.long q4), .second] [(.int p3), (.ref a0)])) (fun target kt => ?_) ?_
  · skip
    show Steps p.tables e below (T292.setTop (mkF m 53 #[.val (.ref a0), .val (.int p1), .val (.int p2), .val (.int p3), .val (.long q4), .second] [])) _
    refine XS.aloadN X292.here hx rfl (hb hby d12_53) rfl rfl ?_
    show Steps p.tables e below (T292.setTop (mkF m 54 #[.val (.ref a0), .val (.int p1), .val (.int p2), .val (.int p3), .val (.long q4), .second] [(.ref a0)])) _
    refine XS.iloadN X292.here hx rfl (hb hby d12_54) rfl ?_
    exact kt
  obtain ⟨T301, h301, X301, e301, W301, st301⟩ := putF X292 hx hZ hown (host := "") (Or.inl (hw _ (List.mem_of_getElem? (i := 60) rfl))) Via.refl e292 f294 f293 (Or.inl (hw _ (List.mem_of_getElem? (i := 61) rfl))) (hw _ (List.mem_of_getElem? (i := 20) rfl)) (ty := .int) (by decide) rfl rfl (g := (mkF m 55 #[.val (.ref a0), .val (.int p1), .val (.int p2), .val (.int p3), .val (.long q4), .second] [(.int p3), (.ref a0)])) rfl rfl (hb hby d12_55)
  have f302 : Exa Z h301 a0 "com/example/long_walk/longwalk/EdgeListLine" := f293.wr W301
  have f303 : Fld Z h301 a0 "com/example/long_walk/longwalk/EdgeListLine" "firstTab" "I" (.int w1) := f295.other W301 (Or.inr (slot_ne (Or.inl (hw _ (List.mem_of_getElem? (i := 34) rfl))) (Or.inl (hw _ (List.mem_of_getElem? (i := 61) rfl))) (by decide) (t := .int) (t' := .int) (by decide) (by decide)))
  have f304 : Fld Z h301 a0 "com/example/long_walk/longwalk/EdgeListLine" "secondTab" "I" (.int w2) := f296.other W301 (Or.inr (slot_ne (Or.inl (hw _ (List.mem_of_getElem? (i := 36) rfl))) (Or.inl (hw _ (List.mem_of_getElem? (i := 61) rfl))) (by decide) (t := .int) (t' := .int) (by decide) (by decide)))
  have f305 : Fld Z h301 a0 "com/example/long_walk/longwalk/EdgeListLine" "ascii" "Z" (.int wa) := f297.other W301 (Or.inr (slot_ne (Or.inl (hw _ (List.mem_of_getElem? (i := 38) rfl))) (Or.inl (hw _ (List.mem_of_getElem? (i := 61) rfl))) (by decide) (t := .boolean) (t' := .int) (by decide) (by decide)))
  have f306 : Fld Z h301 a0 "com/example/long_walk/longwalk/EdgeListLine" "sourceStart" "I" (.int p1) := f298.other W301 (Or.inr (slot_ne (Or.inl (hw _ (List.mem_of_getElem? (i := 55) rfl))) (Or.inl (hw _ (List.mem_of_getElem? (i := 61) rfl))) (by decide) (t := .int) (t' := .int) (by decide) (by decide)))
  have f307 : Fld Z h301 a0 "com/example/long_walk/longwalk/EdgeListLine" "sourceEnd" "I" (.int p2) := f299.other W301 (Or.inr (slot_ne (Or.inl (hw _ (List.mem_of_getElem? (i := 57) rfl))) (Or.inl (hw _ (List.mem_of_getElem? (i := 61) rfl))) (by decide) (t := .int) (t' := .int) (by decide) (by decide)))
  have f308 : Fld Z h301 a0 "com/example/long_walk/longwalk/EdgeListLine" "targetStart" "I" (.int (p2 + (1 : Int32))) := f300.other W301 (Or.inr (slot_ne (Or.inl (hw _ (List.mem_of_getElem? (i := 59) rfl))) (Or.inl (hw _ (List.mem_of_getElem? (i := 61) rfl))) (by decide) (t := .int) (t' := .int) (by decide) (by decide)))
  have f309 : Fld Z h301 a0 "com/example/long_walk/longwalk/EdgeListLine" "targetEnd" "I" (.int p3) := f294.same W301
  have Z301 : n0 ≤ h301.size := Nat.le_trans Z292 (Keep.of_wr W301).1
  have K301 : Keep h0 h301 [a0] := K292.wr W301 (Or.inl (List.mem_of_getElem? (i := 0) rfl))
  have N301 := Fr.snoc X301 N292 g_a0
  refine own_go (S' := T301.setTop (mkF m 58 #[.val (.ref a0), .val (.int p1), .val (.int p2), .val (.int p3), .val (.long q4), .second] [])) st301 ?_
  obtain ⟨fs, hr, hrun, hended, hW, hsame⟩ := X301.leave (v := none) (fun _ => rfl)
  refine ⟨_, _, ?_, hrun, hended, _, _, rfl, ?_, ⟨_, rfl⟩, hW, hsame.mono (by decide) (by decide)⟩
  · exact X301.returnOut hx Bd.returns (hb hby d12_58) hr
  · show Q12 Z a0 p1 p2 p3 q4 w1 w2 wa h0 n0 _ T301.heap _
    rw [e301]
    exact ⟨rfl, N301, K301, f302, f306, f307, f308, f309, f303, f304, f305⟩
theorem d17_0 : decode prog_7_method_10_code 0 = .ok (.aload_n 1, 1) := by decide +kernel
theorem d17_1 : decode prog_7_method_10_code 1 = .ok (.iload_n 2, 1) := by decide +kernel
theorem d17_2 : decode prog_7_method_10_code 2 = .ok (.iload_n 3, 1) := by decide +kernel
theorem d17_3 : decode prog_7_method_10_code 3 = .ok (.bipush 32, 2) := by decide +kernel
theorem d17_5 : decode prog_7_method_10_code 5 = .ok (.invokestatic 82, 3) := by decide +kernel
theorem d17_8 : decode prog_7_method_10_code 8 = .ok (.istore 6, 2) := by decide +kernel
theorem d17_10 : decode prog_7_method_10_code 10 = .ok (.aload_n 1, 1) := by decide +kernel
theorem d17_11 : decode prog_7_method_10_code 11 = .ok (.iload 6, 2) := by decide +kernel
theorem d17_13 : decode prog_7_method_10_code 13 = .ok (.iload_n 3, 1) := by decide +kernel
theorem d17_14 : decode prog_7_method_10_code 14 = .ok (.invokestatic 49, 3) := by decide +kernel
theorem d17_17 : decode prog_7_method_10_code 17 = .ok (.istore 7, 2) := by decide +kernel
theorem d17_19 : decode prog_7_method_10_code 19 = .ok (.iload 7, 2) := by decide +kernel
theorem d17_21 : decode prog_7_method_10_code 21 = .ok (.iload_n 3, 1) := by decide +kernel
theorem d17_22 : decode prog_7_method_10_code 22 = .ok (.if_icmp .ne 15, 3) := by decide +kernel
theorem d17_25 : decode prog_7_method_10_code 25 = .ok (.new 40, 3) := by decide +kernel
theorem d17_28 : decode prog_7_method_10_code 28 = .ok (.dup, 1) := by decide +kernel
theorem d17_29 : decode prog_7_method_10_code 29 = .ok (.lload 4, 2) := by decide +kernel
theorem d17_31 : decode prog_7_method_10_code 31 = .ok (.ldc 88, 2) := by decide +kernel
theorem d17_33 : decode prog_7_method_10_code 33 = .ok (.invokespecial 46, 3) := by decide +kernel
theorem d17_36 : decode prog_7_method_10_code 36 = .ok (.athrow, 1) := by decide +kernel
theorem d17_37 : decode prog_7_method_10_code 37 = .ok (.aload_n 0, 1) := by decide +kernel
theorem d17_38 : decode prog_7_method_10_code 38 = .ok (.iload_n 2, 1) := by decide +kernel
theorem d17_39 : decode prog_7_method_10_code 39 = .ok (.putfield 66, 3) := by decide +kernel
theorem d17_42 : decode prog_7_method_10_code 42 = .ok (.aload_n 0, 1) := by decide +kernel
theorem d17_43 : decode prog_7_method_10_code 43 = .ok (.iload 6, 2) := by decide +kernel
theorem d17_45 : decode prog_7_method_10_code 45 = .ok (.putfield 69, 3) := by decide +kernel
theorem d17_48 : decode prog_7_method_10_code 48 = .ok (.aload_n 0, 1) := by decide +kernel
theorem d17_49 : decode prog_7_method_10_code 49 = .ok (.iload 7, 2) := by decide +kernel
theorem d17_51 : decode prog_7_method_10_code 51 = .ok (.putfield 72, 3) := by decide +kernel
theorem d17_54 : decode prog_7_method_10_code 54 = .ok (.aload_n 0, 1) := by decide +kernel
theorem d17_55 : decode prog_7_method_10_code 55 = .ok (.aload_n 1, 1) := by decide +kernel
theorem d17_56 : decode prog_7_method_10_code 56 = .ok (.iload 7, 2) := by decide +kernel
theorem d17_58 : decode prog_7_method_10_code 58 = .ok (.iload_n 3, 1) := by decide +kernel
theorem d17_59 : decode prog_7_method_10_code 59 = .ok (.bipush 32, 2) := by decide +kernel
theorem d17_61 : decode prog_7_method_10_code 61 = .ok (.invokestatic 82, 3) := by decide +kernel
theorem d17_64 : decode prog_7_method_10_code 64 = .ok (.putfield 75, 3) := by decide +kernel
theorem d17_67 : decode prog_7_method_10_code 67 = .ok (.return_, 1) := by decide +kernel
theorem own_pd3 : parseMethodDescriptor "([BIIB)I" = some ⟨[(.array .byte), .int, .int, .byte], some .int⟩ := by decide +kernel
theorem own_pd4 : parseMethodDescriptor "([BII)I" = some ⟨[(.array .byte), .int, .int], some .int⟩ := by decide +kernel
set_option maxHeartbeats 40000000 in
theorem own_ef_rm17 (m : MethodId) (x0 : Addr) (x1 : Addr) (x2 : Int32) (x3 : Int32) (x4 : Int64) : entryFrame m #[(.ref x0), (.ref x1), (.int x2), (.int x3), (.long x4)] 8 = mkF m 0 #[.val (.ref x0), .val (.ref x1), .val (.int x2), .val (.int x3), .val (.long x4), .second, .unset, .unset] [] := by first | (simp [entryFrame, mkF, argsToLocals, Value.category]; done) | rfl
def Q17 (Z : State) (a0 : Addr) (a1 : Addr) (PT : Nat) (g : Nat → Int32) (w1 : Int32) (w2 : Int32) (wa : Int32) (h0 : Heap) (n0 : Nat) (v : Option Value) (h : Heap) (L : List Loc) : Prop := v = none ∧ Fr n0 L ∧ Keep h0 h [a0] ∧ Exa Z h a0 "com/example/long_walk/longwalk/EdgeListLine" ∧ Fld Z h a0 "com/example/long_walk/longwalk/EdgeListLine" "sourceStart" "I" (.int (0 : Int32)) ∧ Fld Z h a0 "com/example/long_walk/longwalk/EdgeListLine" "sourceEnd" "I" (.int (1 : Int32)) ∧ Fld Z h a0 "com/example/long_walk/longwalk/EdgeListLine" "targetStart" "I" (.int (3 : Int32)) ∧ Fld Z h a0 "com/example/long_walk/longwalk/EdgeListLine" "targetEnd" "I" (.int (Int32.ofNat PT)) ∧ Fld Z h a0 "com/example/long_walk/longwalk/EdgeListLine" "firstTab" "I" (.int w1) ∧ Fld Z h a0 "com/example/long_walk/longwalk/EdgeListLine" "secondTab" "I" (.int w2) ∧ Fld Z h a0 "com/example/long_walk/longwalk/EdgeListLine" "ascii" "Z" (.int wa)
set_option maxRecDepth 65536 in
set_option maxHeartbeats 40000000 in
theorem rm17 (l : Launch) (Z : State) (aZ : Array Value) (hw : ∀ d ∈ tables_1, d.before aZ Z = true) (ws : List Jvm.Cond) (a0 : Addr) (a1 : Addr) (PT : Nat) (g : Nat → Int32) (w1 : Int32) (w2 : Int32) (wa : Int32) (h0 : Heap) (n0 : Nat) (Z0 : n0 ≤ h0.size) (pf0 : Exa Z h0 a0 "com/example/long_walk/longwalk/EdgeListLine") (pf1 : Fld Z h0 a0 "com/example/long_walk/longwalk/EdgeListLine" "sourceStart" "I" (.int (0 : Int32))) (pf2 : Fld Z h0 a0 "com/example/long_walk/longwalk/EdgeListLine" "sourceEnd" "I" (.int (0 : Int32))) (pf3 : Fld Z h0 a0 "com/example/long_walk/longwalk/EdgeListLine" "targetStart" "I" (.int (0 : Int32))) (pf4 : Fld Z h0 a0 "com/example/long_walk/longwalk/EdgeListLine" "targetEnd" "I" (.int (0 : Int32))) (pf5 : Fld Z h0 a0 "com/example/long_walk/longwalk/EdgeListLine" "firstTab" "I" (.int w1)) (pf6 : Fld Z h0 a0 "com/example/long_walk/longwalk/EdgeListLine" "secondTab" "I" (.int w2)) (pf7 : Fld Z h0 a0 "com/example/long_walk/longwalk/EdgeListLine" "ascii" "Z" (.int wa)) (pf8 : own_AI Z h0 a1 .byte 8 g) (g_a0 : n0 ≤ a0) (hP : own_pr PT g) (hne : a0 ≠ a1) :
    MetFree l (⟨"com/example/long_walk/longwalk/EdgeListLine", "readSpaceSeparated", "([BIIJ)V"⟩ : MethodName) (head1 (Jvm.Cond.code (⟨"com/example/long_walk/longwalk/EdgeListLine", "readSpaceSeparated", "([BIIJ)V"⟩ : MethodName) prog_7_method_10_code 8 none :: ws) ({ frames := 1, cells := 0, slots := 0, locals := 17 } : Room)) (fun a U => a = #[(.ref a0), (.ref a1), (.int (0 : Int32)), (.int (Int32.ofNat PT)), (.long (1 : Int64))] ∧ Z.Warmed39 U.vm ∧ U.heap = h0) (fun _ _ _ _ _ => True) (fun _ U o U' => ∃ v L, o = .returned v ∧ Q17 Z a0 a1 PT g w1 w2 wa h0 n0 v U'.heap L ∧ FrameEnd U o U' L ({ frames := 1, cells := 0, slots := 0, locals := 17 } : Room).cells ({ frames := 1, cells := 0, slots := 0, locals := 17 } : Room).slots) := by
  refine MetFree.of_bodySF (plainFor_of_name own_pn3) hisR ?_
  intro p e s m args below meth c s₁ Bd hml0 hP hK
  obtain ⟨rfl, hZ, hh⟩ := hP
  have hx := Bd.exec
  have hby := Bd.bytes
  have hml : c.maxLocals = 8 := hml0
  have hown : s.vm.findClass "com/example/long_walk/longwalk/EdgeListLine" = some m.cls := findClass_of_methodNamed Bd.named
  have hnm := (name_of_methodNamed Bd.named Bd.method).1
  have X0 : Stand p l e ({ frames := 1, cells := 0, slots := 0, locals := 17 } : Room) s m #[(.ref a0), (.ref a1), (.int (0 : Int32)), (.int (Int32.ofNat PT)), (.long (1 : Int64))] below meth c s₁ [] 0 0 := Stand.of_body Bd
  have e0 : s₁.heap = h0 := by rw [← hh, Bd.state]; rfl
  have N0 := Fr.nil n0
  have K0 : Keep h0 h0 [a0] := Keep.refl h0 _
  refine own_go (S' := s₁.setTop (mkF m 0 #[.val (.ref a0), .val (.ref a1), .val (.int (0 : Int32)), .val (.int (Int32.ofNat PT)), .val (.long (1 : Int64)), .second, .unset, .unset] [])) (fun tt0 kk0 => castTop (own_ef_rm17 m a0 a1 (0 : Int32) (Int32.ofNat PT) (1 : Int64)) kk0) ?_
  refine own_go (S' := s₁.setTop (mkF m 5 #[.val (.ref a0), .val (.ref a1), .val (.int (0 : Int32)), .val (.int (Int32.ofNat PT)), .val (.long (1 : Int64)), .second, .unset, .unset] [(.int (32 : Int32)), (.int (Int32.ofNat PT)), (.int (0 : Int32)), (.ref a1)])) (fun target kt => ?_) ?_
  · skip
    show Steps p.tables e below (s₁.setTop (mkF m 0 #[.val (.ref a0), .val (.ref a1), .val (.int (0 : Int32)), .val (.int (Int32.ofNat PT)), .val (.long (1 : Int64)), .second, .unset, .unset] [])) _
    refine XS.aloadN X0.here hx rfl (hb hby d17_0) rfl rfl ?_
    show Steps p.tables e below (s₁.setTop (mkF m 1 #[.val (.ref a0), .val (.ref a1), .val (.int (0 : Int32)), .val (.int (Int32.ofNat PT)), .val (.long (1 : Int64)), .second, .unset, .unset] [(.ref a1)])) _
    refine XS.iloadN X0.here hx rfl (hb hby d17_1) rfl ?_
    show Steps p.tables e below (s₁.setTop (mkF m 2 #[.val (.ref a0), .val (.ref a1), .val (.int (0 : Int32)), .val (.int (Int32.ofNat PT)), .val (.long (1 : Int64)), .second, .unset, .unset] [(.int (0 : Int32)), (.ref a1)])) _
    refine XS.iloadN X0.here hx rfl (hb hby d17_2) rfl ?_
    show Steps p.tables e below (s₁.setTop (mkF m 3 #[.val (.ref a0), .val (.ref a1), .val (.int (0 : Int32)), .val (.int (Int32.ofNat PT)), .val (.long (1 : Int64)), .second, .unset, .unset] [(.int (Int32.ofNat PT)), (.int (0 : Int32)), (.ref a1)])) _
    refine XS.bipush X0.here hx rfl (hb hby d17_3) ?_
    exact kt
  obtain ⟨_, _, ⟨T310, L310, k310, n310⟩, -, X310, ⟨Lc310, hQ310, l310, y310, z310⟩, st310⟩ := Jvm.LawKit.callS X0 hx (y := (⟨"com/example/long_walk/longwalk/Bytes", "find", "([BIIB)I"⟩ : MethodName)) hown (mvT hZ (hw _ (List.mem_of_getElem? (i := 87) rfl))) (mvT hZ (hw _ (List.mem_of_getElem? (i := 88) rfl))) (mvT hZ (hw _ (List.mem_of_getElem? (i := 89) rfl))) (mvT hZ (hw _ (List.mem_of_getElem? (i := 90) rfl))) (by decide) (backOf (W := 0) (rm18_0 l Z aZ hw [] a1 PT g h0 n0 Z0 pf8 (hP : own_pr PT g)) hZ (hw _ (List.mem_of_getElem? (i := 90) rfl)) (hw _ (List.mem_of_getElem? (i := 89) rfl)) (by decide) (by decide)) (g := (mkF m 5 #[.val (.ref a0), .val (.ref a1), .val (.int (0 : Int32)), .val (.int (Int32.ofNat PT)), .val (.long (1 : Int64)), .second, .unset, .unset] [(.int (32 : Int32)), (.int (Int32.ofNat PT)), (.int (0 : Int32)), (.ref a1)])) rfl (by rw [hml]; rfl) (argsL := [(.ref a1), (.int (0 : Int32)), (.int (Int32.ofNat PT)), (.int (32 : Int32))]) (rest := []) (lenOf own_pd3 rfl) rfl (by show 2 * 0 + _ ≤ _; exact Nat.le_of_eq rfl) (hb hby d17_5) (fun _ _ => ⟨rfl, e0, (by decide : 0 + 0 ≤ _), (by decide : 0 + 0 ≤ _)⟩)
  dsimp only [Pt.U, Pt.locs, Pt.cells, Pt.slots] at X310 l310 y310 z310 st310 hQ310
  subst l310 y310 z310
  obtain ⟨rfl, N310q, e310⟩ := hQ310
  have N310 := Fr.app N0 N310q
  refine own_go (S' := T310.setTop (mkF m 8 #[.val (.ref a0), .val (.ref a1), .val (.int (0 : Int32)), .val (.int (Int32.ofNat PT)), .val (.long (1 : Int64)), .second, .unset, .unset] [(.int (1 : Int32))])) st310 ?_
  refine own_go (S' := T310.setTop (mkF m 14 #[.val (.ref a0), .val (.ref a1), .val (.int (0 : Int32)), .val (.int (Int32.ofNat PT)), .val (.long (1 : Int64)), .second, .val (.int (1 : Int32)), .unset] [(.int (Int32.ofNat PT)), (.int (1 : Int32)), (.ref a1)])) (fun target kt => ?_) ?_
  · skip
    show Steps p.tables e below (T310.setTop (mkF m 8 #[.val (.ref a0), .val (.ref a1), .val (.int (0 : Int32)), .val (.int (Int32.ofNat PT)), .val (.long (1 : Int64)), .second, .unset, .unset] [(.int (1 : Int32))])) _
    refine XS.istore X310.here hx rfl (hb hby d17_8) rfl (l' := #[.val (.ref a0), .val (.ref a1), .val (.int (0 : Int32)), .val (.int (Int32.ofNat PT)), .val (.long (1 : Int64)), .second, .val (.int (1 : Int32)), .unset]) rfl ?_
    show Steps p.tables e below (T310.setTop (mkF m 10 #[.val (.ref a0), .val (.ref a1), .val (.int (0 : Int32)), .val (.int (Int32.ofNat PT)), .val (.long (1 : Int64)), .second, .val (.int (1 : Int32)), .unset] [])) _
    refine XS.aloadN X310.here hx rfl (hb hby d17_10) rfl rfl ?_
    show Steps p.tables e below (T310.setTop (mkF m 11 #[.val (.ref a0), .val (.ref a1), .val (.int (0 : Int32)), .val (.int (Int32.ofNat PT)), .val (.long (1 : Int64)), .second, .val (.int (1 : Int32)), .unset] [(.ref a1)])) _
    refine XS.iload X310.here hx rfl (hb hby d17_11) rfl ?_
    show Steps p.tables e below (T310.setTop (mkF m 13 #[.val (.ref a0), .val (.ref a1), .val (.int (0 : Int32)), .val (.int (Int32.ofNat PT)), .val (.long (1 : Int64)), .second, .val (.int (1 : Int32)), .unset] [(.int (1 : Int32)), (.ref a1)])) _
    refine XS.iloadN X310.here hx rfl (hb hby d17_13) rfl ?_
    exact kt
  obtain ⟨_, _, ⟨T311, L311, k311, n311⟩, -, X311, ⟨Lc311, hQ311, l311, y311, z311⟩, st311⟩ := Jvm.LawKit.callS X310 hx (y := (⟨"com/example/long_walk/longwalk/EdgeListLine", "skipBlanks", "([BII)I"⟩ : MethodName)) hown (mvT hZ (hw _ (List.mem_of_getElem? (i := 44) rfl))) (mvT hZ (hw _ (List.mem_of_getElem? (i := 45) rfl))) (mvT hZ (hw _ (List.mem_of_getElem? (i := 21) rfl))) (mvT hZ (hw _ (List.mem_of_getElem? (i := 46) rfl))) (by decide) (backOf (W := 0) (rm10_1 l Z aZ hw [] a1 PT g h0 n0 Z0 pf8 (hP : own_pr PT g)) hZ (hw _ (List.mem_of_getElem? (i := 46) rfl)) (hw _ (List.mem_of_getElem? (i := 21) rfl)) (by decide) (by decide)) (g := (mkF m 14 #[.val (.ref a0), .val (.ref a1), .val (.int (0 : Int32)), .val (.int (Int32.ofNat PT)), .val (.long (1 : Int64)), .second, .val (.int (1 : Int32)), .unset] [(.int (Int32.ofNat PT)), (.int (1 : Int32)), (.ref a1)])) rfl (by rw [hml]; rfl) (argsL := [(.ref a1), (.int (1 : Int32)), (.int (Int32.ofNat PT))]) (rest := []) (lenOf own_pd4 rfl) rfl (by show 2 * 0 + _ ≤ _; exact Nat.le_of_eq rfl) (hb hby d17_14) (fun _ _ => ⟨rfl, e310, (by decide : 0 + 0 ≤ _), (by decide : 0 + 0 ≤ _)⟩)
  dsimp only [Pt.U, Pt.locs, Pt.cells, Pt.slots] at X311 l311 y311 z311 st311 hQ311
  subst l311 y311 z311
  obtain ⟨rfl, N311q, e311⟩ := hQ311
  have N311 := Fr.app N310 N311q
  refine own_go (S' := T311.setTop (mkF m 17 #[.val (.ref a0), .val (.ref a1), .val (.int (0 : Int32)), .val (.int (Int32.ofNat PT)), .val (.long (1 : Int64)), .second, .val (.int (1 : Int32)), .unset] [(.int (3 : Int32))])) st311 ?_
  refine own_go (S' := T311.setTop (mkF m 39 #[.val (.ref a0), .val (.ref a1), .val (.int (0 : Int32)), .val (.int (Int32.ofNat PT)), .val (.long (1 : Int64)), .second, .val (.int (1 : Int32)), .val (.int (3 : Int32))] [(.int (0 : Int32)), (.ref a0)])) (fun target kt => ?_) ?_
  · skip
    show Steps p.tables e below (T311.setTop (mkF m 17 #[.val (.ref a0), .val (.ref a1), .val (.int (0 : Int32)), .val (.int (Int32.ofNat PT)), .val (.long (1 : Int64)), .second, .val (.int (1 : Int32)), .unset] [(.int (3 : Int32))])) _
    refine XS.istore X311.here hx rfl (hb hby d17_17) rfl (l' := #[.val (.ref a0), .val (.ref a1), .val (.int (0 : Int32)), .val (.int (Int32.ofNat PT)), .val (.long (1 : Int64)), .second, .val (.int (1 : Int32)), .val (.int (3 : Int32))]) rfl ?_
    show Steps p.tables e below (T311.setTop (mkF m 19 #[.val (.ref a0), .val (.ref a1), .val (.int (0 : Int32)), .val (.int (Int32.ofNat PT)), .val (.long (1 : Int64)), .second, .val (.int (1 : Int32)), .val (.int (3 : Int32))] [])) _
    refine XS.iload X311.here hx rfl (hb hby d17_19) rfl ?_
    show Steps p.tables e below (T311.setTop (mkF m 21 #[.val (.ref a0), .val (.ref a1), .val (.int (0 : Int32)), .val (.int (Int32.ofNat PT)), .val (.long (1 : Int64)), .second, .val (.int (1 : Int32)), .val (.int (3 : Int32))] [(.int (3 : Int32))])) _
    refine XS.iloadN X311.here hx rfl (hb hby d17_21) rfl ?_
    show Steps p.tables e below (T311.setTop (mkF m 22 #[.val (.ref a0), .val (.ref a1), .val (.int (0 : Int32)), .val (.int (Int32.ofNat PT)), .val (.long (1 : Int64)), .second, .val (.int (1 : Int32)), .val (.int (3 : Int32))] [(.int (Int32.ofNat PT)), (.int (3 : Int32))])) _
    refine XS.icmpYes X311.here hx rfl (pc0 := 22) (pc' := 37) rfl (hb hby d17_22) rfl (feq (own_kne (by decide) ⟨hP.1, hP.2.1⟩ : ¬ ((3 : Int32) = (Int32.ofNat PT)))).2 (by decide) (by decide) ?_
    show Steps p.tables e below (T311.setTop (mkF m 37 #[.val (.ref a0), .val (.ref a1), .val (.int (0 : Int32)), .val (.int (Int32.ofNat PT)), .val (.long (1 : Int64)), .second, .val (.int (1 : Int32)), .val (.int (3 : Int32))] [])) _
    refine XS.aloadN X311.here hx rfl (hb hby d17_37) rfl rfl ?_
    show Steps p.tables e below (T311.setTop (mkF m 38 #[.val (.ref a0), .val (.ref a1), .val (.int (0 : Int32)), .val (.int (Int32.ofNat PT)), .val (.long (1 : Int64)), .second, .val (.int (1 : Int32)), .val (.int (3 : Int32))] [(.ref a0)])) _
    refine XS.iloadN X311.here hx rfl (hb hby d17_38) rfl ?_
    exact kt
  obtain ⟨T312, h312, X312, e312, W312, st312⟩ := putF X311 hx hZ hown (host := "") (Or.inl (hw _ (List.mem_of_getElem? (i := 54) rfl))) Via.refl e311 pf1 pf0 (Or.inl (hw _ (List.mem_of_getElem? (i := 55) rfl))) (hw _ (List.mem_of_getElem? (i := 20) rfl)) (ty := .int) (by decide) rfl rfl (g := (mkF m 39 #[.val (.ref a0), .val (.ref a1), .val (.int (0 : Int32)), .val (.int (Int32.ofNat PT)), .val (.long (1 : Int64)), .second, .val (.int (1 : Int32)), .val (.int (3 : Int32))] [(.int (0 : Int32)), (.ref a0)])) rfl rfl (hb hby d17_39)
  have f313 : Exa Z h312 a0 "com/example/long_walk/longwalk/EdgeListLine" := pf0.wr W312
  have f314 : Fld Z h312 a0 "com/example/long_walk/longwalk/EdgeListLine" "sourceEnd" "I" (.int (0 : Int32)) := pf2.other W312 (Or.inr (slot_ne (Or.inl (hw _ (List.mem_of_getElem? (i := 57) rfl))) (Or.inl (hw _ (List.mem_of_getElem? (i := 55) rfl))) (by decide) (t := .int) (t' := .int) (by decide) (by decide)))
  have f315 : Fld Z h312 a0 "com/example/long_walk/longwalk/EdgeListLine" "targetStart" "I" (.int (0 : Int32)) := pf3.other W312 (Or.inr (slot_ne (Or.inl (hw _ (List.mem_of_getElem? (i := 59) rfl))) (Or.inl (hw _ (List.mem_of_getElem? (i := 55) rfl))) (by decide) (t := .int) (t' := .int) (by decide) (by decide)))
  have f316 : Fld Z h312 a0 "com/example/long_walk/longwalk/EdgeListLine" "targetEnd" "I" (.int (0 : Int32)) := pf4.other W312 (Or.inr (slot_ne (Or.inl (hw _ (List.mem_of_getElem? (i := 61) rfl))) (Or.inl (hw _ (List.mem_of_getElem? (i := 55) rfl))) (by decide) (t := .int) (t' := .int) (by decide) (by decide)))
  have f317 : Fld Z h312 a0 "com/example/long_walk/longwalk/EdgeListLine" "firstTab" "I" (.int w1) := pf5.other W312 (Or.inr (slot_ne (Or.inl (hw _ (List.mem_of_getElem? (i := 34) rfl))) (Or.inl (hw _ (List.mem_of_getElem? (i := 55) rfl))) (by decide) (t := .int) (t' := .int) (by decide) (by decide)))
  have f318 : Fld Z h312 a0 "com/example/long_walk/longwalk/EdgeListLine" "secondTab" "I" (.int w2) := pf6.other W312 (Or.inr (slot_ne (Or.inl (hw _ (List.mem_of_getElem? (i := 36) rfl))) (Or.inl (hw _ (List.mem_of_getElem? (i := 55) rfl))) (by decide) (t := .int) (t' := .int) (by decide) (by decide)))
  have f319 : Fld Z h312 a0 "com/example/long_walk/longwalk/EdgeListLine" "ascii" "Z" (.int wa) := pf7.other W312 (Or.inr (slot_ne (Or.inl (hw _ (List.mem_of_getElem? (i := 38) rfl))) (Or.inl (hw _ (List.mem_of_getElem? (i := 55) rfl))) (by decide) (t := .boolean) (t' := .int) (by decide) (by decide)))
  have f320 : own_AI Z h312 a1 .byte 8 g := pf8.other W312 (Ne.symm hne)
  have f321 : Fld Z h312 a0 "com/example/long_walk/longwalk/EdgeListLine" "sourceStart" "I" (.int (0 : Int32)) := pf1.same W312
  have Z312 : n0 ≤ h312.size := Nat.le_trans Z0 (Keep.of_wr W312).1
  have K312 : Keep h0 h312 [a0] := K0.wr W312 (Or.inl (List.mem_of_getElem? (i := 0) rfl))
  have N312 := Fr.snoc X312 N311 g_a0
  refine own_go (S' := T312.setTop (mkF m 42 #[.val (.ref a0), .val (.ref a1), .val (.int (0 : Int32)), .val (.int (Int32.ofNat PT)), .val (.long (1 : Int64)), .second, .val (.int (1 : Int32)), .val (.int (3 : Int32))] [])) st312 ?_
  refine own_go (S' := T312.setTop (mkF m 45 #[.val (.ref a0), .val (.ref a1), .val (.int (0 : Int32)), .val (.int (Int32.ofNat PT)), .val (.long (1 : Int64)), .second, .val (.int (1 : Int32)), .val (.int (3 : Int32))] [(.int (1 : Int32)), (.ref a0)])) (fun target kt => ?_) ?_
  · skip
    show Steps p.tables e below (T312.setTop (mkF m 42 #[.val (.ref a0), .val (.ref a1), .val (.int (0 : Int32)), .val (.int (Int32.ofNat PT)), .val (.long (1 : Int64)), .second, .val (.int (1 : Int32)), .val (.int (3 : Int32))] [])) _
    refine XS.aloadN X312.here hx rfl (hb hby d17_42) rfl rfl ?_
    show Steps p.tables e below (T312.setTop (mkF m 43 #[.val (.ref a0), .val (.ref a1), .val (.int (0 : Int32)), .val (.int (Int32.ofNat PT)), .val (.long (1 : Int64)), .second, .val (.int (1 : Int32)), .val (.int (3 : Int32))] [(.ref a0)])) _
    refine XS.iload X312.here hx rfl (hb hby d17_43) rfl ?_
    exact kt
  obtain ⟨T322, h322, X322, e322, W322, st322⟩ := putF X312 hx hZ hown (host := "") (Or.inl (hw _ (List.mem_of_getElem? (i := 56) rfl))) Via.refl e312 f314 f313 (Or.inl (hw _ (List.mem_of_getElem? (i := 57) rfl))) (hw _ (List.mem_of_getElem? (i := 20) rfl)) (ty := .int) (by decide) rfl rfl (g := (mkF m 45 #[.val (.ref a0), .val (.ref a1), .val (.int (0 : Int32)), .val (.int (Int32.ofNat PT)), .val (.long (1 : Int64)), .second, .val (.int (1 : Int32)), .val (.int (3 : Int32))] [(.int (1 : Int32)), (.ref a0)])) rfl rfl (hb hby d17_45)
  have f323 : Exa Z h322 a0 "com/example/long_walk/longwalk/EdgeListLine" := f313.wr W322
  have f324 : Fld Z h322 a0 "com/example/long_walk/longwalk/EdgeListLine" "targetStart" "I" (.int (0 : Int32)) := f315.other W322 (Or.inr (slot_ne (Or.inl (hw _ (List.mem_of_getElem? (i := 59) rfl))) (Or.inl (hw _ (List.mem_of_getElem? (i := 57) rfl))) (by decide) (t := .int) (t' := .int) (by decide) (by decide)))
  have f325 : Fld Z h322 a0 "com/example/long_walk/longwalk/EdgeListLine" "targetEnd" "I" (.int (0 : Int32)) := f316.other W322 (Or.inr (slot_ne (Or.inl (hw _ (List.mem_of_getElem? (i := 61) rfl))) (Or.inl (hw _ (List.mem_of_getElem? (i := 57) rfl))) (by decide) (t := .int) (t' := .int) (by decide) (by decide)))
  have f326 : Fld Z h322 a0 "com/example/long_walk/longwalk/EdgeListLine" "firstTab" "I" (.int w1) := f317.other W322 (Or.inr (slot_ne (Or.inl (hw _ (List.mem_of_getElem? (i := 34) rfl))) (Or.inl (hw _ (List.mem_of_getElem? (i := 57) rfl))) (by decide) (t := .int) (t' := .int) (by decide) (by decide)))
  have f327 : Fld Z h322 a0 "com/example/long_walk/longwalk/EdgeListLine" "secondTab" "I" (.int w2) := f318.other W322 (Or.inr (slot_ne (Or.inl (hw _ (List.mem_of_getElem? (i := 36) rfl))) (Or.inl (hw _ (List.mem_of_getElem? (i := 57) rfl))) (by decide) (t := .int) (t' := .int) (by decide) (by decide)))
  have f328 : Fld Z h322 a0 "com/example/long_walk/longwalk/EdgeListLine" "ascii" "Z" (.int wa) := f319.other W322 (Or.inr (slot_ne (Or.inl (hw _ (List.mem_of_getElem? (i := 38) rfl))) (Or.inl (hw _ (List.mem_of_getElem? (i := 57) rfl))) (by decide) (t := .boolean) (t' := .int) (by decide) (by decide)))
  have f329 : own_AI Z h322 a1 .byte 8 g := f320.other W322 (Ne.symm hne)
  have f330 : Fld Z h322 a0 "com/example/long_walk/longwalk/EdgeListLine" "sourceStart" "I" (.int (0 : Int32)) := f321.other W322 (Or.inr (slot_ne (Or.inl (hw _ (List.mem_of_getElem? (i := 55) rfl))) (Or.inl (hw _ (List.mem_of_getElem? (i := 57) rfl))) (by decide) (t := .int) (t' := .int) (by decide) (by decide)))
  have f331 : Fld Z h322 a0 "com/example/long_walk/longwalk/EdgeListLine" "sourceEnd" "I" (.int (1 : Int32)) := f314.same W322
  have Z322 : n0 ≤ h322.size := Nat.le_trans Z312 (Keep.of_wr W322).1
  have K322 : Keep h0 h322 [a0] := K312.wr W322 (Or.inl (List.mem_of_getElem? (i := 0) rfl))
  have N322 := Fr.snoc X322 N312 g_a0
  refine own_go (S' := T322.setTop (mkF m 48 #[.val (.ref a0), .val (.ref a1), .val (.int (0 : Int32)), .val (.int (Int32.ofNat PT)), .val (.long (1 : Int64)), .second, .val (.int (1 : Int32)), .val (.int (3 : Int32))] [])) st322 ?_
  refine own_go (S' := T322.setTop (mkF m 51 #[.val (.ref a0), .val (.ref a1), .val (.int (0 : Int32)), .val (.int (Int32.ofNat PT)), .val (.long (1 : Int64)), .second, .val (.int (1 : Int32)), .val (.int (3 : Int32))] [(.int (3 : Int32)), (.ref a0)])) (fun target kt => ?_) ?_
  · skip
    show Steps p.tables e below (T322.setTop (mkF m 48 #[.val (.ref a0), .val (.ref a1), .val (.int (0 : Int32)), .val (.int (Int32.ofNat PT)), .val (.long (1 : Int64)), .second, .val (.int (1 : Int32)), .val (.int (3 : Int32))] [])) _
    refine XS.aloadN X322.here hx rfl (hb hby d17_48) rfl rfl ?_
    show Steps p.tables e below (T322.setTop (mkF m 49 #[.val (.ref a0), .val (.ref a1), .val (.int (0 : Int32)), .val (.int (Int32.ofNat PT)), .val (.long (1 : Int64)), .second, .val (.int (1 : Int32)), .val (.int (3 : Int32))] [(.ref a0)])) _
    refine XS.iload X322.here hx rfl (hb hby d17_49) rfl ?_
    exact kt
  obtain ⟨T332, h332, X332, e332, W332, st332⟩ := putF X322 hx hZ hown (host := "") (Or.inl (hw _ (List.mem_of_getElem? (i := 58) rfl))) Via.refl e322 f324 f323 (Or.inl (hw _ (List.mem_of_getElem? (i := 59) rfl))) (hw _ (List.mem_of_getElem? (i := 20) rfl)) (ty := .int) (by decide) rfl rfl (g := (mkF m 51 #[.val (.ref a0), .val (.ref a1), .val (.int (0 : Int32)), .val (.int (Int32.ofNat PT)), .val (.long (1 : Int64)), .second, .val (.int (1 : Int32)), .val (.int (3 : Int32))] [(.int (3 : Int32)), (.ref a0)])) rfl rfl (hb hby d17_51)
  have f333 : Exa Z h332 a0 "com/example/long_walk/longwalk/EdgeListLine" := f323.wr W332
  have f334 : Fld Z h332 a0 "com/example/long_walk/longwalk/EdgeListLine" "targetEnd" "I" (.int (0 : Int32)) := f325.other W332 (Or.inr (slot_ne (Or.inl (hw _ (List.mem_of_getElem? (i := 61) rfl))) (Or.inl (hw _ (List.mem_of_getElem? (i := 59) rfl))) (by decide) (t := .int) (t' := .int) (by decide) (by decide)))
  have f335 : Fld Z h332 a0 "com/example/long_walk/longwalk/EdgeListLine" "firstTab" "I" (.int w1) := f326.other W332 (Or.inr (slot_ne (Or.inl (hw _ (List.mem_of_getElem? (i := 34) rfl))) (Or.inl (hw _ (List.mem_of_getElem? (i := 59) rfl))) (by decide) (t := .int) (t' := .int) (by decide) (by decide)))
  have f336 : Fld Z h332 a0 "com/example/long_walk/longwalk/EdgeListLine" "secondTab" "I" (.int w2) := f327.other W332 (Or.inr (slot_ne (Or.inl (hw _ (List.mem_of_getElem? (i := 36) rfl))) (Or.inl (hw _ (List.mem_of_getElem? (i := 59) rfl))) (by decide) (t := .int) (t' := .int) (by decide) (by decide)))
  have f337 : Fld Z h332 a0 "com/example/long_walk/longwalk/EdgeListLine" "ascii" "Z" (.int wa) := f328.other W332 (Or.inr (slot_ne (Or.inl (hw _ (List.mem_of_getElem? (i := 38) rfl))) (Or.inl (hw _ (List.mem_of_getElem? (i := 59) rfl))) (by decide) (t := .boolean) (t' := .int) (by decide) (by decide)))
  have f338 : own_AI Z h332 a1 .byte 8 g := f329.other W332 (Ne.symm hne)
  have f339 : Fld Z h332 a0 "com/example/long_walk/longwalk/EdgeListLine" "sourceStart" "I" (.int (0 : Int32)) := f330.other W332 (Or.inr (slot_ne (Or.inl (hw _ (List.mem_of_getElem? (i := 55) rfl))) (Or.inl (hw _ (List.mem_of_getElem? (i := 59) rfl))) (by decide) (t := .int) (t' := .int) (by decide) (by decide)))
  have f340 : Fld Z h332 a0 "com/example/long_walk/longwalk/EdgeListLine" "sourceEnd" "I" (.int (1 : Int32)) := f331.other W332 (Or.inr (slot_ne (Or.inl (hw _ (List.mem_of_getElem? (i := 57) rfl))) (Or.inl (hw _ (List.mem_of_getElem? (i := 59) rfl))) (by decide) (t := .int) (t' := .int) (by decide) (by decide)))
  have f341 : Fld Z h332 a0 "com/example/long_walk/longwalk/EdgeListLine" "targetStart" "I" (.int (3 : Int32)) := f324.same W332
  have Z332 : n0 ≤ h332.size := Nat.le_trans Z322 (Keep.of_wr W332).1
  have K332 : Keep h0 h332 [a0] := K322.wr W332 (Or.inl (List.mem_of_getElem? (i := 0) rfl))
  have N332 := Fr.snoc X332 N322 g_a0
  refine own_go (S' := T332.setTop (mkF m 54 #[.val (.ref a0), .val (.ref a1), .val (.int (0 : Int32)), .val (.int (Int32.ofNat PT)), .val (.long (1 : Int64)), .second, .val (.int (1 : Int32)), .val (.int (3 : Int32))] [])) st332 ?_
  refine own_go (S' := T332.setTop (mkF m 61 #[.val (.ref a0), .val (.ref a1), .val (.int (0 : Int32)), .val (.int (Int32.ofNat PT)), .val (.long (1 : Int64)), .second, .val (.int (1 : Int32)), .val (.int (3 : Int32))] [(.int (32 : Int32)), (.int (Int32.ofNat PT)), (.int (3 : Int32)), (.ref a1), (.ref a0)])) (fun target kt => ?_) ?_
  · skip
    show Steps p.tables e below (T332.setTop (mkF m 54 #[.val (.ref a0), .val (.ref a1), .val (.int (0 : Int32)), .val (.int (Int32.ofNat PT)), .val (.long (1 : Int64)), .second, .val (.int (1 : Int32)), .val (.int (3 : Int32))] [])) _
    refine XS.aloadN X332.here hx rfl (hb hby d17_54) rfl rfl ?_
    show Steps p.tables e below (T332.setTop (mkF m 55 #[.val (.ref a0), .val (.ref a1), .val (.int (0 : Int32)), .val (.int (Int32.ofNat PT)), .val (.long (1 : Int64)), .second, .val (.int (1 : Int32)), .val (.int (3 : Int32))] [(.ref a0)])) _
    refine XS.aloadN X332.here hx rfl (hb hby d17_55) rfl rfl ?_
    show Steps p.tables e below (T332.setTop (mkF m 56 #[.val (.ref a0), .val (.ref a1), .val (.int (0 : Int32)), .val (.int (Int32.ofNat PT)), .val (.long (1 : Int64)), .second, .val (.int (1 : Int32)), .val (.int (3 : Int32))] [(.ref a1), (.ref a0)])) _
    refine XS.iload X332.here hx rfl (hb hby d17_56) rfl ?_
    show Steps p.tables e below (T332.setTop (mkF m 58 #[.val (.ref a0), .val (.ref a1), .val (.int (0 : Int32)), .val (.int (Int32.ofNat PT)), .val (.long (1 : Int64)), .second, .val (.int (1 : Int32)), .val (.int (3 : Int32))] [(.int (3 : Int32)), (.ref a1), (.ref a0)])) _
    refine XS.iloadN X332.here hx rfl (hb hby d17_58) rfl ?_
    show Steps p.tables e below (T332.setTop (mkF m 59 #[.val (.ref a0), .val (.ref a1), .val (.int (0 : Int32)), .val (.int (Int32.ofNat PT)), .val (.long (1 : Int64)), .second, .val (.int (1 : Int32)), .val (.int (3 : Int32))] [(.int (Int32.ofNat PT)), (.int (3 : Int32)), (.ref a1), (.ref a0)])) _
    refine XS.bipush X332.here hx rfl (hb hby d17_59) ?_
    exact kt
  obtain ⟨_, _, ⟨T342, L342, k342, n342⟩, -, X342, ⟨Lc342, hQ342, l342, y342, z342⟩, st342⟩ := Jvm.LawKit.callS X332 hx (y := (⟨"com/example/long_walk/longwalk/Bytes", "find", "([BIIB)I"⟩ : MethodName)) hown (mvT hZ (hw _ (List.mem_of_getElem? (i := 87) rfl))) (mvT hZ (hw _ (List.mem_of_getElem? (i := 88) rfl))) (mvT hZ (hw _ (List.mem_of_getElem? (i := 89) rfl))) (mvT hZ (hw _ (List.mem_of_getElem? (i := 90) rfl))) (by decide) (backOf (W := 1) (rm18_3 l Z aZ hw [] a1 PT g h332 n0 Z332 f338 (hP : own_pr PT g)) hZ (hw _ (List.mem_of_getElem? (i := 90) rfl)) (hw _ (List.mem_of_getElem? (i := 89) rfl)) (by decide) (by decide)) (g := (mkF m 61 #[.val (.ref a0), .val (.ref a1), .val (.int (0 : Int32)), .val (.int (Int32.ofNat PT)), .val (.long (1 : Int64)), .second, .val (.int (1 : Int32)), .val (.int (3 : Int32))] [(.int (32 : Int32)), (.int (Int32.ofNat PT)), (.int (3 : Int32)), (.ref a1), (.ref a0)])) rfl (by rw [hml]; rfl) (argsL := [(.ref a1), (.int (3 : Int32)), (.int (Int32.ofNat PT)), (.int (32 : Int32))]) (rest := [(.ref a0)]) (lenOf own_pd3 rfl) rfl (by show 2 * 0 + _ ≤ _; exact Nat.le_of_eq rfl) (hb hby d17_61) (fun _ _ => ⟨rfl, e332, (by decide : 0 + 0 ≤ _), (by decide : 0 + 0 ≤ _)⟩)
  dsimp only [Pt.U, Pt.locs, Pt.cells, Pt.slots] at X342 l342 y342 z342 st342 hQ342
  subst l342 y342 z342
  obtain ⟨rfl, N342q, e342⟩ := hQ342
  have N342 := Fr.app N332 N342q
  refine own_go (S' := T342.setTop (mkF m 64 #[.val (.ref a0), .val (.ref a1), .val (.int (0 : Int32)), .val (.int (Int32.ofNat PT)), .val (.long (1 : Int64)), .second, .val (.int (1 : Int32)), .val (.int (3 : Int32))] [(.int (Int32.ofNat PT)), (.ref a0)])) st342 ?_
  obtain ⟨T343, h343, X343, e343, W343, st343⟩ := putF X342 hx hZ hown (host := "") (Or.inl (hw _ (List.mem_of_getElem? (i := 60) rfl))) Via.refl e342 f334 f333 (Or.inl (hw _ (List.mem_of_getElem? (i := 61) rfl))) (hw _ (List.mem_of_getElem? (i := 20) rfl)) (ty := .int) (by decide) rfl rfl (g := (mkF m 64 #[.val (.ref a0), .val (.ref a1), .val (.int (0 : Int32)), .val (.int (Int32.ofNat PT)), .val (.long (1 : Int64)), .second, .val (.int (1 : Int32)), .val (.int (3 : Int32))] [(.int (Int32.ofNat PT)), (.ref a0)])) rfl rfl (hb hby d17_64)
  have f344 : Exa Z h343 a0 "com/example/long_walk/longwalk/EdgeListLine" := f333.wr W343
  have f345 : Fld Z h343 a0 "com/example/long_walk/longwalk/EdgeListLine" "firstTab" "I" (.int w1) := f335.other W343 (Or.inr (slot_ne (Or.inl (hw _ (List.mem_of_getElem? (i := 34) rfl))) (Or.inl (hw _ (List.mem_of_getElem? (i := 61) rfl))) (by decide) (t := .int) (t' := .int) (by decide) (by decide)))
  have f346 : Fld Z h343 a0 "com/example/long_walk/longwalk/EdgeListLine" "secondTab" "I" (.int w2) := f336.other W343 (Or.inr (slot_ne (Or.inl (hw _ (List.mem_of_getElem? (i := 36) rfl))) (Or.inl (hw _ (List.mem_of_getElem? (i := 61) rfl))) (by decide) (t := .int) (t' := .int) (by decide) (by decide)))
  have f347 : Fld Z h343 a0 "com/example/long_walk/longwalk/EdgeListLine" "ascii" "Z" (.int wa) := f337.other W343 (Or.inr (slot_ne (Or.inl (hw _ (List.mem_of_getElem? (i := 38) rfl))) (Or.inl (hw _ (List.mem_of_getElem? (i := 61) rfl))) (by decide) (t := .boolean) (t' := .int) (by decide) (by decide)))
  have f348 : own_AI Z h343 a1 .byte 8 g := f338.other W343 (Ne.symm hne)
  have f349 : Fld Z h343 a0 "com/example/long_walk/longwalk/EdgeListLine" "sourceStart" "I" (.int (0 : Int32)) := f339.other W343 (Or.inr (slot_ne (Or.inl (hw _ (List.mem_of_getElem? (i := 55) rfl))) (Or.inl (hw _ (List.mem_of_getElem? (i := 61) rfl))) (by decide) (t := .int) (t' := .int) (by decide) (by decide)))
  have f350 : Fld Z h343 a0 "com/example/long_walk/longwalk/EdgeListLine" "sourceEnd" "I" (.int (1 : Int32)) := f340.other W343 (Or.inr (slot_ne (Or.inl (hw _ (List.mem_of_getElem? (i := 57) rfl))) (Or.inl (hw _ (List.mem_of_getElem? (i := 61) rfl))) (by decide) (t := .int) (t' := .int) (by decide) (by decide)))
  have f351 : Fld Z h343 a0 "com/example/long_walk/longwalk/EdgeListLine" "targetStart" "I" (.int (3 : Int32)) := f341.other W343 (Or.inr (slot_ne (Or.inl (hw _ (List.mem_of_getElem? (i := 59) rfl))) (Or.inl (hw _ (List.mem_of_getElem? (i := 61) rfl))) (by decide) (t := .int) (t' := .int) (by decide) (by decide)))
  have f352 : Fld Z h343 a0 "com/example/long_walk/longwalk/EdgeListLine" "targetEnd" "I" (.int (Int32.ofNat PT)) := f334.same W343
  have Z343 : n0 ≤ h343.size := Nat.le_trans Z332 (Keep.of_wr W343).1
  have K343 : Keep h0 h343 [a0] := K332.wr W343 (Or.inl (List.mem_of_getElem? (i := 0) rfl))
  have N343 := Fr.snoc X343 N342 g_a0
  refine own_go (S' := T343.setTop (mkF m 67 #[.val (.ref a0), .val (.ref a1), .val (.int (0 : Int32)), .val (.int (Int32.ofNat PT)), .val (.long (1 : Int64)), .second, .val (.int (1 : Int32)), .val (.int (3 : Int32))] [])) st343 ?_
  obtain ⟨fs, hr, hrun, hended, hW, hsame⟩ := X343.leave (v := none) (fun _ => rfl)
  refine ⟨_, _, ?_, hrun, hended, _, _, rfl, ?_, ⟨_, rfl⟩, hW, hsame.mono (by decide) (by decide)⟩
  · exact X343.returnOut hx Bd.returns (hb hby d17_67) hr
  · show Q17 Z a0 a1 PT g w1 w2 wa h0 n0 _ T343.heap _
    rw [e343]
    exact ⟨rfl, N343, K343, f344, f349, f350, f351, f352, f345, f346, f347⟩
theorem d9_0 : decode prog_7_method_4_code 0 = .ok (.aload_n 0, 1) := by decide +kernel
theorem d9_1 : decode prog_7_method_4_code 1 = .ok (.getfield 30, 3) := by decide +kernel
theorem d9_4 : decode prog_7_method_4_code 4 = .ok (.ifCond .eq 7, 3) := by decide +kernel
theorem d9_7 : decode prog_7_method_4_code 7 = .ok (.iconst (-1), 1) := by decide +kernel
theorem d9_8 : decode prog_7_method_4_code 8 = .ok (.goto 9, 3) := by decide +kernel
theorem d9_11 : decode prog_7_method_4_code 11 = .ok (.aload_n 1, 1) := by decide +kernel
theorem d9_12 : decode prog_7_method_4_code 12 = .ok (.iload_n 2, 1) := by decide +kernel
theorem d9_13 : decode prog_7_method_4_code 13 = .ok (.iload_n 3, 1) := by decide +kernel
theorem d9_14 : decode prog_7_method_4_code 14 = .ok (.invokestatic 34, 3) := by decide +kernel
theorem d9_17 : decode prog_7_method_4_code 17 = .ok (.istore 6, 2) := by decide +kernel
theorem d9_19 : decode prog_7_method_4_code 19 = .ok (.iload 6, 2) := by decide +kernel
theorem d9_21 : decode prog_7_method_4_code 21 = .ok (.ifCond .lt 24, 3) := by decide +kernel
theorem d9_24 : decode prog_7_method_4_code 24 = .ok (.new 40, 3) := by decide +kernel
theorem d9_27 : decode prog_7_method_4_code 27 = .ok (.dup, 1) := by decide +kernel
theorem d9_28 : decode prog_7_method_4_code 28 = .ok (.lload 4, 2) := by decide +kernel
theorem d9_30 : decode prog_7_method_4_code 30 = .ok (.iload 6, 2) := by decide +kernel
theorem d9_32 : decode prog_7_method_4_code 32 = .ok (.iload_n 2, 1) := by decide +kernel
theorem d9_33 : decode prog_7_method_4_code 33 = .ok (.isub, 1) := by decide +kernel
theorem d9_34 : decode prog_7_method_4_code 34 = .ok (.iconst 1, 1) := by decide +kernel
theorem d9_35 : decode prog_7_method_4_code 35 = .ok (.iadd, 1) := by decide +kernel
theorem d9_36 : decode prog_7_method_4_code 36 = .ok (.invokedynamic 42, 5) := by decide +kernel
theorem d9_41 : decode prog_7_method_4_code 41 = .ok (.invokespecial 46, 3) := by decide +kernel
theorem d9_44 : decode prog_7_method_4_code 44 = .ok (.athrow, 1) := by decide +kernel
theorem d9_45 : decode prog_7_method_4_code 45 = .ok (.aload_n 1, 1) := by decide +kernel
theorem d9_46 : decode prog_7_method_4_code 46 = .ok (.iload_n 2, 1) := by decide +kernel
theorem d9_47 : decode prog_7_method_4_code 47 = .ok (.iload_n 3, 1) := by decide +kernel
theorem d9_48 : decode prog_7_method_4_code 48 = .ok (.invokestatic 49, 3) := by decide +kernel
theorem d9_51 : decode prog_7_method_4_code 51 = .ok (.istore 7, 2) := by decide +kernel
theorem d9_53 : decode prog_7_method_4_code 53 = .ok (.iload 7, 2) := by decide +kernel
theorem d9_55 : decode prog_7_method_4_code 55 = .ok (.iload_n 3, 1) := by decide +kernel
theorem d9_56 : decode prog_7_method_4_code 56 = .ok (.if_icmp .eq 12, 3) := by decide +kernel
theorem d9_59 : decode prog_7_method_4_code 59 = .ok (.aload_n 1, 1) := by decide +kernel
theorem d9_60 : decode prog_7_method_4_code 60 = .ok (.iload 7, 2) := by decide +kernel
theorem d9_62 : decode prog_7_method_4_code 62 = .ok (.baload, 1) := by decide +kernel
theorem d9_63 : decode prog_7_method_4_code 63 = .ok (.bipush 35, 2) := by decide +kernel
theorem d9_65 : decode prog_7_method_4_code 65 = .ok (.if_icmp .ne 9, 3) := by decide +kernel
theorem d9_68 : decode prog_7_method_4_code 68 = .ok (.iconst 0, 1) := by decide +kernel
theorem d9_69 : decode prog_7_method_4_code 69 = .ok (.istore 8, 2) := by decide +kernel
theorem d9_71 : decode prog_7_method_4_code 71 = .ok (.goto 49, 3) := by decide +kernel
theorem d9_74 : decode prog_7_method_4_code 74 = .ok (.aload_n 0, 1) := by decide +kernel
theorem d9_75 : decode prog_7_method_4_code 75 = .ok (.getfield 23, 3) := by decide +kernel
theorem d9_78 : decode prog_7_method_4_code 78 = .ok (.iload_n 3, 1) := by decide +kernel
theorem d9_79 : decode prog_7_method_4_code 79 = .ok (.if_icmp .ge 28, 3) := by decide +kernel
theorem d9_82 : decode prog_7_method_4_code 82 = .ok (.aload_n 0, 1) := by decide +kernel
theorem d9_83 : decode prog_7_method_4_code 83 = .ok (.iload_n 2, 1) := by decide +kernel
theorem d9_84 : decode prog_7_method_4_code 84 = .ok (.aload_n 0, 1) := by decide +kernel
theorem d9_85 : decode prog_7_method_4_code 85 = .ok (.getfield 23, 3) := by decide +kernel
theorem d9_88 : decode prog_7_method_4_code 88 = .ok (.aload_n 0, 1) := by decide +kernel
theorem d9_89 : decode prog_7_method_4_code 89 = .ok (.getfield 27, 3) := by decide +kernel
theorem d9_92 : decode prog_7_method_4_code 92 = .ok (.iload_n 3, 1) := by decide +kernel
theorem d9_93 : decode prog_7_method_4_code 93 = .ok (.invokestatic 52, 3) := by decide +kernel
theorem d9_96 : decode prog_7_method_4_code 96 = .ok (.lload 4, 2) := by decide +kernel
theorem d9_98 : decode prog_7_method_4_code 98 = .ok (.invokevirtual 58, 3) := by decide +kernel
theorem d9_101 : decode prog_7_method_4_code 101 = .ok (.iconst 1, 1) := by decide +kernel
theorem d9_102 : decode prog_7_method_4_code 102 = .ok (.istore 8, 2) := by decide +kernel
theorem d9_104 : decode prog_7_method_4_code 104 = .ok (.goto 16, 3) := by decide +kernel
theorem d9_107 : decode prog_7_method_4_code 107 = .ok (.aload_n 0, 1) := by decide +kernel
theorem d9_108 : decode prog_7_method_4_code 108 = .ok (.aload_n 1, 1) := by decide +kernel
theorem d9_109 : decode prog_7_method_4_code 109 = .ok (.iload 7, 2) := by decide +kernel
theorem d9_111 : decode prog_7_method_4_code 111 = .ok (.iload_n 3, 1) := by decide +kernel
theorem d9_112 : decode prog_7_method_4_code 112 = .ok (.lload 4, 2) := by decide +kernel
theorem d9_114 : decode prog_7_method_4_code 114 = .ok (.invokevirtual 62, 3) := by decide +kernel
theorem d9_117 : decode prog_7_method_4_code 117 = .ok (.iconst 1, 1) := by decide +kernel
theorem d9_118 : decode prog_7_method_4_code 118 = .ok (.istore 8, 2) := by decide +kernel
theorem d9_120 : decode prog_7_method_4_code 120 = .ok (.iload 8, 2) := by decide +kernel
theorem d9_122 : decode prog_7_method_4_code 122 = .ok (.ireturn, 1) := by decide +kernel
theorem own_pd5 : parseMethodDescriptor "(IIIJ)V" = some ⟨[.int, .int, .int, .long], none⟩ := by decide +kernel
theorem own_pd6 : parseMethodDescriptor "([BIIJ)V" = some ⟨[(.array .byte), .int, .int, .long], none⟩ := by decide +kernel
set_option maxHeartbeats 40000000 in
theorem own_ef_rm9_a (m : MethodId) (x0 : Addr) (x1 : Addr) (x2 : Int32) (x3 : Int32) (x4 : Int64) : entryFrame m #[(.ref x0), (.ref x1), (.int x2), (.int x3), (.long x4)] 9 = mkF m 0 #[.val (.ref x0), .val (.ref x1), .val (.int x2), .val (.int x3), .val (.long x4), .second, .unset, .unset, .unset] [] := by first | (simp [entryFrame, mkF, argsToLocals, Value.category]; done) | rfl
def Q9_a (Z : State) (a0 : Addr) (a1 : Addr) (PT : Nat) (g : Nat → Int32) (w1 : Int32) (w2 : Int32) (wa : Int32) (h0 : Heap) (n0 : Nat) (v : Option Value) (h : Heap) (L : List Loc) : Prop := v = some (.int (1 : Int32)) ∧ Fr n0 L ∧ Keep h0 h [a0] ∧ Exa Z h a0 "com/example/long_walk/longwalk/EdgeListLine" ∧ Fld Z h a0 "com/example/long_walk/longwalk/EdgeListLine" "sourceStart" "I" (.int (0 : Int32)) ∧ Fld Z h a0 "com/example/long_walk/longwalk/EdgeListLine" "sourceEnd" "I" (.int w1) ∧ Fld Z h a0 "com/example/long_walk/longwalk/EdgeListLine" "targetStart" "I" (.int (w1 + (1 : Int32))) ∧ Fld Z h a0 "com/example/long_walk/longwalk/EdgeListLine" "targetEnd" "I" (.int (own_min w2 (Int32.ofNat PT))) ∧ Fld Z h a0 "com/example/long_walk/longwalk/EdgeListLine" "firstTab" "I" (.int w1) ∧ Fld Z h a0 "com/example/long_walk/longwalk/EdgeListLine" "secondTab" "I" (.int w2) ∧ Fld Z h a0 "com/example/long_walk/longwalk/EdgeListLine" "ascii" "Z" (.int wa)
set_option maxRecDepth 65536 in
set_option maxHeartbeats 40000000 in
theorem rm9_a (l : Launch) (Z : State) (aZ : Array Value) (hw : ∀ d ∈ tables_1, d.before aZ Z = true) (ws : List Jvm.Cond) (a0 : Addr) (a1 : Addr) (PT : Nat) (g : Nat → Int32) (w1 : Int32) (w2 : Int32) (wa : Int32) (h0 : Heap) (n0 : Nat) (Z0 : n0 ≤ h0.size) (pf0 : Exa Z h0 a0 "com/example/long_walk/longwalk/EdgeListLine") (pf1 : Fld Z h0 a0 "com/example/long_walk/longwalk/EdgeListLine" "sourceStart" "I" (.int (0 : Int32))) (pf2 : Fld Z h0 a0 "com/example/long_walk/longwalk/EdgeListLine" "sourceEnd" "I" (.int (0 : Int32))) (pf3 : Fld Z h0 a0 "com/example/long_walk/longwalk/EdgeListLine" "targetStart" "I" (.int (0 : Int32))) (pf4 : Fld Z h0 a0 "com/example/long_walk/longwalk/EdgeListLine" "targetEnd" "I" (.int (0 : Int32))) (pf5 : Fld Z h0 a0 "com/example/long_walk/longwalk/EdgeListLine" "firstTab" "I" (.int w1)) (pf6 : Fld Z h0 a0 "com/example/long_walk/longwalk/EdgeListLine" "secondTab" "I" (.int w2)) (pf7 : Fld Z h0 a0 "com/example/long_walk/longwalk/EdgeListLine" "ascii" "Z" (.int wa)) (pf8 : own_AI Z h0 a1 .byte 8 g) (g_a0 : n0 ≤ a0) (hP : own_pr PT g) (hng : wa = (0 : Int32) → ∀ j, j < 8 → ¬ (g j) < (0 : Int32)) (hne : a0 ≠ a1) (hlt : w1 < (Int32.ofNat PT)) (h1 : ¬ w1 = (0 : Int32)) (h2 : ¬ (own_min w2 (Int32.ofNat PT)) = (w1 + (1 : Int32))) :
    MetFree l (⟨"com/example/long_walk/longwalk/EdgeListLine", "readScanned", "([BIIJ)Z"⟩ : MethodName) (head1 (Jvm.Cond.code (⟨"com/example/long_walk/longwalk/EdgeListLine", "readScanned", "([BIIJ)Z"⟩ : MethodName) prog_7_method_4_code 9 (some .boolean) :: ws) ({ frames := 1, cells := 0, slots := 0, locals := 17 } : Room)) (fun a U => a = #[(.ref a0), (.ref a1), (.int (0 : Int32)), (.int (Int32.ofNat PT)), (.long (1 : Int64))] ∧ Z.Warmed39 U.vm ∧ U.heap = h0) (fun _ _ _ _ _ => True) (fun _ U o U' => ∃ v L, o = .returned v ∧ Q9_a Z a0 a1 PT g w1 w2 wa h0 n0 v U'.heap L ∧ FrameEnd U o U' L ({ frames := 1, cells := 0, slots := 0, locals := 17 } : Room).cells ({ frames := 1, cells := 0, slots := 0, locals := 17 } : Room).slots) := by
  refine MetFree.of_bodySF (plainFor_of_name own_pn3) hisR ?_
  intro p e s m args below meth c s₁ Bd hml0 hP hK
  obtain ⟨rfl, hZ, hh⟩ := hP
  have hx := Bd.exec
  have hby := Bd.bytes
  have hml : c.maxLocals = 9 := hml0
  have hown : s.vm.findClass "com/example/long_walk/longwalk/EdgeListLine" = some m.cls := findClass_of_methodNamed Bd.named
  have hnm := (name_of_methodNamed Bd.named Bd.method).1
  have X0 : Stand p l e ({ frames := 1, cells := 0, slots := 0, locals := 17 } : Room) s m #[(.ref a0), (.ref a1), (.int (0 : Int32)), (.int (Int32.ofNat PT)), (.long (1 : Int64))] below meth c s₁ [] 0 0 := Stand.of_body Bd
  have e0 : s₁.heap = h0 := by rw [← hh, Bd.state]; rfl
  have N0 := Fr.nil n0
  have K0 : Keep h0 h0 [a0] := Keep.refl h0 _
  refine own_go (S' := s₁.setTop (mkF m 0 #[.val (.ref a0), .val (.ref a1), .val (.int (0 : Int32)), .val (.int (Int32.ofNat PT)), .val (.long (1 : Int64)), .second, .unset, .unset, .unset] [])) (fun tt0 kk0 => castTop (own_ef_rm9_a m a0 a1 (0 : Int32) (Int32.ofNat PT) (1 : Int64)) kk0) ?_
  refine own_go (S' := s₁.setTop (mkF m 1 #[.val (.ref a0), .val (.ref a1), .val (.int (0 : Int32)), .val (.int (Int32.ofNat PT)), .val (.long (1 : Int64)), .second, .unset, .unset, .unset] [(.ref a0)])) (fun target kt => ?_) ?_
  · skip
    show Steps p.tables e below (s₁.setTop (mkF m 0 #[.val (.ref a0), .val (.ref a1), .val (.int (0 : Int32)), .val (.int (Int32.ofNat PT)), .val (.long (1 : Int64)), .second, .unset, .unset, .unset] [])) _
    refine XS.aloadN X0.here hx rfl (hb hby d9_0) rfl rfl ?_
    exact kt
  obtain ⟨T353, X353, e353, st353⟩ := getF X0 hx hZ hown (host := "") (Or.inl (hw _ (List.mem_of_getElem? (i := 37) rfl))) Via.refl e0 pf7 (g := (mkF m 1 #[.val (.ref a0), .val (.ref a1), .val (.int (0 : Int32)), .val (.int (Int32.ofNat PT)), .val (.long (1 : Int64)), .second, .unset, .unset, .unset] [(.ref a0)])) rfl rfl (hb hby d9_1)
  refine own_go (S' := T353.setTop (mkF m 4 #[.val (.ref a0), .val (.ref a1), .val (.int (0 : Int32)), .val (.int (Int32.ofNat PT)), .val (.long (1 : Int64)), .second, .unset, .unset, .unset] [(.int wa)])) st353 ?_
  obtain ⟨⟨T354, L354⟩, ⟨X354, e354, N354⟩, st354⟩ : ∃ x : State × List Loc, (Stand p l e ({ frames := 1, cells := 0, slots := 0, locals := 17 } : Room) s m #[(.ref a0), (.ref a1), (.int (0 : Int32)), (.int (Int32.ofNat PT)), (.long (1 : Int64))] below meth c x.1 x.2 0 0 ∧ x.1.heap = h0 ∧ Fr n0 x.2) ∧ ∀ target, Steps p.tables e below (x.1.setTop (mkF m 17 #[.val (.ref a0), .val (.ref a1), .val (.int (0 : Int32)), .val (.int (Int32.ofNat PT)), .val (.long (1 : Int64)), .second, .unset, .unset, .unset] [(.int (-1 : Int32))])) target → Steps p.tables e below (T353.setTop (mkF m 4 #[.val (.ref a0), .val (.ref a1), .val (.int (0 : Int32)), .val (.int (Int32.ofNat PT)), .val (.long (1 : Int64)), .second, .unset, .unset, .unset] [(.int wa)])) target := by
    by_cases hc4 : wa = (0 : Int32)
    · skip
      refine own_goR (S' := T353.setTop (mkF m 14 #[.val (.ref a0), .val (.ref a1), .val (.int (0 : Int32)), .val (.int (Int32.ofNat PT)), .val (.long (1 : Int64)), .second, .unset, .unset, .unset] [(.int (Int32.ofNat PT)), (.int (0 : Int32)), (.ref a1)])) (fun target kt => ?_) ?_
      · skip
        show Steps p.tables e below (T353.setTop (mkF m 4 #[.val (.ref a0), .val (.ref a1), .val (.int (0 : Int32)), .val (.int (Int32.ofNat PT)), .val (.long (1 : Int64)), .second, .unset, .unset, .unset] [(.int wa)])) _
        refine XS.ifYes X353.here hx rfl (pc0 := 4) (pc' := 11) rfl (hb hby d9_4) rfl ((if0 _ _).trans (teq hc4).1) (by decide) (by decide) ?_
        show Steps p.tables e below (T353.setTop (mkF m 11 #[.val (.ref a0), .val (.ref a1), .val (.int (0 : Int32)), .val (.int (Int32.ofNat PT)), .val (.long (1 : Int64)), .second, .unset, .unset, .unset] [])) _
        refine XS.aloadN X353.here hx rfl (hb hby d9_11) rfl rfl ?_
        show Steps p.tables e below (T353.setTop (mkF m 12 #[.val (.ref a0), .val (.ref a1), .val (.int (0 : Int32)), .val (.int (Int32.ofNat PT)), .val (.long (1 : Int64)), .second, .unset, .unset, .unset] [(.ref a1)])) _
        refine XS.iloadN X353.here hx rfl (hb hby d9_12) rfl ?_
        show Steps p.tables e below (T353.setTop (mkF m 13 #[.val (.ref a0), .val (.ref a1), .val (.int (0 : Int32)), .val (.int (Int32.ofNat PT)), .val (.long (1 : Int64)), .second, .unset, .unset, .unset] [(.int (0 : Int32)), (.ref a1)])) _
        refine XS.iloadN X353.here hx rfl (hb hby d9_13) rfl ?_
        exact kt
      obtain ⟨_, _, ⟨T355, L355, k355, n355⟩, -, X355, ⟨Lc355, hQ355, l355, y355, z355⟩, st355⟩ := Jvm.LawKit.callS X353 hx (y := (⟨"com/example/long_walk/longwalk/Utf8", "firstInvalid", "([BII)I"⟩ : MethodName)) hown (mvT hZ (hw _ (List.mem_of_getElem? (i := 91) rfl))) (mvT hZ (hw _ (List.mem_of_getElem? (i := 92) rfl))) (mvT hZ (hw _ (List.mem_of_getElem? (i := 93) rfl))) (mvT hZ (hw _ (List.mem_of_getElem? (i := 94) rfl))) (by decide) (backOf (W := 0) (rm19 l Z aZ hw [] a1 PT g h0 n0 Z0 pf8 (hP.2.1 : PT ≤ 8) (hng hc4 : ∀ j, j < 8 → ¬ (g j) < (0 : Int32))) hZ (hw _ (List.mem_of_getElem? (i := 94) rfl)) (hw _ (List.mem_of_getElem? (i := 93) rfl)) (by decide) (by decide)) (g := (mkF m 14 #[.val (.ref a0), .val (.ref a1), .val (.int (0 : Int32)), .val (.int (Int32.ofNat PT)), .val (.long (1 : Int64)), .second, .unset, .unset, .unset] [(.int (Int32.ofNat PT)), (.int (0 : Int32)), (.ref a1)])) rfl (by rw [hml]; rfl) (argsL := [(.ref a1), (.int (0 : Int32)), (.int (Int32.ofNat PT))]) (rest := []) (lenOf own_pd4 rfl) rfl (by show 2 * 0 + _ ≤ _; exact Nat.le_of_eq rfl) (hb hby d9_14) (fun _ _ => ⟨rfl, e353, (by decide : 0 + 0 ≤ _), (by decide : 0 + 0 ≤ _)⟩)
      dsimp only [Pt.U, Pt.locs, Pt.cells, Pt.slots] at X355 l355 y355 z355 st355 hQ355
      subst l355 y355 z355
      obtain ⟨rfl, N355q, e355⟩ := hQ355
      have N355 := Fr.app N0 N355q
      refine own_goR (S' := T355.setTop (mkF m 17 #[.val (.ref a0), .val (.ref a1), .val (.int (0 : Int32)), .val (.int (Int32.ofNat PT)), .val (.long (1 : Int64)), .second, .unset, .unset, .unset] [(.int (-1 : Int32))])) st355 ?_
      exact ⟨(T355, _), ⟨X355, e355, N355⟩, fun _ k => k⟩
    · skip
      refine own_goR (S' := T353.setTop (mkF m 17 #[.val (.ref a0), .val (.ref a1), .val (.int (0 : Int32)), .val (.int (Int32.ofNat PT)), .val (.long (1 : Int64)), .second, .unset, .unset, .unset] [(.int (-1 : Int32))])) (fun target kt => ?_) ?_
      · skip
        show Steps p.tables e below (T353.setTop (mkF m 4 #[.val (.ref a0), .val (.ref a1), .val (.int (0 : Int32)), .val (.int (Int32.ofNat PT)), .val (.long (1 : Int64)), .second, .unset, .unset, .unset] [(.int wa)])) _
        refine XS.ifNo X353.here hx rfl (hb hby d9_4) rfl ((if0 _ _).trans (feq hc4).1) ?_
        show Steps p.tables e below (T353.setTop (mkF m 7 #[.val (.ref a0), .val (.ref a1), .val (.int (0 : Int32)), .val (.int (Int32.ofNat PT)), .val (.long (1 : Int64)), .second, .unset, .unset, .unset] [])) _
        refine XS.iconst X353.here hx rfl (hb hby d9_7) ?_
        show Steps p.tables e below (T353.setTop (mkF m 8 #[.val (.ref a0), .val (.ref a1), .val (.int (0 : Int32)), .val (.int (Int32.ofNat PT)), .val (.long (1 : Int64)), .second, .unset, .unset, .unset] [(.int (-1 : Int32))])) _
        refine XS.goto X353.here hx rfl (pc0 := 8) (pc' := 17) rfl (hb hby d9_8) (by decide) (by decide) ?_
        exact kt
      exact ⟨(T353, _), ⟨X353, e353, N0⟩, fun _ k => k⟩
  dsimp only at X354 e354 N354  st354
  refine own_go (S' := T354.setTop (mkF m 17 #[.val (.ref a0), .val (.ref a1), .val (.int (0 : Int32)), .val (.int (Int32.ofNat PT)), .val (.long (1 : Int64)), .second, .unset, .unset, .unset] [(.int (-1 : Int32))])) st354 ?_
  refine own_go (S' := T354.setTop (mkF m 48 #[.val (.ref a0), .val (.ref a1), .val (.int (0 : Int32)), .val (.int (Int32.ofNat PT)), .val (.long (1 : Int64)), .second, .val (.int (-1 : Int32)), .unset, .unset] [(.int (Int32.ofNat PT)), (.int (0 : Int32)), (.ref a1)])) (fun target kt => ?_) ?_
  · skip
    show Steps p.tables e below (T354.setTop (mkF m 17 #[.val (.ref a0), .val (.ref a1), .val (.int (0 : Int32)), .val (.int (Int32.ofNat PT)), .val (.long (1 : Int64)), .second, .unset, .unset, .unset] [(.int (-1 : Int32))])) _
    refine XS.istore X354.here hx rfl (hb hby d9_17) rfl (l' := #[.val (.ref a0), .val (.ref a1), .val (.int (0 : Int32)), .val (.int (Int32.ofNat PT)), .val (.long (1 : Int64)), .second, .val (.int (-1 : Int32)), .unset, .unset]) rfl ?_
    show Steps p.tables e below (T354.setTop (mkF m 19 #[.val (.ref a0), .val (.ref a1), .val (.int (0 : Int32)), .val (.int (Int32.ofNat PT)), .val (.long (1 : Int64)), .second, .val (.int (-1 : Int32)), .unset, .unset] [])) _
    refine XS.iload X354.here hx rfl (hb hby d9_19) rfl ?_
    show Steps p.tables e below (T354.setTop (mkF m 21 #[.val (.ref a0), .val (.ref a1), .val (.int (0 : Int32)), .val (.int (Int32.ofNat PT)), .val (.long (1 : Int64)), .second, .val (.int (-1 : Int32)), .unset, .unset] [(.int (-1 : Int32))])) _
    refine XS.ifYes X354.here hx rfl (pc0 := 21) (pc' := 45) rfl (hb hby d9_21) rfl ((if0 _ _).trans (tlt (by decide : (-1 : Int32) < (0 : Int32))).1) (by decide) (by decide) ?_
    show Steps p.tables e below (T354.setTop (mkF m 45 #[.val (.ref a0), .val (.ref a1), .val (.int (0 : Int32)), .val (.int (Int32.ofNat PT)), .val (.long (1 : Int64)), .second, .val (.int (-1 : Int32)), .unset, .unset] [])) _
    refine XS.aloadN X354.here hx rfl (hb hby d9_45) rfl rfl ?_
    show Steps p.tables e below (T354.setTop (mkF m 46 #[.val (.ref a0), .val (.ref a1), .val (.int (0 : Int32)), .val (.int (Int32.ofNat PT)), .val (.long (1 : Int64)), .second, .val (.int (-1 : Int32)), .unset, .unset] [(.ref a1)])) _
    refine XS.iloadN X354.here hx rfl (hb hby d9_46) rfl ?_
    show Steps p.tables e below (T354.setTop (mkF m 47 #[.val (.ref a0), .val (.ref a1), .val (.int (0 : Int32)), .val (.int (Int32.ofNat PT)), .val (.long (1 : Int64)), .second, .val (.int (-1 : Int32)), .unset, .unset] [(.int (0 : Int32)), (.ref a1)])) _
    refine XS.iloadN X354.here hx rfl (hb hby d9_47) rfl ?_
    exact kt
  obtain ⟨_, _, ⟨T356, L356, k356, n356⟩, -, X356, ⟨Lc356, hQ356, l356, y356, z356⟩, st356⟩ := Jvm.LawKit.callS X354 hx (y := (⟨"com/example/long_walk/longwalk/EdgeListLine", "skipBlanks", "([BII)I"⟩ : MethodName)) hown (mvT hZ (hw _ (List.mem_of_getElem? (i := 44) rfl))) (mvT hZ (hw _ (List.mem_of_getElem? (i := 45) rfl))) (mvT hZ (hw _ (List.mem_of_getElem? (i := 21) rfl))) (mvT hZ (hw _ (List.mem_of_getElem? (i := 46) rfl))) (by decide) (backOf (W := 0) (rm10_0 l Z aZ hw [] a1 PT g h0 n0 Z0 pf8 (hP : own_pr PT g)) hZ (hw _ (List.mem_of_getElem? (i := 46) rfl)) (hw _ (List.mem_of_getElem? (i := 21) rfl)) (by decide) (by decide)) (g := (mkF m 48 #[.val (.ref a0), .val (.ref a1), .val (.int (0 : Int32)), .val (.int (Int32.ofNat PT)), .val (.long (1 : Int64)), .second, .val (.int (-1 : Int32)), .unset, .unset] [(.int (Int32.ofNat PT)), (.int (0 : Int32)), (.ref a1)])) rfl (by rw [hml]; rfl) (argsL := [(.ref a1), (.int (0 : Int32)), (.int (Int32.ofNat PT))]) (rest := []) (lenOf own_pd4 rfl) rfl (by show 2 * 0 + _ ≤ _; exact Nat.le_of_eq rfl) (hb hby d9_48) (fun _ _ => ⟨rfl, e354, (by decide : 0 + 0 ≤ _), (by decide : 0 + 0 ≤ _)⟩)
  dsimp only [Pt.U, Pt.locs, Pt.cells, Pt.slots] at X356 l356 y356 z356 st356 hQ356
  subst l356 y356 z356
  obtain ⟨rfl, N356q, e356⟩ := hQ356
  have N356 := Fr.app N354 N356q
  refine own_go (S' := T356.setTop (mkF m 51 #[.val (.ref a0), .val (.ref a1), .val (.int (0 : Int32)), .val (.int (Int32.ofNat PT)), .val (.long (1 : Int64)), .second, .val (.int (-1 : Int32)), .unset, .unset] [(.int (0 : Int32))])) st356 ?_
  refine own_go (S' := T356.setTop (mkF m 62 #[.val (.ref a0), .val (.ref a1), .val (.int (0 : Int32)), .val (.int (Int32.ofNat PT)), .val (.long (1 : Int64)), .second, .val (.int (-1 : Int32)), .val (.int (0 : Int32)), .unset] [(.int (0 : Int32)), (.ref a1)])) (fun target kt => ?_) ?_
  · skip
    show Steps p.tables e below (T356.setTop (mkF m 51 #[.val (.ref a0), .val (.ref a1), .val (.int (0 : Int32)), .val (.int (Int32.ofNat PT)), .val (.long (1 : Int64)), .second, .val (.int (-1 : Int32)), .unset, .unset] [(.int (0 : Int32))])) _
    refine XS.istore X356.here hx rfl (hb hby d9_51) rfl (l' := #[.val (.ref a0), .val (.ref a1), .val (.int (0 : Int32)), .val (.int (Int32.ofNat PT)), .val (.long (1 : Int64)), .second, .val (.int (-1 : Int32)), .val (.int (0 : Int32)), .unset]) rfl ?_
    show Steps p.tables e below (T356.setTop (mkF m 53 #[.val (.ref a0), .val (.ref a1), .val (.int (0 : Int32)), .val (.int (Int32.ofNat PT)), .val (.long (1 : Int64)), .second, .val (.int (-1 : Int32)), .val (.int (0 : Int32)), .unset] [])) _
    refine XS.iload X356.here hx rfl (hb hby d9_53) rfl ?_
    show Steps p.tables e below (T356.setTop (mkF m 55 #[.val (.ref a0), .val (.ref a1), .val (.int (0 : Int32)), .val (.int (Int32.ofNat PT)), .val (.long (1 : Int64)), .second, .val (.int (-1 : Int32)), .val (.int (0 : Int32)), .unset] [(.int (0 : Int32))])) _
    refine XS.iloadN X356.here hx rfl (hb hby d9_55) rfl ?_
    show Steps p.tables e below (T356.setTop (mkF m 56 #[.val (.ref a0), .val (.ref a1), .val (.int (0 : Int32)), .val (.int (Int32.ofNat PT)), .val (.long (1 : Int64)), .second, .val (.int (-1 : Int32)), .val (.int (0 : Int32)), .unset] [(.int (Int32.ofNat PT)), (.int (0 : Int32))])) _
    refine XS.icmpNo X356.here hx rfl (hb hby d9_56) rfl (feq (own_kne (by decide) ⟨hP.1, hP.2.1⟩ : ¬ ((0 : Int32) = (Int32.ofNat PT)))).1 ?_
    show Steps p.tables e below (T356.setTop (mkF m 59 #[.val (.ref a0), .val (.ref a1), .val (.int (0 : Int32)), .val (.int (Int32.ofNat PT)), .val (.long (1 : Int64)), .second, .val (.int (-1 : Int32)), .val (.int (0 : Int32)), .unset] [])) _
    refine XS.aloadN X356.here hx rfl (hb hby d9_59) rfl rfl ?_
    show Steps p.tables e below (T356.setTop (mkF m 60 #[.val (.ref a0), .val (.ref a1), .val (.int (0 : Int32)), .val (.int (Int32.ofNat PT)), .val (.long (1 : Int64)), .second, .val (.int (-1 : Int32)), .val (.int (0 : Int32)), .unset] [(.ref a1)])) _
    refine XS.iload X356.here hx rfl (hb hby d9_60) rfl ?_
    exact kt
  obtain ⟨c357, Ar357, S357, M357, H357⟩ := id pf8
  have hj357 : ¬ (0 : Int32) < 0 ∧ ((0 : Int32)).toNatClampNeg < 8 := ⟨by decide, by decide⟩
  have st357 : ∀ target, Steps p.tables e below (T356.setTop (mkF m 63 #[.val (.ref a0), .val (.ref a1), .val (.int (0 : Int32)), .val (.int (Int32.ofNat PT)), .val (.long (1 : Int64)), .second, .val (.int (-1 : Int32)), .val (.int (0 : Int32)), .unset] [(.int (g 0))])) target → Steps p.tables e below (T356.setTop (mkF m 62 #[.val (.ref a0), .val (.ref a1), .val (.int (0 : Int32)), .val (.int (Int32.ofNat PT)), .val (.long (1 : Int64)), .second, .val (.int (-1 : Int32)), .val (.int (0 : Int32)), .unset] [(.int (0 : Int32)), (.ref a1)])) target := fun target kt => X356.baloadBytes hx (j := (0 : Int32)) (v := (.int (g 0))) (by rw [e356]; exact Ar357.1) (State.isArrayOf_alike hZ.alike Ar357.2.1) Ar357.2.2 (own_in S357 hj357) (H357 _ hj357.2) (g := (mkF m 62 #[.val (.ref a0), .val (.ref a1), .val (.int (0 : Int32)), .val (.int (Int32.ofNat PT)), .val (.long (1 : Int64)), .second, .val (.int (-1 : Int32)), .val (.int (0 : Int32)), .unset] [(.int (0 : Int32)), (.ref a1)])) rfl rfl (hb hby d9_62) _ kt
  refine own_go (S' := T356.setTop (mkF m 63 #[.val (.ref a0), .val (.ref a1), .val (.int (0 : Int32)), .val (.int (Int32.ofNat PT)), .val (.long (1 : Int64)), .second, .val (.int (-1 : Int32)), .val (.int (0 : Int32)), .unset] [(.int (g 0))])) st357 ?_
  refine own_go (S' := T356.setTop (mkF m 75 #[.val (.ref a0), .val (.ref a1), .val (.int (0 : Int32)), .val (.int (Int32.ofNat PT)), .val (.long (1 : Int64)), .second, .val (.int (-1 : Int32)), .val (.int (0 : Int32)), .unset] [(.ref a0)])) (fun target kt => ?_) ?_
  · skip
    show Steps p.tables e below (T356.setTop (mkF m 63 #[.val (.ref a0), .val (.ref a1), .val (.int (0 : Int32)), .val (.int (Int32.ofNat PT)), .val (.long (1 : Int64)), .second, .val (.int (-1 : Int32)), .val (.int (0 : Int32)), .unset] [(.int (g 0))])) _
    refine XS.bipush X356.here hx rfl (hb hby d9_63) ?_
    show Steps p.tables e below (T356.setTop (mkF m 65 #[.val (.ref a0), .val (.ref a1), .val (.int (0 : Int32)), .val (.int (Int32.ofNat PT)), .val (.long (1 : Int64)), .second, .val (.int (-1 : Int32)), .val (.int (0 : Int32)), .unset] [(.int (35 : Int32)), (.int (g 0))])) _
    refine XS.icmpYes X356.here hx rfl (pc0 := 65) (pc' := 74) rfl (hb hby d9_65) rfl (feq (hP.2.2.1.2.2 : ¬ ((g 0) = (35 : Int32)))).2 (by decide) (by decide) ?_
    show Steps p.tables e below (T356.setTop (mkF m 74 #[.val (.ref a0), .val (.ref a1), .val (.int (0 : Int32)), .val (.int (Int32.ofNat PT)), .val (.long (1 : Int64)), .second, .val (.int (-1 : Int32)), .val (.int (0 : Int32)), .unset] [])) _
    refine XS.aloadN X356.here hx rfl (hb hby d9_74) rfl rfl ?_
    exact kt
  obtain ⟨T358, X358, e358, st358⟩ := getF X356 hx hZ hown (host := "") (Or.inl (hw _ (List.mem_of_getElem? (i := 33) rfl))) Via.refl e356 pf5 (g := (mkF m 75 #[.val (.ref a0), .val (.ref a1), .val (.int (0 : Int32)), .val (.int (Int32.ofNat PT)), .val (.long (1 : Int64)), .second, .val (.int (-1 : Int32)), .val (.int (0 : Int32)), .unset] [(.ref a0)])) rfl rfl (hb hby d9_75)
  refine own_go (S' := T358.setTop (mkF m 78 #[.val (.ref a0), .val (.ref a1), .val (.int (0 : Int32)), .val (.int (Int32.ofNat PT)), .val (.long (1 : Int64)), .second, .val (.int (-1 : Int32)), .val (.int (0 : Int32)), .unset] [(.int w1)])) st358 ?_
  refine own_go (S' := T358.setTop (mkF m 85 #[.val (.ref a0), .val (.ref a1), .val (.int (0 : Int32)), .val (.int (Int32.ofNat PT)), .val (.long (1 : Int64)), .second, .val (.int (-1 : Int32)), .val (.int (0 : Int32)), .unset] [(.ref a0), (.int (0 : Int32)), (.ref a0)])) (fun target kt => ?_) ?_
  · skip
    show Steps p.tables e below (T358.setTop (mkF m 78 #[.val (.ref a0), .val (.ref a1), .val (.int (0 : Int32)), .val (.int (Int32.ofNat PT)), .val (.long (1 : Int64)), .second, .val (.int (-1 : Int32)), .val (.int (0 : Int32)), .unset] [(.int w1)])) _
    refine XS.iloadN X358.here hx rfl (hb hby d9_78) rfl ?_
    show Steps p.tables e below (T358.setTop (mkF m 79 #[.val (.ref a0), .val (.ref a1), .val (.int (0 : Int32)), .val (.int (Int32.ofNat PT)), .val (.long (1 : Int64)), .second, .val (.int (-1 : Int32)), .val (.int (0 : Int32)), .unset] [(.int (Int32.ofNat PT)), (.int w1)])) _
    refine XS.icmpNo X358.here hx rfl (hb hby d9_79) rfl (tlt (hlt : w1 < (Int32.ofNat PT))).2.1 ?_
    show Steps p.tables e below (T358.setTop (mkF m 82 #[.val (.ref a0), .val (.ref a1), .val (.int (0 : Int32)), .val (.int (Int32.ofNat PT)), .val (.long (1 : Int64)), .second, .val (.int (-1 : Int32)), .val (.int (0 : Int32)), .unset] [])) _
    refine XS.aloadN X358.here hx rfl (hb hby d9_82) rfl rfl ?_
    show Steps p.tables e below (T358.setTop (mkF m 83 #[.val (.ref a0), .val (.ref a1), .val (.int (0 : Int32)), .val (.int (Int32.ofNat PT)), .val (.long (1 : Int64)), .second, .val (.int (-1 : Int32)), .val (.int (0 : Int32)), .unset] [(.ref a0)])) _
    refine XS.iloadN X358.here hx rfl (hb hby d9_83) rfl ?_
    show Steps p.tables e below (T358.setTop (mkF m 84 #[.val (.ref a0), .val (.ref a1), .val (.int (0 : Int32)), .val (.int (Int32.ofNat PT)), .val (.long (1 : Int64)), .second, .val (.int (-1 : Int32)), .val (.int (0 : Int32)), .unset] [(.int (0 : Int32)), (.ref a0)])) _
    refine XS.aloadN X358.here hx rfl (hb hby d9_84) rfl rfl ?_
    exact kt
  obtain ⟨T359, X359, e359, st359⟩ := getF X358 hx hZ hown (host := "") (Or.inl (hw _ (List.mem_of_getElem? (i := 33) rfl))) Via.refl e358 pf5 (g := (mkF m 85 #[.val (.ref a0), .val (.ref a1), .val (.int (0 : Int32)), .val (.int (Int32.ofNat PT)), .val (.long (1 : Int64)), .second, .val (.int (-1 : Int32)), .val (.int (0 : Int32)), .unset] [(.ref a0), (.int (0 : Int32)), (.ref a0)])) rfl rfl (hb hby d9_85)
  refine own_go (S' := T359.setTop (mkF m 88 #[.val (.ref a0), .val (.ref a1), .val (.int (0 : Int32)), .val (.int (Int32.ofNat PT)), .val (.long (1 : Int64)), .second, .val (.int (-1 : Int32)), .val (.int (0 : Int32)), .unset] [(.int w1), (.int (0 : Int32)), (.ref a0)])) st359 ?_
  refine own_go (S' := T359.setTop (mkF m 89 #[.val (.ref a0), .val (.ref a1), .val (.int (0 : Int32)), .val (.int (Int32.ofNat PT)), .val (.long (1 : Int64)), .second, .val (.int (-1 : Int32)), .val (.int (0 : Int32)), .unset] [(.ref a0), (.int w1), (.int (0 : Int32)), (.ref a0)])) (fun target kt => ?_) ?_
  · skip
    show Steps p.tables e below (T359.setTop (mkF m 88 #[.val (.ref a0), .val (.ref a1), .val (.int (0 : Int32)), .val (.int (Int32.ofNat PT)), .val (.long (1 : Int64)), .second, .val (.int (-1 : Int32)), .val (.int (0 : Int32)), .unset] [(.int w1), (.int (0 : Int32)), (.ref a0)])) _
    refine XS.aloadN X359.here hx rfl (hb hby d9_88) rfl rfl ?_
    exact kt
  obtain ⟨T360, X360, e360, st360⟩ := getF X359 hx hZ hown (host := "") (Or.inl (hw _ (List.mem_of_getElem? (i := 35) rfl))) Via.refl e359 pf6 (g := (mkF m 89 #[.val (.ref a0), .val (.ref a1), .val (.int (0 : Int32)), .val (.int (Int32.ofNat PT)), .val (.long (1 : Int64)), .second, .val (.int (-1 : Int32)), .val (.int (0 : Int32)), .unset] [(.ref a0), (.int w1), (.int (0 : Int32)), (.ref a0)])) rfl rfl (hb hby d9_89)
  refine own_go (S' := T360.setTop (mkF m 92 #[.val (.ref a0), .val (.ref a1), .val (.int (0 : Int32)), .val (.int (Int32.ofNat PT)), .val (.long (1 : Int64)), .second, .val (.int (-1 : Int32)), .val (.int (0 : Int32)), .unset] [(.int w2), (.int w1), (.int (0 : Int32)), (.ref a0)])) st360 ?_
  refine own_go (S' := T360.setTop (mkF m 93 #[.val (.ref a0), .val (.ref a1), .val (.int (0 : Int32)), .val (.int (Int32.ofNat PT)), .val (.long (1 : Int64)), .second, .val (.int (-1 : Int32)), .val (.int (0 : Int32)), .unset] [(.int (Int32.ofNat PT)), (.int w2), (.int w1), (.int (0 : Int32)), (.ref a0)])) (fun target kt => ?_) ?_
  · skip
    show Steps p.tables e below (T360.setTop (mkF m 92 #[.val (.ref a0), .val (.ref a1), .val (.int (0 : Int32)), .val (.int (Int32.ofNat PT)), .val (.long (1 : Int64)), .second, .val (.int (-1 : Int32)), .val (.int (0 : Int32)), .unset] [(.int w2), (.int w1), (.int (0 : Int32)), (.ref a0)])) _
    refine XS.iloadN X360.here hx rfl (hb hby d9_92) rfl ?_
    exact kt
  obtain ⟨_, _, ⟨T361, L361, k361, n361⟩, -, X361, ⟨Lc361, hQ361, l361, y361, z361⟩, st361⟩ := Jvm.LawKit.callS X360 hx (y := (⟨"java/lang/Math", "min", "(II)I"⟩ : MethodName)) hown (mvT hZ (hw _ (List.mem_of_getElem? (i := 47) rfl))) (mvT hZ (hw _ (List.mem_of_getElem? (i := 48) rfl))) (mvT hZ (hw _ (List.mem_of_getElem? (i := 8) rfl))) (mvT hZ (hw _ (List.mem_of_getElem? (i := 49) rfl))) (by decide) (backOf (W := 3) (rm11 l Z aZ hw [] w2 (Int32.ofNat PT) h0 n0 Z0 ) hZ (hw _ (List.mem_of_getElem? (i := 49) rfl)) (hw _ (List.mem_of_getElem? (i := 8) rfl)) (by decide) (by decide)) (g := (mkF m 93 #[.val (.ref a0), .val (.ref a1), .val (.int (0 : Int32)), .val (.int (Int32.ofNat PT)), .val (.long (1 : Int64)), .second, .val (.int (-1 : Int32)), .val (.int (0 : Int32)), .unset] [(.int (Int32.ofNat PT)), (.int w2), (.int w1), (.int (0 : Int32)), (.ref a0)])) rfl (by rw [hml]; rfl) (argsL := [(.int w2), (.int (Int32.ofNat PT))]) (rest := [(.int w1), (.int (0 : Int32)), (.ref a0)]) (lenOf own_pd0 rfl) rfl (by show 2 * 0 + _ ≤ _; exact Nat.le_of_eq rfl) (hb hby d9_93) (fun _ _ => ⟨rfl, e360, (by decide : 0 + 0 ≤ _), (by decide : 0 + 0 ≤ _)⟩)
  dsimp only [Pt.U, Pt.locs, Pt.cells, Pt.slots] at X361 l361 y361 z361 st361 hQ361
  subst l361 y361 z361
  obtain ⟨rfl, N361q, e361⟩ := hQ361
  have N361 := Fr.app N356 N361q
  refine own_go (S' := T361.setTop (mkF m 96 #[.val (.ref a0), .val (.ref a1), .val (.int (0 : Int32)), .val (.int (Int32.ofNat PT)), .val (.long (1 : Int64)), .second, .val (.int (-1 : Int32)), .val (.int (0 : Int32)), .unset] [(.int (own_min w2 (Int32.ofNat PT))), (.int w1), (.int (0 : Int32)), (.ref a0)])) st361 ?_
  refine own_go (S' := T361.setTop (mkF m 98 #[.val (.ref a0), .val (.ref a1), .val (.int (0 : Int32)), .val (.int (Int32.ofNat PT)), .val (.long (1 : Int64)), .second, .val (.int (-1 : Int32)), .val (.int (0 : Int32)), .unset] [(.long (1 : Int64)), (.int (own_min w2 (Int32.ofNat PT))), (.int w1), (.int (0 : Int32)), (.ref a0)])) (fun target kt => ?_) ?_
  · skip
    show Steps p.tables e below (T361.setTop (mkF m 96 #[.val (.ref a0), .val (.ref a1), .val (.int (0 : Int32)), .val (.int (Int32.ofNat PT)), .val (.long (1 : Int64)), .second, .val (.int (-1 : Int32)), .val (.int (0 : Int32)), .unset] [(.int (own_min w2 (Int32.ofNat PT))), (.int w1), (.int (0 : Int32)), (.ref a0)])) _
    refine XS.lload X361.here hx rfl (hb hby d9_96) rfl ?_
    exact kt
  obtain ⟨cq362, q362, q362'⟩ := pf0.cell
  obtain ⟨_, _, ⟨T362, L362, k362, n362⟩, -, X362, ⟨Lc362, hQ362, l362, y362, z362⟩, st362⟩ := X361.privateBack hx (y := (⟨"com/example/long_walk/longwalk/EdgeListLine", "readTabSeparated", "(IIIJ)V"⟩ : MethodName)) hown (mvT hZ (hw _ (List.mem_of_getElem? (i := 50) rfl))) (mvT hZ (hw _ (List.mem_of_getElem? (i := 51) rfl))) (own_selp (args := #[]) (mvT hZ (hw _ (List.mem_of_getElem? (i := 31) rfl))) rfl (Cond.privateMethod_at (mvP hZ (hw _ (List.mem_of_getElem? (i := 52) rfl)) (args := #[]))) (mvT hZ (hw _ (List.mem_of_getElem? (i := 51) rfl))) (by decide)) (Cond.privateMethod_at (mvP hZ (hw _ (List.mem_of_getElem? (i := 52) rfl)) (args := #[]))) (mvT hZ (hw _ (List.mem_of_getElem? (i := 53) rfl))) (by decide) (backOf (W := 0) (rm12 l Z aZ hw [] a0 (0 : Int32) w1 (own_min w2 (Int32.ofNat PT)) (1 : Int64) w1 w2 wa h0 n0 Z0 pf0 pf1 pf2 pf3 pf4 pf5 pf6 pf7 g_a0 (h1 : ¬ w1 = (0 : Int32)) (h2 : ¬ (own_min w2 (Int32.ofNat PT)) = (w1 + (1 : Int32)))) hZ (hw _ (List.mem_of_getElem? (i := 53) rfl)) (hw _ (List.mem_of_getElem? (i := 21) rfl)) (by decide) (by decide)) (g := (mkF m 98 #[.val (.ref a0), .val (.ref a1), .val (.int (0 : Int32)), .val (.int (Int32.ofNat PT)), .val (.long (1 : Int64)), .second, .val (.int (-1 : Int32)), .val (.int (0 : Int32)), .unset] [(.long (1 : Int64)), (.int (own_min w2 (Int32.ofNat PT))), (.int w1), (.int (0 : Int32)), (.ref a0)])) rfl (by rw [hml]; rfl) (Steps.refl _) (a := a0) (by rw [e361]; exact q362) q362' (argsL := [(.int (0 : Int32)), (.int w1), (.int (own_min w2 (Int32.ofNat PT))), (.long (1 : Int64))]) (rest := []) (lenOf own_pd5 rfl) rfl (by show 2 * 0 + _ ≤ _; exact Nat.le_of_eq rfl) (hb hby d9_98) (fun _ _ => ⟨rfl, e361, (by decide : 0 + 0 ≤ _), (by decide : 0 + 0 ≤ _)⟩)
  dsimp only [Pt.U, Pt.locs, Pt.cells, Pt.slots] at X362 l362 y362 z362 st362 hQ362
  subst l362 y362 z362
  obtain ⟨rfl, N362q, K362q, f362_0, f362_1, f362_2, f362_3, f362_4, f362_5, f362_6, f362_7⟩ := hQ362
  have N362 := Fr.app N361 N362q
  have f363 : Exa Z T362.heap a0 "com/example/long_walk/longwalk/EdgeListLine" := pf0.keep K362q
  have f364 : own_AI Z T362.heap a1 .byte 8 g := pf8.keep K362q (ninS (Ne.symm hne) nin0)
  have Z362 : n0 ≤ T362.heap.size := Nat.le_trans Z0 K362q.1
  have K362 : Keep h0 T362.heap [a0] := K0.trans K362q (allS (Or.inl (List.mem_of_getElem? (i := 0) rfl)) all0)
  refine own_go (S' := T362.setTop (mkF m 101 #[.val (.ref a0), .val (.ref a1), .val (.int (0 : Int32)), .val (.int (Int32.ofNat PT)), .val (.long (1 : Int64)), .second, .val (.int (-1 : Int32)), .val (.int (0 : Int32)), .unset] [])) (fun _ k => st362.trans k) ?_
  refine own_go (S' := T362.setTop (mkF m 122 #[.val (.ref a0), .val (.ref a1), .val (.int (0 : Int32)), .val (.int (Int32.ofNat PT)), .val (.long (1 : Int64)), .second, .val (.int (-1 : Int32)), .val (.int (0 : Int32)), .val (.int (1 : Int32))] [(.int (1 : Int32))])) (fun target kt => ?_) ?_
  · skip
    show Steps p.tables e below (T362.setTop (mkF m 101 #[.val (.ref a0), .val (.ref a1), .val (.int (0 : Int32)), .val (.int (Int32.ofNat PT)), .val (.long (1 : Int64)), .second, .val (.int (-1 : Int32)), .val (.int (0 : Int32)), .unset] [])) _
    refine XS.iconst X362.here hx rfl (hb hby d9_101) ?_
    show Steps p.tables e below (T362.setTop (mkF m 102 #[.val (.ref a0), .val (.ref a1), .val (.int (0 : Int32)), .val (.int (Int32.ofNat PT)), .val (.long (1 : Int64)), .second, .val (.int (-1 : Int32)), .val (.int (0 : Int32)), .unset] [(.int (1 : Int32))])) _
    refine XS.istore X362.here hx rfl (hb hby d9_102) rfl (l' := #[.val (.ref a0), .val (.ref a1), .val (.int (0 : Int32)), .val (.int (Int32.ofNat PT)), .val (.long (1 : Int64)), .second, .val (.int (-1 : Int32)), .val (.int (0 : Int32)), .val (.int (1 : Int32))]) rfl ?_
    show Steps p.tables e below (T362.setTop (mkF m 104 #[.val (.ref a0), .val (.ref a1), .val (.int (0 : Int32)), .val (.int (Int32.ofNat PT)), .val (.long (1 : Int64)), .second, .val (.int (-1 : Int32)), .val (.int (0 : Int32)), .val (.int (1 : Int32))] [])) _
    refine XS.goto X362.here hx rfl (pc0 := 104) (pc' := 120) rfl (hb hby d9_104) (by decide) (by decide) ?_
    show Steps p.tables e below (T362.setTop (mkF m 120 #[.val (.ref a0), .val (.ref a1), .val (.int (0 : Int32)), .val (.int (Int32.ofNat PT)), .val (.long (1 : Int64)), .second, .val (.int (-1 : Int32)), .val (.int (0 : Int32)), .val (.int (1 : Int32))] [])) _
    refine XS.iload X362.here hx rfl (hb hby d9_120) rfl ?_
    exact kt
  obtain ⟨fs, hr, hrun, hended, hW, hsame⟩ := X362.leave (v := some (.int (1 : Int32))) (fun h => by rw [Bd.returns] at h; cases h)
  refine ⟨_, _, ?_, hrun, hended, _, _, rfl, ?_, ⟨_, rfl⟩, hW, hsame.mono (by decide) (by decide)⟩
  · exact retN X362 hx (t := .boolean) Bd.returns (by simp) (hb hby d9_122) hr
  · show Q9_a Z a0 a1 PT g w1 w2 wa h0 n0 _ T362.heap _
    exact ⟨rfl, N362, K362, f362_0, f362_1, f362_2, f362_3, f362_4, f362_5, f362_6, f362_7⟩
set_option maxHeartbeats 40000000 in
theorem own_ef_rm9_b (m : MethodId) (x0 : Addr) (x1 : Addr) (x2 : Int32) (x3 : Int32) (x4 : Int64) : entryFrame m #[(.ref x0), (.ref x1), (.int x2), (.int x3), (.long x4)] 9 = mkF m 0 #[.val (.ref x0), .val (.ref x1), .val (.int x2), .val (.int x3), .val (.long x4), .second, .unset, .unset, .unset] [] := by first | (simp [entryFrame, mkF, argsToLocals, Value.category]; done) | rfl
def Q9_b (Z : State) (a0 : Addr) (a1 : Addr) (PT : Nat) (g : Nat → Int32) (w1 : Int32) (w2 : Int32) (wa : Int32) (h0 : Heap) (n0 : Nat) (v : Option Value) (h : Heap) (L : List Loc) : Prop := v = some (.int (1 : Int32)) ∧ Fr n0 L ∧ Keep h0 h [a0] ∧ Exa Z h a0 "com/example/long_walk/longwalk/EdgeListLine" ∧ Fld Z h a0 "com/example/long_walk/longwalk/EdgeListLine" "sourceStart" "I" (.int (0 : Int32)) ∧ Fld Z h a0 "com/example/long_walk/longwalk/EdgeListLine" "sourceEnd" "I" (.int (1 : Int32)) ∧ Fld Z h a0 "com/example/long_walk/longwalk/EdgeListLine" "targetStart" "I" (.int (3 : Int32)) ∧ Fld Z h a0 "com/example/long_walk/longwalk/EdgeListLine" "targetEnd" "I" (.int (Int32.ofNat PT)) ∧ Fld Z h a0 "com/example/long_walk/longwalk/EdgeListLine" "firstTab" "I" (.int w1) ∧ Fld Z h a0 "com/example/long_walk/longwalk/EdgeListLine" "secondTab" "I" (.int w2) ∧ Fld Z h a0 "com/example/long_walk/longwalk/EdgeListLine" "ascii" "Z" (.int wa)
set_option maxRecDepth 65536 in
set_option maxHeartbeats 40000000 in
theorem rm9_b (l : Launch) (Z : State) (aZ : Array Value) (hw : ∀ d ∈ tables_1, d.before aZ Z = true) (ws : List Jvm.Cond) (a0 : Addr) (a1 : Addr) (PT : Nat) (g : Nat → Int32) (w1 : Int32) (w2 : Int32) (wa : Int32) (h0 : Heap) (n0 : Nat) (Z0 : n0 ≤ h0.size) (pf0 : Exa Z h0 a0 "com/example/long_walk/longwalk/EdgeListLine") (pf1 : Fld Z h0 a0 "com/example/long_walk/longwalk/EdgeListLine" "sourceStart" "I" (.int (0 : Int32))) (pf2 : Fld Z h0 a0 "com/example/long_walk/longwalk/EdgeListLine" "sourceEnd" "I" (.int (0 : Int32))) (pf3 : Fld Z h0 a0 "com/example/long_walk/longwalk/EdgeListLine" "targetStart" "I" (.int (0 : Int32))) (pf4 : Fld Z h0 a0 "com/example/long_walk/longwalk/EdgeListLine" "targetEnd" "I" (.int (0 : Int32))) (pf5 : Fld Z h0 a0 "com/example/long_walk/longwalk/EdgeListLine" "firstTab" "I" (.int w1)) (pf6 : Fld Z h0 a0 "com/example/long_walk/longwalk/EdgeListLine" "secondTab" "I" (.int w2)) (pf7 : Fld Z h0 a0 "com/example/long_walk/longwalk/EdgeListLine" "ascii" "Z" (.int wa)) (pf8 : own_AI Z h0 a1 .byte 8 g) (g_a0 : n0 ≤ a0) (hP : own_pr PT g) (hng : wa = (0 : Int32) → ∀ j, j < 8 → ¬ (g j) < (0 : Int32)) (hne : a0 ≠ a1) (hlt : ¬ w1 < (Int32.ofNat PT)) :
    MetFree l (⟨"com/example/long_walk/longwalk/EdgeListLine", "readScanned", "([BIIJ)Z"⟩ : MethodName) (head1 (Jvm.Cond.code (⟨"com/example/long_walk/longwalk/EdgeListLine", "readScanned", "([BIIJ)Z"⟩ : MethodName) prog_7_method_4_code 9 (some .boolean) :: ws) ({ frames := 2, cells := 0, slots := 0, locals := 36 } : Room)) (fun a U => a = #[(.ref a0), (.ref a1), (.int (0 : Int32)), (.int (Int32.ofNat PT)), (.long (1 : Int64))] ∧ Z.Warmed39 U.vm ∧ U.heap = h0) (fun _ _ _ _ _ => True) (fun _ U o U' => ∃ v L, o = .returned v ∧ Q9_b Z a0 a1 PT g w1 w2 wa h0 n0 v U'.heap L ∧ FrameEnd U o U' L ({ frames := 2, cells := 0, slots := 0, locals := 36 } : Room).cells ({ frames := 2, cells := 0, slots := 0, locals := 36 } : Room).slots) := by
  refine MetFree.of_bodySF (plainFor_of_name own_pn3) hisR ?_
  intro p e s m args below meth c s₁ Bd hml0 hP hK
  obtain ⟨rfl, hZ, hh⟩ := hP
  have hx := Bd.exec
  have hby := Bd.bytes
  have hml : c.maxLocals = 9 := hml0
  have hown : s.vm.findClass "com/example/long_walk/longwalk/EdgeListLine" = some m.cls := findClass_of_methodNamed Bd.named
  have hnm := (name_of_methodNamed Bd.named Bd.method).1
  have X0 : Stand p l e ({ frames := 2, cells := 0, slots := 0, locals := 36 } : Room) s m #[(.ref a0), (.ref a1), (.int (0 : Int32)), (.int (Int32.ofNat PT)), (.long (1 : Int64))] below meth c s₁ [] 0 0 := Stand.of_body Bd
  have e0 : s₁.heap = h0 := by rw [← hh, Bd.state]; rfl
  have N0 := Fr.nil n0
  have K0 : Keep h0 h0 [a0] := Keep.refl h0 _
  refine own_go (S' := s₁.setTop (mkF m 0 #[.val (.ref a0), .val (.ref a1), .val (.int (0 : Int32)), .val (.int (Int32.ofNat PT)), .val (.long (1 : Int64)), .second, .unset, .unset, .unset] [])) (fun tt0 kk0 => castTop (own_ef_rm9_b m a0 a1 (0 : Int32) (Int32.ofNat PT) (1 : Int64)) kk0) ?_
  refine own_go (S' := s₁.setTop (mkF m 1 #[.val (.ref a0), .val (.ref a1), .val (.int (0 : Int32)), .val (.int (Int32.ofNat PT)), .val (.long (1 : Int64)), .second, .unset, .unset, .unset] [(.ref a0)])) (fun target kt => ?_) ?_
  · skip
    show Steps p.tables e below (s₁.setTop (mkF m 0 #[.val (.ref a0), .val (.ref a1), .val (.int (0 : Int32)), .val (.int (Int32.ofNat PT)), .val (.long (1 : Int64)), .second, .unset, .unset, .unset] [])) _
    refine XS.aloadN X0.here hx rfl (hb hby d9_0) rfl rfl ?_
    exact kt
  obtain ⟨T365, X365, e365, st365⟩ := getF X0 hx hZ hown (host := "") (Or.inl (hw _ (List.mem_of_getElem? (i := 37) rfl))) Via.refl e0 pf7 (g := (mkF m 1 #[.val (.ref a0), .val (.ref a1), .val (.int (0 : Int32)), .val (.int (Int32.ofNat PT)), .val (.long (1 : Int64)), .second, .unset, .unset, .unset] [(.ref a0)])) rfl rfl (hb hby d9_1)
  refine own_go (S' := T365.setTop (mkF m 4 #[.val (.ref a0), .val (.ref a1), .val (.int (0 : Int32)), .val (.int (Int32.ofNat PT)), .val (.long (1 : Int64)), .second, .unset, .unset, .unset] [(.int wa)])) st365 ?_
  obtain ⟨⟨T366, L366⟩, ⟨X366, e366, N366⟩, st366⟩ : ∃ x : State × List Loc, (Stand p l e ({ frames := 2, cells := 0, slots := 0, locals := 36 } : Room) s m #[(.ref a0), (.ref a1), (.int (0 : Int32)), (.int (Int32.ofNat PT)), (.long (1 : Int64))] below meth c x.1 x.2 0 0 ∧ x.1.heap = h0 ∧ Fr n0 x.2) ∧ ∀ target, Steps p.tables e below (x.1.setTop (mkF m 17 #[.val (.ref a0), .val (.ref a1), .val (.int (0 : Int32)), .val (.int (Int32.ofNat PT)), .val (.long (1 : Int64)), .second, .unset, .unset, .unset] [(.int (-1 : Int32))])) target → Steps p.tables e below (T365.setTop (mkF m 4 #[.val (.ref a0), .val (.ref a1), .val (.int (0 : Int32)), .val (.int (Int32.ofNat PT)), .val (.long (1 : Int64)), .second, .unset, .unset, .unset] [(.int wa)])) target := by
    by_cases hc4 : wa = (0 : Int32)
    · skip
      refine own_goR (S' := T365.setTop (mkF m 14 #[.val (.ref a0), .val (.ref a1), .val (.int (0 : Int32)), .val (.int (Int32.ofNat PT)), .val (.long (1 : Int64)), .second, .unset, .unset, .unset] [(.int (Int32.ofNat PT)), (.int (0 : Int32)), (.ref a1)])) (fun target kt => ?_) ?_
      · skip
        show Steps p.tables e below (T365.setTop (mkF m 4 #[.val (.ref a0), .val (.ref a1), .val (.int (0 : Int32)), .val (.int (Int32.ofNat PT)), .val (.long (1 : Int64)), .second, .unset, .unset, .unset] [(.int wa)])) _
        refine XS.ifYes X365.here hx rfl (pc0 := 4) (pc' := 11) rfl (hb hby d9_4) rfl ((if0 _ _).trans (teq hc4).1) (by decide) (by decide) ?_
        show Steps p.tables e below (T365.setTop (mkF m 11 #[.val (.ref a0), .val (.ref a1), .val (.int (0 : Int32)), .val (.int (Int32.ofNat PT)), .val (.long (1 : Int64)), .second, .unset, .unset, .unset] [])) _
        refine XS.aloadN X365.here hx rfl (hb hby d9_11) rfl rfl ?_
        show Steps p.tables e below (T365.setTop (mkF m 12 #[.val (.ref a0), .val (.ref a1), .val (.int (0 : Int32)), .val (.int (Int32.ofNat PT)), .val (.long (1 : Int64)), .second, .unset, .unset, .unset] [(.ref a1)])) _
        refine XS.iloadN X365.here hx rfl (hb hby d9_12) rfl ?_
        show Steps p.tables e below (T365.setTop (mkF m 13 #[.val (.ref a0), .val (.ref a1), .val (.int (0 : Int32)), .val (.int (Int32.ofNat PT)), .val (.long (1 : Int64)), .second, .unset, .unset, .unset] [(.int (0 : Int32)), (.ref a1)])) _
        refine XS.iloadN X365.here hx rfl (hb hby d9_13) rfl ?_
        exact kt
      obtain ⟨_, _, ⟨T367, L367, k367, n367⟩, -, X367, ⟨Lc367, hQ367, l367, y367, z367⟩, st367⟩ := Jvm.LawKit.callS X365 hx (y := (⟨"com/example/long_walk/longwalk/Utf8", "firstInvalid", "([BII)I"⟩ : MethodName)) hown (mvT hZ (hw _ (List.mem_of_getElem? (i := 91) rfl))) (mvT hZ (hw _ (List.mem_of_getElem? (i := 92) rfl))) (mvT hZ (hw _ (List.mem_of_getElem? (i := 93) rfl))) (mvT hZ (hw _ (List.mem_of_getElem? (i := 94) rfl))) (by decide) (backOf (W := 0) (rm19 l Z aZ hw [] a1 PT g h0 n0 Z0 pf8 (hP.2.1 : PT ≤ 8) (hng hc4 : ∀ j, j < 8 → ¬ (g j) < (0 : Int32))) hZ (hw _ (List.mem_of_getElem? (i := 94) rfl)) (hw _ (List.mem_of_getElem? (i := 93) rfl)) (by decide) (by decide)) (g := (mkF m 14 #[.val (.ref a0), .val (.ref a1), .val (.int (0 : Int32)), .val (.int (Int32.ofNat PT)), .val (.long (1 : Int64)), .second, .unset, .unset, .unset] [(.int (Int32.ofNat PT)), (.int (0 : Int32)), (.ref a1)])) rfl (by rw [hml]; rfl) (argsL := [(.ref a1), (.int (0 : Int32)), (.int (Int32.ofNat PT))]) (rest := []) (lenOf own_pd4 rfl) rfl (by show 2 * 0 + _ ≤ _; exact Nat.le_of_eq rfl) (hb hby d9_14) (fun _ _ => ⟨rfl, e365, (by decide : 0 + 0 ≤ _), (by decide : 0 + 0 ≤ _)⟩)
      dsimp only [Pt.U, Pt.locs, Pt.cells, Pt.slots] at X367 l367 y367 z367 st367 hQ367
      subst l367 y367 z367
      obtain ⟨rfl, N367q, e367⟩ := hQ367
      have N367 := Fr.app N0 N367q
      refine own_goR (S' := T367.setTop (mkF m 17 #[.val (.ref a0), .val (.ref a1), .val (.int (0 : Int32)), .val (.int (Int32.ofNat PT)), .val (.long (1 : Int64)), .second, .unset, .unset, .unset] [(.int (-1 : Int32))])) st367 ?_
      exact ⟨(T367, _), ⟨X367, e367, N367⟩, fun _ k => k⟩
    · skip
      refine own_goR (S' := T365.setTop (mkF m 17 #[.val (.ref a0), .val (.ref a1), .val (.int (0 : Int32)), .val (.int (Int32.ofNat PT)), .val (.long (1 : Int64)), .second, .unset, .unset, .unset] [(.int (-1 : Int32))])) (fun target kt => ?_) ?_
      · skip
        show Steps p.tables e below (T365.setTop (mkF m 4 #[.val (.ref a0), .val (.ref a1), .val (.int (0 : Int32)), .val (.int (Int32.ofNat PT)), .val (.long (1 : Int64)), .second, .unset, .unset, .unset] [(.int wa)])) _
        refine XS.ifNo X365.here hx rfl (hb hby d9_4) rfl ((if0 _ _).trans (feq hc4).1) ?_
        show Steps p.tables e below (T365.setTop (mkF m 7 #[.val (.ref a0), .val (.ref a1), .val (.int (0 : Int32)), .val (.int (Int32.ofNat PT)), .val (.long (1 : Int64)), .second, .unset, .unset, .unset] [])) _
        refine XS.iconst X365.here hx rfl (hb hby d9_7) ?_
        show Steps p.tables e below (T365.setTop (mkF m 8 #[.val (.ref a0), .val (.ref a1), .val (.int (0 : Int32)), .val (.int (Int32.ofNat PT)), .val (.long (1 : Int64)), .second, .unset, .unset, .unset] [(.int (-1 : Int32))])) _
        refine XS.goto X365.here hx rfl (pc0 := 8) (pc' := 17) rfl (hb hby d9_8) (by decide) (by decide) ?_
        exact kt
      exact ⟨(T365, _), ⟨X365, e365, N0⟩, fun _ k => k⟩
  dsimp only at X366 e366 N366  st366
  refine own_go (S' := T366.setTop (mkF m 17 #[.val (.ref a0), .val (.ref a1), .val (.int (0 : Int32)), .val (.int (Int32.ofNat PT)), .val (.long (1 : Int64)), .second, .unset, .unset, .unset] [(.int (-1 : Int32))])) st366 ?_
  refine own_go (S' := T366.setTop (mkF m 48 #[.val (.ref a0), .val (.ref a1), .val (.int (0 : Int32)), .val (.int (Int32.ofNat PT)), .val (.long (1 : Int64)), .second, .val (.int (-1 : Int32)), .unset, .unset] [(.int (Int32.ofNat PT)), (.int (0 : Int32)), (.ref a1)])) (fun target kt => ?_) ?_
  · skip
    show Steps p.tables e below (T366.setTop (mkF m 17 #[.val (.ref a0), .val (.ref a1), .val (.int (0 : Int32)), .val (.int (Int32.ofNat PT)), .val (.long (1 : Int64)), .second, .unset, .unset, .unset] [(.int (-1 : Int32))])) _
    refine XS.istore X366.here hx rfl (hb hby d9_17) rfl (l' := #[.val (.ref a0), .val (.ref a1), .val (.int (0 : Int32)), .val (.int (Int32.ofNat PT)), .val (.long (1 : Int64)), .second, .val (.int (-1 : Int32)), .unset, .unset]) rfl ?_
    show Steps p.tables e below (T366.setTop (mkF m 19 #[.val (.ref a0), .val (.ref a1), .val (.int (0 : Int32)), .val (.int (Int32.ofNat PT)), .val (.long (1 : Int64)), .second, .val (.int (-1 : Int32)), .unset, .unset] [])) _
    refine XS.iload X366.here hx rfl (hb hby d9_19) rfl ?_
    show Steps p.tables e below (T366.setTop (mkF m 21 #[.val (.ref a0), .val (.ref a1), .val (.int (0 : Int32)), .val (.int (Int32.ofNat PT)), .val (.long (1 : Int64)), .second, .val (.int (-1 : Int32)), .unset, .unset] [(.int (-1 : Int32))])) _
    refine XS.ifYes X366.here hx rfl (pc0 := 21) (pc' := 45) rfl (hb hby d9_21) rfl ((if0 _ _).trans (tlt (by decide : (-1 : Int32) < (0 : Int32))).1) (by decide) (by decide) ?_
    show Steps p.tables e below (T366.setTop (mkF m 45 #[.val (.ref a0), .val (.ref a1), .val (.int (0 : Int32)), .val (.int (Int32.ofNat PT)), .val (.long (1 : Int64)), .second, .val (.int (-1 : Int32)), .unset, .unset] [])) _
    refine XS.aloadN X366.here hx rfl (hb hby d9_45) rfl rfl ?_
    show Steps p.tables e below (T366.setTop (mkF m 46 #[.val (.ref a0), .val (.ref a1), .val (.int (0 : Int32)), .val (.int (Int32.ofNat PT)), .val (.long (1 : Int64)), .second, .val (.int (-1 : Int32)), .unset, .unset] [(.ref a1)])) _
    refine XS.iloadN X366.here hx rfl (hb hby d9_46) rfl ?_
    show Steps p.tables e below (T366.setTop (mkF m 47 #[.val (.ref a0), .val (.ref a1), .val (.int (0 : Int32)), .val (.int (Int32.ofNat PT)), .val (.long (1 : Int64)), .second, .val (.int (-1 : Int32)), .unset, .unset] [(.int (0 : Int32)), (.ref a1)])) _
    refine XS.iloadN X366.here hx rfl (hb hby d9_47) rfl ?_
    exact kt
  obtain ⟨_, _, ⟨T368, L368, k368, n368⟩, -, X368, ⟨Lc368, hQ368, l368, y368, z368⟩, st368⟩ := Jvm.LawKit.callS X366 hx (y := (⟨"com/example/long_walk/longwalk/EdgeListLine", "skipBlanks", "([BII)I"⟩ : MethodName)) hown (mvT hZ (hw _ (List.mem_of_getElem? (i := 44) rfl))) (mvT hZ (hw _ (List.mem_of_getElem? (i := 45) rfl))) (mvT hZ (hw _ (List.mem_of_getElem? (i := 21) rfl))) (mvT hZ (hw _ (List.mem_of_getElem? (i := 46) rfl))) (by decide) (backOf (W := 0) (rm10_0 l Z aZ hw [] a1 PT g h0 n0 Z0 pf8 (hP : own_pr PT g)) hZ (hw _ (List.mem_of_getElem? (i := 46) rfl)) (hw _ (List.mem_of_getElem? (i := 21) rfl)) (by decide) (by decide)) (g := (mkF m 48 #[.val (.ref a0), .val (.ref a1), .val (.int (0 : Int32)), .val (.int (Int32.ofNat PT)), .val (.long (1 : Int64)), .second, .val (.int (-1 : Int32)), .unset, .unset] [(.int (Int32.ofNat PT)), (.int (0 : Int32)), (.ref a1)])) rfl (by rw [hml]; rfl) (argsL := [(.ref a1), (.int (0 : Int32)), (.int (Int32.ofNat PT))]) (rest := []) (lenOf own_pd4 rfl) rfl (by show 2 * 0 + _ ≤ _; exact Nat.le_of_eq rfl) (hb hby d9_48) (fun _ _ => ⟨rfl, e366, (by decide : 0 + 0 ≤ _), (by decide : 0 + 0 ≤ _)⟩)
  dsimp only [Pt.U, Pt.locs, Pt.cells, Pt.slots] at X368 l368 y368 z368 st368 hQ368
  subst l368 y368 z368
  obtain ⟨rfl, N368q, e368⟩ := hQ368
  have N368 := Fr.app N366 N368q
  refine own_go (S' := T368.setTop (mkF m 51 #[.val (.ref a0), .val (.ref a1), .val (.int (0 : Int32)), .val (.int (Int32.ofNat PT)), .val (.long (1 : Int64)), .second, .val (.int (-1 : Int32)), .unset, .unset] [(.int (0 : Int32))])) st368 ?_
  refine own_go (S' := T368.setTop (mkF m 62 #[.val (.ref a0), .val (.ref a1), .val (.int (0 : Int32)), .val (.int (Int32.ofNat PT)), .val (.long (1 : Int64)), .second, .val (.int (-1 : Int32)), .val (.int (0 : Int32)), .unset] [(.int (0 : Int32)), (.ref a1)])) (fun target kt => ?_) ?_
  · skip
    show Steps p.tables e below (T368.setTop (mkF m 51 #[.val (.ref a0), .val (.ref a1), .val (.int (0 : Int32)), .val (.int (Int32.ofNat PT)), .val (.long (1 : Int64)), .second, .val (.int (-1 : Int32)), .unset, .unset] [(.int (0 : Int32))])) _
    refine XS.istore X368.here hx rfl (hb hby d9_51) rfl (l' := #[.val (.ref a0), .val (.ref a1), .val (.int (0 : Int32)), .val (.int (Int32.ofNat PT)), .val (.long (1 : Int64)), .second, .val (.int (-1 : Int32)), .val (.int (0 : Int32)), .unset]) rfl ?_
    show Steps p.tables e below (T368.setTop (mkF m 53 #[.val (.ref a0), .val (.ref a1), .val (.int (0 : Int32)), .val (.int (Int32.ofNat PT)), .val (.long (1 : Int64)), .second, .val (.int (-1 : Int32)), .val (.int (0 : Int32)), .unset] [])) _
    refine XS.iload X368.here hx rfl (hb hby d9_53) rfl ?_
    show Steps p.tables e below (T368.setTop (mkF m 55 #[.val (.ref a0), .val (.ref a1), .val (.int (0 : Int32)), .val (.int (Int32.ofNat PT)), .val (.long (1 : Int64)), .second, .val (.int (-1 : Int32)), .val (.int (0 : Int32)), .unset] [(.int (0 : Int32))])) _
    refine XS.iloadN X368.here hx rfl (hb hby d9_55) rfl ?_
    show Steps p.tables e below (T368.setTop (mkF m 56 #[.val (.ref a0), .val (.ref a1), .val (.int (0 : Int32)), .val (.int (Int32.ofNat PT)), .val (.long (1 : Int64)), .second, .val (.int (-1 : Int32)), .val (.int (0 : Int32)), .unset] [(.int (Int32.ofNat PT)), (.int (0 : Int32))])) _
    refine XS.icmpNo X368.here hx rfl (hb hby d9_56) rfl (feq (own_kne (by decide) ⟨hP.1, hP.2.1⟩ : ¬ ((0 : Int32) = (Int32.ofNat PT)))).1 ?_
    show Steps p.tables e below (T368.setTop (mkF m 59 #[.val (.ref a0), .val (.ref a1), .val (.int (0 : Int32)), .val (.int (Int32.ofNat PT)), .val (.long (1 : Int64)), .second, .val (.int (-1 : Int32)), .val (.int (0 : Int32)), .unset] [])) _
    refine XS.aloadN X368.here hx rfl (hb hby d9_59) rfl rfl ?_
    show Steps p.tables e below (T368.setTop (mkF m 60 #[.val (.ref a0), .val (.ref a1), .val (.int (0 : Int32)), .val (.int (Int32.ofNat PT)), .val (.long (1 : Int64)), .second, .val (.int (-1 : Int32)), .val (.int (0 : Int32)), .unset] [(.ref a1)])) _
    refine XS.iload X368.here hx rfl (hb hby d9_60) rfl ?_
    exact kt
  obtain ⟨c369, Ar369, S369, M369, H369⟩ := id pf8
  have hj369 : ¬ (0 : Int32) < 0 ∧ ((0 : Int32)).toNatClampNeg < 8 := ⟨by decide, by decide⟩
  have st369 : ∀ target, Steps p.tables e below (T368.setTop (mkF m 63 #[.val (.ref a0), .val (.ref a1), .val (.int (0 : Int32)), .val (.int (Int32.ofNat PT)), .val (.long (1 : Int64)), .second, .val (.int (-1 : Int32)), .val (.int (0 : Int32)), .unset] [(.int (g 0))])) target → Steps p.tables e below (T368.setTop (mkF m 62 #[.val (.ref a0), .val (.ref a1), .val (.int (0 : Int32)), .val (.int (Int32.ofNat PT)), .val (.long (1 : Int64)), .second, .val (.int (-1 : Int32)), .val (.int (0 : Int32)), .unset] [(.int (0 : Int32)), (.ref a1)])) target := fun target kt => X368.baloadBytes hx (j := (0 : Int32)) (v := (.int (g 0))) (by rw [e368]; exact Ar369.1) (State.isArrayOf_alike hZ.alike Ar369.2.1) Ar369.2.2 (own_in S369 hj369) (H369 _ hj369.2) (g := (mkF m 62 #[.val (.ref a0), .val (.ref a1), .val (.int (0 : Int32)), .val (.int (Int32.ofNat PT)), .val (.long (1 : Int64)), .second, .val (.int (-1 : Int32)), .val (.int (0 : Int32)), .unset] [(.int (0 : Int32)), (.ref a1)])) rfl rfl (hb hby d9_62) _ kt
  refine own_go (S' := T368.setTop (mkF m 63 #[.val (.ref a0), .val (.ref a1), .val (.int (0 : Int32)), .val (.int (Int32.ofNat PT)), .val (.long (1 : Int64)), .second, .val (.int (-1 : Int32)), .val (.int (0 : Int32)), .unset] [(.int (g 0))])) st369 ?_
  refine own_go (S' := T368.setTop (mkF m 75 #[.val (.ref a0), .val (.ref a1), .val (.int (0 : Int32)), .val (.int (Int32.ofNat PT)), .val (.long (1 : Int64)), .second, .val (.int (-1 : Int32)), .val (.int (0 : Int32)), .unset] [(.ref a0)])) (fun target kt => ?_) ?_
  · skip
    show Steps p.tables e below (T368.setTop (mkF m 63 #[.val (.ref a0), .val (.ref a1), .val (.int (0 : Int32)), .val (.int (Int32.ofNat PT)), .val (.long (1 : Int64)), .second, .val (.int (-1 : Int32)), .val (.int (0 : Int32)), .unset] [(.int (g 0))])) _
    refine XS.bipush X368.here hx rfl (hb hby d9_63) ?_
    show Steps p.tables e below (T368.setTop (mkF m 65 #[.val (.ref a0), .val (.ref a1), .val (.int (0 : Int32)), .val (.int (Int32.ofNat PT)), .val (.long (1 : Int64)), .second, .val (.int (-1 : Int32)), .val (.int (0 : Int32)), .unset] [(.int (35 : Int32)), (.int (g 0))])) _
    refine XS.icmpYes X368.here hx rfl (pc0 := 65) (pc' := 74) rfl (hb hby d9_65) rfl (feq (hP.2.2.1.2.2 : ¬ ((g 0) = (35 : Int32)))).2 (by decide) (by decide) ?_
    show Steps p.tables e below (T368.setTop (mkF m 74 #[.val (.ref a0), .val (.ref a1), .val (.int (0 : Int32)), .val (.int (Int32.ofNat PT)), .val (.long (1 : Int64)), .second, .val (.int (-1 : Int32)), .val (.int (0 : Int32)), .unset] [])) _
    refine XS.aloadN X368.here hx rfl (hb hby d9_74) rfl rfl ?_
    exact kt
  obtain ⟨T370, X370, e370, st370⟩ := getF X368 hx hZ hown (host := "") (Or.inl (hw _ (List.mem_of_getElem? (i := 33) rfl))) Via.refl e368 pf5 (g := (mkF m 75 #[.val (.ref a0), .val (.ref a1), .val (.int (0 : Int32)), .val (.int (Int32.ofNat PT)), .val (.long (1 : Int64)), .second, .val (.int (-1 : Int32)), .val (.int (0 : Int32)), .unset] [(.ref a0)])) rfl rfl (hb hby d9_75)
  refine own_go (S' := T370.setTop (mkF m 78 #[.val (.ref a0), .val (.ref a1), .val (.int (0 : Int32)), .val (.int (Int32.ofNat PT)), .val (.long (1 : Int64)), .second, .val (.int (-1 : Int32)), .val (.int (0 : Int32)), .unset] [(.int w1)])) st370 ?_
  refine own_go (S' := T370.setTop (mkF m 114 #[.val (.ref a0), .val (.ref a1), .val (.int (0 : Int32)), .val (.int (Int32.ofNat PT)), .val (.long (1 : Int64)), .second, .val (.int (-1 : Int32)), .val (.int (0 : Int32)), .unset] [(.long (1 : Int64)), (.int (Int32.ofNat PT)), (.int (0 : Int32)), (.ref a1), (.ref a0)])) (fun target kt => ?_) ?_
  · skip
    show Steps p.tables e below (T370.setTop (mkF m 78 #[.val (.ref a0), .val (.ref a1), .val (.int (0 : Int32)), .val (.int (Int32.ofNat PT)), .val (.long (1 : Int64)), .second, .val (.int (-1 : Int32)), .val (.int (0 : Int32)), .unset] [(.int w1)])) _
    refine XS.iloadN X370.here hx rfl (hb hby d9_78) rfl ?_
    show Steps p.tables e below (T370.setTop (mkF m 79 #[.val (.ref a0), .val (.ref a1), .val (.int (0 : Int32)), .val (.int (Int32.ofNat PT)), .val (.long (1 : Int64)), .second, .val (.int (-1 : Int32)), .val (.int (0 : Int32)), .unset] [(.int (Int32.ofNat PT)), (.int w1)])) _
    refine XS.icmpYes X370.here hx rfl (pc0 := 79) (pc' := 107) rfl (hb hby d9_79) rfl (flt (hlt : ¬ (w1 < (Int32.ofNat PT)))).2.1 (by decide) (by decide) ?_
    show Steps p.tables e below (T370.setTop (mkF m 107 #[.val (.ref a0), .val (.ref a1), .val (.int (0 : Int32)), .val (.int (Int32.ofNat PT)), .val (.long (1 : Int64)), .second, .val (.int (-1 : Int32)), .val (.int (0 : Int32)), .unset] [])) _
    refine XS.aloadN X370.here hx rfl (hb hby d9_107) rfl rfl ?_
    show Steps p.tables e below (T370.setTop (mkF m 108 #[.val (.ref a0), .val (.ref a1), .val (.int (0 : Int32)), .val (.int (Int32.ofNat PT)), .val (.long (1 : Int64)), .second, .val (.int (-1 : Int32)), .val (.int (0 : Int32)), .unset] [(.ref a0)])) _
    refine XS.aloadN X370.here hx rfl (hb hby d9_108) rfl rfl ?_
    show Steps p.tables e below (T370.setTop (mkF m 109 #[.val (.ref a0), .val (.ref a1), .val (.int (0 : Int32)), .val (.int (Int32.ofNat PT)), .val (.long (1 : Int64)), .second, .val (.int (-1 : Int32)), .val (.int (0 : Int32)), .unset] [(.ref a1), (.ref a0)])) _
    refine XS.iload X370.here hx rfl (hb hby d9_109) rfl ?_
    show Steps p.tables e below (T370.setTop (mkF m 111 #[.val (.ref a0), .val (.ref a1), .val (.int (0 : Int32)), .val (.int (Int32.ofNat PT)), .val (.long (1 : Int64)), .second, .val (.int (-1 : Int32)), .val (.int (0 : Int32)), .unset] [(.int (0 : Int32)), (.ref a1), (.ref a0)])) _
    refine XS.iloadN X370.here hx rfl (hb hby d9_111) rfl ?_
    show Steps p.tables e below (T370.setTop (mkF m 112 #[.val (.ref a0), .val (.ref a1), .val (.int (0 : Int32)), .val (.int (Int32.ofNat PT)), .val (.long (1 : Int64)), .second, .val (.int (-1 : Int32)), .val (.int (0 : Int32)), .unset] [(.int (Int32.ofNat PT)), (.int (0 : Int32)), (.ref a1), (.ref a0)])) _
    refine XS.lload X370.here hx rfl (hb hby d9_112) rfl ?_
    exact kt
  obtain ⟨cq371, q371, q371'⟩ := pf0.cell
  obtain ⟨_, _, ⟨T371, L371, k371, n371⟩, -, X371, ⟨Lc371, hQ371, l371, y371, z371⟩, st371⟩ := X370.privateBack hx (y := (⟨"com/example/long_walk/longwalk/EdgeListLine", "readSpaceSeparated", "([BIIJ)V"⟩ : MethodName)) hown (mvT hZ (hw _ (List.mem_of_getElem? (i := 83) rfl))) (mvT hZ (hw _ (List.mem_of_getElem? (i := 84) rfl))) (own_selp (args := #[]) (mvT hZ (hw _ (List.mem_of_getElem? (i := 31) rfl))) rfl (Cond.privateMethod_at (mvP hZ (hw _ (List.mem_of_getElem? (i := 85) rfl)) (args := #[]))) (mvT hZ (hw _ (List.mem_of_getElem? (i := 84) rfl))) (by decide)) (Cond.privateMethod_at (mvP hZ (hw _ (List.mem_of_getElem? (i := 85) rfl)) (args := #[]))) (mvT hZ (hw _ (List.mem_of_getElem? (i := 86) rfl))) (by decide) (backOf (W := 0) (rm17 l Z aZ hw [] a0 a1 PT g w1 w2 wa h0 n0 Z0 pf0 pf1 pf2 pf3 pf4 pf5 pf6 pf7 pf8 g_a0 (hP : own_pr PT g) (hne : a0 ≠ a1)) hZ (hw _ (List.mem_of_getElem? (i := 86) rfl)) (hw _ (List.mem_of_getElem? (i := 21) rfl)) (by decide) (by decide)) (g := (mkF m 114 #[.val (.ref a0), .val (.ref a1), .val (.int (0 : Int32)), .val (.int (Int32.ofNat PT)), .val (.long (1 : Int64)), .second, .val (.int (-1 : Int32)), .val (.int (0 : Int32)), .unset] [(.long (1 : Int64)), (.int (Int32.ofNat PT)), (.int (0 : Int32)), (.ref a1), (.ref a0)])) rfl (by rw [hml]; rfl) (Steps.refl _) (a := a0) (by rw [e370]; exact q371) q371' (argsL := [(.ref a1), (.int (0 : Int32)), (.int (Int32.ofNat PT)), (.long (1 : Int64))]) (rest := []) (lenOf own_pd6 rfl) rfl (by show 2 * 0 + _ ≤ _; exact Nat.le_of_eq rfl) (hb hby d9_114) (fun _ _ => ⟨rfl, e370, (by decide : 0 + 0 ≤ _), (by decide : 0 + 0 ≤ _)⟩)
  dsimp only [Pt.U, Pt.locs, Pt.cells, Pt.slots] at X371 l371 y371 z371 st371 hQ371
  subst l371 y371 z371
  obtain ⟨rfl, N371q, K371q, f371_0, f371_1, f371_2, f371_3, f371_4, f371_5, f371_6, f371_7⟩ := hQ371
  have N371 := Fr.app N368 N371q
  have f372 : Exa Z T371.heap a0 "com/example/long_walk/longwalk/EdgeListLine" := pf0.keep K371q
  have f373 : own_AI Z T371.heap a1 .byte 8 g := pf8.keep K371q (ninS (Ne.symm hne) nin0)
  have Z371 : n0 ≤ T371.heap.size := Nat.le_trans Z0 K371q.1
  have K371 : Keep h0 T371.heap [a0] := K0.trans K371q (allS (Or.inl (List.mem_of_getElem? (i := 0) rfl)) all0)
  refine own_go (S' := T371.setTop (mkF m 117 #[.val (.ref a0), .val (.ref a1), .val (.int (0 : Int32)), .val (.int (Int32.ofNat PT)), .val (.long (1 : Int64)), .second, .val (.int (-1 : Int32)), .val (.int (0 : Int32)), .unset] [])) (fun _ k => st371.trans k) ?_
  refine own_go (S' := T371.setTop (mkF m 122 #[.val (.ref a0), .val (.ref a1), .val (.int (0 : Int32)), .val (.int (Int32.ofNat PT)), .val (.long (1 : Int64)), .second, .val (.int (-1 : Int32)), .val (.int (0 : Int32)), .val (.int (1 : Int32))] [(.int (1 : Int32))])) (fun target kt => ?_) ?_
  · skip
    show Steps p.tables e below (T371.setTop (mkF m 117 #[.val (.ref a0), .val (.ref a1), .val (.int (0 : Int32)), .val (.int (Int32.ofNat PT)), .val (.long (1 : Int64)), .second, .val (.int (-1 : Int32)), .val (.int (0 : Int32)), .unset] [])) _
    refine XS.iconst X371.here hx rfl (hb hby d9_117) ?_
    show Steps p.tables e below (T371.setTop (mkF m 118 #[.val (.ref a0), .val (.ref a1), .val (.int (0 : Int32)), .val (.int (Int32.ofNat PT)), .val (.long (1 : Int64)), .second, .val (.int (-1 : Int32)), .val (.int (0 : Int32)), .unset] [(.int (1 : Int32))])) _
    refine XS.istore X371.here hx rfl (hb hby d9_118) rfl (l' := #[.val (.ref a0), .val (.ref a1), .val (.int (0 : Int32)), .val (.int (Int32.ofNat PT)), .val (.long (1 : Int64)), .second, .val (.int (-1 : Int32)), .val (.int (0 : Int32)), .val (.int (1 : Int32))]) rfl ?_
    show Steps p.tables e below (T371.setTop (mkF m 120 #[.val (.ref a0), .val (.ref a1), .val (.int (0 : Int32)), .val (.int (Int32.ofNat PT)), .val (.long (1 : Int64)), .second, .val (.int (-1 : Int32)), .val (.int (0 : Int32)), .val (.int (1 : Int32))] [])) _
    refine XS.iload X371.here hx rfl (hb hby d9_120) rfl ?_
    exact kt
  obtain ⟨fs, hr, hrun, hended, hW, hsame⟩ := X371.leave (v := some (.int (1 : Int32))) (fun h => by rw [Bd.returns] at h; cases h)
  refine ⟨_, _, ?_, hrun, hended, _, _, rfl, ?_, ⟨_, rfl⟩, hW, hsame.mono (by decide) (by decide)⟩
  · exact retN X371 hx (t := .boolean) Bd.returns (by simp) (hb hby d9_122) hr
  · show Q9_b Z a0 a1 PT g w1 w2 wa h0 n0 _ T371.heap _
    exact ⟨rfl, N371, K371, f371_0, f371_1, f371_2, f371_3, f371_4, f371_5, f371_6, f371_7⟩
theorem d13_0 : decode prog_7_method_5_code 0 = .ok (.aload_n 0, 1) := by decide +kernel
theorem d13_1 : decode prog_7_method_5_code 1 = .ok (.getfield 66, 3) := by decide +kernel
theorem d13_4 : decode prog_7_method_5_code 4 = .ok (.ireturn, 1) := by decide +kernel
set_option maxHeartbeats 40000000 in
theorem own_ef_rm13 (m : MethodId) (x0 : Addr) : entryFrame m #[(.ref x0)] 1 = mkF m 0 #[.val (.ref x0)] [] := by first | (simp [entryFrame, mkF, argsToLocals, Value.category]; done) | rfl
def Q13 (Z : State) (a0 : Addr) (w : Int32) (h0 : Heap) (n0 : Nat) (v : Option Value) (h : Heap) (L : List Loc) : Prop := v = some (.int w) ∧ Fr n0 L ∧ h = h0
set_option maxRecDepth 65536 in
set_option maxHeartbeats 40000000 in
theorem rm13 (l : Launch) (Z : State) (aZ : Array Value) (hw : ∀ d ∈ tables_1, d.before aZ Z = true) (ws : List Jvm.Cond) (a0 : Addr) (w : Int32) (h0 : Heap) (n0 : Nat) (Z0 : n0 ≤ h0.size) (pf0 : Fld Z h0 a0 "com/example/long_walk/longwalk/EdgeListLine" "sourceStart" "I" (.int w)) :
    MetFree l (⟨"com/example/long_walk/longwalk/EdgeListLine", "sourceStart", "()I"⟩ : MethodName) (head1 (Jvm.Cond.code (⟨"com/example/long_walk/longwalk/EdgeListLine", "sourceStart", "()I"⟩ : MethodName) prog_7_method_5_code 1 (some .int) :: ws) ({ frames := 0, cells := 0, slots := 0, locals := 0 } : Room)) (fun a U => a = #[(.ref a0)] ∧ Z.Warmed39 U.vm ∧ U.heap = h0) (fun _ _ _ _ _ => True) (fun _ U o U' => ∃ v L, o = .returned v ∧ Q13 Z a0 w h0 n0 v U'.heap L ∧ FrameEnd U o U' L ({ frames := 0, cells := 0, slots := 0, locals := 0 } : Room).cells ({ frames := 0, cells := 0, slots := 0, locals := 0 } : Room).slots) := by
  refine MetFree.of_bodySF (plainFor_of_name own_pn3) hisR ?_
  intro p e s m args below meth c s₁ Bd hml0 hP hK
  obtain ⟨rfl, hZ, hh⟩ := hP
  have hx := Bd.exec
  have hby := Bd.bytes
  have hml : c.maxLocals = 1 := hml0
  have hown : s.vm.findClass "com/example/long_walk/longwalk/EdgeListLine" = some m.cls := findClass_of_methodNamed Bd.named
  have hnm := (name_of_methodNamed Bd.named Bd.method).1
  have X0 : Stand p l e ({ frames := 0, cells := 0, slots := 0, locals := 0 } : Room) s m #[(.ref a0)] below meth c s₁ [] 0 0 := Stand.of_body Bd
  have e0 : s₁.heap = h0 := by rw [← hh, Bd.state]; rfl
  have N0 := Fr.nil n0
  refine own_go (S' := s₁.setTop (mkF m 0 #[.val (.ref a0)] [])) (fun tt0 kk0 => castTop (own_ef_rm13 m a0) kk0) ?_
  refine own_go (S' := s₁.setTop (mkF m 1 #[.val (.ref a0)] [(.ref a0)])) (fun target kt => ?_) ?_
  · skip
    show Steps p.tables e below (s₁.setTop (mkF m 0 #[.val (.ref a0)] [])) _
    refine XS.aloadN X0.here hx rfl (hb hby d13_0) rfl rfl ?_
    exact kt
  obtain ⟨T374, X374, e374, st374⟩ := getF X0 hx hZ hown (host := "") (Or.inl (hw _ (List.mem_of_getElem? (i := 54) rfl))) Via.refl e0 pf0 (g := (mkF m 1 #[.val (.ref a0)] [(.ref a0)])) rfl rfl (hb hby d13_1)
  refine own_go (S' := T374.setTop (mkF m 4 #[.val (.ref a0)] [(.int w)])) st374 ?_
  obtain ⟨fs, hr, hrun, hended, hW, hsame⟩ := X374.leave (v := some (.int w)) (fun h => by rw [Bd.returns] at h; cases h)
  refine ⟨_, _, ?_, hrun, hended, _, _, rfl, ?_, ⟨_, rfl⟩, hW, hsame.mono (by decide) (by decide)⟩
  · exact retI X374 hx Bd.returns (hb hby d13_4) hr
  · show Q13 Z a0 w h0 n0 _ T374.heap _
    rw [e374]
    exact ⟨rfl, N0, rfl⟩
theorem d14_0 : decode prog_7_method_6_code 0 = .ok (.aload_n 0, 1) := by decide +kernel
theorem d14_1 : decode prog_7_method_6_code 1 = .ok (.getfield 69, 3) := by decide +kernel
theorem d14_4 : decode prog_7_method_6_code 4 = .ok (.ireturn, 1) := by decide +kernel
set_option maxHeartbeats 40000000 in
theorem own_ef_rm14 (m : MethodId) (x0 : Addr) : entryFrame m #[(.ref x0)] 1 = mkF m 0 #[.val (.ref x0)] [] := by first | (simp [entryFrame, mkF, argsToLocals, Value.category]; done) | rfl
def Q14 (Z : State) (a0 : Addr) (w : Int32) (h0 : Heap) (n0 : Nat) (v : Option Value) (h : Heap) (L : List Loc) : Prop := v = some (.int w) ∧ Fr n0 L ∧ h = h0
set_option maxRecDepth 65536 in
set_option maxHeartbeats 40000000 in
theorem rm14 (l : Launch) (Z : State) (aZ : Array Value) (hw : ∀ d ∈ tables_1, d.before aZ Z = true) (ws : List Jvm.Cond) (a0 : Addr) (w : Int32) (h0 : Heap) (n0 : Nat) (Z0 : n0 ≤ h0.size) (pf0 : Fld Z h0 a0 "com/example/long_walk/longwalk/EdgeListLine" "sourceEnd" "I" (.int w)) :
    MetFree l (⟨"com/example/long_walk/longwalk/EdgeListLine", "sourceEnd", "()I"⟩ : MethodName) (head1 (Jvm.Cond.code (⟨"com/example/long_walk/longwalk/EdgeListLine", "sourceEnd", "()I"⟩ : MethodName) prog_7_method_6_code 1 (some .int) :: ws) ({ frames := 0, cells := 0, slots := 0, locals := 0 } : Room)) (fun a U => a = #[(.ref a0)] ∧ Z.Warmed39 U.vm ∧ U.heap = h0) (fun _ _ _ _ _ => True) (fun _ U o U' => ∃ v L, o = .returned v ∧ Q14 Z a0 w h0 n0 v U'.heap L ∧ FrameEnd U o U' L ({ frames := 0, cells := 0, slots := 0, locals := 0 } : Room).cells ({ frames := 0, cells := 0, slots := 0, locals := 0 } : Room).slots) := by
  refine MetFree.of_bodySF (plainFor_of_name own_pn3) hisR ?_
  intro p e s m args below meth c s₁ Bd hml0 hP hK
  obtain ⟨rfl, hZ, hh⟩ := hP
  have hx := Bd.exec
  have hby := Bd.bytes
  have hml : c.maxLocals = 1 := hml0
  have hown : s.vm.findClass "com/example/long_walk/longwalk/EdgeListLine" = some m.cls := findClass_of_methodNamed Bd.named
  have hnm := (name_of_methodNamed Bd.named Bd.method).1
  have X0 : Stand p l e ({ frames := 0, cells := 0, slots := 0, locals := 0 } : Room) s m #[(.ref a0)] below meth c s₁ [] 0 0 := Stand.of_body Bd
  have e0 : s₁.heap = h0 := by rw [← hh, Bd.state]; rfl
  have N0 := Fr.nil n0
  refine own_go (S' := s₁.setTop (mkF m 0 #[.val (.ref a0)] [])) (fun tt0 kk0 => castTop (own_ef_rm14 m a0) kk0) ?_
  refine own_go (S' := s₁.setTop (mkF m 1 #[.val (.ref a0)] [(.ref a0)])) (fun target kt => ?_) ?_
  · skip
    show Steps p.tables e below (s₁.setTop (mkF m 0 #[.val (.ref a0)] [])) _
    refine XS.aloadN X0.here hx rfl (hb hby d14_0) rfl rfl ?_
    exact kt
  obtain ⟨T375, X375, e375, st375⟩ := getF X0 hx hZ hown (host := "") (Or.inl (hw _ (List.mem_of_getElem? (i := 56) rfl))) Via.refl e0 pf0 (g := (mkF m 1 #[.val (.ref a0)] [(.ref a0)])) rfl rfl (hb hby d14_1)
  refine own_go (S' := T375.setTop (mkF m 4 #[.val (.ref a0)] [(.int w)])) st375 ?_
  obtain ⟨fs, hr, hrun, hended, hW, hsame⟩ := X375.leave (v := some (.int w)) (fun h => by rw [Bd.returns] at h; cases h)
  refine ⟨_, _, ?_, hrun, hended, _, _, rfl, ?_, ⟨_, rfl⟩, hW, hsame.mono (by decide) (by decide)⟩
  · exact retI X375 hx Bd.returns (hb hby d14_4) hr
  · show Q14 Z a0 w h0 n0 _ T375.heap _
    rw [e375]
    exact ⟨rfl, N0, rfl⟩
theorem d15_0 : decode prog_7_method_7_code 0 = .ok (.aload_n 0, 1) := by decide +kernel
theorem d15_1 : decode prog_7_method_7_code 1 = .ok (.getfield 72, 3) := by decide +kernel
theorem d15_4 : decode prog_7_method_7_code 4 = .ok (.ireturn, 1) := by decide +kernel
set_option maxHeartbeats 40000000 in
theorem own_ef_rm15 (m : MethodId) (x0 : Addr) : entryFrame m #[(.ref x0)] 1 = mkF m 0 #[.val (.ref x0)] [] := by first | (simp [entryFrame, mkF, argsToLocals, Value.category]; done) | rfl
def Q15 (Z : State) (a0 : Addr) (w : Int32) (h0 : Heap) (n0 : Nat) (v : Option Value) (h : Heap) (L : List Loc) : Prop := v = some (.int w) ∧ Fr n0 L ∧ h = h0
set_option maxRecDepth 65536 in
set_option maxHeartbeats 40000000 in
theorem rm15 (l : Launch) (Z : State) (aZ : Array Value) (hw : ∀ d ∈ tables_1, d.before aZ Z = true) (ws : List Jvm.Cond) (a0 : Addr) (w : Int32) (h0 : Heap) (n0 : Nat) (Z0 : n0 ≤ h0.size) (pf0 : Fld Z h0 a0 "com/example/long_walk/longwalk/EdgeListLine" "targetStart" "I" (.int w)) :
    MetFree l (⟨"com/example/long_walk/longwalk/EdgeListLine", "targetStart", "()I"⟩ : MethodName) (head1 (Jvm.Cond.code (⟨"com/example/long_walk/longwalk/EdgeListLine", "targetStart", "()I"⟩ : MethodName) prog_7_method_7_code 1 (some .int) :: ws) ({ frames := 0, cells := 0, slots := 0, locals := 0 } : Room)) (fun a U => a = #[(.ref a0)] ∧ Z.Warmed39 U.vm ∧ U.heap = h0) (fun _ _ _ _ _ => True) (fun _ U o U' => ∃ v L, o = .returned v ∧ Q15 Z a0 w h0 n0 v U'.heap L ∧ FrameEnd U o U' L ({ frames := 0, cells := 0, slots := 0, locals := 0 } : Room).cells ({ frames := 0, cells := 0, slots := 0, locals := 0 } : Room).slots) := by
  refine MetFree.of_bodySF (plainFor_of_name own_pn3) hisR ?_
  intro p e s m args below meth c s₁ Bd hml0 hP hK
  obtain ⟨rfl, hZ, hh⟩ := hP
  have hx := Bd.exec
  have hby := Bd.bytes
  have hml : c.maxLocals = 1 := hml0
  have hown : s.vm.findClass "com/example/long_walk/longwalk/EdgeListLine" = some m.cls := findClass_of_methodNamed Bd.named
  have hnm := (name_of_methodNamed Bd.named Bd.method).1
  have X0 : Stand p l e ({ frames := 0, cells := 0, slots := 0, locals := 0 } : Room) s m #[(.ref a0)] below meth c s₁ [] 0 0 := Stand.of_body Bd
  have e0 : s₁.heap = h0 := by rw [← hh, Bd.state]; rfl
  have N0 := Fr.nil n0
  refine own_go (S' := s₁.setTop (mkF m 0 #[.val (.ref a0)] [])) (fun tt0 kk0 => castTop (own_ef_rm15 m a0) kk0) ?_
  refine own_go (S' := s₁.setTop (mkF m 1 #[.val (.ref a0)] [(.ref a0)])) (fun target kt => ?_) ?_
  · skip
    show Steps p.tables e below (s₁.setTop (mkF m 0 #[.val (.ref a0)] [])) _
    refine XS.aloadN X0.here hx rfl (hb hby d15_0) rfl rfl ?_
    exact kt
  obtain ⟨T376, X376, e376, st376⟩ := getF X0 hx hZ hown (host := "") (Or.inl (hw _ (List.mem_of_getElem? (i := 58) rfl))) Via.refl e0 pf0 (g := (mkF m 1 #[.val (.ref a0)] [(.ref a0)])) rfl rfl (hb hby d15_1)
  refine own_go (S' := T376.setTop (mkF m 4 #[.val (.ref a0)] [(.int w)])) st376 ?_
  obtain ⟨fs, hr, hrun, hended, hW, hsame⟩ := X376.leave (v := some (.int w)) (fun h => by rw [Bd.returns] at h; cases h)
  refine ⟨_, _, ?_, hrun, hended, _, _, rfl, ?_, ⟨_, rfl⟩, hW, hsame.mono (by decide) (by decide)⟩
  · exact retI X376 hx Bd.returns (hb hby d15_4) hr
  · show Q15 Z a0 w h0 n0 _ T376.heap _
    rw [e376]
    exact ⟨rfl, N0, rfl⟩
theorem d16_0 : decode prog_7_method_8_code 0 = .ok (.aload_n 0, 1) := by decide +kernel
theorem d16_1 : decode prog_7_method_8_code 1 = .ok (.getfield 75, 3) := by decide +kernel
theorem d16_4 : decode prog_7_method_8_code 4 = .ok (.ireturn, 1) := by decide +kernel
set_option maxHeartbeats 40000000 in
theorem own_ef_rm16 (m : MethodId) (x0 : Addr) : entryFrame m #[(.ref x0)] 1 = mkF m 0 #[.val (.ref x0)] [] := by first | (simp [entryFrame, mkF, argsToLocals, Value.category]; done) | rfl
def Q16 (Z : State) (a0 : Addr) (w : Int32) (h0 : Heap) (n0 : Nat) (v : Option Value) (h : Heap) (L : List Loc) : Prop := v = some (.int w) ∧ Fr n0 L ∧ h = h0
set_option maxRecDepth 65536 in
set_option maxHeartbeats 40000000 in
theorem rm16 (l : Launch) (Z : State) (aZ : Array Value) (hw : ∀ d ∈ tables_1, d.before aZ Z = true) (ws : List Jvm.Cond) (a0 : Addr) (w : Int32) (h0 : Heap) (n0 : Nat) (Z0 : n0 ≤ h0.size) (pf0 : Fld Z h0 a0 "com/example/long_walk/longwalk/EdgeListLine" "targetEnd" "I" (.int w)) :
    MetFree l (⟨"com/example/long_walk/longwalk/EdgeListLine", "targetEnd", "()I"⟩ : MethodName) (head1 (Jvm.Cond.code (⟨"com/example/long_walk/longwalk/EdgeListLine", "targetEnd", "()I"⟩ : MethodName) prog_7_method_8_code 1 (some .int) :: ws) ({ frames := 0, cells := 0, slots := 0, locals := 0 } : Room)) (fun a U => a = #[(.ref a0)] ∧ Z.Warmed39 U.vm ∧ U.heap = h0) (fun _ _ _ _ _ => True) (fun _ U o U' => ∃ v L, o = .returned v ∧ Q16 Z a0 w h0 n0 v U'.heap L ∧ FrameEnd U o U' L ({ frames := 0, cells := 0, slots := 0, locals := 0 } : Room).cells ({ frames := 0, cells := 0, slots := 0, locals := 0 } : Room).slots) := by
  refine MetFree.of_bodySF (plainFor_of_name own_pn3) hisR ?_
  intro p e s m args below meth c s₁ Bd hml0 hP hK
  obtain ⟨rfl, hZ, hh⟩ := hP
  have hx := Bd.exec
  have hby := Bd.bytes
  have hml : c.maxLocals = 1 := hml0
  have hown : s.vm.findClass "com/example/long_walk/longwalk/EdgeListLine" = some m.cls := findClass_of_methodNamed Bd.named
  have hnm := (name_of_methodNamed Bd.named Bd.method).1
  have X0 : Stand p l e ({ frames := 0, cells := 0, slots := 0, locals := 0 } : Room) s m #[(.ref a0)] below meth c s₁ [] 0 0 := Stand.of_body Bd
  have e0 : s₁.heap = h0 := by rw [← hh, Bd.state]; rfl
  have N0 := Fr.nil n0
  refine own_go (S' := s₁.setTop (mkF m 0 #[.val (.ref a0)] [])) (fun tt0 kk0 => castTop (own_ef_rm16 m a0) kk0) ?_
  refine own_go (S' := s₁.setTop (mkF m 1 #[.val (.ref a0)] [(.ref a0)])) (fun target kt => ?_) ?_
  · skip
    show Steps p.tables e below (s₁.setTop (mkF m 0 #[.val (.ref a0)] [])) _
    refine XS.aloadN X0.here hx rfl (hb hby d16_0) rfl rfl ?_
    exact kt
  obtain ⟨T377, X377, e377, st377⟩ := getF X0 hx hZ hown (host := "") (Or.inl (hw _ (List.mem_of_getElem? (i := 60) rfl))) Via.refl e0 pf0 (g := (mkF m 1 #[.val (.ref a0)] [(.ref a0)])) rfl rfl (hb hby d16_1)
  refine own_go (S' := T377.setTop (mkF m 4 #[.val (.ref a0)] [(.int w)])) st377 ?_
  obtain ⟨fs, hr, hrun, hended, hW, hsame⟩ := X377.leave (v := some (.int w)) (fun h => by rw [Bd.returns] at h; cases h)
  refine ⟨_, _, ?_, hrun, hended, _, _, rfl, ?_, ⟨_, rfl⟩, hW, hsame.mono (by decide) (by decide)⟩
  · exact retI X377 hx Bd.returns (hb hby d16_4) hr
  · show Q16 Z a0 w h0 n0 _ T377.heap _
    rw [e377]
    exact ⟨rfl, N0, rfl⟩
-- THE PLAIN LAW
/-- the first place from i on, of k, that holds v; else the place behind -/
def own_fi (g : Nat → Int32) (v : Int32) : Nat → Nat → Nat
  | 0, i => i
  | k + 1, i => if g i = v then i else own_fi g v k (i + 1)
theorem own_fi_lo (g : Nat → Int32) (v : Int32) : ∀ k i, i ≤ own_fi g v k i ∧ own_fi g v k i ≤ i + k
  | 0, i => ⟨Nat.le_refl _, Nat.le_refl _⟩
  | k + 1, i => by
    rw [own_fi]
    split
    · omega
    · have := own_fi_lo g v k (i + 1); omega
theorem own_fi_at (g : Nat → Int32) (v : Int32) : ∀ k i j, i ≤ j → j < i + k → g j = v → (∀ l, i ≤ l → l < j → ¬ g l = v) → own_fi g v k i = j
  | 0, i, j, h1, h2, _, _ => by omega
  | k + 1, i, j, h1, h2, h3, h4 => by
    rw [own_fi]
    by_cases q : i = j
    · subst q; rw [if_pos h3]
    · rw [if_neg (h4 i (by omega) (by omega)), own_fi_at g v k (i + 1) j (by omega) (by omega) h3 (fun l a b => h4 l (by omega) b)]
theorem own_fi_no (g : Nat → Int32) (v : Int32) : ∀ k i, (∀ l, i ≤ l → l < i + k → ¬ g l = v) → own_fi g v k i = i + k
  | 0, i, _ => rfl
  | k + 1, i, h => by rw [own_fi, if_neg (h i (by omega) (by omega)), own_fi_no g v k (i + 1) (fun l a b => h l (by omega) (by omega))]; omega
theorem own_ltn {i j : Nat} (hi : i ≤ 1000) (hj : j ≤ 1000) : (Int32.ofNat i < Int32.ofNat j) ↔ i < j := by rw [Int32.lt_iff_toInt_lt, own_ofn hi, own_ofn hj]; omega
theorem own_hitp {g : Nat → Int32} {s e p : Nat} {v : Int32} (hp : p < 8) (hs : s ≤ 10) (he : e ≤ 8) : own_hit (Int32.ofNat p) (Int32.ofNat s) (Int32.ofNat e) v g = (if s ≤ p ∧ p < e ∧ g p = v then (1 : Int32) else (0 : Int32)) := by
  unfold own_hit
  rw [own_clamp (show p ≤ 1000 by omega)]
  by_cases c1 : Int32.ofNat p < Int32.ofNat s
  · have q := (own_ltn (by omega) (by omega)).mp c1
    rw [if_pos c1, if_neg (by omega)]
  · have q := mt (own_ltn (by omega) (by omega)).mpr c1
    rw [if_neg c1]
    by_cases c2 : Int32.ofNat p < Int32.ofNat e
    · have q2 := (own_ltn (by omega) (by omega)).mp c2
      rw [if_pos c2]
      by_cases c3 : g p = v
      · rw [if_pos c3, if_pos ⟨by omega, q2, c3⟩]
      · rw [if_neg c3, if_neg (fun h => c3 h.2.2)]
    · have q2 := mt (own_ltn (by omega) (by omega)).mpr c2
      rw [if_neg c2, if_neg (fun h => q2 h.2.1)]
theorem own_negp {g : Nat → Int32} {s e p : Nat} (hp : p < 8) (hs : s ≤ 10) (he : e ≤ 8) : own_neg (Int32.ofNat p) (Int32.ofNat s) (Int32.ofNat e) g = (if s ≤ p ∧ p < e ∧ g p < (0 : Int32) then (1 : Int32) else (0 : Int32)) := by
  unfold own_neg
  rw [own_clamp (show p ≤ 1000 by omega)]
  by_cases c1 : Int32.ofNat p < Int32.ofNat s
  · have q := (own_ltn (by omega) (by omega)).mp c1
    rw [if_pos c1, if_neg (by omega)]
  · have q := mt (own_ltn (by omega) (by omega)).mpr c1
    rw [if_neg c1]
    by_cases c2 : Int32.ofNat p < Int32.ofNat e
    · have q2 := (own_ltn (by omega) (by omega)).mp c2
      rw [if_pos c2]
      by_cases c3 : g p < (0 : Int32)
      · rw [if_pos c3, if_pos ⟨by omega, q2, c3⟩]
      · rw [if_neg c3, if_neg (fun h => c3 h.2.2)]
    · have q2 := mt (own_ltn (by omega) (by omega)).mpr c2
      rw [if_neg c2, if_neg (fun h => q2 h.2.1)]
theorem own_maxp {s e : Nat} (hs : s ≤ 10) (he : e ≤ 8) : own_max (Int32.ofNat s) (Int32.ofNat e) = Int32.ofNat (s + (e - s)) := by
  unfold own_max
  by_cases c : Int32.ofNat s < Int32.ofNat e
  · have q := (own_ltn (by omega) (by omega)).mp c
    simp only [if_pos c]
    rw [show s + (e - s) = e by omega]
  · have q := mt (own_ltn (by omega) (by omega)).mpr c
    simp only [if_neg c]
    rw [show s + (e - s) = s by omega]
theorem own_minp {s e : Nat} (hs : s ≤ 10) (he : e ≤ 10) : own_min (Int32.ofNat s) (Int32.ofNat e) = Int32.ofNat (if e < s then e else s) := by
  unfold own_min
  by_cases c : Int32.ofNat e < Int32.ofNat s
  · have q := (own_ltn (by omega) (by omega)).mp c
    simp only [if_pos c, if_pos q]
  · have q := mt (own_ltn (by omega) (by omega)).mpr c
    simp only [if_neg c, if_neg q]
theorem own_if10 {P : Prop} [Decidable P] {α : Type} (a b : α) : (if (if P then (1 : Int32) else (0 : Int32)) = (0 : Int32) then a else b) = if P then b else a := by
  by_cases p : P
  · rw [if_pos p, if_pos p, if_neg (by decide)]
  · rw [if_neg p, if_neg p, if_pos rfl]
theorem own_firstp {g : Nat → Int32} {s e : Nat} {v : Int32} (h4 : 4 ≤ s) (hs : s ≤ 9) (he : e ≤ 8) : own_first (Int32.ofNat s) (Int32.ofNat e) v g = Int32.ofNat (own_fi g v (e - s) s) := by
  unfold own_first
  have e7 : own_hit (7 : Int32) (Int32.ofNat s) (Int32.ofNat e) v g = (if s ≤ 7 ∧ 7 < e ∧ g 7 = v then (1 : Int32) else (0 : Int32)) := own_hitp (p := 7) (by omega) (by omega) he
  have e6 : own_hit (6 : Int32) (Int32.ofNat s) (Int32.ofNat e) v g = (if s ≤ 6 ∧ 6 < e ∧ g 6 = v then (1 : Int32) else (0 : Int32)) := own_hitp (p := 6) (by omega) (by omega) he
  have e5 : own_hit (5 : Int32) (Int32.ofNat s) (Int32.ofNat e) v g = (if s ≤ 5 ∧ 5 < e ∧ g 5 = v then (1 : Int32) else (0 : Int32)) := own_hitp (p := 5) (by omega) (by omega) he
  have e4 : own_hit (4 : Int32) (Int32.ofNat s) (Int32.ofNat e) v g = (if s ≤ 4 ∧ 4 < e ∧ g 4 = v then (1 : Int32) else (0 : Int32)) := own_hitp (p := 4) (by omega) (by omega) he
  simp only [e4, e5, e6, e7, own_if10, own_maxp (show s ≤ 10 by omega) he]
  have no : ∀ l, s ≤ l → l < e → l = 4 ∨ l = 5 ∨ l = 6 ∨ l = 7 := by omega
  by_cases c4 : s ≤ 4 ∧ 4 < e ∧ g 4 = v
  · rw [if_pos c4, own_fi_at g v (e - s) s 4 c4.1 (by omega) c4.2.2 (fun l a b => by omega)]; rfl
  · rw [if_neg c4]
    by_cases c5 : s ≤ 5 ∧ 5 < e ∧ g 5 = v
    · rw [if_pos c5, own_fi_at g v (e - s) s 5 c5.1 (by omega) c5.2.2 (fun l a b q => by
        have : l = 4 := by omega
        subst this; exact c4 ⟨a, by omega, q⟩)]; rfl
    · rw [if_neg c5]
      by_cases c6 : s ≤ 6 ∧ 6 < e ∧ g 6 = v
      · rw [if_pos c6, own_fi_at g v (e - s) s 6 c6.1 (by omega) c6.2.2 (fun l a b q => by
          have : l = 4 ∨ l = 5 := by omega
          rcases this with rfl | rfl
          · exact c4 ⟨a, by omega, q⟩
          · exact c5 ⟨a, by omega, q⟩)]; rfl
      · rw [if_neg c6]
        by_cases c7 : s ≤ 7 ∧ 7 < e ∧ g 7 = v
        · rw [if_pos c7, own_fi_at g v (e - s) s 7 c7.1 (by omega) c7.2.2 (fun l a b q => by
            have : l = 4 ∨ l = 5 ∨ l = 6 := by omega
            rcases this with rfl | rfl | rfl
            · exact c4 ⟨a, by omega, q⟩
            · exact c5 ⟨a, by omega, q⟩
            · exact c6 ⟨a, by omega, q⟩)]; rfl
        · rw [if_neg c7, own_fi_no g v (e - s) s (fun l a b q => by
            rcases no l a (by omega) with rfl | rfl | rfl | rfl
            · exact c4 ⟨a, by omega, q⟩
            · exact c5 ⟨a, by omega, q⟩
            · exact c6 ⟨a, by omega, q⟩
            · exact c7 ⟨a, by omega, q⟩)]
/-- where scan stops -/
def own_stop (g : Nat → Int32) (lf : Int32) (k i : Nat) : Nat := if lf = (0 : Int32) then i + k else own_fi g (10 : Int32) k i
theorem own_stop_lo (g : Nat → Int32) (lf : Int32) (k i : Nat) : i ≤ own_stop g lf k i ∧ own_stop g lf k i ≤ i + k := by
  unfold own_stop; split
  · omega
  · exact own_fi_lo g 10 k i
theorem own_stop_brk {g : Nat → Int32} {lf : Int32} {k i : Nat} (h : ¬ lf = (0 : Int32) ∧ g i = (10 : Int32)) : own_stop g lf (k + 1) i = i := by rw [own_stop, if_neg h.1, own_fi, if_pos h.2]
theorem own_stop_go {g : Nat → Int32} {lf : Int32} {k i : Nat} (h : ¬ (¬ lf = (0 : Int32) ∧ g i = (10 : Int32))) : own_stop g lf (k + 1) i = own_stop g lf k (i + 1) := by
  unfold own_stop
  by_cases q : lf = (0 : Int32)
  · rw [if_pos q, if_pos q]; omega
  · rw [if_neg q, if_neg q, own_fi, if_neg (fun z => h ⟨q, z⟩)]
theorem own_fi_go {g : Nat → Int32} {v : Int32} {E i : Nat} (h : i + 1 ≤ E) : own_fi g v (E - i) i = if g i = v then i else own_fi g v (E - (i + 1)) (i + 1) := by
  rw [show E - i = (E - (i + 1)) + 1 by omega, own_fi]
/-- the second tab, where the first is known -/
def own_snd (g : Nat → Int32) (E t : Nat) : Nat := if t < E then own_fi g (9 : Int32) (E - (t + 1)) (t + 1) else E
theorem own_sc_spec (g : Nat → Int32) (lf : Int32) : ∀ (k i : Nat) (tb sa x1 x2 : Int32) (E : Nat), E = own_stop g lf k i →
    (own_sc g lf k i tb sa x1 x2).1 = E ∧ (((∃ j, i ≤ j ∧ j < E ∧ g j < (0 : Int32)) → (own_sc g lf k i tb sa x1 x2).2.2.1 = (0 : Int32)) ∧ ((¬ ∃ j, i ≤ j ∧ j < E ∧ g j < (0 : Int32)) → (own_sc g lf k i tb sa x1 x2).2.2.1 = sa)) ∧
    (tb = 2 → (own_sc g lf k i tb sa x1 x2).2.1 = 2 ∧ (own_sc g lf k i tb sa x1 x2).2.2.2.1 = x1 ∧ (own_sc g lf k i tb sa x1 x2).2.2.2.2 = x2) ∧
    (tb = 1 → (0 : Int32) < (own_sc g lf k i tb sa x1 x2).2.1 ∧ (own_sc g lf k i tb sa x1 x2).2.2.2.1 = x1 ∧ (if (1 : Int32) < (own_sc g lf k i tb sa x1 x2).2.1 then (own_sc g lf k i tb sa x1 x2).2.2.2.2 else (Int32.ofNat E)) = Int32.ofNat (own_fi g (9 : Int32) (E - i) i)) ∧
    (tb = 0 → (if (0 : Int32) < (own_sc g lf k i tb sa x1 x2).2.1 then (own_sc g lf k i tb sa x1 x2).2.2.2.1 else (Int32.ofNat E)) = Int32.ofNat (own_fi g (9 : Int32) (E - i) i) ∧ (if (1 : Int32) < (own_sc g lf k i tb sa x1 x2).2.1 then (own_sc g lf k i tb sa x1 x2).2.2.2.2 else (Int32.ofNat E)) = Int32.ofNat (own_snd g E (own_fi g (9 : Int32) (E - i) i))) := by
  have base : ∀ (i : Nat) (tb sa x1 x2 : Int32), ((i, tb, sa, x1, x2) : Nat × Int32 × Int32 × Int32 × Int32).1 = i ∧ (((∃ j, i ≤ j ∧ j < i ∧ g j < (0 : Int32)) → sa = (0 : Int32)) ∧ ((¬ ∃ j, i ≤ j ∧ j < i ∧ g j < (0 : Int32)) → sa = sa)) ∧ (tb = 2 → tb = 2 ∧ x1 = x1 ∧ x2 = x2) ∧
      (tb = 1 → (0 : Int32) < tb ∧ x1 = x1 ∧ (if (1 : Int32) < tb then x2 else (Int32.ofNat i)) = Int32.ofNat (own_fi g (9 : Int32) (i - i) i)) ∧
      (tb = 0 → (if (0 : Int32) < tb then x1 else (Int32.ofNat i)) = Int32.ofNat (own_fi g (9 : Int32) (i - i) i) ∧ (if (1 : Int32) < tb then x2 else (Int32.ofNat i)) = Int32.ofNat (own_snd g i (own_fi g (9 : Int32) (i - i) i))) := by
    intro i tb sa x1 x2
    refine ⟨rfl, ?_, fun h => ⟨h, rfl, rfl⟩, fun h => ?_, fun h => ?_⟩
    · exact ⟨fun ⟨j, a, b, _⟩ => by omega, fun _ => rfl⟩
    · subst h; rw [Nat.sub_self, own_fi, if_neg (by decide)]; exact ⟨by decide, rfl, rfl⟩
    · subst h; rw [Nat.sub_self, own_fi, if_neg (by decide), if_neg (by decide), own_snd, if_neg (Nat.lt_irrefl _)]; exact ⟨rfl, rfl⟩
  intro k
  induction k with
  | zero =>
    intro i tb sa x1 x2 E hE
    have : E = i := by rw [hE]; have := own_stop_lo g lf 0 i; omega
    subst this
    exact base E tb sa x1 x2
  | succ k ih =>
    intro i tb sa x1 x2 E hE
    by_cases hb : ¬ lf = (0 : Int32) ∧ g i = (10 : Int32)
    · rw [own_stop_brk hb] at hE
      subst hE
      rw [own_sc_brk hb.1 hb.2]
      exact base E tb sa x1 x2
    · rw [own_stop_go hb] at hE
      have hlo := own_stop_lo g lf k (i + 1)
      rw [← hE] at hlo
      have nb : lf = (0 : Int32) ∨ ¬ (g i) = (10 : Int32) := by
        by_cases q : lf = (0 : Int32)
        · exact Or.inl q
        · exact Or.inr fun z => hb ⟨q, z⟩
      have ex : (∃ j, i ≤ j ∧ j < E ∧ g j < (0 : Int32)) ↔ (g i < (0 : Int32) ∨ ∃ j, i + 1 ≤ j ∧ j < E ∧ g j < (0 : Int32)) := by
        constructor
        · rintro ⟨j, a, b, d⟩
          by_cases q : j = i
          · subst q; exact Or.inl d
          · exact Or.inr ⟨j, by omega, b, d⟩
        · rintro (d | ⟨j, a, b, d⟩)
          · exact ⟨i, Nat.le_refl _, by omega, d⟩
          · exact ⟨j, by omega, b, d⟩
      rw [own_fi_go (v := 9) (by omega : i + 1 ≤ E)]
      by_cases h9 : g i = (9 : Int32)
      · have nn : ¬ g i < (0 : Int32) := by rw [h9]; decide
        have ex' : (∃ j, i ≤ j ∧ j < E ∧ g j < (0 : Int32)) = (∃ j, i + 1 ≤ j ∧ j < E ∧ g j < (0 : Int32)) := propext (ex.trans ⟨fun z => z.elim (fun y => absurd y nn) id, Or.inr⟩)
        simp only [ex', if_pos h9]
        by_cases t0 : tb = (0 : Int32)
        · rw [own_sc_t0 (bb := g i) nb rfl h9 t0]
          obtain ⟨r1, r2, -, r4, -⟩ := ih (i + 1) (1 : Int32) sa (Int32.ofNat i) x2 E hE
          obtain ⟨s1, s2, s3⟩ := r4 rfl
          refine ⟨r1, r2, fun h => absurd (t0.symm.trans h) (by decide), fun h => absurd (t0.symm.trans h) (by decide), fun _ => ⟨?_, ?_⟩⟩
          · rw [if_pos s1, s2]
          · rw [s3, own_snd, if_pos (by omega)]
        · by_cases t1 : tb = (1 : Int32)
          · rw [own_sc_t1 (bb := g i) nb rfl h9 t0 t1]
            obtain ⟨r1, r2, r3, -, -⟩ := ih (i + 1) (2 : Int32) sa x1 (Int32.ofNat i) E hE
            obtain ⟨s1, s2, s3⟩ := r3 rfl
            refine ⟨r1, r2, fun h => absurd (t1.symm.trans h) (by decide), fun _ => ⟨by rw [s1]; decide, s2, ?_⟩, fun h => absurd h t0⟩
            rw [s1, if_pos (by decide), s3]
          · rw [own_sc_pos (bb := g i) nb rfl (Or.inr ⟨t0, t1⟩) nn]
            obtain ⟨r1, r2, r3, -, -⟩ := ih (i + 1) tb sa x1 x2 E hE
            exact ⟨r1, r2, r3, fun h => absurd h t1, fun h => absurd h t0⟩
      · simp only [if_neg h9]
        by_cases hn : g i < (0 : Int32)
        · rw [own_sc_neg (bb := g i) nb rfl hn]
          obtain ⟨r1, r2, r3, r4, r5⟩ := ih (i + 1) tb (0 : Int32) x1 x2 E hE
          refine ⟨r1, ?_, r3, r4, r5⟩
          refine ⟨fun _ => ?_, fun h => absurd (ex.mpr (Or.inl hn)) h⟩
          by_cases q : ∃ j, i + 1 ≤ j ∧ j < E ∧ g j < (0 : Int32)
          · exact r2.1 q
          · exact r2.2 q
        · have ex' : (∃ j, i ≤ j ∧ j < E ∧ g j < (0 : Int32)) = (∃ j, i + 1 ≤ j ∧ j < E ∧ g j < (0 : Int32)) := propext (ex.trans ⟨fun z => z.elim (fun y => absurd y hn) id, Or.inr⟩)
          rw [own_sc_pos (bb := g i) nb rfl (Or.inl h9) hn]
          obtain ⟨r1, r2, r3, r4, r5⟩ := ih (i + 1) tb sa x1 x2 E hE
          simp only [ex']
          exact ⟨r1, r2, r3, r4, r5⟩

theorem own_from {x fr : Int32} (h : fr = ((4 : Int32) + ((x &&& (2147483647 : Int32)) % (5 : Int32)))) : ∃ f : Nat, 4 ≤ f ∧ f ≤ 8 ∧ fr = (Int32.ofNat f) := by
  have e := Jvm.Kit.i32_mask x 2147483647 (k := 31) (by decide) (by decide)
  have k5 : (5 : Int32).toInt = 5 := by decide
  have k4 : (4 : Int32).toInt = 4 := by decide
  have hn : ((x &&& (2147483647 : Int32)) % (5 : Int32)).toInt = (x &&& (2147483647 : Int32)).toInt % 5 := by rw [own_m32 (by omega), k5]
  have hb : fr.toInt = 4 + (x &&& (2147483647 : Int32)).toInt % 5 := by rw [h, Jvm.Kit.i32_add (by omega) (by omega), hn, k4]
  refine ⟨fr.toInt.toNat, by omega, by omega, Int32.toInt_inj.mp ?_⟩
  rw [own_ofn (by omega)]
  omega
theorem own_lim {x li : Int32} (h : li = ((x &&& (2147483647 : Int32)) % (9 : Int32))) : ∃ l3 : Nat, l3 ≤ 8 ∧ li = (Int32.ofNat l3) := by
  have e := Jvm.Kit.i32_mask x 2147483647 (k := 31) (by decide) (by decide)
  have k9 : (9 : Int32).toInt = 9 := by decide
  have hn : li.toInt = (x &&& (2147483647 : Int32)).toInt % 9 := by rw [h, own_m32 (by omega), k9]
  refine ⟨li.toInt.toNat, by omega, Int32.toInt_inj.mp ?_⟩
  rw [own_ofn (by omega)]
  omega
section OwnLaw
variable {G : Nat → Int32} {fl : Int32} {f l3 E T1 T2 PT : Nat}
theorem own_enp {en : Int32} (h4 : 4 ≤ f) (hf : f ≤ 8) (hl : l3 ≤ 8) (hE : E = own_stop G fl (l3 - f) f) (h : en = (if fl = (0 : Int32) then (own_max (Int32.ofNat f) (Int32.ofNat l3)) else (own_first (Int32.ofNat f) (Int32.ofNat l3) (10 : Int32) G))) : en = (Int32.ofNat E) := by
  rw [h, hE, own_stop, own_maxp (by omega) hl, own_firstp h4 (by omega) hl]
  split <;> rfl
theorem own_Eb (h4 : 4 ≤ f) (hf : f ≤ 8) (hl : l3 ≤ 8) (hE : E = own_stop G fl (l3 - f) f) : f ≤ E ∧ E ≤ 8 := by
  have := own_stop_lo G fl (l3 - f) f
  omega
theorem own_t1p {t1 : Int32} (h4 : 4 ≤ f) (hf : f ≤ 8) (hEb : f ≤ E ∧ E ≤ 8) (hT : T1 = own_fi G (9 : Int32) (E - f) f) (h : t1 = (own_first (Int32.ofNat f) (Int32.ofNat E) (9 : Int32) G)) : t1 = (Int32.ofNat T1) := by
  rw [h, hT, own_firstp h4 (by omega) hEb.2]
theorem own_T1b (hEb : f ≤ E ∧ E ≤ 8) (hT : T1 = own_fi G (9 : Int32) (E - f) f) : f ≤ T1 ∧ T1 ≤ E := by
  have := own_fi_lo G 9 (E - f) f
  omega
theorem own_t2p {t2 : Int32} (h4 : 4 ≤ f) (hEb : f ≤ E ∧ E ≤ 8) (hTb : f ≤ T1 ∧ T1 ≤ E) (hT2 : T2 = own_snd G E T1) (h : t2 = (if (Int32.ofNat T1) < (Int32.ofNat E) then (own_first ((Int32.ofNat T1) + (1 : Int32)) (Int32.ofNat E) (9 : Int32) G) else (Int32.ofNat E))) : t2 = (Int32.ofNat T2) := by
  rw [h, hT2, own_snd, own_one]
  by_cases q : T1 < E
  · rw [if_pos q, if_pos ((own_ltn (by omega) (by omega)).mpr q), own_firstp (by omega) (by omega) hEb.2]
  · rw [if_neg q, if_neg (fun z => q ((own_ltn (by omega) (by omega)).mp z))]
theorem own_T2b (hEb : f ≤ E ∧ E ≤ 8) (hTb : f ≤ T1 ∧ T1 ≤ E) (hT2 : T2 = own_snd G E T1) : T1 ≤ T2 ∧ T2 ≤ E := by
  rw [hT2, own_snd]
  split
  · have := own_fi_lo G 9 (E - (T1 + 1)) (T1 + 1); omega
  · omega
theorem own_ascp {asc : Int32} (h4 : 4 ≤ f) (hf : f ≤ 8) (hEb : f ≤ E ∧ E ≤ 8)
    (h : asc = (if (own_neg (4 : Int32) (Int32.ofNat f) (Int32.ofNat E) G) = (0 : Int32) then (if (own_neg (5 : Int32) (Int32.ofNat f) (Int32.ofNat E) G) = (0 : Int32) then (if (own_neg (6 : Int32) (Int32.ofNat f) (Int32.ofNat E) G) = (0 : Int32) then (if (own_neg (7 : Int32) (Int32.ofNat f) (Int32.ofNat E) G) = (0 : Int32) then (1 : Int32) else (0 : Int32)) else (0 : Int32)) else (0 : Int32)) else (0 : Int32))) :
    ((∃ j, f ≤ j ∧ j < E ∧ G j < (0 : Int32)) → asc = (0 : Int32)) ∧ ((¬ ∃ j, f ≤ j ∧ j < E ∧ G j < (0 : Int32)) → asc = (1 : Int32)) := by
  have e4 : own_neg (4 : Int32) (Int32.ofNat f) (Int32.ofNat E) G = (if f ≤ 4 ∧ 4 < E ∧ G 4 < (0 : Int32) then (1 : Int32) else (0 : Int32)) := own_negp (p := 4) (by omega) (by omega) hEb.2
  have e5 : own_neg (5 : Int32) (Int32.ofNat f) (Int32.ofNat E) G = (if f ≤ 5 ∧ 5 < E ∧ G 5 < (0 : Int32) then (1 : Int32) else (0 : Int32)) := own_negp (p := 5) (by omega) (by omega) hEb.2
  have e6 : own_neg (6 : Int32) (Int32.ofNat f) (Int32.ofNat E) G = (if f ≤ 6 ∧ 6 < E ∧ G 6 < (0 : Int32) then (1 : Int32) else (0 : Int32)) := own_negp (p := 6) (by omega) (by omega) hEb.2
  have e7 : own_neg (7 : Int32) (Int32.ofNat f) (Int32.ofNat E) G = (if f ≤ 7 ∧ 7 < E ∧ G 7 < (0 : Int32) then (1 : Int32) else (0 : Int32)) := own_negp (p := 7) (by omega) (by omega) hEb.2
  rw [e4, e5, e6, e7, own_if10, own_if10, own_if10, own_if10] at h
  constructor
  · rintro ⟨j, a, b, d⟩
    have c : j = 4 ∨ j = 5 ∨ j = 6 ∨ j = 7 := by omega
    rw [h]
    rcases c with rfl | rfl | rfl | rfl
    · rw [if_pos ⟨a, b, d⟩]
    · rw [if_pos (c := f ≤ 5 ∧ _) ⟨a, b, d⟩]; split <;> rfl
    · rw [if_pos (c := f ≤ 6 ∧ _) ⟨a, b, d⟩]; split <;> (try split) <;> rfl
    · rw [if_pos (c := f ≤ 7 ∧ _) ⟨a, b, d⟩]; split <;> (try split) <;> (try split) <;> rfl
  · intro n
    rw [h, if_neg (fun z => n ⟨4, z⟩), if_neg (fun z => n ⟨5, z⟩), if_neg (fun z => n ⟨6, z⟩), if_neg (fun z => n ⟨7, z⟩)]
theorem own_ptp {adj pt : Int32} (hTb : f ≤ T1 ∧ T1 ≤ E) (hT2b : T1 ≤ T2 ∧ T2 ≤ E) (hEb : f ≤ E ∧ E ≤ 8) (hP : PT = if T2 = T1 + 1 then T1 else 8) (h1 : adj = (if (Int32.ofNat T2) = ((Int32.ofNat T1) + (1 : Int32)) then (1 : Int32) else (0 : Int32))) (h2 : pt = (if adj = (0 : Int32) then (8 : Int32) else (Int32.ofNat T1))) : pt = (Int32.ofNat PT) := by
  rw [own_one] at h1
  by_cases q : T2 = T1 + 1
  · rw [if_pos (by rw [q])] at h1
    rw [h2, h1, if_neg (by decide), hP, if_pos q]
  · rw [if_neg (fun z => q ((own_ofinj (by omega) (by omega)).mp z))] at h1
    rw [h2, h1, if_pos rfl, hP, if_neg q]; rfl
theorem own_probe {gp : Nat → Int32} {asc pv : Int32} (h4 : 4 ≤ f) (hTb : f ≤ T1 ∧ T1 ≤ E) (hEb : f ≤ E ∧ E ≤ 8) (hP : PT = if T2 = T1 + 1 then T1 else 8) (hpv : pv = (if asc = (0 : Int32) then (97 : Int32) else (-1 : Int32)))
    (h : gp = own_upd (own_upd (own_upd (own_upd (own_upd (own_upd (own_upd (own_upd (fun _ => 0) 0 (nar .byte pv)) 1 (nar .byte (32 : Int32))) 2 (nar .byte (32 : Int32))) 3 (nar .byte (99 : Int32))) 4 (nar .byte (99 : Int32))) 5 (nar .byte (99 : Int32))) 6 (nar .byte (99 : Int32))) 7 (nar .byte (99 : Int32))) :
    own_pr PT gp ∧ (asc = (0 : Int32) → ∀ j, j < 8 → ¬ (gp j) < (0 : Int32)) := by
  have hPT : 4 ≤ PT ∧ PT ≤ 8 := by rw [hP]; split <;> omega
  have g0 : gp 0 = nar .byte pv := by rw [h]; rfl
  have g1 : gp 1 = (32 : Int32) := by rw [h]; rfl
  have g2 : gp 2 = (32 : Int32) := by rw [h]; rfl
  have gk : ∀ j, 3 ≤ j → j < 8 → gp j = (99 : Int32) := fun j a b => by
    have c : j = 3 ∨ j = 4 ∨ j = 5 ∨ j = 6 ∨ j = 7 := by omega
    rw [h]
    rcases c with rfl | rfl | rfl | rfl | rfl <;> rfl
  have p0 : pv = (97 : Int32) ∨ pv = (-1 : Int32) := by rw [hpv]; split <;> simp
  refine ⟨⟨hPT.1, hPT.2, ?_, g1, g2, ?_, fun j a b => ?_⟩, fun ha j hj => ?_⟩
  · rw [g0]; rcases p0 with rfl | rfl <;> exact ⟨by decide, by decide, by decide⟩
  · rw [gk 3 (by decide) (by decide)]; decide
  · rw [gk j a b]; decide
  · have c : j = 0 ∨ j = 1 ∨ j = 2 ∨ 3 ≤ j := by omega
    rcases c with rfl | rfl | rfl | c
    · rw [g0, hpv, if_pos ha]; decide
    · rw [g1]; decide
    · rw [g2]; decide
    · rw [gk j c hj]; decide
theorem own_res {got ft sc ac asc : Int32} (hE : E = own_stop G fl (l3 - f) f) (hT : T1 = own_fi G (9 : Int32) (E - f) f) (hT2 : T2 = own_snd G E T1)
    (hasc : ((∃ j, f ≤ j ∧ j < E ∧ G j < (0 : Int32)) → asc = (0 : Int32)) ∧ ((¬ ∃ j, f ≤ j ∧ j < E ∧ G j < (0 : Int32)) → asc = (1 : Int32)))
    (h1 : got = (Int32.ofNat (own_sc G fl (l3 - f) f (0 : Int32) (1 : Int32) (0 : Int32) (0 : Int32)).1))
    (h2 : ft = (if (0 : Int32) < (own_sc G fl (l3 - f) f (0 : Int32) (1 : Int32) (0 : Int32) (0 : Int32)).2.1 then (own_sc G fl (l3 - f) f (0 : Int32) (1 : Int32) (0 : Int32) (0 : Int32)).2.2.2.1 else (Int32.ofNat (own_sc G fl (l3 - f) f (0 : Int32) (1 : Int32) (0 : Int32) (0 : Int32)).1)))
    (h3 : sc = (if (1 : Int32) < (own_sc G fl (l3 - f) f (0 : Int32) (1 : Int32) (0 : Int32) (0 : Int32)).2.1 then (own_sc G fl (l3 - f) f (0 : Int32) (1 : Int32) (0 : Int32) (0 : Int32)).2.2.2.2 else (Int32.ofNat (own_sc G fl (l3 - f) f (0 : Int32) (1 : Int32) (0 : Int32) (0 : Int32)).1)))
    (h4 : ac = (own_sc G fl (l3 - f) f (0 : Int32) (1 : Int32) (0 : Int32) (0 : Int32)).2.2.1) : got = (Int32.ofNat E) ∧ ft = (Int32.ofNat T1) ∧ sc = (Int32.ofNat T2) ∧ ac = asc := by
  obtain ⟨r1, r2, -, -, r5⟩ := own_sc_spec G fl (l3 - f) f 0 1 0 0 E hE
  obtain ⟨s1, s2⟩ := r5 rfl
  rw [r1] at h1 h2 h3
  refine ⟨h1, by rw [h2, s1, hT], by rw [h3, s2, hT2, hT], ?_⟩
  rw [h4]
  by_cases q : ∃ j, f ≤ j ∧ j < E ∧ G j < (0 : Int32)
  · rw [r2.1 q, hasc.1 q]
  · rw [r2.2 q, hasc.2 q]
theorem own_T0 (h4 : 4 ≤ f) (hTb : f ≤ T1 ∧ T1 ≤ E) (hEb : f ≤ E ∧ E ≤ 8) : ¬ (Int32.ofNat T1) = (0 : Int32) := fun h => by
  have := congrArg Int32.toInt h
  rw [own_ofn (by omega), show (0 : Int32).toInt = 0 from rfl] at this
  omega
theorem own_adj (hq : T1 < PT) (hTb : f ≤ T1 ∧ T1 ≤ E) (hT2b : T1 ≤ T2 ∧ T2 ≤ E) (hEb : f ≤ E ∧ E ≤ 8) (hP : PT = if T2 = T1 + 1 then T1 else 8) : ¬ (own_min (Int32.ofNat T2) (Int32.ofNat PT)) = ((Int32.ofNat T1) + (1 : Int32)) := by
  by_cases q : T2 = T1 + 1
  · rw [if_pos q] at hP; omega
  · rw [if_neg q] at hP
    subst hP
    rw [own_minp (by omega) (by omega), own_one, if_neg (by omega), own_ofinj (by omega) (by omega)]
    exact q
end OwnLaw

theorem own_pd7 : parseMethodDescriptor "(III)B" = some ⟨[.int, .int, .int], some .byte⟩ := by decide +kernel
theorem own_pd8 : parseMethodDescriptor "([BIII)I" = some ⟨[(.array .byte), .int, .int, .int], some .int⟩ := by decide +kernel
theorem own_pd9 : parseMethodDescriptor "([BIII)Z" = some ⟨[(.array .byte), .int, .int, .int], some .boolean⟩ := by decide +kernel
theorem own_pd10 : parseMethodDescriptor "([BIIZ)I" = some ⟨[(.array .byte), .int, .int, .boolean], some .int⟩ := by decide +kernel
theorem own_pd11 : parseMethodDescriptor "([BIIJ)Z" = some ⟨[(.array .byte), .int, .int, .long], some .boolean⟩ := by decide +kernel
theorem own_pd12 : parseMethodDescriptor "()I" = some ⟨[], some .int⟩ := by decide +kernel
set_option maxHeartbeats 40000000 in
theorem own_ef_rm0 (m : MethodId) (x0 : Int32) (x1 : Int32) (x2 : Int32) (x3 : Int32) (x4 : Int32) : entryFrame m #[(.int x0), (.int x1), (.int x2), (.int x3), (.int x4)] maxLocals = mkF m 0 #[.val (.int x0), .val (.int x1), .val (.int x2), .val (.int x3), .val (.int x4), .unset, .unset, .unset, .unset, .unset, .unset, .unset, .unset, .unset, .unset, .unset, .unset, .unset, .unset, .unset] [] := by first | (simp [entryFrame, mkF, argsToLocals, Value.category, maxLocals]; done) | rfl
def Q0 (Z : State) (p0 : Int32) (p1 : Int32) (p2 : Int32) (p3 : Int32) (p4 : Int32) (h0 : Heap) (n0 : Nat) (v : Option Value) (h : Heap) (L : List Loc) : Prop := v = some (.int 1) ∧ Fr n0 L
set_option maxRecDepth 65536 in
set_option maxHeartbeats 40000000 in
theorem rm0 (l : Launch) (Z : State) (aZ : Array Value) (hw : ∀ d ∈ tables_1, d.before aZ Z = true) (ws : List Jvm.Cond) (p0 : Int32) (p1 : Int32) (p2 : Int32) (p3 : Int32) (p4 : Int32) (h0 : Heap) (n0 : Nat) (Z0 : n0 ≤ h0.size) :
    MetFree l x (head1 (Jvm.Cond.code x code maxLocals ret :: ws) room_1) (fun a U => a = #[(.int p0), (.int p1), (.int p2), (.int p3), (.int p4)] ∧ Z.Warmed39 U.vm ∧ U.heap = h0) (fun _ _ _ _ _ => True) (fun _ U o U' => ∃ v L, o = .returned v ∧ Q0 Z p0 p1 p2 p3 p4 h0 n0 v U'.heap L ∧ FrameEnd U o U' L room_1.cells room_1.slots) := by
  refine MetFree.of_bodySF (plainFor_of_name own_pn0) hisR ?_
  intro p e s m args below meth c s₁ Bd hml0 hP hK
  obtain ⟨rfl, hZ, hh⟩ := hP
  have hx := Bd.exec
  have hby := Bd.bytes
  have hml : c.maxLocals = 20 := hml0
  have hown : s.vm.findClass "com/example/long_walk/longwalk/EdgeListLineScanPinLaw" = some m.cls := findClass_of_methodNamed Bd.named
  have hnm := (name_of_methodNamed Bd.named Bd.method).1
  have X0 : Stand p l e room_1 s m #[(.int p0), (.int p1), (.int p2), (.int p3), (.int p4)] below meth c s₁ [] 0 0 := Stand.of_body Bd
  have e0 : s₁.heap = h0 := by rw [← hh, Bd.state]; rfl
  have N0 := Fr.nil n0
  refine own_go (S' := s₁.setTop (mkF m 0 #[.val (.int p0), .val (.int p1), .val (.int p2), .val (.int p3), .val (.int p4), .unset, .unset, .unset, .unset, .unset, .unset, .unset, .unset, .unset, .unset, .unset, .unset, .unset, .unset, .unset] [])) (fun tt0 kk0 => castTop (own_ef_rm0 m p0 p1 p2 p3 p4) kk0) ?_
  refine own_go (S' := s₁.setTop (mkF m 4 #[.val (.int p0), .val (.int p1), .val (.int p2), .val (.int p3), .val (.int p4), .unset, .unset, .unset, .unset, .unset, .unset, .unset, .unset, .unset, .unset, .unset, .unset, .unset, .unset, .unset] [(.int (p4 &&& (1 : Int32)))])) (fun target kt => ?_) ?_
  · skip
    show Steps p.tables e below (s₁.setTop (mkF m 0 #[.val (.int p0), .val (.int p1), .val (.int p2), .val (.int p3), .val (.int p4), .unset, .unset, .unset, .unset, .unset, .unset, .unset, .unset, .unset, .unset, .unset, .unset, .unset, .unset, .unset] [])) _
    refine XS.iload X0.here hx rfl (hb hby at_0) rfl ?_
    show Steps p.tables e below (s₁.setTop (mkF m 2 #[.val (.int p0), .val (.int p1), .val (.int p2), .val (.int p3), .val (.int p4), .unset, .unset, .unset, .unset, .unset, .unset, .unset, .unset, .unset, .unset, .unset, .unset, .unset, .unset, .unset] [(.int p4)])) _
    refine XS.iconst X0.here hx rfl (hb hby at_2) ?_
    show Steps p.tables e below (s₁.setTop (mkF m 3 #[.val (.int p0), .val (.int p1), .val (.int p2), .val (.int p3), .val (.int p4), .unset, .unset, .unset, .unset, .unset, .unset, .unset, .unset, .unset, .unset, .unset, .unset, .unset, .unset, .unset] [(.int (1 : Int32)), (.int p4)])) _
    refine XS.iand X0.here hx rfl (hb hby at_3) rfl ?_
    exact kt
  obtain ⟨fl, h_fl⟩ : ∃ z : Int32, z = (if (p4 &&& (1 : Int32)) = (0 : Int32) then (0 : Int32) else (1 : Int32)) := ⟨_, rfl⟩
  refine own_go (S' := s₁.setTop (mkF m 12 #[.val (.int p0), .val (.int p1), .val (.int p2), .val (.int p3), .val (.int p4), .unset, .unset, .unset, .unset, .unset, .unset, .unset, .unset, .unset, .unset, .unset, .unset, .unset, .unset, .unset] [(.int fl)])) (fun target kt => ?_) ?_
  · skip
    by_cases hm4 : (p4 &&& (1 : Int32)) = (0 : Int32)
    · skip
      show Steps p.tables e below (s₁.setTop (mkF m 4 #[.val (.int p0), .val (.int p1), .val (.int p2), .val (.int p3), .val (.int p4), .unset, .unset, .unset, .unset, .unset, .unset, .unset, .unset, .unset, .unset, .unset, .unset, .unset, .unset, .unset] [(.int (p4 &&& (1 : Int32)))])) _
      refine XS.ifYes X0.here hx rfl (pc0 := 4) (pc' := 11) rfl (hb hby at_4) rfl ((if0 _ _).trans (teq hm4).1) (by decide) (by decide) ?_
      show Steps p.tables e below (s₁.setTop (mkF m 11 #[.val (.int p0), .val (.int p1), .val (.int p2), .val (.int p3), .val (.int p4), .unset, .unset, .unset, .unset, .unset, .unset, .unset, .unset, .unset, .unset, .unset, .unset, .unset, .unset, .unset] [])) _
      refine XS.iconst X0.here hx rfl (hb hby at_11) ?_
      rw [h_fl, if_pos hm4] at kt
      exact kt
    · skip
      show Steps p.tables e below (s₁.setTop (mkF m 4 #[.val (.int p0), .val (.int p1), .val (.int p2), .val (.int p3), .val (.int p4), .unset, .unset, .unset, .unset, .unset, .unset, .unset, .unset, .unset, .unset, .unset, .unset, .unset, .unset, .unset] [(.int (p4 &&& (1 : Int32)))])) _
      refine XS.ifNo X0.here hx rfl (hb hby at_4) rfl ((if0 _ _).trans (feq hm4).1) ?_
      show Steps p.tables e below (s₁.setTop (mkF m 7 #[.val (.int p0), .val (.int p1), .val (.int p2), .val (.int p3), .val (.int p4), .unset, .unset, .unset, .unset, .unset, .unset, .unset, .unset, .unset, .unset, .unset, .unset, .unset, .unset, .unset] [])) _
      refine XS.iconst X0.here hx rfl (hb hby at_7) ?_
      show Steps p.tables e below (s₁.setTop (mkF m 8 #[.val (.int p0), .val (.int p1), .val (.int p2), .val (.int p3), .val (.int p4), .unset, .unset, .unset, .unset, .unset, .unset, .unset, .unset, .unset, .unset, .unset, .unset, .unset, .unset, .unset] [(.int (1 : Int32))])) _
      refine XS.goto X0.here hx rfl (pc0 := 8) (pc' := 12) rfl (hb hby at_8) (by decide) (by decide) ?_
      rw [h_fl, if_neg hm4] at kt
      exact kt
  obtain ⟨fr, h_fr⟩ : ∃ z : Int32, z = ((4 : Int32) + ((p0 &&& (2147483647 : Int32)) % (5 : Int32))) := ⟨_, rfl⟩
  refine own_go (S' := s₁.setTop (mkF m 24 #[.val (.int p0), .val (.int p1), .val (.int p2), .val (.int p3), .val (.int p4), .val (.int fl), .val (.int fr), .unset, .unset, .unset, .unset, .unset, .unset, .unset, .unset, .unset, .unset, .unset, .unset, .unset] [])) (fun target kt => ?_) ?_
  · subst h_fr
    show Steps p.tables e below (s₁.setTop (mkF m 12 #[.val (.int p0), .val (.int p1), .val (.int p2), .val (.int p3), .val (.int p4), .unset, .unset, .unset, .unset, .unset, .unset, .unset, .unset, .unset, .unset, .unset, .unset, .unset, .unset, .unset] [(.int fl)])) _
    refine XS.istore X0.here hx rfl (hb hby at_12) rfl (l' := #[.val (.int p0), .val (.int p1), .val (.int p2), .val (.int p3), .val (.int p4), .val (.int fl), .unset, .unset, .unset, .unset, .unset, .unset, .unset, .unset, .unset, .unset, .unset, .unset, .unset, .unset]) rfl ?_
    show Steps p.tables e below (s₁.setTop (mkF m 14 #[.val (.int p0), .val (.int p1), .val (.int p2), .val (.int p3), .val (.int p4), .val (.int fl), .unset, .unset, .unset, .unset, .unset, .unset, .unset, .unset, .unset, .unset, .unset, .unset, .unset, .unset] [])) _
    refine XS.iconst X0.here hx rfl (hb hby at_14) ?_
    show Steps p.tables e below (s₁.setTop (mkF m 15 #[.val (.int p0), .val (.int p1), .val (.int p2), .val (.int p3), .val (.int p4), .val (.int fl), .unset, .unset, .unset, .unset, .unset, .unset, .unset, .unset, .unset, .unset, .unset, .unset, .unset, .unset] [(.int (4 : Int32))])) _
    refine XS.iloadN X0.here hx rfl (hb hby at_15) rfl ?_
    show Steps p.tables e below (s₁.setTop (mkF m 16 #[.val (.int p0), .val (.int p1), .val (.int p2), .val (.int p3), .val (.int p4), .val (.int fl), .unset, .unset, .unset, .unset, .unset, .unset, .unset, .unset, .unset, .unset, .unset, .unset, .unset, .unset] [(.int p0), (.int (4 : Int32))])) _
    refine X0.ldcInt hx hown (mvT hZ (hw _ (List.mem_of_getElem? (i := 0) rfl))) (g := (mkF m 16 #[.val (.int p0), .val (.int p1), .val (.int p2), .val (.int p3), .val (.int p4), .val (.int fl), .unset, .unset, .unset, .unset, .unset, .unset, .unset, .unset, .unset, .unset, .unset, .unset, .unset, .unset] [(.int p0), (.int (4 : Int32))])) rfl (hb hby at_16) _ ?_
    show Steps p.tables e below (s₁.setTop (mkF m 18 #[.val (.int p0), .val (.int p1), .val (.int p2), .val (.int p3), .val (.int p4), .val (.int fl), .unset, .unset, .unset, .unset, .unset, .unset, .unset, .unset, .unset, .unset, .unset, .unset, .unset, .unset] [(.int (2147483647 : Int32)), (.int p0), (.int (4 : Int32))])) _
    refine XS.iand X0.here hx rfl (hb hby at_18) rfl ?_
    show Steps p.tables e below (s₁.setTop (mkF m 19 #[.val (.int p0), .val (.int p1), .val (.int p2), .val (.int p3), .val (.int p4), .val (.int fl), .unset, .unset, .unset, .unset, .unset, .unset, .unset, .unset, .unset, .unset, .unset, .unset, .unset, .unset] [(.int (p0 &&& (2147483647 : Int32))), (.int (4 : Int32))])) _
    refine XS.iconst X0.here hx rfl (hb hby at_19) ?_
    show Steps p.tables e below (s₁.setTop (mkF m 20 #[.val (.int p0), .val (.int p1), .val (.int p2), .val (.int p3), .val (.int p4), .val (.int fl), .unset, .unset, .unset, .unset, .unset, .unset, .unset, .unset, .unset, .unset, .unset, .unset, .unset, .unset] [(.int (5 : Int32)), (.int (p0 &&& (2147483647 : Int32))), (.int (4 : Int32))])) _
    refine iremM (g := (mkF m 20 #[.val (.int p0), .val (.int p1), .val (.int p2), .val (.int p3), .val (.int p4), .val (.int fl), .unset, .unset, .unset, .unset, .unset, .unset, .unset, .unset, .unset, .unset, .unset, .unset, .unset, .unset] [(.int (5 : Int32)), (.int (p0 &&& (2147483647 : Int32))), (.int (4 : Int32))])) X0 hx rfl (hb hby at_20) rfl (by decide) ?_
    show Steps p.tables e below (s₁.setTop (mkF m 21 #[.val (.int p0), .val (.int p1), .val (.int p2), .val (.int p3), .val (.int p4), .val (.int fl), .unset, .unset, .unset, .unset, .unset, .unset, .unset, .unset, .unset, .unset, .unset, .unset, .unset, .unset] [(.int ((p0 &&& (2147483647 : Int32)) % (5 : Int32))), (.int (4 : Int32))])) _
    refine XS.iadd X0.here hx rfl (hb hby at_21) rfl ?_
    show Steps p.tables e below (s₁.setTop (mkF m 22 #[.val (.int p0), .val (.int p1), .val (.int p2), .val (.int p3), .val (.int p4), .val (.int fl), .unset, .unset, .unset, .unset, .unset, .unset, .unset, .unset, .unset, .unset, .unset, .unset, .unset, .unset] [(.int ((4 : Int32) + ((p0 &&& (2147483647 : Int32)) % (5 : Int32))))])) _
    refine XS.istore X0.here hx rfl (hb hby at_22) rfl (l' := #[.val (.int p0), .val (.int p1), .val (.int p2), .val (.int p3), .val (.int p4), .val (.int fl), .val (.int ((4 : Int32) + ((p0 &&& (2147483647 : Int32)) % (5 : Int32)))), .unset, .unset, .unset, .unset, .unset, .unset, .unset, .unset, .unset, .unset, .unset, .unset, .unset]) rfl ?_
    exact kt
  obtain ⟨f, h4, hf8, hfr⟩ := own_from h_fr
  have hb_fr : fr = (Int32.ofNat f) := hfr
  subst hb_fr
  obtain ⟨li, h_li⟩ : ∃ z : Int32, z = ((p1 &&& (2147483647 : Int32)) % (9 : Int32)) := ⟨_, rfl⟩
  refine own_go (S' := s₁.setTop (mkF m 33 #[.val (.int p0), .val (.int p1), .val (.int p2), .val (.int p3), .val (.int p4), .val (.int fl), .val (.int (Int32.ofNat f)), .val (.int li), .unset, .unset, .unset, .unset, .unset, .unset, .unset, .unset, .unset, .unset, .unset, .unset] [])) (fun target kt => ?_) ?_
  · subst h_li
    show Steps p.tables e below (s₁.setTop (mkF m 24 #[.val (.int p0), .val (.int p1), .val (.int p2), .val (.int p3), .val (.int p4), .val (.int fl), .val (.int (Int32.ofNat f)), .unset, .unset, .unset, .unset, .unset, .unset, .unset, .unset, .unset, .unset, .unset, .unset, .unset] [])) _
    refine XS.iloadN X0.here hx rfl (hb hby at_24) rfl ?_
    show Steps p.tables e below (s₁.setTop (mkF m 25 #[.val (.int p0), .val (.int p1), .val (.int p2), .val (.int p3), .val (.int p4), .val (.int fl), .val (.int (Int32.ofNat f)), .unset, .unset, .unset, .unset, .unset, .unset, .unset, .unset, .unset, .unset, .unset, .unset, .unset] [(.int p1)])) _
    refine X0.ldcInt hx hown (mvT hZ (hw _ (List.mem_of_getElem? (i := 0) rfl))) (g := (mkF m 25 #[.val (.int p0), .val (.int p1), .val (.int p2), .val (.int p3), .val (.int p4), .val (.int fl), .val (.int (Int32.ofNat f)), .unset, .unset, .unset, .unset, .unset, .unset, .unset, .unset, .unset, .unset, .unset, .unset, .unset] [(.int p1)])) rfl (hb hby at_25) _ ?_
    show Steps p.tables e below (s₁.setTop (mkF m 27 #[.val (.int p0), .val (.int p1), .val (.int p2), .val (.int p3), .val (.int p4), .val (.int fl), .val (.int (Int32.ofNat f)), .unset, .unset, .unset, .unset, .unset, .unset, .unset, .unset, .unset, .unset, .unset, .unset, .unset] [(.int (2147483647 : Int32)), (.int p1)])) _
    refine XS.iand X0.here hx rfl (hb hby at_27) rfl ?_
    show Steps p.tables e below (s₁.setTop (mkF m 28 #[.val (.int p0), .val (.int p1), .val (.int p2), .val (.int p3), .val (.int p4), .val (.int fl), .val (.int (Int32.ofNat f)), .unset, .unset, .unset, .unset, .unset, .unset, .unset, .unset, .unset, .unset, .unset, .unset, .unset] [(.int (p1 &&& (2147483647 : Int32)))])) _
    refine XS.bipush X0.here hx rfl (hb hby at_28) ?_
    show Steps p.tables e below (s₁.setTop (mkF m 30 #[.val (.int p0), .val (.int p1), .val (.int p2), .val (.int p3), .val (.int p4), .val (.int fl), .val (.int (Int32.ofNat f)), .unset, .unset, .unset, .unset, .unset, .unset, .unset, .unset, .unset, .unset, .unset, .unset, .unset] [(.int (9 : Int32)), (.int (p1 &&& (2147483647 : Int32)))])) _
    refine iremM (g := (mkF m 30 #[.val (.int p0), .val (.int p1), .val (.int p2), .val (.int p3), .val (.int p4), .val (.int fl), .val (.int (Int32.ofNat f)), .unset, .unset, .unset, .unset, .unset, .unset, .unset, .unset, .unset, .unset, .unset, .unset, .unset] [(.int (9 : Int32)), (.int (p1 &&& (2147483647 : Int32)))])) X0 hx rfl (hb hby at_30) rfl (by decide) ?_
    show Steps p.tables e below (s₁.setTop (mkF m 31 #[.val (.int p0), .val (.int p1), .val (.int p2), .val (.int p3), .val (.int p4), .val (.int fl), .val (.int (Int32.ofNat f)), .unset, .unset, .unset, .unset, .unset, .unset, .unset, .unset, .unset, .unset, .unset, .unset, .unset] [(.int ((p1 &&& (2147483647 : Int32)) % (9 : Int32)))])) _
    refine XS.istore X0.here hx rfl (hb hby at_31) rfl (l' := #[.val (.int p0), .val (.int p1), .val (.int p2), .val (.int p3), .val (.int p4), .val (.int fl), .val (.int (Int32.ofNat f)), .val (.int ((p1 &&& (2147483647 : Int32)) % (9 : Int32))), .unset, .unset, .unset, .unset, .unset, .unset, .unset, .unset, .unset, .unset, .unset, .unset]) rfl ?_
    exact kt
  obtain ⟨l3, hl8, hli⟩ := own_lim h_li
  have hb_li : li = (Int32.ofNat l3) := hli
  subst hb_li
  refine own_go (S' := s₁.setTop (mkF m 35 #[.val (.int p0), .val (.int p1), .val (.int p2), .val (.int p3), .val (.int p4), .val (.int fl), .val (.int (Int32.ofNat f)), .val (.int (Int32.ofNat l3)), .unset, .unset, .unset, .unset, .unset, .unset, .unset, .unset, .unset, .unset, .unset, .unset] [(.int (8 : Int32))])) (fun target kt => ?_) ?_
  · skip
    show Steps p.tables e below (s₁.setTop (mkF m 33 #[.val (.int p0), .val (.int p1), .val (.int p2), .val (.int p3), .val (.int p4), .val (.int fl), .val (.int (Int32.ofNat f)), .val (.int (Int32.ofNat l3)), .unset, .unset, .unset, .unset, .unset, .unset, .unset, .unset, .unset, .unset, .unset, .unset] [])) _
    refine XS.bipush X0.here hx rfl (hb hby at_33) ?_
    exact kt
  obtain ⟨T378, h378, k378, X378, e378, E378, A378, B378, st378⟩ := newPE X0 hx hZ (hw _ (List.mem_of_getElem? (i := 1) rfl)) e0 (g := (mkF m 35 #[.val (.int p0), .val (.int p1), .val (.int p2), .val (.int p3), .val (.int p4), .val (.int fl), .val (.int (Int32.ofNat f)), .val (.int (Int32.ofNat l3)), .unset, .unset, .unset, .unset, .unset, .unset, .unset, .unset, .unset, .unset, .unset, .unset] [(.int (8 : Int32))])) rfl (hb hby at_35) rfl (by decide) (cap := 8) (by decide) (by decide) (by decide) (by decide) (ad := "[B") (by decide)
  obtain ⟨b378, g378⟩ : ∃ z, z = h0.size := ⟨_, rfl⟩
  rw [← g378] at A378 B378 st378
  have g_b378 : n0 ≤ b378 := Nat.le_trans Z0 (Nat.le_of_eq g378.symm)
  have Z378 : n0 ≤ h378.size := Nat.le_trans Z0 E378.1
  have f379 : own_AI Z h378 b378 .byte 8 (fun _ => 0) := own_AI.fresh A378 rfl
  refine own_go (S' := T378.setTop (mkF m 37 #[.val (.int p0), .val (.int p1), .val (.int p2), .val (.int p3), .val (.int p4), .val (.int fl), .val (.int (Int32.ofNat f)), .val (.int (Int32.ofNat l3)), .unset, .unset, .unset, .unset, .unset, .unset, .unset, .unset, .unset, .unset, .unset, .unset] [(.ref b378)])) st378 ?_
  refine own_go (S' := T378.setTop (mkF m 45 #[.val (.int p0), .val (.int p1), .val (.int p2), .val (.int p3), .val (.int p4), .val (.int fl), .val (.int (Int32.ofNat f)), .val (.int (Int32.ofNat l3)), .val (.ref b378), .unset, .unset, .unset, .unset, .unset, .unset, .unset, .unset, .unset, .unset, .unset] [(.int (0 : Int32)), (.int p3), (.int p2), (.int (4 : Int32)), (.ref b378)])) (fun target kt => ?_) ?_
  · skip
    show Steps p.tables e below (T378.setTop (mkF m 37 #[.val (.int p0), .val (.int p1), .val (.int p2), .val (.int p3), .val (.int p4), .val (.int fl), .val (.int (Int32.ofNat f)), .val (.int (Int32.ofNat l3)), .unset, .unset, .unset, .unset, .unset, .unset, .unset, .unset, .unset, .unset, .unset, .unset] [(.ref b378)])) _
    refine XS.astore X378.here hx rfl (hb hby at_37) rfl rfl (l' := #[.val (.int p0), .val (.int p1), .val (.int p2), .val (.int p3), .val (.int p4), .val (.int fl), .val (.int (Int32.ofNat f)), .val (.int (Int32.ofNat l3)), .val (.ref b378), .unset, .unset, .unset, .unset, .unset, .unset, .unset, .unset, .unset, .unset, .unset]) rfl ?_
    show Steps p.tables e below (T378.setTop (mkF m 39 #[.val (.int p0), .val (.int p1), .val (.int p2), .val (.int p3), .val (.int p4), .val (.int fl), .val (.int (Int32.ofNat f)), .val (.int (Int32.ofNat l3)), .val (.ref b378), .unset, .unset, .unset, .unset, .unset, .unset, .unset, .unset, .unset, .unset, .unset] [])) _
    refine XS.aload X378.here hx rfl (hb hby at_39) rfl rfl ?_
    show Steps p.tables e below (T378.setTop (mkF m 41 #[.val (.int p0), .val (.int p1), .val (.int p2), .val (.int p3), .val (.int p4), .val (.int fl), .val (.int (Int32.ofNat f)), .val (.int (Int32.ofNat l3)), .val (.ref b378), .unset, .unset, .unset, .unset, .unset, .unset, .unset, .unset, .unset, .unset, .unset] [(.ref b378)])) _
    refine XS.iconst X378.here hx rfl (hb hby at_41) ?_
    show Steps p.tables e below (T378.setTop (mkF m 42 #[.val (.int p0), .val (.int p1), .val (.int p2), .val (.int p3), .val (.int p4), .val (.int fl), .val (.int (Int32.ofNat f)), .val (.int (Int32.ofNat l3)), .val (.ref b378), .unset, .unset, .unset, .unset, .unset, .unset, .unset, .unset, .unset, .unset, .unset] [(.int (4 : Int32)), (.ref b378)])) _
    refine XS.iloadN X378.here hx rfl (hb hby at_42) rfl ?_
    show Steps p.tables e below (T378.setTop (mkF m 43 #[.val (.int p0), .val (.int p1), .val (.int p2), .val (.int p3), .val (.int p4), .val (.int fl), .val (.int (Int32.ofNat f)), .val (.int (Int32.ofNat l3)), .val (.ref b378), .unset, .unset, .unset, .unset, .unset, .unset, .unset, .unset, .unset, .unset, .unset] [(.int p2), (.int (4 : Int32)), (.ref b378)])) _
    refine XS.iloadN X378.here hx rfl (hb hby at_43) rfl ?_
    show Steps p.tables e below (T378.setTop (mkF m 44 #[.val (.int p0), .val (.int p1), .val (.int p2), .val (.int p3), .val (.int p4), .val (.int fl), .val (.int (Int32.ofNat f)), .val (.int (Int32.ofNat l3)), .val (.ref b378), .unset, .unset, .unset, .unset, .unset, .unset, .unset, .unset, .unset, .unset, .unset] [(.int p3), (.int p2), (.int (4 : Int32)), (.ref b378)])) _
    refine XS.iconst X378.here hx rfl (hb hby at_44) ?_
    exact kt
  obtain ⟨_, _, ⟨T380, L380, k380, n380⟩, -, X380, ⟨Lc380, hQ380, l380, y380, z380⟩, st380⟩ := Jvm.LawKit.callS X378 hx (y := (⟨"com/example/long_walk/longwalk/EdgeListLineScanPinLaw", "draw", "(III)B"⟩ : MethodName)) hown (mvT hZ (hw _ (List.mem_of_getElem? (i := 2) rfl))) (mvT hZ (hw _ (List.mem_of_getElem? (i := 3) rfl))) (mvT hZ (hw _ (List.mem_of_getElem? (i := 4) rfl))) (mvT hZ (hw _ (List.mem_of_getElem? (i := 5) rfl))) (by decide) (backOf (W := 2) (rm1 l Z aZ hw [] p2 p3 (0 : Int32) h378 n0 Z378 ) hZ (hw _ (List.mem_of_getElem? (i := 5) rfl)) (hw _ (List.mem_of_getElem? (i := 4) rfl)) (by decide) (by decide)) (g := (mkF m 45 #[.val (.int p0), .val (.int p1), .val (.int p2), .val (.int p3), .val (.int p4), .val (.int fl), .val (.int (Int32.ofNat f)), .val (.int (Int32.ofNat l3)), .val (.ref b378), .unset, .unset, .unset, .unset, .unset, .unset, .unset, .unset, .unset, .unset, .unset] [(.int (0 : Int32)), (.int p3), (.int p2), (.int (4 : Int32)), (.ref b378)])) rfl (by rw [hml]; rfl) (argsL := [(.int p2), (.int p3), (.int (0 : Int32))]) (rest := [(.int (4 : Int32)), (.ref b378)]) (lenOf own_pd7 rfl) rfl (by show 2 * 0 + _ ≤ _; exact Nat.le_of_eq rfl) (hb hby at_45) (fun _ _ => ⟨rfl, e378, (by decide : 1 + 0 ≤ _), (by decide : 8 + 0 ≤ _)⟩)
  dsimp only [Pt.U, Pt.locs, Pt.cells, Pt.slots] at X380 l380 y380 z380 st380 hQ380
  subst l380 y380 z380
  obtain ⟨r_380, rfl, N380q, e380⟩ := hQ380
  have N380 := Fr.app N0 N380q
  refine own_go (S' := T380.setTop (mkF m 48 #[.val (.int p0), .val (.int p1), .val (.int p2), .val (.int p3), .val (.int p4), .val (.int fl), .val (.int (Int32.ofNat f)), .val (.int (Int32.ofNat l3)), .val (.ref b378), .unset, .unset, .unset, .unset, .unset, .unset, .unset, .unset, .unset, .unset, .unset] [(.int r_380), (.int (4 : Int32)), (.ref b378)])) st380 ?_
  obtain ⟨c381, Ar381, S381, M381, H381⟩ := id f379
  have hin381 : ¬ ((4 : Int32) < 0 ∨ c381.slots.size ≤ ((4 : Int32)).toNatClampNeg) := own_in S381 ⟨by decide, by decide⟩
  obtain ⟨T382, h382, X382, e382, W382, st382⟩ := stB X380 hx hZ e380 Ar381 (j := (4 : Int32)) hin381 (g := (mkF m 48 #[.val (.int p0), .val (.int p1), .val (.int p2), .val (.int p3), .val (.int p4), .val (.int fl), .val (.int (Int32.ofNat f)), .val (.int (Int32.ofNat l3)), .val (.ref b378), .unset, .unset, .unset, .unset, .unset, .unset, .unset, .unset, .unset, .unset, .unset] [(.int r_380), (.int (4 : Int32)), (.ref b378)])) rfl rfl (hb hby at_48)
  have f384 : Exa Z h382 b378 "[B" := B378.wr W382
  have f383 : own_AI Z h382 b378 .byte 8 (own_upd (fun _ => 0) 4 (nar .byte r_380)) := own_AI.set Ar381 S381 M381 H381 W382
  have Z382 : n0 ≤ h382.size := Nat.le_trans Z378 (Keep.of_wr W382).1
  have N382 := Fr.snoc X382 N380 g_b378
  refine own_go (S' := T382.setTop (mkF m 49 #[.val (.int p0), .val (.int p1), .val (.int p2), .val (.int p3), .val (.int p4), .val (.int fl), .val (.int (Int32.ofNat f)), .val (.int (Int32.ofNat l3)), .val (.ref b378), .unset, .unset, .unset, .unset, .unset, .unset, .unset, .unset, .unset, .unset, .unset] [])) st382 ?_
  refine own_go (S' := T382.setTop (mkF m 55 #[.val (.int p0), .val (.int p1), .val (.int p2), .val (.int p3), .val (.int p4), .val (.int fl), .val (.int (Int32.ofNat f)), .val (.int (Int32.ofNat l3)), .val (.ref b378), .unset, .unset, .unset, .unset, .unset, .unset, .unset, .unset, .unset, .unset, .unset] [(.int (1 : Int32)), (.int p3), (.int p2), (.int (5 : Int32)), (.ref b378)])) (fun target kt => ?_) ?_
  · skip
    show Steps p.tables e below (T382.setTop (mkF m 49 #[.val (.int p0), .val (.int p1), .val (.int p2), .val (.int p3), .val (.int p4), .val (.int fl), .val (.int (Int32.ofNat f)), .val (.int (Int32.ofNat l3)), .val (.ref b378), .unset, .unset, .unset, .unset, .unset, .unset, .unset, .unset, .unset, .unset, .unset] [])) _
    refine XS.aload X382.here hx rfl (hb hby at_49) rfl rfl ?_
    show Steps p.tables e below (T382.setTop (mkF m 51 #[.val (.int p0), .val (.int p1), .val (.int p2), .val (.int p3), .val (.int p4), .val (.int fl), .val (.int (Int32.ofNat f)), .val (.int (Int32.ofNat l3)), .val (.ref b378), .unset, .unset, .unset, .unset, .unset, .unset, .unset, .unset, .unset, .unset, .unset] [(.ref b378)])) _
    refine XS.iconst X382.here hx rfl (hb hby at_51) ?_
    show Steps p.tables e below (T382.setTop (mkF m 52 #[.val (.int p0), .val (.int p1), .val (.int p2), .val (.int p3), .val (.int p4), .val (.int fl), .val (.int (Int32.ofNat f)), .val (.int (Int32.ofNat l3)), .val (.ref b378), .unset, .unset, .unset, .unset, .unset, .unset, .unset, .unset, .unset, .unset, .unset] [(.int (5 : Int32)), (.ref b378)])) _
    refine XS.iloadN X382.here hx rfl (hb hby at_52) rfl ?_
    show Steps p.tables e below (T382.setTop (mkF m 53 #[.val (.int p0), .val (.int p1), .val (.int p2), .val (.int p3), .val (.int p4), .val (.int fl), .val (.int (Int32.ofNat f)), .val (.int (Int32.ofNat l3)), .val (.ref b378), .unset, .unset, .unset, .unset, .unset, .unset, .unset, .unset, .unset, .unset, .unset] [(.int p2), (.int (5 : Int32)), (.ref b378)])) _
    refine XS.iloadN X382.here hx rfl (hb hby at_53) rfl ?_
    show Steps p.tables e below (T382.setTop (mkF m 54 #[.val (.int p0), .val (.int p1), .val (.int p2), .val (.int p3), .val (.int p4), .val (.int fl), .val (.int (Int32.ofNat f)), .val (.int (Int32.ofNat l3)), .val (.ref b378), .unset, .unset, .unset, .unset, .unset, .unset, .unset, .unset, .unset, .unset, .unset] [(.int p3), (.int p2), (.int (5 : Int32)), (.ref b378)])) _
    refine XS.iconst X382.here hx rfl (hb hby at_54) ?_
    exact kt
  obtain ⟨_, _, ⟨T385, L385, k385, n385⟩, -, X385, ⟨Lc385, hQ385, l385, y385, z385⟩, st385⟩ := Jvm.LawKit.callS X382 hx (y := (⟨"com/example/long_walk/longwalk/EdgeListLineScanPinLaw", "draw", "(III)B"⟩ : MethodName)) hown (mvT hZ (hw _ (List.mem_of_getElem? (i := 2) rfl))) (mvT hZ (hw _ (List.mem_of_getElem? (i := 3) rfl))) (mvT hZ (hw _ (List.mem_of_getElem? (i := 4) rfl))) (mvT hZ (hw _ (List.mem_of_getElem? (i := 5) rfl))) (by decide) (backOf (W := 2) (rm1 l Z aZ hw [] p2 p3 (1 : Int32) h382 n0 Z382 ) hZ (hw _ (List.mem_of_getElem? (i := 5) rfl)) (hw _ (List.mem_of_getElem? (i := 4) rfl)) (by decide) (by decide)) (g := (mkF m 55 #[.val (.int p0), .val (.int p1), .val (.int p2), .val (.int p3), .val (.int p4), .val (.int fl), .val (.int (Int32.ofNat f)), .val (.int (Int32.ofNat l3)), .val (.ref b378), .unset, .unset, .unset, .unset, .unset, .unset, .unset, .unset, .unset, .unset, .unset] [(.int (1 : Int32)), (.int p3), (.int p2), (.int (5 : Int32)), (.ref b378)])) rfl (by rw [hml]; rfl) (argsL := [(.int p2), (.int p3), (.int (1 : Int32))]) (rest := [(.int (5 : Int32)), (.ref b378)]) (lenOf own_pd7 rfl) rfl (by show 2 * 0 + _ ≤ _; exact Nat.le_of_eq rfl) (hb hby at_55) (fun _ _ => ⟨rfl, e382, (by decide : 1 + 0 ≤ _), (by decide : 8 + 0 ≤ _)⟩)
  dsimp only [Pt.U, Pt.locs, Pt.cells, Pt.slots] at X385 l385 y385 z385 st385 hQ385
  subst l385 y385 z385
  obtain ⟨r_385, rfl, N385q, e385⟩ := hQ385
  have N385 := Fr.app N382 N385q
  refine own_go (S' := T385.setTop (mkF m 58 #[.val (.int p0), .val (.int p1), .val (.int p2), .val (.int p3), .val (.int p4), .val (.int fl), .val (.int (Int32.ofNat f)), .val (.int (Int32.ofNat l3)), .val (.ref b378), .unset, .unset, .unset, .unset, .unset, .unset, .unset, .unset, .unset, .unset, .unset] [(.int r_385), (.int (5 : Int32)), (.ref b378)])) st385 ?_
  obtain ⟨c386, Ar386, S386, M386, H386⟩ := id f383
  have hin386 : ¬ ((5 : Int32) < 0 ∨ c386.slots.size ≤ ((5 : Int32)).toNatClampNeg) := own_in S386 ⟨by decide, by decide⟩
  obtain ⟨T387, h387, X387, e387, W387, st387⟩ := stB X385 hx hZ e385 Ar386 (j := (5 : Int32)) hin386 (g := (mkF m 58 #[.val (.int p0), .val (.int p1), .val (.int p2), .val (.int p3), .val (.int p4), .val (.int fl), .val (.int (Int32.ofNat f)), .val (.int (Int32.ofNat l3)), .val (.ref b378), .unset, .unset, .unset, .unset, .unset, .unset, .unset, .unset, .unset, .unset, .unset] [(.int r_385), (.int (5 : Int32)), (.ref b378)])) rfl rfl (hb hby at_58)
  have f389 : Exa Z h387 b378 "[B" := f384.wr W387
  have f388 : own_AI Z h387 b378 .byte 8 (own_upd (own_upd (fun _ => 0) 4 (nar .byte r_380)) 5 (nar .byte r_385)) := own_AI.set Ar386 S386 M386 H386 W387
  have Z387 : n0 ≤ h387.size := Nat.le_trans Z382 (Keep.of_wr W387).1
  have N387 := Fr.snoc X387 N385 g_b378
  refine own_go (S' := T387.setTop (mkF m 59 #[.val (.int p0), .val (.int p1), .val (.int p2), .val (.int p3), .val (.int p4), .val (.int fl), .val (.int (Int32.ofNat f)), .val (.int (Int32.ofNat l3)), .val (.ref b378), .unset, .unset, .unset, .unset, .unset, .unset, .unset, .unset, .unset, .unset, .unset] [])) st387 ?_
  refine own_go (S' := T387.setTop (mkF m 66 #[.val (.int p0), .val (.int p1), .val (.int p2), .val (.int p3), .val (.int p4), .val (.int fl), .val (.int (Int32.ofNat f)), .val (.int (Int32.ofNat l3)), .val (.ref b378), .unset, .unset, .unset, .unset, .unset, .unset, .unset, .unset, .unset, .unset, .unset] [(.int (2 : Int32)), (.int p3), (.int p2), (.int (6 : Int32)), (.ref b378)])) (fun target kt => ?_) ?_
  · skip
    show Steps p.tables e below (T387.setTop (mkF m 59 #[.val (.int p0), .val (.int p1), .val (.int p2), .val (.int p3), .val (.int p4), .val (.int fl), .val (.int (Int32.ofNat f)), .val (.int (Int32.ofNat l3)), .val (.ref b378), .unset, .unset, .unset, .unset, .unset, .unset, .unset, .unset, .unset, .unset, .unset] [])) _
    refine XS.aload X387.here hx rfl (hb hby at_59) rfl rfl ?_
    show Steps p.tables e below (T387.setTop (mkF m 61 #[.val (.int p0), .val (.int p1), .val (.int p2), .val (.int p3), .val (.int p4), .val (.int fl), .val (.int (Int32.ofNat f)), .val (.int (Int32.ofNat l3)), .val (.ref b378), .unset, .unset, .unset, .unset, .unset, .unset, .unset, .unset, .unset, .unset, .unset] [(.ref b378)])) _
    refine XS.bipush X387.here hx rfl (hb hby at_61) ?_
    show Steps p.tables e below (T387.setTop (mkF m 63 #[.val (.int p0), .val (.int p1), .val (.int p2), .val (.int p3), .val (.int p4), .val (.int fl), .val (.int (Int32.ofNat f)), .val (.int (Int32.ofNat l3)), .val (.ref b378), .unset, .unset, .unset, .unset, .unset, .unset, .unset, .unset, .unset, .unset, .unset] [(.int (6 : Int32)), (.ref b378)])) _
    refine XS.iloadN X387.here hx rfl (hb hby at_63) rfl ?_
    show Steps p.tables e below (T387.setTop (mkF m 64 #[.val (.int p0), .val (.int p1), .val (.int p2), .val (.int p3), .val (.int p4), .val (.int fl), .val (.int (Int32.ofNat f)), .val (.int (Int32.ofNat l3)), .val (.ref b378), .unset, .unset, .unset, .unset, .unset, .unset, .unset, .unset, .unset, .unset, .unset] [(.int p2), (.int (6 : Int32)), (.ref b378)])) _
    refine XS.iloadN X387.here hx rfl (hb hby at_64) rfl ?_
    show Steps p.tables e below (T387.setTop (mkF m 65 #[.val (.int p0), .val (.int p1), .val (.int p2), .val (.int p3), .val (.int p4), .val (.int fl), .val (.int (Int32.ofNat f)), .val (.int (Int32.ofNat l3)), .val (.ref b378), .unset, .unset, .unset, .unset, .unset, .unset, .unset, .unset, .unset, .unset, .unset] [(.int p3), (.int p2), (.int (6 : Int32)), (.ref b378)])) _
    refine XS.iconst X387.here hx rfl (hb hby at_65) ?_
    exact kt
  obtain ⟨_, _, ⟨T390, L390, k390, n390⟩, -, X390, ⟨Lc390, hQ390, l390, y390, z390⟩, st390⟩ := Jvm.LawKit.callS X387 hx (y := (⟨"com/example/long_walk/longwalk/EdgeListLineScanPinLaw", "draw", "(III)B"⟩ : MethodName)) hown (mvT hZ (hw _ (List.mem_of_getElem? (i := 2) rfl))) (mvT hZ (hw _ (List.mem_of_getElem? (i := 3) rfl))) (mvT hZ (hw _ (List.mem_of_getElem? (i := 4) rfl))) (mvT hZ (hw _ (List.mem_of_getElem? (i := 5) rfl))) (by decide) (backOf (W := 2) (rm1 l Z aZ hw [] p2 p3 (2 : Int32) h387 n0 Z387 ) hZ (hw _ (List.mem_of_getElem? (i := 5) rfl)) (hw _ (List.mem_of_getElem? (i := 4) rfl)) (by decide) (by decide)) (g := (mkF m 66 #[.val (.int p0), .val (.int p1), .val (.int p2), .val (.int p3), .val (.int p4), .val (.int fl), .val (.int (Int32.ofNat f)), .val (.int (Int32.ofNat l3)), .val (.ref b378), .unset, .unset, .unset, .unset, .unset, .unset, .unset, .unset, .unset, .unset, .unset] [(.int (2 : Int32)), (.int p3), (.int p2), (.int (6 : Int32)), (.ref b378)])) rfl (by rw [hml]; rfl) (argsL := [(.int p2), (.int p3), (.int (2 : Int32))]) (rest := [(.int (6 : Int32)), (.ref b378)]) (lenOf own_pd7 rfl) rfl (by show 2 * 0 + _ ≤ _; exact Nat.le_of_eq rfl) (hb hby at_66) (fun _ _ => ⟨rfl, e387, (by decide : 1 + 0 ≤ _), (by decide : 8 + 0 ≤ _)⟩)
  dsimp only [Pt.U, Pt.locs, Pt.cells, Pt.slots] at X390 l390 y390 z390 st390 hQ390
  subst l390 y390 z390
  obtain ⟨r_390, rfl, N390q, e390⟩ := hQ390
  have N390 := Fr.app N387 N390q
  refine own_go (S' := T390.setTop (mkF m 69 #[.val (.int p0), .val (.int p1), .val (.int p2), .val (.int p3), .val (.int p4), .val (.int fl), .val (.int (Int32.ofNat f)), .val (.int (Int32.ofNat l3)), .val (.ref b378), .unset, .unset, .unset, .unset, .unset, .unset, .unset, .unset, .unset, .unset, .unset] [(.int r_390), (.int (6 : Int32)), (.ref b378)])) st390 ?_
  obtain ⟨c391, Ar391, S391, M391, H391⟩ := id f388
  have hin391 : ¬ ((6 : Int32) < 0 ∨ c391.slots.size ≤ ((6 : Int32)).toNatClampNeg) := own_in S391 ⟨by decide, by decide⟩
  obtain ⟨T392, h392, X392, e392, W392, st392⟩ := stB X390 hx hZ e390 Ar391 (j := (6 : Int32)) hin391 (g := (mkF m 69 #[.val (.int p0), .val (.int p1), .val (.int p2), .val (.int p3), .val (.int p4), .val (.int fl), .val (.int (Int32.ofNat f)), .val (.int (Int32.ofNat l3)), .val (.ref b378), .unset, .unset, .unset, .unset, .unset, .unset, .unset, .unset, .unset, .unset, .unset] [(.int r_390), (.int (6 : Int32)), (.ref b378)])) rfl rfl (hb hby at_69)
  have f394 : Exa Z h392 b378 "[B" := f389.wr W392
  have f393 : own_AI Z h392 b378 .byte 8 (own_upd (own_upd (own_upd (fun _ => 0) 4 (nar .byte r_380)) 5 (nar .byte r_385)) 6 (nar .byte r_390)) := own_AI.set Ar391 S391 M391 H391 W392
  have Z392 : n0 ≤ h392.size := Nat.le_trans Z387 (Keep.of_wr W392).1
  have N392 := Fr.snoc X392 N390 g_b378
  refine own_go (S' := T392.setTop (mkF m 70 #[.val (.int p0), .val (.int p1), .val (.int p2), .val (.int p3), .val (.int p4), .val (.int fl), .val (.int (Int32.ofNat f)), .val (.int (Int32.ofNat l3)), .val (.ref b378), .unset, .unset, .unset, .unset, .unset, .unset, .unset, .unset, .unset, .unset, .unset] [])) st392 ?_
  refine own_go (S' := T392.setTop (mkF m 77 #[.val (.int p0), .val (.int p1), .val (.int p2), .val (.int p3), .val (.int p4), .val (.int fl), .val (.int (Int32.ofNat f)), .val (.int (Int32.ofNat l3)), .val (.ref b378), .unset, .unset, .unset, .unset, .unset, .unset, .unset, .unset, .unset, .unset, .unset] [(.int (3 : Int32)), (.int p3), (.int p2), (.int (7 : Int32)), (.ref b378)])) (fun target kt => ?_) ?_
  · skip
    show Steps p.tables e below (T392.setTop (mkF m 70 #[.val (.int p0), .val (.int p1), .val (.int p2), .val (.int p3), .val (.int p4), .val (.int fl), .val (.int (Int32.ofNat f)), .val (.int (Int32.ofNat l3)), .val (.ref b378), .unset, .unset, .unset, .unset, .unset, .unset, .unset, .unset, .unset, .unset, .unset] [])) _
    refine XS.aload X392.here hx rfl (hb hby at_70) rfl rfl ?_
    show Steps p.tables e below (T392.setTop (mkF m 72 #[.val (.int p0), .val (.int p1), .val (.int p2), .val (.int p3), .val (.int p4), .val (.int fl), .val (.int (Int32.ofNat f)), .val (.int (Int32.ofNat l3)), .val (.ref b378), .unset, .unset, .unset, .unset, .unset, .unset, .unset, .unset, .unset, .unset, .unset] [(.ref b378)])) _
    refine XS.bipush X392.here hx rfl (hb hby at_72) ?_
    show Steps p.tables e below (T392.setTop (mkF m 74 #[.val (.int p0), .val (.int p1), .val (.int p2), .val (.int p3), .val (.int p4), .val (.int fl), .val (.int (Int32.ofNat f)), .val (.int (Int32.ofNat l3)), .val (.ref b378), .unset, .unset, .unset, .unset, .unset, .unset, .unset, .unset, .unset, .unset, .unset] [(.int (7 : Int32)), (.ref b378)])) _
    refine XS.iloadN X392.here hx rfl (hb hby at_74) rfl ?_
    show Steps p.tables e below (T392.setTop (mkF m 75 #[.val (.int p0), .val (.int p1), .val (.int p2), .val (.int p3), .val (.int p4), .val (.int fl), .val (.int (Int32.ofNat f)), .val (.int (Int32.ofNat l3)), .val (.ref b378), .unset, .unset, .unset, .unset, .unset, .unset, .unset, .unset, .unset, .unset, .unset] [(.int p2), (.int (7 : Int32)), (.ref b378)])) _
    refine XS.iloadN X392.here hx rfl (hb hby at_75) rfl ?_
    show Steps p.tables e below (T392.setTop (mkF m 76 #[.val (.int p0), .val (.int p1), .val (.int p2), .val (.int p3), .val (.int p4), .val (.int fl), .val (.int (Int32.ofNat f)), .val (.int (Int32.ofNat l3)), .val (.ref b378), .unset, .unset, .unset, .unset, .unset, .unset, .unset, .unset, .unset, .unset, .unset] [(.int p3), (.int p2), (.int (7 : Int32)), (.ref b378)])) _
    refine XS.iconst X392.here hx rfl (hb hby at_76) ?_
    exact kt
  obtain ⟨_, _, ⟨T395, L395, k395, n395⟩, -, X395, ⟨Lc395, hQ395, l395, y395, z395⟩, st395⟩ := Jvm.LawKit.callS X392 hx (y := (⟨"com/example/long_walk/longwalk/EdgeListLineScanPinLaw", "draw", "(III)B"⟩ : MethodName)) hown (mvT hZ (hw _ (List.mem_of_getElem? (i := 2) rfl))) (mvT hZ (hw _ (List.mem_of_getElem? (i := 3) rfl))) (mvT hZ (hw _ (List.mem_of_getElem? (i := 4) rfl))) (mvT hZ (hw _ (List.mem_of_getElem? (i := 5) rfl))) (by decide) (backOf (W := 2) (rm1 l Z aZ hw [] p2 p3 (3 : Int32) h392 n0 Z392 ) hZ (hw _ (List.mem_of_getElem? (i := 5) rfl)) (hw _ (List.mem_of_getElem? (i := 4) rfl)) (by decide) (by decide)) (g := (mkF m 77 #[.val (.int p0), .val (.int p1), .val (.int p2), .val (.int p3), .val (.int p4), .val (.int fl), .val (.int (Int32.ofNat f)), .val (.int (Int32.ofNat l3)), .val (.ref b378), .unset, .unset, .unset, .unset, .unset, .unset, .unset, .unset, .unset, .unset, .unset] [(.int (3 : Int32)), (.int p3), (.int p2), (.int (7 : Int32)), (.ref b378)])) rfl (by rw [hml]; rfl) (argsL := [(.int p2), (.int p3), (.int (3 : Int32))]) (rest := [(.int (7 : Int32)), (.ref b378)]) (lenOf own_pd7 rfl) rfl (by show 2 * 0 + _ ≤ _; exact Nat.le_of_eq rfl) (hb hby at_77) (fun _ _ => ⟨rfl, e392, (by decide : 1 + 0 ≤ _), (by decide : 8 + 0 ≤ _)⟩)
  dsimp only [Pt.U, Pt.locs, Pt.cells, Pt.slots] at X395 l395 y395 z395 st395 hQ395
  subst l395 y395 z395
  obtain ⟨r_395, rfl, N395q, e395⟩ := hQ395
  have N395 := Fr.app N392 N395q
  refine own_go (S' := T395.setTop (mkF m 80 #[.val (.int p0), .val (.int p1), .val (.int p2), .val (.int p3), .val (.int p4), .val (.int fl), .val (.int (Int32.ofNat f)), .val (.int (Int32.ofNat l3)), .val (.ref b378), .unset, .unset, .unset, .unset, .unset, .unset, .unset, .unset, .unset, .unset, .unset] [(.int r_395), (.int (7 : Int32)), (.ref b378)])) st395 ?_
  obtain ⟨c396, Ar396, S396, M396, H396⟩ := id f393
  have hin396 : ¬ ((7 : Int32) < 0 ∨ c396.slots.size ≤ ((7 : Int32)).toNatClampNeg) := own_in S396 ⟨by decide, by decide⟩
  obtain ⟨T397, h397, X397, e397, W397, st397⟩ := stB X395 hx hZ e395 Ar396 (j := (7 : Int32)) hin396 (g := (mkF m 80 #[.val (.int p0), .val (.int p1), .val (.int p2), .val (.int p3), .val (.int p4), .val (.int fl), .val (.int (Int32.ofNat f)), .val (.int (Int32.ofNat l3)), .val (.ref b378), .unset, .unset, .unset, .unset, .unset, .unset, .unset, .unset, .unset, .unset, .unset] [(.int r_395), (.int (7 : Int32)), (.ref b378)])) rfl rfl (hb hby at_80)
  have f399 : Exa Z h397 b378 "[B" := f394.wr W397
  have f398 : own_AI Z h397 b378 .byte 8 (own_upd (own_upd (own_upd (own_upd (fun _ => 0) 4 (nar .byte r_380)) 5 (nar .byte r_385)) 6 (nar .byte r_390)) 7 (nar .byte r_395)) := own_AI.set Ar396 S396 M396 H396 W397
  have Z397 : n0 ≤ h397.size := Nat.le_trans Z392 (Keep.of_wr W397).1
  have N397 := Fr.snoc X397 N395 g_b378
  refine own_go (S' := T397.setTop (mkF m 81 #[.val (.int p0), .val (.int p1), .val (.int p2), .val (.int p3), .val (.int p4), .val (.int fl), .val (.int (Int32.ofNat f)), .val (.int (Int32.ofNat l3)), .val (.ref b378), .unset, .unset, .unset, .unset, .unset, .unset, .unset, .unset, .unset, .unset, .unset] [])) st397 ?_
  obtain ⟨G, h_G⟩ : ∃ z : Nat → Int32, z = (own_upd (own_upd (own_upd (own_upd (fun _ => 0) 4 (nar .byte r_380)) 5 (nar .byte r_385)) 6 (nar .byte r_390)) 7 (nar .byte r_395)) := ⟨_, rfl⟩
  rw [← h_G] at f398
  refine own_go (S' := T397.setTop (mkF m 83 #[.val (.int p0), .val (.int p1), .val (.int p2), .val (.int p3), .val (.int p4), .val (.int fl), .val (.int (Int32.ofNat f)), .val (.int (Int32.ofNat l3)), .val (.ref b378), .unset, .unset, .unset, .unset, .unset, .unset, .unset, .unset, .unset, .unset, .unset] [(.int fl)])) (fun target kt => ?_) ?_
  · skip
    show Steps p.tables e below (T397.setTop (mkF m 81 #[.val (.int p0), .val (.int p1), .val (.int p2), .val (.int p3), .val (.int p4), .val (.int fl), .val (.int (Int32.ofNat f)), .val (.int (Int32.ofNat l3)), .val (.ref b378), .unset, .unset, .unset, .unset, .unset, .unset, .unset, .unset, .unset, .unset, .unset] [])) _
    refine XS.iload X397.here hx rfl (hb hby at_81) rfl ?_
    exact kt
  obtain ⟨⟨T400, L400, en⟩, ⟨X400, e400, N400, h_en⟩, st400⟩ : ∃ x : State × List Loc × Int32, (Stand p l e room_1 s m #[(.int p0), (.int p1), (.int p2), (.int p3), (.int p4)] below meth c x.1 x.2.1 1 8 ∧ x.1.heap = h397 ∧ Fr n0 x.2.1 ∧ x.2.2 = (if fl = (0 : Int32) then (own_max (Int32.ofNat f) (Int32.ofNat l3)) else (own_first (Int32.ofNat f) (Int32.ofNat l3) (10 : Int32) G))) ∧ ∀ target, Steps p.tables e below (x.1.setTop (mkF m 107 #[.val (.int p0), .val (.int p1), .val (.int p2), .val (.int p3), .val (.int p4), .val (.int fl), .val (.int (Int32.ofNat f)), .val (.int (Int32.ofNat l3)), .val (.ref b378), .unset, .unset, .unset, .unset, .unset, .unset, .unset, .unset, .unset, .unset, .unset] [(.int x.2.2)])) target → Steps p.tables e below (T397.setTop (mkF m 83 #[.val (.int p0), .val (.int p1), .val (.int p2), .val (.int p3), .val (.int p4), .val (.int fl), .val (.int (Int32.ofNat f)), .val (.int (Int32.ofNat l3)), .val (.ref b378), .unset, .unset, .unset, .unset, .unset, .unset, .unset, .unset, .unset, .unset, .unset] [(.int fl)])) target := by
    by_cases hc83 : fl = (0 : Int32)
    · skip
      refine own_goR (S' := T397.setTop (mkF m 104 #[.val (.int p0), .val (.int p1), .val (.int p2), .val (.int p3), .val (.int p4), .val (.int fl), .val (.int (Int32.ofNat f)), .val (.int (Int32.ofNat l3)), .val (.ref b378), .unset, .unset, .unset, .unset, .unset, .unset, .unset, .unset, .unset, .unset, .unset] [(.int (Int32.ofNat l3)), (.int (Int32.ofNat f))])) (fun target kt => ?_) ?_
      · skip
        show Steps p.tables e below (T397.setTop (mkF m 83 #[.val (.int p0), .val (.int p1), .val (.int p2), .val (.int p3), .val (.int p4), .val (.int fl), .val (.int (Int32.ofNat f)), .val (.int (Int32.ofNat l3)), .val (.ref b378), .unset, .unset, .unset, .unset, .unset, .unset, .unset, .unset, .unset, .unset, .unset] [(.int fl)])) _
        refine XS.ifYes X397.here hx rfl (pc0 := 83) (pc' := 100) rfl (hb hby at_83) rfl ((if0 _ _).trans (teq hc83).1) (by decide) (by decide) ?_
        show Steps p.tables e below (T397.setTop (mkF m 100 #[.val (.int p0), .val (.int p1), .val (.int p2), .val (.int p3), .val (.int p4), .val (.int fl), .val (.int (Int32.ofNat f)), .val (.int (Int32.ofNat l3)), .val (.ref b378), .unset, .unset, .unset, .unset, .unset, .unset, .unset, .unset, .unset, .unset, .unset] [])) _
        refine XS.iload X397.here hx rfl (hb hby at_100) rfl ?_
        show Steps p.tables e below (T397.setTop (mkF m 102 #[.val (.int p0), .val (.int p1), .val (.int p2), .val (.int p3), .val (.int p4), .val (.int fl), .val (.int (Int32.ofNat f)), .val (.int (Int32.ofNat l3)), .val (.ref b378), .unset, .unset, .unset, .unset, .unset, .unset, .unset, .unset, .unset, .unset, .unset] [(.int (Int32.ofNat f))])) _
        refine XS.iload X397.here hx rfl (hb hby at_102) rfl ?_
        exact kt
      obtain ⟨_, _, ⟨T401, L401, k401, n401⟩, -, X401, ⟨Lc401, hQ401, l401, y401, z401⟩, st401⟩ := Jvm.LawKit.callS X397 hx (y := (⟨"java/lang/Math", "max", "(II)I"⟩ : MethodName)) hown (mvT hZ (hw _ (List.mem_of_getElem? (i := 6) rfl))) (mvT hZ (hw _ (List.mem_of_getElem? (i := 7) rfl))) (mvT hZ (hw _ (List.mem_of_getElem? (i := 8) rfl))) (mvT hZ (hw _ (List.mem_of_getElem? (i := 9) rfl))) (by decide) (backOf (W := 0) (rm2 l Z aZ hw [] (Int32.ofNat f) (Int32.ofNat l3) h397 n0 Z397 ) hZ (hw _ (List.mem_of_getElem? (i := 9) rfl)) (hw _ (List.mem_of_getElem? (i := 8) rfl)) (by decide) (by decide)) (g := (mkF m 104 #[.val (.int p0), .val (.int p1), .val (.int p2), .val (.int p3), .val (.int p4), .val (.int fl), .val (.int (Int32.ofNat f)), .val (.int (Int32.ofNat l3)), .val (.ref b378), .unset, .unset, .unset, .unset, .unset, .unset, .unset, .unset, .unset, .unset, .unset] [(.int (Int32.ofNat l3)), (.int (Int32.ofNat f))])) rfl (by rw [hml]; rfl) (argsL := [(.int (Int32.ofNat f)), (.int (Int32.ofNat l3))]) (rest := []) (lenOf own_pd0 rfl) rfl (by show 2 * 0 + _ ≤ _; exact Nat.le_of_eq rfl) (hb hby at_104) (fun _ _ => ⟨rfl, e397, (by decide : 1 + 0 ≤ _), (by decide : 8 + 0 ≤ _)⟩)
      dsimp only [Pt.U, Pt.locs, Pt.cells, Pt.slots] at X401 l401 y401 z401 st401 hQ401
      subst l401 y401 z401
      obtain ⟨rfl, N401q, e401⟩ := hQ401
      have N401 := Fr.app N397 N401q
      refine own_goR (S' := T401.setTop (mkF m 107 #[.val (.int p0), .val (.int p1), .val (.int p2), .val (.int p3), .val (.int p4), .val (.int fl), .val (.int (Int32.ofNat f)), .val (.int (Int32.ofNat l3)), .val (.ref b378), .unset, .unset, .unset, .unset, .unset, .unset, .unset, .unset, .unset, .unset, .unset] [(.int (own_max (Int32.ofNat f) (Int32.ofNat l3)))])) st401 ?_
      exact ⟨(T401, _, (own_max (Int32.ofNat f) (Int32.ofNat l3))), ⟨X401, e401, N401, (by show (own_max (Int32.ofNat f) (Int32.ofNat l3)) = (if fl = (0 : Int32) then (own_max (Int32.ofNat f) (Int32.ofNat l3)) else (own_first (Int32.ofNat f) (Int32.ofNat l3) (10 : Int32) G)); rw [if_pos hc83])⟩, fun _ k => k⟩
    · skip
      refine own_goR (S' := T397.setTop (mkF m 94 #[.val (.int p0), .val (.int p1), .val (.int p2), .val (.int p3), .val (.int p4), .val (.int fl), .val (.int (Int32.ofNat f)), .val (.int (Int32.ofNat l3)), .val (.ref b378), .unset, .unset, .unset, .unset, .unset, .unset, .unset, .unset, .unset, .unset, .unset] [(.int (10 : Int32)), (.int (Int32.ofNat l3)), (.int (Int32.ofNat f)), (.ref b378)])) (fun target kt => ?_) ?_
      · skip
        show Steps p.tables e below (T397.setTop (mkF m 83 #[.val (.int p0), .val (.int p1), .val (.int p2), .val (.int p3), .val (.int p4), .val (.int fl), .val (.int (Int32.ofNat f)), .val (.int (Int32.ofNat l3)), .val (.ref b378), .unset, .unset, .unset, .unset, .unset, .unset, .unset, .unset, .unset, .unset, .unset] [(.int fl)])) _
        refine XS.ifNo X397.here hx rfl (hb hby at_83) rfl ((if0 _ _).trans (feq hc83).1) ?_
        show Steps p.tables e below (T397.setTop (mkF m 86 #[.val (.int p0), .val (.int p1), .val (.int p2), .val (.int p3), .val (.int p4), .val (.int fl), .val (.int (Int32.ofNat f)), .val (.int (Int32.ofNat l3)), .val (.ref b378), .unset, .unset, .unset, .unset, .unset, .unset, .unset, .unset, .unset, .unset, .unset] [])) _
        refine XS.aload X397.here hx rfl (hb hby at_86) rfl rfl ?_
        show Steps p.tables e below (T397.setTop (mkF m 88 #[.val (.int p0), .val (.int p1), .val (.int p2), .val (.int p3), .val (.int p4), .val (.int fl), .val (.int (Int32.ofNat f)), .val (.int (Int32.ofNat l3)), .val (.ref b378), .unset, .unset, .unset, .unset, .unset, .unset, .unset, .unset, .unset, .unset, .unset] [(.ref b378)])) _
        refine XS.iload X397.here hx rfl (hb hby at_88) rfl ?_
        show Steps p.tables e below (T397.setTop (mkF m 90 #[.val (.int p0), .val (.int p1), .val (.int p2), .val (.int p3), .val (.int p4), .val (.int fl), .val (.int (Int32.ofNat f)), .val (.int (Int32.ofNat l3)), .val (.ref b378), .unset, .unset, .unset, .unset, .unset, .unset, .unset, .unset, .unset, .unset, .unset] [(.int (Int32.ofNat f)), (.ref b378)])) _
        refine XS.iload X397.here hx rfl (hb hby at_90) rfl ?_
        show Steps p.tables e below (T397.setTop (mkF m 92 #[.val (.int p0), .val (.int p1), .val (.int p2), .val (.int p3), .val (.int p4), .val (.int fl), .val (.int (Int32.ofNat f)), .val (.int (Int32.ofNat l3)), .val (.ref b378), .unset, .unset, .unset, .unset, .unset, .unset, .unset, .unset, .unset, .unset, .unset] [(.int (Int32.ofNat l3)), (.int (Int32.ofNat f)), (.ref b378)])) _
        refine XS.bipush X397.here hx rfl (hb hby at_92) ?_
        exact kt
      obtain ⟨_, _, ⟨T402, L402, k402, n402⟩, -, X402, ⟨Lc402, hQ402, l402, y402, z402⟩, st402⟩ := Jvm.LawKit.callS X397 hx (y := (⟨"com/example/long_walk/longwalk/EdgeListLineScanPinLaw", "firstIndex", "([BIII)I"⟩ : MethodName)) hown (mvT hZ (hw _ (List.mem_of_getElem? (i := 10) rfl))) (mvT hZ (hw _ (List.mem_of_getElem? (i := 11) rfl))) (mvT hZ (hw _ (List.mem_of_getElem? (i := 4) rfl))) (mvT hZ (hw _ (List.mem_of_getElem? (i := 12) rfl))) (by decide) (backOf (W := 0) (rm3 l Z aZ hw [] b378 (Int32.ofNat f) (Int32.ofNat l3) (10 : Int32) G h397 n0 Z397 f398) hZ (hw _ (List.mem_of_getElem? (i := 12) rfl)) (hw _ (List.mem_of_getElem? (i := 4) rfl)) (by decide) (by decide)) (g := (mkF m 94 #[.val (.int p0), .val (.int p1), .val (.int p2), .val (.int p3), .val (.int p4), .val (.int fl), .val (.int (Int32.ofNat f)), .val (.int (Int32.ofNat l3)), .val (.ref b378), .unset, .unset, .unset, .unset, .unset, .unset, .unset, .unset, .unset, .unset, .unset] [(.int (10 : Int32)), (.int (Int32.ofNat l3)), (.int (Int32.ofNat f)), (.ref b378)])) rfl (by rw [hml]; rfl) (argsL := [(.ref b378), (.int (Int32.ofNat f)), (.int (Int32.ofNat l3)), (.int (10 : Int32))]) (rest := []) (lenOf own_pd8 rfl) rfl (by show 2 * 0 + _ ≤ _; exact Nat.le_of_eq rfl) (hb hby at_94) (fun _ _ => ⟨rfl, e397, (by decide : 1 + 0 ≤ _), (by decide : 8 + 0 ≤ _)⟩)
      dsimp only [Pt.U, Pt.locs, Pt.cells, Pt.slots] at X402 l402 y402 z402 st402 hQ402
      subst l402 y402 z402
      obtain ⟨rfl, N402q, e402⟩ := hQ402
      have N402 := Fr.app N397 N402q
      refine own_goR (S' := T402.setTop (mkF m 97 #[.val (.int p0), .val (.int p1), .val (.int p2), .val (.int p3), .val (.int p4), .val (.int fl), .val (.int (Int32.ofNat f)), .val (.int (Int32.ofNat l3)), .val (.ref b378), .unset, .unset, .unset, .unset, .unset, .unset, .unset, .unset, .unset, .unset, .unset] [(.int (own_first (Int32.ofNat f) (Int32.ofNat l3) (10 : Int32) G))])) st402 ?_
      refine own_goR (S' := T402.setTop (mkF m 107 #[.val (.int p0), .val (.int p1), .val (.int p2), .val (.int p3), .val (.int p4), .val (.int fl), .val (.int (Int32.ofNat f)), .val (.int (Int32.ofNat l3)), .val (.ref b378), .unset, .unset, .unset, .unset, .unset, .unset, .unset, .unset, .unset, .unset, .unset] [(.int (own_first (Int32.ofNat f) (Int32.ofNat l3) (10 : Int32) G))])) (fun target kt => ?_) ?_
      · skip
        show Steps p.tables e below (T402.setTop (mkF m 97 #[.val (.int p0), .val (.int p1), .val (.int p2), .val (.int p3), .val (.int p4), .val (.int fl), .val (.int (Int32.ofNat f)), .val (.int (Int32.ofNat l3)), .val (.ref b378), .unset, .unset, .unset, .unset, .unset, .unset, .unset, .unset, .unset, .unset, .unset] [(.int (own_first (Int32.ofNat f) (Int32.ofNat l3) (10 : Int32) G))])) _
        refine XS.goto X402.here hx rfl (pc0 := 97) (pc' := 107) rfl (hb hby at_97) (by decide) (by decide) ?_
        exact kt
      exact ⟨(T402, _, (own_first (Int32.ofNat f) (Int32.ofNat l3) (10 : Int32) G)), ⟨X402, e402, N402, (by show (own_first (Int32.ofNat f) (Int32.ofNat l3) (10 : Int32) G) = (if fl = (0 : Int32) then (own_max (Int32.ofNat f) (Int32.ofNat l3)) else (own_first (Int32.ofNat f) (Int32.ofNat l3) (10 : Int32) G)); rw [if_neg hc83])⟩, fun _ k => k⟩
  dsimp only at X400 e400 N400 h_en st400
  refine own_go (S' := T400.setTop (mkF m 107 #[.val (.int p0), .val (.int p1), .val (.int p2), .val (.int p3), .val (.int p4), .val (.int fl), .val (.int (Int32.ofNat f)), .val (.int (Int32.ofNat l3)), .val (.ref b378), .unset, .unset, .unset, .unset, .unset, .unset, .unset, .unset, .unset, .unset, .unset] [(.int en)])) st400 ?_
  obtain ⟨E, hE⟩ : ∃ E, E = own_stop G fl (l3 - f) f := ⟨_, rfl⟩
  have hEb := own_Eb h4 hf8 hl8 hE
  have hb_en : en = (Int32.ofNat E) := own_enp h4 hf8 hl8 hE h_en
  subst hb_en
  refine own_go (S' := T400.setTop (mkF m 117 #[.val (.int p0), .val (.int p1), .val (.int p2), .val (.int p3), .val (.int p4), .val (.int fl), .val (.int (Int32.ofNat f)), .val (.int (Int32.ofNat l3)), .val (.ref b378), .val (.int (Int32.ofNat E)), .unset, .unset, .unset, .unset, .unset, .unset, .unset, .unset, .unset, .unset] [(.int (9 : Int32)), (.int (Int32.ofNat E)), (.int (Int32.ofNat f)), (.ref b378)])) (fun target kt => ?_) ?_
  · skip
    show Steps p.tables e below (T400.setTop (mkF m 107 #[.val (.int p0), .val (.int p1), .val (.int p2), .val (.int p3), .val (.int p4), .val (.int fl), .val (.int (Int32.ofNat f)), .val (.int (Int32.ofNat l3)), .val (.ref b378), .unset, .unset, .unset, .unset, .unset, .unset, .unset, .unset, .unset, .unset, .unset] [(.int (Int32.ofNat E))])) _
    refine XS.istore X400.here hx rfl (hb hby at_107) rfl (l' := #[.val (.int p0), .val (.int p1), .val (.int p2), .val (.int p3), .val (.int p4), .val (.int fl), .val (.int (Int32.ofNat f)), .val (.int (Int32.ofNat l3)), .val (.ref b378), .val (.int (Int32.ofNat E)), .unset, .unset, .unset, .unset, .unset, .unset, .unset, .unset, .unset, .unset]) rfl ?_
    show Steps p.tables e below (T400.setTop (mkF m 109 #[.val (.int p0), .val (.int p1), .val (.int p2), .val (.int p3), .val (.int p4), .val (.int fl), .val (.int (Int32.ofNat f)), .val (.int (Int32.ofNat l3)), .val (.ref b378), .val (.int (Int32.ofNat E)), .unset, .unset, .unset, .unset, .unset, .unset, .unset, .unset, .unset, .unset] [])) _
    refine XS.aload X400.here hx rfl (hb hby at_109) rfl rfl ?_
    show Steps p.tables e below (T400.setTop (mkF m 111 #[.val (.int p0), .val (.int p1), .val (.int p2), .val (.int p3), .val (.int p4), .val (.int fl), .val (.int (Int32.ofNat f)), .val (.int (Int32.ofNat l3)), .val (.ref b378), .val (.int (Int32.ofNat E)), .unset, .unset, .unset, .unset, .unset, .unset, .unset, .unset, .unset, .unset] [(.ref b378)])) _
    refine XS.iload X400.here hx rfl (hb hby at_111) rfl ?_
    show Steps p.tables e below (T400.setTop (mkF m 113 #[.val (.int p0), .val (.int p1), .val (.int p2), .val (.int p3), .val (.int p4), .val (.int fl), .val (.int (Int32.ofNat f)), .val (.int (Int32.ofNat l3)), .val (.ref b378), .val (.int (Int32.ofNat E)), .unset, .unset, .unset, .unset, .unset, .unset, .unset, .unset, .unset, .unset] [(.int (Int32.ofNat f)), (.ref b378)])) _
    refine XS.iload X400.here hx rfl (hb hby at_113) rfl ?_
    show Steps p.tables e below (T400.setTop (mkF m 115 #[.val (.int p0), .val (.int p1), .val (.int p2), .val (.int p3), .val (.int p4), .val (.int fl), .val (.int (Int32.ofNat f)), .val (.int (Int32.ofNat l3)), .val (.ref b378), .val (.int (Int32.ofNat E)), .unset, .unset, .unset, .unset, .unset, .unset, .unset, .unset, .unset, .unset] [(.int (Int32.ofNat E)), (.int (Int32.ofNat f)), (.ref b378)])) _
    refine XS.bipush X400.here hx rfl (hb hby at_115) ?_
    exact kt
  obtain ⟨_, _, ⟨T403, L403, k403, n403⟩, -, X403, ⟨Lc403, hQ403, l403, y403, z403⟩, st403⟩ := Jvm.LawKit.callS X400 hx (y := (⟨"com/example/long_walk/longwalk/EdgeListLineScanPinLaw", "firstIndex", "([BIII)I"⟩ : MethodName)) hown (mvT hZ (hw _ (List.mem_of_getElem? (i := 10) rfl))) (mvT hZ (hw _ (List.mem_of_getElem? (i := 11) rfl))) (mvT hZ (hw _ (List.mem_of_getElem? (i := 4) rfl))) (mvT hZ (hw _ (List.mem_of_getElem? (i := 12) rfl))) (by decide) (backOf (W := 0) (rm3 l Z aZ hw [] b378 (Int32.ofNat f) (Int32.ofNat E) (9 : Int32) G h397 n0 Z397 f398) hZ (hw _ (List.mem_of_getElem? (i := 12) rfl)) (hw _ (List.mem_of_getElem? (i := 4) rfl)) (by decide) (by decide)) (g := (mkF m 117 #[.val (.int p0), .val (.int p1), .val (.int p2), .val (.int p3), .val (.int p4), .val (.int fl), .val (.int (Int32.ofNat f)), .val (.int (Int32.ofNat l3)), .val (.ref b378), .val (.int (Int32.ofNat E)), .unset, .unset, .unset, .unset, .unset, .unset, .unset, .unset, .unset, .unset] [(.int (9 : Int32)), (.int (Int32.ofNat E)), (.int (Int32.ofNat f)), (.ref b378)])) rfl (by rw [hml]; rfl) (argsL := [(.ref b378), (.int (Int32.ofNat f)), (.int (Int32.ofNat E)), (.int (9 : Int32))]) (rest := []) (lenOf own_pd8 rfl) rfl (by show 2 * 0 + _ ≤ _; exact Nat.le_of_eq rfl) (hb hby at_117) (fun _ _ => ⟨rfl, e400, (by decide : 1 + 0 ≤ _), (by decide : 8 + 0 ≤ _)⟩)
  dsimp only [Pt.U, Pt.locs, Pt.cells, Pt.slots] at X403 l403 y403 z403 st403 hQ403
  subst l403 y403 z403
  obtain ⟨rfl, N403q, e403⟩ := hQ403
  have N403 := Fr.app N400 N403q
  refine own_go (S' := T403.setTop (mkF m 120 #[.val (.int p0), .val (.int p1), .val (.int p2), .val (.int p3), .val (.int p4), .val (.int fl), .val (.int (Int32.ofNat f)), .val (.int (Int32.ofNat l3)), .val (.ref b378), .val (.int (Int32.ofNat E)), .unset, .unset, .unset, .unset, .unset, .unset, .unset, .unset, .unset, .unset] [(.int (own_first (Int32.ofNat f) (Int32.ofNat E) (9 : Int32) G))])) st403 ?_
  obtain ⟨t1, h_t1⟩ : ∃ z : Int32, z = (own_first (Int32.ofNat f) (Int32.ofNat E) (9 : Int32) G) := ⟨_, rfl⟩
  refine own_go (S' := T403.setTop (mkF m 122 #[.val (.int p0), .val (.int p1), .val (.int p2), .val (.int p3), .val (.int p4), .val (.int fl), .val (.int (Int32.ofNat f)), .val (.int (Int32.ofNat l3)), .val (.ref b378), .val (.int (Int32.ofNat E)), .val (.int t1), .unset, .unset, .unset, .unset, .unset, .unset, .unset, .unset, .unset] [])) (fun target kt => ?_) ?_
  · subst h_t1
    show Steps p.tables e below (T403.setTop (mkF m 120 #[.val (.int p0), .val (.int p1), .val (.int p2), .val (.int p3), .val (.int p4), .val (.int fl), .val (.int (Int32.ofNat f)), .val (.int (Int32.ofNat l3)), .val (.ref b378), .val (.int (Int32.ofNat E)), .unset, .unset, .unset, .unset, .unset, .unset, .unset, .unset, .unset, .unset] [(.int (own_first (Int32.ofNat f) (Int32.ofNat E) (9 : Int32) G))])) _
    refine XS.istore X403.here hx rfl (hb hby at_120) rfl (l' := #[.val (.int p0), .val (.int p1), .val (.int p2), .val (.int p3), .val (.int p4), .val (.int fl), .val (.int (Int32.ofNat f)), .val (.int (Int32.ofNat l3)), .val (.ref b378), .val (.int (Int32.ofNat E)), .val (.int (own_first (Int32.ofNat f) (Int32.ofNat E) (9 : Int32) G)), .unset, .unset, .unset, .unset, .unset, .unset, .unset, .unset, .unset]) rfl ?_
    exact kt
  obtain ⟨T1, hT1⟩ : ∃ T, T = own_fi G (9 : Int32) (E - f) f := ⟨_, rfl⟩
  have hTb := own_T1b hEb hT1
  have hb_t1 : t1 = (Int32.ofNat T1) := own_t1p h4 hf8 hEb hT1 h_t1
  subst hb_t1
  refine own_go (S' := T403.setTop (mkF m 126 #[.val (.int p0), .val (.int p1), .val (.int p2), .val (.int p3), .val (.int p4), .val (.int fl), .val (.int (Int32.ofNat f)), .val (.int (Int32.ofNat l3)), .val (.ref b378), .val (.int (Int32.ofNat E)), .val (.int (Int32.ofNat T1)), .unset, .unset, .unset, .unset, .unset, .unset, .unset, .unset, .unset] [(.int (Int32.ofNat E)), (.int (Int32.ofNat T1))])) (fun target kt => ?_) ?_
  · skip
    show Steps p.tables e below (T403.setTop (mkF m 122 #[.val (.int p0), .val (.int p1), .val (.int p2), .val (.int p3), .val (.int p4), .val (.int fl), .val (.int (Int32.ofNat f)), .val (.int (Int32.ofNat l3)), .val (.ref b378), .val (.int (Int32.ofNat E)), .val (.int (Int32.ofNat T1)), .unset, .unset, .unset, .unset, .unset, .unset, .unset, .unset, .unset] [])) _
    refine XS.iload X403.here hx rfl (hb hby at_122) rfl ?_
    show Steps p.tables e below (T403.setTop (mkF m 124 #[.val (.int p0), .val (.int p1), .val (.int p2), .val (.int p3), .val (.int p4), .val (.int fl), .val (.int (Int32.ofNat f)), .val (.int (Int32.ofNat l3)), .val (.ref b378), .val (.int (Int32.ofNat E)), .val (.int (Int32.ofNat T1)), .unset, .unset, .unset, .unset, .unset, .unset, .unset, .unset, .unset] [(.int (Int32.ofNat T1))])) _
    refine XS.iload X403.here hx rfl (hb hby at_124) rfl ?_
    exact kt
  obtain ⟨⟨T404, L404, t2⟩, ⟨X404, e404, N404, h_t2⟩, st404⟩ : ∃ x : State × List Loc × Int32, (Stand p l e room_1 s m #[(.int p0), (.int p1), (.int p2), (.int p3), (.int p4)] below meth c x.1 x.2.1 1 8 ∧ x.1.heap = h397 ∧ Fr n0 x.2.1 ∧ x.2.2 = (if (Int32.ofNat T1) < (Int32.ofNat E) then (own_first ((Int32.ofNat T1) + (1 : Int32)) (Int32.ofNat E) (9 : Int32) G) else (Int32.ofNat E))) ∧ ∀ target, Steps p.tables e below (x.1.setTop (mkF m 147 #[.val (.int p0), .val (.int p1), .val (.int p2), .val (.int p3), .val (.int p4), .val (.int fl), .val (.int (Int32.ofNat f)), .val (.int (Int32.ofNat l3)), .val (.ref b378), .val (.int (Int32.ofNat E)), .val (.int (Int32.ofNat T1)), .unset, .unset, .unset, .unset, .unset, .unset, .unset, .unset, .unset] [(.int x.2.2)])) target → Steps p.tables e below (T403.setTop (mkF m 126 #[.val (.int p0), .val (.int p1), .val (.int p2), .val (.int p3), .val (.int p4), .val (.int fl), .val (.int (Int32.ofNat f)), .val (.int (Int32.ofNat l3)), .val (.ref b378), .val (.int (Int32.ofNat E)), .val (.int (Int32.ofNat T1)), .unset, .unset, .unset, .unset, .unset, .unset, .unset, .unset, .unset] [(.int (Int32.ofNat E)), (.int (Int32.ofNat T1))])) target := by
    by_cases hc126 : (Int32.ofNat T1) < (Int32.ofNat E)
    · skip
      refine own_goR (S' := T403.setTop (mkF m 139 #[.val (.int p0), .val (.int p1), .val (.int p2), .val (.int p3), .val (.int p4), .val (.int fl), .val (.int (Int32.ofNat f)), .val (.int (Int32.ofNat l3)), .val (.ref b378), .val (.int (Int32.ofNat E)), .val (.int (Int32.ofNat T1)), .unset, .unset, .unset, .unset, .unset, .unset, .unset, .unset, .unset] [(.int (9 : Int32)), (.int (Int32.ofNat E)), (.int ((Int32.ofNat T1) + (1 : Int32))), (.ref b378)])) (fun target kt => ?_) ?_
      · skip
        show Steps p.tables e below (T403.setTop (mkF m 126 #[.val (.int p0), .val (.int p1), .val (.int p2), .val (.int p3), .val (.int p4), .val (.int fl), .val (.int (Int32.ofNat f)), .val (.int (Int32.ofNat l3)), .val (.ref b378), .val (.int (Int32.ofNat E)), .val (.int (Int32.ofNat T1)), .unset, .unset, .unset, .unset, .unset, .unset, .unset, .unset, .unset] [(.int (Int32.ofNat E)), (.int (Int32.ofNat T1))])) _
        refine XS.icmpNo X403.here hx rfl (hb hby at_126) rfl (tlt hc126).2.1 ?_
        show Steps p.tables e below (T403.setTop (mkF m 129 #[.val (.int p0), .val (.int p1), .val (.int p2), .val (.int p3), .val (.int p4), .val (.int fl), .val (.int (Int32.ofNat f)), .val (.int (Int32.ofNat l3)), .val (.ref b378), .val (.int (Int32.ofNat E)), .val (.int (Int32.ofNat T1)), .unset, .unset, .unset, .unset, .unset, .unset, .unset, .unset, .unset] [])) _
        refine XS.aload X403.here hx rfl (hb hby at_129) rfl rfl ?_
        show Steps p.tables e below (T403.setTop (mkF m 131 #[.val (.int p0), .val (.int p1), .val (.int p2), .val (.int p3), .val (.int p4), .val (.int fl), .val (.int (Int32.ofNat f)), .val (.int (Int32.ofNat l3)), .val (.ref b378), .val (.int (Int32.ofNat E)), .val (.int (Int32.ofNat T1)), .unset, .unset, .unset, .unset, .unset, .unset, .unset, .unset, .unset] [(.ref b378)])) _
        refine XS.iload X403.here hx rfl (hb hby at_131) rfl ?_
        show Steps p.tables e below (T403.setTop (mkF m 133 #[.val (.int p0), .val (.int p1), .val (.int p2), .val (.int p3), .val (.int p4), .val (.int fl), .val (.int (Int32.ofNat f)), .val (.int (Int32.ofNat l3)), .val (.ref b378), .val (.int (Int32.ofNat E)), .val (.int (Int32.ofNat T1)), .unset, .unset, .unset, .unset, .unset, .unset, .unset, .unset, .unset] [(.int (Int32.ofNat T1)), (.ref b378)])) _
        refine XS.iconst X403.here hx rfl (hb hby at_133) ?_
        show Steps p.tables e below (T403.setTop (mkF m 134 #[.val (.int p0), .val (.int p1), .val (.int p2), .val (.int p3), .val (.int p4), .val (.int fl), .val (.int (Int32.ofNat f)), .val (.int (Int32.ofNat l3)), .val (.ref b378), .val (.int (Int32.ofNat E)), .val (.int (Int32.ofNat T1)), .unset, .unset, .unset, .unset, .unset, .unset, .unset, .unset, .unset] [(.int (1 : Int32)), (.int (Int32.ofNat T1)), (.ref b378)])) _
        refine XS.iadd X403.here hx rfl (hb hby at_134) rfl ?_
        show Steps p.tables e below (T403.setTop (mkF m 135 #[.val (.int p0), .val (.int p1), .val (.int p2), .val (.int p3), .val (.int p4), .val (.int fl), .val (.int (Int32.ofNat f)), .val (.int (Int32.ofNat l3)), .val (.ref b378), .val (.int (Int32.ofNat E)), .val (.int (Int32.ofNat T1)), .unset, .unset, .unset, .unset, .unset, .unset, .unset, .unset, .unset] [(.int ((Int32.ofNat T1) + (1 : Int32))), (.ref b378)])) _
        refine XS.iload X403.here hx rfl (hb hby at_135) rfl ?_
        show Steps p.tables e below (T403.setTop (mkF m 137 #[.val (.int p0), .val (.int p1), .val (.int p2), .val (.int p3), .val (.int p4), .val (.int fl), .val (.int (Int32.ofNat f)), .val (.int (Int32.ofNat l3)), .val (.ref b378), .val (.int (Int32.ofNat E)), .val (.int (Int32.ofNat T1)), .unset, .unset, .unset, .unset, .unset, .unset, .unset, .unset, .unset] [(.int (Int32.ofNat E)), (.int ((Int32.ofNat T1) + (1 : Int32))), (.ref b378)])) _
        refine XS.bipush X403.here hx rfl (hb hby at_137) ?_
        exact kt
      obtain ⟨_, _, ⟨T405, L405, k405, n405⟩, -, X405, ⟨Lc405, hQ405, l405, y405, z405⟩, st405⟩ := Jvm.LawKit.callS X403 hx (y := (⟨"com/example/long_walk/longwalk/EdgeListLineScanPinLaw", "firstIndex", "([BIII)I"⟩ : MethodName)) hown (mvT hZ (hw _ (List.mem_of_getElem? (i := 10) rfl))) (mvT hZ (hw _ (List.mem_of_getElem? (i := 11) rfl))) (mvT hZ (hw _ (List.mem_of_getElem? (i := 4) rfl))) (mvT hZ (hw _ (List.mem_of_getElem? (i := 12) rfl))) (by decide) (backOf (W := 0) (rm3 l Z aZ hw [] b378 ((Int32.ofNat T1) + (1 : Int32)) (Int32.ofNat E) (9 : Int32) G h397 n0 Z397 f398) hZ (hw _ (List.mem_of_getElem? (i := 12) rfl)) (hw _ (List.mem_of_getElem? (i := 4) rfl)) (by decide) (by decide)) (g := (mkF m 139 #[.val (.int p0), .val (.int p1), .val (.int p2), .val (.int p3), .val (.int p4), .val (.int fl), .val (.int (Int32.ofNat f)), .val (.int (Int32.ofNat l3)), .val (.ref b378), .val (.int (Int32.ofNat E)), .val (.int (Int32.ofNat T1)), .unset, .unset, .unset, .unset, .unset, .unset, .unset, .unset, .unset] [(.int (9 : Int32)), (.int (Int32.ofNat E)), (.int ((Int32.ofNat T1) + (1 : Int32))), (.ref b378)])) rfl (by rw [hml]; rfl) (argsL := [(.ref b378), (.int ((Int32.ofNat T1) + (1 : Int32))), (.int (Int32.ofNat E)), (.int (9 : Int32))]) (rest := []) (lenOf own_pd8 rfl) rfl (by show 2 * 0 + _ ≤ _; exact Nat.le_of_eq rfl) (hb hby at_139) (fun _ _ => ⟨rfl, e403, (by decide : 1 + 0 ≤ _), (by decide : 8 + 0 ≤ _)⟩)
      dsimp only [Pt.U, Pt.locs, Pt.cells, Pt.slots] at X405 l405 y405 z405 st405 hQ405
      subst l405 y405 z405
      obtain ⟨rfl, N405q, e405⟩ := hQ405
      have N405 := Fr.app N403 N405q
      refine own_goR (S' := T405.setTop (mkF m 142 #[.val (.int p0), .val (.int p1), .val (.int p2), .val (.int p3), .val (.int p4), .val (.int fl), .val (.int (Int32.ofNat f)), .val (.int (Int32.ofNat l3)), .val (.ref b378), .val (.int (Int32.ofNat E)), .val (.int (Int32.ofNat T1)), .unset, .unset, .unset, .unset, .unset, .unset, .unset, .unset, .unset] [(.int (own_first ((Int32.ofNat T1) + (1 : Int32)) (Int32.ofNat E) (9 : Int32) G))])) st405 ?_
      refine own_goR (S' := T405.setTop (mkF m 147 #[.val (.int p0), .val (.int p1), .val (.int p2), .val (.int p3), .val (.int p4), .val (.int fl), .val (.int (Int32.ofNat f)), .val (.int (Int32.ofNat l3)), .val (.ref b378), .val (.int (Int32.ofNat E)), .val (.int (Int32.ofNat T1)), .unset, .unset, .unset, .unset, .unset, .unset, .unset, .unset, .unset] [(.int (own_first ((Int32.ofNat T1) + (1 : Int32)) (Int32.ofNat E) (9 : Int32) G))])) (fun target kt => ?_) ?_
      · skip
        show Steps p.tables e below (T405.setTop (mkF m 142 #[.val (.int p0), .val (.int p1), .val (.int p2), .val (.int p3), .val (.int p4), .val (.int fl), .val (.int (Int32.ofNat f)), .val (.int (Int32.ofNat l3)), .val (.ref b378), .val (.int (Int32.ofNat E)), .val (.int (Int32.ofNat T1)), .unset, .unset, .unset, .unset, .unset, .unset, .unset, .unset, .unset] [(.int (own_first ((Int32.ofNat T1) + (1 : Int32)) (Int32.ofNat E) (9 : Int32) G))])) _
        refine XS.goto X405.here hx rfl (pc0 := 142) (pc' := 147) rfl (hb hby at_142) (by decide) (by decide) ?_
        exact kt
      exact ⟨(T405, _, (own_first ((Int32.ofNat T1) + (1 : Int32)) (Int32.ofNat E) (9 : Int32) G)), ⟨X405, e405, N405, (by show (own_first ((Int32.ofNat T1) + (1 : Int32)) (Int32.ofNat E) (9 : Int32) G) = (if (Int32.ofNat T1) < (Int32.ofNat E) then (own_first ((Int32.ofNat T1) + (1 : Int32)) (Int32.ofNat E) (9 : Int32) G) else (Int32.ofNat E)); rw [if_pos hc126])⟩, fun _ k => k⟩
    · skip
      refine own_goR (S' := T403.setTop (mkF m 147 #[.val (.int p0), .val (.int p1), .val (.int p2), .val (.int p3), .val (.int p4), .val (.int fl), .val (.int (Int32.ofNat f)), .val (.int (Int32.ofNat l3)), .val (.ref b378), .val (.int (Int32.ofNat E)), .val (.int (Int32.ofNat T1)), .unset, .unset, .unset, .unset, .unset, .unset, .unset, .unset, .unset] [(.int (Int32.ofNat E))])) (fun target kt => ?_) ?_
      · skip
        show Steps p.tables e below (T403.setTop (mkF m 126 #[.val (.int p0), .val (.int p1), .val (.int p2), .val (.int p3), .val (.int p4), .val (.int fl), .val (.int (Int32.ofNat f)), .val (.int (Int32.ofNat l3)), .val (.ref b378), .val (.int (Int32.ofNat E)), .val (.int (Int32.ofNat T1)), .unset, .unset, .unset, .unset, .unset, .unset, .unset, .unset, .unset] [(.int (Int32.ofNat E)), (.int (Int32.ofNat T1))])) _
        refine XS.icmpYes X403.here hx rfl (pc0 := 126) (pc' := 145) rfl (hb hby at_126) rfl (flt hc126).2.1 (by decide) (by decide) ?_
        show Steps p.tables e below (T403.setTop (mkF m 145 #[.val (.int p0), .val (.int p1), .val (.int p2), .val (.int p3), .val (.int p4), .val (.int fl), .val (.int (Int32.ofNat f)), .val (.int (Int32.ofNat l3)), .val (.ref b378), .val (.int (Int32.ofNat E)), .val (.int (Int32.ofNat T1)), .unset, .unset, .unset, .unset, .unset, .unset, .unset, .unset, .unset] [])) _
        refine XS.iload X403.here hx rfl (hb hby at_145) rfl ?_
        exact kt
      exact ⟨(T403, _, (Int32.ofNat E)), ⟨X403, e403, N403, (by show (Int32.ofNat E) = (if (Int32.ofNat T1) < (Int32.ofNat E) then (own_first ((Int32.ofNat T1) + (1 : Int32)) (Int32.ofNat E) (9 : Int32) G) else (Int32.ofNat E)); rw [if_neg hc126])⟩, fun _ k => k⟩
  dsimp only at X404 e404 N404 h_t2 st404
  refine own_go (S' := T404.setTop (mkF m 147 #[.val (.int p0), .val (.int p1), .val (.int p2), .val (.int p3), .val (.int p4), .val (.int fl), .val (.int (Int32.ofNat f)), .val (.int (Int32.ofNat l3)), .val (.ref b378), .val (.int (Int32.ofNat E)), .val (.int (Int32.ofNat T1)), .unset, .unset, .unset, .unset, .unset, .unset, .unset, .unset, .unset] [(.int t2)])) st404 ?_
  obtain ⟨T2, hT2⟩ : ∃ T, T = own_snd G E T1 := ⟨_, rfl⟩
  have hT2b := own_T2b hEb hTb hT2
  have hb_t2 : t2 = (Int32.ofNat T2) := own_t2p h4 hEb hTb hT2 h_t2
  subst hb_t2
  refine own_go (S' := T404.setTop (mkF m 156 #[.val (.int p0), .val (.int p1), .val (.int p2), .val (.int p3), .val (.int p4), .val (.int fl), .val (.int (Int32.ofNat f)), .val (.int (Int32.ofNat l3)), .val (.ref b378), .val (.int (Int32.ofNat E)), .val (.int (Int32.ofNat T1)), .val (.int (Int32.ofNat T2)), .unset, .unset, .unset, .unset, .unset, .unset, .unset, .unset] [(.int (Int32.ofNat E)), (.int (Int32.ofNat f)), (.int (4 : Int32)), (.ref b378)])) (fun target kt => ?_) ?_
  · skip
    show Steps p.tables e below (T404.setTop (mkF m 147 #[.val (.int p0), .val (.int p1), .val (.int p2), .val (.int p3), .val (.int p4), .val (.int fl), .val (.int (Int32.ofNat f)), .val (.int (Int32.ofNat l3)), .val (.ref b378), .val (.int (Int32.ofNat E)), .val (.int (Int32.ofNat T1)), .unset, .unset, .unset, .unset, .unset, .unset, .unset, .unset, .unset] [(.int (Int32.ofNat T2))])) _
    refine XS.istore X404.here hx rfl (hb hby at_147) rfl (l' := #[.val (.int p0), .val (.int p1), .val (.int p2), .val (.int p3), .val (.int p4), .val (.int fl), .val (.int (Int32.ofNat f)), .val (.int (Int32.ofNat l3)), .val (.ref b378), .val (.int (Int32.ofNat E)), .val (.int (Int32.ofNat T1)), .val (.int (Int32.ofNat T2)), .unset, .unset, .unset, .unset, .unset, .unset, .unset, .unset]) rfl ?_
    show Steps p.tables e below (T404.setTop (mkF m 149 #[.val (.int p0), .val (.int p1), .val (.int p2), .val (.int p3), .val (.int p4), .val (.int fl), .val (.int (Int32.ofNat f)), .val (.int (Int32.ofNat l3)), .val (.ref b378), .val (.int (Int32.ofNat E)), .val (.int (Int32.ofNat T1)), .val (.int (Int32.ofNat T2)), .unset, .unset, .unset, .unset, .unset, .unset, .unset, .unset] [])) _
    refine XS.aload X404.here hx rfl (hb hby at_149) rfl rfl ?_
    show Steps p.tables e below (T404.setTop (mkF m 151 #[.val (.int p0), .val (.int p1), .val (.int p2), .val (.int p3), .val (.int p4), .val (.int fl), .val (.int (Int32.ofNat f)), .val (.int (Int32.ofNat l3)), .val (.ref b378), .val (.int (Int32.ofNat E)), .val (.int (Int32.ofNat T1)), .val (.int (Int32.ofNat T2)), .unset, .unset, .unset, .unset, .unset, .unset, .unset, .unset] [(.ref b378)])) _
    refine XS.iconst X404.here hx rfl (hb hby at_151) ?_
    show Steps p.tables e below (T404.setTop (mkF m 152 #[.val (.int p0), .val (.int p1), .val (.int p2), .val (.int p3), .val (.int p4), .val (.int fl), .val (.int (Int32.ofNat f)), .val (.int (Int32.ofNat l3)), .val (.ref b378), .val (.int (Int32.ofNat E)), .val (.int (Int32.ofNat T1)), .val (.int (Int32.ofNat T2)), .unset, .unset, .unset, .unset, .unset, .unset, .unset, .unset] [(.int (4 : Int32)), (.ref b378)])) _
    refine XS.iload X404.here hx rfl (hb hby at_152) rfl ?_
    show Steps p.tables e below (T404.setTop (mkF m 154 #[.val (.int p0), .val (.int p1), .val (.int p2), .val (.int p3), .val (.int p4), .val (.int fl), .val (.int (Int32.ofNat f)), .val (.int (Int32.ofNat l3)), .val (.ref b378), .val (.int (Int32.ofNat E)), .val (.int (Int32.ofNat T1)), .val (.int (Int32.ofNat T2)), .unset, .unset, .unset, .unset, .unset, .unset, .unset, .unset] [(.int (Int32.ofNat f)), (.int (4 : Int32)), (.ref b378)])) _
    refine XS.iload X404.here hx rfl (hb hby at_154) rfl ?_
    exact kt
  obtain ⟨_, _, ⟨T406, L406, k406, n406⟩, -, X406, ⟨Lc406, hQ406, l406, y406, z406⟩, st406⟩ := Jvm.LawKit.callS X404 hx (y := (⟨"com/example/long_walk/longwalk/EdgeListLineScanPinLaw", "neg", "([BIII)Z"⟩ : MethodName)) hown (mvT hZ (hw _ (List.mem_of_getElem? (i := 16) rfl))) (mvT hZ (hw _ (List.mem_of_getElem? (i := 17) rfl))) (mvT hZ (hw _ (List.mem_of_getElem? (i := 4) rfl))) (mvT hZ (hw _ (List.mem_of_getElem? (i := 18) rfl))) (by decide) (backOf (W := 0) (rm5 l Z aZ hw [] b378 (4 : Int32) (Int32.ofNat f) (Int32.ofNat E) G h397 n0 Z397 f398 (⟨by decide, by decide⟩ : ¬ (4 : Int32) < 0 ∧ ((4 : Int32)).toNatClampNeg < 8)) hZ (hw _ (List.mem_of_getElem? (i := 18) rfl)) (hw _ (List.mem_of_getElem? (i := 4) rfl)) (by decide) (by decide)) (g := (mkF m 156 #[.val (.int p0), .val (.int p1), .val (.int p2), .val (.int p3), .val (.int p4), .val (.int fl), .val (.int (Int32.ofNat f)), .val (.int (Int32.ofNat l3)), .val (.ref b378), .val (.int (Int32.ofNat E)), .val (.int (Int32.ofNat T1)), .val (.int (Int32.ofNat T2)), .unset, .unset, .unset, .unset, .unset, .unset, .unset, .unset] [(.int (Int32.ofNat E)), (.int (Int32.ofNat f)), (.int (4 : Int32)), (.ref b378)])) rfl (by rw [hml]; rfl) (argsL := [(.ref b378), (.int (4 : Int32)), (.int (Int32.ofNat f)), (.int (Int32.ofNat E))]) (rest := []) (lenOf own_pd9 rfl) rfl (by show 2 * 0 + _ ≤ _; exact Nat.le_of_eq rfl) (hb hby at_156) (fun _ _ => ⟨rfl, e404, (by decide : 1 + 0 ≤ _), (by decide : 8 + 0 ≤ _)⟩)
  dsimp only [Pt.U, Pt.locs, Pt.cells, Pt.slots] at X406 l406 y406 z406 st406 hQ406
  subst l406 y406 z406
  obtain ⟨rfl, N406q, e406⟩ := hQ406
  have N406 := Fr.app N404 N406q
  refine own_go (S' := T406.setTop (mkF m 159 #[.val (.int p0), .val (.int p1), .val (.int p2), .val (.int p3), .val (.int p4), .val (.int fl), .val (.int (Int32.ofNat f)), .val (.int (Int32.ofNat l3)), .val (.ref b378), .val (.int (Int32.ofNat E)), .val (.int (Int32.ofNat T1)), .val (.int (Int32.ofNat T2)), .unset, .unset, .unset, .unset, .unset, .unset, .unset, .unset] [(.int (own_neg (4 : Int32) (Int32.ofNat f) (Int32.ofNat E) G))])) st406 ?_
  obtain ⟨⟨T407, L407, asc⟩, ⟨X407, e407, N407, h_asc⟩, st407⟩ : ∃ x : State × List Loc × Int32, (Stand p l e room_1 s m #[(.int p0), (.int p1), (.int p2), (.int p3), (.int p4)] below meth c x.1 x.2.1 1 8 ∧ x.1.heap = h397 ∧ Fr n0 x.2.1 ∧ x.2.2 = (if (own_neg (4 : Int32) (Int32.ofNat f) (Int32.ofNat E) G) = (0 : Int32) then (if (own_neg (5 : Int32) (Int32.ofNat f) (Int32.ofNat E) G) = (0 : Int32) then (if (own_neg (6 : Int32) (Int32.ofNat f) (Int32.ofNat E) G) = (0 : Int32) then (if (own_neg (7 : Int32) (Int32.ofNat f) (Int32.ofNat E) G) = (0 : Int32) then (1 : Int32) else (0 : Int32)) else (0 : Int32)) else (0 : Int32)) else (0 : Int32))) ∧ ∀ target, Steps p.tables e below (x.1.setTop (mkF m 208 #[.val (.int p0), .val (.int p1), .val (.int p2), .val (.int p3), .val (.int p4), .val (.int fl), .val (.int (Int32.ofNat f)), .val (.int (Int32.ofNat l3)), .val (.ref b378), .val (.int (Int32.ofNat E)), .val (.int (Int32.ofNat T1)), .val (.int (Int32.ofNat T2)), .unset, .unset, .unset, .unset, .unset, .unset, .unset, .unset] [(.int x.2.2)])) target → Steps p.tables e below (T406.setTop (mkF m 159 #[.val (.int p0), .val (.int p1), .val (.int p2), .val (.int p3), .val (.int p4), .val (.int fl), .val (.int (Int32.ofNat f)), .val (.int (Int32.ofNat l3)), .val (.ref b378), .val (.int (Int32.ofNat E)), .val (.int (Int32.ofNat T1)), .val (.int (Int32.ofNat T2)), .unset, .unset, .unset, .unset, .unset, .unset, .unset, .unset] [(.int (own_neg (4 : Int32) (Int32.ofNat f) (Int32.ofNat E) G))])) target := by
    by_cases hc159 : (own_neg (4 : Int32) (Int32.ofNat f) (Int32.ofNat E) G) = (0 : Int32)
    · skip
      refine own_goR (S' := T406.setTop (mkF m 169 #[.val (.int p0), .val (.int p1), .val (.int p2), .val (.int p3), .val (.int p4), .val (.int fl), .val (.int (Int32.ofNat f)), .val (.int (Int32.ofNat l3)), .val (.ref b378), .val (.int (Int32.ofNat E)), .val (.int (Int32.ofNat T1)), .val (.int (Int32.ofNat T2)), .unset, .unset, .unset, .unset, .unset, .unset, .unset, .unset] [(.int (Int32.ofNat E)), (.int (Int32.ofNat f)), (.int (5 : Int32)), (.ref b378)])) (fun target kt => ?_) ?_
      · skip
        show Steps p.tables e below (T406.setTop (mkF m 159 #[.val (.int p0), .val (.int p1), .val (.int p2), .val (.int p3), .val (.int p4), .val (.int fl), .val (.int (Int32.ofNat f)), .val (.int (Int32.ofNat l3)), .val (.ref b378), .val (.int (Int32.ofNat E)), .val (.int (Int32.ofNat T1)), .val (.int (Int32.ofNat T2)), .unset, .unset, .unset, .unset, .unset, .unset, .unset, .unset] [(.int (own_neg (4 : Int32) (Int32.ofNat f) (Int32.ofNat E) G))])) _
        refine XS.ifNo X406.here hx rfl (hb hby at_159) rfl ((if0 _ _).trans (teq hc159).2) ?_
        show Steps p.tables e below (T406.setTop (mkF m 162 #[.val (.int p0), .val (.int p1), .val (.int p2), .val (.int p3), .val (.int p4), .val (.int fl), .val (.int (Int32.ofNat f)), .val (.int (Int32.ofNat l3)), .val (.ref b378), .val (.int (Int32.ofNat E)), .val (.int (Int32.ofNat T1)), .val (.int (Int32.ofNat T2)), .unset, .unset, .unset, .unset, .unset, .unset, .unset, .unset] [])) _
        refine XS.aload X406.here hx rfl (hb hby at_162) rfl rfl ?_
        show Steps p.tables e below (T406.setTop (mkF m 164 #[.val (.int p0), .val (.int p1), .val (.int p2), .val (.int p3), .val (.int p4), .val (.int fl), .val (.int (Int32.ofNat f)), .val (.int (Int32.ofNat l3)), .val (.ref b378), .val (.int (Int32.ofNat E)), .val (.int (Int32.ofNat T1)), .val (.int (Int32.ofNat T2)), .unset, .unset, .unset, .unset, .unset, .unset, .unset, .unset] [(.ref b378)])) _
        refine XS.iconst X406.here hx rfl (hb hby at_164) ?_
        show Steps p.tables e below (T406.setTop (mkF m 165 #[.val (.int p0), .val (.int p1), .val (.int p2), .val (.int p3), .val (.int p4), .val (.int fl), .val (.int (Int32.ofNat f)), .val (.int (Int32.ofNat l3)), .val (.ref b378), .val (.int (Int32.ofNat E)), .val (.int (Int32.ofNat T1)), .val (.int (Int32.ofNat T2)), .unset, .unset, .unset, .unset, .unset, .unset, .unset, .unset] [(.int (5 : Int32)), (.ref b378)])) _
        refine XS.iload X406.here hx rfl (hb hby at_165) rfl ?_
        show Steps p.tables e below (T406.setTop (mkF m 167 #[.val (.int p0), .val (.int p1), .val (.int p2), .val (.int p3), .val (.int p4), .val (.int fl), .val (.int (Int32.ofNat f)), .val (.int (Int32.ofNat l3)), .val (.ref b378), .val (.int (Int32.ofNat E)), .val (.int (Int32.ofNat T1)), .val (.int (Int32.ofNat T2)), .unset, .unset, .unset, .unset, .unset, .unset, .unset, .unset] [(.int (Int32.ofNat f)), (.int (5 : Int32)), (.ref b378)])) _
        refine XS.iload X406.here hx rfl (hb hby at_167) rfl ?_
        exact kt
      obtain ⟨_, _, ⟨T408, L408, k408, n408⟩, -, X408, ⟨Lc408, hQ408, l408, y408, z408⟩, st408⟩ := Jvm.LawKit.callS X406 hx (y := (⟨"com/example/long_walk/longwalk/EdgeListLineScanPinLaw", "neg", "([BIII)Z"⟩ : MethodName)) hown (mvT hZ (hw _ (List.mem_of_getElem? (i := 16) rfl))) (mvT hZ (hw _ (List.mem_of_getElem? (i := 17) rfl))) (mvT hZ (hw _ (List.mem_of_getElem? (i := 4) rfl))) (mvT hZ (hw _ (List.mem_of_getElem? (i := 18) rfl))) (by decide) (backOf (W := 0) (rm5 l Z aZ hw [] b378 (5 : Int32) (Int32.ofNat f) (Int32.ofNat E) G h397 n0 Z397 f398 (⟨by decide, by decide⟩ : ¬ (5 : Int32) < 0 ∧ ((5 : Int32)).toNatClampNeg < 8)) hZ (hw _ (List.mem_of_getElem? (i := 18) rfl)) (hw _ (List.mem_of_getElem? (i := 4) rfl)) (by decide) (by decide)) (g := (mkF m 169 #[.val (.int p0), .val (.int p1), .val (.int p2), .val (.int p3), .val (.int p4), .val (.int fl), .val (.int (Int32.ofNat f)), .val (.int (Int32.ofNat l3)), .val (.ref b378), .val (.int (Int32.ofNat E)), .val (.int (Int32.ofNat T1)), .val (.int (Int32.ofNat T2)), .unset, .unset, .unset, .unset, .unset, .unset, .unset, .unset] [(.int (Int32.ofNat E)), (.int (Int32.ofNat f)), (.int (5 : Int32)), (.ref b378)])) rfl (by rw [hml]; rfl) (argsL := [(.ref b378), (.int (5 : Int32)), (.int (Int32.ofNat f)), (.int (Int32.ofNat E))]) (rest := []) (lenOf own_pd9 rfl) rfl (by show 2 * 0 + _ ≤ _; exact Nat.le_of_eq rfl) (hb hby at_169) (fun _ _ => ⟨rfl, e406, (by decide : 1 + 0 ≤ _), (by decide : 8 + 0 ≤ _)⟩)
      dsimp only [Pt.U, Pt.locs, Pt.cells, Pt.slots] at X408 l408 y408 z408 st408 hQ408
      subst l408 y408 z408
      obtain ⟨rfl, N408q, e408⟩ := hQ408
      have N408 := Fr.app N406 N408q
      refine own_goR (S' := T408.setTop (mkF m 172 #[.val (.int p0), .val (.int p1), .val (.int p2), .val (.int p3), .val (.int p4), .val (.int fl), .val (.int (Int32.ofNat f)), .val (.int (Int32.ofNat l3)), .val (.ref b378), .val (.int (Int32.ofNat E)), .val (.int (Int32.ofNat T1)), .val (.int (Int32.ofNat T2)), .unset, .unset, .unset, .unset, .unset, .unset, .unset, .unset] [(.int (own_neg (5 : Int32) (Int32.ofNat f) (Int32.ofNat E) G))])) st408 ?_
      by_cases hc172 : (own_neg (5 : Int32) (Int32.ofNat f) (Int32.ofNat E) G) = (0 : Int32)
      · skip
        refine own_goR (S' := T408.setTop (mkF m 183 #[.val (.int p0), .val (.int p1), .val (.int p2), .val (.int p3), .val (.int p4), .val (.int fl), .val (.int (Int32.ofNat f)), .val (.int (Int32.ofNat l3)), .val (.ref b378), .val (.int (Int32.ofNat E)), .val (.int (Int32.ofNat T1)), .val (.int (Int32.ofNat T2)), .unset, .unset, .unset, .unset, .unset, .unset, .unset, .unset] [(.int (Int32.ofNat E)), (.int (Int32.ofNat f)), (.int (6 : Int32)), (.ref b378)])) (fun target kt => ?_) ?_
        · skip
          show Steps p.tables e below (T408.setTop (mkF m 172 #[.val (.int p0), .val (.int p1), .val (.int p2), .val (.int p3), .val (.int p4), .val (.int fl), .val (.int (Int32.ofNat f)), .val (.int (Int32.ofNat l3)), .val (.ref b378), .val (.int (Int32.ofNat E)), .val (.int (Int32.ofNat T1)), .val (.int (Int32.ofNat T2)), .unset, .unset, .unset, .unset, .unset, .unset, .unset, .unset] [(.int (own_neg (5 : Int32) (Int32.ofNat f) (Int32.ofNat E) G))])) _
          refine XS.ifNo X408.here hx rfl (hb hby at_172) rfl ((if0 _ _).trans (teq hc172).2) ?_
          show Steps p.tables e below (T408.setTop (mkF m 175 #[.val (.int p0), .val (.int p1), .val (.int p2), .val (.int p3), .val (.int p4), .val (.int fl), .val (.int (Int32.ofNat f)), .val (.int (Int32.ofNat l3)), .val (.ref b378), .val (.int (Int32.ofNat E)), .val (.int (Int32.ofNat T1)), .val (.int (Int32.ofNat T2)), .unset, .unset, .unset, .unset, .unset, .unset, .unset, .unset] [])) _
          refine XS.aload X408.here hx rfl (hb hby at_175) rfl rfl ?_
          show Steps p.tables e below (T408.setTop (mkF m 177 #[.val (.int p0), .val (.int p1), .val (.int p2), .val (.int p3), .val (.int p4), .val (.int fl), .val (.int (Int32.ofNat f)), .val (.int (Int32.ofNat l3)), .val (.ref b378), .val (.int (Int32.ofNat E)), .val (.int (Int32.ofNat T1)), .val (.int (Int32.ofNat T2)), .unset, .unset, .unset, .unset, .unset, .unset, .unset, .unset] [(.ref b378)])) _
          refine XS.bipush X408.here hx rfl (hb hby at_177) ?_
          show Steps p.tables e below (T408.setTop (mkF m 179 #[.val (.int p0), .val (.int p1), .val (.int p2), .val (.int p3), .val (.int p4), .val (.int fl), .val (.int (Int32.ofNat f)), .val (.int (Int32.ofNat l3)), .val (.ref b378), .val (.int (Int32.ofNat E)), .val (.int (Int32.ofNat T1)), .val (.int (Int32.ofNat T2)), .unset, .unset, .unset, .unset, .unset, .unset, .unset, .unset] [(.int (6 : Int32)), (.ref b378)])) _
          refine XS.iload X408.here hx rfl (hb hby at_179) rfl ?_
          show Steps p.tables e below (T408.setTop (mkF m 181 #[.val (.int p0), .val (.int p1), .val (.int p2), .val (.int p3), .val (.int p4), .val (.int fl), .val (.int (Int32.ofNat f)), .val (.int (Int32.ofNat l3)), .val (.ref b378), .val (.int (Int32.ofNat E)), .val (.int (Int32.ofNat T1)), .val (.int (Int32.ofNat T2)), .unset, .unset, .unset, .unset, .unset, .unset, .unset, .unset] [(.int (Int32.ofNat f)), (.int (6 : Int32)), (.ref b378)])) _
          refine XS.iload X408.here hx rfl (hb hby at_181) rfl ?_
          exact kt
        obtain ⟨_, _, ⟨T409, L409, k409, n409⟩, -, X409, ⟨Lc409, hQ409, l409, y409, z409⟩, st409⟩ := Jvm.LawKit.callS X408 hx (y := (⟨"com/example/long_walk/longwalk/EdgeListLineScanPinLaw", "neg", "([BIII)Z"⟩ : MethodName)) hown (mvT hZ (hw _ (List.mem_of_getElem? (i := 16) rfl))) (mvT hZ (hw _ (List.mem_of_getElem? (i := 17) rfl))) (mvT hZ (hw _ (List.mem_of_getElem? (i := 4) rfl))) (mvT hZ (hw _ (List.mem_of_getElem? (i := 18) rfl))) (by decide) (backOf (W := 0) (rm5 l Z aZ hw [] b378 (6 : Int32) (Int32.ofNat f) (Int32.ofNat E) G h397 n0 Z397 f398 (⟨by decide, by decide⟩ : ¬ (6 : Int32) < 0 ∧ ((6 : Int32)).toNatClampNeg < 8)) hZ (hw _ (List.mem_of_getElem? (i := 18) rfl)) (hw _ (List.mem_of_getElem? (i := 4) rfl)) (by decide) (by decide)) (g := (mkF m 183 #[.val (.int p0), .val (.int p1), .val (.int p2), .val (.int p3), .val (.int p4), .val (.int fl), .val (.int (Int32.ofNat f)), .val (.int (Int32.ofNat l3)), .val (.ref b378), .val (.int (Int32.ofNat E)), .val (.int (Int32.ofNat T1)), .val (.int (Int32.ofNat T2)), .unset, .unset, .unset, .unset, .unset, .unset, .unset, .unset] [(.int (Int32.ofNat E)), (.int (Int32.ofNat f)), (.int (6 : Int32)), (.ref b378)])) rfl (by rw [hml]; rfl) (argsL := [(.ref b378), (.int (6 : Int32)), (.int (Int32.ofNat f)), (.int (Int32.ofNat E))]) (rest := []) (lenOf own_pd9 rfl) rfl (by show 2 * 0 + _ ≤ _; exact Nat.le_of_eq rfl) (hb hby at_183) (fun _ _ => ⟨rfl, e408, (by decide : 1 + 0 ≤ _), (by decide : 8 + 0 ≤ _)⟩)
        dsimp only [Pt.U, Pt.locs, Pt.cells, Pt.slots] at X409 l409 y409 z409 st409 hQ409
        subst l409 y409 z409
        obtain ⟨rfl, N409q, e409⟩ := hQ409
        have N409 := Fr.app N408 N409q
        refine own_goR (S' := T409.setTop (mkF m 186 #[.val (.int p0), .val (.int p1), .val (.int p2), .val (.int p3), .val (.int p4), .val (.int fl), .val (.int (Int32.ofNat f)), .val (.int (Int32.ofNat l3)), .val (.ref b378), .val (.int (Int32.ofNat E)), .val (.int (Int32.ofNat T1)), .val (.int (Int32.ofNat T2)), .unset, .unset, .unset, .unset, .unset, .unset, .unset, .unset] [(.int (own_neg (6 : Int32) (Int32.ofNat f) (Int32.ofNat E) G))])) st409 ?_
        by_cases hc186 : (own_neg (6 : Int32) (Int32.ofNat f) (Int32.ofNat E) G) = (0 : Int32)
        · skip
          refine own_goR (S' := T409.setTop (mkF m 197 #[.val (.int p0), .val (.int p1), .val (.int p2), .val (.int p3), .val (.int p4), .val (.int fl), .val (.int (Int32.ofNat f)), .val (.int (Int32.ofNat l3)), .val (.ref b378), .val (.int (Int32.ofNat E)), .val (.int (Int32.ofNat T1)), .val (.int (Int32.ofNat T2)), .unset, .unset, .unset, .unset, .unset, .unset, .unset, .unset] [(.int (Int32.ofNat E)), (.int (Int32.ofNat f)), (.int (7 : Int32)), (.ref b378)])) (fun target kt => ?_) ?_
          · skip
            show Steps p.tables e below (T409.setTop (mkF m 186 #[.val (.int p0), .val (.int p1), .val (.int p2), .val (.int p3), .val (.int p4), .val (.int fl), .val (.int (Int32.ofNat f)), .val (.int (Int32.ofNat l3)), .val (.ref b378), .val (.int (Int32.ofNat E)), .val (.int (Int32.ofNat T1)), .val (.int (Int32.ofNat T2)), .unset, .unset, .unset, .unset, .unset, .unset, .unset, .unset] [(.int (own_neg (6 : Int32) (Int32.ofNat f) (Int32.ofNat E) G))])) _
            refine XS.ifNo X409.here hx rfl (hb hby at_186) rfl ((if0 _ _).trans (teq hc186).2) ?_
            show Steps p.tables e below (T409.setTop (mkF m 189 #[.val (.int p0), .val (.int p1), .val (.int p2), .val (.int p3), .val (.int p4), .val (.int fl), .val (.int (Int32.ofNat f)), .val (.int (Int32.ofNat l3)), .val (.ref b378), .val (.int (Int32.ofNat E)), .val (.int (Int32.ofNat T1)), .val (.int (Int32.ofNat T2)), .unset, .unset, .unset, .unset, .unset, .unset, .unset, .unset] [])) _
            refine XS.aload X409.here hx rfl (hb hby at_189) rfl rfl ?_
            show Steps p.tables e below (T409.setTop (mkF m 191 #[.val (.int p0), .val (.int p1), .val (.int p2), .val (.int p3), .val (.int p4), .val (.int fl), .val (.int (Int32.ofNat f)), .val (.int (Int32.ofNat l3)), .val (.ref b378), .val (.int (Int32.ofNat E)), .val (.int (Int32.ofNat T1)), .val (.int (Int32.ofNat T2)), .unset, .unset, .unset, .unset, .unset, .unset, .unset, .unset] [(.ref b378)])) _
            refine XS.bipush X409.here hx rfl (hb hby at_191) ?_
            show Steps p.tables e below (T409.setTop (mkF m 193 #[.val (.int p0), .val (.int p1), .val (.int p2), .val (.int p3), .val (.int p4), .val (.int fl), .val (.int (Int32.ofNat f)), .val (.int (Int32.ofNat l3)), .val (.ref b378), .val (.int (Int32.ofNat E)), .val (.int (Int32.ofNat T1)), .val (.int (Int32.ofNat T2)), .unset, .unset, .unset, .unset, .unset, .unset, .unset, .unset] [(.int (7 : Int32)), (.ref b378)])) _
            refine XS.iload X409.here hx rfl (hb hby at_193) rfl ?_
            show Steps p.tables e below (T409.setTop (mkF m 195 #[.val (.int p0), .val (.int p1), .val (.int p2), .val (.int p3), .val (.int p4), .val (.int fl), .val (.int (Int32.ofNat f)), .val (.int (Int32.ofNat l3)), .val (.ref b378), .val (.int (Int32.ofNat E)), .val (.int (Int32.ofNat T1)), .val (.int (Int32.ofNat T2)), .unset, .unset, .unset, .unset, .unset, .unset, .unset, .unset] [(.int (Int32.ofNat f)), (.int (7 : Int32)), (.ref b378)])) _
            refine XS.iload X409.here hx rfl (hb hby at_195) rfl ?_
            exact kt
          obtain ⟨_, _, ⟨T410, L410, k410, n410⟩, -, X410, ⟨Lc410, hQ410, l410, y410, z410⟩, st410⟩ := Jvm.LawKit.callS X409 hx (y := (⟨"com/example/long_walk/longwalk/EdgeListLineScanPinLaw", "neg", "([BIII)Z"⟩ : MethodName)) hown (mvT hZ (hw _ (List.mem_of_getElem? (i := 16) rfl))) (mvT hZ (hw _ (List.mem_of_getElem? (i := 17) rfl))) (mvT hZ (hw _ (List.mem_of_getElem? (i := 4) rfl))) (mvT hZ (hw _ (List.mem_of_getElem? (i := 18) rfl))) (by decide) (backOf (W := 0) (rm5 l Z aZ hw [] b378 (7 : Int32) (Int32.ofNat f) (Int32.ofNat E) G h397 n0 Z397 f398 (⟨by decide, by decide⟩ : ¬ (7 : Int32) < 0 ∧ ((7 : Int32)).toNatClampNeg < 8)) hZ (hw _ (List.mem_of_getElem? (i := 18) rfl)) (hw _ (List.mem_of_getElem? (i := 4) rfl)) (by decide) (by decide)) (g := (mkF m 197 #[.val (.int p0), .val (.int p1), .val (.int p2), .val (.int p3), .val (.int p4), .val (.int fl), .val (.int (Int32.ofNat f)), .val (.int (Int32.ofNat l3)), .val (.ref b378), .val (.int (Int32.ofNat E)), .val (.int (Int32.ofNat T1)), .val (.int (Int32.ofNat T2)), .unset, .unset, .unset, .unset, .unset, .unset, .unset, .unset] [(.int (Int32.ofNat E)), (.int (Int32.ofNat f)), (.int (7 : Int32)), (.ref b378)])) rfl (by rw [hml]; rfl) (argsL := [(.ref b378), (.int (7 : Int32)), (.int (Int32.ofNat f)), (.int (Int32.ofNat E))]) (rest := []) (lenOf own_pd9 rfl) rfl (by show 2 * 0 + _ ≤ _; exact Nat.le_of_eq rfl) (hb hby at_197) (fun _ _ => ⟨rfl, e409, (by decide : 1 + 0 ≤ _), (by decide : 8 + 0 ≤ _)⟩)
          dsimp only [Pt.U, Pt.locs, Pt.cells, Pt.slots] at X410 l410 y410 z410 st410 hQ410
          subst l410 y410 z410
          obtain ⟨rfl, N410q, e410⟩ := hQ410
          have N410 := Fr.app N409 N410q
          refine own_goR (S' := T410.setTop (mkF m 200 #[.val (.int p0), .val (.int p1), .val (.int p2), .val (.int p3), .val (.int p4), .val (.int fl), .val (.int (Int32.ofNat f)), .val (.int (Int32.ofNat l3)), .val (.ref b378), .val (.int (Int32.ofNat E)), .val (.int (Int32.ofNat T1)), .val (.int (Int32.ofNat T2)), .unset, .unset, .unset, .unset, .unset, .unset, .unset, .unset] [(.int (own_neg (7 : Int32) (Int32.ofNat f) (Int32.ofNat E) G))])) st410 ?_
          by_cases hc200 : (own_neg (7 : Int32) (Int32.ofNat f) (Int32.ofNat E) G) = (0 : Int32)
          · skip
            refine own_goR (S' := T410.setTop (mkF m 208 #[.val (.int p0), .val (.int p1), .val (.int p2), .val (.int p3), .val (.int p4), .val (.int fl), .val (.int (Int32.ofNat f)), .val (.int (Int32.ofNat l3)), .val (.ref b378), .val (.int (Int32.ofNat E)), .val (.int (Int32.ofNat T1)), .val (.int (Int32.ofNat T2)), .unset, .unset, .unset, .unset, .unset, .unset, .unset, .unset] [(.int (1 : Int32))])) (fun target kt => ?_) ?_
            · skip
              show Steps p.tables e below (T410.setTop (mkF m 200 #[.val (.int p0), .val (.int p1), .val (.int p2), .val (.int p3), .val (.int p4), .val (.int fl), .val (.int (Int32.ofNat f)), .val (.int (Int32.ofNat l3)), .val (.ref b378), .val (.int (Int32.ofNat E)), .val (.int (Int32.ofNat T1)), .val (.int (Int32.ofNat T2)), .unset, .unset, .unset, .unset, .unset, .unset, .unset, .unset] [(.int (own_neg (7 : Int32) (Int32.ofNat f) (Int32.ofNat E) G))])) _
              refine XS.ifNo X410.here hx rfl (hb hby at_200) rfl ((if0 _ _).trans (teq hc200).2) ?_
              show Steps p.tables e below (T410.setTop (mkF m 203 #[.val (.int p0), .val (.int p1), .val (.int p2), .val (.int p3), .val (.int p4), .val (.int fl), .val (.int (Int32.ofNat f)), .val (.int (Int32.ofNat l3)), .val (.ref b378), .val (.int (Int32.ofNat E)), .val (.int (Int32.ofNat T1)), .val (.int (Int32.ofNat T2)), .unset, .unset, .unset, .unset, .unset, .unset, .unset, .unset] [])) _
              refine XS.iconst X410.here hx rfl (hb hby at_203) ?_
              show Steps p.tables e below (T410.setTop (mkF m 204 #[.val (.int p0), .val (.int p1), .val (.int p2), .val (.int p3), .val (.int p4), .val (.int fl), .val (.int (Int32.ofNat f)), .val (.int (Int32.ofNat l3)), .val (.ref b378), .val (.int (Int32.ofNat E)), .val (.int (Int32.ofNat T1)), .val (.int (Int32.ofNat T2)), .unset, .unset, .unset, .unset, .unset, .unset, .unset, .unset] [(.int (1 : Int32))])) _
              refine XS.goto X410.here hx rfl (pc0 := 204) (pc' := 208) rfl (hb hby at_204) (by decide) (by decide) ?_
              exact kt
            exact ⟨(T410, _, (1 : Int32)), ⟨X410, e410, N410, (by show (1 : Int32) = (if (own_neg (4 : Int32) (Int32.ofNat f) (Int32.ofNat E) G) = (0 : Int32) then (if (own_neg (5 : Int32) (Int32.ofNat f) (Int32.ofNat E) G) = (0 : Int32) then (if (own_neg (6 : Int32) (Int32.ofNat f) (Int32.ofNat E) G) = (0 : Int32) then (if (own_neg (7 : Int32) (Int32.ofNat f) (Int32.ofNat E) G) = (0 : Int32) then (1 : Int32) else (0 : Int32)) else (0 : Int32)) else (0 : Int32)) else (0 : Int32)); rw [if_pos hc159, if_pos hc172, if_pos hc186, if_pos hc200])⟩, fun _ k => k⟩
          · skip
            refine own_goR (S' := T410.setTop (mkF m 208 #[.val (.int p0), .val (.int p1), .val (.int p2), .val (.int p3), .val (.int p4), .val (.int fl), .val (.int (Int32.ofNat f)), .val (.int (Int32.ofNat l3)), .val (.ref b378), .val (.int (Int32.ofNat E)), .val (.int (Int32.ofNat T1)), .val (.int (Int32.ofNat T2)), .unset, .unset, .unset, .unset, .unset, .unset, .unset, .unset] [(.int (0 : Int32))])) (fun target kt => ?_) ?_
            · skip
              show Steps p.tables e below (T410.setTop (mkF m 200 #[.val (.int p0), .val (.int p1), .val (.int p2), .val (.int p3), .val (.int p4), .val (.int fl), .val (.int (Int32.ofNat f)), .val (.int (Int32.ofNat l3)), .val (.ref b378), .val (.int (Int32.ofNat E)), .val (.int (Int32.ofNat T1)), .val (.int (Int32.ofNat T2)), .unset, .unset, .unset, .unset, .unset, .unset, .unset, .unset] [(.int (own_neg (7 : Int32) (Int32.ofNat f) (Int32.ofNat E) G))])) _
              refine XS.ifYes X410.here hx rfl (pc0 := 200) (pc' := 207) rfl (hb hby at_200) rfl ((if0 _ _).trans (feq hc200).2) (by decide) (by decide) ?_
              show Steps p.tables e below (T410.setTop (mkF m 207 #[.val (.int p0), .val (.int p1), .val (.int p2), .val (.int p3), .val (.int p4), .val (.int fl), .val (.int (Int32.ofNat f)), .val (.int (Int32.ofNat l3)), .val (.ref b378), .val (.int (Int32.ofNat E)), .val (.int (Int32.ofNat T1)), .val (.int (Int32.ofNat T2)), .unset, .unset, .unset, .unset, .unset, .unset, .unset, .unset] [])) _
              refine XS.iconst X410.here hx rfl (hb hby at_207) ?_
              exact kt
            exact ⟨(T410, _, (0 : Int32)), ⟨X410, e410, N410, (by show (0 : Int32) = (if (own_neg (4 : Int32) (Int32.ofNat f) (Int32.ofNat E) G) = (0 : Int32) then (if (own_neg (5 : Int32) (Int32.ofNat f) (Int32.ofNat E) G) = (0 : Int32) then (if (own_neg (6 : Int32) (Int32.ofNat f) (Int32.ofNat E) G) = (0 : Int32) then (if (own_neg (7 : Int32) (Int32.ofNat f) (Int32.ofNat E) G) = (0 : Int32) then (1 : Int32) else (0 : Int32)) else (0 : Int32)) else (0 : Int32)) else (0 : Int32)); rw [if_pos hc159, if_pos hc172, if_pos hc186, if_neg hc200])⟩, fun _ k => k⟩
        · skip
          refine own_goR (S' := T409.setTop (mkF m 208 #[.val (.int p0), .val (.int p1), .val (.int p2), .val (.int p3), .val (.int p4), .val (.int fl), .val (.int (Int32.ofNat f)), .val (.int (Int32.ofNat l3)), .val (.ref b378), .val (.int (Int32.ofNat E)), .val (.int (Int32.ofNat T1)), .val (.int (Int32.ofNat T2)), .unset, .unset, .unset, .unset, .unset, .unset, .unset, .unset] [(.int (0 : Int32))])) (fun target kt => ?_) ?_
          · skip
            show Steps p.tables e below (T409.setTop (mkF m 186 #[.val (.int p0), .val (.int p1), .val (.int p2), .val (.int p3), .val (.int p4), .val (.int fl), .val (.int (Int32.ofNat f)), .val (.int (Int32.ofNat l3)), .val (.ref b378), .val (.int (Int32.ofNat E)), .val (.int (Int32.ofNat T1)), .val (.int (Int32.ofNat T2)), .unset, .unset, .unset, .unset, .unset, .unset, .unset, .unset] [(.int (own_neg (6 : Int32) (Int32.ofNat f) (Int32.ofNat E) G))])) _
            refine XS.ifYes X409.here hx rfl (pc0 := 186) (pc' := 207) rfl (hb hby at_186) rfl ((if0 _ _).trans (feq hc186).2) (by decide) (by decide) ?_
            show Steps p.tables e below (T409.setTop (mkF m 207 #[.val (.int p0), .val (.int p1), .val (.int p2), .val (.int p3), .val (.int p4), .val (.int fl), .val (.int (Int32.ofNat f)), .val (.int (Int32.ofNat l3)), .val (.ref b378), .val (.int (Int32.ofNat E)), .val (.int (Int32.ofNat T1)), .val (.int (Int32.ofNat T2)), .unset, .unset, .unset, .unset, .unset, .unset, .unset, .unset] [])) _
            refine XS.iconst X409.here hx rfl (hb hby at_207) ?_
            exact kt
          exact ⟨(T409, _, (0 : Int32)), ⟨X409, e409, N409, (by show (0 : Int32) = (if (own_neg (4 : Int32) (Int32.ofNat f) (Int32.ofNat E) G) = (0 : Int32) then (if (own_neg (5 : Int32) (Int32.ofNat f) (Int32.ofNat E) G) = (0 : Int32) then (if (own_neg (6 : Int32) (Int32.ofNat f) (Int32.ofNat E) G) = (0 : Int32) then (if (own_neg (7 : Int32) (Int32.ofNat f) (Int32.ofNat E) G) = (0 : Int32) then (1 : Int32) else (0 : Int32)) else (0 : Int32)) else (0 : Int32)) else (0 : Int32)); rw [if_pos hc159, if_pos hc172, if_neg hc186])⟩, fun _ k => k⟩
      · skip
        refine own_goR (S' := T408.setTop (mkF m 208 #[.val (.int p0), .val (.int p1), .val (.int p2), .val (.int p3), .val (.int p4), .val (.int fl), .val (.int (Int32.ofNat f)), .val (.int (Int32.ofNat l3)), .val (.ref b378), .val (.int (Int32.ofNat E)), .val (.int (Int32.ofNat T1)), .val (.int (Int32.ofNat T2)), .unset, .unset, .unset, .unset, .unset, .unset, .unset, .unset] [(.int (0 : Int32))])) (fun target kt => ?_) ?_
        · skip
          show Steps p.tables e below (T408.setTop (mkF m 172 #[.val (.int p0), .val (.int p1), .val (.int p2), .val (.int p3), .val (.int p4), .val (.int fl), .val (.int (Int32.ofNat f)), .val (.int (Int32.ofNat l3)), .val (.ref b378), .val (.int (Int32.ofNat E)), .val (.int (Int32.ofNat T1)), .val (.int (Int32.ofNat T2)), .unset, .unset, .unset, .unset, .unset, .unset, .unset, .unset] [(.int (own_neg (5 : Int32) (Int32.ofNat f) (Int32.ofNat E) G))])) _
          refine XS.ifYes X408.here hx rfl (pc0 := 172) (pc' := 207) rfl (hb hby at_172) rfl ((if0 _ _).trans (feq hc172).2) (by decide) (by decide) ?_
          show Steps p.tables e below (T408.setTop (mkF m 207 #[.val (.int p0), .val (.int p1), .val (.int p2), .val (.int p3), .val (.int p4), .val (.int fl), .val (.int (Int32.ofNat f)), .val (.int (Int32.ofNat l3)), .val (.ref b378), .val (.int (Int32.ofNat E)), .val (.int (Int32.ofNat T1)), .val (.int (Int32.ofNat T2)), .unset, .unset, .unset, .unset, .unset, .unset, .unset, .unset] [])) _
          refine XS.iconst X408.here hx rfl (hb hby at_207) ?_
          exact kt
        exact ⟨(T408, _, (0 : Int32)), ⟨X408, e408, N408, (by show (0 : Int32) = (if (own_neg (4 : Int32) (Int32.ofNat f) (Int32.ofNat E) G) = (0 : Int32) then (if (own_neg (5 : Int32) (Int32.ofNat f) (Int32.ofNat E) G) = (0 : Int32) then (if (own_neg (6 : Int32) (Int32.ofNat f) (Int32.ofNat E) G) = (0 : Int32) then (if (own_neg (7 : Int32) (Int32.ofNat f) (Int32.ofNat E) G) = (0 : Int32) then (1 : Int32) else (0 : Int32)) else (0 : Int32)) else (0 : Int32)) else (0 : Int32)); rw [if_pos hc159, if_neg hc172])⟩, fun _ k => k⟩
    · skip
      refine own_goR (S' := T406.setTop (mkF m 208 #[.val (.int p0), .val (.int p1), .val (.int p2), .val (.int p3), .val (.int p4), .val (.int fl), .val (.int (Int32.ofNat f)), .val (.int (Int32.ofNat l3)), .val (.ref b378), .val (.int (Int32.ofNat E)), .val (.int (Int32.ofNat T1)), .val (.int (Int32.ofNat T2)), .unset, .unset, .unset, .unset, .unset, .unset, .unset, .unset] [(.int (0 : Int32))])) (fun target kt => ?_) ?_
      · skip
        show Steps p.tables e below (T406.setTop (mkF m 159 #[.val (.int p0), .val (.int p1), .val (.int p2), .val (.int p3), .val (.int p4), .val (.int fl), .val (.int (Int32.ofNat f)), .val (.int (Int32.ofNat l3)), .val (.ref b378), .val (.int (Int32.ofNat E)), .val (.int (Int32.ofNat T1)), .val (.int (Int32.ofNat T2)), .unset, .unset, .unset, .unset, .unset, .unset, .unset, .unset] [(.int (own_neg (4 : Int32) (Int32.ofNat f) (Int32.ofNat E) G))])) _
        refine XS.ifYes X406.here hx rfl (pc0 := 159) (pc' := 207) rfl (hb hby at_159) rfl ((if0 _ _).trans (feq hc159).2) (by decide) (by decide) ?_
        show Steps p.tables e below (T406.setTop (mkF m 207 #[.val (.int p0), .val (.int p1), .val (.int p2), .val (.int p3), .val (.int p4), .val (.int fl), .val (.int (Int32.ofNat f)), .val (.int (Int32.ofNat l3)), .val (.ref b378), .val (.int (Int32.ofNat E)), .val (.int (Int32.ofNat T1)), .val (.int (Int32.ofNat T2)), .unset, .unset, .unset, .unset, .unset, .unset, .unset, .unset] [])) _
        refine XS.iconst X406.here hx rfl (hb hby at_207) ?_
        exact kt
      exact ⟨(T406, _, (0 : Int32)), ⟨X406, e406, N406, (by show (0 : Int32) = (if (own_neg (4 : Int32) (Int32.ofNat f) (Int32.ofNat E) G) = (0 : Int32) then (if (own_neg (5 : Int32) (Int32.ofNat f) (Int32.ofNat E) G) = (0 : Int32) then (if (own_neg (6 : Int32) (Int32.ofNat f) (Int32.ofNat E) G) = (0 : Int32) then (if (own_neg (7 : Int32) (Int32.ofNat f) (Int32.ofNat E) G) = (0 : Int32) then (1 : Int32) else (0 : Int32)) else (0 : Int32)) else (0 : Int32)) else (0 : Int32)); rw [if_neg hc159])⟩, fun _ k => k⟩
  dsimp only at X407 e407 N407 h_asc st407
  refine own_go (S' := T407.setTop (mkF m 208 #[.val (.int p0), .val (.int p1), .val (.int p2), .val (.int p3), .val (.int p4), .val (.int fl), .val (.int (Int32.ofNat f)), .val (.int (Int32.ofNat l3)), .val (.ref b378), .val (.int (Int32.ofNat E)), .val (.int (Int32.ofNat T1)), .val (.int (Int32.ofNat T2)), .unset, .unset, .unset, .unset, .unset, .unset, .unset, .unset] [(.int asc)])) st407 ?_
  have hasc := own_ascp h4 hf8 hEb h_asc
  refine own_go (S' := T407.setTop (mkF m 212 #[.val (.int p0), .val (.int p1), .val (.int p2), .val (.int p3), .val (.int p4), .val (.int fl), .val (.int (Int32.ofNat f)), .val (.int (Int32.ofNat l3)), .val (.ref b378), .val (.int (Int32.ofNat E)), .val (.int (Int32.ofNat T1)), .val (.int (Int32.ofNat T2)), .val (.int asc), .unset, .unset, .unset, .unset, .unset, .unset, .unset] [(.int (8 : Int32))])) (fun target kt => ?_) ?_
  · skip
    show Steps p.tables e below (T407.setTop (mkF m 208 #[.val (.int p0), .val (.int p1), .val (.int p2), .val (.int p3), .val (.int p4), .val (.int fl), .val (.int (Int32.ofNat f)), .val (.int (Int32.ofNat l3)), .val (.ref b378), .val (.int (Int32.ofNat E)), .val (.int (Int32.ofNat T1)), .val (.int (Int32.ofNat T2)), .unset, .unset, .unset, .unset, .unset, .unset, .unset, .unset] [(.int asc)])) _
    refine XS.istore X407.here hx rfl (hb hby at_208) rfl (l' := #[.val (.int p0), .val (.int p1), .val (.int p2), .val (.int p3), .val (.int p4), .val (.int fl), .val (.int (Int32.ofNat f)), .val (.int (Int32.ofNat l3)), .val (.ref b378), .val (.int (Int32.ofNat E)), .val (.int (Int32.ofNat T1)), .val (.int (Int32.ofNat T2)), .val (.int asc), .unset, .unset, .unset, .unset, .unset, .unset, .unset]) rfl ?_
    show Steps p.tables e below (T407.setTop (mkF m 210 #[.val (.int p0), .val (.int p1), .val (.int p2), .val (.int p3), .val (.int p4), .val (.int fl), .val (.int (Int32.ofNat f)), .val (.int (Int32.ofNat l3)), .val (.ref b378), .val (.int (Int32.ofNat E)), .val (.int (Int32.ofNat T1)), .val (.int (Int32.ofNat T2)), .val (.int asc), .unset, .unset, .unset, .unset, .unset, .unset, .unset] [])) _
    refine XS.bipush X407.here hx rfl (hb hby at_210) ?_
    exact kt
  obtain ⟨T411, h411, k411, X411, e411, E411, A411, B411, st411⟩ := newPE X407 hx hZ (hw _ (List.mem_of_getElem? (i := 1) rfl)) e407 (g := (mkF m 212 #[.val (.int p0), .val (.int p1), .val (.int p2), .val (.int p3), .val (.int p4), .val (.int fl), .val (.int (Int32.ofNat f)), .val (.int (Int32.ofNat l3)), .val (.ref b378), .val (.int (Int32.ofNat E)), .val (.int (Int32.ofNat T1)), .val (.int (Int32.ofNat T2)), .val (.int asc), .unset, .unset, .unset, .unset, .unset, .unset, .unset] [(.int (8 : Int32))])) rfl (hb hby at_212) rfl (by decide) (cap := 8) (by decide) (by decide) (by decide) (by decide) (ad := "[B") (by decide)
  obtain ⟨b411, g411⟩ : ∃ z, z = h397.size := ⟨_, rfl⟩
  rw [← g411] at A411 B411 st411
  have f412 : Exa Z h411 b378 "[B" := f399.ext E411
  have f413 : own_AI Z h411 b378 .byte 8 G := f398.ext E411
  have g_b411 : n0 ≤ b411 := Nat.le_trans Z397 (Nat.le_of_eq g411.symm)
  have ne_b378_b411 : b378 ≠ b411 := Nat.ne_of_lt (Nat.lt_of_lt_of_le f399.lt (Nat.le_of_eq g411.symm))
  have Z411 : n0 ≤ h411.size := Nat.le_trans Z397 E411.1
  have f414 : own_AI Z h411 b411 .byte 8 (fun _ => 0) := own_AI.fresh A411 rfl
  refine own_go (S' := T411.setTop (mkF m 214 #[.val (.int p0), .val (.int p1), .val (.int p2), .val (.int p3), .val (.int p4), .val (.int fl), .val (.int (Int32.ofNat f)), .val (.int (Int32.ofNat l3)), .val (.ref b378), .val (.int (Int32.ofNat E)), .val (.int (Int32.ofNat T1)), .val (.int (Int32.ofNat T2)), .val (.int asc), .unset, .unset, .unset, .unset, .unset, .unset, .unset] [(.ref b411)])) st411 ?_
  refine own_go (S' := T411.setTop (mkF m 221 #[.val (.int p0), .val (.int p1), .val (.int p2), .val (.int p3), .val (.int p4), .val (.int fl), .val (.int (Int32.ofNat f)), .val (.int (Int32.ofNat l3)), .val (.ref b378), .val (.int (Int32.ofNat E)), .val (.int (Int32.ofNat T1)), .val (.int (Int32.ofNat T2)), .val (.int asc), .val (.ref b411), .unset, .unset, .unset, .unset, .unset, .unset] [(.int asc), (.int (0 : Int32)), (.ref b411)])) (fun target kt => ?_) ?_
  · skip
    show Steps p.tables e below (T411.setTop (mkF m 214 #[.val (.int p0), .val (.int p1), .val (.int p2), .val (.int p3), .val (.int p4), .val (.int fl), .val (.int (Int32.ofNat f)), .val (.int (Int32.ofNat l3)), .val (.ref b378), .val (.int (Int32.ofNat E)), .val (.int (Int32.ofNat T1)), .val (.int (Int32.ofNat T2)), .val (.int asc), .unset, .unset, .unset, .unset, .unset, .unset, .unset] [(.ref b411)])) _
    refine XS.astore X411.here hx rfl (hb hby at_214) rfl rfl (l' := #[.val (.int p0), .val (.int p1), .val (.int p2), .val (.int p3), .val (.int p4), .val (.int fl), .val (.int (Int32.ofNat f)), .val (.int (Int32.ofNat l3)), .val (.ref b378), .val (.int (Int32.ofNat E)), .val (.int (Int32.ofNat T1)), .val (.int (Int32.ofNat T2)), .val (.int asc), .val (.ref b411), .unset, .unset, .unset, .unset, .unset, .unset]) rfl ?_
    show Steps p.tables e below (T411.setTop (mkF m 216 #[.val (.int p0), .val (.int p1), .val (.int p2), .val (.int p3), .val (.int p4), .val (.int fl), .val (.int (Int32.ofNat f)), .val (.int (Int32.ofNat l3)), .val (.ref b378), .val (.int (Int32.ofNat E)), .val (.int (Int32.ofNat T1)), .val (.int (Int32.ofNat T2)), .val (.int asc), .val (.ref b411), .unset, .unset, .unset, .unset, .unset, .unset] [])) _
    refine XS.aload X411.here hx rfl (hb hby at_216) rfl rfl ?_
    show Steps p.tables e below (T411.setTop (mkF m 218 #[.val (.int p0), .val (.int p1), .val (.int p2), .val (.int p3), .val (.int p4), .val (.int fl), .val (.int (Int32.ofNat f)), .val (.int (Int32.ofNat l3)), .val (.ref b378), .val (.int (Int32.ofNat E)), .val (.int (Int32.ofNat T1)), .val (.int (Int32.ofNat T2)), .val (.int asc), .val (.ref b411), .unset, .unset, .unset, .unset, .unset, .unset] [(.ref b411)])) _
    refine XS.iconst X411.here hx rfl (hb hby at_218) ?_
    show Steps p.tables e below (T411.setTop (mkF m 219 #[.val (.int p0), .val (.int p1), .val (.int p2), .val (.int p3), .val (.int p4), .val (.int fl), .val (.int (Int32.ofNat f)), .val (.int (Int32.ofNat l3)), .val (.ref b378), .val (.int (Int32.ofNat E)), .val (.int (Int32.ofNat T1)), .val (.int (Int32.ofNat T2)), .val (.int asc), .val (.ref b411), .unset, .unset, .unset, .unset, .unset, .unset] [(.int (0 : Int32)), (.ref b411)])) _
    refine XS.iload X411.here hx rfl (hb hby at_219) rfl ?_
    exact kt
  obtain ⟨pv, h_pv⟩ : ∃ z : Int32, z = (if asc = (0 : Int32) then (97 : Int32) else (-1 : Int32)) := ⟨_, rfl⟩
  refine own_go (S' := T411.setTop (mkF m 230 #[.val (.int p0), .val (.int p1), .val (.int p2), .val (.int p3), .val (.int p4), .val (.int fl), .val (.int (Int32.ofNat f)), .val (.int (Int32.ofNat l3)), .val (.ref b378), .val (.int (Int32.ofNat E)), .val (.int (Int32.ofNat T1)), .val (.int (Int32.ofNat T2)), .val (.int asc), .val (.ref b411), .unset, .unset, .unset, .unset, .unset, .unset] [(.int pv), (.int (0 : Int32)), (.ref b411)])) (fun target kt => ?_) ?_
  · skip
    by_cases hm221 : asc = (0 : Int32)
    · skip
      show Steps p.tables e below (T411.setTop (mkF m 221 #[.val (.int p0), .val (.int p1), .val (.int p2), .val (.int p3), .val (.int p4), .val (.int fl), .val (.int (Int32.ofNat f)), .val (.int (Int32.ofNat l3)), .val (.ref b378), .val (.int (Int32.ofNat E)), .val (.int (Int32.ofNat T1)), .val (.int (Int32.ofNat T2)), .val (.int asc), .val (.ref b411), .unset, .unset, .unset, .unset, .unset, .unset] [(.int asc), (.int (0 : Int32)), (.ref b411)])) _
      refine XS.ifYes X411.here hx rfl (pc0 := 221) (pc' := 228) rfl (hb hby at_221) rfl ((if0 _ _).trans (teq hm221).1) (by decide) (by decide) ?_
      show Steps p.tables e below (T411.setTop (mkF m 228 #[.val (.int p0), .val (.int p1), .val (.int p2), .val (.int p3), .val (.int p4), .val (.int fl), .val (.int (Int32.ofNat f)), .val (.int (Int32.ofNat l3)), .val (.ref b378), .val (.int (Int32.ofNat E)), .val (.int (Int32.ofNat T1)), .val (.int (Int32.ofNat T2)), .val (.int asc), .val (.ref b411), .unset, .unset, .unset, .unset, .unset, .unset] [(.int (0 : Int32)), (.ref b411)])) _
      refine XS.bipush X411.here hx rfl (hb hby at_228) ?_
      rw [h_pv, if_pos hm221] at kt
      exact kt
    · skip
      show Steps p.tables e below (T411.setTop (mkF m 221 #[.val (.int p0), .val (.int p1), .val (.int p2), .val (.int p3), .val (.int p4), .val (.int fl), .val (.int (Int32.ofNat f)), .val (.int (Int32.ofNat l3)), .val (.ref b378), .val (.int (Int32.ofNat E)), .val (.int (Int32.ofNat T1)), .val (.int (Int32.ofNat T2)), .val (.int asc), .val (.ref b411), .unset, .unset, .unset, .unset, .unset, .unset] [(.int asc), (.int (0 : Int32)), (.ref b411)])) _
      refine XS.ifNo X411.here hx rfl (hb hby at_221) rfl ((if0 _ _).trans (feq hm221).1) ?_
      show Steps p.tables e below (T411.setTop (mkF m 224 #[.val (.int p0), .val (.int p1), .val (.int p2), .val (.int p3), .val (.int p4), .val (.int fl), .val (.int (Int32.ofNat f)), .val (.int (Int32.ofNat l3)), .val (.ref b378), .val (.int (Int32.ofNat E)), .val (.int (Int32.ofNat T1)), .val (.int (Int32.ofNat T2)), .val (.int asc), .val (.ref b411), .unset, .unset, .unset, .unset, .unset, .unset] [(.int (0 : Int32)), (.ref b411)])) _
      refine XS.iconst X411.here hx rfl (hb hby at_224) ?_
      show Steps p.tables e below (T411.setTop (mkF m 225 #[.val (.int p0), .val (.int p1), .val (.int p2), .val (.int p3), .val (.int p4), .val (.int fl), .val (.int (Int32.ofNat f)), .val (.int (Int32.ofNat l3)), .val (.ref b378), .val (.int (Int32.ofNat E)), .val (.int (Int32.ofNat T1)), .val (.int (Int32.ofNat T2)), .val (.int asc), .val (.ref b411), .unset, .unset, .unset, .unset, .unset, .unset] [(.int (-1 : Int32)), (.int (0 : Int32)), (.ref b411)])) _
      refine XS.goto X411.here hx rfl (pc0 := 225) (pc' := 230) rfl (hb hby at_225) (by decide) (by decide) ?_
      rw [h_pv, if_neg hm221] at kt
      exact kt
  obtain ⟨c415, Ar415, S415, M415, H415⟩ := id f414
  have hin415 : ¬ ((0 : Int32) < 0 ∨ c415.slots.size ≤ ((0 : Int32)).toNatClampNeg) := own_in S415 ⟨by decide, by decide⟩
  obtain ⟨T416, h416, X416, e416, W416, st416⟩ := stB X411 hx hZ e411 Ar415 (j := (0 : Int32)) hin415 (g := (mkF m 230 #[.val (.int p0), .val (.int p1), .val (.int p2), .val (.int p3), .val (.int p4), .val (.int fl), .val (.int (Int32.ofNat f)), .val (.int (Int32.ofNat l3)), .val (.ref b378), .val (.int (Int32.ofNat E)), .val (.int (Int32.ofNat T1)), .val (.int (Int32.ofNat T2)), .val (.int asc), .val (.ref b411), .unset, .unset, .unset, .unset, .unset, .unset] [(.int pv), (.int (0 : Int32)), (.ref b411)])) rfl rfl (hb hby at_230)
  have f418 : Exa Z h416 b378 "[B" := f412.wr W416
  have f419 : own_AI Z h416 b378 .byte 8 G := f413.other W416 ne_b378_b411
  have f420 : Exa Z h416 b411 "[B" := B411.wr W416
  have f417 : own_AI Z h416 b411 .byte 8 (own_upd (fun _ => 0) 0 (nar .byte pv)) := own_AI.set Ar415 S415 M415 H415 W416
  have Z416 : n0 ≤ h416.size := Nat.le_trans Z411 (Keep.of_wr W416).1
  have N416 := Fr.snoc X416 N407 g_b411
  refine own_go (S' := T416.setTop (mkF m 231 #[.val (.int p0), .val (.int p1), .val (.int p2), .val (.int p3), .val (.int p4), .val (.int fl), .val (.int (Int32.ofNat f)), .val (.int (Int32.ofNat l3)), .val (.ref b378), .val (.int (Int32.ofNat E)), .val (.int (Int32.ofNat T1)), .val (.int (Int32.ofNat T2)), .val (.int asc), .val (.ref b411), .unset, .unset, .unset, .unset, .unset, .unset] [])) st416 ?_
  refine own_go (S' := T416.setTop (mkF m 236 #[.val (.int p0), .val (.int p1), .val (.int p2), .val (.int p3), .val (.int p4), .val (.int fl), .val (.int (Int32.ofNat f)), .val (.int (Int32.ofNat l3)), .val (.ref b378), .val (.int (Int32.ofNat E)), .val (.int (Int32.ofNat T1)), .val (.int (Int32.ofNat T2)), .val (.int asc), .val (.ref b411), .unset, .unset, .unset, .unset, .unset, .unset] [(.int (32 : Int32)), (.int (1 : Int32)), (.ref b411)])) (fun target kt => ?_) ?_
  · skip
    show Steps p.tables e below (T416.setTop (mkF m 231 #[.val (.int p0), .val (.int p1), .val (.int p2), .val (.int p3), .val (.int p4), .val (.int fl), .val (.int (Int32.ofNat f)), .val (.int (Int32.ofNat l3)), .val (.ref b378), .val (.int (Int32.ofNat E)), .val (.int (Int32.ofNat T1)), .val (.int (Int32.ofNat T2)), .val (.int asc), .val (.ref b411), .unset, .unset, .unset, .unset, .unset, .unset] [])) _
    refine XS.aload X416.here hx rfl (hb hby at_231) rfl rfl ?_
    show Steps p.tables e below (T416.setTop (mkF m 233 #[.val (.int p0), .val (.int p1), .val (.int p2), .val (.int p3), .val (.int p4), .val (.int fl), .val (.int (Int32.ofNat f)), .val (.int (Int32.ofNat l3)), .val (.ref b378), .val (.int (Int32.ofNat E)), .val (.int (Int32.ofNat T1)), .val (.int (Int32.ofNat T2)), .val (.int asc), .val (.ref b411), .unset, .unset, .unset, .unset, .unset, .unset] [(.ref b411)])) _
    refine XS.iconst X416.here hx rfl (hb hby at_233) ?_
    show Steps p.tables e below (T416.setTop (mkF m 234 #[.val (.int p0), .val (.int p1), .val (.int p2), .val (.int p3), .val (.int p4), .val (.int fl), .val (.int (Int32.ofNat f)), .val (.int (Int32.ofNat l3)), .val (.ref b378), .val (.int (Int32.ofNat E)), .val (.int (Int32.ofNat T1)), .val (.int (Int32.ofNat T2)), .val (.int asc), .val (.ref b411), .unset, .unset, .unset, .unset, .unset, .unset] [(.int (1 : Int32)), (.ref b411)])) _
    refine XS.bipush X416.here hx rfl (hb hby at_234) ?_
    exact kt
  obtain ⟨c421, Ar421, S421, M421, H421⟩ := id f417
  have hin421 : ¬ ((1 : Int32) < 0 ∨ c421.slots.size ≤ ((1 : Int32)).toNatClampNeg) := own_in S421 ⟨by decide, by decide⟩
  obtain ⟨T422, h422, X422, e422, W422, st422⟩ := stB X416 hx hZ e416 Ar421 (j := (1 : Int32)) hin421 (g := (mkF m 236 #[.val (.int p0), .val (.int p1), .val (.int p2), .val (.int p3), .val (.int p4), .val (.int fl), .val (.int (Int32.ofNat f)), .val (.int (Int32.ofNat l3)), .val (.ref b378), .val (.int (Int32.ofNat E)), .val (.int (Int32.ofNat T1)), .val (.int (Int32.ofNat T2)), .val (.int asc), .val (.ref b411), .unset, .unset, .unset, .unset, .unset, .unset] [(.int (32 : Int32)), (.int (1 : Int32)), (.ref b411)])) rfl rfl (hb hby at_236)
  have f424 : Exa Z h422 b378 "[B" := f418.wr W422
  have f425 : own_AI Z h422 b378 .byte 8 G := f419.other W422 ne_b378_b411
  have f426 : Exa Z h422 b411 "[B" := f420.wr W422
  have f423 : own_AI Z h422 b411 .byte 8 (own_upd (own_upd (fun _ => 0) 0 (nar .byte pv)) 1 (nar .byte (32 : Int32))) := own_AI.set Ar421 S421 M421 H421 W422
  have Z422 : n0 ≤ h422.size := Nat.le_trans Z416 (Keep.of_wr W422).1
  have N422 := Fr.snoc X422 N416 g_b411
  refine own_go (S' := T422.setTop (mkF m 237 #[.val (.int p0), .val (.int p1), .val (.int p2), .val (.int p3), .val (.int p4), .val (.int fl), .val (.int (Int32.ofNat f)), .val (.int (Int32.ofNat l3)), .val (.ref b378), .val (.int (Int32.ofNat E)), .val (.int (Int32.ofNat T1)), .val (.int (Int32.ofNat T2)), .val (.int asc), .val (.ref b411), .unset, .unset, .unset, .unset, .unset, .unset] [])) st422 ?_
  refine own_go (S' := T422.setTop (mkF m 242 #[.val (.int p0), .val (.int p1), .val (.int p2), .val (.int p3), .val (.int p4), .val (.int fl), .val (.int (Int32.ofNat f)), .val (.int (Int32.ofNat l3)), .val (.ref b378), .val (.int (Int32.ofNat E)), .val (.int (Int32.ofNat T1)), .val (.int (Int32.ofNat T2)), .val (.int asc), .val (.ref b411), .unset, .unset, .unset, .unset, .unset, .unset] [(.int (32 : Int32)), (.int (2 : Int32)), (.ref b411)])) (fun target kt => ?_) ?_
  · skip
    show Steps p.tables e below (T422.setTop (mkF m 237 #[.val (.int p0), .val (.int p1), .val (.int p2), .val (.int p3), .val (.int p4), .val (.int fl), .val (.int (Int32.ofNat f)), .val (.int (Int32.ofNat l3)), .val (.ref b378), .val (.int (Int32.ofNat E)), .val (.int (Int32.ofNat T1)), .val (.int (Int32.ofNat T2)), .val (.int asc), .val (.ref b411), .unset, .unset, .unset, .unset, .unset, .unset] [])) _
    refine XS.aload X422.here hx rfl (hb hby at_237) rfl rfl ?_
    show Steps p.tables e below (T422.setTop (mkF m 239 #[.val (.int p0), .val (.int p1), .val (.int p2), .val (.int p3), .val (.int p4), .val (.int fl), .val (.int (Int32.ofNat f)), .val (.int (Int32.ofNat l3)), .val (.ref b378), .val (.int (Int32.ofNat E)), .val (.int (Int32.ofNat T1)), .val (.int (Int32.ofNat T2)), .val (.int asc), .val (.ref b411), .unset, .unset, .unset, .unset, .unset, .unset] [(.ref b411)])) _
    refine XS.iconst X422.here hx rfl (hb hby at_239) ?_
    show Steps p.tables e below (T422.setTop (mkF m 240 #[.val (.int p0), .val (.int p1), .val (.int p2), .val (.int p3), .val (.int p4), .val (.int fl), .val (.int (Int32.ofNat f)), .val (.int (Int32.ofNat l3)), .val (.ref b378), .val (.int (Int32.ofNat E)), .val (.int (Int32.ofNat T1)), .val (.int (Int32.ofNat T2)), .val (.int asc), .val (.ref b411), .unset, .unset, .unset, .unset, .unset, .unset] [(.int (2 : Int32)), (.ref b411)])) _
    refine XS.bipush X422.here hx rfl (hb hby at_240) ?_
    exact kt
  obtain ⟨c427, Ar427, S427, M427, H427⟩ := id f423
  have hin427 : ¬ ((2 : Int32) < 0 ∨ c427.slots.size ≤ ((2 : Int32)).toNatClampNeg) := own_in S427 ⟨by decide, by decide⟩
  obtain ⟨T428, h428, X428, e428, W428, st428⟩ := stB X422 hx hZ e422 Ar427 (j := (2 : Int32)) hin427 (g := (mkF m 242 #[.val (.int p0), .val (.int p1), .val (.int p2), .val (.int p3), .val (.int p4), .val (.int fl), .val (.int (Int32.ofNat f)), .val (.int (Int32.ofNat l3)), .val (.ref b378), .val (.int (Int32.ofNat E)), .val (.int (Int32.ofNat T1)), .val (.int (Int32.ofNat T2)), .val (.int asc), .val (.ref b411), .unset, .unset, .unset, .unset, .unset, .unset] [(.int (32 : Int32)), (.int (2 : Int32)), (.ref b411)])) rfl rfl (hb hby at_242)
  have f430 : Exa Z h428 b378 "[B" := f424.wr W428
  have f431 : own_AI Z h428 b378 .byte 8 G := f425.other W428 ne_b378_b411
  have f432 : Exa Z h428 b411 "[B" := f426.wr W428
  have f429 : own_AI Z h428 b411 .byte 8 (own_upd (own_upd (own_upd (fun _ => 0) 0 (nar .byte pv)) 1 (nar .byte (32 : Int32))) 2 (nar .byte (32 : Int32))) := own_AI.set Ar427 S427 M427 H427 W428
  have Z428 : n0 ≤ h428.size := Nat.le_trans Z422 (Keep.of_wr W428).1
  have N428 := Fr.snoc X428 N422 g_b411
  refine own_go (S' := T428.setTop (mkF m 243 #[.val (.int p0), .val (.int p1), .val (.int p2), .val (.int p3), .val (.int p4), .val (.int fl), .val (.int (Int32.ofNat f)), .val (.int (Int32.ofNat l3)), .val (.ref b378), .val (.int (Int32.ofNat E)), .val (.int (Int32.ofNat T1)), .val (.int (Int32.ofNat T2)), .val (.int asc), .val (.ref b411), .unset, .unset, .unset, .unset, .unset, .unset] [])) st428 ?_
  refine own_go (S' := T428.setTop (mkF m 248 #[.val (.int p0), .val (.int p1), .val (.int p2), .val (.int p3), .val (.int p4), .val (.int fl), .val (.int (Int32.ofNat f)), .val (.int (Int32.ofNat l3)), .val (.ref b378), .val (.int (Int32.ofNat E)), .val (.int (Int32.ofNat T1)), .val (.int (Int32.ofNat T2)), .val (.int asc), .val (.ref b411), .unset, .unset, .unset, .unset, .unset, .unset] [(.int (99 : Int32)), (.int (3 : Int32)), (.ref b411)])) (fun target kt => ?_) ?_
  · skip
    show Steps p.tables e below (T428.setTop (mkF m 243 #[.val (.int p0), .val (.int p1), .val (.int p2), .val (.int p3), .val (.int p4), .val (.int fl), .val (.int (Int32.ofNat f)), .val (.int (Int32.ofNat l3)), .val (.ref b378), .val (.int (Int32.ofNat E)), .val (.int (Int32.ofNat T1)), .val (.int (Int32.ofNat T2)), .val (.int asc), .val (.ref b411), .unset, .unset, .unset, .unset, .unset, .unset] [])) _
    refine XS.aload X428.here hx rfl (hb hby at_243) rfl rfl ?_
    show Steps p.tables e below (T428.setTop (mkF m 245 #[.val (.int p0), .val (.int p1), .val (.int p2), .val (.int p3), .val (.int p4), .val (.int fl), .val (.int (Int32.ofNat f)), .val (.int (Int32.ofNat l3)), .val (.ref b378), .val (.int (Int32.ofNat E)), .val (.int (Int32.ofNat T1)), .val (.int (Int32.ofNat T2)), .val (.int asc), .val (.ref b411), .unset, .unset, .unset, .unset, .unset, .unset] [(.ref b411)])) _
    refine XS.iconst X428.here hx rfl (hb hby at_245) ?_
    show Steps p.tables e below (T428.setTop (mkF m 246 #[.val (.int p0), .val (.int p1), .val (.int p2), .val (.int p3), .val (.int p4), .val (.int fl), .val (.int (Int32.ofNat f)), .val (.int (Int32.ofNat l3)), .val (.ref b378), .val (.int (Int32.ofNat E)), .val (.int (Int32.ofNat T1)), .val (.int (Int32.ofNat T2)), .val (.int asc), .val (.ref b411), .unset, .unset, .unset, .unset, .unset, .unset] [(.int (3 : Int32)), (.ref b411)])) _
    refine XS.bipush X428.here hx rfl (hb hby at_246) ?_
    exact kt
  obtain ⟨c433, Ar433, S433, M433, H433⟩ := id f429
  have hin433 : ¬ ((3 : Int32) < 0 ∨ c433.slots.size ≤ ((3 : Int32)).toNatClampNeg) := own_in S433 ⟨by decide, by decide⟩
  obtain ⟨T434, h434, X434, e434, W434, st434⟩ := stB X428 hx hZ e428 Ar433 (j := (3 : Int32)) hin433 (g := (mkF m 248 #[.val (.int p0), .val (.int p1), .val (.int p2), .val (.int p3), .val (.int p4), .val (.int fl), .val (.int (Int32.ofNat f)), .val (.int (Int32.ofNat l3)), .val (.ref b378), .val (.int (Int32.ofNat E)), .val (.int (Int32.ofNat T1)), .val (.int (Int32.ofNat T2)), .val (.int asc), .val (.ref b411), .unset, .unset, .unset, .unset, .unset, .unset] [(.int (99 : Int32)), (.int (3 : Int32)), (.ref b411)])) rfl rfl (hb hby at_248)
  have f436 : Exa Z h434 b378 "[B" := f430.wr W434
  have f437 : own_AI Z h434 b378 .byte 8 G := f431.other W434 ne_b378_b411
  have f438 : Exa Z h434 b411 "[B" := f432.wr W434
  have f435 : own_AI Z h434 b411 .byte 8 (own_upd (own_upd (own_upd (own_upd (fun _ => 0) 0 (nar .byte pv)) 1 (nar .byte (32 : Int32))) 2 (nar .byte (32 : Int32))) 3 (nar .byte (99 : Int32))) := own_AI.set Ar433 S433 M433 H433 W434
  have Z434 : n0 ≤ h434.size := Nat.le_trans Z428 (Keep.of_wr W434).1
  have N434 := Fr.snoc X434 N428 g_b411
  refine own_go (S' := T434.setTop (mkF m 249 #[.val (.int p0), .val (.int p1), .val (.int p2), .val (.int p3), .val (.int p4), .val (.int fl), .val (.int (Int32.ofNat f)), .val (.int (Int32.ofNat l3)), .val (.ref b378), .val (.int (Int32.ofNat E)), .val (.int (Int32.ofNat T1)), .val (.int (Int32.ofNat T2)), .val (.int asc), .val (.ref b411), .unset, .unset, .unset, .unset, .unset, .unset] [])) st434 ?_
  refine own_go (S' := T434.setTop (mkF m 254 #[.val (.int p0), .val (.int p1), .val (.int p2), .val (.int p3), .val (.int p4), .val (.int fl), .val (.int (Int32.ofNat f)), .val (.int (Int32.ofNat l3)), .val (.ref b378), .val (.int (Int32.ofNat E)), .val (.int (Int32.ofNat T1)), .val (.int (Int32.ofNat T2)), .val (.int asc), .val (.ref b411), .unset, .unset, .unset, .unset, .unset, .unset] [(.int (99 : Int32)), (.int (4 : Int32)), (.ref b411)])) (fun target kt => ?_) ?_
  · skip
    show Steps p.tables e below (T434.setTop (mkF m 249 #[.val (.int p0), .val (.int p1), .val (.int p2), .val (.int p3), .val (.int p4), .val (.int fl), .val (.int (Int32.ofNat f)), .val (.int (Int32.ofNat l3)), .val (.ref b378), .val (.int (Int32.ofNat E)), .val (.int (Int32.ofNat T1)), .val (.int (Int32.ofNat T2)), .val (.int asc), .val (.ref b411), .unset, .unset, .unset, .unset, .unset, .unset] [])) _
    refine XS.aload X434.here hx rfl (hb hby at_249) rfl rfl ?_
    show Steps p.tables e below (T434.setTop (mkF m 251 #[.val (.int p0), .val (.int p1), .val (.int p2), .val (.int p3), .val (.int p4), .val (.int fl), .val (.int (Int32.ofNat f)), .val (.int (Int32.ofNat l3)), .val (.ref b378), .val (.int (Int32.ofNat E)), .val (.int (Int32.ofNat T1)), .val (.int (Int32.ofNat T2)), .val (.int asc), .val (.ref b411), .unset, .unset, .unset, .unset, .unset, .unset] [(.ref b411)])) _
    refine XS.iconst X434.here hx rfl (hb hby at_251) ?_
    show Steps p.tables e below (T434.setTop (mkF m 252 #[.val (.int p0), .val (.int p1), .val (.int p2), .val (.int p3), .val (.int p4), .val (.int fl), .val (.int (Int32.ofNat f)), .val (.int (Int32.ofNat l3)), .val (.ref b378), .val (.int (Int32.ofNat E)), .val (.int (Int32.ofNat T1)), .val (.int (Int32.ofNat T2)), .val (.int asc), .val (.ref b411), .unset, .unset, .unset, .unset, .unset, .unset] [(.int (4 : Int32)), (.ref b411)])) _
    refine XS.bipush X434.here hx rfl (hb hby at_252) ?_
    exact kt
  obtain ⟨c439, Ar439, S439, M439, H439⟩ := id f435
  have hin439 : ¬ ((4 : Int32) < 0 ∨ c439.slots.size ≤ ((4 : Int32)).toNatClampNeg) := own_in S439 ⟨by decide, by decide⟩
  obtain ⟨T440, h440, X440, e440, W440, st440⟩ := stB X434 hx hZ e434 Ar439 (j := (4 : Int32)) hin439 (g := (mkF m 254 #[.val (.int p0), .val (.int p1), .val (.int p2), .val (.int p3), .val (.int p4), .val (.int fl), .val (.int (Int32.ofNat f)), .val (.int (Int32.ofNat l3)), .val (.ref b378), .val (.int (Int32.ofNat E)), .val (.int (Int32.ofNat T1)), .val (.int (Int32.ofNat T2)), .val (.int asc), .val (.ref b411), .unset, .unset, .unset, .unset, .unset, .unset] [(.int (99 : Int32)), (.int (4 : Int32)), (.ref b411)])) rfl rfl (hb hby at_254)
  have f442 : Exa Z h440 b378 "[B" := f436.wr W440
  have f443 : own_AI Z h440 b378 .byte 8 G := f437.other W440 ne_b378_b411
  have f444 : Exa Z h440 b411 "[B" := f438.wr W440
  have f441 : own_AI Z h440 b411 .byte 8 (own_upd (own_upd (own_upd (own_upd (own_upd (fun _ => 0) 0 (nar .byte pv)) 1 (nar .byte (32 : Int32))) 2 (nar .byte (32 : Int32))) 3 (nar .byte (99 : Int32))) 4 (nar .byte (99 : Int32))) := own_AI.set Ar439 S439 M439 H439 W440
  have Z440 : n0 ≤ h440.size := Nat.le_trans Z434 (Keep.of_wr W440).1
  have N440 := Fr.snoc X440 N434 g_b411
  refine own_go (S' := T440.setTop (mkF m 255 #[.val (.int p0), .val (.int p1), .val (.int p2), .val (.int p3), .val (.int p4), .val (.int fl), .val (.int (Int32.ofNat f)), .val (.int (Int32.ofNat l3)), .val (.ref b378), .val (.int (Int32.ofNat E)), .val (.int (Int32.ofNat T1)), .val (.int (Int32.ofNat T2)), .val (.int asc), .val (.ref b411), .unset, .unset, .unset, .unset, .unset, .unset] [])) st440 ?_
  refine own_go (S' := T440.setTop (mkF m 260 #[.val (.int p0), .val (.int p1), .val (.int p2), .val (.int p3), .val (.int p4), .val (.int fl), .val (.int (Int32.ofNat f)), .val (.int (Int32.ofNat l3)), .val (.ref b378), .val (.int (Int32.ofNat E)), .val (.int (Int32.ofNat T1)), .val (.int (Int32.ofNat T2)), .val (.int asc), .val (.ref b411), .unset, .unset, .unset, .unset, .unset, .unset] [(.int (99 : Int32)), (.int (5 : Int32)), (.ref b411)])) (fun target kt => ?_) ?_
  · skip
    show Steps p.tables e below (T440.setTop (mkF m 255 #[.val (.int p0), .val (.int p1), .val (.int p2), .val (.int p3), .val (.int p4), .val (.int fl), .val (.int (Int32.ofNat f)), .val (.int (Int32.ofNat l3)), .val (.ref b378), .val (.int (Int32.ofNat E)), .val (.int (Int32.ofNat T1)), .val (.int (Int32.ofNat T2)), .val (.int asc), .val (.ref b411), .unset, .unset, .unset, .unset, .unset, .unset] [])) _
    refine XS.aload X440.here hx rfl (hb hby at_255) rfl rfl ?_
    show Steps p.tables e below (T440.setTop (mkF m 257 #[.val (.int p0), .val (.int p1), .val (.int p2), .val (.int p3), .val (.int p4), .val (.int fl), .val (.int (Int32.ofNat f)), .val (.int (Int32.ofNat l3)), .val (.ref b378), .val (.int (Int32.ofNat E)), .val (.int (Int32.ofNat T1)), .val (.int (Int32.ofNat T2)), .val (.int asc), .val (.ref b411), .unset, .unset, .unset, .unset, .unset, .unset] [(.ref b411)])) _
    refine XS.iconst X440.here hx rfl (hb hby at_257) ?_
    show Steps p.tables e below (T440.setTop (mkF m 258 #[.val (.int p0), .val (.int p1), .val (.int p2), .val (.int p3), .val (.int p4), .val (.int fl), .val (.int (Int32.ofNat f)), .val (.int (Int32.ofNat l3)), .val (.ref b378), .val (.int (Int32.ofNat E)), .val (.int (Int32.ofNat T1)), .val (.int (Int32.ofNat T2)), .val (.int asc), .val (.ref b411), .unset, .unset, .unset, .unset, .unset, .unset] [(.int (5 : Int32)), (.ref b411)])) _
    refine XS.bipush X440.here hx rfl (hb hby at_258) ?_
    exact kt
  obtain ⟨c445, Ar445, S445, M445, H445⟩ := id f441
  have hin445 : ¬ ((5 : Int32) < 0 ∨ c445.slots.size ≤ ((5 : Int32)).toNatClampNeg) := own_in S445 ⟨by decide, by decide⟩
  obtain ⟨T446, h446, X446, e446, W446, st446⟩ := stB X440 hx hZ e440 Ar445 (j := (5 : Int32)) hin445 (g := (mkF m 260 #[.val (.int p0), .val (.int p1), .val (.int p2), .val (.int p3), .val (.int p4), .val (.int fl), .val (.int (Int32.ofNat f)), .val (.int (Int32.ofNat l3)), .val (.ref b378), .val (.int (Int32.ofNat E)), .val (.int (Int32.ofNat T1)), .val (.int (Int32.ofNat T2)), .val (.int asc), .val (.ref b411), .unset, .unset, .unset, .unset, .unset, .unset] [(.int (99 : Int32)), (.int (5 : Int32)), (.ref b411)])) rfl rfl (hb hby at_260)
  have f448 : Exa Z h446 b378 "[B" := f442.wr W446
  have f449 : own_AI Z h446 b378 .byte 8 G := f443.other W446 ne_b378_b411
  have f450 : Exa Z h446 b411 "[B" := f444.wr W446
  have f447 : own_AI Z h446 b411 .byte 8 (own_upd (own_upd (own_upd (own_upd (own_upd (own_upd (fun _ => 0) 0 (nar .byte pv)) 1 (nar .byte (32 : Int32))) 2 (nar .byte (32 : Int32))) 3 (nar .byte (99 : Int32))) 4 (nar .byte (99 : Int32))) 5 (nar .byte (99 : Int32))) := own_AI.set Ar445 S445 M445 H445 W446
  have Z446 : n0 ≤ h446.size := Nat.le_trans Z440 (Keep.of_wr W446).1
  have N446 := Fr.snoc X446 N440 g_b411
  refine own_go (S' := T446.setTop (mkF m 261 #[.val (.int p0), .val (.int p1), .val (.int p2), .val (.int p3), .val (.int p4), .val (.int fl), .val (.int (Int32.ofNat f)), .val (.int (Int32.ofNat l3)), .val (.ref b378), .val (.int (Int32.ofNat E)), .val (.int (Int32.ofNat T1)), .val (.int (Int32.ofNat T2)), .val (.int asc), .val (.ref b411), .unset, .unset, .unset, .unset, .unset, .unset] [])) st446 ?_
  refine own_go (S' := T446.setTop (mkF m 267 #[.val (.int p0), .val (.int p1), .val (.int p2), .val (.int p3), .val (.int p4), .val (.int fl), .val (.int (Int32.ofNat f)), .val (.int (Int32.ofNat l3)), .val (.ref b378), .val (.int (Int32.ofNat E)), .val (.int (Int32.ofNat T1)), .val (.int (Int32.ofNat T2)), .val (.int asc), .val (.ref b411), .unset, .unset, .unset, .unset, .unset, .unset] [(.int (99 : Int32)), (.int (6 : Int32)), (.ref b411)])) (fun target kt => ?_) ?_
  · skip
    show Steps p.tables e below (T446.setTop (mkF m 261 #[.val (.int p0), .val (.int p1), .val (.int p2), .val (.int p3), .val (.int p4), .val (.int fl), .val (.int (Int32.ofNat f)), .val (.int (Int32.ofNat l3)), .val (.ref b378), .val (.int (Int32.ofNat E)), .val (.int (Int32.ofNat T1)), .val (.int (Int32.ofNat T2)), .val (.int asc), .val (.ref b411), .unset, .unset, .unset, .unset, .unset, .unset] [])) _
    refine XS.aload X446.here hx rfl (hb hby at_261) rfl rfl ?_
    show Steps p.tables e below (T446.setTop (mkF m 263 #[.val (.int p0), .val (.int p1), .val (.int p2), .val (.int p3), .val (.int p4), .val (.int fl), .val (.int (Int32.ofNat f)), .val (.int (Int32.ofNat l3)), .val (.ref b378), .val (.int (Int32.ofNat E)), .val (.int (Int32.ofNat T1)), .val (.int (Int32.ofNat T2)), .val (.int asc), .val (.ref b411), .unset, .unset, .unset, .unset, .unset, .unset] [(.ref b411)])) _
    refine XS.bipush X446.here hx rfl (hb hby at_263) ?_
    show Steps p.tables e below (T446.setTop (mkF m 265 #[.val (.int p0), .val (.int p1), .val (.int p2), .val (.int p3), .val (.int p4), .val (.int fl), .val (.int (Int32.ofNat f)), .val (.int (Int32.ofNat l3)), .val (.ref b378), .val (.int (Int32.ofNat E)), .val (.int (Int32.ofNat T1)), .val (.int (Int32.ofNat T2)), .val (.int asc), .val (.ref b411), .unset, .unset, .unset, .unset, .unset, .unset] [(.int (6 : Int32)), (.ref b411)])) _
    refine XS.bipush X446.here hx rfl (hb hby at_265) ?_
    exact kt
  obtain ⟨c451, Ar451, S451, M451, H451⟩ := id f447
  have hin451 : ¬ ((6 : Int32) < 0 ∨ c451.slots.size ≤ ((6 : Int32)).toNatClampNeg) := own_in S451 ⟨by decide, by decide⟩
  obtain ⟨T452, h452, X452, e452, W452, st452⟩ := stB X446 hx hZ e446 Ar451 (j := (6 : Int32)) hin451 (g := (mkF m 267 #[.val (.int p0), .val (.int p1), .val (.int p2), .val (.int p3), .val (.int p4), .val (.int fl), .val (.int (Int32.ofNat f)), .val (.int (Int32.ofNat l3)), .val (.ref b378), .val (.int (Int32.ofNat E)), .val (.int (Int32.ofNat T1)), .val (.int (Int32.ofNat T2)), .val (.int asc), .val (.ref b411), .unset, .unset, .unset, .unset, .unset, .unset] [(.int (99 : Int32)), (.int (6 : Int32)), (.ref b411)])) rfl rfl (hb hby at_267)
  have f454 : Exa Z h452 b378 "[B" := f448.wr W452
  have f455 : own_AI Z h452 b378 .byte 8 G := f449.other W452 ne_b378_b411
  have f456 : Exa Z h452 b411 "[B" := f450.wr W452
  have f453 : own_AI Z h452 b411 .byte 8 (own_upd (own_upd (own_upd (own_upd (own_upd (own_upd (own_upd (fun _ => 0) 0 (nar .byte pv)) 1 (nar .byte (32 : Int32))) 2 (nar .byte (32 : Int32))) 3 (nar .byte (99 : Int32))) 4 (nar .byte (99 : Int32))) 5 (nar .byte (99 : Int32))) 6 (nar .byte (99 : Int32))) := own_AI.set Ar451 S451 M451 H451 W452
  have Z452 : n0 ≤ h452.size := Nat.le_trans Z446 (Keep.of_wr W452).1
  have N452 := Fr.snoc X452 N446 g_b411
  refine own_go (S' := T452.setTop (mkF m 268 #[.val (.int p0), .val (.int p1), .val (.int p2), .val (.int p3), .val (.int p4), .val (.int fl), .val (.int (Int32.ofNat f)), .val (.int (Int32.ofNat l3)), .val (.ref b378), .val (.int (Int32.ofNat E)), .val (.int (Int32.ofNat T1)), .val (.int (Int32.ofNat T2)), .val (.int asc), .val (.ref b411), .unset, .unset, .unset, .unset, .unset, .unset] [])) st452 ?_
  refine own_go (S' := T452.setTop (mkF m 274 #[.val (.int p0), .val (.int p1), .val (.int p2), .val (.int p3), .val (.int p4), .val (.int fl), .val (.int (Int32.ofNat f)), .val (.int (Int32.ofNat l3)), .val (.ref b378), .val (.int (Int32.ofNat E)), .val (.int (Int32.ofNat T1)), .val (.int (Int32.ofNat T2)), .val (.int asc), .val (.ref b411), .unset, .unset, .unset, .unset, .unset, .unset] [(.int (99 : Int32)), (.int (7 : Int32)), (.ref b411)])) (fun target kt => ?_) ?_
  · skip
    show Steps p.tables e below (T452.setTop (mkF m 268 #[.val (.int p0), .val (.int p1), .val (.int p2), .val (.int p3), .val (.int p4), .val (.int fl), .val (.int (Int32.ofNat f)), .val (.int (Int32.ofNat l3)), .val (.ref b378), .val (.int (Int32.ofNat E)), .val (.int (Int32.ofNat T1)), .val (.int (Int32.ofNat T2)), .val (.int asc), .val (.ref b411), .unset, .unset, .unset, .unset, .unset, .unset] [])) _
    refine XS.aload X452.here hx rfl (hb hby at_268) rfl rfl ?_
    show Steps p.tables e below (T452.setTop (mkF m 270 #[.val (.int p0), .val (.int p1), .val (.int p2), .val (.int p3), .val (.int p4), .val (.int fl), .val (.int (Int32.ofNat f)), .val (.int (Int32.ofNat l3)), .val (.ref b378), .val (.int (Int32.ofNat E)), .val (.int (Int32.ofNat T1)), .val (.int (Int32.ofNat T2)), .val (.int asc), .val (.ref b411), .unset, .unset, .unset, .unset, .unset, .unset] [(.ref b411)])) _
    refine XS.bipush X452.here hx rfl (hb hby at_270) ?_
    show Steps p.tables e below (T452.setTop (mkF m 272 #[.val (.int p0), .val (.int p1), .val (.int p2), .val (.int p3), .val (.int p4), .val (.int fl), .val (.int (Int32.ofNat f)), .val (.int (Int32.ofNat l3)), .val (.ref b378), .val (.int (Int32.ofNat E)), .val (.int (Int32.ofNat T1)), .val (.int (Int32.ofNat T2)), .val (.int asc), .val (.ref b411), .unset, .unset, .unset, .unset, .unset, .unset] [(.int (7 : Int32)), (.ref b411)])) _
    refine XS.bipush X452.here hx rfl (hb hby at_272) ?_
    exact kt
  obtain ⟨c457, Ar457, S457, M457, H457⟩ := id f453
  have hin457 : ¬ ((7 : Int32) < 0 ∨ c457.slots.size ≤ ((7 : Int32)).toNatClampNeg) := own_in S457 ⟨by decide, by decide⟩
  obtain ⟨T458, h458, X458, e458, W458, st458⟩ := stB X452 hx hZ e452 Ar457 (j := (7 : Int32)) hin457 (g := (mkF m 274 #[.val (.int p0), .val (.int p1), .val (.int p2), .val (.int p3), .val (.int p4), .val (.int fl), .val (.int (Int32.ofNat f)), .val (.int (Int32.ofNat l3)), .val (.ref b378), .val (.int (Int32.ofNat E)), .val (.int (Int32.ofNat T1)), .val (.int (Int32.ofNat T2)), .val (.int asc), .val (.ref b411), .unset, .unset, .unset, .unset, .unset, .unset] [(.int (99 : Int32)), (.int (7 : Int32)), (.ref b411)])) rfl rfl (hb hby at_274)
  have f460 : Exa Z h458 b378 "[B" := f454.wr W458
  have f461 : own_AI Z h458 b378 .byte 8 G := f455.other W458 ne_b378_b411
  have f462 : Exa Z h458 b411 "[B" := f456.wr W458
  have f459 : own_AI Z h458 b411 .byte 8 (own_upd (own_upd (own_upd (own_upd (own_upd (own_upd (own_upd (own_upd (fun _ => 0) 0 (nar .byte pv)) 1 (nar .byte (32 : Int32))) 2 (nar .byte (32 : Int32))) 3 (nar .byte (99 : Int32))) 4 (nar .byte (99 : Int32))) 5 (nar .byte (99 : Int32))) 6 (nar .byte (99 : Int32))) 7 (nar .byte (99 : Int32))) := own_AI.set Ar457 S457 M457 H457 W458
  have Z458 : n0 ≤ h458.size := Nat.le_trans Z452 (Keep.of_wr W458).1
  have N458 := Fr.snoc X458 N452 g_b411
  refine own_go (S' := T458.setTop (mkF m 275 #[.val (.int p0), .val (.int p1), .val (.int p2), .val (.int p3), .val (.int p4), .val (.int fl), .val (.int (Int32.ofNat f)), .val (.int (Int32.ofNat l3)), .val (.ref b378), .val (.int (Int32.ofNat E)), .val (.int (Int32.ofNat T1)), .val (.int (Int32.ofNat T2)), .val (.int asc), .val (.ref b411), .unset, .unset, .unset, .unset, .unset, .unset] [])) st458 ?_
  obtain ⟨gp, h_gp⟩ : ∃ z : Nat → Int32, z = (own_upd (own_upd (own_upd (own_upd (own_upd (own_upd (own_upd (own_upd (fun _ => 0) 0 (nar .byte pv)) 1 (nar .byte (32 : Int32))) 2 (nar .byte (32 : Int32))) 3 (nar .byte (99 : Int32))) 4 (nar .byte (99 : Int32))) 5 (nar .byte (99 : Int32))) 6 (nar .byte (99 : Int32))) 7 (nar .byte (99 : Int32))) := ⟨_, rfl⟩
  rw [← h_gp] at f459
  refine own_go (S' := T458.setTop (mkF m 281 #[.val (.int p0), .val (.int p1), .val (.int p2), .val (.int p3), .val (.int p4), .val (.int fl), .val (.int (Int32.ofNat f)), .val (.int (Int32.ofNat l3)), .val (.ref b378), .val (.int (Int32.ofNat E)), .val (.int (Int32.ofNat T1)), .val (.int (Int32.ofNat T2)), .val (.int asc), .val (.ref b411), .unset, .unset, .unset, .unset, .unset, .unset] [(.int ((Int32.ofNat T1) + (1 : Int32))), (.int (Int32.ofNat T2))])) (fun target kt => ?_) ?_
  · skip
    show Steps p.tables e below (T458.setTop (mkF m 275 #[.val (.int p0), .val (.int p1), .val (.int p2), .val (.int p3), .val (.int p4), .val (.int fl), .val (.int (Int32.ofNat f)), .val (.int (Int32.ofNat l3)), .val (.ref b378), .val (.int (Int32.ofNat E)), .val (.int (Int32.ofNat T1)), .val (.int (Int32.ofNat T2)), .val (.int asc), .val (.ref b411), .unset, .unset, .unset, .unset, .unset, .unset] [])) _
    refine XS.iload X458.here hx rfl (hb hby at_275) rfl ?_
    show Steps p.tables e below (T458.setTop (mkF m 277 #[.val (.int p0), .val (.int p1), .val (.int p2), .val (.int p3), .val (.int p4), .val (.int fl), .val (.int (Int32.ofNat f)), .val (.int (Int32.ofNat l3)), .val (.ref b378), .val (.int (Int32.ofNat E)), .val (.int (Int32.ofNat T1)), .val (.int (Int32.ofNat T2)), .val (.int asc), .val (.ref b411), .unset, .unset, .unset, .unset, .unset, .unset] [(.int (Int32.ofNat T2))])) _
    refine XS.iload X458.here hx rfl (hb hby at_277) rfl ?_
    show Steps p.tables e below (T458.setTop (mkF m 279 #[.val (.int p0), .val (.int p1), .val (.int p2), .val (.int p3), .val (.int p4), .val (.int fl), .val (.int (Int32.ofNat f)), .val (.int (Int32.ofNat l3)), .val (.ref b378), .val (.int (Int32.ofNat E)), .val (.int (Int32.ofNat T1)), .val (.int (Int32.ofNat T2)), .val (.int asc), .val (.ref b411), .unset, .unset, .unset, .unset, .unset, .unset] [(.int (Int32.ofNat T1)), (.int (Int32.ofNat T2))])) _
    refine XS.iconst X458.here hx rfl (hb hby at_279) ?_
    show Steps p.tables e below (T458.setTop (mkF m 280 #[.val (.int p0), .val (.int p1), .val (.int p2), .val (.int p3), .val (.int p4), .val (.int fl), .val (.int (Int32.ofNat f)), .val (.int (Int32.ofNat l3)), .val (.ref b378), .val (.int (Int32.ofNat E)), .val (.int (Int32.ofNat T1)), .val (.int (Int32.ofNat T2)), .val (.int asc), .val (.ref b411), .unset, .unset, .unset, .unset, .unset, .unset] [(.int (1 : Int32)), (.int (Int32.ofNat T1)), (.int (Int32.ofNat T2))])) _
    refine XS.iadd X458.here hx rfl (hb hby at_280) rfl ?_
    exact kt
  obtain ⟨adj, h_adj⟩ : ∃ z : Int32, z = (if (Int32.ofNat T2) = ((Int32.ofNat T1) + (1 : Int32)) then (1 : Int32) else (0 : Int32)) := ⟨_, rfl⟩
  refine own_go (S' := T458.setTop (mkF m 289 #[.val (.int p0), .val (.int p1), .val (.int p2), .val (.int p3), .val (.int p4), .val (.int fl), .val (.int (Int32.ofNat f)), .val (.int (Int32.ofNat l3)), .val (.ref b378), .val (.int (Int32.ofNat E)), .val (.int (Int32.ofNat T1)), .val (.int (Int32.ofNat T2)), .val (.int asc), .val (.ref b411), .unset, .unset, .unset, .unset, .unset, .unset] [(.int adj)])) (fun target kt => ?_) ?_
  · skip
    by_cases hm281 : (Int32.ofNat T2) = ((Int32.ofNat T1) + (1 : Int32))
    · skip
      show Steps p.tables e below (T458.setTop (mkF m 281 #[.val (.int p0), .val (.int p1), .val (.int p2), .val (.int p3), .val (.int p4), .val (.int fl), .val (.int (Int32.ofNat f)), .val (.int (Int32.ofNat l3)), .val (.ref b378), .val (.int (Int32.ofNat E)), .val (.int (Int32.ofNat T1)), .val (.int (Int32.ofNat T2)), .val (.int asc), .val (.ref b411), .unset, .unset, .unset, .unset, .unset, .unset] [(.int ((Int32.ofNat T1) + (1 : Int32))), (.int (Int32.ofNat T2))])) _
      refine XS.icmpNo X458.here hx rfl (hb hby at_281) rfl (teq hm281).2 ?_
      show Steps p.tables e below (T458.setTop (mkF m 284 #[.val (.int p0), .val (.int p1), .val (.int p2), .val (.int p3), .val (.int p4), .val (.int fl), .val (.int (Int32.ofNat f)), .val (.int (Int32.ofNat l3)), .val (.ref b378), .val (.int (Int32.ofNat E)), .val (.int (Int32.ofNat T1)), .val (.int (Int32.ofNat T2)), .val (.int asc), .val (.ref b411), .unset, .unset, .unset, .unset, .unset, .unset] [])) _
      refine XS.iconst X458.here hx rfl (hb hby at_284) ?_
      show Steps p.tables e below (T458.setTop (mkF m 285 #[.val (.int p0), .val (.int p1), .val (.int p2), .val (.int p3), .val (.int p4), .val (.int fl), .val (.int (Int32.ofNat f)), .val (.int (Int32.ofNat l3)), .val (.ref b378), .val (.int (Int32.ofNat E)), .val (.int (Int32.ofNat T1)), .val (.int (Int32.ofNat T2)), .val (.int asc), .val (.ref b411), .unset, .unset, .unset, .unset, .unset, .unset] [(.int (1 : Int32))])) _
      refine XS.goto X458.here hx rfl (pc0 := 285) (pc' := 289) rfl (hb hby at_285) (by decide) (by decide) ?_
      rw [h_adj, if_pos hm281] at kt
      exact kt
    · skip
      show Steps p.tables e below (T458.setTop (mkF m 281 #[.val (.int p0), .val (.int p1), .val (.int p2), .val (.int p3), .val (.int p4), .val (.int fl), .val (.int (Int32.ofNat f)), .val (.int (Int32.ofNat l3)), .val (.ref b378), .val (.int (Int32.ofNat E)), .val (.int (Int32.ofNat T1)), .val (.int (Int32.ofNat T2)), .val (.int asc), .val (.ref b411), .unset, .unset, .unset, .unset, .unset, .unset] [(.int ((Int32.ofNat T1) + (1 : Int32))), (.int (Int32.ofNat T2))])) _
      refine XS.icmpYes X458.here hx rfl (pc0 := 281) (pc' := 288) rfl (hb hby at_281) rfl (feq hm281).2 (by decide) (by decide) ?_
      show Steps p.tables e below (T458.setTop (mkF m 288 #[.val (.int p0), .val (.int p1), .val (.int p2), .val (.int p3), .val (.int p4), .val (.int fl), .val (.int (Int32.ofNat f)), .val (.int (Int32.ofNat l3)), .val (.ref b378), .val (.int (Int32.ofNat E)), .val (.int (Int32.ofNat T1)), .val (.int (Int32.ofNat T2)), .val (.int asc), .val (.ref b411), .unset, .unset, .unset, .unset, .unset, .unset] [])) _
      refine XS.iconst X458.here hx rfl (hb hby at_288) ?_
      rw [h_adj, if_neg hm281] at kt
      exact kt
  refine own_go (S' := T458.setTop (mkF m 293 #[.val (.int p0), .val (.int p1), .val (.int p2), .val (.int p3), .val (.int p4), .val (.int fl), .val (.int (Int32.ofNat f)), .val (.int (Int32.ofNat l3)), .val (.ref b378), .val (.int (Int32.ofNat E)), .val (.int (Int32.ofNat T1)), .val (.int (Int32.ofNat T2)), .val (.int asc), .val (.ref b411), .val (.int adj), .unset, .unset, .unset, .unset, .unset] [(.int adj)])) (fun target kt => ?_) ?_
  · skip
    show Steps p.tables e below (T458.setTop (mkF m 289 #[.val (.int p0), .val (.int p1), .val (.int p2), .val (.int p3), .val (.int p4), .val (.int fl), .val (.int (Int32.ofNat f)), .val (.int (Int32.ofNat l3)), .val (.ref b378), .val (.int (Int32.ofNat E)), .val (.int (Int32.ofNat T1)), .val (.int (Int32.ofNat T2)), .val (.int asc), .val (.ref b411), .unset, .unset, .unset, .unset, .unset, .unset] [(.int adj)])) _
    refine XS.istore X458.here hx rfl (hb hby at_289) rfl (l' := #[.val (.int p0), .val (.int p1), .val (.int p2), .val (.int p3), .val (.int p4), .val (.int fl), .val (.int (Int32.ofNat f)), .val (.int (Int32.ofNat l3)), .val (.ref b378), .val (.int (Int32.ofNat E)), .val (.int (Int32.ofNat T1)), .val (.int (Int32.ofNat T2)), .val (.int asc), .val (.ref b411), .val (.int adj), .unset, .unset, .unset, .unset, .unset]) rfl ?_
    show Steps p.tables e below (T458.setTop (mkF m 291 #[.val (.int p0), .val (.int p1), .val (.int p2), .val (.int p3), .val (.int p4), .val (.int fl), .val (.int (Int32.ofNat f)), .val (.int (Int32.ofNat l3)), .val (.ref b378), .val (.int (Int32.ofNat E)), .val (.int (Int32.ofNat T1)), .val (.int (Int32.ofNat T2)), .val (.int asc), .val (.ref b411), .val (.int adj), .unset, .unset, .unset, .unset, .unset] [])) _
    refine XS.iload X458.here hx rfl (hb hby at_291) rfl ?_
    exact kt
  obtain ⟨pt, h_pt⟩ : ∃ z : Int32, z = (if adj = (0 : Int32) then (8 : Int32) else (Int32.ofNat T1)) := ⟨_, rfl⟩
  refine own_go (S' := T458.setTop (mkF m 303 #[.val (.int p0), .val (.int p1), .val (.int p2), .val (.int p3), .val (.int p4), .val (.int fl), .val (.int (Int32.ofNat f)), .val (.int (Int32.ofNat l3)), .val (.ref b378), .val (.int (Int32.ofNat E)), .val (.int (Int32.ofNat T1)), .val (.int (Int32.ofNat T2)), .val (.int asc), .val (.ref b411), .val (.int adj), .unset, .unset, .unset, .unset, .unset] [(.int pt)])) (fun target kt => ?_) ?_
  · skip
    by_cases hm293 : adj = (0 : Int32)
    · skip
      show Steps p.tables e below (T458.setTop (mkF m 293 #[.val (.int p0), .val (.int p1), .val (.int p2), .val (.int p3), .val (.int p4), .val (.int fl), .val (.int (Int32.ofNat f)), .val (.int (Int32.ofNat l3)), .val (.ref b378), .val (.int (Int32.ofNat E)), .val (.int (Int32.ofNat T1)), .val (.int (Int32.ofNat T2)), .val (.int asc), .val (.ref b411), .val (.int adj), .unset, .unset, .unset, .unset, .unset] [(.int adj)])) _
      refine XS.ifYes X458.here hx rfl (pc0 := 293) (pc' := 301) rfl (hb hby at_293) rfl ((if0 _ _).trans (teq hm293).1) (by decide) (by decide) ?_
      show Steps p.tables e below (T458.setTop (mkF m 301 #[.val (.int p0), .val (.int p1), .val (.int p2), .val (.int p3), .val (.int p4), .val (.int fl), .val (.int (Int32.ofNat f)), .val (.int (Int32.ofNat l3)), .val (.ref b378), .val (.int (Int32.ofNat E)), .val (.int (Int32.ofNat T1)), .val (.int (Int32.ofNat T2)), .val (.int asc), .val (.ref b411), .val (.int adj), .unset, .unset, .unset, .unset, .unset] [])) _
      refine XS.bipush X458.here hx rfl (hb hby at_301) ?_
      rw [h_pt, if_pos hm293] at kt
      exact kt
    · skip
      show Steps p.tables e below (T458.setTop (mkF m 293 #[.val (.int p0), .val (.int p1), .val (.int p2), .val (.int p3), .val (.int p4), .val (.int fl), .val (.int (Int32.ofNat f)), .val (.int (Int32.ofNat l3)), .val (.ref b378), .val (.int (Int32.ofNat E)), .val (.int (Int32.ofNat T1)), .val (.int (Int32.ofNat T2)), .val (.int asc), .val (.ref b411), .val (.int adj), .unset, .unset, .unset, .unset, .unset] [(.int adj)])) _
      refine XS.ifNo X458.here hx rfl (hb hby at_293) rfl ((if0 _ _).trans (feq hm293).1) ?_
      show Steps p.tables e below (T458.setTop (mkF m 296 #[.val (.int p0), .val (.int p1), .val (.int p2), .val (.int p3), .val (.int p4), .val (.int fl), .val (.int (Int32.ofNat f)), .val (.int (Int32.ofNat l3)), .val (.ref b378), .val (.int (Int32.ofNat E)), .val (.int (Int32.ofNat T1)), .val (.int (Int32.ofNat T2)), .val (.int asc), .val (.ref b411), .val (.int adj), .unset, .unset, .unset, .unset, .unset] [])) _
      refine XS.iload X458.here hx rfl (hb hby at_296) rfl ?_
      show Steps p.tables e below (T458.setTop (mkF m 298 #[.val (.int p0), .val (.int p1), .val (.int p2), .val (.int p3), .val (.int p4), .val (.int fl), .val (.int (Int32.ofNat f)), .val (.int (Int32.ofNat l3)), .val (.ref b378), .val (.int (Int32.ofNat E)), .val (.int (Int32.ofNat T1)), .val (.int (Int32.ofNat T2)), .val (.int asc), .val (.ref b411), .val (.int adj), .unset, .unset, .unset, .unset, .unset] [(.int (Int32.ofNat T1))])) _
      refine XS.goto X458.here hx rfl (pc0 := 298) (pc' := 303) rfl (hb hby at_298) (by decide) (by decide) ?_
      rw [h_pt, if_neg hm293] at kt
      exact kt
  obtain ⟨PT, hPT⟩ : ∃ P, P = if T2 = T1 + 1 then T1 else 8 := ⟨_, rfl⟩
  have hpr := own_probe h4 hTb hEb hPT h_pv h_gp
  have hP48 := hpr.1.1
  have hP48' := hpr.1.2.1
  have hb_pt : pt = (Int32.ofNat PT) := own_ptp hTb hT2b hEb hPT h_adj h_pt
  subst hb_pt
  refine own_go (S' := T458.setTop (mkF m 305 #[.val (.int p0), .val (.int p1), .val (.int p2), .val (.int p3), .val (.int p4), .val (.int fl), .val (.int (Int32.ofNat f)), .val (.int (Int32.ofNat l3)), .val (.ref b378), .val (.int (Int32.ofNat E)), .val (.int (Int32.ofNat T1)), .val (.int (Int32.ofNat T2)), .val (.int asc), .val (.ref b411), .val (.int adj), .val (.int (Int32.ofNat PT)), .unset, .unset, .unset, .unset] [])) (fun target kt => ?_) ?_
  · skip
    show Steps p.tables e below (T458.setTop (mkF m 303 #[.val (.int p0), .val (.int p1), .val (.int p2), .val (.int p3), .val (.int p4), .val (.int fl), .val (.int (Int32.ofNat f)), .val (.int (Int32.ofNat l3)), .val (.ref b378), .val (.int (Int32.ofNat E)), .val (.int (Int32.ofNat T1)), .val (.int (Int32.ofNat T2)), .val (.int asc), .val (.ref b411), .val (.int adj), .unset, .unset, .unset, .unset, .unset] [(.int (Int32.ofNat PT))])) _
    refine XS.istore X458.here hx rfl (hb hby at_303) rfl (l' := #[.val (.int p0), .val (.int p1), .val (.int p2), .val (.int p3), .val (.int p4), .val (.int fl), .val (.int (Int32.ofNat f)), .val (.int (Int32.ofNat l3)), .val (.ref b378), .val (.int (Int32.ofNat E)), .val (.int (Int32.ofNat T1)), .val (.int (Int32.ofNat T2)), .val (.int asc), .val (.ref b411), .val (.int adj), .val (.int (Int32.ofNat PT)), .unset, .unset, .unset, .unset]) rfl ?_
    exact kt
  obtain ⟨T463, h463, X463, e463, E463, A463, D463, -, st463⟩ := newO X458 hx hZ hown (hw _ (List.mem_of_getElem? (i := 19) rfl)) (hw _ (List.mem_of_getElem? (i := 20) rfl)) (hw _ (List.mem_of_getElem? (i := 21) rfl)) e458 (g := (mkF m 305 #[.val (.int p0), .val (.int p1), .val (.int p2), .val (.int p3), .val (.int p4), .val (.int fl), .val (.int (Int32.ofNat f)), .val (.int (Int32.ofNat l3)), .val (.ref b378), .val (.int (Int32.ofNat E)), .val (.int (Int32.ofNat T1)), .val (.int (Int32.ofNat T2)), .val (.int asc), .val (.ref b411), .val (.int adj), .val (.int (Int32.ofNat PT)), .unset, .unset, .unset, .unset] [])) rfl (hb hby at_305) (by decide) (by decide)
  obtain ⟨b463, g463⟩ : ∃ z, z = h458.size := ⟨_, rfl⟩
  rw [← g463] at A463 D463 st463
  have f464 : Exa Z h463 b378 "[B" := f460.ext E463
  have f465 : own_AI Z h463 b378 .byte 8 G := f461.ext E463
  have f466 : Exa Z h463 b411 "[B" := f462.ext E463
  have f467 : own_AI Z h463 b411 .byte 8 gp := f459.ext E463
  have g_b463 : n0 ≤ b463 := Nat.le_trans Z458 (Nat.le_of_eq g463.symm)
  have ne_b378_b463 : b378 ≠ b463 := Nat.ne_of_lt (Nat.lt_of_lt_of_le f460.lt (Nat.le_of_eq g463.symm))
  have ne_b411_b463 : b411 ≠ b463 := Nat.ne_of_lt (Nat.lt_of_lt_of_le f462.lt (Nat.le_of_eq g463.symm))
  have Z463 : n0 ≤ h463.size := Nat.le_trans Z458 E463.1
  have f468 : Fld Z h463 b463 "com/example/long_walk/longwalk/EdgeListLine" "firstTab" "I" (.int (0 : Int32)) := D463 (Or.inl (hw _ (List.mem_of_getElem? (i := 34) rfl))) (ty := .int) (by decide)
  have f469 : Fld Z h463 b463 "com/example/long_walk/longwalk/EdgeListLine" "secondTab" "I" (.int (0 : Int32)) := D463 (Or.inl (hw _ (List.mem_of_getElem? (i := 36) rfl))) (ty := .int) (by decide)
  have f470 : Fld Z h463 b463 "com/example/long_walk/longwalk/EdgeListLine" "ascii" "Z" (.int (0 : Int32)) := D463 (Or.inl (hw _ (List.mem_of_getElem? (i := 38) rfl))) (ty := .boolean) (by decide)
  have f471 : Fld Z h463 b463 "com/example/long_walk/longwalk/EdgeListLine" "sourceStart" "I" (.int (0 : Int32)) := D463 (Or.inl (hw _ (List.mem_of_getElem? (i := 55) rfl))) (ty := .int) (by decide)
  have f472 : Fld Z h463 b463 "com/example/long_walk/longwalk/EdgeListLine" "sourceEnd" "I" (.int (0 : Int32)) := D463 (Or.inl (hw _ (List.mem_of_getElem? (i := 57) rfl))) (ty := .int) (by decide)
  have f473 : Fld Z h463 b463 "com/example/long_walk/longwalk/EdgeListLine" "targetStart" "I" (.int (0 : Int32)) := D463 (Or.inl (hw _ (List.mem_of_getElem? (i := 59) rfl))) (ty := .int) (by decide)
  have f474 : Fld Z h463 b463 "com/example/long_walk/longwalk/EdgeListLine" "targetEnd" "I" (.int (0 : Int32)) := D463 (Or.inl (hw _ (List.mem_of_getElem? (i := 61) rfl))) (ty := .int) (by decide)
  refine own_go (S' := T463.setTop (mkF m 308 #[.val (.int p0), .val (.int p1), .val (.int p2), .val (.int p3), .val (.int p4), .val (.int fl), .val (.int (Int32.ofNat f)), .val (.int (Int32.ofNat l3)), .val (.ref b378), .val (.int (Int32.ofNat E)), .val (.int (Int32.ofNat T1)), .val (.int (Int32.ofNat T2)), .val (.int asc), .val (.ref b411), .val (.int adj), .val (.int (Int32.ofNat PT)), .unset, .unset, .unset, .unset] [(.ref b463)])) st463 ?_
  refine own_go (S' := T463.setTop (mkF m 309 #[.val (.int p0), .val (.int p1), .val (.int p2), .val (.int p3), .val (.int p4), .val (.int fl), .val (.int (Int32.ofNat f)), .val (.int (Int32.ofNat l3)), .val (.ref b378), .val (.int (Int32.ofNat E)), .val (.int (Int32.ofNat T1)), .val (.int (Int32.ofNat T2)), .val (.int asc), .val (.ref b411), .val (.int adj), .val (.int (Int32.ofNat PT)), .unset, .unset, .unset, .unset] [(.ref b463), (.ref b463)])) (fun target kt => ?_) ?_
  · skip
    show Steps p.tables e below (T463.setTop (mkF m 308 #[.val (.int p0), .val (.int p1), .val (.int p2), .val (.int p3), .val (.int p4), .val (.int fl), .val (.int (Int32.ofNat f)), .val (.int (Int32.ofNat l3)), .val (.ref b378), .val (.int (Int32.ofNat E)), .val (.int (Int32.ofNat T1)), .val (.int (Int32.ofNat T2)), .val (.int asc), .val (.ref b411), .val (.int adj), .val (.int (Int32.ofNat PT)), .unset, .unset, .unset, .unset] [(.ref b463)])) _
    refine XS.dup X463.here hx rfl (hb hby at_308) rfl rfl ?_
    exact kt
  obtain ⟨_, _, ⟨T475, L475, k475, n475⟩, -, X475, ⟨Lc475, hQ475, l475, y475, z475⟩, st475⟩ := X463.specialBack hx (y := (⟨"com/example/long_walk/longwalk/EdgeListLine", "<init>", "()V"⟩ : MethodName)) rfl hown (mvT hZ (hw _ (List.mem_of_getElem? (i := 22) rfl))) (mvT hZ (hw _ (List.mem_of_getElem? (i := 23) rfl))) (mvT hZ (hw _ (List.mem_of_getElem? (i := 24) rfl))) (by decide) (backOf (W := 1) (rm6 l Z aZ hw [] b463 h463 n0 Z463 ) hZ (hw _ (List.mem_of_getElem? (i := 24) rfl)) (hw _ (List.mem_of_getElem? (i := 21) rfl)) (by decide) (by decide)) (g := (mkF m 309 #[.val (.int p0), .val (.int p1), .val (.int p2), .val (.int p3), .val (.int p4), .val (.int fl), .val (.int (Int32.ofNat f)), .val (.int (Int32.ofNat l3)), .val (.ref b378), .val (.int (Int32.ofNat E)), .val (.int (Int32.ofNat T1)), .val (.int (Int32.ofNat T2)), .val (.int asc), .val (.ref b411), .val (.int adj), .val (.int (Int32.ofNat PT)), .unset, .unset, .unset, .unset] [(.ref b463), (.ref b463)])) rfl (by rw [hml]; rfl) (Steps.refl _) (a := b463) (argsL := []) (rest := [(.ref b463)]) (lenOf own_pd2 rfl) rfl (by show 2 * 0 + _ ≤ _; exact Nat.le_of_eq rfl) (hb hby at_309) (fun _ _ => ⟨rfl, e463, (by decide : 3 + 0 ≤ _), (by decide : 23 + 0 ≤ _)⟩)
  dsimp only [Pt.U, Pt.locs, Pt.cells, Pt.slots] at X475 l475 y475 z475 st475 hQ475
  subst l475 y475 z475
  obtain ⟨rfl, N475q, e475⟩ := hQ475
  have N475 := Fr.app N458 N475q
  refine own_go (S' := T475.setTop (mkF m 312 #[.val (.int p0), .val (.int p1), .val (.int p2), .val (.int p3), .val (.int p4), .val (.int fl), .val (.int (Int32.ofNat f)), .val (.int (Int32.ofNat l3)), .val (.ref b378), .val (.int (Int32.ofNat E)), .val (.int (Int32.ofNat T1)), .val (.int (Int32.ofNat T2)), .val (.int asc), .val (.ref b411), .val (.int adj), .val (.int (Int32.ofNat PT)), .unset, .unset, .unset, .unset] [(.ref b463)])) (fun _ k => st475.trans k) ?_
  refine own_go (S' := T475.setTop (mkF m 324 #[.val (.int p0), .val (.int p1), .val (.int p2), .val (.int p3), .val (.int p4), .val (.int fl), .val (.int (Int32.ofNat f)), .val (.int (Int32.ofNat l3)), .val (.ref b378), .val (.int (Int32.ofNat E)), .val (.int (Int32.ofNat T1)), .val (.int (Int32.ofNat T2)), .val (.int asc), .val (.ref b411), .val (.int adj), .val (.int (Int32.ofNat PT)), .val (.ref b463), .unset, .unset, .unset] [(.int fl), (.int (Int32.ofNat l3)), (.int (Int32.ofNat f)), (.ref b378), (.ref b463)])) (fun target kt => ?_) ?_
  · skip
    show Steps p.tables e below (T475.setTop (mkF m 312 #[.val (.int p0), .val (.int p1), .val (.int p2), .val (.int p3), .val (.int p4), .val (.int fl), .val (.int (Int32.ofNat f)), .val (.int (Int32.ofNat l3)), .val (.ref b378), .val (.int (Int32.ofNat E)), .val (.int (Int32.ofNat T1)), .val (.int (Int32.ofNat T2)), .val (.int asc), .val (.ref b411), .val (.int adj), .val (.int (Int32.ofNat PT)), .unset, .unset, .unset, .unset] [(.ref b463)])) _
    refine XS.astore X475.here hx rfl (hb hby at_312) rfl rfl (l' := #[.val (.int p0), .val (.int p1), .val (.int p2), .val (.int p3), .val (.int p4), .val (.int fl), .val (.int (Int32.ofNat f)), .val (.int (Int32.ofNat l3)), .val (.ref b378), .val (.int (Int32.ofNat E)), .val (.int (Int32.ofNat T1)), .val (.int (Int32.ofNat T2)), .val (.int asc), .val (.ref b411), .val (.int adj), .val (.int (Int32.ofNat PT)), .val (.ref b463), .unset, .unset, .unset]) rfl ?_
    show Steps p.tables e below (T475.setTop (mkF m 314 #[.val (.int p0), .val (.int p1), .val (.int p2), .val (.int p3), .val (.int p4), .val (.int fl), .val (.int (Int32.ofNat f)), .val (.int (Int32.ofNat l3)), .val (.ref b378), .val (.int (Int32.ofNat E)), .val (.int (Int32.ofNat T1)), .val (.int (Int32.ofNat T2)), .val (.int asc), .val (.ref b411), .val (.int adj), .val (.int (Int32.ofNat PT)), .val (.ref b463), .unset, .unset, .unset] [])) _
    refine XS.aload X475.here hx rfl (hb hby at_314) rfl rfl ?_
    show Steps p.tables e below (T475.setTop (mkF m 316 #[.val (.int p0), .val (.int p1), .val (.int p2), .val (.int p3), .val (.int p4), .val (.int fl), .val (.int (Int32.ofNat f)), .val (.int (Int32.ofNat l3)), .val (.ref b378), .val (.int (Int32.ofNat E)), .val (.int (Int32.ofNat T1)), .val (.int (Int32.ofNat T2)), .val (.int asc), .val (.ref b411), .val (.int adj), .val (.int (Int32.ofNat PT)), .val (.ref b463), .unset, .unset, .unset] [(.ref b463)])) _
    refine XS.aload X475.here hx rfl (hb hby at_316) rfl rfl ?_
    show Steps p.tables e below (T475.setTop (mkF m 318 #[.val (.int p0), .val (.int p1), .val (.int p2), .val (.int p3), .val (.int p4), .val (.int fl), .val (.int (Int32.ofNat f)), .val (.int (Int32.ofNat l3)), .val (.ref b378), .val (.int (Int32.ofNat E)), .val (.int (Int32.ofNat T1)), .val (.int (Int32.ofNat T2)), .val (.int asc), .val (.ref b411), .val (.int adj), .val (.int (Int32.ofNat PT)), .val (.ref b463), .unset, .unset, .unset] [(.ref b378), (.ref b463)])) _
    refine XS.iload X475.here hx rfl (hb hby at_318) rfl ?_
    show Steps p.tables e below (T475.setTop (mkF m 320 #[.val (.int p0), .val (.int p1), .val (.int p2), .val (.int p3), .val (.int p4), .val (.int fl), .val (.int (Int32.ofNat f)), .val (.int (Int32.ofNat l3)), .val (.ref b378), .val (.int (Int32.ofNat E)), .val (.int (Int32.ofNat T1)), .val (.int (Int32.ofNat T2)), .val (.int asc), .val (.ref b411), .val (.int adj), .val (.int (Int32.ofNat PT)), .val (.ref b463), .unset, .unset, .unset] [(.int (Int32.ofNat f)), (.ref b378), (.ref b463)])) _
    refine XS.iload X475.here hx rfl (hb hby at_320) rfl ?_
    show Steps p.tables e below (T475.setTop (mkF m 322 #[.val (.int p0), .val (.int p1), .val (.int p2), .val (.int p3), .val (.int p4), .val (.int fl), .val (.int (Int32.ofNat f)), .val (.int (Int32.ofNat l3)), .val (.ref b378), .val (.int (Int32.ofNat E)), .val (.int (Int32.ofNat T1)), .val (.int (Int32.ofNat T2)), .val (.int asc), .val (.ref b411), .val (.int adj), .val (.int (Int32.ofNat PT)), .val (.ref b463), .unset, .unset, .unset] [(.int (Int32.ofNat l3)), (.int (Int32.ofNat f)), (.ref b378), (.ref b463)])) _
    refine XS.iload X475.here hx rfl (hb hby at_322) rfl ?_
    exact kt
  obtain ⟨cq476, kq476, q476a, q476b, q476c⟩ := isOf hZ e475 A463
  obtain ⟨_, _, ⟨T476, L476, k476, n476⟩, -, X476, ⟨Lc476, hQ476, l476, y476, z476⟩, st476⟩ := X475.virtualBack hx (y := (⟨"com/example/long_walk/longwalk/EdgeListLine", "scan", "([BIIZ)I"⟩ : MethodName)) (z := (⟨"com/example/long_walk/longwalk/EdgeListLine", "scan", "([BIIZ)I"⟩ : MethodName)) hown (mvT hZ (hw _ (List.mem_of_getElem? (i := 28) rfl))) (mvT hZ (hw _ (List.mem_of_getElem? (i := 29) rfl))) (notFace_of_selects (args := #[]) (mvT hZ (hw _ (List.mem_of_getElem? (i := 31) rfl)))) (mvT hZ (hw _ (List.mem_of_getElem? (i := 31) rfl))) (mvT hZ (hw _ (List.mem_of_getElem? (i := 30) rfl))) (by decide) (backOf (W := 0) (rm8 l Z aZ hw [] b463 b378 fl f l3 G h463 n0 Z463 A463 f471 f472 f473 f474 f468 f469 f470 f465 g_b463 (hl8 : l3 ≤ 8) (hf8 : f ≤ 8) (Ne.symm ne_b378_b463)) hZ (hw _ (List.mem_of_getElem? (i := 32) rfl)) (hw _ (List.mem_of_getElem? (i := 21) rfl)) (by decide) (by decide)) q476a q476c (g := (mkF m 324 #[.val (.int p0), .val (.int p1), .val (.int p2), .val (.int p3), .val (.int p4), .val (.int fl), .val (.int (Int32.ofNat f)), .val (.int (Int32.ofNat l3)), .val (.ref b378), .val (.int (Int32.ofNat E)), .val (.int (Int32.ofNat T1)), .val (.int (Int32.ofNat T2)), .val (.int asc), .val (.ref b411), .val (.int adj), .val (.int (Int32.ofNat PT)), .val (.ref b463), .unset, .unset, .unset] [(.int fl), (.int (Int32.ofNat l3)), (.int (Int32.ofNat f)), (.ref b378), (.ref b463)])) rfl (by rw [hml]; rfl) (Steps.refl _) (argsL := [(.ref b378), (.int (Int32.ofNat f)), (.int (Int32.ofNat l3)), (.int fl)]) (rest := []) (lenOf own_pd10 rfl) rfl (by show 2 * 0 + _ ≤ _; exact Nat.le_of_eq rfl) (hb hby at_324) (fun _ _ => ⟨rfl, e475, (by decide : 3 + 0 ≤ _), (by decide : 23 + 0 ≤ _)⟩)
  dsimp only [Pt.U, Pt.locs, Pt.cells, Pt.slots] at X476 l476 y476 z476 st476 hQ476
  subst l476 y476 z476
  obtain ⟨ft, sc, ac, rfl, N476q, K476q, f476_0, f476_1, f476_2, f476_3, f476_4, f476_5, f476_6, f476_7, u476_0, u476_1, u476_2⟩ := hQ476
  have N476 := Fr.app N475 N476q
  have f477 : Exa Z T476.heap b378 "[B" := f464.keep K476q
  have f478 : own_AI Z T476.heap b378 .byte 8 G := f465.keep K476q (ninS ne_b378_b463 nin0)
  have f479 : Exa Z T476.heap b411 "[B" := f466.keep K476q
  have f480 : own_AI Z T476.heap b411 .byte 8 gp := f467.keep K476q (ninS ne_b411_b463 nin0)
  have f481 : Exa Z T476.heap b463 "com/example/long_walk/longwalk/EdgeListLine" := A463.keep K476q
  have Z476 : n0 ≤ T476.heap.size := Nat.le_trans Z463 K476q.1
  refine own_go (S' := T476.setTop (mkF m 327 #[.val (.int p0), .val (.int p1), .val (.int p2), .val (.int p3), .val (.int p4), .val (.int fl), .val (.int (Int32.ofNat f)), .val (.int (Int32.ofNat l3)), .val (.ref b378), .val (.int (Int32.ofNat E)), .val (.int (Int32.ofNat T1)), .val (.int (Int32.ofNat T2)), .val (.int asc), .val (.ref b411), .val (.int adj), .val (.int (Int32.ofNat PT)), .val (.ref b463), .unset, .unset, .unset] [(.int (Int32.ofNat (own_sc G fl (l3 - f) f (0 : Int32) (1 : Int32) (0 : Int32) (0 : Int32)).1))])) (fun _ k => st476.trans k) ?_
  have h_ft := u476_0
  have h_sc := u476_1
  have h_ac := u476_2
  obtain ⟨got, h_got⟩ : ∃ z : Int32, z = (Int32.ofNat (own_sc G fl (l3 - f) f (0 : Int32) (1 : Int32) (0 : Int32) (0 : Int32)).1) := ⟨_, rfl⟩
  refine own_go (S' := T476.setTop (mkF m 329 #[.val (.int p0), .val (.int p1), .val (.int p2), .val (.int p3), .val (.int p4), .val (.int fl), .val (.int (Int32.ofNat f)), .val (.int (Int32.ofNat l3)), .val (.ref b378), .val (.int (Int32.ofNat E)), .val (.int (Int32.ofNat T1)), .val (.int (Int32.ofNat T2)), .val (.int asc), .val (.ref b411), .val (.int adj), .val (.int (Int32.ofNat PT)), .val (.ref b463), .val (.int got), .unset, .unset] [])) (fun target kt => ?_) ?_
  · subst h_got
    show Steps p.tables e below (T476.setTop (mkF m 327 #[.val (.int p0), .val (.int p1), .val (.int p2), .val (.int p3), .val (.int p4), .val (.int fl), .val (.int (Int32.ofNat f)), .val (.int (Int32.ofNat l3)), .val (.ref b378), .val (.int (Int32.ofNat E)), .val (.int (Int32.ofNat T1)), .val (.int (Int32.ofNat T2)), .val (.int asc), .val (.ref b411), .val (.int adj), .val (.int (Int32.ofNat PT)), .val (.ref b463), .unset, .unset, .unset] [(.int (Int32.ofNat (own_sc G fl (l3 - f) f (0 : Int32) (1 : Int32) (0 : Int32) (0 : Int32)).1))])) _
    refine XS.istore X476.here hx rfl (hb hby at_327) rfl (l' := #[.val (.int p0), .val (.int p1), .val (.int p2), .val (.int p3), .val (.int p4), .val (.int fl), .val (.int (Int32.ofNat f)), .val (.int (Int32.ofNat l3)), .val (.ref b378), .val (.int (Int32.ofNat E)), .val (.int (Int32.ofNat T1)), .val (.int (Int32.ofNat T2)), .val (.int asc), .val (.ref b411), .val (.int adj), .val (.int (Int32.ofNat PT)), .val (.ref b463), .val (.int (Int32.ofNat (own_sc G fl (l3 - f) f (0 : Int32) (1 : Int32) (0 : Int32) (0 : Int32)).1)), .unset, .unset]) rfl ?_
    exact kt
  have hres := own_res hE hT1 hT2 hasc h_got h_ft h_sc h_ac
  have hng : ac = (0 : Int32) → ∀ j, j < 8 → ¬ (gp j) < (0 : Int32) := fun z => hpr.2 (hres.2.2.2 ▸ z)
  have hb_ft : ft = (Int32.ofNat T1) := hres.2.1
  subst hb_ft
  have hb_sc : sc = (Int32.ofNat T2) := hres.2.2.1
  subst hb_sc
  by_cases hq : T1 < PT
  · skip
    refine own_go (S' := T476.setTop (mkF m 337 #[.val (.int p0), .val (.int p1), .val (.int p2), .val (.int p3), .val (.int p4), .val (.int fl), .val (.int (Int32.ofNat f)), .val (.int (Int32.ofNat l3)), .val (.ref b378), .val (.int (Int32.ofNat E)), .val (.int (Int32.ofNat T1)), .val (.int (Int32.ofNat T2)), .val (.int asc), .val (.ref b411), .val (.int adj), .val (.int (Int32.ofNat PT)), .val (.ref b463), .val (.int got), .unset, .unset] [(.long (1 : Int64)), (.int (Int32.ofNat PT)), (.int (0 : Int32)), (.ref b411), (.ref b463)])) (fun target kt => ?_) ?_
    · skip
      show Steps p.tables e below (T476.setTop (mkF m 329 #[.val (.int p0), .val (.int p1), .val (.int p2), .val (.int p3), .val (.int p4), .val (.int fl), .val (.int (Int32.ofNat f)), .val (.int (Int32.ofNat l3)), .val (.ref b378), .val (.int (Int32.ofNat E)), .val (.int (Int32.ofNat T1)), .val (.int (Int32.ofNat T2)), .val (.int asc), .val (.ref b411), .val (.int adj), .val (.int (Int32.ofNat PT)), .val (.ref b463), .val (.int got), .unset, .unset] [])) _
      refine XS.aload X476.here hx rfl (hb hby at_329) rfl rfl ?_
      show Steps p.tables e below (T476.setTop (mkF m 331 #[.val (.int p0), .val (.int p1), .val (.int p2), .val (.int p3), .val (.int p4), .val (.int fl), .val (.int (Int32.ofNat f)), .val (.int (Int32.ofNat l3)), .val (.ref b378), .val (.int (Int32.ofNat E)), .val (.int (Int32.ofNat T1)), .val (.int (Int32.ofNat T2)), .val (.int asc), .val (.ref b411), .val (.int adj), .val (.int (Int32.ofNat PT)), .val (.ref b463), .val (.int got), .unset, .unset] [(.ref b463)])) _
      refine XS.aload X476.here hx rfl (hb hby at_331) rfl rfl ?_
      show Steps p.tables e below (T476.setTop (mkF m 333 #[.val (.int p0), .val (.int p1), .val (.int p2), .val (.int p3), .val (.int p4), .val (.int fl), .val (.int (Int32.ofNat f)), .val (.int (Int32.ofNat l3)), .val (.ref b378), .val (.int (Int32.ofNat E)), .val (.int (Int32.ofNat T1)), .val (.int (Int32.ofNat T2)), .val (.int asc), .val (.ref b411), .val (.int adj), .val (.int (Int32.ofNat PT)), .val (.ref b463), .val (.int got), .unset, .unset] [(.ref b411), (.ref b463)])) _
      refine XS.iconst X476.here hx rfl (hb hby at_333) ?_
      show Steps p.tables e below (T476.setTop (mkF m 334 #[.val (.int p0), .val (.int p1), .val (.int p2), .val (.int p3), .val (.int p4), .val (.int fl), .val (.int (Int32.ofNat f)), .val (.int (Int32.ofNat l3)), .val (.ref b378), .val (.int (Int32.ofNat E)), .val (.int (Int32.ofNat T1)), .val (.int (Int32.ofNat T2)), .val (.int asc), .val (.ref b411), .val (.int adj), .val (.int (Int32.ofNat PT)), .val (.ref b463), .val (.int got), .unset, .unset] [(.int (0 : Int32)), (.ref b411), (.ref b463)])) _
      refine XS.iload X476.here hx rfl (hb hby at_334) rfl ?_
      show Steps p.tables e below (T476.setTop (mkF m 336 #[.val (.int p0), .val (.int p1), .val (.int p2), .val (.int p3), .val (.int p4), .val (.int fl), .val (.int (Int32.ofNat f)), .val (.int (Int32.ofNat l3)), .val (.ref b378), .val (.int (Int32.ofNat E)), .val (.int (Int32.ofNat T1)), .val (.int (Int32.ofNat T2)), .val (.int asc), .val (.ref b411), .val (.int adj), .val (.int (Int32.ofNat PT)), .val (.ref b463), .val (.int got), .unset, .unset] [(.int (Int32.ofNat PT)), (.int (0 : Int32)), (.ref b411), (.ref b463)])) _
      refine XS.lconst X476.here hx rfl (hb hby at_336) ?_
      exact kt
    obtain ⟨cq482, kq482, q482a, q482b, q482c⟩ := isOf hZ rfl f476_0
    obtain ⟨_, _, ⟨T482, L482, k482, n482⟩, -, X482, ⟨Lc482, hQ482, l482, y482, z482⟩, st482⟩ := X476.virtualBack hx (y := (⟨"com/example/long_walk/longwalk/EdgeListLine", "readScanned", "([BIIJ)Z"⟩ : MethodName)) (z := (⟨"com/example/long_walk/longwalk/EdgeListLine", "readScanned", "([BIIJ)Z"⟩ : MethodName)) hown (mvT hZ (hw _ (List.mem_of_getElem? (i := 39) rfl))) (mvT hZ (hw _ (List.mem_of_getElem? (i := 40) rfl))) (notFace_of_selects (args := #[]) (mvT hZ (hw _ (List.mem_of_getElem? (i := 42) rfl)))) (mvT hZ (hw _ (List.mem_of_getElem? (i := 42) rfl))) (mvT hZ (hw _ (List.mem_of_getElem? (i := 41) rfl))) (by decide) (backOf (W := 0) (rm9_a l Z aZ hw [] b463 b411 PT gp (Int32.ofNat T1) (Int32.ofNat T2) ac T476.heap n0 Z476 f476_0 f476_1 f476_2 f476_3 f476_4 f476_5 f476_6 f476_7 f480 g_b463 (hpr.1 : own_pr PT gp) (hng : ac = (0 : Int32) → ∀ j, j < 8 → ¬ (gp j) < (0 : Int32)) (Ne.symm ne_b411_b463) (own_lt hq (by omega) : (Int32.ofNat T1) < (Int32.ofNat PT)) (own_T0 h4 hTb hEb : ¬ (Int32.ofNat T1) = (0 : Int32)) (own_adj hq hTb hT2b hEb hPT : ¬ (own_min (Int32.ofNat T2) (Int32.ofNat PT)) = ((Int32.ofNat T1) + (1 : Int32)))) hZ (hw _ (List.mem_of_getElem? (i := 43) rfl)) (hw _ (List.mem_of_getElem? (i := 21) rfl)) (by decide) (by decide)) q482a q482c (g := (mkF m 337 #[.val (.int p0), .val (.int p1), .val (.int p2), .val (.int p3), .val (.int p4), .val (.int fl), .val (.int (Int32.ofNat f)), .val (.int (Int32.ofNat l3)), .val (.ref b378), .val (.int (Int32.ofNat E)), .val (.int (Int32.ofNat T1)), .val (.int (Int32.ofNat T2)), .val (.int asc), .val (.ref b411), .val (.int adj), .val (.int (Int32.ofNat PT)), .val (.ref b463), .val (.int got), .unset, .unset] [(.long (1 : Int64)), (.int (Int32.ofNat PT)), (.int (0 : Int32)), (.ref b411), (.ref b463)])) rfl (by rw [hml]; rfl) (Steps.refl _) (argsL := [(.ref b411), (.int (0 : Int32)), (.int (Int32.ofNat PT)), (.long (1 : Int64))]) (rest := []) (lenOf own_pd11 rfl) rfl (by show 2 * 0 + _ ≤ _; exact Nat.le_of_eq rfl) (hb hby at_337) (fun _ _ => ⟨rfl, rfl, (by decide : 3 + 0 ≤ _), (by decide : 23 + 0 ≤ _)⟩)
    dsimp only [Pt.U, Pt.locs, Pt.cells, Pt.slots] at X482 l482 y482 z482 st482 hQ482
    subst l482 y482 z482
    obtain ⟨rfl, N482q, K482q, f482_0, f482_1, f482_2, f482_3, f482_4, f482_5, f482_6, f482_7⟩ := hQ482
    have N482 := Fr.app N476 N482q
    have f483 : Exa Z T482.heap b378 "[B" := f477.keep K482q
    have f484 : own_AI Z T482.heap b378 .byte 8 G := f478.keep K482q (ninS ne_b378_b463 nin0)
    have f485 : Exa Z T482.heap b411 "[B" := f479.keep K482q
    have f486 : own_AI Z T482.heap b411 .byte 8 gp := f480.keep K482q (ninS ne_b411_b463 nin0)
    have f487 : Exa Z T482.heap b463 "com/example/long_walk/longwalk/EdgeListLine" := f476_0.keep K482q
    have Z482 : n0 ≤ T482.heap.size := Nat.le_trans Z476 K482q.1
    refine own_go (S' := T482.setTop (mkF m 340 #[.val (.int p0), .val (.int p1), .val (.int p2), .val (.int p3), .val (.int p4), .val (.int fl), .val (.int (Int32.ofNat f)), .val (.int (Int32.ofNat l3)), .val (.ref b378), .val (.int (Int32.ofNat E)), .val (.int (Int32.ofNat T1)), .val (.int (Int32.ofNat T2)), .val (.int asc), .val (.ref b411), .val (.int adj), .val (.int (Int32.ofNat PT)), .val (.ref b463), .val (.int got), .unset, .unset] [(.int (1 : Int32))])) (fun _ k => st482.trans k) ?_
    refine own_go (S' := T482.setTop (mkF m 351 #[.val (.int p0), .val (.int p1), .val (.int p2), .val (.int p3), .val (.int p4), .val (.int fl), .val (.int (Int32.ofNat f)), .val (.int (Int32.ofNat l3)), .val (.ref b378), .val (.int (Int32.ofNat E)), .val (.int (Int32.ofNat T1)), .val (.int (Int32.ofNat T2)), .val (.int asc), .val (.ref b411), .val (.int adj), .val (.int (Int32.ofNat PT)), .val (.ref b463), .val (.int got), .val (.int (1 : Int32)), .unset] [(.ref b463)])) (fun target kt => ?_) ?_
    · skip
      show Steps p.tables e below (T482.setTop (mkF m 340 #[.val (.int p0), .val (.int p1), .val (.int p2), .val (.int p3), .val (.int p4), .val (.int fl), .val (.int (Int32.ofNat f)), .val (.int (Int32.ofNat l3)), .val (.ref b378), .val (.int (Int32.ofNat E)), .val (.int (Int32.ofNat T1)), .val (.int (Int32.ofNat T2)), .val (.int asc), .val (.ref b411), .val (.int adj), .val (.int (Int32.ofNat PT)), .val (.ref b463), .val (.int got), .unset, .unset] [(.int (1 : Int32))])) _
      refine XS.istore X482.here hx rfl (hb hby at_340) rfl (l' := #[.val (.int p0), .val (.int p1), .val (.int p2), .val (.int p3), .val (.int p4), .val (.int fl), .val (.int (Int32.ofNat f)), .val (.int (Int32.ofNat l3)), .val (.ref b378), .val (.int (Int32.ofNat E)), .val (.int (Int32.ofNat T1)), .val (.int (Int32.ofNat T2)), .val (.int asc), .val (.ref b411), .val (.int adj), .val (.int (Int32.ofNat PT)), .val (.ref b463), .val (.int got), .val (.int (1 : Int32)), .unset]) rfl ?_
      show Steps p.tables e below (T482.setTop (mkF m 342 #[.val (.int p0), .val (.int p1), .val (.int p2), .val (.int p3), .val (.int p4), .val (.int fl), .val (.int (Int32.ofNat f)), .val (.int (Int32.ofNat l3)), .val (.ref b378), .val (.int (Int32.ofNat E)), .val (.int (Int32.ofNat T1)), .val (.int (Int32.ofNat T2)), .val (.int asc), .val (.ref b411), .val (.int adj), .val (.int (Int32.ofNat PT)), .val (.ref b463), .val (.int got), .val (.int (1 : Int32)), .unset] [])) _
      refine XS.iload X482.here hx rfl (hb hby at_342) rfl ?_
      show Steps p.tables e below (T482.setTop (mkF m 344 #[.val (.int p0), .val (.int p1), .val (.int p2), .val (.int p3), .val (.int p4), .val (.int fl), .val (.int (Int32.ofNat f)), .val (.int (Int32.ofNat l3)), .val (.ref b378), .val (.int (Int32.ofNat E)), .val (.int (Int32.ofNat T1)), .val (.int (Int32.ofNat T2)), .val (.int asc), .val (.ref b411), .val (.int adj), .val (.int (Int32.ofNat PT)), .val (.ref b463), .val (.int got), .val (.int (1 : Int32)), .unset] [(.int (Int32.ofNat T1))])) _
      refine XS.iload X482.here hx rfl (hb hby at_344) rfl ?_
      show Steps p.tables e below (T482.setTop (mkF m 346 #[.val (.int p0), .val (.int p1), .val (.int p2), .val (.int p3), .val (.int p4), .val (.int fl), .val (.int (Int32.ofNat f)), .val (.int (Int32.ofNat l3)), .val (.ref b378), .val (.int (Int32.ofNat E)), .val (.int (Int32.ofNat T1)), .val (.int (Int32.ofNat T2)), .val (.int asc), .val (.ref b411), .val (.int adj), .val (.int (Int32.ofNat PT)), .val (.ref b463), .val (.int got), .val (.int (1 : Int32)), .unset] [(.int (Int32.ofNat PT)), (.int (Int32.ofNat T1))])) _
      refine XS.icmpNo X482.here hx rfl (hb hby at_346) rfl (tlt (own_lt hq (by omega) : (Int32.ofNat T1) < (Int32.ofNat PT))).2.1 ?_
      show Steps p.tables e below (T482.setTop (mkF m 349 #[.val (.int p0), .val (.int p1), .val (.int p2), .val (.int p3), .val (.int p4), .val (.int fl), .val (.int (Int32.ofNat f)), .val (.int (Int32.ofNat l3)), .val (.ref b378), .val (.int (Int32.ofNat E)), .val (.int (Int32.ofNat T1)), .val (.int (Int32.ofNat T2)), .val (.int asc), .val (.ref b411), .val (.int adj), .val (.int (Int32.ofNat PT)), .val (.ref b463), .val (.int got), .val (.int (1 : Int32)), .unset] [])) _
      refine XS.aload X482.here hx rfl (hb hby at_349) rfl rfl ?_
      exact kt
    obtain ⟨cq488, kq488, q488a, q488b, q488c⟩ := isOf hZ rfl f482_0
    obtain ⟨_, _, ⟨T488, L488, k488, n488⟩, -, X488, ⟨Lc488, hQ488, l488, y488, z488⟩, st488⟩ := X482.virtualBack hx (y := (⟨"com/example/long_walk/longwalk/EdgeListLine", "sourceStart", "()I"⟩ : MethodName)) (z := (⟨"com/example/long_walk/longwalk/EdgeListLine", "sourceStart", "()I"⟩ : MethodName)) hown (mvT hZ (hw _ (List.mem_of_getElem? (i := 62) rfl))) (mvT hZ (hw _ (List.mem_of_getElem? (i := 63) rfl))) (notFace_of_selects (args := #[]) (mvT hZ (hw _ (List.mem_of_getElem? (i := 65) rfl)))) (mvT hZ (hw _ (List.mem_of_getElem? (i := 65) rfl))) (mvT hZ (hw _ (List.mem_of_getElem? (i := 64) rfl))) (by decide) (backOf (W := 0) (rm13 l Z aZ hw [] b463 (0 : Int32) T482.heap n0 Z482 f482_1) hZ (hw _ (List.mem_of_getElem? (i := 66) rfl)) (hw _ (List.mem_of_getElem? (i := 21) rfl)) (by decide) (by decide)) q488a q488c (g := (mkF m 351 #[.val (.int p0), .val (.int p1), .val (.int p2), .val (.int p3), .val (.int p4), .val (.int fl), .val (.int (Int32.ofNat f)), .val (.int (Int32.ofNat l3)), .val (.ref b378), .val (.int (Int32.ofNat E)), .val (.int (Int32.ofNat T1)), .val (.int (Int32.ofNat T2)), .val (.int asc), .val (.ref b411), .val (.int adj), .val (.int (Int32.ofNat PT)), .val (.ref b463), .val (.int got), .val (.int (1 : Int32)), .unset] [(.ref b463)])) rfl (by rw [hml]; rfl) (Steps.refl _) (argsL := []) (rest := []) (lenOf own_pd12 rfl) rfl (by show 2 * 0 + _ ≤ _; exact Nat.le_of_eq rfl) (hb hby at_351) (fun _ _ => ⟨rfl, rfl, (by decide : 3 + 0 ≤ _), (by decide : 23 + 0 ≤ _)⟩)
    dsimp only [Pt.U, Pt.locs, Pt.cells, Pt.slots] at X488 l488 y488 z488 st488 hQ488
    subst l488 y488 z488
    obtain ⟨rfl, N488q, e488⟩ := hQ488
    have N488 := Fr.app N482 N488q
    refine own_go (S' := T488.setTop (mkF m 354 #[.val (.int p0), .val (.int p1), .val (.int p2), .val (.int p3), .val (.int p4), .val (.int fl), .val (.int (Int32.ofNat f)), .val (.int (Int32.ofNat l3)), .val (.ref b378), .val (.int (Int32.ofNat E)), .val (.int (Int32.ofNat T1)), .val (.int (Int32.ofNat T2)), .val (.int asc), .val (.ref b411), .val (.int adj), .val (.int (Int32.ofNat PT)), .val (.ref b463), .val (.int got), .val (.int (1 : Int32)), .unset] [(.int (0 : Int32))])) (fun _ k => st488.trans k) ?_
    refine own_go (S' := T488.setTop (mkF m 359 #[.val (.int p0), .val (.int p1), .val (.int p2), .val (.int p3), .val (.int p4), .val (.int fl), .val (.int (Int32.ofNat f)), .val (.int (Int32.ofNat l3)), .val (.ref b378), .val (.int (Int32.ofNat E)), .val (.int (Int32.ofNat T1)), .val (.int (Int32.ofNat T2)), .val (.int asc), .val (.ref b411), .val (.int adj), .val (.int (Int32.ofNat PT)), .val (.ref b463), .val (.int got), .val (.int (1 : Int32)), .unset] [(.ref b463)])) (fun target kt => ?_) ?_
    · skip
      show Steps p.tables e below (T488.setTop (mkF m 354 #[.val (.int p0), .val (.int p1), .val (.int p2), .val (.int p3), .val (.int p4), .val (.int fl), .val (.int (Int32.ofNat f)), .val (.int (Int32.ofNat l3)), .val (.ref b378), .val (.int (Int32.ofNat E)), .val (.int (Int32.ofNat T1)), .val (.int (Int32.ofNat T2)), .val (.int asc), .val (.ref b411), .val (.int adj), .val (.int (Int32.ofNat PT)), .val (.ref b463), .val (.int got), .val (.int (1 : Int32)), .unset] [(.int (0 : Int32))])) _
      refine XS.ifNo X488.here hx rfl (hb hby at_354) rfl ((if0 _ _).trans (teq (by decide : (0 : Int32) = (0 : Int32))).2) ?_
      show Steps p.tables e below (T488.setTop (mkF m 357 #[.val (.int p0), .val (.int p1), .val (.int p2), .val (.int p3), .val (.int p4), .val (.int fl), .val (.int (Int32.ofNat f)), .val (.int (Int32.ofNat l3)), .val (.ref b378), .val (.int (Int32.ofNat E)), .val (.int (Int32.ofNat T1)), .val (.int (Int32.ofNat T2)), .val (.int asc), .val (.ref b411), .val (.int adj), .val (.int (Int32.ofNat PT)), .val (.ref b463), .val (.int got), .val (.int (1 : Int32)), .unset] [])) _
      refine XS.aload X488.here hx rfl (hb hby at_357) rfl rfl ?_
      exact kt
    obtain ⟨cq489, kq489, q489a, q489b, q489c⟩ := isOf hZ e488 f482_0
    obtain ⟨_, _, ⟨T489, L489, k489, n489⟩, -, X489, ⟨Lc489, hQ489, l489, y489, z489⟩, st489⟩ := X488.virtualBack hx (y := (⟨"com/example/long_walk/longwalk/EdgeListLine", "sourceEnd", "()I"⟩ : MethodName)) (z := (⟨"com/example/long_walk/longwalk/EdgeListLine", "sourceEnd", "()I"⟩ : MethodName)) hown (mvT hZ (hw _ (List.mem_of_getElem? (i := 67) rfl))) (mvT hZ (hw _ (List.mem_of_getElem? (i := 68) rfl))) (notFace_of_selects (args := #[]) (mvT hZ (hw _ (List.mem_of_getElem? (i := 70) rfl)))) (mvT hZ (hw _ (List.mem_of_getElem? (i := 70) rfl))) (mvT hZ (hw _ (List.mem_of_getElem? (i := 69) rfl))) (by decide) (backOf (W := 0) (rm14 l Z aZ hw [] b463 (Int32.ofNat T1) T482.heap n0 Z482 f482_2) hZ (hw _ (List.mem_of_getElem? (i := 71) rfl)) (hw _ (List.mem_of_getElem? (i := 21) rfl)) (by decide) (by decide)) q489a q489c (g := (mkF m 359 #[.val (.int p0), .val (.int p1), .val (.int p2), .val (.int p3), .val (.int p4), .val (.int fl), .val (.int (Int32.ofNat f)), .val (.int (Int32.ofNat l3)), .val (.ref b378), .val (.int (Int32.ofNat E)), .val (.int (Int32.ofNat T1)), .val (.int (Int32.ofNat T2)), .val (.int asc), .val (.ref b411), .val (.int adj), .val (.int (Int32.ofNat PT)), .val (.ref b463), .val (.int got), .val (.int (1 : Int32)), .unset] [(.ref b463)])) rfl (by rw [hml]; rfl) (Steps.refl _) (argsL := []) (rest := []) (lenOf own_pd12 rfl) rfl (by show 2 * 0 + _ ≤ _; exact Nat.le_of_eq rfl) (hb hby at_359) (fun _ _ => ⟨rfl, e488, (by decide : 3 + 0 ≤ _), (by decide : 23 + 0 ≤ _)⟩)
    dsimp only [Pt.U, Pt.locs, Pt.cells, Pt.slots] at X489 l489 y489 z489 st489 hQ489
    subst l489 y489 z489
    obtain ⟨rfl, N489q, e489⟩ := hQ489
    have N489 := Fr.app N488 N489q
    refine own_go (S' := T489.setTop (mkF m 362 #[.val (.int p0), .val (.int p1), .val (.int p2), .val (.int p3), .val (.int p4), .val (.int fl), .val (.int (Int32.ofNat f)), .val (.int (Int32.ofNat l3)), .val (.ref b378), .val (.int (Int32.ofNat E)), .val (.int (Int32.ofNat T1)), .val (.int (Int32.ofNat T2)), .val (.int asc), .val (.ref b411), .val (.int adj), .val (.int (Int32.ofNat PT)), .val (.ref b463), .val (.int got), .val (.int (1 : Int32)), .unset] [(.int (Int32.ofNat T1))])) (fun _ k => st489.trans k) ?_
    refine own_go (S' := T489.setTop (mkF m 369 #[.val (.int p0), .val (.int p1), .val (.int p2), .val (.int p3), .val (.int p4), .val (.int fl), .val (.int (Int32.ofNat f)), .val (.int (Int32.ofNat l3)), .val (.ref b378), .val (.int (Int32.ofNat E)), .val (.int (Int32.ofNat T1)), .val (.int (Int32.ofNat T2)), .val (.int asc), .val (.ref b411), .val (.int adj), .val (.int (Int32.ofNat PT)), .val (.ref b463), .val (.int got), .val (.int (1 : Int32)), .unset] [(.ref b463)])) (fun target kt => ?_) ?_
    · skip
      show Steps p.tables e below (T489.setTop (mkF m 362 #[.val (.int p0), .val (.int p1), .val (.int p2), .val (.int p3), .val (.int p4), .val (.int fl), .val (.int (Int32.ofNat f)), .val (.int (Int32.ofNat l3)), .val (.ref b378), .val (.int (Int32.ofNat E)), .val (.int (Int32.ofNat T1)), .val (.int (Int32.ofNat T2)), .val (.int asc), .val (.ref b411), .val (.int adj), .val (.int (Int32.ofNat PT)), .val (.ref b463), .val (.int got), .val (.int (1 : Int32)), .unset] [(.int (Int32.ofNat T1))])) _
      refine XS.iload X489.here hx rfl (hb hby at_362) rfl ?_
      show Steps p.tables e below (T489.setTop (mkF m 364 #[.val (.int p0), .val (.int p1), .val (.int p2), .val (.int p3), .val (.int p4), .val (.int fl), .val (.int (Int32.ofNat f)), .val (.int (Int32.ofNat l3)), .val (.ref b378), .val (.int (Int32.ofNat E)), .val (.int (Int32.ofNat T1)), .val (.int (Int32.ofNat T2)), .val (.int asc), .val (.ref b411), .val (.int adj), .val (.int (Int32.ofNat PT)), .val (.ref b463), .val (.int got), .val (.int (1 : Int32)), .unset] [(.int (Int32.ofNat T1)), (.int (Int32.ofNat T1))])) _
      refine XS.icmpNo X489.here hx rfl (hb hby at_364) rfl (teq (rfl : (Int32.ofNat T1) = (Int32.ofNat T1))).2 ?_
      show Steps p.tables e below (T489.setTop (mkF m 367 #[.val (.int p0), .val (.int p1), .val (.int p2), .val (.int p3), .val (.int p4), .val (.int fl), .val (.int (Int32.ofNat f)), .val (.int (Int32.ofNat l3)), .val (.ref b378), .val (.int (Int32.ofNat E)), .val (.int (Int32.ofNat T1)), .val (.int (Int32.ofNat T2)), .val (.int asc), .val (.ref b411), .val (.int adj), .val (.int (Int32.ofNat PT)), .val (.ref b463), .val (.int got), .val (.int (1 : Int32)), .unset] [])) _
      refine XS.aload X489.here hx rfl (hb hby at_367) rfl rfl ?_
      exact kt
    obtain ⟨cq490, kq490, q490a, q490b, q490c⟩ := isOf hZ e489 f482_0
    obtain ⟨_, _, ⟨T490, L490, k490, n490⟩, -, X490, ⟨Lc490, hQ490, l490, y490, z490⟩, st490⟩ := X489.virtualBack hx (y := (⟨"com/example/long_walk/longwalk/EdgeListLine", "targetStart", "()I"⟩ : MethodName)) (z := (⟨"com/example/long_walk/longwalk/EdgeListLine", "targetStart", "()I"⟩ : MethodName)) hown (mvT hZ (hw _ (List.mem_of_getElem? (i := 72) rfl))) (mvT hZ (hw _ (List.mem_of_getElem? (i := 73) rfl))) (notFace_of_selects (args := #[]) (mvT hZ (hw _ (List.mem_of_getElem? (i := 75) rfl)))) (mvT hZ (hw _ (List.mem_of_getElem? (i := 75) rfl))) (mvT hZ (hw _ (List.mem_of_getElem? (i := 74) rfl))) (by decide) (backOf (W := 0) (rm15 l Z aZ hw [] b463 ((Int32.ofNat T1) + (1 : Int32)) T482.heap n0 Z482 f482_3) hZ (hw _ (List.mem_of_getElem? (i := 76) rfl)) (hw _ (List.mem_of_getElem? (i := 21) rfl)) (by decide) (by decide)) q490a q490c (g := (mkF m 369 #[.val (.int p0), .val (.int p1), .val (.int p2), .val (.int p3), .val (.int p4), .val (.int fl), .val (.int (Int32.ofNat f)), .val (.int (Int32.ofNat l3)), .val (.ref b378), .val (.int (Int32.ofNat E)), .val (.int (Int32.ofNat T1)), .val (.int (Int32.ofNat T2)), .val (.int asc), .val (.ref b411), .val (.int adj), .val (.int (Int32.ofNat PT)), .val (.ref b463), .val (.int got), .val (.int (1 : Int32)), .unset] [(.ref b463)])) rfl (by rw [hml]; rfl) (Steps.refl _) (argsL := []) (rest := []) (lenOf own_pd12 rfl) rfl (by show 2 * 0 + _ ≤ _; exact Nat.le_of_eq rfl) (hb hby at_369) (fun _ _ => ⟨rfl, e489, (by decide : 3 + 0 ≤ _), (by decide : 23 + 0 ≤ _)⟩)
    dsimp only [Pt.U, Pt.locs, Pt.cells, Pt.slots] at X490 l490 y490 z490 st490 hQ490
    subst l490 y490 z490
    obtain ⟨rfl, N490q, e490⟩ := hQ490
    have N490 := Fr.app N489 N490q
    refine own_go (S' := T490.setTop (mkF m 372 #[.val (.int p0), .val (.int p1), .val (.int p2), .val (.int p3), .val (.int p4), .val (.int fl), .val (.int (Int32.ofNat f)), .val (.int (Int32.ofNat l3)), .val (.ref b378), .val (.int (Int32.ofNat E)), .val (.int (Int32.ofNat T1)), .val (.int (Int32.ofNat T2)), .val (.int asc), .val (.ref b411), .val (.int adj), .val (.int (Int32.ofNat PT)), .val (.ref b463), .val (.int got), .val (.int (1 : Int32)), .unset] [(.int ((Int32.ofNat T1) + (1 : Int32)))])) (fun _ k => st490.trans k) ?_
    refine own_go (S' := T490.setTop (mkF m 381 #[.val (.int p0), .val (.int p1), .val (.int p2), .val (.int p3), .val (.int p4), .val (.int fl), .val (.int (Int32.ofNat f)), .val (.int (Int32.ofNat l3)), .val (.ref b378), .val (.int (Int32.ofNat E)), .val (.int (Int32.ofNat T1)), .val (.int (Int32.ofNat T2)), .val (.int asc), .val (.ref b411), .val (.int adj), .val (.int (Int32.ofNat PT)), .val (.ref b463), .val (.int got), .val (.int (1 : Int32)), .unset] [(.ref b463)])) (fun target kt => ?_) ?_
    · skip
      show Steps p.tables e below (T490.setTop (mkF m 372 #[.val (.int p0), .val (.int p1), .val (.int p2), .val (.int p3), .val (.int p4), .val (.int fl), .val (.int (Int32.ofNat f)), .val (.int (Int32.ofNat l3)), .val (.ref b378), .val (.int (Int32.ofNat E)), .val (.int (Int32.ofNat T1)), .val (.int (Int32.ofNat T2)), .val (.int asc), .val (.ref b411), .val (.int adj), .val (.int (Int32.ofNat PT)), .val (.ref b463), .val (.int got), .val (.int (1 : Int32)), .unset] [(.int ((Int32.ofNat T1) + (1 : Int32)))])) _
      refine XS.iload X490.here hx rfl (hb hby at_372) rfl ?_
      show Steps p.tables e below (T490.setTop (mkF m 374 #[.val (.int p0), .val (.int p1), .val (.int p2), .val (.int p3), .val (.int p4), .val (.int fl), .val (.int (Int32.ofNat f)), .val (.int (Int32.ofNat l3)), .val (.ref b378), .val (.int (Int32.ofNat E)), .val (.int (Int32.ofNat T1)), .val (.int (Int32.ofNat T2)), .val (.int asc), .val (.ref b411), .val (.int adj), .val (.int (Int32.ofNat PT)), .val (.ref b463), .val (.int got), .val (.int (1 : Int32)), .unset] [(.int (Int32.ofNat T1)), (.int ((Int32.ofNat T1) + (1 : Int32)))])) _
      refine XS.iconst X490.here hx rfl (hb hby at_374) ?_
      show Steps p.tables e below (T490.setTop (mkF m 375 #[.val (.int p0), .val (.int p1), .val (.int p2), .val (.int p3), .val (.int p4), .val (.int fl), .val (.int (Int32.ofNat f)), .val (.int (Int32.ofNat l3)), .val (.ref b378), .val (.int (Int32.ofNat E)), .val (.int (Int32.ofNat T1)), .val (.int (Int32.ofNat T2)), .val (.int asc), .val (.ref b411), .val (.int adj), .val (.int (Int32.ofNat PT)), .val (.ref b463), .val (.int got), .val (.int (1 : Int32)), .unset] [(.int (1 : Int32)), (.int (Int32.ofNat T1)), (.int ((Int32.ofNat T1) + (1 : Int32)))])) _
      refine XS.iadd X490.here hx rfl (hb hby at_375) rfl ?_
      show Steps p.tables e below (T490.setTop (mkF m 376 #[.val (.int p0), .val (.int p1), .val (.int p2), .val (.int p3), .val (.int p4), .val (.int fl), .val (.int (Int32.ofNat f)), .val (.int (Int32.ofNat l3)), .val (.ref b378), .val (.int (Int32.ofNat E)), .val (.int (Int32.ofNat T1)), .val (.int (Int32.ofNat T2)), .val (.int asc), .val (.ref b411), .val (.int adj), .val (.int (Int32.ofNat PT)), .val (.ref b463), .val (.int got), .val (.int (1 : Int32)), .unset] [(.int ((Int32.ofNat T1) + (1 : Int32))), (.int ((Int32.ofNat T1) + (1 : Int32)))])) _
      refine XS.icmpNo X490.here hx rfl (hb hby at_376) rfl (teq (rfl : ((Int32.ofNat T1) + (1 : Int32)) = ((Int32.ofNat T1) + (1 : Int32)))).2 ?_
      show Steps p.tables e below (T490.setTop (mkF m 379 #[.val (.int p0), .val (.int p1), .val (.int p2), .val (.int p3), .val (.int p4), .val (.int fl), .val (.int (Int32.ofNat f)), .val (.int (Int32.ofNat l3)), .val (.ref b378), .val (.int (Int32.ofNat E)), .val (.int (Int32.ofNat T1)), .val (.int (Int32.ofNat T2)), .val (.int asc), .val (.ref b411), .val (.int adj), .val (.int (Int32.ofNat PT)), .val (.ref b463), .val (.int got), .val (.int (1 : Int32)), .unset] [])) _
      refine XS.aload X490.here hx rfl (hb hby at_379) rfl rfl ?_
      exact kt
    obtain ⟨cq491, kq491, q491a, q491b, q491c⟩ := isOf hZ e490 f482_0
    obtain ⟨_, _, ⟨T491, L491, k491, n491⟩, -, X491, ⟨Lc491, hQ491, l491, y491, z491⟩, st491⟩ := X490.virtualBack hx (y := (⟨"com/example/long_walk/longwalk/EdgeListLine", "targetEnd", "()I"⟩ : MethodName)) (z := (⟨"com/example/long_walk/longwalk/EdgeListLine", "targetEnd", "()I"⟩ : MethodName)) hown (mvT hZ (hw _ (List.mem_of_getElem? (i := 77) rfl))) (mvT hZ (hw _ (List.mem_of_getElem? (i := 78) rfl))) (notFace_of_selects (args := #[]) (mvT hZ (hw _ (List.mem_of_getElem? (i := 80) rfl)))) (mvT hZ (hw _ (List.mem_of_getElem? (i := 80) rfl))) (mvT hZ (hw _ (List.mem_of_getElem? (i := 79) rfl))) (by decide) (backOf (W := 0) (rm16 l Z aZ hw [] b463 (own_min (Int32.ofNat T2) (Int32.ofNat PT)) T482.heap n0 Z482 f482_4) hZ (hw _ (List.mem_of_getElem? (i := 81) rfl)) (hw _ (List.mem_of_getElem? (i := 21) rfl)) (by decide) (by decide)) q491a q491c (g := (mkF m 381 #[.val (.int p0), .val (.int p1), .val (.int p2), .val (.int p3), .val (.int p4), .val (.int fl), .val (.int (Int32.ofNat f)), .val (.int (Int32.ofNat l3)), .val (.ref b378), .val (.int (Int32.ofNat E)), .val (.int (Int32.ofNat T1)), .val (.int (Int32.ofNat T2)), .val (.int asc), .val (.ref b411), .val (.int adj), .val (.int (Int32.ofNat PT)), .val (.ref b463), .val (.int got), .val (.int (1 : Int32)), .unset] [(.ref b463)])) rfl (by rw [hml]; rfl) (Steps.refl _) (argsL := []) (rest := []) (lenOf own_pd12 rfl) rfl (by show 2 * 0 + _ ≤ _; exact Nat.le_of_eq rfl) (hb hby at_381) (fun _ _ => ⟨rfl, e490, (by decide : 3 + 0 ≤ _), (by decide : 23 + 0 ≤ _)⟩)
    dsimp only [Pt.U, Pt.locs, Pt.cells, Pt.slots] at X491 l491 y491 z491 st491 hQ491
    subst l491 y491 z491
    obtain ⟨rfl, N491q, e491⟩ := hQ491
    have N491 := Fr.app N490 N491q
    refine own_go (S' := T491.setTop (mkF m 384 #[.val (.int p0), .val (.int p1), .val (.int p2), .val (.int p3), .val (.int p4), .val (.int fl), .val (.int (Int32.ofNat f)), .val (.int (Int32.ofNat l3)), .val (.ref b378), .val (.int (Int32.ofNat E)), .val (.int (Int32.ofNat T1)), .val (.int (Int32.ofNat T2)), .val (.int asc), .val (.ref b411), .val (.int adj), .val (.int (Int32.ofNat PT)), .val (.ref b463), .val (.int got), .val (.int (1 : Int32)), .unset] [(.int (own_min (Int32.ofNat T2) (Int32.ofNat PT)))])) (fun _ k => st491.trans k) ?_
    refine own_go (S' := T491.setTop (mkF m 388 #[.val (.int p0), .val (.int p1), .val (.int p2), .val (.int p3), .val (.int p4), .val (.int fl), .val (.int (Int32.ofNat f)), .val (.int (Int32.ofNat l3)), .val (.ref b378), .val (.int (Int32.ofNat E)), .val (.int (Int32.ofNat T1)), .val (.int (Int32.ofNat T2)), .val (.int asc), .val (.ref b411), .val (.int adj), .val (.int (Int32.ofNat PT)), .val (.ref b463), .val (.int got), .val (.int (1 : Int32)), .unset] [(.int (Int32.ofNat PT)), (.int (Int32.ofNat T2)), (.int (own_min (Int32.ofNat T2) (Int32.ofNat PT)))])) (fun target kt => ?_) ?_
    · skip
      show Steps p.tables e below (T491.setTop (mkF m 384 #[.val (.int p0), .val (.int p1), .val (.int p2), .val (.int p3), .val (.int p4), .val (.int fl), .val (.int (Int32.ofNat f)), .val (.int (Int32.ofNat l3)), .val (.ref b378), .val (.int (Int32.ofNat E)), .val (.int (Int32.ofNat T1)), .val (.int (Int32.ofNat T2)), .val (.int asc), .val (.ref b411), .val (.int adj), .val (.int (Int32.ofNat PT)), .val (.ref b463), .val (.int got), .val (.int (1 : Int32)), .unset] [(.int (own_min (Int32.ofNat T2) (Int32.ofNat PT)))])) _
      refine XS.iload X491.here hx rfl (hb hby at_384) rfl ?_
      show Steps p.tables e below (T491.setTop (mkF m 386 #[.val (.int p0), .val (.int p1), .val (.int p2), .val (.int p3), .val (.int p4), .val (.int fl), .val (.int (Int32.ofNat f)), .val (.int (Int32.ofNat l3)), .val (.ref b378), .val (.int (Int32.ofNat E)), .val (.int (Int32.ofNat T1)), .val (.int (Int32.ofNat T2)), .val (.int asc), .val (.ref b411), .val (.int adj), .val (.int (Int32.ofNat PT)), .val (.ref b463), .val (.int got), .val (.int (1 : Int32)), .unset] [(.int (Int32.ofNat T2)), (.int (own_min (Int32.ofNat T2) (Int32.ofNat PT)))])) _
      refine XS.iload X491.here hx rfl (hb hby at_386) rfl ?_
      exact kt
    obtain ⟨_, _, ⟨T492, L492, k492, n492⟩, -, X492, ⟨Lc492, hQ492, l492, y492, z492⟩, st492⟩ := Jvm.LawKit.callS X491 hx (y := (⟨"java/lang/Math", "min", "(II)I"⟩ : MethodName)) hown (mvT hZ (hw _ (List.mem_of_getElem? (i := 82) rfl))) (mvT hZ (hw _ (List.mem_of_getElem? (i := 48) rfl))) (mvT hZ (hw _ (List.mem_of_getElem? (i := 8) rfl))) (mvT hZ (hw _ (List.mem_of_getElem? (i := 49) rfl))) (by decide) (backOf (W := 1) (rm11 l Z aZ hw [] (Int32.ofNat T2) (Int32.ofNat PT) T482.heap n0 Z482 ) hZ (hw _ (List.mem_of_getElem? (i := 49) rfl)) (hw _ (List.mem_of_getElem? (i := 8) rfl)) (by decide) (by decide)) (g := (mkF m 388 #[.val (.int p0), .val (.int p1), .val (.int p2), .val (.int p3), .val (.int p4), .val (.int fl), .val (.int (Int32.ofNat f)), .val (.int (Int32.ofNat l3)), .val (.ref b378), .val (.int (Int32.ofNat E)), .val (.int (Int32.ofNat T1)), .val (.int (Int32.ofNat T2)), .val (.int asc), .val (.ref b411), .val (.int adj), .val (.int (Int32.ofNat PT)), .val (.ref b463), .val (.int got), .val (.int (1 : Int32)), .unset] [(.int (Int32.ofNat PT)), (.int (Int32.ofNat T2)), (.int (own_min (Int32.ofNat T2) (Int32.ofNat PT)))])) rfl (by rw [hml]; rfl) (argsL := [(.int (Int32.ofNat T2)), (.int (Int32.ofNat PT))]) (rest := [(.int (own_min (Int32.ofNat T2) (Int32.ofNat PT)))]) (lenOf own_pd0 rfl) rfl (by show 2 * 0 + _ ≤ _; exact Nat.le_of_eq rfl) (hb hby at_388) (fun _ _ => ⟨rfl, e491, (by decide : 3 + 0 ≤ _), (by decide : 23 + 0 ≤ _)⟩)
    dsimp only [Pt.U, Pt.locs, Pt.cells, Pt.slots] at X492 l492 y492 z492 st492 hQ492
    subst l492 y492 z492
    obtain ⟨rfl, N492q, e492⟩ := hQ492
    have N492 := Fr.app N491 N492q
    refine own_go (S' := T492.setTop (mkF m 391 #[.val (.int p0), .val (.int p1), .val (.int p2), .val (.int p3), .val (.int p4), .val (.int fl), .val (.int (Int32.ofNat f)), .val (.int (Int32.ofNat l3)), .val (.ref b378), .val (.int (Int32.ofNat E)), .val (.int (Int32.ofNat T1)), .val (.int (Int32.ofNat T2)), .val (.int asc), .val (.ref b411), .val (.int adj), .val (.int (Int32.ofNat PT)), .val (.ref b463), .val (.int got), .val (.int (1 : Int32)), .unset] [(.int (own_min (Int32.ofNat T2) (Int32.ofNat PT))), (.int (own_min (Int32.ofNat T2) (Int32.ofNat PT)))])) st492 ?_
    refine own_go (S' := T492.setTop (mkF m 469 #[.val (.int p0), .val (.int p1), .val (.int p2), .val (.int p3), .val (.int p4), .val (.int fl), .val (.int (Int32.ofNat f)), .val (.int (Int32.ofNat l3)), .val (.ref b378), .val (.int (Int32.ofNat E)), .val (.int (Int32.ofNat T1)), .val (.int (Int32.ofNat T2)), .val (.int asc), .val (.ref b411), .val (.int adj), .val (.int (Int32.ofNat PT)), .val (.ref b463), .val (.int got), .val (.int (1 : Int32)), .val (.int (1 : Int32))] [(.int (1 : Int32))])) (fun target kt => ?_) ?_
    · skip
      show Steps p.tables e below (T492.setTop (mkF m 391 #[.val (.int p0), .val (.int p1), .val (.int p2), .val (.int p3), .val (.int p4), .val (.int fl), .val (.int (Int32.ofNat f)), .val (.int (Int32.ofNat l3)), .val (.ref b378), .val (.int (Int32.ofNat E)), .val (.int (Int32.ofNat T1)), .val (.int (Int32.ofNat T2)), .val (.int asc), .val (.ref b411), .val (.int adj), .val (.int (Int32.ofNat PT)), .val (.ref b463), .val (.int got), .val (.int (1 : Int32)), .unset] [(.int (own_min (Int32.ofNat T2) (Int32.ofNat PT))), (.int (own_min (Int32.ofNat T2) (Int32.ofNat PT)))])) _
      refine XS.icmpNo X492.here hx rfl (hb hby at_391) rfl (teq (rfl : (own_min (Int32.ofNat T2) (Int32.ofNat PT)) = (own_min (Int32.ofNat T2) (Int32.ofNat PT)))).2 ?_
      show Steps p.tables e below (T492.setTop (mkF m 394 #[.val (.int p0), .val (.int p1), .val (.int p2), .val (.int p3), .val (.int p4), .val (.int fl), .val (.int (Int32.ofNat f)), .val (.int (Int32.ofNat l3)), .val (.ref b378), .val (.int (Int32.ofNat E)), .val (.int (Int32.ofNat T1)), .val (.int (Int32.ofNat T2)), .val (.int asc), .val (.ref b411), .val (.int adj), .val (.int (Int32.ofNat PT)), .val (.ref b463), .val (.int got), .val (.int (1 : Int32)), .unset] [])) _
      refine XS.iconst X492.here hx rfl (hb hby at_394) ?_
      show Steps p.tables e below (T492.setTop (mkF m 395 #[.val (.int p0), .val (.int p1), .val (.int p2), .val (.int p3), .val (.int p4), .val (.int fl), .val (.int (Int32.ofNat f)), .val (.int (Int32.ofNat l3)), .val (.ref b378), .val (.int (Int32.ofNat E)), .val (.int (Int32.ofNat T1)), .val (.int (Int32.ofNat T2)), .val (.int asc), .val (.ref b411), .val (.int adj), .val (.int (Int32.ofNat PT)), .val (.ref b463), .val (.int got), .val (.int (1 : Int32)), .unset] [(.int (1 : Int32))])) _
      refine XS.goto X492.here hx rfl (pc0 := 395) (pc' := 399) rfl (hb hby at_395) (by decide) (by decide) ?_
      show Steps p.tables e below (T492.setTop (mkF m 399 #[.val (.int p0), .val (.int p1), .val (.int p2), .val (.int p3), .val (.int p4), .val (.int fl), .val (.int (Int32.ofNat f)), .val (.int (Int32.ofNat l3)), .val (.ref b378), .val (.int (Int32.ofNat E)), .val (.int (Int32.ofNat T1)), .val (.int (Int32.ofNat T2)), .val (.int asc), .val (.ref b411), .val (.int adj), .val (.int (Int32.ofNat PT)), .val (.ref b463), .val (.int got), .val (.int (1 : Int32)), .unset] [(.int (1 : Int32))])) _
      refine XS.istore X492.here hx rfl (hb hby at_399) rfl (l' := #[.val (.int p0), .val (.int p1), .val (.int p2), .val (.int p3), .val (.int p4), .val (.int fl), .val (.int (Int32.ofNat f)), .val (.int (Int32.ofNat l3)), .val (.ref b378), .val (.int (Int32.ofNat E)), .val (.int (Int32.ofNat T1)), .val (.int (Int32.ofNat T2)), .val (.int asc), .val (.ref b411), .val (.int adj), .val (.int (Int32.ofNat PT)), .val (.ref b463), .val (.int got), .val (.int (1 : Int32)), .val (.int (1 : Int32))]) rfl ?_
      show Steps p.tables e below (T492.setTop (mkF m 401 #[.val (.int p0), .val (.int p1), .val (.int p2), .val (.int p3), .val (.int p4), .val (.int fl), .val (.int (Int32.ofNat f)), .val (.int (Int32.ofNat l3)), .val (.ref b378), .val (.int (Int32.ofNat E)), .val (.int (Int32.ofNat T1)), .val (.int (Int32.ofNat T2)), .val (.int asc), .val (.ref b411), .val (.int adj), .val (.int (Int32.ofNat PT)), .val (.ref b463), .val (.int got), .val (.int (1 : Int32)), .val (.int (1 : Int32))] [])) _
      refine XS.goto X492.here hx rfl (pc0 := 401) (pc' := 447) rfl (hb hby at_401) (by decide) (by decide) ?_
      show Steps p.tables e below (T492.setTop (mkF m 447 #[.val (.int p0), .val (.int p1), .val (.int p2), .val (.int p3), .val (.int p4), .val (.int fl), .val (.int (Int32.ofNat f)), .val (.int (Int32.ofNat l3)), .val (.ref b378), .val (.int (Int32.ofNat E)), .val (.int (Int32.ofNat T1)), .val (.int (Int32.ofNat T2)), .val (.int asc), .val (.ref b411), .val (.int adj), .val (.int (Int32.ofNat PT)), .val (.ref b463), .val (.int got), .val (.int (1 : Int32)), .val (.int (1 : Int32))] [])) _
      refine XS.iload X492.here hx rfl (hb hby at_447) rfl ?_
      show Steps p.tables e below (T492.setTop (mkF m 449 #[.val (.int p0), .val (.int p1), .val (.int p2), .val (.int p3), .val (.int p4), .val (.int fl), .val (.int (Int32.ofNat f)), .val (.int (Int32.ofNat l3)), .val (.ref b378), .val (.int (Int32.ofNat E)), .val (.int (Int32.ofNat T1)), .val (.int (Int32.ofNat T2)), .val (.int asc), .val (.ref b411), .val (.int adj), .val (.int (Int32.ofNat PT)), .val (.ref b463), .val (.int got), .val (.int (1 : Int32)), .val (.int (1 : Int32))] [(.int got)])) _
      refine XS.iload X492.here hx rfl (hb hby at_449) rfl ?_
      show Steps p.tables e below (T492.setTop (mkF m 451 #[.val (.int p0), .val (.int p1), .val (.int p2), .val (.int p3), .val (.int p4), .val (.int fl), .val (.int (Int32.ofNat f)), .val (.int (Int32.ofNat l3)), .val (.ref b378), .val (.int (Int32.ofNat E)), .val (.int (Int32.ofNat T1)), .val (.int (Int32.ofNat T2)), .val (.int asc), .val (.ref b411), .val (.int adj), .val (.int (Int32.ofNat PT)), .val (.ref b463), .val (.int got), .val (.int (1 : Int32)), .val (.int (1 : Int32))] [(.int (Int32.ofNat E)), (.int got)])) _
      refine XS.icmpNo X492.here hx rfl (hb hby at_451) rfl (teq (hres.1 : got = (Int32.ofNat E))).2 ?_
      show Steps p.tables e below (T492.setTop (mkF m 454 #[.val (.int p0), .val (.int p1), .val (.int p2), .val (.int p3), .val (.int p4), .val (.int fl), .val (.int (Int32.ofNat f)), .val (.int (Int32.ofNat l3)), .val (.ref b378), .val (.int (Int32.ofNat E)), .val (.int (Int32.ofNat T1)), .val (.int (Int32.ofNat T2)), .val (.int asc), .val (.ref b411), .val (.int adj), .val (.int (Int32.ofNat PT)), .val (.ref b463), .val (.int got), .val (.int (1 : Int32)), .val (.int (1 : Int32))] [])) _
      refine XS.iload X492.here hx rfl (hb hby at_454) rfl ?_
      show Steps p.tables e below (T492.setTop (mkF m 456 #[.val (.int p0), .val (.int p1), .val (.int p2), .val (.int p3), .val (.int p4), .val (.int fl), .val (.int (Int32.ofNat f)), .val (.int (Int32.ofNat l3)), .val (.ref b378), .val (.int (Int32.ofNat E)), .val (.int (Int32.ofNat T1)), .val (.int (Int32.ofNat T2)), .val (.int asc), .val (.ref b411), .val (.int adj), .val (.int (Int32.ofNat PT)), .val (.ref b463), .val (.int got), .val (.int (1 : Int32)), .val (.int (1 : Int32))] [(.int (1 : Int32))])) _
      refine XS.ifNo X492.here hx rfl (hb hby at_456) rfl ((if0 _ _).trans (feq (by decide : ¬ ((1 : Int32) = (0 : Int32)))).1) ?_
      show Steps p.tables e below (T492.setTop (mkF m 459 #[.val (.int p0), .val (.int p1), .val (.int p2), .val (.int p3), .val (.int p4), .val (.int fl), .val (.int (Int32.ofNat f)), .val (.int (Int32.ofNat l3)), .val (.ref b378), .val (.int (Int32.ofNat E)), .val (.int (Int32.ofNat T1)), .val (.int (Int32.ofNat T2)), .val (.int asc), .val (.ref b411), .val (.int adj), .val (.int (Int32.ofNat PT)), .val (.ref b463), .val (.int got), .val (.int (1 : Int32)), .val (.int (1 : Int32))] [])) _
      refine XS.iload X492.here hx rfl (hb hby at_459) rfl ?_
      show Steps p.tables e below (T492.setTop (mkF m 461 #[.val (.int p0), .val (.int p1), .val (.int p2), .val (.int p3), .val (.int p4), .val (.int fl), .val (.int (Int32.ofNat f)), .val (.int (Int32.ofNat l3)), .val (.ref b378), .val (.int (Int32.ofNat E)), .val (.int (Int32.ofNat T1)), .val (.int (Int32.ofNat T2)), .val (.int asc), .val (.ref b411), .val (.int adj), .val (.int (Int32.ofNat PT)), .val (.ref b463), .val (.int got), .val (.int (1 : Int32)), .val (.int (1 : Int32))] [(.int (1 : Int32))])) _
      refine XS.ifNo X492.here hx rfl (hb hby at_461) rfl ((if0 _ _).trans (feq (by decide : ¬ ((1 : Int32) = (0 : Int32)))).1) ?_
      show Steps p.tables e below (T492.setTop (mkF m 464 #[.val (.int p0), .val (.int p1), .val (.int p2), .val (.int p3), .val (.int p4), .val (.int fl), .val (.int (Int32.ofNat f)), .val (.int (Int32.ofNat l3)), .val (.ref b378), .val (.int (Int32.ofNat E)), .val (.int (Int32.ofNat T1)), .val (.int (Int32.ofNat T2)), .val (.int asc), .val (.ref b411), .val (.int adj), .val (.int (Int32.ofNat PT)), .val (.ref b463), .val (.int got), .val (.int (1 : Int32)), .val (.int (1 : Int32))] [])) _
      refine XS.iconst X492.here hx rfl (hb hby at_464) ?_
      show Steps p.tables e below (T492.setTop (mkF m 465 #[.val (.int p0), .val (.int p1), .val (.int p2), .val (.int p3), .val (.int p4), .val (.int fl), .val (.int (Int32.ofNat f)), .val (.int (Int32.ofNat l3)), .val (.ref b378), .val (.int (Int32.ofNat E)), .val (.int (Int32.ofNat T1)), .val (.int (Int32.ofNat T2)), .val (.int asc), .val (.ref b411), .val (.int adj), .val (.int (Int32.ofNat PT)), .val (.ref b463), .val (.int got), .val (.int (1 : Int32)), .val (.int (1 : Int32))] [(.int (1 : Int32))])) _
      refine XS.goto X492.here hx rfl (pc0 := 465) (pc' := 469) rfl (hb hby at_465) (by decide) (by decide) ?_
      exact kt
    obtain ⟨fs, hr, hrun, hended, hW, hsame⟩ := X492.leave (v := some (.int (1 : Int32))) (fun h => by rw [Bd.returns] at h; cases h)
    refine ⟨_, _, ?_, hrun, hended, _, _, rfl, ?_, ⟨_, rfl⟩, hW, hsame.mono (by decide) (by decide)⟩
    · exact retN X492 hx (t := .boolean) Bd.returns (by simp) (hb hby at_469) hr
    · show Q0 Z p0 p1 p2 p3 p4 h0 n0 _ T492.heap _
      rw [e492]
      exact ⟨rfl, N492⟩
  · skip
    refine own_go (S' := T476.setTop (mkF m 337 #[.val (.int p0), .val (.int p1), .val (.int p2), .val (.int p3), .val (.int p4), .val (.int fl), .val (.int (Int32.ofNat f)), .val (.int (Int32.ofNat l3)), .val (.ref b378), .val (.int (Int32.ofNat E)), .val (.int (Int32.ofNat T1)), .val (.int (Int32.ofNat T2)), .val (.int asc), .val (.ref b411), .val (.int adj), .val (.int (Int32.ofNat PT)), .val (.ref b463), .val (.int got), .unset, .unset] [(.long (1 : Int64)), (.int (Int32.ofNat PT)), (.int (0 : Int32)), (.ref b411), (.ref b463)])) (fun target kt => ?_) ?_
    · skip
      show Steps p.tables e below (T476.setTop (mkF m 329 #[.val (.int p0), .val (.int p1), .val (.int p2), .val (.int p3), .val (.int p4), .val (.int fl), .val (.int (Int32.ofNat f)), .val (.int (Int32.ofNat l3)), .val (.ref b378), .val (.int (Int32.ofNat E)), .val (.int (Int32.ofNat T1)), .val (.int (Int32.ofNat T2)), .val (.int asc), .val (.ref b411), .val (.int adj), .val (.int (Int32.ofNat PT)), .val (.ref b463), .val (.int got), .unset, .unset] [])) _
      refine XS.aload X476.here hx rfl (hb hby at_329) rfl rfl ?_
      show Steps p.tables e below (T476.setTop (mkF m 331 #[.val (.int p0), .val (.int p1), .val (.int p2), .val (.int p3), .val (.int p4), .val (.int fl), .val (.int (Int32.ofNat f)), .val (.int (Int32.ofNat l3)), .val (.ref b378), .val (.int (Int32.ofNat E)), .val (.int (Int32.ofNat T1)), .val (.int (Int32.ofNat T2)), .val (.int asc), .val (.ref b411), .val (.int adj), .val (.int (Int32.ofNat PT)), .val (.ref b463), .val (.int got), .unset, .unset] [(.ref b463)])) _
      refine XS.aload X476.here hx rfl (hb hby at_331) rfl rfl ?_
      show Steps p.tables e below (T476.setTop (mkF m 333 #[.val (.int p0), .val (.int p1), .val (.int p2), .val (.int p3), .val (.int p4), .val (.int fl), .val (.int (Int32.ofNat f)), .val (.int (Int32.ofNat l3)), .val (.ref b378), .val (.int (Int32.ofNat E)), .val (.int (Int32.ofNat T1)), .val (.int (Int32.ofNat T2)), .val (.int asc), .val (.ref b411), .val (.int adj), .val (.int (Int32.ofNat PT)), .val (.ref b463), .val (.int got), .unset, .unset] [(.ref b411), (.ref b463)])) _
      refine XS.iconst X476.here hx rfl (hb hby at_333) ?_
      show Steps p.tables e below (T476.setTop (mkF m 334 #[.val (.int p0), .val (.int p1), .val (.int p2), .val (.int p3), .val (.int p4), .val (.int fl), .val (.int (Int32.ofNat f)), .val (.int (Int32.ofNat l3)), .val (.ref b378), .val (.int (Int32.ofNat E)), .val (.int (Int32.ofNat T1)), .val (.int (Int32.ofNat T2)), .val (.int asc), .val (.ref b411), .val (.int adj), .val (.int (Int32.ofNat PT)), .val (.ref b463), .val (.int got), .unset, .unset] [(.int (0 : Int32)), (.ref b411), (.ref b463)])) _
      refine XS.iload X476.here hx rfl (hb hby at_334) rfl ?_
      show Steps p.tables e below (T476.setTop (mkF m 336 #[.val (.int p0), .val (.int p1), .val (.int p2), .val (.int p3), .val (.int p4), .val (.int fl), .val (.int (Int32.ofNat f)), .val (.int (Int32.ofNat l3)), .val (.ref b378), .val (.int (Int32.ofNat E)), .val (.int (Int32.ofNat T1)), .val (.int (Int32.ofNat T2)), .val (.int asc), .val (.ref b411), .val (.int adj), .val (.int (Int32.ofNat PT)), .val (.ref b463), .val (.int got), .unset, .unset] [(.int (Int32.ofNat PT)), (.int (0 : Int32)), (.ref b411), (.ref b463)])) _
      refine XS.lconst X476.here hx rfl (hb hby at_336) ?_
      exact kt
    obtain ⟨cq493, kq493, q493a, q493b, q493c⟩ := isOf hZ rfl f476_0
    obtain ⟨_, _, ⟨T493, L493, k493, n493⟩, -, X493, ⟨Lc493, hQ493, l493, y493, z493⟩, st493⟩ := X476.virtualBack hx (y := (⟨"com/example/long_walk/longwalk/EdgeListLine", "readScanned", "([BIIJ)Z"⟩ : MethodName)) (z := (⟨"com/example/long_walk/longwalk/EdgeListLine", "readScanned", "([BIIJ)Z"⟩ : MethodName)) hown (mvT hZ (hw _ (List.mem_of_getElem? (i := 39) rfl))) (mvT hZ (hw _ (List.mem_of_getElem? (i := 40) rfl))) (notFace_of_selects (args := #[]) (mvT hZ (hw _ (List.mem_of_getElem? (i := 42) rfl)))) (mvT hZ (hw _ (List.mem_of_getElem? (i := 42) rfl))) (mvT hZ (hw _ (List.mem_of_getElem? (i := 41) rfl))) (by decide) (backOf (W := 0) (rm9_b l Z aZ hw [] b463 b411 PT gp (Int32.ofNat T1) (Int32.ofNat T2) ac T476.heap n0 Z476 f476_0 f476_1 f476_2 f476_3 f476_4 f476_5 f476_6 f476_7 f480 g_b463 (hpr.1 : own_pr PT gp) (hng : ac = (0 : Int32) → ∀ j, j < 8 → ¬ (gp j) < (0 : Int32)) (Ne.symm ne_b411_b463) (own_nlt (by omega) (by omega) (by omega) : ¬ (Int32.ofNat T1) < (Int32.ofNat PT))) hZ (hw _ (List.mem_of_getElem? (i := 43) rfl)) (hw _ (List.mem_of_getElem? (i := 21) rfl)) (by decide) (by decide)) q493a q493c (g := (mkF m 337 #[.val (.int p0), .val (.int p1), .val (.int p2), .val (.int p3), .val (.int p4), .val (.int fl), .val (.int (Int32.ofNat f)), .val (.int (Int32.ofNat l3)), .val (.ref b378), .val (.int (Int32.ofNat E)), .val (.int (Int32.ofNat T1)), .val (.int (Int32.ofNat T2)), .val (.int asc), .val (.ref b411), .val (.int adj), .val (.int (Int32.ofNat PT)), .val (.ref b463), .val (.int got), .unset, .unset] [(.long (1 : Int64)), (.int (Int32.ofNat PT)), (.int (0 : Int32)), (.ref b411), (.ref b463)])) rfl (by rw [hml]; rfl) (Steps.refl _) (argsL := [(.ref b411), (.int (0 : Int32)), (.int (Int32.ofNat PT)), (.long (1 : Int64))]) (rest := []) (lenOf own_pd11 rfl) rfl (by show 2 * 0 + _ ≤ _; exact Nat.le_of_eq rfl) (hb hby at_337) (fun _ _ => ⟨rfl, rfl, (by decide : 3 + 0 ≤ _), (by decide : 23 + 0 ≤ _)⟩)
    dsimp only [Pt.U, Pt.locs, Pt.cells, Pt.slots] at X493 l493 y493 z493 st493 hQ493
    subst l493 y493 z493
    obtain ⟨rfl, N493q, K493q, f493_0, f493_1, f493_2, f493_3, f493_4, f493_5, f493_6, f493_7⟩ := hQ493
    have N493 := Fr.app N476 N493q
    have f494 : Exa Z T493.heap b378 "[B" := f477.keep K493q
    have f495 : own_AI Z T493.heap b378 .byte 8 G := f478.keep K493q (ninS ne_b378_b463 nin0)
    have f496 : Exa Z T493.heap b411 "[B" := f479.keep K493q
    have f497 : own_AI Z T493.heap b411 .byte 8 gp := f480.keep K493q (ninS ne_b411_b463 nin0)
    have f498 : Exa Z T493.heap b463 "com/example/long_walk/longwalk/EdgeListLine" := f476_0.keep K493q
    have Z493 : n0 ≤ T493.heap.size := Nat.le_trans Z476 K493q.1
    refine own_go (S' := T493.setTop (mkF m 340 #[.val (.int p0), .val (.int p1), .val (.int p2), .val (.int p3), .val (.int p4), .val (.int fl), .val (.int (Int32.ofNat f)), .val (.int (Int32.ofNat l3)), .val (.ref b378), .val (.int (Int32.ofNat E)), .val (.int (Int32.ofNat T1)), .val (.int (Int32.ofNat T2)), .val (.int asc), .val (.ref b411), .val (.int adj), .val (.int (Int32.ofNat PT)), .val (.ref b463), .val (.int got), .unset, .unset] [(.int (1 : Int32))])) (fun _ k => st493.trans k) ?_
    refine own_go (S' := T493.setTop (mkF m 406 #[.val (.int p0), .val (.int p1), .val (.int p2), .val (.int p3), .val (.int p4), .val (.int fl), .val (.int (Int32.ofNat f)), .val (.int (Int32.ofNat l3)), .val (.ref b378), .val (.int (Int32.ofNat E)), .val (.int (Int32.ofNat T1)), .val (.int (Int32.ofNat T2)), .val (.int asc), .val (.ref b411), .val (.int adj), .val (.int (Int32.ofNat PT)), .val (.ref b463), .val (.int got), .val (.int (1 : Int32)), .unset] [(.ref b463)])) (fun target kt => ?_) ?_
    · skip
      show Steps p.tables e below (T493.setTop (mkF m 340 #[.val (.int p0), .val (.int p1), .val (.int p2), .val (.int p3), .val (.int p4), .val (.int fl), .val (.int (Int32.ofNat f)), .val (.int (Int32.ofNat l3)), .val (.ref b378), .val (.int (Int32.ofNat E)), .val (.int (Int32.ofNat T1)), .val (.int (Int32.ofNat T2)), .val (.int asc), .val (.ref b411), .val (.int adj), .val (.int (Int32.ofNat PT)), .val (.ref b463), .val (.int got), .unset, .unset] [(.int (1 : Int32))])) _
      refine XS.istore X493.here hx rfl (hb hby at_340) rfl (l' := #[.val (.int p0), .val (.int p1), .val (.int p2), .val (.int p3), .val (.int p4), .val (.int fl), .val (.int (Int32.ofNat f)), .val (.int (Int32.ofNat l3)), .val (.ref b378), .val (.int (Int32.ofNat E)), .val (.int (Int32.ofNat T1)), .val (.int (Int32.ofNat T2)), .val (.int asc), .val (.ref b411), .val (.int adj), .val (.int (Int32.ofNat PT)), .val (.ref b463), .val (.int got), .val (.int (1 : Int32)), .unset]) rfl ?_
      show Steps p.tables e below (T493.setTop (mkF m 342 #[.val (.int p0), .val (.int p1), .val (.int p2), .val (.int p3), .val (.int p4), .val (.int fl), .val (.int (Int32.ofNat f)), .val (.int (Int32.ofNat l3)), .val (.ref b378), .val (.int (Int32.ofNat E)), .val (.int (Int32.ofNat T1)), .val (.int (Int32.ofNat T2)), .val (.int asc), .val (.ref b411), .val (.int adj), .val (.int (Int32.ofNat PT)), .val (.ref b463), .val (.int got), .val (.int (1 : Int32)), .unset] [])) _
      refine XS.iload X493.here hx rfl (hb hby at_342) rfl ?_
      show Steps p.tables e below (T493.setTop (mkF m 344 #[.val (.int p0), .val (.int p1), .val (.int p2), .val (.int p3), .val (.int p4), .val (.int fl), .val (.int (Int32.ofNat f)), .val (.int (Int32.ofNat l3)), .val (.ref b378), .val (.int (Int32.ofNat E)), .val (.int (Int32.ofNat T1)), .val (.int (Int32.ofNat T2)), .val (.int asc), .val (.ref b411), .val (.int adj), .val (.int (Int32.ofNat PT)), .val (.ref b463), .val (.int got), .val (.int (1 : Int32)), .unset] [(.int (Int32.ofNat T1))])) _
      refine XS.iload X493.here hx rfl (hb hby at_344) rfl ?_
      show Steps p.tables e below (T493.setTop (mkF m 346 #[.val (.int p0), .val (.int p1), .val (.int p2), .val (.int p3), .val (.int p4), .val (.int fl), .val (.int (Int32.ofNat f)), .val (.int (Int32.ofNat l3)), .val (.ref b378), .val (.int (Int32.ofNat E)), .val (.int (Int32.ofNat T1)), .val (.int (Int32.ofNat T2)), .val (.int asc), .val (.ref b411), .val (.int adj), .val (.int (Int32.ofNat PT)), .val (.ref b463), .val (.int got), .val (.int (1 : Int32)), .unset] [(.int (Int32.ofNat PT)), (.int (Int32.ofNat T1))])) _
      refine XS.icmpYes X493.here hx rfl (pc0 := 346) (pc' := 404) rfl (hb hby at_346) rfl (flt (own_nlt (by omega) (by omega) (by omega) : ¬ ((Int32.ofNat T1) < (Int32.ofNat PT)))).2.1 (by decide) (by decide) ?_
      show Steps p.tables e below (T493.setTop (mkF m 404 #[.val (.int p0), .val (.int p1), .val (.int p2), .val (.int p3), .val (.int p4), .val (.int fl), .val (.int (Int32.ofNat f)), .val (.int (Int32.ofNat l3)), .val (.ref b378), .val (.int (Int32.ofNat E)), .val (.int (Int32.ofNat T1)), .val (.int (Int32.ofNat T2)), .val (.int asc), .val (.ref b411), .val (.int adj), .val (.int (Int32.ofNat PT)), .val (.ref b463), .val (.int got), .val (.int (1 : Int32)), .unset] [])) _
      refine XS.aload X493.here hx rfl (hb hby at_404) rfl rfl ?_
      exact kt
    obtain ⟨cq499, kq499, q499a, q499b, q499c⟩ := isOf hZ rfl f493_0
    obtain ⟨_, _, ⟨T499, L499, k499, n499⟩, -, X499, ⟨Lc499, hQ499, l499, y499, z499⟩, st499⟩ := X493.virtualBack hx (y := (⟨"com/example/long_walk/longwalk/EdgeListLine", "sourceStart", "()I"⟩ : MethodName)) (z := (⟨"com/example/long_walk/longwalk/EdgeListLine", "sourceStart", "()I"⟩ : MethodName)) hown (mvT hZ (hw _ (List.mem_of_getElem? (i := 62) rfl))) (mvT hZ (hw _ (List.mem_of_getElem? (i := 63) rfl))) (notFace_of_selects (args := #[]) (mvT hZ (hw _ (List.mem_of_getElem? (i := 65) rfl)))) (mvT hZ (hw _ (List.mem_of_getElem? (i := 65) rfl))) (mvT hZ (hw _ (List.mem_of_getElem? (i := 64) rfl))) (by decide) (backOf (W := 0) (rm13 l Z aZ hw [] b463 (0 : Int32) T493.heap n0 Z493 f493_1) hZ (hw _ (List.mem_of_getElem? (i := 66) rfl)) (hw _ (List.mem_of_getElem? (i := 21) rfl)) (by decide) (by decide)) q499a q499c (g := (mkF m 406 #[.val (.int p0), .val (.int p1), .val (.int p2), .val (.int p3), .val (.int p4), .val (.int fl), .val (.int (Int32.ofNat f)), .val (.int (Int32.ofNat l3)), .val (.ref b378), .val (.int (Int32.ofNat E)), .val (.int (Int32.ofNat T1)), .val (.int (Int32.ofNat T2)), .val (.int asc), .val (.ref b411), .val (.int adj), .val (.int (Int32.ofNat PT)), .val (.ref b463), .val (.int got), .val (.int (1 : Int32)), .unset] [(.ref b463)])) rfl (by rw [hml]; rfl) (Steps.refl _) (argsL := []) (rest := []) (lenOf own_pd12 rfl) rfl (by show 2 * 0 + _ ≤ _; exact Nat.le_of_eq rfl) (hb hby at_406) (fun _ _ => ⟨rfl, rfl, (by decide : 3 + 0 ≤ _), (by decide : 23 + 0 ≤ _)⟩)
    dsimp only [Pt.U, Pt.locs, Pt.cells, Pt.slots] at X499 l499 y499 z499 st499 hQ499
    subst l499 y499 z499
    obtain ⟨rfl, N499q, e499⟩ := hQ499
    have N499 := Fr.app N493 N499q
    refine own_go (S' := T499.setTop (mkF m 409 #[.val (.int p0), .val (.int p1), .val (.int p2), .val (.int p3), .val (.int p4), .val (.int fl), .val (.int (Int32.ofNat f)), .val (.int (Int32.ofNat l3)), .val (.ref b378), .val (.int (Int32.ofNat E)), .val (.int (Int32.ofNat T1)), .val (.int (Int32.ofNat T2)), .val (.int asc), .val (.ref b411), .val (.int adj), .val (.int (Int32.ofNat PT)), .val (.ref b463), .val (.int got), .val (.int (1 : Int32)), .unset] [(.int (0 : Int32))])) (fun _ k => st499.trans k) ?_
    refine own_go (S' := T499.setTop (mkF m 414 #[.val (.int p0), .val (.int p1), .val (.int p2), .val (.int p3), .val (.int p4), .val (.int fl), .val (.int (Int32.ofNat f)), .val (.int (Int32.ofNat l3)), .val (.ref b378), .val (.int (Int32.ofNat E)), .val (.int (Int32.ofNat T1)), .val (.int (Int32.ofNat T2)), .val (.int asc), .val (.ref b411), .val (.int adj), .val (.int (Int32.ofNat PT)), .val (.ref b463), .val (.int got), .val (.int (1 : Int32)), .unset] [(.ref b463)])) (fun target kt => ?_) ?_
    · skip
      show Steps p.tables e below (T499.setTop (mkF m 409 #[.val (.int p0), .val (.int p1), .val (.int p2), .val (.int p3), .val (.int p4), .val (.int fl), .val (.int (Int32.ofNat f)), .val (.int (Int32.ofNat l3)), .val (.ref b378), .val (.int (Int32.ofNat E)), .val (.int (Int32.ofNat T1)), .val (.int (Int32.ofNat T2)), .val (.int asc), .val (.ref b411), .val (.int adj), .val (.int (Int32.ofNat PT)), .val (.ref b463), .val (.int got), .val (.int (1 : Int32)), .unset] [(.int (0 : Int32))])) _
      refine XS.ifNo X499.here hx rfl (hb hby at_409) rfl ((if0 _ _).trans (teq (by decide : (0 : Int32) = (0 : Int32))).2) ?_
      show Steps p.tables e below (T499.setTop (mkF m 412 #[.val (.int p0), .val (.int p1), .val (.int p2), .val (.int p3), .val (.int p4), .val (.int fl), .val (.int (Int32.ofNat f)), .val (.int (Int32.ofNat l3)), .val (.ref b378), .val (.int (Int32.ofNat E)), .val (.int (Int32.ofNat T1)), .val (.int (Int32.ofNat T2)), .val (.int asc), .val (.ref b411), .val (.int adj), .val (.int (Int32.ofNat PT)), .val (.ref b463), .val (.int got), .val (.int (1 : Int32)), .unset] [])) _
      refine XS.aload X499.here hx rfl (hb hby at_412) rfl rfl ?_
      exact kt
    obtain ⟨cq500, kq500, q500a, q500b, q500c⟩ := isOf hZ e499 f493_0
    obtain ⟨_, _, ⟨T500, L500, k500, n500⟩, -, X500, ⟨Lc500, hQ500, l500, y500, z500⟩, st500⟩ := X499.virtualBack hx (y := (⟨"com/example/long_walk/longwalk/EdgeListLine", "sourceEnd", "()I"⟩ : MethodName)) (z := (⟨"com/example/long_walk/longwalk/EdgeListLine", "sourceEnd", "()I"⟩ : MethodName)) hown (mvT hZ (hw _ (List.mem_of_getElem? (i := 67) rfl))) (mvT hZ (hw _ (List.mem_of_getElem? (i := 68) rfl))) (notFace_of_selects (args := #[]) (mvT hZ (hw _ (List.mem_of_getElem? (i := 70) rfl)))) (mvT hZ (hw _ (List.mem_of_getElem? (i := 70) rfl))) (mvT hZ (hw _ (List.mem_of_getElem? (i := 69) rfl))) (by decide) (backOf (W := 0) (rm14 l Z aZ hw [] b463 (1 : Int32) T493.heap n0 Z493 f493_2) hZ (hw _ (List.mem_of_getElem? (i := 71) rfl)) (hw _ (List.mem_of_getElem? (i := 21) rfl)) (by decide) (by decide)) q500a q500c (g := (mkF m 414 #[.val (.int p0), .val (.int p1), .val (.int p2), .val (.int p3), .val (.int p4), .val (.int fl), .val (.int (Int32.ofNat f)), .val (.int (Int32.ofNat l3)), .val (.ref b378), .val (.int (Int32.ofNat E)), .val (.int (Int32.ofNat T1)), .val (.int (Int32.ofNat T2)), .val (.int asc), .val (.ref b411), .val (.int adj), .val (.int (Int32.ofNat PT)), .val (.ref b463), .val (.int got), .val (.int (1 : Int32)), .unset] [(.ref b463)])) rfl (by rw [hml]; rfl) (Steps.refl _) (argsL := []) (rest := []) (lenOf own_pd12 rfl) rfl (by show 2 * 0 + _ ≤ _; exact Nat.le_of_eq rfl) (hb hby at_414) (fun _ _ => ⟨rfl, e499, (by decide : 3 + 0 ≤ _), (by decide : 23 + 0 ≤ _)⟩)
    dsimp only [Pt.U, Pt.locs, Pt.cells, Pt.slots] at X500 l500 y500 z500 st500 hQ500
    subst l500 y500 z500
    obtain ⟨rfl, N500q, e500⟩ := hQ500
    have N500 := Fr.app N499 N500q
    refine own_go (S' := T500.setTop (mkF m 417 #[.val (.int p0), .val (.int p1), .val (.int p2), .val (.int p3), .val (.int p4), .val (.int fl), .val (.int (Int32.ofNat f)), .val (.int (Int32.ofNat l3)), .val (.ref b378), .val (.int (Int32.ofNat E)), .val (.int (Int32.ofNat T1)), .val (.int (Int32.ofNat T2)), .val (.int asc), .val (.ref b411), .val (.int adj), .val (.int (Int32.ofNat PT)), .val (.ref b463), .val (.int got), .val (.int (1 : Int32)), .unset] [(.int (1 : Int32))])) (fun _ k => st500.trans k) ?_
    refine own_go (S' := T500.setTop (mkF m 423 #[.val (.int p0), .val (.int p1), .val (.int p2), .val (.int p3), .val (.int p4), .val (.int fl), .val (.int (Int32.ofNat f)), .val (.int (Int32.ofNat l3)), .val (.ref b378), .val (.int (Int32.ofNat E)), .val (.int (Int32.ofNat T1)), .val (.int (Int32.ofNat T2)), .val (.int asc), .val (.ref b411), .val (.int adj), .val (.int (Int32.ofNat PT)), .val (.ref b463), .val (.int got), .val (.int (1 : Int32)), .unset] [(.ref b463)])) (fun target kt => ?_) ?_
    · skip
      show Steps p.tables e below (T500.setTop (mkF m 417 #[.val (.int p0), .val (.int p1), .val (.int p2), .val (.int p3), .val (.int p4), .val (.int fl), .val (.int (Int32.ofNat f)), .val (.int (Int32.ofNat l3)), .val (.ref b378), .val (.int (Int32.ofNat E)), .val (.int (Int32.ofNat T1)), .val (.int (Int32.ofNat T2)), .val (.int asc), .val (.ref b411), .val (.int adj), .val (.int (Int32.ofNat PT)), .val (.ref b463), .val (.int got), .val (.int (1 : Int32)), .unset] [(.int (1 : Int32))])) _
      refine XS.iconst X500.here hx rfl (hb hby at_417) ?_
      show Steps p.tables e below (T500.setTop (mkF m 418 #[.val (.int p0), .val (.int p1), .val (.int p2), .val (.int p3), .val (.int p4), .val (.int fl), .val (.int (Int32.ofNat f)), .val (.int (Int32.ofNat l3)), .val (.ref b378), .val (.int (Int32.ofNat E)), .val (.int (Int32.ofNat T1)), .val (.int (Int32.ofNat T2)), .val (.int asc), .val (.ref b411), .val (.int adj), .val (.int (Int32.ofNat PT)), .val (.ref b463), .val (.int got), .val (.int (1 : Int32)), .unset] [(.int (1 : Int32)), (.int (1 : Int32))])) _
      refine XS.icmpNo X500.here hx rfl (hb hby at_418) rfl (teq (by decide : (1 : Int32) = (1 : Int32))).2 ?_
      show Steps p.tables e below (T500.setTop (mkF m 421 #[.val (.int p0), .val (.int p1), .val (.int p2), .val (.int p3), .val (.int p4), .val (.int fl), .val (.int (Int32.ofNat f)), .val (.int (Int32.ofNat l3)), .val (.ref b378), .val (.int (Int32.ofNat E)), .val (.int (Int32.ofNat T1)), .val (.int (Int32.ofNat T2)), .val (.int asc), .val (.ref b411), .val (.int adj), .val (.int (Int32.ofNat PT)), .val (.ref b463), .val (.int got), .val (.int (1 : Int32)), .unset] [])) _
      refine XS.aload X500.here hx rfl (hb hby at_421) rfl rfl ?_
      exact kt
    obtain ⟨cq501, kq501, q501a, q501b, q501c⟩ := isOf hZ e500 f493_0
    obtain ⟨_, _, ⟨T501, L501, k501, n501⟩, -, X501, ⟨Lc501, hQ501, l501, y501, z501⟩, st501⟩ := X500.virtualBack hx (y := (⟨"com/example/long_walk/longwalk/EdgeListLine", "targetStart", "()I"⟩ : MethodName)) (z := (⟨"com/example/long_walk/longwalk/EdgeListLine", "targetStart", "()I"⟩ : MethodName)) hown (mvT hZ (hw _ (List.mem_of_getElem? (i := 72) rfl))) (mvT hZ (hw _ (List.mem_of_getElem? (i := 73) rfl))) (notFace_of_selects (args := #[]) (mvT hZ (hw _ (List.mem_of_getElem? (i := 75) rfl)))) (mvT hZ (hw _ (List.mem_of_getElem? (i := 75) rfl))) (mvT hZ (hw _ (List.mem_of_getElem? (i := 74) rfl))) (by decide) (backOf (W := 0) (rm15 l Z aZ hw [] b463 (3 : Int32) T493.heap n0 Z493 f493_3) hZ (hw _ (List.mem_of_getElem? (i := 76) rfl)) (hw _ (List.mem_of_getElem? (i := 21) rfl)) (by decide) (by decide)) q501a q501c (g := (mkF m 423 #[.val (.int p0), .val (.int p1), .val (.int p2), .val (.int p3), .val (.int p4), .val (.int fl), .val (.int (Int32.ofNat f)), .val (.int (Int32.ofNat l3)), .val (.ref b378), .val (.int (Int32.ofNat E)), .val (.int (Int32.ofNat T1)), .val (.int (Int32.ofNat T2)), .val (.int asc), .val (.ref b411), .val (.int adj), .val (.int (Int32.ofNat PT)), .val (.ref b463), .val (.int got), .val (.int (1 : Int32)), .unset] [(.ref b463)])) rfl (by rw [hml]; rfl) (Steps.refl _) (argsL := []) (rest := []) (lenOf own_pd12 rfl) rfl (by show 2 * 0 + _ ≤ _; exact Nat.le_of_eq rfl) (hb hby at_423) (fun _ _ => ⟨rfl, e500, (by decide : 3 + 0 ≤ _), (by decide : 23 + 0 ≤ _)⟩)
    dsimp only [Pt.U, Pt.locs, Pt.cells, Pt.slots] at X501 l501 y501 z501 st501 hQ501
    subst l501 y501 z501
    obtain ⟨rfl, N501q, e501⟩ := hQ501
    have N501 := Fr.app N500 N501q
    refine own_go (S' := T501.setTop (mkF m 426 #[.val (.int p0), .val (.int p1), .val (.int p2), .val (.int p3), .val (.int p4), .val (.int fl), .val (.int (Int32.ofNat f)), .val (.int (Int32.ofNat l3)), .val (.ref b378), .val (.int (Int32.ofNat E)), .val (.int (Int32.ofNat T1)), .val (.int (Int32.ofNat T2)), .val (.int asc), .val (.ref b411), .val (.int adj), .val (.int (Int32.ofNat PT)), .val (.ref b463), .val (.int got), .val (.int (1 : Int32)), .unset] [(.int (3 : Int32))])) (fun _ k => st501.trans k) ?_
    refine own_go (S' := T501.setTop (mkF m 432 #[.val (.int p0), .val (.int p1), .val (.int p2), .val (.int p3), .val (.int p4), .val (.int fl), .val (.int (Int32.ofNat f)), .val (.int (Int32.ofNat l3)), .val (.ref b378), .val (.int (Int32.ofNat E)), .val (.int (Int32.ofNat T1)), .val (.int (Int32.ofNat T2)), .val (.int asc), .val (.ref b411), .val (.int adj), .val (.int (Int32.ofNat PT)), .val (.ref b463), .val (.int got), .val (.int (1 : Int32)), .unset] [(.ref b463)])) (fun target kt => ?_) ?_
    · skip
      show Steps p.tables e below (T501.setTop (mkF m 426 #[.val (.int p0), .val (.int p1), .val (.int p2), .val (.int p3), .val (.int p4), .val (.int fl), .val (.int (Int32.ofNat f)), .val (.int (Int32.ofNat l3)), .val (.ref b378), .val (.int (Int32.ofNat E)), .val (.int (Int32.ofNat T1)), .val (.int (Int32.ofNat T2)), .val (.int asc), .val (.ref b411), .val (.int adj), .val (.int (Int32.ofNat PT)), .val (.ref b463), .val (.int got), .val (.int (1 : Int32)), .unset] [(.int (3 : Int32))])) _
      refine XS.iconst X501.here hx rfl (hb hby at_426) ?_
      show Steps p.tables e below (T501.setTop (mkF m 427 #[.val (.int p0), .val (.int p1), .val (.int p2), .val (.int p3), .val (.int p4), .val (.int fl), .val (.int (Int32.ofNat f)), .val (.int (Int32.ofNat l3)), .val (.ref b378), .val (.int (Int32.ofNat E)), .val (.int (Int32.ofNat T1)), .val (.int (Int32.ofNat T2)), .val (.int asc), .val (.ref b411), .val (.int adj), .val (.int (Int32.ofNat PT)), .val (.ref b463), .val (.int got), .val (.int (1 : Int32)), .unset] [(.int (3 : Int32)), (.int (3 : Int32))])) _
      refine XS.icmpNo X501.here hx rfl (hb hby at_427) rfl (teq (by decide : (3 : Int32) = (3 : Int32))).2 ?_
      show Steps p.tables e below (T501.setTop (mkF m 430 #[.val (.int p0), .val (.int p1), .val (.int p2), .val (.int p3), .val (.int p4), .val (.int fl), .val (.int (Int32.ofNat f)), .val (.int (Int32.ofNat l3)), .val (.ref b378), .val (.int (Int32.ofNat E)), .val (.int (Int32.ofNat T1)), .val (.int (Int32.ofNat T2)), .val (.int asc), .val (.ref b411), .val (.int adj), .val (.int (Int32.ofNat PT)), .val (.ref b463), .val (.int got), .val (.int (1 : Int32)), .unset] [])) _
      refine XS.aload X501.here hx rfl (hb hby at_430) rfl rfl ?_
      exact kt
    obtain ⟨cq502, kq502, q502a, q502b, q502c⟩ := isOf hZ e501 f493_0
    obtain ⟨_, _, ⟨T502, L502, k502, n502⟩, -, X502, ⟨Lc502, hQ502, l502, y502, z502⟩, st502⟩ := X501.virtualBack hx (y := (⟨"com/example/long_walk/longwalk/EdgeListLine", "targetEnd", "()I"⟩ : MethodName)) (z := (⟨"com/example/long_walk/longwalk/EdgeListLine", "targetEnd", "()I"⟩ : MethodName)) hown (mvT hZ (hw _ (List.mem_of_getElem? (i := 77) rfl))) (mvT hZ (hw _ (List.mem_of_getElem? (i := 78) rfl))) (notFace_of_selects (args := #[]) (mvT hZ (hw _ (List.mem_of_getElem? (i := 80) rfl)))) (mvT hZ (hw _ (List.mem_of_getElem? (i := 80) rfl))) (mvT hZ (hw _ (List.mem_of_getElem? (i := 79) rfl))) (by decide) (backOf (W := 0) (rm16 l Z aZ hw [] b463 (Int32.ofNat PT) T493.heap n0 Z493 f493_4) hZ (hw _ (List.mem_of_getElem? (i := 81) rfl)) (hw _ (List.mem_of_getElem? (i := 21) rfl)) (by decide) (by decide)) q502a q502c (g := (mkF m 432 #[.val (.int p0), .val (.int p1), .val (.int p2), .val (.int p3), .val (.int p4), .val (.int fl), .val (.int (Int32.ofNat f)), .val (.int (Int32.ofNat l3)), .val (.ref b378), .val (.int (Int32.ofNat E)), .val (.int (Int32.ofNat T1)), .val (.int (Int32.ofNat T2)), .val (.int asc), .val (.ref b411), .val (.int adj), .val (.int (Int32.ofNat PT)), .val (.ref b463), .val (.int got), .val (.int (1 : Int32)), .unset] [(.ref b463)])) rfl (by rw [hml]; rfl) (Steps.refl _) (argsL := []) (rest := []) (lenOf own_pd12 rfl) rfl (by show 2 * 0 + _ ≤ _; exact Nat.le_of_eq rfl) (hb hby at_432) (fun _ _ => ⟨rfl, e501, (by decide : 3 + 0 ≤ _), (by decide : 23 + 0 ≤ _)⟩)
    dsimp only [Pt.U, Pt.locs, Pt.cells, Pt.slots] at X502 l502 y502 z502 st502 hQ502
    subst l502 y502 z502
    obtain ⟨rfl, N502q, e502⟩ := hQ502
    have N502 := Fr.app N501 N502q
    refine own_go (S' := T502.setTop (mkF m 435 #[.val (.int p0), .val (.int p1), .val (.int p2), .val (.int p3), .val (.int p4), .val (.int fl), .val (.int (Int32.ofNat f)), .val (.int (Int32.ofNat l3)), .val (.ref b378), .val (.int (Int32.ofNat E)), .val (.int (Int32.ofNat T1)), .val (.int (Int32.ofNat T2)), .val (.int asc), .val (.ref b411), .val (.int adj), .val (.int (Int32.ofNat PT)), .val (.ref b463), .val (.int got), .val (.int (1 : Int32)), .unset] [(.int (Int32.ofNat PT))])) (fun _ k => st502.trans k) ?_
    refine own_go (S' := T502.setTop (mkF m 469 #[.val (.int p0), .val (.int p1), .val (.int p2), .val (.int p3), .val (.int p4), .val (.int fl), .val (.int (Int32.ofNat f)), .val (.int (Int32.ofNat l3)), .val (.ref b378), .val (.int (Int32.ofNat E)), .val (.int (Int32.ofNat T1)), .val (.int (Int32.ofNat T2)), .val (.int asc), .val (.ref b411), .val (.int adj), .val (.int (Int32.ofNat PT)), .val (.ref b463), .val (.int got), .val (.int (1 : Int32)), .val (.int (1 : Int32))] [(.int (1 : Int32))])) (fun target kt => ?_) ?_
    · skip
      show Steps p.tables e below (T502.setTop (mkF m 435 #[.val (.int p0), .val (.int p1), .val (.int p2), .val (.int p3), .val (.int p4), .val (.int fl), .val (.int (Int32.ofNat f)), .val (.int (Int32.ofNat l3)), .val (.ref b378), .val (.int (Int32.ofNat E)), .val (.int (Int32.ofNat T1)), .val (.int (Int32.ofNat T2)), .val (.int asc), .val (.ref b411), .val (.int adj), .val (.int (Int32.ofNat PT)), .val (.ref b463), .val (.int got), .val (.int (1 : Int32)), .unset] [(.int (Int32.ofNat PT))])) _
      refine XS.iload X502.here hx rfl (hb hby at_435) rfl ?_
      show Steps p.tables e below (T502.setTop (mkF m 437 #[.val (.int p0), .val (.int p1), .val (.int p2), .val (.int p3), .val (.int p4), .val (.int fl), .val (.int (Int32.ofNat f)), .val (.int (Int32.ofNat l3)), .val (.ref b378), .val (.int (Int32.ofNat E)), .val (.int (Int32.ofNat T1)), .val (.int (Int32.ofNat T2)), .val (.int asc), .val (.ref b411), .val (.int adj), .val (.int (Int32.ofNat PT)), .val (.ref b463), .val (.int got), .val (.int (1 : Int32)), .unset] [(.int (Int32.ofNat PT)), (.int (Int32.ofNat PT))])) _
      refine XS.icmpNo X502.here hx rfl (hb hby at_437) rfl (teq (rfl : (Int32.ofNat PT) = (Int32.ofNat PT))).2 ?_
      show Steps p.tables e below (T502.setTop (mkF m 440 #[.val (.int p0), .val (.int p1), .val (.int p2), .val (.int p3), .val (.int p4), .val (.int fl), .val (.int (Int32.ofNat f)), .val (.int (Int32.ofNat l3)), .val (.ref b378), .val (.int (Int32.ofNat E)), .val (.int (Int32.ofNat T1)), .val (.int (Int32.ofNat T2)), .val (.int asc), .val (.ref b411), .val (.int adj), .val (.int (Int32.ofNat PT)), .val (.ref b463), .val (.int got), .val (.int (1 : Int32)), .unset] [])) _
      refine XS.iconst X502.here hx rfl (hb hby at_440) ?_
      show Steps p.tables e below (T502.setTop (mkF m 441 #[.val (.int p0), .val (.int p1), .val (.int p2), .val (.int p3), .val (.int p4), .val (.int fl), .val (.int (Int32.ofNat f)), .val (.int (Int32.ofNat l3)), .val (.ref b378), .val (.int (Int32.ofNat E)), .val (.int (Int32.ofNat T1)), .val (.int (Int32.ofNat T2)), .val (.int asc), .val (.ref b411), .val (.int adj), .val (.int (Int32.ofNat PT)), .val (.ref b463), .val (.int got), .val (.int (1 : Int32)), .unset] [(.int (1 : Int32))])) _
      refine XS.goto X502.here hx rfl (pc0 := 441) (pc' := 445) rfl (hb hby at_441) (by decide) (by decide) ?_
      show Steps p.tables e below (T502.setTop (mkF m 445 #[.val (.int p0), .val (.int p1), .val (.int p2), .val (.int p3), .val (.int p4), .val (.int fl), .val (.int (Int32.ofNat f)), .val (.int (Int32.ofNat l3)), .val (.ref b378), .val (.int (Int32.ofNat E)), .val (.int (Int32.ofNat T1)), .val (.int (Int32.ofNat T2)), .val (.int asc), .val (.ref b411), .val (.int adj), .val (.int (Int32.ofNat PT)), .val (.ref b463), .val (.int got), .val (.int (1 : Int32)), .unset] [(.int (1 : Int32))])) _
      refine XS.istore X502.here hx rfl (hb hby at_445) rfl (l' := #[.val (.int p0), .val (.int p1), .val (.int p2), .val (.int p3), .val (.int p4), .val (.int fl), .val (.int (Int32.ofNat f)), .val (.int (Int32.ofNat l3)), .val (.ref b378), .val (.int (Int32.ofNat E)), .val (.int (Int32.ofNat T1)), .val (.int (Int32.ofNat T2)), .val (.int asc), .val (.ref b411), .val (.int adj), .val (.int (Int32.ofNat PT)), .val (.ref b463), .val (.int got), .val (.int (1 : Int32)), .val (.int (1 : Int32))]) rfl ?_
      show Steps p.tables e below (T502.setTop (mkF m 447 #[.val (.int p0), .val (.int p1), .val (.int p2), .val (.int p3), .val (.int p4), .val (.int fl), .val (.int (Int32.ofNat f)), .val (.int (Int32.ofNat l3)), .val (.ref b378), .val (.int (Int32.ofNat E)), .val (.int (Int32.ofNat T1)), .val (.int (Int32.ofNat T2)), .val (.int asc), .val (.ref b411), .val (.int adj), .val (.int (Int32.ofNat PT)), .val (.ref b463), .val (.int got), .val (.int (1 : Int32)), .val (.int (1 : Int32))] [])) _
      refine XS.iload X502.here hx rfl (hb hby at_447) rfl ?_
      show Steps p.tables e below (T502.setTop (mkF m 449 #[.val (.int p0), .val (.int p1), .val (.int p2), .val (.int p3), .val (.int p4), .val (.int fl), .val (.int (Int32.ofNat f)), .val (.int (Int32.ofNat l3)), .val (.ref b378), .val (.int (Int32.ofNat E)), .val (.int (Int32.ofNat T1)), .val (.int (Int32.ofNat T2)), .val (.int asc), .val (.ref b411), .val (.int adj), .val (.int (Int32.ofNat PT)), .val (.ref b463), .val (.int got), .val (.int (1 : Int32)), .val (.int (1 : Int32))] [(.int got)])) _
      refine XS.iload X502.here hx rfl (hb hby at_449) rfl ?_
      show Steps p.tables e below (T502.setTop (mkF m 451 #[.val (.int p0), .val (.int p1), .val (.int p2), .val (.int p3), .val (.int p4), .val (.int fl), .val (.int (Int32.ofNat f)), .val (.int (Int32.ofNat l3)), .val (.ref b378), .val (.int (Int32.ofNat E)), .val (.int (Int32.ofNat T1)), .val (.int (Int32.ofNat T2)), .val (.int asc), .val (.ref b411), .val (.int adj), .val (.int (Int32.ofNat PT)), .val (.ref b463), .val (.int got), .val (.int (1 : Int32)), .val (.int (1 : Int32))] [(.int (Int32.ofNat E)), (.int got)])) _
      refine XS.icmpNo X502.here hx rfl (hb hby at_451) rfl (teq (hres.1 : got = (Int32.ofNat E))).2 ?_
      show Steps p.tables e below (T502.setTop (mkF m 454 #[.val (.int p0), .val (.int p1), .val (.int p2), .val (.int p3), .val (.int p4), .val (.int fl), .val (.int (Int32.ofNat f)), .val (.int (Int32.ofNat l3)), .val (.ref b378), .val (.int (Int32.ofNat E)), .val (.int (Int32.ofNat T1)), .val (.int (Int32.ofNat T2)), .val (.int asc), .val (.ref b411), .val (.int adj), .val (.int (Int32.ofNat PT)), .val (.ref b463), .val (.int got), .val (.int (1 : Int32)), .val (.int (1 : Int32))] [])) _
      refine XS.iload X502.here hx rfl (hb hby at_454) rfl ?_
      show Steps p.tables e below (T502.setTop (mkF m 456 #[.val (.int p0), .val (.int p1), .val (.int p2), .val (.int p3), .val (.int p4), .val (.int fl), .val (.int (Int32.ofNat f)), .val (.int (Int32.ofNat l3)), .val (.ref b378), .val (.int (Int32.ofNat E)), .val (.int (Int32.ofNat T1)), .val (.int (Int32.ofNat T2)), .val (.int asc), .val (.ref b411), .val (.int adj), .val (.int (Int32.ofNat PT)), .val (.ref b463), .val (.int got), .val (.int (1 : Int32)), .val (.int (1 : Int32))] [(.int (1 : Int32))])) _
      refine XS.ifNo X502.here hx rfl (hb hby at_456) rfl ((if0 _ _).trans (feq (by decide : ¬ ((1 : Int32) = (0 : Int32)))).1) ?_
      show Steps p.tables e below (T502.setTop (mkF m 459 #[.val (.int p0), .val (.int p1), .val (.int p2), .val (.int p3), .val (.int p4), .val (.int fl), .val (.int (Int32.ofNat f)), .val (.int (Int32.ofNat l3)), .val (.ref b378), .val (.int (Int32.ofNat E)), .val (.int (Int32.ofNat T1)), .val (.int (Int32.ofNat T2)), .val (.int asc), .val (.ref b411), .val (.int adj), .val (.int (Int32.ofNat PT)), .val (.ref b463), .val (.int got), .val (.int (1 : Int32)), .val (.int (1 : Int32))] [])) _
      refine XS.iload X502.here hx rfl (hb hby at_459) rfl ?_
      show Steps p.tables e below (T502.setTop (mkF m 461 #[.val (.int p0), .val (.int p1), .val (.int p2), .val (.int p3), .val (.int p4), .val (.int fl), .val (.int (Int32.ofNat f)), .val (.int (Int32.ofNat l3)), .val (.ref b378), .val (.int (Int32.ofNat E)), .val (.int (Int32.ofNat T1)), .val (.int (Int32.ofNat T2)), .val (.int asc), .val (.ref b411), .val (.int adj), .val (.int (Int32.ofNat PT)), .val (.ref b463), .val (.int got), .val (.int (1 : Int32)), .val (.int (1 : Int32))] [(.int (1 : Int32))])) _
      refine XS.ifNo X502.here hx rfl (hb hby at_461) rfl ((if0 _ _).trans (feq (by decide : ¬ ((1 : Int32) = (0 : Int32)))).1) ?_
      show Steps p.tables e below (T502.setTop (mkF m 464 #[.val (.int p0), .val (.int p1), .val (.int p2), .val (.int p3), .val (.int p4), .val (.int fl), .val (.int (Int32.ofNat f)), .val (.int (Int32.ofNat l3)), .val (.ref b378), .val (.int (Int32.ofNat E)), .val (.int (Int32.ofNat T1)), .val (.int (Int32.ofNat T2)), .val (.int asc), .val (.ref b411), .val (.int adj), .val (.int (Int32.ofNat PT)), .val (.ref b463), .val (.int got), .val (.int (1 : Int32)), .val (.int (1 : Int32))] [])) _
      refine XS.iconst X502.here hx rfl (hb hby at_464) ?_
      show Steps p.tables e below (T502.setTop (mkF m 465 #[.val (.int p0), .val (.int p1), .val (.int p2), .val (.int p3), .val (.int p4), .val (.int fl), .val (.int (Int32.ofNat f)), .val (.int (Int32.ofNat l3)), .val (.ref b378), .val (.int (Int32.ofNat E)), .val (.int (Int32.ofNat T1)), .val (.int (Int32.ofNat T2)), .val (.int asc), .val (.ref b411), .val (.int adj), .val (.int (Int32.ofNat PT)), .val (.ref b463), .val (.int got), .val (.int (1 : Int32)), .val (.int (1 : Int32))] [(.int (1 : Int32))])) _
      refine XS.goto X502.here hx rfl (pc0 := 465) (pc' := 469) rfl (hb hby at_465) (by decide) (by decide) ?_
      exact kt
    obtain ⟨fs, hr, hrun, hended, hW, hsame⟩ := X502.leave (v := some (.int (1 : Int32))) (fun h => by rw [Bd.returns] at h; cases h)
    refine ⟨_, _, ?_, hrun, hended, _, _, rfl, ?_, ⟨_, rfl⟩, hW, hsame.mono (by decide) (by decide)⟩
    · exact retN X502 hx (t := .boolean) Bd.returns (by simp) (hb hby at_469) hr
    · show Q0 Z p0 p1 p2 p3 p4 h0 n0 _ T502.heap _
      rw [e502]
      exact ⟨rfl, N502⟩
set_option maxRecDepth 65536 in
set_option maxHeartbeats 40000000 in
theorem comes_1 {Post : Tables → Env → Array Value → State → Outcome → State → Prop} (hpost : ∀ tb e args s v u, (limb_1_1.after args s (.returned v) u = true ∧ limb_1_2.after args s (.returned v) u = true) → FrameEnd s (.returned v) u (Jvm.fieldLocs frame_1_writes args s ++ Jvm.arrayLocs frame_1_arrays args s ++ Jvm.staticLocs frame_1_statics s) 16 128 → Post tb e args s (.returned v) u) :
    ArmFor flags0 classFile x code maxLocals ret World_1 tables_1 room_1 Calls_1 rest_1 Pre_1 Post := by
  intro l hfl _ _ p e ha hc hk s m args below hf hA hF happ hP
  obtain ⟨hcalls, hrest, hpre⟩ := hP
  obtain ⟨-, -, -, hnamed, -, -, -, hat⟩ := (Spec.applies_iff hf).mp happ
  obtain ⟨hg, hn⟩ := and_e (Cond.before_iff.mp (show (Jvm.Cond.and given_1 narrow_1).before args s = true from hpre))
  obtain ⟨hg1, hg2⟩ := and_e hg
  obtain ⟨hg3, hg4⟩ := and_e hg2
  obtain ⟨hg5, hg6⟩ := and_e hg4
  obtain ⟨hg7, hg8⟩ := and_e hg6
  obtain ⟨hg9, hg10⟩ := and_e hg8
  obtain ⟨w0, w1, w2, w3, w4, rfl⟩ : ∃ w0 w1 w2 w3 w4 : Value, args = #[w0, w1, w2, w3, w4] := by
    have hs : args.size = 5 := by simpa [Cond.value, given_1] using hg1
    obtain ⟨L⟩ := args
    match L, hs with
    | [w0, w1, w2, w3, w4], _ => exact ⟨w0, w1, w2, w3, w4, rfl⟩
  have hw := fun d (hd : d ∈ tables_1) => atoms_spec (ws := Jvm.Cond.code x code maxLocals ret :: tables_1) hat d (List.mem_cons_of_mem _ hd)
  obtain ⟨i0, ei0⟩ := is_v hg3
  obtain rfl : w0 = (.int i0) := Option.some.inj ei0
  obtain ⟨i1, ei1⟩ := is_v hg5
  obtain rfl : w1 = (.int i1) := Option.some.inj ei1
  obtain ⟨i2, ei2⟩ := is_v hg7
  obtain rfl : w2 = (.int i2) := Option.some.inj ei2
  obtain ⟨i3, ei3⟩ := is_v hg9
  obtain rfl : w3 = (.int i3) := Option.some.inj ei3
  obtain ⟨i4, ei4⟩ := is_v hg10
  obtain rfl : w4 = (.int i4) := Option.some.inj ei4
  obtain ⟨n, o, h1, h2, h3, _, L, rfl, ⟨rfl, N⟩, hq⟩ := rm0 l s _ hw tables_1 i0 i1 i2 i3 i4 s.heap s.heap.size (Nat.le_refl _)  p e ha hc hk s m _ below hf ((Spec.applies_iff_loose hf).mp happ).1 ⟨rfl, State.Warmed39.refl s, rfl⟩ trivial
  refine ⟨n, _, h1, h2, h3, hpost _ _ _ _ _ _ ⟨Cond.after_iff.mpr rfl, Cond.after_iff.mpr (eq_i res_at (Term.int_eval (1)) rfl)⟩ ⟨hq.1, hq.2.1, (hq.2.2.sift fun y hy => Or.inr (N y hy)).mono (by decide) (by decide)⟩⟩
theorem main_1_1 : Claimed_1_1 := comes_1 fun _ _ _ _ _ _ h hF => ⟨h.1, hF⟩
theorem main_1_2 : Claimed_1_2 := comes_1 fun _ _ _ _ _ _ h hF => ⟨h.2, hF⟩
end Jvm.Pilot.@@N@@
namespace Jvm.Pilot.@@N@@
open Jvm Jvm.ClassFile Sem Op Lib Jvm.Free Jvm.Stand Jvm.Pilot.@@N@@.Jvm.D
/-! MADE BY PROGRAM (witnessworld.py) out of the Statement's table words and the real class files: 12 classes; the members and pool entries that the words name. The judged class is class 1, her method 1. -/
namespace start1
open Jvm.ClassFile
def u (s : String) : CpInfo := .utf8 (stringToUtf16 s)
/-- a pool by its gaps: so many unusable entries, then the entry; so many at the end -/
def gap : Nat → List CpInfo → List CpInfo
  | 0, r => r
  | n + 1, r => .unusable :: gap n r
def poolList (es : List (Nat × CpInfo)) (last : Nat) : List CpInfo := es.foldr (fun e r => gap e.1 (e.2 :: r)) (gap last [])
def pool (es : List (Nat × CpInfo)) (last : Nat) : Array CpInfo := ⟨poolList es last⟩
def fileOf (pool : Array CpInfo) (this : Nat) (attrs : Array Attribute := #[]) (ms : Array MethodInfo := #[]) (fl : Nat := 33) (sup : Nat := 0) (ifs : Array Nat := #[]) (fds : Array FieldInfo := #[]) : ClassFile where
  minorVersion := 0
  majorVersion := 65
  constantPool := pool
  accessFlags := fl
  thisClass := this
  superClass := sup
  interfaces := ifs
  fields := fds
  methods := ms
  attributes := attrs
def plain (name : String) (sup : Option ClassId) : Class where
  name := name
  kind := .ordinary
  loader := none
  accessFlags := 33
  super := sup
  interfaces := #[]
  cf := none
  fields := #[]
  methods := #[]
  instanceTypes := #[]
  staticTypes := #[]
  resolved := #[]
  callSites := []
  init := .initialized
  statics := none
  mirror := none

def pool0 : Array CpInfo := pool [(5, u "<init>"), (0, u "()V"), (1, .class_ 10), (1, u "java/lang/Object")] 113

def k0c0 : Code := { maxStack := 0, maxLocals := 1, code := object_method_1_code, exceptionTable := #[], attributes := #[] }
def k0m0 : Method := { name := "<init>", desc := "()V", sig := { parameters := [], returnType := none }, accessFlags := 1, code := some k0c0 }
/-- java/lang/Object -/
def k0 : Class := { plain "java/lang/Object" none with
  accessFlags := 33
  interfaces := #[]
  cf := some (fileOf pool0 8 #[] #[{ accessFlags := 1, nameIndex := 5, descriptorIndex := 6, attributes := #[] }] 33 0 #[] #[])
  fields := #[]
  methods := #[k0m0]
  instanceTypes := #[]
  staticTypes := #[]
  resolved := Array.replicate 124 none
  statics := none }

def pool1 : Array CpInfo := pool [(2, .class_ 4), (0, .nameAndType 5 6), (0, u "java/lang/Object"), (0, u "<init>"), (0, u "()V"), (0, .integer 2147483647), (0, .methodref 9 10), (0, .class_ 11), (0, .nameAndType 12 13), (0, u "com/example/long_walk/longwalk/EdgeListLineScanPinLaw"), (0, u "draw"), (0, u "(III)B"), (0, .methodref 9 15), (0, .nameAndType 16 17), (0, u "firstIndex"), (0, u "([BIII)I"), (0, .methodref 19 20), (0, .class_ 21), (0, .nameAndType 22 23), (0, u "java/lang/Math"), (0, u "max"), (0, u "(II)I"), (0, .methodref 9 25), (0, .nameAndType 26 27), (0, u "neg"), (0, u "([BIII)Z"), (0, .class_ 29), (0, u "com/example/long_walk/longwalk/EdgeListLine"), (0, .methodref 28 3), (0, .methodref 28 32), (0, .nameAndType 33 34), (0, u "scan"), (0, u "([BIIZ)I"), (0, .methodref 28 36), (0, .nameAndType 37 38), (0, u "readScanned"), (0, u "([BIIJ)Z"), (0, .methodref 28 40), (0, .nameAndType 41 42), (0, u "sourceStart"), (0, u "()I"), (0, .methodref 28 44), (0, .nameAndType 45 42), (0, u "sourceEnd"), (0, .methodref 28 47), (0, .nameAndType 48 42), (0, u "targetStart"), (0, .methodref 28 50), (0, .nameAndType 51 42), (0, u "targetEnd"), (0, .methodref 19 53), (0, .nameAndType 54 23), (0, u "min"), (0, .methodref 9 56), (0, .nameAndType 57 58), (0, u "hit"), (0, u "([BIIII)Z"), (2, u "law"), (0, u "(IIIII)Z")] 8

def k1m0 : Method := { name := "<init>", desc := "()V", sig := { parameters := [], returnType := none }, accessFlags := 1, code := none }
def k1c1 : Code := { maxStack := 6, maxLocals := 20, code := code, exceptionTable := #[], attributes := #[] }
def k1m1 : Method := { name := "law", desc := "(IIIII)Z", sig := { parameters := [.int, .int, .int, .int, .int], returnType := some .boolean }, accessFlags := 9, code := some k1c1 }
def k1c2 : Code := { maxStack := 3, maxLocals := 4, code := method_3_code, exceptionTable := #[], attributes := #[] }
def k1m2 : Method := { name := "draw", desc := "(III)B", sig := { parameters := [.int, .int, .int], returnType := some .byte }, accessFlags := 10, code := some k1c2 }
def k1c3 : Code := { maxStack := 2, maxLocals := 5, code := method_4_code, exceptionTable := #[], attributes := #[] }
def k1m3 : Method := { name := "hit", desc := "([BIIII)Z", sig := { parameters := [(.array .byte), .int, .int, .int, .int], returnType := some .boolean }, accessFlags := 10, code := some k1c3 }
def k1c4 : Code := { maxStack := 2, maxLocals := 4, code := method_5_code, exceptionTable := #[], attributes := #[] }
def k1m4 : Method := { name := "neg", desc := "([BIII)Z", sig := { parameters := [(.array .byte), .int, .int, .int], returnType := some .boolean }, accessFlags := 10, code := some k1c4 }
def k1c5 : Code := { maxStack := 5, maxLocals := 5, code := method_6_code, exceptionTable := #[], attributes := #[] }
def k1m5 : Method := { name := "firstIndex", desc := "([BIII)I", sig := { parameters := [(.array .byte), .int, .int, .int], returnType := some .int }, accessFlags := 10, code := some k1c5 }
/-- com/example/long_walk/longwalk/EdgeListLineScanPinLaw -/
def k1 : Class := { plain "com/example/long_walk/longwalk/EdgeListLineScanPinLaw" (some 0) with
  accessFlags := 49
  interfaces := #[]
  cf := some (fileOf pool1 9 #[] #[{ accessFlags := 1, nameIndex := 5, descriptorIndex := 6, attributes := #[] }, { accessFlags := 9, nameIndex := 61, descriptorIndex := 62, attributes := #[] }, { accessFlags := 10, nameIndex := 12, descriptorIndex := 13, attributes := #[] }, { accessFlags := 10, nameIndex := 57, descriptorIndex := 58, attributes := #[] }, { accessFlags := 10, nameIndex := 26, descriptorIndex := 27, attributes := #[] }, { accessFlags := 10, nameIndex := 16, descriptorIndex := 17, attributes := #[] }] 49 2 #[] #[])
  fields := #[]
  methods := #[k1m0, k1m1, k1m2, k1m3, k1m4, k1m5]
  instanceTypes := #[]
  staticTypes := #[]
  resolved := Array.replicate 71 none
  statics := none }

def pool2 : Array CpInfo := pool [(1, .class_ 2), (0, u "java/lang/Math"), (1, .class_ 6), (1, u "java/lang/Object"), (0, u "<init>"), (0, u "()V"), (89, .class_ 100), (1, u "java/lang/Math$RandomNumberGeneratorHolder"), (71, u "negativeZeroFloatBits"), (0, u "J"), (2, u "negativeZeroDoubleBits"), (21, u "max"), (2, u "min"), (43, u "$assertionsDisabled"), (0, u "Z"), (88, u "(II)I"), (2, u "twoToTheDoubleScaleDown"), (0, u "D"), (4, u "twoToTheDoubleScaleUp"), (9, u "E"), (3, u "PI"), (2, u "TAU"), (2, u "DEGREES_TO_RADIANS"), (0, u "RADIANS_TO_DEGREES")] 94

def k2m0 : Method := { name := "<init>", desc := "()V", sig := { parameters := [], returnType := none }, accessFlags := 2, code := none }
def k2c1 : Code := { maxStack := 2, maxLocals := 2, code := jdk_29_method_65_code, exceptionTable := #[], attributes := #[] }
def k2m1 : Method := { name := "max", desc := "(II)I", sig := { parameters := [.int, .int], returnType := some .int }, accessFlags := 9, code := some k2c1 }
def k2c2 : Code := { maxStack := 2, maxLocals := 2, code := jdk_29_method_69_code, exceptionTable := #[], attributes := #[] }
def k2m2 : Method := { name := "min", desc := "(II)I", sig := { parameters := [.int, .int], returnType := some .int }, accessFlags := 9, code := some k2c2 }
/-- java/lang/Math -/
def k2 : Class := { plain "java/lang/Math" (some 0) with
  accessFlags := 49
  interfaces := #[]
  cf := some (fileOf pool2 1 #[.nestMembers #[98]] #[{ accessFlags := 2, nameIndex := 7, descriptorIndex := 8, attributes := #[] }, { accessFlags := 9, nameIndex := 198, descriptorIndex := 335, attributes := #[] }, { accessFlags := 9, nameIndex := 201, descriptorIndex := 335, attributes := #[] }] 49 4 #[] #[{ accessFlags := 25, nameIndex := 354, descriptorIndex := 339, attributes := #[] }, { accessFlags := 25, nameIndex := 358, descriptorIndex := 339, attributes := #[] }, { accessFlags := 25, nameIndex := 361, descriptorIndex := 339, attributes := #[] }, { accessFlags := 26, nameIndex := 364, descriptorIndex := 339, attributes := #[] }, { accessFlags := 26, nameIndex := 365, descriptorIndex := 339, attributes := #[] }, { accessFlags := 26, nameIndex := 172, descriptorIndex := 173, attributes := #[] }, { accessFlags := 26, nameIndex := 176, descriptorIndex := 173, attributes := #[] }, { accessFlags := 8, nameIndex := 344, descriptorIndex := 339, attributes := #[] }, { accessFlags := 8, nameIndex := 338, descriptorIndex := 339, attributes := #[] }, { accessFlags := 4120, nameIndex := 245, descriptorIndex := 246, attributes := #[] }])
  fields := #[{ name := "E", type := .double, accessFlags := 25, slot := 0, constantValue := 0 }, { name := "PI", type := .double, accessFlags := 25, slot := 1, constantValue := 0 }, { name := "TAU", type := .double, accessFlags := 25, slot := 2, constantValue := 0 }, { name := "DEGREES_TO_RADIANS", type := .double, accessFlags := 26, slot := 3, constantValue := 0 }, { name := "RADIANS_TO_DEGREES", type := .double, accessFlags := 26, slot := 4, constantValue := 0 }, { name := "negativeZeroFloatBits", type := .long, accessFlags := 26, slot := 5, constantValue := 0 }, { name := "negativeZeroDoubleBits", type := .long, accessFlags := 26, slot := 6, constantValue := 0 }, { name := "twoToTheDoubleScaleUp", type := .double, accessFlags := 8, slot := 7, constantValue := 0 }, { name := "twoToTheDoubleScaleDown", type := .double, accessFlags := 8, slot := 8, constantValue := 0 }, { name := "$assertionsDisabled", type := .boolean, accessFlags := 4120, slot := 9, constantValue := 0 }]
  methods := #[k2m0, k2m1, k2m2]
  instanceTypes := #[]
  staticTypes := #[.double, .double, .double, .double, .double, .long, .long, .double, .double, .boolean]
  resolved := Array.replicate 460 none
  statics := none }

def pool3 : Array CpInfo := pool [(1, .methodref 2 3), (0, .class_ 4), (0, .nameAndType 5 6), (0, u "java/lang/Object"), (0, u "<init>"), (0, u "()V"), (7, .class_ 16), (1, u "com/example/long_walk/longwalk/EdgeListLine"), (0, u "scan"), (0, u "([BIIZ)I"), (2, u "readScanned"), (0, u "([BIIJ)Z"), (0, .fieldref 14 24), (0, .nameAndType 25 26), (0, u "firstTab"), (0, u "I"), (0, .fieldref 14 28), (0, .nameAndType 29 26), (0, u "secondTab"), (0, .fieldref 14 31), (0, .nameAndType 32 33), (0, u "ascii"), (0, u "Z"), (0, .methodref 35 36), (0, .class_ 37), (0, .nameAndType 38 39), (0, u "com/example/long_walk/longwalk/Utf8"), (0, u "firstInvalid"), (0, u "([BII)I"), (9, .methodref 14 50), (0, .nameAndType 51 39), (0, u "skipBlanks"), (0, .methodref 53 54), (0, .class_ 55), (0, .nameAndType 56 57), (0, u "java/lang/Math"), (0, u "min"), (0, u "(II)I"), (0, .methodref 14 59), (0, .nameAndType 60 61), (0, u "readTabSeparated"), (0, u "(IIIJ)V"), (0, .methodref 14 63), (0, .nameAndType 64 65), (0, u "readSpaceSeparated"), (0, u "([BIIJ)V"), (0, .fieldref 14 67), (0, .nameAndType 68 26), (0, u "sourceStart"), (0, .fieldref 14 70), (0, .nameAndType 71 26), (0, u "sourceEnd"), (0, .fieldref 14 73), (0, .nameAndType 74 26), (0, u "targetStart"), (0, .fieldref 14 76), (0, .nameAndType 77 26), (0, u "targetEnd"), (4, .methodref 83 84), (0, .class_ 85), (0, .nameAndType 86 87), (0, u "com/example/long_walk/longwalk/Bytes"), (0, u "find"), (0, u "([BIIB)I"), (2, u "LF"), (0, u "B"), (2, u "TAB"), (1, u "SPACE"), (1, u "COMMENT"), (8, u "()I")] 17

def k3c0 : Code := { maxStack := 1, maxLocals := 1, code := prog_7_method_1_code, exceptionTable := #[], attributes := #[] }
def k3m0 : Method := { name := "<init>", desc := "()V", sig := { parameters := [], returnType := none }, accessFlags := 1, code := some k3c0 }
def k3c1 : Code := { maxStack := 3, maxLocals := 9, code := prog_7_method_3_code, exceptionTable := #[], attributes := #[] }
def k3m1 : Method := { name := "scan", desc := "([BIIZ)I", sig := { parameters := [(.array .byte), .int, .int, .boolean], returnType := some .int }, accessFlags := 0, code := some k3c1 }
def k3c2 : Code := { maxStack := 6, maxLocals := 9, code := prog_7_method_4_code, exceptionTable := #[], attributes := #[] }
def k3m2 : Method := { name := "readScanned", desc := "([BIIJ)Z", sig := { parameters := [(.array .byte), .int, .int, .long], returnType := some .boolean }, accessFlags := 0, code := some k3c2 }
def k3c3 : Code := { maxStack := 1, maxLocals := 1, code := prog_7_method_5_code, exceptionTable := #[], attributes := #[] }
def k3m3 : Method := { name := "sourceStart", desc := "()I", sig := { parameters := [], returnType := some .int }, accessFlags := 1, code := some k3c3 }
def k3c4 : Code := { maxStack := 1, maxLocals := 1, code := prog_7_method_6_code, exceptionTable := #[], attributes := #[] }
def k3m4 : Method := { name := "sourceEnd", desc := "()I", sig := { parameters := [], returnType := some .int }, accessFlags := 1, code := some k3c4 }
def k3c5 : Code := { maxStack := 1, maxLocals := 1, code := prog_7_method_7_code, exceptionTable := #[], attributes := #[] }
def k3m5 : Method := { name := "targetStart", desc := "()I", sig := { parameters := [], returnType := some .int }, accessFlags := 1, code := some k3c5 }
def k3c6 : Code := { maxStack := 1, maxLocals := 1, code := prog_7_method_8_code, exceptionTable := #[], attributes := #[] }
def k3m6 : Method := { name := "targetEnd", desc := "()I", sig := { parameters := [], returnType := some .int }, accessFlags := 1, code := some k3c6 }
def k3c7 : Code := { maxStack := 5, maxLocals := 6, code := prog_7_method_9_code, exceptionTable := #[], attributes := #[] }
def k3m7 : Method := { name := "readTabSeparated", desc := "(IIIJ)V", sig := { parameters := [.int, .int, .int, .long], returnType := none }, accessFlags := 2, code := some k3c7 }
def k3c8 : Code := { maxStack := 5, maxLocals := 8, code := prog_7_method_10_code, exceptionTable := #[], attributes := #[] }
def k3m8 : Method := { name := "readSpaceSeparated", desc := "([BIIJ)V", sig := { parameters := [(.array .byte), .int, .int, .long], returnType := none }, accessFlags := 2, code := some k3c8 }
def k3c9 : Code := { maxStack := 2, maxLocals := 4, code := prog_7_method_11_code, exceptionTable := #[], attributes := #[] }
def k3m9 : Method := { name := "skipBlanks", desc := "([BII)I", sig := { parameters := [(.array .byte), .int, .int], returnType := some .int }, accessFlags := 10, code := some k3c9 }
/-- com/example/long_walk/longwalk/EdgeListLine -/
def k3 : Class := { plain "com/example/long_walk/longwalk/EdgeListLine" (some 0) with
  accessFlags := 49
  interfaces := #[]
  cf := some (fileOf pool3 14 #[] #[{ accessFlags := 1, nameIndex := 5, descriptorIndex := 6, attributes := #[] }, { accessFlags := 0, nameIndex := 17, descriptorIndex := 18, attributes := #[] }, { accessFlags := 0, nameIndex := 21, descriptorIndex := 22, attributes := #[] }, { accessFlags := 1, nameIndex := 68, descriptorIndex := 107, attributes := #[] }, { accessFlags := 1, nameIndex := 71, descriptorIndex := 107, attributes := #[] }, { accessFlags := 1, nameIndex := 74, descriptorIndex := 107, attributes := #[] }, { accessFlags := 1, nameIndex := 77, descriptorIndex := 107, attributes := #[] }, { accessFlags := 2, nameIndex := 60, descriptorIndex := 61, attributes := #[] }, { accessFlags := 2, nameIndex := 64, descriptorIndex := 65, attributes := #[] }, { accessFlags := 10, nameIndex := 51, descriptorIndex := 39, attributes := #[] }] 49 2 #[] #[{ accessFlags := 26, nameIndex := 90, descriptorIndex := 91, attributes := #[] }, { accessFlags := 26, nameIndex := 94, descriptorIndex := 91, attributes := #[] }, { accessFlags := 26, nameIndex := 96, descriptorIndex := 91, attributes := #[] }, { accessFlags := 26, nameIndex := 98, descriptorIndex := 91, attributes := #[] }, { accessFlags := 2, nameIndex := 68, descriptorIndex := 26, attributes := #[] }, { accessFlags := 2, nameIndex := 71, descriptorIndex := 26, attributes := #[] }, { accessFlags := 2, nameIndex := 74, descriptorIndex := 26, attributes := #[] }, { accessFlags := 2, nameIndex := 77, descriptorIndex := 26, attributes := #[] }, { accessFlags := 2, nameIndex := 25, descriptorIndex := 26, attributes := #[] }, { accessFlags := 2, nameIndex := 29, descriptorIndex := 26, attributes := #[] }, { accessFlags := 2, nameIndex := 32, descriptorIndex := 33, attributes := #[] }])
  fields := #[{ name := "LF", type := .byte, accessFlags := 26, slot := 0, constantValue := 0 }, { name := "TAB", type := .byte, accessFlags := 26, slot := 1, constantValue := 0 }, { name := "SPACE", type := .byte, accessFlags := 26, slot := 2, constantValue := 0 }, { name := "COMMENT", type := .byte, accessFlags := 26, slot := 3, constantValue := 0 }, { name := "sourceStart", type := .int, accessFlags := 2, slot := 0, constantValue := 0 }, { name := "sourceEnd", type := .int, accessFlags := 2, slot := 1, constantValue := 0 }, { name := "targetStart", type := .int, accessFlags := 2, slot := 2, constantValue := 0 }, { name := "targetEnd", type := .int, accessFlags := 2, slot := 3, constantValue := 0 }, { name := "firstTab", type := .int, accessFlags := 2, slot := 4, constantValue := 0 }, { name := "secondTab", type := .int, accessFlags := 2, slot := 5, constantValue := 0 }, { name := "ascii", type := .boolean, accessFlags := 2, slot := 6, constantValue := 0 }]
  methods := #[k3m0, k3m1, k3m2, k3m3, k3m4, k3m5, k3m6, k3m7, k3m8, k3m9]
  instanceTypes := #[.int, .int, .int, .int, .int, .int, .boolean]
  staticTypes := #[.byte, .byte, .byte, .byte]
  resolved := Array.replicate 125 none
  statics := none }

def pool4 : Array CpInfo := pool [(2, .class_ 4), (1, u "java/lang/Object"), (0, u "<init>"), (0, u "()V"), (0, .class_ 8), (0, u "com/example/long_walk/longwalk/Bytes"), (2, u "find"), (0, u "([BIIB)I")] 3

def k4m0 : Method := { name := "<init>", desc := "()V", sig := { parameters := [], returnType := none }, accessFlags := 2, code := none }
def k4c1 : Code := { maxStack := 2, maxLocals := 5, code := prog_2_method_2_code, exceptionTable := #[], attributes := #[] }
def k4m1 : Method := { name := "find", desc := "([BIIB)I", sig := { parameters := [(.array .byte), .int, .int, .byte], returnType := some .int }, accessFlags := 8, code := some k4c1 }
/-- com/example/long_walk/longwalk/Bytes -/
def k4 : Class := { plain "com/example/long_walk/longwalk/Bytes" (some 0) with
  accessFlags := 48
  interfaces := #[]
  cf := some (fileOf pool4 7 #[] #[{ accessFlags := 2, nameIndex := 5, descriptorIndex := 6, attributes := #[] }, { accessFlags := 8, nameIndex := 11, descriptorIndex := 12, attributes := #[] }] 48 2 #[] #[])
  fields := #[]
  methods := #[k4m0, k4m1]
  instanceTypes := #[]
  staticTypes := #[]
  resolved := Array.replicate 16 none
  statics := none }

def pool5 : Array CpInfo := pool [(2, .class_ 4), (1, u "java/lang/Object"), (0, u "<init>"), (0, u "()V"), (1, .class_ 10), (1, u "com/example/long_walk/longwalk/Utf8"), (0, u "firstInvalid"), (0, u "([BII)I")] 58

def k5m0 : Method := { name := "<init>", desc := "()V", sig := { parameters := [], returnType := none }, accessFlags := 2, code := none }
def k5c1 : Code := { maxStack := 3, maxLocals := 5, code := prog_31_method_4_code, exceptionTable := #[], attributes := #[] }
def k5m1 : Method := { name := "firstInvalid", desc := "([BII)I", sig := { parameters := [(.array .byte), .int, .int], returnType := some .int }, accessFlags := 8, code := some k5c1 }
/-- com/example/long_walk/longwalk/Utf8 -/
def k5 : Class := { plain "com/example/long_walk/longwalk/Utf8" (some 0) with
  accessFlags := 48
  interfaces := #[]
  cf := some (fileOf pool5 8 #[] #[{ accessFlags := 2, nameIndex := 5, descriptorIndex := 6, attributes := #[] }, { accessFlags := 8, nameIndex := 11, descriptorIndex := 12, attributes := #[] }] 48 2 #[] #[])
  fields := #[]
  methods := #[k5m0, k5m1]
  instanceTypes := #[]
  staticTypes := #[]
  resolved := Array.replicate 71 none
  statics := none }

def pool6 : Array CpInfo := pool [(1, u "java/lang/Cloneable"), (0, .class_ 1), (0, u "java/lang/Object"), (0, .class_ 3)] 3

/-- java/lang/Cloneable -/
def k6 : Class := { plain "java/lang/Cloneable" (some 0) with
  accessFlags := 1537
  interfaces := #[]
  cf := some (fileOf pool6 2 #[] #[] 1537 4 #[] #[])
  fields := #[]
  methods := #[]
  instanceTypes := #[]
  staticTypes := #[]
  resolved := Array.replicate 8 none
  statics := none }

def pool7 : Array CpInfo := pool [(1, u "java/io/Serializable"), (0, .class_ 1), (0, u "java/lang/Object"), (0, .class_ 3)] 3

/-- java/io/Serializable -/
def k7 : Class := { plain "java/io/Serializable" (some 0) with
  accessFlags := 1537
  interfaces := #[]
  cf := some (fileOf pool7 2 #[] #[] 1537 4 #[] #[])
  fields := #[]
  methods := #[]
  instanceTypes := #[]
  staticTypes := #[]
  resolved := Array.replicate 8 none
  statics := none }

/-- the primitive byte -/
def k8 : Class := { plain "byte" none with kind := .primitive 'B', accessFlags := 0x411 }
/-- [B -/
def k9 : Class := { plain "[B" (some 0) with kind := .array 8 .byte, interfaces := #[6, 7], accessFlags := 1041 }

/-- the primitive int -/
def k10 : Class := { plain "int" none with kind := .primitive 'I', accessFlags := 0x411 }
/-- [I -/
def k11 : Class := { plain "[I" (some 0) with kind := .array 10 .int, interfaces := #[6, 7], accessFlags := 1041 }

def heap : Heap := #[]
def classes : Array Class := #[k0, k1, k2, k3, k4, k5, k6, k7, k8, k9, k10, k11]
def interned : List (Array UInt16 × Addr) := []
def slotsUsed : Nat := 0
def theMethod : MethodId := ⟨1, 1⟩
def args0 : Array Value := #[.int 5, .int 7, .int 9, .int 3, .int 4]
def aboutOver (below : List Frame) : State where
  vm := { classes := classes, interned := interned.toArray }
  heap := heap
  slotsUsed := slotsUsed
  threads := #[{ frames := .invoking theMethod args0 :: below }]
def below0 : List Frame := [.native { method := ⟨0, 0⟩, args := #[] }]
def about1 : State := aboutOver below0
def p0 : Program := .bare "" "" ""
def e0 : Env := launch0.env 0 0 0
theorem w_frames : about1.frames = Frame.invoking theMethod args0 :: below0 := rfl
set_option maxRecDepth 65536 in
theorem w_args : argsFit about1.vm theMethod args0 = true := by decide +kernel
set_option maxRecDepth 65536 in
theorem w_heap : heapFits about1 = true := by decide +kernel
set_option maxRecDepth 65536 in
theorem w_runnable : about1.curStatus? = some .runnable := by decide +kernel
set_option maxRecDepth 65536 in
theorem w_alone : about1.alone = true := by decide +kernel
set_option maxRecDepth 65536 in
theorem w_named : about1.methodNamed? x = some theMethod := by decide +kernel
set_option maxRecDepth 65536 in
theorem w_hears : about1.hears theMethod below0 = true := by decide +kernel
set_option maxRecDepth 65536 in
theorem w_ripe : about1.ripe theMethod args0 below0 = true := by decide +kernel
theorem w_running : about1.status = .running := rfl
set_option maxRecDepth 65536 in
theorem w_room : about1.hasRoom e0.platform room_1 = true :=
  launch0.hasRoom_least _ room_1 (by decide +kernel) (by decide +kernel) (by decide +kernel) (by decide +kernel) (by decide +kernel) (by decide +kernel)
theorem allAtoms_all (ts : List Jvm.Cond) (a : Array Jvm.Value) (st : Jvm.State) : (allAtoms ts).before a st = ts.all (fun c => c.before a st) := by
  induction ts with
  | nil => rfl
  | cons c t ih =>
    show (Jvm.Cond.and c (allAtoms t)).before a st = _
    rw [Jvm.Cond.before_and, ih, List.all_cons]
def words1 : List Jvm.Cond := Jvm.Cond.code x code maxLocals ret :: tables_1
/-- a 'code' word, met by the world's own term for the bytes: nothing is compared byte by byte -/
theorem code_word {y : MethodName} {bytes : ByteArray} {mx : Nat} {rt : Option FieldType} {a : Array Value} {s : State} {m : MethodId} {meth : Method} {c : Code} (h1 : s.methodNamed? y = some m) (h2 : s.vm.method? m = some meth) (h3 : meth.code = some c) (h4 : c.code = bytes)
    (h5 : (c.maxLocals == mx && c.exceptionTable.isEmpty && decide (c.maxStack ≤ mostOperands) && decide (meth.sig.returnType = rt) && !meth.locks && decide (parseMethodDescriptor y.desc = some meth.sig)) = true) : (Jvm.Cond.code y bytes mx rt).before a s = true := by
  simp only [Bool.and_eq_true, beq_iff_eq, Bool.not_eq_true', decide_eq_true_eq] at h5
  obtain ⟨⟨⟨⟨⟨g1, g2⟩, g3⟩, g4⟩, g5⟩, g6⟩ := h5
  simp [Cond.before, Cond.holds, Cond.value, h1, h2, h3, h4, g1, g2, g3, g4, g5, g6]
def isCode : Jvm.Cond → Bool
  | .code _ _ _ _ => true
  | _ => false
theorem all_split {L : List Jvm.Cond} {P : Jvm.Cond → Bool} (h1 : L.all (fun c => isCode c || P c) = true) (h2 : ∀ c ∈ L.filter isCode, P c = true) : L.all P = true := by
  refine List.all_eq_true.mpr fun c hc => ?_
  have h := List.all_eq_true.mp h1 c hc
  rcases Bool.eq_false_or_eq_true (isCode c) with hi | hi
  · exact h2 c (List.mem_filter.mpr ⟨hc, hi⟩)
  · simpa [hi] using h
set_option maxRecDepth 65536 in
theorem w_c0 : (Jvm.Cond.code x code maxLocals ret).before args0 about1 = true := code_word (m := ⟨1, 1⟩) (meth := k1m1) (c := k1c1) (by decide +kernel) rfl rfl rfl (by decide +kernel)
set_option maxRecDepth 65536 in
theorem w_c1 : (Jvm.Cond.code ({ cls := "com/example/long_walk/longwalk/EdgeListLineScanPinLaw", name := "draw", desc := "(III)B" } : Jvm.MethodName) method_3_code (4 : Nat) (Option.some Jvm.ClassFile.FieldType.byte)).before args0 about1 = true := code_word (m := ⟨1, 2⟩) (meth := k1m2) (c := k1c2) (by decide +kernel) rfl rfl rfl (by decide +kernel)
set_option maxRecDepth 65536 in
theorem w_c2 : (Jvm.Cond.code ({ cls := "java/lang/Math", name := "max", desc := "(II)I" } : Jvm.MethodName) jdk_29_method_65_code (2 : Nat) (Option.some Jvm.ClassFile.FieldType.int)).before args0 about1 = true := code_word (m := ⟨2, 1⟩) (meth := k2m1) (c := k2c1) (by decide +kernel) rfl rfl rfl (by decide +kernel)
set_option maxRecDepth 65536 in
theorem w_c3 : (Jvm.Cond.code ({ cls := "com/example/long_walk/longwalk/EdgeListLineScanPinLaw", name := "firstIndex", desc := "([BIII)I" } : Jvm.MethodName) method_6_code (5 : Nat) (Option.some Jvm.ClassFile.FieldType.int)).before args0 about1 = true := code_word (m := ⟨1, 5⟩) (meth := k1m5) (c := k1c5) (by decide +kernel) rfl rfl rfl (by decide +kernel)
set_option maxRecDepth 65536 in
theorem w_c4 : (Jvm.Cond.code ({ cls := "com/example/long_walk/longwalk/EdgeListLineScanPinLaw", name := "hit", desc := "([BIIII)Z" } : Jvm.MethodName) method_4_code (5 : Nat) (Option.some Jvm.ClassFile.FieldType.boolean)).before args0 about1 = true := code_word (m := ⟨1, 3⟩) (meth := k1m3) (c := k1c3) (by decide +kernel) rfl rfl rfl (by decide +kernel)
set_option maxRecDepth 65536 in
theorem w_c5 : (Jvm.Cond.code ({ cls := "com/example/long_walk/longwalk/EdgeListLineScanPinLaw", name := "neg", desc := "([BIII)Z" } : Jvm.MethodName) method_5_code (4 : Nat) (Option.some Jvm.ClassFile.FieldType.boolean)).before args0 about1 = true := code_word (m := ⟨1, 4⟩) (meth := k1m4) (c := k1c4) (by decide +kernel) rfl rfl rfl (by decide +kernel)
set_option maxRecDepth 65536 in
theorem w_c6 : (Jvm.Cond.code ({ cls := "com/example/long_walk/longwalk/EdgeListLine", name := "<init>", desc := "()V" } : Jvm.MethodName) prog_7_method_1_code (1 : Nat) (Option.none : Option Jvm.ClassFile.FieldType)).before args0 about1 = true := code_word (m := ⟨3, 0⟩) (meth := k3m0) (c := k3c0) (by decide +kernel) rfl rfl rfl (by decide +kernel)
set_option maxRecDepth 65536 in
theorem w_c7 : (Jvm.Cond.code ({ cls := "java/lang/Object", name := "<init>", desc := "()V" } : Jvm.MethodName) object_method_1_code (1 : Nat) (Option.none : Option Jvm.ClassFile.FieldType)).before args0 about1 = true := code_word (m := ⟨0, 0⟩) (meth := k0m0) (c := k0c0) (by decide +kernel) rfl rfl rfl (by decide +kernel)
set_option maxRecDepth 65536 in
theorem w_c8 : (Jvm.Cond.code ({ cls := "com/example/long_walk/longwalk/EdgeListLine", name := "scan", desc := "([BIIZ)I" } : Jvm.MethodName) prog_7_method_3_code (9 : Nat) (Option.some Jvm.ClassFile.FieldType.int)).before args0 about1 = true := code_word (m := ⟨3, 1⟩) (meth := k3m1) (c := k3c1) (by decide +kernel) rfl rfl rfl (by decide +kernel)
set_option maxRecDepth 65536 in
theorem w_c9 : (Jvm.Cond.code ({ cls := "com/example/long_walk/longwalk/EdgeListLine", name := "readScanned", desc := "([BIIJ)Z" } : Jvm.MethodName) prog_7_method_4_code (9 : Nat) (Option.some Jvm.ClassFile.FieldType.boolean)).before args0 about1 = true := code_word (m := ⟨3, 2⟩) (meth := k3m2) (c := k3c2) (by decide +kernel) rfl rfl rfl (by decide +kernel)
set_option maxRecDepth 65536 in
theorem w_c10 : (Jvm.Cond.code ({ cls := "com/example/long_walk/longwalk/EdgeListLine", name := "skipBlanks", desc := "([BII)I" } : Jvm.MethodName) prog_7_method_11_code (4 : Nat) (Option.some Jvm.ClassFile.FieldType.int)).before args0 about1 = true := code_word (m := ⟨3, 9⟩) (meth := k3m9) (c := k3c9) (by decide +kernel) rfl rfl rfl (by decide +kernel)
set_option maxRecDepth 65536 in
theorem w_c11 : (Jvm.Cond.code ({ cls := "java/lang/Math", name := "min", desc := "(II)I" } : Jvm.MethodName) jdk_29_method_69_code (2 : Nat) (Option.some Jvm.ClassFile.FieldType.int)).before args0 about1 = true := code_word (m := ⟨2, 2⟩) (meth := k2m2) (c := k2c2) (by decide +kernel) rfl rfl rfl (by decide +kernel)
set_option maxRecDepth 65536 in
theorem w_c12 : (Jvm.Cond.code ({ cls := "com/example/long_walk/longwalk/EdgeListLine", name := "readTabSeparated", desc := "(IIIJ)V" } : Jvm.MethodName) prog_7_method_9_code (6 : Nat) (Option.none : Option Jvm.ClassFile.FieldType)).before args0 about1 = true := code_word (m := ⟨3, 7⟩) (meth := k3m7) (c := k3c7) (by decide +kernel) rfl rfl rfl (by decide +kernel)
set_option maxRecDepth 65536 in
theorem w_c13 : (Jvm.Cond.code ({ cls := "com/example/long_walk/longwalk/EdgeListLine", name := "sourceStart", desc := "()I" } : Jvm.MethodName) prog_7_method_5_code (1 : Nat) (Option.some Jvm.ClassFile.FieldType.int)).before args0 about1 = true := code_word (m := ⟨3, 3⟩) (meth := k3m3) (c := k3c3) (by decide +kernel) rfl rfl rfl (by decide +kernel)
set_option maxRecDepth 65536 in
theorem w_c14 : (Jvm.Cond.code ({ cls := "com/example/long_walk/longwalk/EdgeListLine", name := "sourceEnd", desc := "()I" } : Jvm.MethodName) prog_7_method_6_code (1 : Nat) (Option.some Jvm.ClassFile.FieldType.int)).before args0 about1 = true := code_word (m := ⟨3, 4⟩) (meth := k3m4) (c := k3c4) (by decide +kernel) rfl rfl rfl (by decide +kernel)
set_option maxRecDepth 65536 in
theorem w_c15 : (Jvm.Cond.code ({ cls := "com/example/long_walk/longwalk/EdgeListLine", name := "targetStart", desc := "()I" } : Jvm.MethodName) prog_7_method_7_code (1 : Nat) (Option.some Jvm.ClassFile.FieldType.int)).before args0 about1 = true := code_word (m := ⟨3, 5⟩) (meth := k3m5) (c := k3c5) (by decide +kernel) rfl rfl rfl (by decide +kernel)
set_option maxRecDepth 65536 in
theorem w_c16 : (Jvm.Cond.code ({ cls := "com/example/long_walk/longwalk/EdgeListLine", name := "targetEnd", desc := "()I" } : Jvm.MethodName) prog_7_method_8_code (1 : Nat) (Option.some Jvm.ClassFile.FieldType.int)).before args0 about1 = true := code_word (m := ⟨3, 6⟩) (meth := k3m6) (c := k3c6) (by decide +kernel) rfl rfl rfl (by decide +kernel)
set_option maxRecDepth 65536 in
theorem w_c17 : (Jvm.Cond.code ({ cls := "com/example/long_walk/longwalk/EdgeListLine", name := "readSpaceSeparated", desc := "([BIIJ)V" } : Jvm.MethodName) prog_7_method_10_code (8 : Nat) (Option.none : Option Jvm.ClassFile.FieldType)).before args0 about1 = true := code_word (m := ⟨3, 8⟩) (meth := k3m8) (c := k3c8) (by decide +kernel) rfl rfl rfl (by decide +kernel)
set_option maxRecDepth 65536 in
theorem w_c18 : (Jvm.Cond.code ({ cls := "com/example/long_walk/longwalk/Bytes", name := "find", desc := "([BIIB)I" } : Jvm.MethodName) prog_2_method_2_code (5 : Nat) (Option.some Jvm.ClassFile.FieldType.int)).before args0 about1 = true := code_word (m := ⟨4, 1⟩) (meth := k4m1) (c := k4c1) (by decide +kernel) rfl rfl rfl (by decide +kernel)
set_option maxRecDepth 65536 in
theorem w_c19 : (Jvm.Cond.code ({ cls := "com/example/long_walk/longwalk/Utf8", name := "firstInvalid", desc := "([BII)I" } : Jvm.MethodName) prog_31_method_4_code (5 : Nat) (Option.some Jvm.ClassFile.FieldType.int)).before args0 about1 = true := code_word (m := ⟨5, 1⟩) (meth := k5m1) (c := k5c1) (by decide +kernel) rfl rfl rfl (by decide +kernel)
def codes1 : List Jvm.Cond := [Jvm.Cond.code x code maxLocals ret, Jvm.Cond.code ({ cls := "com/example/long_walk/longwalk/EdgeListLineScanPinLaw", name := "draw", desc := "(III)B" } : Jvm.MethodName) method_3_code (4 : Nat) (Option.some Jvm.ClassFile.FieldType.byte), Jvm.Cond.code ({ cls := "java/lang/Math", name := "max", desc := "(II)I" } : Jvm.MethodName) jdk_29_method_65_code (2 : Nat) (Option.some Jvm.ClassFile.FieldType.int), Jvm.Cond.code ({ cls := "com/example/long_walk/longwalk/EdgeListLineScanPinLaw", name := "firstIndex", desc := "([BIII)I" } : Jvm.MethodName) method_6_code (5 : Nat) (Option.some Jvm.ClassFile.FieldType.int), Jvm.Cond.code ({ cls := "com/example/long_walk/longwalk/EdgeListLineScanPinLaw", name := "hit", desc := "([BIIII)Z" } : Jvm.MethodName) method_4_code (5 : Nat) (Option.some Jvm.ClassFile.FieldType.boolean), Jvm.Cond.code ({ cls := "com/example/long_walk/longwalk/EdgeListLineScanPinLaw", name := "neg", desc := "([BIII)Z" } : Jvm.MethodName) method_5_code (4 : Nat) (Option.some Jvm.ClassFile.FieldType.boolean), Jvm.Cond.code ({ cls := "com/example/long_walk/longwalk/EdgeListLine", name := "<init>", desc := "()V" } : Jvm.MethodName) prog_7_method_1_code (1 : Nat) (Option.none : Option Jvm.ClassFile.FieldType), Jvm.Cond.code ({ cls := "java/lang/Object", name := "<init>", desc := "()V" } : Jvm.MethodName) object_method_1_code (1 : Nat) (Option.none : Option Jvm.ClassFile.FieldType), Jvm.Cond.code ({ cls := "com/example/long_walk/longwalk/EdgeListLine", name := "scan", desc := "([BIIZ)I" } : Jvm.MethodName) prog_7_method_3_code (9 : Nat) (Option.some Jvm.ClassFile.FieldType.int), Jvm.Cond.code ({ cls := "com/example/long_walk/longwalk/EdgeListLine", name := "readScanned", desc := "([BIIJ)Z" } : Jvm.MethodName) prog_7_method_4_code (9 : Nat) (Option.some Jvm.ClassFile.FieldType.boolean), Jvm.Cond.code ({ cls := "com/example/long_walk/longwalk/EdgeListLine", name := "skipBlanks", desc := "([BII)I" } : Jvm.MethodName) prog_7_method_11_code (4 : Nat) (Option.some Jvm.ClassFile.FieldType.int), Jvm.Cond.code ({ cls := "java/lang/Math", name := "min", desc := "(II)I" } : Jvm.MethodName) jdk_29_method_69_code (2 : Nat) (Option.some Jvm.ClassFile.FieldType.int), Jvm.Cond.code ({ cls := "com/example/long_walk/longwalk/EdgeListLine", name := "readTabSeparated", desc := "(IIIJ)V" } : Jvm.MethodName) prog_7_method_9_code (6 : Nat) (Option.none : Option Jvm.ClassFile.FieldType), Jvm.Cond.code ({ cls := "com/example/long_walk/longwalk/EdgeListLine", name := "sourceStart", desc := "()I" } : Jvm.MethodName) prog_7_method_5_code (1 : Nat) (Option.some Jvm.ClassFile.FieldType.int), Jvm.Cond.code ({ cls := "com/example/long_walk/longwalk/EdgeListLine", name := "sourceEnd", desc := "()I" } : Jvm.MethodName) prog_7_method_6_code (1 : Nat) (Option.some Jvm.ClassFile.FieldType.int), Jvm.Cond.code ({ cls := "com/example/long_walk/longwalk/EdgeListLine", name := "targetStart", desc := "()I" } : Jvm.MethodName) prog_7_method_7_code (1 : Nat) (Option.some Jvm.ClassFile.FieldType.int), Jvm.Cond.code ({ cls := "com/example/long_walk/longwalk/EdgeListLine", name := "targetEnd", desc := "()I" } : Jvm.MethodName) prog_7_method_8_code (1 : Nat) (Option.some Jvm.ClassFile.FieldType.int), Jvm.Cond.code ({ cls := "com/example/long_walk/longwalk/EdgeListLine", name := "readSpaceSeparated", desc := "([BIIJ)V" } : Jvm.MethodName) prog_7_method_10_code (8 : Nat) (Option.none : Option Jvm.ClassFile.FieldType), Jvm.Cond.code ({ cls := "com/example/long_walk/longwalk/Bytes", name := "find", desc := "([BIIB)I" } : Jvm.MethodName) prog_2_method_2_code (5 : Nat) (Option.some Jvm.ClassFile.FieldType.int), Jvm.Cond.code ({ cls := "com/example/long_walk/longwalk/Utf8", name := "firstInvalid", desc := "([BII)I" } : Jvm.MethodName) prog_31_method_4_code (5 : Nat) (Option.some Jvm.ClassFile.FieldType.int)]
set_option maxRecDepth 65536 in
theorem codes_eq : words1.filter isCode = codes1 := rfl
theorem w_codes : ∀ c ∈ words1.filter isCode, c.before args0 about1 = true := by
  rw [codes_eq]
  intro c hc
  simp only [codes1, List.mem_cons, List.not_mem_nil, or_false] at hc
  rcases hc with rfl | rfl | rfl | rfl | rfl | rfl | rfl | rfl | rfl | rfl | rfl | rfl | rfl | rfl | rfl | rfl | rfl | rfl | rfl | rfl
  · exact w_c0
  · exact w_c1
  · exact w_c2
  · exact w_c3
  · exact w_c4
  · exact w_c5
  · exact w_c6
  · exact w_c7
  · exact w_c8
  · exact w_c9
  · exact w_c10
  · exact w_c11
  · exact w_c12
  · exact w_c13
  · exact w_c14
  · exact w_c15
  · exact w_c16
  · exact w_c17
  · exact w_c18
  · exact w_c19
set_option maxRecDepth 65536 in
theorem w_t1 : (words1.take 24).all (fun c => isCode c || c.before args0 about1) = true := by decide +kernel
set_option maxRecDepth 65536 in
theorem w_t2 : ((words1.drop 24).take 24).all (fun c => isCode c || c.before args0 about1) = true := by decide +kernel
set_option maxRecDepth 65536 in
theorem w_t3 : (((words1.drop 24).drop 24).take 24).all (fun c => isCode c || c.before args0 about1) = true := by decide +kernel
set_option maxRecDepth 65536 in
theorem w_t4 : (((words1.drop 24).drop 24).drop 24).all (fun c => isCode c || c.before args0 about1) = true := by decide +kernel
theorem w_tables : (allAtoms (Jvm.Cond.code x code maxLocals ret :: tables_1)).before args0 about1 = true := by
  rw [allAtoms_all]
  show words1.all (fun c => c.before args0 about1) = true
  refine all_split ?_ w_codes
  rw [← List.take_append_drop 24 words1, List.all_append, w_t1, ← List.take_append_drop 24 (words1.drop 24), List.all_append, w_t2, ← List.take_append_drop 24 ((words1.drop 24).drop 24), List.all_append, w_t3, w_t4]
  rfl
set_option maxRecDepth 65536 in
theorem w_case : (Jvm.Cond.and given_1 narrow_1).before args0 about1 = true := by decide +kernel
theorem w_applies : (headSpec (Jvm.Cond.code x code maxLocals ret :: tables_1) room_1).applies x e0.platform about1 = true :=
  (Spec.applies_iff w_frames).mpr ⟨w_running, w_runnable, w_alone, w_named, w_hears, w_ripe, w_room, w_tables⟩
theorem atStart : AtStart classFile x code maxLocals ret World_1 tables_1 room_1 Calls_1 rest_1 Pre_1 launch0 p0 e0 about1 theMethod args0 below0 :=
  ⟨lists_1, trivial, launch0.admits_env _ _ _, launch0.least_env, fairChoices_fair.cas, fairChoices_fair.clock, w_frames, w_args, w_heap, w_applies, trivial, trivial, w_case⟩
end start1
theorem witness_1 : WitnessClaimed_1 := ⟨start1.p0, start1.e0, start1.about1, start1.theMethod, start1.args0, start1.below0, start1.atStart⟩
end Jvm.Pilot.@@N@@
