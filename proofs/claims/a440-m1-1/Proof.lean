import JvmDerived
import JvmDerived.Pilot.@@N@@Statement
import JvmDerived.Pilot.@@N@@Code
set_option linter.unusedVariables false
set_option linter.unusedSimpArgs false
@@BLOCK:NumsL.lean.txt@@
namespace Jvm.RoadKit
open Sem ClassFile Op Lib Jvm.Stand Jvm.Free Jvm.LawKit
section New
variable {p : Program} {l : Launch} {e : Env} {R : Room} {s : State} {m : MethodId} {args : Array Value} {below : List Frame} {meth : Method} {c : Code} {T : State} {locs : List Loc} {cells slots : Nat}
theorem retI (X : Stand p l e R s m args below meth c T locs cells slots) (hx : p.tables.exec = Jvm.exec) {pc : Nat} {Ls : Array Slot} {z : Int32} {rest : List Value} (hret : meth.sig.returnType = some .int) (hd : decode c.code pc = .ok (.ireturn, 1)) {fs : List Frame}
    (hl : ∀ (f : JFrame) (acts : List Action), f.method = m → f.locked = none → f.entered = [] → (doReturn e (T.setTop f) acts (some (.int z))).1 = T.setFrames fs) : Steps p.tables e below (T.setTop (mkF m pc Ls (.int z :: rest))) (T.setFrames fs) :=
  retOut X hx hret rfl (Or.inl ⟨rfl, Or.inl rfl, _, rfl⟩) hd hl
theorem retL (X : Stand p l e R s m args below meth c T locs cells slots) (hx : p.tables.exec = Jvm.exec) {pc : Nat} {Ls : Array Slot} {z : Int64} {rest : List Value} (hret : meth.sig.returnType = some .long) (hd : decode c.code pc = .ok (.lreturn, 1)) {fs : List Frame}
    (hl : ∀ (f : JFrame) (acts : List Action), f.method = m → f.locked = none → f.entered = [] → (doReturn e (T.setTop f) acts (some (.long z))).1 = T.setFrames fs) : Steps p.tables e below (T.setTop (mkF m pc Ls (.long z :: rest))) (T.setFrames fs) :=
  retOut X hx hret rfl (Or.inr (Or.inl ⟨rfl, rfl, _, rfl⟩)) hd hl
theorem retA (X : Stand p l e R s m args below meth c T locs cells slots) (hx : p.tables.exec = Jvm.exec) {pc : Nat} {Ls : Array Slot} {z : Addr} {t : FieldType} {rest : List Value} (hret : meth.sig.returnType = some t) (ht : t.isReference = true) (hd : decode c.code pc = .ok (.areturn, 1)) {fs : List Frame}
    (hn : narrow t (.ref z) = .ref z) (hl : ∀ (f : JFrame) (acts : List Action), f.method = m → f.locked = none → f.entered = [] → (doReturn e (T.setTop f) acts (some (.ref z))).1 = T.setFrames fs) : Steps p.tables e below (T.setTop (mkF m pc Ls (.ref z :: rest))) (T.setFrames fs) :=
  retOut X hx hret hn (Or.inr (Or.inr (Or.inr (Or.inr ⟨rfl, ht, rfl⟩)))) hd hl
end New
end Jvm.RoadKit
namespace Jvm.Pilot.@@N@@
open Jvm Jvm.ClassFile Sem Op Lib Jvm.Free Jvm.Stand Jvm.LawKit Jvm.RoadKit Bundle Jvm.Pilot.@@N@@.Jvm.D
/-- the walk moves on: what runs from S' runs from S -/
theorem own_go {tb : Tables} {e : Env} {below : List Frame} {S S' : State} {P : State → Outcome → Prop} (h : ∀ t, Steps tb e below S' t → Steps tb e below S t)
    (k : ∃ s₂ o, Steps tb e below S' s₂ ∧ s₂.status = .running ∧ Ended s₂ below o ∧ P s₂ o) : ∃ s₂ o, Steps tb e below S s₂ ∧ s₂.status = .running ∧ Ended s₂ below o ∧ P s₂ o := by
  obtain ⟨s₂, o, h1, h2⟩ := k
  exact ⟨s₂, o, h _ h1, h2⟩
/-- the same, on the way to a joint -/
theorem own_goR {tb : Tables} {e : Env} {below : List Frame} {S S' : State} {α : Type} {Φ : α → Prop} {Ψ : α → State} (h : ∀ t, Steps tb e below S' t → Steps tb e below S t)
    (k : ∃ x, Φ x ∧ ∀ t, Steps tb e below (Ψ x) t → Steps tb e below S' t) : ∃ x, Φ x ∧ ∀ t, Steps tb e below (Ψ x) t → Steps tb e below S t := by
  obtain ⟨x, h1, h2⟩ := k
  exact ⟨x, h1, fun t kt => h t (h2 t kt)⟩
/-- a private method is selected, where a method of its class is -/
theorem own_selp {s : State} {args args' : Array Value} {cls : String} {x' y' y : MethodName} (h : (Jvm.Cond.selects cls x' y').before args s = true) (e : y'.cls = y.cls) (hpriv : s.PrivateAt y) (hinst : (Jvm.Cond.instanceMethod y).before args' s = true) (hy : y.cls ≠ "java/lang/invoke/MethodHandle" ∧ y.cls ≠ "java/lang/invoke/VarHandle") : (Jvm.Cond.selects y.cls y y).before args' s = true := by
  obtain ⟨c, r, m, -, -, h3, -, mk, h4, h5⟩ := Cond.selects_spec h
  exact Jvm.Stand.selects_self_of_private (e ▸ findClass_of_methodNamed h3) h4 h5 hpriv hinst hy
/-- Java's x >>> y on ints and on longs -/
def own_ushr (x y : Int32) : Int32 := (x.toUInt32 >>> (y &&& 31).toUInt32).toInt32
def own_ushrL (x : Int64) (y : Int32) : Int64 := (x.toUInt64 >>> (y &&& 0x3f).toInt64.toUInt64).toInt64
def own_shlL (x : Int64) (y : Int32) : Int64 := x <<< (y &&& 0x3f).toInt64
def own_shrL (x : Int64) (y : Int32) : Int64 := x >>> (y &&& 0x3f).toInt64
def own_shl (x y : Int32) : Int32 := x <<< (y &&& 31)
def own_shr (x y : Int32) : Int32 := x >>> (y &&& 31)
/-- an array by its places: ints (byte, char, short, boolean too), longs -/
def own_AI (Z : State) (h : Heap) (a : Addr) (ty : FieldType) (n : Nat) (g : Nat → Int32) : Prop := ∃ c : Cell, Arr Z h a c ty ∧ c.slots.size = n ∧ n < 2 ^ 31 ∧ ∀ i, i < n → c.slots[i]? = some (.int (g i))
def own_AJ (Z : State) (h : Heap) (a : Addr) (ty : FieldType) (n : Nat) (g : Nat → Int64) : Prop := ∃ c : Cell, Arr Z h a c ty ∧ c.slots.size = n ∧ n < 2 ^ 31 ∧ ∀ i, i < n → c.slots[i]? = some (.long (g i))
def own_AD (Z : State) (h : Heap) (a : Addr) (ty : FieldType) (n : Nat) (g : Nat → UInt64) : Prop := ∃ c : Cell, Arr Z h a c ty ∧ c.slots.size = n ∧ n < 2 ^ 31 ∧ ∀ i, i < n → c.slots[i]? = some (.double (g i))
def own_upd {α : Type} (g : Nat → α) (j : Nat) (v : α) : Nat → α := fun i => if i = j then v else g i
theorem own_upd_same {α : Type} (g : Nat → α) (j : Nat) (v : α) : own_upd g j v j = v := if_pos rfl
theorem own_upd_ne {α : Type} (g : Nat → α) {i j : Nat} (v : α) (h : i ≠ j) : own_upd g j v i = g i := if_neg h
section OwnArrays
variable {Z : State} {h h' : Heap} {a b : Addr} {ty : FieldType} {n sl : Nat} {v : Value} {ws : List Addr}
theorem own_AI.lt {g : Nat → Int32} (F : own_AI Z h a ty n g) : a < h.size := by obtain ⟨c, A, -⟩ := F; exact A.lt
theorem own_AI.ext {g : Nat → Int32} (F : own_AI Z h a ty n g) (E : Ext h h') : own_AI Z h' a ty n g := by obtain ⟨c, A, r⟩ := F; exact ⟨c, A.ext E, r⟩
theorem own_AI.other {g : Nat → Int32} (F : own_AI Z h b ty n g) (W : Wr h h' a sl v) (q : b ≠ a) : own_AI Z h' b ty n g := by obtain ⟨c, A, r⟩ := F; exact ⟨c, A.other W q, r⟩
theorem own_AI.keep {g : Nat → Int32} (F : own_AI Z h a ty n g) (K : Keep h h' ws) (q : a ∉ ws) : own_AI Z h' a ty n g := by obtain ⟨c, A, r⟩ := F; exact ⟨c, ⟨K.2.1 a c A.1 q, A.2⟩, r⟩
theorem own_AJ.lt {g : Nat → Int64} (F : own_AJ Z h a ty n g) : a < h.size := by obtain ⟨c, A, -⟩ := F; exact A.lt
theorem own_AJ.ext {g : Nat → Int64} (F : own_AJ Z h a ty n g) (E : Ext h h') : own_AJ Z h' a ty n g := by obtain ⟨c, A, r⟩ := F; exact ⟨c, A.ext E, r⟩
theorem own_AJ.other {g : Nat → Int64} (F : own_AJ Z h b ty n g) (W : Wr h h' a sl v) (q : b ≠ a) : own_AJ Z h' b ty n g := by obtain ⟨c, A, r⟩ := F; exact ⟨c, A.other W q, r⟩
theorem own_AJ.keep {g : Nat → Int64} (F : own_AJ Z h a ty n g) (K : Keep h h' ws) (q : a ∉ ws) : own_AJ Z h' a ty n g := by obtain ⟨c, A, r⟩ := F; exact ⟨c, ⟨K.2.1 a c A.1 q, A.2⟩, r⟩
theorem own_AD.lt {g : Nat → UInt64} (F : own_AD Z h a ty n g) : a < h.size := by obtain ⟨c, A, -⟩ := F; exact A.lt
theorem own_AD.ext {g : Nat → UInt64} (F : own_AD Z h a ty n g) (E : Ext h h') : own_AD Z h' a ty n g := by obtain ⟨c, A, r⟩ := F; exact ⟨c, A.ext E, r⟩
theorem own_AD.other {g : Nat → UInt64} (F : own_AD Z h b ty n g) (W : Wr h h' a sl v) (q : b ≠ a) : own_AD Z h' b ty n g := by obtain ⟨c, A, r⟩ := F; exact ⟨c, A.other W q, r⟩
theorem own_AD.keep {g : Nat → UInt64} (F : own_AD Z h a ty n g) (K : Keep h h' ws) (q : a ∉ ws) : own_AD Z h' a ty n g := by obtain ⟨c, A, r⟩ := F; exact ⟨c, ⟨K.2.1 a c A.1 q, A.2⟩, r⟩
theorem own_AI.set {g : Nat → Int32} {c : Cell} {x : Int32} {j : Nat} (A : Arr Z h a c ty) (S : c.slots.size = n) (M : n < 2 ^ 31) (H : ∀ i, i < n → c.slots[i]? = some (.int (g i))) (W : Wr h h' a j (.int x)) : own_AI Z h' a ty n (own_upd g j x) := by
  refine ⟨_, A.same W, (sz_set _ _ _).trans S, M, fun i hi => ?_⟩
  simp only [Cell.setSlot, Array.getElem?_setIfInBounds, own_upd]
  by_cases q : j = i
  · subst q; simp [S, hi]
  · rw [if_neg q, if_neg (fun z => q z.symm)]; exact H i hi
theorem own_AJ.set {g : Nat → Int64} {c : Cell} {x : Int64} {j : Nat} (A : Arr Z h a c ty) (S : c.slots.size = n) (M : n < 2 ^ 31) (H : ∀ i, i < n → c.slots[i]? = some (.long (g i))) (W : Wr h h' a j (.long x)) : own_AJ Z h' a ty n (own_upd g j x) := by
  refine ⟨_, A.same W, (sz_set _ _ _).trans S, M, fun i hi => ?_⟩
  simp only [Cell.setSlot, Array.getElem?_setIfInBounds, own_upd]
  by_cases q : j = i
  · subst q; simp [S, hi]
  · rw [if_neg q, if_neg (fun z => q z.symm)]; exact H i hi
theorem own_AD.set {g : Nat → UInt64} {c : Cell} {x : UInt64} {j : Nat} (A : Arr Z h a c ty) (S : c.slots.size = n) (M : n < 2 ^ 31) (H : ∀ i, i < n → c.slots[i]? = some (.double (g i))) (W : Wr h h' a j (.double x)) : own_AD Z h' a ty n (own_upd g j x) := by
  refine ⟨_, A.same W, (sz_set _ _ _).trans S, M, fun i hi => ?_⟩
  simp only [Cell.setSlot, Array.getElem?_setIfInBounds, own_upd]
  by_cases q : j = i
  · subst q; simp [S, hi]
  · rw [if_neg q, if_neg (fun z => q z.symm)]; exact H i hi
theorem own_clamp_lt (z : Int32) : z.toNatClampNeg < 2 ^ 31 := by have := z.toInt_lt; simp only [Int32.toNatClampNeg]; omega
theorem own_AI.fresh {k : ClassId} {z : Int32} (A : Arr Z h a (newA k ty z) ty) (hd : defaultValue ty = .int 0) : own_AI Z h a ty z.toNatClampNeg (fun _ => 0) :=
  ⟨_, A, sz_new _ _ _, own_clamp_lt z, fun i hi => by simp [newA, hi, hd]⟩
theorem own_AJ.fresh {k : ClassId} {z : Int32} (A : Arr Z h a (newA k ty z) ty) (hd : defaultValue ty = .long 0) : own_AJ Z h a ty z.toNatClampNeg (fun _ => 0) :=
  ⟨_, A, sz_new _ _ _, own_clamp_lt z, fun i hi => by simp [newA, hi, hd]⟩
theorem own_AD.fresh {k : ClassId} {z : Int32} (A : Arr Z h a (newA k ty z) ty) (hd : defaultValue ty = .double 0) : own_AD Z h a ty z.toNatClampNeg (fun _ => 0) :=
  ⟨_, A, sz_new _ _ _, own_clamp_lt z, fun i hi => by simp [newA, hi, hd]⟩
theorem own_in {c : Cell} {j : Int32} (S : c.slots.size = n) (q : ¬ j < 0 ∧ j.toNatClampNeg < n) : ¬ (j < 0 ∨ c.slots.size ≤ j.toNatClampNeg) := by
  rw [S]; exact fun z => z.elim q.1 (fun y => by have := q.2; omega)
theorem own_len {c : Cell} (S : c.slots.size = n) : c.slots.size.toInt32 = Int32.ofNat n := by rw [S]
theorem own_fitI {g : Nat → Int32} {c : Cell} (A : Arr Z h a c .int) (S : c.slots.size = n) (H : ∀ i, i < n → c.slots[i]? = some (.int (g i))) : FitC Z c :=
  fitC_of A fun i hi v hv => by rw [H i (S ▸ hi)] at hv; cases hv; rfl
theorem own_nst {C : String} (E : Exa Z h a C) : ∃ c : Cell, h[a]? = some c ∧ c.vm.isStatics = false := by obtain ⟨c, k, h1, -, -, h4, -⟩ := E; exact ⟨c, h1, h4⟩
theorem own_Sta_keep {C f d : String} (F : Sta Z h C f d v) (K : Keep h h' ws) (q : ∀ x ∈ ws, ∃ c : Cell, h[x]? = some c ∧ c.vm.isStatics = false) : Sta Z h' C f d v := by
  obtain ⟨cf, i, k, f, st, cell, h1, h2, h3, h4, h5, h6, h7⟩ := F
  refine ⟨cf, i, k, f, st, cell, h1, h2, h3, h4, K.2.1 st cell h5 (fun z => ?_), h6, h7⟩
  obtain ⟨c, g1, g2⟩ := q st z
  cases h5.symm.trans g1
  rw [h6] at g2
  cases g2
end OwnArrays
theorem own_lremq (x y : Int64) : x - (x / y) * y = x % y := by
  apply Int64.toInt_inj.mp
  rw [Int64.toInt_sub, Int64.toInt_mul, Int64.toInt_div, Int64.toInt_mod]
  have h := Int.mul_tdiv_add_tmod x.toInt y.toInt
  have hl := x.toInt_lt; have hg := x.le_toInt
  simp only [Int.bmod_sub_bmod, Int.sub_bmod_bmod, Int.bmod_mul_bmod, Int.mul_bmod_bmod]
  have e : x.toInt - x.toInt.tdiv y.toInt * y.toInt = x.toInt.tmod y.toInt := by rw [Int.mul_comm]; omega
  rw [e]
  have h1 := (x % y).toInt_lt; have h2 := (x % y).le_toInt
  rw [Int64.toInt_mod] at h1 h2
  exact Int.bmod_eq_of_le (by omega) (by omega)
theorem own_m32 {q k : Int32} (h : 0 ≤ q.toInt) : (q % k).toInt = q.toInt % k.toInt := by rw [Int32.toInt_mod, Int.tmod_eq_emod_of_nonneg h]
theorem own_ofn {i : Nat} (h : i ≤ 1000) : (Int32.ofNat i).toInt = i := Int32.toInt_ofNat_of_lt (by omega)
theorem own_lt {i n : Nat} (h : i < n) (hn : n ≤ 1000) : Int32.ofNat i < Int32.ofNat n := by rw [Int32.lt_iff_toInt_lt, own_ofn (by omega), own_ofn (by omega)]; omega
theorem own_nlt {i n : Nat} (h : n ≤ i) (hn : n ≤ 1000) (hi : i ≤ 1000) : ¬ Int32.ofNat i < Int32.ofNat n := by rw [Int32.lt_iff_toInt_lt, own_ofn (by omega), own_ofn (by omega)]; omega
theorem own_one (i : Nat) : Int32.ofNat i + (1 : Int32) = Int32.ofNat (i + 1) := (Int32.ofNat_add i 1).symm
theorem own_clamp {i : Nat} (h : i ≤ 1000) : ((Int32.ofNat i)).toNatClampNeg = i := by simp only [Int32.toNatClampNeg, own_ofn h]; omega
theorem own_ofadd (n c : Nat) : ((Int32.ofNat n) + (Int32.ofNat c)) = (Int32.ofNat (n + c)) := (Int32.ofNat_add n c).symm
theorem own_inb2 {a i : Nat} (h : a + i < 5) : ¬ ((Int32.ofNat a) + (Int32.ofNat i)) < 0 ∧ (((Int32.ofNat a) + (Int32.ofNat i))).toNatClampNeg < 5 := by
  rw [own_ofadd, own_clamp (by omega)]
  refine ⟨?_, h⟩
  rw [Int32.lt_iff_toInt_lt, own_ofn (by omega), show (0 : Int32).toInt = 0 from rfl]
  omega
theorem own_cl2 {a i : Nat} (h : a + i ≤ 1000) : (((Int32.ofNat a) + (Int32.ofNat i))).toNatClampNeg = a + i := by rw [own_ofadd, own_clamp h]
def own_in2 (p1 p3 p5 : Int32) : Prop := (¬ (p1 + p5) < 0 ∧ ((p1 + p5)).toNatClampNeg < 5) ∧ (¬ (p3 + p5) < 0 ∧ ((p3 + p5)).toNatClampNeg < 5)
/-- k coordinates from i on: none of the first is greater -/
def own_wd (ga gb : Nat → Int32) (a b : Nat) : Nat → Nat → Int32
  | 0, _ => 1
  | k + 1, i => if gb (b + i) < ga (a + i) then (0 : Int32) else own_wd ga gb a b k (i + 1)
theorem own_b53 (x : Int32) : B53 x.toInt64 := by
  have h1 := x.toInt_lt
  have h2 := x.le_toInt
  constructor <;> rw [Int32.toInt_toInt64] <;> omega
theorem own_dc {x y : Int32} : (0 : Int32) < (cmpValue (FP.dcmp (FP.i2d x) (FP.i2d y)) .l) ↔ y < x := by
  rw [i2d_w, i2d_w, dcmpV_w (own_b53 x) (own_b53 y), lcW, lc_gt, Int64.lt_iff_toInt_lt, Int32.lt_iff_toInt_lt, Int32.toInt_toInt64, Int32.toInt_toInt64]

theorem d1_0 : decode method_2_code 0 = .ok (.lload_n 0, 1) := by decide +kernel
theorem d1_1 : decode method_2_code 1 = .ok (.iconst 2, 1) := by decide +kernel
theorem d1_2 : decode method_2_code 2 = .ok (.iload_n 2, 1) := by decide +kernel
theorem d1_3 : decode method_2_code 3 = .ok (.imul, 1) := by decide +kernel
theorem d1_4 : decode method_2_code 4 = .ok (.lushr, 1) := by decide +kernel
theorem d1_5 : decode method_2_code 5 = .ok (.ldc2_w 7, 3) := by decide +kernel
theorem d1_8 : decode method_2_code 8 = .ok (.land, 1) := by decide +kernel
theorem d1_9 : decode method_2_code 9 = .ok (.l2i, 1) := by decide +kernel
theorem d1_10 : decode method_2_code 10 = .ok (.iconst 1, 1) := by decide +kernel
theorem d1_11 : decode method_2_code 11 = .ok (.isub, 1) := by decide +kernel
theorem d1_12 : decode method_2_code 12 = .ok (.ireturn, 1) := by decide +kernel
theorem own_pn0 : plainName "com/example/paretoforge/paretoforge/core/DominanceWeaklyDominatesPinLaw" = true := by first | (simp [plainName, overriddenIn]; done) | decide +kernel
def own_val (q0 : Int64) (p1 : Int32) : Int32 := ((((own_ushrL q0 ((2 : Int32) * p1)) &&& (3 : Int64)).toInt32) - (1 : Int32))
set_option maxHeartbeats 40000000 in
theorem own_ef_rm1 (m : MethodId) (x0 : Int64) (x1 : Int32) : entryFrame m #[(.long x0), (.int x1)] 3 = mkF m 0 #[.val (.long x0), .second, .val (.int x1)] [] := by first | (simp [entryFrame, mkF, argsToLocals, Value.category]; done) | rfl
def Q1 (Z : State) (q0 : Int64) (p1 : Int32) (h0 : Heap) (n0 : Nat) (v : Option Value) (h : Heap) (L : List Loc) : Prop := v = some (.int (own_val q0 p1)) ∧ Fr n0 L ∧ h = h0
set_option maxRecDepth 65536 in
set_option maxHeartbeats 40000000 in
theorem rm1 (l : Launch) (Z : State) (aZ : Array Value) (hw : ∀ d ∈ tables_1, d.before aZ Z = true) (ws : List Jvm.Cond) (q0 : Int64) (p1 : Int32) (h0 : Heap) (n0 : Nat) (Z0 : n0 ≤ h0.size) :
    MetFree l (⟨"com/example/paretoforge/paretoforge/core/DominanceWeaklyDominatesPinLaw", "val", "(JI)I"⟩ : MethodName) (head1 (Jvm.Cond.code (⟨"com/example/paretoforge/paretoforge/core/DominanceWeaklyDominatesPinLaw", "val", "(JI)I"⟩ : MethodName) method_2_code 3 (some .int) :: ws) ({ frames := 0, cells := 0, slots := 0, locals := 0 } : Room)) (fun a U => a = #[(.long q0), (.int p1)] ∧ Z.Warmed39 U.vm ∧ U.heap = h0) (fun _ _ _ _ _ => True) (fun _ U o U' => ∃ v L, o = .returned v ∧ Q1 Z q0 p1 h0 n0 v U'.heap L ∧ FrameEnd U o U' L ({ frames := 0, cells := 0, slots := 0, locals := 0 } : Room).cells ({ frames := 0, cells := 0, slots := 0, locals := 0 } : Room).slots) := by
  refine MetFree.of_bodySF (plainFor_of_name own_pn0) hisR ?_
  intro p e s m args below meth c s₁ Bd hml0 hP hK
  obtain ⟨rfl, hZ, hh⟩ := hP
  have hx := Bd.exec
  have hby := Bd.bytes
  have hml : c.maxLocals = 3 := hml0
  have hown : s.vm.findClass "com/example/paretoforge/paretoforge/core/DominanceWeaklyDominatesPinLaw" = some m.cls := findClass_of_methodNamed Bd.named
  have hnm := (name_of_methodNamed Bd.named Bd.method).1
  have X0 : Stand p l e ({ frames := 0, cells := 0, slots := 0, locals := 0 } : Room) s m #[(.long q0), (.int p1)] below meth c s₁ [] 0 0 := Stand.of_body Bd
  have e0 : s₁.heap = h0 := by rw [← hh, Bd.state]; rfl
  have N0 := Fr.nil n0
  refine own_go (S' := s₁.setTop (mkF m 0 #[.val (.long q0), .second, .val (.int p1)] [])) (fun tt0 kk0 => castTop (own_ef_rm1 m q0 p1) kk0) ?_
  refine own_go (S' := s₁.setTop (mkF m 12 #[.val (.long q0), .second, .val (.int p1)] [(.int ((((own_ushrL q0 ((2 : Int32) * p1)) &&& (3 : Int64)).toInt32) - (1 : Int32)))])) (fun target kt => ?_) ?_
  · skip
    show Steps p.tables e below (s₁.setTop (mkF m 0 #[.val (.long q0), .second, .val (.int p1)] [])) _
    refine XS.lloadN X0.here hx rfl (hb hby d1_0) rfl ?_
    show Steps p.tables e below (s₁.setTop (mkF m 1 #[.val (.long q0), .second, .val (.int p1)] [(.long q0)])) _
    refine XS.iconst X0.here hx rfl (hb hby d1_1) ?_
    show Steps p.tables e below (s₁.setTop (mkF m 2 #[.val (.long q0), .second, .val (.int p1)] [(.int (2 : Int32)), (.long q0)])) _
    refine XS.iloadN X0.here hx rfl (hb hby d1_2) rfl ?_
    show Steps p.tables e below (s₁.setTop (mkF m 3 #[.val (.long q0), .second, .val (.int p1)] [(.int p1), (.int (2 : Int32)), (.long q0)])) _
    refine XS.imul X0.here hx rfl (hb hby d1_3) rfl ?_
    show Steps p.tables e below (s₁.setTop (mkF m 4 #[.val (.long q0), .second, .val (.int p1)] [(.int ((2 : Int32) * p1)), (.long q0)])) _
    refine XS.lushr X0.here hx rfl (hb hby d1_4) rfl ?_
    show Steps p.tables e below (s₁.setTop (mkF m 5 #[.val (.long q0), .second, .val (.int p1)] [(.long (own_ushrL q0 ((2 : Int32) * p1)))])) _
    refine X0.ldc2Long hx hown (mvT hZ (hw _ (List.mem_of_getElem? (i := 6) rfl))) (g := (mkF m 5 #[.val (.long q0), .second, .val (.int p1)] [(.long (own_ushrL q0 ((2 : Int32) * p1)))])) rfl (hb hby d1_5) _ ?_
    show Steps p.tables e below (s₁.setTop (mkF m 8 #[.val (.long q0), .second, .val (.int p1)] [(.long (3 : Int64)), (.long (own_ushrL q0 ((2 : Int32) * p1)))])) _
    refine XS.land X0.here hx rfl (hb hby d1_8) rfl ?_
    show Steps p.tables e below (s₁.setTop (mkF m 9 #[.val (.long q0), .second, .val (.int p1)] [(.long ((own_ushrL q0 ((2 : Int32) * p1)) &&& (3 : Int64)))])) _
    refine XS.l2i X0.here hx rfl (hb hby d1_9) rfl ?_
    show Steps p.tables e below (s₁.setTop (mkF m 10 #[.val (.long q0), .second, .val (.int p1)] [(.int (((own_ushrL q0 ((2 : Int32) * p1)) &&& (3 : Int64)).toInt32))])) _
    refine XS.iconst X0.here hx rfl (hb hby d1_10) ?_
    show Steps p.tables e below (s₁.setTop (mkF m 11 #[.val (.long q0), .second, .val (.int p1)] [(.int (1 : Int32)), (.int (((own_ushrL q0 ((2 : Int32) * p1)) &&& (3 : Int64)).toInt32))])) _
    refine XS.isub X0.here hx rfl (hb hby d1_11) rfl ?_
    exact kt
  obtain ⟨fs, hr, hrun, hended, hW, hsame⟩ := X0.leave (v := some (.int ((((own_ushrL q0 ((2 : Int32) * p1)) &&& (3 : Int64)).toInt32) - (1 : Int32)))) (fun h => by rw [Bd.returns] at h; cases h)
  refine ⟨_, _, ?_, hrun, hended, _, _, rfl, ?_, ⟨_, rfl⟩, hW, hsame.mono (by decide) (by decide)⟩
  · exact retI X0 hx Bd.returns (hb hby d1_12) hr
  · show Q1 Z q0 p1 h0 n0 _ s₁.heap _
    rw [e0]
    exact ⟨(by (first | rfl | (simp only [own_val]; done) | (simp [own_val]; done))), N0, rfl⟩
theorem d2_0 : decode method_3_code 0 = .ok (.iload 5, 2) := by decide +kernel
theorem d2_2 : decode method_3_code 2 = .ok (.iload 4, 2) := by decide +kernel
theorem d2_4 : decode method_3_code 4 = .ok (.if_icmp .ge 18, 3) := by decide +kernel
theorem d2_7 : decode method_3_code 7 = .ok (.aload_n 0, 1) := by decide +kernel
theorem d2_8 : decode method_3_code 8 = .ok (.iload_n 1, 1) := by decide +kernel
theorem d2_9 : decode method_3_code 9 = .ok (.iload 5, 2) := by decide +kernel
theorem d2_11 : decode method_3_code 11 = .ok (.iadd, 1) := by decide +kernel
theorem d2_12 : decode method_3_code 12 = .ok (.iaload, 1) := by decide +kernel
theorem d2_13 : decode method_3_code 13 = .ok (.aload_n 2, 1) := by decide +kernel
theorem d2_14 : decode method_3_code 14 = .ok (.iload_n 3, 1) := by decide +kernel
theorem d2_15 : decode method_3_code 15 = .ok (.iload 5, 2) := by decide +kernel
theorem d2_17 : decode method_3_code 17 = .ok (.iadd, 1) := by decide +kernel
theorem d2_18 : decode method_3_code 18 = .ok (.iaload, 1) := by decide +kernel
theorem d2_19 : decode method_3_code 19 = .ok (.if_icmp .gt 7, 3) := by decide +kernel
theorem d2_22 : decode method_3_code 22 = .ok (.iconst 1, 1) := by decide +kernel
theorem d2_23 : decode method_3_code 23 = .ok (.goto 4, 3) := by decide +kernel
theorem d2_26 : decode method_3_code 26 = .ok (.iconst 0, 1) := by decide +kernel
theorem d2_27 : decode method_3_code 27 = .ok (.ireturn, 1) := by decide +kernel
def own_ok (p1 : Int32) (p3 : Int32) (p4 : Int32) (p5 : Int32) (g : Nat → Int32) (gd : Nat → Int32) : Int32 := (if p5 < p4 then (if (gd ((p3 + p5)).toNatClampNeg) < (g ((p1 + p5)).toNatClampNeg) then (0 : Int32) else (1 : Int32)) else (1 : Int32))
set_option maxHeartbeats 40000000 in
theorem own_ef_rm2 (m : MethodId) (x0 : Addr) (x1 : Int32) (x2 : Addr) (x3 : Int32) (x4 : Int32) (x5 : Int32) : entryFrame m #[(.ref x0), (.int x1), (.ref x2), (.int x3), (.int x4), (.int x5)] 6 = mkF m 0 #[.val (.ref x0), .val (.int x1), .val (.ref x2), .val (.int x3), .val (.int x4), .val (.int x5)] [] := by first | (simp [entryFrame, mkF, argsToLocals, Value.category]; done) | rfl
def Q2 (Z : State) (a0 : Addr) (p1 : Int32) (a2 : Addr) (p3 : Int32) (p4 : Int32) (p5 : Int32) (g : Nat → Int32) (gd : Nat → Int32) (h0 : Heap) (n0 : Nat) (v : Option Value) (h : Heap) (L : List Loc) : Prop := v = some (.int (own_ok p1 p3 p4 p5 g gd)) ∧ Fr n0 L ∧ h = h0
set_option maxRecDepth 65536 in
set_option maxHeartbeats 40000000 in
theorem rm2 (l : Launch) (Z : State) (aZ : Array Value) (hw : ∀ d ∈ tables_1, d.before aZ Z = true) (ws : List Jvm.Cond) (a0 : Addr) (p1 : Int32) (a2 : Addr) (p3 : Int32) (p4 : Int32) (p5 : Int32) (g : Nat → Int32) (gd : Nat → Int32) (h0 : Heap) (n0 : Nat) (Z0 : n0 ≤ h0.size) (pf0 : own_AI Z h0 a0 .int 5 g) (pf1 : own_AI Z h0 a2 .int 5 gd) (hq : p5 < p4 → own_in2 p1 p3 p5) :
    MetFree l (⟨"com/example/paretoforge/paretoforge/core/DominanceWeaklyDominatesPinLaw", "ok", "([II[IIII)Z"⟩ : MethodName) (head1 (Jvm.Cond.code (⟨"com/example/paretoforge/paretoforge/core/DominanceWeaklyDominatesPinLaw", "ok", "([II[IIII)Z"⟩ : MethodName) method_3_code 6 (some .boolean) :: ws) ({ frames := 0, cells := 0, slots := 0, locals := 0 } : Room)) (fun a U => a = #[(.ref a0), (.int p1), (.ref a2), (.int p3), (.int p4), (.int p5)] ∧ Z.Warmed39 U.vm ∧ U.heap = h0) (fun _ _ _ _ _ => True) (fun _ U o U' => ∃ v L, o = .returned v ∧ Q2 Z a0 p1 a2 p3 p4 p5 g gd h0 n0 v U'.heap L ∧ FrameEnd U o U' L ({ frames := 0, cells := 0, slots := 0, locals := 0 } : Room).cells ({ frames := 0, cells := 0, slots := 0, locals := 0 } : Room).slots) := by
  refine MetFree.of_bodySF (plainFor_of_name own_pn0) hisR ?_
  intro p e s m args below meth c s₁ Bd hml0 hP hK
  obtain ⟨rfl, hZ, hh⟩ := hP
  have hx := Bd.exec
  have hby := Bd.bytes
  have hml : c.maxLocals = 6 := hml0
  have hown : s.vm.findClass "com/example/paretoforge/paretoforge/core/DominanceWeaklyDominatesPinLaw" = some m.cls := findClass_of_methodNamed Bd.named
  have hnm := (name_of_methodNamed Bd.named Bd.method).1
  have X0 : Stand p l e ({ frames := 0, cells := 0, slots := 0, locals := 0 } : Room) s m #[(.ref a0), (.int p1), (.ref a2), (.int p3), (.int p4), (.int p5)] below meth c s₁ [] 0 0 := Stand.of_body Bd
  have e0 : s₁.heap = h0 := by rw [← hh, Bd.state]; rfl
  have N0 := Fr.nil n0
  refine own_go (S' := s₁.setTop (mkF m 0 #[.val (.ref a0), .val (.int p1), .val (.ref a2), .val (.int p3), .val (.int p4), .val (.int p5)] [])) (fun tt0 kk0 => castTop (own_ef_rm2 m a0 p1 a2 p3 p4 p5) kk0) ?_
  refine own_go (S' := s₁.setTop (mkF m 4 #[.val (.ref a0), .val (.int p1), .val (.ref a2), .val (.int p3), .val (.int p4), .val (.int p5)] [(.int p4), (.int p5)])) (fun target kt => ?_) ?_
  · skip
    show Steps p.tables e below (s₁.setTop (mkF m 0 #[.val (.ref a0), .val (.int p1), .val (.ref a2), .val (.int p3), .val (.int p4), .val (.int p5)] [])) _
    refine XS.iload X0.here hx rfl (hb hby d2_0) rfl ?_
    show Steps p.tables e below (s₁.setTop (mkF m 2 #[.val (.ref a0), .val (.int p1), .val (.ref a2), .val (.int p3), .val (.int p4), .val (.int p5)] [(.int p5)])) _
    refine XS.iload X0.here hx rfl (hb hby d2_2) rfl ?_
    exact kt
  by_cases hc4 : p5 < p4
  · skip
    refine own_go (S' := s₁.setTop (mkF m 12 #[.val (.ref a0), .val (.int p1), .val (.ref a2), .val (.int p3), .val (.int p4), .val (.int p5)] [(.int (p1 + p5)), (.ref a0)])) (fun target kt => ?_) ?_
    · skip
      show Steps p.tables e below (s₁.setTop (mkF m 4 #[.val (.ref a0), .val (.int p1), .val (.ref a2), .val (.int p3), .val (.int p4), .val (.int p5)] [(.int p4), (.int p5)])) _
      refine XS.icmpNo X0.here hx rfl (hb hby d2_4) rfl (tlt hc4).2.1 ?_
      show Steps p.tables e below (s₁.setTop (mkF m 7 #[.val (.ref a0), .val (.int p1), .val (.ref a2), .val (.int p3), .val (.int p4), .val (.int p5)] [])) _
      refine XS.aloadN X0.here hx rfl (hb hby d2_7) rfl rfl ?_
      show Steps p.tables e below (s₁.setTop (mkF m 8 #[.val (.ref a0), .val (.int p1), .val (.ref a2), .val (.int p3), .val (.int p4), .val (.int p5)] [(.ref a0)])) _
      refine XS.iloadN X0.here hx rfl (hb hby d2_8) rfl ?_
      show Steps p.tables e below (s₁.setTop (mkF m 9 #[.val (.ref a0), .val (.int p1), .val (.ref a2), .val (.int p3), .val (.int p4), .val (.int p5)] [(.int p1), (.ref a0)])) _
      refine XS.iload X0.here hx rfl (hb hby d2_9) rfl ?_
      show Steps p.tables e below (s₁.setTop (mkF m 11 #[.val (.ref a0), .val (.int p1), .val (.ref a2), .val (.int p3), .val (.int p4), .val (.int p5)] [(.int p5), (.int p1), (.ref a0)])) _
      refine XS.iadd X0.here hx rfl (hb hby d2_11) rfl ?_
      exact kt
    obtain ⟨c1, Ar1, S1, M1, H1⟩ := id pf0
    have hj1 : ¬ (p1 + p5) < 0 ∧ ((p1 + p5)).toNatClampNeg < 5 := ((hq hc4).1)
    have st1 : ∀ target, Steps p.tables e below (s₁.setTop (mkF m 13 #[.val (.ref a0), .val (.int p1), .val (.ref a2), .val (.int p3), .val (.int p4), .val (.int p5)] [(.int (g ((p1 + p5)).toNatClampNeg))])) target → Steps p.tables e below (s₁.setTop (mkF m 12 #[.val (.ref a0), .val (.int p1), .val (.ref a2), .val (.int p3), .val (.int p4), .val (.int p5)] [(.int (p1 + p5)), (.ref a0)])) target := fun target kt => X0.iaload hx (j := (p1 + p5)) (v := (.int (g ((p1 + p5)).toNatClampNeg))) (by rw [e0]; exact Ar1.1) (State.isArrayOf_alike hZ.alike Ar1.2.1) Ar1.2.2 (own_in S1 hj1) (H1 _ hj1.2) (g := (mkF m 12 #[.val (.ref a0), .val (.int p1), .val (.ref a2), .val (.int p3), .val (.int p4), .val (.int p5)] [(.int (p1 + p5)), (.ref a0)])) rfl rfl (hb hby d2_12) _ kt
    refine own_go (S' := s₁.setTop (mkF m 13 #[.val (.ref a0), .val (.int p1), .val (.ref a2), .val (.int p3), .val (.int p4), .val (.int p5)] [(.int (g ((p1 + p5)).toNatClampNeg))])) st1 ?_
    refine own_go (S' := s₁.setTop (mkF m 18 #[.val (.ref a0), .val (.int p1), .val (.ref a2), .val (.int p3), .val (.int p4), .val (.int p5)] [(.int (p3 + p5)), (.ref a2), (.int (g ((p1 + p5)).toNatClampNeg))])) (fun target kt => ?_) ?_
    · skip
      show Steps p.tables e below (s₁.setTop (mkF m 13 #[.val (.ref a0), .val (.int p1), .val (.ref a2), .val (.int p3), .val (.int p4), .val (.int p5)] [(.int (g ((p1 + p5)).toNatClampNeg))])) _
      refine XS.aloadN X0.here hx rfl (hb hby d2_13) rfl rfl ?_
      show Steps p.tables e below (s₁.setTop (mkF m 14 #[.val (.ref a0), .val (.int p1), .val (.ref a2), .val (.int p3), .val (.int p4), .val (.int p5)] [(.ref a2), (.int (g ((p1 + p5)).toNatClampNeg))])) _
      refine XS.iloadN X0.here hx rfl (hb hby d2_14) rfl ?_
      show Steps p.tables e below (s₁.setTop (mkF m 15 #[.val (.ref a0), .val (.int p1), .val (.ref a2), .val (.int p3), .val (.int p4), .val (.int p5)] [(.int p3), (.ref a2), (.int (g ((p1 + p5)).toNatClampNeg))])) _
      refine XS.iload X0.here hx rfl (hb hby d2_15) rfl ?_
      show Steps p.tables e below (s₁.setTop (mkF m 17 #[.val (.ref a0), .val (.int p1), .val (.ref a2), .val (.int p3), .val (.int p4), .val (.int p5)] [(.int p5), (.int p3), (.ref a2), (.int (g ((p1 + p5)).toNatClampNeg))])) _
      refine XS.iadd X0.here hx rfl (hb hby d2_17) rfl ?_
      exact kt
    obtain ⟨c2, Ar2, S2, M2, H2⟩ := id pf1
    have hj2 : ¬ (p3 + p5) < 0 ∧ ((p3 + p5)).toNatClampNeg < 5 := ((hq hc4).2)
    have st2 : ∀ target, Steps p.tables e below (s₁.setTop (mkF m 19 #[.val (.ref a0), .val (.int p1), .val (.ref a2), .val (.int p3), .val (.int p4), .val (.int p5)] [(.int (gd ((p3 + p5)).toNatClampNeg)), (.int (g ((p1 + p5)).toNatClampNeg))])) target → Steps p.tables e below (s₁.setTop (mkF m 18 #[.val (.ref a0), .val (.int p1), .val (.ref a2), .val (.int p3), .val (.int p4), .val (.int p5)] [(.int (p3 + p5)), (.ref a2), (.int (g ((p1 + p5)).toNatClampNeg))])) target := fun target kt => X0.iaload hx (j := (p3 + p5)) (v := (.int (gd ((p3 + p5)).toNatClampNeg))) (by rw [e0]; exact Ar2.1) (State.isArrayOf_alike hZ.alike Ar2.2.1) Ar2.2.2 (own_in S2 hj2) (H2 _ hj2.2) (g := (mkF m 18 #[.val (.ref a0), .val (.int p1), .val (.ref a2), .val (.int p3), .val (.int p4), .val (.int p5)] [(.int (p3 + p5)), (.ref a2), (.int (g ((p1 + p5)).toNatClampNeg))])) rfl rfl (hb hby d2_18) _ kt
    refine own_go (S' := s₁.setTop (mkF m 19 #[.val (.ref a0), .val (.int p1), .val (.ref a2), .val (.int p3), .val (.int p4), .val (.int p5)] [(.int (gd ((p3 + p5)).toNatClampNeg)), (.int (g ((p1 + p5)).toNatClampNeg))])) st2 ?_
    by_cases hc19 : (gd ((p3 + p5)).toNatClampNeg) < (g ((p1 + p5)).toNatClampNeg)
    · skip
      refine own_go (S' := s₁.setTop (mkF m 27 #[.val (.ref a0), .val (.int p1), .val (.ref a2), .val (.int p3), .val (.int p4), .val (.int p5)] [(.int (0 : Int32))])) (fun target kt => ?_) ?_
      · skip
        show Steps p.tables e below (s₁.setTop (mkF m 19 #[.val (.ref a0), .val (.int p1), .val (.ref a2), .val (.int p3), .val (.int p4), .val (.int p5)] [(.int (gd ((p3 + p5)).toNatClampNeg)), (.int (g ((p1 + p5)).toNatClampNeg))])) _
        refine XS.icmpYes X0.here hx rfl (pc0 := 19) (pc' := 26) rfl (hb hby d2_19) rfl (tlt hc19).2.2.1 (by decide) (by decide) ?_
        show Steps p.tables e below (s₁.setTop (mkF m 26 #[.val (.ref a0), .val (.int p1), .val (.ref a2), .val (.int p3), .val (.int p4), .val (.int p5)] [])) _
        refine XS.iconst X0.here hx rfl (hb hby d2_26) ?_
        exact kt
      obtain ⟨fs, hr, hrun, hended, hW, hsame⟩ := X0.leave (v := some (.int (0 : Int32))) (fun h => by rw [Bd.returns] at h; cases h)
      refine ⟨_, _, ?_, hrun, hended, _, _, rfl, ?_, ⟨_, rfl⟩, hW, hsame.mono (by decide) (by decide)⟩
      · exact retN X0 hx (t := .boolean) Bd.returns (by simp) (hb hby d2_27) hr
      · show Q2 Z a0 p1 a2 p3 p4 p5 g gd h0 n0 _ s₁.heap _
        rw [e0]
        exact ⟨(by (first | (simp only [own_ok, if_pos hc4, if_pos hc19]; done) | (simp [own_ok, if_pos hc4, if_pos hc19]; done) | rfl)), N0, rfl⟩
    · skip
      refine own_go (S' := s₁.setTop (mkF m 27 #[.val (.ref a0), .val (.int p1), .val (.ref a2), .val (.int p3), .val (.int p4), .val (.int p5)] [(.int (1 : Int32))])) (fun target kt => ?_) ?_
      · skip
        show Steps p.tables e below (s₁.setTop (mkF m 19 #[.val (.ref a0), .val (.int p1), .val (.ref a2), .val (.int p3), .val (.int p4), .val (.int p5)] [(.int (gd ((p3 + p5)).toNatClampNeg)), (.int (g ((p1 + p5)).toNatClampNeg))])) _
        refine XS.icmpNo X0.here hx rfl (hb hby d2_19) rfl (flt hc19).2.2.1 ?_
        show Steps p.tables e below (s₁.setTop (mkF m 22 #[.val (.ref a0), .val (.int p1), .val (.ref a2), .val (.int p3), .val (.int p4), .val (.int p5)] [])) _
        refine XS.iconst X0.here hx rfl (hb hby d2_22) ?_
        show Steps p.tables e below (s₁.setTop (mkF m 23 #[.val (.ref a0), .val (.int p1), .val (.ref a2), .val (.int p3), .val (.int p4), .val (.int p5)] [(.int (1 : Int32))])) _
        refine XS.goto X0.here hx rfl (pc0 := 23) (pc' := 27) rfl (hb hby d2_23) (by decide) (by decide) ?_
        exact kt
      obtain ⟨fs, hr, hrun, hended, hW, hsame⟩ := X0.leave (v := some (.int (1 : Int32))) (fun h => by rw [Bd.returns] at h; cases h)
      refine ⟨_, _, ?_, hrun, hended, _, _, rfl, ?_, ⟨_, rfl⟩, hW, hsame.mono (by decide) (by decide)⟩
      · exact retN X0 hx (t := .boolean) Bd.returns (by simp) (hb hby d2_27) hr
      · show Q2 Z a0 p1 a2 p3 p4 p5 g gd h0 n0 _ s₁.heap _
        rw [e0]
        exact ⟨(by (first | (simp only [own_ok, if_pos hc4, if_neg hc19]; done) | (simp [own_ok, if_pos hc4, if_neg hc19]; done) | rfl)), N0, rfl⟩
  · skip
    refine own_go (S' := s₁.setTop (mkF m 27 #[.val (.ref a0), .val (.int p1), .val (.ref a2), .val (.int p3), .val (.int p4), .val (.int p5)] [(.int (1 : Int32))])) (fun target kt => ?_) ?_
    · skip
      show Steps p.tables e below (s₁.setTop (mkF m 4 #[.val (.ref a0), .val (.int p1), .val (.ref a2), .val (.int p3), .val (.int p4), .val (.int p5)] [(.int p4), (.int p5)])) _
      refine XS.icmpYes X0.here hx rfl (pc0 := 4) (pc' := 22) rfl (hb hby d2_4) rfl (flt hc4).2.1 (by decide) (by decide) ?_
      show Steps p.tables e below (s₁.setTop (mkF m 22 #[.val (.ref a0), .val (.int p1), .val (.ref a2), .val (.int p3), .val (.int p4), .val (.int p5)] [])) _
      refine XS.iconst X0.here hx rfl (hb hby d2_22) ?_
      show Steps p.tables e below (s₁.setTop (mkF m 23 #[.val (.ref a0), .val (.int p1), .val (.ref a2), .val (.int p3), .val (.int p4), .val (.int p5)] [(.int (1 : Int32))])) _
      refine XS.goto X0.here hx rfl (pc0 := 23) (pc' := 27) rfl (hb hby d2_23) (by decide) (by decide) ?_
      exact kt
    obtain ⟨fs, hr, hrun, hended, hW, hsame⟩ := X0.leave (v := some (.int (1 : Int32))) (fun h => by rw [Bd.returns] at h; cases h)
    refine ⟨_, _, ?_, hrun, hended, _, _, rfl, ?_, ⟨_, rfl⟩, hW, hsame.mono (by decide) (by decide)⟩
    · exact retN X0 hx (t := .boolean) Bd.returns (by simp) (hb hby d2_27) hr
    · show Q2 Z a0 p1 a2 p3 p4 p5 g gd h0 n0 _ s₁.heap _
      rw [e0]
      exact ⟨(by (first | (simp only [own_ok, if_neg hc4]; done) | (simp [own_ok, if_neg hc4]; done) | rfl)), N0, rfl⟩
theorem d3_0 : decode prog_45_method_3_code 0 = .ok (.iconst 0, 1) := by decide +kernel
theorem d3_1 : decode prog_45_method_3_code 1 = .ok (.istore 5, 2) := by decide +kernel
theorem d3_3 : decode prog_45_method_3_code 3 = .ok (.iload 5, 2) := by decide +kernel
theorem d3_5 : decode prog_45_method_3_code 5 = .ok (.iload 4, 2) := by decide +kernel
theorem d3_7 : decode prog_45_method_3_code 7 = .ok (.if_icmp .ge 27, 3) := by decide +kernel
theorem d3_10 : decode prog_45_method_3_code 10 = .ok (.aload_n 0, 1) := by decide +kernel
theorem d3_11 : decode prog_45_method_3_code 11 = .ok (.iload_n 1, 1) := by decide +kernel
theorem d3_12 : decode prog_45_method_3_code 12 = .ok (.iload 5, 2) := by decide +kernel
theorem d3_14 : decode prog_45_method_3_code 14 = .ok (.iadd, 1) := by decide +kernel
theorem d3_15 : decode prog_45_method_3_code 15 = .ok (.daload, 1) := by decide +kernel
theorem d3_16 : decode prog_45_method_3_code 16 = .ok (.aload_n 2, 1) := by decide +kernel
theorem d3_17 : decode prog_45_method_3_code 17 = .ok (.iload_n 3, 1) := by decide +kernel
theorem d3_18 : decode prog_45_method_3_code 18 = .ok (.iload 5, 2) := by decide +kernel
theorem d3_20 : decode prog_45_method_3_code 20 = .ok (.iadd, 1) := by decide +kernel
theorem d3_21 : decode prog_45_method_3_code 21 = .ok (.daload, 1) := by decide +kernel
theorem d3_22 : decode prog_45_method_3_code 22 = .ok (.dcmp .l, 1) := by decide +kernel
theorem d3_23 : decode prog_45_method_3_code 23 = .ok (.ifCond .le 5, 3) := by decide +kernel
theorem d3_26 : decode prog_45_method_3_code 26 = .ok (.iconst 0, 1) := by decide +kernel
theorem d3_27 : decode prog_45_method_3_code 27 = .ok (.ireturn, 1) := by decide +kernel
theorem d3_28 : decode prog_45_method_3_code 28 = .ok (.iinc 5 1, 3) := by decide +kernel
theorem d3_31 : decode prog_45_method_3_code 31 = .ok (.goto (-28), 3) := by decide +kernel
theorem d3_34 : decode prog_45_method_3_code 34 = .ok (.iconst 1, 1) := by decide +kernel
theorem d3_35 : decode prog_45_method_3_code 35 = .ok (.ireturn, 1) := by decide +kernel
theorem own_pn1 : plainName "com/example/paretoforge/paretoforge/core/Dominance" = true := by first | (simp [plainName, overriddenIn]; done) | decide +kernel
set_option maxHeartbeats 40000000 in
theorem own_ef_rm3 (m : MethodId) (x0 : Addr) (x1 : Int32) (x2 : Addr) (x3 : Int32) (x4 : Int32) : entryFrame m #[(.ref x0), (.int x1), (.ref x2), (.int x3), (.int x4)] 6 = mkF m 0 #[.val (.ref x0), .val (.int x1), .val (.ref x2), .val (.int x3), .val (.int x4), .unset] [] := by first | (simp [entryFrame, mkF, argsToLocals, Value.category]; done) | rfl
def Q3 (Z : State) (a0 : Addr) (a2 : Addr) (ax : Nat) (bx : Nat) (n : Nat) (da : Nat → UInt64) (db : Nat → UInt64) (ga : Nat → Int32) (gb : Nat → Int32) (h0 : Heap) (n0 : Nat) (v : Option Value) (h : Heap) (L : List Loc) : Prop := v = some (.int (own_wd ga gb ax bx n 0)) ∧ Fr n0 L ∧ h = h0
set_option maxRecDepth 65536 in
set_option maxHeartbeats 40000000 in
theorem rm3 (l : Launch) (Z : State) (aZ : Array Value) (hw : ∀ d ∈ tables_1, d.before aZ Z = true) (ws : List Jvm.Cond) (a0 : Addr) (a2 : Addr) (ax : Nat) (bx : Nat) (n : Nat) (da : Nat → UInt64) (db : Nat → UInt64) (ga : Nat → Int32) (gb : Nat → Int32) (h0 : Heap) (n0 : Nat) (Z0 : n0 ≤ h0.size) (pf0 : own_AD Z h0 a0 .double 5 da) (pf1 : own_AD Z h0 a2 .double 5 db) (hA : ax + n ≤ 5) (hB : bx + n ≤ 5) (ea : ∀ j, j < 5 → da j = FP.i2d (ga j)) (eb : ∀ j, j < 5 → db j = FP.i2d (gb j)) :
    MetFree l (⟨"com/example/paretoforge/paretoforge/core/Dominance", "weaklyDominates", "([DI[DII)Z"⟩ : MethodName) (head1 (Jvm.Cond.code (⟨"com/example/paretoforge/paretoforge/core/Dominance", "weaklyDominates", "([DI[DII)Z"⟩ : MethodName) prog_45_method_3_code 6 (some .boolean) :: ws) ({ frames := 0, cells := 0, slots := 0, locals := 0 } : Room)) (fun a U => a = #[(.ref a0), (.int (Int32.ofNat ax)), (.ref a2), (.int (Int32.ofNat bx)), (.int (Int32.ofNat n))] ∧ Z.Warmed39 U.vm ∧ U.heap = h0) (fun _ _ _ _ _ => True) (fun _ U o U' => ∃ v L, o = .returned v ∧ Q3 Z a0 a2 ax bx n da db ga gb h0 n0 v U'.heap L ∧ FrameEnd U o U' L ({ frames := 0, cells := 0, slots := 0, locals := 0 } : Room).cells ({ frames := 0, cells := 0, slots := 0, locals := 0 } : Room).slots) := by
  refine MetFree.of_bodySF (plainFor_of_name own_pn1) hisR ?_
  intro p e s m args below meth c s₁ Bd hml0 hP hK
  obtain ⟨rfl, hZ, hh⟩ := hP
  have hx := Bd.exec
  have hby := Bd.bytes
  have hml : c.maxLocals = 6 := hml0
  have hown : s.vm.findClass "com/example/paretoforge/paretoforge/core/Dominance" = some m.cls := findClass_of_methodNamed Bd.named
  have hnm := (name_of_methodNamed Bd.named Bd.method).1
  have X0 : Stand p l e ({ frames := 0, cells := 0, slots := 0, locals := 0 } : Room) s m #[(.ref a0), (.int (Int32.ofNat ax)), (.ref a2), (.int (Int32.ofNat bx)), (.int (Int32.ofNat n))] below meth c s₁ [] 0 0 := Stand.of_body Bd
  have e0 : s₁.heap = h0 := by rw [← hh, Bd.state]; rfl
  have N0 := Fr.nil n0
  refine own_go (S' := s₁.setTop (mkF m 0 #[.val (.ref a0), .val (.int (Int32.ofNat ax)), .val (.ref a2), .val (.int (Int32.ofNat bx)), .val (.int (Int32.ofNat n)), .unset] [])) (fun tt0 kk0 => castTop (own_ef_rm3 m a0 (Int32.ofNat ax) a2 (Int32.ofNat bx) (Int32.ofNat n)) kk0) ?_
  refine own_go (S' := s₁.setTop (mkF m 3 #[.val (.ref a0), .val (.int (Int32.ofNat ax)), .val (.ref a2), .val (.int (Int32.ofNat bx)), .val (.int (Int32.ofNat n)), .val (.int (0 : Int32))] [])) (fun target kt => ?_) ?_
  · skip
    show Steps p.tables e below (s₁.setTop (mkF m 0 #[.val (.ref a0), .val (.int (Int32.ofNat ax)), .val (.ref a2), .val (.int (Int32.ofNat bx)), .val (.int (Int32.ofNat n)), .unset] [])) _
    refine XS.iconst X0.here hx rfl (hb hby d3_0) ?_
    show Steps p.tables e below (s₁.setTop (mkF m 1 #[.val (.ref a0), .val (.int (Int32.ofNat ax)), .val (.ref a2), .val (.int (Int32.ofNat bx)), .val (.int (Int32.ofNat n)), .unset] [(.int (0 : Int32))])) _
    refine XS.istore X0.here hx rfl (hb hby d3_1) rfl (l' := #[.val (.ref a0), .val (.int (Int32.ofNat ax)), .val (.ref a2), .val (.int (Int32.ofNat bx)), .val (.int (Int32.ofNat n)), .val (.int (0 : Int32))]) rfl ?_
    exact kt
  have own_loop : ∀ (k : Nat) (i : Nat) (T : State) (locs : List Loc), (hk : i + k = n) → Stand p l e ({ frames := 0, cells := 0, slots := 0, locals := 0 } : Room) s m #[(.ref a0), (.int (Int32.ofNat ax)), (.ref a2), (.int (Int32.ofNat bx)), (.int (Int32.ofNat n))] below meth c T locs 0 0 → T.heap = h0 → Fr n0 locs → ∃ s₂ o, Steps p.tables e below (T.setTop (mkF m 3 #[.val (.ref a0), .val (.int (Int32.ofNat ax)), .val (.ref a2), .val (.int (Int32.ofNat bx)), .val (.int (Int32.ofNat n)), .val (.int (Int32.ofNat i))] [])) s₂ ∧ s₂.status = .running ∧ Ended s₂ below o ∧ ∃ v LL, o = .returned v ∧ (v = some (.int (own_wd ga gb ax bx k i)) ∧ Fr n0 LL ∧ s₂.heap = h0) ∧ FrameEnd s o s₂ LL ({ frames := 0, cells := 0, slots := 0, locals := 0 } : Room).cells ({ frames := 0, cells := 0, slots := 0, locals := 0 } : Room).slots := by
    intro k
    induction k with
    | zero =>
      intro i T locs hk XL eL NL
      refine own_go (S' := T.setTop (mkF m 35 #[.val (.ref a0), .val (.int (Int32.ofNat ax)), .val (.ref a2), .val (.int (Int32.ofNat bx)), .val (.int (Int32.ofNat n)), .val (.int (Int32.ofNat i))] [(.int (1 : Int32))])) (fun target kt => ?_) ?_
      · skip
        show Steps p.tables e below (T.setTop (mkF m 3 #[.val (.ref a0), .val (.int (Int32.ofNat ax)), .val (.ref a2), .val (.int (Int32.ofNat bx)), .val (.int (Int32.ofNat n)), .val (.int (Int32.ofNat i))] [])) _
        refine XS.iload XL.here hx rfl (hb hby d3_3) rfl ?_
        show Steps p.tables e below (T.setTop (mkF m 5 #[.val (.ref a0), .val (.int (Int32.ofNat ax)), .val (.ref a2), .val (.int (Int32.ofNat bx)), .val (.int (Int32.ofNat n)), .val (.int (Int32.ofNat i))] [(.int (Int32.ofNat i))])) _
        refine XS.iload XL.here hx rfl (hb hby d3_5) rfl ?_
        show Steps p.tables e below (T.setTop (mkF m 7 #[.val (.ref a0), .val (.int (Int32.ofNat ax)), .val (.ref a2), .val (.int (Int32.ofNat bx)), .val (.int (Int32.ofNat n)), .val (.int (Int32.ofNat i))] [(.int (Int32.ofNat n)), (.int (Int32.ofNat i))])) _
        refine XS.icmpYes XL.here hx rfl (pc0 := 7) (pc' := 34) rfl (hb hby d3_7) rfl (flt (own_nlt (by omega) (by omega) (by omega) : ¬ ((Int32.ofNat i) < (Int32.ofNat n)))).2.1 (by decide) (by decide) ?_
        show Steps p.tables e below (T.setTop (mkF m 34 #[.val (.ref a0), .val (.int (Int32.ofNat ax)), .val (.ref a2), .val (.int (Int32.ofNat bx)), .val (.int (Int32.ofNat n)), .val (.int (Int32.ofNat i))] [])) _
        refine XS.iconst XL.here hx rfl (hb hby d3_34) ?_
        exact kt
      obtain ⟨fs, hr, hrun, hended, hW, hsame⟩ := XL.leave (v := some (.int (1 : Int32))) (fun h => by rw [Bd.returns] at h; cases h)
      refine ⟨_, _, ?_, hrun, hended, _, _, rfl, ?_, ⟨_, rfl⟩, hW, hsame.mono (by decide) (by decide)⟩
      · exact retN XL hx (t := .boolean) Bd.returns (by simp) (hb hby d3_35) hr
      · skip
        exact ⟨rfl, NL, eL⟩
    | succ k ih =>
      intro i T locs hk XL eL NL
      refine own_go (S' := T.setTop (mkF m 15 #[.val (.ref a0), .val (.int (Int32.ofNat ax)), .val (.ref a2), .val (.int (Int32.ofNat bx)), .val (.int (Int32.ofNat n)), .val (.int (Int32.ofNat i))] [(.int ((Int32.ofNat ax) + (Int32.ofNat i))), (.ref a0)])) (fun target kt => ?_) ?_
      · skip
        show Steps p.tables e below (T.setTop (mkF m 3 #[.val (.ref a0), .val (.int (Int32.ofNat ax)), .val (.ref a2), .val (.int (Int32.ofNat bx)), .val (.int (Int32.ofNat n)), .val (.int (Int32.ofNat i))] [])) _
        refine XS.iload XL.here hx rfl (hb hby d3_3) rfl ?_
        show Steps p.tables e below (T.setTop (mkF m 5 #[.val (.ref a0), .val (.int (Int32.ofNat ax)), .val (.ref a2), .val (.int (Int32.ofNat bx)), .val (.int (Int32.ofNat n)), .val (.int (Int32.ofNat i))] [(.int (Int32.ofNat i))])) _
        refine XS.iload XL.here hx rfl (hb hby d3_5) rfl ?_
        show Steps p.tables e below (T.setTop (mkF m 7 #[.val (.ref a0), .val (.int (Int32.ofNat ax)), .val (.ref a2), .val (.int (Int32.ofNat bx)), .val (.int (Int32.ofNat n)), .val (.int (Int32.ofNat i))] [(.int (Int32.ofNat n)), (.int (Int32.ofNat i))])) _
        refine XS.icmpNo XL.here hx rfl (hb hby d3_7) rfl (tlt (own_lt (by omega) (by omega) : (Int32.ofNat i) < (Int32.ofNat n))).2.1 ?_
        show Steps p.tables e below (T.setTop (mkF m 10 #[.val (.ref a0), .val (.int (Int32.ofNat ax)), .val (.ref a2), .val (.int (Int32.ofNat bx)), .val (.int (Int32.ofNat n)), .val (.int (Int32.ofNat i))] [])) _
        refine XS.aloadN XL.here hx rfl (hb hby d3_10) rfl rfl ?_
        show Steps p.tables e below (T.setTop (mkF m 11 #[.val (.ref a0), .val (.int (Int32.ofNat ax)), .val (.ref a2), .val (.int (Int32.ofNat bx)), .val (.int (Int32.ofNat n)), .val (.int (Int32.ofNat i))] [(.ref a0)])) _
        refine XS.iloadN XL.here hx rfl (hb hby d3_11) rfl ?_
        show Steps p.tables e below (T.setTop (mkF m 12 #[.val (.ref a0), .val (.int (Int32.ofNat ax)), .val (.ref a2), .val (.int (Int32.ofNat bx)), .val (.int (Int32.ofNat n)), .val (.int (Int32.ofNat i))] [(.int (Int32.ofNat ax)), (.ref a0)])) _
        refine XS.iload XL.here hx rfl (hb hby d3_12) rfl ?_
        show Steps p.tables e below (T.setTop (mkF m 14 #[.val (.ref a0), .val (.int (Int32.ofNat ax)), .val (.ref a2), .val (.int (Int32.ofNat bx)), .val (.int (Int32.ofNat n)), .val (.int (Int32.ofNat i))] [(.int (Int32.ofNat i)), (.int (Int32.ofNat ax)), (.ref a0)])) _
        refine XS.iadd XL.here hx rfl (hb hby d3_14) rfl ?_
        exact kt
      obtain ⟨c3, Ar3, S3, M3, H3⟩ := id pf0
      have hj3 : ¬ ((Int32.ofNat ax) + (Int32.ofNat i)) < 0 ∧ (((Int32.ofNat ax) + (Int32.ofNat i))).toNatClampNeg < 5 := (own_inb2 (by omega))
      have st3 : ∀ target, Steps p.tables e below (T.setTop (mkF m 16 #[.val (.ref a0), .val (.int (Int32.ofNat ax)), .val (.ref a2), .val (.int (Int32.ofNat bx)), .val (.int (Int32.ofNat n)), .val (.int (Int32.ofNat i))] [(.double (da (((Int32.ofNat ax) + (Int32.ofNat i))).toNatClampNeg))])) target → Steps p.tables e below (T.setTop (mkF m 15 #[.val (.ref a0), .val (.int (Int32.ofNat ax)), .val (.ref a2), .val (.int (Int32.ofNat bx)), .val (.int (Int32.ofNat n)), .val (.int (Int32.ofNat i))] [(.int ((Int32.ofNat ax) + (Int32.ofNat i))), (.ref a0)])) target := fun target kt => XL.daload hx (j := ((Int32.ofNat ax) + (Int32.ofNat i))) (v := (.double (da (((Int32.ofNat ax) + (Int32.ofNat i))).toNatClampNeg))) (by rw [eL]; exact Ar3.1) (State.isArrayOf_alike hZ.alike Ar3.2.1) Ar3.2.2 (own_in S3 hj3) (H3 _ hj3.2) (g := (mkF m 15 #[.val (.ref a0), .val (.int (Int32.ofNat ax)), .val (.ref a2), .val (.int (Int32.ofNat bx)), .val (.int (Int32.ofNat n)), .val (.int (Int32.ofNat i))] [(.int ((Int32.ofNat ax) + (Int32.ofNat i))), (.ref a0)])) rfl rfl (hb hby d3_15) _ kt
      refine own_go (S' := T.setTop (mkF m 16 #[.val (.ref a0), .val (.int (Int32.ofNat ax)), .val (.ref a2), .val (.int (Int32.ofNat bx)), .val (.int (Int32.ofNat n)), .val (.int (Int32.ofNat i))] [(.double (da (((Int32.ofNat ax) + (Int32.ofNat i))).toNatClampNeg))])) st3 ?_
      rw [show (da (((Int32.ofNat ax) + (Int32.ofNat i))).toNatClampNeg) = (FP.i2d (ga (ax + i))) from (congrArg da (own_cl2 (by omega))).trans (ea _ (by omega))]
      refine own_go (S' := T.setTop (mkF m 21 #[.val (.ref a0), .val (.int (Int32.ofNat ax)), .val (.ref a2), .val (.int (Int32.ofNat bx)), .val (.int (Int32.ofNat n)), .val (.int (Int32.ofNat i))] [(.int ((Int32.ofNat bx) + (Int32.ofNat i))), (.ref a2), (.double (FP.i2d (ga (ax + i))))])) (fun target kt => ?_) ?_
      · skip
        show Steps p.tables e below (T.setTop (mkF m 16 #[.val (.ref a0), .val (.int (Int32.ofNat ax)), .val (.ref a2), .val (.int (Int32.ofNat bx)), .val (.int (Int32.ofNat n)), .val (.int (Int32.ofNat i))] [(.double (FP.i2d (ga (ax + i))))])) _
        refine XS.aloadN XL.here hx rfl (hb hby d3_16) rfl rfl ?_
        show Steps p.tables e below (T.setTop (mkF m 17 #[.val (.ref a0), .val (.int (Int32.ofNat ax)), .val (.ref a2), .val (.int (Int32.ofNat bx)), .val (.int (Int32.ofNat n)), .val (.int (Int32.ofNat i))] [(.ref a2), (.double (FP.i2d (ga (ax + i))))])) _
        refine XS.iloadN XL.here hx rfl (hb hby d3_17) rfl ?_
        show Steps p.tables e below (T.setTop (mkF m 18 #[.val (.ref a0), .val (.int (Int32.ofNat ax)), .val (.ref a2), .val (.int (Int32.ofNat bx)), .val (.int (Int32.ofNat n)), .val (.int (Int32.ofNat i))] [(.int (Int32.ofNat bx)), (.ref a2), (.double (FP.i2d (ga (ax + i))))])) _
        refine XS.iload XL.here hx rfl (hb hby d3_18) rfl ?_
        show Steps p.tables e below (T.setTop (mkF m 20 #[.val (.ref a0), .val (.int (Int32.ofNat ax)), .val (.ref a2), .val (.int (Int32.ofNat bx)), .val (.int (Int32.ofNat n)), .val (.int (Int32.ofNat i))] [(.int (Int32.ofNat i)), (.int (Int32.ofNat bx)), (.ref a2), (.double (FP.i2d (ga (ax + i))))])) _
        refine XS.iadd XL.here hx rfl (hb hby d3_20) rfl ?_
        exact kt
      obtain ⟨c4, Ar4, S4, M4, H4⟩ := id pf1
      have hj4 : ¬ ((Int32.ofNat bx) + (Int32.ofNat i)) < 0 ∧ (((Int32.ofNat bx) + (Int32.ofNat i))).toNatClampNeg < 5 := (own_inb2 (by omega))
      have st4 : ∀ target, Steps p.tables e below (T.setTop (mkF m 22 #[.val (.ref a0), .val (.int (Int32.ofNat ax)), .val (.ref a2), .val (.int (Int32.ofNat bx)), .val (.int (Int32.ofNat n)), .val (.int (Int32.ofNat i))] [(.double (db (((Int32.ofNat bx) + (Int32.ofNat i))).toNatClampNeg)), (.double (FP.i2d (ga (ax + i))))])) target → Steps p.tables e below (T.setTop (mkF m 21 #[.val (.ref a0), .val (.int (Int32.ofNat ax)), .val (.ref a2), .val (.int (Int32.ofNat bx)), .val (.int (Int32.ofNat n)), .val (.int (Int32.ofNat i))] [(.int ((Int32.ofNat bx) + (Int32.ofNat i))), (.ref a2), (.double (FP.i2d (ga (ax + i))))])) target := fun target kt => XL.daload hx (j := ((Int32.ofNat bx) + (Int32.ofNat i))) (v := (.double (db (((Int32.ofNat bx) + (Int32.ofNat i))).toNatClampNeg))) (by rw [eL]; exact Ar4.1) (State.isArrayOf_alike hZ.alike Ar4.2.1) Ar4.2.2 (own_in S4 hj4) (H4 _ hj4.2) (g := (mkF m 21 #[.val (.ref a0), .val (.int (Int32.ofNat ax)), .val (.ref a2), .val (.int (Int32.ofNat bx)), .val (.int (Int32.ofNat n)), .val (.int (Int32.ofNat i))] [(.int ((Int32.ofNat bx) + (Int32.ofNat i))), (.ref a2), (.double (FP.i2d (ga (ax + i))))])) rfl rfl (hb hby d3_21) _ kt
      refine own_go (S' := T.setTop (mkF m 22 #[.val (.ref a0), .val (.int (Int32.ofNat ax)), .val (.ref a2), .val (.int (Int32.ofNat bx)), .val (.int (Int32.ofNat n)), .val (.int (Int32.ofNat i))] [(.double (db (((Int32.ofNat bx) + (Int32.ofNat i))).toNatClampNeg)), (.double (FP.i2d (ga (ax + i))))])) st4 ?_
      rw [show (db (((Int32.ofNat bx) + (Int32.ofNat i))).toNatClampNeg) = (FP.i2d (gb (bx + i))) from (congrArg db (own_cl2 (by omega))).trans (eb _ (by omega))]
      by_cases hq : gb (bx + i) < ga (ax + i)
      · skip
        refine own_go (S' := T.setTop (mkF m 27 #[.val (.ref a0), .val (.int (Int32.ofNat ax)), .val (.ref a2), .val (.int (Int32.ofNat bx)), .val (.int (Int32.ofNat n)), .val (.int (Int32.ofNat i))] [(.int (0 : Int32))])) (fun target kt => ?_) ?_
        · skip
          show Steps p.tables e below (T.setTop (mkF m 22 #[.val (.ref a0), .val (.int (Int32.ofNat ax)), .val (.ref a2), .val (.int (Int32.ofNat bx)), .val (.int (Int32.ofNat n)), .val (.int (Int32.ofNat i))] [(.double (FP.i2d (gb (bx + i)))), (.double (FP.i2d (ga (ax + i))))])) _
          refine XS.dcmpS XL.here hx rfl (hb hby d3_22) rfl rfl ?_
          show Steps p.tables e below (T.setTop (mkF m 23 #[.val (.ref a0), .val (.int (Int32.ofNat ax)), .val (.ref a2), .val (.int (Int32.ofNat bx)), .val (.int (Int32.ofNat n)), .val (.int (Int32.ofNat i))] [(.int (cmpValue (FP.dcmp (FP.i2d (ga (ax + i))) (FP.i2d (gb (bx + i)))) .l))])) _
          refine XS.ifNo XL.here hx rfl (hb hby d3_23) rfl ((if0 _ _).trans (tlt (own_dc.mpr hq : (0 : Int32) < (cmpValue (FP.dcmp (FP.i2d (ga (ax + i))) (FP.i2d (gb (bx + i)))) .l))).2.2.2) ?_
          show Steps p.tables e below (T.setTop (mkF m 26 #[.val (.ref a0), .val (.int (Int32.ofNat ax)), .val (.ref a2), .val (.int (Int32.ofNat bx)), .val (.int (Int32.ofNat n)), .val (.int (Int32.ofNat i))] [])) _
          refine XS.iconst XL.here hx rfl (hb hby d3_26) ?_
          exact kt
        obtain ⟨fs, hr, hrun, hended, hW, hsame⟩ := XL.leave (v := some (.int (0 : Int32))) (fun h => by rw [Bd.returns] at h; cases h)
        refine ⟨_, _, ?_, hrun, hended, _, _, rfl, ?_, ⟨_, rfl⟩, hW, hsame.mono (by decide) (by decide)⟩
        · exact retN XL hx (t := .boolean) Bd.returns (by simp) (hb hby d3_27) hr
        · skip
          exact ⟨(by rw [own_wd, if_pos hq]), NL, eL⟩
      · skip
        obtain ⟨i1, h_i1⟩ : ∃ z : Int32, z = ((Int32.ofNat i) + (1 : Int32)) := ⟨_, rfl⟩
        refine own_go (S' := T.setTop (mkF m 31 #[.val (.ref a0), .val (.int (Int32.ofNat ax)), .val (.ref a2), .val (.int (Int32.ofNat bx)), .val (.int (Int32.ofNat n)), .val (.int i1)] [])) (fun target kt => ?_) ?_
        · subst h_i1
          show Steps p.tables e below (T.setTop (mkF m 22 #[.val (.ref a0), .val (.int (Int32.ofNat ax)), .val (.ref a2), .val (.int (Int32.ofNat bx)), .val (.int (Int32.ofNat n)), .val (.int (Int32.ofNat i))] [(.double (FP.i2d (gb (bx + i)))), (.double (FP.i2d (ga (ax + i))))])) _
          refine XS.dcmpS XL.here hx rfl (hb hby d3_22) rfl rfl ?_
          show Steps p.tables e below (T.setTop (mkF m 23 #[.val (.ref a0), .val (.int (Int32.ofNat ax)), .val (.ref a2), .val (.int (Int32.ofNat bx)), .val (.int (Int32.ofNat n)), .val (.int (Int32.ofNat i))] [(.int (cmpValue (FP.dcmp (FP.i2d (ga (ax + i))) (FP.i2d (gb (bx + i)))) .l))])) _
          refine XS.ifYes XL.here hx rfl (pc0 := 23) (pc' := 28) rfl (hb hby d3_23) rfl ((if0 _ _).trans (flt (mt own_dc.mp hq : ¬ ((0 : Int32) < (cmpValue (FP.dcmp (FP.i2d (ga (ax + i))) (FP.i2d (gb (bx + i)))) .l)))).2.2.2) (by decide) (by decide) ?_
          show Steps p.tables e below (T.setTop (mkF m 28 #[.val (.ref a0), .val (.int (Int32.ofNat ax)), .val (.ref a2), .val (.int (Int32.ofNat bx)), .val (.int (Int32.ofNat n)), .val (.int (Int32.ofNat i))] [])) _
          refine XS.iinc XL.here hx rfl (hb hby d3_28) rfl (l' := #[.val (.ref a0), .val (.int (Int32.ofNat ax)), .val (.ref a2), .val (.int (Int32.ofNat bx)), .val (.int (Int32.ofNat n)), .val (.int ((Int32.ofNat i) + (1 : Int32)))]) rfl ?_
          exact kt
        have hb_i1 : i1 = (Int32.ofNat (i + 1)) := h_i1.trans (own_one i)
        subst hb_i1
        refine own_go (S' := T.setTop (mkF m 3 #[.val (.ref a0), .val (.int (Int32.ofNat ax)), .val (.ref a2), .val (.int (Int32.ofNat bx)), .val (.int (Int32.ofNat n)), .val (.int (Int32.ofNat (i + 1)))] [])) (fun target kt => ?_) ?_
        · skip
          show Steps p.tables e below (T.setTop (mkF m 31 #[.val (.ref a0), .val (.int (Int32.ofNat ax)), .val (.ref a2), .val (.int (Int32.ofNat bx)), .val (.int (Int32.ofNat n)), .val (.int (Int32.ofNat (i + 1)))] [])) _
          refine XS.goto XL.here hx rfl (pc0 := 31) (pc' := 3) rfl (hb hby d3_31) (by decide) (by decide) ?_
          exact kt
        obtain ⟨s₂, o, r1, r2, r3, v, LL, r4, ⟨r5, r6⟩, r8⟩ := ih (i + 1) T _ (by omega) XL eL NL
        exact ⟨s₂, o, r1, r2, r3, v, LL, r4, ⟨r5.trans (by rw [own_wd, if_neg hq]), r6⟩, r8⟩
  exact own_loop n 0 s₁ _ (by omega) X0 e0 N0
theorem own_n {x nn : Int32} (h : nn = ((x &&& (2147483647 : Int32)) % (6 : Int32))) : ∃ n : Nat, n ≤ 5 ∧ nn = (Int32.ofNat n) := by
  have e := Jvm.Kit.i32_mask x 2147483647 (k := 31) (by decide) (by decide)
  have k6 : (6 : Int32).toInt = 6 := by decide
  have hn : nn.toInt = (x &&& (2147483647 : Int32)).toInt % 6 := by rw [h, own_m32 (by omega), k6]
  refine ⟨nn.toInt.toNat, by omega, Int32.toInt_inj.mp ?_⟩
  rw [own_ofn (by omega)]
  omega
theorem own_6 {n : Nat} (hn : n ≤ 5) : ((6 : Int32) - (Int32.ofNat n)).toInt = 6 - n := by
  have k6 : (6 : Int32).toInt = 6 := by decide
  rw [Jvm.Kit.i32_sub (by rw [k6, own_ofn (by omega)]; omega) (by rw [k6, own_ofn (by omega)]; omega), k6, own_ofn (by omega)]
theorem own_nz {n : Nat} (hn : n ≤ 5) : ((6 : Int32) - (Int32.ofNat n)) ≠ 0 := fun h => by
  have := congrArg Int32.toInt h
  rw [own_6 hn, show (0 : Int32).toInt = 0 from rfl] at this
  omega
theorem own_af {n : Nat} {x af : Int32} (hn : n ≤ 5) (h : af = ((x &&& (2147483647 : Int32)) % ((6 : Int32) - (Int32.ofNat n)))) : ∃ a : Nat, a + n ≤ 5 ∧ af = (Int32.ofNat a) := by
  have e := Jvm.Kit.i32_mask x 2147483647 (k := 31) (by decide) (by decide)
  have hc : af.toInt = (x &&& (2147483647 : Int32)).toInt % (6 - n) := by rw [h, own_m32 (by omega), own_6 hn]
  have h1 := Int.emod_lt_of_pos (x &&& (2147483647 : Int32)).toInt (b := (6 - n : Int)) (by omega)
  have h2 := Int.emod_nonneg (x &&& (2147483647 : Int32)).toInt (b := (6 - n : Int)) (by omega)
  refine ⟨af.toInt.toNat, by omega, Int32.toInt_inj.mp ?_⟩
  rw [own_ofn (by omega)]
  omega
theorem own_okb {a b n K : Nat} {k : Int32} (hA : a + n ≤ 5) (hB : b + n ≤ 5) (hk : k = (Int32.ofNat K)) (hK : K ≤ 100) (h : k < (Int32.ofNat n)) : own_in2 (Int32.ofNat a) (Int32.ofNat b) k := by
  subst hk
  rw [Int32.lt_iff_toInt_lt, own_ofn (by omega), own_ofn (by omega)] at h
  exact ⟨own_inb2 (by omega), own_inb2 (by omega)⟩
theorem own_okp {a b n K : Nat} {G H : Nat → Int32} (hA : a + n ≤ 5) (hB : b + n ≤ 5) (hK : K ≤ 100) : own_ok (Int32.ofNat a) (Int32.ofNat b) (Int32.ofNat n) (Int32.ofNat K) G H = if K < n then (if H (b + K) < G (a + K) then (0 : Int32) else (1 : Int32)) else (1 : Int32) := by
  unfold own_ok
  rw [own_cl2 (by omega), own_cl2 (by omega)]
  by_cases c : Int32.ofNat K < Int32.ofNat n
  · have q : K < n := by rw [Int32.lt_iff_toInt_lt, own_ofn (by omega), own_ofn (by omega)] at c; omega
    rw [if_pos c, if_pos q]
  · have q : ¬ K < n := by rw [Int32.lt_iff_toInt_lt, own_ofn (by omega), own_ofn (by omega)] at c; omega
    rw [if_neg c, if_neg q]
theorem own_exok {a b n : Nat} {G H : Nat → Int32} {da : Nat → UInt64} (h : da = own_upd (own_upd (own_upd (own_upd (own_upd (fun _ => 0) 0 (FP.i2d (G 0))) 1 (FP.i2d (G 1))) 2 (FP.i2d (G 2))) 3 (FP.i2d (G 3))) 4 (FP.i2d (G 4))) : ∀ j, j < 5 → da j = FP.i2d (G j) := by
  intro j hj
  have c : j = 0 ∨ j = 1 ∨ j = 2 ∨ j = 3 ∨ j = 4 := by omega
  subst h
  rcases c with rfl | rfl | rfl | rfl | rfl <;> rfl
theorem own_ifz {P : Prop} [Decidable P] {α : Type} (x y : α) : (if (if P then (0 : Int32) else (1 : Int32)) = (0 : Int32) then x else y) = if P then x else y := by
  by_cases p : P
  · rw [if_pos p, if_pos p, if_pos rfl]
  · rw [if_neg p, if_neg p, if_neg (by decide)]
theorem own_fin {a b n : Nat} {G H : Nat → Int32} {ex : Int32} (hA : a + n ≤ 5) (hB : b + n ≤ 5)
    (h : ex = (if (own_ok (Int32.ofNat a) (Int32.ofNat b) (Int32.ofNat n) (0 : Int32) G H) = (0 : Int32) then (0 : Int32) else (if (own_ok (Int32.ofNat a) (Int32.ofNat b) (Int32.ofNat n) (1 : Int32) G H) = (0 : Int32) then (0 : Int32) else (if (own_ok (Int32.ofNat a) (Int32.ofNat b) (Int32.ofNat n) (2 : Int32) G H) = (0 : Int32) then (0 : Int32) else (if (own_ok (Int32.ofNat a) (Int32.ofNat b) (Int32.ofNat n) (3 : Int32) G H) = (0 : Int32) then (0 : Int32) else (if (own_ok (Int32.ofNat a) (Int32.ofNat b) (Int32.ofNat n) (4 : Int32) G H) = (0 : Int32) then (0 : Int32) else (1 : Int32))))))) : ex = own_wd G H a b n 0 := by
  have e0 : own_ok (Int32.ofNat a) (Int32.ofNat b) (Int32.ofNat n) (0 : Int32) G H = _ := own_okp (K := 0) hA hB (by omega)
  have e1 : own_ok (Int32.ofNat a) (Int32.ofNat b) (Int32.ofNat n) (1 : Int32) G H = _ := own_okp (K := 1) hA hB (by omega)
  have e2 : own_ok (Int32.ofNat a) (Int32.ofNat b) (Int32.ofNat n) (2 : Int32) G H = _ := own_okp (K := 2) hA hB (by omega)
  have e3 : own_ok (Int32.ofNat a) (Int32.ofNat b) (Int32.ofNat n) (3 : Int32) G H = _ := own_okp (K := 3) hA hB (by omega)
  have e4 : own_ok (Int32.ofNat a) (Int32.ofNat b) (Int32.ofNat n) (4 : Int32) G H = _ := own_okp (K := 4) hA hB (by omega)
  rw [e0, e1, e2, e3, e4] at h
  rw [h]
  have d : ¬ (1 : Int32) = (0 : Int32) := by decide
  have c : n = 0 ∨ n = 1 ∨ n = 2 ∨ n = 3 ∨ n = 4 ∨ n = 5 := by omega
  rcases c with rfl | rfl | rfl | rfl | rfl | rfl <;> simp [own_wd, own_ifz, d]

theorem own_pd0 : parseMethodDescriptor "(JI)I" = some ⟨[.long, .int], some .int⟩ := by decide +kernel
theorem own_pd1 : parseMethodDescriptor "([II[IIII)Z" = some ⟨[(.array .int), .int, (.array .int), .int, .int, .int], some .boolean⟩ := by decide +kernel
theorem own_pd2 : parseMethodDescriptor "([DI[DII)Z" = some ⟨[(.array .double), .int, (.array .double), .int, .int], some .boolean⟩ := by decide +kernel
set_option maxHeartbeats 40000000 in
theorem own_ef_rm0 (m : MethodId) (x0 : Int64) (x1 : Int64) (x2 : Int32) (x3 : Int32) (x4 : Int32) : entryFrame m #[(.long x0), (.long x1), (.int x2), (.int x3), (.int x4)] maxLocals = mkF m 0 #[.val (.long x0), .second, .val (.long x1), .second, .val (.int x2), .val (.int x3), .val (.int x4), .unset, .unset, .unset, .unset, .unset, .unset, .unset, .unset, .unset] [] := by first | (simp [entryFrame, mkF, argsToLocals, Value.category, maxLocals]; done) | rfl
def Q0 (Z : State) (q0 : Int64) (q1 : Int64) (p2 : Int32) (p3 : Int32) (p4 : Int32) (h0 : Heap) (n0 : Nat) (v : Option Value) (h : Heap) (L : List Loc) : Prop := v = some (.int 1) ∧ Fr n0 L
set_option maxRecDepth 65536 in
set_option maxHeartbeats 40000000 in
theorem rm0 (l : Launch) (Z : State) (aZ : Array Value) (hw : ∀ d ∈ tables_1, d.before aZ Z = true) (ws : List Jvm.Cond) (q0 : Int64) (q1 : Int64) (p2 : Int32) (p3 : Int32) (p4 : Int32) (h0 : Heap) (n0 : Nat) (Z0 : n0 ≤ h0.size) :
    MetFree l x (head1 (Jvm.Cond.code x code maxLocals ret :: ws) room_1) (fun a U => a = #[(.long q0), (.long q1), (.int p2), (.int p3), (.int p4)] ∧ Z.Warmed39 U.vm ∧ U.heap = h0) (fun _ _ _ _ _ => True) (fun _ U o U' => ∃ v L, o = .returned v ∧ Q0 Z q0 q1 p2 p3 p4 h0 n0 v U'.heap L ∧ FrameEnd U o U' L room_1.cells room_1.slots) := by
  refine MetFree.of_bodySF (plainFor_of_name own_pn0) hisR ?_
  intro p e s m args below meth c s₁ Bd hml0 hP hK
  obtain ⟨rfl, hZ, hh⟩ := hP
  have hx := Bd.exec
  have hby := Bd.bytes
  have hml : c.maxLocals = 16 := hml0
  have hown : s.vm.findClass "com/example/paretoforge/paretoforge/core/DominanceWeaklyDominatesPinLaw" = some m.cls := findClass_of_methodNamed Bd.named
  have hnm := (name_of_methodNamed Bd.named Bd.method).1
  have X0 : Stand p l e room_1 s m #[(.long q0), (.long q1), (.int p2), (.int p3), (.int p4)] below meth c s₁ [] 0 0 := Stand.of_body Bd
  have e0 : s₁.heap = h0 := by rw [← hh, Bd.state]; rfl
  have N0 := Fr.nil n0
  refine own_go (S' := s₁.setTop (mkF m 0 #[.val (.long q0), .second, .val (.long q1), .second, .val (.int p2), .val (.int p3), .val (.int p4), .unset, .unset, .unset, .unset, .unset, .unset, .unset, .unset, .unset] [])) (fun tt0 kk0 => castTop (own_ef_rm0 m q0 q1 p2 p3 p4) kk0) ?_
  obtain ⟨nn, h_nn⟩ : ∃ z : Int32, z = ((p2 &&& (2147483647 : Int32)) % (6 : Int32)) := ⟨_, rfl⟩
  refine own_go (S' := s₁.setTop (mkF m 10 #[.val (.long q0), .second, .val (.long q1), .second, .val (.int p2), .val (.int p3), .val (.int p4), .val (.int nn), .unset, .unset, .unset, .unset, .unset, .unset, .unset, .unset] [])) (fun target kt => ?_) ?_
  · subst h_nn
    show Steps p.tables e below (s₁.setTop (mkF m 0 #[.val (.long q0), .second, .val (.long q1), .second, .val (.int p2), .val (.int p3), .val (.int p4), .unset, .unset, .unset, .unset, .unset, .unset, .unset, .unset, .unset] [])) _
    refine XS.iload X0.here hx rfl (hb hby at_0) rfl ?_
    show Steps p.tables e below (s₁.setTop (mkF m 2 #[.val (.long q0), .second, .val (.long q1), .second, .val (.int p2), .val (.int p3), .val (.int p4), .unset, .unset, .unset, .unset, .unset, .unset, .unset, .unset, .unset] [(.int p2)])) _
    refine X0.ldcInt hx hown (mvT hZ (hw _ (List.mem_of_getElem? (i := 0) rfl))) (g := (mkF m 2 #[.val (.long q0), .second, .val (.long q1), .second, .val (.int p2), .val (.int p3), .val (.int p4), .unset, .unset, .unset, .unset, .unset, .unset, .unset, .unset, .unset] [(.int p2)])) rfl (hb hby at_2) _ ?_
    show Steps p.tables e below (s₁.setTop (mkF m 4 #[.val (.long q0), .second, .val (.long q1), .second, .val (.int p2), .val (.int p3), .val (.int p4), .unset, .unset, .unset, .unset, .unset, .unset, .unset, .unset, .unset] [(.int (2147483647 : Int32)), (.int p2)])) _
    refine XS.iand X0.here hx rfl (hb hby at_4) rfl ?_
    show Steps p.tables e below (s₁.setTop (mkF m 5 #[.val (.long q0), .second, .val (.long q1), .second, .val (.int p2), .val (.int p3), .val (.int p4), .unset, .unset, .unset, .unset, .unset, .unset, .unset, .unset, .unset] [(.int (p2 &&& (2147483647 : Int32)))])) _
    refine XS.bipush X0.here hx rfl (hb hby at_5) ?_
    show Steps p.tables e below (s₁.setTop (mkF m 7 #[.val (.long q0), .second, .val (.long q1), .second, .val (.int p2), .val (.int p3), .val (.int p4), .unset, .unset, .unset, .unset, .unset, .unset, .unset, .unset, .unset] [(.int (6 : Int32)), (.int (p2 &&& (2147483647 : Int32)))])) _
    refine iremM (g := (mkF m 7 #[.val (.long q0), .second, .val (.long q1), .second, .val (.int p2), .val (.int p3), .val (.int p4), .unset, .unset, .unset, .unset, .unset, .unset, .unset, .unset, .unset] [(.int (6 : Int32)), (.int (p2 &&& (2147483647 : Int32)))])) X0 hx rfl (hb hby at_7) rfl (by decide) ?_
    show Steps p.tables e below (s₁.setTop (mkF m 8 #[.val (.long q0), .second, .val (.long q1), .second, .val (.int p2), .val (.int p3), .val (.int p4), .unset, .unset, .unset, .unset, .unset, .unset, .unset, .unset, .unset] [(.int ((p2 &&& (2147483647 : Int32)) % (6 : Int32)))])) _
    refine XS.istore X0.here hx rfl (hb hby at_8) rfl (l' := #[.val (.long q0), .second, .val (.long q1), .second, .val (.int p2), .val (.int p3), .val (.int p4), .val (.int ((p2 &&& (2147483647 : Int32)) % (6 : Int32))), .unset, .unset, .unset, .unset, .unset, .unset, .unset, .unset]) rfl ?_
    exact kt
  obtain ⟨n, hn5, hnn⟩ := own_n h_nn
  have hb_nn : nn = (Int32.ofNat n) := hnn
  subst hb_nn
  obtain ⟨af, h_af⟩ : ∃ z : Int32, z = ((p3 &&& (2147483647 : Int32)) % ((6 : Int32) - (Int32.ofNat n))) := ⟨_, rfl⟩
  refine own_go (S' := s₁.setTop (mkF m 23 #[.val (.long q0), .second, .val (.long q1), .second, .val (.int p2), .val (.int p3), .val (.int p4), .val (.int (Int32.ofNat n)), .val (.int af), .unset, .unset, .unset, .unset, .unset, .unset, .unset] [])) (fun target kt => ?_) ?_
  · subst h_af
    show Steps p.tables e below (s₁.setTop (mkF m 10 #[.val (.long q0), .second, .val (.long q1), .second, .val (.int p2), .val (.int p3), .val (.int p4), .val (.int (Int32.ofNat n)), .unset, .unset, .unset, .unset, .unset, .unset, .unset, .unset] [])) _
    refine XS.iload X0.here hx rfl (hb hby at_10) rfl ?_
    show Steps p.tables e below (s₁.setTop (mkF m 12 #[.val (.long q0), .second, .val (.long q1), .second, .val (.int p2), .val (.int p3), .val (.int p4), .val (.int (Int32.ofNat n)), .unset, .unset, .unset, .unset, .unset, .unset, .unset, .unset] [(.int p3)])) _
    refine X0.ldcInt hx hown (mvT hZ (hw _ (List.mem_of_getElem? (i := 0) rfl))) (g := (mkF m 12 #[.val (.long q0), .second, .val (.long q1), .second, .val (.int p2), .val (.int p3), .val (.int p4), .val (.int (Int32.ofNat n)), .unset, .unset, .unset, .unset, .unset, .unset, .unset, .unset] [(.int p3)])) rfl (hb hby at_12) _ ?_
    show Steps p.tables e below (s₁.setTop (mkF m 14 #[.val (.long q0), .second, .val (.long q1), .second, .val (.int p2), .val (.int p3), .val (.int p4), .val (.int (Int32.ofNat n)), .unset, .unset, .unset, .unset, .unset, .unset, .unset, .unset] [(.int (2147483647 : Int32)), (.int p3)])) _
    refine XS.iand X0.here hx rfl (hb hby at_14) rfl ?_
    show Steps p.tables e below (s₁.setTop (mkF m 15 #[.val (.long q0), .second, .val (.long q1), .second, .val (.int p2), .val (.int p3), .val (.int p4), .val (.int (Int32.ofNat n)), .unset, .unset, .unset, .unset, .unset, .unset, .unset, .unset] [(.int (p3 &&& (2147483647 : Int32)))])) _
    refine XS.bipush X0.here hx rfl (hb hby at_15) ?_
    show Steps p.tables e below (s₁.setTop (mkF m 17 #[.val (.long q0), .second, .val (.long q1), .second, .val (.int p2), .val (.int p3), .val (.int p4), .val (.int (Int32.ofNat n)), .unset, .unset, .unset, .unset, .unset, .unset, .unset, .unset] [(.int (6 : Int32)), (.int (p3 &&& (2147483647 : Int32)))])) _
    refine XS.iload X0.here hx rfl (hb hby at_17) rfl ?_
    show Steps p.tables e below (s₁.setTop (mkF m 19 #[.val (.long q0), .second, .val (.long q1), .second, .val (.int p2), .val (.int p3), .val (.int p4), .val (.int (Int32.ofNat n)), .unset, .unset, .unset, .unset, .unset, .unset, .unset, .unset] [(.int (Int32.ofNat n)), (.int (6 : Int32)), (.int (p3 &&& (2147483647 : Int32)))])) _
    refine XS.isub X0.here hx rfl (hb hby at_19) rfl ?_
    show Steps p.tables e below (s₁.setTop (mkF m 20 #[.val (.long q0), .second, .val (.long q1), .second, .val (.int p2), .val (.int p3), .val (.int p4), .val (.int (Int32.ofNat n)), .unset, .unset, .unset, .unset, .unset, .unset, .unset, .unset] [(.int ((6 : Int32) - (Int32.ofNat n))), (.int (p3 &&& (2147483647 : Int32)))])) _
    refine iremM (g := (mkF m 20 #[.val (.long q0), .second, .val (.long q1), .second, .val (.int p2), .val (.int p3), .val (.int p4), .val (.int (Int32.ofNat n)), .unset, .unset, .unset, .unset, .unset, .unset, .unset, .unset] [(.int ((6 : Int32) - (Int32.ofNat n))), (.int (p3 &&& (2147483647 : Int32)))])) X0 hx rfl (hb hby at_20) rfl (own_nz hn5) ?_
    show Steps p.tables e below (s₁.setTop (mkF m 21 #[.val (.long q0), .second, .val (.long q1), .second, .val (.int p2), .val (.int p3), .val (.int p4), .val (.int (Int32.ofNat n)), .unset, .unset, .unset, .unset, .unset, .unset, .unset, .unset] [(.int ((p3 &&& (2147483647 : Int32)) % ((6 : Int32) - (Int32.ofNat n))))])) _
    refine XS.istore X0.here hx rfl (hb hby at_21) rfl (l' := #[.val (.long q0), .second, .val (.long q1), .second, .val (.int p2), .val (.int p3), .val (.int p4), .val (.int (Int32.ofNat n)), .val (.int ((p3 &&& (2147483647 : Int32)) % ((6 : Int32) - (Int32.ofNat n)))), .unset, .unset, .unset, .unset, .unset, .unset, .unset]) rfl ?_
    exact kt
  obtain ⟨a, hA, haf⟩ := own_af hn5 h_af
  have hb_af : af = (Int32.ofNat a) := haf
  subst hb_af
  obtain ⟨bf, h_bf⟩ : ∃ z : Int32, z = ((p4 &&& (2147483647 : Int32)) % ((6 : Int32) - (Int32.ofNat n))) := ⟨_, rfl⟩
  refine own_go (S' := s₁.setTop (mkF m 36 #[.val (.long q0), .second, .val (.long q1), .second, .val (.int p2), .val (.int p3), .val (.int p4), .val (.int (Int32.ofNat n)), .val (.int (Int32.ofNat a)), .val (.int bf), .unset, .unset, .unset, .unset, .unset, .unset] [])) (fun target kt => ?_) ?_
  · subst h_bf
    show Steps p.tables e below (s₁.setTop (mkF m 23 #[.val (.long q0), .second, .val (.long q1), .second, .val (.int p2), .val (.int p3), .val (.int p4), .val (.int (Int32.ofNat n)), .val (.int (Int32.ofNat a)), .unset, .unset, .unset, .unset, .unset, .unset, .unset] [])) _
    refine XS.iload X0.here hx rfl (hb hby at_23) rfl ?_
    show Steps p.tables e below (s₁.setTop (mkF m 25 #[.val (.long q0), .second, .val (.long q1), .second, .val (.int p2), .val (.int p3), .val (.int p4), .val (.int (Int32.ofNat n)), .val (.int (Int32.ofNat a)), .unset, .unset, .unset, .unset, .unset, .unset, .unset] [(.int p4)])) _
    refine X0.ldcInt hx hown (mvT hZ (hw _ (List.mem_of_getElem? (i := 0) rfl))) (g := (mkF m 25 #[.val (.long q0), .second, .val (.long q1), .second, .val (.int p2), .val (.int p3), .val (.int p4), .val (.int (Int32.ofNat n)), .val (.int (Int32.ofNat a)), .unset, .unset, .unset, .unset, .unset, .unset, .unset] [(.int p4)])) rfl (hb hby at_25) _ ?_
    show Steps p.tables e below (s₁.setTop (mkF m 27 #[.val (.long q0), .second, .val (.long q1), .second, .val (.int p2), .val (.int p3), .val (.int p4), .val (.int (Int32.ofNat n)), .val (.int (Int32.ofNat a)), .unset, .unset, .unset, .unset, .unset, .unset, .unset] [(.int (2147483647 : Int32)), (.int p4)])) _
    refine XS.iand X0.here hx rfl (hb hby at_27) rfl ?_
    show Steps p.tables e below (s₁.setTop (mkF m 28 #[.val (.long q0), .second, .val (.long q1), .second, .val (.int p2), .val (.int p3), .val (.int p4), .val (.int (Int32.ofNat n)), .val (.int (Int32.ofNat a)), .unset, .unset, .unset, .unset, .unset, .unset, .unset] [(.int (p4 &&& (2147483647 : Int32)))])) _
    refine XS.bipush X0.here hx rfl (hb hby at_28) ?_
    show Steps p.tables e below (s₁.setTop (mkF m 30 #[.val (.long q0), .second, .val (.long q1), .second, .val (.int p2), .val (.int p3), .val (.int p4), .val (.int (Int32.ofNat n)), .val (.int (Int32.ofNat a)), .unset, .unset, .unset, .unset, .unset, .unset, .unset] [(.int (6 : Int32)), (.int (p4 &&& (2147483647 : Int32)))])) _
    refine XS.iload X0.here hx rfl (hb hby at_30) rfl ?_
    show Steps p.tables e below (s₁.setTop (mkF m 32 #[.val (.long q0), .second, .val (.long q1), .second, .val (.int p2), .val (.int p3), .val (.int p4), .val (.int (Int32.ofNat n)), .val (.int (Int32.ofNat a)), .unset, .unset, .unset, .unset, .unset, .unset, .unset] [(.int (Int32.ofNat n)), (.int (6 : Int32)), (.int (p4 &&& (2147483647 : Int32)))])) _
    refine XS.isub X0.here hx rfl (hb hby at_32) rfl ?_
    show Steps p.tables e below (s₁.setTop (mkF m 33 #[.val (.long q0), .second, .val (.long q1), .second, .val (.int p2), .val (.int p3), .val (.int p4), .val (.int (Int32.ofNat n)), .val (.int (Int32.ofNat a)), .unset, .unset, .unset, .unset, .unset, .unset, .unset] [(.int ((6 : Int32) - (Int32.ofNat n))), (.int (p4 &&& (2147483647 : Int32)))])) _
    refine iremM (g := (mkF m 33 #[.val (.long q0), .second, .val (.long q1), .second, .val (.int p2), .val (.int p3), .val (.int p4), .val (.int (Int32.ofNat n)), .val (.int (Int32.ofNat a)), .unset, .unset, .unset, .unset, .unset, .unset, .unset] [(.int ((6 : Int32) - (Int32.ofNat n))), (.int (p4 &&& (2147483647 : Int32)))])) X0 hx rfl (hb hby at_33) rfl (own_nz hn5) ?_
    show Steps p.tables e below (s₁.setTop (mkF m 34 #[.val (.long q0), .second, .val (.long q1), .second, .val (.int p2), .val (.int p3), .val (.int p4), .val (.int (Int32.ofNat n)), .val (.int (Int32.ofNat a)), .unset, .unset, .unset, .unset, .unset, .unset, .unset] [(.int ((p4 &&& (2147483647 : Int32)) % ((6 : Int32) - (Int32.ofNat n))))])) _
    refine XS.istore X0.here hx rfl (hb hby at_34) rfl (l' := #[.val (.long q0), .second, .val (.long q1), .second, .val (.int p2), .val (.int p3), .val (.int p4), .val (.int (Int32.ofNat n)), .val (.int (Int32.ofNat a)), .val (.int ((p4 &&& (2147483647 : Int32)) % ((6 : Int32) - (Int32.ofNat n)))), .unset, .unset, .unset, .unset, .unset, .unset]) rfl ?_
    exact kt
  obtain ⟨b, hB, hbf⟩ := own_af hn5 h_bf
  have hb_bf : bf = (Int32.ofNat b) := hbf
  subst hb_bf
  refine own_go (S' := s₁.setTop (mkF m 37 #[.val (.long q0), .second, .val (.long q1), .second, .val (.int p2), .val (.int p3), .val (.int p4), .val (.int (Int32.ofNat n)), .val (.int (Int32.ofNat a)), .val (.int (Int32.ofNat b)), .unset, .unset, .unset, .unset, .unset, .unset] [(.int (5 : Int32))])) (fun target kt => ?_) ?_
  · skip
    show Steps p.tables e below (s₁.setTop (mkF m 36 #[.val (.long q0), .second, .val (.long q1), .second, .val (.int p2), .val (.int p3), .val (.int p4), .val (.int (Int32.ofNat n)), .val (.int (Int32.ofNat a)), .val (.int (Int32.ofNat b)), .unset, .unset, .unset, .unset, .unset, .unset] [])) _
    refine XS.iconst X0.here hx rfl (hb hby at_36) ?_
    exact kt
  obtain ⟨T5, h5, k5, X5, e5, E5, A5, B5, st5⟩ := newPE X0 hx hZ (hw _ (List.mem_of_getElem? (i := 1) rfl)) e0 (g := (mkF m 37 #[.val (.long q0), .second, .val (.long q1), .second, .val (.int p2), .val (.int p3), .val (.int p4), .val (.int (Int32.ofNat n)), .val (.int (Int32.ofNat a)), .val (.int (Int32.ofNat b)), .unset, .unset, .unset, .unset, .unset, .unset] [(.int (5 : Int32))])) rfl (hb hby at_37) rfl (by decide) (cap := 5) (by decide) (by decide) (by decide) (by decide) (ad := "[I") (by decide)
  obtain ⟨b5, g5⟩ : ∃ z, z = h0.size := ⟨_, rfl⟩
  rw [← g5] at A5 B5 st5
  have g_b5 : n0 ≤ b5 := Nat.le_trans Z0 (Nat.le_of_eq g5.symm)
  have Z5 : n0 ≤ h5.size := Nat.le_trans Z0 E5.1
  have f6 : own_AI Z h5 b5 .int 5 (fun _ => 0) := own_AI.fresh A5 rfl
  refine own_go (S' := T5.setTop (mkF m 39 #[.val (.long q0), .second, .val (.long q1), .second, .val (.int p2), .val (.int p3), .val (.int p4), .val (.int (Int32.ofNat n)), .val (.int (Int32.ofNat a)), .val (.int (Int32.ofNat b)), .unset, .unset, .unset, .unset, .unset, .unset] [(.ref b5)])) st5 ?_
  refine own_go (S' := T5.setTop (mkF m 42 #[.val (.long q0), .second, .val (.long q1), .second, .val (.int p2), .val (.int p3), .val (.int p4), .val (.int (Int32.ofNat n)), .val (.int (Int32.ofNat a)), .val (.int (Int32.ofNat b)), .val (.ref b5), .unset, .unset, .unset, .unset, .unset] [(.int (5 : Int32))])) (fun target kt => ?_) ?_
  · skip
    show Steps p.tables e below (T5.setTop (mkF m 39 #[.val (.long q0), .second, .val (.long q1), .second, .val (.int p2), .val (.int p3), .val (.int p4), .val (.int (Int32.ofNat n)), .val (.int (Int32.ofNat a)), .val (.int (Int32.ofNat b)), .unset, .unset, .unset, .unset, .unset, .unset] [(.ref b5)])) _
    refine XS.astore X5.here hx rfl (hb hby at_39) rfl rfl (l' := #[.val (.long q0), .second, .val (.long q1), .second, .val (.int p2), .val (.int p3), .val (.int p4), .val (.int (Int32.ofNat n)), .val (.int (Int32.ofNat a)), .val (.int (Int32.ofNat b)), .val (.ref b5), .unset, .unset, .unset, .unset, .unset]) rfl ?_
    show Steps p.tables e below (T5.setTop (mkF m 41 #[.val (.long q0), .second, .val (.long q1), .second, .val (.int p2), .val (.int p3), .val (.int p4), .val (.int (Int32.ofNat n)), .val (.int (Int32.ofNat a)), .val (.int (Int32.ofNat b)), .val (.ref b5), .unset, .unset, .unset, .unset, .unset] [])) _
    refine XS.iconst X5.here hx rfl (hb hby at_41) ?_
    exact kt
  obtain ⟨T7, h7, k7, X7, e7, E7, A7, B7, st7⟩ := newPE X5 hx hZ (hw _ (List.mem_of_getElem? (i := 1) rfl)) e5 (g := (mkF m 42 #[.val (.long q0), .second, .val (.long q1), .second, .val (.int p2), .val (.int p3), .val (.int p4), .val (.int (Int32.ofNat n)), .val (.int (Int32.ofNat a)), .val (.int (Int32.ofNat b)), .val (.ref b5), .unset, .unset, .unset, .unset, .unset] [(.int (5 : Int32))])) rfl (hb hby at_42) rfl (by decide) (cap := 5) (by decide) (by decide) (by decide) (by decide) (ad := "[I") (by decide)
  obtain ⟨b7, g7⟩ : ∃ z, z = h5.size := ⟨_, rfl⟩
  rw [← g7] at A7 B7 st7
  have f8 : own_AI Z h7 b5 .int 5 (fun _ => 0) := f6.ext E7
  have f9 : Exa Z h7 b5 "[I" := B5.ext E7
  have g_b7 : n0 ≤ b7 := Nat.le_trans Z5 (Nat.le_of_eq g7.symm)
  have ne_b5_b7 : b5 ≠ b7 := Nat.ne_of_lt (Nat.lt_of_lt_of_le f6.lt (Nat.le_of_eq g7.symm))
  have Z7 : n0 ≤ h7.size := Nat.le_trans Z5 E7.1
  have f10 : own_AI Z h7 b7 .int 5 (fun _ => 0) := own_AI.fresh A7 rfl
  refine own_go (S' := T7.setTop (mkF m 44 #[.val (.long q0), .second, .val (.long q1), .second, .val (.int p2), .val (.int p3), .val (.int p4), .val (.int (Int32.ofNat n)), .val (.int (Int32.ofNat a)), .val (.int (Int32.ofNat b)), .val (.ref b5), .unset, .unset, .unset, .unset, .unset] [(.ref b7)])) st7 ?_
  refine own_go (S' := T7.setTop (mkF m 51 #[.val (.long q0), .second, .val (.long q1), .second, .val (.int p2), .val (.int p3), .val (.int p4), .val (.int (Int32.ofNat n)), .val (.int (Int32.ofNat a)), .val (.int (Int32.ofNat b)), .val (.ref b5), .val (.ref b7), .unset, .unset, .unset, .unset] [(.int (0 : Int32)), (.long q0), (.int (0 : Int32)), (.ref b5)])) (fun target kt => ?_) ?_
  · skip
    show Steps p.tables e below (T7.setTop (mkF m 44 #[.val (.long q0), .second, .val (.long q1), .second, .val (.int p2), .val (.int p3), .val (.int p4), .val (.int (Int32.ofNat n)), .val (.int (Int32.ofNat a)), .val (.int (Int32.ofNat b)), .val (.ref b5), .unset, .unset, .unset, .unset, .unset] [(.ref b7)])) _
    refine XS.astore X7.here hx rfl (hb hby at_44) rfl rfl (l' := #[.val (.long q0), .second, .val (.long q1), .second, .val (.int p2), .val (.int p3), .val (.int p4), .val (.int (Int32.ofNat n)), .val (.int (Int32.ofNat a)), .val (.int (Int32.ofNat b)), .val (.ref b5), .val (.ref b7), .unset, .unset, .unset, .unset]) rfl ?_
    show Steps p.tables e below (T7.setTop (mkF m 46 #[.val (.long q0), .second, .val (.long q1), .second, .val (.int p2), .val (.int p3), .val (.int p4), .val (.int (Int32.ofNat n)), .val (.int (Int32.ofNat a)), .val (.int (Int32.ofNat b)), .val (.ref b5), .val (.ref b7), .unset, .unset, .unset, .unset] [])) _
    refine XS.aload X7.here hx rfl (hb hby at_46) rfl rfl ?_
    show Steps p.tables e below (T7.setTop (mkF m 48 #[.val (.long q0), .second, .val (.long q1), .second, .val (.int p2), .val (.int p3), .val (.int p4), .val (.int (Int32.ofNat n)), .val (.int (Int32.ofNat a)), .val (.int (Int32.ofNat b)), .val (.ref b5), .val (.ref b7), .unset, .unset, .unset, .unset] [(.ref b5)])) _
    refine XS.iconst X7.here hx rfl (hb hby at_48) ?_
    show Steps p.tables e below (T7.setTop (mkF m 49 #[.val (.long q0), .second, .val (.long q1), .second, .val (.int p2), .val (.int p3), .val (.int p4), .val (.int (Int32.ofNat n)), .val (.int (Int32.ofNat a)), .val (.int (Int32.ofNat b)), .val (.ref b5), .val (.ref b7), .unset, .unset, .unset, .unset] [(.int (0 : Int32)), (.ref b5)])) _
    refine XS.lloadN X7.here hx rfl (hb hby at_49) rfl ?_
    show Steps p.tables e below (T7.setTop (mkF m 50 #[.val (.long q0), .second, .val (.long q1), .second, .val (.int p2), .val (.int p3), .val (.int p4), .val (.int (Int32.ofNat n)), .val (.int (Int32.ofNat a)), .val (.int (Int32.ofNat b)), .val (.ref b5), .val (.ref b7), .unset, .unset, .unset, .unset] [(.long q0), (.int (0 : Int32)), (.ref b5)])) _
    refine XS.iconst X7.here hx rfl (hb hby at_50) ?_
    exact kt
  obtain ⟨_, _, ⟨T11, L11, k11, n11⟩, -, X11, ⟨Lc11, hQ11, l11, y11, z11⟩, st11⟩ := Jvm.LawKit.callS X7 hx (y := (⟨"com/example/paretoforge/paretoforge/core/DominanceWeaklyDominatesPinLaw", "val", "(JI)I"⟩ : MethodName)) hown (mvT hZ (hw _ (List.mem_of_getElem? (i := 2) rfl))) (mvT hZ (hw _ (List.mem_of_getElem? (i := 3) rfl))) (mvT hZ (hw _ (List.mem_of_getElem? (i := 4) rfl))) (mvT hZ (hw _ (List.mem_of_getElem? (i := 5) rfl))) (by decide) (backOf (W := 2) (rm1 l Z aZ hw [] q0 (0 : Int32) h7 n0 Z7 ) hZ (hw _ (List.mem_of_getElem? (i := 5) rfl)) (hw _ (List.mem_of_getElem? (i := 4) rfl)) (by decide) (by decide)) (g := (mkF m 51 #[.val (.long q0), .second, .val (.long q1), .second, .val (.int p2), .val (.int p3), .val (.int p4), .val (.int (Int32.ofNat n)), .val (.int (Int32.ofNat a)), .val (.int (Int32.ofNat b)), .val (.ref b5), .val (.ref b7), .unset, .unset, .unset, .unset] [(.int (0 : Int32)), (.long q0), (.int (0 : Int32)), (.ref b5)])) rfl (by rw [hml]; rfl) (argsL := [(.long q0), (.int (0 : Int32))]) (rest := [(.int (0 : Int32)), (.ref b5)]) (lenOf own_pd0 rfl) rfl (by show 2 * 0 + _ ≤ _; exact Nat.le_of_eq rfl) (hb hby at_51) (fun _ _ => ⟨rfl, e7, (by decide : 2 + 0 ≤ _), (by decide : 10 + 0 ≤ _)⟩)
  dsimp only [Pt.U, Pt.locs, Pt.cells, Pt.slots] at X11 l11 y11 z11 st11 hQ11
  obtain rfl : k11 = 2 := y11
  obtain rfl : n11 = 10 := z11
  obtain ⟨rfl, N11q, e11⟩ := hQ11
  have N11 : Fr n0 L11 := by rw [l11]; exact Fr.app N0 N11q
  clear l11
  refine own_go (S' := T11.setTop (mkF m 54 #[.val (.long q0), .second, .val (.long q1), .second, .val (.int p2), .val (.int p3), .val (.int p4), .val (.int (Int32.ofNat n)), .val (.int (Int32.ofNat a)), .val (.int (Int32.ofNat b)), .val (.ref b5), .val (.ref b7), .unset, .unset, .unset, .unset] [(.int (own_val q0 (0 : Int32))), (.int (0 : Int32)), (.ref b5)])) st11 ?_
  obtain ⟨c12, Ar12, S12, M12, H12⟩ := id f8
  have hin12 : ¬ ((0 : Int32) < 0 ∨ c12.slots.size ≤ ((0 : Int32)).toNatClampNeg) := own_in S12 ⟨by decide, by decide⟩
  obtain ⟨T13, h13, X13, e13, W13, st13⟩ := stI X11 hx hZ e11 Ar12 (j := (0 : Int32)) hin12 (g := (mkF m 54 #[.val (.long q0), .second, .val (.long q1), .second, .val (.int p2), .val (.int p3), .val (.int p4), .val (.int (Int32.ofNat n)), .val (.int (Int32.ofNat a)), .val (.int (Int32.ofNat b)), .val (.ref b5), .val (.ref b7), .unset, .unset, .unset, .unset] [(.int (own_val q0 (0 : Int32))), (.int (0 : Int32)), (.ref b5)])) rfl rfl (hb hby at_54)
  have f15 : Exa Z h13 b5 "[I" := f9.wr W13
  have f16 : own_AI Z h13 b7 .int 5 (fun _ => 0) := f10.other W13 (Ne.symm ne_b5_b7)
  have f17 : Exa Z h13 b7 "[I" := B7.wr W13
  have f14 : own_AI Z h13 b5 .int 5 (own_upd (fun _ => 0) 0 (own_val q0 (0 : Int32))) := own_AI.set Ar12 S12 M12 H12 W13
  have Z13 : n0 ≤ h13.size := Nat.le_trans Z7 (Keep.of_wr W13).1
  have N13 := Fr.snoc X13 N11 g_b5
  refine own_go (S' := T13.setTop (mkF m 55 #[.val (.long q0), .second, .val (.long q1), .second, .val (.int p2), .val (.int p3), .val (.int p4), .val (.int (Int32.ofNat n)), .val (.int (Int32.ofNat a)), .val (.int (Int32.ofNat b)), .val (.ref b5), .val (.ref b7), .unset, .unset, .unset, .unset] [])) st13 ?_
  refine own_go (S' := T13.setTop (mkF m 60 #[.val (.long q0), .second, .val (.long q1), .second, .val (.int p2), .val (.int p3), .val (.int p4), .val (.int (Int32.ofNat n)), .val (.int (Int32.ofNat a)), .val (.int (Int32.ofNat b)), .val (.ref b5), .val (.ref b7), .unset, .unset, .unset, .unset] [(.int (1 : Int32)), (.long q0), (.int (1 : Int32)), (.ref b5)])) (fun target kt => ?_) ?_
  · skip
    show Steps p.tables e below (T13.setTop (mkF m 55 #[.val (.long q0), .second, .val (.long q1), .second, .val (.int p2), .val (.int p3), .val (.int p4), .val (.int (Int32.ofNat n)), .val (.int (Int32.ofNat a)), .val (.int (Int32.ofNat b)), .val (.ref b5), .val (.ref b7), .unset, .unset, .unset, .unset] [])) _
    refine XS.aload X13.here hx rfl (hb hby at_55) rfl rfl ?_
    show Steps p.tables e below (T13.setTop (mkF m 57 #[.val (.long q0), .second, .val (.long q1), .second, .val (.int p2), .val (.int p3), .val (.int p4), .val (.int (Int32.ofNat n)), .val (.int (Int32.ofNat a)), .val (.int (Int32.ofNat b)), .val (.ref b5), .val (.ref b7), .unset, .unset, .unset, .unset] [(.ref b5)])) _
    refine XS.iconst X13.here hx rfl (hb hby at_57) ?_
    show Steps p.tables e below (T13.setTop (mkF m 58 #[.val (.long q0), .second, .val (.long q1), .second, .val (.int p2), .val (.int p3), .val (.int p4), .val (.int (Int32.ofNat n)), .val (.int (Int32.ofNat a)), .val (.int (Int32.ofNat b)), .val (.ref b5), .val (.ref b7), .unset, .unset, .unset, .unset] [(.int (1 : Int32)), (.ref b5)])) _
    refine XS.lloadN X13.here hx rfl (hb hby at_58) rfl ?_
    show Steps p.tables e below (T13.setTop (mkF m 59 #[.val (.long q0), .second, .val (.long q1), .second, .val (.int p2), .val (.int p3), .val (.int p4), .val (.int (Int32.ofNat n)), .val (.int (Int32.ofNat a)), .val (.int (Int32.ofNat b)), .val (.ref b5), .val (.ref b7), .unset, .unset, .unset, .unset] [(.long q0), (.int (1 : Int32)), (.ref b5)])) _
    refine XS.iconst X13.here hx rfl (hb hby at_59) ?_
    exact kt
  obtain ⟨_, _, ⟨T18, L18, k18, n18⟩, -, X18, ⟨Lc18, hQ18, l18, y18, z18⟩, st18⟩ := Jvm.LawKit.callS X13 hx (y := (⟨"com/example/paretoforge/paretoforge/core/DominanceWeaklyDominatesPinLaw", "val", "(JI)I"⟩ : MethodName)) hown (mvT hZ (hw _ (List.mem_of_getElem? (i := 2) rfl))) (mvT hZ (hw _ (List.mem_of_getElem? (i := 3) rfl))) (mvT hZ (hw _ (List.mem_of_getElem? (i := 4) rfl))) (mvT hZ (hw _ (List.mem_of_getElem? (i := 5) rfl))) (by decide) (backOf (W := 2) (rm1 l Z aZ hw [] q0 (1 : Int32) h13 n0 Z13 ) hZ (hw _ (List.mem_of_getElem? (i := 5) rfl)) (hw _ (List.mem_of_getElem? (i := 4) rfl)) (by decide) (by decide)) (g := (mkF m 60 #[.val (.long q0), .second, .val (.long q1), .second, .val (.int p2), .val (.int p3), .val (.int p4), .val (.int (Int32.ofNat n)), .val (.int (Int32.ofNat a)), .val (.int (Int32.ofNat b)), .val (.ref b5), .val (.ref b7), .unset, .unset, .unset, .unset] [(.int (1 : Int32)), (.long q0), (.int (1 : Int32)), (.ref b5)])) rfl (by rw [hml]; rfl) (argsL := [(.long q0), (.int (1 : Int32))]) (rest := [(.int (1 : Int32)), (.ref b5)]) (lenOf own_pd0 rfl) rfl (by show 2 * 0 + _ ≤ _; exact Nat.le_of_eq rfl) (hb hby at_60) (fun _ _ => ⟨rfl, e13, (by decide : 2 + 0 ≤ _), (by decide : 10 + 0 ≤ _)⟩)
  dsimp only [Pt.U, Pt.locs, Pt.cells, Pt.slots] at X18 l18 y18 z18 st18 hQ18
  obtain rfl : k18 = 2 := y18
  obtain rfl : n18 = 10 := z18
  obtain ⟨rfl, N18q, e18⟩ := hQ18
  have N18 : Fr n0 L18 := by rw [l18]; exact Fr.app N13 N18q
  clear l18
  refine own_go (S' := T18.setTop (mkF m 63 #[.val (.long q0), .second, .val (.long q1), .second, .val (.int p2), .val (.int p3), .val (.int p4), .val (.int (Int32.ofNat n)), .val (.int (Int32.ofNat a)), .val (.int (Int32.ofNat b)), .val (.ref b5), .val (.ref b7), .unset, .unset, .unset, .unset] [(.int (own_val q0 (1 : Int32))), (.int (1 : Int32)), (.ref b5)])) st18 ?_
  obtain ⟨c19, Ar19, S19, M19, H19⟩ := id f14
  have hin19 : ¬ ((1 : Int32) < 0 ∨ c19.slots.size ≤ ((1 : Int32)).toNatClampNeg) := own_in S19 ⟨by decide, by decide⟩
  obtain ⟨T20, h20, X20, e20, W20, st20⟩ := stI X18 hx hZ e18 Ar19 (j := (1 : Int32)) hin19 (g := (mkF m 63 #[.val (.long q0), .second, .val (.long q1), .second, .val (.int p2), .val (.int p3), .val (.int p4), .val (.int (Int32.ofNat n)), .val (.int (Int32.ofNat a)), .val (.int (Int32.ofNat b)), .val (.ref b5), .val (.ref b7), .unset, .unset, .unset, .unset] [(.int (own_val q0 (1 : Int32))), (.int (1 : Int32)), (.ref b5)])) rfl rfl (hb hby at_63)
  have f22 : Exa Z h20 b5 "[I" := f15.wr W20
  have f23 : own_AI Z h20 b7 .int 5 (fun _ => 0) := f16.other W20 (Ne.symm ne_b5_b7)
  have f24 : Exa Z h20 b7 "[I" := f17.wr W20
  have f21 : own_AI Z h20 b5 .int 5 (own_upd (own_upd (fun _ => 0) 0 (own_val q0 (0 : Int32))) 1 (own_val q0 (1 : Int32))) := own_AI.set Ar19 S19 M19 H19 W20
  have Z20 : n0 ≤ h20.size := Nat.le_trans Z13 (Keep.of_wr W20).1
  have N20 := Fr.snoc X20 N18 g_b5
  refine own_go (S' := T20.setTop (mkF m 64 #[.val (.long q0), .second, .val (.long q1), .second, .val (.int p2), .val (.int p3), .val (.int p4), .val (.int (Int32.ofNat n)), .val (.int (Int32.ofNat a)), .val (.int (Int32.ofNat b)), .val (.ref b5), .val (.ref b7), .unset, .unset, .unset, .unset] [])) st20 ?_
  refine own_go (S' := T20.setTop (mkF m 69 #[.val (.long q0), .second, .val (.long q1), .second, .val (.int p2), .val (.int p3), .val (.int p4), .val (.int (Int32.ofNat n)), .val (.int (Int32.ofNat a)), .val (.int (Int32.ofNat b)), .val (.ref b5), .val (.ref b7), .unset, .unset, .unset, .unset] [(.int (2 : Int32)), (.long q0), (.int (2 : Int32)), (.ref b5)])) (fun target kt => ?_) ?_
  · skip
    show Steps p.tables e below (T20.setTop (mkF m 64 #[.val (.long q0), .second, .val (.long q1), .second, .val (.int p2), .val (.int p3), .val (.int p4), .val (.int (Int32.ofNat n)), .val (.int (Int32.ofNat a)), .val (.int (Int32.ofNat b)), .val (.ref b5), .val (.ref b7), .unset, .unset, .unset, .unset] [])) _
    refine XS.aload X20.here hx rfl (hb hby at_64) rfl rfl ?_
    show Steps p.tables e below (T20.setTop (mkF m 66 #[.val (.long q0), .second, .val (.long q1), .second, .val (.int p2), .val (.int p3), .val (.int p4), .val (.int (Int32.ofNat n)), .val (.int (Int32.ofNat a)), .val (.int (Int32.ofNat b)), .val (.ref b5), .val (.ref b7), .unset, .unset, .unset, .unset] [(.ref b5)])) _
    refine XS.iconst X20.here hx rfl (hb hby at_66) ?_
    show Steps p.tables e below (T20.setTop (mkF m 67 #[.val (.long q0), .second, .val (.long q1), .second, .val (.int p2), .val (.int p3), .val (.int p4), .val (.int (Int32.ofNat n)), .val (.int (Int32.ofNat a)), .val (.int (Int32.ofNat b)), .val (.ref b5), .val (.ref b7), .unset, .unset, .unset, .unset] [(.int (2 : Int32)), (.ref b5)])) _
    refine XS.lloadN X20.here hx rfl (hb hby at_67) rfl ?_
    show Steps p.tables e below (T20.setTop (mkF m 68 #[.val (.long q0), .second, .val (.long q1), .second, .val (.int p2), .val (.int p3), .val (.int p4), .val (.int (Int32.ofNat n)), .val (.int (Int32.ofNat a)), .val (.int (Int32.ofNat b)), .val (.ref b5), .val (.ref b7), .unset, .unset, .unset, .unset] [(.long q0), (.int (2 : Int32)), (.ref b5)])) _
    refine XS.iconst X20.here hx rfl (hb hby at_68) ?_
    exact kt
  obtain ⟨_, _, ⟨T25, L25, k25, n25⟩, -, X25, ⟨Lc25, hQ25, l25, y25, z25⟩, st25⟩ := Jvm.LawKit.callS X20 hx (y := (⟨"com/example/paretoforge/paretoforge/core/DominanceWeaklyDominatesPinLaw", "val", "(JI)I"⟩ : MethodName)) hown (mvT hZ (hw _ (List.mem_of_getElem? (i := 2) rfl))) (mvT hZ (hw _ (List.mem_of_getElem? (i := 3) rfl))) (mvT hZ (hw _ (List.mem_of_getElem? (i := 4) rfl))) (mvT hZ (hw _ (List.mem_of_getElem? (i := 5) rfl))) (by decide) (backOf (W := 2) (rm1 l Z aZ hw [] q0 (2 : Int32) h20 n0 Z20 ) hZ (hw _ (List.mem_of_getElem? (i := 5) rfl)) (hw _ (List.mem_of_getElem? (i := 4) rfl)) (by decide) (by decide)) (g := (mkF m 69 #[.val (.long q0), .second, .val (.long q1), .second, .val (.int p2), .val (.int p3), .val (.int p4), .val (.int (Int32.ofNat n)), .val (.int (Int32.ofNat a)), .val (.int (Int32.ofNat b)), .val (.ref b5), .val (.ref b7), .unset, .unset, .unset, .unset] [(.int (2 : Int32)), (.long q0), (.int (2 : Int32)), (.ref b5)])) rfl (by rw [hml]; rfl) (argsL := [(.long q0), (.int (2 : Int32))]) (rest := [(.int (2 : Int32)), (.ref b5)]) (lenOf own_pd0 rfl) rfl (by show 2 * 0 + _ ≤ _; exact Nat.le_of_eq rfl) (hb hby at_69) (fun _ _ => ⟨rfl, e20, (by decide : 2 + 0 ≤ _), (by decide : 10 + 0 ≤ _)⟩)
  dsimp only [Pt.U, Pt.locs, Pt.cells, Pt.slots] at X25 l25 y25 z25 st25 hQ25
  obtain rfl : k25 = 2 := y25
  obtain rfl : n25 = 10 := z25
  obtain ⟨rfl, N25q, e25⟩ := hQ25
  have N25 : Fr n0 L25 := by rw [l25]; exact Fr.app N20 N25q
  clear l25
  refine own_go (S' := T25.setTop (mkF m 72 #[.val (.long q0), .second, .val (.long q1), .second, .val (.int p2), .val (.int p3), .val (.int p4), .val (.int (Int32.ofNat n)), .val (.int (Int32.ofNat a)), .val (.int (Int32.ofNat b)), .val (.ref b5), .val (.ref b7), .unset, .unset, .unset, .unset] [(.int (own_val q0 (2 : Int32))), (.int (2 : Int32)), (.ref b5)])) st25 ?_
  obtain ⟨c26, Ar26, S26, M26, H26⟩ := id f21
  have hin26 : ¬ ((2 : Int32) < 0 ∨ c26.slots.size ≤ ((2 : Int32)).toNatClampNeg) := own_in S26 ⟨by decide, by decide⟩
  obtain ⟨T27, h27, X27, e27, W27, st27⟩ := stI X25 hx hZ e25 Ar26 (j := (2 : Int32)) hin26 (g := (mkF m 72 #[.val (.long q0), .second, .val (.long q1), .second, .val (.int p2), .val (.int p3), .val (.int p4), .val (.int (Int32.ofNat n)), .val (.int (Int32.ofNat a)), .val (.int (Int32.ofNat b)), .val (.ref b5), .val (.ref b7), .unset, .unset, .unset, .unset] [(.int (own_val q0 (2 : Int32))), (.int (2 : Int32)), (.ref b5)])) rfl rfl (hb hby at_72)
  have f29 : Exa Z h27 b5 "[I" := f22.wr W27
  have f30 : own_AI Z h27 b7 .int 5 (fun _ => 0) := f23.other W27 (Ne.symm ne_b5_b7)
  have f31 : Exa Z h27 b7 "[I" := f24.wr W27
  have f28 : own_AI Z h27 b5 .int 5 (own_upd (own_upd (own_upd (fun _ => 0) 0 (own_val q0 (0 : Int32))) 1 (own_val q0 (1 : Int32))) 2 (own_val q0 (2 : Int32))) := own_AI.set Ar26 S26 M26 H26 W27
  have Z27 : n0 ≤ h27.size := Nat.le_trans Z20 (Keep.of_wr W27).1
  have N27 := Fr.snoc X27 N25 g_b5
  refine own_go (S' := T27.setTop (mkF m 73 #[.val (.long q0), .second, .val (.long q1), .second, .val (.int p2), .val (.int p3), .val (.int p4), .val (.int (Int32.ofNat n)), .val (.int (Int32.ofNat a)), .val (.int (Int32.ofNat b)), .val (.ref b5), .val (.ref b7), .unset, .unset, .unset, .unset] [])) st27 ?_
  refine own_go (S' := T27.setTop (mkF m 78 #[.val (.long q0), .second, .val (.long q1), .second, .val (.int p2), .val (.int p3), .val (.int p4), .val (.int (Int32.ofNat n)), .val (.int (Int32.ofNat a)), .val (.int (Int32.ofNat b)), .val (.ref b5), .val (.ref b7), .unset, .unset, .unset, .unset] [(.int (3 : Int32)), (.long q0), (.int (3 : Int32)), (.ref b5)])) (fun target kt => ?_) ?_
  · skip
    show Steps p.tables e below (T27.setTop (mkF m 73 #[.val (.long q0), .second, .val (.long q1), .second, .val (.int p2), .val (.int p3), .val (.int p4), .val (.int (Int32.ofNat n)), .val (.int (Int32.ofNat a)), .val (.int (Int32.ofNat b)), .val (.ref b5), .val (.ref b7), .unset, .unset, .unset, .unset] [])) _
    refine XS.aload X27.here hx rfl (hb hby at_73) rfl rfl ?_
    show Steps p.tables e below (T27.setTop (mkF m 75 #[.val (.long q0), .second, .val (.long q1), .second, .val (.int p2), .val (.int p3), .val (.int p4), .val (.int (Int32.ofNat n)), .val (.int (Int32.ofNat a)), .val (.int (Int32.ofNat b)), .val (.ref b5), .val (.ref b7), .unset, .unset, .unset, .unset] [(.ref b5)])) _
    refine XS.iconst X27.here hx rfl (hb hby at_75) ?_
    show Steps p.tables e below (T27.setTop (mkF m 76 #[.val (.long q0), .second, .val (.long q1), .second, .val (.int p2), .val (.int p3), .val (.int p4), .val (.int (Int32.ofNat n)), .val (.int (Int32.ofNat a)), .val (.int (Int32.ofNat b)), .val (.ref b5), .val (.ref b7), .unset, .unset, .unset, .unset] [(.int (3 : Int32)), (.ref b5)])) _
    refine XS.lloadN X27.here hx rfl (hb hby at_76) rfl ?_
    show Steps p.tables e below (T27.setTop (mkF m 77 #[.val (.long q0), .second, .val (.long q1), .second, .val (.int p2), .val (.int p3), .val (.int p4), .val (.int (Int32.ofNat n)), .val (.int (Int32.ofNat a)), .val (.int (Int32.ofNat b)), .val (.ref b5), .val (.ref b7), .unset, .unset, .unset, .unset] [(.long q0), (.int (3 : Int32)), (.ref b5)])) _
    refine XS.iconst X27.here hx rfl (hb hby at_77) ?_
    exact kt
  obtain ⟨_, _, ⟨T32, L32, k32, n32⟩, -, X32, ⟨Lc32, hQ32, l32, y32, z32⟩, st32⟩ := Jvm.LawKit.callS X27 hx (y := (⟨"com/example/paretoforge/paretoforge/core/DominanceWeaklyDominatesPinLaw", "val", "(JI)I"⟩ : MethodName)) hown (mvT hZ (hw _ (List.mem_of_getElem? (i := 2) rfl))) (mvT hZ (hw _ (List.mem_of_getElem? (i := 3) rfl))) (mvT hZ (hw _ (List.mem_of_getElem? (i := 4) rfl))) (mvT hZ (hw _ (List.mem_of_getElem? (i := 5) rfl))) (by decide) (backOf (W := 2) (rm1 l Z aZ hw [] q0 (3 : Int32) h27 n0 Z27 ) hZ (hw _ (List.mem_of_getElem? (i := 5) rfl)) (hw _ (List.mem_of_getElem? (i := 4) rfl)) (by decide) (by decide)) (g := (mkF m 78 #[.val (.long q0), .second, .val (.long q1), .second, .val (.int p2), .val (.int p3), .val (.int p4), .val (.int (Int32.ofNat n)), .val (.int (Int32.ofNat a)), .val (.int (Int32.ofNat b)), .val (.ref b5), .val (.ref b7), .unset, .unset, .unset, .unset] [(.int (3 : Int32)), (.long q0), (.int (3 : Int32)), (.ref b5)])) rfl (by rw [hml]; rfl) (argsL := [(.long q0), (.int (3 : Int32))]) (rest := [(.int (3 : Int32)), (.ref b5)]) (lenOf own_pd0 rfl) rfl (by show 2 * 0 + _ ≤ _; exact Nat.le_of_eq rfl) (hb hby at_78) (fun _ _ => ⟨rfl, e27, (by decide : 2 + 0 ≤ _), (by decide : 10 + 0 ≤ _)⟩)
  dsimp only [Pt.U, Pt.locs, Pt.cells, Pt.slots] at X32 l32 y32 z32 st32 hQ32
  obtain rfl : k32 = 2 := y32
  obtain rfl : n32 = 10 := z32
  obtain ⟨rfl, N32q, e32⟩ := hQ32
  have N32 : Fr n0 L32 := by rw [l32]; exact Fr.app N27 N32q
  clear l32
  refine own_go (S' := T32.setTop (mkF m 81 #[.val (.long q0), .second, .val (.long q1), .second, .val (.int p2), .val (.int p3), .val (.int p4), .val (.int (Int32.ofNat n)), .val (.int (Int32.ofNat a)), .val (.int (Int32.ofNat b)), .val (.ref b5), .val (.ref b7), .unset, .unset, .unset, .unset] [(.int (own_val q0 (3 : Int32))), (.int (3 : Int32)), (.ref b5)])) st32 ?_
  obtain ⟨c33, Ar33, S33, M33, H33⟩ := id f28
  have hin33 : ¬ ((3 : Int32) < 0 ∨ c33.slots.size ≤ ((3 : Int32)).toNatClampNeg) := own_in S33 ⟨by decide, by decide⟩
  obtain ⟨T34, h34, X34, e34, W34, st34⟩ := stI X32 hx hZ e32 Ar33 (j := (3 : Int32)) hin33 (g := (mkF m 81 #[.val (.long q0), .second, .val (.long q1), .second, .val (.int p2), .val (.int p3), .val (.int p4), .val (.int (Int32.ofNat n)), .val (.int (Int32.ofNat a)), .val (.int (Int32.ofNat b)), .val (.ref b5), .val (.ref b7), .unset, .unset, .unset, .unset] [(.int (own_val q0 (3 : Int32))), (.int (3 : Int32)), (.ref b5)])) rfl rfl (hb hby at_81)
  have f36 : Exa Z h34 b5 "[I" := f29.wr W34
  have f37 : own_AI Z h34 b7 .int 5 (fun _ => 0) := f30.other W34 (Ne.symm ne_b5_b7)
  have f38 : Exa Z h34 b7 "[I" := f31.wr W34
  have f35 : own_AI Z h34 b5 .int 5 (own_upd (own_upd (own_upd (own_upd (fun _ => 0) 0 (own_val q0 (0 : Int32))) 1 (own_val q0 (1 : Int32))) 2 (own_val q0 (2 : Int32))) 3 (own_val q0 (3 : Int32))) := own_AI.set Ar33 S33 M33 H33 W34
  have Z34 : n0 ≤ h34.size := Nat.le_trans Z27 (Keep.of_wr W34).1
  have N34 := Fr.snoc X34 N32 g_b5
  refine own_go (S' := T34.setTop (mkF m 82 #[.val (.long q0), .second, .val (.long q1), .second, .val (.int p2), .val (.int p3), .val (.int p4), .val (.int (Int32.ofNat n)), .val (.int (Int32.ofNat a)), .val (.int (Int32.ofNat b)), .val (.ref b5), .val (.ref b7), .unset, .unset, .unset, .unset] [])) st34 ?_
  refine own_go (S' := T34.setTop (mkF m 87 #[.val (.long q0), .second, .val (.long q1), .second, .val (.int p2), .val (.int p3), .val (.int p4), .val (.int (Int32.ofNat n)), .val (.int (Int32.ofNat a)), .val (.int (Int32.ofNat b)), .val (.ref b5), .val (.ref b7), .unset, .unset, .unset, .unset] [(.int (4 : Int32)), (.long q0), (.int (4 : Int32)), (.ref b5)])) (fun target kt => ?_) ?_
  · skip
    show Steps p.tables e below (T34.setTop (mkF m 82 #[.val (.long q0), .second, .val (.long q1), .second, .val (.int p2), .val (.int p3), .val (.int p4), .val (.int (Int32.ofNat n)), .val (.int (Int32.ofNat a)), .val (.int (Int32.ofNat b)), .val (.ref b5), .val (.ref b7), .unset, .unset, .unset, .unset] [])) _
    refine XS.aload X34.here hx rfl (hb hby at_82) rfl rfl ?_
    show Steps p.tables e below (T34.setTop (mkF m 84 #[.val (.long q0), .second, .val (.long q1), .second, .val (.int p2), .val (.int p3), .val (.int p4), .val (.int (Int32.ofNat n)), .val (.int (Int32.ofNat a)), .val (.int (Int32.ofNat b)), .val (.ref b5), .val (.ref b7), .unset, .unset, .unset, .unset] [(.ref b5)])) _
    refine XS.iconst X34.here hx rfl (hb hby at_84) ?_
    show Steps p.tables e below (T34.setTop (mkF m 85 #[.val (.long q0), .second, .val (.long q1), .second, .val (.int p2), .val (.int p3), .val (.int p4), .val (.int (Int32.ofNat n)), .val (.int (Int32.ofNat a)), .val (.int (Int32.ofNat b)), .val (.ref b5), .val (.ref b7), .unset, .unset, .unset, .unset] [(.int (4 : Int32)), (.ref b5)])) _
    refine XS.lloadN X34.here hx rfl (hb hby at_85) rfl ?_
    show Steps p.tables e below (T34.setTop (mkF m 86 #[.val (.long q0), .second, .val (.long q1), .second, .val (.int p2), .val (.int p3), .val (.int p4), .val (.int (Int32.ofNat n)), .val (.int (Int32.ofNat a)), .val (.int (Int32.ofNat b)), .val (.ref b5), .val (.ref b7), .unset, .unset, .unset, .unset] [(.long q0), (.int (4 : Int32)), (.ref b5)])) _
    refine XS.iconst X34.here hx rfl (hb hby at_86) ?_
    exact kt
  obtain ⟨_, _, ⟨T39, L39, k39, n39⟩, -, X39, ⟨Lc39, hQ39, l39, y39, z39⟩, st39⟩ := Jvm.LawKit.callS X34 hx (y := (⟨"com/example/paretoforge/paretoforge/core/DominanceWeaklyDominatesPinLaw", "val", "(JI)I"⟩ : MethodName)) hown (mvT hZ (hw _ (List.mem_of_getElem? (i := 2) rfl))) (mvT hZ (hw _ (List.mem_of_getElem? (i := 3) rfl))) (mvT hZ (hw _ (List.mem_of_getElem? (i := 4) rfl))) (mvT hZ (hw _ (List.mem_of_getElem? (i := 5) rfl))) (by decide) (backOf (W := 2) (rm1 l Z aZ hw [] q0 (4 : Int32) h34 n0 Z34 ) hZ (hw _ (List.mem_of_getElem? (i := 5) rfl)) (hw _ (List.mem_of_getElem? (i := 4) rfl)) (by decide) (by decide)) (g := (mkF m 87 #[.val (.long q0), .second, .val (.long q1), .second, .val (.int p2), .val (.int p3), .val (.int p4), .val (.int (Int32.ofNat n)), .val (.int (Int32.ofNat a)), .val (.int (Int32.ofNat b)), .val (.ref b5), .val (.ref b7), .unset, .unset, .unset, .unset] [(.int (4 : Int32)), (.long q0), (.int (4 : Int32)), (.ref b5)])) rfl (by rw [hml]; rfl) (argsL := [(.long q0), (.int (4 : Int32))]) (rest := [(.int (4 : Int32)), (.ref b5)]) (lenOf own_pd0 rfl) rfl (by show 2 * 0 + _ ≤ _; exact Nat.le_of_eq rfl) (hb hby at_87) (fun _ _ => ⟨rfl, e34, (by decide : 2 + 0 ≤ _), (by decide : 10 + 0 ≤ _)⟩)
  dsimp only [Pt.U, Pt.locs, Pt.cells, Pt.slots] at X39 l39 y39 z39 st39 hQ39
  obtain rfl : k39 = 2 := y39
  obtain rfl : n39 = 10 := z39
  obtain ⟨rfl, N39q, e39⟩ := hQ39
  have N39 : Fr n0 L39 := by rw [l39]; exact Fr.app N34 N39q
  clear l39
  refine own_go (S' := T39.setTop (mkF m 90 #[.val (.long q0), .second, .val (.long q1), .second, .val (.int p2), .val (.int p3), .val (.int p4), .val (.int (Int32.ofNat n)), .val (.int (Int32.ofNat a)), .val (.int (Int32.ofNat b)), .val (.ref b5), .val (.ref b7), .unset, .unset, .unset, .unset] [(.int (own_val q0 (4 : Int32))), (.int (4 : Int32)), (.ref b5)])) st39 ?_
  obtain ⟨c40, Ar40, S40, M40, H40⟩ := id f35
  have hin40 : ¬ ((4 : Int32) < 0 ∨ c40.slots.size ≤ ((4 : Int32)).toNatClampNeg) := own_in S40 ⟨by decide, by decide⟩
  obtain ⟨T41, h41, X41, e41, W41, st41⟩ := stI X39 hx hZ e39 Ar40 (j := (4 : Int32)) hin40 (g := (mkF m 90 #[.val (.long q0), .second, .val (.long q1), .second, .val (.int p2), .val (.int p3), .val (.int p4), .val (.int (Int32.ofNat n)), .val (.int (Int32.ofNat a)), .val (.int (Int32.ofNat b)), .val (.ref b5), .val (.ref b7), .unset, .unset, .unset, .unset] [(.int (own_val q0 (4 : Int32))), (.int (4 : Int32)), (.ref b5)])) rfl rfl (hb hby at_90)
  have f43 : Exa Z h41 b5 "[I" := f36.wr W41
  have f44 : own_AI Z h41 b7 .int 5 (fun _ => 0) := f37.other W41 (Ne.symm ne_b5_b7)
  have f45 : Exa Z h41 b7 "[I" := f38.wr W41
  have f42 : own_AI Z h41 b5 .int 5 (own_upd (own_upd (own_upd (own_upd (own_upd (fun _ => 0) 0 (own_val q0 (0 : Int32))) 1 (own_val q0 (1 : Int32))) 2 (own_val q0 (2 : Int32))) 3 (own_val q0 (3 : Int32))) 4 (own_val q0 (4 : Int32))) := own_AI.set Ar40 S40 M40 H40 W41
  have Z41 : n0 ≤ h41.size := Nat.le_trans Z34 (Keep.of_wr W41).1
  have N41 := Fr.snoc X41 N39 g_b5
  refine own_go (S' := T41.setTop (mkF m 91 #[.val (.long q0), .second, .val (.long q1), .second, .val (.int p2), .val (.int p3), .val (.int p4), .val (.int (Int32.ofNat n)), .val (.int (Int32.ofNat a)), .val (.int (Int32.ofNat b)), .val (.ref b5), .val (.ref b7), .unset, .unset, .unset, .unset] [])) st41 ?_
  refine own_go (S' := T41.setTop (mkF m 96 #[.val (.long q0), .second, .val (.long q1), .second, .val (.int p2), .val (.int p3), .val (.int p4), .val (.int (Int32.ofNat n)), .val (.int (Int32.ofNat a)), .val (.int (Int32.ofNat b)), .val (.ref b5), .val (.ref b7), .unset, .unset, .unset, .unset] [(.int (0 : Int32)), (.long q1), (.int (0 : Int32)), (.ref b7)])) (fun target kt => ?_) ?_
  · skip
    show Steps p.tables e below (T41.setTop (mkF m 91 #[.val (.long q0), .second, .val (.long q1), .second, .val (.int p2), .val (.int p3), .val (.int p4), .val (.int (Int32.ofNat n)), .val (.int (Int32.ofNat a)), .val (.int (Int32.ofNat b)), .val (.ref b5), .val (.ref b7), .unset, .unset, .unset, .unset] [])) _
    refine XS.aload X41.here hx rfl (hb hby at_91) rfl rfl ?_
    show Steps p.tables e below (T41.setTop (mkF m 93 #[.val (.long q0), .second, .val (.long q1), .second, .val (.int p2), .val (.int p3), .val (.int p4), .val (.int (Int32.ofNat n)), .val (.int (Int32.ofNat a)), .val (.int (Int32.ofNat b)), .val (.ref b5), .val (.ref b7), .unset, .unset, .unset, .unset] [(.ref b7)])) _
    refine XS.iconst X41.here hx rfl (hb hby at_93) ?_
    show Steps p.tables e below (T41.setTop (mkF m 94 #[.val (.long q0), .second, .val (.long q1), .second, .val (.int p2), .val (.int p3), .val (.int p4), .val (.int (Int32.ofNat n)), .val (.int (Int32.ofNat a)), .val (.int (Int32.ofNat b)), .val (.ref b5), .val (.ref b7), .unset, .unset, .unset, .unset] [(.int (0 : Int32)), (.ref b7)])) _
    refine XS.lloadN X41.here hx rfl (hb hby at_94) rfl ?_
    show Steps p.tables e below (T41.setTop (mkF m 95 #[.val (.long q0), .second, .val (.long q1), .second, .val (.int p2), .val (.int p3), .val (.int p4), .val (.int (Int32.ofNat n)), .val (.int (Int32.ofNat a)), .val (.int (Int32.ofNat b)), .val (.ref b5), .val (.ref b7), .unset, .unset, .unset, .unset] [(.long q1), (.int (0 : Int32)), (.ref b7)])) _
    refine XS.iconst X41.here hx rfl (hb hby at_95) ?_
    exact kt
  obtain ⟨_, _, ⟨T46, L46, k46, n46⟩, -, X46, ⟨Lc46, hQ46, l46, y46, z46⟩, st46⟩ := Jvm.LawKit.callS X41 hx (y := (⟨"com/example/paretoforge/paretoforge/core/DominanceWeaklyDominatesPinLaw", "val", "(JI)I"⟩ : MethodName)) hown (mvT hZ (hw _ (List.mem_of_getElem? (i := 2) rfl))) (mvT hZ (hw _ (List.mem_of_getElem? (i := 3) rfl))) (mvT hZ (hw _ (List.mem_of_getElem? (i := 4) rfl))) (mvT hZ (hw _ (List.mem_of_getElem? (i := 5) rfl))) (by decide) (backOf (W := 2) (rm1 l Z aZ hw [] q1 (0 : Int32) h41 n0 Z41 ) hZ (hw _ (List.mem_of_getElem? (i := 5) rfl)) (hw _ (List.mem_of_getElem? (i := 4) rfl)) (by decide) (by decide)) (g := (mkF m 96 #[.val (.long q0), .second, .val (.long q1), .second, .val (.int p2), .val (.int p3), .val (.int p4), .val (.int (Int32.ofNat n)), .val (.int (Int32.ofNat a)), .val (.int (Int32.ofNat b)), .val (.ref b5), .val (.ref b7), .unset, .unset, .unset, .unset] [(.int (0 : Int32)), (.long q1), (.int (0 : Int32)), (.ref b7)])) rfl (by rw [hml]; rfl) (argsL := [(.long q1), (.int (0 : Int32))]) (rest := [(.int (0 : Int32)), (.ref b7)]) (lenOf own_pd0 rfl) rfl (by show 2 * 0 + _ ≤ _; exact Nat.le_of_eq rfl) (hb hby at_96) (fun _ _ => ⟨rfl, e41, (by decide : 2 + 0 ≤ _), (by decide : 10 + 0 ≤ _)⟩)
  dsimp only [Pt.U, Pt.locs, Pt.cells, Pt.slots] at X46 l46 y46 z46 st46 hQ46
  obtain rfl : k46 = 2 := y46
  obtain rfl : n46 = 10 := z46
  obtain ⟨rfl, N46q, e46⟩ := hQ46
  have N46 : Fr n0 L46 := by rw [l46]; exact Fr.app N41 N46q
  clear l46
  refine own_go (S' := T46.setTop (mkF m 99 #[.val (.long q0), .second, .val (.long q1), .second, .val (.int p2), .val (.int p3), .val (.int p4), .val (.int (Int32.ofNat n)), .val (.int (Int32.ofNat a)), .val (.int (Int32.ofNat b)), .val (.ref b5), .val (.ref b7), .unset, .unset, .unset, .unset] [(.int (own_val q1 (0 : Int32))), (.int (0 : Int32)), (.ref b7)])) st46 ?_
  obtain ⟨c47, Ar47, S47, M47, H47⟩ := id f44
  have hin47 : ¬ ((0 : Int32) < 0 ∨ c47.slots.size ≤ ((0 : Int32)).toNatClampNeg) := own_in S47 ⟨by decide, by decide⟩
  obtain ⟨T48, h48, X48, e48, W48, st48⟩ := stI X46 hx hZ e46 Ar47 (j := (0 : Int32)) hin47 (g := (mkF m 99 #[.val (.long q0), .second, .val (.long q1), .second, .val (.int p2), .val (.int p3), .val (.int p4), .val (.int (Int32.ofNat n)), .val (.int (Int32.ofNat a)), .val (.int (Int32.ofNat b)), .val (.ref b5), .val (.ref b7), .unset, .unset, .unset, .unset] [(.int (own_val q1 (0 : Int32))), (.int (0 : Int32)), (.ref b7)])) rfl rfl (hb hby at_99)
  have f50 : Exa Z h48 b5 "[I" := f43.wr W48
  have f51 : Exa Z h48 b7 "[I" := f45.wr W48
  have f52 : own_AI Z h48 b5 .int 5 (own_upd (own_upd (own_upd (own_upd (own_upd (fun _ => 0) 0 (own_val q0 (0 : Int32))) 1 (own_val q0 (1 : Int32))) 2 (own_val q0 (2 : Int32))) 3 (own_val q0 (3 : Int32))) 4 (own_val q0 (4 : Int32))) := f42.other W48 ne_b5_b7
  have f49 : own_AI Z h48 b7 .int 5 (own_upd (fun _ => 0) 0 (own_val q1 (0 : Int32))) := own_AI.set Ar47 S47 M47 H47 W48
  have Z48 : n0 ≤ h48.size := Nat.le_trans Z41 (Keep.of_wr W48).1
  have N48 := Fr.snoc X48 N46 g_b7
  refine own_go (S' := T48.setTop (mkF m 100 #[.val (.long q0), .second, .val (.long q1), .second, .val (.int p2), .val (.int p3), .val (.int p4), .val (.int (Int32.ofNat n)), .val (.int (Int32.ofNat a)), .val (.int (Int32.ofNat b)), .val (.ref b5), .val (.ref b7), .unset, .unset, .unset, .unset] [])) st48 ?_
  refine own_go (S' := T48.setTop (mkF m 105 #[.val (.long q0), .second, .val (.long q1), .second, .val (.int p2), .val (.int p3), .val (.int p4), .val (.int (Int32.ofNat n)), .val (.int (Int32.ofNat a)), .val (.int (Int32.ofNat b)), .val (.ref b5), .val (.ref b7), .unset, .unset, .unset, .unset] [(.int (1 : Int32)), (.long q1), (.int (1 : Int32)), (.ref b7)])) (fun target kt => ?_) ?_
  · skip
    show Steps p.tables e below (T48.setTop (mkF m 100 #[.val (.long q0), .second, .val (.long q1), .second, .val (.int p2), .val (.int p3), .val (.int p4), .val (.int (Int32.ofNat n)), .val (.int (Int32.ofNat a)), .val (.int (Int32.ofNat b)), .val (.ref b5), .val (.ref b7), .unset, .unset, .unset, .unset] [])) _
    refine XS.aload X48.here hx rfl (hb hby at_100) rfl rfl ?_
    show Steps p.tables e below (T48.setTop (mkF m 102 #[.val (.long q0), .second, .val (.long q1), .second, .val (.int p2), .val (.int p3), .val (.int p4), .val (.int (Int32.ofNat n)), .val (.int (Int32.ofNat a)), .val (.int (Int32.ofNat b)), .val (.ref b5), .val (.ref b7), .unset, .unset, .unset, .unset] [(.ref b7)])) _
    refine XS.iconst X48.here hx rfl (hb hby at_102) ?_
    show Steps p.tables e below (T48.setTop (mkF m 103 #[.val (.long q0), .second, .val (.long q1), .second, .val (.int p2), .val (.int p3), .val (.int p4), .val (.int (Int32.ofNat n)), .val (.int (Int32.ofNat a)), .val (.int (Int32.ofNat b)), .val (.ref b5), .val (.ref b7), .unset, .unset, .unset, .unset] [(.int (1 : Int32)), (.ref b7)])) _
    refine XS.lloadN X48.here hx rfl (hb hby at_103) rfl ?_
    show Steps p.tables e below (T48.setTop (mkF m 104 #[.val (.long q0), .second, .val (.long q1), .second, .val (.int p2), .val (.int p3), .val (.int p4), .val (.int (Int32.ofNat n)), .val (.int (Int32.ofNat a)), .val (.int (Int32.ofNat b)), .val (.ref b5), .val (.ref b7), .unset, .unset, .unset, .unset] [(.long q1), (.int (1 : Int32)), (.ref b7)])) _
    refine XS.iconst X48.here hx rfl (hb hby at_104) ?_
    exact kt
  obtain ⟨_, _, ⟨T53, L53, k53, n53⟩, -, X53, ⟨Lc53, hQ53, l53, y53, z53⟩, st53⟩ := Jvm.LawKit.callS X48 hx (y := (⟨"com/example/paretoforge/paretoforge/core/DominanceWeaklyDominatesPinLaw", "val", "(JI)I"⟩ : MethodName)) hown (mvT hZ (hw _ (List.mem_of_getElem? (i := 2) rfl))) (mvT hZ (hw _ (List.mem_of_getElem? (i := 3) rfl))) (mvT hZ (hw _ (List.mem_of_getElem? (i := 4) rfl))) (mvT hZ (hw _ (List.mem_of_getElem? (i := 5) rfl))) (by decide) (backOf (W := 2) (rm1 l Z aZ hw [] q1 (1 : Int32) h48 n0 Z48 ) hZ (hw _ (List.mem_of_getElem? (i := 5) rfl)) (hw _ (List.mem_of_getElem? (i := 4) rfl)) (by decide) (by decide)) (g := (mkF m 105 #[.val (.long q0), .second, .val (.long q1), .second, .val (.int p2), .val (.int p3), .val (.int p4), .val (.int (Int32.ofNat n)), .val (.int (Int32.ofNat a)), .val (.int (Int32.ofNat b)), .val (.ref b5), .val (.ref b7), .unset, .unset, .unset, .unset] [(.int (1 : Int32)), (.long q1), (.int (1 : Int32)), (.ref b7)])) rfl (by rw [hml]; rfl) (argsL := [(.long q1), (.int (1 : Int32))]) (rest := [(.int (1 : Int32)), (.ref b7)]) (lenOf own_pd0 rfl) rfl (by show 2 * 0 + _ ≤ _; exact Nat.le_of_eq rfl) (hb hby at_105) (fun _ _ => ⟨rfl, e48, (by decide : 2 + 0 ≤ _), (by decide : 10 + 0 ≤ _)⟩)
  dsimp only [Pt.U, Pt.locs, Pt.cells, Pt.slots] at X53 l53 y53 z53 st53 hQ53
  obtain rfl : k53 = 2 := y53
  obtain rfl : n53 = 10 := z53
  obtain ⟨rfl, N53q, e53⟩ := hQ53
  have N53 : Fr n0 L53 := by rw [l53]; exact Fr.app N48 N53q
  clear l53
  refine own_go (S' := T53.setTop (mkF m 108 #[.val (.long q0), .second, .val (.long q1), .second, .val (.int p2), .val (.int p3), .val (.int p4), .val (.int (Int32.ofNat n)), .val (.int (Int32.ofNat a)), .val (.int (Int32.ofNat b)), .val (.ref b5), .val (.ref b7), .unset, .unset, .unset, .unset] [(.int (own_val q1 (1 : Int32))), (.int (1 : Int32)), (.ref b7)])) st53 ?_
  obtain ⟨c54, Ar54, S54, M54, H54⟩ := id f49
  have hin54 : ¬ ((1 : Int32) < 0 ∨ c54.slots.size ≤ ((1 : Int32)).toNatClampNeg) := own_in S54 ⟨by decide, by decide⟩
  obtain ⟨T55, h55, X55, e55, W55, st55⟩ := stI X53 hx hZ e53 Ar54 (j := (1 : Int32)) hin54 (g := (mkF m 108 #[.val (.long q0), .second, .val (.long q1), .second, .val (.int p2), .val (.int p3), .val (.int p4), .val (.int (Int32.ofNat n)), .val (.int (Int32.ofNat a)), .val (.int (Int32.ofNat b)), .val (.ref b5), .val (.ref b7), .unset, .unset, .unset, .unset] [(.int (own_val q1 (1 : Int32))), (.int (1 : Int32)), (.ref b7)])) rfl rfl (hb hby at_108)
  have f57 : Exa Z h55 b5 "[I" := f50.wr W55
  have f58 : Exa Z h55 b7 "[I" := f51.wr W55
  have f59 : own_AI Z h55 b5 .int 5 (own_upd (own_upd (own_upd (own_upd (own_upd (fun _ => 0) 0 (own_val q0 (0 : Int32))) 1 (own_val q0 (1 : Int32))) 2 (own_val q0 (2 : Int32))) 3 (own_val q0 (3 : Int32))) 4 (own_val q0 (4 : Int32))) := f52.other W55 ne_b5_b7
  have f56 : own_AI Z h55 b7 .int 5 (own_upd (own_upd (fun _ => 0) 0 (own_val q1 (0 : Int32))) 1 (own_val q1 (1 : Int32))) := own_AI.set Ar54 S54 M54 H54 W55
  have Z55 : n0 ≤ h55.size := Nat.le_trans Z48 (Keep.of_wr W55).1
  have N55 := Fr.snoc X55 N53 g_b7
  refine own_go (S' := T55.setTop (mkF m 109 #[.val (.long q0), .second, .val (.long q1), .second, .val (.int p2), .val (.int p3), .val (.int p4), .val (.int (Int32.ofNat n)), .val (.int (Int32.ofNat a)), .val (.int (Int32.ofNat b)), .val (.ref b5), .val (.ref b7), .unset, .unset, .unset, .unset] [])) st55 ?_
  refine own_go (S' := T55.setTop (mkF m 114 #[.val (.long q0), .second, .val (.long q1), .second, .val (.int p2), .val (.int p3), .val (.int p4), .val (.int (Int32.ofNat n)), .val (.int (Int32.ofNat a)), .val (.int (Int32.ofNat b)), .val (.ref b5), .val (.ref b7), .unset, .unset, .unset, .unset] [(.int (2 : Int32)), (.long q1), (.int (2 : Int32)), (.ref b7)])) (fun target kt => ?_) ?_
  · skip
    show Steps p.tables e below (T55.setTop (mkF m 109 #[.val (.long q0), .second, .val (.long q1), .second, .val (.int p2), .val (.int p3), .val (.int p4), .val (.int (Int32.ofNat n)), .val (.int (Int32.ofNat a)), .val (.int (Int32.ofNat b)), .val (.ref b5), .val (.ref b7), .unset, .unset, .unset, .unset] [])) _
    refine XS.aload X55.here hx rfl (hb hby at_109) rfl rfl ?_
    show Steps p.tables e below (T55.setTop (mkF m 111 #[.val (.long q0), .second, .val (.long q1), .second, .val (.int p2), .val (.int p3), .val (.int p4), .val (.int (Int32.ofNat n)), .val (.int (Int32.ofNat a)), .val (.int (Int32.ofNat b)), .val (.ref b5), .val (.ref b7), .unset, .unset, .unset, .unset] [(.ref b7)])) _
    refine XS.iconst X55.here hx rfl (hb hby at_111) ?_
    show Steps p.tables e below (T55.setTop (mkF m 112 #[.val (.long q0), .second, .val (.long q1), .second, .val (.int p2), .val (.int p3), .val (.int p4), .val (.int (Int32.ofNat n)), .val (.int (Int32.ofNat a)), .val (.int (Int32.ofNat b)), .val (.ref b5), .val (.ref b7), .unset, .unset, .unset, .unset] [(.int (2 : Int32)), (.ref b7)])) _
    refine XS.lloadN X55.here hx rfl (hb hby at_112) rfl ?_
    show Steps p.tables e below (T55.setTop (mkF m 113 #[.val (.long q0), .second, .val (.long q1), .second, .val (.int p2), .val (.int p3), .val (.int p4), .val (.int (Int32.ofNat n)), .val (.int (Int32.ofNat a)), .val (.int (Int32.ofNat b)), .val (.ref b5), .val (.ref b7), .unset, .unset, .unset, .unset] [(.long q1), (.int (2 : Int32)), (.ref b7)])) _
    refine XS.iconst X55.here hx rfl (hb hby at_113) ?_
    exact kt
  obtain ⟨_, _, ⟨T60, L60, k60, n60⟩, -, X60, ⟨Lc60, hQ60, l60, y60, z60⟩, st60⟩ := Jvm.LawKit.callS X55 hx (y := (⟨"com/example/paretoforge/paretoforge/core/DominanceWeaklyDominatesPinLaw", "val", "(JI)I"⟩ : MethodName)) hown (mvT hZ (hw _ (List.mem_of_getElem? (i := 2) rfl))) (mvT hZ (hw _ (List.mem_of_getElem? (i := 3) rfl))) (mvT hZ (hw _ (List.mem_of_getElem? (i := 4) rfl))) (mvT hZ (hw _ (List.mem_of_getElem? (i := 5) rfl))) (by decide) (backOf (W := 2) (rm1 l Z aZ hw [] q1 (2 : Int32) h55 n0 Z55 ) hZ (hw _ (List.mem_of_getElem? (i := 5) rfl)) (hw _ (List.mem_of_getElem? (i := 4) rfl)) (by decide) (by decide)) (g := (mkF m 114 #[.val (.long q0), .second, .val (.long q1), .second, .val (.int p2), .val (.int p3), .val (.int p4), .val (.int (Int32.ofNat n)), .val (.int (Int32.ofNat a)), .val (.int (Int32.ofNat b)), .val (.ref b5), .val (.ref b7), .unset, .unset, .unset, .unset] [(.int (2 : Int32)), (.long q1), (.int (2 : Int32)), (.ref b7)])) rfl (by rw [hml]; rfl) (argsL := [(.long q1), (.int (2 : Int32))]) (rest := [(.int (2 : Int32)), (.ref b7)]) (lenOf own_pd0 rfl) rfl (by show 2 * 0 + _ ≤ _; exact Nat.le_of_eq rfl) (hb hby at_114) (fun _ _ => ⟨rfl, e55, (by decide : 2 + 0 ≤ _), (by decide : 10 + 0 ≤ _)⟩)
  dsimp only [Pt.U, Pt.locs, Pt.cells, Pt.slots] at X60 l60 y60 z60 st60 hQ60
  obtain rfl : k60 = 2 := y60
  obtain rfl : n60 = 10 := z60
  obtain ⟨rfl, N60q, e60⟩ := hQ60
  have N60 : Fr n0 L60 := by rw [l60]; exact Fr.app N55 N60q
  clear l60
  refine own_go (S' := T60.setTop (mkF m 117 #[.val (.long q0), .second, .val (.long q1), .second, .val (.int p2), .val (.int p3), .val (.int p4), .val (.int (Int32.ofNat n)), .val (.int (Int32.ofNat a)), .val (.int (Int32.ofNat b)), .val (.ref b5), .val (.ref b7), .unset, .unset, .unset, .unset] [(.int (own_val q1 (2 : Int32))), (.int (2 : Int32)), (.ref b7)])) st60 ?_
  obtain ⟨c61, Ar61, S61, M61, H61⟩ := id f56
  have hin61 : ¬ ((2 : Int32) < 0 ∨ c61.slots.size ≤ ((2 : Int32)).toNatClampNeg) := own_in S61 ⟨by decide, by decide⟩
  obtain ⟨T62, h62, X62, e62, W62, st62⟩ := stI X60 hx hZ e60 Ar61 (j := (2 : Int32)) hin61 (g := (mkF m 117 #[.val (.long q0), .second, .val (.long q1), .second, .val (.int p2), .val (.int p3), .val (.int p4), .val (.int (Int32.ofNat n)), .val (.int (Int32.ofNat a)), .val (.int (Int32.ofNat b)), .val (.ref b5), .val (.ref b7), .unset, .unset, .unset, .unset] [(.int (own_val q1 (2 : Int32))), (.int (2 : Int32)), (.ref b7)])) rfl rfl (hb hby at_117)
  have f64 : Exa Z h62 b5 "[I" := f57.wr W62
  have f65 : Exa Z h62 b7 "[I" := f58.wr W62
  have f66 : own_AI Z h62 b5 .int 5 (own_upd (own_upd (own_upd (own_upd (own_upd (fun _ => 0) 0 (own_val q0 (0 : Int32))) 1 (own_val q0 (1 : Int32))) 2 (own_val q0 (2 : Int32))) 3 (own_val q0 (3 : Int32))) 4 (own_val q0 (4 : Int32))) := f59.other W62 ne_b5_b7
  have f63 : own_AI Z h62 b7 .int 5 (own_upd (own_upd (own_upd (fun _ => 0) 0 (own_val q1 (0 : Int32))) 1 (own_val q1 (1 : Int32))) 2 (own_val q1 (2 : Int32))) := own_AI.set Ar61 S61 M61 H61 W62
  have Z62 : n0 ≤ h62.size := Nat.le_trans Z55 (Keep.of_wr W62).1
  have N62 := Fr.snoc X62 N60 g_b7
  refine own_go (S' := T62.setTop (mkF m 118 #[.val (.long q0), .second, .val (.long q1), .second, .val (.int p2), .val (.int p3), .val (.int p4), .val (.int (Int32.ofNat n)), .val (.int (Int32.ofNat a)), .val (.int (Int32.ofNat b)), .val (.ref b5), .val (.ref b7), .unset, .unset, .unset, .unset] [])) st62 ?_
  refine own_go (S' := T62.setTop (mkF m 123 #[.val (.long q0), .second, .val (.long q1), .second, .val (.int p2), .val (.int p3), .val (.int p4), .val (.int (Int32.ofNat n)), .val (.int (Int32.ofNat a)), .val (.int (Int32.ofNat b)), .val (.ref b5), .val (.ref b7), .unset, .unset, .unset, .unset] [(.int (3 : Int32)), (.long q1), (.int (3 : Int32)), (.ref b7)])) (fun target kt => ?_) ?_
  · skip
    show Steps p.tables e below (T62.setTop (mkF m 118 #[.val (.long q0), .second, .val (.long q1), .second, .val (.int p2), .val (.int p3), .val (.int p4), .val (.int (Int32.ofNat n)), .val (.int (Int32.ofNat a)), .val (.int (Int32.ofNat b)), .val (.ref b5), .val (.ref b7), .unset, .unset, .unset, .unset] [])) _
    refine XS.aload X62.here hx rfl (hb hby at_118) rfl rfl ?_
    show Steps p.tables e below (T62.setTop (mkF m 120 #[.val (.long q0), .second, .val (.long q1), .second, .val (.int p2), .val (.int p3), .val (.int p4), .val (.int (Int32.ofNat n)), .val (.int (Int32.ofNat a)), .val (.int (Int32.ofNat b)), .val (.ref b5), .val (.ref b7), .unset, .unset, .unset, .unset] [(.ref b7)])) _
    refine XS.iconst X62.here hx rfl (hb hby at_120) ?_
    show Steps p.tables e below (T62.setTop (mkF m 121 #[.val (.long q0), .second, .val (.long q1), .second, .val (.int p2), .val (.int p3), .val (.int p4), .val (.int (Int32.ofNat n)), .val (.int (Int32.ofNat a)), .val (.int (Int32.ofNat b)), .val (.ref b5), .val (.ref b7), .unset, .unset, .unset, .unset] [(.int (3 : Int32)), (.ref b7)])) _
    refine XS.lloadN X62.here hx rfl (hb hby at_121) rfl ?_
    show Steps p.tables e below (T62.setTop (mkF m 122 #[.val (.long q0), .second, .val (.long q1), .second, .val (.int p2), .val (.int p3), .val (.int p4), .val (.int (Int32.ofNat n)), .val (.int (Int32.ofNat a)), .val (.int (Int32.ofNat b)), .val (.ref b5), .val (.ref b7), .unset, .unset, .unset, .unset] [(.long q1), (.int (3 : Int32)), (.ref b7)])) _
    refine XS.iconst X62.here hx rfl (hb hby at_122) ?_
    exact kt
  obtain ⟨_, _, ⟨T67, L67, k67, n67⟩, -, X67, ⟨Lc67, hQ67, l67, y67, z67⟩, st67⟩ := Jvm.LawKit.callS X62 hx (y := (⟨"com/example/paretoforge/paretoforge/core/DominanceWeaklyDominatesPinLaw", "val", "(JI)I"⟩ : MethodName)) hown (mvT hZ (hw _ (List.mem_of_getElem? (i := 2) rfl))) (mvT hZ (hw _ (List.mem_of_getElem? (i := 3) rfl))) (mvT hZ (hw _ (List.mem_of_getElem? (i := 4) rfl))) (mvT hZ (hw _ (List.mem_of_getElem? (i := 5) rfl))) (by decide) (backOf (W := 2) (rm1 l Z aZ hw [] q1 (3 : Int32) h62 n0 Z62 ) hZ (hw _ (List.mem_of_getElem? (i := 5) rfl)) (hw _ (List.mem_of_getElem? (i := 4) rfl)) (by decide) (by decide)) (g := (mkF m 123 #[.val (.long q0), .second, .val (.long q1), .second, .val (.int p2), .val (.int p3), .val (.int p4), .val (.int (Int32.ofNat n)), .val (.int (Int32.ofNat a)), .val (.int (Int32.ofNat b)), .val (.ref b5), .val (.ref b7), .unset, .unset, .unset, .unset] [(.int (3 : Int32)), (.long q1), (.int (3 : Int32)), (.ref b7)])) rfl (by rw [hml]; rfl) (argsL := [(.long q1), (.int (3 : Int32))]) (rest := [(.int (3 : Int32)), (.ref b7)]) (lenOf own_pd0 rfl) rfl (by show 2 * 0 + _ ≤ _; exact Nat.le_of_eq rfl) (hb hby at_123) (fun _ _ => ⟨rfl, e62, (by decide : 2 + 0 ≤ _), (by decide : 10 + 0 ≤ _)⟩)
  dsimp only [Pt.U, Pt.locs, Pt.cells, Pt.slots] at X67 l67 y67 z67 st67 hQ67
  obtain rfl : k67 = 2 := y67
  obtain rfl : n67 = 10 := z67
  obtain ⟨rfl, N67q, e67⟩ := hQ67
  have N67 : Fr n0 L67 := by rw [l67]; exact Fr.app N62 N67q
  clear l67
  refine own_go (S' := T67.setTop (mkF m 126 #[.val (.long q0), .second, .val (.long q1), .second, .val (.int p2), .val (.int p3), .val (.int p4), .val (.int (Int32.ofNat n)), .val (.int (Int32.ofNat a)), .val (.int (Int32.ofNat b)), .val (.ref b5), .val (.ref b7), .unset, .unset, .unset, .unset] [(.int (own_val q1 (3 : Int32))), (.int (3 : Int32)), (.ref b7)])) st67 ?_
  obtain ⟨c68, Ar68, S68, M68, H68⟩ := id f63
  have hin68 : ¬ ((3 : Int32) < 0 ∨ c68.slots.size ≤ ((3 : Int32)).toNatClampNeg) := own_in S68 ⟨by decide, by decide⟩
  obtain ⟨T69, h69, X69, e69, W69, st69⟩ := stI X67 hx hZ e67 Ar68 (j := (3 : Int32)) hin68 (g := (mkF m 126 #[.val (.long q0), .second, .val (.long q1), .second, .val (.int p2), .val (.int p3), .val (.int p4), .val (.int (Int32.ofNat n)), .val (.int (Int32.ofNat a)), .val (.int (Int32.ofNat b)), .val (.ref b5), .val (.ref b7), .unset, .unset, .unset, .unset] [(.int (own_val q1 (3 : Int32))), (.int (3 : Int32)), (.ref b7)])) rfl rfl (hb hby at_126)
  have f71 : Exa Z h69 b5 "[I" := f64.wr W69
  have f72 : Exa Z h69 b7 "[I" := f65.wr W69
  have f73 : own_AI Z h69 b5 .int 5 (own_upd (own_upd (own_upd (own_upd (own_upd (fun _ => 0) 0 (own_val q0 (0 : Int32))) 1 (own_val q0 (1 : Int32))) 2 (own_val q0 (2 : Int32))) 3 (own_val q0 (3 : Int32))) 4 (own_val q0 (4 : Int32))) := f66.other W69 ne_b5_b7
  have f70 : own_AI Z h69 b7 .int 5 (own_upd (own_upd (own_upd (own_upd (fun _ => 0) 0 (own_val q1 (0 : Int32))) 1 (own_val q1 (1 : Int32))) 2 (own_val q1 (2 : Int32))) 3 (own_val q1 (3 : Int32))) := own_AI.set Ar68 S68 M68 H68 W69
  have Z69 : n0 ≤ h69.size := Nat.le_trans Z62 (Keep.of_wr W69).1
  have N69 := Fr.snoc X69 N67 g_b7
  refine own_go (S' := T69.setTop (mkF m 127 #[.val (.long q0), .second, .val (.long q1), .second, .val (.int p2), .val (.int p3), .val (.int p4), .val (.int (Int32.ofNat n)), .val (.int (Int32.ofNat a)), .val (.int (Int32.ofNat b)), .val (.ref b5), .val (.ref b7), .unset, .unset, .unset, .unset] [])) st69 ?_
  refine own_go (S' := T69.setTop (mkF m 132 #[.val (.long q0), .second, .val (.long q1), .second, .val (.int p2), .val (.int p3), .val (.int p4), .val (.int (Int32.ofNat n)), .val (.int (Int32.ofNat a)), .val (.int (Int32.ofNat b)), .val (.ref b5), .val (.ref b7), .unset, .unset, .unset, .unset] [(.int (4 : Int32)), (.long q1), (.int (4 : Int32)), (.ref b7)])) (fun target kt => ?_) ?_
  · skip
    show Steps p.tables e below (T69.setTop (mkF m 127 #[.val (.long q0), .second, .val (.long q1), .second, .val (.int p2), .val (.int p3), .val (.int p4), .val (.int (Int32.ofNat n)), .val (.int (Int32.ofNat a)), .val (.int (Int32.ofNat b)), .val (.ref b5), .val (.ref b7), .unset, .unset, .unset, .unset] [])) _
    refine XS.aload X69.here hx rfl (hb hby at_127) rfl rfl ?_
    show Steps p.tables e below (T69.setTop (mkF m 129 #[.val (.long q0), .second, .val (.long q1), .second, .val (.int p2), .val (.int p3), .val (.int p4), .val (.int (Int32.ofNat n)), .val (.int (Int32.ofNat a)), .val (.int (Int32.ofNat b)), .val (.ref b5), .val (.ref b7), .unset, .unset, .unset, .unset] [(.ref b7)])) _
    refine XS.iconst X69.here hx rfl (hb hby at_129) ?_
    show Steps p.tables e below (T69.setTop (mkF m 130 #[.val (.long q0), .second, .val (.long q1), .second, .val (.int p2), .val (.int p3), .val (.int p4), .val (.int (Int32.ofNat n)), .val (.int (Int32.ofNat a)), .val (.int (Int32.ofNat b)), .val (.ref b5), .val (.ref b7), .unset, .unset, .unset, .unset] [(.int (4 : Int32)), (.ref b7)])) _
    refine XS.lloadN X69.here hx rfl (hb hby at_130) rfl ?_
    show Steps p.tables e below (T69.setTop (mkF m 131 #[.val (.long q0), .second, .val (.long q1), .second, .val (.int p2), .val (.int p3), .val (.int p4), .val (.int (Int32.ofNat n)), .val (.int (Int32.ofNat a)), .val (.int (Int32.ofNat b)), .val (.ref b5), .val (.ref b7), .unset, .unset, .unset, .unset] [(.long q1), (.int (4 : Int32)), (.ref b7)])) _
    refine XS.iconst X69.here hx rfl (hb hby at_131) ?_
    exact kt
  obtain ⟨_, _, ⟨T74, L74, k74, n74⟩, -, X74, ⟨Lc74, hQ74, l74, y74, z74⟩, st74⟩ := Jvm.LawKit.callS X69 hx (y := (⟨"com/example/paretoforge/paretoforge/core/DominanceWeaklyDominatesPinLaw", "val", "(JI)I"⟩ : MethodName)) hown (mvT hZ (hw _ (List.mem_of_getElem? (i := 2) rfl))) (mvT hZ (hw _ (List.mem_of_getElem? (i := 3) rfl))) (mvT hZ (hw _ (List.mem_of_getElem? (i := 4) rfl))) (mvT hZ (hw _ (List.mem_of_getElem? (i := 5) rfl))) (by decide) (backOf (W := 2) (rm1 l Z aZ hw [] q1 (4 : Int32) h69 n0 Z69 ) hZ (hw _ (List.mem_of_getElem? (i := 5) rfl)) (hw _ (List.mem_of_getElem? (i := 4) rfl)) (by decide) (by decide)) (g := (mkF m 132 #[.val (.long q0), .second, .val (.long q1), .second, .val (.int p2), .val (.int p3), .val (.int p4), .val (.int (Int32.ofNat n)), .val (.int (Int32.ofNat a)), .val (.int (Int32.ofNat b)), .val (.ref b5), .val (.ref b7), .unset, .unset, .unset, .unset] [(.int (4 : Int32)), (.long q1), (.int (4 : Int32)), (.ref b7)])) rfl (by rw [hml]; rfl) (argsL := [(.long q1), (.int (4 : Int32))]) (rest := [(.int (4 : Int32)), (.ref b7)]) (lenOf own_pd0 rfl) rfl (by show 2 * 0 + _ ≤ _; exact Nat.le_of_eq rfl) (hb hby at_132) (fun _ _ => ⟨rfl, e69, (by decide : 2 + 0 ≤ _), (by decide : 10 + 0 ≤ _)⟩)
  dsimp only [Pt.U, Pt.locs, Pt.cells, Pt.slots] at X74 l74 y74 z74 st74 hQ74
  obtain rfl : k74 = 2 := y74
  obtain rfl : n74 = 10 := z74
  obtain ⟨rfl, N74q, e74⟩ := hQ74
  have N74 : Fr n0 L74 := by rw [l74]; exact Fr.app N69 N74q
  clear l74
  refine own_go (S' := T74.setTop (mkF m 135 #[.val (.long q0), .second, .val (.long q1), .second, .val (.int p2), .val (.int p3), .val (.int p4), .val (.int (Int32.ofNat n)), .val (.int (Int32.ofNat a)), .val (.int (Int32.ofNat b)), .val (.ref b5), .val (.ref b7), .unset, .unset, .unset, .unset] [(.int (own_val q1 (4 : Int32))), (.int (4 : Int32)), (.ref b7)])) st74 ?_
  obtain ⟨c75, Ar75, S75, M75, H75⟩ := id f70
  have hin75 : ¬ ((4 : Int32) < 0 ∨ c75.slots.size ≤ ((4 : Int32)).toNatClampNeg) := own_in S75 ⟨by decide, by decide⟩
  obtain ⟨T76, h76, X76, e76, W76, st76⟩ := stI X74 hx hZ e74 Ar75 (j := (4 : Int32)) hin75 (g := (mkF m 135 #[.val (.long q0), .second, .val (.long q1), .second, .val (.int p2), .val (.int p3), .val (.int p4), .val (.int (Int32.ofNat n)), .val (.int (Int32.ofNat a)), .val (.int (Int32.ofNat b)), .val (.ref b5), .val (.ref b7), .unset, .unset, .unset, .unset] [(.int (own_val q1 (4 : Int32))), (.int (4 : Int32)), (.ref b7)])) rfl rfl (hb hby at_135)
  have f78 : Exa Z h76 b5 "[I" := f71.wr W76
  have f79 : Exa Z h76 b7 "[I" := f72.wr W76
  have f80 : own_AI Z h76 b5 .int 5 (own_upd (own_upd (own_upd (own_upd (own_upd (fun _ => 0) 0 (own_val q0 (0 : Int32))) 1 (own_val q0 (1 : Int32))) 2 (own_val q0 (2 : Int32))) 3 (own_val q0 (3 : Int32))) 4 (own_val q0 (4 : Int32))) := f73.other W76 ne_b5_b7
  have f77 : own_AI Z h76 b7 .int 5 (own_upd (own_upd (own_upd (own_upd (own_upd (fun _ => 0) 0 (own_val q1 (0 : Int32))) 1 (own_val q1 (1 : Int32))) 2 (own_val q1 (2 : Int32))) 3 (own_val q1 (3 : Int32))) 4 (own_val q1 (4 : Int32))) := own_AI.set Ar75 S75 M75 H75 W76
  have Z76 : n0 ≤ h76.size := Nat.le_trans Z69 (Keep.of_wr W76).1
  have N76 := Fr.snoc X76 N74 g_b7
  refine own_go (S' := T76.setTop (mkF m 136 #[.val (.long q0), .second, .val (.long q1), .second, .val (.int p2), .val (.int p3), .val (.int p4), .val (.int (Int32.ofNat n)), .val (.int (Int32.ofNat a)), .val (.int (Int32.ofNat b)), .val (.ref b5), .val (.ref b7), .unset, .unset, .unset, .unset] [])) st76 ?_
  obtain ⟨ia, h_ia⟩ : ∃ z : Nat → Int32, z = (own_upd (own_upd (own_upd (own_upd (own_upd (fun _ => 0) 0 (own_val q0 (0 : Int32))) 1 (own_val q0 (1 : Int32))) 2 (own_val q0 (2 : Int32))) 3 (own_val q0 (3 : Int32))) 4 (own_val q0 (4 : Int32))) := ⟨_, rfl⟩
  rw [← h_ia] at f80
  obtain ⟨ib, h_ib⟩ : ∃ z : Nat → Int32, z = (own_upd (own_upd (own_upd (own_upd (own_upd (fun _ => 0) 0 (own_val q1 (0 : Int32))) 1 (own_val q1 (1 : Int32))) 2 (own_val q1 (2 : Int32))) 3 (own_val q1 (3 : Int32))) 4 (own_val q1 (4 : Int32))) := ⟨_, rfl⟩
  rw [← h_ib] at f77
  refine own_go (S' := T76.setTop (mkF m 137 #[.val (.long q0), .second, .val (.long q1), .second, .val (.int p2), .val (.int p3), .val (.int p4), .val (.int (Int32.ofNat n)), .val (.int (Int32.ofNat a)), .val (.int (Int32.ofNat b)), .val (.ref b5), .val (.ref b7), .unset, .unset, .unset, .unset] [(.int (5 : Int32))])) (fun target kt => ?_) ?_
  · skip
    show Steps p.tables e below (T76.setTop (mkF m 136 #[.val (.long q0), .second, .val (.long q1), .second, .val (.int p2), .val (.int p3), .val (.int p4), .val (.int (Int32.ofNat n)), .val (.int (Int32.ofNat a)), .val (.int (Int32.ofNat b)), .val (.ref b5), .val (.ref b7), .unset, .unset, .unset, .unset] [])) _
    refine XS.iconst X76.here hx rfl (hb hby at_136) ?_
    exact kt
  obtain ⟨T81, h81, k81, X81, e81, E81, A81, B81, st81⟩ := newPE X76 hx hZ (hw _ (List.mem_of_getElem? (i := 7) rfl)) e76 (g := (mkF m 137 #[.val (.long q0), .second, .val (.long q1), .second, .val (.int p2), .val (.int p3), .val (.int p4), .val (.int (Int32.ofNat n)), .val (.int (Int32.ofNat a)), .val (.int (Int32.ofNat b)), .val (.ref b5), .val (.ref b7), .unset, .unset, .unset, .unset] [(.int (5 : Int32))])) rfl (hb hby at_137) rfl (by decide) (cap := 5) (by decide) (by decide) (by decide) (by decide) (ad := "[D") (by decide)
  obtain ⟨b81, g81⟩ : ∃ z, z = h76.size := ⟨_, rfl⟩
  rw [← g81] at A81 B81 st81
  have f82 : Exa Z h81 b5 "[I" := f78.ext E81
  have f83 : Exa Z h81 b7 "[I" := f79.ext E81
  have f84 : own_AI Z h81 b5 .int 5 ia := f80.ext E81
  have f85 : own_AI Z h81 b7 .int 5 ib := f77.ext E81
  have g_b81 : n0 ≤ b81 := Nat.le_trans Z76 (Nat.le_of_eq g81.symm)
  have ne_b5_b81 : b5 ≠ b81 := Nat.ne_of_lt (Nat.lt_of_lt_of_le f78.lt (Nat.le_of_eq g81.symm))
  have ne_b7_b81 : b7 ≠ b81 := Nat.ne_of_lt (Nat.lt_of_lt_of_le f79.lt (Nat.le_of_eq g81.symm))
  have Z81 : n0 ≤ h81.size := Nat.le_trans Z76 E81.1
  have f86 : own_AD Z h81 b81 .double 5 (fun _ => 0) := own_AD.fresh A81 rfl
  refine own_go (S' := T81.setTop (mkF m 139 #[.val (.long q0), .second, .val (.long q1), .second, .val (.int p2), .val (.int p3), .val (.int p4), .val (.int (Int32.ofNat n)), .val (.int (Int32.ofNat a)), .val (.int (Int32.ofNat b)), .val (.ref b5), .val (.ref b7), .unset, .unset, .unset, .unset] [(.ref b81)])) st81 ?_
  refine own_go (S' := T81.setTop (mkF m 142 #[.val (.long q0), .second, .val (.long q1), .second, .val (.int p2), .val (.int p3), .val (.int p4), .val (.int (Int32.ofNat n)), .val (.int (Int32.ofNat a)), .val (.int (Int32.ofNat b)), .val (.ref b5), .val (.ref b7), .val (.ref b81), .unset, .unset, .unset] [(.int (5 : Int32))])) (fun target kt => ?_) ?_
  · skip
    show Steps p.tables e below (T81.setTop (mkF m 139 #[.val (.long q0), .second, .val (.long q1), .second, .val (.int p2), .val (.int p3), .val (.int p4), .val (.int (Int32.ofNat n)), .val (.int (Int32.ofNat a)), .val (.int (Int32.ofNat b)), .val (.ref b5), .val (.ref b7), .unset, .unset, .unset, .unset] [(.ref b81)])) _
    refine XS.astore X81.here hx rfl (hb hby at_139) rfl rfl (l' := #[.val (.long q0), .second, .val (.long q1), .second, .val (.int p2), .val (.int p3), .val (.int p4), .val (.int (Int32.ofNat n)), .val (.int (Int32.ofNat a)), .val (.int (Int32.ofNat b)), .val (.ref b5), .val (.ref b7), .val (.ref b81), .unset, .unset, .unset]) rfl ?_
    show Steps p.tables e below (T81.setTop (mkF m 141 #[.val (.long q0), .second, .val (.long q1), .second, .val (.int p2), .val (.int p3), .val (.int p4), .val (.int (Int32.ofNat n)), .val (.int (Int32.ofNat a)), .val (.int (Int32.ofNat b)), .val (.ref b5), .val (.ref b7), .val (.ref b81), .unset, .unset, .unset] [])) _
    refine XS.iconst X81.here hx rfl (hb hby at_141) ?_
    exact kt
  obtain ⟨T87, h87, k87, X87, e87, E87, A87, B87, st87⟩ := newPE X81 hx hZ (hw _ (List.mem_of_getElem? (i := 7) rfl)) e81 (g := (mkF m 142 #[.val (.long q0), .second, .val (.long q1), .second, .val (.int p2), .val (.int p3), .val (.int p4), .val (.int (Int32.ofNat n)), .val (.int (Int32.ofNat a)), .val (.int (Int32.ofNat b)), .val (.ref b5), .val (.ref b7), .val (.ref b81), .unset, .unset, .unset] [(.int (5 : Int32))])) rfl (hb hby at_142) rfl (by decide) (cap := 5) (by decide) (by decide) (by decide) (by decide) (ad := "[D") (by decide)
  obtain ⟨b87, g87⟩ : ∃ z, z = h81.size := ⟨_, rfl⟩
  rw [← g87] at A87 B87 st87
  have f88 : Exa Z h87 b5 "[I" := f82.ext E87
  have f89 : Exa Z h87 b7 "[I" := f83.ext E87
  have f90 : own_AI Z h87 b5 .int 5 ia := f84.ext E87
  have f91 : own_AI Z h87 b7 .int 5 ib := f85.ext E87
  have f92 : own_AD Z h87 b81 .double 5 (fun _ => 0) := f86.ext E87
  have f93 : Exa Z h87 b81 "[D" := B81.ext E87
  have g_b87 : n0 ≤ b87 := Nat.le_trans Z81 (Nat.le_of_eq g87.symm)
  have ne_b5_b87 : b5 ≠ b87 := Nat.ne_of_lt (Nat.lt_of_lt_of_le f82.lt (Nat.le_of_eq g87.symm))
  have ne_b7_b87 : b7 ≠ b87 := Nat.ne_of_lt (Nat.lt_of_lt_of_le f83.lt (Nat.le_of_eq g87.symm))
  have ne_b81_b87 : b81 ≠ b87 := Nat.ne_of_lt (Nat.lt_of_lt_of_le f86.lt (Nat.le_of_eq g87.symm))
  have Z87 : n0 ≤ h87.size := Nat.le_trans Z81 E87.1
  have f94 : own_AD Z h87 b87 .double 5 (fun _ => 0) := own_AD.fresh A87 rfl
  refine own_go (S' := T87.setTop (mkF m 144 #[.val (.long q0), .second, .val (.long q1), .second, .val (.int p2), .val (.int p3), .val (.int p4), .val (.int (Int32.ofNat n)), .val (.int (Int32.ofNat a)), .val (.int (Int32.ofNat b)), .val (.ref b5), .val (.ref b7), .val (.ref b81), .unset, .unset, .unset] [(.ref b87)])) st87 ?_
  refine own_go (S' := T87.setTop (mkF m 152 #[.val (.long q0), .second, .val (.long q1), .second, .val (.int p2), .val (.int p3), .val (.int p4), .val (.int (Int32.ofNat n)), .val (.int (Int32.ofNat a)), .val (.int (Int32.ofNat b)), .val (.ref b5), .val (.ref b7), .val (.ref b81), .val (.ref b87), .unset, .unset] [(.int (0 : Int32)), (.ref b5), (.int (0 : Int32)), (.ref b81)])) (fun target kt => ?_) ?_
  · skip
    show Steps p.tables e below (T87.setTop (mkF m 144 #[.val (.long q0), .second, .val (.long q1), .second, .val (.int p2), .val (.int p3), .val (.int p4), .val (.int (Int32.ofNat n)), .val (.int (Int32.ofNat a)), .val (.int (Int32.ofNat b)), .val (.ref b5), .val (.ref b7), .val (.ref b81), .unset, .unset, .unset] [(.ref b87)])) _
    refine XS.astore X87.here hx rfl (hb hby at_144) rfl rfl (l' := #[.val (.long q0), .second, .val (.long q1), .second, .val (.int p2), .val (.int p3), .val (.int p4), .val (.int (Int32.ofNat n)), .val (.int (Int32.ofNat a)), .val (.int (Int32.ofNat b)), .val (.ref b5), .val (.ref b7), .val (.ref b81), .val (.ref b87), .unset, .unset]) rfl ?_
    show Steps p.tables e below (T87.setTop (mkF m 146 #[.val (.long q0), .second, .val (.long q1), .second, .val (.int p2), .val (.int p3), .val (.int p4), .val (.int (Int32.ofNat n)), .val (.int (Int32.ofNat a)), .val (.int (Int32.ofNat b)), .val (.ref b5), .val (.ref b7), .val (.ref b81), .val (.ref b87), .unset, .unset] [])) _
    refine XS.aload X87.here hx rfl (hb hby at_146) rfl rfl ?_
    show Steps p.tables e below (T87.setTop (mkF m 148 #[.val (.long q0), .second, .val (.long q1), .second, .val (.int p2), .val (.int p3), .val (.int p4), .val (.int (Int32.ofNat n)), .val (.int (Int32.ofNat a)), .val (.int (Int32.ofNat b)), .val (.ref b5), .val (.ref b7), .val (.ref b81), .val (.ref b87), .unset, .unset] [(.ref b81)])) _
    refine XS.iconst X87.here hx rfl (hb hby at_148) ?_
    show Steps p.tables e below (T87.setTop (mkF m 149 #[.val (.long q0), .second, .val (.long q1), .second, .val (.int p2), .val (.int p3), .val (.int p4), .val (.int (Int32.ofNat n)), .val (.int (Int32.ofNat a)), .val (.int (Int32.ofNat b)), .val (.ref b5), .val (.ref b7), .val (.ref b81), .val (.ref b87), .unset, .unset] [(.int (0 : Int32)), (.ref b81)])) _
    refine XS.aload X87.here hx rfl (hb hby at_149) rfl rfl ?_
    show Steps p.tables e below (T87.setTop (mkF m 151 #[.val (.long q0), .second, .val (.long q1), .second, .val (.int p2), .val (.int p3), .val (.int p4), .val (.int (Int32.ofNat n)), .val (.int (Int32.ofNat a)), .val (.int (Int32.ofNat b)), .val (.ref b5), .val (.ref b7), .val (.ref b81), .val (.ref b87), .unset, .unset] [(.ref b5), (.int (0 : Int32)), (.ref b81)])) _
    refine XS.iconst X87.here hx rfl (hb hby at_151) ?_
    exact kt
  obtain ⟨c95, Ar95, S95, M95, H95⟩ := id f90
  have hj95 : ¬ (0 : Int32) < 0 ∧ ((0 : Int32)).toNatClampNeg < 5 := ⟨by decide, by decide⟩
  have st95 : ∀ target, Steps p.tables e below (T87.setTop (mkF m 153 #[.val (.long q0), .second, .val (.long q1), .second, .val (.int p2), .val (.int p3), .val (.int p4), .val (.int (Int32.ofNat n)), .val (.int (Int32.ofNat a)), .val (.int (Int32.ofNat b)), .val (.ref b5), .val (.ref b7), .val (.ref b81), .val (.ref b87), .unset, .unset] [(.int (ia 0)), (.int (0 : Int32)), (.ref b81)])) target → Steps p.tables e below (T87.setTop (mkF m 152 #[.val (.long q0), .second, .val (.long q1), .second, .val (.int p2), .val (.int p3), .val (.int p4), .val (.int (Int32.ofNat n)), .val (.int (Int32.ofNat a)), .val (.int (Int32.ofNat b)), .val (.ref b5), .val (.ref b7), .val (.ref b81), .val (.ref b87), .unset, .unset] [(.int (0 : Int32)), (.ref b5), (.int (0 : Int32)), (.ref b81)])) target := fun target kt => X87.iaload hx (j := (0 : Int32)) (v := (.int (ia 0))) (by rw [e87]; exact Ar95.1) (State.isArrayOf_alike hZ.alike Ar95.2.1) Ar95.2.2 (own_in S95 hj95) (H95 _ hj95.2) (g := (mkF m 152 #[.val (.long q0), .second, .val (.long q1), .second, .val (.int p2), .val (.int p3), .val (.int p4), .val (.int (Int32.ofNat n)), .val (.int (Int32.ofNat a)), .val (.int (Int32.ofNat b)), .val (.ref b5), .val (.ref b7), .val (.ref b81), .val (.ref b87), .unset, .unset] [(.int (0 : Int32)), (.ref b5), (.int (0 : Int32)), (.ref b81)])) rfl rfl (hb hby at_152) _ kt
  refine own_go (S' := T87.setTop (mkF m 153 #[.val (.long q0), .second, .val (.long q1), .second, .val (.int p2), .val (.int p3), .val (.int p4), .val (.int (Int32.ofNat n)), .val (.int (Int32.ofNat a)), .val (.int (Int32.ofNat b)), .val (.ref b5), .val (.ref b7), .val (.ref b81), .val (.ref b87), .unset, .unset] [(.int (ia 0)), (.int (0 : Int32)), (.ref b81)])) st95 ?_
  refine own_go (S' := T87.setTop (mkF m 154 #[.val (.long q0), .second, .val (.long q1), .second, .val (.int p2), .val (.int p3), .val (.int p4), .val (.int (Int32.ofNat n)), .val (.int (Int32.ofNat a)), .val (.int (Int32.ofNat b)), .val (.ref b5), .val (.ref b7), .val (.ref b81), .val (.ref b87), .unset, .unset] [(.double (FP.i2d (ia 0))), (.int (0 : Int32)), (.ref b81)])) (fun target kt => ?_) ?_
  · skip
    show Steps p.tables e below (T87.setTop (mkF m 153 #[.val (.long q0), .second, .val (.long q1), .second, .val (.int p2), .val (.int p3), .val (.int p4), .val (.int (Int32.ofNat n)), .val (.int (Int32.ofNat a)), .val (.int (Int32.ofNat b)), .val (.ref b5), .val (.ref b7), .val (.ref b81), .val (.ref b87), .unset, .unset] [(.int (ia 0)), (.int (0 : Int32)), (.ref b81)])) _
    refine XS.i2dS X87.here hx rfl (hb hby at_153) rfl rfl ?_
    exact kt
  obtain ⟨c96, Ar96, S96, M96, H96⟩ := id f92
  have hin96 : ¬ ((0 : Int32) < 0 ∨ c96.slots.size ≤ ((0 : Int32)).toNatClampNeg) := own_in S96 ⟨by decide, by decide⟩
  obtain ⟨T97, h97, X97, e97, W97, st97⟩ := Jvm.RoadKit.stD X87 hx hZ e87 Ar96 (j := (0 : Int32)) hin96 (g := (mkF m 154 #[.val (.long q0), .second, .val (.long q1), .second, .val (.int p2), .val (.int p3), .val (.int p4), .val (.int (Int32.ofNat n)), .val (.int (Int32.ofNat a)), .val (.int (Int32.ofNat b)), .val (.ref b5), .val (.ref b7), .val (.ref b81), .val (.ref b87), .unset, .unset] [(.double (FP.i2d (ia 0))), (.int (0 : Int32)), (.ref b81)])) rfl rfl (hb hby at_154)
  have f99 : Exa Z h97 b5 "[I" := f88.wr W97
  have f100 : Exa Z h97 b7 "[I" := f89.wr W97
  have f101 : own_AI Z h97 b5 .int 5 ia := f90.other W97 ne_b5_b81
  have f102 : own_AI Z h97 b7 .int 5 ib := f91.other W97 ne_b7_b81
  have f103 : Exa Z h97 b81 "[D" := f93.wr W97
  have f104 : own_AD Z h97 b87 .double 5 (fun _ => 0) := f94.other W97 (Ne.symm ne_b81_b87)
  have f105 : Exa Z h97 b87 "[D" := B87.wr W97
  have f98 : own_AD Z h97 b81 .double 5 (own_upd (fun _ => 0) 0 (FP.i2d (ia 0))) := own_AD.set Ar96 S96 M96 H96 W97
  have Z97 : n0 ≤ h97.size := Nat.le_trans Z87 (Keep.of_wr W97).1
  have N97 := Fr.snoc X97 N76 g_b81
  refine own_go (S' := T97.setTop (mkF m 155 #[.val (.long q0), .second, .val (.long q1), .second, .val (.int p2), .val (.int p3), .val (.int p4), .val (.int (Int32.ofNat n)), .val (.int (Int32.ofNat a)), .val (.int (Int32.ofNat b)), .val (.ref b5), .val (.ref b7), .val (.ref b81), .val (.ref b87), .unset, .unset] [])) st97 ?_
  refine own_go (S' := T97.setTop (mkF m 161 #[.val (.long q0), .second, .val (.long q1), .second, .val (.int p2), .val (.int p3), .val (.int p4), .val (.int (Int32.ofNat n)), .val (.int (Int32.ofNat a)), .val (.int (Int32.ofNat b)), .val (.ref b5), .val (.ref b7), .val (.ref b81), .val (.ref b87), .unset, .unset] [(.int (1 : Int32)), (.ref b5), (.int (1 : Int32)), (.ref b81)])) (fun target kt => ?_) ?_
  · skip
    show Steps p.tables e below (T97.setTop (mkF m 155 #[.val (.long q0), .second, .val (.long q1), .second, .val (.int p2), .val (.int p3), .val (.int p4), .val (.int (Int32.ofNat n)), .val (.int (Int32.ofNat a)), .val (.int (Int32.ofNat b)), .val (.ref b5), .val (.ref b7), .val (.ref b81), .val (.ref b87), .unset, .unset] [])) _
    refine XS.aload X97.here hx rfl (hb hby at_155) rfl rfl ?_
    show Steps p.tables e below (T97.setTop (mkF m 157 #[.val (.long q0), .second, .val (.long q1), .second, .val (.int p2), .val (.int p3), .val (.int p4), .val (.int (Int32.ofNat n)), .val (.int (Int32.ofNat a)), .val (.int (Int32.ofNat b)), .val (.ref b5), .val (.ref b7), .val (.ref b81), .val (.ref b87), .unset, .unset] [(.ref b81)])) _
    refine XS.iconst X97.here hx rfl (hb hby at_157) ?_
    show Steps p.tables e below (T97.setTop (mkF m 158 #[.val (.long q0), .second, .val (.long q1), .second, .val (.int p2), .val (.int p3), .val (.int p4), .val (.int (Int32.ofNat n)), .val (.int (Int32.ofNat a)), .val (.int (Int32.ofNat b)), .val (.ref b5), .val (.ref b7), .val (.ref b81), .val (.ref b87), .unset, .unset] [(.int (1 : Int32)), (.ref b81)])) _
    refine XS.aload X97.here hx rfl (hb hby at_158) rfl rfl ?_
    show Steps p.tables e below (T97.setTop (mkF m 160 #[.val (.long q0), .second, .val (.long q1), .second, .val (.int p2), .val (.int p3), .val (.int p4), .val (.int (Int32.ofNat n)), .val (.int (Int32.ofNat a)), .val (.int (Int32.ofNat b)), .val (.ref b5), .val (.ref b7), .val (.ref b81), .val (.ref b87), .unset, .unset] [(.ref b5), (.int (1 : Int32)), (.ref b81)])) _
    refine XS.iconst X97.here hx rfl (hb hby at_160) ?_
    exact kt
  obtain ⟨c106, Ar106, S106, M106, H106⟩ := id f101
  have hj106 : ¬ (1 : Int32) < 0 ∧ ((1 : Int32)).toNatClampNeg < 5 := ⟨by decide, by decide⟩
  have st106 : ∀ target, Steps p.tables e below (T97.setTop (mkF m 162 #[.val (.long q0), .second, .val (.long q1), .second, .val (.int p2), .val (.int p3), .val (.int p4), .val (.int (Int32.ofNat n)), .val (.int (Int32.ofNat a)), .val (.int (Int32.ofNat b)), .val (.ref b5), .val (.ref b7), .val (.ref b81), .val (.ref b87), .unset, .unset] [(.int (ia 1)), (.int (1 : Int32)), (.ref b81)])) target → Steps p.tables e below (T97.setTop (mkF m 161 #[.val (.long q0), .second, .val (.long q1), .second, .val (.int p2), .val (.int p3), .val (.int p4), .val (.int (Int32.ofNat n)), .val (.int (Int32.ofNat a)), .val (.int (Int32.ofNat b)), .val (.ref b5), .val (.ref b7), .val (.ref b81), .val (.ref b87), .unset, .unset] [(.int (1 : Int32)), (.ref b5), (.int (1 : Int32)), (.ref b81)])) target := fun target kt => X97.iaload hx (j := (1 : Int32)) (v := (.int (ia 1))) (by rw [e97]; exact Ar106.1) (State.isArrayOf_alike hZ.alike Ar106.2.1) Ar106.2.2 (own_in S106 hj106) (H106 _ hj106.2) (g := (mkF m 161 #[.val (.long q0), .second, .val (.long q1), .second, .val (.int p2), .val (.int p3), .val (.int p4), .val (.int (Int32.ofNat n)), .val (.int (Int32.ofNat a)), .val (.int (Int32.ofNat b)), .val (.ref b5), .val (.ref b7), .val (.ref b81), .val (.ref b87), .unset, .unset] [(.int (1 : Int32)), (.ref b5), (.int (1 : Int32)), (.ref b81)])) rfl rfl (hb hby at_161) _ kt
  refine own_go (S' := T97.setTop (mkF m 162 #[.val (.long q0), .second, .val (.long q1), .second, .val (.int p2), .val (.int p3), .val (.int p4), .val (.int (Int32.ofNat n)), .val (.int (Int32.ofNat a)), .val (.int (Int32.ofNat b)), .val (.ref b5), .val (.ref b7), .val (.ref b81), .val (.ref b87), .unset, .unset] [(.int (ia 1)), (.int (1 : Int32)), (.ref b81)])) st106 ?_
  refine own_go (S' := T97.setTop (mkF m 163 #[.val (.long q0), .second, .val (.long q1), .second, .val (.int p2), .val (.int p3), .val (.int p4), .val (.int (Int32.ofNat n)), .val (.int (Int32.ofNat a)), .val (.int (Int32.ofNat b)), .val (.ref b5), .val (.ref b7), .val (.ref b81), .val (.ref b87), .unset, .unset] [(.double (FP.i2d (ia 1))), (.int (1 : Int32)), (.ref b81)])) (fun target kt => ?_) ?_
  · skip
    show Steps p.tables e below (T97.setTop (mkF m 162 #[.val (.long q0), .second, .val (.long q1), .second, .val (.int p2), .val (.int p3), .val (.int p4), .val (.int (Int32.ofNat n)), .val (.int (Int32.ofNat a)), .val (.int (Int32.ofNat b)), .val (.ref b5), .val (.ref b7), .val (.ref b81), .val (.ref b87), .unset, .unset] [(.int (ia 1)), (.int (1 : Int32)), (.ref b81)])) _
    refine XS.i2dS X97.here hx rfl (hb hby at_162) rfl rfl ?_
    exact kt
  obtain ⟨c107, Ar107, S107, M107, H107⟩ := id f98
  have hin107 : ¬ ((1 : Int32) < 0 ∨ c107.slots.size ≤ ((1 : Int32)).toNatClampNeg) := own_in S107 ⟨by decide, by decide⟩
  obtain ⟨T108, h108, X108, e108, W108, st108⟩ := Jvm.RoadKit.stD X97 hx hZ e97 Ar107 (j := (1 : Int32)) hin107 (g := (mkF m 163 #[.val (.long q0), .second, .val (.long q1), .second, .val (.int p2), .val (.int p3), .val (.int p4), .val (.int (Int32.ofNat n)), .val (.int (Int32.ofNat a)), .val (.int (Int32.ofNat b)), .val (.ref b5), .val (.ref b7), .val (.ref b81), .val (.ref b87), .unset, .unset] [(.double (FP.i2d (ia 1))), (.int (1 : Int32)), (.ref b81)])) rfl rfl (hb hby at_163)
  have f110 : Exa Z h108 b5 "[I" := f99.wr W108
  have f111 : Exa Z h108 b7 "[I" := f100.wr W108
  have f112 : own_AI Z h108 b5 .int 5 ia := f101.other W108 ne_b5_b81
  have f113 : own_AI Z h108 b7 .int 5 ib := f102.other W108 ne_b7_b81
  have f114 : Exa Z h108 b81 "[D" := f103.wr W108
  have f115 : own_AD Z h108 b87 .double 5 (fun _ => 0) := f104.other W108 (Ne.symm ne_b81_b87)
  have f116 : Exa Z h108 b87 "[D" := f105.wr W108
  have f109 : own_AD Z h108 b81 .double 5 (own_upd (own_upd (fun _ => 0) 0 (FP.i2d (ia 0))) 1 (FP.i2d (ia 1))) := own_AD.set Ar107 S107 M107 H107 W108
  have Z108 : n0 ≤ h108.size := Nat.le_trans Z97 (Keep.of_wr W108).1
  have N108 := Fr.snoc X108 N97 g_b81
  refine own_go (S' := T108.setTop (mkF m 164 #[.val (.long q0), .second, .val (.long q1), .second, .val (.int p2), .val (.int p3), .val (.int p4), .val (.int (Int32.ofNat n)), .val (.int (Int32.ofNat a)), .val (.int (Int32.ofNat b)), .val (.ref b5), .val (.ref b7), .val (.ref b81), .val (.ref b87), .unset, .unset] [])) st108 ?_
  refine own_go (S' := T108.setTop (mkF m 170 #[.val (.long q0), .second, .val (.long q1), .second, .val (.int p2), .val (.int p3), .val (.int p4), .val (.int (Int32.ofNat n)), .val (.int (Int32.ofNat a)), .val (.int (Int32.ofNat b)), .val (.ref b5), .val (.ref b7), .val (.ref b81), .val (.ref b87), .unset, .unset] [(.int (2 : Int32)), (.ref b5), (.int (2 : Int32)), (.ref b81)])) (fun target kt => ?_) ?_
  · skip
    show Steps p.tables e below (T108.setTop (mkF m 164 #[.val (.long q0), .second, .val (.long q1), .second, .val (.int p2), .val (.int p3), .val (.int p4), .val (.int (Int32.ofNat n)), .val (.int (Int32.ofNat a)), .val (.int (Int32.ofNat b)), .val (.ref b5), .val (.ref b7), .val (.ref b81), .val (.ref b87), .unset, .unset] [])) _
    refine XS.aload X108.here hx rfl (hb hby at_164) rfl rfl ?_
    show Steps p.tables e below (T108.setTop (mkF m 166 #[.val (.long q0), .second, .val (.long q1), .second, .val (.int p2), .val (.int p3), .val (.int p4), .val (.int (Int32.ofNat n)), .val (.int (Int32.ofNat a)), .val (.int (Int32.ofNat b)), .val (.ref b5), .val (.ref b7), .val (.ref b81), .val (.ref b87), .unset, .unset] [(.ref b81)])) _
    refine XS.iconst X108.here hx rfl (hb hby at_166) ?_
    show Steps p.tables e below (T108.setTop (mkF m 167 #[.val (.long q0), .second, .val (.long q1), .second, .val (.int p2), .val (.int p3), .val (.int p4), .val (.int (Int32.ofNat n)), .val (.int (Int32.ofNat a)), .val (.int (Int32.ofNat b)), .val (.ref b5), .val (.ref b7), .val (.ref b81), .val (.ref b87), .unset, .unset] [(.int (2 : Int32)), (.ref b81)])) _
    refine XS.aload X108.here hx rfl (hb hby at_167) rfl rfl ?_
    show Steps p.tables e below (T108.setTop (mkF m 169 #[.val (.long q0), .second, .val (.long q1), .second, .val (.int p2), .val (.int p3), .val (.int p4), .val (.int (Int32.ofNat n)), .val (.int (Int32.ofNat a)), .val (.int (Int32.ofNat b)), .val (.ref b5), .val (.ref b7), .val (.ref b81), .val (.ref b87), .unset, .unset] [(.ref b5), (.int (2 : Int32)), (.ref b81)])) _
    refine XS.iconst X108.here hx rfl (hb hby at_169) ?_
    exact kt
  obtain ⟨c117, Ar117, S117, M117, H117⟩ := id f112
  have hj117 : ¬ (2 : Int32) < 0 ∧ ((2 : Int32)).toNatClampNeg < 5 := ⟨by decide, by decide⟩
  have st117 : ∀ target, Steps p.tables e below (T108.setTop (mkF m 171 #[.val (.long q0), .second, .val (.long q1), .second, .val (.int p2), .val (.int p3), .val (.int p4), .val (.int (Int32.ofNat n)), .val (.int (Int32.ofNat a)), .val (.int (Int32.ofNat b)), .val (.ref b5), .val (.ref b7), .val (.ref b81), .val (.ref b87), .unset, .unset] [(.int (ia 2)), (.int (2 : Int32)), (.ref b81)])) target → Steps p.tables e below (T108.setTop (mkF m 170 #[.val (.long q0), .second, .val (.long q1), .second, .val (.int p2), .val (.int p3), .val (.int p4), .val (.int (Int32.ofNat n)), .val (.int (Int32.ofNat a)), .val (.int (Int32.ofNat b)), .val (.ref b5), .val (.ref b7), .val (.ref b81), .val (.ref b87), .unset, .unset] [(.int (2 : Int32)), (.ref b5), (.int (2 : Int32)), (.ref b81)])) target := fun target kt => X108.iaload hx (j := (2 : Int32)) (v := (.int (ia 2))) (by rw [e108]; exact Ar117.1) (State.isArrayOf_alike hZ.alike Ar117.2.1) Ar117.2.2 (own_in S117 hj117) (H117 _ hj117.2) (g := (mkF m 170 #[.val (.long q0), .second, .val (.long q1), .second, .val (.int p2), .val (.int p3), .val (.int p4), .val (.int (Int32.ofNat n)), .val (.int (Int32.ofNat a)), .val (.int (Int32.ofNat b)), .val (.ref b5), .val (.ref b7), .val (.ref b81), .val (.ref b87), .unset, .unset] [(.int (2 : Int32)), (.ref b5), (.int (2 : Int32)), (.ref b81)])) rfl rfl (hb hby at_170) _ kt
  refine own_go (S' := T108.setTop (mkF m 171 #[.val (.long q0), .second, .val (.long q1), .second, .val (.int p2), .val (.int p3), .val (.int p4), .val (.int (Int32.ofNat n)), .val (.int (Int32.ofNat a)), .val (.int (Int32.ofNat b)), .val (.ref b5), .val (.ref b7), .val (.ref b81), .val (.ref b87), .unset, .unset] [(.int (ia 2)), (.int (2 : Int32)), (.ref b81)])) st117 ?_
  refine own_go (S' := T108.setTop (mkF m 172 #[.val (.long q0), .second, .val (.long q1), .second, .val (.int p2), .val (.int p3), .val (.int p4), .val (.int (Int32.ofNat n)), .val (.int (Int32.ofNat a)), .val (.int (Int32.ofNat b)), .val (.ref b5), .val (.ref b7), .val (.ref b81), .val (.ref b87), .unset, .unset] [(.double (FP.i2d (ia 2))), (.int (2 : Int32)), (.ref b81)])) (fun target kt => ?_) ?_
  · skip
    show Steps p.tables e below (T108.setTop (mkF m 171 #[.val (.long q0), .second, .val (.long q1), .second, .val (.int p2), .val (.int p3), .val (.int p4), .val (.int (Int32.ofNat n)), .val (.int (Int32.ofNat a)), .val (.int (Int32.ofNat b)), .val (.ref b5), .val (.ref b7), .val (.ref b81), .val (.ref b87), .unset, .unset] [(.int (ia 2)), (.int (2 : Int32)), (.ref b81)])) _
    refine XS.i2dS X108.here hx rfl (hb hby at_171) rfl rfl ?_
    exact kt
  obtain ⟨c118, Ar118, S118, M118, H118⟩ := id f109
  have hin118 : ¬ ((2 : Int32) < 0 ∨ c118.slots.size ≤ ((2 : Int32)).toNatClampNeg) := own_in S118 ⟨by decide, by decide⟩
  obtain ⟨T119, h119, X119, e119, W119, st119⟩ := Jvm.RoadKit.stD X108 hx hZ e108 Ar118 (j := (2 : Int32)) hin118 (g := (mkF m 172 #[.val (.long q0), .second, .val (.long q1), .second, .val (.int p2), .val (.int p3), .val (.int p4), .val (.int (Int32.ofNat n)), .val (.int (Int32.ofNat a)), .val (.int (Int32.ofNat b)), .val (.ref b5), .val (.ref b7), .val (.ref b81), .val (.ref b87), .unset, .unset] [(.double (FP.i2d (ia 2))), (.int (2 : Int32)), (.ref b81)])) rfl rfl (hb hby at_172)
  have f121 : Exa Z h119 b5 "[I" := f110.wr W119
  have f122 : Exa Z h119 b7 "[I" := f111.wr W119
  have f123 : own_AI Z h119 b5 .int 5 ia := f112.other W119 ne_b5_b81
  have f124 : own_AI Z h119 b7 .int 5 ib := f113.other W119 ne_b7_b81
  have f125 : Exa Z h119 b81 "[D" := f114.wr W119
  have f126 : own_AD Z h119 b87 .double 5 (fun _ => 0) := f115.other W119 (Ne.symm ne_b81_b87)
  have f127 : Exa Z h119 b87 "[D" := f116.wr W119
  have f120 : own_AD Z h119 b81 .double 5 (own_upd (own_upd (own_upd (fun _ => 0) 0 (FP.i2d (ia 0))) 1 (FP.i2d (ia 1))) 2 (FP.i2d (ia 2))) := own_AD.set Ar118 S118 M118 H118 W119
  have Z119 : n0 ≤ h119.size := Nat.le_trans Z108 (Keep.of_wr W119).1
  have N119 := Fr.snoc X119 N108 g_b81
  refine own_go (S' := T119.setTop (mkF m 173 #[.val (.long q0), .second, .val (.long q1), .second, .val (.int p2), .val (.int p3), .val (.int p4), .val (.int (Int32.ofNat n)), .val (.int (Int32.ofNat a)), .val (.int (Int32.ofNat b)), .val (.ref b5), .val (.ref b7), .val (.ref b81), .val (.ref b87), .unset, .unset] [])) st119 ?_
  refine own_go (S' := T119.setTop (mkF m 179 #[.val (.long q0), .second, .val (.long q1), .second, .val (.int p2), .val (.int p3), .val (.int p4), .val (.int (Int32.ofNat n)), .val (.int (Int32.ofNat a)), .val (.int (Int32.ofNat b)), .val (.ref b5), .val (.ref b7), .val (.ref b81), .val (.ref b87), .unset, .unset] [(.int (3 : Int32)), (.ref b5), (.int (3 : Int32)), (.ref b81)])) (fun target kt => ?_) ?_
  · skip
    show Steps p.tables e below (T119.setTop (mkF m 173 #[.val (.long q0), .second, .val (.long q1), .second, .val (.int p2), .val (.int p3), .val (.int p4), .val (.int (Int32.ofNat n)), .val (.int (Int32.ofNat a)), .val (.int (Int32.ofNat b)), .val (.ref b5), .val (.ref b7), .val (.ref b81), .val (.ref b87), .unset, .unset] [])) _
    refine XS.aload X119.here hx rfl (hb hby at_173) rfl rfl ?_
    show Steps p.tables e below (T119.setTop (mkF m 175 #[.val (.long q0), .second, .val (.long q1), .second, .val (.int p2), .val (.int p3), .val (.int p4), .val (.int (Int32.ofNat n)), .val (.int (Int32.ofNat a)), .val (.int (Int32.ofNat b)), .val (.ref b5), .val (.ref b7), .val (.ref b81), .val (.ref b87), .unset, .unset] [(.ref b81)])) _
    refine XS.iconst X119.here hx rfl (hb hby at_175) ?_
    show Steps p.tables e below (T119.setTop (mkF m 176 #[.val (.long q0), .second, .val (.long q1), .second, .val (.int p2), .val (.int p3), .val (.int p4), .val (.int (Int32.ofNat n)), .val (.int (Int32.ofNat a)), .val (.int (Int32.ofNat b)), .val (.ref b5), .val (.ref b7), .val (.ref b81), .val (.ref b87), .unset, .unset] [(.int (3 : Int32)), (.ref b81)])) _
    refine XS.aload X119.here hx rfl (hb hby at_176) rfl rfl ?_
    show Steps p.tables e below (T119.setTop (mkF m 178 #[.val (.long q0), .second, .val (.long q1), .second, .val (.int p2), .val (.int p3), .val (.int p4), .val (.int (Int32.ofNat n)), .val (.int (Int32.ofNat a)), .val (.int (Int32.ofNat b)), .val (.ref b5), .val (.ref b7), .val (.ref b81), .val (.ref b87), .unset, .unset] [(.ref b5), (.int (3 : Int32)), (.ref b81)])) _
    refine XS.iconst X119.here hx rfl (hb hby at_178) ?_
    exact kt
  obtain ⟨c128, Ar128, S128, M128, H128⟩ := id f123
  have hj128 : ¬ (3 : Int32) < 0 ∧ ((3 : Int32)).toNatClampNeg < 5 := ⟨by decide, by decide⟩
  have st128 : ∀ target, Steps p.tables e below (T119.setTop (mkF m 180 #[.val (.long q0), .second, .val (.long q1), .second, .val (.int p2), .val (.int p3), .val (.int p4), .val (.int (Int32.ofNat n)), .val (.int (Int32.ofNat a)), .val (.int (Int32.ofNat b)), .val (.ref b5), .val (.ref b7), .val (.ref b81), .val (.ref b87), .unset, .unset] [(.int (ia 3)), (.int (3 : Int32)), (.ref b81)])) target → Steps p.tables e below (T119.setTop (mkF m 179 #[.val (.long q0), .second, .val (.long q1), .second, .val (.int p2), .val (.int p3), .val (.int p4), .val (.int (Int32.ofNat n)), .val (.int (Int32.ofNat a)), .val (.int (Int32.ofNat b)), .val (.ref b5), .val (.ref b7), .val (.ref b81), .val (.ref b87), .unset, .unset] [(.int (3 : Int32)), (.ref b5), (.int (3 : Int32)), (.ref b81)])) target := fun target kt => X119.iaload hx (j := (3 : Int32)) (v := (.int (ia 3))) (by rw [e119]; exact Ar128.1) (State.isArrayOf_alike hZ.alike Ar128.2.1) Ar128.2.2 (own_in S128 hj128) (H128 _ hj128.2) (g := (mkF m 179 #[.val (.long q0), .second, .val (.long q1), .second, .val (.int p2), .val (.int p3), .val (.int p4), .val (.int (Int32.ofNat n)), .val (.int (Int32.ofNat a)), .val (.int (Int32.ofNat b)), .val (.ref b5), .val (.ref b7), .val (.ref b81), .val (.ref b87), .unset, .unset] [(.int (3 : Int32)), (.ref b5), (.int (3 : Int32)), (.ref b81)])) rfl rfl (hb hby at_179) _ kt
  refine own_go (S' := T119.setTop (mkF m 180 #[.val (.long q0), .second, .val (.long q1), .second, .val (.int p2), .val (.int p3), .val (.int p4), .val (.int (Int32.ofNat n)), .val (.int (Int32.ofNat a)), .val (.int (Int32.ofNat b)), .val (.ref b5), .val (.ref b7), .val (.ref b81), .val (.ref b87), .unset, .unset] [(.int (ia 3)), (.int (3 : Int32)), (.ref b81)])) st128 ?_
  refine own_go (S' := T119.setTop (mkF m 181 #[.val (.long q0), .second, .val (.long q1), .second, .val (.int p2), .val (.int p3), .val (.int p4), .val (.int (Int32.ofNat n)), .val (.int (Int32.ofNat a)), .val (.int (Int32.ofNat b)), .val (.ref b5), .val (.ref b7), .val (.ref b81), .val (.ref b87), .unset, .unset] [(.double (FP.i2d (ia 3))), (.int (3 : Int32)), (.ref b81)])) (fun target kt => ?_) ?_
  · skip
    show Steps p.tables e below (T119.setTop (mkF m 180 #[.val (.long q0), .second, .val (.long q1), .second, .val (.int p2), .val (.int p3), .val (.int p4), .val (.int (Int32.ofNat n)), .val (.int (Int32.ofNat a)), .val (.int (Int32.ofNat b)), .val (.ref b5), .val (.ref b7), .val (.ref b81), .val (.ref b87), .unset, .unset] [(.int (ia 3)), (.int (3 : Int32)), (.ref b81)])) _
    refine XS.i2dS X119.here hx rfl (hb hby at_180) rfl rfl ?_
    exact kt
  obtain ⟨c129, Ar129, S129, M129, H129⟩ := id f120
  have hin129 : ¬ ((3 : Int32) < 0 ∨ c129.slots.size ≤ ((3 : Int32)).toNatClampNeg) := own_in S129 ⟨by decide, by decide⟩
  obtain ⟨T130, h130, X130, e130, W130, st130⟩ := Jvm.RoadKit.stD X119 hx hZ e119 Ar129 (j := (3 : Int32)) hin129 (g := (mkF m 181 #[.val (.long q0), .second, .val (.long q1), .second, .val (.int p2), .val (.int p3), .val (.int p4), .val (.int (Int32.ofNat n)), .val (.int (Int32.ofNat a)), .val (.int (Int32.ofNat b)), .val (.ref b5), .val (.ref b7), .val (.ref b81), .val (.ref b87), .unset, .unset] [(.double (FP.i2d (ia 3))), (.int (3 : Int32)), (.ref b81)])) rfl rfl (hb hby at_181)
  have f132 : Exa Z h130 b5 "[I" := f121.wr W130
  have f133 : Exa Z h130 b7 "[I" := f122.wr W130
  have f134 : own_AI Z h130 b5 .int 5 ia := f123.other W130 ne_b5_b81
  have f135 : own_AI Z h130 b7 .int 5 ib := f124.other W130 ne_b7_b81
  have f136 : Exa Z h130 b81 "[D" := f125.wr W130
  have f137 : own_AD Z h130 b87 .double 5 (fun _ => 0) := f126.other W130 (Ne.symm ne_b81_b87)
  have f138 : Exa Z h130 b87 "[D" := f127.wr W130
  have f131 : own_AD Z h130 b81 .double 5 (own_upd (own_upd (own_upd (own_upd (fun _ => 0) 0 (FP.i2d (ia 0))) 1 (FP.i2d (ia 1))) 2 (FP.i2d (ia 2))) 3 (FP.i2d (ia 3))) := own_AD.set Ar129 S129 M129 H129 W130
  have Z130 : n0 ≤ h130.size := Nat.le_trans Z119 (Keep.of_wr W130).1
  have N130 := Fr.snoc X130 N119 g_b81
  refine own_go (S' := T130.setTop (mkF m 182 #[.val (.long q0), .second, .val (.long q1), .second, .val (.int p2), .val (.int p3), .val (.int p4), .val (.int (Int32.ofNat n)), .val (.int (Int32.ofNat a)), .val (.int (Int32.ofNat b)), .val (.ref b5), .val (.ref b7), .val (.ref b81), .val (.ref b87), .unset, .unset] [])) st130 ?_
  refine own_go (S' := T130.setTop (mkF m 188 #[.val (.long q0), .second, .val (.long q1), .second, .val (.int p2), .val (.int p3), .val (.int p4), .val (.int (Int32.ofNat n)), .val (.int (Int32.ofNat a)), .val (.int (Int32.ofNat b)), .val (.ref b5), .val (.ref b7), .val (.ref b81), .val (.ref b87), .unset, .unset] [(.int (4 : Int32)), (.ref b5), (.int (4 : Int32)), (.ref b81)])) (fun target kt => ?_) ?_
  · skip
    show Steps p.tables e below (T130.setTop (mkF m 182 #[.val (.long q0), .second, .val (.long q1), .second, .val (.int p2), .val (.int p3), .val (.int p4), .val (.int (Int32.ofNat n)), .val (.int (Int32.ofNat a)), .val (.int (Int32.ofNat b)), .val (.ref b5), .val (.ref b7), .val (.ref b81), .val (.ref b87), .unset, .unset] [])) _
    refine XS.aload X130.here hx rfl (hb hby at_182) rfl rfl ?_
    show Steps p.tables e below (T130.setTop (mkF m 184 #[.val (.long q0), .second, .val (.long q1), .second, .val (.int p2), .val (.int p3), .val (.int p4), .val (.int (Int32.ofNat n)), .val (.int (Int32.ofNat a)), .val (.int (Int32.ofNat b)), .val (.ref b5), .val (.ref b7), .val (.ref b81), .val (.ref b87), .unset, .unset] [(.ref b81)])) _
    refine XS.iconst X130.here hx rfl (hb hby at_184) ?_
    show Steps p.tables e below (T130.setTop (mkF m 185 #[.val (.long q0), .second, .val (.long q1), .second, .val (.int p2), .val (.int p3), .val (.int p4), .val (.int (Int32.ofNat n)), .val (.int (Int32.ofNat a)), .val (.int (Int32.ofNat b)), .val (.ref b5), .val (.ref b7), .val (.ref b81), .val (.ref b87), .unset, .unset] [(.int (4 : Int32)), (.ref b81)])) _
    refine XS.aload X130.here hx rfl (hb hby at_185) rfl rfl ?_
    show Steps p.tables e below (T130.setTop (mkF m 187 #[.val (.long q0), .second, .val (.long q1), .second, .val (.int p2), .val (.int p3), .val (.int p4), .val (.int (Int32.ofNat n)), .val (.int (Int32.ofNat a)), .val (.int (Int32.ofNat b)), .val (.ref b5), .val (.ref b7), .val (.ref b81), .val (.ref b87), .unset, .unset] [(.ref b5), (.int (4 : Int32)), (.ref b81)])) _
    refine XS.iconst X130.here hx rfl (hb hby at_187) ?_
    exact kt
  obtain ⟨c139, Ar139, S139, M139, H139⟩ := id f134
  have hj139 : ¬ (4 : Int32) < 0 ∧ ((4 : Int32)).toNatClampNeg < 5 := ⟨by decide, by decide⟩
  have st139 : ∀ target, Steps p.tables e below (T130.setTop (mkF m 189 #[.val (.long q0), .second, .val (.long q1), .second, .val (.int p2), .val (.int p3), .val (.int p4), .val (.int (Int32.ofNat n)), .val (.int (Int32.ofNat a)), .val (.int (Int32.ofNat b)), .val (.ref b5), .val (.ref b7), .val (.ref b81), .val (.ref b87), .unset, .unset] [(.int (ia 4)), (.int (4 : Int32)), (.ref b81)])) target → Steps p.tables e below (T130.setTop (mkF m 188 #[.val (.long q0), .second, .val (.long q1), .second, .val (.int p2), .val (.int p3), .val (.int p4), .val (.int (Int32.ofNat n)), .val (.int (Int32.ofNat a)), .val (.int (Int32.ofNat b)), .val (.ref b5), .val (.ref b7), .val (.ref b81), .val (.ref b87), .unset, .unset] [(.int (4 : Int32)), (.ref b5), (.int (4 : Int32)), (.ref b81)])) target := fun target kt => X130.iaload hx (j := (4 : Int32)) (v := (.int (ia 4))) (by rw [e130]; exact Ar139.1) (State.isArrayOf_alike hZ.alike Ar139.2.1) Ar139.2.2 (own_in S139 hj139) (H139 _ hj139.2) (g := (mkF m 188 #[.val (.long q0), .second, .val (.long q1), .second, .val (.int p2), .val (.int p3), .val (.int p4), .val (.int (Int32.ofNat n)), .val (.int (Int32.ofNat a)), .val (.int (Int32.ofNat b)), .val (.ref b5), .val (.ref b7), .val (.ref b81), .val (.ref b87), .unset, .unset] [(.int (4 : Int32)), (.ref b5), (.int (4 : Int32)), (.ref b81)])) rfl rfl (hb hby at_188) _ kt
  refine own_go (S' := T130.setTop (mkF m 189 #[.val (.long q0), .second, .val (.long q1), .second, .val (.int p2), .val (.int p3), .val (.int p4), .val (.int (Int32.ofNat n)), .val (.int (Int32.ofNat a)), .val (.int (Int32.ofNat b)), .val (.ref b5), .val (.ref b7), .val (.ref b81), .val (.ref b87), .unset, .unset] [(.int (ia 4)), (.int (4 : Int32)), (.ref b81)])) st139 ?_
  refine own_go (S' := T130.setTop (mkF m 190 #[.val (.long q0), .second, .val (.long q1), .second, .val (.int p2), .val (.int p3), .val (.int p4), .val (.int (Int32.ofNat n)), .val (.int (Int32.ofNat a)), .val (.int (Int32.ofNat b)), .val (.ref b5), .val (.ref b7), .val (.ref b81), .val (.ref b87), .unset, .unset] [(.double (FP.i2d (ia 4))), (.int (4 : Int32)), (.ref b81)])) (fun target kt => ?_) ?_
  · skip
    show Steps p.tables e below (T130.setTop (mkF m 189 #[.val (.long q0), .second, .val (.long q1), .second, .val (.int p2), .val (.int p3), .val (.int p4), .val (.int (Int32.ofNat n)), .val (.int (Int32.ofNat a)), .val (.int (Int32.ofNat b)), .val (.ref b5), .val (.ref b7), .val (.ref b81), .val (.ref b87), .unset, .unset] [(.int (ia 4)), (.int (4 : Int32)), (.ref b81)])) _
    refine XS.i2dS X130.here hx rfl (hb hby at_189) rfl rfl ?_
    exact kt
  obtain ⟨c140, Ar140, S140, M140, H140⟩ := id f131
  have hin140 : ¬ ((4 : Int32) < 0 ∨ c140.slots.size ≤ ((4 : Int32)).toNatClampNeg) := own_in S140 ⟨by decide, by decide⟩
  obtain ⟨T141, h141, X141, e141, W141, st141⟩ := Jvm.RoadKit.stD X130 hx hZ e130 Ar140 (j := (4 : Int32)) hin140 (g := (mkF m 190 #[.val (.long q0), .second, .val (.long q1), .second, .val (.int p2), .val (.int p3), .val (.int p4), .val (.int (Int32.ofNat n)), .val (.int (Int32.ofNat a)), .val (.int (Int32.ofNat b)), .val (.ref b5), .val (.ref b7), .val (.ref b81), .val (.ref b87), .unset, .unset] [(.double (FP.i2d (ia 4))), (.int (4 : Int32)), (.ref b81)])) rfl rfl (hb hby at_190)
  have f143 : Exa Z h141 b5 "[I" := f132.wr W141
  have f144 : Exa Z h141 b7 "[I" := f133.wr W141
  have f145 : own_AI Z h141 b5 .int 5 ia := f134.other W141 ne_b5_b81
  have f146 : own_AI Z h141 b7 .int 5 ib := f135.other W141 ne_b7_b81
  have f147 : Exa Z h141 b81 "[D" := f136.wr W141
  have f148 : own_AD Z h141 b87 .double 5 (fun _ => 0) := f137.other W141 (Ne.symm ne_b81_b87)
  have f149 : Exa Z h141 b87 "[D" := f138.wr W141
  have f142 : own_AD Z h141 b81 .double 5 (own_upd (own_upd (own_upd (own_upd (own_upd (fun _ => 0) 0 (FP.i2d (ia 0))) 1 (FP.i2d (ia 1))) 2 (FP.i2d (ia 2))) 3 (FP.i2d (ia 3))) 4 (FP.i2d (ia 4))) := own_AD.set Ar140 S140 M140 H140 W141
  have Z141 : n0 ≤ h141.size := Nat.le_trans Z130 (Keep.of_wr W141).1
  have N141 := Fr.snoc X141 N130 g_b81
  refine own_go (S' := T141.setTop (mkF m 191 #[.val (.long q0), .second, .val (.long q1), .second, .val (.int p2), .val (.int p3), .val (.int p4), .val (.int (Int32.ofNat n)), .val (.int (Int32.ofNat a)), .val (.int (Int32.ofNat b)), .val (.ref b5), .val (.ref b7), .val (.ref b81), .val (.ref b87), .unset, .unset] [])) st141 ?_
  refine own_go (S' := T141.setTop (mkF m 197 #[.val (.long q0), .second, .val (.long q1), .second, .val (.int p2), .val (.int p3), .val (.int p4), .val (.int (Int32.ofNat n)), .val (.int (Int32.ofNat a)), .val (.int (Int32.ofNat b)), .val (.ref b5), .val (.ref b7), .val (.ref b81), .val (.ref b87), .unset, .unset] [(.int (0 : Int32)), (.ref b7), (.int (0 : Int32)), (.ref b87)])) (fun target kt => ?_) ?_
  · skip
    show Steps p.tables e below (T141.setTop (mkF m 191 #[.val (.long q0), .second, .val (.long q1), .second, .val (.int p2), .val (.int p3), .val (.int p4), .val (.int (Int32.ofNat n)), .val (.int (Int32.ofNat a)), .val (.int (Int32.ofNat b)), .val (.ref b5), .val (.ref b7), .val (.ref b81), .val (.ref b87), .unset, .unset] [])) _
    refine XS.aload X141.here hx rfl (hb hby at_191) rfl rfl ?_
    show Steps p.tables e below (T141.setTop (mkF m 193 #[.val (.long q0), .second, .val (.long q1), .second, .val (.int p2), .val (.int p3), .val (.int p4), .val (.int (Int32.ofNat n)), .val (.int (Int32.ofNat a)), .val (.int (Int32.ofNat b)), .val (.ref b5), .val (.ref b7), .val (.ref b81), .val (.ref b87), .unset, .unset] [(.ref b87)])) _
    refine XS.iconst X141.here hx rfl (hb hby at_193) ?_
    show Steps p.tables e below (T141.setTop (mkF m 194 #[.val (.long q0), .second, .val (.long q1), .second, .val (.int p2), .val (.int p3), .val (.int p4), .val (.int (Int32.ofNat n)), .val (.int (Int32.ofNat a)), .val (.int (Int32.ofNat b)), .val (.ref b5), .val (.ref b7), .val (.ref b81), .val (.ref b87), .unset, .unset] [(.int (0 : Int32)), (.ref b87)])) _
    refine XS.aload X141.here hx rfl (hb hby at_194) rfl rfl ?_
    show Steps p.tables e below (T141.setTop (mkF m 196 #[.val (.long q0), .second, .val (.long q1), .second, .val (.int p2), .val (.int p3), .val (.int p4), .val (.int (Int32.ofNat n)), .val (.int (Int32.ofNat a)), .val (.int (Int32.ofNat b)), .val (.ref b5), .val (.ref b7), .val (.ref b81), .val (.ref b87), .unset, .unset] [(.ref b7), (.int (0 : Int32)), (.ref b87)])) _
    refine XS.iconst X141.here hx rfl (hb hby at_196) ?_
    exact kt
  obtain ⟨c150, Ar150, S150, M150, H150⟩ := id f146
  have hj150 : ¬ (0 : Int32) < 0 ∧ ((0 : Int32)).toNatClampNeg < 5 := ⟨by decide, by decide⟩
  have st150 : ∀ target, Steps p.tables e below (T141.setTop (mkF m 198 #[.val (.long q0), .second, .val (.long q1), .second, .val (.int p2), .val (.int p3), .val (.int p4), .val (.int (Int32.ofNat n)), .val (.int (Int32.ofNat a)), .val (.int (Int32.ofNat b)), .val (.ref b5), .val (.ref b7), .val (.ref b81), .val (.ref b87), .unset, .unset] [(.int (ib 0)), (.int (0 : Int32)), (.ref b87)])) target → Steps p.tables e below (T141.setTop (mkF m 197 #[.val (.long q0), .second, .val (.long q1), .second, .val (.int p2), .val (.int p3), .val (.int p4), .val (.int (Int32.ofNat n)), .val (.int (Int32.ofNat a)), .val (.int (Int32.ofNat b)), .val (.ref b5), .val (.ref b7), .val (.ref b81), .val (.ref b87), .unset, .unset] [(.int (0 : Int32)), (.ref b7), (.int (0 : Int32)), (.ref b87)])) target := fun target kt => X141.iaload hx (j := (0 : Int32)) (v := (.int (ib 0))) (by rw [e141]; exact Ar150.1) (State.isArrayOf_alike hZ.alike Ar150.2.1) Ar150.2.2 (own_in S150 hj150) (H150 _ hj150.2) (g := (mkF m 197 #[.val (.long q0), .second, .val (.long q1), .second, .val (.int p2), .val (.int p3), .val (.int p4), .val (.int (Int32.ofNat n)), .val (.int (Int32.ofNat a)), .val (.int (Int32.ofNat b)), .val (.ref b5), .val (.ref b7), .val (.ref b81), .val (.ref b87), .unset, .unset] [(.int (0 : Int32)), (.ref b7), (.int (0 : Int32)), (.ref b87)])) rfl rfl (hb hby at_197) _ kt
  refine own_go (S' := T141.setTop (mkF m 198 #[.val (.long q0), .second, .val (.long q1), .second, .val (.int p2), .val (.int p3), .val (.int p4), .val (.int (Int32.ofNat n)), .val (.int (Int32.ofNat a)), .val (.int (Int32.ofNat b)), .val (.ref b5), .val (.ref b7), .val (.ref b81), .val (.ref b87), .unset, .unset] [(.int (ib 0)), (.int (0 : Int32)), (.ref b87)])) st150 ?_
  refine own_go (S' := T141.setTop (mkF m 199 #[.val (.long q0), .second, .val (.long q1), .second, .val (.int p2), .val (.int p3), .val (.int p4), .val (.int (Int32.ofNat n)), .val (.int (Int32.ofNat a)), .val (.int (Int32.ofNat b)), .val (.ref b5), .val (.ref b7), .val (.ref b81), .val (.ref b87), .unset, .unset] [(.double (FP.i2d (ib 0))), (.int (0 : Int32)), (.ref b87)])) (fun target kt => ?_) ?_
  · skip
    show Steps p.tables e below (T141.setTop (mkF m 198 #[.val (.long q0), .second, .val (.long q1), .second, .val (.int p2), .val (.int p3), .val (.int p4), .val (.int (Int32.ofNat n)), .val (.int (Int32.ofNat a)), .val (.int (Int32.ofNat b)), .val (.ref b5), .val (.ref b7), .val (.ref b81), .val (.ref b87), .unset, .unset] [(.int (ib 0)), (.int (0 : Int32)), (.ref b87)])) _
    refine XS.i2dS X141.here hx rfl (hb hby at_198) rfl rfl ?_
    exact kt
  obtain ⟨c151, Ar151, S151, M151, H151⟩ := id f148
  have hin151 : ¬ ((0 : Int32) < 0 ∨ c151.slots.size ≤ ((0 : Int32)).toNatClampNeg) := own_in S151 ⟨by decide, by decide⟩
  obtain ⟨T152, h152, X152, e152, W152, st152⟩ := Jvm.RoadKit.stD X141 hx hZ e141 Ar151 (j := (0 : Int32)) hin151 (g := (mkF m 199 #[.val (.long q0), .second, .val (.long q1), .second, .val (.int p2), .val (.int p3), .val (.int p4), .val (.int (Int32.ofNat n)), .val (.int (Int32.ofNat a)), .val (.int (Int32.ofNat b)), .val (.ref b5), .val (.ref b7), .val (.ref b81), .val (.ref b87), .unset, .unset] [(.double (FP.i2d (ib 0))), (.int (0 : Int32)), (.ref b87)])) rfl rfl (hb hby at_199)
  have f154 : Exa Z h152 b5 "[I" := f143.wr W152
  have f155 : Exa Z h152 b7 "[I" := f144.wr W152
  have f156 : own_AI Z h152 b5 .int 5 ia := f145.other W152 ne_b5_b87
  have f157 : own_AI Z h152 b7 .int 5 ib := f146.other W152 ne_b7_b87
  have f158 : Exa Z h152 b81 "[D" := f147.wr W152
  have f159 : Exa Z h152 b87 "[D" := f149.wr W152
  have f160 : own_AD Z h152 b81 .double 5 (own_upd (own_upd (own_upd (own_upd (own_upd (fun _ => 0) 0 (FP.i2d (ia 0))) 1 (FP.i2d (ia 1))) 2 (FP.i2d (ia 2))) 3 (FP.i2d (ia 3))) 4 (FP.i2d (ia 4))) := f142.other W152 ne_b81_b87
  have f153 : own_AD Z h152 b87 .double 5 (own_upd (fun _ => 0) 0 (FP.i2d (ib 0))) := own_AD.set Ar151 S151 M151 H151 W152
  have Z152 : n0 ≤ h152.size := Nat.le_trans Z141 (Keep.of_wr W152).1
  have N152 := Fr.snoc X152 N141 g_b87
  refine own_go (S' := T152.setTop (mkF m 200 #[.val (.long q0), .second, .val (.long q1), .second, .val (.int p2), .val (.int p3), .val (.int p4), .val (.int (Int32.ofNat n)), .val (.int (Int32.ofNat a)), .val (.int (Int32.ofNat b)), .val (.ref b5), .val (.ref b7), .val (.ref b81), .val (.ref b87), .unset, .unset] [])) st152 ?_
  refine own_go (S' := T152.setTop (mkF m 206 #[.val (.long q0), .second, .val (.long q1), .second, .val (.int p2), .val (.int p3), .val (.int p4), .val (.int (Int32.ofNat n)), .val (.int (Int32.ofNat a)), .val (.int (Int32.ofNat b)), .val (.ref b5), .val (.ref b7), .val (.ref b81), .val (.ref b87), .unset, .unset] [(.int (1 : Int32)), (.ref b7), (.int (1 : Int32)), (.ref b87)])) (fun target kt => ?_) ?_
  · skip
    show Steps p.tables e below (T152.setTop (mkF m 200 #[.val (.long q0), .second, .val (.long q1), .second, .val (.int p2), .val (.int p3), .val (.int p4), .val (.int (Int32.ofNat n)), .val (.int (Int32.ofNat a)), .val (.int (Int32.ofNat b)), .val (.ref b5), .val (.ref b7), .val (.ref b81), .val (.ref b87), .unset, .unset] [])) _
    refine XS.aload X152.here hx rfl (hb hby at_200) rfl rfl ?_
    show Steps p.tables e below (T152.setTop (mkF m 202 #[.val (.long q0), .second, .val (.long q1), .second, .val (.int p2), .val (.int p3), .val (.int p4), .val (.int (Int32.ofNat n)), .val (.int (Int32.ofNat a)), .val (.int (Int32.ofNat b)), .val (.ref b5), .val (.ref b7), .val (.ref b81), .val (.ref b87), .unset, .unset] [(.ref b87)])) _
    refine XS.iconst X152.here hx rfl (hb hby at_202) ?_
    show Steps p.tables e below (T152.setTop (mkF m 203 #[.val (.long q0), .second, .val (.long q1), .second, .val (.int p2), .val (.int p3), .val (.int p4), .val (.int (Int32.ofNat n)), .val (.int (Int32.ofNat a)), .val (.int (Int32.ofNat b)), .val (.ref b5), .val (.ref b7), .val (.ref b81), .val (.ref b87), .unset, .unset] [(.int (1 : Int32)), (.ref b87)])) _
    refine XS.aload X152.here hx rfl (hb hby at_203) rfl rfl ?_
    show Steps p.tables e below (T152.setTop (mkF m 205 #[.val (.long q0), .second, .val (.long q1), .second, .val (.int p2), .val (.int p3), .val (.int p4), .val (.int (Int32.ofNat n)), .val (.int (Int32.ofNat a)), .val (.int (Int32.ofNat b)), .val (.ref b5), .val (.ref b7), .val (.ref b81), .val (.ref b87), .unset, .unset] [(.ref b7), (.int (1 : Int32)), (.ref b87)])) _
    refine XS.iconst X152.here hx rfl (hb hby at_205) ?_
    exact kt
  obtain ⟨c161, Ar161, S161, M161, H161⟩ := id f157
  have hj161 : ¬ (1 : Int32) < 0 ∧ ((1 : Int32)).toNatClampNeg < 5 := ⟨by decide, by decide⟩
  have st161 : ∀ target, Steps p.tables e below (T152.setTop (mkF m 207 #[.val (.long q0), .second, .val (.long q1), .second, .val (.int p2), .val (.int p3), .val (.int p4), .val (.int (Int32.ofNat n)), .val (.int (Int32.ofNat a)), .val (.int (Int32.ofNat b)), .val (.ref b5), .val (.ref b7), .val (.ref b81), .val (.ref b87), .unset, .unset] [(.int (ib 1)), (.int (1 : Int32)), (.ref b87)])) target → Steps p.tables e below (T152.setTop (mkF m 206 #[.val (.long q0), .second, .val (.long q1), .second, .val (.int p2), .val (.int p3), .val (.int p4), .val (.int (Int32.ofNat n)), .val (.int (Int32.ofNat a)), .val (.int (Int32.ofNat b)), .val (.ref b5), .val (.ref b7), .val (.ref b81), .val (.ref b87), .unset, .unset] [(.int (1 : Int32)), (.ref b7), (.int (1 : Int32)), (.ref b87)])) target := fun target kt => X152.iaload hx (j := (1 : Int32)) (v := (.int (ib 1))) (by rw [e152]; exact Ar161.1) (State.isArrayOf_alike hZ.alike Ar161.2.1) Ar161.2.2 (own_in S161 hj161) (H161 _ hj161.2) (g := (mkF m 206 #[.val (.long q0), .second, .val (.long q1), .second, .val (.int p2), .val (.int p3), .val (.int p4), .val (.int (Int32.ofNat n)), .val (.int (Int32.ofNat a)), .val (.int (Int32.ofNat b)), .val (.ref b5), .val (.ref b7), .val (.ref b81), .val (.ref b87), .unset, .unset] [(.int (1 : Int32)), (.ref b7), (.int (1 : Int32)), (.ref b87)])) rfl rfl (hb hby at_206) _ kt
  refine own_go (S' := T152.setTop (mkF m 207 #[.val (.long q0), .second, .val (.long q1), .second, .val (.int p2), .val (.int p3), .val (.int p4), .val (.int (Int32.ofNat n)), .val (.int (Int32.ofNat a)), .val (.int (Int32.ofNat b)), .val (.ref b5), .val (.ref b7), .val (.ref b81), .val (.ref b87), .unset, .unset] [(.int (ib 1)), (.int (1 : Int32)), (.ref b87)])) st161 ?_
  refine own_go (S' := T152.setTop (mkF m 208 #[.val (.long q0), .second, .val (.long q1), .second, .val (.int p2), .val (.int p3), .val (.int p4), .val (.int (Int32.ofNat n)), .val (.int (Int32.ofNat a)), .val (.int (Int32.ofNat b)), .val (.ref b5), .val (.ref b7), .val (.ref b81), .val (.ref b87), .unset, .unset] [(.double (FP.i2d (ib 1))), (.int (1 : Int32)), (.ref b87)])) (fun target kt => ?_) ?_
  · skip
    show Steps p.tables e below (T152.setTop (mkF m 207 #[.val (.long q0), .second, .val (.long q1), .second, .val (.int p2), .val (.int p3), .val (.int p4), .val (.int (Int32.ofNat n)), .val (.int (Int32.ofNat a)), .val (.int (Int32.ofNat b)), .val (.ref b5), .val (.ref b7), .val (.ref b81), .val (.ref b87), .unset, .unset] [(.int (ib 1)), (.int (1 : Int32)), (.ref b87)])) _
    refine XS.i2dS X152.here hx rfl (hb hby at_207) rfl rfl ?_
    exact kt
  obtain ⟨c162, Ar162, S162, M162, H162⟩ := id f153
  have hin162 : ¬ ((1 : Int32) < 0 ∨ c162.slots.size ≤ ((1 : Int32)).toNatClampNeg) := own_in S162 ⟨by decide, by decide⟩
  obtain ⟨T163, h163, X163, e163, W163, st163⟩ := Jvm.RoadKit.stD X152 hx hZ e152 Ar162 (j := (1 : Int32)) hin162 (g := (mkF m 208 #[.val (.long q0), .second, .val (.long q1), .second, .val (.int p2), .val (.int p3), .val (.int p4), .val (.int (Int32.ofNat n)), .val (.int (Int32.ofNat a)), .val (.int (Int32.ofNat b)), .val (.ref b5), .val (.ref b7), .val (.ref b81), .val (.ref b87), .unset, .unset] [(.double (FP.i2d (ib 1))), (.int (1 : Int32)), (.ref b87)])) rfl rfl (hb hby at_208)
  have f165 : Exa Z h163 b5 "[I" := f154.wr W163
  have f166 : Exa Z h163 b7 "[I" := f155.wr W163
  have f167 : own_AI Z h163 b5 .int 5 ia := f156.other W163 ne_b5_b87
  have f168 : own_AI Z h163 b7 .int 5 ib := f157.other W163 ne_b7_b87
  have f169 : Exa Z h163 b81 "[D" := f158.wr W163
  have f170 : Exa Z h163 b87 "[D" := f159.wr W163
  have f171 : own_AD Z h163 b81 .double 5 (own_upd (own_upd (own_upd (own_upd (own_upd (fun _ => 0) 0 (FP.i2d (ia 0))) 1 (FP.i2d (ia 1))) 2 (FP.i2d (ia 2))) 3 (FP.i2d (ia 3))) 4 (FP.i2d (ia 4))) := f160.other W163 ne_b81_b87
  have f164 : own_AD Z h163 b87 .double 5 (own_upd (own_upd (fun _ => 0) 0 (FP.i2d (ib 0))) 1 (FP.i2d (ib 1))) := own_AD.set Ar162 S162 M162 H162 W163
  have Z163 : n0 ≤ h163.size := Nat.le_trans Z152 (Keep.of_wr W163).1
  have N163 := Fr.snoc X163 N152 g_b87
  refine own_go (S' := T163.setTop (mkF m 209 #[.val (.long q0), .second, .val (.long q1), .second, .val (.int p2), .val (.int p3), .val (.int p4), .val (.int (Int32.ofNat n)), .val (.int (Int32.ofNat a)), .val (.int (Int32.ofNat b)), .val (.ref b5), .val (.ref b7), .val (.ref b81), .val (.ref b87), .unset, .unset] [])) st163 ?_
  refine own_go (S' := T163.setTop (mkF m 215 #[.val (.long q0), .second, .val (.long q1), .second, .val (.int p2), .val (.int p3), .val (.int p4), .val (.int (Int32.ofNat n)), .val (.int (Int32.ofNat a)), .val (.int (Int32.ofNat b)), .val (.ref b5), .val (.ref b7), .val (.ref b81), .val (.ref b87), .unset, .unset] [(.int (2 : Int32)), (.ref b7), (.int (2 : Int32)), (.ref b87)])) (fun target kt => ?_) ?_
  · skip
    show Steps p.tables e below (T163.setTop (mkF m 209 #[.val (.long q0), .second, .val (.long q1), .second, .val (.int p2), .val (.int p3), .val (.int p4), .val (.int (Int32.ofNat n)), .val (.int (Int32.ofNat a)), .val (.int (Int32.ofNat b)), .val (.ref b5), .val (.ref b7), .val (.ref b81), .val (.ref b87), .unset, .unset] [])) _
    refine XS.aload X163.here hx rfl (hb hby at_209) rfl rfl ?_
    show Steps p.tables e below (T163.setTop (mkF m 211 #[.val (.long q0), .second, .val (.long q1), .second, .val (.int p2), .val (.int p3), .val (.int p4), .val (.int (Int32.ofNat n)), .val (.int (Int32.ofNat a)), .val (.int (Int32.ofNat b)), .val (.ref b5), .val (.ref b7), .val (.ref b81), .val (.ref b87), .unset, .unset] [(.ref b87)])) _
    refine XS.iconst X163.here hx rfl (hb hby at_211) ?_
    show Steps p.tables e below (T163.setTop (mkF m 212 #[.val (.long q0), .second, .val (.long q1), .second, .val (.int p2), .val (.int p3), .val (.int p4), .val (.int (Int32.ofNat n)), .val (.int (Int32.ofNat a)), .val (.int (Int32.ofNat b)), .val (.ref b5), .val (.ref b7), .val (.ref b81), .val (.ref b87), .unset, .unset] [(.int (2 : Int32)), (.ref b87)])) _
    refine XS.aload X163.here hx rfl (hb hby at_212) rfl rfl ?_
    show Steps p.tables e below (T163.setTop (mkF m 214 #[.val (.long q0), .second, .val (.long q1), .second, .val (.int p2), .val (.int p3), .val (.int p4), .val (.int (Int32.ofNat n)), .val (.int (Int32.ofNat a)), .val (.int (Int32.ofNat b)), .val (.ref b5), .val (.ref b7), .val (.ref b81), .val (.ref b87), .unset, .unset] [(.ref b7), (.int (2 : Int32)), (.ref b87)])) _
    refine XS.iconst X163.here hx rfl (hb hby at_214) ?_
    exact kt
  obtain ⟨c172, Ar172, S172, M172, H172⟩ := id f168
  have hj172 : ¬ (2 : Int32) < 0 ∧ ((2 : Int32)).toNatClampNeg < 5 := ⟨by decide, by decide⟩
  have st172 : ∀ target, Steps p.tables e below (T163.setTop (mkF m 216 #[.val (.long q0), .second, .val (.long q1), .second, .val (.int p2), .val (.int p3), .val (.int p4), .val (.int (Int32.ofNat n)), .val (.int (Int32.ofNat a)), .val (.int (Int32.ofNat b)), .val (.ref b5), .val (.ref b7), .val (.ref b81), .val (.ref b87), .unset, .unset] [(.int (ib 2)), (.int (2 : Int32)), (.ref b87)])) target → Steps p.tables e below (T163.setTop (mkF m 215 #[.val (.long q0), .second, .val (.long q1), .second, .val (.int p2), .val (.int p3), .val (.int p4), .val (.int (Int32.ofNat n)), .val (.int (Int32.ofNat a)), .val (.int (Int32.ofNat b)), .val (.ref b5), .val (.ref b7), .val (.ref b81), .val (.ref b87), .unset, .unset] [(.int (2 : Int32)), (.ref b7), (.int (2 : Int32)), (.ref b87)])) target := fun target kt => X163.iaload hx (j := (2 : Int32)) (v := (.int (ib 2))) (by rw [e163]; exact Ar172.1) (State.isArrayOf_alike hZ.alike Ar172.2.1) Ar172.2.2 (own_in S172 hj172) (H172 _ hj172.2) (g := (mkF m 215 #[.val (.long q0), .second, .val (.long q1), .second, .val (.int p2), .val (.int p3), .val (.int p4), .val (.int (Int32.ofNat n)), .val (.int (Int32.ofNat a)), .val (.int (Int32.ofNat b)), .val (.ref b5), .val (.ref b7), .val (.ref b81), .val (.ref b87), .unset, .unset] [(.int (2 : Int32)), (.ref b7), (.int (2 : Int32)), (.ref b87)])) rfl rfl (hb hby at_215) _ kt
  refine own_go (S' := T163.setTop (mkF m 216 #[.val (.long q0), .second, .val (.long q1), .second, .val (.int p2), .val (.int p3), .val (.int p4), .val (.int (Int32.ofNat n)), .val (.int (Int32.ofNat a)), .val (.int (Int32.ofNat b)), .val (.ref b5), .val (.ref b7), .val (.ref b81), .val (.ref b87), .unset, .unset] [(.int (ib 2)), (.int (2 : Int32)), (.ref b87)])) st172 ?_
  refine own_go (S' := T163.setTop (mkF m 217 #[.val (.long q0), .second, .val (.long q1), .second, .val (.int p2), .val (.int p3), .val (.int p4), .val (.int (Int32.ofNat n)), .val (.int (Int32.ofNat a)), .val (.int (Int32.ofNat b)), .val (.ref b5), .val (.ref b7), .val (.ref b81), .val (.ref b87), .unset, .unset] [(.double (FP.i2d (ib 2))), (.int (2 : Int32)), (.ref b87)])) (fun target kt => ?_) ?_
  · skip
    show Steps p.tables e below (T163.setTop (mkF m 216 #[.val (.long q0), .second, .val (.long q1), .second, .val (.int p2), .val (.int p3), .val (.int p4), .val (.int (Int32.ofNat n)), .val (.int (Int32.ofNat a)), .val (.int (Int32.ofNat b)), .val (.ref b5), .val (.ref b7), .val (.ref b81), .val (.ref b87), .unset, .unset] [(.int (ib 2)), (.int (2 : Int32)), (.ref b87)])) _
    refine XS.i2dS X163.here hx rfl (hb hby at_216) rfl rfl ?_
    exact kt
  obtain ⟨c173, Ar173, S173, M173, H173⟩ := id f164
  have hin173 : ¬ ((2 : Int32) < 0 ∨ c173.slots.size ≤ ((2 : Int32)).toNatClampNeg) := own_in S173 ⟨by decide, by decide⟩
  obtain ⟨T174, h174, X174, e174, W174, st174⟩ := Jvm.RoadKit.stD X163 hx hZ e163 Ar173 (j := (2 : Int32)) hin173 (g := (mkF m 217 #[.val (.long q0), .second, .val (.long q1), .second, .val (.int p2), .val (.int p3), .val (.int p4), .val (.int (Int32.ofNat n)), .val (.int (Int32.ofNat a)), .val (.int (Int32.ofNat b)), .val (.ref b5), .val (.ref b7), .val (.ref b81), .val (.ref b87), .unset, .unset] [(.double (FP.i2d (ib 2))), (.int (2 : Int32)), (.ref b87)])) rfl rfl (hb hby at_217)
  have f176 : Exa Z h174 b5 "[I" := f165.wr W174
  have f177 : Exa Z h174 b7 "[I" := f166.wr W174
  have f178 : own_AI Z h174 b5 .int 5 ia := f167.other W174 ne_b5_b87
  have f179 : own_AI Z h174 b7 .int 5 ib := f168.other W174 ne_b7_b87
  have f180 : Exa Z h174 b81 "[D" := f169.wr W174
  have f181 : Exa Z h174 b87 "[D" := f170.wr W174
  have f182 : own_AD Z h174 b81 .double 5 (own_upd (own_upd (own_upd (own_upd (own_upd (fun _ => 0) 0 (FP.i2d (ia 0))) 1 (FP.i2d (ia 1))) 2 (FP.i2d (ia 2))) 3 (FP.i2d (ia 3))) 4 (FP.i2d (ia 4))) := f171.other W174 ne_b81_b87
  have f175 : own_AD Z h174 b87 .double 5 (own_upd (own_upd (own_upd (fun _ => 0) 0 (FP.i2d (ib 0))) 1 (FP.i2d (ib 1))) 2 (FP.i2d (ib 2))) := own_AD.set Ar173 S173 M173 H173 W174
  have Z174 : n0 ≤ h174.size := Nat.le_trans Z163 (Keep.of_wr W174).1
  have N174 := Fr.snoc X174 N163 g_b87
  refine own_go (S' := T174.setTop (mkF m 218 #[.val (.long q0), .second, .val (.long q1), .second, .val (.int p2), .val (.int p3), .val (.int p4), .val (.int (Int32.ofNat n)), .val (.int (Int32.ofNat a)), .val (.int (Int32.ofNat b)), .val (.ref b5), .val (.ref b7), .val (.ref b81), .val (.ref b87), .unset, .unset] [])) st174 ?_
  refine own_go (S' := T174.setTop (mkF m 224 #[.val (.long q0), .second, .val (.long q1), .second, .val (.int p2), .val (.int p3), .val (.int p4), .val (.int (Int32.ofNat n)), .val (.int (Int32.ofNat a)), .val (.int (Int32.ofNat b)), .val (.ref b5), .val (.ref b7), .val (.ref b81), .val (.ref b87), .unset, .unset] [(.int (3 : Int32)), (.ref b7), (.int (3 : Int32)), (.ref b87)])) (fun target kt => ?_) ?_
  · skip
    show Steps p.tables e below (T174.setTop (mkF m 218 #[.val (.long q0), .second, .val (.long q1), .second, .val (.int p2), .val (.int p3), .val (.int p4), .val (.int (Int32.ofNat n)), .val (.int (Int32.ofNat a)), .val (.int (Int32.ofNat b)), .val (.ref b5), .val (.ref b7), .val (.ref b81), .val (.ref b87), .unset, .unset] [])) _
    refine XS.aload X174.here hx rfl (hb hby at_218) rfl rfl ?_
    show Steps p.tables e below (T174.setTop (mkF m 220 #[.val (.long q0), .second, .val (.long q1), .second, .val (.int p2), .val (.int p3), .val (.int p4), .val (.int (Int32.ofNat n)), .val (.int (Int32.ofNat a)), .val (.int (Int32.ofNat b)), .val (.ref b5), .val (.ref b7), .val (.ref b81), .val (.ref b87), .unset, .unset] [(.ref b87)])) _
    refine XS.iconst X174.here hx rfl (hb hby at_220) ?_
    show Steps p.tables e below (T174.setTop (mkF m 221 #[.val (.long q0), .second, .val (.long q1), .second, .val (.int p2), .val (.int p3), .val (.int p4), .val (.int (Int32.ofNat n)), .val (.int (Int32.ofNat a)), .val (.int (Int32.ofNat b)), .val (.ref b5), .val (.ref b7), .val (.ref b81), .val (.ref b87), .unset, .unset] [(.int (3 : Int32)), (.ref b87)])) _
    refine XS.aload X174.here hx rfl (hb hby at_221) rfl rfl ?_
    show Steps p.tables e below (T174.setTop (mkF m 223 #[.val (.long q0), .second, .val (.long q1), .second, .val (.int p2), .val (.int p3), .val (.int p4), .val (.int (Int32.ofNat n)), .val (.int (Int32.ofNat a)), .val (.int (Int32.ofNat b)), .val (.ref b5), .val (.ref b7), .val (.ref b81), .val (.ref b87), .unset, .unset] [(.ref b7), (.int (3 : Int32)), (.ref b87)])) _
    refine XS.iconst X174.here hx rfl (hb hby at_223) ?_
    exact kt
  obtain ⟨c183, Ar183, S183, M183, H183⟩ := id f179
  have hj183 : ¬ (3 : Int32) < 0 ∧ ((3 : Int32)).toNatClampNeg < 5 := ⟨by decide, by decide⟩
  have st183 : ∀ target, Steps p.tables e below (T174.setTop (mkF m 225 #[.val (.long q0), .second, .val (.long q1), .second, .val (.int p2), .val (.int p3), .val (.int p4), .val (.int (Int32.ofNat n)), .val (.int (Int32.ofNat a)), .val (.int (Int32.ofNat b)), .val (.ref b5), .val (.ref b7), .val (.ref b81), .val (.ref b87), .unset, .unset] [(.int (ib 3)), (.int (3 : Int32)), (.ref b87)])) target → Steps p.tables e below (T174.setTop (mkF m 224 #[.val (.long q0), .second, .val (.long q1), .second, .val (.int p2), .val (.int p3), .val (.int p4), .val (.int (Int32.ofNat n)), .val (.int (Int32.ofNat a)), .val (.int (Int32.ofNat b)), .val (.ref b5), .val (.ref b7), .val (.ref b81), .val (.ref b87), .unset, .unset] [(.int (3 : Int32)), (.ref b7), (.int (3 : Int32)), (.ref b87)])) target := fun target kt => X174.iaload hx (j := (3 : Int32)) (v := (.int (ib 3))) (by rw [e174]; exact Ar183.1) (State.isArrayOf_alike hZ.alike Ar183.2.1) Ar183.2.2 (own_in S183 hj183) (H183 _ hj183.2) (g := (mkF m 224 #[.val (.long q0), .second, .val (.long q1), .second, .val (.int p2), .val (.int p3), .val (.int p4), .val (.int (Int32.ofNat n)), .val (.int (Int32.ofNat a)), .val (.int (Int32.ofNat b)), .val (.ref b5), .val (.ref b7), .val (.ref b81), .val (.ref b87), .unset, .unset] [(.int (3 : Int32)), (.ref b7), (.int (3 : Int32)), (.ref b87)])) rfl rfl (hb hby at_224) _ kt
  refine own_go (S' := T174.setTop (mkF m 225 #[.val (.long q0), .second, .val (.long q1), .second, .val (.int p2), .val (.int p3), .val (.int p4), .val (.int (Int32.ofNat n)), .val (.int (Int32.ofNat a)), .val (.int (Int32.ofNat b)), .val (.ref b5), .val (.ref b7), .val (.ref b81), .val (.ref b87), .unset, .unset] [(.int (ib 3)), (.int (3 : Int32)), (.ref b87)])) st183 ?_
  refine own_go (S' := T174.setTop (mkF m 226 #[.val (.long q0), .second, .val (.long q1), .second, .val (.int p2), .val (.int p3), .val (.int p4), .val (.int (Int32.ofNat n)), .val (.int (Int32.ofNat a)), .val (.int (Int32.ofNat b)), .val (.ref b5), .val (.ref b7), .val (.ref b81), .val (.ref b87), .unset, .unset] [(.double (FP.i2d (ib 3))), (.int (3 : Int32)), (.ref b87)])) (fun target kt => ?_) ?_
  · skip
    show Steps p.tables e below (T174.setTop (mkF m 225 #[.val (.long q0), .second, .val (.long q1), .second, .val (.int p2), .val (.int p3), .val (.int p4), .val (.int (Int32.ofNat n)), .val (.int (Int32.ofNat a)), .val (.int (Int32.ofNat b)), .val (.ref b5), .val (.ref b7), .val (.ref b81), .val (.ref b87), .unset, .unset] [(.int (ib 3)), (.int (3 : Int32)), (.ref b87)])) _
    refine XS.i2dS X174.here hx rfl (hb hby at_225) rfl rfl ?_
    exact kt
  obtain ⟨c184, Ar184, S184, M184, H184⟩ := id f175
  have hin184 : ¬ ((3 : Int32) < 0 ∨ c184.slots.size ≤ ((3 : Int32)).toNatClampNeg) := own_in S184 ⟨by decide, by decide⟩
  obtain ⟨T185, h185, X185, e185, W185, st185⟩ := Jvm.RoadKit.stD X174 hx hZ e174 Ar184 (j := (3 : Int32)) hin184 (g := (mkF m 226 #[.val (.long q0), .second, .val (.long q1), .second, .val (.int p2), .val (.int p3), .val (.int p4), .val (.int (Int32.ofNat n)), .val (.int (Int32.ofNat a)), .val (.int (Int32.ofNat b)), .val (.ref b5), .val (.ref b7), .val (.ref b81), .val (.ref b87), .unset, .unset] [(.double (FP.i2d (ib 3))), (.int (3 : Int32)), (.ref b87)])) rfl rfl (hb hby at_226)
  have f187 : Exa Z h185 b5 "[I" := f176.wr W185
  have f188 : Exa Z h185 b7 "[I" := f177.wr W185
  have f189 : own_AI Z h185 b5 .int 5 ia := f178.other W185 ne_b5_b87
  have f190 : own_AI Z h185 b7 .int 5 ib := f179.other W185 ne_b7_b87
  have f191 : Exa Z h185 b81 "[D" := f180.wr W185
  have f192 : Exa Z h185 b87 "[D" := f181.wr W185
  have f193 : own_AD Z h185 b81 .double 5 (own_upd (own_upd (own_upd (own_upd (own_upd (fun _ => 0) 0 (FP.i2d (ia 0))) 1 (FP.i2d (ia 1))) 2 (FP.i2d (ia 2))) 3 (FP.i2d (ia 3))) 4 (FP.i2d (ia 4))) := f182.other W185 ne_b81_b87
  have f186 : own_AD Z h185 b87 .double 5 (own_upd (own_upd (own_upd (own_upd (fun _ => 0) 0 (FP.i2d (ib 0))) 1 (FP.i2d (ib 1))) 2 (FP.i2d (ib 2))) 3 (FP.i2d (ib 3))) := own_AD.set Ar184 S184 M184 H184 W185
  have Z185 : n0 ≤ h185.size := Nat.le_trans Z174 (Keep.of_wr W185).1
  have N185 := Fr.snoc X185 N174 g_b87
  refine own_go (S' := T185.setTop (mkF m 227 #[.val (.long q0), .second, .val (.long q1), .second, .val (.int p2), .val (.int p3), .val (.int p4), .val (.int (Int32.ofNat n)), .val (.int (Int32.ofNat a)), .val (.int (Int32.ofNat b)), .val (.ref b5), .val (.ref b7), .val (.ref b81), .val (.ref b87), .unset, .unset] [])) st185 ?_
  refine own_go (S' := T185.setTop (mkF m 233 #[.val (.long q0), .second, .val (.long q1), .second, .val (.int p2), .val (.int p3), .val (.int p4), .val (.int (Int32.ofNat n)), .val (.int (Int32.ofNat a)), .val (.int (Int32.ofNat b)), .val (.ref b5), .val (.ref b7), .val (.ref b81), .val (.ref b87), .unset, .unset] [(.int (4 : Int32)), (.ref b7), (.int (4 : Int32)), (.ref b87)])) (fun target kt => ?_) ?_
  · skip
    show Steps p.tables e below (T185.setTop (mkF m 227 #[.val (.long q0), .second, .val (.long q1), .second, .val (.int p2), .val (.int p3), .val (.int p4), .val (.int (Int32.ofNat n)), .val (.int (Int32.ofNat a)), .val (.int (Int32.ofNat b)), .val (.ref b5), .val (.ref b7), .val (.ref b81), .val (.ref b87), .unset, .unset] [])) _
    refine XS.aload X185.here hx rfl (hb hby at_227) rfl rfl ?_
    show Steps p.tables e below (T185.setTop (mkF m 229 #[.val (.long q0), .second, .val (.long q1), .second, .val (.int p2), .val (.int p3), .val (.int p4), .val (.int (Int32.ofNat n)), .val (.int (Int32.ofNat a)), .val (.int (Int32.ofNat b)), .val (.ref b5), .val (.ref b7), .val (.ref b81), .val (.ref b87), .unset, .unset] [(.ref b87)])) _
    refine XS.iconst X185.here hx rfl (hb hby at_229) ?_
    show Steps p.tables e below (T185.setTop (mkF m 230 #[.val (.long q0), .second, .val (.long q1), .second, .val (.int p2), .val (.int p3), .val (.int p4), .val (.int (Int32.ofNat n)), .val (.int (Int32.ofNat a)), .val (.int (Int32.ofNat b)), .val (.ref b5), .val (.ref b7), .val (.ref b81), .val (.ref b87), .unset, .unset] [(.int (4 : Int32)), (.ref b87)])) _
    refine XS.aload X185.here hx rfl (hb hby at_230) rfl rfl ?_
    show Steps p.tables e below (T185.setTop (mkF m 232 #[.val (.long q0), .second, .val (.long q1), .second, .val (.int p2), .val (.int p3), .val (.int p4), .val (.int (Int32.ofNat n)), .val (.int (Int32.ofNat a)), .val (.int (Int32.ofNat b)), .val (.ref b5), .val (.ref b7), .val (.ref b81), .val (.ref b87), .unset, .unset] [(.ref b7), (.int (4 : Int32)), (.ref b87)])) _
    refine XS.iconst X185.here hx rfl (hb hby at_232) ?_
    exact kt
  obtain ⟨c194, Ar194, S194, M194, H194⟩ := id f190
  have hj194 : ¬ (4 : Int32) < 0 ∧ ((4 : Int32)).toNatClampNeg < 5 := ⟨by decide, by decide⟩
  have st194 : ∀ target, Steps p.tables e below (T185.setTop (mkF m 234 #[.val (.long q0), .second, .val (.long q1), .second, .val (.int p2), .val (.int p3), .val (.int p4), .val (.int (Int32.ofNat n)), .val (.int (Int32.ofNat a)), .val (.int (Int32.ofNat b)), .val (.ref b5), .val (.ref b7), .val (.ref b81), .val (.ref b87), .unset, .unset] [(.int (ib 4)), (.int (4 : Int32)), (.ref b87)])) target → Steps p.tables e below (T185.setTop (mkF m 233 #[.val (.long q0), .second, .val (.long q1), .second, .val (.int p2), .val (.int p3), .val (.int p4), .val (.int (Int32.ofNat n)), .val (.int (Int32.ofNat a)), .val (.int (Int32.ofNat b)), .val (.ref b5), .val (.ref b7), .val (.ref b81), .val (.ref b87), .unset, .unset] [(.int (4 : Int32)), (.ref b7), (.int (4 : Int32)), (.ref b87)])) target := fun target kt => X185.iaload hx (j := (4 : Int32)) (v := (.int (ib 4))) (by rw [e185]; exact Ar194.1) (State.isArrayOf_alike hZ.alike Ar194.2.1) Ar194.2.2 (own_in S194 hj194) (H194 _ hj194.2) (g := (mkF m 233 #[.val (.long q0), .second, .val (.long q1), .second, .val (.int p2), .val (.int p3), .val (.int p4), .val (.int (Int32.ofNat n)), .val (.int (Int32.ofNat a)), .val (.int (Int32.ofNat b)), .val (.ref b5), .val (.ref b7), .val (.ref b81), .val (.ref b87), .unset, .unset] [(.int (4 : Int32)), (.ref b7), (.int (4 : Int32)), (.ref b87)])) rfl rfl (hb hby at_233) _ kt
  refine own_go (S' := T185.setTop (mkF m 234 #[.val (.long q0), .second, .val (.long q1), .second, .val (.int p2), .val (.int p3), .val (.int p4), .val (.int (Int32.ofNat n)), .val (.int (Int32.ofNat a)), .val (.int (Int32.ofNat b)), .val (.ref b5), .val (.ref b7), .val (.ref b81), .val (.ref b87), .unset, .unset] [(.int (ib 4)), (.int (4 : Int32)), (.ref b87)])) st194 ?_
  refine own_go (S' := T185.setTop (mkF m 235 #[.val (.long q0), .second, .val (.long q1), .second, .val (.int p2), .val (.int p3), .val (.int p4), .val (.int (Int32.ofNat n)), .val (.int (Int32.ofNat a)), .val (.int (Int32.ofNat b)), .val (.ref b5), .val (.ref b7), .val (.ref b81), .val (.ref b87), .unset, .unset] [(.double (FP.i2d (ib 4))), (.int (4 : Int32)), (.ref b87)])) (fun target kt => ?_) ?_
  · skip
    show Steps p.tables e below (T185.setTop (mkF m 234 #[.val (.long q0), .second, .val (.long q1), .second, .val (.int p2), .val (.int p3), .val (.int p4), .val (.int (Int32.ofNat n)), .val (.int (Int32.ofNat a)), .val (.int (Int32.ofNat b)), .val (.ref b5), .val (.ref b7), .val (.ref b81), .val (.ref b87), .unset, .unset] [(.int (ib 4)), (.int (4 : Int32)), (.ref b87)])) _
    refine XS.i2dS X185.here hx rfl (hb hby at_234) rfl rfl ?_
    exact kt
  obtain ⟨c195, Ar195, S195, M195, H195⟩ := id f186
  have hin195 : ¬ ((4 : Int32) < 0 ∨ c195.slots.size ≤ ((4 : Int32)).toNatClampNeg) := own_in S195 ⟨by decide, by decide⟩
  obtain ⟨T196, h196, X196, e196, W196, st196⟩ := Jvm.RoadKit.stD X185 hx hZ e185 Ar195 (j := (4 : Int32)) hin195 (g := (mkF m 235 #[.val (.long q0), .second, .val (.long q1), .second, .val (.int p2), .val (.int p3), .val (.int p4), .val (.int (Int32.ofNat n)), .val (.int (Int32.ofNat a)), .val (.int (Int32.ofNat b)), .val (.ref b5), .val (.ref b7), .val (.ref b81), .val (.ref b87), .unset, .unset] [(.double (FP.i2d (ib 4))), (.int (4 : Int32)), (.ref b87)])) rfl rfl (hb hby at_235)
  have f198 : Exa Z h196 b5 "[I" := f187.wr W196
  have f199 : Exa Z h196 b7 "[I" := f188.wr W196
  have f200 : own_AI Z h196 b5 .int 5 ia := f189.other W196 ne_b5_b87
  have f201 : own_AI Z h196 b7 .int 5 ib := f190.other W196 ne_b7_b87
  have f202 : Exa Z h196 b81 "[D" := f191.wr W196
  have f203 : Exa Z h196 b87 "[D" := f192.wr W196
  have f204 : own_AD Z h196 b81 .double 5 (own_upd (own_upd (own_upd (own_upd (own_upd (fun _ => 0) 0 (FP.i2d (ia 0))) 1 (FP.i2d (ia 1))) 2 (FP.i2d (ia 2))) 3 (FP.i2d (ia 3))) 4 (FP.i2d (ia 4))) := f193.other W196 ne_b81_b87
  have f197 : own_AD Z h196 b87 .double 5 (own_upd (own_upd (own_upd (own_upd (own_upd (fun _ => 0) 0 (FP.i2d (ib 0))) 1 (FP.i2d (ib 1))) 2 (FP.i2d (ib 2))) 3 (FP.i2d (ib 3))) 4 (FP.i2d (ib 4))) := own_AD.set Ar195 S195 M195 H195 W196
  have Z196 : n0 ≤ h196.size := Nat.le_trans Z185 (Keep.of_wr W196).1
  have N196 := Fr.snoc X196 N185 g_b87
  refine own_go (S' := T196.setTop (mkF m 236 #[.val (.long q0), .second, .val (.long q1), .second, .val (.int p2), .val (.int p3), .val (.int p4), .val (.int (Int32.ofNat n)), .val (.int (Int32.ofNat a)), .val (.int (Int32.ofNat b)), .val (.ref b5), .val (.ref b7), .val (.ref b81), .val (.ref b87), .unset, .unset] [])) st196 ?_
  obtain ⟨da, h_da⟩ : ∃ z : Nat → UInt64, z = (own_upd (own_upd (own_upd (own_upd (own_upd (fun _ => 0) 0 (FP.i2d (ia 0))) 1 (FP.i2d (ia 1))) 2 (FP.i2d (ia 2))) 3 (FP.i2d (ia 3))) 4 (FP.i2d (ia 4))) := ⟨_, rfl⟩
  rw [← h_da] at f204
  obtain ⟨db, h_db⟩ : ∃ z : Nat → UInt64, z = (own_upd (own_upd (own_upd (own_upd (own_upd (fun _ => 0) 0 (FP.i2d (ib 0))) 1 (FP.i2d (ib 1))) 2 (FP.i2d (ib 2))) 3 (FP.i2d (ib 3))) 4 (FP.i2d (ib 4))) := ⟨_, rfl⟩
  rw [← h_db] at f197
  refine own_go (S' := T196.setTop (mkF m 247 #[.val (.long q0), .second, .val (.long q1), .second, .val (.int p2), .val (.int p3), .val (.int p4), .val (.int (Int32.ofNat n)), .val (.int (Int32.ofNat a)), .val (.int (Int32.ofNat b)), .val (.ref b5), .val (.ref b7), .val (.ref b81), .val (.ref b87), .unset, .unset] [(.int (0 : Int32)), (.int (Int32.ofNat n)), (.int (Int32.ofNat b)), (.ref b7), (.int (Int32.ofNat a)), (.ref b5)])) (fun target kt => ?_) ?_
  · skip
    show Steps p.tables e below (T196.setTop (mkF m 236 #[.val (.long q0), .second, .val (.long q1), .second, .val (.int p2), .val (.int p3), .val (.int p4), .val (.int (Int32.ofNat n)), .val (.int (Int32.ofNat a)), .val (.int (Int32.ofNat b)), .val (.ref b5), .val (.ref b7), .val (.ref b81), .val (.ref b87), .unset, .unset] [])) _
    refine XS.aload X196.here hx rfl (hb hby at_236) rfl rfl ?_
    show Steps p.tables e below (T196.setTop (mkF m 238 #[.val (.long q0), .second, .val (.long q1), .second, .val (.int p2), .val (.int p3), .val (.int p4), .val (.int (Int32.ofNat n)), .val (.int (Int32.ofNat a)), .val (.int (Int32.ofNat b)), .val (.ref b5), .val (.ref b7), .val (.ref b81), .val (.ref b87), .unset, .unset] [(.ref b5)])) _
    refine XS.iload X196.here hx rfl (hb hby at_238) rfl ?_
    show Steps p.tables e below (T196.setTop (mkF m 240 #[.val (.long q0), .second, .val (.long q1), .second, .val (.int p2), .val (.int p3), .val (.int p4), .val (.int (Int32.ofNat n)), .val (.int (Int32.ofNat a)), .val (.int (Int32.ofNat b)), .val (.ref b5), .val (.ref b7), .val (.ref b81), .val (.ref b87), .unset, .unset] [(.int (Int32.ofNat a)), (.ref b5)])) _
    refine XS.aload X196.here hx rfl (hb hby at_240) rfl rfl ?_
    show Steps p.tables e below (T196.setTop (mkF m 242 #[.val (.long q0), .second, .val (.long q1), .second, .val (.int p2), .val (.int p3), .val (.int p4), .val (.int (Int32.ofNat n)), .val (.int (Int32.ofNat a)), .val (.int (Int32.ofNat b)), .val (.ref b5), .val (.ref b7), .val (.ref b81), .val (.ref b87), .unset, .unset] [(.ref b7), (.int (Int32.ofNat a)), (.ref b5)])) _
    refine XS.iload X196.here hx rfl (hb hby at_242) rfl ?_
    show Steps p.tables e below (T196.setTop (mkF m 244 #[.val (.long q0), .second, .val (.long q1), .second, .val (.int p2), .val (.int p3), .val (.int p4), .val (.int (Int32.ofNat n)), .val (.int (Int32.ofNat a)), .val (.int (Int32.ofNat b)), .val (.ref b5), .val (.ref b7), .val (.ref b81), .val (.ref b87), .unset, .unset] [(.int (Int32.ofNat b)), (.ref b7), (.int (Int32.ofNat a)), (.ref b5)])) _
    refine XS.iload X196.here hx rfl (hb hby at_244) rfl ?_
    show Steps p.tables e below (T196.setTop (mkF m 246 #[.val (.long q0), .second, .val (.long q1), .second, .val (.int p2), .val (.int p3), .val (.int p4), .val (.int (Int32.ofNat n)), .val (.int (Int32.ofNat a)), .val (.int (Int32.ofNat b)), .val (.ref b5), .val (.ref b7), .val (.ref b81), .val (.ref b87), .unset, .unset] [(.int (Int32.ofNat n)), (.int (Int32.ofNat b)), (.ref b7), (.int (Int32.ofNat a)), (.ref b5)])) _
    refine XS.iconst X196.here hx rfl (hb hby at_246) ?_
    exact kt
  obtain ⟨_, _, ⟨T205, L205, k205, n205⟩, -, X205, ⟨Lc205, hQ205, l205, y205, z205⟩, st205⟩ := Jvm.LawKit.callS X196 hx (y := (⟨"com/example/paretoforge/paretoforge/core/DominanceWeaklyDominatesPinLaw", "ok", "([II[IIII)Z"⟩ : MethodName)) hown (mvT hZ (hw _ (List.mem_of_getElem? (i := 8) rfl))) (mvT hZ (hw _ (List.mem_of_getElem? (i := 9) rfl))) (mvT hZ (hw _ (List.mem_of_getElem? (i := 4) rfl))) (mvT hZ (hw _ (List.mem_of_getElem? (i := 10) rfl))) (by decide) (backOf (W := 0) (rm2 l Z aZ hw [] b5 (Int32.ofNat a) b7 (Int32.ofNat b) (Int32.ofNat n) (0 : Int32) ia ib h196 n0 Z196 f200 f201 (own_okb (K := 0) hA hB rfl (by decide) : (0 : Int32) < (Int32.ofNat n) → own_in2 (Int32.ofNat a) (Int32.ofNat b) (0 : Int32))) hZ (hw _ (List.mem_of_getElem? (i := 10) rfl)) (hw _ (List.mem_of_getElem? (i := 4) rfl)) (by decide) (by decide)) (g := (mkF m 247 #[.val (.long q0), .second, .val (.long q1), .second, .val (.int p2), .val (.int p3), .val (.int p4), .val (.int (Int32.ofNat n)), .val (.int (Int32.ofNat a)), .val (.int (Int32.ofNat b)), .val (.ref b5), .val (.ref b7), .val (.ref b81), .val (.ref b87), .unset, .unset] [(.int (0 : Int32)), (.int (Int32.ofNat n)), (.int (Int32.ofNat b)), (.ref b7), (.int (Int32.ofNat a)), (.ref b5)])) rfl (by rw [hml]; rfl) (argsL := [(.ref b5), (.int (Int32.ofNat a)), (.ref b7), (.int (Int32.ofNat b)), (.int (Int32.ofNat n)), (.int (0 : Int32))]) (rest := []) (lenOf own_pd1 rfl) rfl (by show 2 * 0 + _ ≤ _; exact Nat.le_of_eq rfl) (hb hby at_247) (fun _ _ => ⟨rfl, e196, (by decide : 4 + 0 ≤ _), (by decide : 20 + 0 ≤ _)⟩)
  dsimp only [Pt.U, Pt.locs, Pt.cells, Pt.slots] at X205 l205 y205 z205 st205 hQ205
  obtain rfl : k205 = 4 := y205
  obtain rfl : n205 = 20 := z205
  obtain ⟨rfl, N205q, e205⟩ := hQ205
  have N205 : Fr n0 L205 := by rw [l205]; exact Fr.app N196 N205q
  clear l205
  refine own_go (S' := T205.setTop (mkF m 250 #[.val (.long q0), .second, .val (.long q1), .second, .val (.int p2), .val (.int p3), .val (.int p4), .val (.int (Int32.ofNat n)), .val (.int (Int32.ofNat a)), .val (.int (Int32.ofNat b)), .val (.ref b5), .val (.ref b7), .val (.ref b81), .val (.ref b87), .unset, .unset] [(.int (own_ok (Int32.ofNat a) (Int32.ofNat b) (Int32.ofNat n) (0 : Int32) ia ib))])) st205 ?_
  obtain ⟨⟨T206, L206, ex⟩, ⟨X206, e206, N206, h_ex⟩, st206⟩ : ∃ x : State × List Loc × Int32, (Stand p l e room_1 s m #[(.long q0), (.long q1), (.int p2), (.int p3), (.int p4)] below meth c x.1 x.2.1 4 20 ∧ x.1.heap = h196 ∧ Fr n0 x.2.1 ∧ x.2.2 = (if (own_ok (Int32.ofNat a) (Int32.ofNat b) (Int32.ofNat n) (0 : Int32) ia ib) = (0 : Int32) then (0 : Int32) else (if (own_ok (Int32.ofNat a) (Int32.ofNat b) (Int32.ofNat n) (1 : Int32) ia ib) = (0 : Int32) then (0 : Int32) else (if (own_ok (Int32.ofNat a) (Int32.ofNat b) (Int32.ofNat n) (2 : Int32) ia ib) = (0 : Int32) then (0 : Int32) else (if (own_ok (Int32.ofNat a) (Int32.ofNat b) (Int32.ofNat n) (3 : Int32) ia ib) = (0 : Int32) then (0 : Int32) else (if (own_ok (Int32.ofNat a) (Int32.ofNat b) (Int32.ofNat n) (4 : Int32) ia ib) = (0 : Int32) then (0 : Int32) else (1 : Int32))))))) ∧ ∀ target, Steps p.tables e below (x.1.setTop (mkF m 326 #[.val (.long q0), .second, .val (.long q1), .second, .val (.int p2), .val (.int p3), .val (.int p4), .val (.int (Int32.ofNat n)), .val (.int (Int32.ofNat a)), .val (.int (Int32.ofNat b)), .val (.ref b5), .val (.ref b7), .val (.ref b81), .val (.ref b87), .unset, .unset] [(.int x.2.2)])) target → Steps p.tables e below (T205.setTop (mkF m 250 #[.val (.long q0), .second, .val (.long q1), .second, .val (.int p2), .val (.int p3), .val (.int p4), .val (.int (Int32.ofNat n)), .val (.int (Int32.ofNat a)), .val (.int (Int32.ofNat b)), .val (.ref b5), .val (.ref b7), .val (.ref b81), .val (.ref b87), .unset, .unset] [(.int (own_ok (Int32.ofNat a) (Int32.ofNat b) (Int32.ofNat n) (0 : Int32) ia ib))])) target := by
    by_cases hc250 : (own_ok (Int32.ofNat a) (Int32.ofNat b) (Int32.ofNat n) (0 : Int32) ia ib) = (0 : Int32)
    · skip
      refine own_goR (S' := T205.setTop (mkF m 326 #[.val (.long q0), .second, .val (.long q1), .second, .val (.int p2), .val (.int p3), .val (.int p4), .val (.int (Int32.ofNat n)), .val (.int (Int32.ofNat a)), .val (.int (Int32.ofNat b)), .val (.ref b5), .val (.ref b7), .val (.ref b81), .val (.ref b87), .unset, .unset] [(.int (0 : Int32))])) (fun target kt => ?_) ?_
      · skip
        show Steps p.tables e below (T205.setTop (mkF m 250 #[.val (.long q0), .second, .val (.long q1), .second, .val (.int p2), .val (.int p3), .val (.int p4), .val (.int (Int32.ofNat n)), .val (.int (Int32.ofNat a)), .val (.int (Int32.ofNat b)), .val (.ref b5), .val (.ref b7), .val (.ref b81), .val (.ref b87), .unset, .unset] [(.int (own_ok (Int32.ofNat a) (Int32.ofNat b) (Int32.ofNat n) (0 : Int32) ia ib))])) _
        refine XS.ifYes X205.here hx rfl (pc0 := 250) (pc' := 325) rfl (hb hby at_250) rfl ((if0 _ _).trans (teq hc250).1) (by decide) (by decide) ?_
        show Steps p.tables e below (T205.setTop (mkF m 325 #[.val (.long q0), .second, .val (.long q1), .second, .val (.int p2), .val (.int p3), .val (.int p4), .val (.int (Int32.ofNat n)), .val (.int (Int32.ofNat a)), .val (.int (Int32.ofNat b)), .val (.ref b5), .val (.ref b7), .val (.ref b81), .val (.ref b87), .unset, .unset] [])) _
        refine XS.iconst X205.here hx rfl (hb hby at_325) ?_
        exact kt
      exact ⟨(T205, _, (0 : Int32)), ⟨X205, e205, N205, (by show (0 : Int32) = (if (own_ok (Int32.ofNat a) (Int32.ofNat b) (Int32.ofNat n) (0 : Int32) ia ib) = (0 : Int32) then (0 : Int32) else (if (own_ok (Int32.ofNat a) (Int32.ofNat b) (Int32.ofNat n) (1 : Int32) ia ib) = (0 : Int32) then (0 : Int32) else (if (own_ok (Int32.ofNat a) (Int32.ofNat b) (Int32.ofNat n) (2 : Int32) ia ib) = (0 : Int32) then (0 : Int32) else (if (own_ok (Int32.ofNat a) (Int32.ofNat b) (Int32.ofNat n) (3 : Int32) ia ib) = (0 : Int32) then (0 : Int32) else (if (own_ok (Int32.ofNat a) (Int32.ofNat b) (Int32.ofNat n) (4 : Int32) ia ib) = (0 : Int32) then (0 : Int32) else (1 : Int32)))))); rw [if_pos hc250])⟩, fun _ k => k⟩
    · skip
      refine own_goR (S' := T205.setTop (mkF m 264 #[.val (.long q0), .second, .val (.long q1), .second, .val (.int p2), .val (.int p3), .val (.int p4), .val (.int (Int32.ofNat n)), .val (.int (Int32.ofNat a)), .val (.int (Int32.ofNat b)), .val (.ref b5), .val (.ref b7), .val (.ref b81), .val (.ref b87), .unset, .unset] [(.int (1 : Int32)), (.int (Int32.ofNat n)), (.int (Int32.ofNat b)), (.ref b7), (.int (Int32.ofNat a)), (.ref b5)])) (fun target kt => ?_) ?_
      · skip
        show Steps p.tables e below (T205.setTop (mkF m 250 #[.val (.long q0), .second, .val (.long q1), .second, .val (.int p2), .val (.int p3), .val (.int p4), .val (.int (Int32.ofNat n)), .val (.int (Int32.ofNat a)), .val (.int (Int32.ofNat b)), .val (.ref b5), .val (.ref b7), .val (.ref b81), .val (.ref b87), .unset, .unset] [(.int (own_ok (Int32.ofNat a) (Int32.ofNat b) (Int32.ofNat n) (0 : Int32) ia ib))])) _
        refine XS.ifNo X205.here hx rfl (hb hby at_250) rfl ((if0 _ _).trans (feq hc250).1) ?_
        show Steps p.tables e below (T205.setTop (mkF m 253 #[.val (.long q0), .second, .val (.long q1), .second, .val (.int p2), .val (.int p3), .val (.int p4), .val (.int (Int32.ofNat n)), .val (.int (Int32.ofNat a)), .val (.int (Int32.ofNat b)), .val (.ref b5), .val (.ref b7), .val (.ref b81), .val (.ref b87), .unset, .unset] [])) _
        refine XS.aload X205.here hx rfl (hb hby at_253) rfl rfl ?_
        show Steps p.tables e below (T205.setTop (mkF m 255 #[.val (.long q0), .second, .val (.long q1), .second, .val (.int p2), .val (.int p3), .val (.int p4), .val (.int (Int32.ofNat n)), .val (.int (Int32.ofNat a)), .val (.int (Int32.ofNat b)), .val (.ref b5), .val (.ref b7), .val (.ref b81), .val (.ref b87), .unset, .unset] [(.ref b5)])) _
        refine XS.iload X205.here hx rfl (hb hby at_255) rfl ?_
        show Steps p.tables e below (T205.setTop (mkF m 257 #[.val (.long q0), .second, .val (.long q1), .second, .val (.int p2), .val (.int p3), .val (.int p4), .val (.int (Int32.ofNat n)), .val (.int (Int32.ofNat a)), .val (.int (Int32.ofNat b)), .val (.ref b5), .val (.ref b7), .val (.ref b81), .val (.ref b87), .unset, .unset] [(.int (Int32.ofNat a)), (.ref b5)])) _
        refine XS.aload X205.here hx rfl (hb hby at_257) rfl rfl ?_
        show Steps p.tables e below (T205.setTop (mkF m 259 #[.val (.long q0), .second, .val (.long q1), .second, .val (.int p2), .val (.int p3), .val (.int p4), .val (.int (Int32.ofNat n)), .val (.int (Int32.ofNat a)), .val (.int (Int32.ofNat b)), .val (.ref b5), .val (.ref b7), .val (.ref b81), .val (.ref b87), .unset, .unset] [(.ref b7), (.int (Int32.ofNat a)), (.ref b5)])) _
        refine XS.iload X205.here hx rfl (hb hby at_259) rfl ?_
        show Steps p.tables e below (T205.setTop (mkF m 261 #[.val (.long q0), .second, .val (.long q1), .second, .val (.int p2), .val (.int p3), .val (.int p4), .val (.int (Int32.ofNat n)), .val (.int (Int32.ofNat a)), .val (.int (Int32.ofNat b)), .val (.ref b5), .val (.ref b7), .val (.ref b81), .val (.ref b87), .unset, .unset] [(.int (Int32.ofNat b)), (.ref b7), (.int (Int32.ofNat a)), (.ref b5)])) _
        refine XS.iload X205.here hx rfl (hb hby at_261) rfl ?_
        show Steps p.tables e below (T205.setTop (mkF m 263 #[.val (.long q0), .second, .val (.long q1), .second, .val (.int p2), .val (.int p3), .val (.int p4), .val (.int (Int32.ofNat n)), .val (.int (Int32.ofNat a)), .val (.int (Int32.ofNat b)), .val (.ref b5), .val (.ref b7), .val (.ref b81), .val (.ref b87), .unset, .unset] [(.int (Int32.ofNat n)), (.int (Int32.ofNat b)), (.ref b7), (.int (Int32.ofNat a)), (.ref b5)])) _
        refine XS.iconst X205.here hx rfl (hb hby at_263) ?_
        exact kt
      obtain ⟨_, _, ⟨T207, L207, k207, n207⟩, -, X207, ⟨Lc207, hQ207, l207, y207, z207⟩, st207⟩ := Jvm.LawKit.callS X205 hx (y := (⟨"com/example/paretoforge/paretoforge/core/DominanceWeaklyDominatesPinLaw", "ok", "([II[IIII)Z"⟩ : MethodName)) hown (mvT hZ (hw _ (List.mem_of_getElem? (i := 8) rfl))) (mvT hZ (hw _ (List.mem_of_getElem? (i := 9) rfl))) (mvT hZ (hw _ (List.mem_of_getElem? (i := 4) rfl))) (mvT hZ (hw _ (List.mem_of_getElem? (i := 10) rfl))) (by decide) (backOf (W := 0) (rm2 l Z aZ hw [] b5 (Int32.ofNat a) b7 (Int32.ofNat b) (Int32.ofNat n) (1 : Int32) ia ib h196 n0 Z196 f200 f201 (own_okb (K := 1) hA hB rfl (by decide) : (1 : Int32) < (Int32.ofNat n) → own_in2 (Int32.ofNat a) (Int32.ofNat b) (1 : Int32))) hZ (hw _ (List.mem_of_getElem? (i := 10) rfl)) (hw _ (List.mem_of_getElem? (i := 4) rfl)) (by decide) (by decide)) (g := (mkF m 264 #[.val (.long q0), .second, .val (.long q1), .second, .val (.int p2), .val (.int p3), .val (.int p4), .val (.int (Int32.ofNat n)), .val (.int (Int32.ofNat a)), .val (.int (Int32.ofNat b)), .val (.ref b5), .val (.ref b7), .val (.ref b81), .val (.ref b87), .unset, .unset] [(.int (1 : Int32)), (.int (Int32.ofNat n)), (.int (Int32.ofNat b)), (.ref b7), (.int (Int32.ofNat a)), (.ref b5)])) rfl (by rw [hml]; rfl) (argsL := [(.ref b5), (.int (Int32.ofNat a)), (.ref b7), (.int (Int32.ofNat b)), (.int (Int32.ofNat n)), (.int (1 : Int32))]) (rest := []) (lenOf own_pd1 rfl) rfl (by show 2 * 0 + _ ≤ _; exact Nat.le_of_eq rfl) (hb hby at_264) (fun _ _ => ⟨rfl, e205, (by decide : 4 + 0 ≤ _), (by decide : 20 + 0 ≤ _)⟩)
      dsimp only [Pt.U, Pt.locs, Pt.cells, Pt.slots] at X207 l207 y207 z207 st207 hQ207
      obtain rfl : k207 = 4 := y207
      obtain rfl : n207 = 20 := z207
      obtain ⟨rfl, N207q, e207⟩ := hQ207
      have N207 : Fr n0 L207 := by rw [l207]; exact Fr.app N205 N207q
      clear l207
      refine own_goR (S' := T207.setTop (mkF m 267 #[.val (.long q0), .second, .val (.long q1), .second, .val (.int p2), .val (.int p3), .val (.int p4), .val (.int (Int32.ofNat n)), .val (.int (Int32.ofNat a)), .val (.int (Int32.ofNat b)), .val (.ref b5), .val (.ref b7), .val (.ref b81), .val (.ref b87), .unset, .unset] [(.int (own_ok (Int32.ofNat a) (Int32.ofNat b) (Int32.ofNat n) (1 : Int32) ia ib))])) st207 ?_
      by_cases hc267 : (own_ok (Int32.ofNat a) (Int32.ofNat b) (Int32.ofNat n) (1 : Int32) ia ib) = (0 : Int32)
      · skip
        refine own_goR (S' := T207.setTop (mkF m 326 #[.val (.long q0), .second, .val (.long q1), .second, .val (.int p2), .val (.int p3), .val (.int p4), .val (.int (Int32.ofNat n)), .val (.int (Int32.ofNat a)), .val (.int (Int32.ofNat b)), .val (.ref b5), .val (.ref b7), .val (.ref b81), .val (.ref b87), .unset, .unset] [(.int (0 : Int32))])) (fun target kt => ?_) ?_
        · skip
          show Steps p.tables e below (T207.setTop (mkF m 267 #[.val (.long q0), .second, .val (.long q1), .second, .val (.int p2), .val (.int p3), .val (.int p4), .val (.int (Int32.ofNat n)), .val (.int (Int32.ofNat a)), .val (.int (Int32.ofNat b)), .val (.ref b5), .val (.ref b7), .val (.ref b81), .val (.ref b87), .unset, .unset] [(.int (own_ok (Int32.ofNat a) (Int32.ofNat b) (Int32.ofNat n) (1 : Int32) ia ib))])) _
          refine XS.ifYes X207.here hx rfl (pc0 := 267) (pc' := 325) rfl (hb hby at_267) rfl ((if0 _ _).trans (teq hc267).1) (by decide) (by decide) ?_
          show Steps p.tables e below (T207.setTop (mkF m 325 #[.val (.long q0), .second, .val (.long q1), .second, .val (.int p2), .val (.int p3), .val (.int p4), .val (.int (Int32.ofNat n)), .val (.int (Int32.ofNat a)), .val (.int (Int32.ofNat b)), .val (.ref b5), .val (.ref b7), .val (.ref b81), .val (.ref b87), .unset, .unset] [])) _
          refine XS.iconst X207.here hx rfl (hb hby at_325) ?_
          exact kt
        exact ⟨(T207, _, (0 : Int32)), ⟨X207, e207, N207, (by show (0 : Int32) = (if (own_ok (Int32.ofNat a) (Int32.ofNat b) (Int32.ofNat n) (0 : Int32) ia ib) = (0 : Int32) then (0 : Int32) else (if (own_ok (Int32.ofNat a) (Int32.ofNat b) (Int32.ofNat n) (1 : Int32) ia ib) = (0 : Int32) then (0 : Int32) else (if (own_ok (Int32.ofNat a) (Int32.ofNat b) (Int32.ofNat n) (2 : Int32) ia ib) = (0 : Int32) then (0 : Int32) else (if (own_ok (Int32.ofNat a) (Int32.ofNat b) (Int32.ofNat n) (3 : Int32) ia ib) = (0 : Int32) then (0 : Int32) else (if (own_ok (Int32.ofNat a) (Int32.ofNat b) (Int32.ofNat n) (4 : Int32) ia ib) = (0 : Int32) then (0 : Int32) else (1 : Int32)))))); rw [if_neg hc250, if_pos hc267])⟩, fun _ k => k⟩
      · skip
        refine own_goR (S' := T207.setTop (mkF m 281 #[.val (.long q0), .second, .val (.long q1), .second, .val (.int p2), .val (.int p3), .val (.int p4), .val (.int (Int32.ofNat n)), .val (.int (Int32.ofNat a)), .val (.int (Int32.ofNat b)), .val (.ref b5), .val (.ref b7), .val (.ref b81), .val (.ref b87), .unset, .unset] [(.int (2 : Int32)), (.int (Int32.ofNat n)), (.int (Int32.ofNat b)), (.ref b7), (.int (Int32.ofNat a)), (.ref b5)])) (fun target kt => ?_) ?_
        · skip
          show Steps p.tables e below (T207.setTop (mkF m 267 #[.val (.long q0), .second, .val (.long q1), .second, .val (.int p2), .val (.int p3), .val (.int p4), .val (.int (Int32.ofNat n)), .val (.int (Int32.ofNat a)), .val (.int (Int32.ofNat b)), .val (.ref b5), .val (.ref b7), .val (.ref b81), .val (.ref b87), .unset, .unset] [(.int (own_ok (Int32.ofNat a) (Int32.ofNat b) (Int32.ofNat n) (1 : Int32) ia ib))])) _
          refine XS.ifNo X207.here hx rfl (hb hby at_267) rfl ((if0 _ _).trans (feq hc267).1) ?_
          show Steps p.tables e below (T207.setTop (mkF m 270 #[.val (.long q0), .second, .val (.long q1), .second, .val (.int p2), .val (.int p3), .val (.int p4), .val (.int (Int32.ofNat n)), .val (.int (Int32.ofNat a)), .val (.int (Int32.ofNat b)), .val (.ref b5), .val (.ref b7), .val (.ref b81), .val (.ref b87), .unset, .unset] [])) _
          refine XS.aload X207.here hx rfl (hb hby at_270) rfl rfl ?_
          show Steps p.tables e below (T207.setTop (mkF m 272 #[.val (.long q0), .second, .val (.long q1), .second, .val (.int p2), .val (.int p3), .val (.int p4), .val (.int (Int32.ofNat n)), .val (.int (Int32.ofNat a)), .val (.int (Int32.ofNat b)), .val (.ref b5), .val (.ref b7), .val (.ref b81), .val (.ref b87), .unset, .unset] [(.ref b5)])) _
          refine XS.iload X207.here hx rfl (hb hby at_272) rfl ?_
          show Steps p.tables e below (T207.setTop (mkF m 274 #[.val (.long q0), .second, .val (.long q1), .second, .val (.int p2), .val (.int p3), .val (.int p4), .val (.int (Int32.ofNat n)), .val (.int (Int32.ofNat a)), .val (.int (Int32.ofNat b)), .val (.ref b5), .val (.ref b7), .val (.ref b81), .val (.ref b87), .unset, .unset] [(.int (Int32.ofNat a)), (.ref b5)])) _
          refine XS.aload X207.here hx rfl (hb hby at_274) rfl rfl ?_
          show Steps p.tables e below (T207.setTop (mkF m 276 #[.val (.long q0), .second, .val (.long q1), .second, .val (.int p2), .val (.int p3), .val (.int p4), .val (.int (Int32.ofNat n)), .val (.int (Int32.ofNat a)), .val (.int (Int32.ofNat b)), .val (.ref b5), .val (.ref b7), .val (.ref b81), .val (.ref b87), .unset, .unset] [(.ref b7), (.int (Int32.ofNat a)), (.ref b5)])) _
          refine XS.iload X207.here hx rfl (hb hby at_276) rfl ?_
          show Steps p.tables e below (T207.setTop (mkF m 278 #[.val (.long q0), .second, .val (.long q1), .second, .val (.int p2), .val (.int p3), .val (.int p4), .val (.int (Int32.ofNat n)), .val (.int (Int32.ofNat a)), .val (.int (Int32.ofNat b)), .val (.ref b5), .val (.ref b7), .val (.ref b81), .val (.ref b87), .unset, .unset] [(.int (Int32.ofNat b)), (.ref b7), (.int (Int32.ofNat a)), (.ref b5)])) _
          refine XS.iload X207.here hx rfl (hb hby at_278) rfl ?_
          show Steps p.tables e below (T207.setTop (mkF m 280 #[.val (.long q0), .second, .val (.long q1), .second, .val (.int p2), .val (.int p3), .val (.int p4), .val (.int (Int32.ofNat n)), .val (.int (Int32.ofNat a)), .val (.int (Int32.ofNat b)), .val (.ref b5), .val (.ref b7), .val (.ref b81), .val (.ref b87), .unset, .unset] [(.int (Int32.ofNat n)), (.int (Int32.ofNat b)), (.ref b7), (.int (Int32.ofNat a)), (.ref b5)])) _
          refine XS.iconst X207.here hx rfl (hb hby at_280) ?_
          exact kt
        obtain ⟨_, _, ⟨T208, L208, k208, n208⟩, -, X208, ⟨Lc208, hQ208, l208, y208, z208⟩, st208⟩ := Jvm.LawKit.callS X207 hx (y := (⟨"com/example/paretoforge/paretoforge/core/DominanceWeaklyDominatesPinLaw", "ok", "([II[IIII)Z"⟩ : MethodName)) hown (mvT hZ (hw _ (List.mem_of_getElem? (i := 8) rfl))) (mvT hZ (hw _ (List.mem_of_getElem? (i := 9) rfl))) (mvT hZ (hw _ (List.mem_of_getElem? (i := 4) rfl))) (mvT hZ (hw _ (List.mem_of_getElem? (i := 10) rfl))) (by decide) (backOf (W := 0) (rm2 l Z aZ hw [] b5 (Int32.ofNat a) b7 (Int32.ofNat b) (Int32.ofNat n) (2 : Int32) ia ib h196 n0 Z196 f200 f201 (own_okb (K := 2) hA hB rfl (by decide) : (2 : Int32) < (Int32.ofNat n) → own_in2 (Int32.ofNat a) (Int32.ofNat b) (2 : Int32))) hZ (hw _ (List.mem_of_getElem? (i := 10) rfl)) (hw _ (List.mem_of_getElem? (i := 4) rfl)) (by decide) (by decide)) (g := (mkF m 281 #[.val (.long q0), .second, .val (.long q1), .second, .val (.int p2), .val (.int p3), .val (.int p4), .val (.int (Int32.ofNat n)), .val (.int (Int32.ofNat a)), .val (.int (Int32.ofNat b)), .val (.ref b5), .val (.ref b7), .val (.ref b81), .val (.ref b87), .unset, .unset] [(.int (2 : Int32)), (.int (Int32.ofNat n)), (.int (Int32.ofNat b)), (.ref b7), (.int (Int32.ofNat a)), (.ref b5)])) rfl (by rw [hml]; rfl) (argsL := [(.ref b5), (.int (Int32.ofNat a)), (.ref b7), (.int (Int32.ofNat b)), (.int (Int32.ofNat n)), (.int (2 : Int32))]) (rest := []) (lenOf own_pd1 rfl) rfl (by show 2 * 0 + _ ≤ _; exact Nat.le_of_eq rfl) (hb hby at_281) (fun _ _ => ⟨rfl, e207, (by decide : 4 + 0 ≤ _), (by decide : 20 + 0 ≤ _)⟩)
        dsimp only [Pt.U, Pt.locs, Pt.cells, Pt.slots] at X208 l208 y208 z208 st208 hQ208
        obtain rfl : k208 = 4 := y208
        obtain rfl : n208 = 20 := z208
        obtain ⟨rfl, N208q, e208⟩ := hQ208
        have N208 : Fr n0 L208 := by rw [l208]; exact Fr.app N207 N208q
        clear l208
        refine own_goR (S' := T208.setTop (mkF m 284 #[.val (.long q0), .second, .val (.long q1), .second, .val (.int p2), .val (.int p3), .val (.int p4), .val (.int (Int32.ofNat n)), .val (.int (Int32.ofNat a)), .val (.int (Int32.ofNat b)), .val (.ref b5), .val (.ref b7), .val (.ref b81), .val (.ref b87), .unset, .unset] [(.int (own_ok (Int32.ofNat a) (Int32.ofNat b) (Int32.ofNat n) (2 : Int32) ia ib))])) st208 ?_
        by_cases hc284 : (own_ok (Int32.ofNat a) (Int32.ofNat b) (Int32.ofNat n) (2 : Int32) ia ib) = (0 : Int32)
        · skip
          refine own_goR (S' := T208.setTop (mkF m 326 #[.val (.long q0), .second, .val (.long q1), .second, .val (.int p2), .val (.int p3), .val (.int p4), .val (.int (Int32.ofNat n)), .val (.int (Int32.ofNat a)), .val (.int (Int32.ofNat b)), .val (.ref b5), .val (.ref b7), .val (.ref b81), .val (.ref b87), .unset, .unset] [(.int (0 : Int32))])) (fun target kt => ?_) ?_
          · skip
            show Steps p.tables e below (T208.setTop (mkF m 284 #[.val (.long q0), .second, .val (.long q1), .second, .val (.int p2), .val (.int p3), .val (.int p4), .val (.int (Int32.ofNat n)), .val (.int (Int32.ofNat a)), .val (.int (Int32.ofNat b)), .val (.ref b5), .val (.ref b7), .val (.ref b81), .val (.ref b87), .unset, .unset] [(.int (own_ok (Int32.ofNat a) (Int32.ofNat b) (Int32.ofNat n) (2 : Int32) ia ib))])) _
            refine XS.ifYes X208.here hx rfl (pc0 := 284) (pc' := 325) rfl (hb hby at_284) rfl ((if0 _ _).trans (teq hc284).1) (by decide) (by decide) ?_
            show Steps p.tables e below (T208.setTop (mkF m 325 #[.val (.long q0), .second, .val (.long q1), .second, .val (.int p2), .val (.int p3), .val (.int p4), .val (.int (Int32.ofNat n)), .val (.int (Int32.ofNat a)), .val (.int (Int32.ofNat b)), .val (.ref b5), .val (.ref b7), .val (.ref b81), .val (.ref b87), .unset, .unset] [])) _
            refine XS.iconst X208.here hx rfl (hb hby at_325) ?_
            exact kt
          exact ⟨(T208, _, (0 : Int32)), ⟨X208, e208, N208, (by show (0 : Int32) = (if (own_ok (Int32.ofNat a) (Int32.ofNat b) (Int32.ofNat n) (0 : Int32) ia ib) = (0 : Int32) then (0 : Int32) else (if (own_ok (Int32.ofNat a) (Int32.ofNat b) (Int32.ofNat n) (1 : Int32) ia ib) = (0 : Int32) then (0 : Int32) else (if (own_ok (Int32.ofNat a) (Int32.ofNat b) (Int32.ofNat n) (2 : Int32) ia ib) = (0 : Int32) then (0 : Int32) else (if (own_ok (Int32.ofNat a) (Int32.ofNat b) (Int32.ofNat n) (3 : Int32) ia ib) = (0 : Int32) then (0 : Int32) else (if (own_ok (Int32.ofNat a) (Int32.ofNat b) (Int32.ofNat n) (4 : Int32) ia ib) = (0 : Int32) then (0 : Int32) else (1 : Int32)))))); rw [if_neg hc250, if_neg hc267, if_pos hc284])⟩, fun _ k => k⟩
        · skip
          refine own_goR (S' := T208.setTop (mkF m 298 #[.val (.long q0), .second, .val (.long q1), .second, .val (.int p2), .val (.int p3), .val (.int p4), .val (.int (Int32.ofNat n)), .val (.int (Int32.ofNat a)), .val (.int (Int32.ofNat b)), .val (.ref b5), .val (.ref b7), .val (.ref b81), .val (.ref b87), .unset, .unset] [(.int (3 : Int32)), (.int (Int32.ofNat n)), (.int (Int32.ofNat b)), (.ref b7), (.int (Int32.ofNat a)), (.ref b5)])) (fun target kt => ?_) ?_
          · skip
            show Steps p.tables e below (T208.setTop (mkF m 284 #[.val (.long q0), .second, .val (.long q1), .second, .val (.int p2), .val (.int p3), .val (.int p4), .val (.int (Int32.ofNat n)), .val (.int (Int32.ofNat a)), .val (.int (Int32.ofNat b)), .val (.ref b5), .val (.ref b7), .val (.ref b81), .val (.ref b87), .unset, .unset] [(.int (own_ok (Int32.ofNat a) (Int32.ofNat b) (Int32.ofNat n) (2 : Int32) ia ib))])) _
            refine XS.ifNo X208.here hx rfl (hb hby at_284) rfl ((if0 _ _).trans (feq hc284).1) ?_
            show Steps p.tables e below (T208.setTop (mkF m 287 #[.val (.long q0), .second, .val (.long q1), .second, .val (.int p2), .val (.int p3), .val (.int p4), .val (.int (Int32.ofNat n)), .val (.int (Int32.ofNat a)), .val (.int (Int32.ofNat b)), .val (.ref b5), .val (.ref b7), .val (.ref b81), .val (.ref b87), .unset, .unset] [])) _
            refine XS.aload X208.here hx rfl (hb hby at_287) rfl rfl ?_
            show Steps p.tables e below (T208.setTop (mkF m 289 #[.val (.long q0), .second, .val (.long q1), .second, .val (.int p2), .val (.int p3), .val (.int p4), .val (.int (Int32.ofNat n)), .val (.int (Int32.ofNat a)), .val (.int (Int32.ofNat b)), .val (.ref b5), .val (.ref b7), .val (.ref b81), .val (.ref b87), .unset, .unset] [(.ref b5)])) _
            refine XS.iload X208.here hx rfl (hb hby at_289) rfl ?_
            show Steps p.tables e below (T208.setTop (mkF m 291 #[.val (.long q0), .second, .val (.long q1), .second, .val (.int p2), .val (.int p3), .val (.int p4), .val (.int (Int32.ofNat n)), .val (.int (Int32.ofNat a)), .val (.int (Int32.ofNat b)), .val (.ref b5), .val (.ref b7), .val (.ref b81), .val (.ref b87), .unset, .unset] [(.int (Int32.ofNat a)), (.ref b5)])) _
            refine XS.aload X208.here hx rfl (hb hby at_291) rfl rfl ?_
            show Steps p.tables e below (T208.setTop (mkF m 293 #[.val (.long q0), .second, .val (.long q1), .second, .val (.int p2), .val (.int p3), .val (.int p4), .val (.int (Int32.ofNat n)), .val (.int (Int32.ofNat a)), .val (.int (Int32.ofNat b)), .val (.ref b5), .val (.ref b7), .val (.ref b81), .val (.ref b87), .unset, .unset] [(.ref b7), (.int (Int32.ofNat a)), (.ref b5)])) _
            refine XS.iload X208.here hx rfl (hb hby at_293) rfl ?_
            show Steps p.tables e below (T208.setTop (mkF m 295 #[.val (.long q0), .second, .val (.long q1), .second, .val (.int p2), .val (.int p3), .val (.int p4), .val (.int (Int32.ofNat n)), .val (.int (Int32.ofNat a)), .val (.int (Int32.ofNat b)), .val (.ref b5), .val (.ref b7), .val (.ref b81), .val (.ref b87), .unset, .unset] [(.int (Int32.ofNat b)), (.ref b7), (.int (Int32.ofNat a)), (.ref b5)])) _
            refine XS.iload X208.here hx rfl (hb hby at_295) rfl ?_
            show Steps p.tables e below (T208.setTop (mkF m 297 #[.val (.long q0), .second, .val (.long q1), .second, .val (.int p2), .val (.int p3), .val (.int p4), .val (.int (Int32.ofNat n)), .val (.int (Int32.ofNat a)), .val (.int (Int32.ofNat b)), .val (.ref b5), .val (.ref b7), .val (.ref b81), .val (.ref b87), .unset, .unset] [(.int (Int32.ofNat n)), (.int (Int32.ofNat b)), (.ref b7), (.int (Int32.ofNat a)), (.ref b5)])) _
            refine XS.iconst X208.here hx rfl (hb hby at_297) ?_
            exact kt
          obtain ⟨_, _, ⟨T209, L209, k209, n209⟩, -, X209, ⟨Lc209, hQ209, l209, y209, z209⟩, st209⟩ := Jvm.LawKit.callS X208 hx (y := (⟨"com/example/paretoforge/paretoforge/core/DominanceWeaklyDominatesPinLaw", "ok", "([II[IIII)Z"⟩ : MethodName)) hown (mvT hZ (hw _ (List.mem_of_getElem? (i := 8) rfl))) (mvT hZ (hw _ (List.mem_of_getElem? (i := 9) rfl))) (mvT hZ (hw _ (List.mem_of_getElem? (i := 4) rfl))) (mvT hZ (hw _ (List.mem_of_getElem? (i := 10) rfl))) (by decide) (backOf (W := 0) (rm2 l Z aZ hw [] b5 (Int32.ofNat a) b7 (Int32.ofNat b) (Int32.ofNat n) (3 : Int32) ia ib h196 n0 Z196 f200 f201 (own_okb (K := 3) hA hB rfl (by decide) : (3 : Int32) < (Int32.ofNat n) → own_in2 (Int32.ofNat a) (Int32.ofNat b) (3 : Int32))) hZ (hw _ (List.mem_of_getElem? (i := 10) rfl)) (hw _ (List.mem_of_getElem? (i := 4) rfl)) (by decide) (by decide)) (g := (mkF m 298 #[.val (.long q0), .second, .val (.long q1), .second, .val (.int p2), .val (.int p3), .val (.int p4), .val (.int (Int32.ofNat n)), .val (.int (Int32.ofNat a)), .val (.int (Int32.ofNat b)), .val (.ref b5), .val (.ref b7), .val (.ref b81), .val (.ref b87), .unset, .unset] [(.int (3 : Int32)), (.int (Int32.ofNat n)), (.int (Int32.ofNat b)), (.ref b7), (.int (Int32.ofNat a)), (.ref b5)])) rfl (by rw [hml]; rfl) (argsL := [(.ref b5), (.int (Int32.ofNat a)), (.ref b7), (.int (Int32.ofNat b)), (.int (Int32.ofNat n)), (.int (3 : Int32))]) (rest := []) (lenOf own_pd1 rfl) rfl (by show 2 * 0 + _ ≤ _; exact Nat.le_of_eq rfl) (hb hby at_298) (fun _ _ => ⟨rfl, e208, (by decide : 4 + 0 ≤ _), (by decide : 20 + 0 ≤ _)⟩)
          dsimp only [Pt.U, Pt.locs, Pt.cells, Pt.slots] at X209 l209 y209 z209 st209 hQ209
          obtain rfl : k209 = 4 := y209
          obtain rfl : n209 = 20 := z209
          obtain ⟨rfl, N209q, e209⟩ := hQ209
          have N209 : Fr n0 L209 := by rw [l209]; exact Fr.app N208 N209q
          clear l209
          refine own_goR (S' := T209.setTop (mkF m 301 #[.val (.long q0), .second, .val (.long q1), .second, .val (.int p2), .val (.int p3), .val (.int p4), .val (.int (Int32.ofNat n)), .val (.int (Int32.ofNat a)), .val (.int (Int32.ofNat b)), .val (.ref b5), .val (.ref b7), .val (.ref b81), .val (.ref b87), .unset, .unset] [(.int (own_ok (Int32.ofNat a) (Int32.ofNat b) (Int32.ofNat n) (3 : Int32) ia ib))])) st209 ?_
          by_cases hc301 : (own_ok (Int32.ofNat a) (Int32.ofNat b) (Int32.ofNat n) (3 : Int32) ia ib) = (0 : Int32)
          · skip
            refine own_goR (S' := T209.setTop (mkF m 326 #[.val (.long q0), .second, .val (.long q1), .second, .val (.int p2), .val (.int p3), .val (.int p4), .val (.int (Int32.ofNat n)), .val (.int (Int32.ofNat a)), .val (.int (Int32.ofNat b)), .val (.ref b5), .val (.ref b7), .val (.ref b81), .val (.ref b87), .unset, .unset] [(.int (0 : Int32))])) (fun target kt => ?_) ?_
            · skip
              show Steps p.tables e below (T209.setTop (mkF m 301 #[.val (.long q0), .second, .val (.long q1), .second, .val (.int p2), .val (.int p3), .val (.int p4), .val (.int (Int32.ofNat n)), .val (.int (Int32.ofNat a)), .val (.int (Int32.ofNat b)), .val (.ref b5), .val (.ref b7), .val (.ref b81), .val (.ref b87), .unset, .unset] [(.int (own_ok (Int32.ofNat a) (Int32.ofNat b) (Int32.ofNat n) (3 : Int32) ia ib))])) _
              refine XS.ifYes X209.here hx rfl (pc0 := 301) (pc' := 325) rfl (hb hby at_301) rfl ((if0 _ _).trans (teq hc301).1) (by decide) (by decide) ?_
              show Steps p.tables e below (T209.setTop (mkF m 325 #[.val (.long q0), .second, .val (.long q1), .second, .val (.int p2), .val (.int p3), .val (.int p4), .val (.int (Int32.ofNat n)), .val (.int (Int32.ofNat a)), .val (.int (Int32.ofNat b)), .val (.ref b5), .val (.ref b7), .val (.ref b81), .val (.ref b87), .unset, .unset] [])) _
              refine XS.iconst X209.here hx rfl (hb hby at_325) ?_
              exact kt
            exact ⟨(T209, _, (0 : Int32)), ⟨X209, e209, N209, (by show (0 : Int32) = (if (own_ok (Int32.ofNat a) (Int32.ofNat b) (Int32.ofNat n) (0 : Int32) ia ib) = (0 : Int32) then (0 : Int32) else (if (own_ok (Int32.ofNat a) (Int32.ofNat b) (Int32.ofNat n) (1 : Int32) ia ib) = (0 : Int32) then (0 : Int32) else (if (own_ok (Int32.ofNat a) (Int32.ofNat b) (Int32.ofNat n) (2 : Int32) ia ib) = (0 : Int32) then (0 : Int32) else (if (own_ok (Int32.ofNat a) (Int32.ofNat b) (Int32.ofNat n) (3 : Int32) ia ib) = (0 : Int32) then (0 : Int32) else (if (own_ok (Int32.ofNat a) (Int32.ofNat b) (Int32.ofNat n) (4 : Int32) ia ib) = (0 : Int32) then (0 : Int32) else (1 : Int32)))))); rw [if_neg hc250, if_neg hc267, if_neg hc284, if_pos hc301])⟩, fun _ k => k⟩
          · skip
            refine own_goR (S' := T209.setTop (mkF m 315 #[.val (.long q0), .second, .val (.long q1), .second, .val (.int p2), .val (.int p3), .val (.int p4), .val (.int (Int32.ofNat n)), .val (.int (Int32.ofNat a)), .val (.int (Int32.ofNat b)), .val (.ref b5), .val (.ref b7), .val (.ref b81), .val (.ref b87), .unset, .unset] [(.int (4 : Int32)), (.int (Int32.ofNat n)), (.int (Int32.ofNat b)), (.ref b7), (.int (Int32.ofNat a)), (.ref b5)])) (fun target kt => ?_) ?_
            · skip
              show Steps p.tables e below (T209.setTop (mkF m 301 #[.val (.long q0), .second, .val (.long q1), .second, .val (.int p2), .val (.int p3), .val (.int p4), .val (.int (Int32.ofNat n)), .val (.int (Int32.ofNat a)), .val (.int (Int32.ofNat b)), .val (.ref b5), .val (.ref b7), .val (.ref b81), .val (.ref b87), .unset, .unset] [(.int (own_ok (Int32.ofNat a) (Int32.ofNat b) (Int32.ofNat n) (3 : Int32) ia ib))])) _
              refine XS.ifNo X209.here hx rfl (hb hby at_301) rfl ((if0 _ _).trans (feq hc301).1) ?_
              show Steps p.tables e below (T209.setTop (mkF m 304 #[.val (.long q0), .second, .val (.long q1), .second, .val (.int p2), .val (.int p3), .val (.int p4), .val (.int (Int32.ofNat n)), .val (.int (Int32.ofNat a)), .val (.int (Int32.ofNat b)), .val (.ref b5), .val (.ref b7), .val (.ref b81), .val (.ref b87), .unset, .unset] [])) _
              refine XS.aload X209.here hx rfl (hb hby at_304) rfl rfl ?_
              show Steps p.tables e below (T209.setTop (mkF m 306 #[.val (.long q0), .second, .val (.long q1), .second, .val (.int p2), .val (.int p3), .val (.int p4), .val (.int (Int32.ofNat n)), .val (.int (Int32.ofNat a)), .val (.int (Int32.ofNat b)), .val (.ref b5), .val (.ref b7), .val (.ref b81), .val (.ref b87), .unset, .unset] [(.ref b5)])) _
              refine XS.iload X209.here hx rfl (hb hby at_306) rfl ?_
              show Steps p.tables e below (T209.setTop (mkF m 308 #[.val (.long q0), .second, .val (.long q1), .second, .val (.int p2), .val (.int p3), .val (.int p4), .val (.int (Int32.ofNat n)), .val (.int (Int32.ofNat a)), .val (.int (Int32.ofNat b)), .val (.ref b5), .val (.ref b7), .val (.ref b81), .val (.ref b87), .unset, .unset] [(.int (Int32.ofNat a)), (.ref b5)])) _
              refine XS.aload X209.here hx rfl (hb hby at_308) rfl rfl ?_
              show Steps p.tables e below (T209.setTop (mkF m 310 #[.val (.long q0), .second, .val (.long q1), .second, .val (.int p2), .val (.int p3), .val (.int p4), .val (.int (Int32.ofNat n)), .val (.int (Int32.ofNat a)), .val (.int (Int32.ofNat b)), .val (.ref b5), .val (.ref b7), .val (.ref b81), .val (.ref b87), .unset, .unset] [(.ref b7), (.int (Int32.ofNat a)), (.ref b5)])) _
              refine XS.iload X209.here hx rfl (hb hby at_310) rfl ?_
              show Steps p.tables e below (T209.setTop (mkF m 312 #[.val (.long q0), .second, .val (.long q1), .second, .val (.int p2), .val (.int p3), .val (.int p4), .val (.int (Int32.ofNat n)), .val (.int (Int32.ofNat a)), .val (.int (Int32.ofNat b)), .val (.ref b5), .val (.ref b7), .val (.ref b81), .val (.ref b87), .unset, .unset] [(.int (Int32.ofNat b)), (.ref b7), (.int (Int32.ofNat a)), (.ref b5)])) _
              refine XS.iload X209.here hx rfl (hb hby at_312) rfl ?_
              show Steps p.tables e below (T209.setTop (mkF m 314 #[.val (.long q0), .second, .val (.long q1), .second, .val (.int p2), .val (.int p3), .val (.int p4), .val (.int (Int32.ofNat n)), .val (.int (Int32.ofNat a)), .val (.int (Int32.ofNat b)), .val (.ref b5), .val (.ref b7), .val (.ref b81), .val (.ref b87), .unset, .unset] [(.int (Int32.ofNat n)), (.int (Int32.ofNat b)), (.ref b7), (.int (Int32.ofNat a)), (.ref b5)])) _
              refine XS.iconst X209.here hx rfl (hb hby at_314) ?_
              exact kt
            obtain ⟨_, _, ⟨T210, L210, k210, n210⟩, -, X210, ⟨Lc210, hQ210, l210, y210, z210⟩, st210⟩ := Jvm.LawKit.callS X209 hx (y := (⟨"com/example/paretoforge/paretoforge/core/DominanceWeaklyDominatesPinLaw", "ok", "([II[IIII)Z"⟩ : MethodName)) hown (mvT hZ (hw _ (List.mem_of_getElem? (i := 8) rfl))) (mvT hZ (hw _ (List.mem_of_getElem? (i := 9) rfl))) (mvT hZ (hw _ (List.mem_of_getElem? (i := 4) rfl))) (mvT hZ (hw _ (List.mem_of_getElem? (i := 10) rfl))) (by decide) (backOf (W := 0) (rm2 l Z aZ hw [] b5 (Int32.ofNat a) b7 (Int32.ofNat b) (Int32.ofNat n) (4 : Int32) ia ib h196 n0 Z196 f200 f201 (own_okb (K := 4) hA hB rfl (by decide) : (4 : Int32) < (Int32.ofNat n) → own_in2 (Int32.ofNat a) (Int32.ofNat b) (4 : Int32))) hZ (hw _ (List.mem_of_getElem? (i := 10) rfl)) (hw _ (List.mem_of_getElem? (i := 4) rfl)) (by decide) (by decide)) (g := (mkF m 315 #[.val (.long q0), .second, .val (.long q1), .second, .val (.int p2), .val (.int p3), .val (.int p4), .val (.int (Int32.ofNat n)), .val (.int (Int32.ofNat a)), .val (.int (Int32.ofNat b)), .val (.ref b5), .val (.ref b7), .val (.ref b81), .val (.ref b87), .unset, .unset] [(.int (4 : Int32)), (.int (Int32.ofNat n)), (.int (Int32.ofNat b)), (.ref b7), (.int (Int32.ofNat a)), (.ref b5)])) rfl (by rw [hml]; rfl) (argsL := [(.ref b5), (.int (Int32.ofNat a)), (.ref b7), (.int (Int32.ofNat b)), (.int (Int32.ofNat n)), (.int (4 : Int32))]) (rest := []) (lenOf own_pd1 rfl) rfl (by show 2 * 0 + _ ≤ _; exact Nat.le_of_eq rfl) (hb hby at_315) (fun _ _ => ⟨rfl, e209, (by decide : 4 + 0 ≤ _), (by decide : 20 + 0 ≤ _)⟩)
            dsimp only [Pt.U, Pt.locs, Pt.cells, Pt.slots] at X210 l210 y210 z210 st210 hQ210
            obtain rfl : k210 = 4 := y210
            obtain rfl : n210 = 20 := z210
            obtain ⟨rfl, N210q, e210⟩ := hQ210
            have N210 : Fr n0 L210 := by rw [l210]; exact Fr.app N209 N210q
            clear l210
            refine own_goR (S' := T210.setTop (mkF m 318 #[.val (.long q0), .second, .val (.long q1), .second, .val (.int p2), .val (.int p3), .val (.int p4), .val (.int (Int32.ofNat n)), .val (.int (Int32.ofNat a)), .val (.int (Int32.ofNat b)), .val (.ref b5), .val (.ref b7), .val (.ref b81), .val (.ref b87), .unset, .unset] [(.int (own_ok (Int32.ofNat a) (Int32.ofNat b) (Int32.ofNat n) (4 : Int32) ia ib))])) st210 ?_
            by_cases hc318 : (own_ok (Int32.ofNat a) (Int32.ofNat b) (Int32.ofNat n) (4 : Int32) ia ib) = (0 : Int32)
            · skip
              refine own_goR (S' := T210.setTop (mkF m 326 #[.val (.long q0), .second, .val (.long q1), .second, .val (.int p2), .val (.int p3), .val (.int p4), .val (.int (Int32.ofNat n)), .val (.int (Int32.ofNat a)), .val (.int (Int32.ofNat b)), .val (.ref b5), .val (.ref b7), .val (.ref b81), .val (.ref b87), .unset, .unset] [(.int (0 : Int32))])) (fun target kt => ?_) ?_
              · skip
                show Steps p.tables e below (T210.setTop (mkF m 318 #[.val (.long q0), .second, .val (.long q1), .second, .val (.int p2), .val (.int p3), .val (.int p4), .val (.int (Int32.ofNat n)), .val (.int (Int32.ofNat a)), .val (.int (Int32.ofNat b)), .val (.ref b5), .val (.ref b7), .val (.ref b81), .val (.ref b87), .unset, .unset] [(.int (own_ok (Int32.ofNat a) (Int32.ofNat b) (Int32.ofNat n) (4 : Int32) ia ib))])) _
                refine XS.ifYes X210.here hx rfl (pc0 := 318) (pc' := 325) rfl (hb hby at_318) rfl ((if0 _ _).trans (teq hc318).1) (by decide) (by decide) ?_
                show Steps p.tables e below (T210.setTop (mkF m 325 #[.val (.long q0), .second, .val (.long q1), .second, .val (.int p2), .val (.int p3), .val (.int p4), .val (.int (Int32.ofNat n)), .val (.int (Int32.ofNat a)), .val (.int (Int32.ofNat b)), .val (.ref b5), .val (.ref b7), .val (.ref b81), .val (.ref b87), .unset, .unset] [])) _
                refine XS.iconst X210.here hx rfl (hb hby at_325) ?_
                exact kt
              exact ⟨(T210, _, (0 : Int32)), ⟨X210, e210, N210, (by show (0 : Int32) = (if (own_ok (Int32.ofNat a) (Int32.ofNat b) (Int32.ofNat n) (0 : Int32) ia ib) = (0 : Int32) then (0 : Int32) else (if (own_ok (Int32.ofNat a) (Int32.ofNat b) (Int32.ofNat n) (1 : Int32) ia ib) = (0 : Int32) then (0 : Int32) else (if (own_ok (Int32.ofNat a) (Int32.ofNat b) (Int32.ofNat n) (2 : Int32) ia ib) = (0 : Int32) then (0 : Int32) else (if (own_ok (Int32.ofNat a) (Int32.ofNat b) (Int32.ofNat n) (3 : Int32) ia ib) = (0 : Int32) then (0 : Int32) else (if (own_ok (Int32.ofNat a) (Int32.ofNat b) (Int32.ofNat n) (4 : Int32) ia ib) = (0 : Int32) then (0 : Int32) else (1 : Int32)))))); rw [if_neg hc250, if_neg hc267, if_neg hc284, if_neg hc301, if_pos hc318])⟩, fun _ k => k⟩
            · skip
              refine own_goR (S' := T210.setTop (mkF m 326 #[.val (.long q0), .second, .val (.long q1), .second, .val (.int p2), .val (.int p3), .val (.int p4), .val (.int (Int32.ofNat n)), .val (.int (Int32.ofNat a)), .val (.int (Int32.ofNat b)), .val (.ref b5), .val (.ref b7), .val (.ref b81), .val (.ref b87), .unset, .unset] [(.int (1 : Int32))])) (fun target kt => ?_) ?_
              · skip
                show Steps p.tables e below (T210.setTop (mkF m 318 #[.val (.long q0), .second, .val (.long q1), .second, .val (.int p2), .val (.int p3), .val (.int p4), .val (.int (Int32.ofNat n)), .val (.int (Int32.ofNat a)), .val (.int (Int32.ofNat b)), .val (.ref b5), .val (.ref b7), .val (.ref b81), .val (.ref b87), .unset, .unset] [(.int (own_ok (Int32.ofNat a) (Int32.ofNat b) (Int32.ofNat n) (4 : Int32) ia ib))])) _
                refine XS.ifNo X210.here hx rfl (hb hby at_318) rfl ((if0 _ _).trans (feq hc318).1) ?_
                show Steps p.tables e below (T210.setTop (mkF m 321 #[.val (.long q0), .second, .val (.long q1), .second, .val (.int p2), .val (.int p3), .val (.int p4), .val (.int (Int32.ofNat n)), .val (.int (Int32.ofNat a)), .val (.int (Int32.ofNat b)), .val (.ref b5), .val (.ref b7), .val (.ref b81), .val (.ref b87), .unset, .unset] [])) _
                refine XS.iconst X210.here hx rfl (hb hby at_321) ?_
                show Steps p.tables e below (T210.setTop (mkF m 322 #[.val (.long q0), .second, .val (.long q1), .second, .val (.int p2), .val (.int p3), .val (.int p4), .val (.int (Int32.ofNat n)), .val (.int (Int32.ofNat a)), .val (.int (Int32.ofNat b)), .val (.ref b5), .val (.ref b7), .val (.ref b81), .val (.ref b87), .unset, .unset] [(.int (1 : Int32))])) _
                refine XS.goto X210.here hx rfl (pc0 := 322) (pc' := 326) rfl (hb hby at_322) (by decide) (by decide) ?_
                exact kt
              exact ⟨(T210, _, (1 : Int32)), ⟨X210, e210, N210, (by show (1 : Int32) = (if (own_ok (Int32.ofNat a) (Int32.ofNat b) (Int32.ofNat n) (0 : Int32) ia ib) = (0 : Int32) then (0 : Int32) else (if (own_ok (Int32.ofNat a) (Int32.ofNat b) (Int32.ofNat n) (1 : Int32) ia ib) = (0 : Int32) then (0 : Int32) else (if (own_ok (Int32.ofNat a) (Int32.ofNat b) (Int32.ofNat n) (2 : Int32) ia ib) = (0 : Int32) then (0 : Int32) else (if (own_ok (Int32.ofNat a) (Int32.ofNat b) (Int32.ofNat n) (3 : Int32) ia ib) = (0 : Int32) then (0 : Int32) else (if (own_ok (Int32.ofNat a) (Int32.ofNat b) (Int32.ofNat n) (4 : Int32) ia ib) = (0 : Int32) then (0 : Int32) else (1 : Int32)))))); rw [if_neg hc250, if_neg hc267, if_neg hc284, if_neg hc301, if_neg hc318])⟩, fun _ k => k⟩
  dsimp only at X206 e206 N206 h_ex st206
  refine own_go (S' := T206.setTop (mkF m 326 #[.val (.long q0), .second, .val (.long q1), .second, .val (.int p2), .val (.int p3), .val (.int p4), .val (.int (Int32.ofNat n)), .val (.int (Int32.ofNat a)), .val (.int (Int32.ofNat b)), .val (.ref b5), .val (.ref b7), .val (.ref b81), .val (.ref b87), .unset, .unset] [(.int ex)])) st206 ?_
  refine own_go (S' := T206.setTop (mkF m 338 #[.val (.long q0), .second, .val (.long q1), .second, .val (.int p2), .val (.int p3), .val (.int p4), .val (.int (Int32.ofNat n)), .val (.int (Int32.ofNat a)), .val (.int (Int32.ofNat b)), .val (.ref b5), .val (.ref b7), .val (.ref b81), .val (.ref b87), .val (.int ex), .unset] [(.int (Int32.ofNat n)), (.int (Int32.ofNat b)), (.ref b87), (.int (Int32.ofNat a)), (.ref b81)])) (fun target kt => ?_) ?_
  · skip
    show Steps p.tables e below (T206.setTop (mkF m 326 #[.val (.long q0), .second, .val (.long q1), .second, .val (.int p2), .val (.int p3), .val (.int p4), .val (.int (Int32.ofNat n)), .val (.int (Int32.ofNat a)), .val (.int (Int32.ofNat b)), .val (.ref b5), .val (.ref b7), .val (.ref b81), .val (.ref b87), .unset, .unset] [(.int ex)])) _
    refine XS.istore X206.here hx rfl (hb hby at_326) rfl (l' := #[.val (.long q0), .second, .val (.long q1), .second, .val (.int p2), .val (.int p3), .val (.int p4), .val (.int (Int32.ofNat n)), .val (.int (Int32.ofNat a)), .val (.int (Int32.ofNat b)), .val (.ref b5), .val (.ref b7), .val (.ref b81), .val (.ref b87), .val (.int ex), .unset]) rfl ?_
    show Steps p.tables e below (T206.setTop (mkF m 328 #[.val (.long q0), .second, .val (.long q1), .second, .val (.int p2), .val (.int p3), .val (.int p4), .val (.int (Int32.ofNat n)), .val (.int (Int32.ofNat a)), .val (.int (Int32.ofNat b)), .val (.ref b5), .val (.ref b7), .val (.ref b81), .val (.ref b87), .val (.int ex), .unset] [])) _
    refine XS.aload X206.here hx rfl (hb hby at_328) rfl rfl ?_
    show Steps p.tables e below (T206.setTop (mkF m 330 #[.val (.long q0), .second, .val (.long q1), .second, .val (.int p2), .val (.int p3), .val (.int p4), .val (.int (Int32.ofNat n)), .val (.int (Int32.ofNat a)), .val (.int (Int32.ofNat b)), .val (.ref b5), .val (.ref b7), .val (.ref b81), .val (.ref b87), .val (.int ex), .unset] [(.ref b81)])) _
    refine XS.iload X206.here hx rfl (hb hby at_330) rfl ?_
    show Steps p.tables e below (T206.setTop (mkF m 332 #[.val (.long q0), .second, .val (.long q1), .second, .val (.int p2), .val (.int p3), .val (.int p4), .val (.int (Int32.ofNat n)), .val (.int (Int32.ofNat a)), .val (.int (Int32.ofNat b)), .val (.ref b5), .val (.ref b7), .val (.ref b81), .val (.ref b87), .val (.int ex), .unset] [(.int (Int32.ofNat a)), (.ref b81)])) _
    refine XS.aload X206.here hx rfl (hb hby at_332) rfl rfl ?_
    show Steps p.tables e below (T206.setTop (mkF m 334 #[.val (.long q0), .second, .val (.long q1), .second, .val (.int p2), .val (.int p3), .val (.int p4), .val (.int (Int32.ofNat n)), .val (.int (Int32.ofNat a)), .val (.int (Int32.ofNat b)), .val (.ref b5), .val (.ref b7), .val (.ref b81), .val (.ref b87), .val (.int ex), .unset] [(.ref b87), (.int (Int32.ofNat a)), (.ref b81)])) _
    refine XS.iload X206.here hx rfl (hb hby at_334) rfl ?_
    show Steps p.tables e below (T206.setTop (mkF m 336 #[.val (.long q0), .second, .val (.long q1), .second, .val (.int p2), .val (.int p3), .val (.int p4), .val (.int (Int32.ofNat n)), .val (.int (Int32.ofNat a)), .val (.int (Int32.ofNat b)), .val (.ref b5), .val (.ref b7), .val (.ref b81), .val (.ref b87), .val (.int ex), .unset] [(.int (Int32.ofNat b)), (.ref b87), (.int (Int32.ofNat a)), (.ref b81)])) _
    refine XS.iload X206.here hx rfl (hb hby at_336) rfl ?_
    exact kt
  obtain ⟨_, _, ⟨T211, L211, k211, n211⟩, -, X211, ⟨Lc211, hQ211, l211, y211, z211⟩, st211⟩ := Jvm.LawKit.callS X206 hx (y := (⟨"com/example/paretoforge/paretoforge/core/Dominance", "weaklyDominates", "([DI[DII)Z"⟩ : MethodName)) hown (mvT hZ (hw _ (List.mem_of_getElem? (i := 11) rfl))) (mvT hZ (hw _ (List.mem_of_getElem? (i := 12) rfl))) (mvT hZ (hw _ (List.mem_of_getElem? (i := 13) rfl))) (mvT hZ (hw _ (List.mem_of_getElem? (i := 14) rfl))) (by decide) (backOf (W := 0) (rm3 l Z aZ hw [] b81 b87 a b n da db ia ib h196 n0 Z196 f204 f197 (hA : a + n ≤ 5) (hB : b + n ≤ 5) (own_exok (a := a) (b := b) (n := n) (H := ib) h_da : ∀ j, j < 5 → da j = FP.i2d (ia j)) (own_exok (a := a) (b := b) (n := n) (H := ia) h_db : ∀ j, j < 5 → db j = FP.i2d (ib j))) hZ (hw _ (List.mem_of_getElem? (i := 14) rfl)) (hw _ (List.mem_of_getElem? (i := 13) rfl)) (by decide) (by decide)) (g := (mkF m 338 #[.val (.long q0), .second, .val (.long q1), .second, .val (.int p2), .val (.int p3), .val (.int p4), .val (.int (Int32.ofNat n)), .val (.int (Int32.ofNat a)), .val (.int (Int32.ofNat b)), .val (.ref b5), .val (.ref b7), .val (.ref b81), .val (.ref b87), .val (.int ex), .unset] [(.int (Int32.ofNat n)), (.int (Int32.ofNat b)), (.ref b87), (.int (Int32.ofNat a)), (.ref b81)])) rfl (by rw [hml]; rfl) (argsL := [(.ref b81), (.int (Int32.ofNat a)), (.ref b87), (.int (Int32.ofNat b)), (.int (Int32.ofNat n))]) (rest := []) (lenOf own_pd2 rfl) rfl (by show 2 * 0 + _ ≤ _; exact Nat.le_of_eq rfl) (hb hby at_338) (fun _ _ => ⟨rfl, e206, (by decide : 4 + 0 ≤ _), (by decide : 20 + 0 ≤ _)⟩)
  dsimp only [Pt.U, Pt.locs, Pt.cells, Pt.slots] at X211 l211 y211 z211 st211 hQ211
  obtain rfl : k211 = 4 := y211
  obtain rfl : n211 = 20 := z211
  obtain ⟨rfl, N211q, e211⟩ := hQ211
  have N211 : Fr n0 L211 := by rw [l211]; exact Fr.app N206 N211q
  clear l211
  refine own_go (S' := T211.setTop (mkF m 341 #[.val (.long q0), .second, .val (.long q1), .second, .val (.int p2), .val (.int p3), .val (.int p4), .val (.int (Int32.ofNat n)), .val (.int (Int32.ofNat a)), .val (.int (Int32.ofNat b)), .val (.ref b5), .val (.ref b7), .val (.ref b81), .val (.ref b87), .val (.int ex), .unset] [(.int (own_wd ia ib a b n 0))])) st211 ?_
  refine own_go (S' := T211.setTop (mkF m 355 #[.val (.long q0), .second, .val (.long q1), .second, .val (.int p2), .val (.int p3), .val (.int p4), .val (.int (Int32.ofNat n)), .val (.int (Int32.ofNat a)), .val (.int (Int32.ofNat b)), .val (.ref b5), .val (.ref b7), .val (.ref b81), .val (.ref b87), .val (.int ex), .val (.int (own_wd ia ib a b n 0))] [(.int (1 : Int32))])) (fun target kt => ?_) ?_
  · skip
    show Steps p.tables e below (T211.setTop (mkF m 341 #[.val (.long q0), .second, .val (.long q1), .second, .val (.int p2), .val (.int p3), .val (.int p4), .val (.int (Int32.ofNat n)), .val (.int (Int32.ofNat a)), .val (.int (Int32.ofNat b)), .val (.ref b5), .val (.ref b7), .val (.ref b81), .val (.ref b87), .val (.int ex), .unset] [(.int (own_wd ia ib a b n 0))])) _
    refine XS.istore X211.here hx rfl (hb hby at_341) rfl (l' := #[.val (.long q0), .second, .val (.long q1), .second, .val (.int p2), .val (.int p3), .val (.int p4), .val (.int (Int32.ofNat n)), .val (.int (Int32.ofNat a)), .val (.int (Int32.ofNat b)), .val (.ref b5), .val (.ref b7), .val (.ref b81), .val (.ref b87), .val (.int ex), .val (.int (own_wd ia ib a b n 0))]) rfl ?_
    show Steps p.tables e below (T211.setTop (mkF m 343 #[.val (.long q0), .second, .val (.long q1), .second, .val (.int p2), .val (.int p3), .val (.int p4), .val (.int (Int32.ofNat n)), .val (.int (Int32.ofNat a)), .val (.int (Int32.ofNat b)), .val (.ref b5), .val (.ref b7), .val (.ref b81), .val (.ref b87), .val (.int ex), .val (.int (own_wd ia ib a b n 0))] [])) _
    refine XS.iload X211.here hx rfl (hb hby at_343) rfl ?_
    show Steps p.tables e below (T211.setTop (mkF m 345 #[.val (.long q0), .second, .val (.long q1), .second, .val (.int p2), .val (.int p3), .val (.int p4), .val (.int (Int32.ofNat n)), .val (.int (Int32.ofNat a)), .val (.int (Int32.ofNat b)), .val (.ref b5), .val (.ref b7), .val (.ref b81), .val (.ref b87), .val (.int ex), .val (.int (own_wd ia ib a b n 0))] [(.int ex)])) _
    refine XS.iload X211.here hx rfl (hb hby at_345) rfl ?_
    show Steps p.tables e below (T211.setTop (mkF m 347 #[.val (.long q0), .second, .val (.long q1), .second, .val (.int p2), .val (.int p3), .val (.int p4), .val (.int (Int32.ofNat n)), .val (.int (Int32.ofNat a)), .val (.int (Int32.ofNat b)), .val (.ref b5), .val (.ref b7), .val (.ref b81), .val (.ref b87), .val (.int ex), .val (.int (own_wd ia ib a b n 0))] [(.int (own_wd ia ib a b n 0)), (.int ex)])) _
    refine XS.icmpNo X211.here hx rfl (hb hby at_347) rfl (teq (own_fin hA hB h_ex : ex = (own_wd ia ib a b n 0))).2 ?_
    show Steps p.tables e below (T211.setTop (mkF m 350 #[.val (.long q0), .second, .val (.long q1), .second, .val (.int p2), .val (.int p3), .val (.int p4), .val (.int (Int32.ofNat n)), .val (.int (Int32.ofNat a)), .val (.int (Int32.ofNat b)), .val (.ref b5), .val (.ref b7), .val (.ref b81), .val (.ref b87), .val (.int ex), .val (.int (own_wd ia ib a b n 0))] [])) _
    refine XS.iconst X211.here hx rfl (hb hby at_350) ?_
    show Steps p.tables e below (T211.setTop (mkF m 351 #[.val (.long q0), .second, .val (.long q1), .second, .val (.int p2), .val (.int p3), .val (.int p4), .val (.int (Int32.ofNat n)), .val (.int (Int32.ofNat a)), .val (.int (Int32.ofNat b)), .val (.ref b5), .val (.ref b7), .val (.ref b81), .val (.ref b87), .val (.int ex), .val (.int (own_wd ia ib a b n 0))] [(.int (1 : Int32))])) _
    refine XS.goto X211.here hx rfl (pc0 := 351) (pc' := 355) rfl (hb hby at_351) (by decide) (by decide) ?_
    exact kt
  obtain ⟨fs, hr, hrun, hended, hW, hsame⟩ := X211.leave (v := some (.int (1 : Int32))) (fun h => by rw [Bd.returns] at h; cases h)
  refine ⟨_, _, ?_, hrun, hended, _, _, rfl, ?_, ⟨_, rfl⟩, hW, hsame.mono (by decide) (by decide)⟩
  · exact retN X211 hx (t := .boolean) Bd.returns (by simp) (hb hby at_355) hr
  · show Q0 Z q0 q1 p2 p3 p4 h0 n0 _ T211.heap _
    rw [e211]
    exact ⟨rfl, N211⟩
set_option maxRecDepth 65536 in
set_option maxHeartbeats 40000000 in
theorem comes_1 {Post : Tables → Env → Array Value → State → Outcome → State → Prop} (hpost : ∀ tb e args s v u, (limb_1_1.after args s (.returned v) u = true ∧ limb_1_2.after args s (.returned v) u = true) → FrameEnd s (.returned v) u (Jvm.fieldLocs frame_1_writes args s ++ Jvm.arrayLocs frame_1_arrays args s ++ Jvm.staticLocs frame_1_statics s) 16 128 → Post tb e args s (.returned v) u) :
    ArmFor flags0 classFile x code maxLocals ret World_1 tables_1 room_1 Calls_1 rest_1 Pre_1 Post := by
  intro l hfl _ _ p e ha hc hk s m args below hf hA hF happ hP
  obtain ⟨hcalls, hrest, hpre⟩ := hP
  obtain ⟨-, -, -, hnamed, -, -, -, hat⟩ := (Spec.applies_iff hf).mp happ
  obtain ⟨hg, hn⟩ := and_e (Cond.before_iff.mp (show (Jvm.Cond.and given_1 narrow_1).before args s = true from hpre))
  obtain ⟨hg1, hg2⟩ := and_e hg
  obtain ⟨hg3, hg4⟩ := and_e hg2
  obtain ⟨hg5, hg6⟩ := and_e hg4
  obtain ⟨hg7, hg8⟩ := and_e hg6
  obtain ⟨hg9, hg10⟩ := and_e hg8
  obtain ⟨w0, w1, w2, w3, w4, rfl⟩ : ∃ w0 w1 w2 w3 w4 : Value, args = #[w0, w1, w2, w3, w4] := by
    have hs : args.size = 5 := by simpa [Cond.value, given_1] using hg1
    obtain ⟨L⟩ := args
    match L, hs with
    | [w0, w1, w2, w3, w4], _ => exact ⟨w0, w1, w2, w3, w4, rfl⟩
  have hw := fun d (hd : d ∈ tables_1) => atoms_spec (ws := Jvm.Cond.code x code maxLocals ret :: tables_1) hat d (List.mem_cons_of_mem _ hd)
  obtain ⟨i0, ei0⟩ := isL_v hg3
  obtain rfl : w0 = (.long i0) := Option.some.inj ei0
  obtain ⟨i1, ei1⟩ := isL_v hg5
  obtain rfl : w1 = (.long i1) := Option.some.inj ei1
  obtain ⟨i2, ei2⟩ := is_v hg7
  obtain rfl : w2 = (.int i2) := Option.some.inj ei2
  obtain ⟨i3, ei3⟩ := is_v hg9
  obtain rfl : w3 = (.int i3) := Option.some.inj ei3
  obtain ⟨i4, ei4⟩ := is_v hg10
  obtain rfl : w4 = (.int i4) := Option.some.inj ei4
  obtain ⟨n, o, h1, h2, h3, _, L, rfl, ⟨rfl, N⟩, hq⟩ := rm0 l s _ hw tables_1 i0 i1 i2 i3 i4 s.heap s.heap.size (Nat.le_refl _)  p e ha hc hk s m _ below hf ((Spec.applies_iff_loose hf).mp happ).1 ⟨rfl, State.Warmed39.refl s, rfl⟩ trivial
  refine ⟨n, _, h1, h2, h3, hpost _ _ _ _ _ _ ⟨Cond.after_iff.mpr rfl, Cond.after_iff.mpr (eq_i res_at (Term.int_eval (1)) rfl)⟩ ⟨hq.1, hq.2.1, (hq.2.2.sift fun y hy => Or.inr (N y hy)).mono (by decide) (by decide)⟩⟩
theorem main_1_1 : Claimed_1_1 := comes_1 fun _ _ _ _ _ _ h hF => ⟨h.1, hF⟩
theorem main_1_2 : Claimed_1_2 := comes_1 fun _ _ _ _ _ _ h hF => ⟨h.2, hF⟩
end Jvm.Pilot.@@N@@
namespace Jvm.Pilot.@@N@@
open Jvm Jvm.ClassFile Sem Op Lib Jvm.Free Jvm.Stand Jvm.Pilot.@@N@@.Jvm.D
/-! MADE BY PROGRAM (witnessworld.py) out of the Statement's table words and the real class files: 9 classes; the members and pool entries that the words name. The judged class is class 1, her method 3. -/
namespace start1
open Jvm.ClassFile
def u (s : String) : CpInfo := .utf8 (stringToUtf16 s)
/-- a pool by its gaps: so many unusable entries, then the entry; so many at the end -/
def gap : Nat → List CpInfo → List CpInfo
  | 0, r => r
  | n + 1, r => .unusable :: gap n r
def poolList (es : List (Nat × CpInfo)) (last : Nat) : List CpInfo := es.foldr (fun e r => gap e.1 (e.2 :: r)) (gap last [])
def pool (es : List (Nat × CpInfo)) (last : Nat) : Array CpInfo := ⟨poolList es last⟩
def fileOf (pool : Array CpInfo) (this : Nat) (attrs : Array Attribute := #[]) (ms : Array MethodInfo := #[]) (fl : Nat := 33) (sup : Nat := 0) (ifs : Array Nat := #[]) (fds : Array FieldInfo := #[]) : ClassFile where
  minorVersion := 0
  majorVersion := 65
  constantPool := pool
  accessFlags := fl
  thisClass := this
  superClass := sup
  interfaces := ifs
  fields := fds
  methods := ms
  attributes := attrs
def plain (name : String) (sup : Option ClassId) : Class where
  name := name
  kind := .ordinary
  loader := none
  accessFlags := 33
  super := sup
  interfaces := #[]
  cf := none
  fields := #[]
  methods := #[]
  instanceTypes := #[]
  staticTypes := #[]
  resolved := #[]
  callSites := []
  init := .initialized
  statics := none
  mirror := none

def pool0 : Array CpInfo := pool [(5, u "<init>"), (0, u "()V"), (1, .class_ 10), (1, u "java/lang/Object")] 113

def k0m0 : Method := { name := "<init>", desc := "()V", sig := { parameters := [], returnType := none }, accessFlags := 1, code := none }
/-- java/lang/Object -/
def k0 : Class := { plain "java/lang/Object" none with
  accessFlags := 33
  interfaces := #[]
  cf := some (fileOf pool0 8 #[] #[{ accessFlags := 1, nameIndex := 5, descriptorIndex := 6, attributes := #[] }] 33 0 #[] #[])
  fields := #[]
  methods := #[k0m0]
  instanceTypes := #[]
  staticTypes := #[]
  resolved := Array.replicate 124 none
  statics := none }

def pool1 : Array CpInfo := pool [(2, .class_ 4), (1, u "java/lang/Object"), (0, u "<init>"), (0, u "()V"), (0, .long 3), (1, .integer 2147483647), (0, .methodref 11 12), (0, .class_ 13), (0, .nameAndType 14 15), (0, u "com/example/paretoforge/paretoforge/core/DominanceWeaklyDominatesPinLaw"), (0, u "val"), (0, u "(JI)I"), (0, .methodref 11 17), (0, .nameAndType 18 19), (0, u "ok"), (0, u "([II[IIII)Z"), (0, .methodref 21 22), (0, .class_ 23), (0, .nameAndType 24 25), (0, u "com/example/paretoforge/paretoforge/core/Dominance"), (0, u "weaklyDominates"), (0, u "([DI[DII)Z"), (3, u "law"), (0, u "(JJIII)Z")] 6

def k1m0 : Method := { name := "<init>", desc := "()V", sig := { parameters := [], returnType := none }, accessFlags := 1, code := none }
def k1c1 : Code := { maxStack := 4, maxLocals := 3, code := method_2_code, exceptionTable := #[], attributes := #[] }
def k1m1 : Method := { name := "val", desc := "(JI)I", sig := { parameters := [.long, .int], returnType := some .int }, accessFlags := 10, code := some k1c1 }
def k1c2 : Code := { maxStack := 4, maxLocals := 6, code := method_3_code, exceptionTable := #[], attributes := #[] }
def k1m2 : Method := { name := "ok", desc := "([II[IIII)Z", sig := { parameters := [(.array .int), .int, (.array .int), .int, .int, .int], returnType := some .boolean }, accessFlags := 10, code := some k1c2 }
def k1c3 : Code := { maxStack := 6, maxLocals := 16, code := code, exceptionTable := #[], attributes := #[] }
def k1m3 : Method := { name := "law", desc := "(JJIII)Z", sig := { parameters := [.long, .long, .int, .int, .int], returnType := some .boolean }, accessFlags := 9, code := some k1c3 }
/-- com/example/paretoforge/paretoforge/core/DominanceWeaklyDominatesPinLaw -/
def k1 : Class := { plain "com/example/paretoforge/paretoforge/core/DominanceWeaklyDominatesPinLaw" (some 0) with
  accessFlags := 49
  interfaces := #[]
  cf := some (fileOf pool1 11 #[] #[{ accessFlags := 1, nameIndex := 5, descriptorIndex := 6, attributes := #[] }, { accessFlags := 10, nameIndex := 14, descriptorIndex := 15, attributes := #[] }, { accessFlags := 10, nameIndex := 18, descriptorIndex := 19, attributes := #[] }, { accessFlags := 9, nameIndex := 29, descriptorIndex := 30, attributes := #[] }] 49 2 #[] #[])
  fields := #[]
  methods := #[k1m0, k1m1, k1m2, k1m3]
  instanceTypes := #[]
  staticTypes := #[]
  resolved := Array.replicate 37 none
  statics := none }

def pool2 : Array CpInfo := pool [(2, .class_ 4), (1, u "java/lang/Object"), (0, u "<init>"), (0, u "()V"), (1, .class_ 10), (1, u "com/example/paretoforge/paretoforge/core/Dominance"), (4, u "weaklyDominates"), (0, u "([DI[DII)Z")] 35

def k2m0 : Method := { name := "<init>", desc := "()V", sig := { parameters := [], returnType := none }, accessFlags := 2, code := none }
def k2c1 : Code := { maxStack := 5, maxLocals := 6, code := prog_45_method_3_code, exceptionTable := #[], attributes := #[] }
def k2m1 : Method := { name := "weaklyDominates", desc := "([DI[DII)Z", sig := { parameters := [(.array .double), .int, (.array .double), .int, .int], returnType := some .boolean }, accessFlags := 8, code := some k2c1 }
/-- com/example/paretoforge/paretoforge/core/Dominance -/
def k2 : Class := { plain "com/example/paretoforge/paretoforge/core/Dominance" (some 0) with
  accessFlags := 49
  interfaces := #[]
  cf := some (fileOf pool2 8 #[] #[{ accessFlags := 2, nameIndex := 5, descriptorIndex := 6, attributes := #[] }, { accessFlags := 8, nameIndex := 15, descriptorIndex := 16, attributes := #[] }] 49 2 #[] #[])
  fields := #[]
  methods := #[k2m0, k2m1]
  instanceTypes := #[]
  staticTypes := #[]
  resolved := Array.replicate 52 none
  statics := none }

def pool3 : Array CpInfo := pool [(1, u "java/lang/Cloneable"), (0, .class_ 1), (0, u "java/lang/Object"), (0, .class_ 3)] 3

/-- java/lang/Cloneable -/
def k3 : Class := { plain "java/lang/Cloneable" (some 0) with
  accessFlags := 1537
  interfaces := #[]
  cf := some (fileOf pool3 2 #[] #[] 1537 4 #[] #[])
  fields := #[]
  methods := #[]
  instanceTypes := #[]
  staticTypes := #[]
  resolved := Array.replicate 8 none
  statics := none }

def pool4 : Array CpInfo := pool [(1, u "java/io/Serializable"), (0, .class_ 1), (0, u "java/lang/Object"), (0, .class_ 3)] 3

/-- java/io/Serializable -/
def k4 : Class := { plain "java/io/Serializable" (some 0) with
  accessFlags := 1537
  interfaces := #[]
  cf := some (fileOf pool4 2 #[] #[] 1537 4 #[] #[])
  fields := #[]
  methods := #[]
  instanceTypes := #[]
  staticTypes := #[]
  resolved := Array.replicate 8 none
  statics := none }

/-- the primitive byte -/
def k5 : Class := { plain "byte" none with kind := .primitive 'B', accessFlags := 0x411 }
/-- [B -/
def k6 : Class := { plain "[B" (some 0) with kind := .array 5 .byte, interfaces := #[3, 4], accessFlags := 1041 }

/-- the primitive int -/
def k7 : Class := { plain "int" none with kind := .primitive 'I', accessFlags := 0x411 }
/-- [I -/
def k8 : Class := { plain "[I" (some 0) with kind := .array 7 .int, interfaces := #[3, 4], accessFlags := 1041 }

/-- the primitive double -/
def k9 : Class := { plain "double" none with kind := .primitive 'D', accessFlags := 0x411 }
/-- [D -/
def k10 : Class := { plain "[D" (some 0) with kind := .array 9 .double, interfaces := #[3, 4], accessFlags := 1041 }

def heap : Heap := #[]
def classes : Array Class := #[k0, k1, k2, k3, k4, k5, k6, k7, k8, k9, k10]
def interned : List (Array UInt16 × Addr) := []
def slotsUsed : Nat := 0
def theMethod : MethodId := ⟨1, 3⟩
def args0 : Array Value := #[.long 5, .long 7, .int 9, .int 3, .int 4]
def aboutOver (below : List Frame) : State where
  vm := { classes := classes, interned := interned.toArray }
  heap := heap
  slotsUsed := slotsUsed
  threads := #[{ frames := .invoking theMethod args0 :: below }]
def below0 : List Frame := [.native { method := ⟨0, 0⟩, args := #[] }]
def about1 : State := aboutOver below0
def p0 : Program := .bare "" "" ""
def e0 : Env := launch0.env 0 0 0
theorem w_frames : about1.frames = Frame.invoking theMethod args0 :: below0 := rfl
set_option maxRecDepth 65536 in
theorem w_args : argsFit about1.vm theMethod args0 = true := by decide +kernel
set_option maxRecDepth 65536 in
theorem w_heap : heapFits about1 = true := by decide +kernel
set_option maxRecDepth 65536 in
theorem w_runnable : about1.curStatus? = some .runnable := by decide +kernel
set_option maxRecDepth 65536 in
theorem w_alone : about1.alone = true := by decide +kernel
set_option maxRecDepth 65536 in
theorem w_named : about1.methodNamed? x = some theMethod := by decide +kernel
set_option maxRecDepth 65536 in
theorem w_hears : about1.hears theMethod below0 = true := by decide +kernel
set_option maxRecDepth 65536 in
theorem w_ripe : about1.ripe theMethod args0 below0 = true := by decide +kernel
theorem w_running : about1.status = .running := rfl
set_option maxRecDepth 65536 in
theorem w_room : about1.hasRoom e0.platform room_1 = true :=
  launch0.hasRoom_least _ room_1 (by decide +kernel) (by decide +kernel) (by decide +kernel) (by decide +kernel) (by decide +kernel) (by decide +kernel)
theorem allAtoms_all (ts : List Jvm.Cond) (a : Array Jvm.Value) (st : Jvm.State) : (allAtoms ts).before a st = ts.all (fun c => c.before a st) := by
  induction ts with
  | nil => rfl
  | cons c t ih =>
    show (Jvm.Cond.and c (allAtoms t)).before a st = _
    rw [Jvm.Cond.before_and, ih, List.all_cons]
def words1 : List Jvm.Cond := Jvm.Cond.code x code maxLocals ret :: tables_1
/-- a 'code' word, met by the world's own term for the bytes: nothing is compared byte by byte -/
theorem code_word {y : MethodName} {bytes : ByteArray} {mx : Nat} {rt : Option FieldType} {a : Array Value} {s : State} {m : MethodId} {meth : Method} {c : Code} (h1 : s.methodNamed? y = some m) (h2 : s.vm.method? m = some meth) (h3 : meth.code = some c) (h4 : c.code = bytes)
    (h5 : (c.maxLocals == mx && c.exceptionTable.isEmpty && decide (c.maxStack ≤ mostOperands) && decide (meth.sig.returnType = rt) && !meth.locks && decide (parseMethodDescriptor y.desc = some meth.sig)) = true) : (Jvm.Cond.code y bytes mx rt).before a s = true := by
  simp only [Bool.and_eq_true, beq_iff_eq, Bool.not_eq_true', decide_eq_true_eq] at h5
  obtain ⟨⟨⟨⟨⟨g1, g2⟩, g3⟩, g4⟩, g5⟩, g6⟩ := h5
  simp [Cond.before, Cond.holds, Cond.value, h1, h2, h3, h4, g1, g2, g3, g4, g5, g6]
def isCode : Jvm.Cond → Bool
  | .code _ _ _ _ => true
  | _ => false
theorem all_split {L : List Jvm.Cond} {P : Jvm.Cond → Bool} (h1 : L.all (fun c => isCode c || P c) = true) (h2 : ∀ c ∈ L.filter isCode, P c = true) : L.all P = true := by
  refine List.all_eq_true.mpr fun c hc => ?_
  have h := List.all_eq_true.mp h1 c hc
  rcases Bool.eq_false_or_eq_true (isCode c) with hi | hi
  · exact h2 c (List.mem_filter.mpr ⟨hc, hi⟩)
  · simpa [hi] using h
set_option maxRecDepth 65536 in
theorem w_c0 : (Jvm.Cond.code x code maxLocals ret).before args0 about1 = true := code_word (m := ⟨1, 3⟩) (meth := k1m3) (c := k1c3) (by decide +kernel) rfl rfl rfl (by decide +kernel)
set_option maxRecDepth 65536 in
theorem w_c1 : (Jvm.Cond.code ({ cls := "com/example/paretoforge/paretoforge/core/DominanceWeaklyDominatesPinLaw", name := "val", desc := "(JI)I" } : Jvm.MethodName) method_2_code (3 : Nat) (Option.some Jvm.ClassFile.FieldType.int)).before args0 about1 = true := code_word (m := ⟨1, 1⟩) (meth := k1m1) (c := k1c1) (by decide +kernel) rfl rfl rfl (by decide +kernel)
set_option maxRecDepth 65536 in
theorem w_c2 : (Jvm.Cond.code ({ cls := "com/example/paretoforge/paretoforge/core/DominanceWeaklyDominatesPinLaw", name := "ok", desc := "([II[IIII)Z" } : Jvm.MethodName) method_3_code (6 : Nat) (Option.some Jvm.ClassFile.FieldType.boolean)).before args0 about1 = true := code_word (m := ⟨1, 2⟩) (meth := k1m2) (c := k1c2) (by decide +kernel) rfl rfl rfl (by decide +kernel)
set_option maxRecDepth 65536 in
theorem w_c3 : (Jvm.Cond.code ({ cls := "com/example/paretoforge/paretoforge/core/Dominance", name := "weaklyDominates", desc := "([DI[DII)Z" } : Jvm.MethodName) prog_45_method_3_code (6 : Nat) (Option.some Jvm.ClassFile.FieldType.boolean)).before args0 about1 = true := code_word (m := ⟨2, 1⟩) (meth := k2m1) (c := k2c1) (by decide +kernel) rfl rfl rfl (by decide +kernel)
def codes1 : List Jvm.Cond := [Jvm.Cond.code x code maxLocals ret, Jvm.Cond.code ({ cls := "com/example/paretoforge/paretoforge/core/DominanceWeaklyDominatesPinLaw", name := "val", desc := "(JI)I" } : Jvm.MethodName) method_2_code (3 : Nat) (Option.some Jvm.ClassFile.FieldType.int), Jvm.Cond.code ({ cls := "com/example/paretoforge/paretoforge/core/DominanceWeaklyDominatesPinLaw", name := "ok", desc := "([II[IIII)Z" } : Jvm.MethodName) method_3_code (6 : Nat) (Option.some Jvm.ClassFile.FieldType.boolean), Jvm.Cond.code ({ cls := "com/example/paretoforge/paretoforge/core/Dominance", name := "weaklyDominates", desc := "([DI[DII)Z" } : Jvm.MethodName) prog_45_method_3_code (6 : Nat) (Option.some Jvm.ClassFile.FieldType.boolean)]
set_option maxRecDepth 65536 in
theorem codes_eq : words1.filter isCode = codes1 := rfl
theorem w_codes : ∀ c ∈ words1.filter isCode, c.before args0 about1 = true := by
  rw [codes_eq]
  intro c hc
  simp only [codes1, List.mem_cons, List.not_mem_nil, or_false] at hc
  rcases hc with rfl | rfl | rfl | rfl
  · exact w_c0
  · exact w_c1
  · exact w_c2
  · exact w_c3
set_option maxRecDepth 65536 in
theorem w_t1 : words1.all (fun c => isCode c || c.before args0 about1) = true := by decide +kernel
theorem w_tables : (allAtoms (Jvm.Cond.code x code maxLocals ret :: tables_1)).before args0 about1 = true := by
  rw [allAtoms_all]
  show words1.all (fun c => c.before args0 about1) = true
  refine all_split ?_ w_codes
  rw [w_t1]
set_option maxRecDepth 65536 in
theorem w_case : (Jvm.Cond.and given_1 narrow_1).before args0 about1 = true := by decide +kernel
theorem w_applies : (headSpec (Jvm.Cond.code x code maxLocals ret :: tables_1) room_1).applies x e0.platform about1 = true :=
  (Spec.applies_iff w_frames).mpr ⟨w_running, w_runnable, w_alone, w_named, w_hears, w_ripe, w_room, w_tables⟩
theorem atStart : AtStart classFile x code maxLocals ret World_1 tables_1 room_1 Calls_1 rest_1 Pre_1 launch0 p0 e0 about1 theMethod args0 below0 :=
  ⟨lists_1, trivial, launch0.admits_env _ _ _, launch0.least_env, fairChoices_fair.cas, fairChoices_fair.clock, w_frames, w_args, w_heap, w_applies, trivial, trivial, w_case⟩
end start1
theorem witness_1 : WitnessClaimed_1 := ⟨start1.p0, start1.e0, start1.about1, start1.theMethod, start1.args0, start1.below0, start1.atStart⟩
end Jvm.Pilot.@@N@@
