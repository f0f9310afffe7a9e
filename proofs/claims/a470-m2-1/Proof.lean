import JvmDerived
import JvmDerived.Pilot.@@N@@Statement
import JvmDerived.Pilot.@@N@@Code
set_option linter.unusedVariables false
set_option linter.unusedSimpArgs false
@@BLOCK:NumsL.lean.txt@@
namespace Jvm.RoadKit
open Sem ClassFile Op Lib Jvm.Stand Jvm.Free Jvm.LawKit
section New
variable {p : Program} {l : Launch} {e : Env} {R : Room} {s : State} {m : MethodId} {args : Array Value} {below : List Frame} {meth : Method} {c : Code} {T : State} {locs : List Loc} {cells slots : Nat}
theorem retI (X : Stand p l e R s m args below meth c T locs cells slots) (hx : p.tables.exec = Jvm.exec) {pc : Nat} {Ls : Array Slot} {z : Int32} {rest : List Value} (hret : meth.sig.returnType = some .int) (hd : decode c.code pc = .ok (.ireturn, 1)) {fs : List Frame}
    (hl : ∀ (f : JFrame) (acts : List Action), f.method = m → f.locked = none → f.entered = [] → (doReturn e (T.setTop f) acts (some (.int z))).1 = T.setFrames fs) : Steps p.tables e below (T.setTop (mkF m pc Ls (.int z :: rest))) (T.setFrames fs) :=
  retOut X hx hret rfl (Or.inl ⟨rfl, Or.inl rfl, _, rfl⟩) hd hl
theorem retL (X : Stand p l e R s m args below meth c T locs cells slots) (hx : p.tables.exec = Jvm.exec) {pc : Nat} {Ls : Array Slot} {z : Int64} {rest : List Value} (hret : meth.sig.returnType = some .long) (hd : decode c.code pc = .ok (.lreturn, 1)) {fs : List Frame}
    (hl : ∀ (f : JFrame) (acts : List Action), f.method = m → f.locked = none → f.entered = [] → (doReturn e (T.setTop f) acts (some (.long z))).1 = T.setFrames fs) : Steps p.tables e below (T.setTop (mkF m pc Ls (.long z :: rest))) (T.setFrames fs) :=
  retOut X hx hret rfl (Or.inr (Or.inl ⟨rfl, rfl, _, rfl⟩)) hd hl
theorem retA (X : Stand p l e R s m args below meth c T locs cells slots) (hx : p.tables.exec = Jvm.exec) {pc : Nat} {Ls : Array Slot} {z : Addr} {t : FieldType} {rest : List Value} (hret : meth.sig.returnType = some t) (ht : t.isReference = true) (hd : decode c.code pc = .ok (.areturn, 1)) {fs : List Frame}
    (hn : narrow t (.ref z) = .ref z) (hl : ∀ (f : JFrame) (acts : List Action), f.method = m → f.locked = none → f.entered = [] → (doReturn e (T.setTop f) acts (some (.ref z))).1 = T.setFrames fs) : Steps p.tables e below (T.setTop (mkF m pc Ls (.ref z :: rest))) (T.setFrames fs) :=
  retOut X hx hret hn (Or.inr (Or.inr (Or.inr (Or.inr ⟨rfl, ht, rfl⟩)))) hd hl
end New
end Jvm.RoadKit
namespace Jvm.Pilot.@@N@@
open Jvm Jvm.ClassFile Sem Op Lib Jvm.Free Jvm.Stand Jvm.LawKit Jvm.RoadKit Bundle Jvm.Pilot.@@N@@.Jvm.D
/-- the walk moves on: what runs from S' runs from S -/
theorem own_go {tb : Tables} {e : Env} {below : List Frame} {S S' : State} {P : State → Outcome → Prop} (h : ∀ t, Steps tb e below S' t → Steps tb e below S t)
    (k : ∃ s₂ o, Steps tb e below S' s₂ ∧ s₂.status = .running ∧ Ended s₂ below o ∧ P s₂ o) : ∃ s₂ o, Steps tb e below S s₂ ∧ s₂.status = .running ∧ Ended s₂ below o ∧ P s₂ o := by
  obtain ⟨s₂, o, h1, h2⟩ := k
  exact ⟨s₂, o, h _ h1, h2⟩
/-- the same, on the way to a joint -/
theorem own_goR {tb : Tables} {e : Env} {below : List Frame} {S S' : State} {α : Type} {Φ : α → Prop} {Ψ : α → State} (h : ∀ t, Steps tb e below S' t → Steps tb e below S t)
    (k : ∃ x, Φ x ∧ ∀ t, Steps tb e below (Ψ x) t → Steps tb e below S' t) : ∃ x, Φ x ∧ ∀ t, Steps tb e below (Ψ x) t → Steps tb e below S t := by
  obtain ⟨x, h1, h2⟩ := k
  exact ⟨x, h1, fun t kt => h t (h2 t kt)⟩
/-- a private method is selected, where a method of its class is -/
theorem own_selp {s : State} {args args' : Array Value} {cls : String} {x' y' y : MethodName} (h : (Jvm.Cond.selects cls x' y').before args s = true) (e : y'.cls = y.cls) (hpriv : s.PrivateAt y) (hinst : (Jvm.Cond.instanceMethod y).before args' s = true) (hy : y.cls ≠ "java/lang/invoke/MethodHandle" ∧ y.cls ≠ "java/lang/invoke/VarHandle") : (Jvm.Cond.selects y.cls y y).before args' s = true := by
  obtain ⟨c, r, m, -, -, h3, -, mk, h4, h5⟩ := Cond.selects_spec h
  exact Jvm.Stand.selects_self_of_private (e ▸ findClass_of_methodNamed h3) h4 h5 hpriv hinst hy
/-- Java's x >>> y on ints and on longs -/
def own_ushr (x y : Int32) : Int32 := (x.toUInt32 >>> (y &&& 31).toUInt32).toInt32
def own_ushrL (x : Int64) (y : Int32) : Int64 := (x.toUInt64 >>> (y &&& 0x3f).toInt64.toUInt64).toInt64
def own_shlL (x : Int64) (y : Int32) : Int64 := x <<< (y &&& 0x3f).toInt64
def own_shrL (x : Int64) (y : Int32) : Int64 := x >>> (y &&& 0x3f).toInt64
def own_shl (x y : Int32) : Int32 := x <<< (y &&& 31)
def own_shr (x y : Int32) : Int32 := x >>> (y &&& 31)
/-- an array by its places: ints (byte, char, short, boolean too), longs -/
def own_AI (Z : State) (h : Heap) (a : Addr) (ty : FieldType) (n : Nat) (g : Nat → Int32) : Prop := ∃ c : Cell, Arr Z h a c ty ∧ c.slots.size = n ∧ n < 2 ^ 31 ∧ ∀ i, i < n → c.slots[i]? = some (.int (g i))
def own_AJ (Z : State) (h : Heap) (a : Addr) (ty : FieldType) (n : Nat) (g : Nat → Int64) : Prop := ∃ c : Cell, Arr Z h a c ty ∧ c.slots.size = n ∧ n < 2 ^ 31 ∧ ∀ i, i < n → c.slots[i]? = some (.long (g i))
def own_AD (Z : State) (h : Heap) (a : Addr) (ty : FieldType) (n : Nat) (g : Nat → UInt64) : Prop := ∃ c : Cell, Arr Z h a c ty ∧ c.slots.size = n ∧ n < 2 ^ 31 ∧ ∀ i, i < n → c.slots[i]? = some (.double (g i))
def own_upd {α : Type} (g : Nat → α) (j : Nat) (v : α) : Nat → α := fun i => if i = j then v else g i
theorem own_upd_same {α : Type} (g : Nat → α) (j : Nat) (v : α) : own_upd g j v j = v := if_pos rfl
theorem own_upd_ne {α : Type} (g : Nat → α) {i j : Nat} (v : α) (h : i ≠ j) : own_upd g j v i = g i := if_neg h
section OwnArrays
variable {Z : State} {h h' : Heap} {a b : Addr} {ty : FieldType} {n sl : Nat} {v : Value} {ws : List Addr}
theorem own_AI.lt {g : Nat → Int32} (F : own_AI Z h a ty n g) : a < h.size := by obtain ⟨c, A, -⟩ := F; exact A.lt
theorem own_AI.ext {g : Nat → Int32} (F : own_AI Z h a ty n g) (E : Ext h h') : own_AI Z h' a ty n g := by obtain ⟨c, A, r⟩ := F; exact ⟨c, A.ext E, r⟩
theorem own_AI.other {g : Nat → Int32} (F : own_AI Z h b ty n g) (W : Wr h h' a sl v) (q : b ≠ a) : own_AI Z h' b ty n g := by obtain ⟨c, A, r⟩ := F; exact ⟨c, A.other W q, r⟩
theorem own_AI.keep {g : Nat → Int32} (F : own_AI Z h a ty n g) (K : Keep h h' ws) (q : a ∉ ws) : own_AI Z h' a ty n g := by obtain ⟨c, A, r⟩ := F; exact ⟨c, ⟨K.2.1 a c A.1 q, A.2⟩, r⟩
theorem own_AJ.lt {g : Nat → Int64} (F : own_AJ Z h a ty n g) : a < h.size := by obtain ⟨c, A, -⟩ := F; exact A.lt
theorem own_AJ.ext {g : Nat → Int64} (F : own_AJ Z h a ty n g) (E : Ext h h') : own_AJ Z h' a ty n g := by obtain ⟨c, A, r⟩ := F; exact ⟨c, A.ext E, r⟩
theorem own_AJ.other {g : Nat → Int64} (F : own_AJ Z h b ty n g) (W : Wr h h' a sl v) (q : b ≠ a) : own_AJ Z h' b ty n g := by obtain ⟨c, A, r⟩ := F; exact ⟨c, A.other W q, r⟩
theorem own_AJ.keep {g : Nat → Int64} (F : own_AJ Z h a ty n g) (K : Keep h h' ws) (q : a ∉ ws) : own_AJ Z h' a ty n g := by obtain ⟨c, A, r⟩ := F; exact ⟨c, ⟨K.2.1 a c A.1 q, A.2⟩, r⟩
theorem own_AD.lt {g : Nat → UInt64} (F : own_AD Z h a ty n g) : a < h.size := by obtain ⟨c, A, -⟩ := F; exact A.lt
theorem own_AD.ext {g : Nat → UInt64} (F : own_AD Z h a ty n g) (E : Ext h h') : own_AD Z h' a ty n g := by obtain ⟨c, A, r⟩ := F; exact ⟨c, A.ext E, r⟩
theorem own_AD.other {g : Nat → UInt64} (F : own_AD Z h b ty n g) (W : Wr h h' a sl v) (q : b ≠ a) : own_AD Z h' b ty n g := by obtain ⟨c, A, r⟩ := F; exact ⟨c, A.other W q, r⟩
theorem own_AD.keep {g : Nat → UInt64} (F : own_AD Z h a ty n g) (K : Keep h h' ws) (q : a ∉ ws) : own_AD Z h' a ty n g := by obtain ⟨c, A, r⟩ := F; exact ⟨c, ⟨K.2.1 a c A.1 q, A.2⟩, r⟩
theorem own_AI.set {g : Nat → Int32} {c : Cell} {x : Int32} {j : Nat} (A : Arr Z h a c ty) (S : c.slots.size = n) (M : n < 2 ^ 31) (H : ∀ i, i < n → c.slots[i]? = some (.int (g i))) (W : Wr h h' a j (.int x)) : own_AI Z h' a ty n (own_upd g j x) := by
  refine ⟨_, A.same W, (sz_set _ _ _).trans S, M, fun i hi => ?_⟩
  simp only [Cell.setSlot, Array.getElem?_setIfInBounds, own_upd]
  by_cases q : j = i
  · subst q; simp [S, hi]
  · rw [if_neg q, if_neg (fun z => q z.symm)]; exact H i hi
theorem own_AJ.set {g : Nat → Int64} {c : Cell} {x : Int64} {j : Nat} (A : Arr Z h a c ty) (S : c.slots.size = n) (M : n < 2 ^ 31) (H : ∀ i, i < n → c.slots[i]? = some (.long (g i))) (W : Wr h h' a j (.long x)) : own_AJ Z h' a ty n (own_upd g j x) := by
  refine ⟨_, A.same W, (sz_set _ _ _).trans S, M, fun i hi => ?_⟩
  simp only [Cell.setSlot, Array.getElem?_setIfInBounds, own_upd]
  by_cases q : j = i
  · subst q; simp [S, hi]
  · rw [if_neg q, if_neg (fun z => q z.symm)]; exact H i hi
theorem own_AD.set {g : Nat → UInt64} {c : Cell} {x : UInt64} {j : Nat} (A : Arr Z h a c ty) (S : c.slots.size = n) (M : n < 2 ^ 31) (H : ∀ i, i < n → c.slots[i]? = some (.double (g i))) (W : Wr h h' a j (.double x)) : own_AD Z h' a ty n (own_upd g j x) := by
  refine ⟨_, A.same W, (sz_set _ _ _).trans S, M, fun i hi => ?_⟩
  simp only [Cell.setSlot, Array.getElem?_setIfInBounds, own_upd]
  by_cases q : j = i
  · subst q; simp [S, hi]
  · rw [if_neg q, if_neg (fun z => q z.symm)]; exact H i hi
theorem own_clamp_lt (z : Int32) : z.toNatClampNeg < 2 ^ 31 := by have := z.toInt_lt; simp only [Int32.toNatClampNeg]; omega
theorem own_AI.fresh {k : ClassId} {z : Int32} (A : Arr Z h a (newA k ty z) ty) (hd : defaultValue ty = .int 0) : own_AI Z h a ty z.toNatClampNeg (fun _ => 0) :=
  ⟨_, A, sz_new _ _ _, own_clamp_lt z, fun i hi => by simp [newA, hi, hd]⟩
theorem own_AJ.fresh {k : ClassId} {z : Int32} (A : Arr Z h a (newA k ty z) ty) (hd : defaultValue ty = .long 0) : own_AJ Z h a ty z.toNatClampNeg (fun _ => 0) :=
  ⟨_, A, sz_new _ _ _, own_clamp_lt z, fun i hi => by simp [newA, hi, hd]⟩
theorem own_AD.fresh {k : ClassId} {z : Int32} (A : Arr Z h a (newA k ty z) ty) (hd : defaultValue ty = .double 0) : own_AD Z h a ty z.toNatClampNeg (fun _ => 0) :=
  ⟨_, A, sz_new _ _ _, own_clamp_lt z, fun i hi => by simp [newA, hi, hd]⟩
theorem own_in {c : Cell} {j : Int32} (S : c.slots.size = n) (q : ¬ j < 0 ∧ j.toNatClampNeg < n) : ¬ (j < 0 ∨ c.slots.size ≤ j.toNatClampNeg) := by
  rw [S]; exact fun z => z.elim q.1 (fun y => by have := q.2; omega)
theorem own_len {c : Cell} (S : c.slots.size = n) : c.slots.size.toInt32 = Int32.ofNat n := by rw [S]
theorem own_fitI {g : Nat → Int32} {c : Cell} (A : Arr Z h a c .int) (S : c.slots.size = n) (H : ∀ i, i < n → c.slots[i]? = some (.int (g i))) : FitC Z c :=
  fitC_of A fun i hi v hv => by rw [H i (S ▸ hi)] at hv; cases hv; rfl
theorem own_nst {C : String} (E : Exa Z h a C) : ∃ c : Cell, h[a]? = some c ∧ c.vm.isStatics = false := by obtain ⟨c, k, h1, -, -, h4, -⟩ := E; exact ⟨c, h1, h4⟩
theorem own_Sta_keep {C f d : String} (F : Sta Z h C f d v) (K : Keep h h' ws) (q : ∀ x ∈ ws, ∃ c : Cell, h[x]? = some c ∧ c.vm.isStatics = false) : Sta Z h' C f d v := by
  obtain ⟨cf, i, k, f, st, cell, h1, h2, h3, h4, h5, h6, h7⟩ := F
  refine ⟨cf, i, k, f, st, cell, h1, h2, h3, h4, K.2.1 st cell h5 (fun z => ?_), h6, h7⟩
  obtain ⟨c, g1, g2⟩ := q st z
  cases h5.symm.trans g1
  rw [h6] at g2
  cases g2
end OwnArrays
theorem own_lremq (x y : Int64) : x - (x / y) * y = x % y := by
  apply Int64.toInt_inj.mp
  rw [Int64.toInt_sub, Int64.toInt_mul, Int64.toInt_div, Int64.toInt_mod]
  have h := Int.mul_tdiv_add_tmod x.toInt y.toInt
  have hl := x.toInt_lt; have hg := x.le_toInt
  simp only [Int.bmod_sub_bmod, Int.sub_bmod_bmod, Int.bmod_mul_bmod, Int.mul_bmod_bmod]
  have e : x.toInt - x.toInt.tdiv y.toInt * y.toInt = x.toInt.tmod y.toInt := by rw [Int.mul_comm]; omega
  rw [e]
  have h1 := (x % y).toInt_lt; have h2 := (x % y).le_toInt
  rw [Int64.toInt_mod] at h1 h2
  exact Int.bmod_eq_of_le (by omega) (by omega)
theorem own_m32 {q k : Int32} (h : 0 ≤ q.toInt) : (q % k).toInt = q.toInt % k.toInt := by rw [Int32.toInt_mod, Int.tmod_eq_emod_of_nonneg h]
theorem own_ofn {i : Nat} (h : i ≤ 1000) : (Int32.ofNat i).toInt = i := Int32.toInt_ofNat_of_lt (by omega)
theorem own_lt {i n : Nat} (h : i < n) (hn : n ≤ 1000) : Int32.ofNat i < Int32.ofNat n := by rw [Int32.lt_iff_toInt_lt, own_ofn (by omega), own_ofn (by omega)]; omega
theorem own_nlt {i n : Nat} (h : n ≤ i) (hn : n ≤ 1000) (hi : i ≤ 1000) : ¬ Int32.ofNat i < Int32.ofNat n := by rw [Int32.lt_iff_toInt_lt, own_ofn (by omega), own_ofn (by omega)]; omega
theorem own_one (i : Nat) : Int32.ofNat i + (1 : Int32) = Int32.ofNat (i + 1) := (Int32.ofNat_add i 1).symm
theorem own_clamp {i : Nat} (h : i ≤ 1000) : ((Int32.ofNat i)).toNatClampNeg = i := by simp only [Int32.toNatClampNeg, own_ofn h]; omega
theorem own_inb {i : Nat} (h : i < 12) : ¬ (Int32.ofNat i) < 0 ∧ ((Int32.ofNat i)).toNatClampNeg < 12 := by
  rw [own_clamp (by omega)]
  refine ⟨?_, h⟩
  rw [Int32.lt_iff_toInt_lt, own_ofn (by omega), show (0 : Int32).toInt = 0 from rfl]
  omega
theorem own_ln {f t : Nat} {ln : Int32} (hft : f ≤ t) (ht : t ≤ 12) (h : ln = ((Int32.ofNat t) - (Int32.ofNat f))) : ln = (Int32.ofNat (t - f)) := by
  apply Int32.toInt_inj.mp
  rw [h, Jvm.Kit.i32_sub (by rw [own_ofn (by omega), own_ofn (by omega)]; omega) (by rw [own_ofn (by omega), own_ofn (by omega)]; omega), own_ofn (by omega), own_ofn (by omega), own_ofn (by omega)]
  omega
theorem own_f12 {f t : Nat} (hft : f ≤ t) (ht : t ≤ 12) (h : (1 : Int32) < (Int32.ofNat (t - f))) : f < 12 := by
  rw [Int32.lt_iff_toInt_lt, own_ofn (by omega), show (1 : Int32).toInt = 1 from rfl] at h
  omega
/-- the digits read so far, k left from place i on -/
def own_hor (g : Nat → Int32) : Nat → Nat → Int32 → Int32
  | 0, _, acc => acc
  | k + 1, i, acc => if ((g i) - (48 : Int32)) < (0 : Int32) then (-1 : Int32) else if (9 : Int32) < ((g i) - (48 : Int32)) then (-1 : Int32) else own_hor g k (i + 1) ((acc * (10 : Int32)) + ((g i) - (48 : Int32)))
theorem own_hor_next {g : Nat → Int32} {k i : Nat} (acc : Int32) {dg : Int32} (h : dg = ((g i) - (48 : Int32))) (h1 : ¬ dg < (0 : Int32)) (h2 : ¬ (9 : Int32) < dg) : own_hor g (k + 1) i acc = own_hor g k (i + 1) ((acc * (10 : Int32)) + dg) := by
  subst h; simp only [own_hor, if_neg h1, if_neg h2]
def own_value (g : Nat → Int32) (f t : Nat) : Int32 := if (Int32.ofNat (t - f)) = (0 : Int32) then (-1 : Int32) else if (9 : Int32) < (Int32.ofNat (t - f)) then (-1 : Int32) else if (1 : Int32) < (Int32.ofNat (t - f)) then (if (g f) = (48 : Int32) then (-1 : Int32) else own_hor g (t - f) f (0 : Int32)) else own_hor g (t - f) f (0 : Int32)

theorem d1_0 : decode method_2_code 0 = .ok (.iload 4, 2) := by decide +kernel
theorem d1_2 : decode method_2_code 2 = .ok (.bipush 8, 2) := by decide +kernel
theorem d1_4 : decode method_2_code 4 = .ok (.if_icmp .ge 16, 3) := by decide +kernel
theorem d1_7 : decode method_2_code 7 = .ok (.lload_n 0, 1) := by decide +kernel
theorem d1_8 : decode method_2_code 8 = .ok (.bipush 8, 2) := by decide +kernel
theorem d1_10 : decode method_2_code 10 = .ok (.iload 4, 2) := by decide +kernel
theorem d1_12 : decode method_2_code 12 = .ok (.imul, 1) := by decide +kernel
theorem d1_13 : decode method_2_code 13 = .ok (.lushr, 1) := by decide +kernel
theorem d1_14 : decode method_2_code 14 = .ok (.l2i, 1) := by decide +kernel
theorem d1_15 : decode method_2_code 15 = .ok (.istore 5, 2) := by decide +kernel
theorem d1_17 : decode method_2_code 17 = .ok (.goto 15, 3) := by decide +kernel
theorem d1_20 : decode method_2_code 20 = .ok (.iload_n 2, 1) := by decide +kernel
theorem d1_21 : decode method_2_code 21 = .ok (.bipush 8, 2) := by decide +kernel
theorem d1_23 : decode method_2_code 23 = .ok (.iload 4, 2) := by decide +kernel
theorem d1_25 : decode method_2_code 25 = .ok (.bipush 8, 2) := by decide +kernel
theorem d1_27 : decode method_2_code 27 = .ok (.isub, 1) := by decide +kernel
theorem d1_28 : decode method_2_code 28 = .ok (.imul, 1) := by decide +kernel
theorem d1_29 : decode method_2_code 29 = .ok (.iushr, 1) := by decide +kernel
theorem d1_30 : decode method_2_code 30 = .ok (.istore 5, 2) := by decide +kernel
theorem d1_32 : decode method_2_code 32 = .ok (.iload 5, 2) := by decide +kernel
theorem d1_34 : decode method_2_code 34 = .ok (.sipush 255, 3) := by decide +kernel
theorem d1_37 : decode method_2_code 37 = .ok (.iand, 1) := by decide +kernel
theorem d1_38 : decode method_2_code 38 = .ok (.istore 6, 2) := by decide +kernel
theorem d1_40 : decode method_2_code 40 = .ok (.iload_n 3, 1) := by decide +kernel
theorem d1_41 : decode method_2_code 41 = .ok (.iload 4, 2) := by decide +kernel
theorem d1_43 : decode method_2_code 43 = .ok (.iushr, 1) := by decide +kernel
theorem d1_44 : decode method_2_code 44 = .ok (.iconst 1, 1) := by decide +kernel
theorem d1_45 : decode method_2_code 45 = .ok (.iand, 1) := by decide +kernel
theorem d1_46 : decode method_2_code 46 = .ok (.ifCond .eq 13, 3) := by decide +kernel
theorem d1_49 : decode method_2_code 49 = .ok (.bipush 48, 2) := by decide +kernel
theorem d1_51 : decode method_2_code 51 = .ok (.iload 6, 2) := by decide +kernel
theorem d1_53 : decode method_2_code 53 = .ok (.bipush 10, 2) := by decide +kernel
theorem d1_55 : decode method_2_code 55 = .ok (.irem, 1) := by decide +kernel
theorem d1_56 : decode method_2_code 56 = .ok (.iadd, 1) := by decide +kernel
theorem d1_57 : decode method_2_code 57 = .ok (.i2b, 1) := by decide +kernel
theorem d1_58 : decode method_2_code 58 = .ok (.ireturn, 1) := by decide +kernel
theorem d1_59 : decode method_2_code 59 = .ok (.iload 6, 2) := by decide +kernel
theorem d1_61 : decode method_2_code 61 = .ok (.i2b, 1) := by decide +kernel
theorem d1_62 : decode method_2_code 62 = .ok (.ireturn, 1) := by decide +kernel
theorem own_pn0 : plainName "com/example/long_walk/longwalk/DecimalNameIndexValuePinLaw" = true := by first | (simp [plainName, overriddenIn]; done) | decide +kernel
set_option maxHeartbeats 40000000 in
theorem own_ef_rm1 (m : MethodId) (x0 : Int64) (x1 : Int32) (x2 : Int32) (x3 : Int32) : entryFrame m #[(.long x0), (.int x1), (.int x2), (.int x3)] 7 = mkF m 0 #[.val (.long x0), .second, .val (.int x1), .val (.int x2), .val (.int x3), .unset, .unset] [] := by first | (simp [entryFrame, mkF, argsToLocals, Value.category]; done) | rfl
def Q1 (Z : State) (q0 : Int64) (p1 : Int32) (p2 : Int32) (p3 : Int32) (h0 : Heap) (n0 : Nat) (v : Option Value) (h : Heap) (L : List Loc) : Prop := ∃ r : Int32, v = some (.int r) ∧ Fr n0 L ∧ h = h0
set_option maxRecDepth 65536 in
set_option maxHeartbeats 40000000 in
theorem rm1 (l : Launch) (Z : State) (aZ : Array Value) (hw : ∀ d ∈ tables_1, d.before aZ Z = true) (ws : List Jvm.Cond) (q0 : Int64) (p1 : Int32) (p2 : Int32) (p3 : Int32) (h0 : Heap) (n0 : Nat) (Z0 : n0 ≤ h0.size) :
    MetFree l (⟨"com/example/long_walk/longwalk/DecimalNameIndexValuePinLaw", "draw", "(JIII)B"⟩ : MethodName) (head1 (Jvm.Cond.code (⟨"com/example/long_walk/longwalk/DecimalNameIndexValuePinLaw", "draw", "(JIII)B"⟩ : MethodName) method_2_code 7 (some .byte) :: ws) ({ frames := 0, cells := 0, slots := 0, locals := 0 } : Room)) (fun a U => a = #[(.long q0), (.int p1), (.int p2), (.int p3)] ∧ Z.Warmed39 U.vm ∧ U.heap = h0) (fun _ _ _ _ _ => True) (fun _ U o U' => ∃ v L, o = .returned v ∧ Q1 Z q0 p1 p2 p3 h0 n0 v U'.heap L ∧ FrameEnd U o U' L ({ frames := 0, cells := 0, slots := 0, locals := 0 } : Room).cells ({ frames := 0, cells := 0, slots := 0, locals := 0 } : Room).slots) := by
  refine MetFree.of_bodySF (plainFor_of_name own_pn0) hisR ?_
  intro p e s m args below meth c s₁ Bd hml0 hP hK
  obtain ⟨rfl, hZ, hh⟩ := hP
  have hx := Bd.exec
  have hby := Bd.bytes
  have hml : c.maxLocals = 7 := hml0
  have hown : s.vm.findClass "com/example/long_walk/longwalk/DecimalNameIndexValuePinLaw" = some m.cls := findClass_of_methodNamed Bd.named
  have hnm := (name_of_methodNamed Bd.named Bd.method).1
  have X0 : Stand p l e ({ frames := 0, cells := 0, slots := 0, locals := 0 } : Room) s m #[(.long q0), (.int p1), (.int p2), (.int p3)] below meth c s₁ [] 0 0 := Stand.of_body Bd
  have e0 : s₁.heap = h0 := by rw [← hh, Bd.state]; rfl
  have N0 := Fr.nil n0
  refine own_go (S' := s₁.setTop (mkF m 0 #[.val (.long q0), .second, .val (.int p1), .val (.int p2), .val (.int p3), .unset, .unset] [])) (fun tt0 kk0 => castTop (own_ef_rm1 m q0 p1 p2 p3) kk0) ?_
  refine own_go (S' := s₁.setTop (mkF m 4 #[.val (.long q0), .second, .val (.int p1), .val (.int p2), .val (.int p3), .unset, .unset] [(.int (8 : Int32)), (.int p3)])) (fun target kt => ?_) ?_
  · skip
    show Steps p.tables e below (s₁.setTop (mkF m 0 #[.val (.long q0), .second, .val (.int p1), .val (.int p2), .val (.int p3), .unset, .unset] [])) _
    refine XS.iload X0.here hx rfl (hb hby d1_0) rfl ?_
    show Steps p.tables e below (s₁.setTop (mkF m 2 #[.val (.long q0), .second, .val (.int p1), .val (.int p2), .val (.int p3), .unset, .unset] [(.int p3)])) _
    refine XS.bipush X0.here hx rfl (hb hby d1_2) ?_
    exact kt
  obtain ⟨raw, h_raw⟩ : ∃ z : Int32, z = (if p3 < (8 : Int32) then ((own_ushrL q0 ((8 : Int32) * p3)).toInt32) else (own_ushr p1 ((8 : Int32) * (p3 - (8 : Int32))))) := ⟨_, rfl⟩
  refine own_go (S' := s₁.setTop (mkF m 32 #[.val (.long q0), .second, .val (.int p1), .val (.int p2), .val (.int p3), .val (.int raw), .unset] [])) (fun target kt => ?_) ?_
  · skip
    by_cases hm4 : p3 < (8 : Int32)
    · skip
      show Steps p.tables e below (s₁.setTop (mkF m 4 #[.val (.long q0), .second, .val (.int p1), .val (.int p2), .val (.int p3), .unset, .unset] [(.int (8 : Int32)), (.int p3)])) _
      refine XS.icmpNo X0.here hx rfl (hb hby d1_4) rfl (tlt hm4).2.1 ?_
      show Steps p.tables e below (s₁.setTop (mkF m 7 #[.val (.long q0), .second, .val (.int p1), .val (.int p2), .val (.int p3), .unset, .unset] [])) _
      refine XS.lloadN X0.here hx rfl (hb hby d1_7) rfl ?_
      show Steps p.tables e below (s₁.setTop (mkF m 8 #[.val (.long q0), .second, .val (.int p1), .val (.int p2), .val (.int p3), .unset, .unset] [(.long q0)])) _
      refine XS.bipush X0.here hx rfl (hb hby d1_8) ?_
      show Steps p.tables e below (s₁.setTop (mkF m 10 #[.val (.long q0), .second, .val (.int p1), .val (.int p2), .val (.int p3), .unset, .unset] [(.int (8 : Int32)), (.long q0)])) _
      refine XS.iload X0.here hx rfl (hb hby d1_10) rfl ?_
      show Steps p.tables e below (s₁.setTop (mkF m 12 #[.val (.long q0), .second, .val (.int p1), .val (.int p2), .val (.int p3), .unset, .unset] [(.int p3), (.int (8 : Int32)), (.long q0)])) _
      refine XS.imul X0.here hx rfl (hb hby d1_12) rfl ?_
      show Steps p.tables e below (s₁.setTop (mkF m 13 #[.val (.long q0), .second, .val (.int p1), .val (.int p2), .val (.int p3), .unset, .unset] [(.int ((8 : Int32) * p3)), (.long q0)])) _
      refine XS.lushr X0.here hx rfl (hb hby d1_13) rfl ?_
      show Steps p.tables e below (s₁.setTop (mkF m 14 #[.val (.long q0), .second, .val (.int p1), .val (.int p2), .val (.int p3), .unset, .unset] [(.long (own_ushrL q0 ((8 : Int32) * p3)))])) _
      refine XS.l2i X0.here hx rfl (hb hby d1_14) rfl ?_
      show Steps p.tables e below (s₁.setTop (mkF m 15 #[.val (.long q0), .second, .val (.int p1), .val (.int p2), .val (.int p3), .unset, .unset] [(.int ((own_ushrL q0 ((8 : Int32) * p3)).toInt32))])) _
      refine XS.istore X0.here hx rfl (hb hby d1_15) rfl (l' := #[.val (.long q0), .second, .val (.int p1), .val (.int p2), .val (.int p3), .val (.int ((own_ushrL q0 ((8 : Int32) * p3)).toInt32)), .unset]) rfl ?_
      show Steps p.tables e below (s₁.setTop (mkF m 17 #[.val (.long q0), .second, .val (.int p1), .val (.int p2), .val (.int p3), .val (.int ((own_ushrL q0 ((8 : Int32) * p3)).toInt32)), .unset] [])) _
      refine XS.goto X0.here hx rfl (pc0 := 17) (pc' := 32) rfl (hb hby d1_17) (by decide) (by decide) ?_
      rw [h_raw, if_pos hm4] at kt
      exact kt
    · skip
      show Steps p.tables e below (s₁.setTop (mkF m 4 #[.val (.long q0), .second, .val (.int p1), .val (.int p2), .val (.int p3), .unset, .unset] [(.int (8 : Int32)), (.int p3)])) _
      refine XS.icmpYes X0.here hx rfl (pc0 := 4) (pc' := 20) rfl (hb hby d1_4) rfl (flt hm4).2.1 (by decide) (by decide) ?_
      show Steps p.tables e below (s₁.setTop (mkF m 20 #[.val (.long q0), .second, .val (.int p1), .val (.int p2), .val (.int p3), .unset, .unset] [])) _
      refine XS.iloadN X0.here hx rfl (hb hby d1_20) rfl ?_
      show Steps p.tables e below (s₁.setTop (mkF m 21 #[.val (.long q0), .second, .val (.int p1), .val (.int p2), .val (.int p3), .unset, .unset] [(.int p1)])) _
      refine XS.bipush X0.here hx rfl (hb hby d1_21) ?_
      show Steps p.tables e below (s₁.setTop (mkF m 23 #[.val (.long q0), .second, .val (.int p1), .val (.int p2), .val (.int p3), .unset, .unset] [(.int (8 : Int32)), (.int p1)])) _
      refine XS.iload X0.here hx rfl (hb hby d1_23) rfl ?_
      show Steps p.tables e below (s₁.setTop (mkF m 25 #[.val (.long q0), .second, .val (.int p1), .val (.int p2), .val (.int p3), .unset, .unset] [(.int p3), (.int (8 : Int32)), (.int p1)])) _
      refine XS.bipush X0.here hx rfl (hb hby d1_25) ?_
      show Steps p.tables e below (s₁.setTop (mkF m 27 #[.val (.long q0), .second, .val (.int p1), .val (.int p2), .val (.int p3), .unset, .unset] [(.int (8 : Int32)), (.int p3), (.int (8 : Int32)), (.int p1)])) _
      refine XS.isub X0.here hx rfl (hb hby d1_27) rfl ?_
      show Steps p.tables e below (s₁.setTop (mkF m 28 #[.val (.long q0), .second, .val (.int p1), .val (.int p2), .val (.int p3), .unset, .unset] [(.int (p3 - (8 : Int32))), (.int (8 : Int32)), (.int p1)])) _
      refine XS.imul X0.here hx rfl (hb hby d1_28) rfl ?_
      show Steps p.tables e below (s₁.setTop (mkF m 29 #[.val (.long q0), .second, .val (.int p1), .val (.int p2), .val (.int p3), .unset, .unset] [(.int ((8 : Int32) * (p3 - (8 : Int32)))), (.int p1)])) _
      refine XS.iushr X0.here hx rfl (hb hby d1_29) rfl ?_
      show Steps p.tables e below (s₁.setTop (mkF m 30 #[.val (.long q0), .second, .val (.int p1), .val (.int p2), .val (.int p3), .unset, .unset] [(.int (own_ushr p1 ((8 : Int32) * (p3 - (8 : Int32)))))])) _
      refine XS.istore X0.here hx rfl (hb hby d1_30) rfl (l' := #[.val (.long q0), .second, .val (.int p1), .val (.int p2), .val (.int p3), .val (.int (own_ushr p1 ((8 : Int32) * (p3 - (8 : Int32))))), .unset]) rfl ?_
      rw [h_raw, if_neg hm4] at kt
      exact kt
  obtain ⟨rr, h_rr⟩ : ∃ z : Int32, z = (raw &&& (255 : Int32)) := ⟨_, rfl⟩
  refine own_go (S' := s₁.setTop (mkF m 40 #[.val (.long q0), .second, .val (.int p1), .val (.int p2), .val (.int p3), .val (.int raw), .val (.int rr)] [])) (fun target kt => ?_) ?_
  · subst h_rr
    show Steps p.tables e below (s₁.setTop (mkF m 32 #[.val (.long q0), .second, .val (.int p1), .val (.int p2), .val (.int p3), .val (.int raw), .unset] [])) _
    refine XS.iload X0.here hx rfl (hb hby d1_32) rfl ?_
    show Steps p.tables e below (s₁.setTop (mkF m 34 #[.val (.long q0), .second, .val (.int p1), .val (.int p2), .val (.int p3), .val (.int raw), .unset] [(.int raw)])) _
    refine XS.sipush X0.here hx rfl (hb hby d1_34) ?_
    show Steps p.tables e below (s₁.setTop (mkF m 37 #[.val (.long q0), .second, .val (.int p1), .val (.int p2), .val (.int p3), .val (.int raw), .unset] [(.int (255 : Int32)), (.int raw)])) _
    refine XS.iand X0.here hx rfl (hb hby d1_37) rfl ?_
    show Steps p.tables e below (s₁.setTop (mkF m 38 #[.val (.long q0), .second, .val (.int p1), .val (.int p2), .val (.int p3), .val (.int raw), .unset] [(.int (raw &&& (255 : Int32)))])) _
    refine XS.istore X0.here hx rfl (hb hby d1_38) rfl (l' := #[.val (.long q0), .second, .val (.int p1), .val (.int p2), .val (.int p3), .val (.int raw), .val (.int (raw &&& (255 : Int32)))]) rfl ?_
    exact kt
  refine own_go (S' := s₁.setTop (mkF m 46 #[.val (.long q0), .second, .val (.int p1), .val (.int p2), .val (.int p3), .val (.int raw), .val (.int rr)] [(.int ((own_ushr p2 p3) &&& (1 : Int32)))])) (fun target kt => ?_) ?_
  · skip
    show Steps p.tables e below (s₁.setTop (mkF m 40 #[.val (.long q0), .second, .val (.int p1), .val (.int p2), .val (.int p3), .val (.int raw), .val (.int rr)] [])) _
    refine XS.iloadN X0.here hx rfl (hb hby d1_40) rfl ?_
    show Steps p.tables e below (s₁.setTop (mkF m 41 #[.val (.long q0), .second, .val (.int p1), .val (.int p2), .val (.int p3), .val (.int raw), .val (.int rr)] [(.int p2)])) _
    refine XS.iload X0.here hx rfl (hb hby d1_41) rfl ?_
    show Steps p.tables e below (s₁.setTop (mkF m 43 #[.val (.long q0), .second, .val (.int p1), .val (.int p2), .val (.int p3), .val (.int raw), .val (.int rr)] [(.int p3), (.int p2)])) _
    refine XS.iushr X0.here hx rfl (hb hby d1_43) rfl ?_
    show Steps p.tables e below (s₁.setTop (mkF m 44 #[.val (.long q0), .second, .val (.int p1), .val (.int p2), .val (.int p3), .val (.int raw), .val (.int rr)] [(.int (own_ushr p2 p3))])) _
    refine XS.iconst X0.here hx rfl (hb hby d1_44) ?_
    show Steps p.tables e below (s₁.setTop (mkF m 45 #[.val (.long q0), .second, .val (.int p1), .val (.int p2), .val (.int p3), .val (.int raw), .val (.int rr)] [(.int (1 : Int32)), (.int (own_ushr p2 p3))])) _
    refine XS.iand X0.here hx rfl (hb hby d1_45) rfl ?_
    exact kt
  by_cases hc46 : ((own_ushr p2 p3) &&& (1 : Int32)) = (0 : Int32)
  · skip
    refine own_go (S' := s₁.setTop (mkF m 62 #[.val (.long q0), .second, .val (.int p1), .val (.int p2), .val (.int p3), .val (.int raw), .val (.int rr)] [(.int (rr.toInt8.toInt32))])) (fun target kt => ?_) ?_
    · skip
      show Steps p.tables e below (s₁.setTop (mkF m 46 #[.val (.long q0), .second, .val (.int p1), .val (.int p2), .val (.int p3), .val (.int raw), .val (.int rr)] [(.int ((own_ushr p2 p3) &&& (1 : Int32)))])) _
      refine XS.ifYes X0.here hx rfl (pc0 := 46) (pc' := 59) rfl (hb hby d1_46) rfl ((if0 _ _).trans (teq hc46).1) (by decide) (by decide) ?_
      show Steps p.tables e below (s₁.setTop (mkF m 59 #[.val (.long q0), .second, .val (.int p1), .val (.int p2), .val (.int p3), .val (.int raw), .val (.int rr)] [])) _
      refine XS.iload X0.here hx rfl (hb hby d1_59) rfl ?_
      show Steps p.tables e below (s₁.setTop (mkF m 61 #[.val (.long q0), .second, .val (.int p1), .val (.int p2), .val (.int p3), .val (.int raw), .val (.int rr)] [(.int rr)])) _
      refine XS.i2b X0.here hx rfl (hb hby d1_61) rfl ?_
      exact kt
    obtain ⟨fs, hr, hrun, hended, hW, hsame⟩ := X0.leave (v := some (.int (nar .byte (rr.toInt8.toInt32)))) (fun h => by rw [Bd.returns] at h; cases h)
    refine ⟨_, _, ?_, hrun, hended, _, _, rfl, ?_, ⟨_, rfl⟩, hW, hsame.mono (by decide) (by decide)⟩
    · exact retN X0 hx (t := .byte) Bd.returns (by simp) (hb hby d1_62) hr
    · show Q1 Z q0 p1 p2 p3 h0 n0 _ s₁.heap _
      rw [e0]
      exact ⟨(nar .byte (rr.toInt8.toInt32)), rfl, N0, rfl⟩
  · skip
    refine own_go (S' := s₁.setTop (mkF m 58 #[.val (.long q0), .second, .val (.int p1), .val (.int p2), .val (.int p3), .val (.int raw), .val (.int rr)] [(.int (((48 : Int32) + (rr % (10 : Int32))).toInt8.toInt32))])) (fun target kt => ?_) ?_
    · skip
      show Steps p.tables e below (s₁.setTop (mkF m 46 #[.val (.long q0), .second, .val (.int p1), .val (.int p2), .val (.int p3), .val (.int raw), .val (.int rr)] [(.int ((own_ushr p2 p3) &&& (1 : Int32)))])) _
      refine XS.ifNo X0.here hx rfl (hb hby d1_46) rfl ((if0 _ _).trans (feq hc46).1) ?_
      show Steps p.tables e below (s₁.setTop (mkF m 49 #[.val (.long q0), .second, .val (.int p1), .val (.int p2), .val (.int p3), .val (.int raw), .val (.int rr)] [])) _
      refine XS.bipush X0.here hx rfl (hb hby d1_49) ?_
      show Steps p.tables e below (s₁.setTop (mkF m 51 #[.val (.long q0), .second, .val (.int p1), .val (.int p2), .val (.int p3), .val (.int raw), .val (.int rr)] [(.int (48 : Int32))])) _
      refine XS.iload X0.here hx rfl (hb hby d1_51) rfl ?_
      show Steps p.tables e below (s₁.setTop (mkF m 53 #[.val (.long q0), .second, .val (.int p1), .val (.int p2), .val (.int p3), .val (.int raw), .val (.int rr)] [(.int rr), (.int (48 : Int32))])) _
      refine XS.bipush X0.here hx rfl (hb hby d1_53) ?_
      show Steps p.tables e below (s₁.setTop (mkF m 55 #[.val (.long q0), .second, .val (.int p1), .val (.int p2), .val (.int p3), .val (.int raw), .val (.int rr)] [(.int (10 : Int32)), (.int rr), (.int (48 : Int32))])) _
      refine iremM (g := (mkF m 55 #[.val (.long q0), .second, .val (.int p1), .val (.int p2), .val (.int p3), .val (.int raw), .val (.int rr)] [(.int (10 : Int32)), (.int rr), (.int (48 : Int32))])) X0 hx rfl (hb hby d1_55) rfl (by decide) ?_
      show Steps p.tables e below (s₁.setTop (mkF m 56 #[.val (.long q0), .second, .val (.int p1), .val (.int p2), .val (.int p3), .val (.int raw), .val (.int rr)] [(.int (rr % (10 : Int32))), (.int (48 : Int32))])) _
      refine XS.iadd X0.here hx rfl (hb hby d1_56) rfl ?_
      show Steps p.tables e below (s₁.setTop (mkF m 57 #[.val (.long q0), .second, .val (.int p1), .val (.int p2), .val (.int p3), .val (.int raw), .val (.int rr)] [(.int ((48 : Int32) + (rr % (10 : Int32))))])) _
      refine XS.i2b X0.here hx rfl (hb hby d1_57) rfl ?_
      exact kt
    obtain ⟨fs, hr, hrun, hended, hW, hsame⟩ := X0.leave (v := some (.int (nar .byte (((48 : Int32) + (rr % (10 : Int32))).toInt8.toInt32)))) (fun h => by rw [Bd.returns] at h; cases h)
    refine ⟨_, _, ?_, hrun, hended, _, _, rfl, ?_, ⟨_, rfl⟩, hW, hsame.mono (by decide) (by decide)⟩
    · exact retN X0 hx (t := .byte) Bd.returns (by simp) (hb hby d1_58) hr
    · show Q1 Z q0 p1 p2 p3 h0 n0 _ s₁.heap _
      rw [e0]
      exact ⟨(nar .byte (((48 : Int32) + (rr % (10 : Int32))).toInt8.toInt32)), rfl, N0, rfl⟩
theorem d4_0 : decode method_3_code 0 = .ok (.iload_n 0, 1) := by decide +kernel
theorem d4_1 : decode method_3_code 1 = .ok (.bipush 48, 2) := by decide +kernel
theorem d4_3 : decode method_3_code 3 = .ok (.if_icmp .lt 13, 3) := by decide +kernel
theorem d4_6 : decode method_3_code 6 = .ok (.iload_n 0, 1) := by decide +kernel
theorem d4_7 : decode method_3_code 7 = .ok (.bipush 57, 2) := by decide +kernel
theorem d4_9 : decode method_3_code 9 = .ok (.if_icmp .gt 7, 3) := by decide +kernel
theorem d4_12 : decode method_3_code 12 = .ok (.iconst 1, 1) := by decide +kernel
theorem d4_13 : decode method_3_code 13 = .ok (.goto 4, 3) := by decide +kernel
theorem d4_16 : decode method_3_code 16 = .ok (.iconst 0, 1) := by decide +kernel
theorem d4_17 : decode method_3_code 17 = .ok (.ireturn, 1) := by decide +kernel
def own_isDigit (p0 : Int32) : Int32 := (if p0 < (48 : Int32) then (0 : Int32) else (if (57 : Int32) < p0 then (0 : Int32) else (1 : Int32)))
set_option maxHeartbeats 40000000 in
theorem own_ef_rm4 (m : MethodId) (x0 : Int32) : entryFrame m #[(.int x0)] 1 = mkF m 0 #[.val (.int x0)] [] := by first | (simp [entryFrame, mkF, argsToLocals, Value.category]; done) | rfl
def Q4 (Z : State) (p0 : Int32) (h0 : Heap) (n0 : Nat) (v : Option Value) (h : Heap) (L : List Loc) : Prop := v = some (.int (own_isDigit p0)) ∧ Fr n0 L ∧ h = h0
set_option maxRecDepth 65536 in
set_option maxHeartbeats 40000000 in
theorem rm4 (l : Launch) (Z : State) (aZ : Array Value) (hw : ∀ d ∈ tables_1, d.before aZ Z = true) (ws : List Jvm.Cond) (p0 : Int32) (h0 : Heap) (n0 : Nat) (Z0 : n0 ≤ h0.size) :
    MetFree l (⟨"com/example/long_walk/longwalk/DecimalNameIndexValuePinLaw", "isDigit", "(B)Z"⟩ : MethodName) (head1 (Jvm.Cond.code (⟨"com/example/long_walk/longwalk/DecimalNameIndexValuePinLaw", "isDigit", "(B)Z"⟩ : MethodName) method_3_code 1 (some .boolean) :: ws) ({ frames := 0, cells := 0, slots := 0, locals := 0 } : Room)) (fun a U => a = #[(.int p0)] ∧ Z.Warmed39 U.vm ∧ U.heap = h0) (fun _ _ _ _ _ => True) (fun _ U o U' => ∃ v L, o = .returned v ∧ Q4 Z p0 h0 n0 v U'.heap L ∧ FrameEnd U o U' L ({ frames := 0, cells := 0, slots := 0, locals := 0 } : Room).cells ({ frames := 0, cells := 0, slots := 0, locals := 0 } : Room).slots) := by
  refine MetFree.of_bodySF (plainFor_of_name own_pn0) hisR ?_
  intro p e s m args below meth c s₁ Bd hml0 hP hK
  obtain ⟨rfl, hZ, hh⟩ := hP
  have hx := Bd.exec
  have hby := Bd.bytes
  have hml : c.maxLocals = 1 := hml0
  have hown : s.vm.findClass "com/example/long_walk/longwalk/DecimalNameIndexValuePinLaw" = some m.cls := findClass_of_methodNamed Bd.named
  have hnm := (name_of_methodNamed Bd.named Bd.method).1
  have X0 : Stand p l e ({ frames := 0, cells := 0, slots := 0, locals := 0 } : Room) s m #[(.int p0)] below meth c s₁ [] 0 0 := Stand.of_body Bd
  have e0 : s₁.heap = h0 := by rw [← hh, Bd.state]; rfl
  have N0 := Fr.nil n0
  refine own_go (S' := s₁.setTop (mkF m 0 #[.val (.int p0)] [])) (fun tt0 kk0 => castTop (own_ef_rm4 m p0) kk0) ?_
  refine own_go (S' := s₁.setTop (mkF m 3 #[.val (.int p0)] [(.int (48 : Int32)), (.int p0)])) (fun target kt => ?_) ?_
  · skip
    show Steps p.tables e below (s₁.setTop (mkF m 0 #[.val (.int p0)] [])) _
    refine XS.iloadN X0.here hx rfl (hb hby d4_0) rfl ?_
    show Steps p.tables e below (s₁.setTop (mkF m 1 #[.val (.int p0)] [(.int p0)])) _
    refine XS.bipush X0.here hx rfl (hb hby d4_1) ?_
    exact kt
  by_cases hc3 : p0 < (48 : Int32)
  · skip
    refine own_go (S' := s₁.setTop (mkF m 17 #[.val (.int p0)] [(.int (0 : Int32))])) (fun target kt => ?_) ?_
    · skip
      show Steps p.tables e below (s₁.setTop (mkF m 3 #[.val (.int p0)] [(.int (48 : Int32)), (.int p0)])) _
      refine XS.icmpYes X0.here hx rfl (pc0 := 3) (pc' := 16) rfl (hb hby d4_3) rfl (tlt hc3).1 (by decide) (by decide) ?_
      show Steps p.tables e below (s₁.setTop (mkF m 16 #[.val (.int p0)] [])) _
      refine XS.iconst X0.here hx rfl (hb hby d4_16) ?_
      exact kt
    obtain ⟨fs, hr, hrun, hended, hW, hsame⟩ := X0.leave (v := some (.int (0 : Int32))) (fun h => by rw [Bd.returns] at h; cases h)
    refine ⟨_, _, ?_, hrun, hended, _, _, rfl, ?_, ⟨_, rfl⟩, hW, hsame.mono (by decide) (by decide)⟩
    · exact retN X0 hx (t := .boolean) Bd.returns (by simp) (hb hby d4_17) hr
    · show Q4 Z p0 h0 n0 _ s₁.heap _
      rw [e0]
      exact ⟨(by (first | (simp only [own_isDigit, if_pos hc3]; done) | (simp [own_isDigit, if_pos hc3]; done) | rfl)), N0, rfl⟩
  · skip
    refine own_go (S' := s₁.setTop (mkF m 9 #[.val (.int p0)] [(.int (57 : Int32)), (.int p0)])) (fun target kt => ?_) ?_
    · skip
      show Steps p.tables e below (s₁.setTop (mkF m 3 #[.val (.int p0)] [(.int (48 : Int32)), (.int p0)])) _
      refine XS.icmpNo X0.here hx rfl (hb hby d4_3) rfl (flt hc3).1 ?_
      show Steps p.tables e below (s₁.setTop (mkF m 6 #[.val (.int p0)] [])) _
      refine XS.iloadN X0.here hx rfl (hb hby d4_6) rfl ?_
      show Steps p.tables e below (s₁.setTop (mkF m 7 #[.val (.int p0)] [(.int p0)])) _
      refine XS.bipush X0.here hx rfl (hb hby d4_7) ?_
      exact kt
    by_cases hc9 : (57 : Int32) < p0
    · skip
      refine own_go (S' := s₁.setTop (mkF m 17 #[.val (.int p0)] [(.int (0 : Int32))])) (fun target kt => ?_) ?_
      · skip
        show Steps p.tables e below (s₁.setTop (mkF m 9 #[.val (.int p0)] [(.int (57 : Int32)), (.int p0)])) _
        refine XS.icmpYes X0.here hx rfl (pc0 := 9) (pc' := 16) rfl (hb hby d4_9) rfl (tlt hc9).2.2.1 (by decide) (by decide) ?_
        show Steps p.tables e below (s₁.setTop (mkF m 16 #[.val (.int p0)] [])) _
        refine XS.iconst X0.here hx rfl (hb hby d4_16) ?_
        exact kt
      obtain ⟨fs, hr, hrun, hended, hW, hsame⟩ := X0.leave (v := some (.int (0 : Int32))) (fun h => by rw [Bd.returns] at h; cases h)
      refine ⟨_, _, ?_, hrun, hended, _, _, rfl, ?_, ⟨_, rfl⟩, hW, hsame.mono (by decide) (by decide)⟩
      · exact retN X0 hx (t := .boolean) Bd.returns (by simp) (hb hby d4_17) hr
      · show Q4 Z p0 h0 n0 _ s₁.heap _
        rw [e0]
        exact ⟨(by (first | (simp only [own_isDigit, if_neg hc3, if_pos hc9]; done) | (simp [own_isDigit, if_neg hc3, if_pos hc9]; done) | rfl)), N0, rfl⟩
    · skip
      refine own_go (S' := s₁.setTop (mkF m 17 #[.val (.int p0)] [(.int (1 : Int32))])) (fun target kt => ?_) ?_
      · skip
        show Steps p.tables e below (s₁.setTop (mkF m 9 #[.val (.int p0)] [(.int (57 : Int32)), (.int p0)])) _
        refine XS.icmpNo X0.here hx rfl (hb hby d4_9) rfl (flt hc9).2.2.1 ?_
        show Steps p.tables e below (s₁.setTop (mkF m 12 #[.val (.int p0)] [])) _
        refine XS.iconst X0.here hx rfl (hb hby d4_12) ?_
        show Steps p.tables e below (s₁.setTop (mkF m 13 #[.val (.int p0)] [(.int (1 : Int32))])) _
        refine XS.goto X0.here hx rfl (pc0 := 13) (pc' := 17) rfl (hb hby d4_13) (by decide) (by decide) ?_
        exact kt
      obtain ⟨fs, hr, hrun, hended, hW, hsame⟩ := X0.leave (v := some (.int (1 : Int32))) (fun h => by rw [Bd.returns] at h; cases h)
      refine ⟨_, _, ?_, hrun, hended, _, _, rfl, ?_, ⟨_, rfl⟩, hW, hsame.mono (by decide) (by decide)⟩
      · exact retN X0 hx (t := .boolean) Bd.returns (by simp) (hb hby d4_17) hr
      · show Q4 Z p0 h0 n0 _ s₁.heap _
        rw [e0]
        exact ⟨(by (first | (simp only [own_isDigit, if_neg hc3, if_neg hc9]; done) | (simp [own_isDigit, if_neg hc3, if_neg hc9]; done) | rfl)), N0, rfl⟩
theorem d6_0 : decode method_4_code 0 = .ok (.iload_n 0, 1) := by decide +kernel
theorem d6_1 : decode method_4_code 1 = .ok (.ifCond .ne 5, 3) := by decide +kernel
theorem d6_4 : decode method_4_code 4 = .ok (.iconst 1, 1) := by decide +kernel
theorem d6_5 : decode method_4_code 5 = .ok (.ireturn, 1) := by decide +kernel
theorem d6_6 : decode method_4_code 6 = .ok (.iload_n 0, 1) := by decide +kernel
theorem d6_7 : decode method_4_code 7 = .ok (.iconst 1, 1) := by decide +kernel
theorem d6_8 : decode method_4_code 8 = .ok (.if_icmp .ne 6, 3) := by decide +kernel
theorem d6_11 : decode method_4_code 11 = .ok (.bipush 10, 2) := by decide +kernel
theorem d6_13 : decode method_4_code 13 = .ok (.ireturn, 1) := by decide +kernel
theorem d6_14 : decode method_4_code 14 = .ok (.iload_n 0, 1) := by decide +kernel
theorem d6_15 : decode method_4_code 15 = .ok (.iconst 2, 1) := by decide +kernel
theorem d6_16 : decode method_4_code 16 = .ok (.if_icmp .ne 6, 3) := by decide +kernel
theorem d6_19 : decode method_4_code 19 = .ok (.bipush 100, 2) := by decide +kernel
theorem d6_21 : decode method_4_code 21 = .ok (.ireturn, 1) := by decide +kernel
theorem d6_22 : decode method_4_code 22 = .ok (.iload_n 0, 1) := by decide +kernel
theorem d6_23 : decode method_4_code 23 = .ok (.iconst 3, 1) := by decide +kernel
theorem d6_24 : decode method_4_code 24 = .ok (.if_icmp .ne 7, 3) := by decide +kernel
theorem d6_27 : decode method_4_code 27 = .ok (.sipush 1000, 3) := by decide +kernel
theorem d6_30 : decode method_4_code 30 = .ok (.ireturn, 1) := by decide +kernel
theorem d6_31 : decode method_4_code 31 = .ok (.iload_n 0, 1) := by decide +kernel
theorem d6_32 : decode method_4_code 32 = .ok (.iconst 4, 1) := by decide +kernel
theorem d6_33 : decode method_4_code 33 = .ok (.if_icmp .ne 7, 3) := by decide +kernel
theorem d6_36 : decode method_4_code 36 = .ok (.sipush 10000, 3) := by decide +kernel
theorem d6_39 : decode method_4_code 39 = .ok (.ireturn, 1) := by decide +kernel
theorem d6_40 : decode method_4_code 40 = .ok (.iload_n 0, 1) := by decide +kernel
theorem d6_41 : decode method_4_code 41 = .ok (.iconst 5, 1) := by decide +kernel
theorem d6_42 : decode method_4_code 42 = .ok (.if_icmp .ne 6, 3) := by decide +kernel
theorem d6_45 : decode method_4_code 45 = .ok (.ldc 7, 2) := by decide +kernel
theorem d6_47 : decode method_4_code 47 = .ok (.ireturn, 1) := by decide +kernel
theorem d6_48 : decode method_4_code 48 = .ok (.iload_n 0, 1) := by decide +kernel
theorem d6_49 : decode method_4_code 49 = .ok (.bipush 6, 2) := by decide +kernel
theorem d6_51 : decode method_4_code 51 = .ok (.if_icmp .ne 6, 3) := by decide +kernel
theorem d6_54 : decode method_4_code 54 = .ok (.ldc 8, 2) := by decide +kernel
theorem d6_56 : decode method_4_code 56 = .ok (.ireturn, 1) := by decide +kernel
theorem d6_57 : decode method_4_code 57 = .ok (.iload_n 0, 1) := by decide +kernel
theorem d6_58 : decode method_4_code 58 = .ok (.bipush 7, 2) := by decide +kernel
theorem d6_60 : decode method_4_code 60 = .ok (.if_icmp .ne 6, 3) := by decide +kernel
theorem d6_63 : decode method_4_code 63 = .ok (.ldc 9, 2) := by decide +kernel
theorem d6_65 : decode method_4_code 65 = .ok (.ireturn, 1) := by decide +kernel
theorem d6_66 : decode method_4_code 66 = .ok (.iload_n 0, 1) := by decide +kernel
theorem d6_67 : decode method_4_code 67 = .ok (.bipush 8, 2) := by decide +kernel
theorem d6_69 : decode method_4_code 69 = .ok (.if_icmp .ne 6, 3) := by decide +kernel
theorem d6_72 : decode method_4_code 72 = .ok (.ldc 10, 2) := by decide +kernel
theorem d6_74 : decode method_4_code 74 = .ok (.ireturn, 1) := by decide +kernel
theorem d6_75 : decode method_4_code 75 = .ok (.iconst 0, 1) := by decide +kernel
theorem d6_76 : decode method_4_code 76 = .ok (.ireturn, 1) := by decide +kernel
def own_pow10 (p0 : Int32) : Int32 := (if p0 = (0 : Int32) then (1 : Int32) else (if p0 = (1 : Int32) then (10 : Int32) else (if p0 = (2 : Int32) then (100 : Int32) else (if p0 = (3 : Int32) then (1000 : Int32) else (if p0 = (4 : Int32) then (10000 : Int32) else (if p0 = (5 : Int32) then (100000 : Int32) else (if p0 = (6 : Int32) then (1000000 : Int32) else (if p0 = (7 : Int32) then (10000000 : Int32) else (if p0 = (8 : Int32) then (100000000 : Int32) else (0 : Int32))))))))))
set_option maxHeartbeats 40000000 in
theorem own_ef_rm6 (m : MethodId) (x0 : Int32) : entryFrame m #[(.int x0)] 1 = mkF m 0 #[.val (.int x0)] [] := by first | (simp [entryFrame, mkF, argsToLocals, Value.category]; done) | rfl
def Q6 (Z : State) (p0 : Int32) (h0 : Heap) (n0 : Nat) (v : Option Value) (h : Heap) (L : List Loc) : Prop := v = some (.int (own_pow10 p0)) ∧ Fr n0 L ∧ h = h0
set_option maxRecDepth 65536 in
set_option maxHeartbeats 40000000 in
theorem rm6 (l : Launch) (Z : State) (aZ : Array Value) (hw : ∀ d ∈ tables_1, d.before aZ Z = true) (ws : List Jvm.Cond) (p0 : Int32) (h0 : Heap) (n0 : Nat) (Z0 : n0 ≤ h0.size) :
    MetFree l (⟨"com/example/long_walk/longwalk/DecimalNameIndexValuePinLaw", "pow10", "(I)I"⟩ : MethodName) (head1 (Jvm.Cond.code (⟨"com/example/long_walk/longwalk/DecimalNameIndexValuePinLaw", "pow10", "(I)I"⟩ : MethodName) method_4_code 1 (some .int) :: ws) ({ frames := 0, cells := 0, slots := 0, locals := 0 } : Room)) (fun a U => a = #[(.int p0)] ∧ Z.Warmed39 U.vm ∧ U.heap = h0) (fun _ _ _ _ _ => True) (fun _ U o U' => ∃ v L, o = .returned v ∧ Q6 Z p0 h0 n0 v U'.heap L ∧ FrameEnd U o U' L ({ frames := 0, cells := 0, slots := 0, locals := 0 } : Room).cells ({ frames := 0, cells := 0, slots := 0, locals := 0 } : Room).slots) := by
  refine MetFree.of_bodySF (plainFor_of_name own_pn0) hisR ?_
  intro p e s m args below meth c s₁ Bd hml0 hP hK
  obtain ⟨rfl, hZ, hh⟩ := hP
  have hx := Bd.exec
  have hby := Bd.bytes
  have hml : c.maxLocals = 1 := hml0
  have hown : s.vm.findClass "com/example/long_walk/longwalk/DecimalNameIndexValuePinLaw" = some m.cls := findClass_of_methodNamed Bd.named
  have hnm := (name_of_methodNamed Bd.named Bd.method).1
  have X0 : Stand p l e ({ frames := 0, cells := 0, slots := 0, locals := 0 } : Room) s m #[(.int p0)] below meth c s₁ [] 0 0 := Stand.of_body Bd
  have e0 : s₁.heap = h0 := by rw [← hh, Bd.state]; rfl
  have N0 := Fr.nil n0
  refine own_go (S' := s₁.setTop (mkF m 0 #[.val (.int p0)] [])) (fun tt0 kk0 => castTop (own_ef_rm6 m p0) kk0) ?_
  refine own_go (S' := s₁.setTop (mkF m 1 #[.val (.int p0)] [(.int p0)])) (fun target kt => ?_) ?_
  · skip
    show Steps p.tables e below (s₁.setTop (mkF m 0 #[.val (.int p0)] [])) _
    refine XS.iloadN X0.here hx rfl (hb hby d6_0) rfl ?_
    exact kt
  by_cases hc1 : p0 = (0 : Int32)
  · skip
    refine own_go (S' := s₁.setTop (mkF m 5 #[.val (.int p0)] [(.int (1 : Int32))])) (fun target kt => ?_) ?_
    · skip
      show Steps p.tables e below (s₁.setTop (mkF m 1 #[.val (.int p0)] [(.int p0)])) _
      refine XS.ifNo X0.here hx rfl (hb hby d6_1) rfl ((if0 _ _).trans (teq hc1).2) ?_
      show Steps p.tables e below (s₁.setTop (mkF m 4 #[.val (.int p0)] [])) _
      refine XS.iconst X0.here hx rfl (hb hby d6_4) ?_
      exact kt
    obtain ⟨fs, hr, hrun, hended, hW, hsame⟩ := X0.leave (v := some (.int (1 : Int32))) (fun h => by rw [Bd.returns] at h; cases h)
    refine ⟨_, _, ?_, hrun, hended, _, _, rfl, ?_, ⟨_, rfl⟩, hW, hsame.mono (by decide) (by decide)⟩
    · exact retI X0 hx Bd.returns (hb hby d6_5) hr
    · show Q6 Z p0 h0 n0 _ s₁.heap _
      rw [e0]
      exact ⟨(by (first | (simp only [own_pow10, if_pos hc1]; done) | (simp [own_pow10, if_pos hc1]; done) | rfl)), N0, rfl⟩
  · skip
    refine own_go (S' := s₁.setTop (mkF m 8 #[.val (.int p0)] [(.int (1 : Int32)), (.int p0)])) (fun target kt => ?_) ?_
    · skip
      show Steps p.tables e below (s₁.setTop (mkF m 1 #[.val (.int p0)] [(.int p0)])) _
      refine XS.ifYes X0.here hx rfl (pc0 := 1) (pc' := 6) rfl (hb hby d6_1) rfl ((if0 _ _).trans (feq hc1).2) (by decide) (by decide) ?_
      show Steps p.tables e below (s₁.setTop (mkF m 6 #[.val (.int p0)] [])) _
      refine XS.iloadN X0.here hx rfl (hb hby d6_6) rfl ?_
      show Steps p.tables e below (s₁.setTop (mkF m 7 #[.val (.int p0)] [(.int p0)])) _
      refine XS.iconst X0.here hx rfl (hb hby d6_7) ?_
      exact kt
    by_cases hc8 : p0 = (1 : Int32)
    · skip
      refine own_go (S' := s₁.setTop (mkF m 13 #[.val (.int p0)] [(.int (10 : Int32))])) (fun target kt => ?_) ?_
      · skip
        show Steps p.tables e below (s₁.setTop (mkF m 8 #[.val (.int p0)] [(.int (1 : Int32)), (.int p0)])) _
        refine XS.icmpNo X0.here hx rfl (hb hby d6_8) rfl (teq hc8).2 ?_
        show Steps p.tables e below (s₁.setTop (mkF m 11 #[.val (.int p0)] [])) _
        refine XS.bipush X0.here hx rfl (hb hby d6_11) ?_
        exact kt
      obtain ⟨fs, hr, hrun, hended, hW, hsame⟩ := X0.leave (v := some (.int (10 : Int32))) (fun h => by rw [Bd.returns] at h; cases h)
      refine ⟨_, _, ?_, hrun, hended, _, _, rfl, ?_, ⟨_, rfl⟩, hW, hsame.mono (by decide) (by decide)⟩
      · exact retI X0 hx Bd.returns (hb hby d6_13) hr
      · show Q6 Z p0 h0 n0 _ s₁.heap _
        rw [e0]
        exact ⟨(by (first | (simp only [own_pow10, if_neg hc1, if_pos hc8]; done) | (simp [own_pow10, if_neg hc1, if_pos hc8]; done) | rfl)), N0, rfl⟩
    · skip
      refine own_go (S' := s₁.setTop (mkF m 16 #[.val (.int p0)] [(.int (2 : Int32)), (.int p0)])) (fun target kt => ?_) ?_
      · skip
        show Steps p.tables e below (s₁.setTop (mkF m 8 #[.val (.int p0)] [(.int (1 : Int32)), (.int p0)])) _
        refine XS.icmpYes X0.here hx rfl (pc0 := 8) (pc' := 14) rfl (hb hby d6_8) rfl (feq hc8).2 (by decide) (by decide) ?_
        show Steps p.tables e below (s₁.setTop (mkF m 14 #[.val (.int p0)] [])) _
        refine XS.iloadN X0.here hx rfl (hb hby d6_14) rfl ?_
        show Steps p.tables e below (s₁.setTop (mkF m 15 #[.val (.int p0)] [(.int p0)])) _
        refine XS.iconst X0.here hx rfl (hb hby d6_15) ?_
        exact kt
      by_cases hc16 : p0 = (2 : Int32)
      · skip
        refine own_go (S' := s₁.setTop (mkF m 21 #[.val (.int p0)] [(.int (100 : Int32))])) (fun target kt => ?_) ?_
        · skip
          show Steps p.tables e below (s₁.setTop (mkF m 16 #[.val (.int p0)] [(.int (2 : Int32)), (.int p0)])) _
          refine XS.icmpNo X0.here hx rfl (hb hby d6_16) rfl (teq hc16).2 ?_
          show Steps p.tables e below (s₁.setTop (mkF m 19 #[.val (.int p0)] [])) _
          refine XS.bipush X0.here hx rfl (hb hby d6_19) ?_
          exact kt
        obtain ⟨fs, hr, hrun, hended, hW, hsame⟩ := X0.leave (v := some (.int (100 : Int32))) (fun h => by rw [Bd.returns] at h; cases h)
        refine ⟨_, _, ?_, hrun, hended, _, _, rfl, ?_, ⟨_, rfl⟩, hW, hsame.mono (by decide) (by decide)⟩
        · exact retI X0 hx Bd.returns (hb hby d6_21) hr
        · show Q6 Z p0 h0 n0 _ s₁.heap _
          rw [e0]
          exact ⟨(by (first | (simp only [own_pow10, if_neg hc1, if_neg hc8, if_pos hc16]; done) | (simp [own_pow10, if_neg hc1, if_neg hc8, if_pos hc16]; done) | rfl)), N0, rfl⟩
      · skip
        refine own_go (S' := s₁.setTop (mkF m 24 #[.val (.int p0)] [(.int (3 : Int32)), (.int p0)])) (fun target kt => ?_) ?_
        · skip
          show Steps p.tables e below (s₁.setTop (mkF m 16 #[.val (.int p0)] [(.int (2 : Int32)), (.int p0)])) _
          refine XS.icmpYes X0.here hx rfl (pc0 := 16) (pc' := 22) rfl (hb hby d6_16) rfl (feq hc16).2 (by decide) (by decide) ?_
          show Steps p.tables e below (s₁.setTop (mkF m 22 #[.val (.int p0)] [])) _
          refine XS.iloadN X0.here hx rfl (hb hby d6_22) rfl ?_
          show Steps p.tables e below (s₁.setTop (mkF m 23 #[.val (.int p0)] [(.int p0)])) _
          refine XS.iconst X0.here hx rfl (hb hby d6_23) ?_
          exact kt
        by_cases hc24 : p0 = (3 : Int32)
        · skip
          refine own_go (S' := s₁.setTop (mkF m 30 #[.val (.int p0)] [(.int (1000 : Int32))])) (fun target kt => ?_) ?_
          · skip
            show Steps p.tables e below (s₁.setTop (mkF m 24 #[.val (.int p0)] [(.int (3 : Int32)), (.int p0)])) _
            refine XS.icmpNo X0.here hx rfl (hb hby d6_24) rfl (teq hc24).2 ?_
            show Steps p.tables e below (s₁.setTop (mkF m 27 #[.val (.int p0)] [])) _
            refine XS.sipush X0.here hx rfl (hb hby d6_27) ?_
            exact kt
          obtain ⟨fs, hr, hrun, hended, hW, hsame⟩ := X0.leave (v := some (.int (1000 : Int32))) (fun h => by rw [Bd.returns] at h; cases h)
          refine ⟨_, _, ?_, hrun, hended, _, _, rfl, ?_, ⟨_, rfl⟩, hW, hsame.mono (by decide) (by decide)⟩
          · exact retI X0 hx Bd.returns (hb hby d6_30) hr
          · show Q6 Z p0 h0 n0 _ s₁.heap _
            rw [e0]
            exact ⟨(by (first | (simp only [own_pow10, if_neg hc1, if_neg hc8, if_neg hc16, if_pos hc24]; done) | (simp [own_pow10, if_neg hc1, if_neg hc8, if_neg hc16, if_pos hc24]; done) | rfl)), N0, rfl⟩
        · skip
          refine own_go (S' := s₁.setTop (mkF m 33 #[.val (.int p0)] [(.int (4 : Int32)), (.int p0)])) (fun target kt => ?_) ?_
          · skip
            show Steps p.tables e below (s₁.setTop (mkF m 24 #[.val (.int p0)] [(.int (3 : Int32)), (.int p0)])) _
            refine XS.icmpYes X0.here hx rfl (pc0 := 24) (pc' := 31) rfl (hb hby d6_24) rfl (feq hc24).2 (by decide) (by decide) ?_
            show Steps p.tables e below (s₁.setTop (mkF m 31 #[.val (.int p0)] [])) _
            refine XS.iloadN X0.here hx rfl (hb hby d6_31) rfl ?_
            show Steps p.tables e below (s₁.setTop (mkF m 32 #[.val (.int p0)] [(.int p0)])) _
            refine XS.iconst X0.here hx rfl (hb hby d6_32) ?_
            exact kt
          by_cases hc33 : p0 = (4 : Int32)
          · skip
            refine own_go (S' := s₁.setTop (mkF m 39 #[.val (.int p0)] [(.int (10000 : Int32))])) (fun target kt => ?_) ?_
            · skip
              show Steps p.tables e below (s₁.setTop (mkF m 33 #[.val (.int p0)] [(.int (4 : Int32)), (.int p0)])) _
              refine XS.icmpNo X0.here hx rfl (hb hby d6_33) rfl (teq hc33).2 ?_
              show Steps p.tables e below (s₁.setTop (mkF m 36 #[.val (.int p0)] [])) _
              refine XS.sipush X0.here hx rfl (hb hby d6_36) ?_
              exact kt
            obtain ⟨fs, hr, hrun, hended, hW, hsame⟩ := X0.leave (v := some (.int (10000 : Int32))) (fun h => by rw [Bd.returns] at h; cases h)
            refine ⟨_, _, ?_, hrun, hended, _, _, rfl, ?_, ⟨_, rfl⟩, hW, hsame.mono (by decide) (by decide)⟩
            · exact retI X0 hx Bd.returns (hb hby d6_39) hr
            · show Q6 Z p0 h0 n0 _ s₁.heap _
              rw [e0]
              exact ⟨(by (first | (simp only [own_pow10, if_neg hc1, if_neg hc8, if_neg hc16, if_neg hc24, if_pos hc33]; done) | (simp [own_pow10, if_neg hc1, if_neg hc8, if_neg hc16, if_neg hc24, if_pos hc33]; done) | rfl)), N0, rfl⟩
          · skip
            refine own_go (S' := s₁.setTop (mkF m 42 #[.val (.int p0)] [(.int (5 : Int32)), (.int p0)])) (fun target kt => ?_) ?_
            · skip
              show Steps p.tables e below (s₁.setTop (mkF m 33 #[.val (.int p0)] [(.int (4 : Int32)), (.int p0)])) _
              refine XS.icmpYes X0.here hx rfl (pc0 := 33) (pc' := 40) rfl (hb hby d6_33) rfl (feq hc33).2 (by decide) (by decide) ?_
              show Steps p.tables e below (s₁.setTop (mkF m 40 #[.val (.int p0)] [])) _
              refine XS.iloadN X0.here hx rfl (hb hby d6_40) rfl ?_
              show Steps p.tables e below (s₁.setTop (mkF m 41 #[.val (.int p0)] [(.int p0)])) _
              refine XS.iconst X0.here hx rfl (hb hby d6_41) ?_
              exact kt
            by_cases hc42 : p0 = (5 : Int32)
            · skip
              refine own_go (S' := s₁.setTop (mkF m 47 #[.val (.int p0)] [(.int (100000 : Int32))])) (fun target kt => ?_) ?_
              · skip
                show Steps p.tables e below (s₁.setTop (mkF m 42 #[.val (.int p0)] [(.int (5 : Int32)), (.int p0)])) _
                refine XS.icmpNo X0.here hx rfl (hb hby d6_42) rfl (teq hc42).2 ?_
                show Steps p.tables e below (s₁.setTop (mkF m 45 #[.val (.int p0)] [])) _
                refine X0.ldcInt hx hown (mvT hZ (hw _ (List.mem_of_getElem? (i := 23) rfl))) (g := (mkF m 45 #[.val (.int p0)] [])) rfl (hb hby d6_45) _ ?_
                exact kt
              obtain ⟨fs, hr, hrun, hended, hW, hsame⟩ := X0.leave (v := some (.int (100000 : Int32))) (fun h => by rw [Bd.returns] at h; cases h)
              refine ⟨_, _, ?_, hrun, hended, _, _, rfl, ?_, ⟨_, rfl⟩, hW, hsame.mono (by decide) (by decide)⟩
              · exact retI X0 hx Bd.returns (hb hby d6_47) hr
              · show Q6 Z p0 h0 n0 _ s₁.heap _
                rw [e0]
                exact ⟨(by (first | (simp only [own_pow10, if_neg hc1, if_neg hc8, if_neg hc16, if_neg hc24, if_neg hc33, if_pos hc42]; done) | (simp [own_pow10, if_neg hc1, if_neg hc8, if_neg hc16, if_neg hc24, if_neg hc33, if_pos hc42]; done) | rfl)), N0, rfl⟩
            · skip
              refine own_go (S' := s₁.setTop (mkF m 51 #[.val (.int p0)] [(.int (6 : Int32)), (.int p0)])) (fun target kt => ?_) ?_
              · skip
                show Steps p.tables e below (s₁.setTop (mkF m 42 #[.val (.int p0)] [(.int (5 : Int32)), (.int p0)])) _
                refine XS.icmpYes X0.here hx rfl (pc0 := 42) (pc' := 48) rfl (hb hby d6_42) rfl (feq hc42).2 (by decide) (by decide) ?_
                show Steps p.tables e below (s₁.setTop (mkF m 48 #[.val (.int p0)] [])) _
                refine XS.iloadN X0.here hx rfl (hb hby d6_48) rfl ?_
                show Steps p.tables e below (s₁.setTop (mkF m 49 #[.val (.int p0)] [(.int p0)])) _
                refine XS.bipush X0.here hx rfl (hb hby d6_49) ?_
                exact kt
              by_cases hc51 : p0 = (6 : Int32)
              · skip
                refine own_go (S' := s₁.setTop (mkF m 56 #[.val (.int p0)] [(.int (1000000 : Int32))])) (fun target kt => ?_) ?_
                · skip
                  show Steps p.tables e below (s₁.setTop (mkF m 51 #[.val (.int p0)] [(.int (6 : Int32)), (.int p0)])) _
                  refine XS.icmpNo X0.here hx rfl (hb hby d6_51) rfl (teq hc51).2 ?_
                  show Steps p.tables e below (s₁.setTop (mkF m 54 #[.val (.int p0)] [])) _
                  refine X0.ldcInt hx hown (mvT hZ (hw _ (List.mem_of_getElem? (i := 22) rfl))) (g := (mkF m 54 #[.val (.int p0)] [])) rfl (hb hby d6_54) _ ?_
                  exact kt
                obtain ⟨fs, hr, hrun, hended, hW, hsame⟩ := X0.leave (v := some (.int (1000000 : Int32))) (fun h => by rw [Bd.returns] at h; cases h)
                refine ⟨_, _, ?_, hrun, hended, _, _, rfl, ?_, ⟨_, rfl⟩, hW, hsame.mono (by decide) (by decide)⟩
                · exact retI X0 hx Bd.returns (hb hby d6_56) hr
                · show Q6 Z p0 h0 n0 _ s₁.heap _
                  rw [e0]
                  exact ⟨(by (first | (simp only [own_pow10, if_neg hc1, if_neg hc8, if_neg hc16, if_neg hc24, if_neg hc33, if_neg hc42, if_pos hc51]; done) | (simp [own_pow10, if_neg hc1, if_neg hc8, if_neg hc16, if_neg hc24, if_neg hc33, if_neg hc42, if_pos hc51]; done) | rfl)), N0, rfl⟩
              · skip
                refine own_go (S' := s₁.setTop (mkF m 60 #[.val (.int p0)] [(.int (7 : Int32)), (.int p0)])) (fun target kt => ?_) ?_
                · skip
                  show Steps p.tables e below (s₁.setTop (mkF m 51 #[.val (.int p0)] [(.int (6 : Int32)), (.int p0)])) _
                  refine XS.icmpYes X0.here hx rfl (pc0 := 51) (pc' := 57) rfl (hb hby d6_51) rfl (feq hc51).2 (by decide) (by decide) ?_
                  show Steps p.tables e below (s₁.setTop (mkF m 57 #[.val (.int p0)] [])) _
                  refine XS.iloadN X0.here hx rfl (hb hby d6_57) rfl ?_
                  show Steps p.tables e below (s₁.setTop (mkF m 58 #[.val (.int p0)] [(.int p0)])) _
                  refine XS.bipush X0.here hx rfl (hb hby d6_58) ?_
                  exact kt
                by_cases hc60 : p0 = (7 : Int32)
                · skip
                  refine own_go (S' := s₁.setTop (mkF m 65 #[.val (.int p0)] [(.int (10000000 : Int32))])) (fun target kt => ?_) ?_
                  · skip
                    show Steps p.tables e below (s₁.setTop (mkF m 60 #[.val (.int p0)] [(.int (7 : Int32)), (.int p0)])) _
                    refine XS.icmpNo X0.here hx rfl (hb hby d6_60) rfl (teq hc60).2 ?_
                    show Steps p.tables e below (s₁.setTop (mkF m 63 #[.val (.int p0)] [])) _
                    refine X0.ldcInt hx hown (mvT hZ (hw _ (List.mem_of_getElem? (i := 24) rfl))) (g := (mkF m 63 #[.val (.int p0)] [])) rfl (hb hby d6_63) _ ?_
                    exact kt
                  obtain ⟨fs, hr, hrun, hended, hW, hsame⟩ := X0.leave (v := some (.int (10000000 : Int32))) (fun h => by rw [Bd.returns] at h; cases h)
                  refine ⟨_, _, ?_, hrun, hended, _, _, rfl, ?_, ⟨_, rfl⟩, hW, hsame.mono (by decide) (by decide)⟩
                  · exact retI X0 hx Bd.returns (hb hby d6_65) hr
                  · show Q6 Z p0 h0 n0 _ s₁.heap _
                    rw [e0]
                    exact ⟨(by (first | (simp only [own_pow10, if_neg hc1, if_neg hc8, if_neg hc16, if_neg hc24, if_neg hc33, if_neg hc42, if_neg hc51, if_pos hc60]; done) | (simp [own_pow10, if_neg hc1, if_neg hc8, if_neg hc16, if_neg hc24, if_neg hc33, if_neg hc42, if_neg hc51, if_pos hc60]; done) | rfl)), N0, rfl⟩
                · skip
                  refine own_go (S' := s₁.setTop (mkF m 69 #[.val (.int p0)] [(.int (8 : Int32)), (.int p0)])) (fun target kt => ?_) ?_
                  · skip
                    show Steps p.tables e below (s₁.setTop (mkF m 60 #[.val (.int p0)] [(.int (7 : Int32)), (.int p0)])) _
                    refine XS.icmpYes X0.here hx rfl (pc0 := 60) (pc' := 66) rfl (hb hby d6_60) rfl (feq hc60).2 (by decide) (by decide) ?_
                    show Steps p.tables e below (s₁.setTop (mkF m 66 #[.val (.int p0)] [])) _
                    refine XS.iloadN X0.here hx rfl (hb hby d6_66) rfl ?_
                    show Steps p.tables e below (s₁.setTop (mkF m 67 #[.val (.int p0)] [(.int p0)])) _
                    refine XS.bipush X0.here hx rfl (hb hby d6_67) ?_
                    exact kt
                  by_cases hc69 : p0 = (8 : Int32)
                  · skip
                    refine own_go (S' := s₁.setTop (mkF m 74 #[.val (.int p0)] [(.int (100000000 : Int32))])) (fun target kt => ?_) ?_
                    · skip
                      show Steps p.tables e below (s₁.setTop (mkF m 69 #[.val (.int p0)] [(.int (8 : Int32)), (.int p0)])) _
                      refine XS.icmpNo X0.here hx rfl (hb hby d6_69) rfl (teq hc69).2 ?_
                      show Steps p.tables e below (s₁.setTop (mkF m 72 #[.val (.int p0)] [])) _
                      refine X0.ldcInt hx hown (mvT hZ (hw _ (List.mem_of_getElem? (i := 25) rfl))) (g := (mkF m 72 #[.val (.int p0)] [])) rfl (hb hby d6_72) _ ?_
                      exact kt
                    obtain ⟨fs, hr, hrun, hended, hW, hsame⟩ := X0.leave (v := some (.int (100000000 : Int32))) (fun h => by rw [Bd.returns] at h; cases h)
                    refine ⟨_, _, ?_, hrun, hended, _, _, rfl, ?_, ⟨_, rfl⟩, hW, hsame.mono (by decide) (by decide)⟩
                    · exact retI X0 hx Bd.returns (hb hby d6_74) hr
                    · show Q6 Z p0 h0 n0 _ s₁.heap _
                      rw [e0]
                      exact ⟨(by (first | (simp only [own_pow10, if_neg hc1, if_neg hc8, if_neg hc16, if_neg hc24, if_neg hc33, if_neg hc42, if_neg hc51, if_neg hc60, if_pos hc69]; done) | (simp [own_pow10, if_neg hc1, if_neg hc8, if_neg hc16, if_neg hc24, if_neg hc33, if_neg hc42, if_neg hc51, if_neg hc60, if_pos hc69]; done) | rfl)), N0, rfl⟩
                  · skip
                    refine own_go (S' := s₁.setTop (mkF m 76 #[.val (.int p0)] [(.int (0 : Int32))])) (fun target kt => ?_) ?_
                    · skip
                      show Steps p.tables e below (s₁.setTop (mkF m 69 #[.val (.int p0)] [(.int (8 : Int32)), (.int p0)])) _
                      refine XS.icmpYes X0.here hx rfl (pc0 := 69) (pc' := 75) rfl (hb hby d6_69) rfl (feq hc69).2 (by decide) (by decide) ?_
                      show Steps p.tables e below (s₁.setTop (mkF m 75 #[.val (.int p0)] [])) _
                      refine XS.iconst X0.here hx rfl (hb hby d6_75) ?_
                      exact kt
                    obtain ⟨fs, hr, hrun, hended, hW, hsame⟩ := X0.leave (v := some (.int (0 : Int32))) (fun h => by rw [Bd.returns] at h; cases h)
                    refine ⟨_, _, ?_, hrun, hended, _, _, rfl, ?_, ⟨_, rfl⟩, hW, hsame.mono (by decide) (by decide)⟩
                    · exact retI X0 hx Bd.returns (hb hby d6_76) hr
                    · show Q6 Z p0 h0 n0 _ s₁.heap _
                      rw [e0]
                      exact ⟨(by (first | (simp only [own_pow10, if_neg hc1, if_neg hc8, if_neg hc16, if_neg hc24, if_neg hc33, if_neg hc42, if_neg hc51, if_neg hc60, if_neg hc69]; done) | (simp [own_pow10, if_neg hc1, if_neg hc8, if_neg hc16, if_neg hc24, if_neg hc33, if_neg hc42, if_neg hc51, if_neg hc60, if_neg hc69]; done) | rfl)), N0, rfl⟩
theorem d3_0 : decode method_5_code 0 = .ok (.iload_n 1, 1) := by decide +kernel
theorem d3_1 : decode method_5_code 1 = .ok (.iload_n 2, 1) := by decide +kernel
theorem d3_2 : decode method_5_code 2 = .ok (.if_icmp .lt 19, 3) := by decide +kernel
theorem d3_5 : decode method_5_code 5 = .ok (.iload_n 1, 1) := by decide +kernel
theorem d3_6 : decode method_5_code 6 = .ok (.iload_n 3, 1) := by decide +kernel
theorem d3_7 : decode method_5_code 7 = .ok (.if_icmp .ge 14, 3) := by decide +kernel
theorem d3_10 : decode method_5_code 10 = .ok (.aload_n 0, 1) := by decide +kernel
theorem d3_11 : decode method_5_code 11 = .ok (.iload_n 1, 1) := by decide +kernel
theorem d3_12 : decode method_5_code 12 = .ok (.baload, 1) := by decide +kernel
theorem d3_13 : decode method_5_code 13 = .ok (.invokestatic 11, 3) := by decide +kernel
theorem d3_16 : decode method_5_code 16 = .ok (.ifCond .ne 5, 3) := by decide +kernel
theorem d3_19 : decode method_5_code 19 = .ok (.iconst 1, 1) := by decide +kernel
theorem d3_20 : decode method_5_code 20 = .ok (.ireturn, 1) := by decide +kernel
theorem d3_21 : decode method_5_code 21 = .ok (.iconst 0, 1) := by decide +kernel
theorem d3_22 : decode method_5_code 22 = .ok (.ireturn, 1) := by decide +kernel
theorem own_pd0 : parseMethodDescriptor "(B)Z" = some ⟨[.byte], some .boolean⟩ := by decide +kernel
def own_bad (p1 : Int32) (p2 : Int32) (p3 : Int32) (g : Nat → Int32) : Int32 := (if p1 < p2 then (0 : Int32) else (if p1 < p3 then (if (own_isDigit (g (p1).toNatClampNeg)) = (0 : Int32) then (1 : Int32) else (0 : Int32)) else (0 : Int32)))
set_option maxHeartbeats 40000000 in
theorem own_ef_rm3 (m : MethodId) (x0 : Addr) (x1 : Int32) (x2 : Int32) (x3 : Int32) : entryFrame m #[(.ref x0), (.int x1), (.int x2), (.int x3)] 4 = mkF m 0 #[.val (.ref x0), .val (.int x1), .val (.int x2), .val (.int x3)] [] := by first | (simp [entryFrame, mkF, argsToLocals, Value.category]; done) | rfl
def Q3 (Z : State) (a0 : Addr) (p1 : Int32) (p2 : Int32) (p3 : Int32) (g : Nat → Int32) (h0 : Heap) (n0 : Nat) (v : Option Value) (h : Heap) (L : List Loc) : Prop := v = some (.int (own_bad p1 p2 p3 g)) ∧ Fr n0 L ∧ h = h0
set_option maxRecDepth 65536 in
set_option maxHeartbeats 40000000 in
theorem rm3 (l : Launch) (Z : State) (aZ : Array Value) (hw : ∀ d ∈ tables_1, d.before aZ Z = true) (ws : List Jvm.Cond) (a0 : Addr) (p1 : Int32) (p2 : Int32) (p3 : Int32) (g : Nat → Int32) (h0 : Heap) (n0 : Nat) (Z0 : n0 ≤ h0.size) (pf0 : own_AI Z h0 a0 .byte 12 g) (hi : ¬ p1 < 0 ∧ (p1).toNatClampNeg < 12) :
    MetFree l (⟨"com/example/long_walk/longwalk/DecimalNameIndexValuePinLaw", "bad", "([BIII)I"⟩ : MethodName) (head1 (Jvm.Cond.code (⟨"com/example/long_walk/longwalk/DecimalNameIndexValuePinLaw", "bad", "([BIII)I"⟩ : MethodName) method_5_code 4 (some .int) :: ws) ({ frames := 1, cells := 0, slots := 0, locals := 12 } : Room)) (fun a U => a = #[(.ref a0), (.int p1), (.int p2), (.int p3)] ∧ Z.Warmed39 U.vm ∧ U.heap = h0) (fun _ _ _ _ _ => True) (fun _ U o U' => ∃ v L, o = .returned v ∧ Q3 Z a0 p1 p2 p3 g h0 n0 v U'.heap L ∧ FrameEnd U o U' L ({ frames := 1, cells := 0, slots := 0, locals := 12 } : Room).cells ({ frames := 1, cells := 0, slots := 0, locals := 12 } : Room).slots) := by
  refine MetFree.of_bodySF (plainFor_of_name own_pn0) hisR ?_
  intro p e s m args below meth c s₁ Bd hml0 hP hK
  obtain ⟨rfl, hZ, hh⟩ := hP
  have hx := Bd.exec
  have hby := Bd.bytes
  have hml : c.maxLocals = 4 := hml0
  have hown : s.vm.findClass "com/example/long_walk/longwalk/DecimalNameIndexValuePinLaw" = some m.cls := findClass_of_methodNamed Bd.named
  have hnm := (name_of_methodNamed Bd.named Bd.method).1
  have X0 : Stand p l e ({ frames := 1, cells := 0, slots := 0, locals := 12 } : Room) s m #[(.ref a0), (.int p1), (.int p2), (.int p3)] below meth c s₁ [] 0 0 := Stand.of_body Bd
  have e0 : s₁.heap = h0 := by rw [← hh, Bd.state]; rfl
  have N0 := Fr.nil n0
  refine own_go (S' := s₁.setTop (mkF m 0 #[.val (.ref a0), .val (.int p1), .val (.int p2), .val (.int p3)] [])) (fun tt0 kk0 => castTop (own_ef_rm3 m a0 p1 p2 p3) kk0) ?_
  refine own_go (S' := s₁.setTop (mkF m 2 #[.val (.ref a0), .val (.int p1), .val (.int p2), .val (.int p3)] [(.int p2), (.int p1)])) (fun target kt => ?_) ?_
  · skip
    show Steps p.tables e below (s₁.setTop (mkF m 0 #[.val (.ref a0), .val (.int p1), .val (.int p2), .val (.int p3)] [])) _
    refine XS.iloadN X0.here hx rfl (hb hby d3_0) rfl ?_
    show Steps p.tables e below (s₁.setTop (mkF m 1 #[.val (.ref a0), .val (.int p1), .val (.int p2), .val (.int p3)] [(.int p1)])) _
    refine XS.iloadN X0.here hx rfl (hb hby d3_1) rfl ?_
    exact kt
  by_cases hc2 : p1 < p2
  · skip
    refine own_go (S' := s₁.setTop (mkF m 22 #[.val (.ref a0), .val (.int p1), .val (.int p2), .val (.int p3)] [(.int (0 : Int32))])) (fun target kt => ?_) ?_
    · skip
      show Steps p.tables e below (s₁.setTop (mkF m 2 #[.val (.ref a0), .val (.int p1), .val (.int p2), .val (.int p3)] [(.int p2), (.int p1)])) _
      refine XS.icmpYes X0.here hx rfl (pc0 := 2) (pc' := 21) rfl (hb hby d3_2) rfl (tlt hc2).1 (by decide) (by decide) ?_
      show Steps p.tables e below (s₁.setTop (mkF m 21 #[.val (.ref a0), .val (.int p1), .val (.int p2), .val (.int p3)] [])) _
      refine XS.iconst X0.here hx rfl (hb hby d3_21) ?_
      exact kt
    obtain ⟨fs, hr, hrun, hended, hW, hsame⟩ := X0.leave (v := some (.int (0 : Int32))) (fun h => by rw [Bd.returns] at h; cases h)
    refine ⟨_, _, ?_, hrun, hended, _, _, rfl, ?_, ⟨_, rfl⟩, hW, hsame.mono (by decide) (by decide)⟩
    · exact retI X0 hx Bd.returns (hb hby d3_22) hr
    · show Q3 Z a0 p1 p2 p3 g h0 n0 _ s₁.heap _
      rw [e0]
      exact ⟨(by (first | (simp only [own_bad, if_pos hc2]; done) | (simp [own_bad, if_pos hc2]; done) | rfl)), N0, rfl⟩
  · skip
    refine own_go (S' := s₁.setTop (mkF m 7 #[.val (.ref a0), .val (.int p1), .val (.int p2), .val (.int p3)] [(.int p3), (.int p1)])) (fun target kt => ?_) ?_
    · skip
      show Steps p.tables e below (s₁.setTop (mkF m 2 #[.val (.ref a0), .val (.int p1), .val (.int p2), .val (.int p3)] [(.int p2), (.int p1)])) _
      refine XS.icmpNo X0.here hx rfl (hb hby d3_2) rfl (flt hc2).1 ?_
      show Steps p.tables e below (s₁.setTop (mkF m 5 #[.val (.ref a0), .val (.int p1), .val (.int p2), .val (.int p3)] [])) _
      refine XS.iloadN X0.here hx rfl (hb hby d3_5) rfl ?_
      show Steps p.tables e below (s₁.setTop (mkF m 6 #[.val (.ref a0), .val (.int p1), .val (.int p2), .val (.int p3)] [(.int p1)])) _
      refine XS.iloadN X0.here hx rfl (hb hby d3_6) rfl ?_
      exact kt
    by_cases hc7 : p1 < p3
    · skip
      refine own_go (S' := s₁.setTop (mkF m 12 #[.val (.ref a0), .val (.int p1), .val (.int p2), .val (.int p3)] [(.int p1), (.ref a0)])) (fun target kt => ?_) ?_
      · skip
        show Steps p.tables e below (s₁.setTop (mkF m 7 #[.val (.ref a0), .val (.int p1), .val (.int p2), .val (.int p3)] [(.int p3), (.int p1)])) _
        refine XS.icmpNo X0.here hx rfl (hb hby d3_7) rfl (tlt hc7).2.1 ?_
        show Steps p.tables e below (s₁.setTop (mkF m 10 #[.val (.ref a0), .val (.int p1), .val (.int p2), .val (.int p3)] [])) _
        refine XS.aloadN X0.here hx rfl (hb hby d3_10) rfl rfl ?_
        show Steps p.tables e below (s₁.setTop (mkF m 11 #[.val (.ref a0), .val (.int p1), .val (.int p2), .val (.int p3)] [(.ref a0)])) _
        refine XS.iloadN X0.here hx rfl (hb hby d3_11) rfl ?_
        exact kt
      obtain ⟨c1, Ar1, S1, M1, H1⟩ := id pf0
      have hj1 : ¬ p1 < 0 ∧ (p1).toNatClampNeg < 12 := (hi)
      have st1 : ∀ target, Steps p.tables e below (s₁.setTop (mkF m 13 #[.val (.ref a0), .val (.int p1), .val (.int p2), .val (.int p3)] [(.int (g (p1).toNatClampNeg))])) target → Steps p.tables e below (s₁.setTop (mkF m 12 #[.val (.ref a0), .val (.int p1), .val (.int p2), .val (.int p3)] [(.int p1), (.ref a0)])) target := fun target kt => X0.baloadBytes hx (j := p1) (v := (.int (g (p1).toNatClampNeg))) (by rw [e0]; exact Ar1.1) (State.isArrayOf_alike hZ.alike Ar1.2.1) Ar1.2.2 (own_in S1 hj1) (H1 _ hj1.2) (g := (mkF m 12 #[.val (.ref a0), .val (.int p1), .val (.int p2), .val (.int p3)] [(.int p1), (.ref a0)])) rfl rfl (hb hby d3_12) _ kt
      refine own_go (S' := s₁.setTop (mkF m 13 #[.val (.ref a0), .val (.int p1), .val (.int p2), .val (.int p3)] [(.int (g (p1).toNatClampNeg))])) st1 ?_
      obtain ⟨_, _, ⟨T2, L2, k2, n2⟩, -, X2, ⟨Lc2, hQ2, l2, y2, z2⟩, st2⟩ := Jvm.LawKit.callS X0 hx (y := (⟨"com/example/long_walk/longwalk/DecimalNameIndexValuePinLaw", "isDigit", "(B)Z"⟩ : MethodName)) hown (mvT hZ (hw _ (List.mem_of_getElem? (i := 13) rfl))) (mvT hZ (hw _ (List.mem_of_getElem? (i := 14) rfl))) (mvT hZ (hw _ (List.mem_of_getElem? (i := 3) rfl))) (mvT hZ (hw _ (List.mem_of_getElem? (i := 15) rfl))) (by decide) (backOf (W := 0) (rm4 l Z aZ hw [] (g (p1).toNatClampNeg) h0 n0 Z0 ) hZ (hw _ (List.mem_of_getElem? (i := 15) rfl)) (hw _ (List.mem_of_getElem? (i := 3) rfl)) (by decide) (by decide)) (g := (mkF m 13 #[.val (.ref a0), .val (.int p1), .val (.int p2), .val (.int p3)] [(.int (g (p1).toNatClampNeg))])) rfl (by rw [hml]; rfl) (argsL := [(.int (g (p1).toNatClampNeg))]) (rest := []) (lenOf own_pd0 rfl) rfl (by show 2 * 0 + _ ≤ _; exact Nat.le_of_eq rfl) (hb hby d3_13) (fun _ _ => ⟨rfl, e0, (by decide : 0 + 0 ≤ _), (by decide : 0 + 0 ≤ _)⟩)
      dsimp only [Pt.U, Pt.locs, Pt.cells, Pt.slots] at X2 l2 y2 z2 st2 hQ2
      obtain rfl : k2 = 0 := y2
      obtain rfl : n2 = 0 := z2
      obtain ⟨rfl, N2q, e2⟩ := hQ2
      have N2 : Fr n0 L2 := by rw [l2]; exact Fr.app N0 N2q
      clear l2
      refine own_go (S' := T2.setTop (mkF m 16 #[.val (.ref a0), .val (.int p1), .val (.int p2), .val (.int p3)] [(.int (own_isDigit (g (p1).toNatClampNeg)))])) st2 ?_
      by_cases hc16 : (own_isDigit (g (p1).toNatClampNeg)) = (0 : Int32)
      · skip
        refine own_go (S' := T2.setTop (mkF m 20 #[.val (.ref a0), .val (.int p1), .val (.int p2), .val (.int p3)] [(.int (1 : Int32))])) (fun target kt => ?_) ?_
        · skip
          show Steps p.tables e below (T2.setTop (mkF m 16 #[.val (.ref a0), .val (.int p1), .val (.int p2), .val (.int p3)] [(.int (own_isDigit (g (p1).toNatClampNeg)))])) _
          refine XS.ifNo X2.here hx rfl (hb hby d3_16) rfl ((if0 _ _).trans (teq hc16).2) ?_
          show Steps p.tables e below (T2.setTop (mkF m 19 #[.val (.ref a0), .val (.int p1), .val (.int p2), .val (.int p3)] [])) _
          refine XS.iconst X2.here hx rfl (hb hby d3_19) ?_
          exact kt
        obtain ⟨fs, hr, hrun, hended, hW, hsame⟩ := X2.leave (v := some (.int (1 : Int32))) (fun h => by rw [Bd.returns] at h; cases h)
        refine ⟨_, _, ?_, hrun, hended, _, _, rfl, ?_, ⟨_, rfl⟩, hW, hsame.mono (by decide) (by decide)⟩
        · exact retI X2 hx Bd.returns (hb hby d3_20) hr
        · show Q3 Z a0 p1 p2 p3 g h0 n0 _ T2.heap _
          rw [e2]
          exact ⟨(by (first | (simp only [own_bad, if_neg hc2, if_pos hc7, if_pos hc16]; done) | (simp [own_bad, if_neg hc2, if_pos hc7, if_pos hc16]; done) | rfl)), N2, rfl⟩
      · skip
        refine own_go (S' := T2.setTop (mkF m 22 #[.val (.ref a0), .val (.int p1), .val (.int p2), .val (.int p3)] [(.int (0 : Int32))])) (fun target kt => ?_) ?_
        · skip
          show Steps p.tables e below (T2.setTop (mkF m 16 #[.val (.ref a0), .val (.int p1), .val (.int p2), .val (.int p3)] [(.int (own_isDigit (g (p1).toNatClampNeg)))])) _
          refine XS.ifYes X2.here hx rfl (pc0 := 16) (pc' := 21) rfl (hb hby d3_16) rfl ((if0 _ _).trans (feq hc16).2) (by decide) (by decide) ?_
          show Steps p.tables e below (T2.setTop (mkF m 21 #[.val (.ref a0), .val (.int p1), .val (.int p2), .val (.int p3)] [])) _
          refine XS.iconst X2.here hx rfl (hb hby d3_21) ?_
          exact kt
        obtain ⟨fs, hr, hrun, hended, hW, hsame⟩ := X2.leave (v := some (.int (0 : Int32))) (fun h => by rw [Bd.returns] at h; cases h)
        refine ⟨_, _, ?_, hrun, hended, _, _, rfl, ?_, ⟨_, rfl⟩, hW, hsame.mono (by decide) (by decide)⟩
        · exact retI X2 hx Bd.returns (hb hby d3_22) hr
        · show Q3 Z a0 p1 p2 p3 g h0 n0 _ T2.heap _
          rw [e2]
          exact ⟨(by (first | (simp only [own_bad, if_neg hc2, if_pos hc7, if_neg hc16]; done) | (simp [own_bad, if_neg hc2, if_pos hc7, if_neg hc16]; done) | rfl)), N2, rfl⟩
    · skip
      refine own_go (S' := s₁.setTop (mkF m 22 #[.val (.ref a0), .val (.int p1), .val (.int p2), .val (.int p3)] [(.int (0 : Int32))])) (fun target kt => ?_) ?_
      · skip
        show Steps p.tables e below (s₁.setTop (mkF m 7 #[.val (.ref a0), .val (.int p1), .val (.int p2), .val (.int p3)] [(.int p3), (.int p1)])) _
        refine XS.icmpYes X0.here hx rfl (pc0 := 7) (pc' := 21) rfl (hb hby d3_7) rfl (flt hc7).2.1 (by decide) (by decide) ?_
        show Steps p.tables e below (s₁.setTop (mkF m 21 #[.val (.ref a0), .val (.int p1), .val (.int p2), .val (.int p3)] [])) _
        refine XS.iconst X0.here hx rfl (hb hby d3_21) ?_
        exact kt
      obtain ⟨fs, hr, hrun, hended, hW, hsame⟩ := X0.leave (v := some (.int (0 : Int32))) (fun h => by rw [Bd.returns] at h; cases h)
      refine ⟨_, _, ?_, hrun, hended, _, _, rfl, ?_, ⟨_, rfl⟩, hW, hsame.mono (by decide) (by decide)⟩
      · exact retI X0 hx Bd.returns (hb hby d3_22) hr
      · show Q3 Z a0 p1 p2 p3 g h0 n0 _ s₁.heap _
        rw [e0]
        exact ⟨(by (first | (simp only [own_bad, if_neg hc2, if_neg hc7]; done) | (simp [own_bad, if_neg hc2, if_neg hc7]; done) | rfl)), N0, rfl⟩
theorem d5_0 : decode method_6_code 0 = .ok (.iload_n 1, 1) := by decide +kernel
theorem d5_1 : decode method_6_code 1 = .ok (.iload_n 2, 1) := by decide +kernel
theorem d5_2 : decode method_6_code 2 = .ok (.if_icmp .lt 8, 3) := by decide +kernel
theorem d5_5 : decode method_6_code 5 = .ok (.iload_n 1, 1) := by decide +kernel
theorem d5_6 : decode method_6_code 6 = .ok (.iload_n 3, 1) := by decide +kernel
theorem d5_7 : decode method_6_code 7 = .ok (.if_icmp .lt 5, 3) := by decide +kernel
theorem d5_10 : decode method_6_code 10 = .ok (.iconst 0, 1) := by decide +kernel
theorem d5_11 : decode method_6_code 11 = .ok (.ireturn, 1) := by decide +kernel
theorem d5_12 : decode method_6_code 12 = .ok (.aload_n 0, 1) := by decide +kernel
theorem d5_13 : decode method_6_code 13 = .ok (.iload_n 1, 1) := by decide +kernel
theorem d5_14 : decode method_6_code 14 = .ok (.baload, 1) := by decide +kernel
theorem d5_15 : decode method_6_code 15 = .ok (.bipush 48, 2) := by decide +kernel
theorem d5_17 : decode method_6_code 17 = .ok (.isub, 1) := by decide +kernel
theorem d5_18 : decode method_6_code 18 = .ok (.iload_n 3, 1) := by decide +kernel
theorem d5_19 : decode method_6_code 19 = .ok (.iconst 1, 1) := by decide +kernel
theorem d5_20 : decode method_6_code 20 = .ok (.isub, 1) := by decide +kernel
theorem d5_21 : decode method_6_code 21 = .ok (.iload_n 1, 1) := by decide +kernel
theorem d5_22 : decode method_6_code 22 = .ok (.isub, 1) := by decide +kernel
theorem d5_23 : decode method_6_code 23 = .ok (.invokestatic 17, 3) := by decide +kernel
theorem d5_26 : decode method_6_code 26 = .ok (.imul, 1) := by decide +kernel
theorem d5_27 : decode method_6_code 27 = .ok (.ireturn, 1) := by decide +kernel
theorem own_pd1 : parseMethodDescriptor "(I)I" = some ⟨[.int], some .int⟩ := by decide +kernel
def own_term (p1 : Int32) (p2 : Int32) (p3 : Int32) (g : Nat → Int32) : Int32 := (if p1 < p2 then (0 : Int32) else (if p1 < p3 then (((g (p1).toNatClampNeg) - (48 : Int32)) * (own_pow10 ((p3 - (1 : Int32)) - p1))) else (0 : Int32)))
set_option maxHeartbeats 40000000 in
theorem own_ef_rm5 (m : MethodId) (x0 : Addr) (x1 : Int32) (x2 : Int32) (x3 : Int32) : entryFrame m #[(.ref x0), (.int x1), (.int x2), (.int x3)] 4 = mkF m 0 #[.val (.ref x0), .val (.int x1), .val (.int x2), .val (.int x3)] [] := by first | (simp [entryFrame, mkF, argsToLocals, Value.category]; done) | rfl
def Q5 (Z : State) (a0 : Addr) (p1 : Int32) (p2 : Int32) (p3 : Int32) (g : Nat → Int32) (h0 : Heap) (n0 : Nat) (v : Option Value) (h : Heap) (L : List Loc) : Prop := v = some (.int (own_term p1 p2 p3 g)) ∧ Fr n0 L ∧ h = h0
set_option maxRecDepth 65536 in
set_option maxHeartbeats 40000000 in
theorem rm5 (l : Launch) (Z : State) (aZ : Array Value) (hw : ∀ d ∈ tables_1, d.before aZ Z = true) (ws : List Jvm.Cond) (a0 : Addr) (p1 : Int32) (p2 : Int32) (p3 : Int32) (g : Nat → Int32) (h0 : Heap) (n0 : Nat) (Z0 : n0 ≤ h0.size) (pf0 : own_AI Z h0 a0 .byte 12 g) (hi : ¬ p1 < 0 ∧ (p1).toNatClampNeg < 12) :
    MetFree l (⟨"com/example/long_walk/longwalk/DecimalNameIndexValuePinLaw", "term", "([BIII)I"⟩ : MethodName) (head1 (Jvm.Cond.code (⟨"com/example/long_walk/longwalk/DecimalNameIndexValuePinLaw", "term", "([BIII)I"⟩ : MethodName) method_6_code 4 (some .int) :: ws) ({ frames := 1, cells := 0, slots := 0, locals := 13 } : Room)) (fun a U => a = #[(.ref a0), (.int p1), (.int p2), (.int p3)] ∧ Z.Warmed39 U.vm ∧ U.heap = h0) (fun _ _ _ _ _ => True) (fun _ U o U' => ∃ v L, o = .returned v ∧ Q5 Z a0 p1 p2 p3 g h0 n0 v U'.heap L ∧ FrameEnd U o U' L ({ frames := 1, cells := 0, slots := 0, locals := 13 } : Room).cells ({ frames := 1, cells := 0, slots := 0, locals := 13 } : Room).slots) := by
  refine MetFree.of_bodySF (plainFor_of_name own_pn0) hisR ?_
  intro p e s m args below meth c s₁ Bd hml0 hP hK
  obtain ⟨rfl, hZ, hh⟩ := hP
  have hx := Bd.exec
  have hby := Bd.bytes
  have hml : c.maxLocals = 4 := hml0
  have hown : s.vm.findClass "com/example/long_walk/longwalk/DecimalNameIndexValuePinLaw" = some m.cls := findClass_of_methodNamed Bd.named
  have hnm := (name_of_methodNamed Bd.named Bd.method).1
  have X0 : Stand p l e ({ frames := 1, cells := 0, slots := 0, locals := 13 } : Room) s m #[(.ref a0), (.int p1), (.int p2), (.int p3)] below meth c s₁ [] 0 0 := Stand.of_body Bd
  have e0 : s₁.heap = h0 := by rw [← hh, Bd.state]; rfl
  have N0 := Fr.nil n0
  refine own_go (S' := s₁.setTop (mkF m 0 #[.val (.ref a0), .val (.int p1), .val (.int p2), .val (.int p3)] [])) (fun tt0 kk0 => castTop (own_ef_rm5 m a0 p1 p2 p3) kk0) ?_
  refine own_go (S' := s₁.setTop (mkF m 2 #[.val (.ref a0), .val (.int p1), .val (.int p2), .val (.int p3)] [(.int p2), (.int p1)])) (fun target kt => ?_) ?_
  · skip
    show Steps p.tables e below (s₁.setTop (mkF m 0 #[.val (.ref a0), .val (.int p1), .val (.int p2), .val (.int p3)] [])) _
    refine XS.iloadN X0.here hx rfl (hb hby d5_0) rfl ?_
    show Steps p.tables e below (s₁.setTop (mkF m 1 #[.val (.ref a0), .val (.int p1), .val (.int p2), .val (.int p3)] [(.int p1)])) _
    refine XS.iloadN X0.here hx rfl (hb hby d5_1) rfl ?_
    exact kt
  by_cases hc2 : p1 < p2
  · skip
    refine own_go (S' := s₁.setTop (mkF m 11 #[.val (.ref a0), .val (.int p1), .val (.int p2), .val (.int p3)] [(.int (0 : Int32))])) (fun target kt => ?_) ?_
    · skip
      show Steps p.tables e below (s₁.setTop (mkF m 2 #[.val (.ref a0), .val (.int p1), .val (.int p2), .val (.int p3)] [(.int p2), (.int p1)])) _
      refine XS.icmpYes X0.here hx rfl (pc0 := 2) (pc' := 10) rfl (hb hby d5_2) rfl (tlt hc2).1 (by decide) (by decide) ?_
      show Steps p.tables e below (s₁.setTop (mkF m 10 #[.val (.ref a0), .val (.int p1), .val (.int p2), .val (.int p3)] [])) _
      refine XS.iconst X0.here hx rfl (hb hby d5_10) ?_
      exact kt
    obtain ⟨fs, hr, hrun, hended, hW, hsame⟩ := X0.leave (v := some (.int (0 : Int32))) (fun h => by rw [Bd.returns] at h; cases h)
    refine ⟨_, _, ?_, hrun, hended, _, _, rfl, ?_, ⟨_, rfl⟩, hW, hsame.mono (by decide) (by decide)⟩
    · exact retI X0 hx Bd.returns (hb hby d5_11) hr
    · show Q5 Z a0 p1 p2 p3 g h0 n0 _ s₁.heap _
      rw [e0]
      exact ⟨(by (first | (simp only [own_term, if_pos hc2]; done) | (simp [own_term, if_pos hc2]; done) | rfl)), N0, rfl⟩
  · skip
    refine own_go (S' := s₁.setTop (mkF m 7 #[.val (.ref a0), .val (.int p1), .val (.int p2), .val (.int p3)] [(.int p3), (.int p1)])) (fun target kt => ?_) ?_
    · skip
      show Steps p.tables e below (s₁.setTop (mkF m 2 #[.val (.ref a0), .val (.int p1), .val (.int p2), .val (.int p3)] [(.int p2), (.int p1)])) _
      refine XS.icmpNo X0.here hx rfl (hb hby d5_2) rfl (flt hc2).1 ?_
      show Steps p.tables e below (s₁.setTop (mkF m 5 #[.val (.ref a0), .val (.int p1), .val (.int p2), .val (.int p3)] [])) _
      refine XS.iloadN X0.here hx rfl (hb hby d5_5) rfl ?_
      show Steps p.tables e below (s₁.setTop (mkF m 6 #[.val (.ref a0), .val (.int p1), .val (.int p2), .val (.int p3)] [(.int p1)])) _
      refine XS.iloadN X0.here hx rfl (hb hby d5_6) rfl ?_
      exact kt
    by_cases hc7 : p1 < p3
    · skip
      refine own_go (S' := s₁.setTop (mkF m 14 #[.val (.ref a0), .val (.int p1), .val (.int p2), .val (.int p3)] [(.int p1), (.ref a0)])) (fun target kt => ?_) ?_
      · skip
        show Steps p.tables e below (s₁.setTop (mkF m 7 #[.val (.ref a0), .val (.int p1), .val (.int p2), .val (.int p3)] [(.int p3), (.int p1)])) _
        refine XS.icmpYes X0.here hx rfl (pc0 := 7) (pc' := 12) rfl (hb hby d5_7) rfl (tlt hc7).1 (by decide) (by decide) ?_
        show Steps p.tables e below (s₁.setTop (mkF m 12 #[.val (.ref a0), .val (.int p1), .val (.int p2), .val (.int p3)] [])) _
        refine XS.aloadN X0.here hx rfl (hb hby d5_12) rfl rfl ?_
        show Steps p.tables e below (s₁.setTop (mkF m 13 #[.val (.ref a0), .val (.int p1), .val (.int p2), .val (.int p3)] [(.ref a0)])) _
        refine XS.iloadN X0.here hx rfl (hb hby d5_13) rfl ?_
        exact kt
      obtain ⟨c3, Ar3, S3, M3, H3⟩ := id pf0
      have hj3 : ¬ p1 < 0 ∧ (p1).toNatClampNeg < 12 := (hi)
      have st3 : ∀ target, Steps p.tables e below (s₁.setTop (mkF m 15 #[.val (.ref a0), .val (.int p1), .val (.int p2), .val (.int p3)] [(.int (g (p1).toNatClampNeg))])) target → Steps p.tables e below (s₁.setTop (mkF m 14 #[.val (.ref a0), .val (.int p1), .val (.int p2), .val (.int p3)] [(.int p1), (.ref a0)])) target := fun target kt => X0.baloadBytes hx (j := p1) (v := (.int (g (p1).toNatClampNeg))) (by rw [e0]; exact Ar3.1) (State.isArrayOf_alike hZ.alike Ar3.2.1) Ar3.2.2 (own_in S3 hj3) (H3 _ hj3.2) (g := (mkF m 14 #[.val (.ref a0), .val (.int p1), .val (.int p2), .val (.int p3)] [(.int p1), (.ref a0)])) rfl rfl (hb hby d5_14) _ kt
      refine own_go (S' := s₁.setTop (mkF m 15 #[.val (.ref a0), .val (.int p1), .val (.int p2), .val (.int p3)] [(.int (g (p1).toNatClampNeg))])) st3 ?_
      refine own_go (S' := s₁.setTop (mkF m 23 #[.val (.ref a0), .val (.int p1), .val (.int p2), .val (.int p3)] [(.int ((p3 - (1 : Int32)) - p1)), (.int ((g (p1).toNatClampNeg) - (48 : Int32)))])) (fun target kt => ?_) ?_
      · skip
        show Steps p.tables e below (s₁.setTop (mkF m 15 #[.val (.ref a0), .val (.int p1), .val (.int p2), .val (.int p3)] [(.int (g (p1).toNatClampNeg))])) _
        refine XS.bipush X0.here hx rfl (hb hby d5_15) ?_
        show Steps p.tables e below (s₁.setTop (mkF m 17 #[.val (.ref a0), .val (.int p1), .val (.int p2), .val (.int p3)] [(.int (48 : Int32)), (.int (g (p1).toNatClampNeg))])) _
        refine XS.isub X0.here hx rfl (hb hby d5_17) rfl ?_
        show Steps p.tables e below (s₁.setTop (mkF m 18 #[.val (.ref a0), .val (.int p1), .val (.int p2), .val (.int p3)] [(.int ((g (p1).toNatClampNeg) - (48 : Int32)))])) _
        refine XS.iloadN X0.here hx rfl (hb hby d5_18) rfl ?_
        show Steps p.tables e below (s₁.setTop (mkF m 19 #[.val (.ref a0), .val (.int p1), .val (.int p2), .val (.int p3)] [(.int p3), (.int ((g (p1).toNatClampNeg) - (48 : Int32)))])) _
        refine XS.iconst X0.here hx rfl (hb hby d5_19) ?_
        show Steps p.tables e below (s₁.setTop (mkF m 20 #[.val (.ref a0), .val (.int p1), .val (.int p2), .val (.int p3)] [(.int (1 : Int32)), (.int p3), (.int ((g (p1).toNatClampNeg) - (48 : Int32)))])) _
        refine XS.isub X0.here hx rfl (hb hby d5_20) rfl ?_
        show Steps p.tables e below (s₁.setTop (mkF m 21 #[.val (.ref a0), .val (.int p1), .val (.int p2), .val (.int p3)] [(.int (p3 - (1 : Int32))), (.int ((g (p1).toNatClampNeg) - (48 : Int32)))])) _
        refine XS.iloadN X0.here hx rfl (hb hby d5_21) rfl ?_
        show Steps p.tables e below (s₁.setTop (mkF m 22 #[.val (.ref a0), .val (.int p1), .val (.int p2), .val (.int p3)] [(.int p1), (.int (p3 - (1 : Int32))), (.int ((g (p1).toNatClampNeg) - (48 : Int32)))])) _
        refine XS.isub X0.here hx rfl (hb hby d5_22) rfl ?_
        exact kt
      obtain ⟨_, _, ⟨T4, L4, k4, n4⟩, -, X4, ⟨Lc4, hQ4, l4, y4, z4⟩, st4⟩ := Jvm.LawKit.callS X0 hx (y := (⟨"com/example/long_walk/longwalk/DecimalNameIndexValuePinLaw", "pow10", "(I)I"⟩ : MethodName)) hown (mvT hZ (hw _ (List.mem_of_getElem? (i := 19) rfl))) (mvT hZ (hw _ (List.mem_of_getElem? (i := 20) rfl))) (mvT hZ (hw _ (List.mem_of_getElem? (i := 3) rfl))) (mvT hZ (hw _ (List.mem_of_getElem? (i := 21) rfl))) (by decide) (backOf (W := 1) (rm6 l Z aZ hw [] ((p3 - (1 : Int32)) - p1) h0 n0 Z0 ) hZ (hw _ (List.mem_of_getElem? (i := 21) rfl)) (hw _ (List.mem_of_getElem? (i := 3) rfl)) (by decide) (by decide)) (g := (mkF m 23 #[.val (.ref a0), .val (.int p1), .val (.int p2), .val (.int p3)] [(.int ((p3 - (1 : Int32)) - p1)), (.int ((g (p1).toNatClampNeg) - (48 : Int32)))])) rfl (by rw [hml]; rfl) (argsL := [(.int ((p3 - (1 : Int32)) - p1))]) (rest := [(.int ((g (p1).toNatClampNeg) - (48 : Int32)))]) (lenOf own_pd1 rfl) rfl (by show 2 * 0 + _ ≤ _; exact Nat.le_of_eq rfl) (hb hby d5_23) (fun _ _ => ⟨rfl, e0, (by decide : 0 + 0 ≤ _), (by decide : 0 + 0 ≤ _)⟩)
      dsimp only [Pt.U, Pt.locs, Pt.cells, Pt.slots] at X4 l4 y4 z4 st4 hQ4
      obtain rfl : k4 = 0 := y4
      obtain rfl : n4 = 0 := z4
      obtain ⟨rfl, N4q, e4⟩ := hQ4
      have N4 : Fr n0 L4 := by rw [l4]; exact Fr.app N0 N4q
      clear l4
      refine own_go (S' := T4.setTop (mkF m 26 #[.val (.ref a0), .val (.int p1), .val (.int p2), .val (.int p3)] [(.int (own_pow10 ((p3 - (1 : Int32)) - p1))), (.int ((g (p1).toNatClampNeg) - (48 : Int32)))])) st4 ?_
      refine own_go (S' := T4.setTop (mkF m 27 #[.val (.ref a0), .val (.int p1), .val (.int p2), .val (.int p3)] [(.int (((g (p1).toNatClampNeg) - (48 : Int32)) * (own_pow10 ((p3 - (1 : Int32)) - p1))))])) (fun target kt => ?_) ?_
      · skip
        show Steps p.tables e below (T4.setTop (mkF m 26 #[.val (.ref a0), .val (.int p1), .val (.int p2), .val (.int p3)] [(.int (own_pow10 ((p3 - (1 : Int32)) - p1))), (.int ((g (p1).toNatClampNeg) - (48 : Int32)))])) _
        refine XS.imul X4.here hx rfl (hb hby d5_26) rfl ?_
        exact kt
      obtain ⟨fs, hr, hrun, hended, hW, hsame⟩ := X4.leave (v := some (.int (((g (p1).toNatClampNeg) - (48 : Int32)) * (own_pow10 ((p3 - (1 : Int32)) - p1))))) (fun h => by rw [Bd.returns] at h; cases h)
      refine ⟨_, _, ?_, hrun, hended, _, _, rfl, ?_, ⟨_, rfl⟩, hW, hsame.mono (by decide) (by decide)⟩
      · exact retI X4 hx Bd.returns (hb hby d5_27) hr
      · show Q5 Z a0 p1 p2 p3 g h0 n0 _ T4.heap _
        rw [e4]
        exact ⟨(by (first | (simp only [own_term, if_neg hc2, if_pos hc7]; done) | (simp [own_term, if_neg hc2, if_pos hc7]; done) | rfl)), N4, rfl⟩
    · skip
      refine own_go (S' := s₁.setTop (mkF m 11 #[.val (.ref a0), .val (.int p1), .val (.int p2), .val (.int p3)] [(.int (0 : Int32))])) (fun target kt => ?_) ?_
      · skip
        show Steps p.tables e below (s₁.setTop (mkF m 7 #[.val (.ref a0), .val (.int p1), .val (.int p2), .val (.int p3)] [(.int p3), (.int p1)])) _
        refine XS.icmpNo X0.here hx rfl (hb hby d5_7) rfl (flt hc7).1 ?_
        show Steps p.tables e below (s₁.setTop (mkF m 10 #[.val (.ref a0), .val (.int p1), .val (.int p2), .val (.int p3)] [])) _
        refine XS.iconst X0.here hx rfl (hb hby d5_10) ?_
        exact kt
      obtain ⟨fs, hr, hrun, hended, hW, hsame⟩ := X0.leave (v := some (.int (0 : Int32))) (fun h => by rw [Bd.returns] at h; cases h)
      refine ⟨_, _, ?_, hrun, hended, _, _, rfl, ?_, ⟨_, rfl⟩, hW, hsame.mono (by decide) (by decide)⟩
      · exact retI X0 hx Bd.returns (hb hby d5_11) hr
      · show Q5 Z a0 p1 p2 p3 g h0 n0 _ s₁.heap _
        rw [e0]
        exact ⟨(by (first | (simp only [own_term, if_neg hc2, if_neg hc7]; done) | (simp [own_term, if_neg hc2, if_neg hc7]; done) | rfl)), N0, rfl⟩
theorem d2_0 : decode prog_4_method_2_code 0 = .ok (.iload_n 2, 1) := by decide +kernel
theorem d2_1 : decode prog_4_method_2_code 1 = .ok (.iload_n 1, 1) := by decide +kernel
theorem d2_2 : decode prog_4_method_2_code 2 = .ok (.isub, 1) := by decide +kernel
theorem d2_3 : decode prog_4_method_2_code 3 = .ok (.istore_n 3, 1) := by decide +kernel
theorem d2_4 : decode prog_4_method_2_code 4 = .ok (.iload_n 3, 1) := by decide +kernel
theorem d2_5 : decode prog_4_method_2_code 5 = .ok (.ifCond .eq 22, 3) := by decide +kernel
theorem d2_8 : decode prog_4_method_2_code 8 = .ok (.iload_n 3, 1) := by decide +kernel
theorem d2_9 : decode prog_4_method_2_code 9 = .ok (.bipush 9, 2) := by decide +kernel
theorem d2_11 : decode prog_4_method_2_code 11 = .ok (.if_icmp .gt 16, 3) := by decide +kernel
theorem d2_14 : decode prog_4_method_2_code 14 = .ok (.iload_n 3, 1) := by decide +kernel
theorem d2_15 : decode prog_4_method_2_code 15 = .ok (.iconst 1, 1) := by decide +kernel
theorem d2_16 : decode prog_4_method_2_code 16 = .ok (.if_icmp .le 13, 3) := by decide +kernel
theorem d2_19 : decode prog_4_method_2_code 19 = .ok (.aload_n 0, 1) := by decide +kernel
theorem d2_20 : decode prog_4_method_2_code 20 = .ok (.iload_n 1, 1) := by decide +kernel
theorem d2_21 : decode prog_4_method_2_code 21 = .ok (.baload, 1) := by decide +kernel
theorem d2_22 : decode prog_4_method_2_code 22 = .ok (.bipush 48, 2) := by decide +kernel
theorem d2_24 : decode prog_4_method_2_code 24 = .ok (.if_icmp .ne 5, 3) := by decide +kernel
theorem d2_27 : decode prog_4_method_2_code 27 = .ok (.iconst (-1), 1) := by decide +kernel
theorem d2_28 : decode prog_4_method_2_code 28 = .ok (.ireturn, 1) := by decide +kernel
theorem d2_29 : decode prog_4_method_2_code 29 = .ok (.iconst 0, 1) := by decide +kernel
theorem d2_30 : decode prog_4_method_2_code 30 = .ok (.istore 4, 2) := by decide +kernel
theorem d2_32 : decode prog_4_method_2_code 32 = .ok (.iload_n 1, 1) := by decide +kernel
theorem d2_33 : decode prog_4_method_2_code 33 = .ok (.istore 5, 2) := by decide +kernel
theorem d2_35 : decode prog_4_method_2_code 35 = .ok (.iload 5, 2) := by decide +kernel
theorem d2_37 : decode prog_4_method_2_code 37 = .ok (.iload_n 2, 1) := by decide +kernel
theorem d2_38 : decode prog_4_method_2_code 38 = .ok (.if_icmp .ge 42, 3) := by decide +kernel
theorem d2_41 : decode prog_4_method_2_code 41 = .ok (.aload_n 0, 1) := by decide +kernel
theorem d2_42 : decode prog_4_method_2_code 42 = .ok (.iload 5, 2) := by decide +kernel
theorem d2_44 : decode prog_4_method_2_code 44 = .ok (.baload, 1) := by decide +kernel
theorem d2_45 : decode prog_4_method_2_code 45 = .ok (.bipush 48, 2) := by decide +kernel
theorem d2_47 : decode prog_4_method_2_code 47 = .ok (.isub, 1) := by decide +kernel
theorem d2_48 : decode prog_4_method_2_code 48 = .ok (.istore 6, 2) := by decide +kernel
theorem d2_50 : decode prog_4_method_2_code 50 = .ok (.iload 6, 2) := by decide +kernel
theorem d2_52 : decode prog_4_method_2_code 52 = .ok (.ifCond .lt 10, 3) := by decide +kernel
theorem d2_55 : decode prog_4_method_2_code 55 = .ok (.iload 6, 2) := by decide +kernel
theorem d2_57 : decode prog_4_method_2_code 57 = .ok (.bipush 9, 2) := by decide +kernel
theorem d2_59 : decode prog_4_method_2_code 59 = .ok (.if_icmp .le 5, 3) := by decide +kernel
theorem d2_62 : decode prog_4_method_2_code 62 = .ok (.iconst (-1), 1) := by decide +kernel
theorem d2_63 : decode prog_4_method_2_code 63 = .ok (.ireturn, 1) := by decide +kernel
theorem d2_64 : decode prog_4_method_2_code 64 = .ok (.iload 4, 2) := by decide +kernel
theorem d2_66 : decode prog_4_method_2_code 66 = .ok (.bipush 10, 2) := by decide +kernel
theorem d2_68 : decode prog_4_method_2_code 68 = .ok (.imul, 1) := by decide +kernel
theorem d2_69 : decode prog_4_method_2_code 69 = .ok (.iload 6, 2) := by decide +kernel
theorem d2_71 : decode prog_4_method_2_code 71 = .ok (.iadd, 1) := by decide +kernel
theorem d2_72 : decode prog_4_method_2_code 72 = .ok (.istore 4, 2) := by decide +kernel
theorem d2_74 : decode prog_4_method_2_code 74 = .ok (.iinc 5 1, 3) := by decide +kernel
theorem d2_77 : decode prog_4_method_2_code 77 = .ok (.goto (-42), 3) := by decide +kernel
theorem d2_80 : decode prog_4_method_2_code 80 = .ok (.iload 4, 2) := by decide +kernel
theorem d2_82 : decode prog_4_method_2_code 82 = .ok (.ireturn, 1) := by decide +kernel
theorem own_pn1 : plainName "com/example/long_walk/longwalk/DecimalNameIndex" = true := by first | (simp [plainName, overriddenIn]; done) | decide +kernel
set_option maxHeartbeats 40000000 in
theorem own_ef_rm2 (m : MethodId) (x0 : Addr) (x1 : Int32) (x2 : Int32) : entryFrame m #[(.ref x0), (.int x1), (.int x2)] 7 = mkF m 0 #[.val (.ref x0), .val (.int x1), .val (.int x2), .unset, .unset, .unset, .unset] [] := by first | (simp [entryFrame, mkF, argsToLocals, Value.category]; done) | rfl
def Q2 (Z : State) (a0 : Addr) (f : Nat) (t : Nat) (g : Nat → Int32) (h0 : Heap) (n0 : Nat) (v : Option Value) (h : Heap) (L : List Loc) : Prop := v = some (.int (own_value g f t)) ∧ Fr n0 L ∧ h = h0
set_option maxRecDepth 65536 in
set_option maxHeartbeats 40000000 in
theorem rm2 (l : Launch) (Z : State) (aZ : Array Value) (hw : ∀ d ∈ tables_1, d.before aZ Z = true) (ws : List Jvm.Cond) (a0 : Addr) (f : Nat) (t : Nat) (g : Nat → Int32) (h0 : Heap) (n0 : Nat) (Z0 : n0 ≤ h0.size) (pf0 : own_AI Z h0 a0 .byte 12 g) (hft : f ≤ t) (ht : t ≤ 12) :
    MetFree l (⟨"com/example/long_walk/longwalk/DecimalNameIndex", "value", "([BII)I"⟩ : MethodName) (head1 (Jvm.Cond.code (⟨"com/example/long_walk/longwalk/DecimalNameIndex", "value", "([BII)I"⟩ : MethodName) prog_4_method_2_code 7 (some .int) :: ws) ({ frames := 0, cells := 0, slots := 0, locals := 0 } : Room)) (fun a U => a = #[(.ref a0), (.int (Int32.ofNat f)), (.int (Int32.ofNat t))] ∧ Z.Warmed39 U.vm ∧ U.heap = h0) (fun _ _ _ _ _ => True) (fun _ U o U' => ∃ v L, o = .returned v ∧ Q2 Z a0 f t g h0 n0 v U'.heap L ∧ FrameEnd U o U' L ({ frames := 0, cells := 0, slots := 0, locals := 0 } : Room).cells ({ frames := 0, cells := 0, slots := 0, locals := 0 } : Room).slots) := by
  refine MetFree.of_bodySF (plainFor_of_name own_pn1) hisR ?_
  intro p e s m args below meth c s₁ Bd hml0 hP hK
  obtain ⟨rfl, hZ, hh⟩ := hP
  have hx := Bd.exec
  have hby := Bd.bytes
  have hml : c.maxLocals = 7 := hml0
  have hown : s.vm.findClass "com/example/long_walk/longwalk/DecimalNameIndex" = some m.cls := findClass_of_methodNamed Bd.named
  have hnm := (name_of_methodNamed Bd.named Bd.method).1
  have X0 : Stand p l e ({ frames := 0, cells := 0, slots := 0, locals := 0 } : Room) s m #[(.ref a0), (.int (Int32.ofNat f)), (.int (Int32.ofNat t))] below meth c s₁ [] 0 0 := Stand.of_body Bd
  have e0 : s₁.heap = h0 := by rw [← hh, Bd.state]; rfl
  have N0 := Fr.nil n0
  refine own_go (S' := s₁.setTop (mkF m 0 #[.val (.ref a0), .val (.int (Int32.ofNat f)), .val (.int (Int32.ofNat t)), .unset, .unset, .unset, .unset] [])) (fun tt0 kk0 => castTop (own_ef_rm2 m a0 (Int32.ofNat f) (Int32.ofNat t)) kk0) ?_
  obtain ⟨ln, h_ln⟩ : ∃ z : Int32, z = ((Int32.ofNat t) - (Int32.ofNat f)) := ⟨_, rfl⟩
  refine own_go (S' := s₁.setTop (mkF m 4 #[.val (.ref a0), .val (.int (Int32.ofNat f)), .val (.int (Int32.ofNat t)), .val (.int ln), .unset, .unset, .unset] [])) (fun target kt => ?_) ?_
  · subst h_ln
    show Steps p.tables e below (s₁.setTop (mkF m 0 #[.val (.ref a0), .val (.int (Int32.ofNat f)), .val (.int (Int32.ofNat t)), .unset, .unset, .unset, .unset] [])) _
    refine XS.iloadN X0.here hx rfl (hb hby d2_0) rfl ?_
    show Steps p.tables e below (s₁.setTop (mkF m 1 #[.val (.ref a0), .val (.int (Int32.ofNat f)), .val (.int (Int32.ofNat t)), .unset, .unset, .unset, .unset] [(.int (Int32.ofNat t))])) _
    refine XS.iloadN X0.here hx rfl (hb hby d2_1) rfl ?_
    show Steps p.tables e below (s₁.setTop (mkF m 2 #[.val (.ref a0), .val (.int (Int32.ofNat f)), .val (.int (Int32.ofNat t)), .unset, .unset, .unset, .unset] [(.int (Int32.ofNat f)), (.int (Int32.ofNat t))])) _
    refine XS.isub X0.here hx rfl (hb hby d2_2) rfl ?_
    show Steps p.tables e below (s₁.setTop (mkF m 3 #[.val (.ref a0), .val (.int (Int32.ofNat f)), .val (.int (Int32.ofNat t)), .unset, .unset, .unset, .unset] [(.int ((Int32.ofNat t) - (Int32.ofNat f)))])) _
    refine XS.istoreN X0.here hx rfl (hb hby d2_3) rfl (l' := #[.val (.ref a0), .val (.int (Int32.ofNat f)), .val (.int (Int32.ofNat t)), .val (.int ((Int32.ofNat t) - (Int32.ofNat f))), .unset, .unset, .unset]) rfl ?_
    exact kt
  have hb_ln : ln = (Int32.ofNat (t - f)) := own_ln hft ht h_ln
  subst hb_ln
  refine own_go (S' := s₁.setTop (mkF m 5 #[.val (.ref a0), .val (.int (Int32.ofNat f)), .val (.int (Int32.ofNat t)), .val (.int (Int32.ofNat (t - f))), .unset, .unset, .unset] [(.int (Int32.ofNat (t - f)))])) (fun target kt => ?_) ?_
  · skip
    show Steps p.tables e below (s₁.setTop (mkF m 4 #[.val (.ref a0), .val (.int (Int32.ofNat f)), .val (.int (Int32.ofNat t)), .val (.int (Int32.ofNat (t - f))), .unset, .unset, .unset] [])) _
    refine XS.iloadN X0.here hx rfl (hb hby d2_4) rfl ?_
    exact kt
  by_cases hc5 : (Int32.ofNat (t - f)) = (0 : Int32)
  · skip
    refine own_go (S' := s₁.setTop (mkF m 28 #[.val (.ref a0), .val (.int (Int32.ofNat f)), .val (.int (Int32.ofNat t)), .val (.int (Int32.ofNat (t - f))), .unset, .unset, .unset] [(.int (-1 : Int32))])) (fun target kt => ?_) ?_
    · skip
      show Steps p.tables e below (s₁.setTop (mkF m 5 #[.val (.ref a0), .val (.int (Int32.ofNat f)), .val (.int (Int32.ofNat t)), .val (.int (Int32.ofNat (t - f))), .unset, .unset, .unset] [(.int (Int32.ofNat (t - f)))])) _
      refine XS.ifYes X0.here hx rfl (pc0 := 5) (pc' := 27) rfl (hb hby d2_5) rfl ((if0 _ _).trans (teq hc5).1) (by decide) (by decide) ?_
      show Steps p.tables e below (s₁.setTop (mkF m 27 #[.val (.ref a0), .val (.int (Int32.ofNat f)), .val (.int (Int32.ofNat t)), .val (.int (Int32.ofNat (t - f))), .unset, .unset, .unset] [])) _
      refine XS.iconst X0.here hx rfl (hb hby d2_27) ?_
      exact kt
    obtain ⟨fs, hr, hrun, hended, hW, hsame⟩ := X0.leave (v := some (.int (-1 : Int32))) (fun h => by rw [Bd.returns] at h; cases h)
    refine ⟨_, _, ?_, hrun, hended, _, _, rfl, ?_, ⟨_, rfl⟩, hW, hsame.mono (by decide) (by decide)⟩
    · exact retI X0 hx Bd.returns (hb hby d2_28) hr
    · show Q2 Z a0 f t g h0 n0 _ s₁.heap _
      rw [e0]
      exact ⟨(by (first | (simp only [own_value, if_pos hc5]; done) | (simp [own_value, if_pos hc5]; done) | rfl)), N0, rfl⟩
  · skip
    refine own_go (S' := s₁.setTop (mkF m 11 #[.val (.ref a0), .val (.int (Int32.ofNat f)), .val (.int (Int32.ofNat t)), .val (.int (Int32.ofNat (t - f))), .unset, .unset, .unset] [(.int (9 : Int32)), (.int (Int32.ofNat (t - f)))])) (fun target kt => ?_) ?_
    · skip
      show Steps p.tables e below (s₁.setTop (mkF m 5 #[.val (.ref a0), .val (.int (Int32.ofNat f)), .val (.int (Int32.ofNat t)), .val (.int (Int32.ofNat (t - f))), .unset, .unset, .unset] [(.int (Int32.ofNat (t - f)))])) _
      refine XS.ifNo X0.here hx rfl (hb hby d2_5) rfl ((if0 _ _).trans (feq hc5).1) ?_
      show Steps p.tables e below (s₁.setTop (mkF m 8 #[.val (.ref a0), .val (.int (Int32.ofNat f)), .val (.int (Int32.ofNat t)), .val (.int (Int32.ofNat (t - f))), .unset, .unset, .unset] [])) _
      refine XS.iloadN X0.here hx rfl (hb hby d2_8) rfl ?_
      show Steps p.tables e below (s₁.setTop (mkF m 9 #[.val (.ref a0), .val (.int (Int32.ofNat f)), .val (.int (Int32.ofNat t)), .val (.int (Int32.ofNat (t - f))), .unset, .unset, .unset] [(.int (Int32.ofNat (t - f)))])) _
      refine XS.bipush X0.here hx rfl (hb hby d2_9) ?_
      exact kt
    by_cases hc11 : (9 : Int32) < (Int32.ofNat (t - f))
    · skip
      refine own_go (S' := s₁.setTop (mkF m 28 #[.val (.ref a0), .val (.int (Int32.ofNat f)), .val (.int (Int32.ofNat t)), .val (.int (Int32.ofNat (t - f))), .unset, .unset, .unset] [(.int (-1 : Int32))])) (fun target kt => ?_) ?_
      · skip
        show Steps p.tables e below (s₁.setTop (mkF m 11 #[.val (.ref a0), .val (.int (Int32.ofNat f)), .val (.int (Int32.ofNat t)), .val (.int (Int32.ofNat (t - f))), .unset, .unset, .unset] [(.int (9 : Int32)), (.int (Int32.ofNat (t - f)))])) _
        refine XS.icmpYes X0.here hx rfl (pc0 := 11) (pc' := 27) rfl (hb hby d2_11) rfl (tlt hc11).2.2.1 (by decide) (by decide) ?_
        show Steps p.tables e below (s₁.setTop (mkF m 27 #[.val (.ref a0), .val (.int (Int32.ofNat f)), .val (.int (Int32.ofNat t)), .val (.int (Int32.ofNat (t - f))), .unset, .unset, .unset] [])) _
        refine XS.iconst X0.here hx rfl (hb hby d2_27) ?_
        exact kt
      obtain ⟨fs, hr, hrun, hended, hW, hsame⟩ := X0.leave (v := some (.int (-1 : Int32))) (fun h => by rw [Bd.returns] at h; cases h)
      refine ⟨_, _, ?_, hrun, hended, _, _, rfl, ?_, ⟨_, rfl⟩, hW, hsame.mono (by decide) (by decide)⟩
      · exact retI X0 hx Bd.returns (hb hby d2_28) hr
      · show Q2 Z a0 f t g h0 n0 _ s₁.heap _
        rw [e0]
        exact ⟨(by (first | (simp only [own_value, if_neg hc5, if_pos hc11]; done) | (simp [own_value, if_neg hc5, if_pos hc11]; done) | rfl)), N0, rfl⟩
    · skip
      refine own_go (S' := s₁.setTop (mkF m 16 #[.val (.ref a0), .val (.int (Int32.ofNat f)), .val (.int (Int32.ofNat t)), .val (.int (Int32.ofNat (t - f))), .unset, .unset, .unset] [(.int (1 : Int32)), (.int (Int32.ofNat (t - f)))])) (fun target kt => ?_) ?_
      · skip
        show Steps p.tables e below (s₁.setTop (mkF m 11 #[.val (.ref a0), .val (.int (Int32.ofNat f)), .val (.int (Int32.ofNat t)), .val (.int (Int32.ofNat (t - f))), .unset, .unset, .unset] [(.int (9 : Int32)), (.int (Int32.ofNat (t - f)))])) _
        refine XS.icmpNo X0.here hx rfl (hb hby d2_11) rfl (flt hc11).2.2.1 ?_
        show Steps p.tables e below (s₁.setTop (mkF m 14 #[.val (.ref a0), .val (.int (Int32.ofNat f)), .val (.int (Int32.ofNat t)), .val (.int (Int32.ofNat (t - f))), .unset, .unset, .unset] [])) _
        refine XS.iloadN X0.here hx rfl (hb hby d2_14) rfl ?_
        show Steps p.tables e below (s₁.setTop (mkF m 15 #[.val (.ref a0), .val (.int (Int32.ofNat f)), .val (.int (Int32.ofNat t)), .val (.int (Int32.ofNat (t - f))), .unset, .unset, .unset] [(.int (Int32.ofNat (t - f)))])) _
        refine XS.iconst X0.here hx rfl (hb hby d2_15) ?_
        exact kt
      by_cases hc16 : (1 : Int32) < (Int32.ofNat (t - f))
      · skip
        refine own_go (S' := s₁.setTop (mkF m 21 #[.val (.ref a0), .val (.int (Int32.ofNat f)), .val (.int (Int32.ofNat t)), .val (.int (Int32.ofNat (t - f))), .unset, .unset, .unset] [(.int (Int32.ofNat f)), (.ref a0)])) (fun target kt => ?_) ?_
        · skip
          show Steps p.tables e below (s₁.setTop (mkF m 16 #[.val (.ref a0), .val (.int (Int32.ofNat f)), .val (.int (Int32.ofNat t)), .val (.int (Int32.ofNat (t - f))), .unset, .unset, .unset] [(.int (1 : Int32)), (.int (Int32.ofNat (t - f)))])) _
          refine XS.icmpNo X0.here hx rfl (hb hby d2_16) rfl (tlt hc16).2.2.2 ?_
          show Steps p.tables e below (s₁.setTop (mkF m 19 #[.val (.ref a0), .val (.int (Int32.ofNat f)), .val (.int (Int32.ofNat t)), .val (.int (Int32.ofNat (t - f))), .unset, .unset, .unset] [])) _
          refine XS.aloadN X0.here hx rfl (hb hby d2_19) rfl rfl ?_
          show Steps p.tables e below (s₁.setTop (mkF m 20 #[.val (.ref a0), .val (.int (Int32.ofNat f)), .val (.int (Int32.ofNat t)), .val (.int (Int32.ofNat (t - f))), .unset, .unset, .unset] [(.ref a0)])) _
          refine XS.iloadN X0.here hx rfl (hb hby d2_20) rfl ?_
          exact kt
        have hf12 := own_f12 hft ht hc16
        obtain ⟨c5, Ar5, S5, M5, H5⟩ := id pf0
        have hj5 : ¬ (Int32.ofNat f) < 0 ∧ ((Int32.ofNat f)).toNatClampNeg < 12 := (own_inb hf12)
        have st5 : ∀ target, Steps p.tables e below (s₁.setTop (mkF m 22 #[.val (.ref a0), .val (.int (Int32.ofNat f)), .val (.int (Int32.ofNat t)), .val (.int (Int32.ofNat (t - f))), .unset, .unset, .unset] [(.int (g ((Int32.ofNat f)).toNatClampNeg))])) target → Steps p.tables e below (s₁.setTop (mkF m 21 #[.val (.ref a0), .val (.int (Int32.ofNat f)), .val (.int (Int32.ofNat t)), .val (.int (Int32.ofNat (t - f))), .unset, .unset, .unset] [(.int (Int32.ofNat f)), (.ref a0)])) target := fun target kt => X0.baloadBytes hx (j := (Int32.ofNat f)) (v := (.int (g ((Int32.ofNat f)).toNatClampNeg))) (by rw [e0]; exact Ar5.1) (State.isArrayOf_alike hZ.alike Ar5.2.1) Ar5.2.2 (own_in S5 hj5) (H5 _ hj5.2) (g := (mkF m 21 #[.val (.ref a0), .val (.int (Int32.ofNat f)), .val (.int (Int32.ofNat t)), .val (.int (Int32.ofNat (t - f))), .unset, .unset, .unset] [(.int (Int32.ofNat f)), (.ref a0)])) rfl rfl (hb hby d2_21) _ kt
        refine own_go (S' := s₁.setTop (mkF m 22 #[.val (.ref a0), .val (.int (Int32.ofNat f)), .val (.int (Int32.ofNat t)), .val (.int (Int32.ofNat (t - f))), .unset, .unset, .unset] [(.int (g ((Int32.ofNat f)).toNatClampNeg))])) st5 ?_
        rw [show (g ((Int32.ofNat f)).toNatClampNeg) = (g f) from congrArg g (own_clamp (by omega))]
        refine own_go (S' := s₁.setTop (mkF m 24 #[.val (.ref a0), .val (.int (Int32.ofNat f)), .val (.int (Int32.ofNat t)), .val (.int (Int32.ofNat (t - f))), .unset, .unset, .unset] [(.int (48 : Int32)), (.int (g f))])) (fun target kt => ?_) ?_
        · skip
          show Steps p.tables e below (s₁.setTop (mkF m 22 #[.val (.ref a0), .val (.int (Int32.ofNat f)), .val (.int (Int32.ofNat t)), .val (.int (Int32.ofNat (t - f))), .unset, .unset, .unset] [(.int (g f))])) _
          refine XS.bipush X0.here hx rfl (hb hby d2_22) ?_
          exact kt
        by_cases hc24 : (g f) = (48 : Int32)
        · skip
          refine own_go (S' := s₁.setTop (mkF m 28 #[.val (.ref a0), .val (.int (Int32.ofNat f)), .val (.int (Int32.ofNat t)), .val (.int (Int32.ofNat (t - f))), .unset, .unset, .unset] [(.int (-1 : Int32))])) (fun target kt => ?_) ?_
          · skip
            show Steps p.tables e below (s₁.setTop (mkF m 24 #[.val (.ref a0), .val (.int (Int32.ofNat f)), .val (.int (Int32.ofNat t)), .val (.int (Int32.ofNat (t - f))), .unset, .unset, .unset] [(.int (48 : Int32)), (.int (g f))])) _
            refine XS.icmpNo X0.here hx rfl (hb hby d2_24) rfl (teq hc24).2 ?_
            show Steps p.tables e below (s₁.setTop (mkF m 27 #[.val (.ref a0), .val (.int (Int32.ofNat f)), .val (.int (Int32.ofNat t)), .val (.int (Int32.ofNat (t - f))), .unset, .unset, .unset] [])) _
            refine XS.iconst X0.here hx rfl (hb hby d2_27) ?_
            exact kt
          obtain ⟨fs, hr, hrun, hended, hW, hsame⟩ := X0.leave (v := some (.int (-1 : Int32))) (fun h => by rw [Bd.returns] at h; cases h)
          refine ⟨_, _, ?_, hrun, hended, _, _, rfl, ?_, ⟨_, rfl⟩, hW, hsame.mono (by decide) (by decide)⟩
          · exact retI X0 hx Bd.returns (hb hby d2_28) hr
          · show Q2 Z a0 f t g h0 n0 _ s₁.heap _
            rw [e0]
            exact ⟨(by (first | (simp only [own_value, if_neg hc5, if_neg hc11, if_pos hc16, if_pos hc24]; done) | (simp [own_value, if_neg hc5, if_neg hc11, if_pos hc16, if_pos hc24]; done) | rfl)), N0, rfl⟩
        · skip
          refine own_go (S' := s₁.setTop (mkF m 35 #[.val (.ref a0), .val (.int (Int32.ofNat f)), .val (.int (Int32.ofNat t)), .val (.int (Int32.ofNat (t - f))), .val (.int (0 : Int32)), .val (.int (Int32.ofNat f)), .unset] [])) (fun target kt => ?_) ?_
          · skip
            show Steps p.tables e below (s₁.setTop (mkF m 24 #[.val (.ref a0), .val (.int (Int32.ofNat f)), .val (.int (Int32.ofNat t)), .val (.int (Int32.ofNat (t - f))), .unset, .unset, .unset] [(.int (48 : Int32)), (.int (g f))])) _
            refine XS.icmpYes X0.here hx rfl (pc0 := 24) (pc' := 29) rfl (hb hby d2_24) rfl (feq hc24).2 (by decide) (by decide) ?_
            show Steps p.tables e below (s₁.setTop (mkF m 29 #[.val (.ref a0), .val (.int (Int32.ofNat f)), .val (.int (Int32.ofNat t)), .val (.int (Int32.ofNat (t - f))), .unset, .unset, .unset] [])) _
            refine XS.iconst X0.here hx rfl (hb hby d2_29) ?_
            show Steps p.tables e below (s₁.setTop (mkF m 30 #[.val (.ref a0), .val (.int (Int32.ofNat f)), .val (.int (Int32.ofNat t)), .val (.int (Int32.ofNat (t - f))), .unset, .unset, .unset] [(.int (0 : Int32))])) _
            refine XS.istore X0.here hx rfl (hb hby d2_30) rfl (l' := #[.val (.ref a0), .val (.int (Int32.ofNat f)), .val (.int (Int32.ofNat t)), .val (.int (Int32.ofNat (t - f))), .val (.int (0 : Int32)), .unset, .unset]) rfl ?_
            show Steps p.tables e below (s₁.setTop (mkF m 32 #[.val (.ref a0), .val (.int (Int32.ofNat f)), .val (.int (Int32.ofNat t)), .val (.int (Int32.ofNat (t - f))), .val (.int (0 : Int32)), .unset, .unset] [])) _
            refine XS.iloadN X0.here hx rfl (hb hby d2_32) rfl ?_
            show Steps p.tables e below (s₁.setTop (mkF m 33 #[.val (.ref a0), .val (.int (Int32.ofNat f)), .val (.int (Int32.ofNat t)), .val (.int (Int32.ofNat (t - f))), .val (.int (0 : Int32)), .unset, .unset] [(.int (Int32.ofNat f))])) _
            refine XS.istore X0.here hx rfl (hb hby d2_33) rfl (l' := #[.val (.ref a0), .val (.int (Int32.ofNat f)), .val (.int (Int32.ofNat t)), .val (.int (Int32.ofNat (t - f))), .val (.int (0 : Int32)), .val (.int (Int32.ofNat f)), .unset]) rfl ?_
            exact kt
          have own_loop : ∀ (k : Nat) (i : Nat) (acc : Int32) (d : Slot) (T : State) (locs : List Loc), (hk : i + k = t) → (h_d : One d) → Stand p l e ({ frames := 0, cells := 0, slots := 0, locals := 0 } : Room) s m #[(.ref a0), (.int (Int32.ofNat f)), (.int (Int32.ofNat t))] below meth c T locs 0 0 → T.heap = h0 → Fr n0 locs → ∃ s₂ o, Steps p.tables e below (T.setTop (mkF m 35 #[.val (.ref a0), .val (.int (Int32.ofNat f)), .val (.int (Int32.ofNat t)), .val (.int (Int32.ofNat (t - f))), .val (.int acc), .val (.int (Int32.ofNat i)), d] [])) s₂ ∧ s₂.status = .running ∧ Ended s₂ below o ∧ ∃ v LL, o = .returned v ∧ (v = some (.int (own_hor g k i acc)) ∧ Fr n0 LL ∧ s₂.heap = h0) ∧ FrameEnd s o s₂ LL ({ frames := 0, cells := 0, slots := 0, locals := 0 } : Room).cells ({ frames := 0, cells := 0, slots := 0, locals := 0 } : Room).slots := by
            intro k
            induction k with
            | zero =>
              intro i acc d T locs hk h_d XL eL NL
              refine own_go (S' := T.setTop (mkF m 82 #[.val (.ref a0), .val (.int (Int32.ofNat f)), .val (.int (Int32.ofNat t)), .val (.int (Int32.ofNat (t - f))), .val (.int acc), .val (.int (Int32.ofNat i)), d] [(.int acc)])) (fun target kt => ?_) ?_
              · skip
                show Steps p.tables e below (T.setTop (mkF m 35 #[.val (.ref a0), .val (.int (Int32.ofNat f)), .val (.int (Int32.ofNat t)), .val (.int (Int32.ofNat (t - f))), .val (.int acc), .val (.int (Int32.ofNat i)), d] [])) _
                refine XS.iload XL.here hx rfl (hb hby d2_35) rfl ?_
                show Steps p.tables e below (T.setTop (mkF m 37 #[.val (.ref a0), .val (.int (Int32.ofNat f)), .val (.int (Int32.ofNat t)), .val (.int (Int32.ofNat (t - f))), .val (.int acc), .val (.int (Int32.ofNat i)), d] [(.int (Int32.ofNat i))])) _
                refine XS.iloadN XL.here hx rfl (hb hby d2_37) rfl ?_
                show Steps p.tables e below (T.setTop (mkF m 38 #[.val (.ref a0), .val (.int (Int32.ofNat f)), .val (.int (Int32.ofNat t)), .val (.int (Int32.ofNat (t - f))), .val (.int acc), .val (.int (Int32.ofNat i)), d] [(.int (Int32.ofNat t)), (.int (Int32.ofNat i))])) _
                refine XS.icmpYes XL.here hx rfl (pc0 := 38) (pc' := 80) rfl (hb hby d2_38) rfl (flt (own_nlt (by omega) (by omega) (by omega) : ¬ ((Int32.ofNat i) < (Int32.ofNat t)))).2.1 (by decide) (by decide) ?_
                show Steps p.tables e below (T.setTop (mkF m 80 #[.val (.ref a0), .val (.int (Int32.ofNat f)), .val (.int (Int32.ofNat t)), .val (.int (Int32.ofNat (t - f))), .val (.int acc), .val (.int (Int32.ofNat i)), d] [])) _
                refine XS.iload XL.here hx rfl (hb hby d2_80) rfl ?_
                exact kt
              obtain ⟨fs, hr, hrun, hended, hW, hsame⟩ := XL.leave (v := some (.int acc)) (fun h => by rw [Bd.returns] at h; cases h)
              refine ⟨_, _, ?_, hrun, hended, _, _, rfl, ?_, ⟨_, rfl⟩, hW, hsame.mono (by decide) (by decide)⟩
              · exact retI XL hx Bd.returns (hb hby d2_82) hr
              · skip
                exact ⟨(by (first | (simp only [own_hor, if_neg hc5, if_neg hc11, if_pos hc16, if_neg hc24]; done) | (simp [own_hor, if_neg hc5, if_neg hc11, if_pos hc16, if_neg hc24]; done) | rfl)), NL, eL⟩
            | succ k ih =>
              intro i acc d T locs hk h_d XL eL NL
              refine own_go (S' := T.setTop (mkF m 44 #[.val (.ref a0), .val (.int (Int32.ofNat f)), .val (.int (Int32.ofNat t)), .val (.int (Int32.ofNat (t - f))), .val (.int acc), .val (.int (Int32.ofNat i)), d] [(.int (Int32.ofNat i)), (.ref a0)])) (fun target kt => ?_) ?_
              · skip
                show Steps p.tables e below (T.setTop (mkF m 35 #[.val (.ref a0), .val (.int (Int32.ofNat f)), .val (.int (Int32.ofNat t)), .val (.int (Int32.ofNat (t - f))), .val (.int acc), .val (.int (Int32.ofNat i)), d] [])) _
                refine XS.iload XL.here hx rfl (hb hby d2_35) rfl ?_
                show Steps p.tables e below (T.setTop (mkF m 37 #[.val (.ref a0), .val (.int (Int32.ofNat f)), .val (.int (Int32.ofNat t)), .val (.int (Int32.ofNat (t - f))), .val (.int acc), .val (.int (Int32.ofNat i)), d] [(.int (Int32.ofNat i))])) _
                refine XS.iloadN XL.here hx rfl (hb hby d2_37) rfl ?_
                show Steps p.tables e below (T.setTop (mkF m 38 #[.val (.ref a0), .val (.int (Int32.ofNat f)), .val (.int (Int32.ofNat t)), .val (.int (Int32.ofNat (t - f))), .val (.int acc), .val (.int (Int32.ofNat i)), d] [(.int (Int32.ofNat t)), (.int (Int32.ofNat i))])) _
                refine XS.icmpNo XL.here hx rfl (hb hby d2_38) rfl (tlt (own_lt (by omega) (by omega) : (Int32.ofNat i) < (Int32.ofNat t))).2.1 ?_
                show Steps p.tables e below (T.setTop (mkF m 41 #[.val (.ref a0), .val (.int (Int32.ofNat f)), .val (.int (Int32.ofNat t)), .val (.int (Int32.ofNat (t - f))), .val (.int acc), .val (.int (Int32.ofNat i)), d] [])) _
                refine XS.aloadN XL.here hx rfl (hb hby d2_41) rfl rfl ?_
                show Steps p.tables e below (T.setTop (mkF m 42 #[.val (.ref a0), .val (.int (Int32.ofNat f)), .val (.int (Int32.ofNat t)), .val (.int (Int32.ofNat (t - f))), .val (.int acc), .val (.int (Int32.ofNat i)), d] [(.ref a0)])) _
                refine XS.iload XL.here hx rfl (hb hby d2_42) rfl ?_
                exact kt
              obtain ⟨c6, Ar6, S6, M6, H6⟩ := id pf0
              have hj6 : ¬ (Int32.ofNat i) < 0 ∧ ((Int32.ofNat i)).toNatClampNeg < 12 := (own_inb (by omega))
              have st6 : ∀ target, Steps p.tables e below (T.setTop (mkF m 45 #[.val (.ref a0), .val (.int (Int32.ofNat f)), .val (.int (Int32.ofNat t)), .val (.int (Int32.ofNat (t - f))), .val (.int acc), .val (.int (Int32.ofNat i)), d] [(.int (g ((Int32.ofNat i)).toNatClampNeg))])) target → Steps p.tables e below (T.setTop (mkF m 44 #[.val (.ref a0), .val (.int (Int32.ofNat f)), .val (.int (Int32.ofNat t)), .val (.int (Int32.ofNat (t - f))), .val (.int acc), .val (.int (Int32.ofNat i)), d] [(.int (Int32.ofNat i)), (.ref a0)])) target := fun target kt => XL.baloadBytes hx (j := (Int32.ofNat i)) (v := (.int (g ((Int32.ofNat i)).toNatClampNeg))) (by rw [eL]; exact Ar6.1) (State.isArrayOf_alike hZ.alike Ar6.2.1) Ar6.2.2 (own_in S6 hj6) (H6 _ hj6.2) (g := (mkF m 44 #[.val (.ref a0), .val (.int (Int32.ofNat f)), .val (.int (Int32.ofNat t)), .val (.int (Int32.ofNat (t - f))), .val (.int acc), .val (.int (Int32.ofNat i)), d] [(.int (Int32.ofNat i)), (.ref a0)])) rfl rfl (hb hby d2_44) _ kt
              refine own_go (S' := T.setTop (mkF m 45 #[.val (.ref a0), .val (.int (Int32.ofNat f)), .val (.int (Int32.ofNat t)), .val (.int (Int32.ofNat (t - f))), .val (.int acc), .val (.int (Int32.ofNat i)), d] [(.int (g ((Int32.ofNat i)).toNatClampNeg))])) st6 ?_
              rw [show (g ((Int32.ofNat i)).toNatClampNeg) = (g i) from congrArg g (own_clamp (by omega))]
              obtain ⟨dg, h_dg⟩ : ∃ z : Int32, z = ((g i) - (48 : Int32)) := ⟨_, rfl⟩
              refine own_go (S' := T.setTop (mkF m 50 #[.val (.ref a0), .val (.int (Int32.ofNat f)), .val (.int (Int32.ofNat t)), .val (.int (Int32.ofNat (t - f))), .val (.int acc), .val (.int (Int32.ofNat i)), .val (.int dg)] [])) (fun target kt => ?_) ?_
              · subst h_dg
                show Steps p.tables e below (T.setTop (mkF m 45 #[.val (.ref a0), .val (.int (Int32.ofNat f)), .val (.int (Int32.ofNat t)), .val (.int (Int32.ofNat (t - f))), .val (.int acc), .val (.int (Int32.ofNat i)), d] [(.int (g i))])) _
                refine XS.bipush XL.here hx rfl (hb hby d2_45) ?_
                show Steps p.tables e below (T.setTop (mkF m 47 #[.val (.ref a0), .val (.int (Int32.ofNat f)), .val (.int (Int32.ofNat t)), .val (.int (Int32.ofNat (t - f))), .val (.int acc), .val (.int (Int32.ofNat i)), d] [(.int (48 : Int32)), (.int (g i))])) _
                refine XS.isub XL.here hx rfl (hb hby d2_47) rfl ?_
                show Steps p.tables e below (T.setTop (mkF m 48 #[.val (.ref a0), .val (.int (Int32.ofNat f)), .val (.int (Int32.ofNat t)), .val (.int (Int32.ofNat (t - f))), .val (.int acc), .val (.int (Int32.ofNat i)), d] [(.int ((g i) - (48 : Int32)))])) _
                refine XS.istore XL.here hx rfl (hb hby d2_48) rfl (l' := #[.val (.ref a0), .val (.int (Int32.ofNat f)), .val (.int (Int32.ofNat t)), .val (.int (Int32.ofNat (t - f))), .val (.int acc), .val (.int (Int32.ofNat i)), .val (.int ((g i) - (48 : Int32)))]) (by rcases h_d with rfl | ⟨w, rfl, hw⟩ <;> first | rfl | (cases w <;> first | rfl | (simp [Value.category] at hw))) ?_
                exact kt
              refine own_go (S' := T.setTop (mkF m 52 #[.val (.ref a0), .val (.int (Int32.ofNat f)), .val (.int (Int32.ofNat t)), .val (.int (Int32.ofNat (t - f))), .val (.int acc), .val (.int (Int32.ofNat i)), .val (.int dg)] [(.int dg)])) (fun target kt => ?_) ?_
              · skip
                show Steps p.tables e below (T.setTop (mkF m 50 #[.val (.ref a0), .val (.int (Int32.ofNat f)), .val (.int (Int32.ofNat t)), .val (.int (Int32.ofNat (t - f))), .val (.int acc), .val (.int (Int32.ofNat i)), .val (.int dg)] [])) _
                refine XS.iload XL.here hx rfl (hb hby d2_50) rfl ?_
                exact kt
              by_cases hc52 : dg < (0 : Int32)
              · skip
                refine own_go (S' := T.setTop (mkF m 63 #[.val (.ref a0), .val (.int (Int32.ofNat f)), .val (.int (Int32.ofNat t)), .val (.int (Int32.ofNat (t - f))), .val (.int acc), .val (.int (Int32.ofNat i)), .val (.int dg)] [(.int (-1 : Int32))])) (fun target kt => ?_) ?_
                · skip
                  show Steps p.tables e below (T.setTop (mkF m 52 #[.val (.ref a0), .val (.int (Int32.ofNat f)), .val (.int (Int32.ofNat t)), .val (.int (Int32.ofNat (t - f))), .val (.int acc), .val (.int (Int32.ofNat i)), .val (.int dg)] [(.int dg)])) _
                  refine XS.ifYes XL.here hx rfl (pc0 := 52) (pc' := 62) rfl (hb hby d2_52) rfl ((if0 _ _).trans (tlt hc52).1) (by decide) (by decide) ?_
                  show Steps p.tables e below (T.setTop (mkF m 62 #[.val (.ref a0), .val (.int (Int32.ofNat f)), .val (.int (Int32.ofNat t)), .val (.int (Int32.ofNat (t - f))), .val (.int acc), .val (.int (Int32.ofNat i)), .val (.int dg)] [])) _
                  refine XS.iconst XL.here hx rfl (hb hby d2_62) ?_
                  exact kt
                obtain ⟨fs, hr, hrun, hended, hW, hsame⟩ := XL.leave (v := some (.int (-1 : Int32))) (fun h => by rw [Bd.returns] at h; cases h)
                refine ⟨_, _, ?_, hrun, hended, _, _, rfl, ?_, ⟨_, rfl⟩, hW, hsame.mono (by decide) (by decide)⟩
                · exact retI XL hx Bd.returns (hb hby d2_63) hr
                · skip
                  exact ⟨(by subst h_dg; (first | (simp only [own_hor, if_neg hc5, if_neg hc11, if_pos hc16, if_neg hc24, if_pos hc52]; done) | (simp [own_hor, if_neg hc5, if_neg hc11, if_pos hc16, if_neg hc24, if_pos hc52]; done) | rfl)), NL, eL⟩
              · skip
                refine own_go (S' := T.setTop (mkF m 59 #[.val (.ref a0), .val (.int (Int32.ofNat f)), .val (.int (Int32.ofNat t)), .val (.int (Int32.ofNat (t - f))), .val (.int acc), .val (.int (Int32.ofNat i)), .val (.int dg)] [(.int (9 : Int32)), (.int dg)])) (fun target kt => ?_) ?_
                · skip
                  show Steps p.tables e below (T.setTop (mkF m 52 #[.val (.ref a0), .val (.int (Int32.ofNat f)), .val (.int (Int32.ofNat t)), .val (.int (Int32.ofNat (t - f))), .val (.int acc), .val (.int (Int32.ofNat i)), .val (.int dg)] [(.int dg)])) _
                  refine XS.ifNo XL.here hx rfl (hb hby d2_52) rfl ((if0 _ _).trans (flt hc52).1) ?_
                  show Steps p.tables e below (T.setTop (mkF m 55 #[.val (.ref a0), .val (.int (Int32.ofNat f)), .val (.int (Int32.ofNat t)), .val (.int (Int32.ofNat (t - f))), .val (.int acc), .val (.int (Int32.ofNat i)), .val (.int dg)] [])) _
                  refine XS.iload XL.here hx rfl (hb hby d2_55) rfl ?_
                  show Steps p.tables e below (T.setTop (mkF m 57 #[.val (.ref a0), .val (.int (Int32.ofNat f)), .val (.int (Int32.ofNat t)), .val (.int (Int32.ofNat (t - f))), .val (.int acc), .val (.int (Int32.ofNat i)), .val (.int dg)] [(.int dg)])) _
                  refine XS.bipush XL.here hx rfl (hb hby d2_57) ?_
                  exact kt
                by_cases hc59 : (9 : Int32) < dg
                · skip
                  refine own_go (S' := T.setTop (mkF m 63 #[.val (.ref a0), .val (.int (Int32.ofNat f)), .val (.int (Int32.ofNat t)), .val (.int (Int32.ofNat (t - f))), .val (.int acc), .val (.int (Int32.ofNat i)), .val (.int dg)] [(.int (-1 : Int32))])) (fun target kt => ?_) ?_
                  · skip
                    show Steps p.tables e below (T.setTop (mkF m 59 #[.val (.ref a0), .val (.int (Int32.ofNat f)), .val (.int (Int32.ofNat t)), .val (.int (Int32.ofNat (t - f))), .val (.int acc), .val (.int (Int32.ofNat i)), .val (.int dg)] [(.int (9 : Int32)), (.int dg)])) _
                    refine XS.icmpNo XL.here hx rfl (hb hby d2_59) rfl (tlt hc59).2.2.2 ?_
                    show Steps p.tables e below (T.setTop (mkF m 62 #[.val (.ref a0), .val (.int (Int32.ofNat f)), .val (.int (Int32.ofNat t)), .val (.int (Int32.ofNat (t - f))), .val (.int acc), .val (.int (Int32.ofNat i)), .val (.int dg)] [])) _
                    refine XS.iconst XL.here hx rfl (hb hby d2_62) ?_
                    exact kt
                  obtain ⟨fs, hr, hrun, hended, hW, hsame⟩ := XL.leave (v := some (.int (-1 : Int32))) (fun h => by rw [Bd.returns] at h; cases h)
                  refine ⟨_, _, ?_, hrun, hended, _, _, rfl, ?_, ⟨_, rfl⟩, hW, hsame.mono (by decide) (by decide)⟩
                  · exact retI XL hx Bd.returns (hb hby d2_63) hr
                  · skip
                    exact ⟨(by subst h_dg; (first | (simp only [own_hor, if_neg hc5, if_neg hc11, if_pos hc16, if_neg hc24, if_neg hc52, if_pos hc59]; done) | (simp [own_hor, if_neg hc5, if_neg hc11, if_pos hc16, if_neg hc24, if_neg hc52, if_pos hc59]; done) | rfl)), NL, eL⟩
                · skip
                  obtain ⟨i1, h_i1⟩ : ∃ z : Int32, z = ((Int32.ofNat i) + (1 : Int32)) := ⟨_, rfl⟩
                  refine own_go (S' := T.setTop (mkF m 77 #[.val (.ref a0), .val (.int (Int32.ofNat f)), .val (.int (Int32.ofNat t)), .val (.int (Int32.ofNat (t - f))), .val (.int ((acc * (10 : Int32)) + dg)), .val (.int i1), .val (.int dg)] [])) (fun target kt => ?_) ?_
                  · subst h_i1
                    show Steps p.tables e below (T.setTop (mkF m 59 #[.val (.ref a0), .val (.int (Int32.ofNat f)), .val (.int (Int32.ofNat t)), .val (.int (Int32.ofNat (t - f))), .val (.int acc), .val (.int (Int32.ofNat i)), .val (.int dg)] [(.int (9 : Int32)), (.int dg)])) _
                    refine XS.icmpYes XL.here hx rfl (pc0 := 59) (pc' := 64) rfl (hb hby d2_59) rfl (flt hc59).2.2.2 (by decide) (by decide) ?_
                    show Steps p.tables e below (T.setTop (mkF m 64 #[.val (.ref a0), .val (.int (Int32.ofNat f)), .val (.int (Int32.ofNat t)), .val (.int (Int32.ofNat (t - f))), .val (.int acc), .val (.int (Int32.ofNat i)), .val (.int dg)] [])) _
                    refine XS.iload XL.here hx rfl (hb hby d2_64) rfl ?_
                    show Steps p.tables e below (T.setTop (mkF m 66 #[.val (.ref a0), .val (.int (Int32.ofNat f)), .val (.int (Int32.ofNat t)), .val (.int (Int32.ofNat (t - f))), .val (.int acc), .val (.int (Int32.ofNat i)), .val (.int dg)] [(.int acc)])) _
                    refine XS.bipush XL.here hx rfl (hb hby d2_66) ?_
                    show Steps p.tables e below (T.setTop (mkF m 68 #[.val (.ref a0), .val (.int (Int32.ofNat f)), .val (.int (Int32.ofNat t)), .val (.int (Int32.ofNat (t - f))), .val (.int acc), .val (.int (Int32.ofNat i)), .val (.int dg)] [(.int (10 : Int32)), (.int acc)])) _
                    refine XS.imul XL.here hx rfl (hb hby d2_68) rfl ?_
                    show Steps p.tables e below (T.setTop (mkF m 69 #[.val (.ref a0), .val (.int (Int32.ofNat f)), .val (.int (Int32.ofNat t)), .val (.int (Int32.ofNat (t - f))), .val (.int acc), .val (.int (Int32.ofNat i)), .val (.int dg)] [(.int (acc * (10 : Int32)))])) _
                    refine XS.iload XL.here hx rfl (hb hby d2_69) rfl ?_
                    show Steps p.tables e below (T.setTop (mkF m 71 #[.val (.ref a0), .val (.int (Int32.ofNat f)), .val (.int (Int32.ofNat t)), .val (.int (Int32.ofNat (t - f))), .val (.int acc), .val (.int (Int32.ofNat i)), .val (.int dg)] [(.int dg), (.int (acc * (10 : Int32)))])) _
                    refine XS.iadd XL.here hx rfl (hb hby d2_71) rfl ?_
                    show Steps p.tables e below (T.setTop (mkF m 72 #[.val (.ref a0), .val (.int (Int32.ofNat f)), .val (.int (Int32.ofNat t)), .val (.int (Int32.ofNat (t - f))), .val (.int acc), .val (.int (Int32.ofNat i)), .val (.int dg)] [(.int ((acc * (10 : Int32)) + dg))])) _
                    refine XS.istore XL.here hx rfl (hb hby d2_72) rfl (l' := #[.val (.ref a0), .val (.int (Int32.ofNat f)), .val (.int (Int32.ofNat t)), .val (.int (Int32.ofNat (t - f))), .val (.int ((acc * (10 : Int32)) + dg)), .val (.int (Int32.ofNat i)), .val (.int dg)]) rfl ?_
                    show Steps p.tables e below (T.setTop (mkF m 74 #[.val (.ref a0), .val (.int (Int32.ofNat f)), .val (.int (Int32.ofNat t)), .val (.int (Int32.ofNat (t - f))), .val (.int ((acc * (10 : Int32)) + dg)), .val (.int (Int32.ofNat i)), .val (.int dg)] [])) _
                    refine XS.iinc XL.here hx rfl (hb hby d2_74) rfl (l' := #[.val (.ref a0), .val (.int (Int32.ofNat f)), .val (.int (Int32.ofNat t)), .val (.int (Int32.ofNat (t - f))), .val (.int ((acc * (10 : Int32)) + dg)), .val (.int ((Int32.ofNat i) + (1 : Int32))), .val (.int dg)]) rfl ?_
                    exact kt
                  have hb_i1 : i1 = (Int32.ofNat (i + 1)) := h_i1.trans (own_one i)
                  subst hb_i1
                  refine own_go (S' := T.setTop (mkF m 35 #[.val (.ref a0), .val (.int (Int32.ofNat f)), .val (.int (Int32.ofNat t)), .val (.int (Int32.ofNat (t - f))), .val (.int ((acc * (10 : Int32)) + dg)), .val (.int (Int32.ofNat (i + 1))), .val (.int dg)] [])) (fun target kt => ?_) ?_
                  · skip
                    show Steps p.tables e below (T.setTop (mkF m 77 #[.val (.ref a0), .val (.int (Int32.ofNat f)), .val (.int (Int32.ofNat t)), .val (.int (Int32.ofNat (t - f))), .val (.int ((acc * (10 : Int32)) + dg)), .val (.int (Int32.ofNat (i + 1))), .val (.int dg)] [])) _
                    refine XS.goto XL.here hx rfl (pc0 := 77) (pc' := 35) rfl (hb hby d2_77) (by decide) (by decide) ?_
                    exact kt
                  obtain ⟨s₂, o, r1, r2, r3, v, LL, r4, ⟨r5, r6⟩, r8⟩ := ih (i + 1) ((acc * (10 : Int32)) + dg) (.val (.int dg)) T _ (by omega) (One.val rfl) XL eL NL
                  exact ⟨s₂, o, r1, r2, r3, v, LL, r4, ⟨r5.trans (by rw [own_hor_next (g := g) (k := k) (i := i) acc h_dg hc52 hc59]), r6⟩, r8⟩
          obtain ⟨s₂, o, r1, r2, r3, v, LL, r4, ⟨r5, r6⟩, r8⟩ := own_loop (t - f) f (0 : Int32) .unset s₁ _ (by omega) (One.u) X0 e0 N0
          exact ⟨s₂, o, r1, r2, r3, v, LL, r4, ⟨r5.trans (by simp only [own_value, if_neg hc5, if_neg hc11, if_pos hc16, if_neg hc24]), r6⟩, r8⟩
      · skip
        refine own_go (S' := s₁.setTop (mkF m 35 #[.val (.ref a0), .val (.int (Int32.ofNat f)), .val (.int (Int32.ofNat t)), .val (.int (Int32.ofNat (t - f))), .val (.int (0 : Int32)), .val (.int (Int32.ofNat f)), .unset] [])) (fun target kt => ?_) ?_
        · skip
          show Steps p.tables e below (s₁.setTop (mkF m 16 #[.val (.ref a0), .val (.int (Int32.ofNat f)), .val (.int (Int32.ofNat t)), .val (.int (Int32.ofNat (t - f))), .unset, .unset, .unset] [(.int (1 : Int32)), (.int (Int32.ofNat (t - f)))])) _
          refine XS.icmpYes X0.here hx rfl (pc0 := 16) (pc' := 29) rfl (hb hby d2_16) rfl (flt hc16).2.2.2 (by decide) (by decide) ?_
          show Steps p.tables e below (s₁.setTop (mkF m 29 #[.val (.ref a0), .val (.int (Int32.ofNat f)), .val (.int (Int32.ofNat t)), .val (.int (Int32.ofNat (t - f))), .unset, .unset, .unset] [])) _
          refine XS.iconst X0.here hx rfl (hb hby d2_29) ?_
          show Steps p.tables e below (s₁.setTop (mkF m 30 #[.val (.ref a0), .val (.int (Int32.ofNat f)), .val (.int (Int32.ofNat t)), .val (.int (Int32.ofNat (t - f))), .unset, .unset, .unset] [(.int (0 : Int32))])) _
          refine XS.istore X0.here hx rfl (hb hby d2_30) rfl (l' := #[.val (.ref a0), .val (.int (Int32.ofNat f)), .val (.int (Int32.ofNat t)), .val (.int (Int32.ofNat (t - f))), .val (.int (0 : Int32)), .unset, .unset]) rfl ?_
          show Steps p.tables e below (s₁.setTop (mkF m 32 #[.val (.ref a0), .val (.int (Int32.ofNat f)), .val (.int (Int32.ofNat t)), .val (.int (Int32.ofNat (t - f))), .val (.int (0 : Int32)), .unset, .unset] [])) _
          refine XS.iloadN X0.here hx rfl (hb hby d2_32) rfl ?_
          show Steps p.tables e below (s₁.setTop (mkF m 33 #[.val (.ref a0), .val (.int (Int32.ofNat f)), .val (.int (Int32.ofNat t)), .val (.int (Int32.ofNat (t - f))), .val (.int (0 : Int32)), .unset, .unset] [(.int (Int32.ofNat f))])) _
          refine XS.istore X0.here hx rfl (hb hby d2_33) rfl (l' := #[.val (.ref a0), .val (.int (Int32.ofNat f)), .val (.int (Int32.ofNat t)), .val (.int (Int32.ofNat (t - f))), .val (.int (0 : Int32)), .val (.int (Int32.ofNat f)), .unset]) rfl ?_
          exact kt
        have own_loop : ∀ (k : Nat) (i : Nat) (acc : Int32) (d : Slot) (T : State) (locs : List Loc), (hk : i + k = t) → (h_d : One d) → Stand p l e ({ frames := 0, cells := 0, slots := 0, locals := 0 } : Room) s m #[(.ref a0), (.int (Int32.ofNat f)), (.int (Int32.ofNat t))] below meth c T locs 0 0 → T.heap = h0 → Fr n0 locs → ∃ s₂ o, Steps p.tables e below (T.setTop (mkF m 35 #[.val (.ref a0), .val (.int (Int32.ofNat f)), .val (.int (Int32.ofNat t)), .val (.int (Int32.ofNat (t - f))), .val (.int acc), .val (.int (Int32.ofNat i)), d] [])) s₂ ∧ s₂.status = .running ∧ Ended s₂ below o ∧ ∃ v LL, o = .returned v ∧ (v = some (.int (own_hor g k i acc)) ∧ Fr n0 LL ∧ s₂.heap = h0) ∧ FrameEnd s o s₂ LL ({ frames := 0, cells := 0, slots := 0, locals := 0 } : Room).cells ({ frames := 0, cells := 0, slots := 0, locals := 0 } : Room).slots := by
          intro k
          induction k with
          | zero =>
            intro i acc d T locs hk h_d XL eL NL
            refine own_go (S' := T.setTop (mkF m 82 #[.val (.ref a0), .val (.int (Int32.ofNat f)), .val (.int (Int32.ofNat t)), .val (.int (Int32.ofNat (t - f))), .val (.int acc), .val (.int (Int32.ofNat i)), d] [(.int acc)])) (fun target kt => ?_) ?_
            · skip
              show Steps p.tables e below (T.setTop (mkF m 35 #[.val (.ref a0), .val (.int (Int32.ofNat f)), .val (.int (Int32.ofNat t)), .val (.int (Int32.ofNat (t - f))), .val (.int acc), .val (.int (Int32.ofNat i)), d] [])) _
              refine XS.iload XL.here hx rfl (hb hby d2_35) rfl ?_
              show Steps p.tables e below (T.setTop (mkF m 37 #[.val (.ref a0), .val (.int (Int32.ofNat f)), .val (.int (Int32.ofNat t)), .val (.int (Int32.ofNat (t - f))), .val (.int acc), .val (.int (Int32.ofNat i)), d] [(.int (Int32.ofNat i))])) _
              refine XS.iloadN XL.here hx rfl (hb hby d2_37) rfl ?_
              show Steps p.tables e below (T.setTop (mkF m 38 #[.val (.ref a0), .val (.int (Int32.ofNat f)), .val (.int (Int32.ofNat t)), .val (.int (Int32.ofNat (t - f))), .val (.int acc), .val (.int (Int32.ofNat i)), d] [(.int (Int32.ofNat t)), (.int (Int32.ofNat i))])) _
              refine XS.icmpYes XL.here hx rfl (pc0 := 38) (pc' := 80) rfl (hb hby d2_38) rfl (flt (own_nlt (by omega) (by omega) (by omega) : ¬ ((Int32.ofNat i) < (Int32.ofNat t)))).2.1 (by decide) (by decide) ?_
              show Steps p.tables e below (T.setTop (mkF m 80 #[.val (.ref a0), .val (.int (Int32.ofNat f)), .val (.int (Int32.ofNat t)), .val (.int (Int32.ofNat (t - f))), .val (.int acc), .val (.int (Int32.ofNat i)), d] [])) _
              refine XS.iload XL.here hx rfl (hb hby d2_80) rfl ?_
              exact kt
            obtain ⟨fs, hr, hrun, hended, hW, hsame⟩ := XL.leave (v := some (.int acc)) (fun h => by rw [Bd.returns] at h; cases h)
            refine ⟨_, _, ?_, hrun, hended, _, _, rfl, ?_, ⟨_, rfl⟩, hW, hsame.mono (by decide) (by decide)⟩
            · exact retI XL hx Bd.returns (hb hby d2_82) hr
            · skip
              exact ⟨(by (first | (simp only [own_hor, if_neg hc5, if_neg hc11, if_neg hc16]; done) | (simp [own_hor, if_neg hc5, if_neg hc11, if_neg hc16]; done) | rfl)), NL, eL⟩
          | succ k ih =>
            intro i acc d T locs hk h_d XL eL NL
            refine own_go (S' := T.setTop (mkF m 44 #[.val (.ref a0), .val (.int (Int32.ofNat f)), .val (.int (Int32.ofNat t)), .val (.int (Int32.ofNat (t - f))), .val (.int acc), .val (.int (Int32.ofNat i)), d] [(.int (Int32.ofNat i)), (.ref a0)])) (fun target kt => ?_) ?_
            · skip
              show Steps p.tables e below (T.setTop (mkF m 35 #[.val (.ref a0), .val (.int (Int32.ofNat f)), .val (.int (Int32.ofNat t)), .val (.int (Int32.ofNat (t - f))), .val (.int acc), .val (.int (Int32.ofNat i)), d] [])) _
              refine XS.iload XL.here hx rfl (hb hby d2_35) rfl ?_
              show Steps p.tables e below (T.setTop (mkF m 37 #[.val (.ref a0), .val (.int (Int32.ofNat f)), .val (.int (Int32.ofNat t)), .val (.int (Int32.ofNat (t - f))), .val (.int acc), .val (.int (Int32.ofNat i)), d] [(.int (Int32.ofNat i))])) _
              refine XS.iloadN XL.here hx rfl (hb hby d2_37) rfl ?_
              show Steps p.tables e below (T.setTop (mkF m 38 #[.val (.ref a0), .val (.int (Int32.ofNat f)), .val (.int (Int32.ofNat t)), .val (.int (Int32.ofNat (t - f))), .val (.int acc), .val (.int (Int32.ofNat i)), d] [(.int (Int32.ofNat t)), (.int (Int32.ofNat i))])) _
              refine XS.icmpNo XL.here hx rfl (hb hby d2_38) rfl (tlt (own_lt (by omega) (by omega) : (Int32.ofNat i) < (Int32.ofNat t))).2.1 ?_
              show Steps p.tables e below (T.setTop (mkF m 41 #[.val (.ref a0), .val (.int (Int32.ofNat f)), .val (.int (Int32.ofNat t)), .val (.int (Int32.ofNat (t - f))), .val (.int acc), .val (.int (Int32.ofNat i)), d] [])) _
              refine XS.aloadN XL.here hx rfl (hb hby d2_41) rfl rfl ?_
              show Steps p.tables e below (T.setTop (mkF m 42 #[.val (.ref a0), .val (.int (Int32.ofNat f)), .val (.int (Int32.ofNat t)), .val (.int (Int32.ofNat (t - f))), .val (.int acc), .val (.int (Int32.ofNat i)), d] [(.ref a0)])) _
              refine XS.iload XL.here hx rfl (hb hby d2_42) rfl ?_
              exact kt
            obtain ⟨c7, Ar7, S7, M7, H7⟩ := id pf0
            have hj7 : ¬ (Int32.ofNat i) < 0 ∧ ((Int32.ofNat i)).toNatClampNeg < 12 := (own_inb (by omega))
            have st7 : ∀ target, Steps p.tables e below (T.setTop (mkF m 45 #[.val (.ref a0), .val (.int (Int32.ofNat f)), .val (.int (Int32.ofNat t)), .val (.int (Int32.ofNat (t - f))), .val (.int acc), .val (.int (Int32.ofNat i)), d] [(.int (g ((Int32.ofNat i)).toNatClampNeg))])) target → Steps p.tables e below (T.setTop (mkF m 44 #[.val (.ref a0), .val (.int (Int32.ofNat f)), .val (.int (Int32.ofNat t)), .val (.int (Int32.ofNat (t - f))), .val (.int acc), .val (.int (Int32.ofNat i)), d] [(.int (Int32.ofNat i)), (.ref a0)])) target := fun target kt => XL.baloadBytes hx (j := (Int32.ofNat i)) (v := (.int (g ((Int32.ofNat i)).toNatClampNeg))) (by rw [eL]; exact Ar7.1) (State.isArrayOf_alike hZ.alike Ar7.2.1) Ar7.2.2 (own_in S7 hj7) (H7 _ hj7.2) (g := (mkF m 44 #[.val (.ref a0), .val (.int (Int32.ofNat f)), .val (.int (Int32.ofNat t)), .val (.int (Int32.ofNat (t - f))), .val (.int acc), .val (.int (Int32.ofNat i)), d] [(.int (Int32.ofNat i)), (.ref a0)])) rfl rfl (hb hby d2_44) _ kt
            refine own_go (S' := T.setTop (mkF m 45 #[.val (.ref a0), .val (.int (Int32.ofNat f)), .val (.int (Int32.ofNat t)), .val (.int (Int32.ofNat (t - f))), .val (.int acc), .val (.int (Int32.ofNat i)), d] [(.int (g ((Int32.ofNat i)).toNatClampNeg))])) st7 ?_
            rw [show (g ((Int32.ofNat i)).toNatClampNeg) = (g i) from congrArg g (own_clamp (by omega))]
            obtain ⟨dg, h_dg⟩ : ∃ z : Int32, z = ((g i) - (48 : Int32)) := ⟨_, rfl⟩
            refine own_go (S' := T.setTop (mkF m 50 #[.val (.ref a0), .val (.int (Int32.ofNat f)), .val (.int (Int32.ofNat t)), .val (.int (Int32.ofNat (t - f))), .val (.int acc), .val (.int (Int32.ofNat i)), .val (.int dg)] [])) (fun target kt => ?_) ?_
            · subst h_dg
              show Steps p.tables e below (T.setTop (mkF m 45 #[.val (.ref a0), .val (.int (Int32.ofNat f)), .val (.int (Int32.ofNat t)), .val (.int (Int32.ofNat (t - f))), .val (.int acc), .val (.int (Int32.ofNat i)), d] [(.int (g i))])) _
              refine XS.bipush XL.here hx rfl (hb hby d2_45) ?_
              show Steps p.tables e below (T.setTop (mkF m 47 #[.val (.ref a0), .val (.int (Int32.ofNat f)), .val (.int (Int32.ofNat t)), .val (.int (Int32.ofNat (t - f))), .val (.int acc), .val (.int (Int32.ofNat i)), d] [(.int (48 : Int32)), (.int (g i))])) _
              refine XS.isub XL.here hx rfl (hb hby d2_47) rfl ?_
              show Steps p.tables e below (T.setTop (mkF m 48 #[.val (.ref a0), .val (.int (Int32.ofNat f)), .val (.int (Int32.ofNat t)), .val (.int (Int32.ofNat (t - f))), .val (.int acc), .val (.int (Int32.ofNat i)), d] [(.int ((g i) - (48 : Int32)))])) _
              refine XS.istore XL.here hx rfl (hb hby d2_48) rfl (l' := #[.val (.ref a0), .val (.int (Int32.ofNat f)), .val (.int (Int32.ofNat t)), .val (.int (Int32.ofNat (t - f))), .val (.int acc), .val (.int (Int32.ofNat i)), .val (.int ((g i) - (48 : Int32)))]) (by rcases h_d with rfl | ⟨w, rfl, hw⟩ <;> first | rfl | (cases w <;> first | rfl | (simp [Value.category] at hw))) ?_
              exact kt
            refine own_go (S' := T.setTop (mkF m 52 #[.val (.ref a0), .val (.int (Int32.ofNat f)), .val (.int (Int32.ofNat t)), .val (.int (Int32.ofNat (t - f))), .val (.int acc), .val (.int (Int32.ofNat i)), .val (.int dg)] [(.int dg)])) (fun target kt => ?_) ?_
            · skip
              show Steps p.tables e below (T.setTop (mkF m 50 #[.val (.ref a0), .val (.int (Int32.ofNat f)), .val (.int (Int32.ofNat t)), .val (.int (Int32.ofNat (t - f))), .val (.int acc), .val (.int (Int32.ofNat i)), .val (.int dg)] [])) _
              refine XS.iload XL.here hx rfl (hb hby d2_50) rfl ?_
              exact kt
            by_cases hc52 : dg < (0 : Int32)
            · skip
              refine own_go (S' := T.setTop (mkF m 63 #[.val (.ref a0), .val (.int (Int32.ofNat f)), .val (.int (Int32.ofNat t)), .val (.int (Int32.ofNat (t - f))), .val (.int acc), .val (.int (Int32.ofNat i)), .val (.int dg)] [(.int (-1 : Int32))])) (fun target kt => ?_) ?_
              · skip
                show Steps p.tables e below (T.setTop (mkF m 52 #[.val (.ref a0), .val (.int (Int32.ofNat f)), .val (.int (Int32.ofNat t)), .val (.int (Int32.ofNat (t - f))), .val (.int acc), .val (.int (Int32.ofNat i)), .val (.int dg)] [(.int dg)])) _
                refine XS.ifYes XL.here hx rfl (pc0 := 52) (pc' := 62) rfl (hb hby d2_52) rfl ((if0 _ _).trans (tlt hc52).1) (by decide) (by decide) ?_
                show Steps p.tables e below (T.setTop (mkF m 62 #[.val (.ref a0), .val (.int (Int32.ofNat f)), .val (.int (Int32.ofNat t)), .val (.int (Int32.ofNat (t - f))), .val (.int acc), .val (.int (Int32.ofNat i)), .val (.int dg)] [])) _
                refine XS.iconst XL.here hx rfl (hb hby d2_62) ?_
                exact kt
              obtain ⟨fs, hr, hrun, hended, hW, hsame⟩ := XL.leave (v := some (.int (-1 : Int32))) (fun h => by rw [Bd.returns] at h; cases h)
              refine ⟨_, _, ?_, hrun, hended, _, _, rfl, ?_, ⟨_, rfl⟩, hW, hsame.mono (by decide) (by decide)⟩
              · exact retI XL hx Bd.returns (hb hby d2_63) hr
              · skip
                exact ⟨(by subst h_dg; (first | (simp only [own_hor, if_neg hc5, if_neg hc11, if_neg hc16, if_pos hc52]; done) | (simp [own_hor, if_neg hc5, if_neg hc11, if_neg hc16, if_pos hc52]; done) | rfl)), NL, eL⟩
            · skip
              refine own_go (S' := T.setTop (mkF m 59 #[.val (.ref a0), .val (.int (Int32.ofNat f)), .val (.int (Int32.ofNat t)), .val (.int (Int32.ofNat (t - f))), .val (.int acc), .val (.int (Int32.ofNat i)), .val (.int dg)] [(.int (9 : Int32)), (.int dg)])) (fun target kt => ?_) ?_
              · skip
                show Steps p.tables e below (T.setTop (mkF m 52 #[.val (.ref a0), .val (.int (Int32.ofNat f)), .val (.int (Int32.ofNat t)), .val (.int (Int32.ofNat (t - f))), .val (.int acc), .val (.int (Int32.ofNat i)), .val (.int dg)] [(.int dg)])) _
                refine XS.ifNo XL.here hx rfl (hb hby d2_52) rfl ((if0 _ _).trans (flt hc52).1) ?_
                show Steps p.tables e below (T.setTop (mkF m 55 #[.val (.ref a0), .val (.int (Int32.ofNat f)), .val (.int (Int32.ofNat t)), .val (.int (Int32.ofNat (t - f))), .val (.int acc), .val (.int (Int32.ofNat i)), .val (.int dg)] [])) _
                refine XS.iload XL.here hx rfl (hb hby d2_55) rfl ?_
                show Steps p.tables e below (T.setTop (mkF m 57 #[.val (.ref a0), .val (.int (Int32.ofNat f)), .val (.int (Int32.ofNat t)), .val (.int (Int32.ofNat (t - f))), .val (.int acc), .val (.int (Int32.ofNat i)), .val (.int dg)] [(.int dg)])) _
                refine XS.bipush XL.here hx rfl (hb hby d2_57) ?_
                exact kt
              by_cases hc59 : (9 : Int32) < dg
              · skip
                refine own_go (S' := T.setTop (mkF m 63 #[.val (.ref a0), .val (.int (Int32.ofNat f)), .val (.int (Int32.ofNat t)), .val (.int (Int32.ofNat (t - f))), .val (.int acc), .val (.int (Int32.ofNat i)), .val (.int dg)] [(.int (-1 : Int32))])) (fun target kt => ?_) ?_
                · skip
                  show Steps p.tables e below (T.setTop (mkF m 59 #[.val (.ref a0), .val (.int (Int32.ofNat f)), .val (.int (Int32.ofNat t)), .val (.int (Int32.ofNat (t - f))), .val (.int acc), .val (.int (Int32.ofNat i)), .val (.int dg)] [(.int (9 : Int32)), (.int dg)])) _
                  refine XS.icmpNo XL.here hx rfl (hb hby d2_59) rfl (tlt hc59).2.2.2 ?_
                  show Steps p.tables e below (T.setTop (mkF m 62 #[.val (.ref a0), .val (.int (Int32.ofNat f)), .val (.int (Int32.ofNat t)), .val (.int (Int32.ofNat (t - f))), .val (.int acc), .val (.int (Int32.ofNat i)), .val (.int dg)] [])) _
                  refine XS.iconst XL.here hx rfl (hb hby d2_62) ?_
                  exact kt
                obtain ⟨fs, hr, hrun, hended, hW, hsame⟩ := XL.leave (v := some (.int (-1 : Int32))) (fun h => by rw [Bd.returns] at h; cases h)
                refine ⟨_, _, ?_, hrun, hended, _, _, rfl, ?_, ⟨_, rfl⟩, hW, hsame.mono (by decide) (by decide)⟩
                · exact retI XL hx Bd.returns (hb hby d2_63) hr
                · skip
                  exact ⟨(by subst h_dg; (first | (simp only [own_hor, if_neg hc5, if_neg hc11, if_neg hc16, if_neg hc52, if_pos hc59]; done) | (simp [own_hor, if_neg hc5, if_neg hc11, if_neg hc16, if_neg hc52, if_pos hc59]; done) | rfl)), NL, eL⟩
              · skip
                obtain ⟨i1, h_i1⟩ : ∃ z : Int32, z = ((Int32.ofNat i) + (1 : Int32)) := ⟨_, rfl⟩
                refine own_go (S' := T.setTop (mkF m 77 #[.val (.ref a0), .val (.int (Int32.ofNat f)), .val (.int (Int32.ofNat t)), .val (.int (Int32.ofNat (t - f))), .val (.int ((acc * (10 : Int32)) + dg)), .val (.int i1), .val (.int dg)] [])) (fun target kt => ?_) ?_
                · subst h_i1
                  show Steps p.tables e below (T.setTop (mkF m 59 #[.val (.ref a0), .val (.int (Int32.ofNat f)), .val (.int (Int32.ofNat t)), .val (.int (Int32.ofNat (t - f))), .val (.int acc), .val (.int (Int32.ofNat i)), .val (.int dg)] [(.int (9 : Int32)), (.int dg)])) _
                  refine XS.icmpYes XL.here hx rfl (pc0 := 59) (pc' := 64) rfl (hb hby d2_59) rfl (flt hc59).2.2.2 (by decide) (by decide) ?_
                  show Steps p.tables e below (T.setTop (mkF m 64 #[.val (.ref a0), .val (.int (Int32.ofNat f)), .val (.int (Int32.ofNat t)), .val (.int (Int32.ofNat (t - f))), .val (.int acc), .val (.int (Int32.ofNat i)), .val (.int dg)] [])) _
                  refine XS.iload XL.here hx rfl (hb hby d2_64) rfl ?_
                  show Steps p.tables e below (T.setTop (mkF m 66 #[.val (.ref a0), .val (.int (Int32.ofNat f)), .val (.int (Int32.ofNat t)), .val (.int (Int32.ofNat (t - f))), .val (.int acc), .val (.int (Int32.ofNat i)), .val (.int dg)] [(.int acc)])) _
                  refine XS.bipush XL.here hx rfl (hb hby d2_66) ?_
                  show Steps p.tables e below (T.setTop (mkF m 68 #[.val (.ref a0), .val (.int (Int32.ofNat f)), .val (.int (Int32.ofNat t)), .val (.int (Int32.ofNat (t - f))), .val (.int acc), .val (.int (Int32.ofNat i)), .val (.int dg)] [(.int (10 : Int32)), (.int acc)])) _
                  refine XS.imul XL.here hx rfl (hb hby d2_68) rfl ?_
                  show Steps p.tables e below (T.setTop (mkF m 69 #[.val (.ref a0), .val (.int (Int32.ofNat f)), .val (.int (Int32.ofNat t)), .val (.int (Int32.ofNat (t - f))), .val (.int acc), .val (.int (Int32.ofNat i)), .val (.int dg)] [(.int (acc * (10 : Int32)))])) _
                  refine XS.iload XL.here hx rfl (hb hby d2_69) rfl ?_
                  show Steps p.tables e below (T.setTop (mkF m 71 #[.val (.ref a0), .val (.int (Int32.ofNat f)), .val (.int (Int32.ofNat t)), .val (.int (Int32.ofNat (t - f))), .val (.int acc), .val (.int (Int32.ofNat i)), .val (.int dg)] [(.int dg), (.int (acc * (10 : Int32)))])) _
                  refine XS.iadd XL.here hx rfl (hb hby d2_71) rfl ?_
                  show Steps p.tables e below (T.setTop (mkF m 72 #[.val (.ref a0), .val (.int (Int32.ofNat f)), .val (.int (Int32.ofNat t)), .val (.int (Int32.ofNat (t - f))), .val (.int acc), .val (.int (Int32.ofNat i)), .val (.int dg)] [(.int ((acc * (10 : Int32)) + dg))])) _
                  refine XS.istore XL.here hx rfl (hb hby d2_72) rfl (l' := #[.val (.ref a0), .val (.int (Int32.ofNat f)), .val (.int (Int32.ofNat t)), .val (.int (Int32.ofNat (t - f))), .val (.int ((acc * (10 : Int32)) + dg)), .val (.int (Int32.ofNat i)), .val (.int dg)]) rfl ?_
                  show Steps p.tables e below (T.setTop (mkF m 74 #[.val (.ref a0), .val (.int (Int32.ofNat f)), .val (.int (Int32.ofNat t)), .val (.int (Int32.ofNat (t - f))), .val (.int ((acc * (10 : Int32)) + dg)), .val (.int (Int32.ofNat i)), .val (.int dg)] [])) _
                  refine XS.iinc XL.here hx rfl (hb hby d2_74) rfl (l' := #[.val (.ref a0), .val (.int (Int32.ofNat f)), .val (.int (Int32.ofNat t)), .val (.int (Int32.ofNat (t - f))), .val (.int ((acc * (10 : Int32)) + dg)), .val (.int ((Int32.ofNat i) + (1 : Int32))), .val (.int dg)]) rfl ?_
                  exact kt
                have hb_i1 : i1 = (Int32.ofNat (i + 1)) := h_i1.trans (own_one i)
                subst hb_i1
                refine own_go (S' := T.setTop (mkF m 35 #[.val (.ref a0), .val (.int (Int32.ofNat f)), .val (.int (Int32.ofNat t)), .val (.int (Int32.ofNat (t - f))), .val (.int ((acc * (10 : Int32)) + dg)), .val (.int (Int32.ofNat (i + 1))), .val (.int dg)] [])) (fun target kt => ?_) ?_
                · skip
                  show Steps p.tables e below (T.setTop (mkF m 77 #[.val (.ref a0), .val (.int (Int32.ofNat f)), .val (.int (Int32.ofNat t)), .val (.int (Int32.ofNat (t - f))), .val (.int ((acc * (10 : Int32)) + dg)), .val (.int (Int32.ofNat (i + 1))), .val (.int dg)] [])) _
                  refine XS.goto XL.here hx rfl (pc0 := 77) (pc' := 35) rfl (hb hby d2_77) (by decide) (by decide) ?_
                  exact kt
                obtain ⟨s₂, o, r1, r2, r3, v, LL, r4, ⟨r5, r6⟩, r8⟩ := ih (i + 1) ((acc * (10 : Int32)) + dg) (.val (.int dg)) T _ (by omega) (One.val rfl) XL eL NL
                exact ⟨s₂, o, r1, r2, r3, v, LL, r4, ⟨r5.trans (by rw [own_hor_next (g := g) (k := k) (i := i) acc h_dg hc52 hc59]), r6⟩, r8⟩
        obtain ⟨s₂, o, r1, r2, r3, v, LL, r4, ⟨r5, r6⟩, r8⟩ := own_loop (t - f) f (0 : Int32) .unset s₁ _ (by omega) (One.u) X0 e0 N0
        exact ⟨s₂, o, r1, r2, r3, v, LL, r4, ⟨r5.trans (by simp only [own_value, if_neg hc5, if_neg hc11, if_neg hc16]), r6⟩, r8⟩
-- THE PLAIN LAW
def own_isB (x : Int32) : Prop := -128 ≤ x.toInt ∧ x.toInt ≤ 127
theorem own_nb (x : Int32) : own_isB (nar .byte x) := by
  show -128 ≤ (x.toInt8.toInt32).toInt ∧ (x.toInt8.toInt32).toInt ≤ 127
  rw [Int8.toInt_toInt32]
  have h1 := x.toInt8.toInt_lt
  have h2 := x.toInt8.le_toInt
  omega
theorem own_bytes {G : Nat → Int32} {r0 r1 r2 r3 r4 r5 r6 r7 r8 r9 r10 r11 : Int32} (h : G = own_upd (own_upd (own_upd (own_upd (own_upd (own_upd (own_upd (own_upd (own_upd (own_upd (own_upd (own_upd (fun _ => 0) 0 (nar .byte r0)) 1 (nar .byte r1)) 2 (nar .byte r2)) 3 (nar .byte r3)) 4 (nar .byte r4)) 5 (nar .byte r5)) 6 (nar .byte r6)) 7 (nar .byte r7)) 8 (nar .byte r8)) 9 (nar .byte r9)) 10 (nar .byte r10)) 11 (nar .byte r11)) :
    ∀ i, i < 12 → own_isB (G i) := by
  intro i hi
  have c : i = 0 ∨ i = 1 ∨ i = 2 ∨ i = 3 ∨ i = 4 ∨ i = 5 ∨ i = 6 ∨ i = 7 ∨ i = 8 ∨ i = 9 ∨ i = 10 ∨ i = 11 := by omega
  subst h
  rcases c with rfl | rfl | rfl | rfl | rfl | rfl | rfl | rfl | rfl | rfl | rfl | rfl <;> exact own_nb _
theorem own_from {x fr : Int32} (h : fr = ((x &&& (2147483647 : Int32)) % (13 : Int32))) : ∃ f : Nat, f ≤ 12 ∧ fr = (Int32.ofNat f) := by
  have e := Jvm.Kit.i32_mask x 2147483647 (k := 31) (by decide) (by decide)
  have k13 : (13 : Int32).toInt = 13 := by decide
  have hn : fr.toInt = (x &&& (2147483647 : Int32)).toInt % 13 := by rw [h, own_m32 (by omega), k13]
  refine ⟨fr.toInt.toNat, by omega, ?_⟩
  apply Int32.toInt_inj.mp
  rw [own_ofn (by omega)]
  omega
theorem own_13 {f : Nat} (hf : f ≤ 12) : ((13 : Int32) - (Int32.ofNat f)).toInt = 13 - f := by
  have k13 : (13 : Int32).toInt = 13 := by decide
  rw [Jvm.Kit.i32_sub (by rw [k13, own_ofn (by omega)]; omega) (by rw [k13, own_ofn (by omega)]; omega), k13, own_ofn (by omega)]
theorem own_nz {f : Nat} (hf : f ≤ 12) : ((13 : Int32) - (Int32.ofNat f)) ≠ 0 := fun h => by
  have := congrArg Int32.toInt h
  rw [own_13 hf, show (0 : Int32).toInt = 0 from rfl] at this
  omega
theorem own_to {f : Nat} {x to : Int32} (hf : f ≤ 12) (h : to = ((Int32.ofNat f) + ((x &&& (2147483647 : Int32)) % ((13 : Int32) - (Int32.ofNat f))))) : ∃ t : Nat, f ≤ t ∧ t ≤ 12 ∧ to = (Int32.ofNat t) := by
  have e := Jvm.Kit.i32_mask x 2147483647 (k := 31) (by decide) (by decide)
  have hn : ((x &&& (2147483647 : Int32)) % ((13 : Int32) - (Int32.ofNat f))).toInt = (x &&& (2147483647 : Int32)).toInt % (13 - f) := by rw [own_m32 (by omega), own_13 hf]
  have h1 := Int.emod_lt_of_pos (x &&& (2147483647 : Int32)).toInt (b := (13 - f : Int)) (by omega)
  have h2 := Int.emod_nonneg (x &&& (2147483647 : Int32)).toInt (b := (13 - f : Int)) (by omega)
  have ht : to.toInt = f + (x &&& (2147483647 : Int32)).toInt % (13 - f) := by
    rw [h, Jvm.Kit.i32_add (by rw [hn, own_ofn (by omega)]; omega) (by rw [hn, own_ofn (by omega)]; omega), hn, own_ofn (by omega)]
  refine ⟨to.toInt.toNat, by omega, by omega, ?_⟩
  apply Int32.toInt_inj.mp
  rw [own_ofn (by omega)]
  omega
theorem own_fA {G : Nat → Int32} {f t : Nat} {got : Int32} (h : got = (own_value G f t)) (h1 : (Int32.ofNat (t - f)) = (0 : Int32)) : got = (-1 : Int32) := by rw [h, own_value, if_pos h1]
theorem own_fB {G : Nat → Int32} {f t : Nat} {got : Int32} (h : got = (own_value G f t)) (h1 : ¬ (Int32.ofNat (t - f)) = (0 : Int32)) (h2 : (9 : Int32) < (Int32.ofNat (t - f))) : got = (-1 : Int32) := by rw [h, own_value, if_neg h1, if_pos h2]
theorem own_fC {G : Nat → Int32} {f t : Nat} {got : Int32} (h : got = (own_value G f t)) (h1 : ¬ (Int32.ofNat (t - f)) = (0 : Int32)) (h2 : ¬ (9 : Int32) < (Int32.ofNat (t - f))) (h3 : (1 : Int32) < (Int32.ofNat (t - f))) (h4 : (G f) = (48 : Int32)) : got = (-1 : Int32) := by rw [h, own_value, if_neg h1, if_neg h2, if_pos h3, if_pos h4]
theorem own_lte {a b c : Int32} (h : a = b) (h2 : c < b) : c < a := h ▸ h2
theorem own_nlte {a b c : Int32} (h : a = b) (h2 : ¬ c < b) : ¬ c < a := h ▸ h2
theorem own_or {P Q : Prop} (h : ¬ (P ∧ Q)) : ¬ P ∨ (P ∧ ¬ Q) := by
  by_cases p : P
  · exact Or.inr ⟨p, fun q => h ⟨p, q⟩⟩
  · exact Or.inl p
theorem own_vhor {G : Nat → Int32} {f t : Nat} {got : Int32} (h : got = (own_value G f t)) (h1 : ¬ (Int32.ofNat (t - f)) = (0 : Int32)) (h2 : ¬ (9 : Int32) < (Int32.ofNat (t - f))) (h3 : ¬ (1 : Int32) < (Int32.ofNat (t - f)) ∨ ((1 : Int32) < (Int32.ofNat (t - f)) ∧ ¬ (G f) = (48 : Int32))) : got = own_hor G (t - f) f (0 : Int32) := by
  rcases h3 with h3 | ⟨h3, h4⟩
  · rw [h, own_value, if_neg h1, if_neg h2, if_neg h3]
  · rw [h, own_value, if_neg h1, if_neg h2, if_pos h3, if_neg h4]
/-- k values from place j on, added up -/
def own_sum (T : Nat → Int32) : Nat → Nat → Int32
  | 0, _ => 0
  | k + 1, j => T j + own_sum T k (j + 1)
theorem own_sum12 (T : Nat → Int32) : (((((((((((T 0 + T 1) + T 2) + T 3) + T 4) + T 5) + T 6) + T 7) + T 8) + T 9) + T 10) + T 11) = own_sum T 12 0 := by
  simp only [own_sum, Int32.add_assoc, Int32.add_zero]
theorem own_sum_zero {T : Nat → Int32} : ∀ (k j : Nat), (∀ p, j ≤ p → p < j + k → T p = 0) → own_sum T k j = 0
  | 0, _, _ => rfl
  | k + 1, j, h => by rw [own_sum, h j (by omega) (by omega), own_sum_zero k (j + 1) (fun p h1 h2 => h p (by omega) (by omega)), Int32.add_zero]
theorem own_sum_add (T : Nat → Int32) : ∀ (k l j : Nat), own_sum T (k + l) j = own_sum T k j + own_sum T l (j + k)
  | 0, l, j => by rw [Nat.zero_add, own_sum, Int32.zero_add, Nat.add_zero]
  | k + 1, l, j => by rw [show k + 1 + l = (k + l) + 1 by omega, own_sum, own_sum, own_sum_add T k l (j + 1), Int32.add_assoc, show j + 1 + k = j + (k + 1) by omega]
theorem own_sum_count {T : Nat → Int32} (hT : ∀ p, T p = 0 ∨ T p = 1) : ∀ (k j : Nat), k ≤ 12 → 0 ≤ (own_sum T k j).toInt ∧ (own_sum T k j).toInt ≤ k ∧ ∀ p, j ≤ p → p < j + k → T p = 1 → 1 ≤ (own_sum T k j).toInt
  | 0, j, _ => ⟨(by decide : 0 ≤ (0 : Int32).toInt), (by decide : (0 : Int32).toInt ≤ ((0 : Nat) : Int)), fun p h1 h2 => by omega⟩
  | k + 1, j, hk => by
    obtain ⟨h1, h2, h3⟩ := own_sum_count hT k (j + 1) (by omega)
    have e0 : (0 : Int32).toInt = 0 := rfl
    have e1 : (1 : Int32).toInt = 1 := rfl
    have ht : (T j).toInt = 0 ∧ T j = 0 ∨ (T j).toInt = 1 := by rcases hT j with h | h <;> simp [h, e0, e1]
    have e : (own_sum T (k + 1) j).toInt = (T j).toInt + (own_sum T k (j + 1)).toInt := by rw [own_sum, Jvm.Kit.i32_add (by omega) (by omega)]
    refine ⟨by omega, by omega, fun p g1 g2 g3 => ?_⟩
    by_cases q : p = j
    · subst q; rw [g3, e1] at ht; rw [e, g3, e1]; omega
    · have := h3 p (by omega) (by omega) g3; omega
/-- the place holds a digit, as 'value' asks it -/
def own_ok (x : Int32) : Prop := ¬ (x - (48 : Int32)) < (0 : Int32) ∧ ¬ (9 : Int32) < (x - (48 : Int32))
theorem own_digit {x : Int32} (hx : own_isB x) : own_isDigit x = (0 : Int32) ↔ ¬ own_ok x := by
  have k48 : (48 : Int32).toInt = 48 := by decide
  have k57 : (57 : Int32).toInt = 57 := by decide
  have k9 : (9 : Int32).toInt = 9 := by decide
  have k0 : (0 : Int32).toInt = 0 := by decide
  obtain ⟨h1, h2⟩ := hx
  have e : (x - (48 : Int32)).toInt = x.toInt - 48 := by rw [Jvm.Kit.i32_sub (by omega) (by omega), k48]
  unfold own_ok own_isDigit
  by_cases c1 : x < (48 : Int32)
  · rw [if_pos c1]
    rw [Int32.lt_iff_toInt_lt, k48] at c1
    refine ⟨fun _ h => h.1 ?_, fun _ => rfl⟩
    rw [Int32.lt_iff_toInt_lt, e, k0]; omega
  · rw [if_neg c1]
    by_cases c2 : (57 : Int32) < x
    · rw [if_pos c2]
      rw [Int32.lt_iff_toInt_lt, k57] at c2
      refine ⟨fun _ h => h.2 ?_, fun _ => rfl⟩
      rw [Int32.lt_iff_toInt_lt, e, k9]; omega
    · rw [if_neg c2]
      rw [Int32.lt_iff_toInt_lt, k48] at c1
      rw [Int32.lt_iff_toInt_lt, k57] at c2
      refine ⟨fun h => absurd h (by decide), fun h => absurd ⟨?_, ?_⟩ h⟩
      · rw [Int32.lt_iff_toInt_lt, e, k0]; omega
      · rw [Int32.lt_iff_toInt_lt, e, k9]; omega
theorem own_hor_bad {g : Nat → Int32} : ∀ (k i : Nat) (acc : Int32) (j : Nat), i ≤ j → j < i + k → ¬ own_ok (g j) → own_hor g k i acc = (-1 : Int32)
  | 0, i, acc, j, h1, h2, _ => by omega
  | k + 1, i, acc, j, h1, h2, h3 => by
    rw [own_hor]
    by_cases c1 : ((g i) - (48 : Int32)) < (0 : Int32)
    · rw [if_pos c1]
    · rw [if_neg c1]
      by_cases c2 : (9 : Int32) < ((g i) - (48 : Int32))
      · rw [if_pos c2]
      · rw [if_neg c2]
        have : i ≠ j := fun q => h3 (q ▸ ⟨c1, c2⟩)
        exact own_hor_bad k (i + 1) _ j (by omega) (by omega) h3
def own_p10 : Nat → Int32
  | 0 => 1
  | k + 1 => own_p10 k * 10
theorem own_pow {k : Nat} (h : k ≤ 8) : own_pow10 (Int32.ofNat k) = own_p10 k := by
  have c : k = 0 ∨ k = 1 ∨ k = 2 ∨ k = 3 ∨ k = 4 ∨ k = 5 ∨ k = 6 ∨ k = 7 ∨ k = 8 := by omega
  rcases c with rfl | rfl | rfl | rfl | rfl | rfl | rfl | rfl | rfl <;> decide
theorem own_hor_ok {g : Nat → Int32} {t : Nat} {T : Nat → Int32} : ∀ (k i : Nat) (acc : Int32), i + k = t → (∀ j, i ≤ j → j < t → own_ok (g j)) → (∀ j, i ≤ j → j < t → T j = ((g j) - (48 : Int32)) * own_p10 (t - 1 - j)) → own_hor g k i acc = acc * own_p10 k + own_sum T k i
  | 0, i, acc, _, _, _ => by rw [own_hor, own_sum, own_p10, Int32.mul_one, Int32.add_zero]
  | k + 1, i, acc, h1, h2, h3 => by
    obtain ⟨c1, c2⟩ := h2 i (by omega) (by omega)
    rw [own_hor, if_neg c1, if_neg c2, own_hor_ok k (i + 1) _ (by omega) (fun j a b => h2 j (by omega) b) (fun j a b => h3 j (by omega) b), own_sum, h3 i (by omega) (by omega), show t - 1 - i = k by omega, own_p10, Int32.add_mul, Int32.mul_assoc acc, Int32.mul_comm 10, Int32.add_assoc]
section OwnE
variable {G : Nat → Int32} {f t : Nat}
theorem own_badp (hB : ∀ i, i < 12 → own_isB (G i)) {p : Nat} (hp : p < 12) (hft : f ≤ t) (ht : t ≤ 12) : (own_bad (Int32.ofNat p) (Int32.ofNat f) (Int32.ofNat t) G = 0 ∨ own_bad (Int32.ofNat p) (Int32.ofNat f) (Int32.ofNat t) G = 1) ∧
    (own_bad (Int32.ofNat p) (Int32.ofNat f) (Int32.ofNat t) G = 1 ↔ f ≤ p ∧ p < t ∧ ¬ own_ok (G p)) := by
  unfold own_bad
  rw [own_clamp (show p ≤ 1000 by omega)]
  by_cases c1 : Int32.ofNat p < Int32.ofNat f
  · have q : p < f := by rw [Int32.lt_iff_toInt_lt, own_ofn (by omega), own_ofn (by omega)] at c1; omega
    rw [if_pos c1]
    exact ⟨Or.inl rfl, fun h => absurd h (by decide), fun h => absurd h.1 (by omega)⟩
  · have q : f ≤ p := by rw [Int32.lt_iff_toInt_lt, own_ofn (by omega), own_ofn (by omega)] at c1; omega
    rw [if_neg c1]
    by_cases c2 : Int32.ofNat p < Int32.ofNat t
    · have q2 : p < t := by rw [Int32.lt_iff_toInt_lt, own_ofn (by omega), own_ofn (by omega)] at c2; omega
      rw [if_pos c2]
      by_cases c3 : own_isDigit (G p) = (0 : Int32)
      · rw [if_pos c3]
        exact ⟨Or.inr rfl, fun _ => ⟨q, q2, (own_digit (hB p hp)).mp c3⟩, fun _ => rfl⟩
      · rw [if_neg c3]
        exact ⟨Or.inl rfl, fun h => absurd h (by decide), fun h => absurd ((own_digit (hB p hp)).mpr h.2.2) c3⟩
    · have q2 : ¬ p < t := by rw [Int32.lt_iff_toInt_lt, own_ofn (by omega), own_ofn (by omega)] at c2; omega
      rw [if_neg c2]
      exact ⟨Or.inl rfl, fun h => absurd h (by decide), fun h => absurd h.2.1 q2⟩
theorem own_termp {p : Nat} (hp : p < 12) (hft : f ≤ t) (ht : t ≤ 12) (h9 : t - f ≤ 9) : own_term (Int32.ofNat p) (Int32.ofNat f) (Int32.ofNat t) G = if f ≤ p ∧ p < t then ((G p) - (48 : Int32)) * own_p10 (t - 1 - p) else 0 := by
  unfold own_term
  rw [own_clamp (show p ≤ 1000 by omega)]
  by_cases c1 : Int32.ofNat p < Int32.ofNat f
  · have q : p < f := by rw [Int32.lt_iff_toInt_lt, own_ofn (by omega), own_ofn (by omega)] at c1; omega
    simp only [if_pos c1]
    rw [if_neg (by omega)]
  · have q : f ≤ p := by rw [Int32.lt_iff_toInt_lt, own_ofn (by omega), own_ofn (by omega)] at c1; omega
    simp only [if_neg c1]
    by_cases c2 : Int32.ofNat p < Int32.ofNat t
    · have q2 : p < t := by rw [Int32.lt_iff_toInt_lt, own_ofn (by omega), own_ofn (by omega)] at c2; omega
      simp only [if_pos c2]
      rw [if_pos ⟨q, q2⟩]
      have e1 : (Int32.ofNat t) - (1 : Int32) = Int32.ofNat (t - 1) := by
        apply Int32.toInt_inj.mp
        have k1 : (1 : Int32).toInt = 1 := by decide
        rw [Jvm.Kit.i32_sub (by rw [own_ofn (by omega), k1]; omega) (by rw [own_ofn (by omega), k1]; omega), own_ofn (by omega), own_ofn (by omega), k1]
        omega
      have e2 : (Int32.ofNat (t - 1)) - (Int32.ofNat p) = Int32.ofNat (t - 1 - p) := by
        apply Int32.toInt_inj.mp
        rw [Jvm.Kit.i32_sub (by rw [own_ofn (by omega), own_ofn (by omega)]; omega) (by rw [own_ofn (by omega), own_ofn (by omega)]; omega), own_ofn (by omega), own_ofn (by omega), own_ofn (by omega)]
        omega
      rw [e1, e2, own_pow (by omega)]
    · have q2 : ¬ p < t := by rw [Int32.lt_iff_toInt_lt, own_ofn (by omega), own_ofn (by omega)] at c2; omega
      simp only [if_neg c2]
      rw [if_neg (fun h => q2 h.2)]
end OwnE
/-- the two tables of the law, by place (places from 12 on hold nothing) -/
def own_B (G : Nat → Int32) (f t p : Nat) : Int32 := if p < 12 then own_bad (Int32.ofNat p) (Int32.ofNat f) (Int32.ofNat t) G else 0
def own_T (G : Nat → Int32) (f t p : Nat) : Int32 := if p < 12 then own_term (Int32.ofNat p) (Int32.ofNat f) (Int32.ofNat t) G else 0
theorem own_fD {G : Nat → Int32} {f t : Nat} {got : Int32} (hft : f ≤ t) (ht : t ≤ 12) (hB : ∀ i, i < 12 → own_isB (G i)) (h : got = (own_value G f t)) (h1 : ¬ (Int32.ofNat (t - f)) = (0 : Int32)) (h2 : ¬ (9 : Int32) < (Int32.ofNat (t - f))) (h3 : ¬ (1 : Int32) < (Int32.ofNat (t - f)) ∨ ((1 : Int32) < (Int32.ofNat (t - f)) ∧ ¬ (G f) = (48 : Int32)))
    (h4 : (0 : Int32) < ((((((((((((own_bad (0 : Int32) (Int32.ofNat f) (Int32.ofNat t) G) + (own_bad (1 : Int32) (Int32.ofNat f) (Int32.ofNat t) G)) + (own_bad (2 : Int32) (Int32.ofNat f) (Int32.ofNat t) G)) + (own_bad (3 : Int32) (Int32.ofNat f) (Int32.ofNat t) G)) + (own_bad (4 : Int32) (Int32.ofNat f) (Int32.ofNat t) G)) + (own_bad (5 : Int32) (Int32.ofNat f) (Int32.ofNat t) G)) + (own_bad (6 : Int32) (Int32.ofNat f) (Int32.ofNat t) G)) + (own_bad (7 : Int32) (Int32.ofNat f) (Int32.ofNat t) G)) + (own_bad (8 : Int32) (Int32.ofNat f) (Int32.ofNat t) G)) + (own_bad (9 : Int32) (Int32.ofNat f) (Int32.ofNat t) G)) + (own_bad (10 : Int32) (Int32.ofNat f) (Int32.ofNat t) G)) + (own_bad (11 : Int32) (Int32.ofNat f) (Int32.ofNat t) G))) : got = (-1 : Int32) := by
  rw [own_vhor h h1 h2 h3]
  have e : ((((((((((((own_bad (0 : Int32) (Int32.ofNat f) (Int32.ofNat t) G) + (own_bad (1 : Int32) (Int32.ofNat f) (Int32.ofNat t) G)) + (own_bad (2 : Int32) (Int32.ofNat f) (Int32.ofNat t) G)) + (own_bad (3 : Int32) (Int32.ofNat f) (Int32.ofNat t) G)) + (own_bad (4 : Int32) (Int32.ofNat f) (Int32.ofNat t) G)) + (own_bad (5 : Int32) (Int32.ofNat f) (Int32.ofNat t) G)) + (own_bad (6 : Int32) (Int32.ofNat f) (Int32.ofNat t) G)) + (own_bad (7 : Int32) (Int32.ofNat f) (Int32.ofNat t) G)) + (own_bad (8 : Int32) (Int32.ofNat f) (Int32.ofNat t) G)) + (own_bad (9 : Int32) (Int32.ofNat f) (Int32.ofNat t) G)) + (own_bad (10 : Int32) (Int32.ofNat f) (Int32.ofNat t) G)) + (own_bad (11 : Int32) (Int32.ofNat f) (Int32.ofNat t) G)) = own_sum (own_B G f t) 12 0 := own_sum12 (own_B G f t)
  rw [e] at h4
  by_cases c : ∃ p, p < 12 ∧ own_B G f t p = 1
  · obtain ⟨p, hp, hc⟩ := c
    rw [own_B, if_pos hp] at hc
    obtain ⟨a, b, d⟩ := (own_badp hB hp hft ht).2.mp hc
    exact own_hor_bad _ _ _ p a (by omega) d
  · exfalso
    have z : own_sum (own_B G f t) 12 0 = 0 := own_sum_zero 12 0 fun p _ hp => by
      have hp' : p < 12 := by omega
      by_cases q : own_B G f t p = 1
      · exact absurd ⟨p, hp', q⟩ c
      · rw [own_B, if_pos hp'] at q ⊢
        exact ((own_badp hB hp' hft ht).1).resolve_right q
    rw [z] at h4
    exact absurd h4 (by decide)
theorem own_fE {G : Nat → Int32} {f t : Nat} {got : Int32} (hft : f ≤ t) (ht : t ≤ 12) (hB : ∀ i, i < 12 → own_isB (G i)) (h : got = (own_value G f t)) (h1 : ¬ (Int32.ofNat (t - f)) = (0 : Int32)) (h2 : ¬ (9 : Int32) < (Int32.ofNat (t - f))) (h3 : ¬ (1 : Int32) < (Int32.ofNat (t - f)) ∨ ((1 : Int32) < (Int32.ofNat (t - f)) ∧ ¬ (G f) = (48 : Int32)))
    (h4 : ¬ (0 : Int32) < ((((((((((((own_bad (0 : Int32) (Int32.ofNat f) (Int32.ofNat t) G) + (own_bad (1 : Int32) (Int32.ofNat f) (Int32.ofNat t) G)) + (own_bad (2 : Int32) (Int32.ofNat f) (Int32.ofNat t) G)) + (own_bad (3 : Int32) (Int32.ofNat f) (Int32.ofNat t) G)) + (own_bad (4 : Int32) (Int32.ofNat f) (Int32.ofNat t) G)) + (own_bad (5 : Int32) (Int32.ofNat f) (Int32.ofNat t) G)) + (own_bad (6 : Int32) (Int32.ofNat f) (Int32.ofNat t) G)) + (own_bad (7 : Int32) (Int32.ofNat f) (Int32.ofNat t) G)) + (own_bad (8 : Int32) (Int32.ofNat f) (Int32.ofNat t) G)) + (own_bad (9 : Int32) (Int32.ofNat f) (Int32.ofNat t) G)) + (own_bad (10 : Int32) (Int32.ofNat f) (Int32.ofNat t) G)) + (own_bad (11 : Int32) (Int32.ofNat f) (Int32.ofNat t) G))) : got = ((((((((((((own_term (0 : Int32) (Int32.ofNat f) (Int32.ofNat t) G) + (own_term (1 : Int32) (Int32.ofNat f) (Int32.ofNat t) G)) + (own_term (2 : Int32) (Int32.ofNat f) (Int32.ofNat t) G)) + (own_term (3 : Int32) (Int32.ofNat f) (Int32.ofNat t) G)) + (own_term (4 : Int32) (Int32.ofNat f) (Int32.ofNat t) G)) + (own_term (5 : Int32) (Int32.ofNat f) (Int32.ofNat t) G)) + (own_term (6 : Int32) (Int32.ofNat f) (Int32.ofNat t) G)) + (own_term (7 : Int32) (Int32.ofNat f) (Int32.ofNat t) G)) + (own_term (8 : Int32) (Int32.ofNat f) (Int32.ofNat t) G)) + (own_term (9 : Int32) (Int32.ofNat f) (Int32.ofNat t) G)) + (own_term (10 : Int32) (Int32.ofNat f) (Int32.ofNat t) G)) + (own_term (11 : Int32) (Int32.ofNat f) (Int32.ofNat t) G)) := by
  rw [own_vhor h h1 h2 h3]
  have e : ((((((((((((own_bad (0 : Int32) (Int32.ofNat f) (Int32.ofNat t) G) + (own_bad (1 : Int32) (Int32.ofNat f) (Int32.ofNat t) G)) + (own_bad (2 : Int32) (Int32.ofNat f) (Int32.ofNat t) G)) + (own_bad (3 : Int32) (Int32.ofNat f) (Int32.ofNat t) G)) + (own_bad (4 : Int32) (Int32.ofNat f) (Int32.ofNat t) G)) + (own_bad (5 : Int32) (Int32.ofNat f) (Int32.ofNat t) G)) + (own_bad (6 : Int32) (Int32.ofNat f) (Int32.ofNat t) G)) + (own_bad (7 : Int32) (Int32.ofNat f) (Int32.ofNat t) G)) + (own_bad (8 : Int32) (Int32.ofNat f) (Int32.ofNat t) G)) + (own_bad (9 : Int32) (Int32.ofNat f) (Int32.ofNat t) G)) + (own_bad (10 : Int32) (Int32.ofNat f) (Int32.ofNat t) G)) + (own_bad (11 : Int32) (Int32.ofNat f) (Int32.ofNat t) G)) = own_sum (own_B G f t) 12 0 := own_sum12 (own_B G f t)
  have e' : ((((((((((((own_term (0 : Int32) (Int32.ofNat f) (Int32.ofNat t) G) + (own_term (1 : Int32) (Int32.ofNat f) (Int32.ofNat t) G)) + (own_term (2 : Int32) (Int32.ofNat f) (Int32.ofNat t) G)) + (own_term (3 : Int32) (Int32.ofNat f) (Int32.ofNat t) G)) + (own_term (4 : Int32) (Int32.ofNat f) (Int32.ofNat t) G)) + (own_term (5 : Int32) (Int32.ofNat f) (Int32.ofNat t) G)) + (own_term (6 : Int32) (Int32.ofNat f) (Int32.ofNat t) G)) + (own_term (7 : Int32) (Int32.ofNat f) (Int32.ofNat t) G)) + (own_term (8 : Int32) (Int32.ofNat f) (Int32.ofNat t) G)) + (own_term (9 : Int32) (Int32.ofNat f) (Int32.ofNat t) G)) + (own_term (10 : Int32) (Int32.ofNat f) (Int32.ofNat t) G)) + (own_term (11 : Int32) (Int32.ofNat f) (Int32.ofNat t) G)) = own_sum (own_T G f t) 12 0 := own_sum12 (own_T G f t)
  rw [e] at h4
  rw [e']
  have h9 : t - f ≤ 9 := by
    rw [Int32.lt_iff_toInt_lt, own_ofn (by omega), show (9 : Int32).toInt = 9 from rfl] at h2
    omega
  have hc := own_sum_count (T := own_B G f t) (fun p => by
    unfold own_B
    split
    · rename_i hp; exact (own_badp hB hp hft ht).1
    · exact Or.inl rfl) 12 0 (by decide)
  have hz : (own_sum (own_B G f t) 12 0).toInt = 0 := by
    rw [Int32.lt_iff_toInt_lt, show (0 : Int32).toInt = 0 from rfl] at h4
    omega
  have hok : ∀ j, f ≤ j → j < t → own_ok (G j) := fun j a b => by
    by_cases q : own_ok (G j)
    · exact q
    · exfalso
      have : own_B G f t j = 1 := by rw [own_B, if_pos (show j < 12 by omega)]; exact (own_badp hB (by omega) hft ht).2.mpr ⟨a, b, q⟩
      have := hc.2.2 j (by omega) (by omega) this
      omega
  have hT : ∀ j, own_T G f t j = if j < 12 then (if f ≤ j ∧ j < t then ((G j) - (48 : Int32)) * own_p10 (t - 1 - j) else 0) else 0 := fun j => by
    unfold own_T
    split
    · rename_i hp; exact own_termp hp hft ht h9
    · rfl
  rw [own_hor_ok (T := own_T G f t) (t := t) (t - f) f 0 (by omega) hok (fun j a b => by rw [hT, if_pos (by omega), if_pos ⟨a, b⟩]), Int32.zero_mul, Int32.zero_add]
  have s1 := own_sum_add (own_T G f t) f (12 - f) 0
  have s2 := own_sum_add (own_T G f t) (t - f) (12 - t) f
  rw [show f + (12 - f) = 12 by omega, Nat.zero_add] at s1
  rw [show t - f + (12 - t) = 12 - f by omega, show f + (t - f) = t by omega] at s2
  have z1 : own_sum (own_T G f t) f 0 = 0 := own_sum_zero _ _ fun p _ hp => by rw [hT, if_pos (by omega), if_neg (by omega)]
  have z2 : own_sum (own_T G f t) (12 - t) t = 0 := own_sum_zero _ _ fun p a hp => by rw [hT, if_pos (by omega), if_neg (by omega)]
  rw [s1, s2, z1, z2, Int32.zero_add, Int32.add_zero]

theorem own_pd2 : parseMethodDescriptor "(JIII)B" = some ⟨[.long, .int, .int, .int], some .byte⟩ := by decide +kernel
theorem own_pd3 : parseMethodDescriptor "([BII)I" = some ⟨[(.array .byte), .int, .int], some .int⟩ := by decide +kernel
theorem own_pd4 : parseMethodDescriptor "([BIII)I" = some ⟨[(.array .byte), .int, .int, .int], some .int⟩ := by decide +kernel
set_option maxHeartbeats 40000000 in
theorem own_ef_rm0 (m : MethodId) (x0 : Int64) (x1 : Int32) (x2 : Int32) (x3 : Int32) (x4 : Int32) : entryFrame m #[(.long x0), (.int x1), (.int x2), (.int x3), (.int x4)] maxLocals = mkF m 0 #[.val (.long x0), .second, .val (.int x1), .val (.int x2), .val (.int x3), .val (.int x4), .unset, .unset, .unset, .unset, .unset, .unset, .unset] [] := by first | (simp [entryFrame, mkF, argsToLocals, Value.category, maxLocals]; done) | rfl
def Q0 (Z : State) (q0 : Int64) (p1 : Int32) (p2 : Int32) (p3 : Int32) (p4 : Int32) (h0 : Heap) (n0 : Nat) (v : Option Value) (h : Heap) (L : List Loc) : Prop := v = some (.int 1) ∧ Fr n0 L
set_option maxRecDepth 65536 in
set_option maxHeartbeats 40000000 in
theorem rm0 (l : Launch) (Z : State) (aZ : Array Value) (hw : ∀ d ∈ tables_1, d.before aZ Z = true) (ws : List Jvm.Cond) (q0 : Int64) (p1 : Int32) (p2 : Int32) (p3 : Int32) (p4 : Int32) (h0 : Heap) (n0 : Nat) (Z0 : n0 ≤ h0.size) :
    MetFree l x (head1 (Jvm.Cond.code x code maxLocals ret :: ws) room_1) (fun a U => a = #[(.long q0), (.int p1), (.int p2), (.int p3), (.int p4)] ∧ Z.Warmed39 U.vm ∧ U.heap = h0) (fun _ _ _ _ _ => True) (fun _ U o U' => ∃ v L, o = .returned v ∧ Q0 Z q0 p1 p2 p3 p4 h0 n0 v U'.heap L ∧ FrameEnd U o U' L room_1.cells room_1.slots) := by
  refine MetFree.of_bodySF (plainFor_of_name own_pn0) hisR ?_
  intro p e s m args below meth c s₁ Bd hml0 hP hK
  obtain ⟨rfl, hZ, hh⟩ := hP
  have hx := Bd.exec
  have hby := Bd.bytes
  have hml : c.maxLocals = 13 := hml0
  have hown : s.vm.findClass "com/example/long_walk/longwalk/DecimalNameIndexValuePinLaw" = some m.cls := findClass_of_methodNamed Bd.named
  have hnm := (name_of_methodNamed Bd.named Bd.method).1
  have X0 : Stand p l e room_1 s m #[(.long q0), (.int p1), (.int p2), (.int p3), (.int p4)] below meth c s₁ [] 0 0 := Stand.of_body Bd
  have e0 : s₁.heap = h0 := by rw [← hh, Bd.state]; rfl
  have N0 := Fr.nil n0
  refine own_go (S' := s₁.setTop (mkF m 0 #[.val (.long q0), .second, .val (.int p1), .val (.int p2), .val (.int p3), .val (.int p4), .unset, .unset, .unset, .unset, .unset, .unset, .unset] [])) (fun tt0 kk0 => castTop (own_ef_rm0 m q0 p1 p2 p3 p4) kk0) ?_
  refine own_go (S' := s₁.setTop (mkF m 2 #[.val (.long q0), .second, .val (.int p1), .val (.int p2), .val (.int p3), .val (.int p4), .unset, .unset, .unset, .unset, .unset, .unset, .unset] [(.int (12 : Int32))])) (fun target kt => ?_) ?_
  · skip
    show Steps p.tables e below (s₁.setTop (mkF m 0 #[.val (.long q0), .second, .val (.int p1), .val (.int p2), .val (.int p3), .val (.int p4), .unset, .unset, .unset, .unset, .unset, .unset, .unset] [])) _
    refine XS.bipush X0.here hx rfl (hb hby at_0) ?_
    exact kt
  obtain ⟨T8, h8, k8, X8, e8, E8, A8, B8, st8⟩ := newPE X0 hx hZ (hw _ (List.mem_of_getElem? (i := 0) rfl)) e0 (g := (mkF m 2 #[.val (.long q0), .second, .val (.int p1), .val (.int p2), .val (.int p3), .val (.int p4), .unset, .unset, .unset, .unset, .unset, .unset, .unset] [(.int (12 : Int32))])) rfl (hb hby at_2) rfl (by decide) (cap := 12) (by decide) (by decide) (by decide) (by decide) (ad := "[B") (by decide)
  obtain ⟨b8, g8⟩ : ∃ z, z = h0.size := ⟨_, rfl⟩
  rw [← g8] at A8 B8 st8
  have g_b8 : n0 ≤ b8 := Nat.le_trans Z0 (Nat.le_of_eq g8.symm)
  have Z8 : n0 ≤ h8.size := Nat.le_trans Z0 E8.1
  have f9 : own_AI Z h8 b8 .byte 12 (fun _ => 0) := own_AI.fresh A8 rfl
  refine own_go (S' := T8.setTop (mkF m 4 #[.val (.long q0), .second, .val (.int p1), .val (.int p2), .val (.int p3), .val (.int p4), .unset, .unset, .unset, .unset, .unset, .unset, .unset] [(.ref b8)])) st8 ?_
  refine own_go (S' := T8.setTop (mkF m 13 #[.val (.long q0), .second, .val (.int p1), .val (.int p2), .val (.int p3), .val (.int p4), .val (.ref b8), .unset, .unset, .unset, .unset, .unset, .unset] [(.int (0 : Int32)), (.int p2), (.int p1), (.long q0), (.int (0 : Int32)), (.ref b8)])) (fun target kt => ?_) ?_
  · skip
    show Steps p.tables e below (T8.setTop (mkF m 4 #[.val (.long q0), .second, .val (.int p1), .val (.int p2), .val (.int p3), .val (.int p4), .unset, .unset, .unset, .unset, .unset, .unset, .unset] [(.ref b8)])) _
    refine XS.astore X8.here hx rfl (hb hby at_4) rfl rfl (l' := #[.val (.long q0), .second, .val (.int p1), .val (.int p2), .val (.int p3), .val (.int p4), .val (.ref b8), .unset, .unset, .unset, .unset, .unset, .unset]) rfl ?_
    show Steps p.tables e below (T8.setTop (mkF m 6 #[.val (.long q0), .second, .val (.int p1), .val (.int p2), .val (.int p3), .val (.int p4), .val (.ref b8), .unset, .unset, .unset, .unset, .unset, .unset] [])) _
    refine XS.aload X8.here hx rfl (hb hby at_6) rfl rfl ?_
    show Steps p.tables e below (T8.setTop (mkF m 8 #[.val (.long q0), .second, .val (.int p1), .val (.int p2), .val (.int p3), .val (.int p4), .val (.ref b8), .unset, .unset, .unset, .unset, .unset, .unset] [(.ref b8)])) _
    refine XS.iconst X8.here hx rfl (hb hby at_8) ?_
    show Steps p.tables e below (T8.setTop (mkF m 9 #[.val (.long q0), .second, .val (.int p1), .val (.int p2), .val (.int p3), .val (.int p4), .val (.ref b8), .unset, .unset, .unset, .unset, .unset, .unset] [(.int (0 : Int32)), (.ref b8)])) _
    refine XS.lloadN X8.here hx rfl (hb hby at_9) rfl ?_
    show Steps p.tables e below (T8.setTop (mkF m 10 #[.val (.long q0), .second, .val (.int p1), .val (.int p2), .val (.int p3), .val (.int p4), .val (.ref b8), .unset, .unset, .unset, .unset, .unset, .unset] [(.long q0), (.int (0 : Int32)), (.ref b8)])) _
    refine XS.iloadN X8.here hx rfl (hb hby at_10) rfl ?_
    show Steps p.tables e below (T8.setTop (mkF m 11 #[.val (.long q0), .second, .val (.int p1), .val (.int p2), .val (.int p3), .val (.int p4), .val (.ref b8), .unset, .unset, .unset, .unset, .unset, .unset] [(.int p1), (.long q0), (.int (0 : Int32)), (.ref b8)])) _
    refine XS.iloadN X8.here hx rfl (hb hby at_11) rfl ?_
    show Steps p.tables e below (T8.setTop (mkF m 12 #[.val (.long q0), .second, .val (.int p1), .val (.int p2), .val (.int p3), .val (.int p4), .val (.ref b8), .unset, .unset, .unset, .unset, .unset, .unset] [(.int p2), (.int p1), (.long q0), (.int (0 : Int32)), (.ref b8)])) _
    refine XS.iconst X8.here hx rfl (hb hby at_12) ?_
    exact kt
  obtain ⟨_, _, ⟨T10, L10, k10, n10⟩, -, X10, ⟨Lc10, hQ10, l10, y10, z10⟩, st10⟩ := Jvm.LawKit.callS X8 hx (y := (⟨"com/example/long_walk/longwalk/DecimalNameIndexValuePinLaw", "draw", "(JIII)B"⟩ : MethodName)) hown (mvT hZ (hw _ (List.mem_of_getElem? (i := 1) rfl))) (mvT hZ (hw _ (List.mem_of_getElem? (i := 2) rfl))) (mvT hZ (hw _ (List.mem_of_getElem? (i := 3) rfl))) (mvT hZ (hw _ (List.mem_of_getElem? (i := 4) rfl))) (by decide) (backOf (W := 2) (rm1 l Z aZ hw [] q0 p1 p2 (0 : Int32) h8 n0 Z8 ) hZ (hw _ (List.mem_of_getElem? (i := 4) rfl)) (hw _ (List.mem_of_getElem? (i := 3) rfl)) (by decide) (by decide)) (g := (mkF m 13 #[.val (.long q0), .second, .val (.int p1), .val (.int p2), .val (.int p3), .val (.int p4), .val (.ref b8), .unset, .unset, .unset, .unset, .unset, .unset] [(.int (0 : Int32)), (.int p2), (.int p1), (.long q0), (.int (0 : Int32)), (.ref b8)])) rfl (by rw [hml]; rfl) (argsL := [(.long q0), (.int p1), (.int p2), (.int (0 : Int32))]) (rest := [(.int (0 : Int32)), (.ref b8)]) (lenOf own_pd2 rfl) rfl (by show 2 * 0 + _ ≤ _; exact Nat.le_of_eq rfl) (hb hby at_13) (fun _ _ => ⟨rfl, e8, (by decide : 1 + 0 ≤ _), (by decide : 12 + 0 ≤ _)⟩)
  dsimp only [Pt.U, Pt.locs, Pt.cells, Pt.slots] at X10 l10 y10 z10 st10 hQ10
  obtain rfl : k10 = 1 := y10
  obtain rfl : n10 = 12 := z10
  obtain ⟨r_10, rfl, N10q, e10⟩ := hQ10
  have N10 : Fr n0 L10 := by rw [l10]; exact Fr.app N0 N10q
  clear l10
  refine own_go (S' := T10.setTop (mkF m 16 #[.val (.long q0), .second, .val (.int p1), .val (.int p2), .val (.int p3), .val (.int p4), .val (.ref b8), .unset, .unset, .unset, .unset, .unset, .unset] [(.int r_10), (.int (0 : Int32)), (.ref b8)])) st10 ?_
  obtain ⟨c11, Ar11, S11, M11, H11⟩ := id f9
  have hin11 : ¬ ((0 : Int32) < 0 ∨ c11.slots.size ≤ ((0 : Int32)).toNatClampNeg) := own_in S11 ⟨by decide, by decide⟩
  obtain ⟨T12, h12, X12, e12, W12, st12⟩ := stB X10 hx hZ e10 Ar11 (j := (0 : Int32)) hin11 (g := (mkF m 16 #[.val (.long q0), .second, .val (.int p1), .val (.int p2), .val (.int p3), .val (.int p4), .val (.ref b8), .unset, .unset, .unset, .unset, .unset, .unset] [(.int r_10), (.int (0 : Int32)), (.ref b8)])) rfl rfl (hb hby at_16)
  have f14 : Exa Z h12 b8 "[B" := B8.wr W12
  have f13 : own_AI Z h12 b8 .byte 12 (own_upd (fun _ => 0) 0 (nar .byte r_10)) := own_AI.set Ar11 S11 M11 H11 W12
  have Z12 : n0 ≤ h12.size := Nat.le_trans Z8 (Keep.of_wr W12).1
  have N12 := Fr.snoc X12 N10 g_b8
  refine own_go (S' := T12.setTop (mkF m 17 #[.val (.long q0), .second, .val (.int p1), .val (.int p2), .val (.int p3), .val (.int p4), .val (.ref b8), .unset, .unset, .unset, .unset, .unset, .unset] [])) st12 ?_
  refine own_go (S' := T12.setTop (mkF m 24 #[.val (.long q0), .second, .val (.int p1), .val (.int p2), .val (.int p3), .val (.int p4), .val (.ref b8), .unset, .unset, .unset, .unset, .unset, .unset] [(.int (1 : Int32)), (.int p2), (.int p1), (.long q0), (.int (1 : Int32)), (.ref b8)])) (fun target kt => ?_) ?_
  · skip
    show Steps p.tables e below (T12.setTop (mkF m 17 #[.val (.long q0), .second, .val (.int p1), .val (.int p2), .val (.int p3), .val (.int p4), .val (.ref b8), .unset, .unset, .unset, .unset, .unset, .unset] [])) _
    refine XS.aload X12.here hx rfl (hb hby at_17) rfl rfl ?_
    show Steps p.tables e below (T12.setTop (mkF m 19 #[.val (.long q0), .second, .val (.int p1), .val (.int p2), .val (.int p3), .val (.int p4), .val (.ref b8), .unset, .unset, .unset, .unset, .unset, .unset] [(.ref b8)])) _
    refine XS.iconst X12.here hx rfl (hb hby at_19) ?_
    show Steps p.tables e below (T12.setTop (mkF m 20 #[.val (.long q0), .second, .val (.int p1), .val (.int p2), .val (.int p3), .val (.int p4), .val (.ref b8), .unset, .unset, .unset, .unset, .unset, .unset] [(.int (1 : Int32)), (.ref b8)])) _
    refine XS.lloadN X12.here hx rfl (hb hby at_20) rfl ?_
    show Steps p.tables e below (T12.setTop (mkF m 21 #[.val (.long q0), .second, .val (.int p1), .val (.int p2), .val (.int p3), .val (.int p4), .val (.ref b8), .unset, .unset, .unset, .unset, .unset, .unset] [(.long q0), (.int (1 : Int32)), (.ref b8)])) _
    refine XS.iloadN X12.here hx rfl (hb hby at_21) rfl ?_
    show Steps p.tables e below (T12.setTop (mkF m 22 #[.val (.long q0), .second, .val (.int p1), .val (.int p2), .val (.int p3), .val (.int p4), .val (.ref b8), .unset, .unset, .unset, .unset, .unset, .unset] [(.int p1), (.long q0), (.int (1 : Int32)), (.ref b8)])) _
    refine XS.iloadN X12.here hx rfl (hb hby at_22) rfl ?_
    show Steps p.tables e below (T12.setTop (mkF m 23 #[.val (.long q0), .second, .val (.int p1), .val (.int p2), .val (.int p3), .val (.int p4), .val (.ref b8), .unset, .unset, .unset, .unset, .unset, .unset] [(.int p2), (.int p1), (.long q0), (.int (1 : Int32)), (.ref b8)])) _
    refine XS.iconst X12.here hx rfl (hb hby at_23) ?_
    exact kt
  obtain ⟨_, _, ⟨T15, L15, k15, n15⟩, -, X15, ⟨Lc15, hQ15, l15, y15, z15⟩, st15⟩ := Jvm.LawKit.callS X12 hx (y := (⟨"com/example/long_walk/longwalk/DecimalNameIndexValuePinLaw", "draw", "(JIII)B"⟩ : MethodName)) hown (mvT hZ (hw _ (List.mem_of_getElem? (i := 1) rfl))) (mvT hZ (hw _ (List.mem_of_getElem? (i := 2) rfl))) (mvT hZ (hw _ (List.mem_of_getElem? (i := 3) rfl))) (mvT hZ (hw _ (List.mem_of_getElem? (i := 4) rfl))) (by decide) (backOf (W := 2) (rm1 l Z aZ hw [] q0 p1 p2 (1 : Int32) h12 n0 Z12 ) hZ (hw _ (List.mem_of_getElem? (i := 4) rfl)) (hw _ (List.mem_of_getElem? (i := 3) rfl)) (by decide) (by decide)) (g := (mkF m 24 #[.val (.long q0), .second, .val (.int p1), .val (.int p2), .val (.int p3), .val (.int p4), .val (.ref b8), .unset, .unset, .unset, .unset, .unset, .unset] [(.int (1 : Int32)), (.int p2), (.int p1), (.long q0), (.int (1 : Int32)), (.ref b8)])) rfl (by rw [hml]; rfl) (argsL := [(.long q0), (.int p1), (.int p2), (.int (1 : Int32))]) (rest := [(.int (1 : Int32)), (.ref b8)]) (lenOf own_pd2 rfl) rfl (by show 2 * 0 + _ ≤ _; exact Nat.le_of_eq rfl) (hb hby at_24) (fun _ _ => ⟨rfl, e12, (by decide : 1 + 0 ≤ _), (by decide : 12 + 0 ≤ _)⟩)
  dsimp only [Pt.U, Pt.locs, Pt.cells, Pt.slots] at X15 l15 y15 z15 st15 hQ15
  obtain rfl : k15 = 1 := y15
  obtain rfl : n15 = 12 := z15
  obtain ⟨r_15, rfl, N15q, e15⟩ := hQ15
  have N15 : Fr n0 L15 := by rw [l15]; exact Fr.app N12 N15q
  clear l15
  refine own_go (S' := T15.setTop (mkF m 27 #[.val (.long q0), .second, .val (.int p1), .val (.int p2), .val (.int p3), .val (.int p4), .val (.ref b8), .unset, .unset, .unset, .unset, .unset, .unset] [(.int r_15), (.int (1 : Int32)), (.ref b8)])) st15 ?_
  obtain ⟨c16, Ar16, S16, M16, H16⟩ := id f13
  have hin16 : ¬ ((1 : Int32) < 0 ∨ c16.slots.size ≤ ((1 : Int32)).toNatClampNeg) := own_in S16 ⟨by decide, by decide⟩
  obtain ⟨T17, h17, X17, e17, W17, st17⟩ := stB X15 hx hZ e15 Ar16 (j := (1 : Int32)) hin16 (g := (mkF m 27 #[.val (.long q0), .second, .val (.int p1), .val (.int p2), .val (.int p3), .val (.int p4), .val (.ref b8), .unset, .unset, .unset, .unset, .unset, .unset] [(.int r_15), (.int (1 : Int32)), (.ref b8)])) rfl rfl (hb hby at_27)
  have f19 : Exa Z h17 b8 "[B" := f14.wr W17
  have f18 : own_AI Z h17 b8 .byte 12 (own_upd (own_upd (fun _ => 0) 0 (nar .byte r_10)) 1 (nar .byte r_15)) := own_AI.set Ar16 S16 M16 H16 W17
  have Z17 : n0 ≤ h17.size := Nat.le_trans Z12 (Keep.of_wr W17).1
  have N17 := Fr.snoc X17 N15 g_b8
  refine own_go (S' := T17.setTop (mkF m 28 #[.val (.long q0), .second, .val (.int p1), .val (.int p2), .val (.int p3), .val (.int p4), .val (.ref b8), .unset, .unset, .unset, .unset, .unset, .unset] [])) st17 ?_
  refine own_go (S' := T17.setTop (mkF m 35 #[.val (.long q0), .second, .val (.int p1), .val (.int p2), .val (.int p3), .val (.int p4), .val (.ref b8), .unset, .unset, .unset, .unset, .unset, .unset] [(.int (2 : Int32)), (.int p2), (.int p1), (.long q0), (.int (2 : Int32)), (.ref b8)])) (fun target kt => ?_) ?_
  · skip
    show Steps p.tables e below (T17.setTop (mkF m 28 #[.val (.long q0), .second, .val (.int p1), .val (.int p2), .val (.int p3), .val (.int p4), .val (.ref b8), .unset, .unset, .unset, .unset, .unset, .unset] [])) _
    refine XS.aload X17.here hx rfl (hb hby at_28) rfl rfl ?_
    show Steps p.tables e below (T17.setTop (mkF m 30 #[.val (.long q0), .second, .val (.int p1), .val (.int p2), .val (.int p3), .val (.int p4), .val (.ref b8), .unset, .unset, .unset, .unset, .unset, .unset] [(.ref b8)])) _
    refine XS.iconst X17.here hx rfl (hb hby at_30) ?_
    show Steps p.tables e below (T17.setTop (mkF m 31 #[.val (.long q0), .second, .val (.int p1), .val (.int p2), .val (.int p3), .val (.int p4), .val (.ref b8), .unset, .unset, .unset, .unset, .unset, .unset] [(.int (2 : Int32)), (.ref b8)])) _
    refine XS.lloadN X17.here hx rfl (hb hby at_31) rfl ?_
    show Steps p.tables e below (T17.setTop (mkF m 32 #[.val (.long q0), .second, .val (.int p1), .val (.int p2), .val (.int p3), .val (.int p4), .val (.ref b8), .unset, .unset, .unset, .unset, .unset, .unset] [(.long q0), (.int (2 : Int32)), (.ref b8)])) _
    refine XS.iloadN X17.here hx rfl (hb hby at_32) rfl ?_
    show Steps p.tables e below (T17.setTop (mkF m 33 #[.val (.long q0), .second, .val (.int p1), .val (.int p2), .val (.int p3), .val (.int p4), .val (.ref b8), .unset, .unset, .unset, .unset, .unset, .unset] [(.int p1), (.long q0), (.int (2 : Int32)), (.ref b8)])) _
    refine XS.iloadN X17.here hx rfl (hb hby at_33) rfl ?_
    show Steps p.tables e below (T17.setTop (mkF m 34 #[.val (.long q0), .second, .val (.int p1), .val (.int p2), .val (.int p3), .val (.int p4), .val (.ref b8), .unset, .unset, .unset, .unset, .unset, .unset] [(.int p2), (.int p1), (.long q0), (.int (2 : Int32)), (.ref b8)])) _
    refine XS.iconst X17.here hx rfl (hb hby at_34) ?_
    exact kt
  obtain ⟨_, _, ⟨T20, L20, k20, n20⟩, -, X20, ⟨Lc20, hQ20, l20, y20, z20⟩, st20⟩ := Jvm.LawKit.callS X17 hx (y := (⟨"com/example/long_walk/longwalk/DecimalNameIndexValuePinLaw", "draw", "(JIII)B"⟩ : MethodName)) hown (mvT hZ (hw _ (List.mem_of_getElem? (i := 1) rfl))) (mvT hZ (hw _ (List.mem_of_getElem? (i := 2) rfl))) (mvT hZ (hw _ (List.mem_of_getElem? (i := 3) rfl))) (mvT hZ (hw _ (List.mem_of_getElem? (i := 4) rfl))) (by decide) (backOf (W := 2) (rm1 l Z aZ hw [] q0 p1 p2 (2 : Int32) h17 n0 Z17 ) hZ (hw _ (List.mem_of_getElem? (i := 4) rfl)) (hw _ (List.mem_of_getElem? (i := 3) rfl)) (by decide) (by decide)) (g := (mkF m 35 #[.val (.long q0), .second, .val (.int p1), .val (.int p2), .val (.int p3), .val (.int p4), .val (.ref b8), .unset, .unset, .unset, .unset, .unset, .unset] [(.int (2 : Int32)), (.int p2), (.int p1), (.long q0), (.int (2 : Int32)), (.ref b8)])) rfl (by rw [hml]; rfl) (argsL := [(.long q0), (.int p1), (.int p2), (.int (2 : Int32))]) (rest := [(.int (2 : Int32)), (.ref b8)]) (lenOf own_pd2 rfl) rfl (by show 2 * 0 + _ ≤ _; exact Nat.le_of_eq rfl) (hb hby at_35) (fun _ _ => ⟨rfl, e17, (by decide : 1 + 0 ≤ _), (by decide : 12 + 0 ≤ _)⟩)
  dsimp only [Pt.U, Pt.locs, Pt.cells, Pt.slots] at X20 l20 y20 z20 st20 hQ20
  obtain rfl : k20 = 1 := y20
  obtain rfl : n20 = 12 := z20
  obtain ⟨r_20, rfl, N20q, e20⟩ := hQ20
  have N20 : Fr n0 L20 := by rw [l20]; exact Fr.app N17 N20q
  clear l20
  refine own_go (S' := T20.setTop (mkF m 38 #[.val (.long q0), .second, .val (.int p1), .val (.int p2), .val (.int p3), .val (.int p4), .val (.ref b8), .unset, .unset, .unset, .unset, .unset, .unset] [(.int r_20), (.int (2 : Int32)), (.ref b8)])) st20 ?_
  obtain ⟨c21, Ar21, S21, M21, H21⟩ := id f18
  have hin21 : ¬ ((2 : Int32) < 0 ∨ c21.slots.size ≤ ((2 : Int32)).toNatClampNeg) := own_in S21 ⟨by decide, by decide⟩
  obtain ⟨T22, h22, X22, e22, W22, st22⟩ := stB X20 hx hZ e20 Ar21 (j := (2 : Int32)) hin21 (g := (mkF m 38 #[.val (.long q0), .second, .val (.int p1), .val (.int p2), .val (.int p3), .val (.int p4), .val (.ref b8), .unset, .unset, .unset, .unset, .unset, .unset] [(.int r_20), (.int (2 : Int32)), (.ref b8)])) rfl rfl (hb hby at_38)
  have f24 : Exa Z h22 b8 "[B" := f19.wr W22
  have f23 : own_AI Z h22 b8 .byte 12 (own_upd (own_upd (own_upd (fun _ => 0) 0 (nar .byte r_10)) 1 (nar .byte r_15)) 2 (nar .byte r_20)) := own_AI.set Ar21 S21 M21 H21 W22
  have Z22 : n0 ≤ h22.size := Nat.le_trans Z17 (Keep.of_wr W22).1
  have N22 := Fr.snoc X22 N20 g_b8
  refine own_go (S' := T22.setTop (mkF m 39 #[.val (.long q0), .second, .val (.int p1), .val (.int p2), .val (.int p3), .val (.int p4), .val (.ref b8), .unset, .unset, .unset, .unset, .unset, .unset] [])) st22 ?_
  refine own_go (S' := T22.setTop (mkF m 46 #[.val (.long q0), .second, .val (.int p1), .val (.int p2), .val (.int p3), .val (.int p4), .val (.ref b8), .unset, .unset, .unset, .unset, .unset, .unset] [(.int (3 : Int32)), (.int p2), (.int p1), (.long q0), (.int (3 : Int32)), (.ref b8)])) (fun target kt => ?_) ?_
  · skip
    show Steps p.tables e below (T22.setTop (mkF m 39 #[.val (.long q0), .second, .val (.int p1), .val (.int p2), .val (.int p3), .val (.int p4), .val (.ref b8), .unset, .unset, .unset, .unset, .unset, .unset] [])) _
    refine XS.aload X22.here hx rfl (hb hby at_39) rfl rfl ?_
    show Steps p.tables e below (T22.setTop (mkF m 41 #[.val (.long q0), .second, .val (.int p1), .val (.int p2), .val (.int p3), .val (.int p4), .val (.ref b8), .unset, .unset, .unset, .unset, .unset, .unset] [(.ref b8)])) _
    refine XS.iconst X22.here hx rfl (hb hby at_41) ?_
    show Steps p.tables e below (T22.setTop (mkF m 42 #[.val (.long q0), .second, .val (.int p1), .val (.int p2), .val (.int p3), .val (.int p4), .val (.ref b8), .unset, .unset, .unset, .unset, .unset, .unset] [(.int (3 : Int32)), (.ref b8)])) _
    refine XS.lloadN X22.here hx rfl (hb hby at_42) rfl ?_
    show Steps p.tables e below (T22.setTop (mkF m 43 #[.val (.long q0), .second, .val (.int p1), .val (.int p2), .val (.int p3), .val (.int p4), .val (.ref b8), .unset, .unset, .unset, .unset, .unset, .unset] [(.long q0), (.int (3 : Int32)), (.ref b8)])) _
    refine XS.iloadN X22.here hx rfl (hb hby at_43) rfl ?_
    show Steps p.tables e below (T22.setTop (mkF m 44 #[.val (.long q0), .second, .val (.int p1), .val (.int p2), .val (.int p3), .val (.int p4), .val (.ref b8), .unset, .unset, .unset, .unset, .unset, .unset] [(.int p1), (.long q0), (.int (3 : Int32)), (.ref b8)])) _
    refine XS.iloadN X22.here hx rfl (hb hby at_44) rfl ?_
    show Steps p.tables e below (T22.setTop (mkF m 45 #[.val (.long q0), .second, .val (.int p1), .val (.int p2), .val (.int p3), .val (.int p4), .val (.ref b8), .unset, .unset, .unset, .unset, .unset, .unset] [(.int p2), (.int p1), (.long q0), (.int (3 : Int32)), (.ref b8)])) _
    refine XS.iconst X22.here hx rfl (hb hby at_45) ?_
    exact kt
  obtain ⟨_, _, ⟨T25, L25, k25, n25⟩, -, X25, ⟨Lc25, hQ25, l25, y25, z25⟩, st25⟩ := Jvm.LawKit.callS X22 hx (y := (⟨"com/example/long_walk/longwalk/DecimalNameIndexValuePinLaw", "draw", "(JIII)B"⟩ : MethodName)) hown (mvT hZ (hw _ (List.mem_of_getElem? (i := 1) rfl))) (mvT hZ (hw _ (List.mem_of_getElem? (i := 2) rfl))) (mvT hZ (hw _ (List.mem_of_getElem? (i := 3) rfl))) (mvT hZ (hw _ (List.mem_of_getElem? (i := 4) rfl))) (by decide) (backOf (W := 2) (rm1 l Z aZ hw [] q0 p1 p2 (3 : Int32) h22 n0 Z22 ) hZ (hw _ (List.mem_of_getElem? (i := 4) rfl)) (hw _ (List.mem_of_getElem? (i := 3) rfl)) (by decide) (by decide)) (g := (mkF m 46 #[.val (.long q0), .second, .val (.int p1), .val (.int p2), .val (.int p3), .val (.int p4), .val (.ref b8), .unset, .unset, .unset, .unset, .unset, .unset] [(.int (3 : Int32)), (.int p2), (.int p1), (.long q0), (.int (3 : Int32)), (.ref b8)])) rfl (by rw [hml]; rfl) (argsL := [(.long q0), (.int p1), (.int p2), (.int (3 : Int32))]) (rest := [(.int (3 : Int32)), (.ref b8)]) (lenOf own_pd2 rfl) rfl (by show 2 * 0 + _ ≤ _; exact Nat.le_of_eq rfl) (hb hby at_46) (fun _ _ => ⟨rfl, e22, (by decide : 1 + 0 ≤ _), (by decide : 12 + 0 ≤ _)⟩)
  dsimp only [Pt.U, Pt.locs, Pt.cells, Pt.slots] at X25 l25 y25 z25 st25 hQ25
  obtain rfl : k25 = 1 := y25
  obtain rfl : n25 = 12 := z25
  obtain ⟨r_25, rfl, N25q, e25⟩ := hQ25
  have N25 : Fr n0 L25 := by rw [l25]; exact Fr.app N22 N25q
  clear l25
  refine own_go (S' := T25.setTop (mkF m 49 #[.val (.long q0), .second, .val (.int p1), .val (.int p2), .val (.int p3), .val (.int p4), .val (.ref b8), .unset, .unset, .unset, .unset, .unset, .unset] [(.int r_25), (.int (3 : Int32)), (.ref b8)])) st25 ?_
  obtain ⟨c26, Ar26, S26, M26, H26⟩ := id f23
  have hin26 : ¬ ((3 : Int32) < 0 ∨ c26.slots.size ≤ ((3 : Int32)).toNatClampNeg) := own_in S26 ⟨by decide, by decide⟩
  obtain ⟨T27, h27, X27, e27, W27, st27⟩ := stB X25 hx hZ e25 Ar26 (j := (3 : Int32)) hin26 (g := (mkF m 49 #[.val (.long q0), .second, .val (.int p1), .val (.int p2), .val (.int p3), .val (.int p4), .val (.ref b8), .unset, .unset, .unset, .unset, .unset, .unset] [(.int r_25), (.int (3 : Int32)), (.ref b8)])) rfl rfl (hb hby at_49)
  have f29 : Exa Z h27 b8 "[B" := f24.wr W27
  have f28 : own_AI Z h27 b8 .byte 12 (own_upd (own_upd (own_upd (own_upd (fun _ => 0) 0 (nar .byte r_10)) 1 (nar .byte r_15)) 2 (nar .byte r_20)) 3 (nar .byte r_25)) := own_AI.set Ar26 S26 M26 H26 W27
  have Z27 : n0 ≤ h27.size := Nat.le_trans Z22 (Keep.of_wr W27).1
  have N27 := Fr.snoc X27 N25 g_b8
  refine own_go (S' := T27.setTop (mkF m 50 #[.val (.long q0), .second, .val (.int p1), .val (.int p2), .val (.int p3), .val (.int p4), .val (.ref b8), .unset, .unset, .unset, .unset, .unset, .unset] [])) st27 ?_
  refine own_go (S' := T27.setTop (mkF m 57 #[.val (.long q0), .second, .val (.int p1), .val (.int p2), .val (.int p3), .val (.int p4), .val (.ref b8), .unset, .unset, .unset, .unset, .unset, .unset] [(.int (4 : Int32)), (.int p2), (.int p1), (.long q0), (.int (4 : Int32)), (.ref b8)])) (fun target kt => ?_) ?_
  · skip
    show Steps p.tables e below (T27.setTop (mkF m 50 #[.val (.long q0), .second, .val (.int p1), .val (.int p2), .val (.int p3), .val (.int p4), .val (.ref b8), .unset, .unset, .unset, .unset, .unset, .unset] [])) _
    refine XS.aload X27.here hx rfl (hb hby at_50) rfl rfl ?_
    show Steps p.tables e below (T27.setTop (mkF m 52 #[.val (.long q0), .second, .val (.int p1), .val (.int p2), .val (.int p3), .val (.int p4), .val (.ref b8), .unset, .unset, .unset, .unset, .unset, .unset] [(.ref b8)])) _
    refine XS.iconst X27.here hx rfl (hb hby at_52) ?_
    show Steps p.tables e below (T27.setTop (mkF m 53 #[.val (.long q0), .second, .val (.int p1), .val (.int p2), .val (.int p3), .val (.int p4), .val (.ref b8), .unset, .unset, .unset, .unset, .unset, .unset] [(.int (4 : Int32)), (.ref b8)])) _
    refine XS.lloadN X27.here hx rfl (hb hby at_53) rfl ?_
    show Steps p.tables e below (T27.setTop (mkF m 54 #[.val (.long q0), .second, .val (.int p1), .val (.int p2), .val (.int p3), .val (.int p4), .val (.ref b8), .unset, .unset, .unset, .unset, .unset, .unset] [(.long q0), (.int (4 : Int32)), (.ref b8)])) _
    refine XS.iloadN X27.here hx rfl (hb hby at_54) rfl ?_
    show Steps p.tables e below (T27.setTop (mkF m 55 #[.val (.long q0), .second, .val (.int p1), .val (.int p2), .val (.int p3), .val (.int p4), .val (.ref b8), .unset, .unset, .unset, .unset, .unset, .unset] [(.int p1), (.long q0), (.int (4 : Int32)), (.ref b8)])) _
    refine XS.iloadN X27.here hx rfl (hb hby at_55) rfl ?_
    show Steps p.tables e below (T27.setTop (mkF m 56 #[.val (.long q0), .second, .val (.int p1), .val (.int p2), .val (.int p3), .val (.int p4), .val (.ref b8), .unset, .unset, .unset, .unset, .unset, .unset] [(.int p2), (.int p1), (.long q0), (.int (4 : Int32)), (.ref b8)])) _
    refine XS.iconst X27.here hx rfl (hb hby at_56) ?_
    exact kt
  obtain ⟨_, _, ⟨T30, L30, k30, n30⟩, -, X30, ⟨Lc30, hQ30, l30, y30, z30⟩, st30⟩ := Jvm.LawKit.callS X27 hx (y := (⟨"com/example/long_walk/longwalk/DecimalNameIndexValuePinLaw", "draw", "(JIII)B"⟩ : MethodName)) hown (mvT hZ (hw _ (List.mem_of_getElem? (i := 1) rfl))) (mvT hZ (hw _ (List.mem_of_getElem? (i := 2) rfl))) (mvT hZ (hw _ (List.mem_of_getElem? (i := 3) rfl))) (mvT hZ (hw _ (List.mem_of_getElem? (i := 4) rfl))) (by decide) (backOf (W := 2) (rm1 l Z aZ hw [] q0 p1 p2 (4 : Int32) h27 n0 Z27 ) hZ (hw _ (List.mem_of_getElem? (i := 4) rfl)) (hw _ (List.mem_of_getElem? (i := 3) rfl)) (by decide) (by decide)) (g := (mkF m 57 #[.val (.long q0), .second, .val (.int p1), .val (.int p2), .val (.int p3), .val (.int p4), .val (.ref b8), .unset, .unset, .unset, .unset, .unset, .unset] [(.int (4 : Int32)), (.int p2), (.int p1), (.long q0), (.int (4 : Int32)), (.ref b8)])) rfl (by rw [hml]; rfl) (argsL := [(.long q0), (.int p1), (.int p2), (.int (4 : Int32))]) (rest := [(.int (4 : Int32)), (.ref b8)]) (lenOf own_pd2 rfl) rfl (by show 2 * 0 + _ ≤ _; exact Nat.le_of_eq rfl) (hb hby at_57) (fun _ _ => ⟨rfl, e27, (by decide : 1 + 0 ≤ _), (by decide : 12 + 0 ≤ _)⟩)
  dsimp only [Pt.U, Pt.locs, Pt.cells, Pt.slots] at X30 l30 y30 z30 st30 hQ30
  obtain rfl : k30 = 1 := y30
  obtain rfl : n30 = 12 := z30
  obtain ⟨r_30, rfl, N30q, e30⟩ := hQ30
  have N30 : Fr n0 L30 := by rw [l30]; exact Fr.app N27 N30q
  clear l30
  refine own_go (S' := T30.setTop (mkF m 60 #[.val (.long q0), .second, .val (.int p1), .val (.int p2), .val (.int p3), .val (.int p4), .val (.ref b8), .unset, .unset, .unset, .unset, .unset, .unset] [(.int r_30), (.int (4 : Int32)), (.ref b8)])) st30 ?_
  obtain ⟨c31, Ar31, S31, M31, H31⟩ := id f28
  have hin31 : ¬ ((4 : Int32) < 0 ∨ c31.slots.size ≤ ((4 : Int32)).toNatClampNeg) := own_in S31 ⟨by decide, by decide⟩
  obtain ⟨T32, h32, X32, e32, W32, st32⟩ := stB X30 hx hZ e30 Ar31 (j := (4 : Int32)) hin31 (g := (mkF m 60 #[.val (.long q0), .second, .val (.int p1), .val (.int p2), .val (.int p3), .val (.int p4), .val (.ref b8), .unset, .unset, .unset, .unset, .unset, .unset] [(.int r_30), (.int (4 : Int32)), (.ref b8)])) rfl rfl (hb hby at_60)
  have f34 : Exa Z h32 b8 "[B" := f29.wr W32
  have f33 : own_AI Z h32 b8 .byte 12 (own_upd (own_upd (own_upd (own_upd (own_upd (fun _ => 0) 0 (nar .byte r_10)) 1 (nar .byte r_15)) 2 (nar .byte r_20)) 3 (nar .byte r_25)) 4 (nar .byte r_30)) := own_AI.set Ar31 S31 M31 H31 W32
  have Z32 : n0 ≤ h32.size := Nat.le_trans Z27 (Keep.of_wr W32).1
  have N32 := Fr.snoc X32 N30 g_b8
  refine own_go (S' := T32.setTop (mkF m 61 #[.val (.long q0), .second, .val (.int p1), .val (.int p2), .val (.int p3), .val (.int p4), .val (.ref b8), .unset, .unset, .unset, .unset, .unset, .unset] [])) st32 ?_
  refine own_go (S' := T32.setTop (mkF m 68 #[.val (.long q0), .second, .val (.int p1), .val (.int p2), .val (.int p3), .val (.int p4), .val (.ref b8), .unset, .unset, .unset, .unset, .unset, .unset] [(.int (5 : Int32)), (.int p2), (.int p1), (.long q0), (.int (5 : Int32)), (.ref b8)])) (fun target kt => ?_) ?_
  · skip
    show Steps p.tables e below (T32.setTop (mkF m 61 #[.val (.long q0), .second, .val (.int p1), .val (.int p2), .val (.int p3), .val (.int p4), .val (.ref b8), .unset, .unset, .unset, .unset, .unset, .unset] [])) _
    refine XS.aload X32.here hx rfl (hb hby at_61) rfl rfl ?_
    show Steps p.tables e below (T32.setTop (mkF m 63 #[.val (.long q0), .second, .val (.int p1), .val (.int p2), .val (.int p3), .val (.int p4), .val (.ref b8), .unset, .unset, .unset, .unset, .unset, .unset] [(.ref b8)])) _
    refine XS.iconst X32.here hx rfl (hb hby at_63) ?_
    show Steps p.tables e below (T32.setTop (mkF m 64 #[.val (.long q0), .second, .val (.int p1), .val (.int p2), .val (.int p3), .val (.int p4), .val (.ref b8), .unset, .unset, .unset, .unset, .unset, .unset] [(.int (5 : Int32)), (.ref b8)])) _
    refine XS.lloadN X32.here hx rfl (hb hby at_64) rfl ?_
    show Steps p.tables e below (T32.setTop (mkF m 65 #[.val (.long q0), .second, .val (.int p1), .val (.int p2), .val (.int p3), .val (.int p4), .val (.ref b8), .unset, .unset, .unset, .unset, .unset, .unset] [(.long q0), (.int (5 : Int32)), (.ref b8)])) _
    refine XS.iloadN X32.here hx rfl (hb hby at_65) rfl ?_
    show Steps p.tables e below (T32.setTop (mkF m 66 #[.val (.long q0), .second, .val (.int p1), .val (.int p2), .val (.int p3), .val (.int p4), .val (.ref b8), .unset, .unset, .unset, .unset, .unset, .unset] [(.int p1), (.long q0), (.int (5 : Int32)), (.ref b8)])) _
    refine XS.iloadN X32.here hx rfl (hb hby at_66) rfl ?_
    show Steps p.tables e below (T32.setTop (mkF m 67 #[.val (.long q0), .second, .val (.int p1), .val (.int p2), .val (.int p3), .val (.int p4), .val (.ref b8), .unset, .unset, .unset, .unset, .unset, .unset] [(.int p2), (.int p1), (.long q0), (.int (5 : Int32)), (.ref b8)])) _
    refine XS.iconst X32.here hx rfl (hb hby at_67) ?_
    exact kt
  obtain ⟨_, _, ⟨T35, L35, k35, n35⟩, -, X35, ⟨Lc35, hQ35, l35, y35, z35⟩, st35⟩ := Jvm.LawKit.callS X32 hx (y := (⟨"com/example/long_walk/longwalk/DecimalNameIndexValuePinLaw", "draw", "(JIII)B"⟩ : MethodName)) hown (mvT hZ (hw _ (List.mem_of_getElem? (i := 1) rfl))) (mvT hZ (hw _ (List.mem_of_getElem? (i := 2) rfl))) (mvT hZ (hw _ (List.mem_of_getElem? (i := 3) rfl))) (mvT hZ (hw _ (List.mem_of_getElem? (i := 4) rfl))) (by decide) (backOf (W := 2) (rm1 l Z aZ hw [] q0 p1 p2 (5 : Int32) h32 n0 Z32 ) hZ (hw _ (List.mem_of_getElem? (i := 4) rfl)) (hw _ (List.mem_of_getElem? (i := 3) rfl)) (by decide) (by decide)) (g := (mkF m 68 #[.val (.long q0), .second, .val (.int p1), .val (.int p2), .val (.int p3), .val (.int p4), .val (.ref b8), .unset, .unset, .unset, .unset, .unset, .unset] [(.int (5 : Int32)), (.int p2), (.int p1), (.long q0), (.int (5 : Int32)), (.ref b8)])) rfl (by rw [hml]; rfl) (argsL := [(.long q0), (.int p1), (.int p2), (.int (5 : Int32))]) (rest := [(.int (5 : Int32)), (.ref b8)]) (lenOf own_pd2 rfl) rfl (by show 2 * 0 + _ ≤ _; exact Nat.le_of_eq rfl) (hb hby at_68) (fun _ _ => ⟨rfl, e32, (by decide : 1 + 0 ≤ _), (by decide : 12 + 0 ≤ _)⟩)
  dsimp only [Pt.U, Pt.locs, Pt.cells, Pt.slots] at X35 l35 y35 z35 st35 hQ35
  obtain rfl : k35 = 1 := y35
  obtain rfl : n35 = 12 := z35
  obtain ⟨r_35, rfl, N35q, e35⟩ := hQ35
  have N35 : Fr n0 L35 := by rw [l35]; exact Fr.app N32 N35q
  clear l35
  refine own_go (S' := T35.setTop (mkF m 71 #[.val (.long q0), .second, .val (.int p1), .val (.int p2), .val (.int p3), .val (.int p4), .val (.ref b8), .unset, .unset, .unset, .unset, .unset, .unset] [(.int r_35), (.int (5 : Int32)), (.ref b8)])) st35 ?_
  obtain ⟨c36, Ar36, S36, M36, H36⟩ := id f33
  have hin36 : ¬ ((5 : Int32) < 0 ∨ c36.slots.size ≤ ((5 : Int32)).toNatClampNeg) := own_in S36 ⟨by decide, by decide⟩
  obtain ⟨T37, h37, X37, e37, W37, st37⟩ := stB X35 hx hZ e35 Ar36 (j := (5 : Int32)) hin36 (g := (mkF m 71 #[.val (.long q0), .second, .val (.int p1), .val (.int p2), .val (.int p3), .val (.int p4), .val (.ref b8), .unset, .unset, .unset, .unset, .unset, .unset] [(.int r_35), (.int (5 : Int32)), (.ref b8)])) rfl rfl (hb hby at_71)
  have f39 : Exa Z h37 b8 "[B" := f34.wr W37
  have f38 : own_AI Z h37 b8 .byte 12 (own_upd (own_upd (own_upd (own_upd (own_upd (own_upd (fun _ => 0) 0 (nar .byte r_10)) 1 (nar .byte r_15)) 2 (nar .byte r_20)) 3 (nar .byte r_25)) 4 (nar .byte r_30)) 5 (nar .byte r_35)) := own_AI.set Ar36 S36 M36 H36 W37
  have Z37 : n0 ≤ h37.size := Nat.le_trans Z32 (Keep.of_wr W37).1
  have N37 := Fr.snoc X37 N35 g_b8
  refine own_go (S' := T37.setTop (mkF m 72 #[.val (.long q0), .second, .val (.int p1), .val (.int p2), .val (.int p3), .val (.int p4), .val (.ref b8), .unset, .unset, .unset, .unset, .unset, .unset] [])) st37 ?_
  refine own_go (S' := T37.setTop (mkF m 81 #[.val (.long q0), .second, .val (.int p1), .val (.int p2), .val (.int p3), .val (.int p4), .val (.ref b8), .unset, .unset, .unset, .unset, .unset, .unset] [(.int (6 : Int32)), (.int p2), (.int p1), (.long q0), (.int (6 : Int32)), (.ref b8)])) (fun target kt => ?_) ?_
  · skip
    show Steps p.tables e below (T37.setTop (mkF m 72 #[.val (.long q0), .second, .val (.int p1), .val (.int p2), .val (.int p3), .val (.int p4), .val (.ref b8), .unset, .unset, .unset, .unset, .unset, .unset] [])) _
    refine XS.aload X37.here hx rfl (hb hby at_72) rfl rfl ?_
    show Steps p.tables e below (T37.setTop (mkF m 74 #[.val (.long q0), .second, .val (.int p1), .val (.int p2), .val (.int p3), .val (.int p4), .val (.ref b8), .unset, .unset, .unset, .unset, .unset, .unset] [(.ref b8)])) _
    refine XS.bipush X37.here hx rfl (hb hby at_74) ?_
    show Steps p.tables e below (T37.setTop (mkF m 76 #[.val (.long q0), .second, .val (.int p1), .val (.int p2), .val (.int p3), .val (.int p4), .val (.ref b8), .unset, .unset, .unset, .unset, .unset, .unset] [(.int (6 : Int32)), (.ref b8)])) _
    refine XS.lloadN X37.here hx rfl (hb hby at_76) rfl ?_
    show Steps p.tables e below (T37.setTop (mkF m 77 #[.val (.long q0), .second, .val (.int p1), .val (.int p2), .val (.int p3), .val (.int p4), .val (.ref b8), .unset, .unset, .unset, .unset, .unset, .unset] [(.long q0), (.int (6 : Int32)), (.ref b8)])) _
    refine XS.iloadN X37.here hx rfl (hb hby at_77) rfl ?_
    show Steps p.tables e below (T37.setTop (mkF m 78 #[.val (.long q0), .second, .val (.int p1), .val (.int p2), .val (.int p3), .val (.int p4), .val (.ref b8), .unset, .unset, .unset, .unset, .unset, .unset] [(.int p1), (.long q0), (.int (6 : Int32)), (.ref b8)])) _
    refine XS.iloadN X37.here hx rfl (hb hby at_78) rfl ?_
    show Steps p.tables e below (T37.setTop (mkF m 79 #[.val (.long q0), .second, .val (.int p1), .val (.int p2), .val (.int p3), .val (.int p4), .val (.ref b8), .unset, .unset, .unset, .unset, .unset, .unset] [(.int p2), (.int p1), (.long q0), (.int (6 : Int32)), (.ref b8)])) _
    refine XS.bipush X37.here hx rfl (hb hby at_79) ?_
    exact kt
  obtain ⟨_, _, ⟨T40, L40, k40, n40⟩, -, X40, ⟨Lc40, hQ40, l40, y40, z40⟩, st40⟩ := Jvm.LawKit.callS X37 hx (y := (⟨"com/example/long_walk/longwalk/DecimalNameIndexValuePinLaw", "draw", "(JIII)B"⟩ : MethodName)) hown (mvT hZ (hw _ (List.mem_of_getElem? (i := 1) rfl))) (mvT hZ (hw _ (List.mem_of_getElem? (i := 2) rfl))) (mvT hZ (hw _ (List.mem_of_getElem? (i := 3) rfl))) (mvT hZ (hw _ (List.mem_of_getElem? (i := 4) rfl))) (by decide) (backOf (W := 2) (rm1 l Z aZ hw [] q0 p1 p2 (6 : Int32) h37 n0 Z37 ) hZ (hw _ (List.mem_of_getElem? (i := 4) rfl)) (hw _ (List.mem_of_getElem? (i := 3) rfl)) (by decide) (by decide)) (g := (mkF m 81 #[.val (.long q0), .second, .val (.int p1), .val (.int p2), .val (.int p3), .val (.int p4), .val (.ref b8), .unset, .unset, .unset, .unset, .unset, .unset] [(.int (6 : Int32)), (.int p2), (.int p1), (.long q0), (.int (6 : Int32)), (.ref b8)])) rfl (by rw [hml]; rfl) (argsL := [(.long q0), (.int p1), (.int p2), (.int (6 : Int32))]) (rest := [(.int (6 : Int32)), (.ref b8)]) (lenOf own_pd2 rfl) rfl (by show 2 * 0 + _ ≤ _; exact Nat.le_of_eq rfl) (hb hby at_81) (fun _ _ => ⟨rfl, e37, (by decide : 1 + 0 ≤ _), (by decide : 12 + 0 ≤ _)⟩)
  dsimp only [Pt.U, Pt.locs, Pt.cells, Pt.slots] at X40 l40 y40 z40 st40 hQ40
  obtain rfl : k40 = 1 := y40
  obtain rfl : n40 = 12 := z40
  obtain ⟨r_40, rfl, N40q, e40⟩ := hQ40
  have N40 : Fr n0 L40 := by rw [l40]; exact Fr.app N37 N40q
  clear l40
  refine own_go (S' := T40.setTop (mkF m 84 #[.val (.long q0), .second, .val (.int p1), .val (.int p2), .val (.int p3), .val (.int p4), .val (.ref b8), .unset, .unset, .unset, .unset, .unset, .unset] [(.int r_40), (.int (6 : Int32)), (.ref b8)])) st40 ?_
  obtain ⟨c41, Ar41, S41, M41, H41⟩ := id f38
  have hin41 : ¬ ((6 : Int32) < 0 ∨ c41.slots.size ≤ ((6 : Int32)).toNatClampNeg) := own_in S41 ⟨by decide, by decide⟩
  obtain ⟨T42, h42, X42, e42, W42, st42⟩ := stB X40 hx hZ e40 Ar41 (j := (6 : Int32)) hin41 (g := (mkF m 84 #[.val (.long q0), .second, .val (.int p1), .val (.int p2), .val (.int p3), .val (.int p4), .val (.ref b8), .unset, .unset, .unset, .unset, .unset, .unset] [(.int r_40), (.int (6 : Int32)), (.ref b8)])) rfl rfl (hb hby at_84)
  have f44 : Exa Z h42 b8 "[B" := f39.wr W42
  have f43 : own_AI Z h42 b8 .byte 12 (own_upd (own_upd (own_upd (own_upd (own_upd (own_upd (own_upd (fun _ => 0) 0 (nar .byte r_10)) 1 (nar .byte r_15)) 2 (nar .byte r_20)) 3 (nar .byte r_25)) 4 (nar .byte r_30)) 5 (nar .byte r_35)) 6 (nar .byte r_40)) := own_AI.set Ar41 S41 M41 H41 W42
  have Z42 : n0 ≤ h42.size := Nat.le_trans Z37 (Keep.of_wr W42).1
  have N42 := Fr.snoc X42 N40 g_b8
  refine own_go (S' := T42.setTop (mkF m 85 #[.val (.long q0), .second, .val (.int p1), .val (.int p2), .val (.int p3), .val (.int p4), .val (.ref b8), .unset, .unset, .unset, .unset, .unset, .unset] [])) st42 ?_
  refine own_go (S' := T42.setTop (mkF m 94 #[.val (.long q0), .second, .val (.int p1), .val (.int p2), .val (.int p3), .val (.int p4), .val (.ref b8), .unset, .unset, .unset, .unset, .unset, .unset] [(.int (7 : Int32)), (.int p2), (.int p1), (.long q0), (.int (7 : Int32)), (.ref b8)])) (fun target kt => ?_) ?_
  · skip
    show Steps p.tables e below (T42.setTop (mkF m 85 #[.val (.long q0), .second, .val (.int p1), .val (.int p2), .val (.int p3), .val (.int p4), .val (.ref b8), .unset, .unset, .unset, .unset, .unset, .unset] [])) _
    refine XS.aload X42.here hx rfl (hb hby at_85) rfl rfl ?_
    show Steps p.tables e below (T42.setTop (mkF m 87 #[.val (.long q0), .second, .val (.int p1), .val (.int p2), .val (.int p3), .val (.int p4), .val (.ref b8), .unset, .unset, .unset, .unset, .unset, .unset] [(.ref b8)])) _
    refine XS.bipush X42.here hx rfl (hb hby at_87) ?_
    show Steps p.tables e below (T42.setTop (mkF m 89 #[.val (.long q0), .second, .val (.int p1), .val (.int p2), .val (.int p3), .val (.int p4), .val (.ref b8), .unset, .unset, .unset, .unset, .unset, .unset] [(.int (7 : Int32)), (.ref b8)])) _
    refine XS.lloadN X42.here hx rfl (hb hby at_89) rfl ?_
    show Steps p.tables e below (T42.setTop (mkF m 90 #[.val (.long q0), .second, .val (.int p1), .val (.int p2), .val (.int p3), .val (.int p4), .val (.ref b8), .unset, .unset, .unset, .unset, .unset, .unset] [(.long q0), (.int (7 : Int32)), (.ref b8)])) _
    refine XS.iloadN X42.here hx rfl (hb hby at_90) rfl ?_
    show Steps p.tables e below (T42.setTop (mkF m 91 #[.val (.long q0), .second, .val (.int p1), .val (.int p2), .val (.int p3), .val (.int p4), .val (.ref b8), .unset, .unset, .unset, .unset, .unset, .unset] [(.int p1), (.long q0), (.int (7 : Int32)), (.ref b8)])) _
    refine XS.iloadN X42.here hx rfl (hb hby at_91) rfl ?_
    show Steps p.tables e below (T42.setTop (mkF m 92 #[.val (.long q0), .second, .val (.int p1), .val (.int p2), .val (.int p3), .val (.int p4), .val (.ref b8), .unset, .unset, .unset, .unset, .unset, .unset] [(.int p2), (.int p1), (.long q0), (.int (7 : Int32)), (.ref b8)])) _
    refine XS.bipush X42.here hx rfl (hb hby at_92) ?_
    exact kt
  obtain ⟨_, _, ⟨T45, L45, k45, n45⟩, -, X45, ⟨Lc45, hQ45, l45, y45, z45⟩, st45⟩ := Jvm.LawKit.callS X42 hx (y := (⟨"com/example/long_walk/longwalk/DecimalNameIndexValuePinLaw", "draw", "(JIII)B"⟩ : MethodName)) hown (mvT hZ (hw _ (List.mem_of_getElem? (i := 1) rfl))) (mvT hZ (hw _ (List.mem_of_getElem? (i := 2) rfl))) (mvT hZ (hw _ (List.mem_of_getElem? (i := 3) rfl))) (mvT hZ (hw _ (List.mem_of_getElem? (i := 4) rfl))) (by decide) (backOf (W := 2) (rm1 l Z aZ hw [] q0 p1 p2 (7 : Int32) h42 n0 Z42 ) hZ (hw _ (List.mem_of_getElem? (i := 4) rfl)) (hw _ (List.mem_of_getElem? (i := 3) rfl)) (by decide) (by decide)) (g := (mkF m 94 #[.val (.long q0), .second, .val (.int p1), .val (.int p2), .val (.int p3), .val (.int p4), .val (.ref b8), .unset, .unset, .unset, .unset, .unset, .unset] [(.int (7 : Int32)), (.int p2), (.int p1), (.long q0), (.int (7 : Int32)), (.ref b8)])) rfl (by rw [hml]; rfl) (argsL := [(.long q0), (.int p1), (.int p2), (.int (7 : Int32))]) (rest := [(.int (7 : Int32)), (.ref b8)]) (lenOf own_pd2 rfl) rfl (by show 2 * 0 + _ ≤ _; exact Nat.le_of_eq rfl) (hb hby at_94) (fun _ _ => ⟨rfl, e42, (by decide : 1 + 0 ≤ _), (by decide : 12 + 0 ≤ _)⟩)
  dsimp only [Pt.U, Pt.locs, Pt.cells, Pt.slots] at X45 l45 y45 z45 st45 hQ45
  obtain rfl : k45 = 1 := y45
  obtain rfl : n45 = 12 := z45
  obtain ⟨r_45, rfl, N45q, e45⟩ := hQ45
  have N45 : Fr n0 L45 := by rw [l45]; exact Fr.app N42 N45q
  clear l45
  refine own_go (S' := T45.setTop (mkF m 97 #[.val (.long q0), .second, .val (.int p1), .val (.int p2), .val (.int p3), .val (.int p4), .val (.ref b8), .unset, .unset, .unset, .unset, .unset, .unset] [(.int r_45), (.int (7 : Int32)), (.ref b8)])) st45 ?_
  obtain ⟨c46, Ar46, S46, M46, H46⟩ := id f43
  have hin46 : ¬ ((7 : Int32) < 0 ∨ c46.slots.size ≤ ((7 : Int32)).toNatClampNeg) := own_in S46 ⟨by decide, by decide⟩
  obtain ⟨T47, h47, X47, e47, W47, st47⟩ := stB X45 hx hZ e45 Ar46 (j := (7 : Int32)) hin46 (g := (mkF m 97 #[.val (.long q0), .second, .val (.int p1), .val (.int p2), .val (.int p3), .val (.int p4), .val (.ref b8), .unset, .unset, .unset, .unset, .unset, .unset] [(.int r_45), (.int (7 : Int32)), (.ref b8)])) rfl rfl (hb hby at_97)
  have f49 : Exa Z h47 b8 "[B" := f44.wr W47
  have f48 : own_AI Z h47 b8 .byte 12 (own_upd (own_upd (own_upd (own_upd (own_upd (own_upd (own_upd (own_upd (fun _ => 0) 0 (nar .byte r_10)) 1 (nar .byte r_15)) 2 (nar .byte r_20)) 3 (nar .byte r_25)) 4 (nar .byte r_30)) 5 (nar .byte r_35)) 6 (nar .byte r_40)) 7 (nar .byte r_45)) := own_AI.set Ar46 S46 M46 H46 W47
  have Z47 : n0 ≤ h47.size := Nat.le_trans Z42 (Keep.of_wr W47).1
  have N47 := Fr.snoc X47 N45 g_b8
  refine own_go (S' := T47.setTop (mkF m 98 #[.val (.long q0), .second, .val (.int p1), .val (.int p2), .val (.int p3), .val (.int p4), .val (.ref b8), .unset, .unset, .unset, .unset, .unset, .unset] [])) st47 ?_
  refine own_go (S' := T47.setTop (mkF m 107 #[.val (.long q0), .second, .val (.int p1), .val (.int p2), .val (.int p3), .val (.int p4), .val (.ref b8), .unset, .unset, .unset, .unset, .unset, .unset] [(.int (8 : Int32)), (.int p2), (.int p1), (.long q0), (.int (8 : Int32)), (.ref b8)])) (fun target kt => ?_) ?_
  · skip
    show Steps p.tables e below (T47.setTop (mkF m 98 #[.val (.long q0), .second, .val (.int p1), .val (.int p2), .val (.int p3), .val (.int p4), .val (.ref b8), .unset, .unset, .unset, .unset, .unset, .unset] [])) _
    refine XS.aload X47.here hx rfl (hb hby at_98) rfl rfl ?_
    show Steps p.tables e below (T47.setTop (mkF m 100 #[.val (.long q0), .second, .val (.int p1), .val (.int p2), .val (.int p3), .val (.int p4), .val (.ref b8), .unset, .unset, .unset, .unset, .unset, .unset] [(.ref b8)])) _
    refine XS.bipush X47.here hx rfl (hb hby at_100) ?_
    show Steps p.tables e below (T47.setTop (mkF m 102 #[.val (.long q0), .second, .val (.int p1), .val (.int p2), .val (.int p3), .val (.int p4), .val (.ref b8), .unset, .unset, .unset, .unset, .unset, .unset] [(.int (8 : Int32)), (.ref b8)])) _
    refine XS.lloadN X47.here hx rfl (hb hby at_102) rfl ?_
    show Steps p.tables e below (T47.setTop (mkF m 103 #[.val (.long q0), .second, .val (.int p1), .val (.int p2), .val (.int p3), .val (.int p4), .val (.ref b8), .unset, .unset, .unset, .unset, .unset, .unset] [(.long q0), (.int (8 : Int32)), (.ref b8)])) _
    refine XS.iloadN X47.here hx rfl (hb hby at_103) rfl ?_
    show Steps p.tables e below (T47.setTop (mkF m 104 #[.val (.long q0), .second, .val (.int p1), .val (.int p2), .val (.int p3), .val (.int p4), .val (.ref b8), .unset, .unset, .unset, .unset, .unset, .unset] [(.int p1), (.long q0), (.int (8 : Int32)), (.ref b8)])) _
    refine XS.iloadN X47.here hx rfl (hb hby at_104) rfl ?_
    show Steps p.tables e below (T47.setTop (mkF m 105 #[.val (.long q0), .second, .val (.int p1), .val (.int p2), .val (.int p3), .val (.int p4), .val (.ref b8), .unset, .unset, .unset, .unset, .unset, .unset] [(.int p2), (.int p1), (.long q0), (.int (8 : Int32)), (.ref b8)])) _
    refine XS.bipush X47.here hx rfl (hb hby at_105) ?_
    exact kt
  obtain ⟨_, _, ⟨T50, L50, k50, n50⟩, -, X50, ⟨Lc50, hQ50, l50, y50, z50⟩, st50⟩ := Jvm.LawKit.callS X47 hx (y := (⟨"com/example/long_walk/longwalk/DecimalNameIndexValuePinLaw", "draw", "(JIII)B"⟩ : MethodName)) hown (mvT hZ (hw _ (List.mem_of_getElem? (i := 1) rfl))) (mvT hZ (hw _ (List.mem_of_getElem? (i := 2) rfl))) (mvT hZ (hw _ (List.mem_of_getElem? (i := 3) rfl))) (mvT hZ (hw _ (List.mem_of_getElem? (i := 4) rfl))) (by decide) (backOf (W := 2) (rm1 l Z aZ hw [] q0 p1 p2 (8 : Int32) h47 n0 Z47 ) hZ (hw _ (List.mem_of_getElem? (i := 4) rfl)) (hw _ (List.mem_of_getElem? (i := 3) rfl)) (by decide) (by decide)) (g := (mkF m 107 #[.val (.long q0), .second, .val (.int p1), .val (.int p2), .val (.int p3), .val (.int p4), .val (.ref b8), .unset, .unset, .unset, .unset, .unset, .unset] [(.int (8 : Int32)), (.int p2), (.int p1), (.long q0), (.int (8 : Int32)), (.ref b8)])) rfl (by rw [hml]; rfl) (argsL := [(.long q0), (.int p1), (.int p2), (.int (8 : Int32))]) (rest := [(.int (8 : Int32)), (.ref b8)]) (lenOf own_pd2 rfl) rfl (by show 2 * 0 + _ ≤ _; exact Nat.le_of_eq rfl) (hb hby at_107) (fun _ _ => ⟨rfl, e47, (by decide : 1 + 0 ≤ _), (by decide : 12 + 0 ≤ _)⟩)
  dsimp only [Pt.U, Pt.locs, Pt.cells, Pt.slots] at X50 l50 y50 z50 st50 hQ50
  obtain rfl : k50 = 1 := y50
  obtain rfl : n50 = 12 := z50
  obtain ⟨r_50, rfl, N50q, e50⟩ := hQ50
  have N50 : Fr n0 L50 := by rw [l50]; exact Fr.app N47 N50q
  clear l50
  refine own_go (S' := T50.setTop (mkF m 110 #[.val (.long q0), .second, .val (.int p1), .val (.int p2), .val (.int p3), .val (.int p4), .val (.ref b8), .unset, .unset, .unset, .unset, .unset, .unset] [(.int r_50), (.int (8 : Int32)), (.ref b8)])) st50 ?_
  obtain ⟨c51, Ar51, S51, M51, H51⟩ := id f48
  have hin51 : ¬ ((8 : Int32) < 0 ∨ c51.slots.size ≤ ((8 : Int32)).toNatClampNeg) := own_in S51 ⟨by decide, by decide⟩
  obtain ⟨T52, h52, X52, e52, W52, st52⟩ := stB X50 hx hZ e50 Ar51 (j := (8 : Int32)) hin51 (g := (mkF m 110 #[.val (.long q0), .second, .val (.int p1), .val (.int p2), .val (.int p3), .val (.int p4), .val (.ref b8), .unset, .unset, .unset, .unset, .unset, .unset] [(.int r_50), (.int (8 : Int32)), (.ref b8)])) rfl rfl (hb hby at_110)
  have f54 : Exa Z h52 b8 "[B" := f49.wr W52
  have f53 : own_AI Z h52 b8 .byte 12 (own_upd (own_upd (own_upd (own_upd (own_upd (own_upd (own_upd (own_upd (own_upd (fun _ => 0) 0 (nar .byte r_10)) 1 (nar .byte r_15)) 2 (nar .byte r_20)) 3 (nar .byte r_25)) 4 (nar .byte r_30)) 5 (nar .byte r_35)) 6 (nar .byte r_40)) 7 (nar .byte r_45)) 8 (nar .byte r_50)) := own_AI.set Ar51 S51 M51 H51 W52
  have Z52 : n0 ≤ h52.size := Nat.le_trans Z47 (Keep.of_wr W52).1
  have N52 := Fr.snoc X52 N50 g_b8
  refine own_go (S' := T52.setTop (mkF m 111 #[.val (.long q0), .second, .val (.int p1), .val (.int p2), .val (.int p3), .val (.int p4), .val (.ref b8), .unset, .unset, .unset, .unset, .unset, .unset] [])) st52 ?_
  refine own_go (S' := T52.setTop (mkF m 120 #[.val (.long q0), .second, .val (.int p1), .val (.int p2), .val (.int p3), .val (.int p4), .val (.ref b8), .unset, .unset, .unset, .unset, .unset, .unset] [(.int (9 : Int32)), (.int p2), (.int p1), (.long q0), (.int (9 : Int32)), (.ref b8)])) (fun target kt => ?_) ?_
  · skip
    show Steps p.tables e below (T52.setTop (mkF m 111 #[.val (.long q0), .second, .val (.int p1), .val (.int p2), .val (.int p3), .val (.int p4), .val (.ref b8), .unset, .unset, .unset, .unset, .unset, .unset] [])) _
    refine XS.aload X52.here hx rfl (hb hby at_111) rfl rfl ?_
    show Steps p.tables e below (T52.setTop (mkF m 113 #[.val (.long q0), .second, .val (.int p1), .val (.int p2), .val (.int p3), .val (.int p4), .val (.ref b8), .unset, .unset, .unset, .unset, .unset, .unset] [(.ref b8)])) _
    refine XS.bipush X52.here hx rfl (hb hby at_113) ?_
    show Steps p.tables e below (T52.setTop (mkF m 115 #[.val (.long q0), .second, .val (.int p1), .val (.int p2), .val (.int p3), .val (.int p4), .val (.ref b8), .unset, .unset, .unset, .unset, .unset, .unset] [(.int (9 : Int32)), (.ref b8)])) _
    refine XS.lloadN X52.here hx rfl (hb hby at_115) rfl ?_
    show Steps p.tables e below (T52.setTop (mkF m 116 #[.val (.long q0), .second, .val (.int p1), .val (.int p2), .val (.int p3), .val (.int p4), .val (.ref b8), .unset, .unset, .unset, .unset, .unset, .unset] [(.long q0), (.int (9 : Int32)), (.ref b8)])) _
    refine XS.iloadN X52.here hx rfl (hb hby at_116) rfl ?_
    show Steps p.tables e below (T52.setTop (mkF m 117 #[.val (.long q0), .second, .val (.int p1), .val (.int p2), .val (.int p3), .val (.int p4), .val (.ref b8), .unset, .unset, .unset, .unset, .unset, .unset] [(.int p1), (.long q0), (.int (9 : Int32)), (.ref b8)])) _
    refine XS.iloadN X52.here hx rfl (hb hby at_117) rfl ?_
    show Steps p.tables e below (T52.setTop (mkF m 118 #[.val (.long q0), .second, .val (.int p1), .val (.int p2), .val (.int p3), .val (.int p4), .val (.ref b8), .unset, .unset, .unset, .unset, .unset, .unset] [(.int p2), (.int p1), (.long q0), (.int (9 : Int32)), (.ref b8)])) _
    refine XS.bipush X52.here hx rfl (hb hby at_118) ?_
    exact kt
  obtain ⟨_, _, ⟨T55, L55, k55, n55⟩, -, X55, ⟨Lc55, hQ55, l55, y55, z55⟩, st55⟩ := Jvm.LawKit.callS X52 hx (y := (⟨"com/example/long_walk/longwalk/DecimalNameIndexValuePinLaw", "draw", "(JIII)B"⟩ : MethodName)) hown (mvT hZ (hw _ (List.mem_of_getElem? (i := 1) rfl))) (mvT hZ (hw _ (List.mem_of_getElem? (i := 2) rfl))) (mvT hZ (hw _ (List.mem_of_getElem? (i := 3) rfl))) (mvT hZ (hw _ (List.mem_of_getElem? (i := 4) rfl))) (by decide) (backOf (W := 2) (rm1 l Z aZ hw [] q0 p1 p2 (9 : Int32) h52 n0 Z52 ) hZ (hw _ (List.mem_of_getElem? (i := 4) rfl)) (hw _ (List.mem_of_getElem? (i := 3) rfl)) (by decide) (by decide)) (g := (mkF m 120 #[.val (.long q0), .second, .val (.int p1), .val (.int p2), .val (.int p3), .val (.int p4), .val (.ref b8), .unset, .unset, .unset, .unset, .unset, .unset] [(.int (9 : Int32)), (.int p2), (.int p1), (.long q0), (.int (9 : Int32)), (.ref b8)])) rfl (by rw [hml]; rfl) (argsL := [(.long q0), (.int p1), (.int p2), (.int (9 : Int32))]) (rest := [(.int (9 : Int32)), (.ref b8)]) (lenOf own_pd2 rfl) rfl (by show 2 * 0 + _ ≤ _; exact Nat.le_of_eq rfl) (hb hby at_120) (fun _ _ => ⟨rfl, e52, (by decide : 1 + 0 ≤ _), (by decide : 12 + 0 ≤ _)⟩)
  dsimp only [Pt.U, Pt.locs, Pt.cells, Pt.slots] at X55 l55 y55 z55 st55 hQ55
  obtain rfl : k55 = 1 := y55
  obtain rfl : n55 = 12 := z55
  obtain ⟨r_55, rfl, N55q, e55⟩ := hQ55
  have N55 : Fr n0 L55 := by rw [l55]; exact Fr.app N52 N55q
  clear l55
  refine own_go (S' := T55.setTop (mkF m 123 #[.val (.long q0), .second, .val (.int p1), .val (.int p2), .val (.int p3), .val (.int p4), .val (.ref b8), .unset, .unset, .unset, .unset, .unset, .unset] [(.int r_55), (.int (9 : Int32)), (.ref b8)])) st55 ?_
  obtain ⟨c56, Ar56, S56, M56, H56⟩ := id f53
  have hin56 : ¬ ((9 : Int32) < 0 ∨ c56.slots.size ≤ ((9 : Int32)).toNatClampNeg) := own_in S56 ⟨by decide, by decide⟩
  obtain ⟨T57, h57, X57, e57, W57, st57⟩ := stB X55 hx hZ e55 Ar56 (j := (9 : Int32)) hin56 (g := (mkF m 123 #[.val (.long q0), .second, .val (.int p1), .val (.int p2), .val (.int p3), .val (.int p4), .val (.ref b8), .unset, .unset, .unset, .unset, .unset, .unset] [(.int r_55), (.int (9 : Int32)), (.ref b8)])) rfl rfl (hb hby at_123)
  have f59 : Exa Z h57 b8 "[B" := f54.wr W57
  have f58 : own_AI Z h57 b8 .byte 12 (own_upd (own_upd (own_upd (own_upd (own_upd (own_upd (own_upd (own_upd (own_upd (own_upd (fun _ => 0) 0 (nar .byte r_10)) 1 (nar .byte r_15)) 2 (nar .byte r_20)) 3 (nar .byte r_25)) 4 (nar .byte r_30)) 5 (nar .byte r_35)) 6 (nar .byte r_40)) 7 (nar .byte r_45)) 8 (nar .byte r_50)) 9 (nar .byte r_55)) := own_AI.set Ar56 S56 M56 H56 W57
  have Z57 : n0 ≤ h57.size := Nat.le_trans Z52 (Keep.of_wr W57).1
  have N57 := Fr.snoc X57 N55 g_b8
  refine own_go (S' := T57.setTop (mkF m 124 #[.val (.long q0), .second, .val (.int p1), .val (.int p2), .val (.int p3), .val (.int p4), .val (.ref b8), .unset, .unset, .unset, .unset, .unset, .unset] [])) st57 ?_
  refine own_go (S' := T57.setTop (mkF m 133 #[.val (.long q0), .second, .val (.int p1), .val (.int p2), .val (.int p3), .val (.int p4), .val (.ref b8), .unset, .unset, .unset, .unset, .unset, .unset] [(.int (10 : Int32)), (.int p2), (.int p1), (.long q0), (.int (10 : Int32)), (.ref b8)])) (fun target kt => ?_) ?_
  · skip
    show Steps p.tables e below (T57.setTop (mkF m 124 #[.val (.long q0), .second, .val (.int p1), .val (.int p2), .val (.int p3), .val (.int p4), .val (.ref b8), .unset, .unset, .unset, .unset, .unset, .unset] [])) _
    refine XS.aload X57.here hx rfl (hb hby at_124) rfl rfl ?_
    show Steps p.tables e below (T57.setTop (mkF m 126 #[.val (.long q0), .second, .val (.int p1), .val (.int p2), .val (.int p3), .val (.int p4), .val (.ref b8), .unset, .unset, .unset, .unset, .unset, .unset] [(.ref b8)])) _
    refine XS.bipush X57.here hx rfl (hb hby at_126) ?_
    show Steps p.tables e below (T57.setTop (mkF m 128 #[.val (.long q0), .second, .val (.int p1), .val (.int p2), .val (.int p3), .val (.int p4), .val (.ref b8), .unset, .unset, .unset, .unset, .unset, .unset] [(.int (10 : Int32)), (.ref b8)])) _
    refine XS.lloadN X57.here hx rfl (hb hby at_128) rfl ?_
    show Steps p.tables e below (T57.setTop (mkF m 129 #[.val (.long q0), .second, .val (.int p1), .val (.int p2), .val (.int p3), .val (.int p4), .val (.ref b8), .unset, .unset, .unset, .unset, .unset, .unset] [(.long q0), (.int (10 : Int32)), (.ref b8)])) _
    refine XS.iloadN X57.here hx rfl (hb hby at_129) rfl ?_
    show Steps p.tables e below (T57.setTop (mkF m 130 #[.val (.long q0), .second, .val (.int p1), .val (.int p2), .val (.int p3), .val (.int p4), .val (.ref b8), .unset, .unset, .unset, .unset, .unset, .unset] [(.int p1), (.long q0), (.int (10 : Int32)), (.ref b8)])) _
    refine XS.iloadN X57.here hx rfl (hb hby at_130) rfl ?_
    show Steps p.tables e below (T57.setTop (mkF m 131 #[.val (.long q0), .second, .val (.int p1), .val (.int p2), .val (.int p3), .val (.int p4), .val (.ref b8), .unset, .unset, .unset, .unset, .unset, .unset] [(.int p2), (.int p1), (.long q0), (.int (10 : Int32)), (.ref b8)])) _
    refine XS.bipush X57.here hx rfl (hb hby at_131) ?_
    exact kt
  obtain ⟨_, _, ⟨T60, L60, k60, n60⟩, -, X60, ⟨Lc60, hQ60, l60, y60, z60⟩, st60⟩ := Jvm.LawKit.callS X57 hx (y := (⟨"com/example/long_walk/longwalk/DecimalNameIndexValuePinLaw", "draw", "(JIII)B"⟩ : MethodName)) hown (mvT hZ (hw _ (List.mem_of_getElem? (i := 1) rfl))) (mvT hZ (hw _ (List.mem_of_getElem? (i := 2) rfl))) (mvT hZ (hw _ (List.mem_of_getElem? (i := 3) rfl))) (mvT hZ (hw _ (List.mem_of_getElem? (i := 4) rfl))) (by decide) (backOf (W := 2) (rm1 l Z aZ hw [] q0 p1 p2 (10 : Int32) h57 n0 Z57 ) hZ (hw _ (List.mem_of_getElem? (i := 4) rfl)) (hw _ (List.mem_of_getElem? (i := 3) rfl)) (by decide) (by decide)) (g := (mkF m 133 #[.val (.long q0), .second, .val (.int p1), .val (.int p2), .val (.int p3), .val (.int p4), .val (.ref b8), .unset, .unset, .unset, .unset, .unset, .unset] [(.int (10 : Int32)), (.int p2), (.int p1), (.long q0), (.int (10 : Int32)), (.ref b8)])) rfl (by rw [hml]; rfl) (argsL := [(.long q0), (.int p1), (.int p2), (.int (10 : Int32))]) (rest := [(.int (10 : Int32)), (.ref b8)]) (lenOf own_pd2 rfl) rfl (by show 2 * 0 + _ ≤ _; exact Nat.le_of_eq rfl) (hb hby at_133) (fun _ _ => ⟨rfl, e57, (by decide : 1 + 0 ≤ _), (by decide : 12 + 0 ≤ _)⟩)
  dsimp only [Pt.U, Pt.locs, Pt.cells, Pt.slots] at X60 l60 y60 z60 st60 hQ60
  obtain rfl : k60 = 1 := y60
  obtain rfl : n60 = 12 := z60
  obtain ⟨r_60, rfl, N60q, e60⟩ := hQ60
  have N60 : Fr n0 L60 := by rw [l60]; exact Fr.app N57 N60q
  clear l60
  refine own_go (S' := T60.setTop (mkF m 136 #[.val (.long q0), .second, .val (.int p1), .val (.int p2), .val (.int p3), .val (.int p4), .val (.ref b8), .unset, .unset, .unset, .unset, .unset, .unset] [(.int r_60), (.int (10 : Int32)), (.ref b8)])) st60 ?_
  obtain ⟨c61, Ar61, S61, M61, H61⟩ := id f58
  have hin61 : ¬ ((10 : Int32) < 0 ∨ c61.slots.size ≤ ((10 : Int32)).toNatClampNeg) := own_in S61 ⟨by decide, by decide⟩
  obtain ⟨T62, h62, X62, e62, W62, st62⟩ := stB X60 hx hZ e60 Ar61 (j := (10 : Int32)) hin61 (g := (mkF m 136 #[.val (.long q0), .second, .val (.int p1), .val (.int p2), .val (.int p3), .val (.int p4), .val (.ref b8), .unset, .unset, .unset, .unset, .unset, .unset] [(.int r_60), (.int (10 : Int32)), (.ref b8)])) rfl rfl (hb hby at_136)
  have f64 : Exa Z h62 b8 "[B" := f59.wr W62
  have f63 : own_AI Z h62 b8 .byte 12 (own_upd (own_upd (own_upd (own_upd (own_upd (own_upd (own_upd (own_upd (own_upd (own_upd (own_upd (fun _ => 0) 0 (nar .byte r_10)) 1 (nar .byte r_15)) 2 (nar .byte r_20)) 3 (nar .byte r_25)) 4 (nar .byte r_30)) 5 (nar .byte r_35)) 6 (nar .byte r_40)) 7 (nar .byte r_45)) 8 (nar .byte r_50)) 9 (nar .byte r_55)) 10 (nar .byte r_60)) := own_AI.set Ar61 S61 M61 H61 W62
  have Z62 : n0 ≤ h62.size := Nat.le_trans Z57 (Keep.of_wr W62).1
  have N62 := Fr.snoc X62 N60 g_b8
  refine own_go (S' := T62.setTop (mkF m 137 #[.val (.long q0), .second, .val (.int p1), .val (.int p2), .val (.int p3), .val (.int p4), .val (.ref b8), .unset, .unset, .unset, .unset, .unset, .unset] [])) st62 ?_
  refine own_go (S' := T62.setTop (mkF m 146 #[.val (.long q0), .second, .val (.int p1), .val (.int p2), .val (.int p3), .val (.int p4), .val (.ref b8), .unset, .unset, .unset, .unset, .unset, .unset] [(.int (11 : Int32)), (.int p2), (.int p1), (.long q0), (.int (11 : Int32)), (.ref b8)])) (fun target kt => ?_) ?_
  · skip
    show Steps p.tables e below (T62.setTop (mkF m 137 #[.val (.long q0), .second, .val (.int p1), .val (.int p2), .val (.int p3), .val (.int p4), .val (.ref b8), .unset, .unset, .unset, .unset, .unset, .unset] [])) _
    refine XS.aload X62.here hx rfl (hb hby at_137) rfl rfl ?_
    show Steps p.tables e below (T62.setTop (mkF m 139 #[.val (.long q0), .second, .val (.int p1), .val (.int p2), .val (.int p3), .val (.int p4), .val (.ref b8), .unset, .unset, .unset, .unset, .unset, .unset] [(.ref b8)])) _
    refine XS.bipush X62.here hx rfl (hb hby at_139) ?_
    show Steps p.tables e below (T62.setTop (mkF m 141 #[.val (.long q0), .second, .val (.int p1), .val (.int p2), .val (.int p3), .val (.int p4), .val (.ref b8), .unset, .unset, .unset, .unset, .unset, .unset] [(.int (11 : Int32)), (.ref b8)])) _
    refine XS.lloadN X62.here hx rfl (hb hby at_141) rfl ?_
    show Steps p.tables e below (T62.setTop (mkF m 142 #[.val (.long q0), .second, .val (.int p1), .val (.int p2), .val (.int p3), .val (.int p4), .val (.ref b8), .unset, .unset, .unset, .unset, .unset, .unset] [(.long q0), (.int (11 : Int32)), (.ref b8)])) _
    refine XS.iloadN X62.here hx rfl (hb hby at_142) rfl ?_
    show Steps p.tables e below (T62.setTop (mkF m 143 #[.val (.long q0), .second, .val (.int p1), .val (.int p2), .val (.int p3), .val (.int p4), .val (.ref b8), .unset, .unset, .unset, .unset, .unset, .unset] [(.int p1), (.long q0), (.int (11 : Int32)), (.ref b8)])) _
    refine XS.iloadN X62.here hx rfl (hb hby at_143) rfl ?_
    show Steps p.tables e below (T62.setTop (mkF m 144 #[.val (.long q0), .second, .val (.int p1), .val (.int p2), .val (.int p3), .val (.int p4), .val (.ref b8), .unset, .unset, .unset, .unset, .unset, .unset] [(.int p2), (.int p1), (.long q0), (.int (11 : Int32)), (.ref b8)])) _
    refine XS.bipush X62.here hx rfl (hb hby at_144) ?_
    exact kt
  obtain ⟨_, _, ⟨T65, L65, k65, n65⟩, -, X65, ⟨Lc65, hQ65, l65, y65, z65⟩, st65⟩ := Jvm.LawKit.callS X62 hx (y := (⟨"com/example/long_walk/longwalk/DecimalNameIndexValuePinLaw", "draw", "(JIII)B"⟩ : MethodName)) hown (mvT hZ (hw _ (List.mem_of_getElem? (i := 1) rfl))) (mvT hZ (hw _ (List.mem_of_getElem? (i := 2) rfl))) (mvT hZ (hw _ (List.mem_of_getElem? (i := 3) rfl))) (mvT hZ (hw _ (List.mem_of_getElem? (i := 4) rfl))) (by decide) (backOf (W := 2) (rm1 l Z aZ hw [] q0 p1 p2 (11 : Int32) h62 n0 Z62 ) hZ (hw _ (List.mem_of_getElem? (i := 4) rfl)) (hw _ (List.mem_of_getElem? (i := 3) rfl)) (by decide) (by decide)) (g := (mkF m 146 #[.val (.long q0), .second, .val (.int p1), .val (.int p2), .val (.int p3), .val (.int p4), .val (.ref b8), .unset, .unset, .unset, .unset, .unset, .unset] [(.int (11 : Int32)), (.int p2), (.int p1), (.long q0), (.int (11 : Int32)), (.ref b8)])) rfl (by rw [hml]; rfl) (argsL := [(.long q0), (.int p1), (.int p2), (.int (11 : Int32))]) (rest := [(.int (11 : Int32)), (.ref b8)]) (lenOf own_pd2 rfl) rfl (by show 2 * 0 + _ ≤ _; exact Nat.le_of_eq rfl) (hb hby at_146) (fun _ _ => ⟨rfl, e62, (by decide : 1 + 0 ≤ _), (by decide : 12 + 0 ≤ _)⟩)
  dsimp only [Pt.U, Pt.locs, Pt.cells, Pt.slots] at X65 l65 y65 z65 st65 hQ65
  obtain rfl : k65 = 1 := y65
  obtain rfl : n65 = 12 := z65
  obtain ⟨r_65, rfl, N65q, e65⟩ := hQ65
  have N65 : Fr n0 L65 := by rw [l65]; exact Fr.app N62 N65q
  clear l65
  refine own_go (S' := T65.setTop (mkF m 149 #[.val (.long q0), .second, .val (.int p1), .val (.int p2), .val (.int p3), .val (.int p4), .val (.ref b8), .unset, .unset, .unset, .unset, .unset, .unset] [(.int r_65), (.int (11 : Int32)), (.ref b8)])) st65 ?_
  obtain ⟨c66, Ar66, S66, M66, H66⟩ := id f63
  have hin66 : ¬ ((11 : Int32) < 0 ∨ c66.slots.size ≤ ((11 : Int32)).toNatClampNeg) := own_in S66 ⟨by decide, by decide⟩
  obtain ⟨T67, h67, X67, e67, W67, st67⟩ := stB X65 hx hZ e65 Ar66 (j := (11 : Int32)) hin66 (g := (mkF m 149 #[.val (.long q0), .second, .val (.int p1), .val (.int p2), .val (.int p3), .val (.int p4), .val (.ref b8), .unset, .unset, .unset, .unset, .unset, .unset] [(.int r_65), (.int (11 : Int32)), (.ref b8)])) rfl rfl (hb hby at_149)
  have f69 : Exa Z h67 b8 "[B" := f64.wr W67
  have f68 : own_AI Z h67 b8 .byte 12 (own_upd (own_upd (own_upd (own_upd (own_upd (own_upd (own_upd (own_upd (own_upd (own_upd (own_upd (own_upd (fun _ => 0) 0 (nar .byte r_10)) 1 (nar .byte r_15)) 2 (nar .byte r_20)) 3 (nar .byte r_25)) 4 (nar .byte r_30)) 5 (nar .byte r_35)) 6 (nar .byte r_40)) 7 (nar .byte r_45)) 8 (nar .byte r_50)) 9 (nar .byte r_55)) 10 (nar .byte r_60)) 11 (nar .byte r_65)) := own_AI.set Ar66 S66 M66 H66 W67
  have Z67 : n0 ≤ h67.size := Nat.le_trans Z62 (Keep.of_wr W67).1
  have N67 := Fr.snoc X67 N65 g_b8
  refine own_go (S' := T67.setTop (mkF m 150 #[.val (.long q0), .second, .val (.int p1), .val (.int p2), .val (.int p3), .val (.int p4), .val (.ref b8), .unset, .unset, .unset, .unset, .unset, .unset] [])) st67 ?_
  obtain ⟨fr, h_fr⟩ : ∃ z : Int32, z = ((p3 &&& (2147483647 : Int32)) % (13 : Int32)) := ⟨_, rfl⟩
  refine own_go (S' := T67.setTop (mkF m 160 #[.val (.long q0), .second, .val (.int p1), .val (.int p2), .val (.int p3), .val (.int p4), .val (.ref b8), .val (.int fr), .unset, .unset, .unset, .unset, .unset] [])) (fun target kt => ?_) ?_
  · subst h_fr
    show Steps p.tables e below (T67.setTop (mkF m 150 #[.val (.long q0), .second, .val (.int p1), .val (.int p2), .val (.int p3), .val (.int p4), .val (.ref b8), .unset, .unset, .unset, .unset, .unset, .unset] [])) _
    refine XS.iload X67.here hx rfl (hb hby at_150) rfl ?_
    show Steps p.tables e below (T67.setTop (mkF m 152 #[.val (.long q0), .second, .val (.int p1), .val (.int p2), .val (.int p3), .val (.int p4), .val (.ref b8), .unset, .unset, .unset, .unset, .unset, .unset] [(.int p3)])) _
    refine X67.ldcInt hx hown (mvT hZ (hw _ (List.mem_of_getElem? (i := 5) rfl))) (g := (mkF m 152 #[.val (.long q0), .second, .val (.int p1), .val (.int p2), .val (.int p3), .val (.int p4), .val (.ref b8), .unset, .unset, .unset, .unset, .unset, .unset] [(.int p3)])) rfl (hb hby at_152) _ ?_
    show Steps p.tables e below (T67.setTop (mkF m 154 #[.val (.long q0), .second, .val (.int p1), .val (.int p2), .val (.int p3), .val (.int p4), .val (.ref b8), .unset, .unset, .unset, .unset, .unset, .unset] [(.int (2147483647 : Int32)), (.int p3)])) _
    refine XS.iand X67.here hx rfl (hb hby at_154) rfl ?_
    show Steps p.tables e below (T67.setTop (mkF m 155 #[.val (.long q0), .second, .val (.int p1), .val (.int p2), .val (.int p3), .val (.int p4), .val (.ref b8), .unset, .unset, .unset, .unset, .unset, .unset] [(.int (p3 &&& (2147483647 : Int32)))])) _
    refine XS.bipush X67.here hx rfl (hb hby at_155) ?_
    show Steps p.tables e below (T67.setTop (mkF m 157 #[.val (.long q0), .second, .val (.int p1), .val (.int p2), .val (.int p3), .val (.int p4), .val (.ref b8), .unset, .unset, .unset, .unset, .unset, .unset] [(.int (13 : Int32)), (.int (p3 &&& (2147483647 : Int32)))])) _
    refine iremM (g := (mkF m 157 #[.val (.long q0), .second, .val (.int p1), .val (.int p2), .val (.int p3), .val (.int p4), .val (.ref b8), .unset, .unset, .unset, .unset, .unset, .unset] [(.int (13 : Int32)), (.int (p3 &&& (2147483647 : Int32)))])) X67 hx rfl (hb hby at_157) rfl (by decide) ?_
    show Steps p.tables e below (T67.setTop (mkF m 158 #[.val (.long q0), .second, .val (.int p1), .val (.int p2), .val (.int p3), .val (.int p4), .val (.ref b8), .unset, .unset, .unset, .unset, .unset, .unset] [(.int ((p3 &&& (2147483647 : Int32)) % (13 : Int32)))])) _
    refine XS.istore X67.here hx rfl (hb hby at_158) rfl (l' := #[.val (.long q0), .second, .val (.int p1), .val (.int p2), .val (.int p3), .val (.int p4), .val (.ref b8), .val (.int ((p3 &&& (2147483647 : Int32)) % (13 : Int32))), .unset, .unset, .unset, .unset, .unset]) rfl ?_
    exact kt
  obtain ⟨G, h_G⟩ : ∃ z : Nat → Int32, z = (own_upd (own_upd (own_upd (own_upd (own_upd (own_upd (own_upd (own_upd (own_upd (own_upd (own_upd (own_upd (fun _ => 0) 0 (nar .byte r_10)) 1 (nar .byte r_15)) 2 (nar .byte r_20)) 3 (nar .byte r_25)) 4 (nar .byte r_30)) 5 (nar .byte r_35)) 6 (nar .byte r_40)) 7 (nar .byte r_45)) 8 (nar .byte r_50)) 9 (nar .byte r_55)) 10 (nar .byte r_60)) 11 (nar .byte r_65)) := ⟨_, rfl⟩
  rw [← h_G] at f68
  have hB := own_bytes h_G
  obtain ⟨f, hf12, hfr⟩ := own_from h_fr
  have hb_fr : fr = (Int32.ofNat f) := hfr
  subst hb_fr
  obtain ⟨to, h_to⟩ : ∃ z : Int32, z = ((Int32.ofNat f) + ((p4 &&& (2147483647 : Int32)) % ((13 : Int32) - (Int32.ofNat f)))) := ⟨_, rfl⟩
  refine own_go (S' := T67.setTop (mkF m 176 #[.val (.long q0), .second, .val (.int p1), .val (.int p2), .val (.int p3), .val (.int p4), .val (.ref b8), .val (.int (Int32.ofNat f)), .val (.int to), .unset, .unset, .unset, .unset] [])) (fun target kt => ?_) ?_
  · subst h_to
    show Steps p.tables e below (T67.setTop (mkF m 160 #[.val (.long q0), .second, .val (.int p1), .val (.int p2), .val (.int p3), .val (.int p4), .val (.ref b8), .val (.int (Int32.ofNat f)), .unset, .unset, .unset, .unset, .unset] [])) _
    refine XS.iload X67.here hx rfl (hb hby at_160) rfl ?_
    show Steps p.tables e below (T67.setTop (mkF m 162 #[.val (.long q0), .second, .val (.int p1), .val (.int p2), .val (.int p3), .val (.int p4), .val (.ref b8), .val (.int (Int32.ofNat f)), .unset, .unset, .unset, .unset, .unset] [(.int (Int32.ofNat f))])) _
    refine XS.iload X67.here hx rfl (hb hby at_162) rfl ?_
    show Steps p.tables e below (T67.setTop (mkF m 164 #[.val (.long q0), .second, .val (.int p1), .val (.int p2), .val (.int p3), .val (.int p4), .val (.ref b8), .val (.int (Int32.ofNat f)), .unset, .unset, .unset, .unset, .unset] [(.int p4), (.int (Int32.ofNat f))])) _
    refine X67.ldcInt hx hown (mvT hZ (hw _ (List.mem_of_getElem? (i := 5) rfl))) (g := (mkF m 164 #[.val (.long q0), .second, .val (.int p1), .val (.int p2), .val (.int p3), .val (.int p4), .val (.ref b8), .val (.int (Int32.ofNat f)), .unset, .unset, .unset, .unset, .unset] [(.int p4), (.int (Int32.ofNat f))])) rfl (hb hby at_164) _ ?_
    show Steps p.tables e below (T67.setTop (mkF m 166 #[.val (.long q0), .second, .val (.int p1), .val (.int p2), .val (.int p3), .val (.int p4), .val (.ref b8), .val (.int (Int32.ofNat f)), .unset, .unset, .unset, .unset, .unset] [(.int (2147483647 : Int32)), (.int p4), (.int (Int32.ofNat f))])) _
    refine XS.iand X67.here hx rfl (hb hby at_166) rfl ?_
    show Steps p.tables e below (T67.setTop (mkF m 167 #[.val (.long q0), .second, .val (.int p1), .val (.int p2), .val (.int p3), .val (.int p4), .val (.ref b8), .val (.int (Int32.ofNat f)), .unset, .unset, .unset, .unset, .unset] [(.int (p4 &&& (2147483647 : Int32))), (.int (Int32.ofNat f))])) _
    refine XS.bipush X67.here hx rfl (hb hby at_167) ?_
    show Steps p.tables e below (T67.setTop (mkF m 169 #[.val (.long q0), .second, .val (.int p1), .val (.int p2), .val (.int p3), .val (.int p4), .val (.ref b8), .val (.int (Int32.ofNat f)), .unset, .unset, .unset, .unset, .unset] [(.int (13 : Int32)), (.int (p4 &&& (2147483647 : Int32))), (.int (Int32.ofNat f))])) _
    refine XS.iload X67.here hx rfl (hb hby at_169) rfl ?_
    show Steps p.tables e below (T67.setTop (mkF m 171 #[.val (.long q0), .second, .val (.int p1), .val (.int p2), .val (.int p3), .val (.int p4), .val (.ref b8), .val (.int (Int32.ofNat f)), .unset, .unset, .unset, .unset, .unset] [(.int (Int32.ofNat f)), (.int (13 : Int32)), (.int (p4 &&& (2147483647 : Int32))), (.int (Int32.ofNat f))])) _
    refine XS.isub X67.here hx rfl (hb hby at_171) rfl ?_
    show Steps p.tables e below (T67.setTop (mkF m 172 #[.val (.long q0), .second, .val (.int p1), .val (.int p2), .val (.int p3), .val (.int p4), .val (.ref b8), .val (.int (Int32.ofNat f)), .unset, .unset, .unset, .unset, .unset] [(.int ((13 : Int32) - (Int32.ofNat f))), (.int (p4 &&& (2147483647 : Int32))), (.int (Int32.ofNat f))])) _
    refine iremM (g := (mkF m 172 #[.val (.long q0), .second, .val (.int p1), .val (.int p2), .val (.int p3), .val (.int p4), .val (.ref b8), .val (.int (Int32.ofNat f)), .unset, .unset, .unset, .unset, .unset] [(.int ((13 : Int32) - (Int32.ofNat f))), (.int (p4 &&& (2147483647 : Int32))), (.int (Int32.ofNat f))])) X67 hx rfl (hb hby at_172) rfl (own_nz hf12) ?_
    show Steps p.tables e below (T67.setTop (mkF m 173 #[.val (.long q0), .second, .val (.int p1), .val (.int p2), .val (.int p3), .val (.int p4), .val (.ref b8), .val (.int (Int32.ofNat f)), .unset, .unset, .unset, .unset, .unset] [(.int ((p4 &&& (2147483647 : Int32)) % ((13 : Int32) - (Int32.ofNat f)))), (.int (Int32.ofNat f))])) _
    refine XS.iadd X67.here hx rfl (hb hby at_173) rfl ?_
    show Steps p.tables e below (T67.setTop (mkF m 174 #[.val (.long q0), .second, .val (.int p1), .val (.int p2), .val (.int p3), .val (.int p4), .val (.ref b8), .val (.int (Int32.ofNat f)), .unset, .unset, .unset, .unset, .unset] [(.int ((Int32.ofNat f) + ((p4 &&& (2147483647 : Int32)) % ((13 : Int32) - (Int32.ofNat f)))))])) _
    refine XS.istore X67.here hx rfl (hb hby at_174) rfl (l' := #[.val (.long q0), .second, .val (.int p1), .val (.int p2), .val (.int p3), .val (.int p4), .val (.ref b8), .val (.int (Int32.ofNat f)), .val (.int ((Int32.ofNat f) + ((p4 &&& (2147483647 : Int32)) % ((13 : Int32) - (Int32.ofNat f))))), .unset, .unset, .unset, .unset]) rfl ?_
    exact kt
  obtain ⟨t, hft, ht, hto⟩ := own_to hf12 h_to
  have hb_to : to = (Int32.ofNat t) := hto
  subst hb_to
  refine own_go (S' := T67.setTop (mkF m 182 #[.val (.long q0), .second, .val (.int p1), .val (.int p2), .val (.int p3), .val (.int p4), .val (.ref b8), .val (.int (Int32.ofNat f)), .val (.int (Int32.ofNat t)), .unset, .unset, .unset, .unset] [(.int (Int32.ofNat t)), (.int (Int32.ofNat f)), (.ref b8)])) (fun target kt => ?_) ?_
  · skip
    show Steps p.tables e below (T67.setTop (mkF m 176 #[.val (.long q0), .second, .val (.int p1), .val (.int p2), .val (.int p3), .val (.int p4), .val (.ref b8), .val (.int (Int32.ofNat f)), .val (.int (Int32.ofNat t)), .unset, .unset, .unset, .unset] [])) _
    refine XS.aload X67.here hx rfl (hb hby at_176) rfl rfl ?_
    show Steps p.tables e below (T67.setTop (mkF m 178 #[.val (.long q0), .second, .val (.int p1), .val (.int p2), .val (.int p3), .val (.int p4), .val (.ref b8), .val (.int (Int32.ofNat f)), .val (.int (Int32.ofNat t)), .unset, .unset, .unset, .unset] [(.ref b8)])) _
    refine XS.iload X67.here hx rfl (hb hby at_178) rfl ?_
    show Steps p.tables e below (T67.setTop (mkF m 180 #[.val (.long q0), .second, .val (.int p1), .val (.int p2), .val (.int p3), .val (.int p4), .val (.ref b8), .val (.int (Int32.ofNat f)), .val (.int (Int32.ofNat t)), .unset, .unset, .unset, .unset] [(.int (Int32.ofNat f)), (.ref b8)])) _
    refine XS.iload X67.here hx rfl (hb hby at_180) rfl ?_
    exact kt
  obtain ⟨_, _, ⟨T70, L70, k70, n70⟩, -, X70, ⟨Lc70, hQ70, l70, y70, z70⟩, st70⟩ := Jvm.LawKit.callS X67 hx (y := (⟨"com/example/long_walk/longwalk/DecimalNameIndex", "value", "([BII)I"⟩ : MethodName)) hown (mvT hZ (hw _ (List.mem_of_getElem? (i := 6) rfl))) (mvT hZ (hw _ (List.mem_of_getElem? (i := 7) rfl))) (mvT hZ (hw _ (List.mem_of_getElem? (i := 8) rfl))) (mvT hZ (hw _ (List.mem_of_getElem? (i := 9) rfl))) (by decide) (backOf (W := 0) (rm2 l Z aZ hw [] b8 f t G h67 n0 Z67 f68 (hft : f ≤ t) (ht : t ≤ 12)) hZ (hw _ (List.mem_of_getElem? (i := 9) rfl)) (hw _ (List.mem_of_getElem? (i := 8) rfl)) (by decide) (by decide)) (g := (mkF m 182 #[.val (.long q0), .second, .val (.int p1), .val (.int p2), .val (.int p3), .val (.int p4), .val (.ref b8), .val (.int (Int32.ofNat f)), .val (.int (Int32.ofNat t)), .unset, .unset, .unset, .unset] [(.int (Int32.ofNat t)), (.int (Int32.ofNat f)), (.ref b8)])) rfl (by rw [hml]; rfl) (argsL := [(.ref b8), (.int (Int32.ofNat f)), (.int (Int32.ofNat t))]) (rest := []) (lenOf own_pd3 rfl) rfl (by show 2 * 0 + _ ≤ _; exact Nat.le_of_eq rfl) (hb hby at_182) (fun _ _ => ⟨rfl, e67, (by decide : 1 + 0 ≤ _), (by decide : 12 + 0 ≤ _)⟩)
  dsimp only [Pt.U, Pt.locs, Pt.cells, Pt.slots] at X70 l70 y70 z70 st70 hQ70
  obtain rfl : k70 = 1 := y70
  obtain rfl : n70 = 12 := z70
  obtain ⟨rfl, N70q, e70⟩ := hQ70
  have N70 : Fr n0 L70 := by rw [l70]; exact Fr.app N67 N70q
  clear l70
  refine own_go (S' := T70.setTop (mkF m 185 #[.val (.long q0), .second, .val (.int p1), .val (.int p2), .val (.int p3), .val (.int p4), .val (.ref b8), .val (.int (Int32.ofNat f)), .val (.int (Int32.ofNat t)), .unset, .unset, .unset, .unset] [(.int (own_value G f t))])) st70 ?_
  obtain ⟨got, h_got⟩ : ∃ z : Int32, z = (own_value G f t) := ⟨_, rfl⟩
  refine own_go (S' := T70.setTop (mkF m 187 #[.val (.long q0), .second, .val (.int p1), .val (.int p2), .val (.int p3), .val (.int p4), .val (.ref b8), .val (.int (Int32.ofNat f)), .val (.int (Int32.ofNat t)), .val (.int got), .unset, .unset, .unset] [])) (fun target kt => ?_) ?_
  · subst h_got
    show Steps p.tables e below (T70.setTop (mkF m 185 #[.val (.long q0), .second, .val (.int p1), .val (.int p2), .val (.int p3), .val (.int p4), .val (.ref b8), .val (.int (Int32.ofNat f)), .val (.int (Int32.ofNat t)), .unset, .unset, .unset, .unset] [(.int (own_value G f t))])) _
    refine XS.istore X70.here hx rfl (hb hby at_185) rfl (l' := #[.val (.long q0), .second, .val (.int p1), .val (.int p2), .val (.int p3), .val (.int p4), .val (.ref b8), .val (.int (Int32.ofNat f)), .val (.int (Int32.ofNat t)), .val (.int (own_value G f t)), .unset, .unset, .unset]) rfl ?_
    exact kt
  obtain ⟨ln, h_ln⟩ : ∃ z : Int32, z = ((Int32.ofNat t) - (Int32.ofNat f)) := ⟨_, rfl⟩
  refine own_go (S' := T70.setTop (mkF m 194 #[.val (.long q0), .second, .val (.int p1), .val (.int p2), .val (.int p3), .val (.int p4), .val (.ref b8), .val (.int (Int32.ofNat f)), .val (.int (Int32.ofNat t)), .val (.int got), .val (.int ln), .unset, .unset] [])) (fun target kt => ?_) ?_
  · subst h_ln
    show Steps p.tables e below (T70.setTop (mkF m 187 #[.val (.long q0), .second, .val (.int p1), .val (.int p2), .val (.int p3), .val (.int p4), .val (.ref b8), .val (.int (Int32.ofNat f)), .val (.int (Int32.ofNat t)), .val (.int got), .unset, .unset, .unset] [])) _
    refine XS.iload X70.here hx rfl (hb hby at_187) rfl ?_
    show Steps p.tables e below (T70.setTop (mkF m 189 #[.val (.long q0), .second, .val (.int p1), .val (.int p2), .val (.int p3), .val (.int p4), .val (.ref b8), .val (.int (Int32.ofNat f)), .val (.int (Int32.ofNat t)), .val (.int got), .unset, .unset, .unset] [(.int (Int32.ofNat t))])) _
    refine XS.iload X70.here hx rfl (hb hby at_189) rfl ?_
    show Steps p.tables e below (T70.setTop (mkF m 191 #[.val (.long q0), .second, .val (.int p1), .val (.int p2), .val (.int p3), .val (.int p4), .val (.ref b8), .val (.int (Int32.ofNat f)), .val (.int (Int32.ofNat t)), .val (.int got), .unset, .unset, .unset] [(.int (Int32.ofNat f)), (.int (Int32.ofNat t))])) _
    refine XS.isub X70.here hx rfl (hb hby at_191) rfl ?_
    show Steps p.tables e below (T70.setTop (mkF m 192 #[.val (.long q0), .second, .val (.int p1), .val (.int p2), .val (.int p3), .val (.int p4), .val (.ref b8), .val (.int (Int32.ofNat f)), .val (.int (Int32.ofNat t)), .val (.int got), .unset, .unset, .unset] [(.int ((Int32.ofNat t) - (Int32.ofNat f)))])) _
    refine XS.istore X70.here hx rfl (hb hby at_192) rfl (l' := #[.val (.long q0), .second, .val (.int p1), .val (.int p2), .val (.int p3), .val (.int p4), .val (.ref b8), .val (.int (Int32.ofNat f)), .val (.int (Int32.ofNat t)), .val (.int got), .val (.int ((Int32.ofNat t) - (Int32.ofNat f))), .unset, .unset]) rfl ?_
    exact kt
  have hb_ln : ln = (Int32.ofNat (t - f)) := own_ln hft ht h_ln
  subst hb_ln
  refine own_go (S' := T70.setTop (mkF m 196 #[.val (.long q0), .second, .val (.int p1), .val (.int p2), .val (.int p3), .val (.int p4), .val (.ref b8), .val (.int (Int32.ofNat f)), .val (.int (Int32.ofNat t)), .val (.int got), .val (.int (Int32.ofNat (t - f))), .unset, .unset] [(.int (Int32.ofNat (t - f)))])) (fun target kt => ?_) ?_
  · skip
    show Steps p.tables e below (T70.setTop (mkF m 194 #[.val (.long q0), .second, .val (.int p1), .val (.int p2), .val (.int p3), .val (.int p4), .val (.ref b8), .val (.int (Int32.ofNat f)), .val (.int (Int32.ofNat t)), .val (.int got), .val (.int (Int32.ofNat (t - f))), .unset, .unset] [])) _
    refine XS.iload X70.here hx rfl (hb hby at_194) rfl ?_
    exact kt
  by_cases hc196 : (Int32.ofNat (t - f)) = (0 : Int32)
  · skip
    refine own_go (S' := T70.setTop (mkF m 535 #[.val (.long q0), .second, .val (.int p1), .val (.int p2), .val (.int p3), .val (.int p4), .val (.ref b8), .val (.int (Int32.ofNat f)), .val (.int (Int32.ofNat t)), .val (.int got), .val (.int (Int32.ofNat (t - f))), .val (.int (-1 : Int32)), .unset] [(.int (1 : Int32))])) (fun target kt => ?_) ?_
    · skip
      show Steps p.tables e below (T70.setTop (mkF m 196 #[.val (.long q0), .second, .val (.int p1), .val (.int p2), .val (.int p3), .val (.int p4), .val (.ref b8), .val (.int (Int32.ofNat f)), .val (.int (Int32.ofNat t)), .val (.int got), .val (.int (Int32.ofNat (t - f))), .unset, .unset] [(.int (Int32.ofNat (t - f)))])) _
      refine XS.ifYes X70.here hx rfl (pc0 := 196) (pc' := 206) rfl (hb hby at_196) rfl ((if0 _ _).trans (teq hc196).1) (by decide) (by decide) ?_
      show Steps p.tables e below (T70.setTop (mkF m 206 #[.val (.long q0), .second, .val (.int p1), .val (.int p2), .val (.int p3), .val (.int p4), .val (.ref b8), .val (.int (Int32.ofNat f)), .val (.int (Int32.ofNat t)), .val (.int got), .val (.int (Int32.ofNat (t - f))), .unset, .unset] [])) _
      refine XS.iconst X70.here hx rfl (hb hby at_206) ?_
      show Steps p.tables e below (T70.setTop (mkF m 207 #[.val (.long q0), .second, .val (.int p1), .val (.int p2), .val (.int p3), .val (.int p4), .val (.ref b8), .val (.int (Int32.ofNat f)), .val (.int (Int32.ofNat t)), .val (.int got), .val (.int (Int32.ofNat (t - f))), .unset, .unset] [(.int (-1 : Int32))])) _
      refine XS.istore X70.here hx rfl (hb hby at_207) rfl (l' := #[.val (.long q0), .second, .val (.int p1), .val (.int p2), .val (.int p3), .val (.int p4), .val (.ref b8), .val (.int (Int32.ofNat f)), .val (.int (Int32.ofNat t)), .val (.int got), .val (.int (Int32.ofNat (t - f))), .val (.int (-1 : Int32)), .unset]) rfl ?_
      show Steps p.tables e below (T70.setTop (mkF m 209 #[.val (.long q0), .second, .val (.int p1), .val (.int p2), .val (.int p3), .val (.int p4), .val (.ref b8), .val (.int (Int32.ofNat f)), .val (.int (Int32.ofNat t)), .val (.int got), .val (.int (Int32.ofNat (t - f))), .val (.int (-1 : Int32)), .unset] [])) _
      refine XS.goto X70.here hx rfl (pc0 := 209) (pc' := 523) rfl (hb hby at_209) (by decide) (by decide) ?_
      show Steps p.tables e below (T70.setTop (mkF m 523 #[.val (.long q0), .second, .val (.int p1), .val (.int p2), .val (.int p3), .val (.int p4), .val (.ref b8), .val (.int (Int32.ofNat f)), .val (.int (Int32.ofNat t)), .val (.int got), .val (.int (Int32.ofNat (t - f))), .val (.int (-1 : Int32)), .unset] [])) _
      refine XS.iload X70.here hx rfl (hb hby at_523) rfl ?_
      show Steps p.tables e below (T70.setTop (mkF m 525 #[.val (.long q0), .second, .val (.int p1), .val (.int p2), .val (.int p3), .val (.int p4), .val (.ref b8), .val (.int (Int32.ofNat f)), .val (.int (Int32.ofNat t)), .val (.int got), .val (.int (Int32.ofNat (t - f))), .val (.int (-1 : Int32)), .unset] [(.int got)])) _
      refine XS.iload X70.here hx rfl (hb hby at_525) rfl ?_
      show Steps p.tables e below (T70.setTop (mkF m 527 #[.val (.long q0), .second, .val (.int p1), .val (.int p2), .val (.int p3), .val (.int p4), .val (.ref b8), .val (.int (Int32.ofNat f)), .val (.int (Int32.ofNat t)), .val (.int got), .val (.int (Int32.ofNat (t - f))), .val (.int (-1 : Int32)), .unset] [(.int (-1 : Int32)), (.int got)])) _
      refine XS.icmpNo X70.here hx rfl (hb hby at_527) rfl (teq (own_fA h_got hc196 : got = (-1 : Int32))).2 ?_
      show Steps p.tables e below (T70.setTop (mkF m 530 #[.val (.long q0), .second, .val (.int p1), .val (.int p2), .val (.int p3), .val (.int p4), .val (.ref b8), .val (.int (Int32.ofNat f)), .val (.int (Int32.ofNat t)), .val (.int got), .val (.int (Int32.ofNat (t - f))), .val (.int (-1 : Int32)), .unset] [])) _
      refine XS.iconst X70.here hx rfl (hb hby at_530) ?_
      show Steps p.tables e below (T70.setTop (mkF m 531 #[.val (.long q0), .second, .val (.int p1), .val (.int p2), .val (.int p3), .val (.int p4), .val (.ref b8), .val (.int (Int32.ofNat f)), .val (.int (Int32.ofNat t)), .val (.int got), .val (.int (Int32.ofNat (t - f))), .val (.int (-1 : Int32)), .unset] [(.int (1 : Int32))])) _
      refine XS.goto X70.here hx rfl (pc0 := 531) (pc' := 535) rfl (hb hby at_531) (by decide) (by decide) ?_
      exact kt
    obtain ⟨fs, hr, hrun, hended, hW, hsame⟩ := X70.leave (v := some (.int (1 : Int32))) (fun h => by rw [Bd.returns] at h; cases h)
    refine ⟨_, _, ?_, hrun, hended, _, _, rfl, ?_, ⟨_, rfl⟩, hW, hsame.mono (by decide) (by decide)⟩
    · exact retN X70 hx (t := .boolean) Bd.returns (by simp) (hb hby at_535) hr
    · show Q0 Z q0 p1 p2 p3 p4 h0 n0 _ T70.heap _
      rw [e70]
      exact ⟨rfl, N70⟩
  · skip
    refine own_go (S' := T70.setTop (mkF m 203 #[.val (.long q0), .second, .val (.int p1), .val (.int p2), .val (.int p3), .val (.int p4), .val (.ref b8), .val (.int (Int32.ofNat f)), .val (.int (Int32.ofNat t)), .val (.int got), .val (.int (Int32.ofNat (t - f))), .unset, .unset] [(.int (9 : Int32)), (.int (Int32.ofNat (t - f)))])) (fun target kt => ?_) ?_
    · skip
      show Steps p.tables e below (T70.setTop (mkF m 196 #[.val (.long q0), .second, .val (.int p1), .val (.int p2), .val (.int p3), .val (.int p4), .val (.ref b8), .val (.int (Int32.ofNat f)), .val (.int (Int32.ofNat t)), .val (.int got), .val (.int (Int32.ofNat (t - f))), .unset, .unset] [(.int (Int32.ofNat (t - f)))])) _
      refine XS.ifNo X70.here hx rfl (hb hby at_196) rfl ((if0 _ _).trans (feq hc196).1) ?_
      show Steps p.tables e below (T70.setTop (mkF m 199 #[.val (.long q0), .second, .val (.int p1), .val (.int p2), .val (.int p3), .val (.int p4), .val (.ref b8), .val (.int (Int32.ofNat f)), .val (.int (Int32.ofNat t)), .val (.int got), .val (.int (Int32.ofNat (t - f))), .unset, .unset] [])) _
      refine XS.iload X70.here hx rfl (hb hby at_199) rfl ?_
      show Steps p.tables e below (T70.setTop (mkF m 201 #[.val (.long q0), .second, .val (.int p1), .val (.int p2), .val (.int p3), .val (.int p4), .val (.ref b8), .val (.int (Int32.ofNat f)), .val (.int (Int32.ofNat t)), .val (.int got), .val (.int (Int32.ofNat (t - f))), .unset, .unset] [(.int (Int32.ofNat (t - f)))])) _
      refine XS.bipush X70.here hx rfl (hb hby at_201) ?_
      exact kt
    by_cases hc203 : (9 : Int32) < (Int32.ofNat (t - f))
    · skip
      refine own_go (S' := T70.setTop (mkF m 535 #[.val (.long q0), .second, .val (.int p1), .val (.int p2), .val (.int p3), .val (.int p4), .val (.ref b8), .val (.int (Int32.ofNat f)), .val (.int (Int32.ofNat t)), .val (.int got), .val (.int (Int32.ofNat (t - f))), .val (.int (-1 : Int32)), .unset] [(.int (1 : Int32))])) (fun target kt => ?_) ?_
      · skip
        show Steps p.tables e below (T70.setTop (mkF m 203 #[.val (.long q0), .second, .val (.int p1), .val (.int p2), .val (.int p3), .val (.int p4), .val (.ref b8), .val (.int (Int32.ofNat f)), .val (.int (Int32.ofNat t)), .val (.int got), .val (.int (Int32.ofNat (t - f))), .unset, .unset] [(.int (9 : Int32)), (.int (Int32.ofNat (t - f)))])) _
        refine XS.icmpNo X70.here hx rfl (hb hby at_203) rfl (tlt hc203).2.2.2 ?_
        show Steps p.tables e below (T70.setTop (mkF m 206 #[.val (.long q0), .second, .val (.int p1), .val (.int p2), .val (.int p3), .val (.int p4), .val (.ref b8), .val (.int (Int32.ofNat f)), .val (.int (Int32.ofNat t)), .val (.int got), .val (.int (Int32.ofNat (t - f))), .unset, .unset] [])) _
        refine XS.iconst X70.here hx rfl (hb hby at_206) ?_
        show Steps p.tables e below (T70.setTop (mkF m 207 #[.val (.long q0), .second, .val (.int p1), .val (.int p2), .val (.int p3), .val (.int p4), .val (.ref b8), .val (.int (Int32.ofNat f)), .val (.int (Int32.ofNat t)), .val (.int got), .val (.int (Int32.ofNat (t - f))), .unset, .unset] [(.int (-1 : Int32))])) _
        refine XS.istore X70.here hx rfl (hb hby at_207) rfl (l' := #[.val (.long q0), .second, .val (.int p1), .val (.int p2), .val (.int p3), .val (.int p4), .val (.ref b8), .val (.int (Int32.ofNat f)), .val (.int (Int32.ofNat t)), .val (.int got), .val (.int (Int32.ofNat (t - f))), .val (.int (-1 : Int32)), .unset]) rfl ?_
        show Steps p.tables e below (T70.setTop (mkF m 209 #[.val (.long q0), .second, .val (.int p1), .val (.int p2), .val (.int p3), .val (.int p4), .val (.ref b8), .val (.int (Int32.ofNat f)), .val (.int (Int32.ofNat t)), .val (.int got), .val (.int (Int32.ofNat (t - f))), .val (.int (-1 : Int32)), .unset] [])) _
        refine XS.goto X70.here hx rfl (pc0 := 209) (pc' := 523) rfl (hb hby at_209) (by decide) (by decide) ?_
        show Steps p.tables e below (T70.setTop (mkF m 523 #[.val (.long q0), .second, .val (.int p1), .val (.int p2), .val (.int p3), .val (.int p4), .val (.ref b8), .val (.int (Int32.ofNat f)), .val (.int (Int32.ofNat t)), .val (.int got), .val (.int (Int32.ofNat (t - f))), .val (.int (-1 : Int32)), .unset] [])) _
        refine XS.iload X70.here hx rfl (hb hby at_523) rfl ?_
        show Steps p.tables e below (T70.setTop (mkF m 525 #[.val (.long q0), .second, .val (.int p1), .val (.int p2), .val (.int p3), .val (.int p4), .val (.ref b8), .val (.int (Int32.ofNat f)), .val (.int (Int32.ofNat t)), .val (.int got), .val (.int (Int32.ofNat (t - f))), .val (.int (-1 : Int32)), .unset] [(.int got)])) _
        refine XS.iload X70.here hx rfl (hb hby at_525) rfl ?_
        show Steps p.tables e below (T70.setTop (mkF m 527 #[.val (.long q0), .second, .val (.int p1), .val (.int p2), .val (.int p3), .val (.int p4), .val (.ref b8), .val (.int (Int32.ofNat f)), .val (.int (Int32.ofNat t)), .val (.int got), .val (.int (Int32.ofNat (t - f))), .val (.int (-1 : Int32)), .unset] [(.int (-1 : Int32)), (.int got)])) _
        refine XS.icmpNo X70.here hx rfl (hb hby at_527) rfl (teq (own_fB h_got hc196 hc203 : got = (-1 : Int32))).2 ?_
        show Steps p.tables e below (T70.setTop (mkF m 530 #[.val (.long q0), .second, .val (.int p1), .val (.int p2), .val (.int p3), .val (.int p4), .val (.ref b8), .val (.int (Int32.ofNat f)), .val (.int (Int32.ofNat t)), .val (.int got), .val (.int (Int32.ofNat (t - f))), .val (.int (-1 : Int32)), .unset] [])) _
        refine XS.iconst X70.here hx rfl (hb hby at_530) ?_
        show Steps p.tables e below (T70.setTop (mkF m 531 #[.val (.long q0), .second, .val (.int p1), .val (.int p2), .val (.int p3), .val (.int p4), .val (.ref b8), .val (.int (Int32.ofNat f)), .val (.int (Int32.ofNat t)), .val (.int got), .val (.int (Int32.ofNat (t - f))), .val (.int (-1 : Int32)), .unset] [(.int (1 : Int32))])) _
        refine XS.goto X70.here hx rfl (pc0 := 531) (pc' := 535) rfl (hb hby at_531) (by decide) (by decide) ?_
        exact kt
      obtain ⟨fs, hr, hrun, hended, hW, hsame⟩ := X70.leave (v := some (.int (1 : Int32))) (fun h => by rw [Bd.returns] at h; cases h)
      refine ⟨_, _, ?_, hrun, hended, _, _, rfl, ?_, ⟨_, rfl⟩, hW, hsame.mono (by decide) (by decide)⟩
      · exact retN X70 hx (t := .boolean) Bd.returns (by simp) (hb hby at_535) hr
      · show Q0 Z q0 p1 p2 p3 p4 h0 n0 _ T70.heap _
        rw [e70]
        exact ⟨rfl, N70⟩
    · skip
      refine own_go (S' := T70.setTop (mkF m 212 #[.val (.long q0), .second, .val (.int p1), .val (.int p2), .val (.int p3), .val (.int p4), .val (.ref b8), .val (.int (Int32.ofNat f)), .val (.int (Int32.ofNat t)), .val (.int got), .val (.int (Int32.ofNat (t - f))), .unset, .unset] [])) (fun target kt => ?_) ?_
      · skip
        show Steps p.tables e below (T70.setTop (mkF m 203 #[.val (.long q0), .second, .val (.int p1), .val (.int p2), .val (.int p3), .val (.int p4), .val (.ref b8), .val (.int (Int32.ofNat f)), .val (.int (Int32.ofNat t)), .val (.int got), .val (.int (Int32.ofNat (t - f))), .unset, .unset] [(.int (9 : Int32)), (.int (Int32.ofNat (t - f)))])) _
        refine XS.icmpYes X70.here hx rfl (pc0 := 203) (pc' := 212) rfl (hb hby at_203) rfl (flt hc203).2.2.2 (by decide) (by decide) ?_
        exact kt
      by_cases hq : ((1 : Int32) < (Int32.ofNat (t - f))) ∧ (G f) = (48 : Int32)
      · skip
        refine own_go (S' := T70.setTop (mkF m 222 #[.val (.long q0), .second, .val (.int p1), .val (.int p2), .val (.int p3), .val (.int p4), .val (.ref b8), .val (.int (Int32.ofNat f)), .val (.int (Int32.ofNat t)), .val (.int got), .val (.int (Int32.ofNat (t - f))), .unset, .unset] [(.int (Int32.ofNat f)), (.ref b8)])) (fun target kt => ?_) ?_
        · skip
          show Steps p.tables e below (T70.setTop (mkF m 212 #[.val (.long q0), .second, .val (.int p1), .val (.int p2), .val (.int p3), .val (.int p4), .val (.ref b8), .val (.int (Int32.ofNat f)), .val (.int (Int32.ofNat t)), .val (.int got), .val (.int (Int32.ofNat (t - f))), .unset, .unset] [])) _
          refine XS.iload X70.here hx rfl (hb hby at_212) rfl ?_
          show Steps p.tables e below (T70.setTop (mkF m 214 #[.val (.long q0), .second, .val (.int p1), .val (.int p2), .val (.int p3), .val (.int p4), .val (.ref b8), .val (.int (Int32.ofNat f)), .val (.int (Int32.ofNat t)), .val (.int got), .val (.int (Int32.ofNat (t - f))), .unset, .unset] [(.int (Int32.ofNat (t - f)))])) _
          refine XS.iconst X70.here hx rfl (hb hby at_214) ?_
          show Steps p.tables e below (T70.setTop (mkF m 215 #[.val (.long q0), .second, .val (.int p1), .val (.int p2), .val (.int p3), .val (.int p4), .val (.ref b8), .val (.int (Int32.ofNat f)), .val (.int (Int32.ofNat t)), .val (.int got), .val (.int (Int32.ofNat (t - f))), .unset, .unset] [(.int (1 : Int32)), (.int (Int32.ofNat (t - f)))])) _
          refine XS.icmpNo X70.here hx rfl (hb hby at_215) rfl (tlt (hq.1 : (1 : Int32) < (Int32.ofNat (t - f)))).2.2.2 ?_
          show Steps p.tables e below (T70.setTop (mkF m 218 #[.val (.long q0), .second, .val (.int p1), .val (.int p2), .val (.int p3), .val (.int p4), .val (.ref b8), .val (.int (Int32.ofNat f)), .val (.int (Int32.ofNat t)), .val (.int got), .val (.int (Int32.ofNat (t - f))), .unset, .unset] [])) _
          refine XS.aload X70.here hx rfl (hb hby at_218) rfl rfl ?_
          show Steps p.tables e below (T70.setTop (mkF m 220 #[.val (.long q0), .second, .val (.int p1), .val (.int p2), .val (.int p3), .val (.int p4), .val (.ref b8), .val (.int (Int32.ofNat f)), .val (.int (Int32.ofNat t)), .val (.int got), .val (.int (Int32.ofNat (t - f))), .unset, .unset] [(.ref b8)])) _
          refine XS.iload X70.here hx rfl (hb hby at_220) rfl ?_
          exact kt
        have hf12' := own_f12 hft ht hq.1
        obtain ⟨c71, Ar71, S71, M71, H71⟩ := id f68
        have hj71 : ¬ (Int32.ofNat f) < 0 ∧ ((Int32.ofNat f)).toNatClampNeg < 12 := (own_inb hf12')
        have st71 : ∀ target, Steps p.tables e below (T70.setTop (mkF m 223 #[.val (.long q0), .second, .val (.int p1), .val (.int p2), .val (.int p3), .val (.int p4), .val (.ref b8), .val (.int (Int32.ofNat f)), .val (.int (Int32.ofNat t)), .val (.int got), .val (.int (Int32.ofNat (t - f))), .unset, .unset] [(.int (G ((Int32.ofNat f)).toNatClampNeg))])) target → Steps p.tables e below (T70.setTop (mkF m 222 #[.val (.long q0), .second, .val (.int p1), .val (.int p2), .val (.int p3), .val (.int p4), .val (.ref b8), .val (.int (Int32.ofNat f)), .val (.int (Int32.ofNat t)), .val (.int got), .val (.int (Int32.ofNat (t - f))), .unset, .unset] [(.int (Int32.ofNat f)), (.ref b8)])) target := fun target kt => X70.baloadBytes hx (j := (Int32.ofNat f)) (v := (.int (G ((Int32.ofNat f)).toNatClampNeg))) (by rw [e70]; exact Ar71.1) (State.isArrayOf_alike hZ.alike Ar71.2.1) Ar71.2.2 (own_in S71 hj71) (H71 _ hj71.2) (g := (mkF m 222 #[.val (.long q0), .second, .val (.int p1), .val (.int p2), .val (.int p3), .val (.int p4), .val (.ref b8), .val (.int (Int32.ofNat f)), .val (.int (Int32.ofNat t)), .val (.int got), .val (.int (Int32.ofNat (t - f))), .unset, .unset] [(.int (Int32.ofNat f)), (.ref b8)])) rfl rfl (hb hby at_222) _ kt
        refine own_go (S' := T70.setTop (mkF m 223 #[.val (.long q0), .second, .val (.int p1), .val (.int p2), .val (.int p3), .val (.int p4), .val (.ref b8), .val (.int (Int32.ofNat f)), .val (.int (Int32.ofNat t)), .val (.int got), .val (.int (Int32.ofNat (t - f))), .unset, .unset] [(.int (G ((Int32.ofNat f)).toNatClampNeg))])) st71 ?_
        rw [show (G ((Int32.ofNat f)).toNatClampNeg) = (G f) from congrArg G (own_clamp (by omega))]
        refine own_go (S' := T70.setTop (mkF m 535 #[.val (.long q0), .second, .val (.int p1), .val (.int p2), .val (.int p3), .val (.int p4), .val (.ref b8), .val (.int (Int32.ofNat f)), .val (.int (Int32.ofNat t)), .val (.int got), .val (.int (Int32.ofNat (t - f))), .val (.int (-1 : Int32)), .unset] [(.int (1 : Int32))])) (fun target kt => ?_) ?_
        · skip
          show Steps p.tables e below (T70.setTop (mkF m 223 #[.val (.long q0), .second, .val (.int p1), .val (.int p2), .val (.int p3), .val (.int p4), .val (.ref b8), .val (.int (Int32.ofNat f)), .val (.int (Int32.ofNat t)), .val (.int got), .val (.int (Int32.ofNat (t - f))), .unset, .unset] [(.int (G f))])) _
          refine XS.bipush X70.here hx rfl (hb hby at_223) ?_
          show Steps p.tables e below (T70.setTop (mkF m 225 #[.val (.long q0), .second, .val (.int p1), .val (.int p2), .val (.int p3), .val (.int p4), .val (.ref b8), .val (.int (Int32.ofNat f)), .val (.int (Int32.ofNat t)), .val (.int got), .val (.int (Int32.ofNat (t - f))), .unset, .unset] [(.int (48 : Int32)), (.int (G f))])) _
          refine XS.icmpNo X70.here hx rfl (hb hby at_225) rfl (teq (hq.2 : (G f) = (48 : Int32))).2 ?_
          show Steps p.tables e below (T70.setTop (mkF m 228 #[.val (.long q0), .second, .val (.int p1), .val (.int p2), .val (.int p3), .val (.int p4), .val (.ref b8), .val (.int (Int32.ofNat f)), .val (.int (Int32.ofNat t)), .val (.int got), .val (.int (Int32.ofNat (t - f))), .unset, .unset] [])) _
          refine XS.iconst X70.here hx rfl (hb hby at_228) ?_
          show Steps p.tables e below (T70.setTop (mkF m 229 #[.val (.long q0), .second, .val (.int p1), .val (.int p2), .val (.int p3), .val (.int p4), .val (.ref b8), .val (.int (Int32.ofNat f)), .val (.int (Int32.ofNat t)), .val (.int got), .val (.int (Int32.ofNat (t - f))), .unset, .unset] [(.int (-1 : Int32))])) _
          refine XS.istore X70.here hx rfl (hb hby at_229) rfl (l' := #[.val (.long q0), .second, .val (.int p1), .val (.int p2), .val (.int p3), .val (.int p4), .val (.ref b8), .val (.int (Int32.ofNat f)), .val (.int (Int32.ofNat t)), .val (.int got), .val (.int (Int32.ofNat (t - f))), .val (.int (-1 : Int32)), .unset]) rfl ?_
          show Steps p.tables e below (T70.setTop (mkF m 231 #[.val (.long q0), .second, .val (.int p1), .val (.int p2), .val (.int p3), .val (.int p4), .val (.ref b8), .val (.int (Int32.ofNat f)), .val (.int (Int32.ofNat t)), .val (.int got), .val (.int (Int32.ofNat (t - f))), .val (.int (-1 : Int32)), .unset] [])) _
          refine XS.goto X70.here hx rfl (pc0 := 231) (pc' := 523) rfl (hb hby at_231) (by decide) (by decide) ?_
          show Steps p.tables e below (T70.setTop (mkF m 523 #[.val (.long q0), .second, .val (.int p1), .val (.int p2), .val (.int p3), .val (.int p4), .val (.ref b8), .val (.int (Int32.ofNat f)), .val (.int (Int32.ofNat t)), .val (.int got), .val (.int (Int32.ofNat (t - f))), .val (.int (-1 : Int32)), .unset] [])) _
          refine XS.iload X70.here hx rfl (hb hby at_523) rfl ?_
          show Steps p.tables e below (T70.setTop (mkF m 525 #[.val (.long q0), .second, .val (.int p1), .val (.int p2), .val (.int p3), .val (.int p4), .val (.ref b8), .val (.int (Int32.ofNat f)), .val (.int (Int32.ofNat t)), .val (.int got), .val (.int (Int32.ofNat (t - f))), .val (.int (-1 : Int32)), .unset] [(.int got)])) _
          refine XS.iload X70.here hx rfl (hb hby at_525) rfl ?_
          show Steps p.tables e below (T70.setTop (mkF m 527 #[.val (.long q0), .second, .val (.int p1), .val (.int p2), .val (.int p3), .val (.int p4), .val (.ref b8), .val (.int (Int32.ofNat f)), .val (.int (Int32.ofNat t)), .val (.int got), .val (.int (Int32.ofNat (t - f))), .val (.int (-1 : Int32)), .unset] [(.int (-1 : Int32)), (.int got)])) _
          refine XS.icmpNo X70.here hx rfl (hb hby at_527) rfl (teq (own_fC h_got hc196 hc203 hq.1 hq.2 : got = (-1 : Int32))).2 ?_
          show Steps p.tables e below (T70.setTop (mkF m 530 #[.val (.long q0), .second, .val (.int p1), .val (.int p2), .val (.int p3), .val (.int p4), .val (.ref b8), .val (.int (Int32.ofNat f)), .val (.int (Int32.ofNat t)), .val (.int got), .val (.int (Int32.ofNat (t - f))), .val (.int (-1 : Int32)), .unset] [])) _
          refine XS.iconst X70.here hx rfl (hb hby at_530) ?_
          show Steps p.tables e below (T70.setTop (mkF m 531 #[.val (.long q0), .second, .val (.int p1), .val (.int p2), .val (.int p3), .val (.int p4), .val (.ref b8), .val (.int (Int32.ofNat f)), .val (.int (Int32.ofNat t)), .val (.int got), .val (.int (Int32.ofNat (t - f))), .val (.int (-1 : Int32)), .unset] [(.int (1 : Int32))])) _
          refine XS.goto X70.here hx rfl (pc0 := 531) (pc' := 535) rfl (hb hby at_531) (by decide) (by decide) ?_
          exact kt
        obtain ⟨fs, hr, hrun, hended, hW, hsame⟩ := X70.leave (v := some (.int (1 : Int32))) (fun h => by rw [Bd.returns] at h; cases h)
        refine ⟨_, _, ?_, hrun, hended, _, _, rfl, ?_, ⟨_, rfl⟩, hW, hsame.mono (by decide) (by decide)⟩
        · exact retN X70 hx (t := .boolean) Bd.returns (by simp) (hb hby at_535) hr
        · show Q0 Z q0 p1 p2 p3 p4 h0 n0 _ T70.heap _
          rw [e70]
          exact ⟨rfl, N70⟩
      · skip
        refine own_go (S' := T70.setTop (mkF m 215 #[.val (.long q0), .second, .val (.int p1), .val (.int p2), .val (.int p3), .val (.int p4), .val (.ref b8), .val (.int (Int32.ofNat f)), .val (.int (Int32.ofNat t)), .val (.int got), .val (.int (Int32.ofNat (t - f))), .unset, .unset] [(.int (1 : Int32)), (.int (Int32.ofNat (t - f)))])) (fun target kt => ?_) ?_
        · skip
          show Steps p.tables e below (T70.setTop (mkF m 212 #[.val (.long q0), .second, .val (.int p1), .val (.int p2), .val (.int p3), .val (.int p4), .val (.ref b8), .val (.int (Int32.ofNat f)), .val (.int (Int32.ofNat t)), .val (.int got), .val (.int (Int32.ofNat (t - f))), .unset, .unset] [])) _
          refine XS.iload X70.here hx rfl (hb hby at_212) rfl ?_
          show Steps p.tables e below (T70.setTop (mkF m 214 #[.val (.long q0), .second, .val (.int p1), .val (.int p2), .val (.int p3), .val (.int p4), .val (.ref b8), .val (.int (Int32.ofNat f)), .val (.int (Int32.ofNat t)), .val (.int got), .val (.int (Int32.ofNat (t - f))), .unset, .unset] [(.int (Int32.ofNat (t - f)))])) _
          refine XS.iconst X70.here hx rfl (hb hby at_214) ?_
          exact kt
        obtain ⟨⟨T72, L72⟩, ⟨X72, e72, N72⟩, st72⟩ : ∃ x : State × List Loc, (Stand p l e room_1 s m #[(.long q0), (.int p1), (.int p2), (.int p3), (.int p4)] below meth c x.1 x.2 1 12 ∧ x.1.heap = h67 ∧ Fr n0 x.2) ∧ ∀ target, Steps p.tables e below (x.1.setTop (mkF m 234 #[.val (.long q0), .second, .val (.int p1), .val (.int p2), .val (.int p3), .val (.int p4), .val (.ref b8), .val (.int (Int32.ofNat f)), .val (.int (Int32.ofNat t)), .val (.int got), .val (.int (Int32.ofNat (t - f))), .unset, .unset] [])) target → Steps p.tables e below (T70.setTop (mkF m 215 #[.val (.long q0), .second, .val (.int p1), .val (.int p2), .val (.int p3), .val (.int p4), .val (.ref b8), .val (.int (Int32.ofNat f)), .val (.int (Int32.ofNat t)), .val (.int got), .val (.int (Int32.ofNat (t - f))), .unset, .unset] [(.int (1 : Int32)), (.int (Int32.ofNat (t - f)))])) target := by
          by_cases hc215 : (1 : Int32) < (Int32.ofNat (t - f))
          · skip
            refine own_goR (S' := T70.setTop (mkF m 222 #[.val (.long q0), .second, .val (.int p1), .val (.int p2), .val (.int p3), .val (.int p4), .val (.ref b8), .val (.int (Int32.ofNat f)), .val (.int (Int32.ofNat t)), .val (.int got), .val (.int (Int32.ofNat (t - f))), .unset, .unset] [(.int (Int32.ofNat f)), (.ref b8)])) (fun target kt => ?_) ?_
            · skip
              show Steps p.tables e below (T70.setTop (mkF m 215 #[.val (.long q0), .second, .val (.int p1), .val (.int p2), .val (.int p3), .val (.int p4), .val (.ref b8), .val (.int (Int32.ofNat f)), .val (.int (Int32.ofNat t)), .val (.int got), .val (.int (Int32.ofNat (t - f))), .unset, .unset] [(.int (1 : Int32)), (.int (Int32.ofNat (t - f)))])) _
              refine XS.icmpNo X70.here hx rfl (hb hby at_215) rfl (tlt hc215).2.2.2 ?_
              show Steps p.tables e below (T70.setTop (mkF m 218 #[.val (.long q0), .second, .val (.int p1), .val (.int p2), .val (.int p3), .val (.int p4), .val (.ref b8), .val (.int (Int32.ofNat f)), .val (.int (Int32.ofNat t)), .val (.int got), .val (.int (Int32.ofNat (t - f))), .unset, .unset] [])) _
              refine XS.aload X70.here hx rfl (hb hby at_218) rfl rfl ?_
              show Steps p.tables e below (T70.setTop (mkF m 220 #[.val (.long q0), .second, .val (.int p1), .val (.int p2), .val (.int p3), .val (.int p4), .val (.ref b8), .val (.int (Int32.ofNat f)), .val (.int (Int32.ofNat t)), .val (.int got), .val (.int (Int32.ofNat (t - f))), .unset, .unset] [(.ref b8)])) _
              refine XS.iload X70.here hx rfl (hb hby at_220) rfl ?_
              exact kt
            have hf12' := own_f12 hft ht hc215
            obtain ⟨c73, Ar73, S73, M73, H73⟩ := id f68
            have hj73 : ¬ (Int32.ofNat f) < 0 ∧ ((Int32.ofNat f)).toNatClampNeg < 12 := (own_inb hf12')
            have st73 : ∀ target, Steps p.tables e below (T70.setTop (mkF m 223 #[.val (.long q0), .second, .val (.int p1), .val (.int p2), .val (.int p3), .val (.int p4), .val (.ref b8), .val (.int (Int32.ofNat f)), .val (.int (Int32.ofNat t)), .val (.int got), .val (.int (Int32.ofNat (t - f))), .unset, .unset] [(.int (G ((Int32.ofNat f)).toNatClampNeg))])) target → Steps p.tables e below (T70.setTop (mkF m 222 #[.val (.long q0), .second, .val (.int p1), .val (.int p2), .val (.int p3), .val (.int p4), .val (.ref b8), .val (.int (Int32.ofNat f)), .val (.int (Int32.ofNat t)), .val (.int got), .val (.int (Int32.ofNat (t - f))), .unset, .unset] [(.int (Int32.ofNat f)), (.ref b8)])) target := fun target kt => X70.baloadBytes hx (j := (Int32.ofNat f)) (v := (.int (G ((Int32.ofNat f)).toNatClampNeg))) (by rw [e70]; exact Ar73.1) (State.isArrayOf_alike hZ.alike Ar73.2.1) Ar73.2.2 (own_in S73 hj73) (H73 _ hj73.2) (g := (mkF m 222 #[.val (.long q0), .second, .val (.int p1), .val (.int p2), .val (.int p3), .val (.int p4), .val (.ref b8), .val (.int (Int32.ofNat f)), .val (.int (Int32.ofNat t)), .val (.int got), .val (.int (Int32.ofNat (t - f))), .unset, .unset] [(.int (Int32.ofNat f)), (.ref b8)])) rfl rfl (hb hby at_222) _ kt
            refine own_goR (S' := T70.setTop (mkF m 223 #[.val (.long q0), .second, .val (.int p1), .val (.int p2), .val (.int p3), .val (.int p4), .val (.ref b8), .val (.int (Int32.ofNat f)), .val (.int (Int32.ofNat t)), .val (.int got), .val (.int (Int32.ofNat (t - f))), .unset, .unset] [(.int (G ((Int32.ofNat f)).toNatClampNeg))])) st73 ?_
            rw [show (G ((Int32.ofNat f)).toNatClampNeg) = (G f) from congrArg G (own_clamp (by omega))]
            refine own_goR (S' := T70.setTop (mkF m 225 #[.val (.long q0), .second, .val (.int p1), .val (.int p2), .val (.int p3), .val (.int p4), .val (.ref b8), .val (.int (Int32.ofNat f)), .val (.int (Int32.ofNat t)), .val (.int got), .val (.int (Int32.ofNat (t - f))), .unset, .unset] [(.int (48 : Int32)), (.int (G f))])) (fun target kt => ?_) ?_
            · skip
              show Steps p.tables e below (T70.setTop (mkF m 223 #[.val (.long q0), .second, .val (.int p1), .val (.int p2), .val (.int p3), .val (.int p4), .val (.ref b8), .val (.int (Int32.ofNat f)), .val (.int (Int32.ofNat t)), .val (.int got), .val (.int (Int32.ofNat (t - f))), .unset, .unset] [(.int (G f))])) _
              refine XS.bipush X70.here hx rfl (hb hby at_223) ?_
              exact kt
            by_cases hc225 : (G f) = (48 : Int32)
            · skip
              exact absurd ⟨hc215, hc225⟩ hq
            · skip
              refine own_goR (S' := T70.setTop (mkF m 234 #[.val (.long q0), .second, .val (.int p1), .val (.int p2), .val (.int p3), .val (.int p4), .val (.ref b8), .val (.int (Int32.ofNat f)), .val (.int (Int32.ofNat t)), .val (.int got), .val (.int (Int32.ofNat (t - f))), .unset, .unset] [])) (fun target kt => ?_) ?_
              · skip
                show Steps p.tables e below (T70.setTop (mkF m 225 #[.val (.long q0), .second, .val (.int p1), .val (.int p2), .val (.int p3), .val (.int p4), .val (.ref b8), .val (.int (Int32.ofNat f)), .val (.int (Int32.ofNat t)), .val (.int got), .val (.int (Int32.ofNat (t - f))), .unset, .unset] [(.int (48 : Int32)), (.int (G f))])) _
                refine XS.icmpYes X70.here hx rfl (pc0 := 225) (pc' := 234) rfl (hb hby at_225) rfl (feq hc225).2 (by decide) (by decide) ?_
                exact kt
              exact ⟨(T70, _), ⟨X70, e70, N70⟩, fun _ k => k⟩
          · skip
            refine own_goR (S' := T70.setTop (mkF m 234 #[.val (.long q0), .second, .val (.int p1), .val (.int p2), .val (.int p3), .val (.int p4), .val (.ref b8), .val (.int (Int32.ofNat f)), .val (.int (Int32.ofNat t)), .val (.int got), .val (.int (Int32.ofNat (t - f))), .unset, .unset] [])) (fun target kt => ?_) ?_
            · skip
              show Steps p.tables e below (T70.setTop (mkF m 215 #[.val (.long q0), .second, .val (.int p1), .val (.int p2), .val (.int p3), .val (.int p4), .val (.ref b8), .val (.int (Int32.ofNat f)), .val (.int (Int32.ofNat t)), .val (.int got), .val (.int (Int32.ofNat (t - f))), .unset, .unset] [(.int (1 : Int32)), (.int (Int32.ofNat (t - f)))])) _
              refine XS.icmpYes X70.here hx rfl (pc0 := 215) (pc' := 234) rfl (hb hby at_215) rfl (flt hc215).2.2.2 (by decide) (by decide) ?_
              exact kt
            exact ⟨(T70, _), ⟨X70, e70, N70⟩, fun _ k => k⟩
        dsimp only at X72 e72 N72  st72
        refine own_go (S' := T72.setTop (mkF m 234 #[.val (.long q0), .second, .val (.int p1), .val (.int p2), .val (.int p3), .val (.int p4), .val (.ref b8), .val (.int (Int32.ofNat f)), .val (.int (Int32.ofNat t)), .val (.int got), .val (.int (Int32.ofNat (t - f))), .unset, .unset] [])) st72 ?_
        refine own_go (S' := T72.setTop (mkF m 241 #[.val (.long q0), .second, .val (.int p1), .val (.int p2), .val (.int p3), .val (.int p4), .val (.ref b8), .val (.int (Int32.ofNat f)), .val (.int (Int32.ofNat t)), .val (.int got), .val (.int (Int32.ofNat (t - f))), .unset, .unset] [(.int (Int32.ofNat t)), (.int (Int32.ofNat f)), (.int (0 : Int32)), (.ref b8)])) (fun target kt => ?_) ?_
        · skip
          show Steps p.tables e below (T72.setTop (mkF m 234 #[.val (.long q0), .second, .val (.int p1), .val (.int p2), .val (.int p3), .val (.int p4), .val (.ref b8), .val (.int (Int32.ofNat f)), .val (.int (Int32.ofNat t)), .val (.int got), .val (.int (Int32.ofNat (t - f))), .unset, .unset] [])) _
          refine XS.aload X72.here hx rfl (hb hby at_234) rfl rfl ?_
          show Steps p.tables e below (T72.setTop (mkF m 236 #[.val (.long q0), .second, .val (.int p1), .val (.int p2), .val (.int p3), .val (.int p4), .val (.ref b8), .val (.int (Int32.ofNat f)), .val (.int (Int32.ofNat t)), .val (.int got), .val (.int (Int32.ofNat (t - f))), .unset, .unset] [(.ref b8)])) _
          refine XS.iconst X72.here hx rfl (hb hby at_236) ?_
          show Steps p.tables e below (T72.setTop (mkF m 237 #[.val (.long q0), .second, .val (.int p1), .val (.int p2), .val (.int p3), .val (.int p4), .val (.ref b8), .val (.int (Int32.ofNat f)), .val (.int (Int32.ofNat t)), .val (.int got), .val (.int (Int32.ofNat (t - f))), .unset, .unset] [(.int (0 : Int32)), (.ref b8)])) _
          refine XS.iload X72.here hx rfl (hb hby at_237) rfl ?_
          show Steps p.tables e below (T72.setTop (mkF m 239 #[.val (.long q0), .second, .val (.int p1), .val (.int p2), .val (.int p3), .val (.int p4), .val (.ref b8), .val (.int (Int32.ofNat f)), .val (.int (Int32.ofNat t)), .val (.int got), .val (.int (Int32.ofNat (t - f))), .unset, .unset] [(.int (Int32.ofNat f)), (.int (0 : Int32)), (.ref b8)])) _
          refine XS.iload X72.here hx rfl (hb hby at_239) rfl ?_
          exact kt
        obtain ⟨_, _, ⟨T74, L74, k74, n74⟩, -, X74, ⟨Lc74, hQ74, l74, y74, z74⟩, st74⟩ := Jvm.LawKit.callS X72 hx (y := (⟨"com/example/long_walk/longwalk/DecimalNameIndexValuePinLaw", "bad", "([BIII)I"⟩ : MethodName)) hown (mvT hZ (hw _ (List.mem_of_getElem? (i := 10) rfl))) (mvT hZ (hw _ (List.mem_of_getElem? (i := 11) rfl))) (mvT hZ (hw _ (List.mem_of_getElem? (i := 3) rfl))) (mvT hZ (hw _ (List.mem_of_getElem? (i := 12) rfl))) (by decide) (backOf (W := 0) (rm3 l Z aZ hw [] b8 (0 : Int32) (Int32.ofNat f) (Int32.ofNat t) G h67 n0 Z67 f68 (⟨by decide, by decide⟩ : ¬ (0 : Int32) < 0 ∧ ((0 : Int32)).toNatClampNeg < 12)) hZ (hw _ (List.mem_of_getElem? (i := 12) rfl)) (hw _ (List.mem_of_getElem? (i := 3) rfl)) (by decide) (by decide)) (g := (mkF m 241 #[.val (.long q0), .second, .val (.int p1), .val (.int p2), .val (.int p3), .val (.int p4), .val (.ref b8), .val (.int (Int32.ofNat f)), .val (.int (Int32.ofNat t)), .val (.int got), .val (.int (Int32.ofNat (t - f))), .unset, .unset] [(.int (Int32.ofNat t)), (.int (Int32.ofNat f)), (.int (0 : Int32)), (.ref b8)])) rfl (by rw [hml]; rfl) (argsL := [(.ref b8), (.int (0 : Int32)), (.int (Int32.ofNat f)), (.int (Int32.ofNat t))]) (rest := []) (lenOf own_pd4 rfl) rfl (by show 2 * 0 + _ ≤ _; exact Nat.le_of_eq rfl) (hb hby at_241) (fun _ _ => ⟨rfl, e72, (by decide : 1 + 0 ≤ _), (by decide : 12 + 0 ≤ _)⟩)
        dsimp only [Pt.U, Pt.locs, Pt.cells, Pt.slots] at X74 l74 y74 z74 st74 hQ74
        obtain rfl : k74 = 1 := y74
        obtain rfl : n74 = 12 := z74
        obtain ⟨rfl, N74q, e74⟩ := hQ74
        have N74 : Fr n0 L74 := by rw [l74]; exact Fr.app N72 N74q
        clear l74
        refine own_go (S' := T74.setTop (mkF m 244 #[.val (.long q0), .second, .val (.int p1), .val (.int p2), .val (.int p3), .val (.int p4), .val (.ref b8), .val (.int (Int32.ofNat f)), .val (.int (Int32.ofNat t)), .val (.int got), .val (.int (Int32.ofNat (t - f))), .unset, .unset] [(.int (own_bad (0 : Int32) (Int32.ofNat f) (Int32.ofNat t) G))])) st74 ?_
        refine own_go (S' := T74.setTop (mkF m 251 #[.val (.long q0), .second, .val (.int p1), .val (.int p2), .val (.int p3), .val (.int p4), .val (.ref b8), .val (.int (Int32.ofNat f)), .val (.int (Int32.ofNat t)), .val (.int got), .val (.int (Int32.ofNat (t - f))), .unset, .unset] [(.int (Int32.ofNat t)), (.int (Int32.ofNat f)), (.int (1 : Int32)), (.ref b8), (.int (own_bad (0 : Int32) (Int32.ofNat f) (Int32.ofNat t) G))])) (fun target kt => ?_) ?_
        · skip
          show Steps p.tables e below (T74.setTop (mkF m 244 #[.val (.long q0), .second, .val (.int p1), .val (.int p2), .val (.int p3), .val (.int p4), .val (.ref b8), .val (.int (Int32.ofNat f)), .val (.int (Int32.ofNat t)), .val (.int got), .val (.int (Int32.ofNat (t - f))), .unset, .unset] [(.int (own_bad (0 : Int32) (Int32.ofNat f) (Int32.ofNat t) G))])) _
          refine XS.aload X74.here hx rfl (hb hby at_244) rfl rfl ?_
          show Steps p.tables e below (T74.setTop (mkF m 246 #[.val (.long q0), .second, .val (.int p1), .val (.int p2), .val (.int p3), .val (.int p4), .val (.ref b8), .val (.int (Int32.ofNat f)), .val (.int (Int32.ofNat t)), .val (.int got), .val (.int (Int32.ofNat (t - f))), .unset, .unset] [(.ref b8), (.int (own_bad (0 : Int32) (Int32.ofNat f) (Int32.ofNat t) G))])) _
          refine XS.iconst X74.here hx rfl (hb hby at_246) ?_
          show Steps p.tables e below (T74.setTop (mkF m 247 #[.val (.long q0), .second, .val (.int p1), .val (.int p2), .val (.int p3), .val (.int p4), .val (.ref b8), .val (.int (Int32.ofNat f)), .val (.int (Int32.ofNat t)), .val (.int got), .val (.int (Int32.ofNat (t - f))), .unset, .unset] [(.int (1 : Int32)), (.ref b8), (.int (own_bad (0 : Int32) (Int32.ofNat f) (Int32.ofNat t) G))])) _
          refine XS.iload X74.here hx rfl (hb hby at_247) rfl ?_
          show Steps p.tables e below (T74.setTop (mkF m 249 #[.val (.long q0), .second, .val (.int p1), .val (.int p2), .val (.int p3), .val (.int p4), .val (.ref b8), .val (.int (Int32.ofNat f)), .val (.int (Int32.ofNat t)), .val (.int got), .val (.int (Int32.ofNat (t - f))), .unset, .unset] [(.int (Int32.ofNat f)), (.int (1 : Int32)), (.ref b8), (.int (own_bad (0 : Int32) (Int32.ofNat f) (Int32.ofNat t) G))])) _
          refine XS.iload X74.here hx rfl (hb hby at_249) rfl ?_
          exact kt
        obtain ⟨_, _, ⟨T75, L75, k75, n75⟩, -, X75, ⟨Lc75, hQ75, l75, y75, z75⟩, st75⟩ := Jvm.LawKit.callS X74 hx (y := (⟨"com/example/long_walk/longwalk/DecimalNameIndexValuePinLaw", "bad", "([BIII)I"⟩ : MethodName)) hown (mvT hZ (hw _ (List.mem_of_getElem? (i := 10) rfl))) (mvT hZ (hw _ (List.mem_of_getElem? (i := 11) rfl))) (mvT hZ (hw _ (List.mem_of_getElem? (i := 3) rfl))) (mvT hZ (hw _ (List.mem_of_getElem? (i := 12) rfl))) (by decide) (backOf (W := 1) (rm3 l Z aZ hw [] b8 (1 : Int32) (Int32.ofNat f) (Int32.ofNat t) G h67 n0 Z67 f68 (⟨by decide, by decide⟩ : ¬ (1 : Int32) < 0 ∧ ((1 : Int32)).toNatClampNeg < 12)) hZ (hw _ (List.mem_of_getElem? (i := 12) rfl)) (hw _ (List.mem_of_getElem? (i := 3) rfl)) (by decide) (by decide)) (g := (mkF m 251 #[.val (.long q0), .second, .val (.int p1), .val (.int p2), .val (.int p3), .val (.int p4), .val (.ref b8), .val (.int (Int32.ofNat f)), .val (.int (Int32.ofNat t)), .val (.int got), .val (.int (Int32.ofNat (t - f))), .unset, .unset] [(.int (Int32.ofNat t)), (.int (Int32.ofNat f)), (.int (1 : Int32)), (.ref b8), (.int (own_bad (0 : Int32) (Int32.ofNat f) (Int32.ofNat t) G))])) rfl (by rw [hml]; rfl) (argsL := [(.ref b8), (.int (1 : Int32)), (.int (Int32.ofNat f)), (.int (Int32.ofNat t))]) (rest := [(.int (own_bad (0 : Int32) (Int32.ofNat f) (Int32.ofNat t) G))]) (lenOf own_pd4 rfl) rfl (by show 2 * 0 + _ ≤ _; exact Nat.le_of_eq rfl) (hb hby at_251) (fun _ _ => ⟨rfl, e74, (by decide : 1 + 0 ≤ _), (by decide : 12 + 0 ≤ _)⟩)
        dsimp only [Pt.U, Pt.locs, Pt.cells, Pt.slots] at X75 l75 y75 z75 st75 hQ75
        obtain rfl : k75 = 1 := y75
        obtain rfl : n75 = 12 := z75
        obtain ⟨rfl, N75q, e75⟩ := hQ75
        have N75 : Fr n0 L75 := by rw [l75]; exact Fr.app N74 N75q
        clear l75
        refine own_go (S' := T75.setTop (mkF m 254 #[.val (.long q0), .second, .val (.int p1), .val (.int p2), .val (.int p3), .val (.int p4), .val (.ref b8), .val (.int (Int32.ofNat f)), .val (.int (Int32.ofNat t)), .val (.int got), .val (.int (Int32.ofNat (t - f))), .unset, .unset] [(.int (own_bad (1 : Int32) (Int32.ofNat f) (Int32.ofNat t) G)), (.int (own_bad (0 : Int32) (Int32.ofNat f) (Int32.ofNat t) G))])) st75 ?_
        obtain ⟨sb1, h_sb1⟩ : ∃ z : Int32, z = ((own_bad (0 : Int32) (Int32.ofNat f) (Int32.ofNat t) G) + (own_bad (1 : Int32) (Int32.ofNat f) (Int32.ofNat t) G)) := ⟨_, rfl⟩
        refine own_go (S' := T75.setTop (mkF m 255 #[.val (.long q0), .second, .val (.int p1), .val (.int p2), .val (.int p3), .val (.int p4), .val (.ref b8), .val (.int (Int32.ofNat f)), .val (.int (Int32.ofNat t)), .val (.int got), .val (.int (Int32.ofNat (t - f))), .unset, .unset] [(.int sb1)])) (fun target kt => ?_) ?_
        · subst h_sb1
          show Steps p.tables e below (T75.setTop (mkF m 254 #[.val (.long q0), .second, .val (.int p1), .val (.int p2), .val (.int p3), .val (.int p4), .val (.ref b8), .val (.int (Int32.ofNat f)), .val (.int (Int32.ofNat t)), .val (.int got), .val (.int (Int32.ofNat (t - f))), .unset, .unset] [(.int (own_bad (1 : Int32) (Int32.ofNat f) (Int32.ofNat t) G)), (.int (own_bad (0 : Int32) (Int32.ofNat f) (Int32.ofNat t) G))])) _
          refine XS.iadd X75.here hx rfl (hb hby at_254) rfl ?_
          exact kt
        refine own_go (S' := T75.setTop (mkF m 262 #[.val (.long q0), .second, .val (.int p1), .val (.int p2), .val (.int p3), .val (.int p4), .val (.ref b8), .val (.int (Int32.ofNat f)), .val (.int (Int32.ofNat t)), .val (.int got), .val (.int (Int32.ofNat (t - f))), .unset, .unset] [(.int (Int32.ofNat t)), (.int (Int32.ofNat f)), (.int (2 : Int32)), (.ref b8), (.int sb1)])) (fun target kt => ?_) ?_
        · skip
          show Steps p.tables e below (T75.setTop (mkF m 255 #[.val (.long q0), .second, .val (.int p1), .val (.int p2), .val (.int p3), .val (.int p4), .val (.ref b8), .val (.int (Int32.ofNat f)), .val (.int (Int32.ofNat t)), .val (.int got), .val (.int (Int32.ofNat (t - f))), .unset, .unset] [(.int sb1)])) _
          refine XS.aload X75.here hx rfl (hb hby at_255) rfl rfl ?_
          show Steps p.tables e below (T75.setTop (mkF m 257 #[.val (.long q0), .second, .val (.int p1), .val (.int p2), .val (.int p3), .val (.int p4), .val (.ref b8), .val (.int (Int32.ofNat f)), .val (.int (Int32.ofNat t)), .val (.int got), .val (.int (Int32.ofNat (t - f))), .unset, .unset] [(.ref b8), (.int sb1)])) _
          refine XS.iconst X75.here hx rfl (hb hby at_257) ?_
          show Steps p.tables e below (T75.setTop (mkF m 258 #[.val (.long q0), .second, .val (.int p1), .val (.int p2), .val (.int p3), .val (.int p4), .val (.ref b8), .val (.int (Int32.ofNat f)), .val (.int (Int32.ofNat t)), .val (.int got), .val (.int (Int32.ofNat (t - f))), .unset, .unset] [(.int (2 : Int32)), (.ref b8), (.int sb1)])) _
          refine XS.iload X75.here hx rfl (hb hby at_258) rfl ?_
          show Steps p.tables e below (T75.setTop (mkF m 260 #[.val (.long q0), .second, .val (.int p1), .val (.int p2), .val (.int p3), .val (.int p4), .val (.ref b8), .val (.int (Int32.ofNat f)), .val (.int (Int32.ofNat t)), .val (.int got), .val (.int (Int32.ofNat (t - f))), .unset, .unset] [(.int (Int32.ofNat f)), (.int (2 : Int32)), (.ref b8), (.int sb1)])) _
          refine XS.iload X75.here hx rfl (hb hby at_260) rfl ?_
          exact kt
        obtain ⟨_, _, ⟨T76, L76, k76, n76⟩, -, X76, ⟨Lc76, hQ76, l76, y76, z76⟩, st76⟩ := Jvm.LawKit.callS X75 hx (y := (⟨"com/example/long_walk/longwalk/DecimalNameIndexValuePinLaw", "bad", "([BIII)I"⟩ : MethodName)) hown (mvT hZ (hw _ (List.mem_of_getElem? (i := 10) rfl))) (mvT hZ (hw _ (List.mem_of_getElem? (i := 11) rfl))) (mvT hZ (hw _ (List.mem_of_getElem? (i := 3) rfl))) (mvT hZ (hw _ (List.mem_of_getElem? (i := 12) rfl))) (by decide) (backOf (W := 1) (rm3 l Z aZ hw [] b8 (2 : Int32) (Int32.ofNat f) (Int32.ofNat t) G h67 n0 Z67 f68 (⟨by decide, by decide⟩ : ¬ (2 : Int32) < 0 ∧ ((2 : Int32)).toNatClampNeg < 12)) hZ (hw _ (List.mem_of_getElem? (i := 12) rfl)) (hw _ (List.mem_of_getElem? (i := 3) rfl)) (by decide) (by decide)) (g := (mkF m 262 #[.val (.long q0), .second, .val (.int p1), .val (.int p2), .val (.int p3), .val (.int p4), .val (.ref b8), .val (.int (Int32.ofNat f)), .val (.int (Int32.ofNat t)), .val (.int got), .val (.int (Int32.ofNat (t - f))), .unset, .unset] [(.int (Int32.ofNat t)), (.int (Int32.ofNat f)), (.int (2 : Int32)), (.ref b8), (.int sb1)])) rfl (by rw [hml]; rfl) (argsL := [(.ref b8), (.int (2 : Int32)), (.int (Int32.ofNat f)), (.int (Int32.ofNat t))]) (rest := [(.int sb1)]) (lenOf own_pd4 rfl) rfl (by show 2 * 0 + _ ≤ _; exact Nat.le_of_eq rfl) (hb hby at_262) (fun _ _ => ⟨rfl, e75, (by decide : 1 + 0 ≤ _), (by decide : 12 + 0 ≤ _)⟩)
        dsimp only [Pt.U, Pt.locs, Pt.cells, Pt.slots] at X76 l76 y76 z76 st76 hQ76
        obtain rfl : k76 = 1 := y76
        obtain rfl : n76 = 12 := z76
        obtain ⟨rfl, N76q, e76⟩ := hQ76
        have N76 : Fr n0 L76 := by rw [l76]; exact Fr.app N75 N76q
        clear l76
        refine own_go (S' := T76.setTop (mkF m 265 #[.val (.long q0), .second, .val (.int p1), .val (.int p2), .val (.int p3), .val (.int p4), .val (.ref b8), .val (.int (Int32.ofNat f)), .val (.int (Int32.ofNat t)), .val (.int got), .val (.int (Int32.ofNat (t - f))), .unset, .unset] [(.int (own_bad (2 : Int32) (Int32.ofNat f) (Int32.ofNat t) G)), (.int sb1)])) st76 ?_
        obtain ⟨sb2, h_sb2⟩ : ∃ z : Int32, z = (sb1 + (own_bad (2 : Int32) (Int32.ofNat f) (Int32.ofNat t) G)) := ⟨_, rfl⟩
        refine own_go (S' := T76.setTop (mkF m 266 #[.val (.long q0), .second, .val (.int p1), .val (.int p2), .val (.int p3), .val (.int p4), .val (.ref b8), .val (.int (Int32.ofNat f)), .val (.int (Int32.ofNat t)), .val (.int got), .val (.int (Int32.ofNat (t - f))), .unset, .unset] [(.int sb2)])) (fun target kt => ?_) ?_
        · subst h_sb2
          show Steps p.tables e below (T76.setTop (mkF m 265 #[.val (.long q0), .second, .val (.int p1), .val (.int p2), .val (.int p3), .val (.int p4), .val (.ref b8), .val (.int (Int32.ofNat f)), .val (.int (Int32.ofNat t)), .val (.int got), .val (.int (Int32.ofNat (t - f))), .unset, .unset] [(.int (own_bad (2 : Int32) (Int32.ofNat f) (Int32.ofNat t) G)), (.int sb1)])) _
          refine XS.iadd X76.here hx rfl (hb hby at_265) rfl ?_
          exact kt
        refine own_go (S' := T76.setTop (mkF m 273 #[.val (.long q0), .second, .val (.int p1), .val (.int p2), .val (.int p3), .val (.int p4), .val (.ref b8), .val (.int (Int32.ofNat f)), .val (.int (Int32.ofNat t)), .val (.int got), .val (.int (Int32.ofNat (t - f))), .unset, .unset] [(.int (Int32.ofNat t)), (.int (Int32.ofNat f)), (.int (3 : Int32)), (.ref b8), (.int sb2)])) (fun target kt => ?_) ?_
        · skip
          show Steps p.tables e below (T76.setTop (mkF m 266 #[.val (.long q0), .second, .val (.int p1), .val (.int p2), .val (.int p3), .val (.int p4), .val (.ref b8), .val (.int (Int32.ofNat f)), .val (.int (Int32.ofNat t)), .val (.int got), .val (.int (Int32.ofNat (t - f))), .unset, .unset] [(.int sb2)])) _
          refine XS.aload X76.here hx rfl (hb hby at_266) rfl rfl ?_
          show Steps p.tables e below (T76.setTop (mkF m 268 #[.val (.long q0), .second, .val (.int p1), .val (.int p2), .val (.int p3), .val (.int p4), .val (.ref b8), .val (.int (Int32.ofNat f)), .val (.int (Int32.ofNat t)), .val (.int got), .val (.int (Int32.ofNat (t - f))), .unset, .unset] [(.ref b8), (.int sb2)])) _
          refine XS.iconst X76.here hx rfl (hb hby at_268) ?_
          show Steps p.tables e below (T76.setTop (mkF m 269 #[.val (.long q0), .second, .val (.int p1), .val (.int p2), .val (.int p3), .val (.int p4), .val (.ref b8), .val (.int (Int32.ofNat f)), .val (.int (Int32.ofNat t)), .val (.int got), .val (.int (Int32.ofNat (t - f))), .unset, .unset] [(.int (3 : Int32)), (.ref b8), (.int sb2)])) _
          refine XS.iload X76.here hx rfl (hb hby at_269) rfl ?_
          show Steps p.tables e below (T76.setTop (mkF m 271 #[.val (.long q0), .second, .val (.int p1), .val (.int p2), .val (.int p3), .val (.int p4), .val (.ref b8), .val (.int (Int32.ofNat f)), .val (.int (Int32.ofNat t)), .val (.int got), .val (.int (Int32.ofNat (t - f))), .unset, .unset] [(.int (Int32.ofNat f)), (.int (3 : Int32)), (.ref b8), (.int sb2)])) _
          refine XS.iload X76.here hx rfl (hb hby at_271) rfl ?_
          exact kt
        obtain ⟨_, _, ⟨T77, L77, k77, n77⟩, -, X77, ⟨Lc77, hQ77, l77, y77, z77⟩, st77⟩ := Jvm.LawKit.callS X76 hx (y := (⟨"com/example/long_walk/longwalk/DecimalNameIndexValuePinLaw", "bad", "([BIII)I"⟩ : MethodName)) hown (mvT hZ (hw _ (List.mem_of_getElem? (i := 10) rfl))) (mvT hZ (hw _ (List.mem_of_getElem? (i := 11) rfl))) (mvT hZ (hw _ (List.mem_of_getElem? (i := 3) rfl))) (mvT hZ (hw _ (List.mem_of_getElem? (i := 12) rfl))) (by decide) (backOf (W := 1) (rm3 l Z aZ hw [] b8 (3 : Int32) (Int32.ofNat f) (Int32.ofNat t) G h67 n0 Z67 f68 (⟨by decide, by decide⟩ : ¬ (3 : Int32) < 0 ∧ ((3 : Int32)).toNatClampNeg < 12)) hZ (hw _ (List.mem_of_getElem? (i := 12) rfl)) (hw _ (List.mem_of_getElem? (i := 3) rfl)) (by decide) (by decide)) (g := (mkF m 273 #[.val (.long q0), .second, .val (.int p1), .val (.int p2), .val (.int p3), .val (.int p4), .val (.ref b8), .val (.int (Int32.ofNat f)), .val (.int (Int32.ofNat t)), .val (.int got), .val (.int (Int32.ofNat (t - f))), .unset, .unset] [(.int (Int32.ofNat t)), (.int (Int32.ofNat f)), (.int (3 : Int32)), (.ref b8), (.int sb2)])) rfl (by rw [hml]; rfl) (argsL := [(.ref b8), (.int (3 : Int32)), (.int (Int32.ofNat f)), (.int (Int32.ofNat t))]) (rest := [(.int sb2)]) (lenOf own_pd4 rfl) rfl (by show 2 * 0 + _ ≤ _; exact Nat.le_of_eq rfl) (hb hby at_273) (fun _ _ => ⟨rfl, e76, (by decide : 1 + 0 ≤ _), (by decide : 12 + 0 ≤ _)⟩)
        dsimp only [Pt.U, Pt.locs, Pt.cells, Pt.slots] at X77 l77 y77 z77 st77 hQ77
        obtain rfl : k77 = 1 := y77
        obtain rfl : n77 = 12 := z77
        obtain ⟨rfl, N77q, e77⟩ := hQ77
        have N77 : Fr n0 L77 := by rw [l77]; exact Fr.app N76 N77q
        clear l77
        refine own_go (S' := T77.setTop (mkF m 276 #[.val (.long q0), .second, .val (.int p1), .val (.int p2), .val (.int p3), .val (.int p4), .val (.ref b8), .val (.int (Int32.ofNat f)), .val (.int (Int32.ofNat t)), .val (.int got), .val (.int (Int32.ofNat (t - f))), .unset, .unset] [(.int (own_bad (3 : Int32) (Int32.ofNat f) (Int32.ofNat t) G)), (.int sb2)])) st77 ?_
        obtain ⟨sb3, h_sb3⟩ : ∃ z : Int32, z = (sb2 + (own_bad (3 : Int32) (Int32.ofNat f) (Int32.ofNat t) G)) := ⟨_, rfl⟩
        refine own_go (S' := T77.setTop (mkF m 277 #[.val (.long q0), .second, .val (.int p1), .val (.int p2), .val (.int p3), .val (.int p4), .val (.ref b8), .val (.int (Int32.ofNat f)), .val (.int (Int32.ofNat t)), .val (.int got), .val (.int (Int32.ofNat (t - f))), .unset, .unset] [(.int sb3)])) (fun target kt => ?_) ?_
        · subst h_sb3
          show Steps p.tables e below (T77.setTop (mkF m 276 #[.val (.long q0), .second, .val (.int p1), .val (.int p2), .val (.int p3), .val (.int p4), .val (.ref b8), .val (.int (Int32.ofNat f)), .val (.int (Int32.ofNat t)), .val (.int got), .val (.int (Int32.ofNat (t - f))), .unset, .unset] [(.int (own_bad (3 : Int32) (Int32.ofNat f) (Int32.ofNat t) G)), (.int sb2)])) _
          refine XS.iadd X77.here hx rfl (hb hby at_276) rfl ?_
          exact kt
        refine own_go (S' := T77.setTop (mkF m 284 #[.val (.long q0), .second, .val (.int p1), .val (.int p2), .val (.int p3), .val (.int p4), .val (.ref b8), .val (.int (Int32.ofNat f)), .val (.int (Int32.ofNat t)), .val (.int got), .val (.int (Int32.ofNat (t - f))), .unset, .unset] [(.int (Int32.ofNat t)), (.int (Int32.ofNat f)), (.int (4 : Int32)), (.ref b8), (.int sb3)])) (fun target kt => ?_) ?_
        · skip
          show Steps p.tables e below (T77.setTop (mkF m 277 #[.val (.long q0), .second, .val (.int p1), .val (.int p2), .val (.int p3), .val (.int p4), .val (.ref b8), .val (.int (Int32.ofNat f)), .val (.int (Int32.ofNat t)), .val (.int got), .val (.int (Int32.ofNat (t - f))), .unset, .unset] [(.int sb3)])) _
          refine XS.aload X77.here hx rfl (hb hby at_277) rfl rfl ?_
          show Steps p.tables e below (T77.setTop (mkF m 279 #[.val (.long q0), .second, .val (.int p1), .val (.int p2), .val (.int p3), .val (.int p4), .val (.ref b8), .val (.int (Int32.ofNat f)), .val (.int (Int32.ofNat t)), .val (.int got), .val (.int (Int32.ofNat (t - f))), .unset, .unset] [(.ref b8), (.int sb3)])) _
          refine XS.iconst X77.here hx rfl (hb hby at_279) ?_
          show Steps p.tables e below (T77.setTop (mkF m 280 #[.val (.long q0), .second, .val (.int p1), .val (.int p2), .val (.int p3), .val (.int p4), .val (.ref b8), .val (.int (Int32.ofNat f)), .val (.int (Int32.ofNat t)), .val (.int got), .val (.int (Int32.ofNat (t - f))), .unset, .unset] [(.int (4 : Int32)), (.ref b8), (.int sb3)])) _
          refine XS.iload X77.here hx rfl (hb hby at_280) rfl ?_
          show Steps p.tables e below (T77.setTop (mkF m 282 #[.val (.long q0), .second, .val (.int p1), .val (.int p2), .val (.int p3), .val (.int p4), .val (.ref b8), .val (.int (Int32.ofNat f)), .val (.int (Int32.ofNat t)), .val (.int got), .val (.int (Int32.ofNat (t - f))), .unset, .unset] [(.int (Int32.ofNat f)), (.int (4 : Int32)), (.ref b8), (.int sb3)])) _
          refine XS.iload X77.here hx rfl (hb hby at_282) rfl ?_
          exact kt
        obtain ⟨_, _, ⟨T78, L78, k78, n78⟩, -, X78, ⟨Lc78, hQ78, l78, y78, z78⟩, st78⟩ := Jvm.LawKit.callS X77 hx (y := (⟨"com/example/long_walk/longwalk/DecimalNameIndexValuePinLaw", "bad", "([BIII)I"⟩ : MethodName)) hown (mvT hZ (hw _ (List.mem_of_getElem? (i := 10) rfl))) (mvT hZ (hw _ (List.mem_of_getElem? (i := 11) rfl))) (mvT hZ (hw _ (List.mem_of_getElem? (i := 3) rfl))) (mvT hZ (hw _ (List.mem_of_getElem? (i := 12) rfl))) (by decide) (backOf (W := 1) (rm3 l Z aZ hw [] b8 (4 : Int32) (Int32.ofNat f) (Int32.ofNat t) G h67 n0 Z67 f68 (⟨by decide, by decide⟩ : ¬ (4 : Int32) < 0 ∧ ((4 : Int32)).toNatClampNeg < 12)) hZ (hw _ (List.mem_of_getElem? (i := 12) rfl)) (hw _ (List.mem_of_getElem? (i := 3) rfl)) (by decide) (by decide)) (g := (mkF m 284 #[.val (.long q0), .second, .val (.int p1), .val (.int p2), .val (.int p3), .val (.int p4), .val (.ref b8), .val (.int (Int32.ofNat f)), .val (.int (Int32.ofNat t)), .val (.int got), .val (.int (Int32.ofNat (t - f))), .unset, .unset] [(.int (Int32.ofNat t)), (.int (Int32.ofNat f)), (.int (4 : Int32)), (.ref b8), (.int sb3)])) rfl (by rw [hml]; rfl) (argsL := [(.ref b8), (.int (4 : Int32)), (.int (Int32.ofNat f)), (.int (Int32.ofNat t))]) (rest := [(.int sb3)]) (lenOf own_pd4 rfl) rfl (by show 2 * 0 + _ ≤ _; exact Nat.le_of_eq rfl) (hb hby at_284) (fun _ _ => ⟨rfl, e77, (by decide : 1 + 0 ≤ _), (by decide : 12 + 0 ≤ _)⟩)
        dsimp only [Pt.U, Pt.locs, Pt.cells, Pt.slots] at X78 l78 y78 z78 st78 hQ78
        obtain rfl : k78 = 1 := y78
        obtain rfl : n78 = 12 := z78
        obtain ⟨rfl, N78q, e78⟩ := hQ78
        have N78 : Fr n0 L78 := by rw [l78]; exact Fr.app N77 N78q
        clear l78
        refine own_go (S' := T78.setTop (mkF m 287 #[.val (.long q0), .second, .val (.int p1), .val (.int p2), .val (.int p3), .val (.int p4), .val (.ref b8), .val (.int (Int32.ofNat f)), .val (.int (Int32.ofNat t)), .val (.int got), .val (.int (Int32.ofNat (t - f))), .unset, .unset] [(.int (own_bad (4 : Int32) (Int32.ofNat f) (Int32.ofNat t) G)), (.int sb3)])) st78 ?_
        obtain ⟨sb4, h_sb4⟩ : ∃ z : Int32, z = (sb3 + (own_bad (4 : Int32) (Int32.ofNat f) (Int32.ofNat t) G)) := ⟨_, rfl⟩
        refine own_go (S' := T78.setTop (mkF m 288 #[.val (.long q0), .second, .val (.int p1), .val (.int p2), .val (.int p3), .val (.int p4), .val (.ref b8), .val (.int (Int32.ofNat f)), .val (.int (Int32.ofNat t)), .val (.int got), .val (.int (Int32.ofNat (t - f))), .unset, .unset] [(.int sb4)])) (fun target kt => ?_) ?_
        · subst h_sb4
          show Steps p.tables e below (T78.setTop (mkF m 287 #[.val (.long q0), .second, .val (.int p1), .val (.int p2), .val (.int p3), .val (.int p4), .val (.ref b8), .val (.int (Int32.ofNat f)), .val (.int (Int32.ofNat t)), .val (.int got), .val (.int (Int32.ofNat (t - f))), .unset, .unset] [(.int (own_bad (4 : Int32) (Int32.ofNat f) (Int32.ofNat t) G)), (.int sb3)])) _
          refine XS.iadd X78.here hx rfl (hb hby at_287) rfl ?_
          exact kt
        refine own_go (S' := T78.setTop (mkF m 295 #[.val (.long q0), .second, .val (.int p1), .val (.int p2), .val (.int p3), .val (.int p4), .val (.ref b8), .val (.int (Int32.ofNat f)), .val (.int (Int32.ofNat t)), .val (.int got), .val (.int (Int32.ofNat (t - f))), .unset, .unset] [(.int (Int32.ofNat t)), (.int (Int32.ofNat f)), (.int (5 : Int32)), (.ref b8), (.int sb4)])) (fun target kt => ?_) ?_
        · skip
          show Steps p.tables e below (T78.setTop (mkF m 288 #[.val (.long q0), .second, .val (.int p1), .val (.int p2), .val (.int p3), .val (.int p4), .val (.ref b8), .val (.int (Int32.ofNat f)), .val (.int (Int32.ofNat t)), .val (.int got), .val (.int (Int32.ofNat (t - f))), .unset, .unset] [(.int sb4)])) _
          refine XS.aload X78.here hx rfl (hb hby at_288) rfl rfl ?_
          show Steps p.tables e below (T78.setTop (mkF m 290 #[.val (.long q0), .second, .val (.int p1), .val (.int p2), .val (.int p3), .val (.int p4), .val (.ref b8), .val (.int (Int32.ofNat f)), .val (.int (Int32.ofNat t)), .val (.int got), .val (.int (Int32.ofNat (t - f))), .unset, .unset] [(.ref b8), (.int sb4)])) _
          refine XS.iconst X78.here hx rfl (hb hby at_290) ?_
          show Steps p.tables e below (T78.setTop (mkF m 291 #[.val (.long q0), .second, .val (.int p1), .val (.int p2), .val (.int p3), .val (.int p4), .val (.ref b8), .val (.int (Int32.ofNat f)), .val (.int (Int32.ofNat t)), .val (.int got), .val (.int (Int32.ofNat (t - f))), .unset, .unset] [(.int (5 : Int32)), (.ref b8), (.int sb4)])) _
          refine XS.iload X78.here hx rfl (hb hby at_291) rfl ?_
          show Steps p.tables e below (T78.setTop (mkF m 293 #[.val (.long q0), .second, .val (.int p1), .val (.int p2), .val (.int p3), .val (.int p4), .val (.ref b8), .val (.int (Int32.ofNat f)), .val (.int (Int32.ofNat t)), .val (.int got), .val (.int (Int32.ofNat (t - f))), .unset, .unset] [(.int (Int32.ofNat f)), (.int (5 : Int32)), (.ref b8), (.int sb4)])) _
          refine XS.iload X78.here hx rfl (hb hby at_293) rfl ?_
          exact kt
        obtain ⟨_, _, ⟨T79, L79, k79, n79⟩, -, X79, ⟨Lc79, hQ79, l79, y79, z79⟩, st79⟩ := Jvm.LawKit.callS X78 hx (y := (⟨"com/example/long_walk/longwalk/DecimalNameIndexValuePinLaw", "bad", "([BIII)I"⟩ : MethodName)) hown (mvT hZ (hw _ (List.mem_of_getElem? (i := 10) rfl))) (mvT hZ (hw _ (List.mem_of_getElem? (i := 11) rfl))) (mvT hZ (hw _ (List.mem_of_getElem? (i := 3) rfl))) (mvT hZ (hw _ (List.mem_of_getElem? (i := 12) rfl))) (by decide) (backOf (W := 1) (rm3 l Z aZ hw [] b8 (5 : Int32) (Int32.ofNat f) (Int32.ofNat t) G h67 n0 Z67 f68 (⟨by decide, by decide⟩ : ¬ (5 : Int32) < 0 ∧ ((5 : Int32)).toNatClampNeg < 12)) hZ (hw _ (List.mem_of_getElem? (i := 12) rfl)) (hw _ (List.mem_of_getElem? (i := 3) rfl)) (by decide) (by decide)) (g := (mkF m 295 #[.val (.long q0), .second, .val (.int p1), .val (.int p2), .val (.int p3), .val (.int p4), .val (.ref b8), .val (.int (Int32.ofNat f)), .val (.int (Int32.ofNat t)), .val (.int got), .val (.int (Int32.ofNat (t - f))), .unset, .unset] [(.int (Int32.ofNat t)), (.int (Int32.ofNat f)), (.int (5 : Int32)), (.ref b8), (.int sb4)])) rfl (by rw [hml]; rfl) (argsL := [(.ref b8), (.int (5 : Int32)), (.int (Int32.ofNat f)), (.int (Int32.ofNat t))]) (rest := [(.int sb4)]) (lenOf own_pd4 rfl) rfl (by show 2 * 0 + _ ≤ _; exact Nat.le_of_eq rfl) (hb hby at_295) (fun _ _ => ⟨rfl, e78, (by decide : 1 + 0 ≤ _), (by decide : 12 + 0 ≤ _)⟩)
        dsimp only [Pt.U, Pt.locs, Pt.cells, Pt.slots] at X79 l79 y79 z79 st79 hQ79
        obtain rfl : k79 = 1 := y79
        obtain rfl : n79 = 12 := z79
        obtain ⟨rfl, N79q, e79⟩ := hQ79
        have N79 : Fr n0 L79 := by rw [l79]; exact Fr.app N78 N79q
        clear l79
        refine own_go (S' := T79.setTop (mkF m 298 #[.val (.long q0), .second, .val (.int p1), .val (.int p2), .val (.int p3), .val (.int p4), .val (.ref b8), .val (.int (Int32.ofNat f)), .val (.int (Int32.ofNat t)), .val (.int got), .val (.int (Int32.ofNat (t - f))), .unset, .unset] [(.int (own_bad (5 : Int32) (Int32.ofNat f) (Int32.ofNat t) G)), (.int sb4)])) st79 ?_
        obtain ⟨sb5, h_sb5⟩ : ∃ z : Int32, z = (sb4 + (own_bad (5 : Int32) (Int32.ofNat f) (Int32.ofNat t) G)) := ⟨_, rfl⟩
        refine own_go (S' := T79.setTop (mkF m 299 #[.val (.long q0), .second, .val (.int p1), .val (.int p2), .val (.int p3), .val (.int p4), .val (.ref b8), .val (.int (Int32.ofNat f)), .val (.int (Int32.ofNat t)), .val (.int got), .val (.int (Int32.ofNat (t - f))), .unset, .unset] [(.int sb5)])) (fun target kt => ?_) ?_
        · subst h_sb5
          show Steps p.tables e below (T79.setTop (mkF m 298 #[.val (.long q0), .second, .val (.int p1), .val (.int p2), .val (.int p3), .val (.int p4), .val (.ref b8), .val (.int (Int32.ofNat f)), .val (.int (Int32.ofNat t)), .val (.int got), .val (.int (Int32.ofNat (t - f))), .unset, .unset] [(.int (own_bad (5 : Int32) (Int32.ofNat f) (Int32.ofNat t) G)), (.int sb4)])) _
          refine XS.iadd X79.here hx rfl (hb hby at_298) rfl ?_
          exact kt
        refine own_go (S' := T79.setTop (mkF m 307 #[.val (.long q0), .second, .val (.int p1), .val (.int p2), .val (.int p3), .val (.int p4), .val (.ref b8), .val (.int (Int32.ofNat f)), .val (.int (Int32.ofNat t)), .val (.int got), .val (.int (Int32.ofNat (t - f))), .unset, .unset] [(.int (Int32.ofNat t)), (.int (Int32.ofNat f)), (.int (6 : Int32)), (.ref b8), (.int sb5)])) (fun target kt => ?_) ?_
        · skip
          show Steps p.tables e below (T79.setTop (mkF m 299 #[.val (.long q0), .second, .val (.int p1), .val (.int p2), .val (.int p3), .val (.int p4), .val (.ref b8), .val (.int (Int32.ofNat f)), .val (.int (Int32.ofNat t)), .val (.int got), .val (.int (Int32.ofNat (t - f))), .unset, .unset] [(.int sb5)])) _
          refine XS.aload X79.here hx rfl (hb hby at_299) rfl rfl ?_
          show Steps p.tables e below (T79.setTop (mkF m 301 #[.val (.long q0), .second, .val (.int p1), .val (.int p2), .val (.int p3), .val (.int p4), .val (.ref b8), .val (.int (Int32.ofNat f)), .val (.int (Int32.ofNat t)), .val (.int got), .val (.int (Int32.ofNat (t - f))), .unset, .unset] [(.ref b8), (.int sb5)])) _
          refine XS.bipush X79.here hx rfl (hb hby at_301) ?_
          show Steps p.tables e below (T79.setTop (mkF m 303 #[.val (.long q0), .second, .val (.int p1), .val (.int p2), .val (.int p3), .val (.int p4), .val (.ref b8), .val (.int (Int32.ofNat f)), .val (.int (Int32.ofNat t)), .val (.int got), .val (.int (Int32.ofNat (t - f))), .unset, .unset] [(.int (6 : Int32)), (.ref b8), (.int sb5)])) _
          refine XS.iload X79.here hx rfl (hb hby at_303) rfl ?_
          show Steps p.tables e below (T79.setTop (mkF m 305 #[.val (.long q0), .second, .val (.int p1), .val (.int p2), .val (.int p3), .val (.int p4), .val (.ref b8), .val (.int (Int32.ofNat f)), .val (.int (Int32.ofNat t)), .val (.int got), .val (.int (Int32.ofNat (t - f))), .unset, .unset] [(.int (Int32.ofNat f)), (.int (6 : Int32)), (.ref b8), (.int sb5)])) _
          refine XS.iload X79.here hx rfl (hb hby at_305) rfl ?_
          exact kt
        obtain ⟨_, _, ⟨T80, L80, k80, n80⟩, -, X80, ⟨Lc80, hQ80, l80, y80, z80⟩, st80⟩ := Jvm.LawKit.callS X79 hx (y := (⟨"com/example/long_walk/longwalk/DecimalNameIndexValuePinLaw", "bad", "([BIII)I"⟩ : MethodName)) hown (mvT hZ (hw _ (List.mem_of_getElem? (i := 10) rfl))) (mvT hZ (hw _ (List.mem_of_getElem? (i := 11) rfl))) (mvT hZ (hw _ (List.mem_of_getElem? (i := 3) rfl))) (mvT hZ (hw _ (List.mem_of_getElem? (i := 12) rfl))) (by decide) (backOf (W := 1) (rm3 l Z aZ hw [] b8 (6 : Int32) (Int32.ofNat f) (Int32.ofNat t) G h67 n0 Z67 f68 (⟨by decide, by decide⟩ : ¬ (6 : Int32) < 0 ∧ ((6 : Int32)).toNatClampNeg < 12)) hZ (hw _ (List.mem_of_getElem? (i := 12) rfl)) (hw _ (List.mem_of_getElem? (i := 3) rfl)) (by decide) (by decide)) (g := (mkF m 307 #[.val (.long q0), .second, .val (.int p1), .val (.int p2), .val (.int p3), .val (.int p4), .val (.ref b8), .val (.int (Int32.ofNat f)), .val (.int (Int32.ofNat t)), .val (.int got), .val (.int (Int32.ofNat (t - f))), .unset, .unset] [(.int (Int32.ofNat t)), (.int (Int32.ofNat f)), (.int (6 : Int32)), (.ref b8), (.int sb5)])) rfl (by rw [hml]; rfl) (argsL := [(.ref b8), (.int (6 : Int32)), (.int (Int32.ofNat f)), (.int (Int32.ofNat t))]) (rest := [(.int sb5)]) (lenOf own_pd4 rfl) rfl (by show 2 * 0 + _ ≤ _; exact Nat.le_of_eq rfl) (hb hby at_307) (fun _ _ => ⟨rfl, e79, (by decide : 1 + 0 ≤ _), (by decide : 12 + 0 ≤ _)⟩)
        dsimp only [Pt.U, Pt.locs, Pt.cells, Pt.slots] at X80 l80 y80 z80 st80 hQ80
        obtain rfl : k80 = 1 := y80
        obtain rfl : n80 = 12 := z80
        obtain ⟨rfl, N80q, e80⟩ := hQ80
        have N80 : Fr n0 L80 := by rw [l80]; exact Fr.app N79 N80q
        clear l80
        refine own_go (S' := T80.setTop (mkF m 310 #[.val (.long q0), .second, .val (.int p1), .val (.int p2), .val (.int p3), .val (.int p4), .val (.ref b8), .val (.int (Int32.ofNat f)), .val (.int (Int32.ofNat t)), .val (.int got), .val (.int (Int32.ofNat (t - f))), .unset, .unset] [(.int (own_bad (6 : Int32) (Int32.ofNat f) (Int32.ofNat t) G)), (.int sb5)])) st80 ?_
        obtain ⟨sb6, h_sb6⟩ : ∃ z : Int32, z = (sb5 + (own_bad (6 : Int32) (Int32.ofNat f) (Int32.ofNat t) G)) := ⟨_, rfl⟩
        refine own_go (S' := T80.setTop (mkF m 311 #[.val (.long q0), .second, .val (.int p1), .val (.int p2), .val (.int p3), .val (.int p4), .val (.ref b8), .val (.int (Int32.ofNat f)), .val (.int (Int32.ofNat t)), .val (.int got), .val (.int (Int32.ofNat (t - f))), .unset, .unset] [(.int sb6)])) (fun target kt => ?_) ?_
        · subst h_sb6
          show Steps p.tables e below (T80.setTop (mkF m 310 #[.val (.long q0), .second, .val (.int p1), .val (.int p2), .val (.int p3), .val (.int p4), .val (.ref b8), .val (.int (Int32.ofNat f)), .val (.int (Int32.ofNat t)), .val (.int got), .val (.int (Int32.ofNat (t - f))), .unset, .unset] [(.int (own_bad (6 : Int32) (Int32.ofNat f) (Int32.ofNat t) G)), (.int sb5)])) _
          refine XS.iadd X80.here hx rfl (hb hby at_310) rfl ?_
          exact kt
        refine own_go (S' := T80.setTop (mkF m 319 #[.val (.long q0), .second, .val (.int p1), .val (.int p2), .val (.int p3), .val (.int p4), .val (.ref b8), .val (.int (Int32.ofNat f)), .val (.int (Int32.ofNat t)), .val (.int got), .val (.int (Int32.ofNat (t - f))), .unset, .unset] [(.int (Int32.ofNat t)), (.int (Int32.ofNat f)), (.int (7 : Int32)), (.ref b8), (.int sb6)])) (fun target kt => ?_) ?_
        · skip
          show Steps p.tables e below (T80.setTop (mkF m 311 #[.val (.long q0), .second, .val (.int p1), .val (.int p2), .val (.int p3), .val (.int p4), .val (.ref b8), .val (.int (Int32.ofNat f)), .val (.int (Int32.ofNat t)), .val (.int got), .val (.int (Int32.ofNat (t - f))), .unset, .unset] [(.int sb6)])) _
          refine XS.aload X80.here hx rfl (hb hby at_311) rfl rfl ?_
          show Steps p.tables e below (T80.setTop (mkF m 313 #[.val (.long q0), .second, .val (.int p1), .val (.int p2), .val (.int p3), .val (.int p4), .val (.ref b8), .val (.int (Int32.ofNat f)), .val (.int (Int32.ofNat t)), .val (.int got), .val (.int (Int32.ofNat (t - f))), .unset, .unset] [(.ref b8), (.int sb6)])) _
          refine XS.bipush X80.here hx rfl (hb hby at_313) ?_
          show Steps p.tables e below (T80.setTop (mkF m 315 #[.val (.long q0), .second, .val (.int p1), .val (.int p2), .val (.int p3), .val (.int p4), .val (.ref b8), .val (.int (Int32.ofNat f)), .val (.int (Int32.ofNat t)), .val (.int got), .val (.int (Int32.ofNat (t - f))), .unset, .unset] [(.int (7 : Int32)), (.ref b8), (.int sb6)])) _
          refine XS.iload X80.here hx rfl (hb hby at_315) rfl ?_
          show Steps p.tables e below (T80.setTop (mkF m 317 #[.val (.long q0), .second, .val (.int p1), .val (.int p2), .val (.int p3), .val (.int p4), .val (.ref b8), .val (.int (Int32.ofNat f)), .val (.int (Int32.ofNat t)), .val (.int got), .val (.int (Int32.ofNat (t - f))), .unset, .unset] [(.int (Int32.ofNat f)), (.int (7 : Int32)), (.ref b8), (.int sb6)])) _
          refine XS.iload X80.here hx rfl (hb hby at_317) rfl ?_
          exact kt
        obtain ⟨_, _, ⟨T81, L81, k81, n81⟩, -, X81, ⟨Lc81, hQ81, l81, y81, z81⟩, st81⟩ := Jvm.LawKit.callS X80 hx (y := (⟨"com/example/long_walk/longwalk/DecimalNameIndexValuePinLaw", "bad", "([BIII)I"⟩ : MethodName)) hown (mvT hZ (hw _ (List.mem_of_getElem? (i := 10) rfl))) (mvT hZ (hw _ (List.mem_of_getElem? (i := 11) rfl))) (mvT hZ (hw _ (List.mem_of_getElem? (i := 3) rfl))) (mvT hZ (hw _ (List.mem_of_getElem? (i := 12) rfl))) (by decide) (backOf (W := 1) (rm3 l Z aZ hw [] b8 (7 : Int32) (Int32.ofNat f) (Int32.ofNat t) G h67 n0 Z67 f68 (⟨by decide, by decide⟩ : ¬ (7 : Int32) < 0 ∧ ((7 : Int32)).toNatClampNeg < 12)) hZ (hw _ (List.mem_of_getElem? (i := 12) rfl)) (hw _ (List.mem_of_getElem? (i := 3) rfl)) (by decide) (by decide)) (g := (mkF m 319 #[.val (.long q0), .second, .val (.int p1), .val (.int p2), .val (.int p3), .val (.int p4), .val (.ref b8), .val (.int (Int32.ofNat f)), .val (.int (Int32.ofNat t)), .val (.int got), .val (.int (Int32.ofNat (t - f))), .unset, .unset] [(.int (Int32.ofNat t)), (.int (Int32.ofNat f)), (.int (7 : Int32)), (.ref b8), (.int sb6)])) rfl (by rw [hml]; rfl) (argsL := [(.ref b8), (.int (7 : Int32)), (.int (Int32.ofNat f)), (.int (Int32.ofNat t))]) (rest := [(.int sb6)]) (lenOf own_pd4 rfl) rfl (by show 2 * 0 + _ ≤ _; exact Nat.le_of_eq rfl) (hb hby at_319) (fun _ _ => ⟨rfl, e80, (by decide : 1 + 0 ≤ _), (by decide : 12 + 0 ≤ _)⟩)
        dsimp only [Pt.U, Pt.locs, Pt.cells, Pt.slots] at X81 l81 y81 z81 st81 hQ81
        obtain rfl : k81 = 1 := y81
        obtain rfl : n81 = 12 := z81
        obtain ⟨rfl, N81q, e81⟩ := hQ81
        have N81 : Fr n0 L81 := by rw [l81]; exact Fr.app N80 N81q
        clear l81
        refine own_go (S' := T81.setTop (mkF m 322 #[.val (.long q0), .second, .val (.int p1), .val (.int p2), .val (.int p3), .val (.int p4), .val (.ref b8), .val (.int (Int32.ofNat f)), .val (.int (Int32.ofNat t)), .val (.int got), .val (.int (Int32.ofNat (t - f))), .unset, .unset] [(.int (own_bad (7 : Int32) (Int32.ofNat f) (Int32.ofNat t) G)), (.int sb6)])) st81 ?_
        obtain ⟨sb7, h_sb7⟩ : ∃ z : Int32, z = (sb6 + (own_bad (7 : Int32) (Int32.ofNat f) (Int32.ofNat t) G)) := ⟨_, rfl⟩
        refine own_go (S' := T81.setTop (mkF m 323 #[.val (.long q0), .second, .val (.int p1), .val (.int p2), .val (.int p3), .val (.int p4), .val (.ref b8), .val (.int (Int32.ofNat f)), .val (.int (Int32.ofNat t)), .val (.int got), .val (.int (Int32.ofNat (t - f))), .unset, .unset] [(.int sb7)])) (fun target kt => ?_) ?_
        · subst h_sb7
          show Steps p.tables e below (T81.setTop (mkF m 322 #[.val (.long q0), .second, .val (.int p1), .val (.int p2), .val (.int p3), .val (.int p4), .val (.ref b8), .val (.int (Int32.ofNat f)), .val (.int (Int32.ofNat t)), .val (.int got), .val (.int (Int32.ofNat (t - f))), .unset, .unset] [(.int (own_bad (7 : Int32) (Int32.ofNat f) (Int32.ofNat t) G)), (.int sb6)])) _
          refine XS.iadd X81.here hx rfl (hb hby at_322) rfl ?_
          exact kt
        refine own_go (S' := T81.setTop (mkF m 331 #[.val (.long q0), .second, .val (.int p1), .val (.int p2), .val (.int p3), .val (.int p4), .val (.ref b8), .val (.int (Int32.ofNat f)), .val (.int (Int32.ofNat t)), .val (.int got), .val (.int (Int32.ofNat (t - f))), .unset, .unset] [(.int (Int32.ofNat t)), (.int (Int32.ofNat f)), (.int (8 : Int32)), (.ref b8), (.int sb7)])) (fun target kt => ?_) ?_
        · skip
          show Steps p.tables e below (T81.setTop (mkF m 323 #[.val (.long q0), .second, .val (.int p1), .val (.int p2), .val (.int p3), .val (.int p4), .val (.ref b8), .val (.int (Int32.ofNat f)), .val (.int (Int32.ofNat t)), .val (.int got), .val (.int (Int32.ofNat (t - f))), .unset, .unset] [(.int sb7)])) _
          refine XS.aload X81.here hx rfl (hb hby at_323) rfl rfl ?_
          show Steps p.tables e below (T81.setTop (mkF m 325 #[.val (.long q0), .second, .val (.int p1), .val (.int p2), .val (.int p3), .val (.int p4), .val (.ref b8), .val (.int (Int32.ofNat f)), .val (.int (Int32.ofNat t)), .val (.int got), .val (.int (Int32.ofNat (t - f))), .unset, .unset] [(.ref b8), (.int sb7)])) _
          refine XS.bipush X81.here hx rfl (hb hby at_325) ?_
          show Steps p.tables e below (T81.setTop (mkF m 327 #[.val (.long q0), .second, .val (.int p1), .val (.int p2), .val (.int p3), .val (.int p4), .val (.ref b8), .val (.int (Int32.ofNat f)), .val (.int (Int32.ofNat t)), .val (.int got), .val (.int (Int32.ofNat (t - f))), .unset, .unset] [(.int (8 : Int32)), (.ref b8), (.int sb7)])) _
          refine XS.iload X81.here hx rfl (hb hby at_327) rfl ?_
          show Steps p.tables e below (T81.setTop (mkF m 329 #[.val (.long q0), .second, .val (.int p1), .val (.int p2), .val (.int p3), .val (.int p4), .val (.ref b8), .val (.int (Int32.ofNat f)), .val (.int (Int32.ofNat t)), .val (.int got), .val (.int (Int32.ofNat (t - f))), .unset, .unset] [(.int (Int32.ofNat f)), (.int (8 : Int32)), (.ref b8), (.int sb7)])) _
          refine XS.iload X81.here hx rfl (hb hby at_329) rfl ?_
          exact kt
        obtain ⟨_, _, ⟨T82, L82, k82, n82⟩, -, X82, ⟨Lc82, hQ82, l82, y82, z82⟩, st82⟩ := Jvm.LawKit.callS X81 hx (y := (⟨"com/example/long_walk/longwalk/DecimalNameIndexValuePinLaw", "bad", "([BIII)I"⟩ : MethodName)) hown (mvT hZ (hw _ (List.mem_of_getElem? (i := 10) rfl))) (mvT hZ (hw _ (List.mem_of_getElem? (i := 11) rfl))) (mvT hZ (hw _ (List.mem_of_getElem? (i := 3) rfl))) (mvT hZ (hw _ (List.mem_of_getElem? (i := 12) rfl))) (by decide) (backOf (W := 1) (rm3 l Z aZ hw [] b8 (8 : Int32) (Int32.ofNat f) (Int32.ofNat t) G h67 n0 Z67 f68 (⟨by decide, by decide⟩ : ¬ (8 : Int32) < 0 ∧ ((8 : Int32)).toNatClampNeg < 12)) hZ (hw _ (List.mem_of_getElem? (i := 12) rfl)) (hw _ (List.mem_of_getElem? (i := 3) rfl)) (by decide) (by decide)) (g := (mkF m 331 #[.val (.long q0), .second, .val (.int p1), .val (.int p2), .val (.int p3), .val (.int p4), .val (.ref b8), .val (.int (Int32.ofNat f)), .val (.int (Int32.ofNat t)), .val (.int got), .val (.int (Int32.ofNat (t - f))), .unset, .unset] [(.int (Int32.ofNat t)), (.int (Int32.ofNat f)), (.int (8 : Int32)), (.ref b8), (.int sb7)])) rfl (by rw [hml]; rfl) (argsL := [(.ref b8), (.int (8 : Int32)), (.int (Int32.ofNat f)), (.int (Int32.ofNat t))]) (rest := [(.int sb7)]) (lenOf own_pd4 rfl) rfl (by show 2 * 0 + _ ≤ _; exact Nat.le_of_eq rfl) (hb hby at_331) (fun _ _ => ⟨rfl, e81, (by decide : 1 + 0 ≤ _), (by decide : 12 + 0 ≤ _)⟩)
        dsimp only [Pt.U, Pt.locs, Pt.cells, Pt.slots] at X82 l82 y82 z82 st82 hQ82
        obtain rfl : k82 = 1 := y82
        obtain rfl : n82 = 12 := z82
        obtain ⟨rfl, N82q, e82⟩ := hQ82
        have N82 : Fr n0 L82 := by rw [l82]; exact Fr.app N81 N82q
        clear l82
        refine own_go (S' := T82.setTop (mkF m 334 #[.val (.long q0), .second, .val (.int p1), .val (.int p2), .val (.int p3), .val (.int p4), .val (.ref b8), .val (.int (Int32.ofNat f)), .val (.int (Int32.ofNat t)), .val (.int got), .val (.int (Int32.ofNat (t - f))), .unset, .unset] [(.int (own_bad (8 : Int32) (Int32.ofNat f) (Int32.ofNat t) G)), (.int sb7)])) st82 ?_
        obtain ⟨sb8, h_sb8⟩ : ∃ z : Int32, z = (sb7 + (own_bad (8 : Int32) (Int32.ofNat f) (Int32.ofNat t) G)) := ⟨_, rfl⟩
        refine own_go (S' := T82.setTop (mkF m 335 #[.val (.long q0), .second, .val (.int p1), .val (.int p2), .val (.int p3), .val (.int p4), .val (.ref b8), .val (.int (Int32.ofNat f)), .val (.int (Int32.ofNat t)), .val (.int got), .val (.int (Int32.ofNat (t - f))), .unset, .unset] [(.int sb8)])) (fun target kt => ?_) ?_
        · subst h_sb8
          show Steps p.tables e below (T82.setTop (mkF m 334 #[.val (.long q0), .second, .val (.int p1), .val (.int p2), .val (.int p3), .val (.int p4), .val (.ref b8), .val (.int (Int32.ofNat f)), .val (.int (Int32.ofNat t)), .val (.int got), .val (.int (Int32.ofNat (t - f))), .unset, .unset] [(.int (own_bad (8 : Int32) (Int32.ofNat f) (Int32.ofNat t) G)), (.int sb7)])) _
          refine XS.iadd X82.here hx rfl (hb hby at_334) rfl ?_
          exact kt
        refine own_go (S' := T82.setTop (mkF m 343 #[.val (.long q0), .second, .val (.int p1), .val (.int p2), .val (.int p3), .val (.int p4), .val (.ref b8), .val (.int (Int32.ofNat f)), .val (.int (Int32.ofNat t)), .val (.int got), .val (.int (Int32.ofNat (t - f))), .unset, .unset] [(.int (Int32.ofNat t)), (.int (Int32.ofNat f)), (.int (9 : Int32)), (.ref b8), (.int sb8)])) (fun target kt => ?_) ?_
        · skip
          show Steps p.tables e below (T82.setTop (mkF m 335 #[.val (.long q0), .second, .val (.int p1), .val (.int p2), .val (.int p3), .val (.int p4), .val (.ref b8), .val (.int (Int32.ofNat f)), .val (.int (Int32.ofNat t)), .val (.int got), .val (.int (Int32.ofNat (t - f))), .unset, .unset] [(.int sb8)])) _
          refine XS.aload X82.here hx rfl (hb hby at_335) rfl rfl ?_
          show Steps p.tables e below (T82.setTop (mkF m 337 #[.val (.long q0), .second, .val (.int p1), .val (.int p2), .val (.int p3), .val (.int p4), .val (.ref b8), .val (.int (Int32.ofNat f)), .val (.int (Int32.ofNat t)), .val (.int got), .val (.int (Int32.ofNat (t - f))), .unset, .unset] [(.ref b8), (.int sb8)])) _
          refine XS.bipush X82.here hx rfl (hb hby at_337) ?_
          show Steps p.tables e below (T82.setTop (mkF m 339 #[.val (.long q0), .second, .val (.int p1), .val (.int p2), .val (.int p3), .val (.int p4), .val (.ref b8), .val (.int (Int32.ofNat f)), .val (.int (Int32.ofNat t)), .val (.int got), .val (.int (Int32.ofNat (t - f))), .unset, .unset] [(.int (9 : Int32)), (.ref b8), (.int sb8)])) _
          refine XS.iload X82.here hx rfl (hb hby at_339) rfl ?_
          show Steps p.tables e below (T82.setTop (mkF m 341 #[.val (.long q0), .second, .val (.int p1), .val (.int p2), .val (.int p3), .val (.int p4), .val (.ref b8), .val (.int (Int32.ofNat f)), .val (.int (Int32.ofNat t)), .val (.int got), .val (.int (Int32.ofNat (t - f))), .unset, .unset] [(.int (Int32.ofNat f)), (.int (9 : Int32)), (.ref b8), (.int sb8)])) _
          refine XS.iload X82.here hx rfl (hb hby at_341) rfl ?_
          exact kt
        obtain ⟨_, _, ⟨T83, L83, k83, n83⟩, -, X83, ⟨Lc83, hQ83, l83, y83, z83⟩, st83⟩ := Jvm.LawKit.callS X82 hx (y := (⟨"com/example/long_walk/longwalk/DecimalNameIndexValuePinLaw", "bad", "([BIII)I"⟩ : MethodName)) hown (mvT hZ (hw _ (List.mem_of_getElem? (i := 10) rfl))) (mvT hZ (hw _ (List.mem_of_getElem? (i := 11) rfl))) (mvT hZ (hw _ (List.mem_of_getElem? (i := 3) rfl))) (mvT hZ (hw _ (List.mem_of_getElem? (i := 12) rfl))) (by decide) (backOf (W := 1) (rm3 l Z aZ hw [] b8 (9 : Int32) (Int32.ofNat f) (Int32.ofNat t) G h67 n0 Z67 f68 (⟨by decide, by decide⟩ : ¬ (9 : Int32) < 0 ∧ ((9 : Int32)).toNatClampNeg < 12)) hZ (hw _ (List.mem_of_getElem? (i := 12) rfl)) (hw _ (List.mem_of_getElem? (i := 3) rfl)) (by decide) (by decide)) (g := (mkF m 343 #[.val (.long q0), .second, .val (.int p1), .val (.int p2), .val (.int p3), .val (.int p4), .val (.ref b8), .val (.int (Int32.ofNat f)), .val (.int (Int32.ofNat t)), .val (.int got), .val (.int (Int32.ofNat (t - f))), .unset, .unset] [(.int (Int32.ofNat t)), (.int (Int32.ofNat f)), (.int (9 : Int32)), (.ref b8), (.int sb8)])) rfl (by rw [hml]; rfl) (argsL := [(.ref b8), (.int (9 : Int32)), (.int (Int32.ofNat f)), (.int (Int32.ofNat t))]) (rest := [(.int sb8)]) (lenOf own_pd4 rfl) rfl (by show 2 * 0 + _ ≤ _; exact Nat.le_of_eq rfl) (hb hby at_343) (fun _ _ => ⟨rfl, e82, (by decide : 1 + 0 ≤ _), (by decide : 12 + 0 ≤ _)⟩)
        dsimp only [Pt.U, Pt.locs, Pt.cells, Pt.slots] at X83 l83 y83 z83 st83 hQ83
        obtain rfl : k83 = 1 := y83
        obtain rfl : n83 = 12 := z83
        obtain ⟨rfl, N83q, e83⟩ := hQ83
        have N83 : Fr n0 L83 := by rw [l83]; exact Fr.app N82 N83q
        clear l83
        refine own_go (S' := T83.setTop (mkF m 346 #[.val (.long q0), .second, .val (.int p1), .val (.int p2), .val (.int p3), .val (.int p4), .val (.ref b8), .val (.int (Int32.ofNat f)), .val (.int (Int32.ofNat t)), .val (.int got), .val (.int (Int32.ofNat (t - f))), .unset, .unset] [(.int (own_bad (9 : Int32) (Int32.ofNat f) (Int32.ofNat t) G)), (.int sb8)])) st83 ?_
        obtain ⟨sb9, h_sb9⟩ : ∃ z : Int32, z = (sb8 + (own_bad (9 : Int32) (Int32.ofNat f) (Int32.ofNat t) G)) := ⟨_, rfl⟩
        refine own_go (S' := T83.setTop (mkF m 347 #[.val (.long q0), .second, .val (.int p1), .val (.int p2), .val (.int p3), .val (.int p4), .val (.ref b8), .val (.int (Int32.ofNat f)), .val (.int (Int32.ofNat t)), .val (.int got), .val (.int (Int32.ofNat (t - f))), .unset, .unset] [(.int sb9)])) (fun target kt => ?_) ?_
        · subst h_sb9
          show Steps p.tables e below (T83.setTop (mkF m 346 #[.val (.long q0), .second, .val (.int p1), .val (.int p2), .val (.int p3), .val (.int p4), .val (.ref b8), .val (.int (Int32.ofNat f)), .val (.int (Int32.ofNat t)), .val (.int got), .val (.int (Int32.ofNat (t - f))), .unset, .unset] [(.int (own_bad (9 : Int32) (Int32.ofNat f) (Int32.ofNat t) G)), (.int sb8)])) _
          refine XS.iadd X83.here hx rfl (hb hby at_346) rfl ?_
          exact kt
        refine own_go (S' := T83.setTop (mkF m 355 #[.val (.long q0), .second, .val (.int p1), .val (.int p2), .val (.int p3), .val (.int p4), .val (.ref b8), .val (.int (Int32.ofNat f)), .val (.int (Int32.ofNat t)), .val (.int got), .val (.int (Int32.ofNat (t - f))), .unset, .unset] [(.int (Int32.ofNat t)), (.int (Int32.ofNat f)), (.int (10 : Int32)), (.ref b8), (.int sb9)])) (fun target kt => ?_) ?_
        · skip
          show Steps p.tables e below (T83.setTop (mkF m 347 #[.val (.long q0), .second, .val (.int p1), .val (.int p2), .val (.int p3), .val (.int p4), .val (.ref b8), .val (.int (Int32.ofNat f)), .val (.int (Int32.ofNat t)), .val (.int got), .val (.int (Int32.ofNat (t - f))), .unset, .unset] [(.int sb9)])) _
          refine XS.aload X83.here hx rfl (hb hby at_347) rfl rfl ?_
          show Steps p.tables e below (T83.setTop (mkF m 349 #[.val (.long q0), .second, .val (.int p1), .val (.int p2), .val (.int p3), .val (.int p4), .val (.ref b8), .val (.int (Int32.ofNat f)), .val (.int (Int32.ofNat t)), .val (.int got), .val (.int (Int32.ofNat (t - f))), .unset, .unset] [(.ref b8), (.int sb9)])) _
          refine XS.bipush X83.here hx rfl (hb hby at_349) ?_
          show Steps p.tables e below (T83.setTop (mkF m 351 #[.val (.long q0), .second, .val (.int p1), .val (.int p2), .val (.int p3), .val (.int p4), .val (.ref b8), .val (.int (Int32.ofNat f)), .val (.int (Int32.ofNat t)), .val (.int got), .val (.int (Int32.ofNat (t - f))), .unset, .unset] [(.int (10 : Int32)), (.ref b8), (.int sb9)])) _
          refine XS.iload X83.here hx rfl (hb hby at_351) rfl ?_
          show Steps p.tables e below (T83.setTop (mkF m 353 #[.val (.long q0), .second, .val (.int p1), .val (.int p2), .val (.int p3), .val (.int p4), .val (.ref b8), .val (.int (Int32.ofNat f)), .val (.int (Int32.ofNat t)), .val (.int got), .val (.int (Int32.ofNat (t - f))), .unset, .unset] [(.int (Int32.ofNat f)), (.int (10 : Int32)), (.ref b8), (.int sb9)])) _
          refine XS.iload X83.here hx rfl (hb hby at_353) rfl ?_
          exact kt
        obtain ⟨_, _, ⟨T84, L84, k84, n84⟩, -, X84, ⟨Lc84, hQ84, l84, y84, z84⟩, st84⟩ := Jvm.LawKit.callS X83 hx (y := (⟨"com/example/long_walk/longwalk/DecimalNameIndexValuePinLaw", "bad", "([BIII)I"⟩ : MethodName)) hown (mvT hZ (hw _ (List.mem_of_getElem? (i := 10) rfl))) (mvT hZ (hw _ (List.mem_of_getElem? (i := 11) rfl))) (mvT hZ (hw _ (List.mem_of_getElem? (i := 3) rfl))) (mvT hZ (hw _ (List.mem_of_getElem? (i := 12) rfl))) (by decide) (backOf (W := 1) (rm3 l Z aZ hw [] b8 (10 : Int32) (Int32.ofNat f) (Int32.ofNat t) G h67 n0 Z67 f68 (⟨by decide, by decide⟩ : ¬ (10 : Int32) < 0 ∧ ((10 : Int32)).toNatClampNeg < 12)) hZ (hw _ (List.mem_of_getElem? (i := 12) rfl)) (hw _ (List.mem_of_getElem? (i := 3) rfl)) (by decide) (by decide)) (g := (mkF m 355 #[.val (.long q0), .second, .val (.int p1), .val (.int p2), .val (.int p3), .val (.int p4), .val (.ref b8), .val (.int (Int32.ofNat f)), .val (.int (Int32.ofNat t)), .val (.int got), .val (.int (Int32.ofNat (t - f))), .unset, .unset] [(.int (Int32.ofNat t)), (.int (Int32.ofNat f)), (.int (10 : Int32)), (.ref b8), (.int sb9)])) rfl (by rw [hml]; rfl) (argsL := [(.ref b8), (.int (10 : Int32)), (.int (Int32.ofNat f)), (.int (Int32.ofNat t))]) (rest := [(.int sb9)]) (lenOf own_pd4 rfl) rfl (by show 2 * 0 + _ ≤ _; exact Nat.le_of_eq rfl) (hb hby at_355) (fun _ _ => ⟨rfl, e83, (by decide : 1 + 0 ≤ _), (by decide : 12 + 0 ≤ _)⟩)
        dsimp only [Pt.U, Pt.locs, Pt.cells, Pt.slots] at X84 l84 y84 z84 st84 hQ84
        obtain rfl : k84 = 1 := y84
        obtain rfl : n84 = 12 := z84
        obtain ⟨rfl, N84q, e84⟩ := hQ84
        have N84 : Fr n0 L84 := by rw [l84]; exact Fr.app N83 N84q
        clear l84
        refine own_go (S' := T84.setTop (mkF m 358 #[.val (.long q0), .second, .val (.int p1), .val (.int p2), .val (.int p3), .val (.int p4), .val (.ref b8), .val (.int (Int32.ofNat f)), .val (.int (Int32.ofNat t)), .val (.int got), .val (.int (Int32.ofNat (t - f))), .unset, .unset] [(.int (own_bad (10 : Int32) (Int32.ofNat f) (Int32.ofNat t) G)), (.int sb9)])) st84 ?_
        obtain ⟨sb10, h_sb10⟩ : ∃ z : Int32, z = (sb9 + (own_bad (10 : Int32) (Int32.ofNat f) (Int32.ofNat t) G)) := ⟨_, rfl⟩
        refine own_go (S' := T84.setTop (mkF m 359 #[.val (.long q0), .second, .val (.int p1), .val (.int p2), .val (.int p3), .val (.int p4), .val (.ref b8), .val (.int (Int32.ofNat f)), .val (.int (Int32.ofNat t)), .val (.int got), .val (.int (Int32.ofNat (t - f))), .unset, .unset] [(.int sb10)])) (fun target kt => ?_) ?_
        · subst h_sb10
          show Steps p.tables e below (T84.setTop (mkF m 358 #[.val (.long q0), .second, .val (.int p1), .val (.int p2), .val (.int p3), .val (.int p4), .val (.ref b8), .val (.int (Int32.ofNat f)), .val (.int (Int32.ofNat t)), .val (.int got), .val (.int (Int32.ofNat (t - f))), .unset, .unset] [(.int (own_bad (10 : Int32) (Int32.ofNat f) (Int32.ofNat t) G)), (.int sb9)])) _
          refine XS.iadd X84.here hx rfl (hb hby at_358) rfl ?_
          exact kt
        refine own_go (S' := T84.setTop (mkF m 367 #[.val (.long q0), .second, .val (.int p1), .val (.int p2), .val (.int p3), .val (.int p4), .val (.ref b8), .val (.int (Int32.ofNat f)), .val (.int (Int32.ofNat t)), .val (.int got), .val (.int (Int32.ofNat (t - f))), .unset, .unset] [(.int (Int32.ofNat t)), (.int (Int32.ofNat f)), (.int (11 : Int32)), (.ref b8), (.int sb10)])) (fun target kt => ?_) ?_
        · skip
          show Steps p.tables e below (T84.setTop (mkF m 359 #[.val (.long q0), .second, .val (.int p1), .val (.int p2), .val (.int p3), .val (.int p4), .val (.ref b8), .val (.int (Int32.ofNat f)), .val (.int (Int32.ofNat t)), .val (.int got), .val (.int (Int32.ofNat (t - f))), .unset, .unset] [(.int sb10)])) _
          refine XS.aload X84.here hx rfl (hb hby at_359) rfl rfl ?_
          show Steps p.tables e below (T84.setTop (mkF m 361 #[.val (.long q0), .second, .val (.int p1), .val (.int p2), .val (.int p3), .val (.int p4), .val (.ref b8), .val (.int (Int32.ofNat f)), .val (.int (Int32.ofNat t)), .val (.int got), .val (.int (Int32.ofNat (t - f))), .unset, .unset] [(.ref b8), (.int sb10)])) _
          refine XS.bipush X84.here hx rfl (hb hby at_361) ?_
          show Steps p.tables e below (T84.setTop (mkF m 363 #[.val (.long q0), .second, .val (.int p1), .val (.int p2), .val (.int p3), .val (.int p4), .val (.ref b8), .val (.int (Int32.ofNat f)), .val (.int (Int32.ofNat t)), .val (.int got), .val (.int (Int32.ofNat (t - f))), .unset, .unset] [(.int (11 : Int32)), (.ref b8), (.int sb10)])) _
          refine XS.iload X84.here hx rfl (hb hby at_363) rfl ?_
          show Steps p.tables e below (T84.setTop (mkF m 365 #[.val (.long q0), .second, .val (.int p1), .val (.int p2), .val (.int p3), .val (.int p4), .val (.ref b8), .val (.int (Int32.ofNat f)), .val (.int (Int32.ofNat t)), .val (.int got), .val (.int (Int32.ofNat (t - f))), .unset, .unset] [(.int (Int32.ofNat f)), (.int (11 : Int32)), (.ref b8), (.int sb10)])) _
          refine XS.iload X84.here hx rfl (hb hby at_365) rfl ?_
          exact kt
        obtain ⟨_, _, ⟨T85, L85, k85, n85⟩, -, X85, ⟨Lc85, hQ85, l85, y85, z85⟩, st85⟩ := Jvm.LawKit.callS X84 hx (y := (⟨"com/example/long_walk/longwalk/DecimalNameIndexValuePinLaw", "bad", "([BIII)I"⟩ : MethodName)) hown (mvT hZ (hw _ (List.mem_of_getElem? (i := 10) rfl))) (mvT hZ (hw _ (List.mem_of_getElem? (i := 11) rfl))) (mvT hZ (hw _ (List.mem_of_getElem? (i := 3) rfl))) (mvT hZ (hw _ (List.mem_of_getElem? (i := 12) rfl))) (by decide) (backOf (W := 1) (rm3 l Z aZ hw [] b8 (11 : Int32) (Int32.ofNat f) (Int32.ofNat t) G h67 n0 Z67 f68 (⟨by decide, by decide⟩ : ¬ (11 : Int32) < 0 ∧ ((11 : Int32)).toNatClampNeg < 12)) hZ (hw _ (List.mem_of_getElem? (i := 12) rfl)) (hw _ (List.mem_of_getElem? (i := 3) rfl)) (by decide) (by decide)) (g := (mkF m 367 #[.val (.long q0), .second, .val (.int p1), .val (.int p2), .val (.int p3), .val (.int p4), .val (.ref b8), .val (.int (Int32.ofNat f)), .val (.int (Int32.ofNat t)), .val (.int got), .val (.int (Int32.ofNat (t - f))), .unset, .unset] [(.int (Int32.ofNat t)), (.int (Int32.ofNat f)), (.int (11 : Int32)), (.ref b8), (.int sb10)])) rfl (by rw [hml]; rfl) (argsL := [(.ref b8), (.int (11 : Int32)), (.int (Int32.ofNat f)), (.int (Int32.ofNat t))]) (rest := [(.int sb10)]) (lenOf own_pd4 rfl) rfl (by show 2 * 0 + _ ≤ _; exact Nat.le_of_eq rfl) (hb hby at_367) (fun _ _ => ⟨rfl, e84, (by decide : 1 + 0 ≤ _), (by decide : 12 + 0 ≤ _)⟩)
        dsimp only [Pt.U, Pt.locs, Pt.cells, Pt.slots] at X85 l85 y85 z85 st85 hQ85
        obtain rfl : k85 = 1 := y85
        obtain rfl : n85 = 12 := z85
        obtain ⟨rfl, N85q, e85⟩ := hQ85
        have N85 : Fr n0 L85 := by rw [l85]; exact Fr.app N84 N85q
        clear l85
        refine own_go (S' := T85.setTop (mkF m 370 #[.val (.long q0), .second, .val (.int p1), .val (.int p2), .val (.int p3), .val (.int p4), .val (.ref b8), .val (.int (Int32.ofNat f)), .val (.int (Int32.ofNat t)), .val (.int got), .val (.int (Int32.ofNat (t - f))), .unset, .unset] [(.int (own_bad (11 : Int32) (Int32.ofNat f) (Int32.ofNat t) G)), (.int sb10)])) st85 ?_
        obtain ⟨sb11, h_sb11⟩ : ∃ z : Int32, z = (sb10 + (own_bad (11 : Int32) (Int32.ofNat f) (Int32.ofNat t) G)) := ⟨_, rfl⟩
        refine own_go (S' := T85.setTop (mkF m 371 #[.val (.long q0), .second, .val (.int p1), .val (.int p2), .val (.int p3), .val (.int p4), .val (.ref b8), .val (.int (Int32.ofNat f)), .val (.int (Int32.ofNat t)), .val (.int got), .val (.int (Int32.ofNat (t - f))), .unset, .unset] [(.int sb11)])) (fun target kt => ?_) ?_
        · subst h_sb11
          show Steps p.tables e below (T85.setTop (mkF m 370 #[.val (.long q0), .second, .val (.int p1), .val (.int p2), .val (.int p3), .val (.int p4), .val (.ref b8), .val (.int (Int32.ofNat f)), .val (.int (Int32.ofNat t)), .val (.int got), .val (.int (Int32.ofNat (t - f))), .unset, .unset] [(.int (own_bad (11 : Int32) (Int32.ofNat f) (Int32.ofNat t) G)), (.int sb10)])) _
          refine XS.iadd X85.here hx rfl (hb hby at_370) rfl ?_
          exact kt
        have hS : ((((((((((((own_bad (0 : Int32) (Int32.ofNat f) (Int32.ofNat t) G) + (own_bad (1 : Int32) (Int32.ofNat f) (Int32.ofNat t) G)) + (own_bad (2 : Int32) (Int32.ofNat f) (Int32.ofNat t) G)) + (own_bad (3 : Int32) (Int32.ofNat f) (Int32.ofNat t) G)) + (own_bad (4 : Int32) (Int32.ofNat f) (Int32.ofNat t) G)) + (own_bad (5 : Int32) (Int32.ofNat f) (Int32.ofNat t) G)) + (own_bad (6 : Int32) (Int32.ofNat f) (Int32.ofNat t) G)) + (own_bad (7 : Int32) (Int32.ofNat f) (Int32.ofNat t) G)) + (own_bad (8 : Int32) (Int32.ofNat f) (Int32.ofNat t) G)) + (own_bad (9 : Int32) (Int32.ofNat f) (Int32.ofNat t) G)) + (own_bad (10 : Int32) (Int32.ofNat f) (Int32.ofNat t) G)) + (own_bad (11 : Int32) (Int32.ofNat f) (Int32.ofNat t) G)) = sb11 := by rw [h_sb11, h_sb10, h_sb9, h_sb8, h_sb7, h_sb6, h_sb5, h_sb4, h_sb3, h_sb2, h_sb1]
        refine own_go (S' := T85.setTop (mkF m 375 #[.val (.long q0), .second, .val (.int p1), .val (.int p2), .val (.int p3), .val (.int p4), .val (.ref b8), .val (.int (Int32.ofNat f)), .val (.int (Int32.ofNat t)), .val (.int got), .val (.int (Int32.ofNat (t - f))), .unset, .val (.int sb11)] [(.int sb11)])) (fun target kt => ?_) ?_
        · skip
          show Steps p.tables e below (T85.setTop (mkF m 371 #[.val (.long q0), .second, .val (.int p1), .val (.int p2), .val (.int p3), .val (.int p4), .val (.ref b8), .val (.int (Int32.ofNat f)), .val (.int (Int32.ofNat t)), .val (.int got), .val (.int (Int32.ofNat (t - f))), .unset, .unset] [(.int sb11)])) _
          refine XS.istore X85.here hx rfl (hb hby at_371) rfl (l' := #[.val (.long q0), .second, .val (.int p1), .val (.int p2), .val (.int p3), .val (.int p4), .val (.ref b8), .val (.int (Int32.ofNat f)), .val (.int (Int32.ofNat t)), .val (.int got), .val (.int (Int32.ofNat (t - f))), .unset, .val (.int sb11)]) rfl ?_
          show Steps p.tables e below (T85.setTop (mkF m 373 #[.val (.long q0), .second, .val (.int p1), .val (.int p2), .val (.int p3), .val (.int p4), .val (.ref b8), .val (.int (Int32.ofNat f)), .val (.int (Int32.ofNat t)), .val (.int got), .val (.int (Int32.ofNat (t - f))), .unset, .val (.int sb11)] [])) _
          refine XS.iload X85.here hx rfl (hb hby at_373) rfl ?_
          exact kt
        by_cases hc375 : (0 : Int32) < sb11
        · skip
          refine own_go (S' := T85.setTop (mkF m 535 #[.val (.long q0), .second, .val (.int p1), .val (.int p2), .val (.int p3), .val (.int p4), .val (.ref b8), .val (.int (Int32.ofNat f)), .val (.int (Int32.ofNat t)), .val (.int got), .val (.int (Int32.ofNat (t - f))), .val (.int (-1 : Int32)), .val (.int sb11)] [(.int (1 : Int32))])) (fun target kt => ?_) ?_
          · skip
            show Steps p.tables e below (T85.setTop (mkF m 375 #[.val (.long q0), .second, .val (.int p1), .val (.int p2), .val (.int p3), .val (.int p4), .val (.ref b8), .val (.int (Int32.ofNat f)), .val (.int (Int32.ofNat t)), .val (.int got), .val (.int (Int32.ofNat (t - f))), .unset, .val (.int sb11)] [(.int sb11)])) _
            refine XS.ifNo X85.here hx rfl (hb hby at_375) rfl ((if0 _ _).trans (tlt hc375).2.2.2) ?_
            show Steps p.tables e below (T85.setTop (mkF m 378 #[.val (.long q0), .second, .val (.int p1), .val (.int p2), .val (.int p3), .val (.int p4), .val (.ref b8), .val (.int (Int32.ofNat f)), .val (.int (Int32.ofNat t)), .val (.int got), .val (.int (Int32.ofNat (t - f))), .unset, .val (.int sb11)] [])) _
            refine XS.iconst X85.here hx rfl (hb hby at_378) ?_
            show Steps p.tables e below (T85.setTop (mkF m 379 #[.val (.long q0), .second, .val (.int p1), .val (.int p2), .val (.int p3), .val (.int p4), .val (.ref b8), .val (.int (Int32.ofNat f)), .val (.int (Int32.ofNat t)), .val (.int got), .val (.int (Int32.ofNat (t - f))), .unset, .val (.int sb11)] [(.int (-1 : Int32))])) _
            refine XS.istore X85.here hx rfl (hb hby at_379) rfl (l' := #[.val (.long q0), .second, .val (.int p1), .val (.int p2), .val (.int p3), .val (.int p4), .val (.ref b8), .val (.int (Int32.ofNat f)), .val (.int (Int32.ofNat t)), .val (.int got), .val (.int (Int32.ofNat (t - f))), .val (.int (-1 : Int32)), .val (.int sb11)]) rfl ?_
            show Steps p.tables e below (T85.setTop (mkF m 381 #[.val (.long q0), .second, .val (.int p1), .val (.int p2), .val (.int p3), .val (.int p4), .val (.ref b8), .val (.int (Int32.ofNat f)), .val (.int (Int32.ofNat t)), .val (.int got), .val (.int (Int32.ofNat (t - f))), .val (.int (-1 : Int32)), .val (.int sb11)] [])) _
            refine XS.goto X85.here hx rfl (pc0 := 381) (pc' := 523) rfl (hb hby at_381) (by decide) (by decide) ?_
            show Steps p.tables e below (T85.setTop (mkF m 523 #[.val (.long q0), .second, .val (.int p1), .val (.int p2), .val (.int p3), .val (.int p4), .val (.ref b8), .val (.int (Int32.ofNat f)), .val (.int (Int32.ofNat t)), .val (.int got), .val (.int (Int32.ofNat (t - f))), .val (.int (-1 : Int32)), .val (.int sb11)] [])) _
            refine XS.iload X85.here hx rfl (hb hby at_523) rfl ?_
            show Steps p.tables e below (T85.setTop (mkF m 525 #[.val (.long q0), .second, .val (.int p1), .val (.int p2), .val (.int p3), .val (.int p4), .val (.ref b8), .val (.int (Int32.ofNat f)), .val (.int (Int32.ofNat t)), .val (.int got), .val (.int (Int32.ofNat (t - f))), .val (.int (-1 : Int32)), .val (.int sb11)] [(.int got)])) _
            refine XS.iload X85.here hx rfl (hb hby at_525) rfl ?_
            show Steps p.tables e below (T85.setTop (mkF m 527 #[.val (.long q0), .second, .val (.int p1), .val (.int p2), .val (.int p3), .val (.int p4), .val (.ref b8), .val (.int (Int32.ofNat f)), .val (.int (Int32.ofNat t)), .val (.int got), .val (.int (Int32.ofNat (t - f))), .val (.int (-1 : Int32)), .val (.int sb11)] [(.int (-1 : Int32)), (.int got)])) _
            refine XS.icmpNo X85.here hx rfl (hb hby at_527) rfl (teq (own_fD hft ht hB h_got hc196 hc203 (own_or hq) (own_lte hS hc375) : got = (-1 : Int32))).2 ?_
            show Steps p.tables e below (T85.setTop (mkF m 530 #[.val (.long q0), .second, .val (.int p1), .val (.int p2), .val (.int p3), .val (.int p4), .val (.ref b8), .val (.int (Int32.ofNat f)), .val (.int (Int32.ofNat t)), .val (.int got), .val (.int (Int32.ofNat (t - f))), .val (.int (-1 : Int32)), .val (.int sb11)] [])) _
            refine XS.iconst X85.here hx rfl (hb hby at_530) ?_
            show Steps p.tables e below (T85.setTop (mkF m 531 #[.val (.long q0), .second, .val (.int p1), .val (.int p2), .val (.int p3), .val (.int p4), .val (.ref b8), .val (.int (Int32.ofNat f)), .val (.int (Int32.ofNat t)), .val (.int got), .val (.int (Int32.ofNat (t - f))), .val (.int (-1 : Int32)), .val (.int sb11)] [(.int (1 : Int32))])) _
            refine XS.goto X85.here hx rfl (pc0 := 531) (pc' := 535) rfl (hb hby at_531) (by decide) (by decide) ?_
            exact kt
          obtain ⟨fs, hr, hrun, hended, hW, hsame⟩ := X85.leave (v := some (.int (1 : Int32))) (fun h => by rw [Bd.returns] at h; cases h)
          refine ⟨_, _, ?_, hrun, hended, _, _, rfl, ?_, ⟨_, rfl⟩, hW, hsame.mono (by decide) (by decide)⟩
          · exact retN X85 hx (t := .boolean) Bd.returns (by simp) (hb hby at_535) hr
          · show Q0 Z q0 p1 p2 p3 p4 h0 n0 _ T85.heap _
            rw [e85]
            exact ⟨rfl, N85⟩
        · skip
          refine own_go (S' := T85.setTop (mkF m 391 #[.val (.long q0), .second, .val (.int p1), .val (.int p2), .val (.int p3), .val (.int p4), .val (.ref b8), .val (.int (Int32.ofNat f)), .val (.int (Int32.ofNat t)), .val (.int got), .val (.int (Int32.ofNat (t - f))), .unset, .val (.int sb11)] [(.int (Int32.ofNat t)), (.int (Int32.ofNat f)), (.int (0 : Int32)), (.ref b8)])) (fun target kt => ?_) ?_
          · skip
            show Steps p.tables e below (T85.setTop (mkF m 375 #[.val (.long q0), .second, .val (.int p1), .val (.int p2), .val (.int p3), .val (.int p4), .val (.ref b8), .val (.int (Int32.ofNat f)), .val (.int (Int32.ofNat t)), .val (.int got), .val (.int (Int32.ofNat (t - f))), .unset, .val (.int sb11)] [(.int sb11)])) _
            refine XS.ifYes X85.here hx rfl (pc0 := 375) (pc' := 384) rfl (hb hby at_375) rfl ((if0 _ _).trans (flt hc375).2.2.2) (by decide) (by decide) ?_
            show Steps p.tables e below (T85.setTop (mkF m 384 #[.val (.long q0), .second, .val (.int p1), .val (.int p2), .val (.int p3), .val (.int p4), .val (.ref b8), .val (.int (Int32.ofNat f)), .val (.int (Int32.ofNat t)), .val (.int got), .val (.int (Int32.ofNat (t - f))), .unset, .val (.int sb11)] [])) _
            refine XS.aload X85.here hx rfl (hb hby at_384) rfl rfl ?_
            show Steps p.tables e below (T85.setTop (mkF m 386 #[.val (.long q0), .second, .val (.int p1), .val (.int p2), .val (.int p3), .val (.int p4), .val (.ref b8), .val (.int (Int32.ofNat f)), .val (.int (Int32.ofNat t)), .val (.int got), .val (.int (Int32.ofNat (t - f))), .unset, .val (.int sb11)] [(.ref b8)])) _
            refine XS.iconst X85.here hx rfl (hb hby at_386) ?_
            show Steps p.tables e below (T85.setTop (mkF m 387 #[.val (.long q0), .second, .val (.int p1), .val (.int p2), .val (.int p3), .val (.int p4), .val (.ref b8), .val (.int (Int32.ofNat f)), .val (.int (Int32.ofNat t)), .val (.int got), .val (.int (Int32.ofNat (t - f))), .unset, .val (.int sb11)] [(.int (0 : Int32)), (.ref b8)])) _
            refine XS.iload X85.here hx rfl (hb hby at_387) rfl ?_
            show Steps p.tables e below (T85.setTop (mkF m 389 #[.val (.long q0), .second, .val (.int p1), .val (.int p2), .val (.int p3), .val (.int p4), .val (.ref b8), .val (.int (Int32.ofNat f)), .val (.int (Int32.ofNat t)), .val (.int got), .val (.int (Int32.ofNat (t - f))), .unset, .val (.int sb11)] [(.int (Int32.ofNat f)), (.int (0 : Int32)), (.ref b8)])) _
            refine XS.iload X85.here hx rfl (hb hby at_389) rfl ?_
            exact kt
          obtain ⟨_, _, ⟨T86, L86, k86, n86⟩, -, X86, ⟨Lc86, hQ86, l86, y86, z86⟩, st86⟩ := Jvm.LawKit.callS X85 hx (y := (⟨"com/example/long_walk/longwalk/DecimalNameIndexValuePinLaw", "term", "([BIII)I"⟩ : MethodName)) hown (mvT hZ (hw _ (List.mem_of_getElem? (i := 16) rfl))) (mvT hZ (hw _ (List.mem_of_getElem? (i := 17) rfl))) (mvT hZ (hw _ (List.mem_of_getElem? (i := 3) rfl))) (mvT hZ (hw _ (List.mem_of_getElem? (i := 18) rfl))) (by decide) (backOf (W := 0) (rm5 l Z aZ hw [] b8 (0 : Int32) (Int32.ofNat f) (Int32.ofNat t) G h67 n0 Z67 f68 (⟨by decide, by decide⟩ : ¬ (0 : Int32) < 0 ∧ ((0 : Int32)).toNatClampNeg < 12)) hZ (hw _ (List.mem_of_getElem? (i := 18) rfl)) (hw _ (List.mem_of_getElem? (i := 3) rfl)) (by decide) (by decide)) (g := (mkF m 391 #[.val (.long q0), .second, .val (.int p1), .val (.int p2), .val (.int p3), .val (.int p4), .val (.ref b8), .val (.int (Int32.ofNat f)), .val (.int (Int32.ofNat t)), .val (.int got), .val (.int (Int32.ofNat (t - f))), .unset, .val (.int sb11)] [(.int (Int32.ofNat t)), (.int (Int32.ofNat f)), (.int (0 : Int32)), (.ref b8)])) rfl (by rw [hml]; rfl) (argsL := [(.ref b8), (.int (0 : Int32)), (.int (Int32.ofNat f)), (.int (Int32.ofNat t))]) (rest := []) (lenOf own_pd4 rfl) rfl (by show 2 * 0 + _ ≤ _; exact Nat.le_of_eq rfl) (hb hby at_391) (fun _ _ => ⟨rfl, e85, (by decide : 1 + 0 ≤ _), (by decide : 12 + 0 ≤ _)⟩)
          dsimp only [Pt.U, Pt.locs, Pt.cells, Pt.slots] at X86 l86 y86 z86 st86 hQ86
          obtain rfl : k86 = 1 := y86
          obtain rfl : n86 = 12 := z86
          obtain ⟨rfl, N86q, e86⟩ := hQ86
          have N86 : Fr n0 L86 := by rw [l86]; exact Fr.app N85 N86q
          clear l86
          refine own_go (S' := T86.setTop (mkF m 394 #[.val (.long q0), .second, .val (.int p1), .val (.int p2), .val (.int p3), .val (.int p4), .val (.ref b8), .val (.int (Int32.ofNat f)), .val (.int (Int32.ofNat t)), .val (.int got), .val (.int (Int32.ofNat (t - f))), .unset, .val (.int sb11)] [(.int (own_term (0 : Int32) (Int32.ofNat f) (Int32.ofNat t) G))])) st86 ?_
          refine own_go (S' := T86.setTop (mkF m 401 #[.val (.long q0), .second, .val (.int p1), .val (.int p2), .val (.int p3), .val (.int p4), .val (.ref b8), .val (.int (Int32.ofNat f)), .val (.int (Int32.ofNat t)), .val (.int got), .val (.int (Int32.ofNat (t - f))), .unset, .val (.int sb11)] [(.int (Int32.ofNat t)), (.int (Int32.ofNat f)), (.int (1 : Int32)), (.ref b8), (.int (own_term (0 : Int32) (Int32.ofNat f) (Int32.ofNat t) G))])) (fun target kt => ?_) ?_
          · skip
            show Steps p.tables e below (T86.setTop (mkF m 394 #[.val (.long q0), .second, .val (.int p1), .val (.int p2), .val (.int p3), .val (.int p4), .val (.ref b8), .val (.int (Int32.ofNat f)), .val (.int (Int32.ofNat t)), .val (.int got), .val (.int (Int32.ofNat (t - f))), .unset, .val (.int sb11)] [(.int (own_term (0 : Int32) (Int32.ofNat f) (Int32.ofNat t) G))])) _
            refine XS.aload X86.here hx rfl (hb hby at_394) rfl rfl ?_
            show Steps p.tables e below (T86.setTop (mkF m 396 #[.val (.long q0), .second, .val (.int p1), .val (.int p2), .val (.int p3), .val (.int p4), .val (.ref b8), .val (.int (Int32.ofNat f)), .val (.int (Int32.ofNat t)), .val (.int got), .val (.int (Int32.ofNat (t - f))), .unset, .val (.int sb11)] [(.ref b8), (.int (own_term (0 : Int32) (Int32.ofNat f) (Int32.ofNat t) G))])) _
            refine XS.iconst X86.here hx rfl (hb hby at_396) ?_
            show Steps p.tables e below (T86.setTop (mkF m 397 #[.val (.long q0), .second, .val (.int p1), .val (.int p2), .val (.int p3), .val (.int p4), .val (.ref b8), .val (.int (Int32.ofNat f)), .val (.int (Int32.ofNat t)), .val (.int got), .val (.int (Int32.ofNat (t - f))), .unset, .val (.int sb11)] [(.int (1 : Int32)), (.ref b8), (.int (own_term (0 : Int32) (Int32.ofNat f) (Int32.ofNat t) G))])) _
            refine XS.iload X86.here hx rfl (hb hby at_397) rfl ?_
            show Steps p.tables e below (T86.setTop (mkF m 399 #[.val (.long q0), .second, .val (.int p1), .val (.int p2), .val (.int p3), .val (.int p4), .val (.ref b8), .val (.int (Int32.ofNat f)), .val (.int (Int32.ofNat t)), .val (.int got), .val (.int (Int32.ofNat (t - f))), .unset, .val (.int sb11)] [(.int (Int32.ofNat f)), (.int (1 : Int32)), (.ref b8), (.int (own_term (0 : Int32) (Int32.ofNat f) (Int32.ofNat t) G))])) _
            refine XS.iload X86.here hx rfl (hb hby at_399) rfl ?_
            exact kt
          obtain ⟨_, _, ⟨T87, L87, k87, n87⟩, -, X87, ⟨Lc87, hQ87, l87, y87, z87⟩, st87⟩ := Jvm.LawKit.callS X86 hx (y := (⟨"com/example/long_walk/longwalk/DecimalNameIndexValuePinLaw", "term", "([BIII)I"⟩ : MethodName)) hown (mvT hZ (hw _ (List.mem_of_getElem? (i := 16) rfl))) (mvT hZ (hw _ (List.mem_of_getElem? (i := 17) rfl))) (mvT hZ (hw _ (List.mem_of_getElem? (i := 3) rfl))) (mvT hZ (hw _ (List.mem_of_getElem? (i := 18) rfl))) (by decide) (backOf (W := 1) (rm5 l Z aZ hw [] b8 (1 : Int32) (Int32.ofNat f) (Int32.ofNat t) G h67 n0 Z67 f68 (⟨by decide, by decide⟩ : ¬ (1 : Int32) < 0 ∧ ((1 : Int32)).toNatClampNeg < 12)) hZ (hw _ (List.mem_of_getElem? (i := 18) rfl)) (hw _ (List.mem_of_getElem? (i := 3) rfl)) (by decide) (by decide)) (g := (mkF m 401 #[.val (.long q0), .second, .val (.int p1), .val (.int p2), .val (.int p3), .val (.int p4), .val (.ref b8), .val (.int (Int32.ofNat f)), .val (.int (Int32.ofNat t)), .val (.int got), .val (.int (Int32.ofNat (t - f))), .unset, .val (.int sb11)] [(.int (Int32.ofNat t)), (.int (Int32.ofNat f)), (.int (1 : Int32)), (.ref b8), (.int (own_term (0 : Int32) (Int32.ofNat f) (Int32.ofNat t) G))])) rfl (by rw [hml]; rfl) (argsL := [(.ref b8), (.int (1 : Int32)), (.int (Int32.ofNat f)), (.int (Int32.ofNat t))]) (rest := [(.int (own_term (0 : Int32) (Int32.ofNat f) (Int32.ofNat t) G))]) (lenOf own_pd4 rfl) rfl (by show 2 * 0 + _ ≤ _; exact Nat.le_of_eq rfl) (hb hby at_401) (fun _ _ => ⟨rfl, e86, (by decide : 1 + 0 ≤ _), (by decide : 12 + 0 ≤ _)⟩)
          dsimp only [Pt.U, Pt.locs, Pt.cells, Pt.slots] at X87 l87 y87 z87 st87 hQ87
          obtain rfl : k87 = 1 := y87
          obtain rfl : n87 = 12 := z87
          obtain ⟨rfl, N87q, e87⟩ := hQ87
          have N87 : Fr n0 L87 := by rw [l87]; exact Fr.app N86 N87q
          clear l87
          refine own_go (S' := T87.setTop (mkF m 404 #[.val (.long q0), .second, .val (.int p1), .val (.int p2), .val (.int p3), .val (.int p4), .val (.ref b8), .val (.int (Int32.ofNat f)), .val (.int (Int32.ofNat t)), .val (.int got), .val (.int (Int32.ofNat (t - f))), .unset, .val (.int sb11)] [(.int (own_term (1 : Int32) (Int32.ofNat f) (Int32.ofNat t) G)), (.int (own_term (0 : Int32) (Int32.ofNat f) (Int32.ofNat t) G))])) st87 ?_
          obtain ⟨sd1, h_sd1⟩ : ∃ z : Int32, z = ((own_term (0 : Int32) (Int32.ofNat f) (Int32.ofNat t) G) + (own_term (1 : Int32) (Int32.ofNat f) (Int32.ofNat t) G)) := ⟨_, rfl⟩
          refine own_go (S' := T87.setTop (mkF m 405 #[.val (.long q0), .second, .val (.int p1), .val (.int p2), .val (.int p3), .val (.int p4), .val (.ref b8), .val (.int (Int32.ofNat f)), .val (.int (Int32.ofNat t)), .val (.int got), .val (.int (Int32.ofNat (t - f))), .unset, .val (.int sb11)] [(.int sd1)])) (fun target kt => ?_) ?_
          · subst h_sd1
            show Steps p.tables e below (T87.setTop (mkF m 404 #[.val (.long q0), .second, .val (.int p1), .val (.int p2), .val (.int p3), .val (.int p4), .val (.ref b8), .val (.int (Int32.ofNat f)), .val (.int (Int32.ofNat t)), .val (.int got), .val (.int (Int32.ofNat (t - f))), .unset, .val (.int sb11)] [(.int (own_term (1 : Int32) (Int32.ofNat f) (Int32.ofNat t) G)), (.int (own_term (0 : Int32) (Int32.ofNat f) (Int32.ofNat t) G))])) _
            refine XS.iadd X87.here hx rfl (hb hby at_404) rfl ?_
            exact kt
          refine own_go (S' := T87.setTop (mkF m 412 #[.val (.long q0), .second, .val (.int p1), .val (.int p2), .val (.int p3), .val (.int p4), .val (.ref b8), .val (.int (Int32.ofNat f)), .val (.int (Int32.ofNat t)), .val (.int got), .val (.int (Int32.ofNat (t - f))), .unset, .val (.int sb11)] [(.int (Int32.ofNat t)), (.int (Int32.ofNat f)), (.int (2 : Int32)), (.ref b8), (.int sd1)])) (fun target kt => ?_) ?_
          · skip
            show Steps p.tables e below (T87.setTop (mkF m 405 #[.val (.long q0), .second, .val (.int p1), .val (.int p2), .val (.int p3), .val (.int p4), .val (.ref b8), .val (.int (Int32.ofNat f)), .val (.int (Int32.ofNat t)), .val (.int got), .val (.int (Int32.ofNat (t - f))), .unset, .val (.int sb11)] [(.int sd1)])) _
            refine XS.aload X87.here hx rfl (hb hby at_405) rfl rfl ?_
            show Steps p.tables e below (T87.setTop (mkF m 407 #[.val (.long q0), .second, .val (.int p1), .val (.int p2), .val (.int p3), .val (.int p4), .val (.ref b8), .val (.int (Int32.ofNat f)), .val (.int (Int32.ofNat t)), .val (.int got), .val (.int (Int32.ofNat (t - f))), .unset, .val (.int sb11)] [(.ref b8), (.int sd1)])) _
            refine XS.iconst X87.here hx rfl (hb hby at_407) ?_
            show Steps p.tables e below (T87.setTop (mkF m 408 #[.val (.long q0), .second, .val (.int p1), .val (.int p2), .val (.int p3), .val (.int p4), .val (.ref b8), .val (.int (Int32.ofNat f)), .val (.int (Int32.ofNat t)), .val (.int got), .val (.int (Int32.ofNat (t - f))), .unset, .val (.int sb11)] [(.int (2 : Int32)), (.ref b8), (.int sd1)])) _
            refine XS.iload X87.here hx rfl (hb hby at_408) rfl ?_
            show Steps p.tables e below (T87.setTop (mkF m 410 #[.val (.long q0), .second, .val (.int p1), .val (.int p2), .val (.int p3), .val (.int p4), .val (.ref b8), .val (.int (Int32.ofNat f)), .val (.int (Int32.ofNat t)), .val (.int got), .val (.int (Int32.ofNat (t - f))), .unset, .val (.int sb11)] [(.int (Int32.ofNat f)), (.int (2 : Int32)), (.ref b8), (.int sd1)])) _
            refine XS.iload X87.here hx rfl (hb hby at_410) rfl ?_
            exact kt
          obtain ⟨_, _, ⟨T88, L88, k88, n88⟩, -, X88, ⟨Lc88, hQ88, l88, y88, z88⟩, st88⟩ := Jvm.LawKit.callS X87 hx (y := (⟨"com/example/long_walk/longwalk/DecimalNameIndexValuePinLaw", "term", "([BIII)I"⟩ : MethodName)) hown (mvT hZ (hw _ (List.mem_of_getElem? (i := 16) rfl))) (mvT hZ (hw _ (List.mem_of_getElem? (i := 17) rfl))) (mvT hZ (hw _ (List.mem_of_getElem? (i := 3) rfl))) (mvT hZ (hw _ (List.mem_of_getElem? (i := 18) rfl))) (by decide) (backOf (W := 1) (rm5 l Z aZ hw [] b8 (2 : Int32) (Int32.ofNat f) (Int32.ofNat t) G h67 n0 Z67 f68 (⟨by decide, by decide⟩ : ¬ (2 : Int32) < 0 ∧ ((2 : Int32)).toNatClampNeg < 12)) hZ (hw _ (List.mem_of_getElem? (i := 18) rfl)) (hw _ (List.mem_of_getElem? (i := 3) rfl)) (by decide) (by decide)) (g := (mkF m 412 #[.val (.long q0), .second, .val (.int p1), .val (.int p2), .val (.int p3), .val (.int p4), .val (.ref b8), .val (.int (Int32.ofNat f)), .val (.int (Int32.ofNat t)), .val (.int got), .val (.int (Int32.ofNat (t - f))), .unset, .val (.int sb11)] [(.int (Int32.ofNat t)), (.int (Int32.ofNat f)), (.int (2 : Int32)), (.ref b8), (.int sd1)])) rfl (by rw [hml]; rfl) (argsL := [(.ref b8), (.int (2 : Int32)), (.int (Int32.ofNat f)), (.int (Int32.ofNat t))]) (rest := [(.int sd1)]) (lenOf own_pd4 rfl) rfl (by show 2 * 0 + _ ≤ _; exact Nat.le_of_eq rfl) (hb hby at_412) (fun _ _ => ⟨rfl, e87, (by decide : 1 + 0 ≤ _), (by decide : 12 + 0 ≤ _)⟩)
          dsimp only [Pt.U, Pt.locs, Pt.cells, Pt.slots] at X88 l88 y88 z88 st88 hQ88
          obtain rfl : k88 = 1 := y88
          obtain rfl : n88 = 12 := z88
          obtain ⟨rfl, N88q, e88⟩ := hQ88
          have N88 : Fr n0 L88 := by rw [l88]; exact Fr.app N87 N88q
          clear l88
          refine own_go (S' := T88.setTop (mkF m 415 #[.val (.long q0), .second, .val (.int p1), .val (.int p2), .val (.int p3), .val (.int p4), .val (.ref b8), .val (.int (Int32.ofNat f)), .val (.int (Int32.ofNat t)), .val (.int got), .val (.int (Int32.ofNat (t - f))), .unset, .val (.int sb11)] [(.int (own_term (2 : Int32) (Int32.ofNat f) (Int32.ofNat t) G)), (.int sd1)])) st88 ?_
          obtain ⟨sd2, h_sd2⟩ : ∃ z : Int32, z = (sd1 + (own_term (2 : Int32) (Int32.ofNat f) (Int32.ofNat t) G)) := ⟨_, rfl⟩
          refine own_go (S' := T88.setTop (mkF m 416 #[.val (.long q0), .second, .val (.int p1), .val (.int p2), .val (.int p3), .val (.int p4), .val (.ref b8), .val (.int (Int32.ofNat f)), .val (.int (Int32.ofNat t)), .val (.int got), .val (.int (Int32.ofNat (t - f))), .unset, .val (.int sb11)] [(.int sd2)])) (fun target kt => ?_) ?_
          · subst h_sd2
            show Steps p.tables e below (T88.setTop (mkF m 415 #[.val (.long q0), .second, .val (.int p1), .val (.int p2), .val (.int p3), .val (.int p4), .val (.ref b8), .val (.int (Int32.ofNat f)), .val (.int (Int32.ofNat t)), .val (.int got), .val (.int (Int32.ofNat (t - f))), .unset, .val (.int sb11)] [(.int (own_term (2 : Int32) (Int32.ofNat f) (Int32.ofNat t) G)), (.int sd1)])) _
            refine XS.iadd X88.here hx rfl (hb hby at_415) rfl ?_
            exact kt
          refine own_go (S' := T88.setTop (mkF m 423 #[.val (.long q0), .second, .val (.int p1), .val (.int p2), .val (.int p3), .val (.int p4), .val (.ref b8), .val (.int (Int32.ofNat f)), .val (.int (Int32.ofNat t)), .val (.int got), .val (.int (Int32.ofNat (t - f))), .unset, .val (.int sb11)] [(.int (Int32.ofNat t)), (.int (Int32.ofNat f)), (.int (3 : Int32)), (.ref b8), (.int sd2)])) (fun target kt => ?_) ?_
          · skip
            show Steps p.tables e below (T88.setTop (mkF m 416 #[.val (.long q0), .second, .val (.int p1), .val (.int p2), .val (.int p3), .val (.int p4), .val (.ref b8), .val (.int (Int32.ofNat f)), .val (.int (Int32.ofNat t)), .val (.int got), .val (.int (Int32.ofNat (t - f))), .unset, .val (.int sb11)] [(.int sd2)])) _
            refine XS.aload X88.here hx rfl (hb hby at_416) rfl rfl ?_
            show Steps p.tables e below (T88.setTop (mkF m 418 #[.val (.long q0), .second, .val (.int p1), .val (.int p2), .val (.int p3), .val (.int p4), .val (.ref b8), .val (.int (Int32.ofNat f)), .val (.int (Int32.ofNat t)), .val (.int got), .val (.int (Int32.ofNat (t - f))), .unset, .val (.int sb11)] [(.ref b8), (.int sd2)])) _
            refine XS.iconst X88.here hx rfl (hb hby at_418) ?_
            show Steps p.tables e below (T88.setTop (mkF m 419 #[.val (.long q0), .second, .val (.int p1), .val (.int p2), .val (.int p3), .val (.int p4), .val (.ref b8), .val (.int (Int32.ofNat f)), .val (.int (Int32.ofNat t)), .val (.int got), .val (.int (Int32.ofNat (t - f))), .unset, .val (.int sb11)] [(.int (3 : Int32)), (.ref b8), (.int sd2)])) _
            refine XS.iload X88.here hx rfl (hb hby at_419) rfl ?_
            show Steps p.tables e below (T88.setTop (mkF m 421 #[.val (.long q0), .second, .val (.int p1), .val (.int p2), .val (.int p3), .val (.int p4), .val (.ref b8), .val (.int (Int32.ofNat f)), .val (.int (Int32.ofNat t)), .val (.int got), .val (.int (Int32.ofNat (t - f))), .unset, .val (.int sb11)] [(.int (Int32.ofNat f)), (.int (3 : Int32)), (.ref b8), (.int sd2)])) _
            refine XS.iload X88.here hx rfl (hb hby at_421) rfl ?_
            exact kt
          obtain ⟨_, _, ⟨T89, L89, k89, n89⟩, -, X89, ⟨Lc89, hQ89, l89, y89, z89⟩, st89⟩ := Jvm.LawKit.callS X88 hx (y := (⟨"com/example/long_walk/longwalk/DecimalNameIndexValuePinLaw", "term", "([BIII)I"⟩ : MethodName)) hown (mvT hZ (hw _ (List.mem_of_getElem? (i := 16) rfl))) (mvT hZ (hw _ (List.mem_of_getElem? (i := 17) rfl))) (mvT hZ (hw _ (List.mem_of_getElem? (i := 3) rfl))) (mvT hZ (hw _ (List.mem_of_getElem? (i := 18) rfl))) (by decide) (backOf (W := 1) (rm5 l Z aZ hw [] b8 (3 : Int32) (Int32.ofNat f) (Int32.ofNat t) G h67 n0 Z67 f68 (⟨by decide, by decide⟩ : ¬ (3 : Int32) < 0 ∧ ((3 : Int32)).toNatClampNeg < 12)) hZ (hw _ (List.mem_of_getElem? (i := 18) rfl)) (hw _ (List.mem_of_getElem? (i := 3) rfl)) (by decide) (by decide)) (g := (mkF m 423 #[.val (.long q0), .second, .val (.int p1), .val (.int p2), .val (.int p3), .val (.int p4), .val (.ref b8), .val (.int (Int32.ofNat f)), .val (.int (Int32.ofNat t)), .val (.int got), .val (.int (Int32.ofNat (t - f))), .unset, .val (.int sb11)] [(.int (Int32.ofNat t)), (.int (Int32.ofNat f)), (.int (3 : Int32)), (.ref b8), (.int sd2)])) rfl (by rw [hml]; rfl) (argsL := [(.ref b8), (.int (3 : Int32)), (.int (Int32.ofNat f)), (.int (Int32.ofNat t))]) (rest := [(.int sd2)]) (lenOf own_pd4 rfl) rfl (by show 2 * 0 + _ ≤ _; exact Nat.le_of_eq rfl) (hb hby at_423) (fun _ _ => ⟨rfl, e88, (by decide : 1 + 0 ≤ _), (by decide : 12 + 0 ≤ _)⟩)
          dsimp only [Pt.U, Pt.locs, Pt.cells, Pt.slots] at X89 l89 y89 z89 st89 hQ89
          obtain rfl : k89 = 1 := y89
          obtain rfl : n89 = 12 := z89
          obtain ⟨rfl, N89q, e89⟩ := hQ89
          have N89 : Fr n0 L89 := by rw [l89]; exact Fr.app N88 N89q
          clear l89
          refine own_go (S' := T89.setTop (mkF m 426 #[.val (.long q0), .second, .val (.int p1), .val (.int p2), .val (.int p3), .val (.int p4), .val (.ref b8), .val (.int (Int32.ofNat f)), .val (.int (Int32.ofNat t)), .val (.int got), .val (.int (Int32.ofNat (t - f))), .unset, .val (.int sb11)] [(.int (own_term (3 : Int32) (Int32.ofNat f) (Int32.ofNat t) G)), (.int sd2)])) st89 ?_
          obtain ⟨sd3, h_sd3⟩ : ∃ z : Int32, z = (sd2 + (own_term (3 : Int32) (Int32.ofNat f) (Int32.ofNat t) G)) := ⟨_, rfl⟩
          refine own_go (S' := T89.setTop (mkF m 427 #[.val (.long q0), .second, .val (.int p1), .val (.int p2), .val (.int p3), .val (.int p4), .val (.ref b8), .val (.int (Int32.ofNat f)), .val (.int (Int32.ofNat t)), .val (.int got), .val (.int (Int32.ofNat (t - f))), .unset, .val (.int sb11)] [(.int sd3)])) (fun target kt => ?_) ?_
          · subst h_sd3
            show Steps p.tables e below (T89.setTop (mkF m 426 #[.val (.long q0), .second, .val (.int p1), .val (.int p2), .val (.int p3), .val (.int p4), .val (.ref b8), .val (.int (Int32.ofNat f)), .val (.int (Int32.ofNat t)), .val (.int got), .val (.int (Int32.ofNat (t - f))), .unset, .val (.int sb11)] [(.int (own_term (3 : Int32) (Int32.ofNat f) (Int32.ofNat t) G)), (.int sd2)])) _
            refine XS.iadd X89.here hx rfl (hb hby at_426) rfl ?_
            exact kt
          refine own_go (S' := T89.setTop (mkF m 434 #[.val (.long q0), .second, .val (.int p1), .val (.int p2), .val (.int p3), .val (.int p4), .val (.ref b8), .val (.int (Int32.ofNat f)), .val (.int (Int32.ofNat t)), .val (.int got), .val (.int (Int32.ofNat (t - f))), .unset, .val (.int sb11)] [(.int (Int32.ofNat t)), (.int (Int32.ofNat f)), (.int (4 : Int32)), (.ref b8), (.int sd3)])) (fun target kt => ?_) ?_
          · skip
            show Steps p.tables e below (T89.setTop (mkF m 427 #[.val (.long q0), .second, .val (.int p1), .val (.int p2), .val (.int p3), .val (.int p4), .val (.ref b8), .val (.int (Int32.ofNat f)), .val (.int (Int32.ofNat t)), .val (.int got), .val (.int (Int32.ofNat (t - f))), .unset, .val (.int sb11)] [(.int sd3)])) _
            refine XS.aload X89.here hx rfl (hb hby at_427) rfl rfl ?_
            show Steps p.tables e below (T89.setTop (mkF m 429 #[.val (.long q0), .second, .val (.int p1), .val (.int p2), .val (.int p3), .val (.int p4), .val (.ref b8), .val (.int (Int32.ofNat f)), .val (.int (Int32.ofNat t)), .val (.int got), .val (.int (Int32.ofNat (t - f))), .unset, .val (.int sb11)] [(.ref b8), (.int sd3)])) _
            refine XS.iconst X89.here hx rfl (hb hby at_429) ?_
            show Steps p.tables e below (T89.setTop (mkF m 430 #[.val (.long q0), .second, .val (.int p1), .val (.int p2), .val (.int p3), .val (.int p4), .val (.ref b8), .val (.int (Int32.ofNat f)), .val (.int (Int32.ofNat t)), .val (.int got), .val (.int (Int32.ofNat (t - f))), .unset, .val (.int sb11)] [(.int (4 : Int32)), (.ref b8), (.int sd3)])) _
            refine XS.iload X89.here hx rfl (hb hby at_430) rfl ?_
            show Steps p.tables e below (T89.setTop (mkF m 432 #[.val (.long q0), .second, .val (.int p1), .val (.int p2), .val (.int p3), .val (.int p4), .val (.ref b8), .val (.int (Int32.ofNat f)), .val (.int (Int32.ofNat t)), .val (.int got), .val (.int (Int32.ofNat (t - f))), .unset, .val (.int sb11)] [(.int (Int32.ofNat f)), (.int (4 : Int32)), (.ref b8), (.int sd3)])) _
            refine XS.iload X89.here hx rfl (hb hby at_432) rfl ?_
            exact kt
          obtain ⟨_, _, ⟨T90, L90, k90, n90⟩, -, X90, ⟨Lc90, hQ90, l90, y90, z90⟩, st90⟩ := Jvm.LawKit.callS X89 hx (y := (⟨"com/example/long_walk/longwalk/DecimalNameIndexValuePinLaw", "term", "([BIII)I"⟩ : MethodName)) hown (mvT hZ (hw _ (List.mem_of_getElem? (i := 16) rfl))) (mvT hZ (hw _ (List.mem_of_getElem? (i := 17) rfl))) (mvT hZ (hw _ (List.mem_of_getElem? (i := 3) rfl))) (mvT hZ (hw _ (List.mem_of_getElem? (i := 18) rfl))) (by decide) (backOf (W := 1) (rm5 l Z aZ hw [] b8 (4 : Int32) (Int32.ofNat f) (Int32.ofNat t) G h67 n0 Z67 f68 (⟨by decide, by decide⟩ : ¬ (4 : Int32) < 0 ∧ ((4 : Int32)).toNatClampNeg < 12)) hZ (hw _ (List.mem_of_getElem? (i := 18) rfl)) (hw _ (List.mem_of_getElem? (i := 3) rfl)) (by decide) (by decide)) (g := (mkF m 434 #[.val (.long q0), .second, .val (.int p1), .val (.int p2), .val (.int p3), .val (.int p4), .val (.ref b8), .val (.int (Int32.ofNat f)), .val (.int (Int32.ofNat t)), .val (.int got), .val (.int (Int32.ofNat (t - f))), .unset, .val (.int sb11)] [(.int (Int32.ofNat t)), (.int (Int32.ofNat f)), (.int (4 : Int32)), (.ref b8), (.int sd3)])) rfl (by rw [hml]; rfl) (argsL := [(.ref b8), (.int (4 : Int32)), (.int (Int32.ofNat f)), (.int (Int32.ofNat t))]) (rest := [(.int sd3)]) (lenOf own_pd4 rfl) rfl (by show 2 * 0 + _ ≤ _; exact Nat.le_of_eq rfl) (hb hby at_434) (fun _ _ => ⟨rfl, e89, (by decide : 1 + 0 ≤ _), (by decide : 12 + 0 ≤ _)⟩)
          dsimp only [Pt.U, Pt.locs, Pt.cells, Pt.slots] at X90 l90 y90 z90 st90 hQ90
          obtain rfl : k90 = 1 := y90
          obtain rfl : n90 = 12 := z90
          obtain ⟨rfl, N90q, e90⟩ := hQ90
          have N90 : Fr n0 L90 := by rw [l90]; exact Fr.app N89 N90q
          clear l90
          refine own_go (S' := T90.setTop (mkF m 437 #[.val (.long q0), .second, .val (.int p1), .val (.int p2), .val (.int p3), .val (.int p4), .val (.ref b8), .val (.int (Int32.ofNat f)), .val (.int (Int32.ofNat t)), .val (.int got), .val (.int (Int32.ofNat (t - f))), .unset, .val (.int sb11)] [(.int (own_term (4 : Int32) (Int32.ofNat f) (Int32.ofNat t) G)), (.int sd3)])) st90 ?_
          obtain ⟨sd4, h_sd4⟩ : ∃ z : Int32, z = (sd3 + (own_term (4 : Int32) (Int32.ofNat f) (Int32.ofNat t) G)) := ⟨_, rfl⟩
          refine own_go (S' := T90.setTop (mkF m 438 #[.val (.long q0), .second, .val (.int p1), .val (.int p2), .val (.int p3), .val (.int p4), .val (.ref b8), .val (.int (Int32.ofNat f)), .val (.int (Int32.ofNat t)), .val (.int got), .val (.int (Int32.ofNat (t - f))), .unset, .val (.int sb11)] [(.int sd4)])) (fun target kt => ?_) ?_
          · subst h_sd4
            show Steps p.tables e below (T90.setTop (mkF m 437 #[.val (.long q0), .second, .val (.int p1), .val (.int p2), .val (.int p3), .val (.int p4), .val (.ref b8), .val (.int (Int32.ofNat f)), .val (.int (Int32.ofNat t)), .val (.int got), .val (.int (Int32.ofNat (t - f))), .unset, .val (.int sb11)] [(.int (own_term (4 : Int32) (Int32.ofNat f) (Int32.ofNat t) G)), (.int sd3)])) _
            refine XS.iadd X90.here hx rfl (hb hby at_437) rfl ?_
            exact kt
          refine own_go (S' := T90.setTop (mkF m 445 #[.val (.long q0), .second, .val (.int p1), .val (.int p2), .val (.int p3), .val (.int p4), .val (.ref b8), .val (.int (Int32.ofNat f)), .val (.int (Int32.ofNat t)), .val (.int got), .val (.int (Int32.ofNat (t - f))), .unset, .val (.int sb11)] [(.int (Int32.ofNat t)), (.int (Int32.ofNat f)), (.int (5 : Int32)), (.ref b8), (.int sd4)])) (fun target kt => ?_) ?_
          · skip
            show Steps p.tables e below (T90.setTop (mkF m 438 #[.val (.long q0), .second, .val (.int p1), .val (.int p2), .val (.int p3), .val (.int p4), .val (.ref b8), .val (.int (Int32.ofNat f)), .val (.int (Int32.ofNat t)), .val (.int got), .val (.int (Int32.ofNat (t - f))), .unset, .val (.int sb11)] [(.int sd4)])) _
            refine XS.aload X90.here hx rfl (hb hby at_438) rfl rfl ?_
            show Steps p.tables e below (T90.setTop (mkF m 440 #[.val (.long q0), .second, .val (.int p1), .val (.int p2), .val (.int p3), .val (.int p4), .val (.ref b8), .val (.int (Int32.ofNat f)), .val (.int (Int32.ofNat t)), .val (.int got), .val (.int (Int32.ofNat (t - f))), .unset, .val (.int sb11)] [(.ref b8), (.int sd4)])) _
            refine XS.iconst X90.here hx rfl (hb hby at_440) ?_
            show Steps p.tables e below (T90.setTop (mkF m 441 #[.val (.long q0), .second, .val (.int p1), .val (.int p2), .val (.int p3), .val (.int p4), .val (.ref b8), .val (.int (Int32.ofNat f)), .val (.int (Int32.ofNat t)), .val (.int got), .val (.int (Int32.ofNat (t - f))), .unset, .val (.int sb11)] [(.int (5 : Int32)), (.ref b8), (.int sd4)])) _
            refine XS.iload X90.here hx rfl (hb hby at_441) rfl ?_
            show Steps p.tables e below (T90.setTop (mkF m 443 #[.val (.long q0), .second, .val (.int p1), .val (.int p2), .val (.int p3), .val (.int p4), .val (.ref b8), .val (.int (Int32.ofNat f)), .val (.int (Int32.ofNat t)), .val (.int got), .val (.int (Int32.ofNat (t - f))), .unset, .val (.int sb11)] [(.int (Int32.ofNat f)), (.int (5 : Int32)), (.ref b8), (.int sd4)])) _
            refine XS.iload X90.here hx rfl (hb hby at_443) rfl ?_
            exact kt
          obtain ⟨_, _, ⟨T91, L91, k91, n91⟩, -, X91, ⟨Lc91, hQ91, l91, y91, z91⟩, st91⟩ := Jvm.LawKit.callS X90 hx (y := (⟨"com/example/long_walk/longwalk/DecimalNameIndexValuePinLaw", "term", "([BIII)I"⟩ : MethodName)) hown (mvT hZ (hw _ (List.mem_of_getElem? (i := 16) rfl))) (mvT hZ (hw _ (List.mem_of_getElem? (i := 17) rfl))) (mvT hZ (hw _ (List.mem_of_getElem? (i := 3) rfl))) (mvT hZ (hw _ (List.mem_of_getElem? (i := 18) rfl))) (by decide) (backOf (W := 1) (rm5 l Z aZ hw [] b8 (5 : Int32) (Int32.ofNat f) (Int32.ofNat t) G h67 n0 Z67 f68 (⟨by decide, by decide⟩ : ¬ (5 : Int32) < 0 ∧ ((5 : Int32)).toNatClampNeg < 12)) hZ (hw _ (List.mem_of_getElem? (i := 18) rfl)) (hw _ (List.mem_of_getElem? (i := 3) rfl)) (by decide) (by decide)) (g := (mkF m 445 #[.val (.long q0), .second, .val (.int p1), .val (.int p2), .val (.int p3), .val (.int p4), .val (.ref b8), .val (.int (Int32.ofNat f)), .val (.int (Int32.ofNat t)), .val (.int got), .val (.int (Int32.ofNat (t - f))), .unset, .val (.int sb11)] [(.int (Int32.ofNat t)), (.int (Int32.ofNat f)), (.int (5 : Int32)), (.ref b8), (.int sd4)])) rfl (by rw [hml]; rfl) (argsL := [(.ref b8), (.int (5 : Int32)), (.int (Int32.ofNat f)), (.int (Int32.ofNat t))]) (rest := [(.int sd4)]) (lenOf own_pd4 rfl) rfl (by show 2 * 0 + _ ≤ _; exact Nat.le_of_eq rfl) (hb hby at_445) (fun _ _ => ⟨rfl, e90, (by decide : 1 + 0 ≤ _), (by decide : 12 + 0 ≤ _)⟩)
          dsimp only [Pt.U, Pt.locs, Pt.cells, Pt.slots] at X91 l91 y91 z91 st91 hQ91
          obtain rfl : k91 = 1 := y91
          obtain rfl : n91 = 12 := z91
          obtain ⟨rfl, N91q, e91⟩ := hQ91
          have N91 : Fr n0 L91 := by rw [l91]; exact Fr.app N90 N91q
          clear l91
          refine own_go (S' := T91.setTop (mkF m 448 #[.val (.long q0), .second, .val (.int p1), .val (.int p2), .val (.int p3), .val (.int p4), .val (.ref b8), .val (.int (Int32.ofNat f)), .val (.int (Int32.ofNat t)), .val (.int got), .val (.int (Int32.ofNat (t - f))), .unset, .val (.int sb11)] [(.int (own_term (5 : Int32) (Int32.ofNat f) (Int32.ofNat t) G)), (.int sd4)])) st91 ?_
          obtain ⟨sd5, h_sd5⟩ : ∃ z : Int32, z = (sd4 + (own_term (5 : Int32) (Int32.ofNat f) (Int32.ofNat t) G)) := ⟨_, rfl⟩
          refine own_go (S' := T91.setTop (mkF m 449 #[.val (.long q0), .second, .val (.int p1), .val (.int p2), .val (.int p3), .val (.int p4), .val (.ref b8), .val (.int (Int32.ofNat f)), .val (.int (Int32.ofNat t)), .val (.int got), .val (.int (Int32.ofNat (t - f))), .unset, .val (.int sb11)] [(.int sd5)])) (fun target kt => ?_) ?_
          · subst h_sd5
            show Steps p.tables e below (T91.setTop (mkF m 448 #[.val (.long q0), .second, .val (.int p1), .val (.int p2), .val (.int p3), .val (.int p4), .val (.ref b8), .val (.int (Int32.ofNat f)), .val (.int (Int32.ofNat t)), .val (.int got), .val (.int (Int32.ofNat (t - f))), .unset, .val (.int sb11)] [(.int (own_term (5 : Int32) (Int32.ofNat f) (Int32.ofNat t) G)), (.int sd4)])) _
            refine XS.iadd X91.here hx rfl (hb hby at_448) rfl ?_
            exact kt
          refine own_go (S' := T91.setTop (mkF m 457 #[.val (.long q0), .second, .val (.int p1), .val (.int p2), .val (.int p3), .val (.int p4), .val (.ref b8), .val (.int (Int32.ofNat f)), .val (.int (Int32.ofNat t)), .val (.int got), .val (.int (Int32.ofNat (t - f))), .unset, .val (.int sb11)] [(.int (Int32.ofNat t)), (.int (Int32.ofNat f)), (.int (6 : Int32)), (.ref b8), (.int sd5)])) (fun target kt => ?_) ?_
          · skip
            show Steps p.tables e below (T91.setTop (mkF m 449 #[.val (.long q0), .second, .val (.int p1), .val (.int p2), .val (.int p3), .val (.int p4), .val (.ref b8), .val (.int (Int32.ofNat f)), .val (.int (Int32.ofNat t)), .val (.int got), .val (.int (Int32.ofNat (t - f))), .unset, .val (.int sb11)] [(.int sd5)])) _
            refine XS.aload X91.here hx rfl (hb hby at_449) rfl rfl ?_
            show Steps p.tables e below (T91.setTop (mkF m 451 #[.val (.long q0), .second, .val (.int p1), .val (.int p2), .val (.int p3), .val (.int p4), .val (.ref b8), .val (.int (Int32.ofNat f)), .val (.int (Int32.ofNat t)), .val (.int got), .val (.int (Int32.ofNat (t - f))), .unset, .val (.int sb11)] [(.ref b8), (.int sd5)])) _
            refine XS.bipush X91.here hx rfl (hb hby at_451) ?_
            show Steps p.tables e below (T91.setTop (mkF m 453 #[.val (.long q0), .second, .val (.int p1), .val (.int p2), .val (.int p3), .val (.int p4), .val (.ref b8), .val (.int (Int32.ofNat f)), .val (.int (Int32.ofNat t)), .val (.int got), .val (.int (Int32.ofNat (t - f))), .unset, .val (.int sb11)] [(.int (6 : Int32)), (.ref b8), (.int sd5)])) _
            refine XS.iload X91.here hx rfl (hb hby at_453) rfl ?_
            show Steps p.tables e below (T91.setTop (mkF m 455 #[.val (.long q0), .second, .val (.int p1), .val (.int p2), .val (.int p3), .val (.int p4), .val (.ref b8), .val (.int (Int32.ofNat f)), .val (.int (Int32.ofNat t)), .val (.int got), .val (.int (Int32.ofNat (t - f))), .unset, .val (.int sb11)] [(.int (Int32.ofNat f)), (.int (6 : Int32)), (.ref b8), (.int sd5)])) _
            refine XS.iload X91.here hx rfl (hb hby at_455) rfl ?_
            exact kt
          obtain ⟨_, _, ⟨T92, L92, k92, n92⟩, -, X92, ⟨Lc92, hQ92, l92, y92, z92⟩, st92⟩ := Jvm.LawKit.callS X91 hx (y := (⟨"com/example/long_walk/longwalk/DecimalNameIndexValuePinLaw", "term", "([BIII)I"⟩ : MethodName)) hown (mvT hZ (hw _ (List.mem_of_getElem? (i := 16) rfl))) (mvT hZ (hw _ (List.mem_of_getElem? (i := 17) rfl))) (mvT hZ (hw _ (List.mem_of_getElem? (i := 3) rfl))) (mvT hZ (hw _ (List.mem_of_getElem? (i := 18) rfl))) (by decide) (backOf (W := 1) (rm5 l Z aZ hw [] b8 (6 : Int32) (Int32.ofNat f) (Int32.ofNat t) G h67 n0 Z67 f68 (⟨by decide, by decide⟩ : ¬ (6 : Int32) < 0 ∧ ((6 : Int32)).toNatClampNeg < 12)) hZ (hw _ (List.mem_of_getElem? (i := 18) rfl)) (hw _ (List.mem_of_getElem? (i := 3) rfl)) (by decide) (by decide)) (g := (mkF m 457 #[.val (.long q0), .second, .val (.int p1), .val (.int p2), .val (.int p3), .val (.int p4), .val (.ref b8), .val (.int (Int32.ofNat f)), .val (.int (Int32.ofNat t)), .val (.int got), .val (.int (Int32.ofNat (t - f))), .unset, .val (.int sb11)] [(.int (Int32.ofNat t)), (.int (Int32.ofNat f)), (.int (6 : Int32)), (.ref b8), (.int sd5)])) rfl (by rw [hml]; rfl) (argsL := [(.ref b8), (.int (6 : Int32)), (.int (Int32.ofNat f)), (.int (Int32.ofNat t))]) (rest := [(.int sd5)]) (lenOf own_pd4 rfl) rfl (by show 2 * 0 + _ ≤ _; exact Nat.le_of_eq rfl) (hb hby at_457) (fun _ _ => ⟨rfl, e91, (by decide : 1 + 0 ≤ _), (by decide : 12 + 0 ≤ _)⟩)
          dsimp only [Pt.U, Pt.locs, Pt.cells, Pt.slots] at X92 l92 y92 z92 st92 hQ92
          obtain rfl : k92 = 1 := y92
          obtain rfl : n92 = 12 := z92
          obtain ⟨rfl, N92q, e92⟩ := hQ92
          have N92 : Fr n0 L92 := by rw [l92]; exact Fr.app N91 N92q
          clear l92
          refine own_go (S' := T92.setTop (mkF m 460 #[.val (.long q0), .second, .val (.int p1), .val (.int p2), .val (.int p3), .val (.int p4), .val (.ref b8), .val (.int (Int32.ofNat f)), .val (.int (Int32.ofNat t)), .val (.int got), .val (.int (Int32.ofNat (t - f))), .unset, .val (.int sb11)] [(.int (own_term (6 : Int32) (Int32.ofNat f) (Int32.ofNat t) G)), (.int sd5)])) st92 ?_
          obtain ⟨sd6, h_sd6⟩ : ∃ z : Int32, z = (sd5 + (own_term (6 : Int32) (Int32.ofNat f) (Int32.ofNat t) G)) := ⟨_, rfl⟩
          refine own_go (S' := T92.setTop (mkF m 461 #[.val (.long q0), .second, .val (.int p1), .val (.int p2), .val (.int p3), .val (.int p4), .val (.ref b8), .val (.int (Int32.ofNat f)), .val (.int (Int32.ofNat t)), .val (.int got), .val (.int (Int32.ofNat (t - f))), .unset, .val (.int sb11)] [(.int sd6)])) (fun target kt => ?_) ?_
          · subst h_sd6
            show Steps p.tables e below (T92.setTop (mkF m 460 #[.val (.long q0), .second, .val (.int p1), .val (.int p2), .val (.int p3), .val (.int p4), .val (.ref b8), .val (.int (Int32.ofNat f)), .val (.int (Int32.ofNat t)), .val (.int got), .val (.int (Int32.ofNat (t - f))), .unset, .val (.int sb11)] [(.int (own_term (6 : Int32) (Int32.ofNat f) (Int32.ofNat t) G)), (.int sd5)])) _
            refine XS.iadd X92.here hx rfl (hb hby at_460) rfl ?_
            exact kt
          refine own_go (S' := T92.setTop (mkF m 469 #[.val (.long q0), .second, .val (.int p1), .val (.int p2), .val (.int p3), .val (.int p4), .val (.ref b8), .val (.int (Int32.ofNat f)), .val (.int (Int32.ofNat t)), .val (.int got), .val (.int (Int32.ofNat (t - f))), .unset, .val (.int sb11)] [(.int (Int32.ofNat t)), (.int (Int32.ofNat f)), (.int (7 : Int32)), (.ref b8), (.int sd6)])) (fun target kt => ?_) ?_
          · skip
            show Steps p.tables e below (T92.setTop (mkF m 461 #[.val (.long q0), .second, .val (.int p1), .val (.int p2), .val (.int p3), .val (.int p4), .val (.ref b8), .val (.int (Int32.ofNat f)), .val (.int (Int32.ofNat t)), .val (.int got), .val (.int (Int32.ofNat (t - f))), .unset, .val (.int sb11)] [(.int sd6)])) _
            refine XS.aload X92.here hx rfl (hb hby at_461) rfl rfl ?_
            show Steps p.tables e below (T92.setTop (mkF m 463 #[.val (.long q0), .second, .val (.int p1), .val (.int p2), .val (.int p3), .val (.int p4), .val (.ref b8), .val (.int (Int32.ofNat f)), .val (.int (Int32.ofNat t)), .val (.int got), .val (.int (Int32.ofNat (t - f))), .unset, .val (.int sb11)] [(.ref b8), (.int sd6)])) _
            refine XS.bipush X92.here hx rfl (hb hby at_463) ?_
            show Steps p.tables e below (T92.setTop (mkF m 465 #[.val (.long q0), .second, .val (.int p1), .val (.int p2), .val (.int p3), .val (.int p4), .val (.ref b8), .val (.int (Int32.ofNat f)), .val (.int (Int32.ofNat t)), .val (.int got), .val (.int (Int32.ofNat (t - f))), .unset, .val (.int sb11)] [(.int (7 : Int32)), (.ref b8), (.int sd6)])) _
            refine XS.iload X92.here hx rfl (hb hby at_465) rfl ?_
            show Steps p.tables e below (T92.setTop (mkF m 467 #[.val (.long q0), .second, .val (.int p1), .val (.int p2), .val (.int p3), .val (.int p4), .val (.ref b8), .val (.int (Int32.ofNat f)), .val (.int (Int32.ofNat t)), .val (.int got), .val (.int (Int32.ofNat (t - f))), .unset, .val (.int sb11)] [(.int (Int32.ofNat f)), (.int (7 : Int32)), (.ref b8), (.int sd6)])) _
            refine XS.iload X92.here hx rfl (hb hby at_467) rfl ?_
            exact kt
          obtain ⟨_, _, ⟨T93, L93, k93, n93⟩, -, X93, ⟨Lc93, hQ93, l93, y93, z93⟩, st93⟩ := Jvm.LawKit.callS X92 hx (y := (⟨"com/example/long_walk/longwalk/DecimalNameIndexValuePinLaw", "term", "([BIII)I"⟩ : MethodName)) hown (mvT hZ (hw _ (List.mem_of_getElem? (i := 16) rfl))) (mvT hZ (hw _ (List.mem_of_getElem? (i := 17) rfl))) (mvT hZ (hw _ (List.mem_of_getElem? (i := 3) rfl))) (mvT hZ (hw _ (List.mem_of_getElem? (i := 18) rfl))) (by decide) (backOf (W := 1) (rm5 l Z aZ hw [] b8 (7 : Int32) (Int32.ofNat f) (Int32.ofNat t) G h67 n0 Z67 f68 (⟨by decide, by decide⟩ : ¬ (7 : Int32) < 0 ∧ ((7 : Int32)).toNatClampNeg < 12)) hZ (hw _ (List.mem_of_getElem? (i := 18) rfl)) (hw _ (List.mem_of_getElem? (i := 3) rfl)) (by decide) (by decide)) (g := (mkF m 469 #[.val (.long q0), .second, .val (.int p1), .val (.int p2), .val (.int p3), .val (.int p4), .val (.ref b8), .val (.int (Int32.ofNat f)), .val (.int (Int32.ofNat t)), .val (.int got), .val (.int (Int32.ofNat (t - f))), .unset, .val (.int sb11)] [(.int (Int32.ofNat t)), (.int (Int32.ofNat f)), (.int (7 : Int32)), (.ref b8), (.int sd6)])) rfl (by rw [hml]; rfl) (argsL := [(.ref b8), (.int (7 : Int32)), (.int (Int32.ofNat f)), (.int (Int32.ofNat t))]) (rest := [(.int sd6)]) (lenOf own_pd4 rfl) rfl (by show 2 * 0 + _ ≤ _; exact Nat.le_of_eq rfl) (hb hby at_469) (fun _ _ => ⟨rfl, e92, (by decide : 1 + 0 ≤ _), (by decide : 12 + 0 ≤ _)⟩)
          dsimp only [Pt.U, Pt.locs, Pt.cells, Pt.slots] at X93 l93 y93 z93 st93 hQ93
          obtain rfl : k93 = 1 := y93
          obtain rfl : n93 = 12 := z93
          obtain ⟨rfl, N93q, e93⟩ := hQ93
          have N93 : Fr n0 L93 := by rw [l93]; exact Fr.app N92 N93q
          clear l93
          refine own_go (S' := T93.setTop (mkF m 472 #[.val (.long q0), .second, .val (.int p1), .val (.int p2), .val (.int p3), .val (.int p4), .val (.ref b8), .val (.int (Int32.ofNat f)), .val (.int (Int32.ofNat t)), .val (.int got), .val (.int (Int32.ofNat (t - f))), .unset, .val (.int sb11)] [(.int (own_term (7 : Int32) (Int32.ofNat f) (Int32.ofNat t) G)), (.int sd6)])) st93 ?_
          obtain ⟨sd7, h_sd7⟩ : ∃ z : Int32, z = (sd6 + (own_term (7 : Int32) (Int32.ofNat f) (Int32.ofNat t) G)) := ⟨_, rfl⟩
          refine own_go (S' := T93.setTop (mkF m 473 #[.val (.long q0), .second, .val (.int p1), .val (.int p2), .val (.int p3), .val (.int p4), .val (.ref b8), .val (.int (Int32.ofNat f)), .val (.int (Int32.ofNat t)), .val (.int got), .val (.int (Int32.ofNat (t - f))), .unset, .val (.int sb11)] [(.int sd7)])) (fun target kt => ?_) ?_
          · subst h_sd7
            show Steps p.tables e below (T93.setTop (mkF m 472 #[.val (.long q0), .second, .val (.int p1), .val (.int p2), .val (.int p3), .val (.int p4), .val (.ref b8), .val (.int (Int32.ofNat f)), .val (.int (Int32.ofNat t)), .val (.int got), .val (.int (Int32.ofNat (t - f))), .unset, .val (.int sb11)] [(.int (own_term (7 : Int32) (Int32.ofNat f) (Int32.ofNat t) G)), (.int sd6)])) _
            refine XS.iadd X93.here hx rfl (hb hby at_472) rfl ?_
            exact kt
          refine own_go (S' := T93.setTop (mkF m 481 #[.val (.long q0), .second, .val (.int p1), .val (.int p2), .val (.int p3), .val (.int p4), .val (.ref b8), .val (.int (Int32.ofNat f)), .val (.int (Int32.ofNat t)), .val (.int got), .val (.int (Int32.ofNat (t - f))), .unset, .val (.int sb11)] [(.int (Int32.ofNat t)), (.int (Int32.ofNat f)), (.int (8 : Int32)), (.ref b8), (.int sd7)])) (fun target kt => ?_) ?_
          · skip
            show Steps p.tables e below (T93.setTop (mkF m 473 #[.val (.long q0), .second, .val (.int p1), .val (.int p2), .val (.int p3), .val (.int p4), .val (.ref b8), .val (.int (Int32.ofNat f)), .val (.int (Int32.ofNat t)), .val (.int got), .val (.int (Int32.ofNat (t - f))), .unset, .val (.int sb11)] [(.int sd7)])) _
            refine XS.aload X93.here hx rfl (hb hby at_473) rfl rfl ?_
            show Steps p.tables e below (T93.setTop (mkF m 475 #[.val (.long q0), .second, .val (.int p1), .val (.int p2), .val (.int p3), .val (.int p4), .val (.ref b8), .val (.int (Int32.ofNat f)), .val (.int (Int32.ofNat t)), .val (.int got), .val (.int (Int32.ofNat (t - f))), .unset, .val (.int sb11)] [(.ref b8), (.int sd7)])) _
            refine XS.bipush X93.here hx rfl (hb hby at_475) ?_
            show Steps p.tables e below (T93.setTop (mkF m 477 #[.val (.long q0), .second, .val (.int p1), .val (.int p2), .val (.int p3), .val (.int p4), .val (.ref b8), .val (.int (Int32.ofNat f)), .val (.int (Int32.ofNat t)), .val (.int got), .val (.int (Int32.ofNat (t - f))), .unset, .val (.int sb11)] [(.int (8 : Int32)), (.ref b8), (.int sd7)])) _
            refine XS.iload X93.here hx rfl (hb hby at_477) rfl ?_
            show Steps p.tables e below (T93.setTop (mkF m 479 #[.val (.long q0), .second, .val (.int p1), .val (.int p2), .val (.int p3), .val (.int p4), .val (.ref b8), .val (.int (Int32.ofNat f)), .val (.int (Int32.ofNat t)), .val (.int got), .val (.int (Int32.ofNat (t - f))), .unset, .val (.int sb11)] [(.int (Int32.ofNat f)), (.int (8 : Int32)), (.ref b8), (.int sd7)])) _
            refine XS.iload X93.here hx rfl (hb hby at_479) rfl ?_
            exact kt
          obtain ⟨_, _, ⟨T94, L94, k94, n94⟩, -, X94, ⟨Lc94, hQ94, l94, y94, z94⟩, st94⟩ := Jvm.LawKit.callS X93 hx (y := (⟨"com/example/long_walk/longwalk/DecimalNameIndexValuePinLaw", "term", "([BIII)I"⟩ : MethodName)) hown (mvT hZ (hw _ (List.mem_of_getElem? (i := 16) rfl))) (mvT hZ (hw _ (List.mem_of_getElem? (i := 17) rfl))) (mvT hZ (hw _ (List.mem_of_getElem? (i := 3) rfl))) (mvT hZ (hw _ (List.mem_of_getElem? (i := 18) rfl))) (by decide) (backOf (W := 1) (rm5 l Z aZ hw [] b8 (8 : Int32) (Int32.ofNat f) (Int32.ofNat t) G h67 n0 Z67 f68 (⟨by decide, by decide⟩ : ¬ (8 : Int32) < 0 ∧ ((8 : Int32)).toNatClampNeg < 12)) hZ (hw _ (List.mem_of_getElem? (i := 18) rfl)) (hw _ (List.mem_of_getElem? (i := 3) rfl)) (by decide) (by decide)) (g := (mkF m 481 #[.val (.long q0), .second, .val (.int p1), .val (.int p2), .val (.int p3), .val (.int p4), .val (.ref b8), .val (.int (Int32.ofNat f)), .val (.int (Int32.ofNat t)), .val (.int got), .val (.int (Int32.ofNat (t - f))), .unset, .val (.int sb11)] [(.int (Int32.ofNat t)), (.int (Int32.ofNat f)), (.int (8 : Int32)), (.ref b8), (.int sd7)])) rfl (by rw [hml]; rfl) (argsL := [(.ref b8), (.int (8 : Int32)), (.int (Int32.ofNat f)), (.int (Int32.ofNat t))]) (rest := [(.int sd7)]) (lenOf own_pd4 rfl) rfl (by show 2 * 0 + _ ≤ _; exact Nat.le_of_eq rfl) (hb hby at_481) (fun _ _ => ⟨rfl, e93, (by decide : 1 + 0 ≤ _), (by decide : 12 + 0 ≤ _)⟩)
          dsimp only [Pt.U, Pt.locs, Pt.cells, Pt.slots] at X94 l94 y94 z94 st94 hQ94
          obtain rfl : k94 = 1 := y94
          obtain rfl : n94 = 12 := z94
          obtain ⟨rfl, N94q, e94⟩ := hQ94
          have N94 : Fr n0 L94 := by rw [l94]; exact Fr.app N93 N94q
          clear l94
          refine own_go (S' := T94.setTop (mkF m 484 #[.val (.long q0), .second, .val (.int p1), .val (.int p2), .val (.int p3), .val (.int p4), .val (.ref b8), .val (.int (Int32.ofNat f)), .val (.int (Int32.ofNat t)), .val (.int got), .val (.int (Int32.ofNat (t - f))), .unset, .val (.int sb11)] [(.int (own_term (8 : Int32) (Int32.ofNat f) (Int32.ofNat t) G)), (.int sd7)])) st94 ?_
          obtain ⟨sd8, h_sd8⟩ : ∃ z : Int32, z = (sd7 + (own_term (8 : Int32) (Int32.ofNat f) (Int32.ofNat t) G)) := ⟨_, rfl⟩
          refine own_go (S' := T94.setTop (mkF m 485 #[.val (.long q0), .second, .val (.int p1), .val (.int p2), .val (.int p3), .val (.int p4), .val (.ref b8), .val (.int (Int32.ofNat f)), .val (.int (Int32.ofNat t)), .val (.int got), .val (.int (Int32.ofNat (t - f))), .unset, .val (.int sb11)] [(.int sd8)])) (fun target kt => ?_) ?_
          · subst h_sd8
            show Steps p.tables e below (T94.setTop (mkF m 484 #[.val (.long q0), .second, .val (.int p1), .val (.int p2), .val (.int p3), .val (.int p4), .val (.ref b8), .val (.int (Int32.ofNat f)), .val (.int (Int32.ofNat t)), .val (.int got), .val (.int (Int32.ofNat (t - f))), .unset, .val (.int sb11)] [(.int (own_term (8 : Int32) (Int32.ofNat f) (Int32.ofNat t) G)), (.int sd7)])) _
            refine XS.iadd X94.here hx rfl (hb hby at_484) rfl ?_
            exact kt
          refine own_go (S' := T94.setTop (mkF m 493 #[.val (.long q0), .second, .val (.int p1), .val (.int p2), .val (.int p3), .val (.int p4), .val (.ref b8), .val (.int (Int32.ofNat f)), .val (.int (Int32.ofNat t)), .val (.int got), .val (.int (Int32.ofNat (t - f))), .unset, .val (.int sb11)] [(.int (Int32.ofNat t)), (.int (Int32.ofNat f)), (.int (9 : Int32)), (.ref b8), (.int sd8)])) (fun target kt => ?_) ?_
          · skip
            show Steps p.tables e below (T94.setTop (mkF m 485 #[.val (.long q0), .second, .val (.int p1), .val (.int p2), .val (.int p3), .val (.int p4), .val (.ref b8), .val (.int (Int32.ofNat f)), .val (.int (Int32.ofNat t)), .val (.int got), .val (.int (Int32.ofNat (t - f))), .unset, .val (.int sb11)] [(.int sd8)])) _
            refine XS.aload X94.here hx rfl (hb hby at_485) rfl rfl ?_
            show Steps p.tables e below (T94.setTop (mkF m 487 #[.val (.long q0), .second, .val (.int p1), .val (.int p2), .val (.int p3), .val (.int p4), .val (.ref b8), .val (.int (Int32.ofNat f)), .val (.int (Int32.ofNat t)), .val (.int got), .val (.int (Int32.ofNat (t - f))), .unset, .val (.int sb11)] [(.ref b8), (.int sd8)])) _
            refine XS.bipush X94.here hx rfl (hb hby at_487) ?_
            show Steps p.tables e below (T94.setTop (mkF m 489 #[.val (.long q0), .second, .val (.int p1), .val (.int p2), .val (.int p3), .val (.int p4), .val (.ref b8), .val (.int (Int32.ofNat f)), .val (.int (Int32.ofNat t)), .val (.int got), .val (.int (Int32.ofNat (t - f))), .unset, .val (.int sb11)] [(.int (9 : Int32)), (.ref b8), (.int sd8)])) _
            refine XS.iload X94.here hx rfl (hb hby at_489) rfl ?_
            show Steps p.tables e below (T94.setTop (mkF m 491 #[.val (.long q0), .second, .val (.int p1), .val (.int p2), .val (.int p3), .val (.int p4), .val (.ref b8), .val (.int (Int32.ofNat f)), .val (.int (Int32.ofNat t)), .val (.int got), .val (.int (Int32.ofNat (t - f))), .unset, .val (.int sb11)] [(.int (Int32.ofNat f)), (.int (9 : Int32)), (.ref b8), (.int sd8)])) _
            refine XS.iload X94.here hx rfl (hb hby at_491) rfl ?_
            exact kt
          obtain ⟨_, _, ⟨T95, L95, k95, n95⟩, -, X95, ⟨Lc95, hQ95, l95, y95, z95⟩, st95⟩ := Jvm.LawKit.callS X94 hx (y := (⟨"com/example/long_walk/longwalk/DecimalNameIndexValuePinLaw", "term", "([BIII)I"⟩ : MethodName)) hown (mvT hZ (hw _ (List.mem_of_getElem? (i := 16) rfl))) (mvT hZ (hw _ (List.mem_of_getElem? (i := 17) rfl))) (mvT hZ (hw _ (List.mem_of_getElem? (i := 3) rfl))) (mvT hZ (hw _ (List.mem_of_getElem? (i := 18) rfl))) (by decide) (backOf (W := 1) (rm5 l Z aZ hw [] b8 (9 : Int32) (Int32.ofNat f) (Int32.ofNat t) G h67 n0 Z67 f68 (⟨by decide, by decide⟩ : ¬ (9 : Int32) < 0 ∧ ((9 : Int32)).toNatClampNeg < 12)) hZ (hw _ (List.mem_of_getElem? (i := 18) rfl)) (hw _ (List.mem_of_getElem? (i := 3) rfl)) (by decide) (by decide)) (g := (mkF m 493 #[.val (.long q0), .second, .val (.int p1), .val (.int p2), .val (.int p3), .val (.int p4), .val (.ref b8), .val (.int (Int32.ofNat f)), .val (.int (Int32.ofNat t)), .val (.int got), .val (.int (Int32.ofNat (t - f))), .unset, .val (.int sb11)] [(.int (Int32.ofNat t)), (.int (Int32.ofNat f)), (.int (9 : Int32)), (.ref b8), (.int sd8)])) rfl (by rw [hml]; rfl) (argsL := [(.ref b8), (.int (9 : Int32)), (.int (Int32.ofNat f)), (.int (Int32.ofNat t))]) (rest := [(.int sd8)]) (lenOf own_pd4 rfl) rfl (by show 2 * 0 + _ ≤ _; exact Nat.le_of_eq rfl) (hb hby at_493) (fun _ _ => ⟨rfl, e94, (by decide : 1 + 0 ≤ _), (by decide : 12 + 0 ≤ _)⟩)
          dsimp only [Pt.U, Pt.locs, Pt.cells, Pt.slots] at X95 l95 y95 z95 st95 hQ95
          obtain rfl : k95 = 1 := y95
          obtain rfl : n95 = 12 := z95
          obtain ⟨rfl, N95q, e95⟩ := hQ95
          have N95 : Fr n0 L95 := by rw [l95]; exact Fr.app N94 N95q
          clear l95
          refine own_go (S' := T95.setTop (mkF m 496 #[.val (.long q0), .second, .val (.int p1), .val (.int p2), .val (.int p3), .val (.int p4), .val (.ref b8), .val (.int (Int32.ofNat f)), .val (.int (Int32.ofNat t)), .val (.int got), .val (.int (Int32.ofNat (t - f))), .unset, .val (.int sb11)] [(.int (own_term (9 : Int32) (Int32.ofNat f) (Int32.ofNat t) G)), (.int sd8)])) st95 ?_
          obtain ⟨sd9, h_sd9⟩ : ∃ z : Int32, z = (sd8 + (own_term (9 : Int32) (Int32.ofNat f) (Int32.ofNat t) G)) := ⟨_, rfl⟩
          refine own_go (S' := T95.setTop (mkF m 497 #[.val (.long q0), .second, .val (.int p1), .val (.int p2), .val (.int p3), .val (.int p4), .val (.ref b8), .val (.int (Int32.ofNat f)), .val (.int (Int32.ofNat t)), .val (.int got), .val (.int (Int32.ofNat (t - f))), .unset, .val (.int sb11)] [(.int sd9)])) (fun target kt => ?_) ?_
          · subst h_sd9
            show Steps p.tables e below (T95.setTop (mkF m 496 #[.val (.long q0), .second, .val (.int p1), .val (.int p2), .val (.int p3), .val (.int p4), .val (.ref b8), .val (.int (Int32.ofNat f)), .val (.int (Int32.ofNat t)), .val (.int got), .val (.int (Int32.ofNat (t - f))), .unset, .val (.int sb11)] [(.int (own_term (9 : Int32) (Int32.ofNat f) (Int32.ofNat t) G)), (.int sd8)])) _
            refine XS.iadd X95.here hx rfl (hb hby at_496) rfl ?_
            exact kt
          refine own_go (S' := T95.setTop (mkF m 505 #[.val (.long q0), .second, .val (.int p1), .val (.int p2), .val (.int p3), .val (.int p4), .val (.ref b8), .val (.int (Int32.ofNat f)), .val (.int (Int32.ofNat t)), .val (.int got), .val (.int (Int32.ofNat (t - f))), .unset, .val (.int sb11)] [(.int (Int32.ofNat t)), (.int (Int32.ofNat f)), (.int (10 : Int32)), (.ref b8), (.int sd9)])) (fun target kt => ?_) ?_
          · skip
            show Steps p.tables e below (T95.setTop (mkF m 497 #[.val (.long q0), .second, .val (.int p1), .val (.int p2), .val (.int p3), .val (.int p4), .val (.ref b8), .val (.int (Int32.ofNat f)), .val (.int (Int32.ofNat t)), .val (.int got), .val (.int (Int32.ofNat (t - f))), .unset, .val (.int sb11)] [(.int sd9)])) _
            refine XS.aload X95.here hx rfl (hb hby at_497) rfl rfl ?_
            show Steps p.tables e below (T95.setTop (mkF m 499 #[.val (.long q0), .second, .val (.int p1), .val (.int p2), .val (.int p3), .val (.int p4), .val (.ref b8), .val (.int (Int32.ofNat f)), .val (.int (Int32.ofNat t)), .val (.int got), .val (.int (Int32.ofNat (t - f))), .unset, .val (.int sb11)] [(.ref b8), (.int sd9)])) _
            refine XS.bipush X95.here hx rfl (hb hby at_499) ?_
            show Steps p.tables e below (T95.setTop (mkF m 501 #[.val (.long q0), .second, .val (.int p1), .val (.int p2), .val (.int p3), .val (.int p4), .val (.ref b8), .val (.int (Int32.ofNat f)), .val (.int (Int32.ofNat t)), .val (.int got), .val (.int (Int32.ofNat (t - f))), .unset, .val (.int sb11)] [(.int (10 : Int32)), (.ref b8), (.int sd9)])) _
            refine XS.iload X95.here hx rfl (hb hby at_501) rfl ?_
            show Steps p.tables e below (T95.setTop (mkF m 503 #[.val (.long q0), .second, .val (.int p1), .val (.int p2), .val (.int p3), .val (.int p4), .val (.ref b8), .val (.int (Int32.ofNat f)), .val (.int (Int32.ofNat t)), .val (.int got), .val (.int (Int32.ofNat (t - f))), .unset, .val (.int sb11)] [(.int (Int32.ofNat f)), (.int (10 : Int32)), (.ref b8), (.int sd9)])) _
            refine XS.iload X95.here hx rfl (hb hby at_503) rfl ?_
            exact kt
          obtain ⟨_, _, ⟨T96, L96, k96, n96⟩, -, X96, ⟨Lc96, hQ96, l96, y96, z96⟩, st96⟩ := Jvm.LawKit.callS X95 hx (y := (⟨"com/example/long_walk/longwalk/DecimalNameIndexValuePinLaw", "term", "([BIII)I"⟩ : MethodName)) hown (mvT hZ (hw _ (List.mem_of_getElem? (i := 16) rfl))) (mvT hZ (hw _ (List.mem_of_getElem? (i := 17) rfl))) (mvT hZ (hw _ (List.mem_of_getElem? (i := 3) rfl))) (mvT hZ (hw _ (List.mem_of_getElem? (i := 18) rfl))) (by decide) (backOf (W := 1) (rm5 l Z aZ hw [] b8 (10 : Int32) (Int32.ofNat f) (Int32.ofNat t) G h67 n0 Z67 f68 (⟨by decide, by decide⟩ : ¬ (10 : Int32) < 0 ∧ ((10 : Int32)).toNatClampNeg < 12)) hZ (hw _ (List.mem_of_getElem? (i := 18) rfl)) (hw _ (List.mem_of_getElem? (i := 3) rfl)) (by decide) (by decide)) (g := (mkF m 505 #[.val (.long q0), .second, .val (.int p1), .val (.int p2), .val (.int p3), .val (.int p4), .val (.ref b8), .val (.int (Int32.ofNat f)), .val (.int (Int32.ofNat t)), .val (.int got), .val (.int (Int32.ofNat (t - f))), .unset, .val (.int sb11)] [(.int (Int32.ofNat t)), (.int (Int32.ofNat f)), (.int (10 : Int32)), (.ref b8), (.int sd9)])) rfl (by rw [hml]; rfl) (argsL := [(.ref b8), (.int (10 : Int32)), (.int (Int32.ofNat f)), (.int (Int32.ofNat t))]) (rest := [(.int sd9)]) (lenOf own_pd4 rfl) rfl (by show 2 * 0 + _ ≤ _; exact Nat.le_of_eq rfl) (hb hby at_505) (fun _ _ => ⟨rfl, e95, (by decide : 1 + 0 ≤ _), (by decide : 12 + 0 ≤ _)⟩)
          dsimp only [Pt.U, Pt.locs, Pt.cells, Pt.slots] at X96 l96 y96 z96 st96 hQ96
          obtain rfl : k96 = 1 := y96
          obtain rfl : n96 = 12 := z96
          obtain ⟨rfl, N96q, e96⟩ := hQ96
          have N96 : Fr n0 L96 := by rw [l96]; exact Fr.app N95 N96q
          clear l96
          refine own_go (S' := T96.setTop (mkF m 508 #[.val (.long q0), .second, .val (.int p1), .val (.int p2), .val (.int p3), .val (.int p4), .val (.ref b8), .val (.int (Int32.ofNat f)), .val (.int (Int32.ofNat t)), .val (.int got), .val (.int (Int32.ofNat (t - f))), .unset, .val (.int sb11)] [(.int (own_term (10 : Int32) (Int32.ofNat f) (Int32.ofNat t) G)), (.int sd9)])) st96 ?_
          obtain ⟨sd10, h_sd10⟩ : ∃ z : Int32, z = (sd9 + (own_term (10 : Int32) (Int32.ofNat f) (Int32.ofNat t) G)) := ⟨_, rfl⟩
          refine own_go (S' := T96.setTop (mkF m 509 #[.val (.long q0), .second, .val (.int p1), .val (.int p2), .val (.int p3), .val (.int p4), .val (.ref b8), .val (.int (Int32.ofNat f)), .val (.int (Int32.ofNat t)), .val (.int got), .val (.int (Int32.ofNat (t - f))), .unset, .val (.int sb11)] [(.int sd10)])) (fun target kt => ?_) ?_
          · subst h_sd10
            show Steps p.tables e below (T96.setTop (mkF m 508 #[.val (.long q0), .second, .val (.int p1), .val (.int p2), .val (.int p3), .val (.int p4), .val (.ref b8), .val (.int (Int32.ofNat f)), .val (.int (Int32.ofNat t)), .val (.int got), .val (.int (Int32.ofNat (t - f))), .unset, .val (.int sb11)] [(.int (own_term (10 : Int32) (Int32.ofNat f) (Int32.ofNat t) G)), (.int sd9)])) _
            refine XS.iadd X96.here hx rfl (hb hby at_508) rfl ?_
            exact kt
          refine own_go (S' := T96.setTop (mkF m 517 #[.val (.long q0), .second, .val (.int p1), .val (.int p2), .val (.int p3), .val (.int p4), .val (.ref b8), .val (.int (Int32.ofNat f)), .val (.int (Int32.ofNat t)), .val (.int got), .val (.int (Int32.ofNat (t - f))), .unset, .val (.int sb11)] [(.int (Int32.ofNat t)), (.int (Int32.ofNat f)), (.int (11 : Int32)), (.ref b8), (.int sd10)])) (fun target kt => ?_) ?_
          · skip
            show Steps p.tables e below (T96.setTop (mkF m 509 #[.val (.long q0), .second, .val (.int p1), .val (.int p2), .val (.int p3), .val (.int p4), .val (.ref b8), .val (.int (Int32.ofNat f)), .val (.int (Int32.ofNat t)), .val (.int got), .val (.int (Int32.ofNat (t - f))), .unset, .val (.int sb11)] [(.int sd10)])) _
            refine XS.aload X96.here hx rfl (hb hby at_509) rfl rfl ?_
            show Steps p.tables e below (T96.setTop (mkF m 511 #[.val (.long q0), .second, .val (.int p1), .val (.int p2), .val (.int p3), .val (.int p4), .val (.ref b8), .val (.int (Int32.ofNat f)), .val (.int (Int32.ofNat t)), .val (.int got), .val (.int (Int32.ofNat (t - f))), .unset, .val (.int sb11)] [(.ref b8), (.int sd10)])) _
            refine XS.bipush X96.here hx rfl (hb hby at_511) ?_
            show Steps p.tables e below (T96.setTop (mkF m 513 #[.val (.long q0), .second, .val (.int p1), .val (.int p2), .val (.int p3), .val (.int p4), .val (.ref b8), .val (.int (Int32.ofNat f)), .val (.int (Int32.ofNat t)), .val (.int got), .val (.int (Int32.ofNat (t - f))), .unset, .val (.int sb11)] [(.int (11 : Int32)), (.ref b8), (.int sd10)])) _
            refine XS.iload X96.here hx rfl (hb hby at_513) rfl ?_
            show Steps p.tables e below (T96.setTop (mkF m 515 #[.val (.long q0), .second, .val (.int p1), .val (.int p2), .val (.int p3), .val (.int p4), .val (.ref b8), .val (.int (Int32.ofNat f)), .val (.int (Int32.ofNat t)), .val (.int got), .val (.int (Int32.ofNat (t - f))), .unset, .val (.int sb11)] [(.int (Int32.ofNat f)), (.int (11 : Int32)), (.ref b8), (.int sd10)])) _
            refine XS.iload X96.here hx rfl (hb hby at_515) rfl ?_
            exact kt
          obtain ⟨_, _, ⟨T97, L97, k97, n97⟩, -, X97, ⟨Lc97, hQ97, l97, y97, z97⟩, st97⟩ := Jvm.LawKit.callS X96 hx (y := (⟨"com/example/long_walk/longwalk/DecimalNameIndexValuePinLaw", "term", "([BIII)I"⟩ : MethodName)) hown (mvT hZ (hw _ (List.mem_of_getElem? (i := 16) rfl))) (mvT hZ (hw _ (List.mem_of_getElem? (i := 17) rfl))) (mvT hZ (hw _ (List.mem_of_getElem? (i := 3) rfl))) (mvT hZ (hw _ (List.mem_of_getElem? (i := 18) rfl))) (by decide) (backOf (W := 1) (rm5 l Z aZ hw [] b8 (11 : Int32) (Int32.ofNat f) (Int32.ofNat t) G h67 n0 Z67 f68 (⟨by decide, by decide⟩ : ¬ (11 : Int32) < 0 ∧ ((11 : Int32)).toNatClampNeg < 12)) hZ (hw _ (List.mem_of_getElem? (i := 18) rfl)) (hw _ (List.mem_of_getElem? (i := 3) rfl)) (by decide) (by decide)) (g := (mkF m 517 #[.val (.long q0), .second, .val (.int p1), .val (.int p2), .val (.int p3), .val (.int p4), .val (.ref b8), .val (.int (Int32.ofNat f)), .val (.int (Int32.ofNat t)), .val (.int got), .val (.int (Int32.ofNat (t - f))), .unset, .val (.int sb11)] [(.int (Int32.ofNat t)), (.int (Int32.ofNat f)), (.int (11 : Int32)), (.ref b8), (.int sd10)])) rfl (by rw [hml]; rfl) (argsL := [(.ref b8), (.int (11 : Int32)), (.int (Int32.ofNat f)), (.int (Int32.ofNat t))]) (rest := [(.int sd10)]) (lenOf own_pd4 rfl) rfl (by show 2 * 0 + _ ≤ _; exact Nat.le_of_eq rfl) (hb hby at_517) (fun _ _ => ⟨rfl, e96, (by decide : 1 + 0 ≤ _), (by decide : 12 + 0 ≤ _)⟩)
          dsimp only [Pt.U, Pt.locs, Pt.cells, Pt.slots] at X97 l97 y97 z97 st97 hQ97
          obtain rfl : k97 = 1 := y97
          obtain rfl : n97 = 12 := z97
          obtain ⟨rfl, N97q, e97⟩ := hQ97
          have N97 : Fr n0 L97 := by rw [l97]; exact Fr.app N96 N97q
          clear l97
          refine own_go (S' := T97.setTop (mkF m 520 #[.val (.long q0), .second, .val (.int p1), .val (.int p2), .val (.int p3), .val (.int p4), .val (.ref b8), .val (.int (Int32.ofNat f)), .val (.int (Int32.ofNat t)), .val (.int got), .val (.int (Int32.ofNat (t - f))), .unset, .val (.int sb11)] [(.int (own_term (11 : Int32) (Int32.ofNat f) (Int32.ofNat t) G)), (.int sd10)])) st97 ?_
          obtain ⟨sd11, h_sd11⟩ : ∃ z : Int32, z = (sd10 + (own_term (11 : Int32) (Int32.ofNat f) (Int32.ofNat t) G)) := ⟨_, rfl⟩
          refine own_go (S' := T97.setTop (mkF m 521 #[.val (.long q0), .second, .val (.int p1), .val (.int p2), .val (.int p3), .val (.int p4), .val (.ref b8), .val (.int (Int32.ofNat f)), .val (.int (Int32.ofNat t)), .val (.int got), .val (.int (Int32.ofNat (t - f))), .unset, .val (.int sb11)] [(.int sd11)])) (fun target kt => ?_) ?_
          · subst h_sd11
            show Steps p.tables e below (T97.setTop (mkF m 520 #[.val (.long q0), .second, .val (.int p1), .val (.int p2), .val (.int p3), .val (.int p4), .val (.ref b8), .val (.int (Int32.ofNat f)), .val (.int (Int32.ofNat t)), .val (.int got), .val (.int (Int32.ofNat (t - f))), .unset, .val (.int sb11)] [(.int (own_term (11 : Int32) (Int32.ofNat f) (Int32.ofNat t) G)), (.int sd10)])) _
            refine XS.iadd X97.here hx rfl (hb hby at_520) rfl ?_
            exact kt
          have hT : ((((((((((((own_term (0 : Int32) (Int32.ofNat f) (Int32.ofNat t) G) + (own_term (1 : Int32) (Int32.ofNat f) (Int32.ofNat t) G)) + (own_term (2 : Int32) (Int32.ofNat f) (Int32.ofNat t) G)) + (own_term (3 : Int32) (Int32.ofNat f) (Int32.ofNat t) G)) + (own_term (4 : Int32) (Int32.ofNat f) (Int32.ofNat t) G)) + (own_term (5 : Int32) (Int32.ofNat f) (Int32.ofNat t) G)) + (own_term (6 : Int32) (Int32.ofNat f) (Int32.ofNat t) G)) + (own_term (7 : Int32) (Int32.ofNat f) (Int32.ofNat t) G)) + (own_term (8 : Int32) (Int32.ofNat f) (Int32.ofNat t) G)) + (own_term (9 : Int32) (Int32.ofNat f) (Int32.ofNat t) G)) + (own_term (10 : Int32) (Int32.ofNat f) (Int32.ofNat t) G)) + (own_term (11 : Int32) (Int32.ofNat f) (Int32.ofNat t) G)) = sd11 := by rw [h_sd11, h_sd10, h_sd9, h_sd8, h_sd7, h_sd6, h_sd5, h_sd4, h_sd3, h_sd2, h_sd1]
          refine own_go (S' := T97.setTop (mkF m 535 #[.val (.long q0), .second, .val (.int p1), .val (.int p2), .val (.int p3), .val (.int p4), .val (.ref b8), .val (.int (Int32.ofNat f)), .val (.int (Int32.ofNat t)), .val (.int got), .val (.int (Int32.ofNat (t - f))), .val (.int sd11), .val (.int sb11)] [(.int (1 : Int32))])) (fun target kt => ?_) ?_
          · skip
            show Steps p.tables e below (T97.setTop (mkF m 521 #[.val (.long q0), .second, .val (.int p1), .val (.int p2), .val (.int p3), .val (.int p4), .val (.ref b8), .val (.int (Int32.ofNat f)), .val (.int (Int32.ofNat t)), .val (.int got), .val (.int (Int32.ofNat (t - f))), .unset, .val (.int sb11)] [(.int sd11)])) _
            refine XS.istore X97.here hx rfl (hb hby at_521) rfl (l' := #[.val (.long q0), .second, .val (.int p1), .val (.int p2), .val (.int p3), .val (.int p4), .val (.ref b8), .val (.int (Int32.ofNat f)), .val (.int (Int32.ofNat t)), .val (.int got), .val (.int (Int32.ofNat (t - f))), .val (.int sd11), .val (.int sb11)]) rfl ?_
            show Steps p.tables e below (T97.setTop (mkF m 523 #[.val (.long q0), .second, .val (.int p1), .val (.int p2), .val (.int p3), .val (.int p4), .val (.ref b8), .val (.int (Int32.ofNat f)), .val (.int (Int32.ofNat t)), .val (.int got), .val (.int (Int32.ofNat (t - f))), .val (.int sd11), .val (.int sb11)] [])) _
            refine XS.iload X97.here hx rfl (hb hby at_523) rfl ?_
            show Steps p.tables e below (T97.setTop (mkF m 525 #[.val (.long q0), .second, .val (.int p1), .val (.int p2), .val (.int p3), .val (.int p4), .val (.ref b8), .val (.int (Int32.ofNat f)), .val (.int (Int32.ofNat t)), .val (.int got), .val (.int (Int32.ofNat (t - f))), .val (.int sd11), .val (.int sb11)] [(.int got)])) _
            refine XS.iload X97.here hx rfl (hb hby at_525) rfl ?_
            show Steps p.tables e below (T97.setTop (mkF m 527 #[.val (.long q0), .second, .val (.int p1), .val (.int p2), .val (.int p3), .val (.int p4), .val (.ref b8), .val (.int (Int32.ofNat f)), .val (.int (Int32.ofNat t)), .val (.int got), .val (.int (Int32.ofNat (t - f))), .val (.int sd11), .val (.int sb11)] [(.int sd11), (.int got)])) _
            refine XS.icmpNo X97.here hx rfl (hb hby at_527) rfl (teq ((own_fE hft ht hB h_got hc196 hc203 (own_or hq) (own_nlte hS hc375)).trans hT : got = sd11)).2 ?_
            show Steps p.tables e below (T97.setTop (mkF m 530 #[.val (.long q0), .second, .val (.int p1), .val (.int p2), .val (.int p3), .val (.int p4), .val (.ref b8), .val (.int (Int32.ofNat f)), .val (.int (Int32.ofNat t)), .val (.int got), .val (.int (Int32.ofNat (t - f))), .val (.int sd11), .val (.int sb11)] [])) _
            refine XS.iconst X97.here hx rfl (hb hby at_530) ?_
            show Steps p.tables e below (T97.setTop (mkF m 531 #[.val (.long q0), .second, .val (.int p1), .val (.int p2), .val (.int p3), .val (.int p4), .val (.ref b8), .val (.int (Int32.ofNat f)), .val (.int (Int32.ofNat t)), .val (.int got), .val (.int (Int32.ofNat (t - f))), .val (.int sd11), .val (.int sb11)] [(.int (1 : Int32))])) _
            refine XS.goto X97.here hx rfl (pc0 := 531) (pc' := 535) rfl (hb hby at_531) (by decide) (by decide) ?_
            exact kt
          obtain ⟨fs, hr, hrun, hended, hW, hsame⟩ := X97.leave (v := some (.int (1 : Int32))) (fun h => by rw [Bd.returns] at h; cases h)
          refine ⟨_, _, ?_, hrun, hended, _, _, rfl, ?_, ⟨_, rfl⟩, hW, hsame.mono (by decide) (by decide)⟩
          · exact retN X97 hx (t := .boolean) Bd.returns (by simp) (hb hby at_535) hr
          · show Q0 Z q0 p1 p2 p3 p4 h0 n0 _ T97.heap _
            rw [e97]
            exact ⟨rfl, N97⟩
set_option maxRecDepth 65536 in
set_option maxHeartbeats 40000000 in
theorem comes_1 {Post : Tables → Env → Array Value → State → Outcome → State → Prop} (hpost : ∀ tb e args s v u, (limb_1_1.after args s (.returned v) u = true ∧ limb_1_2.after args s (.returned v) u = true) → FrameEnd s (.returned v) u (Jvm.fieldLocs frame_1_writes args s ++ Jvm.arrayLocs frame_1_arrays args s ++ Jvm.staticLocs frame_1_statics s) 16 128 → Post tb e args s (.returned v) u) :
    ArmFor flags0 classFile x code maxLocals ret World_1 tables_1 room_1 Calls_1 rest_1 Pre_1 Post := by
  intro l hfl _ _ p e ha hc hk s m args below hf hA hF happ hP
  obtain ⟨hcalls, hrest, hpre⟩ := hP
  obtain ⟨-, -, -, hnamed, -, -, -, hat⟩ := (Spec.applies_iff hf).mp happ
  obtain ⟨hg, hn⟩ := and_e (Cond.before_iff.mp (show (Jvm.Cond.and given_1 narrow_1).before args s = true from hpre))
  obtain ⟨hg1, hg2⟩ := and_e hg
  obtain ⟨hg3, hg4⟩ := and_e hg2
  obtain ⟨hg5, hg6⟩ := and_e hg4
  obtain ⟨hg7, hg8⟩ := and_e hg6
  obtain ⟨hg9, hg10⟩ := and_e hg8
  obtain ⟨w0, w1, w2, w3, w4, rfl⟩ : ∃ w0 w1 w2 w3 w4 : Value, args = #[w0, w1, w2, w3, w4] := by
    have hs : args.size = 5 := by simpa [Cond.value, given_1] using hg1
    obtain ⟨L⟩ := args
    match L, hs with
    | [w0, w1, w2, w3, w4], _ => exact ⟨w0, w1, w2, w3, w4, rfl⟩
  have hw := fun d (hd : d ∈ tables_1) => atoms_spec (ws := Jvm.Cond.code x code maxLocals ret :: tables_1) hat d (List.mem_cons_of_mem _ hd)
  obtain ⟨i0, ei0⟩ := isL_v hg3
  obtain rfl : w0 = (.long i0) := Option.some.inj ei0
  obtain ⟨i1, ei1⟩ := is_v hg5
  obtain rfl : w1 = (.int i1) := Option.some.inj ei1
  obtain ⟨i2, ei2⟩ := is_v hg7
  obtain rfl : w2 = (.int i2) := Option.some.inj ei2
  obtain ⟨i3, ei3⟩ := is_v hg9
  obtain rfl : w3 = (.int i3) := Option.some.inj ei3
  obtain ⟨i4, ei4⟩ := is_v hg10
  obtain rfl : w4 = (.int i4) := Option.some.inj ei4
  obtain ⟨n, o, h1, h2, h3, _, L, rfl, ⟨rfl, N⟩, hq⟩ := rm0 l s _ hw tables_1 i0 i1 i2 i3 i4 s.heap s.heap.size (Nat.le_refl _)  p e ha hc hk s m _ below hf ((Spec.applies_iff_loose hf).mp happ).1 ⟨rfl, State.Warmed39.refl s, rfl⟩ trivial
  refine ⟨n, _, h1, h2, h3, hpost _ _ _ _ _ _ ⟨Cond.after_iff.mpr rfl, Cond.after_iff.mpr (eq_i res_at (Term.int_eval (1)) rfl)⟩ ⟨hq.1, hq.2.1, (hq.2.2.sift fun y hy => Or.inr (N y hy)).mono (by decide) (by decide)⟩⟩
theorem main_1_1 : Claimed_1_1 := comes_1 fun _ _ _ _ _ _ h hF => ⟨h.1, hF⟩
theorem main_1_2 : Claimed_1_2 := comes_1 fun _ _ _ _ _ _ h hF => ⟨h.2, hF⟩
end Jvm.Pilot.@@N@@
namespace Jvm.Pilot.@@N@@
open Jvm Jvm.ClassFile Sem Op Lib Jvm.Free Jvm.Stand Jvm.Pilot.@@N@@.Jvm.D
/-! MADE BY PROGRAM (witnessworld.py) out of the Statement's table words and the real class files: 9 classes; the members and pool entries that the words name. The judged class is class 1, her method 6. -/
namespace start1
open Jvm.ClassFile
def u (s : String) : CpInfo := .utf8 (stringToUtf16 s)
/-- a pool by its gaps: so many unusable entries, then the entry; so many at the end -/
def gap : Nat → List CpInfo → List CpInfo
  | 0, r => r
  | n + 1, r => .unusable :: gap n r
def poolList (es : List (Nat × CpInfo)) (last : Nat) : List CpInfo := es.foldr (fun e r => gap e.1 (e.2 :: r)) (gap last [])
def pool (es : List (Nat × CpInfo)) (last : Nat) : Array CpInfo := ⟨poolList es last⟩
def fileOf (pool : Array CpInfo) (this : Nat) (attrs : Array Attribute := #[]) (ms : Array MethodInfo := #[]) (fl : Nat := 33) (sup : Nat := 0) (ifs : Array Nat := #[]) (fds : Array FieldInfo := #[]) : ClassFile where
  minorVersion := 0
  majorVersion := 65
  constantPool := pool
  accessFlags := fl
  thisClass := this
  superClass := sup
  interfaces := ifs
  fields := fds
  methods := ms
  attributes := attrs
def plain (name : String) (sup : Option ClassId) : Class where
  name := name
  kind := .ordinary
  loader := none
  accessFlags := 33
  super := sup
  interfaces := #[]
  cf := none
  fields := #[]
  methods := #[]
  instanceTypes := #[]
  staticTypes := #[]
  resolved := #[]
  callSites := []
  init := .initialized
  statics := none
  mirror := none

def pool0 : Array CpInfo := pool [(5, u "<init>"), (0, u "()V"), (1, .class_ 10), (1, u "java/lang/Object")] 113

def k0m0 : Method := { name := "<init>", desc := "()V", sig := { parameters := [], returnType := none }, accessFlags := 1, code := none }
/-- java/lang/Object -/
def k0 : Class := { plain "java/lang/Object" none with
  accessFlags := 33
  interfaces := #[]
  cf := some (fileOf pool0 8 #[] #[{ accessFlags := 1, nameIndex := 5, descriptorIndex := 6, attributes := #[] }] 33 0 #[] #[])
  fields := #[]
  methods := #[k0m0]
  instanceTypes := #[]
  staticTypes := #[]
  resolved := Array.replicate 124 none
  statics := none }

def pool1 : Array CpInfo := pool [(2, .class_ 4), (1, u "java/lang/Object"), (0, u "<init>"), (0, u "()V"), (0, .integer 100000), (0, .integer 1000000), (0, .integer 10000000), (0, .integer 100000000), (0, .methodref 12 13), (0, .class_ 14), (0, .nameAndType 15 16), (0, u "com/example/long_walk/longwalk/DecimalNameIndexValuePinLaw"), (0, u "isDigit"), (0, u "(B)Z"), (0, .methodref 12 18), (0, .nameAndType 19 20), (0, u "pow10"), (0, u "(I)I"), (0, .methodref 12 22), (0, .nameAndType 23 24), (0, u "draw"), (0, u "(JIII)B"), (0, .integer 2147483647), (0, .methodref 27 28), (0, .class_ 29), (0, .nameAndType 30 31), (0, u "com/example/long_walk/longwalk/DecimalNameIndex"), (0, u "value"), (0, u "([BII)I"), (0, .methodref 12 33), (0, .nameAndType 34 35), (0, u "bad"), (0, u "([BIII)I"), (0, .methodref 12 37), (0, .nameAndType 38 35), (0, u "term"), (3, u "law"), (0, u "(JIIII)Z")] 4

def k1m0 : Method := { name := "<init>", desc := "()V", sig := { parameters := [], returnType := none }, accessFlags := 1, code := none }
def k1c1 : Code := { maxStack := 4, maxLocals := 7, code := method_2_code, exceptionTable := #[], attributes := #[] }
def k1m1 : Method := { name := "draw", desc := "(JIII)B", sig := { parameters := [.long, .int, .int, .int], returnType := some .byte }, accessFlags := 10, code := some k1c1 }
def k1c2 : Code := { maxStack := 2, maxLocals := 1, code := method_3_code, exceptionTable := #[], attributes := #[] }
def k1m2 : Method := { name := "isDigit", desc := "(B)Z", sig := { parameters := [.byte], returnType := some .boolean }, accessFlags := 10, code := some k1c2 }
def k1c3 : Code := { maxStack := 2, maxLocals := 1, code := method_4_code, exceptionTable := #[], attributes := #[] }
def k1m3 : Method := { name := "pow10", desc := "(I)I", sig := { parameters := [.int], returnType := some .int }, accessFlags := 10, code := some k1c3 }
def k1c4 : Code := { maxStack := 2, maxLocals := 4, code := method_5_code, exceptionTable := #[], attributes := #[] }
def k1m4 : Method := { name := "bad", desc := "([BIII)I", sig := { parameters := [(.array .byte), .int, .int, .int], returnType := some .int }, accessFlags := 10, code := some k1c4 }
def k1c5 : Code := { maxStack := 3, maxLocals := 4, code := method_6_code, exceptionTable := #[], attributes := #[] }
def k1m5 : Method := { name := "term", desc := "([BIII)I", sig := { parameters := [(.array .byte), .int, .int, .int], returnType := some .int }, accessFlags := 10, code := some k1c5 }
def k1c6 : Code := { maxStack := 7, maxLocals := 13, code := code, exceptionTable := #[], attributes := #[] }
def k1m6 : Method := { name := "law", desc := "(JIIII)Z", sig := { parameters := [.long, .int, .int, .int, .int], returnType := some .boolean }, accessFlags := 9, code := some k1c6 }
/-- com/example/long_walk/longwalk/DecimalNameIndexValuePinLaw -/
def k1 : Class := { plain "com/example/long_walk/longwalk/DecimalNameIndexValuePinLaw" (some 0) with
  accessFlags := 49
  interfaces := #[]
  cf := some (fileOf pool1 12 #[] #[{ accessFlags := 1, nameIndex := 5, descriptorIndex := 6, attributes := #[] }, { accessFlags := 10, nameIndex := 23, descriptorIndex := 24, attributes := #[] }, { accessFlags := 10, nameIndex := 15, descriptorIndex := 16, attributes := #[] }, { accessFlags := 10, nameIndex := 19, descriptorIndex := 20, attributes := #[] }, { accessFlags := 10, nameIndex := 34, descriptorIndex := 35, attributes := #[] }, { accessFlags := 10, nameIndex := 38, descriptorIndex := 35, attributes := #[] }, { accessFlags := 9, nameIndex := 42, descriptorIndex := 43, attributes := #[] }] 49 2 #[] #[])
  fields := #[]
  methods := #[k1m0, k1m1, k1m2, k1m3, k1m4, k1m5, k1m6]
  instanceTypes := #[]
  staticTypes := #[]
  resolved := Array.replicate 48 none
  statics := none }

def pool2 : Array CpInfo := pool [(2, .class_ 4), (1, u "java/lang/Object"), (0, u "<init>"), (0, u "()V"), (0, .class_ 8), (0, u "com/example/long_walk/longwalk/DecimalNameIndex"), (2, u "byValue"), (0, u "[I"), (6, u "slots"), (0, u "[J"), (2, u "hashed"), (0, u "I"), (8, u "size"), (39, u "NONE"), (2, u "MAX_DIGITS"), (1, u "ARRAY_BASE"), (1, u "ARRAY_PER_VALUE"), (1, u "EMPTY"), (0, u "J"), (2, u "value"), (0, u "([BII)I")] 7

def k2m0 : Method := { name := "<init>", desc := "()V", sig := { parameters := [], returnType := none }, accessFlags := 0, code := none }
def k2c1 : Code := { maxStack := 2, maxLocals := 7, code := prog_4_method_2_code, exceptionTable := #[], attributes := #[] }
def k2m1 : Method := { name := "value", desc := "([BII)I", sig := { parameters := [(.array .byte), .int, .int], returnType := some .int }, accessFlags := 8, code := some k2c1 }
/-- com/example/long_walk/longwalk/DecimalNameIndex -/
def k2 : Class := { plain "com/example/long_walk/longwalk/DecimalNameIndex" (some 0) with
  accessFlags := 48
  interfaces := #[]
  cf := some (fileOf pool2 7 #[] #[{ accessFlags := 0, nameIndex := 5, descriptorIndex := 6, attributes := #[] }, { accessFlags := 8, nameIndex := 86, descriptorIndex := 87, attributes := #[] }] 48 2 #[] #[{ accessFlags := 24, nameIndex := 73, descriptorIndex := 24, attributes := #[] }, { accessFlags := 26, nameIndex := 76, descriptorIndex := 24, attributes := #[] }, { accessFlags := 26, nameIndex := 78, descriptorIndex := 24, attributes := #[] }, { accessFlags := 26, nameIndex := 80, descriptorIndex := 24, attributes := #[] }, { accessFlags := 26, nameIndex := 82, descriptorIndex := 83, attributes := #[] }, { accessFlags := 2, nameIndex := 11, descriptorIndex := 12, attributes := #[] }, { accessFlags := 2, nameIndex := 19, descriptorIndex := 20, attributes := #[] }, { accessFlags := 2, nameIndex := 23, descriptorIndex := 24, attributes := #[] }, { accessFlags := 2, nameIndex := 33, descriptorIndex := 24, attributes := #[] }])
  fields := #[{ name := "NONE", type := .int, accessFlags := 24, slot := 0, constantValue := 0 }, { name := "MAX_DIGITS", type := .int, accessFlags := 26, slot := 1, constantValue := 0 }, { name := "ARRAY_BASE", type := .int, accessFlags := 26, slot := 2, constantValue := 0 }, { name := "ARRAY_PER_VALUE", type := .int, accessFlags := 26, slot := 3, constantValue := 0 }, { name := "EMPTY", type := .long, accessFlags := 26, slot := 4, constantValue := 0 }, { name := "byValue", type := (.array .int), accessFlags := 2, slot := 0, constantValue := 0 }, { name := "slots", type := (.array .long), accessFlags := 2, slot := 1, constantValue := 0 }, { name := "hashed", type := .int, accessFlags := 2, slot := 2, constantValue := 0 }, { name := "size", type := .int, accessFlags := 2, slot := 3, constantValue := 0 }]
  methods := #[k2m0, k2m1]
  instanceTypes := #[(.array .int), (.array .long), .int, .int]
  staticTypes := #[.int, .int, .int, .int, .long]
  resolved := Array.replicate 95 none
  statics := none }

def pool3 : Array CpInfo := pool [(1, u "java/lang/Cloneable"), (0, .class_ 1), (0, u "java/lang/Object"), (0, .class_ 3)] 3

/-- java/lang/Cloneable -/
def k3 : Class := { plain "java/lang/Cloneable" (some 0) with
  accessFlags := 1537
  interfaces := #[]
  cf := some (fileOf pool3 2 #[] #[] 1537 4 #[] #[])
  fields := #[]
  methods := #[]
  instanceTypes := #[]
  staticTypes := #[]
  resolved := Array.replicate 8 none
  statics := none }

def pool4 : Array CpInfo := pool [(1, u "java/io/Serializable"), (0, .class_ 1), (0, u "java/lang/Object"), (0, .class_ 3)] 3

/-- java/io/Serializable -/
def k4 : Class := { plain "java/io/Serializable" (some 0) with
  accessFlags := 1537
  interfaces := #[]
  cf := some (fileOf pool4 2 #[] #[] 1537 4 #[] #[])
  fields := #[]
  methods := #[]
  instanceTypes := #[]
  staticTypes := #[]
  resolved := Array.replicate 8 none
  statics := none }

/-- the primitive byte -/
def k5 : Class := { plain "byte" none with kind := .primitive 'B', accessFlags := 0x411 }
/-- [B -/
def k6 : Class := { plain "[B" (some 0) with kind := .array 5 .byte, interfaces := #[3, 4], accessFlags := 1041 }

/-- the primitive int -/
def k7 : Class := { plain "int" none with kind := .primitive 'I', accessFlags := 0x411 }
/-- [I -/
def k8 : Class := { plain "[I" (some 0) with kind := .array 7 .int, interfaces := #[3, 4], accessFlags := 1041 }

def heap : Heap := #[]
def classes : Array Class := #[k0, k1, k2, k3, k4, k5, k6, k7, k8]
def interned : List (Array UInt16 × Addr) := []
def slotsUsed : Nat := 0
def theMethod : MethodId := ⟨1, 6⟩
def args0 : Array Value := #[.long 5, .int 7, .int 9, .int 3, .int 4]
def aboutOver (below : List Frame) : State where
  vm := { classes := classes, interned := interned.toArray }
  heap := heap
  slotsUsed := slotsUsed
  threads := #[{ frames := .invoking theMethod args0 :: below }]
def below0 : List Frame := [.native { method := ⟨0, 0⟩, args := #[] }]
def about1 : State := aboutOver below0
def p0 : Program := .bare "" "" ""
def e0 : Env := launch0.env 0 0 0
theorem w_frames : about1.frames = Frame.invoking theMethod args0 :: below0 := rfl
set_option maxRecDepth 65536 in
theorem w_args : argsFit about1.vm theMethod args0 = true := by decide +kernel
set_option maxRecDepth 65536 in
theorem w_heap : heapFits about1 = true := by decide +kernel
set_option maxRecDepth 65536 in
theorem w_runnable : about1.curStatus? = some .runnable := by decide +kernel
set_option maxRecDepth 65536 in
theorem w_alone : about1.alone = true := by decide +kernel
set_option maxRecDepth 65536 in
theorem w_named : about1.methodNamed? x = some theMethod := by decide +kernel
set_option maxRecDepth 65536 in
theorem w_hears : about1.hears theMethod below0 = true := by decide +kernel
set_option maxRecDepth 65536 in
theorem w_ripe : about1.ripe theMethod args0 below0 = true := by decide +kernel
theorem w_running : about1.status = .running := rfl
set_option maxRecDepth 65536 in
theorem w_room : about1.hasRoom e0.platform room_1 = true :=
  launch0.hasRoom_least _ room_1 (by decide +kernel) (by decide +kernel) (by decide +kernel) (by decide +kernel) (by decide +kernel) (by decide +kernel)
theorem allAtoms_all (ts : List Jvm.Cond) (a : Array Jvm.Value) (st : Jvm.State) : (allAtoms ts).before a st = ts.all (fun c => c.before a st) := by
  induction ts with
  | nil => rfl
  | cons c t ih =>
    show (Jvm.Cond.and c (allAtoms t)).before a st = _
    rw [Jvm.Cond.before_and, ih, List.all_cons]
def words1 : List Jvm.Cond := Jvm.Cond.code x code maxLocals ret :: tables_1
/-- a 'code' word, met by the world's own term for the bytes: nothing is compared byte by byte -/
theorem code_word {y : MethodName} {bytes : ByteArray} {mx : Nat} {rt : Option FieldType} {a : Array Value} {s : State} {m : MethodId} {meth : Method} {c : Code} (h1 : s.methodNamed? y = some m) (h2 : s.vm.method? m = some meth) (h3 : meth.code = some c) (h4 : c.code = bytes)
    (h5 : (c.maxLocals == mx && c.exceptionTable.isEmpty && decide (c.maxStack ≤ mostOperands) && decide (meth.sig.returnType = rt) && !meth.locks && decide (parseMethodDescriptor y.desc = some meth.sig)) = true) : (Jvm.Cond.code y bytes mx rt).before a s = true := by
  simp only [Bool.and_eq_true, beq_iff_eq, Bool.not_eq_true', decide_eq_true_eq] at h5
  obtain ⟨⟨⟨⟨⟨g1, g2⟩, g3⟩, g4⟩, g5⟩, g6⟩ := h5
  simp [Cond.before, Cond.holds, Cond.value, h1, h2, h3, h4, g1, g2, g3, g4, g5, g6]
def isCode : Jvm.Cond → Bool
  | .code _ _ _ _ => true
  | _ => false
theorem all_split {L : List Jvm.Cond} {P : Jvm.Cond → Bool} (h1 : L.all (fun c => isCode c || P c) = true) (h2 : ∀ c ∈ L.filter isCode, P c = true) : L.all P = true := by
  refine List.all_eq_true.mpr fun c hc => ?_
  have h := List.all_eq_true.mp h1 c hc
  rcases Bool.eq_false_or_eq_true (isCode c) with hi | hi
  · exact h2 c (List.mem_filter.mpr ⟨hc, hi⟩)
  · simpa [hi] using h
set_option maxRecDepth 65536 in
theorem w_c0 : (Jvm.Cond.code x code maxLocals ret).before args0 about1 = true := code_word (m := ⟨1, 6⟩) (meth := k1m6) (c := k1c6) (by decide +kernel) rfl rfl rfl (by decide +kernel)
set_option maxRecDepth 65536 in
theorem w_c1 : (Jvm.Cond.code ({ cls := "com/example/long_walk/longwalk/DecimalNameIndexValuePinLaw", name := "draw", desc := "(JIII)B" } : Jvm.MethodName) method_2_code (7 : Nat) (Option.some Jvm.ClassFile.FieldType.byte)).before args0 about1 = true := code_word (m := ⟨1, 1⟩) (meth := k1m1) (c := k1c1) (by decide +kernel) rfl rfl rfl (by decide +kernel)
set_option maxRecDepth 65536 in
theorem w_c2 : (Jvm.Cond.code ({ cls := "com/example/long_walk/longwalk/DecimalNameIndex", name := "value", desc := "([BII)I" } : Jvm.MethodName) prog_4_method_2_code (7 : Nat) (Option.some Jvm.ClassFile.FieldType.int)).before args0 about1 = true := code_word (m := ⟨2, 1⟩) (meth := k2m1) (c := k2c1) (by decide +kernel) rfl rfl rfl (by decide +kernel)
set_option maxRecDepth 65536 in
theorem w_c3 : (Jvm.Cond.code ({ cls := "com/example/long_walk/longwalk/DecimalNameIndexValuePinLaw", name := "bad", desc := "([BIII)I" } : Jvm.MethodName) method_5_code (4 : Nat) (Option.some Jvm.ClassFile.FieldType.int)).before args0 about1 = true := code_word (m := ⟨1, 4⟩) (meth := k1m4) (c := k1c4) (by decide +kernel) rfl rfl rfl (by decide +kernel)
set_option maxRecDepth 65536 in
theorem w_c4 : (Jvm.Cond.code ({ cls := "com/example/long_walk/longwalk/DecimalNameIndexValuePinLaw", name := "isDigit", desc := "(B)Z" } : Jvm.MethodName) method_3_code (1 : Nat) (Option.some Jvm.ClassFile.FieldType.boolean)).before args0 about1 = true := code_word (m := ⟨1, 2⟩) (meth := k1m2) (c := k1c2) (by decide +kernel) rfl rfl rfl (by decide +kernel)
set_option maxRecDepth 65536 in
theorem w_c5 : (Jvm.Cond.code ({ cls := "com/example/long_walk/longwalk/DecimalNameIndexValuePinLaw", name := "term", desc := "([BIII)I" } : Jvm.MethodName) method_6_code (4 : Nat) (Option.some Jvm.ClassFile.FieldType.int)).before args0 about1 = true := code_word (m := ⟨1, 5⟩) (meth := k1m5) (c := k1c5) (by decide +kernel) rfl rfl rfl (by decide +kernel)
set_option maxRecDepth 65536 in
theorem w_c6 : (Jvm.Cond.code ({ cls := "com/example/long_walk/longwalk/DecimalNameIndexValuePinLaw", name := "pow10", desc := "(I)I" } : Jvm.MethodName) method_4_code (1 : Nat) (Option.some Jvm.ClassFile.FieldType.int)).before args0 about1 = true := code_word (m := ⟨1, 3⟩) (meth := k1m3) (c := k1c3) (by decide +kernel) rfl rfl rfl (by decide +kernel)
def codes1 : List Jvm.Cond := [Jvm.Cond.code x code maxLocals ret, Jvm.Cond.code ({ cls := "com/example/long_walk/longwalk/DecimalNameIndexValuePinLaw", name := "draw", desc := "(JIII)B" } : Jvm.MethodName) method_2_code (7 : Nat) (Option.some Jvm.ClassFile.FieldType.byte), Jvm.Cond.code ({ cls := "com/example/long_walk/longwalk/DecimalNameIndex", name := "value", desc := "([BII)I" } : Jvm.MethodName) prog_4_method_2_code (7 : Nat) (Option.some Jvm.ClassFile.FieldType.int), Jvm.Cond.code ({ cls := "com/example/long_walk/longwalk/DecimalNameIndexValuePinLaw", name := "bad", desc := "([BIII)I" } : Jvm.MethodName) method_5_code (4 : Nat) (Option.some Jvm.ClassFile.FieldType.int), Jvm.Cond.code ({ cls := "com/example/long_walk/longwalk/DecimalNameIndexValuePinLaw", name := "isDigit", desc := "(B)Z" } : Jvm.MethodName) method_3_code (1 : Nat) (Option.some Jvm.ClassFile.FieldType.boolean), Jvm.Cond.code ({ cls := "com/example/long_walk/longwalk/DecimalNameIndexValuePinLaw", name := "term", desc := "([BIII)I" } : Jvm.MethodName) method_6_code (4 : Nat) (Option.some Jvm.ClassFile.FieldType.int), Jvm.Cond.code ({ cls := "com/example/long_walk/longwalk/DecimalNameIndexValuePinLaw", name := "pow10", desc := "(I)I" } : Jvm.MethodName) method_4_code (1 : Nat) (Option.some Jvm.ClassFile.FieldType.int)]
set_option maxRecDepth 65536 in
theorem codes_eq : words1.filter isCode = codes1 := rfl
theorem w_codes : ∀ c ∈ words1.filter isCode, c.before args0 about1 = true := by
  rw [codes_eq]
  intro c hc
  simp only [codes1, List.mem_cons, List.not_mem_nil, or_false] at hc
  rcases hc with rfl | rfl | rfl | rfl | rfl | rfl | rfl
  · exact w_c0
  · exact w_c1
  · exact w_c2
  · exact w_c3
  · exact w_c4
  · exact w_c5
  · exact w_c6
set_option maxRecDepth 65536 in
theorem w_t1 : (words1.take 24).all (fun c => isCode c || c.before args0 about1) = true := by decide +kernel
set_option maxRecDepth 65536 in
theorem w_t2 : (words1.drop 24).all (fun c => isCode c || c.before args0 about1) = true := by decide +kernel
theorem w_tables : (allAtoms (Jvm.Cond.code x code maxLocals ret :: tables_1)).before args0 about1 = true := by
  rw [allAtoms_all]
  show words1.all (fun c => c.before args0 about1) = true
  refine all_split ?_ w_codes
  rw [← List.take_append_drop 24 words1, List.all_append, w_t1, w_t2]
  rfl
set_option maxRecDepth 65536 in
theorem w_case : (Jvm.Cond.and given_1 narrow_1).before args0 about1 = true := by decide +kernel
theorem w_applies : (headSpec (Jvm.Cond.code x code maxLocals ret :: tables_1) room_1).applies x e0.platform about1 = true :=
  (Spec.applies_iff w_frames).mpr ⟨w_running, w_runnable, w_alone, w_named, w_hears, w_ripe, w_room, w_tables⟩
theorem atStart : AtStart classFile x code maxLocals ret World_1 tables_1 room_1 Calls_1 rest_1 Pre_1 launch0 p0 e0 about1 theMethod args0 below0 :=
  ⟨lists_1, trivial, launch0.admits_env _ _ _, launch0.least_env, fairChoices_fair.cas, fairChoices_fair.clock, w_frames, w_args, w_heap, w_applies, trivial, trivial, w_case⟩
end start1
theorem witness_1 : WitnessClaimed_1 := ⟨start1.p0, start1.e0, start1.about1, start1.theMethod, start1.args0, start1.below0, start1.atStart⟩
end Jvm.Pilot.@@N@@
