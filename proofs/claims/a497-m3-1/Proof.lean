import JvmDerived
import JvmDerived.Pilot.@@N@@Statement
import JvmDerived.Pilot.@@N@@Code
set_option linter.unusedVariables false
set_option linter.unusedSimpArgs false
@@BLOCK:NumsL.lean.txt@@
namespace Jvm.RoadKit
open Sem ClassFile Op Lib Jvm.Stand Jvm.Free Jvm.LawKit
section New
variable {p : Program} {l : Launch} {e : Env} {R : Room} {s : State} {m : MethodId} {args : Array Value} {below : List Frame} {meth : Method} {c : Code} {T : State} {locs : List Loc} {cells slots : Nat}
theorem retI (X : Stand p l e R s m args below meth c T locs cells slots) (hx : p.tables.exec = Jvm.exec) {pc : Nat} {Ls : Array Slot} {z : Int32} {rest : List Value} (hret : meth.sig.returnType = some .int) (hd : decode c.code pc = .ok (.ireturn, 1)) {fs : List Frame}
    (hl : ∀ (f : JFrame) (acts : List Action), f.method = m → f.locked = none → f.entered = [] → (doReturn e (T.setTop f) acts (some (.int z))).1 = T.setFrames fs) : Steps p.tables e below (T.setTop (mkF m pc Ls (.int z :: rest))) (T.setFrames fs) :=
  retOut X hx hret rfl (Or.inl ⟨rfl, Or.inl rfl, _, rfl⟩) hd hl
theorem retL (X : Stand p l e R s m args below meth c T locs cells slots) (hx : p.tables.exec = Jvm.exec) {pc : Nat} {Ls : Array Slot} {z : Int64} {rest : List Value} (hret : meth.sig.returnType = some .long) (hd : decode c.code pc = .ok (.lreturn, 1)) {fs : List Frame}
    (hl : ∀ (f : JFrame) (acts : List Action), f.method = m → f.locked = none → f.entered = [] → (doReturn e (T.setTop f) acts (some (.long z))).1 = T.setFrames fs) : Steps p.tables e below (T.setTop (mkF m pc Ls (.long z :: rest))) (T.setFrames fs) :=
  retOut X hx hret rfl (Or.inr (Or.inl ⟨rfl, rfl, _, rfl⟩)) hd hl
theorem retA (X : Stand p l e R s m args below meth c T locs cells slots) (hx : p.tables.exec = Jvm.exec) {pc : Nat} {Ls : Array Slot} {z : Addr} {t : FieldType} {rest : List Value} (hret : meth.sig.returnType = some t) (ht : t.isReference = true) (hd : decode c.code pc = .ok (.areturn, 1)) {fs : List Frame}
    (hn : narrow t (.ref z) = .ref z) (hl : ∀ (f : JFrame) (acts : List Action), f.method = m → f.locked = none → f.entered = [] → (doReturn e (T.setTop f) acts (some (.ref z))).1 = T.setFrames fs) : Steps p.tables e below (T.setTop (mkF m pc Ls (.ref z :: rest))) (T.setFrames fs) :=
  retOut X hx hret hn (Or.inr (Or.inr (Or.inr (Or.inr ⟨rfl, ht, rfl⟩)))) hd hl
end New
end Jvm.RoadKit
namespace Jvm.Pilot.@@N@@
open Jvm Jvm.ClassFile Sem Op Lib Jvm.Free Jvm.Stand Jvm.LawKit Jvm.RoadKit Bundle Jvm.Pilot.@@N@@.Jvm.D
/-- the walk moves on: what runs from S' runs from S -/
theorem own_go {tb : Tables} {e : Env} {below : List Frame} {S S' : State} {P : State → Outcome → Prop} (h : ∀ t, Steps tb e below S' t → Steps tb e below S t)
    (k : ∃ s₂ o, Steps tb e below S' s₂ ∧ s₂.status = .running ∧ Ended s₂ below o ∧ P s₂ o) : ∃ s₂ o, Steps tb e below S s₂ ∧ s₂.status = .running ∧ Ended s₂ below o ∧ P s₂ o := by
  obtain ⟨s₂, o, h1, h2⟩ := k
  exact ⟨s₂, o, h _ h1, h2⟩
/-- the same, on the way to a joint -/
theorem own_goR {tb : Tables} {e : Env} {below : List Frame} {S S' : State} {α : Type} {Φ : α → Prop} {Ψ : α → State} (h : ∀ t, Steps tb e below S' t → Steps tb e below S t)
    (k : ∃ x, Φ x ∧ ∀ t, Steps tb e below (Ψ x) t → Steps tb e below S' t) : ∃ x, Φ x ∧ ∀ t, Steps tb e below (Ψ x) t → Steps tb e below S t := by
  obtain ⟨x, h1, h2⟩ := k
  exact ⟨x, h1, fun t kt => h t (h2 t kt)⟩
/-- a private method is selected, where a method of its class is -/
theorem own_selp {s : State} {args args' : Array Value} {cls : String} {x' y' y : MethodName} (h : (Jvm.Cond.selects cls x' y').before args s = true) (e : y'.cls = y.cls) (hpriv : s.PrivateAt y) (hinst : (Jvm.Cond.instanceMethod y).before args' s = true) (hy : y.cls ≠ "java/lang/invoke/MethodHandle" ∧ y.cls ≠ "java/lang/invoke/VarHandle") : (Jvm.Cond.selects y.cls y y).before args' s = true := by
  obtain ⟨c, r, m, -, -, h3, -, mk, h4, h5⟩ := Cond.selects_spec h
  exact Jvm.Stand.selects_self_of_private (e ▸ findClass_of_methodNamed h3) h4 h5 hpriv hinst hy
/-- Java's x >>> y on ints and on longs -/
def own_ushr (x y : Int32) : Int32 := (x.toUInt32 >>> (y &&& 31).toUInt32).toInt32
def own_ushrL (x : Int64) (y : Int32) : Int64 := (x.toUInt64 >>> (y &&& 0x3f).toInt64.toUInt64).toInt64
def own_shlL (x : Int64) (y : Int32) : Int64 := x <<< (y &&& 0x3f).toInt64
def own_shrL (x : Int64) (y : Int32) : Int64 := x >>> (y &&& 0x3f).toInt64
def own_shl (x y : Int32) : Int32 := x <<< (y &&& 31)
def own_shr (x y : Int32) : Int32 := x >>> (y &&& 31)
/-- an array by its places: ints (byte, char, short, boolean too), longs -/
def own_AI (Z : State) (h : Heap) (a : Addr) (ty : FieldType) (n : Nat) (g : Nat → Int32) : Prop := ∃ c : Cell, Arr Z h a c ty ∧ c.slots.size = n ∧ n < 2 ^ 31 ∧ ∀ i, i < n → c.slots[i]? = some (.int (g i))
def own_AJ (Z : State) (h : Heap) (a : Addr) (ty : FieldType) (n : Nat) (g : Nat → Int64) : Prop := ∃ c : Cell, Arr Z h a c ty ∧ c.slots.size = n ∧ n < 2 ^ 31 ∧ ∀ i, i < n → c.slots[i]? = some (.long (g i))
def own_AD (Z : State) (h : Heap) (a : Addr) (ty : FieldType) (n : Nat) (g : Nat → UInt64) : Prop := ∃ c : Cell, Arr Z h a c ty ∧ c.slots.size = n ∧ n < 2 ^ 31 ∧ ∀ i, i < n → c.slots[i]? = some (.double (g i))
def own_upd {α : Type} (g : Nat → α) (j : Nat) (v : α) : Nat → α := fun i => if i = j then v else g i
theorem own_upd_same {α : Type} (g : Nat → α) (j : Nat) (v : α) : own_upd g j v j = v := if_pos rfl
theorem own_upd_ne {α : Type} (g : Nat → α) {i j : Nat} (v : α) (h : i ≠ j) : own_upd g j v i = g i := if_neg h
section OwnArrays
variable {Z : State} {h h' : Heap} {a b : Addr} {ty : FieldType} {n sl : Nat} {v : Value} {ws : List Addr}
theorem own_AI.lt {g : Nat → Int32} (F : own_AI Z h a ty n g) : a < h.size := by obtain ⟨c, A, -⟩ := F; exact A.lt
theorem own_AI.ext {g : Nat → Int32} (F : own_AI Z h a ty n g) (E : Ext h h') : own_AI Z h' a ty n g := by obtain ⟨c, A, r⟩ := F; exact ⟨c, A.ext E, r⟩
theorem own_AI.other {g : Nat → Int32} (F : own_AI Z h b ty n g) (W : Wr h h' a sl v) (q : b ≠ a) : own_AI Z h' b ty n g := by obtain ⟨c, A, r⟩ := F; exact ⟨c, A.other W q, r⟩
theorem own_AI.keep {g : Nat → Int32} (F : own_AI Z h a ty n g) (K : Keep h h' ws) (q : a ∉ ws) : own_AI Z h' a ty n g := by obtain ⟨c, A, r⟩ := F; exact ⟨c, ⟨K.2.1 a c A.1 q, A.2⟩, r⟩
theorem own_AJ.lt {g : Nat → Int64} (F : own_AJ Z h a ty n g) : a < h.size := by obtain ⟨c, A, -⟩ := F; exact A.lt
theorem own_AJ.ext {g : Nat → Int64} (F : own_AJ Z h a ty n g) (E : Ext h h') : own_AJ Z h' a ty n g := by obtain ⟨c, A, r⟩ := F; exact ⟨c, A.ext E, r⟩
theorem own_AJ.other {g : Nat → Int64} (F : own_AJ Z h b ty n g) (W : Wr h h' a sl v) (q : b ≠ a) : own_AJ Z h' b ty n g := by obtain ⟨c, A, r⟩ := F; exact ⟨c, A.other W q, r⟩
theorem own_AJ.keep {g : Nat → Int64} (F : own_AJ Z h a ty n g) (K : Keep h h' ws) (q : a ∉ ws) : own_AJ Z h' a ty n g := by obtain ⟨c, A, r⟩ := F; exact ⟨c, ⟨K.2.1 a c A.1 q, A.2⟩, r⟩
theorem own_AD.lt {g : Nat → UInt64} (F : own_AD Z h a ty n g) : a < h.size := by obtain ⟨c, A, -⟩ := F; exact A.lt
theorem own_AD.ext {g : Nat → UInt64} (F : own_AD Z h a ty n g) (E : Ext h h') : own_AD Z h' a ty n g := by obtain ⟨c, A, r⟩ := F; exact ⟨c, A.ext E, r⟩
theorem own_AD.other {g : Nat → UInt64} (F : own_AD Z h b ty n g) (W : Wr h h' a sl v) (q : b ≠ a) : own_AD Z h' b ty n g := by obtain ⟨c, A, r⟩ := F; exact ⟨c, A.other W q, r⟩
theorem own_AD.keep {g : Nat → UInt64} (F : own_AD Z h a ty n g) (K : Keep h h' ws) (q : a ∉ ws) : own_AD Z h' a ty n g := by obtain ⟨c, A, r⟩ := F; exact ⟨c, ⟨K.2.1 a c A.1 q, A.2⟩, r⟩
theorem own_AI.set {g : Nat → Int32} {c : Cell} {x : Int32} {j : Nat} (A : Arr Z h a c ty) (S : c.slots.size = n) (M : n < 2 ^ 31) (H : ∀ i, i < n → c.slots[i]? = some (.int (g i))) (W : Wr h h' a j (.int x)) : own_AI Z h' a ty n (own_upd g j x) := by
  refine ⟨_, A.same W, (sz_set _ _ _).trans S, M, fun i hi => ?_⟩
  simp only [Cell.setSlot, Array.getElem?_setIfInBounds, own_upd]
  by_cases q : j = i
  · subst q; simp [S, hi]
  · rw [if_neg q, if_neg (fun z => q z.symm)]; exact H i hi
theorem own_AJ.set {g : Nat → Int64} {c : Cell} {x : Int64} {j : Nat} (A : Arr Z h a c ty) (S : c.slots.size = n) (M : n < 2 ^ 31) (H : ∀ i, i < n → c.slots[i]? = some (.long (g i))) (W : Wr h h' a j (.long x)) : own_AJ Z h' a ty n (own_upd g j x) := by
  refine ⟨_, A.same W, (sz_set _ _ _).trans S, M, fun i hi => ?_⟩
  simp only [Cell.setSlot, Array.getElem?_setIfInBounds, own_upd]
  by_cases q : j = i
  · subst q; simp [S, hi]
  · rw [if_neg q, if_neg (fun z => q z.symm)]; exact H i hi
theorem own_AD.set {g : Nat → UInt64} {c : Cell} {x : UInt64} {j : Nat} (A : Arr Z h a c ty) (S : c.slots.size = n) (M : n < 2 ^ 31) (H : ∀ i, i < n → c.slots[i]? = some (.double (g i))) (W : Wr h h' a j (.double x)) : own_AD Z h' a ty n (own_upd g j x) := by
  refine ⟨_, A.same W, (sz_set _ _ _).trans S, M, fun i hi => ?_⟩
  simp only [Cell.setSlot, Array.getElem?_setIfInBounds, own_upd]
  by_cases q : j = i
  · subst q; simp [S, hi]
  · rw [if_neg q, if_neg (fun z => q z.symm)]; exact H i hi
theorem own_clamp_lt (z : Int32) : z.toNatClampNeg < 2 ^ 31 := by have := z.toInt_lt; simp only [Int32.toNatClampNeg]; omega
theorem own_AI.fresh {k : ClassId} {z : Int32} (A : Arr Z h a (newA k ty z) ty) (hd : defaultValue ty = .int 0) : own_AI Z h a ty z.toNatClampNeg (fun _ => 0) :=
  ⟨_, A, sz_new _ _ _, own_clamp_lt z, fun i hi => by simp [newA, hi, hd]⟩
theorem own_AJ.fresh {k : ClassId} {z : Int32} (A : Arr Z h a (newA k ty z) ty) (hd : defaultValue ty = .long 0) : own_AJ Z h a ty z.toNatClampNeg (fun _ => 0) :=
  ⟨_, A, sz_new _ _ _, own_clamp_lt z, fun i hi => by simp [newA, hi, hd]⟩
theorem own_AD.fresh {k : ClassId} {z : Int32} (A : Arr Z h a (newA k ty z) ty) (hd : defaultValue ty = .double 0) : own_AD Z h a ty z.toNatClampNeg (fun _ => 0) :=
  ⟨_, A, sz_new _ _ _, own_clamp_lt z, fun i hi => by simp [newA, hi, hd]⟩
theorem own_in {c : Cell} {j : Int32} (S : c.slots.size = n) (q : ¬ j < 0 ∧ j.toNatClampNeg < n) : ¬ (j < 0 ∨ c.slots.size ≤ j.toNatClampNeg) := by
  rw [S]; exact fun z => z.elim q.1 (fun y => by have := q.2; omega)
theorem own_len {c : Cell} (S : c.slots.size = n) : c.slots.size.toInt32 = Int32.ofNat n := by rw [S]
theorem own_fitI {g : Nat → Int32} {c : Cell} (A : Arr Z h a c .int) (S : c.slots.size = n) (H : ∀ i, i < n → c.slots[i]? = some (.int (g i))) : FitC Z c :=
  fitC_of A fun i hi v hv => by rw [H i (S ▸ hi)] at hv; cases hv; rfl
theorem own_nst {C : String} (E : Exa Z h a C) : ∃ c : Cell, h[a]? = some c ∧ c.vm.isStatics = false := by obtain ⟨c, k, h1, -, -, h4, -⟩ := E; exact ⟨c, h1, h4⟩
theorem own_Sta_keep {C f d : String} (F : Sta Z h C f d v) (K : Keep h h' ws) (q : ∀ x ∈ ws, ∃ c : Cell, h[x]? = some c ∧ c.vm.isStatics = false) : Sta Z h' C f d v := by
  obtain ⟨cf, i, k, f, st, cell, h1, h2, h3, h4, h5, h6, h7⟩ := F
  refine ⟨cf, i, k, f, st, cell, h1, h2, h3, h4, K.2.1 st cell h5 (fun z => ?_), h6, h7⟩
  obtain ⟨c, g1, g2⟩ := q st z
  cases h5.symm.trans g1
  rw [h6] at g2
  cases g2
end OwnArrays
theorem own_lremq (x y : Int64) : x - (x / y) * y = x % y := by
  apply Int64.toInt_inj.mp
  rw [Int64.toInt_sub, Int64.toInt_mul, Int64.toInt_div, Int64.toInt_mod]
  have h := Int.mul_tdiv_add_tmod x.toInt y.toInt
  have hl := x.toInt_lt; have hg := x.le_toInt
  simp only [Int.bmod_sub_bmod, Int.sub_bmod_bmod, Int.bmod_mul_bmod, Int.mul_bmod_bmod]
  have e : x.toInt - x.toInt.tdiv y.toInt * y.toInt = x.toInt.tmod y.toInt := by rw [Int.mul_comm]; omega
  rw [e]
  have h1 := (x % y).toInt_lt; have h2 := (x % y).le_toInt
  rw [Int64.toInt_mod] at h1 h2
  exact Int.bmod_eq_of_le (by omega) (by omega)
end Jvm.Pilot.@@N@@
/- laws to paste: Road.backV, Road.eqW (cut by pick.py; bodies as the Statement names them) -/
namespace Jvm.Pilot.@@N@@
namespace StrChars
open Jvm Sem ClassFile Op Lib Jvm.Stand Jvm.Free.XT Jvm.Free.ALB Jvm.Free.JM Jvm.Free
open Jvm.Lib.Cold (StaticIs)
/-- a char array whose places are chars -/
def Ch (a : Addr) (A : Cell) (U : State) : Prop := Arr .char a A U ∧ Typed .char A
theorem Ch.mv {a : Addr} {A : Cell} {U U' : State} (h : Ch a A U) (hal : U.vm.Alike U'.vm) (hh : U'.heap = U.heap) : Ch a A U' := ⟨h.1.mv hal hh, h.2⟩
theorem Ch.keep {a : Addr} {A : Cell} {U U' : State} (h : Ch a A U) (hal : U.vm.Alike U'.vm) (hk : U'.heap[a]? = some A) : Ch a A U' := ⟨h.1.keep hal hk, h.2⟩
/-- what place i of a char[]'s cell holds -/
def cv (A : Cell) (i : Nat) : Int32 := match A.slots[i]? with | some (.int x) => x | _ => 0
theorem Ch.get {a : Addr} {A : Cell} {U : State} (h : Ch a A U) {i : Nat} (hi : i < A.slots.size) : A.slots[i]? = some (.int (cv A i)) := by
  have e := Array.getElem?_eq_getElem hi
  have f := h.2 i _ e
  unfold cv; rw [e]
  generalize A.slots[i] = v at f
  cases v <;> simp [fits] at f ⊢
/-- the byte that i2b leaves of a char -/
def lo8 (x : Int32) : Int32 := x.toInt8.toInt32
theorem fits_lo8 (y : Int32) : fits .byte (.int (lo8 y)) = true := by
  have h1 := y.toInt8.le_toInt
  have h2 := y.toInt8.toInt_lt
  simp only [lo8, fits, Bool.and_eq_true, decide_eq_true_eq, Int32.le_iff_toInt_le, Int8.toInt_toInt32, show (-128 : Int32).toInt = -128 from by decide, show (127 : Int32).toInt = 127 from by decide]
  omega
/-- A' is A but that each place j of lo .. hi - 1 holds f j -/
def Laid (A A' : Cell) (lo hi : Nat) (f : Nat → Value) : Prop := A'.cls = A.cls ∧ A'.vm = A.vm ∧ A'.slots.size = A.slots.size ∧ ∀ i, A'.slots[i]? = if lo ≤ i ∧ i < hi then some (f i) else A.slots[i]?
theorem Laid.zero (A : Cell) (lo : Nat) (f : Nat → Value) : Laid A A lo (lo + 0) f := ⟨rfl, rfl, rfl, fun i => by rw [if_neg (by omega)]⟩
theorem Laid.step {A Ak : Cell} {lo k : Nat} {f : Nat → Value} {v : Value} (h : Laid A Ak lo k f) (hlo : lo ≤ k) (hk : k < Ak.slots.size) (hv : v = f k) : Laid A (Ak.setSlot k v) lo (k + 1) f := by
  refine ⟨h.1, h.2.1, by simpa [Cell.setSlot] using h.2.2.1, fun i => ?_⟩
  by_cases e : k = i
  · subst e; rw [Cell.slots_setSlot_self v hk, if_pos (by omega), hv]
  · rw [Cell.slots_setSlot_ne v e, h.2.2.2 i]
    by_cases q : lo ≤ i ∧ i < k
    · rw [if_pos q, if_pos (by omega)]
    · rw [if_neg q, if_neg (by omega)]
def U16 : String := "java/lang/StringUTF16"
namespace Cmp5
def yN : MethodName := ⟨"java/lang/StringUTF16", "compress", "([CI[BII)I"⟩
abbrev yB : ByteArray := jdk_52_method_21_code
theorem d0 : decode yB 0 = .ok (.iconst 0, 1) := by decide +kernel
theorem d1 : decode yB 1 = .ok (.istore 5, 2) := by decide +kernel
theorem d3 : decode yB 3 = .ok (.iload 5, 2) := by decide +kernel
theorem d5 : decode yB 5 = .ok (.iload 4, 2) := by decide +kernel
theorem d7 : decode yB 7 = .ok (.if_icmp (.ge) 37, 3) := by decide +kernel
theorem d10 : decode yB 10 = .ok (.aload_n 0, 1) := by decide +kernel
theorem d11 : decode yB 11 = .ok (.iload_n 1, 1) := by decide +kernel
theorem d12 : decode yB 12 = .ok (.caload, 1) := by decide +kernel
theorem d13 : decode yB 13 = .ok (.istore 6, 2) := by decide +kernel
theorem d15 : decode yB 15 = .ok (.iload 6, 2) := by decide +kernel
theorem d17 : decode yB 17 = .ok (.sipush 255, 3) := by decide +kernel
theorem d20 : decode yB 20 = .ok (.if_icmp (.le) 6, 3) := by decide +kernel
theorem d26 : decode yB 26 = .ok (.aload_n 2, 1) := by decide +kernel
theorem d27 : decode yB 27 = .ok (.iload_n 3, 1) := by decide +kernel
theorem d28 : decode yB 28 = .ok (.iload 6, 2) := by decide +kernel
theorem d30 : decode yB 30 = .ok (.i2b, 1) := by decide +kernel
theorem d31 : decode yB 31 = .ok (.bastore, 1) := by decide +kernel
theorem d32 : decode yB 32 = .ok (.iinc 1 1, 3) := by decide +kernel
theorem d35 : decode yB 35 = .ok (.iinc 3 1, 3) := by decide +kernel
theorem d38 : decode yB 38 = .ok (.iinc 5 1, 3) := by decide +kernel
theorem d41 : decode yB 41 = .ok (.goto (-38), 3) := by decide +kernel
theorem d44 : decode yB 44 = .ok (.iload 4, 2) := by decide +kernel
theorem d46 : decode yB 46 = .ok (.ireturn, 1) := by decide +kernel
def site : List Cond := []
def tab : Cond := tabOf yN yB 7 (some .int) site
def P (b : Addr) (A : Cell) (d : Addr) (B : Cell) (o q len : Nat) (args : Array Value) (s : State) : Prop := args = #[.ref b, .int (Int32.ofNat o), .ref d, .int (Int32.ofNat q), .int (Int32.ofNat len)] ∧ Ch b A s ∧ Arr .byte d B s ∧ b ≠ d ∧ o + len ≤ A.slots.size ∧ q + len ≤ B.slots.size ∧ ∀ i, i < len → ¬ 255 < cv A (o + i)
def E (b : Addr) (A : Cell) (d : Addr) (B : Cell) (o q len : Nat) (r : Option Value) (s u : State) : Prop := r = some (.int (Int32.ofNat len)) ∧ ∃ B', Put d B' s u ∧ Laid B B' q (q + len) (fun j => Value.int (lo8 (cv A (o + (j - q)))))
/-- no char of the range above 255: len; the places written hold each char's low byte -/
theorem law (l : Launch) (b : Addr) (A : Cell) (d : Addr) (B : Cell) (o q len : Nat) : Law l yN 5 5 0 0 yB 7 (some .int) site (P b A d B o q len) (E b A d B o q len) (copyLocs d q len) 0 0 := by
  refine Law.of_walk (plainFor_of_name (by decide +kernel)) (by decide +kernel) (by decide +kernel) (by decide) (fun _ _ h => by rw [h.1]; rfl) (fun _ U U' hal hh h => ⟨h.1, h.2.1.mv hal hh, h.2.2.1.mv hal hh, h.2.2.2⟩) (fun r U U' V V' h1 hal h2 h => ⟨h.1, h.2.elim fun B' q => ⟨B', q.1.mv h1 h2, q.2⟩⟩) ?_
  intro p e s m args below meth c s₁ X0 hexec hbytes hml hret hlk hnm hown hh0 W hP
  obtain ⟨rfl, hA, hB, hne, l1, l2, hp⟩ := hP
  have c1 : Steps p.tables e below (s₁.setTop (entryFrame m #[.ref b, .int (Int32.ofNat o), .ref d, .int (Int32.ofNat q), .int (Int32.ofNat len)] 7)) (s₁.setTop (mkF m 0 #[.val (.ref b), .val (.int (Int32.ofNat o)), .val (.ref d), .val (.int (Int32.ofNat q)), .val (.int (Int32.ofNat len)), .unset, .unset] [])) := entry rfl
  have hA0 := hA.1.mv X0.warmed.alike hh0
  have hB0 := hB.mv X0.warmed.alike hh0
  have a31 := hA.1.2.2.2
  have c2 : Steps p.tables e below (s₁.setTop (entryFrame m #[.ref b, .int (Int32.ofNat o), .ref d, .int (Int32.ofNat q), .int (Int32.ofNat len)] 7)) (s₁.setTop (mkF m 3 #[.val (.ref b), .val (.int (Int32.ofNat o)), .val (.ref d), .val (.int (Int32.ofNat q)), .val (.int (Int32.ofNat len)), .val (.int 0), .unset] [])) := c1.trans (by
    refine iconstV X0.here hexec rfl 0 (hb hbytes d0) (by decide) ?_
    refine XS.istore X0.here hexec rfl (hb hbytes d1) rfl rfl ?_
    exact Steps.refl _)
  have loop : ∀ (r i : Nat), i + r = len → ∀ (z : Slot), (z = .unset ∨ ∃ w, z = .val w ∧ w.category = 1) → ∀ (Tl : State) (Bk : Cell), Stand p l e { frames := 0, locals := 0, cells := 0, slots := 0 } s m #[.ref b, .int (Int32.ofNat o), .ref d, .int (Int32.ofNat q), .int (Int32.ofNat len)] below meth c Tl ([] ++ copyLocs d q i) 0 0 → Put d Bk s₁ Tl → Laid B Bk q (q + i) (fun j => Value.int (lo8 (cv A (o + (j - q))))) →
      Steps p.tables e below (s₁.setTop (entryFrame m #[.ref b, .int (Int32.ofNat o), .ref d, .int (Int32.ofNat q), .int (Int32.ofNat len)] 7)) (Tl.setTop (mkF m 3 #[.val (.ref b), .val (.int (Int32.ofNat (o + i))), .val (.ref d), .val (.int (Int32.ofNat (q + i))), .val (.int (Int32.ofNat len)), .val (.int (Int32.ofNat i)), z] [])) → ∃ (T' : State) (B' : Cell) (z' : Slot), Stand p l e { frames := 0, locals := 0, cells := 0, slots := 0 } s m #[.ref b, .int (Int32.ofNat o), .ref d, .int (Int32.ofNat q), .int (Int32.ofNat len)] below meth c T' ([] ++ copyLocs d q len) 0 0 ∧ Put d B' s₁ T' ∧ Laid B B' q (q + len) (fun j => Value.int (lo8 (cv A (o + (j - q))))) ∧
      Steps p.tables e below (s₁.setTop (entryFrame m #[.ref b, .int (Int32.ofNat o), .ref d, .int (Int32.ofNat q), .int (Int32.ofNat len)] 7)) (T'.setTop (mkF m 3 #[.val (.ref b), .val (.int (Int32.ofNat (o + len))), .val (.ref d), .val (.int (Int32.ofNat (q + len))), .val (.int (Int32.ofNat len)), .val (.int (Int32.ofNat len)), z'] [])) := by
    intro r
    induction r with
    | zero =>
      intro i hi z hz Tl Bk Xl pl fl cl
      have hil : i = len := by omega
      rw [hil] at Xl fl cl
      exact ⟨Tl, Bk, z, Xl, pl, fl, cl⟩
    | succ r ih =>
      intro i hi z hz Tl Bk Xl pl fl cl
      have all := X0.warmed.alike.symm.trans Xl.warmed.alike
      have hAl := hA0.keep all (pl.other hne hA0.1)
      have hBk := hB0.like all pl.1 fl.1 fl.2.1 fl.2.2.1
      have hlt : q + i < Bk.slots.size := by rw [fl.2.2.1]; omega
      have c3 : Steps p.tables e below (s₁.setTop (entryFrame m #[.ref b, .int (Int32.ofNat o), .ref d, .int (Int32.ofNat q), .int (Int32.ofNat len)] 7)) (Tl.setTop (mkF m 12 #[.val (.ref b), .val (.int (Int32.ofNat (o + i))), .val (.ref d), .val (.int (Int32.ofNat (q + i))), .val (.int (Int32.ofNat len)), .val (.int (Int32.ofNat i)), z] [.int (Int32.ofNat (o + i)), .ref b])) := cl.trans (by
        refine XS.iload Xl.here hexec rfl (hb hbytes d3) rfl ?_
        refine XS.iload Xl.here hexec rfl (hb hbytes d5) rfl ?_
        refine XS.icmpNo Xl.here hexec rfl (hb hbytes d7) rfl (ii_ge_f (lt32 (by omega) (by omega))) ?_
        refine XS.aloadN Xl.here hexec rfl (hb hbytes d10) rfl rfl ?_
        refine XS.iloadN Xl.here hexec rfl (hb hbytes d11) rfl ?_
        exact Steps.refl _)
      have c4 : Steps p.tables e below (s₁.setTop (entryFrame m #[.ref b, .int (Int32.ofNat o), .ref d, .int (Int32.ofNat q), .int (Int32.ofNat len)] 7)) (Tl.setTop (mkF m 13 #[.val (.ref b), .val (.int (Int32.ofNat (o + i))), .val (.ref d), .val (.int (Int32.ofNat (q + i))), .val (.int (Int32.ofNat len)), .val (.int (Int32.ofNat i)), z] [.int (cv A (o + i))])) := c3.trans (by
        refine Xl.aget hexec hAl rfl (hA.get (i := o + i) (by omega)) rfl rfl (hb hbytes d12) ?_
        exact Steps.refl _)
      have c5 : Steps p.tables e below (s₁.setTop (entryFrame m #[.ref b, .int (Int32.ofNat o), .ref d, .int (Int32.ofNat q), .int (Int32.ofNat len)] 7)) (Tl.setTop (mkF m 15 #[.val (.ref b), .val (.int (Int32.ofNat (o + i))), .val (.ref d), .val (.int (Int32.ofNat (q + i))), .val (.int (Int32.ofNat len)), .val (.int (Int32.ofNat i)), .val (.int (cv A (o + i)))] [])) := c4.trans (by
        refine XS.istoreS Xl.here hexec rfl (hb hbytes d13) rfl rfl hz ?_
        exact Steps.refl _)
      have c6 : Steps p.tables e below (s₁.setTop (entryFrame m #[.ref b, .int (Int32.ofNat o), .ref d, .int (Int32.ofNat q), .int (Int32.ofNat len)] 7)) (Tl.setTop (mkF m 31 #[.val (.ref b), .val (.int (Int32.ofNat (o + i))), .val (.ref d), .val (.int (Int32.ofNat (q + i))), .val (.int (Int32.ofNat len)), .val (.int (Int32.ofNat i)), .val (.int (cv A (o + i)))] [.int (lo8 (cv A (o + i))), .int (Int32.ofNat (q + i)), .ref d])) := c5.trans (by
        refine XS.iload Xl.here hexec rfl (hb hbytes d15) rfl ?_
        refine sipushV Xl.here hexec rfl 255 (hb hbytes d17) (by decide) ?_
        refine XS.icmpYes Xl.here hexec rfl (pc0 := 20) rfl (hb hbytes d20) rfl (ii_le_t (hp i (by omega))) (by decide) rfl ?_
        refine XS.aloadN Xl.here hexec rfl (hb hbytes d26) rfl rfl ?_
        refine XS.iloadN Xl.here hexec rfl (hb hbytes d27) rfl ?_
        refine XS.iload Xl.here hexec rfl (hb hbytes d28) rfl ?_
        refine i2b Xl.here hexec rfl (hb hbytes d30) rfl ?_
        exact Steps.refl _)
      obtain ⟨T7, X7, p7, st7⟩ := Xl.aput hexec hBk rfl hlt rfl (fits_lo8 (cv A (o + i))) (g := (mkF m 31 #[.val (.ref b), .val (.int (Int32.ofNat (o + i))), .val (.ref d), .val (.int (Int32.ofNat (q + i))), .val (.int (Int32.ofNat len)), .val (.int (Int32.ofNat i)), .val (.int (cv A (o + i)))] [.int (lo8 (cv A (o + i))), .int (Int32.ofNat (q + i)), .ref d])) rfl (rest := []) rfl (hb hbytes d31)
      have c8 : Steps p.tables e below (s₁.setTop (entryFrame m #[.ref b, .int (Int32.ofNat o), .ref d, .int (Int32.ofNat q), .int (Int32.ofNat len)] 7)) (T7.setTop (mkF m 32 #[.val (.ref b), .val (.int (Int32.ofNat (o + i))), .val (.ref d), .val (.int (Int32.ofNat (q + i))), .val (.int (Int32.ofNat len)), .val (.int (Int32.ofNat i)), .val (.int (cv A (o + i)))] [])) := c6.trans (st7 _ (Steps.refl _))
      have c9 : Steps p.tables e below (s₁.setTop (entryFrame m #[.ref b, .int (Int32.ofNat o), .ref d, .int (Int32.ofNat q), .int (Int32.ofNat len)] 7)) (T7.setTop (mkF m 3 #[.val (.ref b), .val (.int (Int32.ofNat (o + i) + 1)), .val (.ref d), .val (.int (Int32.ofNat (q + i) + 1)), .val (.int (Int32.ofNat len)), .val (.int (Int32.ofNat i + 1)), .val (.int (cv A (o + i)))] [])) := c8.trans (by
        refine iincV X7.here hexec rfl 1 (hb hbytes d32) (by decide) rfl rfl ?_
        refine iincV X7.here hexec rfl 1 (hb hbytes d35) (by decide) rfl rfl ?_
        refine iincV X7.here hexec rfl 1 (hb hbytes d38) (by decide) rfl rfl ?_
        refine XS.goto X7.here hexec rfl (pc0 := 41) rfl (hb hbytes d41) (by decide) rfl ?_
        exact Steps.refl _)
      have c10 : Steps p.tables e below (s₁.setTop (entryFrame m #[.ref b, .int (Int32.ofNat o), .ref d, .int (Int32.ofNat q), .int (Int32.ofNat len)] 7)) (T7.setTop (mkF m 3 #[.val (.ref b), .val (.int (Int32.ofNat (o + (i + 1)))), .val (.ref d), .val (.int (Int32.ofNat (q + (i + 1)))), .val (.int (Int32.ofNat len)), .val (.int (Int32.ofNat (i + 1))), .val (.int (cv A (o + i)))] [])) := by
        have := c9
        rw [succ32, succ32, succ32] at this
        exact this
      exact ih (i + 1) (by omega) _ (Or.inr ⟨_, rfl, rfl⟩) T7 _ (by rw [copyLocs_step, ← List.append_assoc]; exact X7) (pl.trans p7) (fl.step (by omega) hlt (by simp)) c10
  obtain ⟨T9, B9, z9, X9, p9, f9, g9⟩ := loop len 0 (by omega) .unset (Or.inl rfl) s₁ B (by simpa [copyLocs] using X0) ⟨hB0.1, fun _ _ => rfl, rfl⟩ (Laid.zero _ _ _) c2
  have c11 : Steps p.tables e below (s₁.setTop (entryFrame m #[.ref b, .int (Int32.ofNat o), .ref d, .int (Int32.ofNat q), .int (Int32.ofNat len)] 7)) (T9.setTop (mkF m 46 #[.val (.ref b), .val (.int (Int32.ofNat (o + len))), .val (.ref d), .val (.int (Int32.ofNat (q + len))), .val (.int (Int32.ofNat len)), .val (.int (Int32.ofNat len)), z9] [.int (Int32.ofNat len)])) := g9.trans (by
    refine XS.iload X9.here hexec rfl (hb hbytes d3) rfl ?_
    refine XS.iload X9.here hexec rfl (hb hbytes d5) rfl ?_
    refine XS.icmpYes X9.here hexec rfl (pc0 := 7) rfl (hb hbytes d7) rfl (ii_ge_t (nlt32 (by omega) (Nat.le_refl _))) (by decide) rfl ?_
    refine XS.iload X9.here hexec rfl (hb hbytes d44) rfl ?_
    exact Steps.refl _)
  exact ⟨T9, some (.int (Int32.ofNat len)), _, _, _, X9, by simp, rfl, rfl, (fun h => by cases h), ⟨rfl, B9, p9.from hh0, f9⟩, fun fs hl => c11.trans (X9.ireturnOut hexec hret rfl (Or.inl rfl) (hb hbytes d46) hl)⟩
end Cmp5
namespace Cmp3
def yN : MethodName := ⟨"java/lang/StringUTF16", "compress", "([CII)[B"⟩
abbrev yB : ByteArray := jdk_52_method_16_code
theorem d0 : decode yB 0 = .ok (.iload_n 2, 1) := by decide +kernel
theorem d1 : decode yB 1 = .ok (.newarray .byte, 2) := by decide +kernel
theorem d3 : decode yB 3 = .ok (.astore_n 3, 1) := by decide +kernel
theorem d4 : decode yB 4 = .ok (.aload_n 0, 1) := by decide +kernel
theorem d5 : decode yB 5 = .ok (.iload_n 1, 1) := by decide +kernel
theorem d6 : decode yB 6 = .ok (.aload_n 3, 1) := by decide +kernel
theorem d7 : decode yB 7 = .ok (.iconst 0, 1) := by decide +kernel
theorem d8 : decode yB 8 = .ok (.iload_n 2, 1) := by decide +kernel
theorem d9 : decode yB 9 = .ok (.invokestatic 115, 3) := by decide +kernel
theorem d12 : decode yB 12 = .ok (.istore 4, 2) := by decide +kernel
theorem d14 : decode yB 14 = .ok (.iload 4, 2) := by decide +kernel
theorem d16 : decode yB 16 = .ok (.iload_n 2, 1) := by decide +kernel
theorem d17 : decode yB 17 = .ok (.if_icmp (.eq) 40, 3) := by decide +kernel
theorem d57 : decode yB 57 = .ok (.aload_n 3, 1) := by decide +kernel
theorem d58 : decode yB 58 = .ok (.areturn, 1) := by decide +kernel
def site : List Cond := [.arrayClass .byte, Cmp5.tab] ++ staticW U16 115 Cmp5.yN
def tab : Cond := tabOf yN yB 6 (some (.array .byte)) site
def P (b : Addr) (A : Cell) (o len : Nat) (args : Array Value) (s : State) : Prop := args = #[.ref b, .int (Int32.ofNat o), .int (Int32.ofNat len)] ∧ Ch b A s ∧ o + len ≤ A.slots.size ∧ len ≤ 536870912 ∧ ∀ i, i < len → ¬ 255 < cv A (o + i)
def E (b : Addr) (A : Cell) (o len : Nat) (r : Option Value) (s u : State) : Prop := NewArr .byte "[B" len (fun j => .int (lo8 (cv A (o + j)))) r s u ∧ u.heap.size = s.heap.size + 1
/-- no char of the range above 255: a new byte[] of their low bytes -/
theorem law (l : Launch) (b : Addr) (A : Cell) (o len : Nat) : Law l yN 3 3 1 18 yB 6 (some (.array .byte)) site (P b A o len) (E b A o len) [] 1 len := by
  refine Law.of_walk (plainFor_of_name (by decide +kernel)) (by decide +kernel) (by decide +kernel) (by decide) (fun _ _ h => by rw [h.1]; rfl) (fun _ U U' hal hh h => ⟨h.1, h.2.1.mv hal hh, h.2.2⟩) (fun r U U' V V' h1 hal h2 h => ⟨NewArr.mv r U U' V V' h1 hal h2 h.1, by rw [h1, h2]; exact h.2⟩) ?_
  intro p e s m args below meth c s₁ X0 hexec hbytes hml hret hlk hnm hown hh0 W hP
  obtain ⟨rfl, hA, l1, l2, hp⟩ := hP
  have a31 := hA.1.2.2.2
  have c1 : Steps p.tables e below (s₁.setTop (entryFrame m #[.ref b, .int (Int32.ofNat o), .int (Int32.ofNat len)] 6)) (s₁.setTop (mkF m 0 #[.val (.ref b), .val (.int (Int32.ofNat o)), .val (.int (Int32.ofNat len)), .unset, .unset, .unset] [])) := entry rfl
  have c2 : Steps p.tables e below (s₁.setTop (entryFrame m #[.ref b, .int (Int32.ofNat o), .int (Int32.ofNat len)] 6)) (s₁.setTop (mkF m 1 #[.val (.ref b), .val (.int (Int32.ofNat o)), .val (.int (Int32.ofNat len)), .unset, .unset, .unset] [.int (Int32.ofNat len)])) := c1.trans (by
    refine XS.iloadN X0.here hexec rfl (hb hbytes d0) rfl ?_
    exact Steps.refl _)
  obtain ⟨T3, B3, X3, ba3, bs3, bv3, bh3, bf3, st3⟩ := X0.anew hexec (atype := .byte) (wk W (.arrayClass .byte)) rfl (by show len * 1 ≤ _; omega) (by omega) (g := (mkF m 1 #[.val (.ref b), .val (.int (Int32.ofNat o)), .val (.int (Int32.ofNat len)), .unset, .unset, .unset] [.int (Int32.ofNat len)])) rfl (hb hbytes d1) (rest := []) rfl (Nat.le_refl _) (by show 0 + len ≤ len; omega)
  rw [hh0] at ba3 st3
  have kp3 : XT.Kept s T3 := (XT.Kept.of_eq hh0).push bh3
  have hA3 := hA.keep X3.warmed.alike (kp3 _ _ hA.1.1)
  have hne : b ≠ s.heap.size := hA.1.ne
  have c4 : Steps p.tables e below (s₁.setTop (entryFrame m #[.ref b, .int (Int32.ofNat o), .int (Int32.ofNat len)] 6)) (T3.setTop (mkF m 3 #[.val (.ref b), .val (.int (Int32.ofNat o)), .val (.int (Int32.ofNat len)), .unset, .unset, .unset] [.ref s.heap.size])) := c2.trans (st3 _ (Steps.refl _))
  have c5 : Steps p.tables e below (s₁.setTop (entryFrame m #[.ref b, .int (Int32.ofNat o), .int (Int32.ofNat len)] 6)) (T3.setTop (mkF m 9 #[.val (.ref b), .val (.int (Int32.ofNat o)), .val (.int (Int32.ofNat len)), .val (.ref s.heap.size), .unset, .unset] [.int (Int32.ofNat len), .int 0, .ref s.heap.size, .int (Int32.ofNat o), .ref b])) := c4.trans (by
    refine XS.astoreN X3.here hexec rfl (hb hbytes d3) rfl rfl rfl ?_
    refine XS.aloadN X3.here hexec rfl (hb hbytes d4) rfl rfl ?_
    refine XS.iloadN X3.here hexec rfl (hb hbytes d5) rfl ?_
    refine XS.aloadN X3.here hexec rfl (hb hbytes d6) rfl rfl ?_
    refine iconstV X3.here hexec rfl 0 (hb hbytes d7) (by decide) ?_
    refine XS.iloadN X3.here hexec rfl (hb hbytes d8) rfl ?_
    exact Steps.refl _)
  obtain ⟨v6, T6, X6, E6, g6⟩ := X3.callS hexec (Cmp5.law l b A s.heap.size B3 o 0 len) hown (wks W (staticW U16 115 Cmp5.yN)) (wk W Cmp5.tab) (W := 0) (Nat.le_of_ble_eq_true rfl) (Nat.le_of_ble_eq_true rfl) (Nat.le_refl _) (by show 0 + len + 0 ≤ len; omega) (g := (mkF m 9 #[.val (.ref b), .val (.int (Int32.ofNat o)), .val (.int (Int32.ofNat len)), .val (.ref s.heap.size), .unset, .unset] [.int (Int32.ofNat len), .int (Int32.ofNat 0), .ref s.heap.size, .int (Int32.ofNat o), .ref b])) rfl (by rw [hml]; rfl) c5 (argsL := [.ref b, .int (Int32.ofNat o), .ref s.heap.size, .int (Int32.ofNat 0), .int (Int32.ofNat len)]) (rest := []) rfl rfl (by show 2 * 0 + 0 ≤ _; decide) (hb hbytes d9) (⟨rfl, hA3, ba3, hne, l1, by rw [bs3]; simp, hp⟩)
  obtain ⟨rfl, B6, p6, f6⟩ := E6
  have c7 : Steps p.tables e below (s₁.setTop (entryFrame m #[.ref b, .int (Int32.ofNat o), .int (Int32.ofNat len)] 6)) (T6.setTop (mkF m 12 #[.val (.ref b), .val (.int (Int32.ofNat o)), .val (.int (Int32.ofNat len)), .val (.ref s.heap.size), .unset, .unset] [.int (Int32.ofNat len)])) := g6
  have c8 : Steps p.tables e below (s₁.setTop (entryFrame m #[.ref b, .int (Int32.ofNat o), .int (Int32.ofNat len)] 6)) (T6.setTop (mkF m 58 #[.val (.ref b), .val (.int (Int32.ofNat o)), .val (.int (Int32.ofNat len)), .val (.ref s.heap.size), .val (.int (Int32.ofNat len)), .unset] [.ref s.heap.size])) := c7.trans (by
    refine XS.istore X6.here hexec rfl (hb hbytes d12) rfl rfl ?_
    refine XS.iload X6.here hexec rfl (hb hbytes d14) rfl ?_
    refine XS.iloadN X6.here hexec rfl (hb hbytes d16) rfl ?_
    refine XS.icmpYes X6.here hexec rfl (pc0 := 17) rfl (hb hbytes d17) rfl (ii_eq_t rfl) (by decide) rfl ?_
    refine XS.aloadN X6.here hexec rfl (hb hbytes d57) rfl rfl ?_
    exact Steps.refl _)
  have X8 := X6.wide (L' := []) (cells' := 1) (slots' := len) (fun x hx hlt => by
    simp only [List.nil_append, copyLocs, List.mem_map, List.mem_range] at hx
    obtain ⟨i, -, rfl⟩ := hx
    exact absurd hlt (Nat.lt_irrefl _)) (Nat.le_refl _) (by omega)
  exact ⟨T6, some (.ref s.heap.size), _, _, _, X8, rfl, rfl, rfl, (fun h => by cases h), ⟨⟨rfl, B6, ba3.like (X3.warmed.alike.symm.trans X6.warmed.alike) p6.1 f6.1 f6.2.1 f6.2.2.1, f6.2.1.trans bv3, by rw [X6.warmed.alike.findClass, f6.1]; exact bf3, by rw [f6.2.2.1, bs3]; simp, fun j hj => by rw [f6.2.2.2 j, if_pos (by omega)]; rfl, kp3.put p6 (Nat.le_refl _)⟩, by rw [p6.2.2, bh3, hh0]; simp⟩, fun fs hl => c8.trans (X8.areturnOut hexec rfl hret rfl (hb hbytes d58) hl)⟩
end Cmp3
namespace CodL
def yN : MethodName := ⟨"java/lang/StringUTF16", "coderFromArrayLen", "([BI)B"⟩
abbrev yB : ByteArray := jdk_52_method_15_code
theorem d0 : decode yB 0 = .ok (.iload_n 1, 1) := by decide +kernel
theorem d1 : decode yB 1 = .ok (.aload_n 0, 1) := by decide +kernel
theorem d2 : decode yB 2 = .ok (.arraylength, 1) := by decide +kernel
theorem d3 : decode yB 3 = .ok (.isub, 1) := by decide +kernel
theorem d4 : decode yB 4 = .ok (.bipush 31, 2) := by decide +kernel
theorem d6 : decode yB 6 = .ok (.iushr, 1) := by decide +kernel
theorem d7 : decode yB 7 = .ok (.i2b, 1) := by decide +kernel
theorem d8 : decode yB 8 = .ok (.ireturn, 1) := by decide +kernel
def site : List Cond := []
def tab : Cond := tabOf yN yB 2 (some .byte) site
def P (d : Addr) (B : Cell) (args : Array Value) (s : State) : Prop := args = #[.ref d, .int (Int32.ofNat B.slots.size)] ∧ Arr .byte d B s
def E (r : Option Value) (s u : State) : Prop := XT.PureE (some (.int 0)) r s u
/-- an array as long as the number of chars: LATIN1 -/
theorem law (l : Launch) (d : Addr) (B : Cell) : Law l yN 2 2 0 0 yB 2 (some .byte) site (P d B) E [] 0 0 := by
  refine Law.of_walk (plainFor_of_name (by decide +kernel)) (by decide +kernel) (by decide +kernel) (by decide) (fun _ _ h => by rw [h.1]; rfl) (fun _ U U' hal hh h => ⟨h.1, h.2.mv hal hh⟩) (fun r U U' V V' h1 hal h2 h => XT.PureE.mv r U U' V V' h1 hal h2 h) ?_
  intro p e s m args below meth c s₁ X0 hexec hbytes hml hret hlk hnm hown hh0 W hP
  obtain ⟨rfl, hB⟩ := hP
  have hB0 := hB.mv X0.warmed.alike hh0
  have c1 : Steps p.tables e below (s₁.setTop (entryFrame m #[.ref d, .int (Int32.ofNat B.slots.size)] 2)) (s₁.setTop (mkF m 0 #[.val (.ref d), .val (.int (Int32.ofNat B.slots.size))] [])) := entry rfl
  have c2 : Steps p.tables e below (s₁.setTop (entryFrame m #[.ref d, .int (Int32.ofNat B.slots.size)] 2)) (s₁.setTop (mkF m 2 #[.val (.ref d), .val (.int (Int32.ofNat B.slots.size))] [.ref d, .int (Int32.ofNat B.slots.size)])) := c1.trans (by
    refine XS.iloadN X0.here hexec rfl (hb hbytes d0) rfl ?_
    refine XS.aloadN X0.here hexec rfl (hb hbytes d1) rfl rfl ?_
    exact Steps.refl _)
  have c3 : Steps p.tables e below (s₁.setTop (entryFrame m #[.ref d, .int (Int32.ofNat B.slots.size)] 2)) (s₁.setTop (mkF m 8 #[.val (.ref d), .val (.int (Int32.ofNat B.slots.size))] [.int (lo8 (ushr (Int32.ofNat B.slots.size - Int32.ofNat B.slots.size) 31))])) := c2.trans (by
    refine X0.alen hexec hB0 rfl rfl (hb hbytes d2) ?_
    refine XS.isub X0.here hexec rfl (hb hbytes d3) rfl ?_
    refine bipushV X0.here hexec rfl 31 (hb hbytes d4) (by decide) ?_
    refine iushr X0.here hexec rfl (hb hbytes d6) rfl ?_
    refine i2b X0.here hexec rfl (hb hbytes d7) rfl ?_
    exact Steps.refl _)
  have e0 : lo8 (ushr (Int32.ofNat B.slots.size - Int32.ofNat B.slots.size) 31) = 0 := by rw [Int32.sub_self]; decide
  rw [e0] at c3
  exact ⟨s₁, some (.int 0), _, _, _, X0, rfl, rfl, rfl, (fun h => by cases h), ⟨rfl, hh0⟩, fun fs hl => c3.trans (X0.ireturnOut hexec hret rfl (Or.inr (Or.inr (Or.inl rfl))) (hb hbytes d8) hl)⟩
end CodL
/-- the String at a is Latin-1 over a new byte[] (the heap's one new cell): the low bytes of the len chars of A from o on; every cell but a is kept -/
def Got (a : Addr) (D : Cell) (fV fC : Field) (A : Cell) (o len : Nat) (r : Option Value) (s u : State) : Prop := r = none ∧ ∃ D' V : Cell, Blank "java/lang/String" a D' u ∧ Same D D' [fV.slot, fC.slot] ∧ D'.slots[fV.slot]? = some (.ref s.heap.size) ∧ D'.slots[fC.slot]? = some (.int 0) ∧ Arr .byte s.heap.size V u ∧ V.vm = .none ∧ u.vm.findClass "[B" = some V.cls ∧ V.slots.size = len ∧ (∀ j, j < len → V.slots[j]? = some (.int (lo8 (cv A (o + j))))) ∧ (∀ (y : Addr) (c : Cell), y ≠ a → s.heap[y]? = some c → u.heap[y]? = some c) ∧ u.heap.size = s.heap.size + 1
theorem Got.mv {a : Addr} {D A : Cell} {fV fC : Field} {o len : Nat} : ∀ r (U U' V V' : State), U'.heap = U.heap → V.vm.Alike V'.vm → V'.heap = V.heap → Got a D fV fC A o len r U V → Got a D fV fC A o len r U' V' :=
  fun r U U' V V' h1 hal h2 ⟨e0, D', X, a1, a2, a3, a4, a5, a6, a7, a8, a9, a10, a11⟩ => ⟨e0, D', X, a1.mv hal h2, a2, by rw [h1]; exact a3, a4, by rw [h1]; exact a5.mv hal h2, a6, by rw [hal.findClass]; exact a7, a8, a9, by rw [h1, h2]; exact a10, by rw [h1, h2]; exact a11⟩
namespace New4
def yN : MethodName := ⟨"java/lang/String", "<init>", "([CIILjava/lang/Void;)V"⟩
abbrev yB : ByteArray := jdk_42_method_149_code
theorem d0 : decode yB 0 = .ok (.aload_n 0, 1) := by decide +kernel
theorem d1 : decode yB 1 = .ok (.invokespecial 1, 3) := by decide +kernel
theorem d4 : decode yB 4 = .ok (.iload_n 3, 1) := by decide +kernel
theorem d5 : decode yB 5 = .ok (.ifCond (.ne) 22, 3) := by decide +kernel
theorem d27 : decode yB 27 = .ok (.getstatic 38, 3) := by decide +kernel
theorem d30 : decode yB 30 = .ok (.ifCond (.eq) 28, 3) := by decide +kernel
theorem d33 : decode yB 33 = .ok (.aload_n 1, 1) := by decide +kernel
theorem d34 : decode yB 34 = .ok (.iload_n 2, 1) := by decide +kernel
theorem d35 : decode yB 35 = .ok (.iload_n 3, 1) := by decide +kernel
theorem d36 : decode yB 36 = .ok (.invokestatic 177, 3) := by decide +kernel
theorem d39 : decode yB 39 = .ok (.astore 5, 2) := by decide +kernel
theorem d41 : decode yB 41 = .ok (.aload_n 0, 1) := by decide +kernel
theorem d42 : decode yB 42 = .ok (.aload 5, 2) := by decide +kernel
theorem d44 : decode yB 44 = .ok (.iload_n 3, 1) := by decide +kernel
theorem d45 : decode yB 45 = .ok (.invokestatic 47, 3) := by decide +kernel
theorem d48 : decode yB 48 = .ok (.putfield 15, 3) := by decide +kernel
theorem d51 : decode yB 51 = .ok (.aload_n 0, 1) := by decide +kernel
theorem d52 : decode yB 52 = .ok (.aload 5, 2) := by decide +kernel
theorem d54 : decode yB 54 = .ok (.putfield 9, 3) := by decide +kernel
theorem d57 : decode yB 57 = .ok (.return_, 1) := by decide +kernel
def site : List Cond := [.fieldLink "java/lang/String" 38 "java/lang/String" "COMPACT_STRINGS" "Z", Cmp3.tab, CodL.tab, .laysFinal "java/lang/String" "java/lang/String" "value" "[B", .fieldLink "java/lang/String" 9 "java/lang/String" "value" "[B", .laysFinal "java/lang/String" "java/lang/String" "coder" "B", .fieldLink "java/lang/String" 15 "java/lang/String" "coder" "B"] ++ objW "java/lang/String" 1 ++ staticW "java/lang/String" 177 Cmp3.yN ++ staticW "java/lang/String" 47 CodL.yN
def tab : Cond := tabOf yN yB 6 none site
def P (a : Addr) (D : Cell) (fV fC : Field) (b : Addr) (A : Cell) (z : Int32) (o len : Nat) (args : Array Value) (s : State) : Prop := args = #[.ref a, .ref b, .int (Int32.ofNat o), .int (Int32.ofNat len), .null] ∧ Blank "java/lang/String" a D s ∧ Found "java/lang/String" "value" "[B" fV s ∧ Found "java/lang/String" "coder" "B" fC s ∧ Ch b A s ∧ StaticIs s "java/lang/String" "COMPACT_STRINGS" "Z" (.int z) ∧ ¬ z = 0 ∧ 0 < len ∧ o + len ≤ A.slots.size ∧ len ≤ 536870912 ∧ ∀ i, i < len → ¬ 255 < cv A (o + i)
def E (a : Addr) (D : Cell) (fV fC : Field) (A : Cell) (o len : Nat) (r : Option Value) (s u : State) : Prop := Got a D fV fC A o len r s u
/-- len > 0, no char of the range above 255: a Latin-1 String of their low bytes -/
theorem law (l : Launch) (a : Addr) (D : Cell) (fV fC : Field) (b : Addr) (A : Cell) (z : Int32) (o len : Nat) : Law l yN 5 4 2 35 yB 6 none site (P a D fV fC b A z o len) (E a D fV fC A o len) [⟨a, fC.slot⟩, ⟨a, fV.slot⟩] 1 len := by
  refine Law.of_walk (plainFor_of_name (by decide +kernel)) (by decide +kernel) (by decide +kernel) (by decide) (fun _ _ h => by rw [h.1]; rfl) (fun _ U U' hal hh h => ⟨h.1, h.2.1.mv hal hh, h.2.2.1.al hal, h.2.2.2.1.al hal, h.2.2.2.2.1.mv hal hh, h.2.2.2.2.2.1.there hal hh, h.2.2.2.2.2.2⟩) (fun r U U' V V' h1 hal h2 h => Got.mv r U U' V V' h1 hal h2 h) ?_
  intro p e s m args below meth c s₁ X0 hexec hbytes hml hret hlk hnm hown hh0 W hP
  obtain ⟨rfl, hB, f1, f2, hA, s1, hz, l0, l1, l2, hp⟩ := hP
  have a31 := hA.1.2.2.2
  have c1 : Steps p.tables e below (s₁.setTop (entryFrame m #[.ref a, .ref b, .int (Int32.ofNat o), .int (Int32.ofNat len), .null] 6)) (s₁.setTop (mkF m 0 #[.val (.ref a), .val (.ref b), .val (.int (Int32.ofNat o)), .val (.int (Int32.ofNat len)), .val .null, .unset] [])) := entry rfl
  have c2 : Steps p.tables e below (s₁.setTop (entryFrame m #[.ref a, .ref b, .int (Int32.ofNat o), .int (Int32.ofNat len), .null] 6)) (s₁.setTop (mkF m 1 #[.val (.ref a), .val (.ref b), .val (.int (Int32.ofNat o)), .val (.int (Int32.ofNat len)), .val .null, .unset] [.ref a])) := c1.trans (by
    refine XS.aloadN X0.here hexec rfl (hb hbytes d0) rfl rfl ?_
    exact Steps.refl _)
  obtain ⟨T3, X3, q3, st3⟩ := X0.oinit hexec hown (wks W (objW "java/lang/String" 1)) (g := (mkF m 1 #[.val (.ref a), .val (.ref b), .val (.int (Int32.ofNat o)), .val (.int (Int32.ofNat len)), .val .null, .unset] [.ref a])) rfl (by rw [hml]; rfl) (rest := []) rfl (hb hbytes d1) (W := 0) (by show 2 * 0 + 0 ≤ _; decide) (Nat.le_of_ble_eq_true rfl) (Nat.le_of_ble_eq_true rfl)
  have hh3 := q3.trans hh0
  have c4 : Steps p.tables e below (s₁.setTop (entryFrame m #[.ref a, .ref b, .int (Int32.ofNat o), .int (Int32.ofNat len), .null] 6)) (T3.setTop (mkF m 27 #[.val (.ref a), .val (.ref b), .val (.int (Int32.ofNat o)), .val (.int (Int32.ofNat len)), .val .null, .unset] [])) := (c2.trans (st3 _ (Steps.refl _))).trans (by
    refine XS.iloadN X3.here hexec rfl (hb hbytes d4) rfl ?_
    refine XS.ifYes X3.here hexec rfl (pc0 := 5) rfl (hb hbytes d5) rfl (i0_ne_t (nz32 (by omega) l0)) (by decide) rfl ?_
    exact Steps.refl _)
  obtain ⟨T5, X5, q5, st5⟩ := X3.sget hexec hown (wk W (.fieldLink "java/lang/String" 38 "java/lang/String" "COMPACT_STRINGS" "Z")) s1 (fun _ _ h => by rw [hh3]; exact h) (g := (mkF m 27 #[.val (.ref a), .val (.ref b), .val (.int (Int32.ofNat o)), .val (.int (Int32.ofNat len)), .val .null, .unset] [])) rfl (hb hbytes d27)
  have hh5 := q5.trans hh3
  have c6 : Steps p.tables e below (s₁.setTop (entryFrame m #[.ref a, .ref b, .int (Int32.ofNat o), .int (Int32.ofNat len), .null] 6)) (T5.setTop (mkF m 30 #[.val (.ref a), .val (.ref b), .val (.int (Int32.ofNat o)), .val (.int (Int32.ofNat len)), .val .null, .unset] [.int z])) := c4.trans (st5 _ (Steps.refl _))
  have c7 : Steps p.tables e below (s₁.setTop (entryFrame m #[.ref a, .ref b, .int (Int32.ofNat o), .int (Int32.ofNat len), .null] 6)) (T5.setTop (mkF m 36 #[.val (.ref a), .val (.ref b), .val (.int (Int32.ofNat o)), .val (.int (Int32.ofNat len)), .val .null, .unset] [.int (Int32.ofNat len), .int (Int32.ofNat o), .ref b])) := c6.trans (by
    refine XS.ifNo X5.here hexec rfl (hb hbytes d30) rfl (i0_eq_f hz) ?_
    refine XS.aloadN X5.here hexec rfl (hb hbytes d33) rfl rfl ?_
    refine XS.iloadN X5.here hexec rfl (hb hbytes d34) rfl ?_
    refine XS.iloadN X5.here hexec rfl (hb hbytes d35) rfl ?_
    exact Steps.refl _)
  obtain ⟨v8, T8, X8, E8, g8⟩ := X5.callS hexec (Cmp3.law l b A o len) hown (wks W (staticW "java/lang/String" 177 Cmp3.yN)) (wk W Cmp3.tab) (W := 0) (Nat.le_of_ble_eq_true rfl) (Nat.le_of_ble_eq_true rfl) (Nat.le_refl _) (by show 0 + len ≤ len; omega) (g := (mkF m 36 #[.val (.ref a), .val (.ref b), .val (.int (Int32.ofNat o)), .val (.int (Int32.ofNat len)), .val .null, .unset] [.int (Int32.ofNat len), .int (Int32.ofNat o), .ref b])) rfl (by rw [hml]; rfl) c7 (argsL := [.ref b, .int (Int32.ofNat o), .int (Int32.ofNat len)]) (rest := []) rfl rfl (by show 2 * 0 + 0 ≤ _; decide) (hb hbytes d36) (⟨rfl, hA.mv X5.warmed.alike hh5, l1, l2, hp⟩)
  obtain ⟨e8, z8⟩ := E8
  obtain ⟨rfl, N, n1, n2, n3, n4, n5, n6⟩ := NewArr.mv _ T5 s _ _ hh5.symm (Vm.Alike.refl _) rfl e8
  rw [hh5] at z8
  have hB1 := hB.keep X8.warmed.alike (n6 _ _ hB.1)
  have hne : s.heap.size ≠ a := (Nat.ne_of_lt (Array.getElem?_eq_some_iff.mp hB.1).1).symm
  have c9 : Steps p.tables e below (s₁.setTop (entryFrame m #[.ref a, .ref b, .int (Int32.ofNat o), .int (Int32.ofNat len), .null] 6)) (T8.setTop (mkF m 39 #[.val (.ref a), .val (.ref b), .val (.int (Int32.ofNat o)), .val (.int (Int32.ofNat len)), .val .null, .unset] [.ref s.heap.size])) := g8
  have c10 : Steps p.tables e below (s₁.setTop (entryFrame m #[.ref a, .ref b, .int (Int32.ofNat o), .int (Int32.ofNat len), .null] 6)) (T8.setTop (mkF m 45 #[.val (.ref a), .val (.ref b), .val (.int (Int32.ofNat o)), .val (.int (Int32.ofNat len)), .val .null, .val (.ref s.heap.size)] [.int (Int32.ofNat N.slots.size), .ref s.heap.size, .ref a])) := by
    have hc : Steps p.tables e below (s₁.setTop (entryFrame m #[.ref a, .ref b, .int (Int32.ofNat o), .int (Int32.ofNat len), .null] 6)) (T8.setTop (mkF m 45 #[.val (.ref a), .val (.ref b), .val (.int (Int32.ofNat o)), .val (.int (Int32.ofNat len)), .val .null, .val (.ref s.heap.size)] [.int (Int32.ofNat len), .ref s.heap.size, .ref a])) := c9.trans (by
      refine XS.astore X8.here hexec rfl (hb hbytes d39) rfl rfl rfl ?_
      refine XS.aloadN X8.here hexec rfl (hb hbytes d41) rfl rfl ?_
      refine XS.aload X8.here hexec rfl (hb hbytes d42) rfl rfl ?_
      refine XS.iloadN X8.here hexec rfl (hb hbytes d44) rfl ?_
      exact Steps.refl _)
    rw [n4]; exact hc
  obtain ⟨v11, T11, X11, E11, g11⟩ := X8.callS hexec (CodL.law l s.heap.size N) hown (wks W (staticW "java/lang/String" 47 CodL.yN)) (wk W CodL.tab) (W := 1) (Nat.le_of_ble_eq_true rfl) (Nat.le_of_ble_eq_true rfl) (Nat.le_refl _) (by show 0 + len + 0 ≤ len; omega) (g := (mkF m 45 #[.val (.ref a), .val (.ref b), .val (.int (Int32.ofNat o)), .val (.int (Int32.ofNat len)), .val .null, .val (.ref s.heap.size)] [.int (Int32.ofNat N.slots.size), .ref s.heap.size, .ref a])) rfl (by rw [hml]; rfl) c10 (argsL := [.ref s.heap.size, .int (Int32.ofNat N.slots.size)]) (rest := [.ref a]) rfl rfl (by show 2 * 0 + (1 + 0) ≤ _; decide) (hb hbytes d45) (⟨rfl, n1⟩)
  obtain ⟨rfl, q11⟩ := E11
  have hB11 := hB1.mv (X8.warmed.alike.symm.trans X11.warmed.alike) q11
  have c12 : Steps p.tables e below (s₁.setTop (entryFrame m #[.ref a, .ref b, .int (Int32.ofNat o), .int (Int32.ofNat len), .null] 6)) (T11.setTop (mkF m 48 #[.val (.ref a), .val (.ref b), .val (.int (Int32.ofNat o)), .val (.int (Int32.ofNat len)), .val .null, .val (.ref s.heap.size)] [.int 0, .ref a])) := g11
  obtain ⟨T13, X13, p13, bl13, sl13, st13⟩ := X11.finit hexec hown (wk W (.fieldLink "java/lang/String" 15 "java/lang/String" "coder" "B")) (Or.inr ⟨_, (wk W (.laysFinal "java/lang/String" "java/lang/String" "coder" "B"))⟩) (Or.inl ⟨rfl, hnm⟩) f2 (Or.inl rfl) hB11 (t := .byte) (by decide +kernel) rfl (g := (mkF m 48 #[.val (.ref a), .val (.ref b), .val (.int (Int32.ofNat o)), .val (.int (Int32.ofNat len)), .val .null, .val (.ref s.heap.size)] [.int 0, .ref a])) rfl (rest := []) rfl (hb hbytes d48)
  have c14 : Steps p.tables e below (s₁.setTop (entryFrame m #[.ref a, .ref b, .int (Int32.ofNat o), .int (Int32.ofNat len), .null] 6)) (T13.setTop (mkF m 54 #[.val (.ref a), .val (.ref b), .val (.int (Int32.ofNat o)), .val (.int (Int32.ofNat len)), .val .null, .val (.ref s.heap.size)] [.ref s.heap.size, .ref a])) := (c12.trans (st13 _ (Steps.refl _))).trans (by
    refine XS.aloadN X13.here hexec rfl (hb hbytes d51) rfl rfl ?_
    refine XS.aload X13.here hexec rfl (hb hbytes d52) rfl rfl ?_
    exact Steps.refl _)
  obtain ⟨T15, X15, p15, bl15, sl15, st15⟩ := X13.finit hexec hown (wk W (.fieldLink "java/lang/String" 9 "java/lang/String" "value" "[B")) (Or.inr ⟨_, (wk W (.laysFinal "java/lang/String" "java/lang/String" "value" "[B"))⟩) (Or.inl ⟨rfl, hnm⟩) f1 (Or.inl rfl) bl13 (t := (.array .byte)) (by decide +kernel) rfl (g := (mkF m 54 #[.val (.ref a), .val (.ref b), .val (.int (Int32.ofNat o)), .val (.int (Int32.ofNat len)), .val .null, .val (.ref s.heap.size)] [.ref s.heap.size, .ref a])) rfl (rest := []) rfl (hb hbytes d54)
  have c16 : Steps p.tables e below (s₁.setTop (entryFrame m #[.ref a, .ref b, .int (Int32.ofNat o), .int (Int32.ofNat len), .null] 6)) (T15.setTop (mkF m 57 #[.val (.ref a), .val (.ref b), .val (.int (Int32.ofNat o)), .val (.int (Int32.ofNat len)), .val .null, .val (.ref s.heap.size)] [])) := c14.trans (st15 _ (Steps.refl _))
  have ap := apart (Or.inr ⟨_, (wk W (.laysFinal "java/lang/String" "java/lang/String" "value" "[B"))⟩) (Or.inr ⟨_, (wk W (.laysFinal "java/lang/String" "java/lang/String" "coder" "B"))⟩) f1 f2 (t₁ := .array .byte) (t₂ := .byte) (by decide +kernel) (by decide +kernel) (by decide)
  have al := X8.warmed.alike.symm.trans X15.warmed.alike
  have n7 : T11.heap[s.heap.size]? = some N := by rw [q11]; exact n1.1
  exact ⟨T15, none, _, _, _, X15, by simp, rfl, by omega, (fun _ => rfl), ⟨rfl, _, N, bl15, ((Same.refl D _).set _ (by simp)).set _ (by simp), sl15, (Cell.slots_setSlot_ne _ ap).trans sl13, n1.keep al (p15.other hne (p13.other hne n7)), n2, by rw [al.findClass]; exact n3, n4, n5, fun y c h1 h2 => p15.other h1 (p13.other h1 (by rw [q11]; exact n6 y c h2)), by rw [p15.2.2, p13.2.2, q11]; exact z8⟩, fun fs hl => c16.trans (X15.returnOut hexec hret (hb hbytes d57) hl)⟩
end New4
namespace New1
def yN : MethodName := ⟨"java/lang/String", "<init>", "([C)V"⟩
abbrev yB : ByteArray := jdk_42_method_3_code
theorem d0 : decode yB 0 = .ok (.aload_n 0, 1) := by decide +kernel
theorem d1 : decode yB 1 = .ok (.aload_n 1, 1) := by decide +kernel
theorem d2 : decode yB 2 = .ok (.iconst 0, 1) := by decide +kernel
theorem d3 : decode yB 3 = .ok (.aload_n 1, 1) := by decide +kernel
theorem d4 : decode yB 4 = .ok (.arraylength, 1) := by decide +kernel
theorem d5 : decode yB 5 = .ok (.aconst_null, 1) := by decide +kernel
theorem d6 : decode yB 6 = .ok (.invokespecial 27, 3) := by decide +kernel
theorem d9 : decode yB 9 = .ok (.return_, 1) := by decide +kernel
def site : List Cond := [New4.tab] ++ initW "java/lang/String" 27 New4.yN
def tab : Cond := tabOf yN yB 2 none site
def P (a : Addr) (D : Cell) (fV fC : Field) (b : Addr) (A : Cell) (z : Int32) (args : Array Value) (s : State) : Prop := args = #[.ref a, .ref b] ∧ Blank "java/lang/String" a D s ∧ Found "java/lang/String" "value" "[B" fV s ∧ Found "java/lang/String" "coder" "B" fC s ∧ Ch b A s ∧ StaticIs s "java/lang/String" "COMPACT_STRINGS" "Z" (.int z) ∧ ¬ z = 0 ∧ 0 < A.slots.size ∧ A.slots.size ≤ 536870912 ∧ ∀ i, i < A.slots.size → ¬ 255 < cv A i
def E (a : Addr) (D : Cell) (fV fC : Field) (A : Cell) (r : Option Value) (s u : State) : Prop := Got a D fV fC A 0 A.slots.size r s u
/-- new String(chars), not empty, no char above 255: a Latin-1 String of their low bytes -/
theorem law (l : Launch) (a : Addr) (D : Cell) (fV fC : Field) (b : Addr) (A : Cell) (z : Int32) : Law l yN 2 1 3 52 yB 2 none site (P a D fV fC b A z) (E a D fV fC A) [⟨a, fC.slot⟩, ⟨a, fV.slot⟩] 1 A.slots.size := by
  refine Law.of_walk (plainFor_of_name (by decide +kernel)) (by decide +kernel) (by decide +kernel) (by decide) (fun _ _ h => by rw [h.1]; rfl) (fun _ U U' hal hh h => ⟨h.1, h.2.1.mv hal hh, h.2.2.1.al hal, h.2.2.2.1.al hal, h.2.2.2.2.1.mv hal hh, h.2.2.2.2.2.1.there hal hh, h.2.2.2.2.2.2⟩) (fun r U U' V V' h1 hal h2 h => Got.mv r U U' V V' h1 hal h2 h) ?_
  intro p e s m args below meth c s₁ X0 hexec hbytes hml hret hlk hnm hown hh0 W hP
  obtain ⟨rfl, hB, f1, f2, hA, s1, hz, l0, l2, hp⟩ := hP
  have c1 : Steps p.tables e below (s₁.setTop (entryFrame m #[.ref a, .ref b] 2)) (s₁.setTop (mkF m 0 #[.val (.ref a), .val (.ref b)] [])) := entry rfl
  have c2 : Steps p.tables e below (s₁.setTop (entryFrame m #[.ref a, .ref b] 2)) (s₁.setTop (mkF m 6 #[.val (.ref a), .val (.ref b)] [.null, .int (Int32.ofNat A.slots.size), .int 0, .ref b, .ref a])) := c1.trans (by
    refine XS.aloadN X0.here hexec rfl (hb hbytes d0) rfl rfl ?_
    refine XS.aloadN X0.here hexec rfl (hb hbytes d1) rfl rfl ?_
    refine iconstV X0.here hexec rfl 0 (hb hbytes d2) (by decide) ?_
    refine XS.aloadN X0.here hexec rfl (hb hbytes d3) rfl rfl ?_
    refine X0.alen hexec (hA.1.mv X0.warmed.alike hh0) rfl rfl (hb hbytes d4) ?_
    refine XS.aconstNull X0.here hexec rfl (hb hbytes d5) ?_
    exact Steps.refl _)
  obtain ⟨v3, T3, X3, E3, g3⟩ := X0.callN hexec (New4.law l a D fV fC b A z 0 A.slots.size) rfl hown (wks W (initW "java/lang/String" 27 New4.yN)) (W New4.tab (by simp only [site, List.mem_cons, List.mem_append, true_or, or_true])) (W := 0) (Nat.le_of_ble_eq_true rfl) (Nat.le_of_ble_eq_true rfl) (Nat.le_refl _) (by show 0 + A.slots.size ≤ A.slots.size; omega) (g := (mkF m 6 #[.val (.ref a), .val (.ref b)] [.null, .int (Int32.ofNat A.slots.size), .int (Int32.ofNat 0), .ref b, .ref a])) rfl (by rw [hml]; rfl) c2 (argsL := [.ref b, .int (Int32.ofNat 0), .int (Int32.ofNat A.slots.size), .null]) (rest := []) rfl rfl (by show 2 * 0 + 0 ≤ _; decide) (hb hbytes d6) (⟨rfl, hB.mv X0.warmed.alike hh0, f1.al X0.warmed.alike, f2.al X0.warmed.alike, hA.mv X0.warmed.alike hh0, s1.there X0.warmed.alike hh0, hz, l0, by omega, l2, fun i hi => by rw [Nat.zero_add]; exact hp i hi⟩)
  have e0 := Got.mv _ s₁ s _ _ hh0.symm (Vm.Alike.refl _) rfl E3
  obtain rfl := e0.1
  have c4 : Steps p.tables e below (s₁.setTop (entryFrame m #[.ref a, .ref b] 2)) (T3.setTop (mkF m 9 #[.val (.ref a), .val (.ref b)] [])) := g3
  exact ⟨T3, none, _, _, _, X3, by simp, rfl, by omega, (fun _ => rfl), e0, fun fs hl => c4.trans (X3.returnOut hexec hret (hb hbytes d9) hl)⟩
theorem pays {l : Launch} {R : Room} {p : Program} {e : Env} {below : List Frame} {s : State} {sargs : Array Value} {len W : Nat} (a : Addr) (D : Cell) (fV fC : Field) (b : Addr) (A : Cell) (z : Int32) (htab : tab.before sargs s = true) (hfr : 4 ≤ R.frames) (hlo : W + 65 ≤ R.locals) :
    Back l R p e below s sargs yN len W (fun A₁ a₁ => A₁.cells + 1 ≤ R.cells ∧ A₁.slots + A.slots.size ≤ R.slots ∧ P a D fV fC b A z a₁ A₁.U) (fun A₁ _ v₁ B₁ => E a D fV fC A v₁ A₁.U B₁.U ∧ B₁.locs = A₁.locs ++ [⟨a, fC.slot⟩, ⟨a, fV.slot⟩] ∧ B₁.cells = A₁.cells + 1 ∧ B₁.slots = A₁.slots + A.slots.size) :=
  (law l a D fV fC b A z).pays htab hfr (by omega)
end New1
/-- the byte, read back as charAt reads it, is the char -/
theorem lo8_mask {x : Int32} (h0 : ¬ x < 0) (h1 : ¬ 255 < x) : lo8 x &&& 255 = x := by
  have t : ∀ k : Fin 256, lo8 (Int32.ofNat k.val) &&& 255 = Int32.ofNat k.val := by decide +kernel
  rw [Int32.lt_iff_toInt_lt] at h0 h1
  have e0 : (0 : Int32).toInt = 0 := rfl
  have e1 : (255 : Int32).toInt = 255 := rfl
  obtain ⟨k, hk⟩ : ∃ k : Nat, x.toInt = k := ⟨x.toInt.toNat, by omega⟩
  have hx : x = Int32.ofNat k := Int32.toInt_inj.mp (by rw [hk, Int32.toInt_ofNat_small (by omega)])
  rw [hx]
  exact t ⟨k, by omega⟩
end StrChars
namespace StrChars.Road
open Jvm Sem ClassFile Op Lib Jvm.Stand Jvm.Free Jvm.Free.XT
open Jvm.Lib.Cold (StaticIs)
abbrev ST : String := "java/lang/String"
/-- every table word that New1's law asks, flat -/
abbrev words : List Jvm.Cond := [.code New1.yN New1.yB 2 none, .initialized ST, .methodLink ST 27 New4.yN, .instanceMethod New4.yN,
  .code New4.yN New4.yB 6 none, .fieldLink ST 38 ST "COMPACT_STRINGS" "Z", .laysFinal ST ST "value" "[B", .fieldLink ST 9 ST "value" "[B", .laysFinal ST ST "coder" "B", .fieldLink ST 15 ST "coder" "B",
  .methodLink ST 1 Lib.objectInit, .instanceMethod Lib.objectInit, .code Lib.objectInit ⟨#[0xb1]⟩ 1 none, .methodLink ST 177 Cmp3.yN, .static Cmp3.yN, .methodLink ST 47 CodL.yN, .static CodL.yN,
  .code Cmp3.yN Cmp3.yB 6 (some (.array .byte)), .initialized U16, .arrayClass .byte, .methodLink U16 115 Cmp5.yN, .static Cmp5.yN, .code Cmp5.yN Cmp5.yB 7 (some .int), .code CodL.yN CodL.yB 2 (some .byte)]
theorem tab_of {a : Array Value} {s : State} (h : ∀ w ∈ words, w.before a s = true) : New1.tab.before a s = true := by
  have h5 : Cmp5.tab.before a s = true := unparts (wk h (.code Cmp5.yN Cmp5.yB 7 (some .int))) (wks h (.initialized Cmp5.yN.cls :: Cmp5.site))
  have hc : CodL.tab.before a s = true := unparts (wk h (.code CodL.yN CodL.yB 2 (some .byte))) (wks h (.initialized CodL.yN.cls :: CodL.site))
  have q5 : ∀ w ∈ Cmp5.tab :: words, w.before a s = true := fun w hw => (List.mem_cons.mp hw).elim (fun e => e ▸ h5) (h w)
  have h3 : Cmp3.tab.before a s = true := unparts (wk q5 (.code Cmp3.yN Cmp3.yB 6 (some (.array .byte)))) (wks q5 (.initialized Cmp3.yN.cls :: Cmp3.site))
  have q3 : ∀ w ∈ Cmp3.tab :: CodL.tab :: words, w.before a s = true := fun w hw => (List.mem_cons.mp hw).elim (fun e => e ▸ h3) fun hw => (List.mem_cons.mp hw).elim (fun e => e ▸ hc) (h w)
  have h4 : New4.tab.before a s = true := unparts (wk q3 (.code New4.yN New4.yB 6 none)) (wks q3 (.initialized New4.yN.cls :: New4.site))
  have q4 : ∀ w ∈ New4.tab :: words, w.before a s = true := fun w hw => (List.mem_cons.mp hw).elim (fun e => e ▸ h4) (h w)
  exact unparts (wk q4 (.code New1.yN New1.yB 2 none)) (wks q4 (.initialized New1.yN.cls :: New1.site))
/-- the words ride from the start Z to the walk's own state -/
theorem moved {Z s : State} {a0 args : Array Value} (hZ : Z.Warmed39 s.vm) (hw : ∀ d ∈ words, d.before a0 Z = true) : ∀ d ∈ words, d.before args s = true := fun d hd => by
  have q := hw d hd
  have t : ∀ d ∈ words, d = .arrayClass .byte ∨ (d.onTables && d.keepsFace) = true := by decide +kernel
  rcases t d hd with rfl | t
  · exact RoadKit.mvA hZ q
  · exact RoadKit.mv hZ q t
/-- WHAT COMES BACK, over the tables of the start Z: h the heap at the call, h' behind it -/
def Q (Z : State) (x : Addr) (A : Cell) (h : Heap) (v : Option Value) (h' : Heap) (L : List Loc) : Prop := v = none ∧ (∀ y ∈ L, y.base = x) ∧ RoadKit.Keep h h' [x] ∧ h'.size = h.size + 1 ∧ RoadKit.Exa Z h' x ST ∧ RoadKit.Fld Z h' x ST "value" "[B" (.ref h.size) ∧ RoadKit.Fld Z h' x ST "coder" "B" (.int 0) ∧
  (∃ V : Cell, RoadKit.Arr Z h' h.size V .byte ∧ V.vm = .none ∧ Z.vm.findClass "[B" = some V.cls ∧ V.slots.size = A.slots.size ∧ ∀ j, j < A.slots.size → V.slots[j]? = some (.int (lo8 (cv A j)))) ∧
  ∀ (O n d : String) (w : Value), RoadKit.Fld Z h x O n d w → RoadKit.slotOf Z O n d ≠ RoadKit.slotOf Z ST "value" "[B" → RoadKit.slotOf Z O n d ≠ RoadKit.slotOf Z ST "coder" "B" → RoadKit.Fld Z h' x O n d w
/-- **new String(chars) AT A CALL, IN THE ROAD'S FORM**: for specialBack behind newO: x the fresh String, b the char[] with the cell A -/
theorem back {p : Program} {l : Launch} {e : Env} {R : Room} {s : State} {args : Array Value} {below : List Frame} {len W : Nat} {Z : State} {a0 : Array Value} {h : Heap} (hZ : Z.Warmed39 s.vm) (hw : ∀ d ∈ words, d.before a0 Z = true) {kI : Nat} (wi : (Jvm.Cond.instantiable ST kI).before a0 Z = true)
    {x b : Addr} {A : Cell} {z : Int32} {v0 c0 : Value} (E : RoadKit.Exa Z h x ST) (V : RoadKit.Fld Z h x ST "value" "[B" v0) (C : RoadKit.Fld Z h x ST "coder" "B" c0) (K : RoadKit.Arr Z h b A .char) (hty : Typed .char A) (S : RoadKit.Sta Z h ST "COMPACT_STRINGS" "Z" (.int z)) (hz : ¬ z = 0)
    (l0 : 0 < A.slots.size) (l2 : A.slots.size ≤ 536870912) (hp : ∀ i, i < A.slots.size → ¬ 255 < cv A i) (hfr : 4 ≤ R.frames) (hlo : W + 65 ≤ R.locals) :
    Back l R p e below s args New1.yN len W (fun P a => a = #[.ref x, .ref b] ∧ P.U.heap = h ∧ P.cells + 1 ≤ R.cells ∧ P.slots + A.slots.size ≤ R.slots)
      (fun P _ v B => ∃ L, Q Z x A h v B.U.heap L ∧ B.locs = P.locs ++ L ∧ B.cells = P.cells + 1 ∧ B.slots = P.slots + A.slots.size) := by
  intro m meth c P g ig mk a X hg hsize hdg hW hn hp'
  obtain ⟨rfl, rfl, r1, r2⟩ := hp'
  have al : Z.vm.Alike P.U.vm := hZ.alike.trans X.warmed.alike
  obtain ⟨D, cfV, kV, iV, fV, hD, gV, stV, knV, obV, asV, slV⟩ := id V
  obtain ⟨D', cfC, kC, iC, fC, hD', gC, stC, -, -, asC, slC⟩ := id C
  cases hD.symm.trans hD'
  obtain ⟨D2, kD, e1, e2, e3, e4, e5⟩ := id E
  cases hD.symm.trans e1
  obtain ⟨c2, k2, i1, i2, i3, -⟩ := Cond.instantiable_spec wi
  cases e2.symm.trans i1
  cases e3.symm.trans i2
  obtain ⟨kU, u1, u2⟩ := al.2.2 _ _ e3
  have hB : Blank ST x D P.U := ⟨hD, ⟨knV, fun q hq => by rw [hq] at obV; cases obV⟩, by rw [al.findClass]; exact e2, kU, u1, by rw [u2]; exact i3, by rw [u2]; exact e5 i3⟩
  have F1 : Found ST "value" "[B" fV P.U := ⟨SBG.found_only al ⟨cfV, kV, iV, gV⟩, stV⟩
  have F2 : Found ST "coder" "B" fC P.U := ⟨SBG.found_only al ⟨cfC, kC, iC, gC⟩, stC⟩
  have hA : Ch b A P.U := ⟨⟨K.1, State.isArrayOf_alike al K.2.1, K.2.2, by omega⟩, hty⟩
  have hS : StaticIs P.U ST "COMPACT_STRINGS" "Z" (.int z) := by
    obtain ⟨cfS, iS, kS, fS, st, cS, t1, t2, t3, t4, t5, t6, t7⟩ := S
    exact StaticIs.there (s := { Z with heap := P.U.heap }) ⟨cfS, iS, kS, fS, st, cS, t1, t2, t3, t4, t5, (fun q => by rw [q] at t6; cases t6), t7⟩ al rfl
  obtain ⟨v, B, X', ⟨⟨hv, E', V', q1, q2, q3, q4, q5, q6, q7, q8, q9, q10, q11⟩, hl, hc, hs⟩, st⟩ := New1.pays x D fV fC b A z (tab_of (moved hZ hw)) hfr hlo m meth c P g ig mk _ X hg hsize hdg hW hn ⟨r1, r2, rfl, hB, F1, F2, hA, hS, hz, l0, l2, hp⟩
  have al' : Z.vm.Alike B.U.vm := hZ.alike.trans X'.warmed.alike
  have hsz : E'.slots.size = D.slots.size := by
    obtain ⟨-, -, -, kB, w1, w2, w3⟩ := q1
    obtain ⟨kB', y1, y2⟩ := al'.2.2 _ _ e3
    rw [q2.2.1] at w1
    cases w1.symm.trans y1
    rw [w3, e5 i3, y2]
  refine ⟨v, B, X', ⟨_, ⟨hv, ?_, ⟨by omega, fun y cy hy hn' => q10 y cy (by simpa using hn') hy, fun y cy hy => ?_⟩, q11, ⟨E', _, q1.1, by rw [q2.2.1]; exact e2, by rw [q2.2.1]; exact e3, by rw [q2.1]; exact obV, fun _ => by rw [hsz]; exact e5 i3⟩,
    ⟨E', cfV, kV, iV, fV, q1.1, gV, stV, by rw [q2.1]; exact knV, by rw [q2.1]; exact obV, by rw [q2.2.1]; exact asV, q3⟩, ⟨E', cfC, kC, iC, fC, q1.1, gC, stC, by rw [q2.1]; exact knV, by rw [q2.1]; exact obV, by rw [q2.2.1]; exact asC, q4⟩,
    ⟨V', ⟨q5.1, State.isArrayOf_alike al'.symm q5.2.1, q5.2.2.1⟩, q6, by rw [← al'.findClass]; exact q7, q8, fun j hj => by have := q9 j hj; rwa [Nat.zero_add] at this⟩, fun O n d w F n1 n2 => ?_⟩, hl, hc, hs⟩, st⟩
  · intro y hy
    simp only [List.mem_cons, List.not_mem_nil, or_false] at hy
    rcases hy with rfl | rfl <;> rfl
  · by_cases q : y = x
    · subst q
      cases hD.symm.trans hy
      exact ⟨E', q1.1, q2.2.1, q2.1, hsz⟩
    · exact ⟨cy, q10 y cy q hy, rfl, rfl, rfl⟩
  · obtain ⟨D3, cf, k, i, f, g1, g2, g3, g4, g5, g6, g7⟩ := F
    cases hD.symm.trans g1
    simp only [RoadKit.slotOf, g2, gV, gC, Option.map_some, Option.getD_some] at n1 n2
    exact ⟨E', cf, k, i, f, q1.1, g2, g3, by rw [q2.1]; exact g4, by rw [q2.1]; exact g5, by rw [q2.2.1]; exact g6, by rw [q2.2.2 f.slot (by simp [n1, n2])]; exact g7⟩
end StrChars.Road
namespace StrChars.Road
open Jvm Sem ClassFile Op Lib Jvm.Stand Jvm.Free Jvm.Free.XT
/-- WHAT COMES BACK, the byte[] as a list of values -/
def QA (Z : State) (x : Addr) (zn : Int32) (cs : List Int32) (h : Heap) (v : Option Value) (h' : Heap) (L : List Loc) : Prop := v = none ∧ (∀ y ∈ L, y.base = x) ∧ RoadKit.Keep h h' [x] ∧ h'.size = h.size + 1 ∧ RoadKit.Exa Z h' x ST ∧ RoadKit.Fld Z h' x ST "value" "[B" (.ref h.size) ∧ RoadKit.Fld Z h' x ST "coder" "B" (.int 0) ∧
  (∃ kb, Z.vm.findClass "[B" = some kb ∧ RoadKit.Arv Z h' h.size kb .byte zn (cs.map fun c => .int (lo8 c)) (.int 0)) ∧
  ∀ (O n d : String) (w : Value), RoadKit.Fld Z h x O n d w → RoadKit.slotOf Z O n d ≠ RoadKit.slotOf Z ST "value" "[B" → RoadKit.slotOf Z O n d ≠ RoadKit.slotOf Z ST "coder" "B" → RoadKit.Fld Z h' x O n d w
/-- **new String(chars) AT A CALL, THE ARRAYS AS LISTS**: the char[] at b holds cs, not empty, no char above 255 -/
theorem backArv {p : Program} {l : Launch} {e : Env} {R : Room} {s : State} {args : Array Value} {below : List Frame} {len W : Nat} {Z : State} {a0 : Array Value} {h : Heap} (hZ : Z.Warmed39 s.vm) (hw : ∀ d ∈ words, d.before a0 Z = true) {kI : Nat} (wi : (Jvm.Cond.instantiable ST kI).before a0 Z = true)
    {x b : Addr} {k : ClassId} {zn z : Int32} {cs : List Int32} {dv v0 c0 : Value} (E : RoadKit.Exa Z h x ST) (V : RoadKit.Fld Z h x ST "value" "[B" v0) (C : RoadKit.Fld Z h x ST "coder" "B" c0) (K : RoadKit.Arv Z h b k .char zn (cs.map Value.int) dv) (S : RoadKit.Sta Z h ST "COMPACT_STRINGS" "Z" (.int z)) (hz : ¬ z = 0)
    (hlen : zn.toNatClampNeg = cs.length) (h0 : 0 < cs.length) (hbig : cs.length ≤ 536870912) (hall : ∀ c ∈ cs, ¬ 255 < c) (hfr : 4 ≤ R.frames) (hlo : W + 65 ≤ R.locals) :
    Back l R p e below s args New1.yN len W (fun P a => a = #[.ref x, .ref b] ∧ P.U.heap = h ∧ P.cells + 1 ≤ R.cells ∧ P.slots + cs.length ≤ R.slots)
      (fun P _ v B => ∃ L, QA Z x zn cs h v B.U.heap L ∧ B.locs = P.locs ++ L ∧ B.cells = P.cells + 1 ∧ B.slots = P.slots + cs.length) := by
  obtain ⟨A, K1, K2, K3, K4, K5, K6⟩ := K
  have e : A.slots.size = cs.length := K3.trans hlen
  have hat : ∀ (i : Nat) (hi : i < cs.length), A.slots[i]? = some (.int cs[i]) := fun i hi => by rw [K5 i (by omega)]; simp [List.getD_eq_getElem?_getD, hi]
  have hcv : ∀ (i : Nat) (hi : i < cs.length), cv A i = cs[i] := fun i hi => by unfold cv; rw [hat i hi]
  have hty : Typed .char A := fun i v hv => by
    have hi : i < A.slots.size := (Array.getElem?_eq_some_iff.mp hv).1
    have q := K5 i hi
    rw [hv] at q
    rw [Option.some.inj q]
    exact K6 i hi
  refine Back.mono (back hZ hw wi E V C K1 hty S hz (by omega) (by omega) (fun i hi => by rw [hcv i (by omega)]; exact hall _ (List.getElem_mem _)) hfr hlo) (fun P a hp => ⟨hp.1, hp.2.1, hp.2.2.1, by rw [e]; exact hp.2.2.2⟩) (fun P a v B hp hq => ?_)
  obtain ⟨L, ⟨q1, q2, q3, q4, q5, q6, q7, ⟨V', v1, v2, v3, v4, v5⟩, q9⟩, hl, hc, hs⟩ := hq
  refine ⟨L, ⟨q1, q2, q3, q4, q5, q6, q7, ⟨V'.cls, v3, V', v1, rfl, by rw [v4, e, hlen], K4, fun i hi => ?_, fun i hi => ?_⟩, q9⟩, hl, hc, by rw [hs, e]⟩
  · have hi' : i < cs.length := by omega
    rw [v5 i (by omega), hcv i hi']; simp [List.getD_eq_getElem?_getD, hi']
  · have hi' : i < cs.length := by omega
    simp only [List.getD_eq_getElem?_getD, List.getElem?_map, List.getElem?_eq_getElem hi', Option.map_some, Option.getD_some]
    exact fits_lo8 _
end StrChars.Road
namespace StrChars.Road
open Jvm Sem ClassFile Op Lib Jvm.Stand Jvm.Free Jvm.Free.XT
/-- WHAT COMES BACK, in the writer's own shape -/
def QV (Z : State) (x : Addr) (N : Int32) (bs : List Int32) (h : Heap) (n0 : Nat) (v : Option Value) (h' : Heap) (L : List Loc) : Prop := v = none ∧ RoadKit.Fr n0 L ∧ RoadKit.Keep h h' [x] ∧ RoadKit.Exa Z h' x ST ∧ RoadKit.Fld Z h' x ST "coder" "B" (.int 0) ∧
  ∃ (t : Addr) (kb : ClassId), n0 ≤ t ∧ h.size ≤ t ∧ ¬ t = x ∧ RoadKit.Fld Z h' x ST "value" "[B" (.ref t) ∧ RoadKit.Arv Z h' t kb .byte N (bs.map Value.int) (.int 0)
/-- **new String(chars) AT A CALL, FOR THE WRITER**: a char[] of n known ints, each 0 to 255 -/
theorem backV {p : Program} {l : Launch} {e : Env} {R : Room} {s : State} {args : Array Value} {below : List Frame} {len W : Nat} {Z : State} {a0 : Array Value} {h : Heap} (hZ : Z.Warmed39 s.vm) (hw : ∀ d ∈ words, d.before a0 Z = true) {kI : Nat} (wi : (Jvm.Cond.instantiable ST kI).before a0 Z = true)
    {x b : Addr} {kC : ClassId} {cs bs : List Int32} {d v0 c0 : Value} {z N : Int32} {n n0 : Nat} (hx0 : n0 ≤ x) (hh0 : n0 ≤ h.size) (E : RoadKit.Exa Z h x ST) (V : RoadKit.Fld Z h x ST "value" "[B" v0) (C : RoadKit.Fld Z h x ST "coder" "B" c0) (K : RoadKit.Arv Z h b kC .char N (cs.map Value.int) d) (S : RoadKit.Sta Z h ST "COMPACT_STRINGS" "Z" (.int z)) (hz : ¬ z = 0)
    (hn : cs.length = n) (hN : N = Int32.ofNat n) (l0 : 0 < n) (l2 : n ≤ 4000) (hp : ∀ c ∈ cs, ¬ c < 0 ∧ ¬ (255 : Int32) < c) (hb : bs = cs.map (fun c => c.toInt8.toInt32)) (hfr : 4 ≤ R.frames) (hlo : W + 65 ≤ R.locals) :
    Back l R p e below s args (⟨"java/lang/String", "<init>", "([C)V"⟩ : MethodName) len W (fun P a => a = #[.ref x, .ref b] ∧ P.U.heap = h ∧ P.cells + 1 ≤ R.cells ∧ P.slots + n ≤ R.slots)
      (fun P _ v B => ∃ L, QV Z x N bs h n0 v B.U.heap L ∧ B.locs = P.locs ++ L ∧ B.cells = P.cells + 1 ∧ B.slots = P.slots + n) := by
  subst hn hN hb
  refine Back.mono (backArv hZ hw wi E V C K S hz (n32 (by omega)) l0 (by omega) (fun c hc => (hp c hc).2) hfr hlo) (fun P a hp => hp) (fun P a v B hp hq => ?_)
  obtain ⟨L, ⟨q1, q2, q3, q4, q5, q6, q7, ⟨kb, v1, v2⟩, q9⟩, hl, hc, hs⟩ := hq
  exact ⟨L, ⟨q1, fun y hy => by rw [q2 y hy]; exact hx0, q3, q5, q7, h.size, kb, hh0, Nat.le_refl _, Nat.ne_of_gt E.lt, q6, by rw [List.map_map]; exact v2⟩, hl, hc, hs⟩
end StrChars.Road
namespace StrChars
open Jvm Sem ClassFile Op Lib Jvm.Stand Jvm.Free.XT Jvm.Free.ALB Jvm.Free.JM Jvm.Free
open Jvm.Lib.Cold (StaticIs)
def hi8 (x : Int32) : Int32 := lo8 (x >>> ((8 : Int32) &&& 31))
/-- what StringUTF16.getChar makes of two bytes -/
def pairCh (u v : Int32) : Int32 := (((u &&& 255) <<< ((0 : Int32) &&& 31)) ||| ((v &&& 255) <<< ((8 : Int32) &&& 31))).toUInt32.toUInt16.toUInt32.toInt32
theorem lo8_and (x : Int32) : (lo8 x &&& 255).toBitVec.toNat = x.toBitVec.toNat % 256 := by
  have h : (lo8 x).toBitVec = (x.toBitVec.signExtend 8).signExtend 32 := by rw [lo8, Int8.toBitVec_toInt32, Int32.toBitVec_toInt8]
  rw [Int32.toBitVec_and, BitVec.toNat_and, h]
  have e : ((x.toBitVec.signExtend 8).signExtend 32).toNat % 256 = x.toBitVec.toNat % 256 := by
    rw [BitVec.toNat_signExtend]
    have hlt := x.toBitVec.isLt
    simp only [BitVec.toNat_setWidth, BitVec.toNat_signExtend]
    split <;> split <;> omega
  rw [← e]
  exact Nat.and_two_pow_sub_one_eq_mod _ 8
theorem pair_says {c : Int32} (h0 : ¬ c < 0) (h1 : ¬ 65535 < c) : pairCh (lo8 c) (hi8 c) = c := by
  rw [Int32.lt_iff_toInt_lt] at h0 h1
  have e0 : (0 : Int32).toInt = 0 := rfl
  have e1 : (65535 : Int32).toInt = 65535 := rfl
  have hc : c.toInt = c.toBitVec.toNat := by
    have := c.toBitVec.isLt
    have e : c.toInt = c.toBitVec.toInt := rfl
    rw [e] at h0 h1
    rw [e]
    rw [BitVec.toInt_eq_toNat_cond] at h0 h1 ⊢
    split at h0 <;> split <;> omega
  have hn : c.toBitVec.toNat < 65536 := by omega
  have a1 := lo8_and c
  have a2 : (hi8 c &&& 255).toBitVec.toNat = c.toBitVec.toNat / 256 := by
    rw [hi8, lo8_and]
    have e : ((8 : Int32) &&& 31) = 8 := by decide
    rw [e, Int32.toBitVec_shiftRight]
    have e2 : ((8 : Int32).toBitVec.smod 32) = 8#32 := by decide
    rw [e2, BitVec.sshiftRight_eq', BitVec.toNat_sshiftRight_of_msb_false (by rw [BitVec.msb_eq_false_iff_two_mul_lt]; omega)]
    show c.toBitVec.toNat >>> 8 % 256 = _
    rw [Nat.shiftRight_eq_div_pow]
    omega
  unfold pairCh
  apply Int32.toBitVec_inj.mp
  apply BitVec.eq_of_toNat_eq
  have f0 : ((0 : Int32) &&& 31) = 0 := by decide
  have f8 : ((8 : Int32) &&& 31) = 8 := by decide
  rw [f0, f8]
  have g : (((lo8 c &&& 255) <<< (0 : Int32)) ||| ((hi8 c &&& 255) <<< (8 : Int32))).toBitVec.toNat = c.toBitVec.toNat := by
    rw [Int32.toBitVec_or, Int32.toBitVec_shiftLeft, Int32.toBitVec_shiftLeft]
    have s0 : ((0 : Int32).toBitVec.smod 32) = 0#32 := by decide
    have s8 : ((8 : Int32).toBitVec.smod 32) = 8#32 := by decide
    rw [s0, s8, BitVec.toNat_or]
    simp only [BitVec.shiftLeft_eq', BitVec.toNat_shiftLeft, a1, a2]
    show (c.toBitVec.toNat % 256) <<< 0 % 2 ^ 32 ||| (c.toBitVec.toNat / 256) <<< 8 % 2 ^ 32 = _
    rw [Nat.shiftLeft_zero, Nat.mod_eq_of_lt (show c.toBitVec.toNat % 256 < 2 ^ 32 by omega), Nat.mod_eq_of_lt (show (c.toBitVec.toNat / 256) <<< 8 < 2 ^ 32 by rw [Nat.shiftLeft_eq]; omega), Nat.or_comm, ← Nat.shiftLeft_add_eq_or_of_lt (by omega), Nat.shiftLeft_eq]
    omega
  show BitVec.toNat (((((lo8 c &&& 255) <<< (0 : Int32)) ||| ((hi8 c &&& 255) <<< (8 : Int32))).toBitVec.setWidth 16).setWidth 32) = _
  rw [BitVec.toNat_setWidth, BitVec.toNat_setWidth, g]
  omega
end StrChars
namespace StrChars
open Jvm Sem ClassFile Op Lib Jvm.Stand Jvm.Free.XT Jvm.Free.ALB Jvm.Free.JM Jvm.Free
open Jvm.Lib.Cold (StaticIs)
/-- the array's cell V codes the n chars f 0 .. f (n - 1) by the coder cd, as the JDK does: coder 1 just where some char is above 255 -/
def Cod (cd : Int32) (n : Nat) (f : Nat → Int32) (V : Cell) : Prop := (cd = 0 ∧ V.slots.size = n ∧ ∀ j, j < n → V.slots[j]? = some (.int (lo8 (f j))) ∧ ¬ 255 < f j) ∨ (cd = 1 ∧ V.slots.size = 2 * n ∧ (∀ j, j < n → V.slots[2 * j]? = some (.int (lo8 (f j))) ∧ V.slots[2 * j + 1]? = some (.int (hi8 (f j)))) ∧ ∃ j, j < n ∧ 255 < f j)
/-- **x is a String of the n chars f 0 .. f (n - 1)**, Latin-1 or UTF-16; its array at t has the cell V -/
def Txt (x t : Addr) (V : Cell) (cd : Int32) (n : Nat) (f : Nat → Int32) (U : State) : Prop := Exact "java/lang/String" x U ∧ Has x "java/lang/String" "value" "[B" (.ref t) U ∧ Has x "java/lang/String" "coder" "B" (.int cd) U ∧ XT.Arr .byte t V U ∧ Cod cd n f V ∧ ∀ j, j < n → ¬ f j < 0 ∧ ¬ 65535 < f j
theorem Txt.mv {x t : Addr} {V : Cell} {cd : Int32} {n : Nat} {f : Nat → Int32} {U U' : State} (h : Txt x t V cd n f U) (hal : U.vm.Alike U'.vm) (hh : U'.heap = U.heap) : Txt x t V cd n f U' := ⟨h.1.mv hal hh, h.2.1.mv hal hh, h.2.2.1.mv hal hh, h.2.2.2.1.mv hal hh, h.2.2.2.2⟩
end StrChars
namespace StrChars.Road
open Jvm Sem ClassFile Op Lib Jvm.Stand Jvm.Free Jvm.Free.XT
open Jvm.Lib.Cold (StaticIs)
theorem consq {a : Array Value} {s : State} {c : Jvm.Cond} {L : List Jvm.Cond} (h0 : c.before a s = true) (h : ∀ w ∈ L, w.before a s = true) : ∀ w ∈ c :: L, w.before a s = true := fun w hw => (List.mem_cons.mp hw).elim (fun e => e ▸ h0) (h w)
/-- the bytes of the chars cs, low before high -/
def wideBytes : List Int32 → List Value
  | [] => []
  | c :: cs => .int (lo8 c) :: .int (hi8 c) :: wideBytes cs
theorem wide_lo (d : Value) : ∀ (cs : List Int32) (j : Nat), j < cs.length → (wideBytes cs).getD (2 * j) d = .int (lo8 (cs.getD j 0))
  | [], j, h => absurd h (Nat.not_lt_zero j)
  | c :: cs, 0, _ => rfl
  | c :: cs, j + 1, h => by
    have q := wide_lo d cs j (by simpa using h)
    rw [show 2 * (j + 1) = 2 * j + 1 + 1 from by omega]
    simpa [wideBytes] using q
theorem wide_hi (d : Value) : ∀ (cs : List Int32) (j : Nat), j < cs.length → (wideBytes cs).getD (2 * j + 1) d = .int (hi8 (cs.getD j 0))
  | [], j, h => absurd h (Nat.not_lt_zero j)
  | c :: cs, 0, _ => rfl
  | c :: cs, j + 1, h => by
    have q := wide_hi d cs j (by simpa using h)
    rw [show 2 * (j + 1) + 1 = 2 * j + 1 + 1 + 1 from by omega]
    simpa [wideBytes] using q
theorem low_at (d : Value) (cs : List Int32) (j : Nat) (h : j < cs.length) : (cs.map fun c => Value.int (lo8 c)).getD j d = .int (lo8 (cs.getD j 0)) := by
  simp [List.getD_eq_getElem?_getD, h]
/-- an array of N2 bytes vs codes the chars cs by the coder cd -/
def CodA (cs : List Int32) (cd N2 : Int32) (vs : List Value) : Prop := (cd = 0 ∧ N2 = Int32.ofNat cs.length ∧ vs = (cs.map fun c => Value.int (lo8 c)) ∧ ∀ c ∈ cs, ¬ 255 < c) ∨ (cd = 1 ∧ N2 = Int32.ofNat (2 * cs.length) ∧ vs = wideBytes cs ∧ ∃ c ∈ cs, 255 < c)
theorem CodA.cod {cs : List Int32} {cd N2 : Int32} {vs : List Value} {V : Cell} (h : CodA cs cd N2 vs) (hn : 2 * cs.length < 2 ^ 31) (hs : V.slots.size = N2.toNatClampNeg) (hv : RoadKit.Has V vs (.int 0)) : Cod cd cs.length (fun j => cs.getD j 0) V := by
  rcases h with ⟨rfl, rfl, rfl, h⟩ | ⟨rfl, rfl, rfl, c, hc, hw⟩
  · rw [n32 (by omega)] at hs
    exact Or.inl ⟨rfl, hs, fun j hj => ⟨by rw [hv j (by omega), low_at _ _ _ hj], by
      have e : cs.getD j 0 = cs[j] := by simp [List.getD_eq_getElem?_getD, hj]
      show ¬ 255 < cs.getD j 0
      rw [e]; exact h _ (List.getElem_mem _)⟩⟩
  · rw [n32 (by omega)] at hs
    obtain ⟨j, hj, rfl⟩ := List.getElem_of_mem hc
    exact Or.inr ⟨rfl, hs, fun j hj => ⟨by rw [hv _ (by omega), wide_lo _ _ _ hj], by rw [hv _ (by omega), wide_hi _ _ _ hj]⟩, j, hj, by
      have e : cs.getD j 0 = cs[j] := by simp [List.getD_eq_getElem?_getD, hj]
      show 255 < cs.getD j 0
      rw [e]; exact hw⟩
/-- an object of exactly java/lang/String, its two fields found: as the laws ask it -/
theorem strObj {Z U : State} {a0 : Array Value} {kI : Nat} (wi : (Jvm.Cond.instantiable ST kI).before a0 Z = true) (al : Z.vm.Alike U.vm) {x : Addr} {v0 c0 : Value} (E : RoadKit.Exa Z U.heap x ST) (V : RoadKit.Fld Z U.heap x ST "value" "[B" v0) (C : RoadKit.Fld Z U.heap x ST "coder" "B" c0) :
    ∃ (D : Cell) (fV fC : Field), Blank ST x D U ∧ Found ST "value" "[B" fV U ∧ Found ST "coder" "B" fC U ∧ D.slots[fV.slot]? = some v0 ∧ D.slots[fC.slot]? = some c0 ∧ RoadKit.slotOf Z ST "value" "[B" = fV.slot ∧ RoadKit.slotOf Z ST "coder" "B" = fC.slot := by
  obtain ⟨D, cfV, kV, iV, fV, hD, gV, stV, knV, obV, asV, slV⟩ := V
  obtain ⟨D', cfC, kC, iC, fC, hD', gC, stC, -, -, asC, slC⟩ := C
  cases hD.symm.trans hD'
  obtain ⟨D2, kD, e1, e2, e3, e4, e5⟩ := E
  cases hD.symm.trans e1
  obtain ⟨c2, k2, i1, i2, i3, -⟩ := Cond.instantiable_spec wi
  cases e2.symm.trans i1
  cases e3.symm.trans i2
  obtain ⟨kU, u1, u2⟩ := al.2.2 _ _ e3
  exact ⟨D, fV, fC, ⟨hD, ⟨knV, fun q hq => by rw [hq] at obV; cases obV⟩, by rw [al.findClass]; exact e2, kU, u1, by rw [u2]; exact i3, by rw [u2]; exact e5 i3⟩, ⟨SBG.found_only al ⟨cfV, kV, iV, gV⟩, stV⟩, ⟨SBG.found_only al ⟨cfC, kC, iC, gC⟩, stC⟩, slV, slC, by simp [RoadKit.slotOf, gV], by simp [RoadKit.slotOf, gC]⟩
theorem sta_is {Z U : State} (al : Z.vm.Alike U.vm) {C n d : String} {v : Value} (S : RoadKit.Sta Z U.heap C n d v) : StaticIs U C n d v := by
  obtain ⟨cfS, iS, kS, fS, st, cS, t1, t2, t3, t4, t5, t6, t7⟩ := S
  exact StaticIs.there (s := { Z with heap := U.heap }) ⟨cfS, iS, kS, fS, st, cS, t1, t2, t3, t4, t5, (fun q => by rw [q] at t6; cases t6), t7⟩ al rfl
end StrChars.Road
namespace StrChars
open Jvm Sem ClassFile Op Lib Jvm.Stand Jvm.Free.XT Jvm.Free.ALB Jvm.Free.JM Jvm.Free
open Jvm.Lib.Cold (StaticIs)
/-- what place i of a byte[]'s cell holds -/
def yv (A : Cell) (i : Nat) : Int32 := match A.slots[i]? with | some (.int x) => x | _ => 0
theorem yv_get {a : Addr} {A : Cell} {U : State} (h : XT.Arr .byte a A U) (ht : Typed .byte A) {i : Nat} (hi : i < A.slots.size) : A.slots[i]? = some (.int (yv A i)) := by
  have e := Array.getElem?_eq_getElem hi
  have f := ht i _ e
  unfold yv; rw [e]
  generalize A.slots[i] = v at f
  cases v <;> simp [fits] at f ⊢
/-- the two arrays are equal, place for place -/
def EqC (A B : Cell) : Prop := A.slots.size = B.slots.size ∧ ∀ i, i < A.slots.size → yv A i = yv B i
/-- a boolean that says whether p -/
def Says01 (q : Prop) (r : Option Value) (s u : State) : Prop := ∃ v : Int32, r = some (.int v) ∧ u.heap = s.heap ∧ ((v = 1 ∧ q) ∨ (v = 0 ∧ ¬ q))
theorem Says01.mv {q : Prop} : ∀ r (U U' V V' : State), U'.heap = U.heap → V.vm.Alike V'.vm → V'.heap = V.heap → Says01 q r U V → Says01 q r U' V' :=
  fun r U U' V V' h1 _ h2 ⟨v, a, b, c⟩ => ⟨v, a, by rw [h1, h2]; exact b, c⟩
namespace LEq
def yN : MethodName := ⟨"java/lang/StringLatin1", "equals", "([B[B)Z"⟩
abbrev yB : ByteArray := jdk_43_method_13_code
theorem d0 : decode yB 0 = .ok (.aload_n 0, 1) := by decide +kernel
theorem d1 : decode yB 1 = .ok (.arraylength, 1) := by decide +kernel
theorem d2 : decode yB 2 = .ok (.aload_n 1, 1) := by decide +kernel
theorem d3 : decode yB 3 = .ok (.arraylength, 1) := by decide +kernel
theorem d4 : decode yB 4 = .ok (.if_icmp (.ne) 30, 3) := by decide +kernel
theorem d7 : decode yB 7 = .ok (.iconst 0, 1) := by decide +kernel
theorem d8 : decode yB 8 = .ok (.istore_n 2, 1) := by decide +kernel
theorem d9 : decode yB 9 = .ok (.iload_n 2, 1) := by decide +kernel
theorem d10 : decode yB 10 = .ok (.aload_n 0, 1) := by decide +kernel
theorem d11 : decode yB 11 = .ok (.arraylength, 1) := by decide +kernel
theorem d12 : decode yB 12 = .ok (.if_icmp (.ge) 20, 3) := by decide +kernel
theorem d15 : decode yB 15 = .ok (.aload_n 0, 1) := by decide +kernel
theorem d16 : decode yB 16 = .ok (.iload_n 2, 1) := by decide +kernel
theorem d17 : decode yB 17 = .ok (.baload, 1) := by decide +kernel
theorem d18 : decode yB 18 = .ok (.aload_n 1, 1) := by decide +kernel
theorem d19 : decode yB 19 = .ok (.iload_n 2, 1) := by decide +kernel
theorem d20 : decode yB 20 = .ok (.baload, 1) := by decide +kernel
theorem d21 : decode yB 21 = .ok (.if_icmp (.eq) 5, 3) := by decide +kernel
theorem d24 : decode yB 24 = .ok (.iconst 0, 1) := by decide +kernel
theorem d25 : decode yB 25 = .ok (.ireturn, 1) := by decide +kernel
theorem d26 : decode yB 26 = .ok (.iinc 2 1, 3) := by decide +kernel
theorem d29 : decode yB 29 = .ok (.goto (-20), 3) := by decide +kernel
theorem d32 : decode yB 32 = .ok (.iconst 1, 1) := by decide +kernel
theorem d33 : decode yB 33 = .ok (.ireturn, 1) := by decide +kernel
theorem d34 : decode yB 34 = .ok (.iconst 0, 1) := by decide +kernel
theorem d35 : decode yB 35 = .ok (.ireturn, 1) := by decide +kernel
def site : List Cond := []
def tab : Cond := tabOf yN yB 3 (some .boolean) site
def P (a : Addr) (A : Cell) (b : Addr) (B : Cell) (args : Array Value) (s : State) : Prop := args = #[.ref a, .ref b] ∧ XT.Arr .byte a A s ∧ Typed .byte A ∧ XT.Arr .byte b B s ∧ Typed .byte B
/-- whether two byte[] are equal, place for place -/
theorem law (l : Launch) (a : Addr) (A : Cell) (b : Addr) (B : Cell) : Law l yN 2 2 0 0 yB 3 (some .boolean) site (P a A b B) (Says01 (EqC A B)) [] 0 0 := by
  refine Law.of_walk (plainFor_of_name (by decide +kernel)) (by decide +kernel) (by decide +kernel) (by decide) (fun _ _ h => by rw [h.1]; rfl) (fun _ U U' hal hh h => ⟨h.1, h.2.1.mv hal hh, h.2.2.1, h.2.2.2.1.mv hal hh, h.2.2.2.2⟩) (fun r U U' V V' h1 hal h2 h => Says01.mv r U U' V V' h1 hal h2 h) ?_
  intro p e s m args below meth c s₁ X0 hexec hbytes hml hret hlk hnm hown hh0 W hP
  obtain ⟨rfl, hA, tA, hB, tB⟩ := hP
  have a31 := hA.2.2.2
  have b31 := hB.2.2.2
  have hA0 := hA.mv X0.warmed.alike hh0
  have hB0 := hB.mv X0.warmed.alike hh0
  have c1 : Steps p.tables e below (s₁.setTop (entryFrame m #[.ref a, .ref b] 3)) (s₁.setTop (mkF m 0 #[.val (.ref a), .val (.ref b), .unset] [])) := entry rfl
  have c2 : Steps p.tables e below (s₁.setTop (entryFrame m #[.ref a, .ref b] 3)) (s₁.setTop (mkF m 4 #[.val (.ref a), .val (.ref b), .unset] [.int (Int32.ofNat B.slots.size), .int (Int32.ofNat A.slots.size)])) := c1.trans (by
    refine XS.aloadN X0.here hexec rfl (hb hbytes d0) rfl rfl ?_
    refine X0.alen hexec hA0 rfl rfl (hb hbytes d1) ?_
    refine XS.aloadN X0.here hexec rfl (hb hbytes d2) rfl rfl ?_
    refine X0.alen hexec hB0 rfl rfl (hb hbytes d3) ?_
    exact Steps.refl _)
  by_cases hs : A.slots.size = B.slots.size
  · have c3 : Steps p.tables e below (s₁.setTop (entryFrame m #[.ref a, .ref b] 3)) (s₁.setTop (mkF m 9 #[.val (.ref a), .val (.ref b), .val (.int 0)] [])) := c2.trans (by
      refine XS.icmpNo X0.here hexec rfl (hb hbytes d4) rfl (ii_ne_f (by rw [hs])) ?_
      refine iconstV X0.here hexec rfl 0 (hb hbytes d7) (by decide) ?_
      refine XS.istoreN X0.here hexec rfl (hb hbytes d8) rfl rfl ?_
      exact Steps.refl _)
    have loop : ∀ (r i : Nat), i + r = A.slots.size → (∀ j, j < i → yv A j = yv B j) → Steps p.tables e below (s₁.setTop (entryFrame m #[.ref a, .ref b] 3)) (s₁.setTop (mkF m 9 #[.val (.ref a), .val (.ref b), .val (.int (Int32.ofNat i))] [])) → ∃ (pc : Nat) (Ls : Array Slot) (v : Int32), (pc = 25 ∨ pc = 33) ∧ ((v = 1 ∧ EqC A B) ∨ (v = 0 ∧ ¬ EqC A B)) ∧ Steps p.tables e below (s₁.setTop (entryFrame m #[.ref a, .ref b] 3)) (s₁.setTop (mkF m pc Ls [.int v])) := by
      intro r
      induction r with
      | zero =>
        intro i hi he cl
        exact ⟨33, _, 1, Or.inr rfl, Or.inl ⟨rfl, hs, fun j hj => he j (by omega)⟩, cl.trans (by
          refine XS.iloadN X0.here hexec rfl (hb hbytes d9) rfl ?_
          refine XS.aloadN X0.here hexec rfl (hb hbytes d10) rfl rfl ?_
          refine X0.alen hexec hA0 rfl rfl (hb hbytes d11) ?_
          refine XS.icmpYes X0.here hexec rfl (pc0 := 12) rfl (hb hbytes d12) rfl (ii_ge_t (nlt32 (by omega) (by omega))) (by decide) rfl ?_
          refine iconstV X0.here hexec rfl 1 (hb hbytes d32) (by decide) ?_
          exact Steps.refl _)⟩
      | succ r ih =>
        intro i hi he cl
        have c4 : Steps p.tables e below (s₁.setTop (entryFrame m #[.ref a, .ref b] 3)) (s₁.setTop (mkF m 21 #[.val (.ref a), .val (.ref b), .val (.int (Int32.ofNat i))] [.int (yv B i), .int (yv A i)])) := cl.trans (by
          refine XS.iloadN X0.here hexec rfl (hb hbytes d9) rfl ?_
          refine XS.aloadN X0.here hexec rfl (hb hbytes d10) rfl rfl ?_
          refine X0.alen hexec hA0 rfl rfl (hb hbytes d11) ?_
          refine XS.icmpNo X0.here hexec rfl (hb hbytes d12) rfl (ii_ge_f (lt32 (by omega) (by omega))) ?_
          refine XS.aloadN X0.here hexec rfl (hb hbytes d15) rfl rfl ?_
          refine XS.iloadN X0.here hexec rfl (hb hbytes d16) rfl ?_
          refine X0.aget hexec hA0 rfl (yv_get hA tA (i := i) (by omega)) rfl rfl (hb hbytes d17) ?_
          refine XS.aloadN X0.here hexec rfl (hb hbytes d18) rfl rfl ?_
          refine XS.iloadN X0.here hexec rfl (hb hbytes d19) rfl ?_
          refine X0.aget hexec hB0 rfl (yv_get hB tB (i := i) (by omega)) rfl rfl (hb hbytes d20) ?_
          exact Steps.refl _)
        by_cases hv : yv A i = yv B i
        · have c5 : Steps p.tables e below (s₁.setTop (entryFrame m #[.ref a, .ref b] 3)) (s₁.setTop (mkF m 9 #[.val (.ref a), .val (.ref b), .val (.int (Int32.ofNat i + 1))] [])) := c4.trans (by
            refine XS.icmpYes X0.here hexec rfl (pc0 := 21) rfl (hb hbytes d21) rfl (ii_eq_t hv) (by decide) rfl ?_
            refine iincV X0.here hexec rfl 1 (hb hbytes d26) (by decide) rfl rfl ?_
            refine XS.goto X0.here hexec rfl (pc0 := 29) rfl (hb hbytes d29) (by decide) rfl ?_
            exact Steps.refl _)
          rw [succ32] at c5
          exact ih (i + 1) (by omega) (fun j hj => by
            by_cases e : j = i
            · rw [e]; exact hv
            · exact he j (by omega)) c5
        · exact ⟨25, _, 0, Or.inl rfl, Or.inr ⟨rfl, fun q => hv (q.2 i (by omega))⟩, c4.trans (by
            refine XS.icmpNo X0.here hexec rfl (hb hbytes d21) rfl (ii_eq_f hv) ?_
            refine iconstV X0.here hexec rfl 0 (hb hbytes d24) (by decide) ?_
            exact Steps.refl _)⟩
    obtain ⟨pc, Ls, v, hpc, hv, cz⟩ := loop A.slots.size 0 (by omega) (fun j hj => absurd hj (Nat.not_lt_zero j)) c3
    have nv : narrow .boolean (.int v) = .int v := by rcases hv with ⟨rfl, -⟩ | ⟨rfl, -⟩ <;> rfl
    rcases hpc with rfl | rfl
    · exact ⟨s₁, some (.int v), _, _, _, X0, rfl, rfl, rfl, (fun h => by cases h), ⟨v, rfl, hh0, hv⟩, fun fs hl => cz.trans (X0.ireturnOut hexec hret nv (Or.inr (Or.inl rfl)) (hb hbytes d25) hl)⟩
    · exact ⟨s₁, some (.int v), _, _, _, X0, rfl, rfl, rfl, (fun h => by cases h), ⟨v, rfl, hh0, hv⟩, fun fs hl => cz.trans (X0.ireturnOut hexec hret nv (Or.inr (Or.inl rfl)) (hb hbytes d33) hl)⟩
  · have c3 : Steps p.tables e below (s₁.setTop (entryFrame m #[.ref a, .ref b] 3)) (s₁.setTop (mkF m 35 #[.val (.ref a), .val (.ref b), .unset] [.int 0])) := c2.trans (by
      refine XS.icmpYes X0.here hexec rfl (pc0 := 4) rfl (hb hbytes d4) rfl (ii_ne_t (ne32 a31 b31 hs)) (by decide) rfl ?_
      refine iconstV X0.here hexec rfl 0 (hb hbytes d34) (by decide) ?_
      exact Steps.refl _)
    exact ⟨s₁, some (.int 0), _, _, _, X0, rfl, rfl, rfl, (fun h => by cases h), ⟨0, rfl, hh0, Or.inr ⟨rfl, fun q => hs q.1⟩⟩, fun fs hl => c3.trans (X0.ireturnOut hexec hret rfl (Or.inr (Or.inl rfl)) (hb hbytes d35) hl)⟩
end LEq
theorem Cod.ty {cd : Int32} {n : Nat} {f : Nat → Int32} {V : Cell} (h : Cod cd n f V) : Typed .byte V := fun i v hv => by
  have hi : i < V.slots.size := (Array.getElem?_eq_some_iff.mp hv).1
  rcases h with ⟨-, k1, k2⟩ | ⟨-, k1, k2, -⟩
  · rw [(k2 i (by omega)).1] at hv; cases hv; exact fits_lo8 _
  · rcases Nat.mod_two_eq_zero_or_one i with e | e
    · obtain ⟨j, rfl⟩ : ∃ j, i = 2 * j := ⟨i / 2, by omega⟩
      rw [(k2 j (by omega)).1] at hv; cases hv; exact fits_lo8 _
    · obtain ⟨j, rfl⟩ : ∃ j, i = 2 * j + 1 := ⟨i / 2, by omega⟩
      rw [(k2 j (by omega)).2] at hv; cases hv; exact fits_lo8 _
/-- the same text -/
def SameT (n : Nat) (f : Nat → Int32) (k : Nat) (g : Nat → Int32) : Prop := n = k ∧ ∀ j, j < n → f j = g j
theorem lo8_inj {x y : Int32} (h0 : ¬ x < 0) (h1 : ¬ 255 < x) (k0 : ¬ y < 0) (k1 : ¬ 255 < y) (h : lo8 x = lo8 y) : x = y := by
  rw [← lo8_mask h0 h1, ← lo8_mask k0 k1, h]
/-- arrays coded by one coder are equal just where the texts are -/
theorem Cod.eqv {cd : Int32} {n k : Nat} {f g : Nat → Int32} {V V' : Cell} (h : Cod cd n f V) (h' : Cod cd k g V') (hf : ∀ j, j < n → ¬ f j < 0 ∧ ¬ 65535 < f j) (hg : ∀ j, j < k → ¬ g j < 0 ∧ ¬ 65535 < g j) : EqC V V' ↔ SameT n f k g := by
  have yvv : ∀ {W : Cell} {i : Nat} {x : Int32}, W.slots[i]? = some (.int x) → yv W i = x := fun q => by unfold yv; rw [q]
  rcases h with ⟨rfl, k1, k2⟩ | ⟨rfl, k1, k2, -⟩
  · rcases h' with ⟨-, m1, m2⟩ | ⟨e, -⟩
    · constructor
      · rintro ⟨e1, e2⟩
        refine ⟨by omega, fun j hj => ?_⟩
        have q := e2 j (by omega)
        rw [yvv (k2 j hj).1, yvv (m2 j (by omega)).1] at q
        exact lo8_inj (hf j hj).1 (k2 j hj).2 (hg j (by omega)).1 (m2 j (by omega)).2 q
      · rintro ⟨rfl, e2⟩
        refine ⟨by omega, fun j hj => ?_⟩
        rw [yvv (k2 j (by omega)).1, yvv (m2 j (by omega)).1, e2 j (by omega)]
    · exact absurd e (by decide)
  · rcases h' with ⟨e, -⟩ | ⟨-, m1, m2, -⟩
    · exact absurd e (by decide)
    · constructor
      · rintro ⟨e1, e2⟩
        refine ⟨by omega, fun j hj => ?_⟩
        have q1 := e2 (2 * j) (by omega)
        have q2 := e2 (2 * j + 1) (by omega)
        rw [yvv (k2 j hj).1, yvv (m2 j (by omega)).1] at q1
        rw [yvv (k2 j hj).2, yvv (m2 j (by omega)).2] at q2
        rw [← pair_says (hf j hj).1 (hf j hj).2, ← pair_says (hg j (by omega)).1 (hg j (by omega)).2, q1, q2]
      · rintro ⟨rfl, e2⟩
        refine ⟨by omega, fun i hi => ?_⟩
        rcases Nat.mod_two_eq_zero_or_one i with e | e
        · obtain ⟨j, rfl⟩ : ∃ j, i = 2 * j := ⟨i / 2, by omega⟩
          rw [yvv (k2 j (by omega)).1, yvv (m2 j (by omega)).1, e2 j (by omega)]
        · obtain ⟨j, rfl⟩ : ∃ j, i = 2 * j + 1 := ⟨i / 2, by omega⟩
          rw [yvv (k2 j (by omega)).2, yvv (m2 j (by omega)).2, e2 j (by omega)]
/-- two codings differ: so do the texts -/
theorem Cod.dif {cd cd' : Int32} {n k : Nat} {f g : Nat → Int32} {V V' : Cell} (h : Cod cd n f V) (h' : Cod cd' k g V') (hne : ¬ cd = cd') : ¬ SameT n f k g := by
  rintro ⟨rfl, e⟩
  rcases h with ⟨rfl, -, k2⟩ | ⟨rfl, -, -, j, hj, hw⟩
  · rcases h' with ⟨rfl, -⟩ | ⟨-, -, -, j, hj, hw⟩
    · exact hne rfl
    · exact (k2 j hj).2 (by rw [e j hj]; exact hw)
  · rcases h' with ⟨-, -, m2⟩ | ⟨rfl, -⟩
    · exact (m2 j hj).2 (by rw [← e j hj]; exact hw)
    · exact hne rfl
/-- an object of exactly C is an instance of C -/
theorem cinst {p : Program} {l : Launch} {e : Env} {R : Room} {s : State} {m : MethodId} {args : Array Value} {below : List Frame} {meth : Method} {c : Code} {T : State} {locs : List Loc} {cells slots : Nat} (X : Stand p l e R s m args below meth c T locs cells slots) (hexec : p.tables.exec = Jvm.exec) {own C : String} {index : Nat} (hown : s.vm.findClass own = some m.cls) (hlink : (Cond.classLink own index C).before args s = true) {a : Addr} (hE : Exact C a T)
    {g : JFrame} (hg : g.method = m) {rest : List Value} (hstack : g.stack = .ref a :: rest) (hdg : decode c.code g.pc = .ok (.instanceof index, 3)) :
    ∃ T', Stand p l e R s m args below meth c T' locs cells slots ∧ T'.heap = T.heap ∧ ∀ target, Steps p.tables e below (T'.setTop { g with pc := g.pc + 3, stack := .int 1 :: rest }) target → Steps p.tables e below (T.setTop g) target := by
  obtain ⟨cB, h1, D, h2, h3, h4⟩ := hE
  have h1' : s.vm.findClass C = some cB := by rw [← X.warmed.alike.findClass]; exact h1
  obtain ⟨vm', X', st⟩ := X.instanceofYes hexec hown hlink h2 h4 h1' (by rw [h3]; exact Jvm.Free.SB.assignable_self _ _) hg hstack hdg
  exact ⟨_, X', rfl, st⟩
theorem cself {p : Program} {l : Launch} {e : Env} {R : Room} {s : State} {m : MethodId} {args : Array Value} {below : List Frame} {meth : Method} {c : Code} {T : State} {locs : List Loc} {cells slots : Nat} (X : Stand p l e R s m args below meth c T locs cells slots) (hexec : p.tables.exec = Jvm.exec) {own C : String} {index : Nat} (hown : s.vm.findClass own = some m.cls) (hlink : (Cond.classLink own index C).before args s = true) {a : Addr} (hE : Exact C a T)
    {g : JFrame} (hg : g.method = m) {rest : List Value} (hstack : g.stack = .ref a :: rest) (hdg : decode c.code g.pc = .ok (.checkcast index, 3)) :
    ∃ T', Stand p l e R s m args below meth c T' locs cells slots ∧ T'.heap = T.heap ∧ ∀ target, Steps p.tables e below (T'.setTop { g with pc := g.pc + 3, stack := .ref a :: rest }) target → Steps p.tables e below (T.setTop g) target := by
  obtain ⟨cB, h1, D, h2, h3, h4⟩ := hE
  have h1' : s.vm.findClass C = some cB := by rw [← X.warmed.alike.findClass]; exact h1
  obtain ⟨vm', X', st⟩ := X.checkcastYes hexec hown hlink h2 h4 h1' (by rw [h3]; exact Jvm.Free.SB.assignable_self _ _) hg hstack hdg
  exact ⟨_, X', rfl, fun t h => st t (by rw [← hstack] at h; exact h)⟩
namespace SEq
def yN : MethodName := ⟨"java/lang/String", "equals", "(Ljava/lang/Object;)Z"⟩
abbrev yB : ByteArray := jdk_42_method_66_code
theorem d0 : decode yB 0 = .ok (.aload_n 0, 1) := by decide +kernel
theorem d1 : decode yB 1 = .ok (.aload_n 1, 1) := by decide +kernel
theorem d2 : decode yB 2 = .ok (.if_acmp (.ne) 5, 3) := by decide +kernel
theorem d5 : decode yB 5 = .ok (.iconst 1, 1) := by decide +kernel
theorem d6 : decode yB 6 = .ok (.ireturn, 1) := by decide +kernel
theorem d7 : decode yB 7 = .ok (.aload_n 1, 1) := by decide +kernel
theorem d8 : decode yB 8 = .ok (.instanceof 10, 3) := by decide +kernel
theorem d11 : decode yB 11 = .ok (.ifCond (.eq) 43, 3) := by decide +kernel
theorem d14 : decode yB 14 = .ok (.aload_n 1, 1) := by decide +kernel
theorem d15 : decode yB 15 = .ok (.checkcast 10, 3) := by decide +kernel
theorem d18 : decode yB 18 = .ok (.astore_n 2, 1) := by decide +kernel
theorem d19 : decode yB 19 = .ok (.getstatic 38, 3) := by decide +kernel
theorem d22 : decode yB 22 = .ok (.ifCond (.eq) 14, 3) := by decide +kernel
theorem d25 : decode yB 25 = .ok (.aload_n 0, 1) := by decide +kernel
theorem d26 : decode yB 26 = .ok (.getfield 15, 3) := by decide +kernel
theorem d29 : decode yB 29 = .ok (.aload_n 2, 1) := by decide +kernel
theorem d30 : decode yB 30 = .ok (.getfield 15, 3) := by decide +kernel
theorem d33 : decode yB 33 = .ok (.if_icmp (.ne) 21, 3) := by decide +kernel
theorem d36 : decode yB 36 = .ok (.aload_n 0, 1) := by decide +kernel
theorem d37 : decode yB 37 = .ok (.getfield 9, 3) := by decide +kernel
theorem d40 : decode yB 40 = .ok (.aload_n 2, 1) := by decide +kernel
theorem d41 : decode yB 41 = .ok (.getfield 9, 3) := by decide +kernel
theorem d44 : decode yB 44 = .ok (.invokestatic 541, 3) := by decide +kernel
theorem d47 : decode yB 47 = .ok (.ifCond (.eq) 7, 3) := by decide +kernel
theorem d50 : decode yB 50 = .ok (.iconst 1, 1) := by decide +kernel
theorem d51 : decode yB 51 = .ok (.goto 4, 3) := by decide +kernel
theorem d54 : decode yB 54 = .ok (.iconst 0, 1) := by decide +kernel
theorem d55 : decode yB 55 = .ok (.ireturn, 1) := by decide +kernel
def site : List Cond := [.classLink "java/lang/String" 10 "java/lang/String", .fieldLink "java/lang/String" 38 "java/lang/String" "COMPACT_STRINGS" "Z", .fieldLink "java/lang/String" 15 "java/lang/String" "coder" "B", .fieldLink "java/lang/String" 9 "java/lang/String" "value" "[B", LEq.tab] ++ staticW "java/lang/String" 541 LEq.yN
def tab : Cond := tabOf yN yB 3 (some .boolean) site
def P (x t : Addr) (V : Cell) (cd : Int32) (n : Nat) (f : Nat → Int32) (y t' : Addr) (V' : Cell) (cd' : Int32) (k : Nat) (g : Nat → Int32) (z : Int32) (args : Array Value) (s : State) : Prop := args = #[.ref x, .ref y] ∧ Txt x t V cd n f s ∧ Txt y t' V' cd' k g s ∧ StaticIs s "java/lang/String" "COMPACT_STRINGS" "Z" (.int z) ∧ ¬ z = 0
/-- equals(Object) of two Strings: whether the texts are the same -/
theorem law (l : Launch) (x t : Addr) (V : Cell) (cd : Int32) (n : Nat) (f : Nat → Int32) (y t' : Addr) (V' : Cell) (cd' : Int32) (k : Nat) (g : Nat → Int32) (z : Int32) : Law l yN 2 1 1 14 yB 3 (some .boolean) site (P x t V cd n f y t' V' cd' k g z) (Says01 (SameT n f k g)) [] 0 0 := by
  refine Law.of_walk (plainFor_of_name (by decide +kernel)) (by decide +kernel) (by decide +kernel) (by decide) (fun _ _ h => by rw [h.1]; rfl) (fun _ U U' hal hh h => ⟨h.1, h.2.1.mv hal hh, h.2.2.1.mv hal hh, h.2.2.2.1.there hal hh, h.2.2.2.2⟩) (fun r U U' V V' h1 hal h2 h => Says01.mv r U U' V V' h1 hal h2 h) ?_
  intro p e s m args below meth c s₁ X0 hexec hbytes hml hret hlk hnm hown hh0 W hP
  obtain ⟨rfl, hx, hy, s1, hz⟩ := hP
  have c1 : Steps p.tables e below (s₁.setTop (entryFrame m #[.ref x, .ref y] 3)) (s₁.setTop (mkF m 2 #[.val (.ref x), .val (.ref y), .unset] [.ref y, .ref x])) := Steps.trans (entry rfl) (by
    show Steps p.tables e below (s₁.setTop (mkF m 0 #[.val (.ref x), .val (.ref y), .unset] [])) _
    refine XS.aloadN X0.here hexec rfl (hb hbytes d0) rfl rfl ?_
    refine XS.aloadN X0.here hexec rfl (hb hbytes d1) rfl rfl ?_
    exact Steps.refl _)
  by_cases hxy : x = y
  · have c2 : Steps p.tables e below (s₁.setTop (entryFrame m #[.ref x, .ref y] 3)) (s₁.setTop (mkF m 6 #[.val (.ref x), .val (.ref y), .unset] [.int 1])) := c1.trans (by
      refine acmpNo X0.here hexec rfl (hb hbytes d2) rfl rfl rfl (by simp [acmp, hxy]) ?_
      refine iconstV X0.here hexec rfl 1 (hb hbytes d5) (by decide) ?_
      exact Steps.refl _)
    subst hxy
    have ec : cd = cd' := by
      obtain ⟨D, fd, a1, a2, a3⟩ := hx.2.2.1
      obtain ⟨D', fd', b1, b2, b3⟩ := hy.2.2.1
      cases a1.symm.trans b1
      obtain ⟨q1, q2, q3, q4⟩ := a2.1
      obtain ⟨r1, r2, r3, r4⟩ := b2.1
      cases q4.symm.trans r4
      cases a3.symm.trans b3; rfl
    have et : t = t' := by
      obtain ⟨D, fd, a1, a2, a3⟩ := hx.2.1
      obtain ⟨D', fd', b1, b2, b3⟩ := hy.2.1
      cases a1.symm.trans b1
      obtain ⟨q1, q2, q3, q4⟩ := a2.1
      obtain ⟨r1, r2, r3, r4⟩ := b2.1
      cases q4.symm.trans r4
      cases a3.symm.trans b3; rfl
    subst ec et
    have ev : V = V' := by cases hx.2.2.2.1.1.symm.trans hy.2.2.2.1.1; rfl
    subst ev
    have hs : SameT n f k g := (Cod.eqv hx.2.2.2.2.1 hy.2.2.2.2.1 hx.2.2.2.2.2 hy.2.2.2.2.2).mp ⟨rfl, fun _ _ => rfl⟩
    exact ⟨s₁, some (.int 1), _, _, _, X0, rfl, rfl, rfl, (fun h => by cases h), ⟨1, rfl, hh0, Or.inl ⟨rfl, hs⟩⟩, fun fs hl => c2.trans (X0.ireturnOut hexec hret rfl (Or.inr (Or.inl rfl)) (hb hbytes d6) hl)⟩
  · have c2 : Steps p.tables e below (s₁.setTop (entryFrame m #[.ref x, .ref y] 3)) (s₁.setTop (mkF m 8 #[.val (.ref x), .val (.ref y), .unset] [.ref y])) := c1.trans (by
      refine acmpYes X0.here hexec rfl (pc0 := 2) rfl (hb hbytes d2) rfl rfl rfl (by simp [acmp, hxy]) (by decide) rfl ?_
      refine XS.aloadN X0.here hexec rfl (hb hbytes d7) rfl rfl ?_
      exact Steps.refl _)
    obtain ⟨T3, X3, q3, st3⟩ := cinst X0 hexec hown (wk W (.classLink "java/lang/String" 10 "java/lang/String")) (hy.mv X0.warmed.alike hh0).1 (g := (mkF m 8 #[.val (.ref x), .val (.ref y), .unset] [.ref y])) rfl (rest := []) rfl (hb hbytes d8)
    have hh3 := q3.trans hh0
    have c4 : Steps p.tables e below (s₁.setTop (entryFrame m #[.ref x, .ref y] 3)) (T3.setTop (mkF m 15 #[.val (.ref x), .val (.ref y), .unset] [.ref y])) := (c2.trans (st3 _ (Steps.refl _))).trans (by
      refine XS.ifNo X3.here hexec rfl (hb hbytes d11) rfl (i0_eq_f (by decide)) ?_
      refine XS.aloadN X3.here hexec rfl (hb hbytes d14) rfl rfl ?_
      exact Steps.refl _)
    obtain ⟨T5, X5, q5, st5⟩ := cself X3 hexec hown (wk W (.classLink "java/lang/String" 10 "java/lang/String")) (hy.mv X3.warmed.alike hh3).1 (g := (mkF m 15 #[.val (.ref x), .val (.ref y), .unset] [.ref y])) rfl (rest := []) rfl (hb hbytes d15)
    have hh5 := q5.trans hh3
    have c6 : Steps p.tables e below (s₁.setTop (entryFrame m #[.ref x, .ref y] 3)) (T5.setTop (mkF m 19 #[.val (.ref x), .val (.ref y), .val (.ref y)] [])) := (c4.trans (st5 _ (Steps.refl _))).trans (by
      refine XS.astoreN X5.here hexec rfl (hb hbytes d18) rfl rfl rfl ?_
      exact Steps.refl _)
    obtain ⟨T7, X7, q7, st7⟩ := X5.sget hexec hown (wk W (.fieldLink "java/lang/String" 38 "java/lang/String" "COMPACT_STRINGS" "Z")) s1 (fun _ _ h => by rw [hh5]; exact h) (g := (mkF m 19 #[.val (.ref x), .val (.ref y), .val (.ref y)] [])) rfl (hb hbytes d19)
    have hh7 := q7.trans hh5
    have c8 : Steps p.tables e below (s₁.setTop (entryFrame m #[.ref x, .ref y] 3)) (T7.setTop (mkF m 26 #[.val (.ref x), .val (.ref y), .val (.ref y)] [.ref x])) := (c6.trans (st7 _ (Steps.refl _))).trans (by
      refine XS.ifNo X7.here hexec rfl (hb hbytes d22) rfl (i0_eq_f hz) ?_
      refine XS.aloadN X7.here hexec rfl (hb hbytes d25) rfl rfl ?_
      exact Steps.refl _)
    obtain ⟨T9, X9, q9, st9⟩ := X7.hget hexec hown (wk W (.fieldLink "java/lang/String" 15 "java/lang/String" "coder" "B")) (hx.mv X7.warmed.alike hh7).2.2.1 (g := (mkF m 26 #[.val (.ref x), .val (.ref y), .val (.ref y)] [.ref x])) rfl (rest := []) rfl (hb hbytes d26)
    have hh9 := q9.trans hh7
    have c10 : Steps p.tables e below (s₁.setTop (entryFrame m #[.ref x, .ref y] 3)) (T9.setTop (mkF m 30 #[.val (.ref x), .val (.ref y), .val (.ref y)] [.ref y, .int cd])) := (c8.trans (st9 _ (Steps.refl _))).trans (by
      refine XS.aloadN X9.here hexec rfl (hb hbytes d29) rfl rfl ?_
      exact Steps.refl _)
    obtain ⟨T11, X11, q11, st11⟩ := X9.hget hexec hown (wk W (.fieldLink "java/lang/String" 15 "java/lang/String" "coder" "B")) (hy.mv X9.warmed.alike hh9).2.2.1 (g := (mkF m 30 #[.val (.ref x), .val (.ref y), .val (.ref y)] [.ref y, .int cd])) rfl (rest := [.int cd]) rfl (hb hbytes d30)
    have hh11 := q11.trans hh9
    have c12 : Steps p.tables e below (s₁.setTop (entryFrame m #[.ref x, .ref y] 3)) (T11.setTop (mkF m 33 #[.val (.ref x), .val (.ref y), .val (.ref y)] [.int cd', .int cd])) := c10.trans (st11 _ (Steps.refl _))
    by_cases hcd : cd = cd'
    · subst hcd
      have c13 : Steps p.tables e below (s₁.setTop (entryFrame m #[.ref x, .ref y] 3)) (T11.setTop (mkF m 37 #[.val (.ref x), .val (.ref y), .val (.ref y)] [.ref x])) := c12.trans (by
        refine XS.icmpNo X11.here hexec rfl (hb hbytes d33) rfl (ii_ne_f rfl) ?_
        refine XS.aloadN X11.here hexec rfl (hb hbytes d36) rfl rfl ?_
        exact Steps.refl _)
      obtain ⟨T14, X14, q14, st14⟩ := X11.hget hexec hown (wk W (.fieldLink "java/lang/String" 9 "java/lang/String" "value" "[B")) (hx.mv X11.warmed.alike hh11).2.1 (g := (mkF m 37 #[.val (.ref x), .val (.ref y), .val (.ref y)] [.ref x])) rfl (rest := []) rfl (hb hbytes d37)
      have hh14 := q14.trans hh11
      have c15 : Steps p.tables e below (s₁.setTop (entryFrame m #[.ref x, .ref y] 3)) (T14.setTop (mkF m 41 #[.val (.ref x), .val (.ref y), .val (.ref y)] [.ref y, .ref t])) := (c13.trans (st14 _ (Steps.refl _))).trans (by
        refine XS.aloadN X14.here hexec rfl (hb hbytes d40) rfl rfl ?_
        exact Steps.refl _)
      obtain ⟨T16, X16, q16, st16⟩ := X14.hget hexec hown (wk W (.fieldLink "java/lang/String" 9 "java/lang/String" "value" "[B")) (hy.mv X14.warmed.alike hh14).2.1 (g := (mkF m 41 #[.val (.ref x), .val (.ref y), .val (.ref y)] [.ref y, .ref t])) rfl (rest := [.ref t]) rfl (hb hbytes d41)
      have hh16 := q16.trans hh14
      have c17 : Steps p.tables e below (s₁.setTop (entryFrame m #[.ref x, .ref y] 3)) (T16.setTop (mkF m 44 #[.val (.ref x), .val (.ref y), .val (.ref y)] [.ref t', .ref t])) := c15.trans (st16 _ (Steps.refl _))
      obtain ⟨v18, T18, X18, E18, g18⟩ := X16.callS hexec (LEq.law l t V t' V') hown (wks W (staticW "java/lang/String" 541 LEq.yN)) (wk W LEq.tab) (W := 0) (Nat.le_of_ble_eq_true rfl) (Nat.le_of_ble_eq_true rfl) (Nat.le_refl _) (Nat.le_refl _) (g := (mkF m 44 #[.val (.ref x), .val (.ref y), .val (.ref y)] [.ref t', .ref t])) rfl (by rw [hml]; rfl) c17 (argsL := [.ref t, .ref t']) (rest := []) rfl rfl (by show 2 * 0 + 0 ≤ _; decide) (hb hbytes d44) (⟨rfl, hx.2.2.2.1.mv X16.warmed.alike hh16, hx.2.2.2.2.1.ty, hy.2.2.2.1.mv X16.warmed.alike hh16, hy.2.2.2.2.1.ty⟩)
      obtain ⟨v, rfl, q18, hv⟩ := E18
      have iff := Cod.eqv hx.2.2.2.2.1 hy.2.2.2.2.1 hx.2.2.2.2.2 hy.2.2.2.2.2
      rcases hv with ⟨rfl, he⟩ | ⟨rfl, he⟩
      · have c19 : Steps p.tables e below (s₁.setTop (entryFrame m #[.ref x, .ref y] 3)) (T18.setTop (mkF m 55 #[.val (.ref x), .val (.ref y), .val (.ref y)] [.int 1])) := Steps.trans g18 (by
          refine XS.ifNo X18.here hexec rfl (hb hbytes d47) rfl (i0_eq_f (by decide)) ?_
          refine iconstV X18.here hexec rfl 1 (hb hbytes d50) (by decide) ?_
          refine XS.goto X18.here hexec rfl (pc0 := 51) rfl (hb hbytes d51) (by decide) rfl ?_
          exact Steps.refl _)
        exact ⟨T18, some (.int 1), _, _, _, X18, rfl, rfl, rfl, (fun h => by cases h), ⟨1, rfl, q18.trans hh16, Or.inl ⟨rfl, iff.mp he⟩⟩, fun fs hl => c19.trans (X18.ireturnOut hexec hret rfl (Or.inr (Or.inl rfl)) (hb hbytes d55) hl)⟩
      · have c19 : Steps p.tables e below (s₁.setTop (entryFrame m #[.ref x, .ref y] 3)) (T18.setTop (mkF m 55 #[.val (.ref x), .val (.ref y), .val (.ref y)] [.int 0])) := Steps.trans g18 (by
          refine XS.ifYes X18.here hexec rfl (pc0 := 47) rfl (hb hbytes d47) rfl (i0_eq_t rfl) (by decide) rfl ?_
          refine iconstV X18.here hexec rfl 0 (hb hbytes d54) (by decide) ?_
          exact Steps.refl _)
        exact ⟨T18, some (.int 0), _, _, _, X18, rfl, rfl, rfl, (fun h => by cases h), ⟨0, rfl, q18.trans hh16, Or.inr ⟨rfl, fun q => he (iff.mpr q)⟩⟩, fun fs hl => c19.trans (X18.ireturnOut hexec hret rfl (Or.inr (Or.inl rfl)) (hb hbytes d55) hl)⟩
    · have c13 : Steps p.tables e below (s₁.setTop (entryFrame m #[.ref x, .ref y] 3)) (T11.setTop (mkF m 55 #[.val (.ref x), .val (.ref y), .val (.ref y)] [.int 0])) := c12.trans (by
        refine XS.icmpYes X11.here hexec rfl (pc0 := 33) rfl (hb hbytes d33) rfl (ii_ne_t hcd) (by decide) rfl ?_
        refine iconstV X11.here hexec rfl 0 (hb hbytes d54) (by decide) ?_
        exact Steps.refl _)
      exact ⟨T11, some (.int 0), _, _, _, X11, rfl, rfl, rfl, (fun h => by cases h), ⟨0, rfl, hh11, Or.inr ⟨rfl, Cod.dif hx.2.2.2.2.1 hy.2.2.2.2.1 hcd⟩⟩, fun fs hl => c13.trans (X11.ireturnOut hexec hret rfl (Or.inr (Or.inl rfl)) (hb hbytes d55) hl)⟩
theorem pays {l : Launch} {R : Room} {p : Program} {e : Env} {below : List Frame} {s : State} {sargs : Array Value} {len W : Nat} (x t : Addr) (V : Cell) (cd : Int32) (n : Nat) (f : Nat → Int32) (y t' : Addr) (V' : Cell) (cd' : Int32) (k : Nat) (g : Nat → Int32) (z : Int32) (htab : tab.before sargs s = true) (hfr : 2 ≤ R.frames) (hlo : W + 28 ≤ R.locals) :
    Back l R p e below s sargs yN len W (fun A₁ a₁ => A₁.cells + 0 ≤ R.cells ∧ A₁.slots + 0 ≤ R.slots ∧ P x t V cd n f y t' V' cd' k g z a₁ A₁.U) (fun A₁ _ v₁ B₁ => Says01 (SameT n f k g) v₁ A₁.U B₁.U ∧ B₁.locs = A₁.locs ++ [] ∧ B₁.cells = A₁.cells + 0 ∧ B₁.slots = A₁.slots + 0) :=
  (law l x t V cd n f y t' V' cd' k g z).pays htab hfr (by omega)
end SEq
end StrChars
namespace StrChars.Road
open Jvm Sem ClassFile Op Lib Jvm.Stand Jvm.Free Jvm.Free.XT
open Jvm.Lib.Cold (StaticIs)
/-- the words of String.equals(Object) -/
abbrev wordsEq : List Jvm.Cond := [.code SEq.yN SEq.yB 3 (some .boolean), .initialized ST, .classLink ST 10 ST, .fieldLink ST 38 ST "COMPACT_STRINGS" "Z", .fieldLink ST 15 ST "coder" "B", .fieldLink ST 9 ST "value" "[B", .methodLink ST 541 LEq.yN, .static LEq.yN, .code LEq.yN LEq.yB 3 (some .boolean), .initialized "java/lang/StringLatin1"]
theorem tabEq_of {a : Array Value} {s : State} (h : ∀ w ∈ wordsEq, w.before a s = true) : SEq.tab.before a s = true := by
  have hl : LEq.tab.before a s = true := unparts (wk h (.code LEq.yN LEq.yB 3 (some .boolean))) (wks h (.initialized LEq.yN.cls :: LEq.site))
  have q := consq hl h
  exact unparts (wk q (.code SEq.yN SEq.yB 3 (some .boolean))) (wks q (.initialized SEq.yN.cls :: SEq.site))
theorem movedEq {Z s : State} {a0 args : Array Value} (hZ : Z.Warmed39 s.vm) (hw : ∀ d ∈ wordsEq, d.before a0 Z = true) : ∀ d ∈ wordsEq, d.before args s = true := fun d hd => by
  have t : ∀ d ∈ wordsEq, (d.onTables && d.keepsFace) = true := by decide +kernel
  exact RoadKit.mv hZ (hw d hd) (t d hd)
/-- the road's facts of a String, as the laws ask it -/
theorem txt_of {Z U : State} {a0 : Array Value} {kI : Nat} (wi : (Jvm.Cond.instantiable ST kI).before a0 Z = true) (al : Z.vm.Alike U.vm) {x t : Addr} {kb : ClassId} {cs : List Int32} {cd N2 : Int32} {vs : List Value} (E : RoadKit.Exa Z U.heap x ST) (V : RoadKit.Fld Z U.heap x ST "value" "[B" (.ref t)) (C : RoadKit.Fld Z U.heap x ST "coder" "B" (.int cd)) (K : RoadKit.Arv Z U.heap t kb .byte N2 vs (.int 0)) (hc : CodA cs cd N2 vs) (hb : ∀ c ∈ cs, ¬ c < 0 ∧ ¬ (65535 : Int32) < c) (l2 : cs.length ≤ 4000) :
    ∃ A, Txt x t A cd cs.length (fun j => cs.getD j 0) U := by
  obtain ⟨A, K1, K2, K3, K4, K5, K6⟩ := K
  have hcod := hc.cod (by omega) K3 K5
  obtain ⟨D, fV, fC, hB, F1, F2, g1, g2, -, -⟩ := strObj wi al E V C
  exact ⟨A, ⟨_, hB.2.2.1, D, hB.1, rfl, by cases q : D.vm <;> first | rfl | exact absurd q (hB.2.1.2 _)⟩, Has.of hB F1 g1, Has.of hB F2 g2, ⟨K1.1, State.isArrayOf_alike al K1.2.1, K1.2.2, by rcases hcod with ⟨-, q, -⟩ | ⟨-, q, -⟩ <;> omega⟩, hcod, fun j hj => by
    have e : cs.getD j 0 = cs[j] := by simp [List.getD_eq_getElem?_getD, hj]
    show ¬ cs.getD j 0 < 0 ∧ ¬ 65535 < cs.getD j 0
    rw [e]; exact hb _ (List.getElem_mem _)⟩
theorem same_list (cs ds : List Int32) : SameT cs.length (fun j => cs.getD j 0) ds.length (fun j => ds.getD j 0) ↔ cs = ds := by
  constructor
  · rintro ⟨e, q⟩
    refine List.ext_getElem e fun j h1 h2 => ?_
    have := q j h1
    simpa [List.getD_eq_getElem?_getD, h1, h2] using this
  · rintro rfl
    exact ⟨rfl, fun _ _ => rfl⟩
/-- **equals(Object) OF TWO SUCH STRINGS**: 1 just where the chars are the same -/
theorem eqW {p : Program} {l : Launch} {e : Env} {R : Room} {s : State} {args : Array Value} {below : List Frame} {len W : Nat} {Z : State} {a0 : Array Value} {h : Heap} (hZ : Z.Warmed39 s.vm) (hw : ∀ d ∈ wordsEq, d.before a0 Z = true) {kI : Nat} (wi : (Jvm.Cond.instantiable ST kI).before a0 Z = true)
    {x t : Addr} {kb : ClassId} {cs : List Int32} {cd N2 : Int32} {vs : List Value} (E : RoadKit.Exa Z h x ST) (V : RoadKit.Fld Z h x ST "value" "[B" (.ref t)) (C : RoadKit.Fld Z h x ST "coder" "B" (.int cd)) (K : RoadKit.Arv Z h t kb .byte N2 vs (.int 0)) (hc : CodA cs cd N2 vs) (hb : ∀ c ∈ cs, ¬ c < 0 ∧ ¬ (65535 : Int32) < c) (l2 : cs.length ≤ 4000)
    {y t' : Addr} {kb' : ClassId} {ds : List Int32} {cd' N2' : Int32} {vs' : List Value} (E' : RoadKit.Exa Z h y ST) (V' : RoadKit.Fld Z h y ST "value" "[B" (.ref t')) (C' : RoadKit.Fld Z h y ST "coder" "B" (.int cd')) (K' : RoadKit.Arv Z h t' kb' .byte N2' vs' (.int 0)) (hc' : CodA ds cd' N2' vs') (hb' : ∀ c ∈ ds, ¬ c < 0 ∧ ¬ (65535 : Int32) < c) (l2' : ds.length ≤ 4000)
    {z : Int32} (S : RoadKit.Sta Z h ST "COMPACT_STRINGS" "Z" (.int z)) (hz : ¬ z = 0) (hfr : 2 ≤ R.frames) (hlo : W + 28 ≤ R.locals) :
    Back l R p e below s args (⟨"java/lang/String", "equals", "(Ljava/lang/Object;)Z"⟩ : MethodName) len W (fun P a => a = #[.ref x, .ref y] ∧ P.U.heap = h ∧ P.cells + 0 ≤ R.cells ∧ P.slots + 0 ≤ R.slots)
      (fun P _ v B => ∃ L, (((v = some (.int 1) ∧ cs = ds) ∨ (v = some (.int 0) ∧ ¬ cs = ds)) ∧ L = [] ∧ B.U.heap = h) ∧ B.locs = P.locs ++ L ∧ B.cells = P.cells + 0 ∧ B.slots = P.slots + 0) := by
  intro m meth c P g ig mk a X hg hsize hdg hW hn hp'
  obtain ⟨rfl, rfl, r1, r2⟩ := hp'
  have al : Z.vm.Alike P.U.vm := hZ.alike.trans X.warmed.alike
  obtain ⟨A, hx⟩ := txt_of wi al E V C K hc hb l2
  obtain ⟨A', hy⟩ := txt_of wi al E' V' C' K' hc' hb' l2'
  obtain ⟨v, B, X', ⟨⟨w, hv, hh, hq⟩, hl, hk, hs⟩, st⟩ := SEq.pays x t A cd cs.length (fun j => cs.getD j 0) y t' A' cd' ds.length (fun j => ds.getD j 0) z (tabEq_of (movedEq hZ hw)) hfr hlo m meth c P g ig mk _ X hg hsize hdg hW hn ⟨r1, r2, rfl, hx, hy, sta_is al S, hz⟩
  refine ⟨v, B, X', ⟨[], ⟨?_, rfl, hh⟩, hl, hk, hs⟩, st⟩
  rcases hq with ⟨rfl, q⟩ | ⟨rfl, q⟩
  · exact Or.inl ⟨hv, (same_list cs ds).mp q⟩
  · exact Or.inr ⟨hv, fun e => q ((same_list cs ds).mpr e)⟩
end StrChars.Road
end Jvm.Pilot.@@N@@

namespace Jvm.Pilot.@@N@@
open Jvm Jvm.ClassFile Sem Op Lib Jvm.Free Jvm.Stand Jvm.LawKit Jvm.RoadKit Bundle Jvm.Pilot.@@N@@.Jvm.D
theorem own_strw {Z : State} {aZ : Array Value} (hw : ∀ d ∈ tables_1, d.before aZ Z = true) : ∀ a ∈ Bundle.stringAtoms, a.before aZ Z = true := fun c hc =>
  hw c (by simpa using (List.all_eq_true.mp (by decide +kernel : (Bundle.stringAtoms.all fun c => tables_1.contains c) = true)) c hc)
/-- s is the true start s0 with the tables at hand; every pair interned since lies below h's end -/
def own_St (s0 s : State) (h : Heap) : Prop := ∃ vm k, s = s0.setVm vm ∧ s0.Since vm k ∧ k ≤ h.size
theorem own_St.refl (s : State) (h : Heap) : own_St s s h := ⟨s.vm, 0, rfl, (State.WarmedH.refl s).since 0, Nat.zero_le _⟩
theorem own_St.le {s0 s : State} {h h' : Heap} (S : own_St s0 s h) (q : h.size ≤ h'.size) : own_St s0 s h' := by
  obtain ⟨vm, k, e1, e2, e3⟩ := S
  exact ⟨vm, k, e1, e2, Nat.le_trans e3 q⟩
theorem own_St.next {s0 s : State} {h : Heap} {U : State} (S : own_St s0 s h) (q : s.Since U.vm U.heap.size) (g : h.size ≤ U.heap.size) : own_St s0 (s.setVm U.vm) U.heap := by
  obtain ⟨vm, k, rfl, e2, e3⟩ := S
  exact ⟨U.vm, U.heap.size, rfl, e2.trans q (Nat.le_trans e3 g), Nat.le_refl _⟩
section OwnIntern
variable {p : Program} {l : Launch} {e : Env} {R : Room} {s s0 : State} {m : MethodId} {args : Array Value} {below : List Frame} {meth : Method} {c : Code} {T : State} {locs : List Loc} {cells slots : Nat} {Z : State} {a0 : Array Value} {h : Heap}
theorem own_ldc (X : Stand p l e R s m args below meth c T locs cells slots) (hx : p.tables.exec = Jvm.exec) (hZ : Z.Warmed39 s.vm) {own text : String} {index : Nat} (hown : s.vm.findClass own = some m.cls) (w : (Cond.stringLink own index text).before a0 Z = true) (wS : ∀ a ∈ Bundle.stringAtoms, a.before a0 Z = true)
    (eT : T.heap = h) (S : own_St s0 s h) {g : JFrame} (hg : g.method = m) (hd : decode c.code g.pc = .ok (.ldc index, 2)) {n : Nat} (hn : 4 * text.toList.length ≤ n) (hbig : n ≤ 536870912) (hc : cells + 2 ≤ R.cells) (hl : slots + (n + 4) ≤ R.slots) :
    ∃ (a : Addr) (s' T' : State) (h' : Heap), Stand p l e R s' m args below meth c T' locs (cells + 2) (slots + (n + 4)) ∧ T'.heap = h' ∧ Ext h h' ∧ own_St s0 s' h' ∧ Z.Warmed39 s'.vm ∧ s'.vm.findClass own = some m.cls ∧
      ∀ target, Steps p.tables e below (T'.setTop { g with pc := g.pc + 2, stack := .ref a :: g.stack }) target → Steps p.tables e below (T.setTop g) target := by
  obtain ⟨a, T', X', hS', -, hb, -, st⟩ := X.ldcStringCold hx (own := own) hown (mvS hZ w) (fun d hd => by
    have q := wS d hd
    simp only [Bundle.stringAtoms, List.mem_cons, List.not_mem_nil, or_false] at hd
    rcases hd with rfl | rfl | rfl | rfl | rfl | rfl | rfl
    · exact mv hZ q
    · exact mv hZ q
    · exact mvA hZ q
    · exact mv hZ q
    · exact mv hZ q
    · exact mv hZ q
    · exact mv hZ q) hg hd hn hbig hc hl
  subst eT
  have E := ext_of hb
  exact ⟨a, s.setVm T'.vm, T', _, X', rfl, E, S.next hS' E.1, hZ.trans hS'.1, (hS'.1.alike.findClass own _).trans hown, st⟩
theorem own_back {own : String} {U : State} {L' : List Loc} {c' s' : Nat} (X : Stand p l e R (s.setVm U.vm) m args below meth c U L' c' s') (S : own_St s0 s h) (hS : s.Since U.vm U.heap.size) (hg : T.heap.size ≤ U.heap.size) (eT : T.heap = h) (hZ : Z.Warmed39 s.vm) (hown : s.vm.findClass own = some m.cls) :
    ∃ s1, Stand p l e R s1 m args below meth c U L' c' s' ∧ own_St s0 s1 U.heap ∧ Z.Warmed39 s1.vm ∧ s1.vm.findClass own = some m.cls := by
  subst eT
  exact ⟨s.setVm U.vm, X, S.next hS hg, hZ.trans hS.1, (hS.1.alike.findClass own _).trans hown⟩
theorem own_leave (X : Stand p l e R s m args below meth c T locs cells slots) (eT : T.heap = h) (S : own_St s0 s h) {v : Option Value} (hv : meth.sig.returnType = none → v = none) (hlocks : meth.locks = false := by first | assumption | exact BodyLoose.notSynchronized (by assumption) | exact Body.notSynchronized (by assumption)) :
    ∃ fs, (∀ (f : JFrame) (acts : List Action), f.method = m → f.locked = none → f.entered = [] → (doReturn e (T.setTop f) acts v).1 = T.setFrames fs) ∧ (T.setFrames fs).status = .running ∧ Ended (T.setFrames fs) below (.returned v) ∧
      s0.Warmed39 (T.setFrames fs).vm ∧ (∀ (j : Nat) (p : Array UInt16 × Addr), s0.vm.interned.size ≤ j → (T.setFrames fs).vm.interned[j]? = some p → s0.heap.size ≤ p.2 ∧ p.2 < (T.setFrames fs).heap.size) ∧ s0.sameButNew { T.setFrames fs with vm := s0.vm } locs cells slots := by
  subst eT
  obtain ⟨vm, k, rfl, e2, e3⟩ := S
  obtain ⟨fs, h1, h2, h3, -, h4, h5, h6⟩ := X.leaveW e2 e3 hv hlocks
  exact ⟨fs, h1, h2, h3, h4, h5, h6⟩
end OwnIntern

/-- a String of known chars, each 0 to 255 -/
def own_Str (Z : State) (h : Heap) (x : Addr) (cs : List Int32) : Prop := ∃ (t : Addr) (kb : ClassId), Exa Z h x "java/lang/String" ∧ Fld Z h x "java/lang/String" "coder" "B" (.int 0) ∧ Fld Z h x "java/lang/String" "value" "[B" (.ref t) ∧
  Arv Z h t kb .byte (Int32.ofNat cs.length) ((cs.map StrChars.lo8).map Value.int) (.int 0) ∧ (∀ c ∈ cs, ¬ c < 0 ∧ ¬ (255 : Int32) < c) ∧ cs.length ≤ 4000
theorem own_Str.exa {Z : State} {h : Heap} {x : Addr} {cs : List Int32} (S : own_Str Z h x cs) : Exa Z h x "java/lang/String" := by obtain ⟨t, kb, E, -⟩ := S; exact E
theorem own_Str.ext {Z : State} {h h' : Heap} {x : Addr} {cs : List Int32} (S : own_Str Z h x cs) (E : Ext h h') : own_Str Z h' x cs := by
  obtain ⟨t, kb, a1, a2, a3, a4, r⟩ := S
  exact ⟨t, kb, a1.ext E, a2.ext E, a3.ext E, a4.ext E, r⟩
theorem own_Str.keep {Z : State} {h h' : Heap} {x : Addr} {cs : List Int32} (S : own_Str Z h x cs) (K : Keep h h' []) : own_Str Z h' x cs := by
  obtain ⟨t, kb, a1, a2, a3, a4, r⟩ := S
  exact ⟨t, kb, a1.keep K, a2.keep K nin0, a3.keep K nin0, a4.keep K nin0, r⟩
theorem own_IB.of_eq {Z : State} {vm vm' : Vm} {Ts : List String} (I : IB Z vm Ts) (e : vm'.interned = vm.interned) : IB Z vm' Ts := by
  obtain ⟨more, e1, e2⟩ := I
  exact ⟨more, e.trans e1, e2⟩
theorem own_IB.more {Z : State} {vm : Vm} {Ts Ts' : List String} (I : IB Z vm Ts) (e : ∀ t ∈ Ts, t ∈ Ts') : IB Z vm Ts' := by
  obtain ⟨more, e1, e2⟩ := I
  exact ⟨more, e1, fun q hq => by obtain ⟨t, ht, hd⟩ := e2 q hq; exact ⟨t, e t ht, hd⟩⟩
section OwnRead
variable {p : Program} {l : Launch} {e : Env} {R : Room} {s s0 : State} {m : MethodId} {args : Array Value} {below : List Frame} {meth : Method} {c : Code} {T : State} {locs : List Loc} {cells slots : Nat} {Z : State} {a0 : Array Value} {h : Heap}
theorem own_ldcV (X : Stand p l e R s m args below meth c T [] cells slots) (hx : p.tables.exec = Jvm.exec) (hZ : Z.Warmed39 s.vm) {own text : String} {index : Nat} (hown : s.vm.findClass own = some m.cls) (w : (Cond.stringLink own index text).before a0 Z = true) (wS : ∀ a ∈ Bundle.stringAtoms, a.before a0 Z = true)
    (eT : T.heap = h) (S : own_St s0 s h) (hold : ∀ (b : Addr) (cl : Cell), Z.heap[b]? = some cl → s0.heap[b]? = some cl) {Ts : List String} (I : IB Z s.vm Ts) (hnot : text ∉ Ts) (hh : Jvm.Lit.constHeld Z own index ∧ Jvm.Lit.compactW.before a0 Z = true)
    {cs : List Int32} (ht1 : ∀ c ∈ text.toList, c.toNat < 256) (ht2 : text.toList.map (fun c => Value.int (Jvm.Lit.byteI c.toNat.toUInt16)) = (cs.map StrChars.lo8).map Value.int) (hcs : ∀ c ∈ cs, ¬ c < 0 ∧ ¬ (255 : Int32) < c) (hlen : cs.length ≤ 4000)
    {g : JFrame} (hg : g.method = m) (hd : decode c.code g.pc = .ok (.ldc index, 2)) {n : Nat} (hn : 4 * text.toList.length ≤ n) (hbig : n ≤ 536870912) (hc : cells + 2 ≤ R.cells) (hl : slots + (n + 4) ≤ R.slots) :
    ∃ (a : Addr) (s' T' : State) (h' : Heap) (t : Addr) (kb : ClassId), Stand p l e R s' m args below meth c T' [] (cells + 2) (slots + (n + 4)) ∧ T'.heap = h' ∧ Ext h h' ∧ own_St s0 s' h' ∧ Z.Warmed39 s'.vm ∧ s'.vm.findClass own = some m.cls ∧
      Exa Z h' a "java/lang/String" ∧ Fld Z h' a "java/lang/String" "coder" "B" (.int 0) ∧ Fld Z h' a "java/lang/String" "value" "[B" (.ref t) ∧ Arv Z h' t kb .byte (Int32.ofNat cs.length) ((cs.map StrChars.lo8).map Value.int) (.int 0) ∧ own_Str Z h' a cs ∧ IB Z s'.vm (text :: Ts) ∧ Lit s' own index a ∧
      ∀ target, Steps p.tables e below (T'.setTop { g with pc := g.pc + 2, stack := .ref a :: g.stack }) target → Steps p.tables e below (T.setTop g) target := by
  obtain ⟨vm, k, rfl, e2, e3⟩ := S
  have k1 : (Int32.ofNat cs.length).toInt = cs.length := Int32.toInt_ofNat_of_lt (by omega)
  obtain ⟨a, T', h', k2, b, kb, r1, r2, r3, r4, r5, r6, r7, r8, r9, r10, r11, -, -, r14, r15, r16⟩ := ldcSVL (s := s0) (vm0 := vm) X hx hZ hown w wS eT e2 e3 (Fr.nil _) hold I hnot hh.1 hh.2 (z := Int32.ofNat cs.length) ⟨ht1, ht2⟩
    (by rw [Int32.lt_iff_toInt_lt, k1]; simp) (by simp only [Int32.toNatClampNeg, k1]; simp) hg hd hn hbig hc hl
  exact ⟨a, s0.setVm T'.vm, T', h', b, kb, r1, r2, r3, ⟨_, _, rfl, r4, r5⟩, r6, r7, r8, r9, r10, r11, ⟨b, kb, r8, r9, r10, r11, hcs, hlen⟩, r14, r15, r16⟩
theorem own_ldcA (X : Stand p l e R s m args below meth c T locs cells slots) (hx : p.tables.exec = Jvm.exec) (hZ : Z.Warmed39 s.vm) {own text : String} {index : Nat} (hown : s.vm.findClass own = some m.cls) (w : (Cond.stringLink own index text).before a0 Z = true) {a : Addr} (L : Lit s own index a)
    {g : JFrame} (hg : g.method = m) (hd : decode c.code g.pc = .ok (.ldc index, 2)) : ∀ target, Steps p.tables e below (T.setTop { g with pc := g.pc + 2, stack := .ref a :: g.stack }) target → Steps p.tables e below (T.setTop g) target :=
  ldcR (Z := s) (a0 := args) X hx (State.Warmed39.refl _) hown (refOfLit (mvS hZ w) L) L hg hd
theorem own_backI {own : String} {U : State} {L' : List Loc} {c' s' : Nat} {Ts : List String} (X : Stand p l e R (s.setVm U.vm) m args below meth c U L' c' s') (S : own_St s0 s h) (hS : s.Since U.vm U.heap.size) (hg : T.heap.size ≤ U.heap.size) (eT : T.heap = h) (hZ : Z.Warmed39 s.vm) (hown : s.vm.findClass own = some m.cls) (I : IB Z U.vm Ts) :
    ∃ s1, Stand p l e R s1 m args below meth c U L' c' s' ∧ own_St s0 s1 U.heap ∧ Z.Warmed39 s1.vm ∧ s1.vm.findClass own = some m.cls ∧ IB Z s1.vm Ts := by
  subst eT
  exact ⟨s.setVm U.vm, X, S.next hS hg, hZ.trans hS.1, (hS.1.alike.findClass own _).trans hown, I⟩
theorem own_backOfI {y : MethodName} {bytes : ByteArray} {maxL : Nat} {ret : Option FieldType} {rm : Room} {len W : Nat} {as' : Array Value} {Q : Option Value → Heap → List Loc → Prop} {Ts Ts' : List String}
    (hM : MetFree l y (head1 [Cond.code y bytes maxL ret] rm) (fun a U => a = as' ∧ Z.Warmed39 U.vm ∧ U.heap = h ∧ IB Z U.vm Ts) (fun _ _ _ _ _ => True) (fun _ U o U' => ∃ v L, o = .returned v ∧ (Q v U'.heap L ∧ IB Z U'.vm Ts') ∧ ReturnedEndW U o U' L rm.cells rm.slots))
    (hZ : Z.Warmed39 s.vm) (wc : (Cond.code y bytes maxL ret).before a0 Z = true) (wz : (Cond.initialized y.cls).before a0 Z = true) (hf : rm.frames + 1 ≤ R.frames) (hl : W + (maxL + 11) + rm.locals ≤ R.locals) (I : IB Z s.vm Ts) :
    BackS l R p e below s args y len W (fun A a => a = as' ∧ A.U.heap = h ∧ A.cells + rm.cells ≤ R.cells ∧ A.slots + rm.slots ≤ R.slots)
      (fun A _ v B => ∃ L, (Q v B.U.heap L ∧ IB Z B.U.vm Ts') ∧ B.locs = A.locs ++ L ∧ B.cells = A.cells + rm.cells ∧ B.slots = A.slots + rm.slots) :=
  BackS.of_freeW (bytes := bytes) (maxL := maxL) (ret := ret) (E := fun _ _ o t L k n => k = rm.cells ∧ n = rm.slots ∧ ∃ v, o = .returned v ∧ (Q v t.heap L ∧ IB Z t.vm Ts')) hM hf hl
    (fun m meth c A a Y hp => have hU : Z.Warmed39 A.U.vm := wtrans hZ Y.warmed
      ⟨by show (Cond.and _ .tt).before a A.U = true; rw [Cond.before_and, mv hU wc]; rfl, mv hU wc, mv hU wz, hp.2.2.1, hp.2.2.2⟩)
    (fun m meth c A a g mk Y hp => ⟨hp.1, wtrans hZ Y.warmed, hp.2.1, own_IB.of_eq I Y.warmed.interned_eq⟩) (fun _ _ _ _ _ _ _ _ _ => trivial)
    (fun _ _ _ _ ⟨v, L, h1, h2, h3⟩ => ⟨L, _, _, h3, rfl, rfl, v, h1, h2⟩)
    (fun m meth c A a g mk v t L k n Y hp _ _ ⟨e1, e2, v', e3, e4⟩ => by cases e3; subst e1 e2; exact ⟨L, e4, rfl, rfl, rfl⟩)
theorem own_up {c : Int32} (h : ¬ (255 : Int32) < c) : ¬ (65535 : Int32) < c := fun q => by
  rw [Int32.lt_iff_toInt_lt] at h q
  have k1 : (65535 : Int32).toInt = 65535 := by decide
  have k2 : (255 : Int32).toInt = 255 := by decide
  omega
/-- String.equals on two Strings of known chars -/
theorem own_eqBack {len W n0 : Nat} {x y : Addr} {cs ds : List Int32} {z : Int32} (hZ : Z.Warmed39 s.vm) (hw : ∀ d ∈ tables_1, d.before a0 Z = true) (h0 : n0 ≤ h.size) (P : own_Str Z h x cs) (Q : own_Str Z h y ds) (S : Sta Z h "java/lang/String" "COMPACT_STRINGS" "Z" (.int z)) (hz : ¬ z = 0) (hfr : 2 ≤ R.frames) (hlo : W + 28 ≤ R.locals) :
    Back l R p e below s args (⟨"java/lang/String", "equals", "(Ljava/lang/Object;)Z"⟩ : MethodName) len W (fun P a => a = #[.ref x, .ref y] ∧ P.U.heap = h ∧ P.cells + 0 ≤ R.cells ∧ P.slots + 0 ≤ R.slots)
      (fun P _ v B => ∃ L, (v = some (.int (if cs = ds then 1 else 0)) ∧ L = [] ∧ B.U.heap = h) ∧ B.locs = P.locs ++ L ∧ B.cells = P.cells + 0 ∧ B.slots = P.slots + 0) := by
  obtain ⟨t, kb, p1, p2, p3, p4, p5, p6⟩ := P
  obtain ⟨t', kb', q1, q2, q3, q4, q5, q6⟩ := Q
  have w : ∀ d ∈ StrChars.Road.wordsEq, d.before a0 Z = true := fun d hd => hw d ((by decide +kernel : ∀ d ∈ StrChars.Road.wordsEq, d ∈ tables_1) d hd)
  have up : ∀ {L : List Int32}, (∀ c ∈ L, ¬ c < 0 ∧ ¬ (255 : Int32) < c) → ∀ c ∈ L, ¬ c < 0 ∧ ¬ (65535 : Int32) < c := fun H c hc => ⟨(H c hc).1, own_up (H c hc).2⟩
  refine Back.mono (StrChars.Road.eqW hZ w (kI := 4) (hw _ (by decide +kernel)) p1 p3 p2 p4 (Or.inl ⟨rfl, rfl, by simp [List.map_map, Function.comp_def], fun c hc => (p5 c hc).2⟩) (up p5) p6 q1 q3 q2 q4 (Or.inl ⟨rfl, rfl, by simp [List.map_map, Function.comp_def], fun c hc => (q5 c hc).2⟩) (up q5) q6 S hz hfr hlo) (fun P a hp => hp) (fun P a v B hp hq => ?_)
  obtain ⟨L, ⟨hv, hL, hh⟩, r⟩ := hq
  refine ⟨L, ⟨?_, hL, hh⟩, r⟩
  rcases hv with ⟨rfl, q⟩ | ⟨rfl, q⟩
  · rw [if_pos q]
  · rw [if_neg q]
/-- new String(chars), a char[] of 1 to 19 known places, each 0 to 255 -/
theorem own_newBack {len W n0 : Nat} {x b : Addr} {n : Nat} {g : Nat → Int32} {z : Int32} (hZ : Z.Warmed39 s.vm) (hw : ∀ d ∈ tables_1, d.before a0 Z = true) (h0 : n0 ≤ h.size) (E : Exa Z h x "java/lang/String") (V : Fld Z h x "java/lang/String" "value" "[B" .null) (C : Fld Z h x "java/lang/String" "coder" "B" (.int 0)) (A : own_AI Z h b .char n g) (S : Sta Z h "java/lang/String" "COMPACT_STRINGS" "Z" (.int z))
    (hx0 : n0 ≤ x) (hz : ¬ z = 0) (l0 : 0 < n ∧ n ≤ 19) (hp : ∀ i, i < n → ¬ g i < 0 ∧ ¬ (255 : Int32) < g i) (hfr : 4 ≤ R.frames) (hlo : W + 65 ≤ R.locals) :
    Back l R p e below s args (⟨"java/lang/String", "<init>", "([C)V"⟩ : MethodName) len W (fun P a => a = #[.ref x, .ref b] ∧ P.U.heap = h ∧ P.cells + 1 ≤ R.cells ∧ P.slots + 19 ≤ R.slots)
      (fun P _ v B => ∃ L, (v = none ∧ Fr n0 L ∧ Keep h B.U.heap [x] ∧ Exa Z B.U.heap x "java/lang/String" ∧ own_Str Z B.U.heap x ((List.range n).map g)) ∧ B.locs = P.locs ++ L ∧ B.cells = P.cells + 1 ∧ B.slots = P.slots + 19) := by
  have w : ∀ d ∈ StrChars.Road.words, d.before a0 Z = true := fun d hd => hw d ((by decide +kernel : ∀ d ∈ StrChars.Road.words, d ∈ tables_1) d hd)
  obtain ⟨cA, Ar, S1, M1, H1⟩ := A
  have kn : (Int32.ofNat n).toInt = n := Int32.toInt_ofNat_of_lt (by omega)
  have hpc : ∀ c ∈ (List.range n).map g, ¬ c < 0 ∧ ¬ (255 : Int32) < c := fun c hc => by
    obtain ⟨i, hi, rfl⟩ := List.mem_map.mp hc
    exact hp i (List.mem_range.mp hi)
  have K : Arv Z h b cA.cls .char (Int32.ofNat n) (((List.range n).map g).map Value.int) (.int 0) := by
    have hget : ∀ i, i < n → (((List.range n).map g).map Value.int).getD i (.int 0) = .int (g i) := fun i hi => by simp [List.getD_eq_getElem?_getD, hi]
    refine ⟨cA, Ar, rfl, by simp only [Int32.toNatClampNeg, kn]; simp [S1], by rw [Int32.lt_iff_toInt_lt, kn]; simp, fun i hi => by rw [hget i (S1 ▸ hi)]; exact H1 i (S1 ▸ hi), fun i hi => ?_⟩
    rw [hget i (S1 ▸ hi)]
    obtain ⟨q1, q2⟩ := hp i (S1 ▸ hi)
    have k1 : (255 : Int32).toInt = 255 := by decide
    have k2 : (65535 : Int32).toInt = 65535 := by decide
    have k0 : (0 : Int32).toInt = 0 := by decide
    rw [Int32.lt_iff_toInt_lt] at q1 q2
    simp only [fits, Bool.and_eq_true, decide_eq_true_eq, Int32.le_iff_toInt_le]
    omega
  intro m meth c P g' ig mk a X hg hsize hdg hW hn hp'
  obtain ⟨r1, r2, r3, r4⟩ := hp'
  obtain ⟨v, B, X', ⟨L, ⟨q1, q2, q3, q4, q5, t, kb, -, -, -, q6, q7⟩, b1, b2, b3⟩, st⟩ := StrChars.Road.backV (n0 := n0) (n := n) (N := Int32.ofNat n) (cs := (List.range n).map g) (bs := ((List.range n).map g).map fun c => c.toInt8.toInt32) hZ w (kI := 4) (hw _ (by decide +kernel)) hx0 h0 E V C K S hz (by simp) rfl l0.1 (by omega) hpc rfl hfr hlo m meth c P g' ig mk a X hg hsize hdg hW hn ⟨r1, r2, r3, by omega⟩
  refine ⟨v, ⟨B.U, B.locs, B.cells, P.slots + 19⟩, X'.mono (Nat.le_refl _) (show B.slots ≤ P.slots + 19 by omega), ⟨L, ⟨q1, q2, q3, q4, t, kb, q4, q5, q6, ?_, hpc, by simp; omega⟩, b1, b2, rfl⟩, st⟩
  rw [show (List.map g (List.range n)).length = n from by simp]
  exact q7
end OwnRead

-- THE PLAIN LAW
def own_L0 : List Int32 := [108, 105, 115, 116, 65, 99, 99, 101, 115, 115, 66, 105, 110, 100, 105, 110, 103, 115]
def own_L1 : List Int32 := [97, 99, 99, 101, 115, 115, 66, 105, 110, 100, 105, 110, 103, 115]
def own_lb (cs ds : List Int32) : Int32 := if cs = ds then 1 else if cs = own_L0 then 1 else 0
theorem own_lb1 {cs ds : List Int32} (h : ¬ (if cs = ds then (1 : Int32) else 0) = 0) : own_lb cs ds = 1 := by
  unfold own_lb
  by_cases q : cs = ds
  · rw [if_pos q]
  · rw [if_neg q] at h; exact absurd rfl h
theorem own_lb2 {cs ds : List Int32} (h : (if cs = ds then (1 : Int32) else 0) = 0) (k : ¬ (if cs = own_L0 then (1 : Int32) else 0) = 0) : own_lb cs ds = 1 := by
  unfold own_lb
  by_cases q : cs = ds
  · rw [if_pos q]
  · rw [if_neg q]
    by_cases r : cs = own_L0
    · rw [if_pos r]
    · rw [if_neg r] at k; exact absurd rfl k
theorem own_lb3 {cs ds : List Int32} (h : (if cs = ds then (1 : Int32) else 0) = 0) (k : (if cs = own_L0 then (1 : Int32) else 0) = 0) : own_lb cs ds = 0 := by
  unfold own_lb
  by_cases q : cs = ds
  · rw [if_pos q] at h; exact absurd h (by decide)
  · rw [if_neg q]
    by_cases r : cs = own_L0
    · rw [if_pos r] at k; exact absurd k (by decide)
    · rw [if_neg r]
/-- base(w) and extended(w, x) -/
def own_isB (w : Int32) (n : Nat) (g : Nat → Int32) : Prop := (w = 0 ∧ n = 18 ∧ ∀ i, i < 18 → g i = own_L0.getD i 0) ∨ (¬ w = 0 ∧ n = 14 ∧ ∀ i, i < 14 → g i = own_L1.getD i 0)
def own_isX (w x : Int32) (n : Nat) (g : Nat → Int32) : Prop := (w = 0 ∧ n = 19 ∧ (∀ i, i < 18 → g i = own_L0.getD i 0) ∧ g 18 = nar .char x) ∨ (¬ w = 0 ∧ n = 15 ∧ (∀ i, i < 14 → g i = own_L1.getD i 0) ∧ g 14 = nar .char x)
def own_ok (c : Int32) : Prop := ¬ c < 0 ∧ ¬ (255 : Int32) < c
theorem own_ok0 : ∀ i, i < 18 → ¬ own_L0.getD i 0 < 0 ∧ ¬ (255 : Int32) < own_L0.getD i 0 := by decide +kernel
theorem own_ok1 : ∀ i, i < 14 → ¬ own_L1.getD i 0 < 0 ∧ ¬ (255 : Int32) < own_L1.getD i 0 := by decide +kernel
theorem own_isB.ok {w : Int32} {n : Nat} {g : Nat → Int32} (h : own_isB w n g) : ∀ i, i < n → ¬ g i < 0 ∧ ¬ (255 : Int32) < g i := by
  rcases h with ⟨-, rfl, h⟩ | ⟨-, rfl, h⟩ <;> intro i hi <;> rw [h i hi]
  · exact own_ok0 i hi
  · exact own_ok1 i hi
theorem own_isB.len {w : Int32} {n : Nat} {g : Nat → Int32} (h : own_isB w n g) : 0 < n ∧ n ≤ 19 := by
  rcases h with ⟨-, rfl, -⟩ | ⟨-, rfl, -⟩ <;> omega
theorem own_isX.len {w x : Int32} {n : Nat} {g : Nat → Int32} (h : own_isX w x n g) : 0 < n ∧ n ≤ 19 := by
  rcases h with ⟨-, rfl, -⟩ | ⟨-, rfl, -⟩ <;> omega
theorem own_isX.ok {w x : Int32} {n : Nat} {g : Nat → Int32} (h : own_isX w x n g) (hx : own_ok (nar .char x)) : ∀ i, i < n → ¬ g i < 0 ∧ ¬ (255 : Int32) < g i := by
  rcases h with ⟨-, rfl, h, k⟩ | ⟨-, rfl, h, k⟩ <;> intro i hi
  · by_cases q : i = 18
    · rw [q, k]; exact hx
    · rw [h i (by omega)]; exact own_ok0 i (by omega)
  · by_cases q : i = 14
    · rw [q, k]; exact hx
    · rw [h i (by omega)]; exact own_ok1 i (by omega)
theorem own_upd_ok {g : Nat → Int32} {n j : Nat} {v : Int32} (h : ∀ i, i < n → ¬ g i < 0 ∧ ¬ (255 : Int32) < g i) (hv : own_ok v) : ∀ i, i < n → ¬ own_upd g j v i < 0 ∧ ¬ (255 : Int32) < own_upd g j v i := by
  intro i hi
  unfold own_upd
  split
  · exact hv
  · exact h i hi
theorem own_map_eq {n : Nat} {g : Nat → Int32} {L : List Int32} (e : n = L.length) (h : ∀ i, i < n → g i = L.getD i 0) : (List.range n).map g = L := by
  apply List.ext_getElem
  · simp [e]
  · intro i h1 h2
    have : i < n := by simpa using h1
    simp [h i this, List.getD_eq_getElem?_getD, h2]
theorem own_map_ne {n : Nat} {g : Nat → Int32} {L : List Int32} {j : Nat} (hj : j < n) (h : ¬ g j = L.getD j 0) : ¬ (List.range n).map g = L := fun e => by
  apply h
  rw [← e]
  simp [List.getD_eq_getElem?_getD, hj]
theorem own_map_nl {n : Nat} {g : Nat → Int32} {L : List Int32} (h : ¬ n = L.length) : ¬ (List.range n).map g = L := fun e => h (by rw [← e]; simp)
/-- what is known of the constant's own list method -/
def own_R (P : Prop) (ds : List Int32) : Prop := (P ∧ ds = own_L1) ∨ (¬ P ∧ ds = own_L0)
theorem own_t1 {cs ds : List Int32} (h : cs = own_L0) : own_lb cs ds = 1 := by
  unfold own_lb
  by_cases q : cs = ds
  · rw [if_pos q]
  · rw [if_neg q, if_pos h]
theorem own_t2 {P : Prop} {cs ds : List Int32} (h : cs = own_L1) (R : own_R P ds) (hP : P) : own_lb cs ds = 1 := by
  rcases R with ⟨-, r⟩ | ⟨q, -⟩
  · unfold own_lb; rw [if_pos (h.trans r.symm)]
  · exact absurd hP q
theorem own_t3 {P : Prop} {cs ds : List Int32} (h : cs = own_L1) (R : own_R P ds) (hP : ¬ P) : own_lb cs ds = 0 := by
  rcases R with ⟨q, -⟩ | ⟨-, r⟩
  · exact absurd q hP
  · rw [h, r]; decide +kernel
theorem own_t4 {P : Prop} {cs ds : List Int32} (R : own_R P ds) (h0 : ¬ cs = own_L0) (h1 : ¬ cs = own_L1) : own_lb cs ds = 0 := by
  unfold own_lb
  rcases R with ⟨-, r⟩ | ⟨-, r⟩ <;> subst r
  · rw [if_neg h1, if_neg h0]
  · rw [if_neg h0, if_neg h0]
theorem own_t5 {P : Prop} {n : Nat} {g : Nat → Int32} {ds : List Int32} (R : own_R P ds) (h0 : ¬ n = 18) (h1 : ¬ n = 14) : own_lb ((List.range n).map g) ds = 0 := own_t4 R (own_map_nl h0) (own_map_nl h1)
theorem own_isB.l0 {w : Int32} {n : Nat} {g : Nat → Int32} (h : own_isB w n g) (hw : w = 0) : (List.range n).map g = own_L0 := by
  rcases h with ⟨-, rfl, h⟩ | ⟨q, -⟩
  · exact own_map_eq rfl h
  · exact absurd hw q
theorem own_isB.l1 {w : Int32} {n : Nat} {g : Nat → Int32} (h : own_isB w n g) (hw : ¬ w = 0) : (List.range n).map g = own_L1 := by
  rcases h with ⟨q, -⟩ | ⟨-, rfl, h⟩
  · exact absurd q hw
  · exact own_map_eq rfl h
/-- one place set to what it holds -/
theorem own_isB.upd {w : Int32} {n j : Nat} {g : Nat → Int32} {v : Int32} (h : own_isB w n g) (hv : v = g j) : own_isB w n (own_upd g j v) := by
  have : own_upd g j v = g := by
    funext i; unfold own_upd; split
    · next q => rw [q, hv]
    · rfl
  rw [this]; exact h
/-- one place set to something else -/
theorem own_isB.bad {w : Int32} {n j : Nat} {g : Nat → Int32} {v : Int32} (h : own_isB w n g) (hj : j < n) (hv : ¬ v = g j) : ¬ (List.range n).map (own_upd g j v) = own_L0 ∧ ¬ (List.range n).map (own_upd g j v) = own_L1 := by
  rcases h with ⟨-, rfl, h⟩ | ⟨-, rfl, h⟩
  · exact ⟨own_map_ne hj (by rw [own_upd_same, ← h j hj]; exact hv), own_map_nl (by decide)⟩
  · exact ⟨own_map_nl (by decide), own_map_ne hj (by rw [own_upd_same, ← h j hj]; exact hv)⟩

-- WHAT THE CASE'S WORDS SAY
/-- the four constants: their list methods, and that COMMUNITIES is none of the others -/
def own_W (Z : State) (h : Heap) (cl co cu ap : Addr) : Prop := ∃ l0 l1 : Addr, (Exa Z h cl "com/example/access_bindings/accessbindings/server/RestResource" ∧ Fld Z h cl "com/example/access_bindings/accessbindings/server/RestResource" "listMethod" "Ljava/lang/String;" (.ref l0)) ∧ (Exa Z h co "com/example/access_bindings/accessbindings/server/RestResource" ∧ Fld Z h co "com/example/access_bindings/accessbindings/server/RestResource" "listMethod" "Ljava/lang/String;" (.ref l1)) ∧
  (Exa Z h cu "com/example/access_bindings/accessbindings/server/RestResource" ∧ Fld Z h cu "com/example/access_bindings/accessbindings/server/RestResource" "listMethod" "Ljava/lang/String;" (.ref l0)) ∧ (Exa Z h ap "com/example/access_bindings/accessbindings/server/RestResource" ∧ Fld Z h ap "com/example/access_bindings/accessbindings/server/RestResource" "listMethod" "Ljava/lang/String;" (.ref l0)) ∧ own_Str Z h l0 own_L0 ∧ own_Str Z h l1 own_L1 ∧ cl ≠ co ∧ cu ≠ co ∧ ap ≠ co
theorem own_pick {Z : State} {h : Heap} {cl co cu ap rr : Addr} (W : own_W Z h cl co cu ap) (q : rr = cl ∨ rr = co ∨ rr = cu ∨ rr = ap) :
    ∃ (lm : Addr) (ds : List Int32), Exa Z h rr "com/example/access_bindings/accessbindings/server/RestResource" ∧ Fld Z h rr "com/example/access_bindings/accessbindings/server/RestResource" "listMethod" "Ljava/lang/String;" (.ref lm) ∧ own_Str Z h lm ds ∧ own_R (rr = co) ds := by
  obtain ⟨l0, l1, a1, a2, a3, a4, s0, s1, n1, n2, n3⟩ := W
  rcases q with rfl | rfl | rfl | rfl
  · exact ⟨l0, own_L0, a1.1, a1.2, s0, Or.inr ⟨n1, rfl⟩⟩
  · exact ⟨l1, own_L1, a2.1, a2.2, s1, Or.inl ⟨rfl, rfl⟩⟩
  · exact ⟨l0, own_L0, a3.1, a3.2, s0, Or.inr ⟨n2, rfl⟩⟩
  · exact ⟨l0, own_L0, a4.1, a4.2, s0, Or.inr ⟨n3, rfl⟩⟩
section OwnStart
variable {s : State} {args : Array Value} {t u : Term}
theorem own_eq_int {n : Int32} (h : (Cond.eq t (.int n)).value args s none s [] = some true) : t.eval args s none [] s = some (.int n) := by
  obtain ⟨x, y, e1, e2, k1, k2⟩ := cmp_v (Or.inl h)
  cases (Term.int_eval (args := args) (first := s) (o := none) (idx := []) (s := s) n).symm.trans e2
  obtain ⟨z, rfl⟩ := k2
  rw [e1]
  simp [Cond.value, e1, e2] at h
  rw [h]
theorem own_eq_ref {x : Addr} (h : (Cond.eq t u).value args s none s [] = some true) (hu : u.eval args s none [] s = some (.ref x)) : t.eval args s none [] s = some (.ref x) := by
  obtain ⟨v, y, e1, e2, k1, k2⟩ := cmp_v (Or.inl h)
  cases hu.symm.trans e2
  have := gotT (eq_R e1 e2 k2.2 rfl) h
  rw [e1, this]
theorem own_len_at {x : Addr} {n : Int32} {c : Cell} (h : (Term.length t).eval args s none [] s = some (.int n)) (ht : t.eval args s none [] s = some (.ref x)) (hc : s.heap[x]? = some c) : c.slots.size < 2147483648 ∧ c.slots.size.toInt32 = n := by
  simp only [Term.eval, Option.bind_eq_bind, ht] at h
  obtain ⟨cell, hcell, h⟩ := Option.bind_eq_some_iff.mp (by simpa using h)
  cases hc.symm.trans (State.arrayAt?_spec hcell).1
  by_cases hn : c.slots.size < 2147483648
  · rw [if_pos hn] at h; cases h; exact ⟨hn, rfl⟩
  · rw [if_neg hn] at h; cases h
theorem own_size {c : Cell} {n : Int32} {k : Nat} (h : c.slots.size < 2147483648 ∧ c.slots.size.toInt32 = n) (e : n.toInt = k) : c.slots.size = k := by
  have q := len_toInt (n := c.slots.size) h.1
  rw [h.2, e] at q
  omega
theorem own_el {c : Cell} {j : Int32} {i : Nat} {v w : Value} (h : c.slots[j.toNatClampNeg]? = some v) (e : j.toNatClampNeg = i) (q : v = w) : c.slots[i]? = some w := by rw [← e, ← q]; exact h
theorem own_Arv_of {Z : State} {t : Addr} {c : Cell} {cs : List Int32} (A : Arr Z Z.heap t c .byte) (hl : cs.length ≤ 4000) (hs : c.slots.size = cs.length) (H : ∀ i, i < cs.length → c.slots[i]? = some (((cs.map StrChars.lo8).map Value.int).getD i (.int 0)))
    (hf : ∀ i, i < cs.length → fits .byte (((cs.map StrChars.lo8).map Value.int).getD i (.int 0)) = true) : Arv Z Z.heap t c.cls .byte (Int32.ofNat cs.length) ((cs.map StrChars.lo8).map Value.int) (.int 0) := by
  have k1 : (Int32.ofNat cs.length).toInt = cs.length := Int32.toInt_ofNat_of_lt (by omega)
  exact ⟨c, A, rfl, by simp only [Int32.toNatClampNeg, k1]; simp [hs], by rw [Int32.lt_iff_toInt_lt, k1]; simp, fun i hi => H i (hs ▸ hi), fun i hi => hf i (hs ▸ hi)⟩
end OwnStart

-- SMALL THINGS ON THE LAW'S OWN NUMBERS
theorem own_c8 {x z : Int32} (h : x = ((z &&& (255 : Int32)).toUInt32.toUInt16.toUInt32.toInt32)) : nar .char x = x ∧ own_ok x := by
  have hw : (z &&& (255 : Int32)).toUInt32.toNat ≤ 255 := by
    show (z.toBitVec &&& 255#32).toNat ≤ 255
    rw [BitVec.toNat_and]
    exact Nat.and_le_right
  obtain ⟨u, hu⟩ : ∃ u : UInt16, u = (z &&& (255 : Int32)).toUInt32.toUInt16 := ⟨_, rfl⟩
  have h1 : u.toNat ≤ 255 := by rw [hu, UInt32.toNat_toUInt16]; exact Nat.le_trans (Nat.mod_le _ _) hw
  rw [← hu] at h
  have hx : x.toInt = u.toNat := by
    rw [h]
    show ((u.toUInt32).toBitVec).toInt = _
    have hm : (u.toUInt32).toBitVec.toNat = u.toNat := by
      show (u.toUInt32).toNat = _
      simp
    rw [BitVec.toInt_eq_toNat_cond, hm, if_pos (by omega)]
  refine ⟨by rw [h]; simp [nar], ?_, ?_⟩
  · rw [Int32.lt_iff_toInt_lt, hx, show (0 : Int32).toInt = 0 from by decide]; omega
  · rw [Int32.lt_iff_toInt_lt, hx, show (255 : Int32).toInt = 255 from by decide]; omega
theorem own_cok {x z : Int32} (h : x = ((z &&& (255 : Int32)).toUInt32.toUInt16.toUInt32.toInt32)) : own_ok (nar .char x) := by rw [(own_c8 h).1]; exact (own_c8 h).2
theorem own_n32 {n : Nat} (hn : 0 < n ∧ n ≤ 19) : (Int32.ofNat n).toInt = n := Int32.toInt_ofNat_of_lt (by omega)
theorem own_nz {n : Nat} (hn : 0 < n ∧ n ≤ 19) : Int32.ofNat n ≠ 0 := fun q => by
  have := own_n32 hn
  rw [q, show (0 : Int32).toInt = 0 from by decide] at this
  omega
theorem own_po {po z : Int32} {n : Nat} (hn : 0 < n ∧ n ≤ 19) (h : po = ((z &&& (2147483647 : Int32)) % (Int32.ofNat n))) : ¬ po < 0 ∧ po.toNatClampNeg < n := by
  have hz : 0 ≤ (z &&& (2147483647 : Int32)).toInt := by
    have q : (z.toBitVec &&& 2147483647#32).toNat ≤ 2147483647 := by rw [BitVec.toNat_and]; exact Nat.and_le_right
    show 0 ≤ (z.toBitVec &&& 2147483647#32).toInt
    rw [BitVec.toInt_eq_toNat_cond, if_pos (by omega)]
    omega
  have k := own_n32 hn
  obtain ⟨r1, r2, -⟩ := (c_iremV (z &&& (2147483647 : Int32)) (Int32.ofNat n)).1 hz (by omega)
  rw [← h] at r1 r2
  refine ⟨by rw [Int32.lt_iff_toInt_lt, show (0 : Int32).toInt = 0 from by decide]; omega, ?_⟩
  simp only [Int32.toNatClampNeg]
  omega
theorem own_z_ok {n : Nat} : ∀ i, i < n → ¬ (fun _ => (0 : Int32) : Nat → Int32) i < 0 ∧ ¬ (255 : Int32) < (fun _ => (0 : Int32) : Nat → Int32) i := fun i _ => by
  show ¬ (0 : Int32) < 0 ∧ ¬ (255 : Int32) < 0
  decide
theorem own_isX.nl {w x : Int32} {n : Nat} {g : Nat → Int32} (h : own_isX w x n g) : ¬ n = 18 ∧ ¬ n = 14 := by
  rcases h with ⟨-, rfl, -⟩ | ⟨-, rfl, -⟩ <;> omega

set_option maxRecDepth 65536 in
set_option maxHeartbeats 4000000 in
theorem own_start {s : State} {args : Array Value} (hn : narrow_1.value args s none s [] = some true) (hw : ∀ d ∈ tables_1, d.before args s = true) : ∃ cl co cu ap : Addr, (Sta s s.heap "com/example/access_bindings/accessbindings/server/RestResource" "CLOUDS" "Lcom/example/access_bindings/accessbindings/server/RestResource;" (.ref cl) ∧ Sta s s.heap "com/example/access_bindings/accessbindings/server/RestResource" "COMMUNITIES" "Lcom/example/access_bindings/accessbindings/server/RestResource;" (.ref co) ∧ Sta s s.heap "com/example/access_bindings/accessbindings/server/RestResource" "CLUSTERS" "Lcom/example/access_bindings/accessbindings/server/RestResource;" (.ref cu) ∧ Sta s s.heap "com/example/access_bindings/accessbindings/server/RestResource" "APPLICATIONS" "Lcom/example/access_bindings/accessbindings/server/RestResource;" (.ref ap)) ∧ own_W s s.heap cl co cu ap := by
  obtain ⟨n0, hn⟩ := and_e hn
  obtain ⟨n1, hn⟩ := and_e hn
  obtain ⟨n2, hn⟩ := and_e hn
  obtain ⟨n3, hn⟩ := and_e hn
  obtain ⟨n4, hn⟩ := and_e hn
  obtain ⟨n5, hn⟩ := and_e hn
  obtain ⟨n6, hn⟩ := and_e hn
  obtain ⟨n7, hn⟩ := and_e hn
  obtain ⟨n8, hn⟩ := and_e hn
  obtain ⟨n9, hn⟩ := and_e hn
  obtain ⟨n10, hn⟩ := and_e hn
  obtain ⟨n11, hn⟩ := and_e hn
  obtain ⟨n12, hn⟩ := and_e hn
  obtain ⟨n13, hn⟩ := and_e hn
  obtain ⟨n14, hn⟩ := and_e hn
  obtain ⟨n15, hn⟩ := and_e hn
  obtain ⟨n16, hn⟩ := and_e hn
  obtain ⟨n17, hn⟩ := and_e hn
  obtain ⟨n18, hn⟩ := and_e hn
  obtain ⟨n19, hn⟩ := and_e hn
  obtain ⟨n20, hn⟩ := and_e hn
  obtain ⟨n21, hn⟩ := and_e hn
  obtain ⟨n22, hn⟩ := and_e hn
  obtain ⟨n23, hn⟩ := and_e hn
  obtain ⟨n24, hn⟩ := and_e hn
  obtain ⟨n25, hn⟩ := and_e hn
  obtain ⟨n26, hn⟩ := and_e hn
  obtain ⟨n27, hn⟩ := and_e hn
  obtain ⟨n28, hn⟩ := and_e hn
  obtain ⟨n29, hn⟩ := and_e hn
  obtain ⟨n30, hn⟩ := and_e hn
  obtain ⟨n31, hn⟩ := and_e hn
  obtain ⟨n32, hn⟩ := and_e hn
  obtain ⟨n33, hn⟩ := and_e hn
  obtain ⟨n34, hn⟩ := and_e hn
  obtain ⟨n35, hn⟩ := and_e hn
  obtain ⟨n36, hn⟩ := and_e hn
  obtain ⟨n37, hn⟩ := and_e hn
  obtain ⟨n38, hn⟩ := and_e hn
  obtain ⟨n39, hn⟩ := and_e hn
  obtain ⟨n40, hn⟩ := and_e hn
  obtain ⟨n41, hn⟩ := and_e hn
  obtain ⟨n42, hn⟩ := and_e hn
  obtain ⟨n43, hn⟩ := and_e hn
  obtain ⟨n44, hn⟩ := and_e hn
  obtain ⟨n45, hn⟩ := and_e hn
  obtain ⟨n46, hn⟩ := and_e hn
  obtain ⟨n47, hn⟩ := and_e hn
  obtain ⟨n48, hn⟩ := and_e hn
  have n49 := hn
  obtain ⟨cl, e_cl⟩ := exa_v n0
  have X_cl := Exa.start e_cl n0
  have S_cl := Sta.start e_cl (Or.inr ⟨(hw _ (List.mem_of_getElem? (i := 5) rfl)), (hw _ (List.mem_of_getElem? (i := 6) rfl))⟩)
  have O_cl := Fld.start ((fld_at e_cl).symm.trans (own_eq_int n16))
  obtain ⟨co, e_co⟩ := exa_v n9
  have X_co := Exa.start e_co n9
  have S_co := Sta.start e_co (Or.inr ⟨(hw _ (List.mem_of_getElem? (i := 5) rfl)), (hw _ (List.mem_of_getElem? (i := 69) rfl))⟩)
  have O_co := Fld.start ((fld_at e_co).symm.trans (own_eq_int n15))
  obtain ⟨cu, e_cu⟩ := exa_v n7
  have X_cu := Exa.start e_cu n7
  have S_cu := Sta.start e_cu (Or.inr ⟨(hw _ (List.mem_of_getElem? (i := 5) rfl)), (hw _ (List.mem_of_getElem? (i := 67) rfl))⟩)
  have O_cu := Fld.start ((fld_at e_cu).symm.trans (own_eq_int n17))
  obtain ⟨ap, e_ap⟩ := exa_v n5
  have X_ap := Exa.start e_ap n5
  have S_ap := Sta.start e_ap (Or.inr ⟨(hw _ (List.mem_of_getElem? (i := 5) rfl)), (hw _ (List.mem_of_getElem? (i := 62) rfl))⟩)
  have O_ap := Fld.start ((fld_at e_ap).symm.trans (own_eq_int n14))
  obtain ⟨l_cl, f_cl⟩ := exa_v n1
  have Y_cl := Exa.start f_cl n1
  have L_cl := Fld.start ((fld_at e_cl).symm.trans f_cl)
  have C_cl := Fld.start ((fld_at f_cl).symm.trans (own_eq_int n2))
  obtain ⟨t_cl, g_cl⟩ := arr_v n3
  obtain ⟨c_cl, A_cl⟩ := Arr.start g_cl n3
  have V_cl := Fld.start ((fld_at f_cl).symm.trans g_cl)
  have Z_cl := own_size (k := 18) (own_len_at (own_eq_int n4) g_cl A_cl.1) (by decide)
  have B_cl := own_Arv_of (cs := own_L0) A_cl (by decide) Z_cl (fun i hi => by
    match i, hi with
    | 0, _ => exact own_el (elem_in (own_eq_int n18) g_cl (Term.int_eval 0) A_cl.1).2 (by decide) (by decide +kernel)
    | 1, _ => exact own_el (elem_in (own_eq_int n19) g_cl (Term.int_eval 1) A_cl.1).2 (by decide) (by decide +kernel)
    | 2, _ => exact own_el (elem_in (own_eq_int n20) g_cl (Term.int_eval 2) A_cl.1).2 (by decide) (by decide +kernel)
    | 3, _ => exact own_el (elem_in (own_eq_int n21) g_cl (Term.int_eval 3) A_cl.1).2 (by decide) (by decide +kernel)
    | 4, _ => exact own_el (elem_in (own_eq_int n22) g_cl (Term.int_eval 4) A_cl.1).2 (by decide) (by decide +kernel)
    | 5, _ => exact own_el (elem_in (own_eq_int n23) g_cl (Term.int_eval 5) A_cl.1).2 (by decide) (by decide +kernel)
    | 6, _ => exact own_el (elem_in (own_eq_int n24) g_cl (Term.int_eval 6) A_cl.1).2 (by decide) (by decide +kernel)
    | 7, _ => exact own_el (elem_in (own_eq_int n25) g_cl (Term.int_eval 7) A_cl.1).2 (by decide) (by decide +kernel)
    | 8, _ => exact own_el (elem_in (own_eq_int n26) g_cl (Term.int_eval 8) A_cl.1).2 (by decide) (by decide +kernel)
    | 9, _ => exact own_el (elem_in (own_eq_int n27) g_cl (Term.int_eval 9) A_cl.1).2 (by decide) (by decide +kernel)
    | 10, _ => exact own_el (elem_in (own_eq_int n28) g_cl (Term.int_eval 10) A_cl.1).2 (by decide) (by decide +kernel)
    | 11, _ => exact own_el (elem_in (own_eq_int n29) g_cl (Term.int_eval 11) A_cl.1).2 (by decide) (by decide +kernel)
    | 12, _ => exact own_el (elem_in (own_eq_int n30) g_cl (Term.int_eval 12) A_cl.1).2 (by decide) (by decide +kernel)
    | 13, _ => exact own_el (elem_in (own_eq_int n31) g_cl (Term.int_eval 13) A_cl.1).2 (by decide) (by decide +kernel)
    | 14, _ => exact own_el (elem_in (own_eq_int n32) g_cl (Term.int_eval 14) A_cl.1).2 (by decide) (by decide +kernel)
    | 15, _ => exact own_el (elem_in (own_eq_int n33) g_cl (Term.int_eval 15) A_cl.1).2 (by decide) (by decide +kernel)
    | 16, _ => exact own_el (elem_in (own_eq_int n34) g_cl (Term.int_eval 16) A_cl.1).2 (by decide) (by decide +kernel)
    | 17, _ => exact own_el (elem_in (own_eq_int n35) g_cl (Term.int_eval 17) A_cl.1).2 (by decide) (by decide +kernel)
    | i + 18, hi => exact absurd (show i + 18 < 18 from hi) (by omega)) (by decide +kernel)
  have T_cl : own_Str s s.heap l_cl own_L0 := ⟨t_cl, _, Y_cl, C_cl, V_cl, B_cl, by decide +kernel, by decide +kernel⟩
  obtain ⟨l_co, f_co⟩ := exa_v n10
  have Y_co := Exa.start f_co n10
  have L_co := Fld.start ((fld_at e_co).symm.trans f_co)
  have C_co := Fld.start ((fld_at f_co).symm.trans (own_eq_int n11))
  obtain ⟨t_co, g_co⟩ := arr_v n12
  obtain ⟨c_co, A_co⟩ := Arr.start g_co n12
  have V_co := Fld.start ((fld_at f_co).symm.trans g_co)
  have Z_co := own_size (k := 14) (own_len_at (own_eq_int n13) g_co A_co.1) (by decide)
  have B_co := own_Arv_of (cs := own_L1) A_co (by decide) Z_co (fun i hi => by
    match i, hi with
    | 0, _ => exact own_el (elem_in (own_eq_int n36) g_co (Term.int_eval 0) A_co.1).2 (by decide) (by decide +kernel)
    | 1, _ => exact own_el (elem_in (own_eq_int n37) g_co (Term.int_eval 1) A_co.1).2 (by decide) (by decide +kernel)
    | 2, _ => exact own_el (elem_in (own_eq_int n38) g_co (Term.int_eval 2) A_co.1).2 (by decide) (by decide +kernel)
    | 3, _ => exact own_el (elem_in (own_eq_int n39) g_co (Term.int_eval 3) A_co.1).2 (by decide) (by decide +kernel)
    | 4, _ => exact own_el (elem_in (own_eq_int n40) g_co (Term.int_eval 4) A_co.1).2 (by decide) (by decide +kernel)
    | 5, _ => exact own_el (elem_in (own_eq_int n41) g_co (Term.int_eval 5) A_co.1).2 (by decide) (by decide +kernel)
    | 6, _ => exact own_el (elem_in (own_eq_int n42) g_co (Term.int_eval 6) A_co.1).2 (by decide) (by decide +kernel)
    | 7, _ => exact own_el (elem_in (own_eq_int n43) g_co (Term.int_eval 7) A_co.1).2 (by decide) (by decide +kernel)
    | 8, _ => exact own_el (elem_in (own_eq_int n44) g_co (Term.int_eval 8) A_co.1).2 (by decide) (by decide +kernel)
    | 9, _ => exact own_el (elem_in (own_eq_int n45) g_co (Term.int_eval 9) A_co.1).2 (by decide) (by decide +kernel)
    | 10, _ => exact own_el (elem_in (own_eq_int n46) g_co (Term.int_eval 10) A_co.1).2 (by decide) (by decide +kernel)
    | 11, _ => exact own_el (elem_in (own_eq_int n47) g_co (Term.int_eval 11) A_co.1).2 (by decide) (by decide +kernel)
    | 12, _ => exact own_el (elem_in (own_eq_int n48) g_co (Term.int_eval 12) A_co.1).2 (by decide) (by decide +kernel)
    | 13, _ => exact own_el (elem_in (own_eq_int n49) g_co (Term.int_eval 13) A_co.1).2 (by decide) (by decide +kernel)
    | i + 14, hi => exact absurd (show i + 14 < 14 from hi) (by omega)) (by decide +kernel)
  have T_co : own_Str s s.heap l_co own_L1 := ⟨t_co, _, Y_co, C_co, V_co, B_co, by decide +kernel, by decide +kernel⟩
  have L_cu := Fld.start ((fld_at e_cu).symm.trans (own_eq_ref n8 f_cl))
  have L_ap := Fld.start ((fld_at e_ap).symm.trans (own_eq_ref n6 f_cl))
  exact ⟨cl, co, cu, ap, ⟨S_cl, S_co, S_cu, S_ap⟩, l_cl, l_co, ⟨X_cl, L_cl⟩, ⟨X_co, L_co⟩, ⟨X_cu, L_cu⟩, ⟨X_ap, L_ap⟩, T_cl, T_co, Fld.ne O_cl O_co (by decide), Fld.ne O_cu O_co (by decide), Fld.ne O_ap O_co (by decide)⟩
theorem d1_0 : decode method_4_code 0 = .ok (.iload_n 0, 1) := by decide +kernel
theorem d1_1 : decode method_4_code 1 = .ok (.iconst 3, 1) := by decide +kernel
theorem d1_2 : decode method_4_code 2 = .ok (.iand, 1) := by decide +kernel
theorem d1_3 : decode method_4_code 3 = .ok (.istore_n 1, 1) := by decide +kernel
theorem d1_4 : decode method_4_code 4 = .ok (.iload_n 1, 1) := by decide +kernel
theorem d1_5 : decode method_4_code 5 = .ok (.ifCond .ne 7, 3) := by decide +kernel
theorem d1_8 : decode method_4_code 8 = .ok (.getstatic 7, 3) := by decide +kernel
theorem d1_11 : decode method_4_code 11 = .ok (.areturn, 1) := by decide +kernel
theorem d1_12 : decode method_4_code 12 = .ok (.iload_n 1, 1) := by decide +kernel
theorem d1_13 : decode method_4_code 13 = .ok (.iconst 1, 1) := by decide +kernel
theorem d1_14 : decode method_4_code 14 = .ok (.if_icmp .ne 7, 3) := by decide +kernel
theorem d1_17 : decode method_4_code 17 = .ok (.getstatic 13, 3) := by decide +kernel
theorem d1_20 : decode method_4_code 20 = .ok (.areturn, 1) := by decide +kernel
theorem d1_21 : decode method_4_code 21 = .ok (.iload_n 1, 1) := by decide +kernel
theorem d1_22 : decode method_4_code 22 = .ok (.iconst 2, 1) := by decide +kernel
theorem d1_23 : decode method_4_code 23 = .ok (.if_icmp .ne 7, 3) := by decide +kernel
theorem d1_26 : decode method_4_code 26 = .ok (.getstatic 16, 3) := by decide +kernel
theorem d1_29 : decode method_4_code 29 = .ok (.areturn, 1) := by decide +kernel
theorem d1_30 : decode method_4_code 30 = .ok (.getstatic 19, 3) := by decide +kernel
theorem d1_33 : decode method_4_code 33 = .ok (.areturn, 1) := by decide +kernel
theorem own_pn0 : plainName "com/example/access_bindings/accessbindings/server/RestResourceListsBindingsAtPinLaw" = true := by first | (simp [plainName, overriddenIn]; done) | decide +kernel
set_option maxHeartbeats 40000000 in
theorem own_ef_rm1 (m : MethodId) (x0 : Int32) : entryFrame m #[(.int x0)] 2 = mkF m 0 #[.val (.int x0), .unset] [] := by first | (simp [entryFrame, mkF, argsToLocals, Value.category]; done) | rfl
def Q1 (Z : State) (p0 : Int32) (cl : Addr) (co : Addr) (cu : Addr) (ap : Addr) (h0 : Heap) (n0 : Nat) (v : Option Value) (h : Heap) (L : List Loc) : Prop := ∃ rr : Addr, v = some (.ref rr) ∧ Fr n0 L ∧ h = h0 ∧ (rr = cl ∨ rr = co ∨ rr = cu ∨ rr = ap)
set_option maxRecDepth 65536 in
set_option maxHeartbeats 40000000 in
theorem rm1 (l : Launch) (Z : State) (aZ : Array Value) (hw : ∀ d ∈ tables_1, d.before aZ Z = true) (ws : List Jvm.Cond) (p0 : Int32) (cl : Addr) (co : Addr) (cu : Addr) (ap : Addr) (h0 : Heap) (n0 : Nat) (Z0 : n0 ≤ h0.size) (pf0 : Sta Z h0 "com/example/access_bindings/accessbindings/server/RestResource" "CLOUDS" "Lcom/example/access_bindings/accessbindings/server/RestResource;" (.ref cl)) (pf1 : Sta Z h0 "com/example/access_bindings/accessbindings/server/RestResource" "COMMUNITIES" "Lcom/example/access_bindings/accessbindings/server/RestResource;" (.ref co)) (pf2 : Sta Z h0 "com/example/access_bindings/accessbindings/server/RestResource" "CLUSTERS" "Lcom/example/access_bindings/accessbindings/server/RestResource;" (.ref cu)) (pf3 : Sta Z h0 "com/example/access_bindings/accessbindings/server/RestResource" "APPLICATIONS" "Lcom/example/access_bindings/accessbindings/server/RestResource;" (.ref ap)) :
    MetFree l (⟨"com/example/access_bindings/accessbindings/server/RestResourceListsBindingsAtPinLaw", "constant", "(I)Lcom/example/access_bindings/accessbindings/server/RestResource;"⟩ : MethodName) (head1 (Jvm.Cond.code (⟨"com/example/access_bindings/accessbindings/server/RestResourceListsBindingsAtPinLaw", "constant", "(I)Lcom/example/access_bindings/accessbindings/server/RestResource;"⟩ : MethodName) method_4_code 2 (some (.object "com/example/access_bindings/accessbindings/server/RestResource")) :: ws) ({ frames := 0, cells := 0, slots := 0, locals := 0 } : Room)) (fun a U => a = #[(.int p0)] ∧ Z.Warmed39 U.vm ∧ U.heap = h0) (fun _ _ _ _ _ => True) (fun _ U o U' => ∃ v L, o = .returned v ∧ Q1 Z p0 cl co cu ap h0 n0 v U'.heap L ∧ FrameEnd U o U' L ({ frames := 0, cells := 0, slots := 0, locals := 0 } : Room).cells ({ frames := 0, cells := 0, slots := 0, locals := 0 } : Room).slots) := by
  refine MetFree.of_bodySF (plainFor_of_name own_pn0) hisR ?_
  intro p e s m args below meth c s₁ Bd hml0 hP hK
  obtain ⟨rfl, hZ, hh⟩ := hP
  have hx := Bd.exec
  have hby := Bd.bytes
  have hml : c.maxLocals = 2 := hml0
  have hown : s.vm.findClass "com/example/access_bindings/accessbindings/server/RestResourceListsBindingsAtPinLaw" = some m.cls := findClass_of_methodNamed Bd.named
  have hnm := (name_of_methodNamed Bd.named Bd.method).1
  have X0 : Stand p l e ({ frames := 0, cells := 0, slots := 0, locals := 0 } : Room) s m #[(.int p0)] below meth c s₁ [] 0 0 := Stand.of_body Bd
  have e0 : s₁.heap = h0 := by rw [← hh, Bd.state]; rfl
  have N0 := Fr.nil n0
  refine own_go (S' := s₁.setTop (mkF m 0 #[.val (.int p0), .unset] [])) (fun tt0 kk0 => castTop (own_ef_rm1 m p0) kk0) ?_
  refine own_go (S' := s₁.setTop (mkF m 5 #[.val (.int p0), .val (.int (p0 &&& (3 : Int32)))] [(.int (p0 &&& (3 : Int32)))])) (fun target kt => ?_) ?_
  · skip
    show Steps p.tables e below (s₁.setTop (mkF m 0 #[.val (.int p0), .unset] [])) _
    refine XS.iloadN X0.here hx rfl (hb hby d1_0) rfl ?_
    show Steps p.tables e below (s₁.setTop (mkF m 1 #[.val (.int p0), .unset] [(.int p0)])) _
    refine XS.iconst X0.here hx rfl (hb hby d1_1) ?_
    show Steps p.tables e below (s₁.setTop (mkF m 2 #[.val (.int p0), .unset] [(.int (3 : Int32)), (.int p0)])) _
    refine XS.iand X0.here hx rfl (hb hby d1_2) rfl ?_
    show Steps p.tables e below (s₁.setTop (mkF m 3 #[.val (.int p0), .unset] [(.int (p0 &&& (3 : Int32)))])) _
    refine XS.istoreN X0.here hx rfl (hb hby d1_3) rfl (l' := #[.val (.int p0), .val (.int (p0 &&& (3 : Int32)))]) rfl ?_
    show Steps p.tables e below (s₁.setTop (mkF m 4 #[.val (.int p0), .val (.int (p0 &&& (3 : Int32)))] [])) _
    refine XS.iloadN X0.here hx rfl (hb hby d1_4) rfl ?_
    exact kt
  by_cases hc5 : (p0 &&& (3 : Int32)) = (0 : Int32)
  · skip
    refine own_go (S' := s₁.setTop (mkF m 8 #[.val (.int p0), .val (.int (p0 &&& (3 : Int32)))] [])) (fun target kt => ?_) ?_
    · skip
      show Steps p.tables e below (s₁.setTop (mkF m 5 #[.val (.int p0), .val (.int (p0 &&& (3 : Int32)))] [(.int (p0 &&& (3 : Int32)))])) _
      refine XS.ifNo X0.here hx rfl (hb hby d1_5) rfl ((if0 _ _).trans (teq hc5).2) ?_
      exact kt
    obtain ⟨T1, X1, e1, st1⟩ := getS2 X0 hx hZ hown (host := "") (Or.inl (hw _ (List.mem_of_getElem? (i := 4) rfl))) Via.refl e0 pf0 (g := (mkF m 8 #[.val (.int p0), .val (.int (p0 &&& (3 : Int32)))] [])) rfl (hb hby d1_8)
    refine own_go (S' := T1.setTop (mkF m 11 #[.val (.int p0), .val (.int (p0 &&& (3 : Int32)))] [(.ref cl)])) st1 ?_
    obtain ⟨fs, hr, hrun, hended, hW, hsame⟩ := X1.leave (v := some (.ref cl)) (fun h => by rw [Bd.returns] at h; cases h)
    refine ⟨_, _, ?_, hrun, hended, _, _, rfl, ?_, ⟨_, rfl⟩, hW, hsame.mono (by decide) (by decide)⟩
    · exact retA X1 hx Bd.returns rfl (hb hby d1_11) rfl hr
    · show Q1 Z p0 cl co cu ap h0 n0 _ T1.heap _
      rw [e1]
      exact ⟨cl, rfl, N0, rfl, Or.inl rfl⟩
  · skip
    refine own_go (S' := s₁.setTop (mkF m 14 #[.val (.int p0), .val (.int (p0 &&& (3 : Int32)))] [(.int (1 : Int32)), (.int (p0 &&& (3 : Int32)))])) (fun target kt => ?_) ?_
    · skip
      show Steps p.tables e below (s₁.setTop (mkF m 5 #[.val (.int p0), .val (.int (p0 &&& (3 : Int32)))] [(.int (p0 &&& (3 : Int32)))])) _
      refine XS.ifYes X0.here hx rfl (pc0 := 5) (pc' := 12) rfl (hb hby d1_5) rfl ((if0 _ _).trans (feq hc5).2) (by decide) (by decide) ?_
      show Steps p.tables e below (s₁.setTop (mkF m 12 #[.val (.int p0), .val (.int (p0 &&& (3 : Int32)))] [])) _
      refine XS.iloadN X0.here hx rfl (hb hby d1_12) rfl ?_
      show Steps p.tables e below (s₁.setTop (mkF m 13 #[.val (.int p0), .val (.int (p0 &&& (3 : Int32)))] [(.int (p0 &&& (3 : Int32)))])) _
      refine XS.iconst X0.here hx rfl (hb hby d1_13) ?_
      exact kt
    by_cases hc14 : (p0 &&& (3 : Int32)) = (1 : Int32)
    · skip
      refine own_go (S' := s₁.setTop (mkF m 17 #[.val (.int p0), .val (.int (p0 &&& (3 : Int32)))] [])) (fun target kt => ?_) ?_
      · skip
        show Steps p.tables e below (s₁.setTop (mkF m 14 #[.val (.int p0), .val (.int (p0 &&& (3 : Int32)))] [(.int (1 : Int32)), (.int (p0 &&& (3 : Int32)))])) _
        refine XS.icmpNo X0.here hx rfl (hb hby d1_14) rfl (teq hc14).2 ?_
        exact kt
      obtain ⟨T2, X2, e2, st2⟩ := getS2 X0 hx hZ hown (host := "") (Or.inl (hw _ (List.mem_of_getElem? (i := 68) rfl))) Via.refl e0 pf1 (g := (mkF m 17 #[.val (.int p0), .val (.int (p0 &&& (3 : Int32)))] [])) rfl (hb hby d1_17)
      refine own_go (S' := T2.setTop (mkF m 20 #[.val (.int p0), .val (.int (p0 &&& (3 : Int32)))] [(.ref co)])) st2 ?_
      obtain ⟨fs, hr, hrun, hended, hW, hsame⟩ := X2.leave (v := some (.ref co)) (fun h => by rw [Bd.returns] at h; cases h)
      refine ⟨_, _, ?_, hrun, hended, _, _, rfl, ?_, ⟨_, rfl⟩, hW, hsame.mono (by decide) (by decide)⟩
      · exact retA X2 hx Bd.returns rfl (hb hby d1_20) rfl hr
      · show Q1 Z p0 cl co cu ap h0 n0 _ T2.heap _
        rw [e2]
        exact ⟨co, rfl, N0, rfl, Or.inr (Or.inl rfl)⟩
    · skip
      refine own_go (S' := s₁.setTop (mkF m 23 #[.val (.int p0), .val (.int (p0 &&& (3 : Int32)))] [(.int (2 : Int32)), (.int (p0 &&& (3 : Int32)))])) (fun target kt => ?_) ?_
      · skip
        show Steps p.tables e below (s₁.setTop (mkF m 14 #[.val (.int p0), .val (.int (p0 &&& (3 : Int32)))] [(.int (1 : Int32)), (.int (p0 &&& (3 : Int32)))])) _
        refine XS.icmpYes X0.here hx rfl (pc0 := 14) (pc' := 21) rfl (hb hby d1_14) rfl (feq hc14).2 (by decide) (by decide) ?_
        show Steps p.tables e below (s₁.setTop (mkF m 21 #[.val (.int p0), .val (.int (p0 &&& (3 : Int32)))] [])) _
        refine XS.iloadN X0.here hx rfl (hb hby d1_21) rfl ?_
        show Steps p.tables e below (s₁.setTop (mkF m 22 #[.val (.int p0), .val (.int (p0 &&& (3 : Int32)))] [(.int (p0 &&& (3 : Int32)))])) _
        refine XS.iconst X0.here hx rfl (hb hby d1_22) ?_
        exact kt
      by_cases hc23 : (p0 &&& (3 : Int32)) = (2 : Int32)
      · skip
        refine own_go (S' := s₁.setTop (mkF m 26 #[.val (.int p0), .val (.int (p0 &&& (3 : Int32)))] [])) (fun target kt => ?_) ?_
        · skip
          show Steps p.tables e below (s₁.setTop (mkF m 23 #[.val (.int p0), .val (.int (p0 &&& (3 : Int32)))] [(.int (2 : Int32)), (.int (p0 &&& (3 : Int32)))])) _
          refine XS.icmpNo X0.here hx rfl (hb hby d1_23) rfl (teq hc23).2 ?_
          exact kt
        obtain ⟨T3, X3, e3, st3⟩ := getS2 X0 hx hZ hown (host := "") (Or.inl (hw _ (List.mem_of_getElem? (i := 66) rfl))) Via.refl e0 pf2 (g := (mkF m 26 #[.val (.int p0), .val (.int (p0 &&& (3 : Int32)))] [])) rfl (hb hby d1_26)
        refine own_go (S' := T3.setTop (mkF m 29 #[.val (.int p0), .val (.int (p0 &&& (3 : Int32)))] [(.ref cu)])) st3 ?_
        obtain ⟨fs, hr, hrun, hended, hW, hsame⟩ := X3.leave (v := some (.ref cu)) (fun h => by rw [Bd.returns] at h; cases h)
        refine ⟨_, _, ?_, hrun, hended, _, _, rfl, ?_, ⟨_, rfl⟩, hW, hsame.mono (by decide) (by decide)⟩
        · exact retA X3 hx Bd.returns rfl (hb hby d1_29) rfl hr
        · show Q1 Z p0 cl co cu ap h0 n0 _ T3.heap _
          rw [e3]
          exact ⟨cu, rfl, N0, rfl, Or.inr (Or.inr (Or.inl rfl))⟩
      · skip
        refine own_go (S' := s₁.setTop (mkF m 30 #[.val (.int p0), .val (.int (p0 &&& (3 : Int32)))] [])) (fun target kt => ?_) ?_
        · skip
          show Steps p.tables e below (s₁.setTop (mkF m 23 #[.val (.int p0), .val (.int (p0 &&& (3 : Int32)))] [(.int (2 : Int32)), (.int (p0 &&& (3 : Int32)))])) _
          refine XS.icmpYes X0.here hx rfl (pc0 := 23) (pc' := 30) rfl (hb hby d1_23) rfl (feq hc23).2 (by decide) (by decide) ?_
          exact kt
        obtain ⟨T4, X4, e4, st4⟩ := getS2 X0 hx hZ hown (host := "") (Or.inl (hw _ (List.mem_of_getElem? (i := 61) rfl))) Via.refl e0 pf3 (g := (mkF m 30 #[.val (.int p0), .val (.int (p0 &&& (3 : Int32)))] [])) rfl (hb hby d1_30)
        refine own_go (S' := T4.setTop (mkF m 33 #[.val (.int p0), .val (.int (p0 &&& (3 : Int32)))] [(.ref ap)])) st4 ?_
        obtain ⟨fs, hr, hrun, hended, hW, hsame⟩ := X4.leave (v := some (.ref ap)) (fun h => by rw [Bd.returns] at h; cases h)
        refine ⟨_, _, ?_, hrun, hended, _, _, rfl, ?_, ⟨_, rfl⟩, hW, hsame.mono (by decide) (by decide)⟩
        · exact retA X4 hx Bd.returns rfl (hb hby d1_33) rfl hr
        · show Q1 Z p0 cl co cu ap h0 n0 _ T4.heap _
          rw [e4]
          exact ⟨ap, rfl, N0, rfl, Or.inr (Or.inr (Or.inr rfl))⟩
theorem d2_0 : decode method_2_code 0 = .ok (.iload_n 0, 1) := by decide +kernel
theorem d2_1 : decode method_2_code 1 = .ok (.ifCond .ne 110, 3) := by decide +kernel
theorem d2_4 : decode method_2_code 4 = .ok (.bipush 18, 2) := by decide +kernel
theorem d2_6 : decode method_2_code 6 = .ok (.newarray .char, 2) := by decide +kernel
theorem d2_8 : decode method_2_code 8 = .ok (.dup, 1) := by decide +kernel
theorem d2_9 : decode method_2_code 9 = .ok (.iconst 0, 1) := by decide +kernel
theorem d2_10 : decode method_2_code 10 = .ok (.bipush 108, 2) := by decide +kernel
theorem d2_12 : decode method_2_code 12 = .ok (.castore, 1) := by decide +kernel
theorem d2_13 : decode method_2_code 13 = .ok (.dup, 1) := by decide +kernel
theorem d2_14 : decode method_2_code 14 = .ok (.iconst 1, 1) := by decide +kernel
theorem d2_15 : decode method_2_code 15 = .ok (.bipush 105, 2) := by decide +kernel
theorem d2_17 : decode method_2_code 17 = .ok (.castore, 1) := by decide +kernel
theorem d2_18 : decode method_2_code 18 = .ok (.dup, 1) := by decide +kernel
theorem d2_19 : decode method_2_code 19 = .ok (.iconst 2, 1) := by decide +kernel
theorem d2_20 : decode method_2_code 20 = .ok (.bipush 115, 2) := by decide +kernel
theorem d2_22 : decode method_2_code 22 = .ok (.castore, 1) := by decide +kernel
theorem d2_23 : decode method_2_code 23 = .ok (.dup, 1) := by decide +kernel
theorem d2_24 : decode method_2_code 24 = .ok (.iconst 3, 1) := by decide +kernel
theorem d2_25 : decode method_2_code 25 = .ok (.bipush 116, 2) := by decide +kernel
theorem d2_27 : decode method_2_code 27 = .ok (.castore, 1) := by decide +kernel
theorem d2_28 : decode method_2_code 28 = .ok (.dup, 1) := by decide +kernel
theorem d2_29 : decode method_2_code 29 = .ok (.iconst 4, 1) := by decide +kernel
theorem d2_30 : decode method_2_code 30 = .ok (.bipush 65, 2) := by decide +kernel
theorem d2_32 : decode method_2_code 32 = .ok (.castore, 1) := by decide +kernel
theorem d2_33 : decode method_2_code 33 = .ok (.dup, 1) := by decide +kernel
theorem d2_34 : decode method_2_code 34 = .ok (.iconst 5, 1) := by decide +kernel
theorem d2_35 : decode method_2_code 35 = .ok (.bipush 99, 2) := by decide +kernel
theorem d2_37 : decode method_2_code 37 = .ok (.castore, 1) := by decide +kernel
theorem d2_38 : decode method_2_code 38 = .ok (.dup, 1) := by decide +kernel
theorem d2_39 : decode method_2_code 39 = .ok (.bipush 6, 2) := by decide +kernel
theorem d2_41 : decode method_2_code 41 = .ok (.bipush 99, 2) := by decide +kernel
theorem d2_43 : decode method_2_code 43 = .ok (.castore, 1) := by decide +kernel
theorem d2_44 : decode method_2_code 44 = .ok (.dup, 1) := by decide +kernel
theorem d2_45 : decode method_2_code 45 = .ok (.bipush 7, 2) := by decide +kernel
theorem d2_47 : decode method_2_code 47 = .ok (.bipush 101, 2) := by decide +kernel
theorem d2_49 : decode method_2_code 49 = .ok (.castore, 1) := by decide +kernel
theorem d2_50 : decode method_2_code 50 = .ok (.dup, 1) := by decide +kernel
theorem d2_51 : decode method_2_code 51 = .ok (.bipush 8, 2) := by decide +kernel
theorem d2_53 : decode method_2_code 53 = .ok (.bipush 115, 2) := by decide +kernel
theorem d2_55 : decode method_2_code 55 = .ok (.castore, 1) := by decide +kernel
theorem d2_56 : decode method_2_code 56 = .ok (.dup, 1) := by decide +kernel
theorem d2_57 : decode method_2_code 57 = .ok (.bipush 9, 2) := by decide +kernel
theorem d2_59 : decode method_2_code 59 = .ok (.bipush 115, 2) := by decide +kernel
theorem d2_61 : decode method_2_code 61 = .ok (.castore, 1) := by decide +kernel
theorem d2_62 : decode method_2_code 62 = .ok (.dup, 1) := by decide +kernel
theorem d2_63 : decode method_2_code 63 = .ok (.bipush 10, 2) := by decide +kernel
theorem d2_65 : decode method_2_code 65 = .ok (.bipush 66, 2) := by decide +kernel
theorem d2_67 : decode method_2_code 67 = .ok (.castore, 1) := by decide +kernel
theorem d2_68 : decode method_2_code 68 = .ok (.dup, 1) := by decide +kernel
theorem d2_69 : decode method_2_code 69 = .ok (.bipush 11, 2) := by decide +kernel
theorem d2_71 : decode method_2_code 71 = .ok (.bipush 105, 2) := by decide +kernel
theorem d2_73 : decode method_2_code 73 = .ok (.castore, 1) := by decide +kernel
theorem d2_74 : decode method_2_code 74 = .ok (.dup, 1) := by decide +kernel
theorem d2_75 : decode method_2_code 75 = .ok (.bipush 12, 2) := by decide +kernel
theorem d2_77 : decode method_2_code 77 = .ok (.bipush 110, 2) := by decide +kernel
theorem d2_79 : decode method_2_code 79 = .ok (.castore, 1) := by decide +kernel
theorem d2_80 : decode method_2_code 80 = .ok (.dup, 1) := by decide +kernel
theorem d2_81 : decode method_2_code 81 = .ok (.bipush 13, 2) := by decide +kernel
theorem d2_83 : decode method_2_code 83 = .ok (.bipush 100, 2) := by decide +kernel
theorem d2_85 : decode method_2_code 85 = .ok (.castore, 1) := by decide +kernel
theorem d2_86 : decode method_2_code 86 = .ok (.dup, 1) := by decide +kernel
theorem d2_87 : decode method_2_code 87 = .ok (.bipush 14, 2) := by decide +kernel
theorem d2_89 : decode method_2_code 89 = .ok (.bipush 105, 2) := by decide +kernel
theorem d2_91 : decode method_2_code 91 = .ok (.castore, 1) := by decide +kernel
theorem d2_92 : decode method_2_code 92 = .ok (.dup, 1) := by decide +kernel
theorem d2_93 : decode method_2_code 93 = .ok (.bipush 15, 2) := by decide +kernel
theorem d2_95 : decode method_2_code 95 = .ok (.bipush 110, 2) := by decide +kernel
theorem d2_97 : decode method_2_code 97 = .ok (.castore, 1) := by decide +kernel
theorem d2_98 : decode method_2_code 98 = .ok (.dup, 1) := by decide +kernel
theorem d2_99 : decode method_2_code 99 = .ok (.bipush 16, 2) := by decide +kernel
theorem d2_101 : decode method_2_code 101 = .ok (.bipush 103, 2) := by decide +kernel
theorem d2_103 : decode method_2_code 103 = .ok (.castore, 1) := by decide +kernel
theorem d2_104 : decode method_2_code 104 = .ok (.dup, 1) := by decide +kernel
theorem d2_105 : decode method_2_code 105 = .ok (.bipush 17, 2) := by decide +kernel
theorem d2_107 : decode method_2_code 107 = .ok (.bipush 115, 2) := by decide +kernel
theorem d2_109 : decode method_2_code 109 = .ok (.castore, 1) := by decide +kernel
theorem d2_110 : decode method_2_code 110 = .ok (.areturn, 1) := by decide +kernel
theorem d2_111 : decode method_2_code 111 = .ok (.bipush 14, 2) := by decide +kernel
theorem d2_113 : decode method_2_code 113 = .ok (.newarray .char, 2) := by decide +kernel
theorem d2_115 : decode method_2_code 115 = .ok (.dup, 1) := by decide +kernel
theorem d2_116 : decode method_2_code 116 = .ok (.iconst 0, 1) := by decide +kernel
theorem d2_117 : decode method_2_code 117 = .ok (.bipush 97, 2) := by decide +kernel
theorem d2_119 : decode method_2_code 119 = .ok (.castore, 1) := by decide +kernel
theorem d2_120 : decode method_2_code 120 = .ok (.dup, 1) := by decide +kernel
theorem d2_121 : decode method_2_code 121 = .ok (.iconst 1, 1) := by decide +kernel
theorem d2_122 : decode method_2_code 122 = .ok (.bipush 99, 2) := by decide +kernel
theorem d2_124 : decode method_2_code 124 = .ok (.castore, 1) := by decide +kernel
theorem d2_125 : decode method_2_code 125 = .ok (.dup, 1) := by decide +kernel
theorem d2_126 : decode method_2_code 126 = .ok (.iconst 2, 1) := by decide +kernel
theorem d2_127 : decode method_2_code 127 = .ok (.bipush 99, 2) := by decide +kernel
theorem d2_129 : decode method_2_code 129 = .ok (.castore, 1) := by decide +kernel
theorem d2_130 : decode method_2_code 130 = .ok (.dup, 1) := by decide +kernel
theorem d2_131 : decode method_2_code 131 = .ok (.iconst 3, 1) := by decide +kernel
theorem d2_132 : decode method_2_code 132 = .ok (.bipush 101, 2) := by decide +kernel
theorem d2_134 : decode method_2_code 134 = .ok (.castore, 1) := by decide +kernel
theorem d2_135 : decode method_2_code 135 = .ok (.dup, 1) := by decide +kernel
theorem d2_136 : decode method_2_code 136 = .ok (.iconst 4, 1) := by decide +kernel
theorem d2_137 : decode method_2_code 137 = .ok (.bipush 115, 2) := by decide +kernel
theorem d2_139 : decode method_2_code 139 = .ok (.castore, 1) := by decide +kernel
theorem d2_140 : decode method_2_code 140 = .ok (.dup, 1) := by decide +kernel
theorem d2_141 : decode method_2_code 141 = .ok (.iconst 5, 1) := by decide +kernel
theorem d2_142 : decode method_2_code 142 = .ok (.bipush 115, 2) := by decide +kernel
theorem d2_144 : decode method_2_code 144 = .ok (.castore, 1) := by decide +kernel
theorem d2_145 : decode method_2_code 145 = .ok (.dup, 1) := by decide +kernel
theorem d2_146 : decode method_2_code 146 = .ok (.bipush 6, 2) := by decide +kernel
theorem d2_148 : decode method_2_code 148 = .ok (.bipush 66, 2) := by decide +kernel
theorem d2_150 : decode method_2_code 150 = .ok (.castore, 1) := by decide +kernel
theorem d2_151 : decode method_2_code 151 = .ok (.dup, 1) := by decide +kernel
theorem d2_152 : decode method_2_code 152 = .ok (.bipush 7, 2) := by decide +kernel
theorem d2_154 : decode method_2_code 154 = .ok (.bipush 105, 2) := by decide +kernel
theorem d2_156 : decode method_2_code 156 = .ok (.castore, 1) := by decide +kernel
theorem d2_157 : decode method_2_code 157 = .ok (.dup, 1) := by decide +kernel
theorem d2_158 : decode method_2_code 158 = .ok (.bipush 8, 2) := by decide +kernel
theorem d2_160 : decode method_2_code 160 = .ok (.bipush 110, 2) := by decide +kernel
theorem d2_162 : decode method_2_code 162 = .ok (.castore, 1) := by decide +kernel
theorem d2_163 : decode method_2_code 163 = .ok (.dup, 1) := by decide +kernel
theorem d2_164 : decode method_2_code 164 = .ok (.bipush 9, 2) := by decide +kernel
theorem d2_166 : decode method_2_code 166 = .ok (.bipush 100, 2) := by decide +kernel
theorem d2_168 : decode method_2_code 168 = .ok (.castore, 1) := by decide +kernel
theorem d2_169 : decode method_2_code 169 = .ok (.dup, 1) := by decide +kernel
theorem d2_170 : decode method_2_code 170 = .ok (.bipush 10, 2) := by decide +kernel
theorem d2_172 : decode method_2_code 172 = .ok (.bipush 105, 2) := by decide +kernel
theorem d2_174 : decode method_2_code 174 = .ok (.castore, 1) := by decide +kernel
theorem d2_175 : decode method_2_code 175 = .ok (.dup, 1) := by decide +kernel
theorem d2_176 : decode method_2_code 176 = .ok (.bipush 11, 2) := by decide +kernel
theorem d2_178 : decode method_2_code 178 = .ok (.bipush 110, 2) := by decide +kernel
theorem d2_180 : decode method_2_code 180 = .ok (.castore, 1) := by decide +kernel
theorem d2_181 : decode method_2_code 181 = .ok (.dup, 1) := by decide +kernel
theorem d2_182 : decode method_2_code 182 = .ok (.bipush 12, 2) := by decide +kernel
theorem d2_184 : decode method_2_code 184 = .ok (.bipush 103, 2) := by decide +kernel
theorem d2_186 : decode method_2_code 186 = .ok (.castore, 1) := by decide +kernel
theorem d2_187 : decode method_2_code 187 = .ok (.dup, 1) := by decide +kernel
theorem d2_188 : decode method_2_code 188 = .ok (.bipush 13, 2) := by decide +kernel
theorem d2_190 : decode method_2_code 190 = .ok (.bipush 115, 2) := by decide +kernel
theorem d2_192 : decode method_2_code 192 = .ok (.castore, 1) := by decide +kernel
theorem d2_193 : decode method_2_code 193 = .ok (.areturn, 1) := by decide +kernel
set_option maxHeartbeats 40000000 in
theorem own_ef_rm2 (m : MethodId) (x0 : Int32) : entryFrame m #[(.int x0)] 1 = mkF m 0 #[.val (.int x0)] [] := by first | (simp [entryFrame, mkF, argsToLocals, Value.category]; done) | rfl
def Q2 (Z : State) (p0 : Int32) (h0 : Heap) (n0 : Nat) (v : Option Value) (h : Heap) (L : List Loc) : Prop := ∃ bb : Addr, ∃ nb : Nat, ∃ gb : Nat → Int32, v = some (.ref bb) ∧ Fr n0 L ∧ Keep h0 h [] ∧ own_AI Z h bb .char nb gb ∧ Exa Z h bb "[C" ∧ h0.size ≤ bb ∧ own_isB p0 nb gb
set_option maxRecDepth 65536 in
set_option maxHeartbeats 40000000 in
theorem rm2 (l : Launch) (Z : State) (aZ : Array Value) (hw : ∀ d ∈ tables_1, d.before aZ Z = true) (ws : List Jvm.Cond) (p0 : Int32) (h0 : Heap) (n0 : Nat) (Z0 : n0 ≤ h0.size) :
    MetFree l (⟨"com/example/access_bindings/accessbindings/server/RestResourceListsBindingsAtPinLaw", "base", "(I)[C"⟩ : MethodName) (head1 (Jvm.Cond.code (⟨"com/example/access_bindings/accessbindings/server/RestResourceListsBindingsAtPinLaw", "base", "(I)[C"⟩ : MethodName) method_2_code 1 (some (.array .char)) :: ws) ({ frames := 0, cells := 1, slots := 18, locals := 0 } : Room)) (fun a U => a = #[(.int p0)] ∧ Z.Warmed39 U.vm ∧ U.heap = h0) (fun _ _ _ _ _ => True) (fun _ U o U' => ∃ v L, o = .returned v ∧ Q2 Z p0 h0 n0 v U'.heap L ∧ FrameEnd U o U' L ({ frames := 0, cells := 1, slots := 18, locals := 0 } : Room).cells ({ frames := 0, cells := 1, slots := 18, locals := 0 } : Room).slots) := by
  refine MetFree.of_bodySF (plainFor_of_name own_pn0) hisR ?_
  intro p e s m args below meth c s₁ Bd hml0 hP hK
  obtain ⟨rfl, hZ, hh⟩ := hP
  have hx := Bd.exec
  have hby := Bd.bytes
  have hml : c.maxLocals = 1 := hml0
  have hown : s.vm.findClass "com/example/access_bindings/accessbindings/server/RestResourceListsBindingsAtPinLaw" = some m.cls := findClass_of_methodNamed Bd.named
  have hnm := (name_of_methodNamed Bd.named Bd.method).1
  have X0 : Stand p l e ({ frames := 0, cells := 1, slots := 18, locals := 0 } : Room) s m #[(.int p0)] below meth c s₁ [] 0 0 := Stand.of_body Bd
  have e0 : s₁.heap = h0 := by rw [← hh, Bd.state]; rfl
  have N0 := Fr.nil n0
  have K0 : Keep h0 h0 [] := Keep.refl h0 _
  refine own_go (S' := s₁.setTop (mkF m 0 #[.val (.int p0)] [])) (fun tt0 kk0 => castTop (own_ef_rm2 m p0) kk0) ?_
  refine own_go (S' := s₁.setTop (mkF m 1 #[.val (.int p0)] [(.int p0)])) (fun target kt => ?_) ?_
  · skip
    show Steps p.tables e below (s₁.setTop (mkF m 0 #[.val (.int p0)] [])) _
    refine XS.iloadN X0.here hx rfl (hb hby d2_0) rfl ?_
    exact kt
  by_cases hc1 : p0 = (0 : Int32)
  · skip
    refine own_go (S' := s₁.setTop (mkF m 6 #[.val (.int p0)] [(.int (18 : Int32))])) (fun target kt => ?_) ?_
    · skip
      show Steps p.tables e below (s₁.setTop (mkF m 1 #[.val (.int p0)] [(.int p0)])) _
      refine XS.ifNo X0.here hx rfl (hb hby d2_1) rfl ((if0 _ _).trans (teq hc1).2) ?_
      show Steps p.tables e below (s₁.setTop (mkF m 4 #[.val (.int p0)] [])) _
      refine XS.bipush X0.here hx rfl (hb hby d2_4) ?_
      exact kt
    obtain ⟨T5, h5, k5, X5, e5, E5, A5, B5, st5⟩ := newPE X0 hx hZ (hw _ (List.mem_of_getElem? (i := 10) rfl)) e0 (g := (mkF m 6 #[.val (.int p0)] [(.int (18 : Int32))])) rfl (hb hby d2_6) rfl (by decide) (cap := 18) (by decide) (by decide) (by decide) (by decide) (ad := "[C") (by decide)
    obtain ⟨b5, g5⟩ : ∃ z, z = h0.size := ⟨_, rfl⟩
    rw [← g5] at A5 B5 st5
    have g_b5 : n0 ≤ b5 := Nat.le_trans Z0 (Nat.le_of_eq g5.symm)
    have sz_b5 : h0.size ≤ b5 := Nat.le_trans K0.1 (Nat.le_of_eq g5.symm)
    have Z5 : n0 ≤ h5.size := Nat.le_trans Z0 E5.1
    have K5 : Keep h0 h5 [] := K0.ext E5
    have f6 : own_AI Z h5 b5 .char 18 (fun _ => 0) := own_AI.fresh A5 rfl
    refine own_go (S' := T5.setTop (mkF m 8 #[.val (.int p0)] [(.ref b5)])) st5 ?_
    refine own_go (S' := T5.setTop (mkF m 12 #[.val (.int p0)] [(.int (108 : Int32)), (.int (0 : Int32)), (.ref b5), (.ref b5)])) (fun target kt => ?_) ?_
    · skip
      show Steps p.tables e below (T5.setTop (mkF m 8 #[.val (.int p0)] [(.ref b5)])) _
      refine XS.dup X5.here hx rfl (hb hby d2_8) rfl rfl ?_
      show Steps p.tables e below (T5.setTop (mkF m 9 #[.val (.int p0)] [(.ref b5), (.ref b5)])) _
      refine XS.iconst X5.here hx rfl (hb hby d2_9) ?_
      show Steps p.tables e below (T5.setTop (mkF m 10 #[.val (.int p0)] [(.int (0 : Int32)), (.ref b5), (.ref b5)])) _
      refine XS.bipush X5.here hx rfl (hb hby d2_10) ?_
      exact kt
    obtain ⟨c7, Ar7, S7, M7, H7⟩ := id f6
    have hin7 : ¬ ((0 : Int32) < 0 ∨ c7.slots.size ≤ ((0 : Int32)).toNatClampNeg) := own_in S7 ⟨by decide, by decide⟩
    obtain ⟨T8, h8, X8, e8, W8, st8⟩ := stC X5 hx hZ e5 Ar7 (j := (0 : Int32)) hin7 (g := (mkF m 12 #[.val (.int p0)] [(.int (108 : Int32)), (.int (0 : Int32)), (.ref b5), (.ref b5)])) rfl rfl (hb hby d2_12)
    have f10 : Exa Z h8 b5 "[C" := B5.wr W8
    have f9 : own_AI Z h8 b5 .char 18 (own_upd (fun _ => 0) 0 (nar .char (108 : Int32))) := own_AI.set Ar7 S7 M7 H7 W8
    have Z8 : n0 ≤ h8.size := Nat.le_trans Z5 (Keep.of_wr W8).1
    have K8 : Keep h0 h8 [] := K5.wr W8 (Or.inr sz_b5)
    have N8 := Fr.snoc X8 N0 g_b5
    refine own_go (S' := T8.setTop (mkF m 13 #[.val (.int p0)] [(.ref b5)])) st8 ?_
    refine own_go (S' := T8.setTop (mkF m 17 #[.val (.int p0)] [(.int (105 : Int32)), (.int (1 : Int32)), (.ref b5), (.ref b5)])) (fun target kt => ?_) ?_
    · skip
      show Steps p.tables e below (T8.setTop (mkF m 13 #[.val (.int p0)] [(.ref b5)])) _
      refine XS.dup X8.here hx rfl (hb hby d2_13) rfl rfl ?_
      show Steps p.tables e below (T8.setTop (mkF m 14 #[.val (.int p0)] [(.ref b5), (.ref b5)])) _
      refine XS.iconst X8.here hx rfl (hb hby d2_14) ?_
      show Steps p.tables e below (T8.setTop (mkF m 15 #[.val (.int p0)] [(.int (1 : Int32)), (.ref b5), (.ref b5)])) _
      refine XS.bipush X8.here hx rfl (hb hby d2_15) ?_
      exact kt
    obtain ⟨c11, Ar11, S11, M11, H11⟩ := id f9
    have hin11 : ¬ ((1 : Int32) < 0 ∨ c11.slots.size ≤ ((1 : Int32)).toNatClampNeg) := own_in S11 ⟨by decide, by decide⟩
    obtain ⟨T12, h12, X12, e12, W12, st12⟩ := stC X8 hx hZ e8 Ar11 (j := (1 : Int32)) hin11 (g := (mkF m 17 #[.val (.int p0)] [(.int (105 : Int32)), (.int (1 : Int32)), (.ref b5), (.ref b5)])) rfl rfl (hb hby d2_17)
    have f14 : Exa Z h12 b5 "[C" := f10.wr W12
    have f13 : own_AI Z h12 b5 .char 18 (own_upd (own_upd (fun _ => 0) 0 (nar .char (108 : Int32))) 1 (nar .char (105 : Int32))) := own_AI.set Ar11 S11 M11 H11 W12
    have Z12 : n0 ≤ h12.size := Nat.le_trans Z8 (Keep.of_wr W12).1
    have K12 : Keep h0 h12 [] := K8.wr W12 (Or.inr sz_b5)
    have N12 := Fr.snoc X12 N8 g_b5
    refine own_go (S' := T12.setTop (mkF m 18 #[.val (.int p0)] [(.ref b5)])) st12 ?_
    refine own_go (S' := T12.setTop (mkF m 22 #[.val (.int p0)] [(.int (115 : Int32)), (.int (2 : Int32)), (.ref b5), (.ref b5)])) (fun target kt => ?_) ?_
    · skip
      show Steps p.tables e below (T12.setTop (mkF m 18 #[.val (.int p0)] [(.ref b5)])) _
      refine XS.dup X12.here hx rfl (hb hby d2_18) rfl rfl ?_
      show Steps p.tables e below (T12.setTop (mkF m 19 #[.val (.int p0)] [(.ref b5), (.ref b5)])) _
      refine XS.iconst X12.here hx rfl (hb hby d2_19) ?_
      show Steps p.tables e below (T12.setTop (mkF m 20 #[.val (.int p0)] [(.int (2 : Int32)), (.ref b5), (.ref b5)])) _
      refine XS.bipush X12.here hx rfl (hb hby d2_20) ?_
      exact kt
    obtain ⟨c15, Ar15, S15, M15, H15⟩ := id f13
    have hin15 : ¬ ((2 : Int32) < 0 ∨ c15.slots.size ≤ ((2 : Int32)).toNatClampNeg) := own_in S15 ⟨by decide, by decide⟩
    obtain ⟨T16, h16, X16, e16, W16, st16⟩ := stC X12 hx hZ e12 Ar15 (j := (2 : Int32)) hin15 (g := (mkF m 22 #[.val (.int p0)] [(.int (115 : Int32)), (.int (2 : Int32)), (.ref b5), (.ref b5)])) rfl rfl (hb hby d2_22)
    have f18 : Exa Z h16 b5 "[C" := f14.wr W16
    have f17 : own_AI Z h16 b5 .char 18 (own_upd (own_upd (own_upd (fun _ => 0) 0 (nar .char (108 : Int32))) 1 (nar .char (105 : Int32))) 2 (nar .char (115 : Int32))) := own_AI.set Ar15 S15 M15 H15 W16
    have Z16 : n0 ≤ h16.size := Nat.le_trans Z12 (Keep.of_wr W16).1
    have K16 : Keep h0 h16 [] := K12.wr W16 (Or.inr sz_b5)
    have N16 := Fr.snoc X16 N12 g_b5
    refine own_go (S' := T16.setTop (mkF m 23 #[.val (.int p0)] [(.ref b5)])) st16 ?_
    refine own_go (S' := T16.setTop (mkF m 27 #[.val (.int p0)] [(.int (116 : Int32)), (.int (3 : Int32)), (.ref b5), (.ref b5)])) (fun target kt => ?_) ?_
    · skip
      show Steps p.tables e below (T16.setTop (mkF m 23 #[.val (.int p0)] [(.ref b5)])) _
      refine XS.dup X16.here hx rfl (hb hby d2_23) rfl rfl ?_
      show Steps p.tables e below (T16.setTop (mkF m 24 #[.val (.int p0)] [(.ref b5), (.ref b5)])) _
      refine XS.iconst X16.here hx rfl (hb hby d2_24) ?_
      show Steps p.tables e below (T16.setTop (mkF m 25 #[.val (.int p0)] [(.int (3 : Int32)), (.ref b5), (.ref b5)])) _
      refine XS.bipush X16.here hx rfl (hb hby d2_25) ?_
      exact kt
    obtain ⟨c19, Ar19, S19, M19, H19⟩ := id f17
    have hin19 : ¬ ((3 : Int32) < 0 ∨ c19.slots.size ≤ ((3 : Int32)).toNatClampNeg) := own_in S19 ⟨by decide, by decide⟩
    obtain ⟨T20, h20, X20, e20, W20, st20⟩ := stC X16 hx hZ e16 Ar19 (j := (3 : Int32)) hin19 (g := (mkF m 27 #[.val (.int p0)] [(.int (116 : Int32)), (.int (3 : Int32)), (.ref b5), (.ref b5)])) rfl rfl (hb hby d2_27)
    have f22 : Exa Z h20 b5 "[C" := f18.wr W20
    have f21 : own_AI Z h20 b5 .char 18 (own_upd (own_upd (own_upd (own_upd (fun _ => 0) 0 (nar .char (108 : Int32))) 1 (nar .char (105 : Int32))) 2 (nar .char (115 : Int32))) 3 (nar .char (116 : Int32))) := own_AI.set Ar19 S19 M19 H19 W20
    have Z20 : n0 ≤ h20.size := Nat.le_trans Z16 (Keep.of_wr W20).1
    have K20 : Keep h0 h20 [] := K16.wr W20 (Or.inr sz_b5)
    have N20 := Fr.snoc X20 N16 g_b5
    refine own_go (S' := T20.setTop (mkF m 28 #[.val (.int p0)] [(.ref b5)])) st20 ?_
    refine own_go (S' := T20.setTop (mkF m 32 #[.val (.int p0)] [(.int (65 : Int32)), (.int (4 : Int32)), (.ref b5), (.ref b5)])) (fun target kt => ?_) ?_
    · skip
      show Steps p.tables e below (T20.setTop (mkF m 28 #[.val (.int p0)] [(.ref b5)])) _
      refine XS.dup X20.here hx rfl (hb hby d2_28) rfl rfl ?_
      show Steps p.tables e below (T20.setTop (mkF m 29 #[.val (.int p0)] [(.ref b5), (.ref b5)])) _
      refine XS.iconst X20.here hx rfl (hb hby d2_29) ?_
      show Steps p.tables e below (T20.setTop (mkF m 30 #[.val (.int p0)] [(.int (4 : Int32)), (.ref b5), (.ref b5)])) _
      refine XS.bipush X20.here hx rfl (hb hby d2_30) ?_
      exact kt
    obtain ⟨c23, Ar23, S23, M23, H23⟩ := id f21
    have hin23 : ¬ ((4 : Int32) < 0 ∨ c23.slots.size ≤ ((4 : Int32)).toNatClampNeg) := own_in S23 ⟨by decide, by decide⟩
    obtain ⟨T24, h24, X24, e24, W24, st24⟩ := stC X20 hx hZ e20 Ar23 (j := (4 : Int32)) hin23 (g := (mkF m 32 #[.val (.int p0)] [(.int (65 : Int32)), (.int (4 : Int32)), (.ref b5), (.ref b5)])) rfl rfl (hb hby d2_32)
    have f26 : Exa Z h24 b5 "[C" := f22.wr W24
    have f25 : own_AI Z h24 b5 .char 18 (own_upd (own_upd (own_upd (own_upd (own_upd (fun _ => 0) 0 (nar .char (108 : Int32))) 1 (nar .char (105 : Int32))) 2 (nar .char (115 : Int32))) 3 (nar .char (116 : Int32))) 4 (nar .char (65 : Int32))) := own_AI.set Ar23 S23 M23 H23 W24
    have Z24 : n0 ≤ h24.size := Nat.le_trans Z20 (Keep.of_wr W24).1
    have K24 : Keep h0 h24 [] := K20.wr W24 (Or.inr sz_b5)
    have N24 := Fr.snoc X24 N20 g_b5
    refine own_go (S' := T24.setTop (mkF m 33 #[.val (.int p0)] [(.ref b5)])) st24 ?_
    refine own_go (S' := T24.setTop (mkF m 37 #[.val (.int p0)] [(.int (99 : Int32)), (.int (5 : Int32)), (.ref b5), (.ref b5)])) (fun target kt => ?_) ?_
    · skip
      show Steps p.tables e below (T24.setTop (mkF m 33 #[.val (.int p0)] [(.ref b5)])) _
      refine XS.dup X24.here hx rfl (hb hby d2_33) rfl rfl ?_
      show Steps p.tables e below (T24.setTop (mkF m 34 #[.val (.int p0)] [(.ref b5), (.ref b5)])) _
      refine XS.iconst X24.here hx rfl (hb hby d2_34) ?_
      show Steps p.tables e below (T24.setTop (mkF m 35 #[.val (.int p0)] [(.int (5 : Int32)), (.ref b5), (.ref b5)])) _
      refine XS.bipush X24.here hx rfl (hb hby d2_35) ?_
      exact kt
    obtain ⟨c27, Ar27, S27, M27, H27⟩ := id f25
    have hin27 : ¬ ((5 : Int32) < 0 ∨ c27.slots.size ≤ ((5 : Int32)).toNatClampNeg) := own_in S27 ⟨by decide, by decide⟩
    obtain ⟨T28, h28, X28, e28, W28, st28⟩ := stC X24 hx hZ e24 Ar27 (j := (5 : Int32)) hin27 (g := (mkF m 37 #[.val (.int p0)] [(.int (99 : Int32)), (.int (5 : Int32)), (.ref b5), (.ref b5)])) rfl rfl (hb hby d2_37)
    have f30 : Exa Z h28 b5 "[C" := f26.wr W28
    have f29 : own_AI Z h28 b5 .char 18 (own_upd (own_upd (own_upd (own_upd (own_upd (own_upd (fun _ => 0) 0 (nar .char (108 : Int32))) 1 (nar .char (105 : Int32))) 2 (nar .char (115 : Int32))) 3 (nar .char (116 : Int32))) 4 (nar .char (65 : Int32))) 5 (nar .char (99 : Int32))) := own_AI.set Ar27 S27 M27 H27 W28
    have Z28 : n0 ≤ h28.size := Nat.le_trans Z24 (Keep.of_wr W28).1
    have K28 : Keep h0 h28 [] := K24.wr W28 (Or.inr sz_b5)
    have N28 := Fr.snoc X28 N24 g_b5
    refine own_go (S' := T28.setTop (mkF m 38 #[.val (.int p0)] [(.ref b5)])) st28 ?_
    refine own_go (S' := T28.setTop (mkF m 43 #[.val (.int p0)] [(.int (99 : Int32)), (.int (6 : Int32)), (.ref b5), (.ref b5)])) (fun target kt => ?_) ?_
    · skip
      show Steps p.tables e below (T28.setTop (mkF m 38 #[.val (.int p0)] [(.ref b5)])) _
      refine XS.dup X28.here hx rfl (hb hby d2_38) rfl rfl ?_
      show Steps p.tables e below (T28.setTop (mkF m 39 #[.val (.int p0)] [(.ref b5), (.ref b5)])) _
      refine XS.bipush X28.here hx rfl (hb hby d2_39) ?_
      show Steps p.tables e below (T28.setTop (mkF m 41 #[.val (.int p0)] [(.int (6 : Int32)), (.ref b5), (.ref b5)])) _
      refine XS.bipush X28.here hx rfl (hb hby d2_41) ?_
      exact kt
    obtain ⟨c31, Ar31, S31, M31, H31⟩ := id f29
    have hin31 : ¬ ((6 : Int32) < 0 ∨ c31.slots.size ≤ ((6 : Int32)).toNatClampNeg) := own_in S31 ⟨by decide, by decide⟩
    obtain ⟨T32, h32, X32, e32, W32, st32⟩ := stC X28 hx hZ e28 Ar31 (j := (6 : Int32)) hin31 (g := (mkF m 43 #[.val (.int p0)] [(.int (99 : Int32)), (.int (6 : Int32)), (.ref b5), (.ref b5)])) rfl rfl (hb hby d2_43)
    have f34 : Exa Z h32 b5 "[C" := f30.wr W32
    have f33 : own_AI Z h32 b5 .char 18 (own_upd (own_upd (own_upd (own_upd (own_upd (own_upd (own_upd (fun _ => 0) 0 (nar .char (108 : Int32))) 1 (nar .char (105 : Int32))) 2 (nar .char (115 : Int32))) 3 (nar .char (116 : Int32))) 4 (nar .char (65 : Int32))) 5 (nar .char (99 : Int32))) 6 (nar .char (99 : Int32))) := own_AI.set Ar31 S31 M31 H31 W32
    have Z32 : n0 ≤ h32.size := Nat.le_trans Z28 (Keep.of_wr W32).1
    have K32 : Keep h0 h32 [] := K28.wr W32 (Or.inr sz_b5)
    have N32 := Fr.snoc X32 N28 g_b5
    refine own_go (S' := T32.setTop (mkF m 44 #[.val (.int p0)] [(.ref b5)])) st32 ?_
    refine own_go (S' := T32.setTop (mkF m 49 #[.val (.int p0)] [(.int (101 : Int32)), (.int (7 : Int32)), (.ref b5), (.ref b5)])) (fun target kt => ?_) ?_
    · skip
      show Steps p.tables e below (T32.setTop (mkF m 44 #[.val (.int p0)] [(.ref b5)])) _
      refine XS.dup X32.here hx rfl (hb hby d2_44) rfl rfl ?_
      show Steps p.tables e below (T32.setTop (mkF m 45 #[.val (.int p0)] [(.ref b5), (.ref b5)])) _
      refine XS.bipush X32.here hx rfl (hb hby d2_45) ?_
      show Steps p.tables e below (T32.setTop (mkF m 47 #[.val (.int p0)] [(.int (7 : Int32)), (.ref b5), (.ref b5)])) _
      refine XS.bipush X32.here hx rfl (hb hby d2_47) ?_
      exact kt
    obtain ⟨c35, Ar35, S35, M35, H35⟩ := id f33
    have hin35 : ¬ ((7 : Int32) < 0 ∨ c35.slots.size ≤ ((7 : Int32)).toNatClampNeg) := own_in S35 ⟨by decide, by decide⟩
    obtain ⟨T36, h36, X36, e36, W36, st36⟩ := stC X32 hx hZ e32 Ar35 (j := (7 : Int32)) hin35 (g := (mkF m 49 #[.val (.int p0)] [(.int (101 : Int32)), (.int (7 : Int32)), (.ref b5), (.ref b5)])) rfl rfl (hb hby d2_49)
    have f38 : Exa Z h36 b5 "[C" := f34.wr W36
    have f37 : own_AI Z h36 b5 .char 18 (own_upd (own_upd (own_upd (own_upd (own_upd (own_upd (own_upd (own_upd (fun _ => 0) 0 (nar .char (108 : Int32))) 1 (nar .char (105 : Int32))) 2 (nar .char (115 : Int32))) 3 (nar .char (116 : Int32))) 4 (nar .char (65 : Int32))) 5 (nar .char (99 : Int32))) 6 (nar .char (99 : Int32))) 7 (nar .char (101 : Int32))) := own_AI.set Ar35 S35 M35 H35 W36
    have Z36 : n0 ≤ h36.size := Nat.le_trans Z32 (Keep.of_wr W36).1
    have K36 : Keep h0 h36 [] := K32.wr W36 (Or.inr sz_b5)
    have N36 := Fr.snoc X36 N32 g_b5
    refine own_go (S' := T36.setTop (mkF m 50 #[.val (.int p0)] [(.ref b5)])) st36 ?_
    refine own_go (S' := T36.setTop (mkF m 55 #[.val (.int p0)] [(.int (115 : Int32)), (.int (8 : Int32)), (.ref b5), (.ref b5)])) (fun target kt => ?_) ?_
    · skip
      show Steps p.tables e below (T36.setTop (mkF m 50 #[.val (.int p0)] [(.ref b5)])) _
      refine XS.dup X36.here hx rfl (hb hby d2_50) rfl rfl ?_
      show Steps p.tables e below (T36.setTop (mkF m 51 #[.val (.int p0)] [(.ref b5), (.ref b5)])) _
      refine XS.bipush X36.here hx rfl (hb hby d2_51) ?_
      show Steps p.tables e below (T36.setTop (mkF m 53 #[.val (.int p0)] [(.int (8 : Int32)), (.ref b5), (.ref b5)])) _
      refine XS.bipush X36.here hx rfl (hb hby d2_53) ?_
      exact kt
    obtain ⟨c39, Ar39, S39, M39, H39⟩ := id f37
    have hin39 : ¬ ((8 : Int32) < 0 ∨ c39.slots.size ≤ ((8 : Int32)).toNatClampNeg) := own_in S39 ⟨by decide, by decide⟩
    obtain ⟨T40, h40, X40, e40, W40, st40⟩ := stC X36 hx hZ e36 Ar39 (j := (8 : Int32)) hin39 (g := (mkF m 55 #[.val (.int p0)] [(.int (115 : Int32)), (.int (8 : Int32)), (.ref b5), (.ref b5)])) rfl rfl (hb hby d2_55)
    have f42 : Exa Z h40 b5 "[C" := f38.wr W40
    have f41 : own_AI Z h40 b5 .char 18 (own_upd (own_upd (own_upd (own_upd (own_upd (own_upd (own_upd (own_upd (own_upd (fun _ => 0) 0 (nar .char (108 : Int32))) 1 (nar .char (105 : Int32))) 2 (nar .char (115 : Int32))) 3 (nar .char (116 : Int32))) 4 (nar .char (65 : Int32))) 5 (nar .char (99 : Int32))) 6 (nar .char (99 : Int32))) 7 (nar .char (101 : Int32))) 8 (nar .char (115 : Int32))) := own_AI.set Ar39 S39 M39 H39 W40
    have Z40 : n0 ≤ h40.size := Nat.le_trans Z36 (Keep.of_wr W40).1
    have K40 : Keep h0 h40 [] := K36.wr W40 (Or.inr sz_b5)
    have N40 := Fr.snoc X40 N36 g_b5
    refine own_go (S' := T40.setTop (mkF m 56 #[.val (.int p0)] [(.ref b5)])) st40 ?_
    refine own_go (S' := T40.setTop (mkF m 61 #[.val (.int p0)] [(.int (115 : Int32)), (.int (9 : Int32)), (.ref b5), (.ref b5)])) (fun target kt => ?_) ?_
    · skip
      show Steps p.tables e below (T40.setTop (mkF m 56 #[.val (.int p0)] [(.ref b5)])) _
      refine XS.dup X40.here hx rfl (hb hby d2_56) rfl rfl ?_
      show Steps p.tables e below (T40.setTop (mkF m 57 #[.val (.int p0)] [(.ref b5), (.ref b5)])) _
      refine XS.bipush X40.here hx rfl (hb hby d2_57) ?_
      show Steps p.tables e below (T40.setTop (mkF m 59 #[.val (.int p0)] [(.int (9 : Int32)), (.ref b5), (.ref b5)])) _
      refine XS.bipush X40.here hx rfl (hb hby d2_59) ?_
      exact kt
    obtain ⟨c43, Ar43, S43, M43, H43⟩ := id f41
    have hin43 : ¬ ((9 : Int32) < 0 ∨ c43.slots.size ≤ ((9 : Int32)).toNatClampNeg) := own_in S43 ⟨by decide, by decide⟩
    obtain ⟨T44, h44, X44, e44, W44, st44⟩ := stC X40 hx hZ e40 Ar43 (j := (9 : Int32)) hin43 (g := (mkF m 61 #[.val (.int p0)] [(.int (115 : Int32)), (.int (9 : Int32)), (.ref b5), (.ref b5)])) rfl rfl (hb hby d2_61)
    have f46 : Exa Z h44 b5 "[C" := f42.wr W44
    have f45 : own_AI Z h44 b5 .char 18 (own_upd (own_upd (own_upd (own_upd (own_upd (own_upd (own_upd (own_upd (own_upd (own_upd (fun _ => 0) 0 (nar .char (108 : Int32))) 1 (nar .char (105 : Int32))) 2 (nar .char (115 : Int32))) 3 (nar .char (116 : Int32))) 4 (nar .char (65 : Int32))) 5 (nar .char (99 : Int32))) 6 (nar .char (99 : Int32))) 7 (nar .char (101 : Int32))) 8 (nar .char (115 : Int32))) 9 (nar .char (115 : Int32))) := own_AI.set Ar43 S43 M43 H43 W44
    have Z44 : n0 ≤ h44.size := Nat.le_trans Z40 (Keep.of_wr W44).1
    have K44 : Keep h0 h44 [] := K40.wr W44 (Or.inr sz_b5)
    have N44 := Fr.snoc X44 N40 g_b5
    refine own_go (S' := T44.setTop (mkF m 62 #[.val (.int p0)] [(.ref b5)])) st44 ?_
    refine own_go (S' := T44.setTop (mkF m 67 #[.val (.int p0)] [(.int (66 : Int32)), (.int (10 : Int32)), (.ref b5), (.ref b5)])) (fun target kt => ?_) ?_
    · skip
      show Steps p.tables e below (T44.setTop (mkF m 62 #[.val (.int p0)] [(.ref b5)])) _
      refine XS.dup X44.here hx rfl (hb hby d2_62) rfl rfl ?_
      show Steps p.tables e below (T44.setTop (mkF m 63 #[.val (.int p0)] [(.ref b5), (.ref b5)])) _
      refine XS.bipush X44.here hx rfl (hb hby d2_63) ?_
      show Steps p.tables e below (T44.setTop (mkF m 65 #[.val (.int p0)] [(.int (10 : Int32)), (.ref b5), (.ref b5)])) _
      refine XS.bipush X44.here hx rfl (hb hby d2_65) ?_
      exact kt
    obtain ⟨c47, Ar47, S47, M47, H47⟩ := id f45
    have hin47 : ¬ ((10 : Int32) < 0 ∨ c47.slots.size ≤ ((10 : Int32)).toNatClampNeg) := own_in S47 ⟨by decide, by decide⟩
    obtain ⟨T48, h48, X48, e48, W48, st48⟩ := stC X44 hx hZ e44 Ar47 (j := (10 : Int32)) hin47 (g := (mkF m 67 #[.val (.int p0)] [(.int (66 : Int32)), (.int (10 : Int32)), (.ref b5), (.ref b5)])) rfl rfl (hb hby d2_67)
    have f50 : Exa Z h48 b5 "[C" := f46.wr W48
    have f49 : own_AI Z h48 b5 .char 18 (own_upd (own_upd (own_upd (own_upd (own_upd (own_upd (own_upd (own_upd (own_upd (own_upd (own_upd (fun _ => 0) 0 (nar .char (108 : Int32))) 1 (nar .char (105 : Int32))) 2 (nar .char (115 : Int32))) 3 (nar .char (116 : Int32))) 4 (nar .char (65 : Int32))) 5 (nar .char (99 : Int32))) 6 (nar .char (99 : Int32))) 7 (nar .char (101 : Int32))) 8 (nar .char (115 : Int32))) 9 (nar .char (115 : Int32))) 10 (nar .char (66 : Int32))) := own_AI.set Ar47 S47 M47 H47 W48
    have Z48 : n0 ≤ h48.size := Nat.le_trans Z44 (Keep.of_wr W48).1
    have K48 : Keep h0 h48 [] := K44.wr W48 (Or.inr sz_b5)
    have N48 := Fr.snoc X48 N44 g_b5
    refine own_go (S' := T48.setTop (mkF m 68 #[.val (.int p0)] [(.ref b5)])) st48 ?_
    refine own_go (S' := T48.setTop (mkF m 73 #[.val (.int p0)] [(.int (105 : Int32)), (.int (11 : Int32)), (.ref b5), (.ref b5)])) (fun target kt => ?_) ?_
    · skip
      show Steps p.tables e below (T48.setTop (mkF m 68 #[.val (.int p0)] [(.ref b5)])) _
      refine XS.dup X48.here hx rfl (hb hby d2_68) rfl rfl ?_
      show Steps p.tables e below (T48.setTop (mkF m 69 #[.val (.int p0)] [(.ref b5), (.ref b5)])) _
      refine XS.bipush X48.here hx rfl (hb hby d2_69) ?_
      show Steps p.tables e below (T48.setTop (mkF m 71 #[.val (.int p0)] [(.int (11 : Int32)), (.ref b5), (.ref b5)])) _
      refine XS.bipush X48.here hx rfl (hb hby d2_71) ?_
      exact kt
    obtain ⟨c51, Ar51, S51, M51, H51⟩ := id f49
    have hin51 : ¬ ((11 : Int32) < 0 ∨ c51.slots.size ≤ ((11 : Int32)).toNatClampNeg) := own_in S51 ⟨by decide, by decide⟩
    obtain ⟨T52, h52, X52, e52, W52, st52⟩ := stC X48 hx hZ e48 Ar51 (j := (11 : Int32)) hin51 (g := (mkF m 73 #[.val (.int p0)] [(.int (105 : Int32)), (.int (11 : Int32)), (.ref b5), (.ref b5)])) rfl rfl (hb hby d2_73)
    have f54 : Exa Z h52 b5 "[C" := f50.wr W52
    have f53 : own_AI Z h52 b5 .char 18 (own_upd (own_upd (own_upd (own_upd (own_upd (own_upd (own_upd (own_upd (own_upd (own_upd (own_upd (own_upd (fun _ => 0) 0 (nar .char (108 : Int32))) 1 (nar .char (105 : Int32))) 2 (nar .char (115 : Int32))) 3 (nar .char (116 : Int32))) 4 (nar .char (65 : Int32))) 5 (nar .char (99 : Int32))) 6 (nar .char (99 : Int32))) 7 (nar .char (101 : Int32))) 8 (nar .char (115 : Int32))) 9 (nar .char (115 : Int32))) 10 (nar .char (66 : Int32))) 11 (nar .char (105 : Int32))) := own_AI.set Ar51 S51 M51 H51 W52
    have Z52 : n0 ≤ h52.size := Nat.le_trans Z48 (Keep.of_wr W52).1
    have K52 : Keep h0 h52 [] := K48.wr W52 (Or.inr sz_b5)
    have N52 := Fr.snoc X52 N48 g_b5
    refine own_go (S' := T52.setTop (mkF m 74 #[.val (.int p0)] [(.ref b5)])) st52 ?_
    refine own_go (S' := T52.setTop (mkF m 79 #[.val (.int p0)] [(.int (110 : Int32)), (.int (12 : Int32)), (.ref b5), (.ref b5)])) (fun target kt => ?_) ?_
    · skip
      show Steps p.tables e below (T52.setTop (mkF m 74 #[.val (.int p0)] [(.ref b5)])) _
      refine XS.dup X52.here hx rfl (hb hby d2_74) rfl rfl ?_
      show Steps p.tables e below (T52.setTop (mkF m 75 #[.val (.int p0)] [(.ref b5), (.ref b5)])) _
      refine XS.bipush X52.here hx rfl (hb hby d2_75) ?_
      show Steps p.tables e below (T52.setTop (mkF m 77 #[.val (.int p0)] [(.int (12 : Int32)), (.ref b5), (.ref b5)])) _
      refine XS.bipush X52.here hx rfl (hb hby d2_77) ?_
      exact kt
    obtain ⟨c55, Ar55, S55, M55, H55⟩ := id f53
    have hin55 : ¬ ((12 : Int32) < 0 ∨ c55.slots.size ≤ ((12 : Int32)).toNatClampNeg) := own_in S55 ⟨by decide, by decide⟩
    obtain ⟨T56, h56, X56, e56, W56, st56⟩ := stC X52 hx hZ e52 Ar55 (j := (12 : Int32)) hin55 (g := (mkF m 79 #[.val (.int p0)] [(.int (110 : Int32)), (.int (12 : Int32)), (.ref b5), (.ref b5)])) rfl rfl (hb hby d2_79)
    have f58 : Exa Z h56 b5 "[C" := f54.wr W56
    have f57 : own_AI Z h56 b5 .char 18 (own_upd (own_upd (own_upd (own_upd (own_upd (own_upd (own_upd (own_upd (own_upd (own_upd (own_upd (own_upd (own_upd (fun _ => 0) 0 (nar .char (108 : Int32))) 1 (nar .char (105 : Int32))) 2 (nar .char (115 : Int32))) 3 (nar .char (116 : Int32))) 4 (nar .char (65 : Int32))) 5 (nar .char (99 : Int32))) 6 (nar .char (99 : Int32))) 7 (nar .char (101 : Int32))) 8 (nar .char (115 : Int32))) 9 (nar .char (115 : Int32))) 10 (nar .char (66 : Int32))) 11 (nar .char (105 : Int32))) 12 (nar .char (110 : Int32))) := own_AI.set Ar55 S55 M55 H55 W56
    have Z56 : n0 ≤ h56.size := Nat.le_trans Z52 (Keep.of_wr W56).1
    have K56 : Keep h0 h56 [] := K52.wr W56 (Or.inr sz_b5)
    have N56 := Fr.snoc X56 N52 g_b5
    refine own_go (S' := T56.setTop (mkF m 80 #[.val (.int p0)] [(.ref b5)])) st56 ?_
    refine own_go (S' := T56.setTop (mkF m 85 #[.val (.int p0)] [(.int (100 : Int32)), (.int (13 : Int32)), (.ref b5), (.ref b5)])) (fun target kt => ?_) ?_
    · skip
      show Steps p.tables e below (T56.setTop (mkF m 80 #[.val (.int p0)] [(.ref b5)])) _
      refine XS.dup X56.here hx rfl (hb hby d2_80) rfl rfl ?_
      show Steps p.tables e below (T56.setTop (mkF m 81 #[.val (.int p0)] [(.ref b5), (.ref b5)])) _
      refine XS.bipush X56.here hx rfl (hb hby d2_81) ?_
      show Steps p.tables e below (T56.setTop (mkF m 83 #[.val (.int p0)] [(.int (13 : Int32)), (.ref b5), (.ref b5)])) _
      refine XS.bipush X56.here hx rfl (hb hby d2_83) ?_
      exact kt
    obtain ⟨c59, Ar59, S59, M59, H59⟩ := id f57
    have hin59 : ¬ ((13 : Int32) < 0 ∨ c59.slots.size ≤ ((13 : Int32)).toNatClampNeg) := own_in S59 ⟨by decide, by decide⟩
    obtain ⟨T60, h60, X60, e60, W60, st60⟩ := stC X56 hx hZ e56 Ar59 (j := (13 : Int32)) hin59 (g := (mkF m 85 #[.val (.int p0)] [(.int (100 : Int32)), (.int (13 : Int32)), (.ref b5), (.ref b5)])) rfl rfl (hb hby d2_85)
    have f62 : Exa Z h60 b5 "[C" := f58.wr W60
    have f61 : own_AI Z h60 b5 .char 18 (own_upd (own_upd (own_upd (own_upd (own_upd (own_upd (own_upd (own_upd (own_upd (own_upd (own_upd (own_upd (own_upd (own_upd (fun _ => 0) 0 (nar .char (108 : Int32))) 1 (nar .char (105 : Int32))) 2 (nar .char (115 : Int32))) 3 (nar .char (116 : Int32))) 4 (nar .char (65 : Int32))) 5 (nar .char (99 : Int32))) 6 (nar .char (99 : Int32))) 7 (nar .char (101 : Int32))) 8 (nar .char (115 : Int32))) 9 (nar .char (115 : Int32))) 10 (nar .char (66 : Int32))) 11 (nar .char (105 : Int32))) 12 (nar .char (110 : Int32))) 13 (nar .char (100 : Int32))) := own_AI.set Ar59 S59 M59 H59 W60
    have Z60 : n0 ≤ h60.size := Nat.le_trans Z56 (Keep.of_wr W60).1
    have K60 : Keep h0 h60 [] := K56.wr W60 (Or.inr sz_b5)
    have N60 := Fr.snoc X60 N56 g_b5
    refine own_go (S' := T60.setTop (mkF m 86 #[.val (.int p0)] [(.ref b5)])) st60 ?_
    refine own_go (S' := T60.setTop (mkF m 91 #[.val (.int p0)] [(.int (105 : Int32)), (.int (14 : Int32)), (.ref b5), (.ref b5)])) (fun target kt => ?_) ?_
    · skip
      show Steps p.tables e below (T60.setTop (mkF m 86 #[.val (.int p0)] [(.ref b5)])) _
      refine XS.dup X60.here hx rfl (hb hby d2_86) rfl rfl ?_
      show Steps p.tables e below (T60.setTop (mkF m 87 #[.val (.int p0)] [(.ref b5), (.ref b5)])) _
      refine XS.bipush X60.here hx rfl (hb hby d2_87) ?_
      show Steps p.tables e below (T60.setTop (mkF m 89 #[.val (.int p0)] [(.int (14 : Int32)), (.ref b5), (.ref b5)])) _
      refine XS.bipush X60.here hx rfl (hb hby d2_89) ?_
      exact kt
    obtain ⟨c63, Ar63, S63, M63, H63⟩ := id f61
    have hin63 : ¬ ((14 : Int32) < 0 ∨ c63.slots.size ≤ ((14 : Int32)).toNatClampNeg) := own_in S63 ⟨by decide, by decide⟩
    obtain ⟨T64, h64, X64, e64, W64, st64⟩ := stC X60 hx hZ e60 Ar63 (j := (14 : Int32)) hin63 (g := (mkF m 91 #[.val (.int p0)] [(.int (105 : Int32)), (.int (14 : Int32)), (.ref b5), (.ref b5)])) rfl rfl (hb hby d2_91)
    have f66 : Exa Z h64 b5 "[C" := f62.wr W64
    have f65 : own_AI Z h64 b5 .char 18 (own_upd (own_upd (own_upd (own_upd (own_upd (own_upd (own_upd (own_upd (own_upd (own_upd (own_upd (own_upd (own_upd (own_upd (own_upd (fun _ => 0) 0 (nar .char (108 : Int32))) 1 (nar .char (105 : Int32))) 2 (nar .char (115 : Int32))) 3 (nar .char (116 : Int32))) 4 (nar .char (65 : Int32))) 5 (nar .char (99 : Int32))) 6 (nar .char (99 : Int32))) 7 (nar .char (101 : Int32))) 8 (nar .char (115 : Int32))) 9 (nar .char (115 : Int32))) 10 (nar .char (66 : Int32))) 11 (nar .char (105 : Int32))) 12 (nar .char (110 : Int32))) 13 (nar .char (100 : Int32))) 14 (nar .char (105 : Int32))) := own_AI.set Ar63 S63 M63 H63 W64
    have Z64 : n0 ≤ h64.size := Nat.le_trans Z60 (Keep.of_wr W64).1
    have K64 : Keep h0 h64 [] := K60.wr W64 (Or.inr sz_b5)
    have N64 := Fr.snoc X64 N60 g_b5
    refine own_go (S' := T64.setTop (mkF m 92 #[.val (.int p0)] [(.ref b5)])) st64 ?_
    refine own_go (S' := T64.setTop (mkF m 97 #[.val (.int p0)] [(.int (110 : Int32)), (.int (15 : Int32)), (.ref b5), (.ref b5)])) (fun target kt => ?_) ?_
    · skip
      show Steps p.tables e below (T64.setTop (mkF m 92 #[.val (.int p0)] [(.ref b5)])) _
      refine XS.dup X64.here hx rfl (hb hby d2_92) rfl rfl ?_
      show Steps p.tables e below (T64.setTop (mkF m 93 #[.val (.int p0)] [(.ref b5), (.ref b5)])) _
      refine XS.bipush X64.here hx rfl (hb hby d2_93) ?_
      show Steps p.tables e below (T64.setTop (mkF m 95 #[.val (.int p0)] [(.int (15 : Int32)), (.ref b5), (.ref b5)])) _
      refine XS.bipush X64.here hx rfl (hb hby d2_95) ?_
      exact kt
    obtain ⟨c67, Ar67, S67, M67, H67⟩ := id f65
    have hin67 : ¬ ((15 : Int32) < 0 ∨ c67.slots.size ≤ ((15 : Int32)).toNatClampNeg) := own_in S67 ⟨by decide, by decide⟩
    obtain ⟨T68, h68, X68, e68, W68, st68⟩ := stC X64 hx hZ e64 Ar67 (j := (15 : Int32)) hin67 (g := (mkF m 97 #[.val (.int p0)] [(.int (110 : Int32)), (.int (15 : Int32)), (.ref b5), (.ref b5)])) rfl rfl (hb hby d2_97)
    have f70 : Exa Z h68 b5 "[C" := f66.wr W68
    have f69 : own_AI Z h68 b5 .char 18 (own_upd (own_upd (own_upd (own_upd (own_upd (own_upd (own_upd (own_upd (own_upd (own_upd (own_upd (own_upd (own_upd (own_upd (own_upd (own_upd (fun _ => 0) 0 (nar .char (108 : Int32))) 1 (nar .char (105 : Int32))) 2 (nar .char (115 : Int32))) 3 (nar .char (116 : Int32))) 4 (nar .char (65 : Int32))) 5 (nar .char (99 : Int32))) 6 (nar .char (99 : Int32))) 7 (nar .char (101 : Int32))) 8 (nar .char (115 : Int32))) 9 (nar .char (115 : Int32))) 10 (nar .char (66 : Int32))) 11 (nar .char (105 : Int32))) 12 (nar .char (110 : Int32))) 13 (nar .char (100 : Int32))) 14 (nar .char (105 : Int32))) 15 (nar .char (110 : Int32))) := own_AI.set Ar67 S67 M67 H67 W68
    have Z68 : n0 ≤ h68.size := Nat.le_trans Z64 (Keep.of_wr W68).1
    have K68 : Keep h0 h68 [] := K64.wr W68 (Or.inr sz_b5)
    have N68 := Fr.snoc X68 N64 g_b5
    refine own_go (S' := T68.setTop (mkF m 98 #[.val (.int p0)] [(.ref b5)])) st68 ?_
    refine own_go (S' := T68.setTop (mkF m 103 #[.val (.int p0)] [(.int (103 : Int32)), (.int (16 : Int32)), (.ref b5), (.ref b5)])) (fun target kt => ?_) ?_
    · skip
      show Steps p.tables e below (T68.setTop (mkF m 98 #[.val (.int p0)] [(.ref b5)])) _
      refine XS.dup X68.here hx rfl (hb hby d2_98) rfl rfl ?_
      show Steps p.tables e below (T68.setTop (mkF m 99 #[.val (.int p0)] [(.ref b5), (.ref b5)])) _
      refine XS.bipush X68.here hx rfl (hb hby d2_99) ?_
      show Steps p.tables e below (T68.setTop (mkF m 101 #[.val (.int p0)] [(.int (16 : Int32)), (.ref b5), (.ref b5)])) _
      refine XS.bipush X68.here hx rfl (hb hby d2_101) ?_
      exact kt
    obtain ⟨c71, Ar71, S71, M71, H71⟩ := id f69
    have hin71 : ¬ ((16 : Int32) < 0 ∨ c71.slots.size ≤ ((16 : Int32)).toNatClampNeg) := own_in S71 ⟨by decide, by decide⟩
    obtain ⟨T72, h72, X72, e72, W72, st72⟩ := stC X68 hx hZ e68 Ar71 (j := (16 : Int32)) hin71 (g := (mkF m 103 #[.val (.int p0)] [(.int (103 : Int32)), (.int (16 : Int32)), (.ref b5), (.ref b5)])) rfl rfl (hb hby d2_103)
    have f74 : Exa Z h72 b5 "[C" := f70.wr W72
    have f73 : own_AI Z h72 b5 .char 18 (own_upd (own_upd (own_upd (own_upd (own_upd (own_upd (own_upd (own_upd (own_upd (own_upd (own_upd (own_upd (own_upd (own_upd (own_upd (own_upd (own_upd (fun _ => 0) 0 (nar .char (108 : Int32))) 1 (nar .char (105 : Int32))) 2 (nar .char (115 : Int32))) 3 (nar .char (116 : Int32))) 4 (nar .char (65 : Int32))) 5 (nar .char (99 : Int32))) 6 (nar .char (99 : Int32))) 7 (nar .char (101 : Int32))) 8 (nar .char (115 : Int32))) 9 (nar .char (115 : Int32))) 10 (nar .char (66 : Int32))) 11 (nar .char (105 : Int32))) 12 (nar .char (110 : Int32))) 13 (nar .char (100 : Int32))) 14 (nar .char (105 : Int32))) 15 (nar .char (110 : Int32))) 16 (nar .char (103 : Int32))) := own_AI.set Ar71 S71 M71 H71 W72
    have Z72 : n0 ≤ h72.size := Nat.le_trans Z68 (Keep.of_wr W72).1
    have K72 : Keep h0 h72 [] := K68.wr W72 (Or.inr sz_b5)
    have N72 := Fr.snoc X72 N68 g_b5
    refine own_go (S' := T72.setTop (mkF m 104 #[.val (.int p0)] [(.ref b5)])) st72 ?_
    refine own_go (S' := T72.setTop (mkF m 109 #[.val (.int p0)] [(.int (115 : Int32)), (.int (17 : Int32)), (.ref b5), (.ref b5)])) (fun target kt => ?_) ?_
    · skip
      show Steps p.tables e below (T72.setTop (mkF m 104 #[.val (.int p0)] [(.ref b5)])) _
      refine XS.dup X72.here hx rfl (hb hby d2_104) rfl rfl ?_
      show Steps p.tables e below (T72.setTop (mkF m 105 #[.val (.int p0)] [(.ref b5), (.ref b5)])) _
      refine XS.bipush X72.here hx rfl (hb hby d2_105) ?_
      show Steps p.tables e below (T72.setTop (mkF m 107 #[.val (.int p0)] [(.int (17 : Int32)), (.ref b5), (.ref b5)])) _
      refine XS.bipush X72.here hx rfl (hb hby d2_107) ?_
      exact kt
    obtain ⟨c75, Ar75, S75, M75, H75⟩ := id f73
    have hin75 : ¬ ((17 : Int32) < 0 ∨ c75.slots.size ≤ ((17 : Int32)).toNatClampNeg) := own_in S75 ⟨by decide, by decide⟩
    obtain ⟨T76, h76, X76, e76, W76, st76⟩ := stC X72 hx hZ e72 Ar75 (j := (17 : Int32)) hin75 (g := (mkF m 109 #[.val (.int p0)] [(.int (115 : Int32)), (.int (17 : Int32)), (.ref b5), (.ref b5)])) rfl rfl (hb hby d2_109)
    have f78 : Exa Z h76 b5 "[C" := f74.wr W76
    have f77 : own_AI Z h76 b5 .char 18 (own_upd (own_upd (own_upd (own_upd (own_upd (own_upd (own_upd (own_upd (own_upd (own_upd (own_upd (own_upd (own_upd (own_upd (own_upd (own_upd (own_upd (own_upd (fun _ => 0) 0 (nar .char (108 : Int32))) 1 (nar .char (105 : Int32))) 2 (nar .char (115 : Int32))) 3 (nar .char (116 : Int32))) 4 (nar .char (65 : Int32))) 5 (nar .char (99 : Int32))) 6 (nar .char (99 : Int32))) 7 (nar .char (101 : Int32))) 8 (nar .char (115 : Int32))) 9 (nar .char (115 : Int32))) 10 (nar .char (66 : Int32))) 11 (nar .char (105 : Int32))) 12 (nar .char (110 : Int32))) 13 (nar .char (100 : Int32))) 14 (nar .char (105 : Int32))) 15 (nar .char (110 : Int32))) 16 (nar .char (103 : Int32))) 17 (nar .char (115 : Int32))) := own_AI.set Ar75 S75 M75 H75 W76
    have Z76 : n0 ≤ h76.size := Nat.le_trans Z72 (Keep.of_wr W76).1
    have K76 : Keep h0 h76 [] := K72.wr W76 (Or.inr sz_b5)
    have N76 := Fr.snoc X76 N72 g_b5
    refine own_go (S' := T76.setTop (mkF m 110 #[.val (.int p0)] [(.ref b5)])) st76 ?_
    obtain ⟨fs, hr, hrun, hended, hW, hsame⟩ := X76.leave (v := some (.ref b5)) (fun h => by rw [Bd.returns] at h; cases h)
    refine ⟨_, _, ?_, hrun, hended, _, _, rfl, ?_, ⟨_, rfl⟩, hW, hsame.mono (by decide) (by decide)⟩
    · exact retA X76 hx Bd.returns rfl (hb hby d2_110) rfl hr
    · show Q2 Z p0 h0 n0 _ T76.heap _
      rw [e76]
      exact ⟨b5, 18, (own_upd (own_upd (own_upd (own_upd (own_upd (own_upd (own_upd (own_upd (own_upd (own_upd (own_upd (own_upd (own_upd (own_upd (own_upd (own_upd (own_upd (own_upd (fun _ => 0) 0 (nar .char (108 : Int32))) 1 (nar .char (105 : Int32))) 2 (nar .char (115 : Int32))) 3 (nar .char (116 : Int32))) 4 (nar .char (65 : Int32))) 5 (nar .char (99 : Int32))) 6 (nar .char (99 : Int32))) 7 (nar .char (101 : Int32))) 8 (nar .char (115 : Int32))) 9 (nar .char (115 : Int32))) 10 (nar .char (66 : Int32))) 11 (nar .char (105 : Int32))) 12 (nar .char (110 : Int32))) 13 (nar .char (100 : Int32))) 14 (nar .char (105 : Int32))) 15 (nar .char (110 : Int32))) 16 (nar .char (103 : Int32))) 17 (nar .char (115 : Int32))), rfl, N76, K76, f77, f78, sz_b5, Or.inl ⟨hc1, rfl, by decide +kernel⟩⟩
  · skip
    refine own_go (S' := s₁.setTop (mkF m 113 #[.val (.int p0)] [(.int (14 : Int32))])) (fun target kt => ?_) ?_
    · skip
      show Steps p.tables e below (s₁.setTop (mkF m 1 #[.val (.int p0)] [(.int p0)])) _
      refine XS.ifYes X0.here hx rfl (pc0 := 1) (pc' := 111) rfl (hb hby d2_1) rfl ((if0 _ _).trans (feq hc1).2) (by decide) (by decide) ?_
      show Steps p.tables e below (s₁.setTop (mkF m 111 #[.val (.int p0)] [])) _
      refine XS.bipush X0.here hx rfl (hb hby d2_111) ?_
      exact kt
    obtain ⟨T79, h79, k79, X79, e79, E79, A79, B79, st79⟩ := newPE X0 hx hZ (hw _ (List.mem_of_getElem? (i := 10) rfl)) e0 (g := (mkF m 113 #[.val (.int p0)] [(.int (14 : Int32))])) rfl (hb hby d2_113) rfl (by decide) (cap := 14) (by decide) (by decide) (by decide) (by decide) (ad := "[C") (by decide)
    obtain ⟨b79, g79⟩ : ∃ z, z = h0.size := ⟨_, rfl⟩
    rw [← g79] at A79 B79 st79
    have g_b79 : n0 ≤ b79 := Nat.le_trans Z0 (Nat.le_of_eq g79.symm)
    have sz_b79 : h0.size ≤ b79 := Nat.le_trans K0.1 (Nat.le_of_eq g79.symm)
    have Z79 : n0 ≤ h79.size := Nat.le_trans Z0 E79.1
    have K79 : Keep h0 h79 [] := K0.ext E79
    have f80 : own_AI Z h79 b79 .char 14 (fun _ => 0) := own_AI.fresh A79 rfl
    refine own_go (S' := T79.setTop (mkF m 115 #[.val (.int p0)] [(.ref b79)])) st79 ?_
    refine own_go (S' := T79.setTop (mkF m 119 #[.val (.int p0)] [(.int (97 : Int32)), (.int (0 : Int32)), (.ref b79), (.ref b79)])) (fun target kt => ?_) ?_
    · skip
      show Steps p.tables e below (T79.setTop (mkF m 115 #[.val (.int p0)] [(.ref b79)])) _
      refine XS.dup X79.here hx rfl (hb hby d2_115) rfl rfl ?_
      show Steps p.tables e below (T79.setTop (mkF m 116 #[.val (.int p0)] [(.ref b79), (.ref b79)])) _
      refine XS.iconst X79.here hx rfl (hb hby d2_116) ?_
      show Steps p.tables e below (T79.setTop (mkF m 117 #[.val (.int p0)] [(.int (0 : Int32)), (.ref b79), (.ref b79)])) _
      refine XS.bipush X79.here hx rfl (hb hby d2_117) ?_
      exact kt
    obtain ⟨c81, Ar81, S81, M81, H81⟩ := id f80
    have hin81 : ¬ ((0 : Int32) < 0 ∨ c81.slots.size ≤ ((0 : Int32)).toNatClampNeg) := own_in S81 ⟨by decide, by decide⟩
    obtain ⟨T82, h82, X82, e82, W82, st82⟩ := stC X79 hx hZ e79 Ar81 (j := (0 : Int32)) hin81 (g := (mkF m 119 #[.val (.int p0)] [(.int (97 : Int32)), (.int (0 : Int32)), (.ref b79), (.ref b79)])) rfl rfl (hb hby d2_119)
    have f84 : Exa Z h82 b79 "[C" := B79.wr W82
    have f83 : own_AI Z h82 b79 .char 14 (own_upd (fun _ => 0) 0 (nar .char (97 : Int32))) := own_AI.set Ar81 S81 M81 H81 W82
    have Z82 : n0 ≤ h82.size := Nat.le_trans Z79 (Keep.of_wr W82).1
    have K82 : Keep h0 h82 [] := K79.wr W82 (Or.inr sz_b79)
    have N82 := Fr.snoc X82 N0 g_b79
    refine own_go (S' := T82.setTop (mkF m 120 #[.val (.int p0)] [(.ref b79)])) st82 ?_
    refine own_go (S' := T82.setTop (mkF m 124 #[.val (.int p0)] [(.int (99 : Int32)), (.int (1 : Int32)), (.ref b79), (.ref b79)])) (fun target kt => ?_) ?_
    · skip
      show Steps p.tables e below (T82.setTop (mkF m 120 #[.val (.int p0)] [(.ref b79)])) _
      refine XS.dup X82.here hx rfl (hb hby d2_120) rfl rfl ?_
      show Steps p.tables e below (T82.setTop (mkF m 121 #[.val (.int p0)] [(.ref b79), (.ref b79)])) _
      refine XS.iconst X82.here hx rfl (hb hby d2_121) ?_
      show Steps p.tables e below (T82.setTop (mkF m 122 #[.val (.int p0)] [(.int (1 : Int32)), (.ref b79), (.ref b79)])) _
      refine XS.bipush X82.here hx rfl (hb hby d2_122) ?_
      exact kt
    obtain ⟨c85, Ar85, S85, M85, H85⟩ := id f83
    have hin85 : ¬ ((1 : Int32) < 0 ∨ c85.slots.size ≤ ((1 : Int32)).toNatClampNeg) := own_in S85 ⟨by decide, by decide⟩
    obtain ⟨T86, h86, X86, e86, W86, st86⟩ := stC X82 hx hZ e82 Ar85 (j := (1 : Int32)) hin85 (g := (mkF m 124 #[.val (.int p0)] [(.int (99 : Int32)), (.int (1 : Int32)), (.ref b79), (.ref b79)])) rfl rfl (hb hby d2_124)
    have f88 : Exa Z h86 b79 "[C" := f84.wr W86
    have f87 : own_AI Z h86 b79 .char 14 (own_upd (own_upd (fun _ => 0) 0 (nar .char (97 : Int32))) 1 (nar .char (99 : Int32))) := own_AI.set Ar85 S85 M85 H85 W86
    have Z86 : n0 ≤ h86.size := Nat.le_trans Z82 (Keep.of_wr W86).1
    have K86 : Keep h0 h86 [] := K82.wr W86 (Or.inr sz_b79)
    have N86 := Fr.snoc X86 N82 g_b79
    refine own_go (S' := T86.setTop (mkF m 125 #[.val (.int p0)] [(.ref b79)])) st86 ?_
    refine own_go (S' := T86.setTop (mkF m 129 #[.val (.int p0)] [(.int (99 : Int32)), (.int (2 : Int32)), (.ref b79), (.ref b79)])) (fun target kt => ?_) ?_
    · skip
      show Steps p.tables e below (T86.setTop (mkF m 125 #[.val (.int p0)] [(.ref b79)])) _
      refine XS.dup X86.here hx rfl (hb hby d2_125) rfl rfl ?_
      show Steps p.tables e below (T86.setTop (mkF m 126 #[.val (.int p0)] [(.ref b79), (.ref b79)])) _
      refine XS.iconst X86.here hx rfl (hb hby d2_126) ?_
      show Steps p.tables e below (T86.setTop (mkF m 127 #[.val (.int p0)] [(.int (2 : Int32)), (.ref b79), (.ref b79)])) _
      refine XS.bipush X86.here hx rfl (hb hby d2_127) ?_
      exact kt
    obtain ⟨c89, Ar89, S89, M89, H89⟩ := id f87
    have hin89 : ¬ ((2 : Int32) < 0 ∨ c89.slots.size ≤ ((2 : Int32)).toNatClampNeg) := own_in S89 ⟨by decide, by decide⟩
    obtain ⟨T90, h90, X90, e90, W90, st90⟩ := stC X86 hx hZ e86 Ar89 (j := (2 : Int32)) hin89 (g := (mkF m 129 #[.val (.int p0)] [(.int (99 : Int32)), (.int (2 : Int32)), (.ref b79), (.ref b79)])) rfl rfl (hb hby d2_129)
    have f92 : Exa Z h90 b79 "[C" := f88.wr W90
    have f91 : own_AI Z h90 b79 .char 14 (own_upd (own_upd (own_upd (fun _ => 0) 0 (nar .char (97 : Int32))) 1 (nar .char (99 : Int32))) 2 (nar .char (99 : Int32))) := own_AI.set Ar89 S89 M89 H89 W90
    have Z90 : n0 ≤ h90.size := Nat.le_trans Z86 (Keep.of_wr W90).1
    have K90 : Keep h0 h90 [] := K86.wr W90 (Or.inr sz_b79)
    have N90 := Fr.snoc X90 N86 g_b79
    refine own_go (S' := T90.setTop (mkF m 130 #[.val (.int p0)] [(.ref b79)])) st90 ?_
    refine own_go (S' := T90.setTop (mkF m 134 #[.val (.int p0)] [(.int (101 : Int32)), (.int (3 : Int32)), (.ref b79), (.ref b79)])) (fun target kt => ?_) ?_
    · skip
      show Steps p.tables e below (T90.setTop (mkF m 130 #[.val (.int p0)] [(.ref b79)])) _
      refine XS.dup X90.here hx rfl (hb hby d2_130) rfl rfl ?_
      show Steps p.tables e below (T90.setTop (mkF m 131 #[.val (.int p0)] [(.ref b79), (.ref b79)])) _
      refine XS.iconst X90.here hx rfl (hb hby d2_131) ?_
      show Steps p.tables e below (T90.setTop (mkF m 132 #[.val (.int p0)] [(.int (3 : Int32)), (.ref b79), (.ref b79)])) _
      refine XS.bipush X90.here hx rfl (hb hby d2_132) ?_
      exact kt
    obtain ⟨c93, Ar93, S93, M93, H93⟩ := id f91
    have hin93 : ¬ ((3 : Int32) < 0 ∨ c93.slots.size ≤ ((3 : Int32)).toNatClampNeg) := own_in S93 ⟨by decide, by decide⟩
    obtain ⟨T94, h94, X94, e94, W94, st94⟩ := stC X90 hx hZ e90 Ar93 (j := (3 : Int32)) hin93 (g := (mkF m 134 #[.val (.int p0)] [(.int (101 : Int32)), (.int (3 : Int32)), (.ref b79), (.ref b79)])) rfl rfl (hb hby d2_134)
    have f96 : Exa Z h94 b79 "[C" := f92.wr W94
    have f95 : own_AI Z h94 b79 .char 14 (own_upd (own_upd (own_upd (own_upd (fun _ => 0) 0 (nar .char (97 : Int32))) 1 (nar .char (99 : Int32))) 2 (nar .char (99 : Int32))) 3 (nar .char (101 : Int32))) := own_AI.set Ar93 S93 M93 H93 W94
    have Z94 : n0 ≤ h94.size := Nat.le_trans Z90 (Keep.of_wr W94).1
    have K94 : Keep h0 h94 [] := K90.wr W94 (Or.inr sz_b79)
    have N94 := Fr.snoc X94 N90 g_b79
    refine own_go (S' := T94.setTop (mkF m 135 #[.val (.int p0)] [(.ref b79)])) st94 ?_
    refine own_go (S' := T94.setTop (mkF m 139 #[.val (.int p0)] [(.int (115 : Int32)), (.int (4 : Int32)), (.ref b79), (.ref b79)])) (fun target kt => ?_) ?_
    · skip
      show Steps p.tables e below (T94.setTop (mkF m 135 #[.val (.int p0)] [(.ref b79)])) _
      refine XS.dup X94.here hx rfl (hb hby d2_135) rfl rfl ?_
      show Steps p.tables e below (T94.setTop (mkF m 136 #[.val (.int p0)] [(.ref b79), (.ref b79)])) _
      refine XS.iconst X94.here hx rfl (hb hby d2_136) ?_
      show Steps p.tables e below (T94.setTop (mkF m 137 #[.val (.int p0)] [(.int (4 : Int32)), (.ref b79), (.ref b79)])) _
      refine XS.bipush X94.here hx rfl (hb hby d2_137) ?_
      exact kt
    obtain ⟨c97, Ar97, S97, M97, H97⟩ := id f95
    have hin97 : ¬ ((4 : Int32) < 0 ∨ c97.slots.size ≤ ((4 : Int32)).toNatClampNeg) := own_in S97 ⟨by decide, by decide⟩
    obtain ⟨T98, h98, X98, e98, W98, st98⟩ := stC X94 hx hZ e94 Ar97 (j := (4 : Int32)) hin97 (g := (mkF m 139 #[.val (.int p0)] [(.int (115 : Int32)), (.int (4 : Int32)), (.ref b79), (.ref b79)])) rfl rfl (hb hby d2_139)
    have f100 : Exa Z h98 b79 "[C" := f96.wr W98
    have f99 : own_AI Z h98 b79 .char 14 (own_upd (own_upd (own_upd (own_upd (own_upd (fun _ => 0) 0 (nar .char (97 : Int32))) 1 (nar .char (99 : Int32))) 2 (nar .char (99 : Int32))) 3 (nar .char (101 : Int32))) 4 (nar .char (115 : Int32))) := own_AI.set Ar97 S97 M97 H97 W98
    have Z98 : n0 ≤ h98.size := Nat.le_trans Z94 (Keep.of_wr W98).1
    have K98 : Keep h0 h98 [] := K94.wr W98 (Or.inr sz_b79)
    have N98 := Fr.snoc X98 N94 g_b79
    refine own_go (S' := T98.setTop (mkF m 140 #[.val (.int p0)] [(.ref b79)])) st98 ?_
    refine own_go (S' := T98.setTop (mkF m 144 #[.val (.int p0)] [(.int (115 : Int32)), (.int (5 : Int32)), (.ref b79), (.ref b79)])) (fun target kt => ?_) ?_
    · skip
      show Steps p.tables e below (T98.setTop (mkF m 140 #[.val (.int p0)] [(.ref b79)])) _
      refine XS.dup X98.here hx rfl (hb hby d2_140) rfl rfl ?_
      show Steps p.tables e below (T98.setTop (mkF m 141 #[.val (.int p0)] [(.ref b79), (.ref b79)])) _
      refine XS.iconst X98.here hx rfl (hb hby d2_141) ?_
      show Steps p.tables e below (T98.setTop (mkF m 142 #[.val (.int p0)] [(.int (5 : Int32)), (.ref b79), (.ref b79)])) _
      refine XS.bipush X98.here hx rfl (hb hby d2_142) ?_
      exact kt
    obtain ⟨c101, Ar101, S101, M101, H101⟩ := id f99
    have hin101 : ¬ ((5 : Int32) < 0 ∨ c101.slots.size ≤ ((5 : Int32)).toNatClampNeg) := own_in S101 ⟨by decide, by decide⟩
    obtain ⟨T102, h102, X102, e102, W102, st102⟩ := stC X98 hx hZ e98 Ar101 (j := (5 : Int32)) hin101 (g := (mkF m 144 #[.val (.int p0)] [(.int (115 : Int32)), (.int (5 : Int32)), (.ref b79), (.ref b79)])) rfl rfl (hb hby d2_144)
    have f104 : Exa Z h102 b79 "[C" := f100.wr W102
    have f103 : own_AI Z h102 b79 .char 14 (own_upd (own_upd (own_upd (own_upd (own_upd (own_upd (fun _ => 0) 0 (nar .char (97 : Int32))) 1 (nar .char (99 : Int32))) 2 (nar .char (99 : Int32))) 3 (nar .char (101 : Int32))) 4 (nar .char (115 : Int32))) 5 (nar .char (115 : Int32))) := own_AI.set Ar101 S101 M101 H101 W102
    have Z102 : n0 ≤ h102.size := Nat.le_trans Z98 (Keep.of_wr W102).1
    have K102 : Keep h0 h102 [] := K98.wr W102 (Or.inr sz_b79)
    have N102 := Fr.snoc X102 N98 g_b79
    refine own_go (S' := T102.setTop (mkF m 145 #[.val (.int p0)] [(.ref b79)])) st102 ?_
    refine own_go (S' := T102.setTop (mkF m 150 #[.val (.int p0)] [(.int (66 : Int32)), (.int (6 : Int32)), (.ref b79), (.ref b79)])) (fun target kt => ?_) ?_
    · skip
      show Steps p.tables e below (T102.setTop (mkF m 145 #[.val (.int p0)] [(.ref b79)])) _
      refine XS.dup X102.here hx rfl (hb hby d2_145) rfl rfl ?_
      show Steps p.tables e below (T102.setTop (mkF m 146 #[.val (.int p0)] [(.ref b79), (.ref b79)])) _
      refine XS.bipush X102.here hx rfl (hb hby d2_146) ?_
      show Steps p.tables e below (T102.setTop (mkF m 148 #[.val (.int p0)] [(.int (6 : Int32)), (.ref b79), (.ref b79)])) _
      refine XS.bipush X102.here hx rfl (hb hby d2_148) ?_
      exact kt
    obtain ⟨c105, Ar105, S105, M105, H105⟩ := id f103
    have hin105 : ¬ ((6 : Int32) < 0 ∨ c105.slots.size ≤ ((6 : Int32)).toNatClampNeg) := own_in S105 ⟨by decide, by decide⟩
    obtain ⟨T106, h106, X106, e106, W106, st106⟩ := stC X102 hx hZ e102 Ar105 (j := (6 : Int32)) hin105 (g := (mkF m 150 #[.val (.int p0)] [(.int (66 : Int32)), (.int (6 : Int32)), (.ref b79), (.ref b79)])) rfl rfl (hb hby d2_150)
    have f108 : Exa Z h106 b79 "[C" := f104.wr W106
    have f107 : own_AI Z h106 b79 .char 14 (own_upd (own_upd (own_upd (own_upd (own_upd (own_upd (own_upd (fun _ => 0) 0 (nar .char (97 : Int32))) 1 (nar .char (99 : Int32))) 2 (nar .char (99 : Int32))) 3 (nar .char (101 : Int32))) 4 (nar .char (115 : Int32))) 5 (nar .char (115 : Int32))) 6 (nar .char (66 : Int32))) := own_AI.set Ar105 S105 M105 H105 W106
    have Z106 : n0 ≤ h106.size := Nat.le_trans Z102 (Keep.of_wr W106).1
    have K106 : Keep h0 h106 [] := K102.wr W106 (Or.inr sz_b79)
    have N106 := Fr.snoc X106 N102 g_b79
    refine own_go (S' := T106.setTop (mkF m 151 #[.val (.int p0)] [(.ref b79)])) st106 ?_
    refine own_go (S' := T106.setTop (mkF m 156 #[.val (.int p0)] [(.int (105 : Int32)), (.int (7 : Int32)), (.ref b79), (.ref b79)])) (fun target kt => ?_) ?_
    · skip
      show Steps p.tables e below (T106.setTop (mkF m 151 #[.val (.int p0)] [(.ref b79)])) _
      refine XS.dup X106.here hx rfl (hb hby d2_151) rfl rfl ?_
      show Steps p.tables e below (T106.setTop (mkF m 152 #[.val (.int p0)] [(.ref b79), (.ref b79)])) _
      refine XS.bipush X106.here hx rfl (hb hby d2_152) ?_
      show Steps p.tables e below (T106.setTop (mkF m 154 #[.val (.int p0)] [(.int (7 : Int32)), (.ref b79), (.ref b79)])) _
      refine XS.bipush X106.here hx rfl (hb hby d2_154) ?_
      exact kt
    obtain ⟨c109, Ar109, S109, M109, H109⟩ := id f107
    have hin109 : ¬ ((7 : Int32) < 0 ∨ c109.slots.size ≤ ((7 : Int32)).toNatClampNeg) := own_in S109 ⟨by decide, by decide⟩
    obtain ⟨T110, h110, X110, e110, W110, st110⟩ := stC X106 hx hZ e106 Ar109 (j := (7 : Int32)) hin109 (g := (mkF m 156 #[.val (.int p0)] [(.int (105 : Int32)), (.int (7 : Int32)), (.ref b79), (.ref b79)])) rfl rfl (hb hby d2_156)
    have f112 : Exa Z h110 b79 "[C" := f108.wr W110
    have f111 : own_AI Z h110 b79 .char 14 (own_upd (own_upd (own_upd (own_upd (own_upd (own_upd (own_upd (own_upd (fun _ => 0) 0 (nar .char (97 : Int32))) 1 (nar .char (99 : Int32))) 2 (nar .char (99 : Int32))) 3 (nar .char (101 : Int32))) 4 (nar .char (115 : Int32))) 5 (nar .char (115 : Int32))) 6 (nar .char (66 : Int32))) 7 (nar .char (105 : Int32))) := own_AI.set Ar109 S109 M109 H109 W110
    have Z110 : n0 ≤ h110.size := Nat.le_trans Z106 (Keep.of_wr W110).1
    have K110 : Keep h0 h110 [] := K106.wr W110 (Or.inr sz_b79)
    have N110 := Fr.snoc X110 N106 g_b79
    refine own_go (S' := T110.setTop (mkF m 157 #[.val (.int p0)] [(.ref b79)])) st110 ?_
    refine own_go (S' := T110.setTop (mkF m 162 #[.val (.int p0)] [(.int (110 : Int32)), (.int (8 : Int32)), (.ref b79), (.ref b79)])) (fun target kt => ?_) ?_
    · skip
      show Steps p.tables e below (T110.setTop (mkF m 157 #[.val (.int p0)] [(.ref b79)])) _
      refine XS.dup X110.here hx rfl (hb hby d2_157) rfl rfl ?_
      show Steps p.tables e below (T110.setTop (mkF m 158 #[.val (.int p0)] [(.ref b79), (.ref b79)])) _
      refine XS.bipush X110.here hx rfl (hb hby d2_158) ?_
      show Steps p.tables e below (T110.setTop (mkF m 160 #[.val (.int p0)] [(.int (8 : Int32)), (.ref b79), (.ref b79)])) _
      refine XS.bipush X110.here hx rfl (hb hby d2_160) ?_
      exact kt
    obtain ⟨c113, Ar113, S113, M113, H113⟩ := id f111
    have hin113 : ¬ ((8 : Int32) < 0 ∨ c113.slots.size ≤ ((8 : Int32)).toNatClampNeg) := own_in S113 ⟨by decide, by decide⟩
    obtain ⟨T114, h114, X114, e114, W114, st114⟩ := stC X110 hx hZ e110 Ar113 (j := (8 : Int32)) hin113 (g := (mkF m 162 #[.val (.int p0)] [(.int (110 : Int32)), (.int (8 : Int32)), (.ref b79), (.ref b79)])) rfl rfl (hb hby d2_162)
    have f116 : Exa Z h114 b79 "[C" := f112.wr W114
    have f115 : own_AI Z h114 b79 .char 14 (own_upd (own_upd (own_upd (own_upd (own_upd (own_upd (own_upd (own_upd (own_upd (fun _ => 0) 0 (nar .char (97 : Int32))) 1 (nar .char (99 : Int32))) 2 (nar .char (99 : Int32))) 3 (nar .char (101 : Int32))) 4 (nar .char (115 : Int32))) 5 (nar .char (115 : Int32))) 6 (nar .char (66 : Int32))) 7 (nar .char (105 : Int32))) 8 (nar .char (110 : Int32))) := own_AI.set Ar113 S113 M113 H113 W114
    have Z114 : n0 ≤ h114.size := Nat.le_trans Z110 (Keep.of_wr W114).1
    have K114 : Keep h0 h114 [] := K110.wr W114 (Or.inr sz_b79)
    have N114 := Fr.snoc X114 N110 g_b79
    refine own_go (S' := T114.setTop (mkF m 163 #[.val (.int p0)] [(.ref b79)])) st114 ?_
    refine own_go (S' := T114.setTop (mkF m 168 #[.val (.int p0)] [(.int (100 : Int32)), (.int (9 : Int32)), (.ref b79), (.ref b79)])) (fun target kt => ?_) ?_
    · skip
      show Steps p.tables e below (T114.setTop (mkF m 163 #[.val (.int p0)] [(.ref b79)])) _
      refine XS.dup X114.here hx rfl (hb hby d2_163) rfl rfl ?_
      show Steps p.tables e below (T114.setTop (mkF m 164 #[.val (.int p0)] [(.ref b79), (.ref b79)])) _
      refine XS.bipush X114.here hx rfl (hb hby d2_164) ?_
      show Steps p.tables e below (T114.setTop (mkF m 166 #[.val (.int p0)] [(.int (9 : Int32)), (.ref b79), (.ref b79)])) _
      refine XS.bipush X114.here hx rfl (hb hby d2_166) ?_
      exact kt
    obtain ⟨c117, Ar117, S117, M117, H117⟩ := id f115
    have hin117 : ¬ ((9 : Int32) < 0 ∨ c117.slots.size ≤ ((9 : Int32)).toNatClampNeg) := own_in S117 ⟨by decide, by decide⟩
    obtain ⟨T118, h118, X118, e118, W118, st118⟩ := stC X114 hx hZ e114 Ar117 (j := (9 : Int32)) hin117 (g := (mkF m 168 #[.val (.int p0)] [(.int (100 : Int32)), (.int (9 : Int32)), (.ref b79), (.ref b79)])) rfl rfl (hb hby d2_168)
    have f120 : Exa Z h118 b79 "[C" := f116.wr W118
    have f119 : own_AI Z h118 b79 .char 14 (own_upd (own_upd (own_upd (own_upd (own_upd (own_upd (own_upd (own_upd (own_upd (own_upd (fun _ => 0) 0 (nar .char (97 : Int32))) 1 (nar .char (99 : Int32))) 2 (nar .char (99 : Int32))) 3 (nar .char (101 : Int32))) 4 (nar .char (115 : Int32))) 5 (nar .char (115 : Int32))) 6 (nar .char (66 : Int32))) 7 (nar .char (105 : Int32))) 8 (nar .char (110 : Int32))) 9 (nar .char (100 : Int32))) := own_AI.set Ar117 S117 M117 H117 W118
    have Z118 : n0 ≤ h118.size := Nat.le_trans Z114 (Keep.of_wr W118).1
    have K118 : Keep h0 h118 [] := K114.wr W118 (Or.inr sz_b79)
    have N118 := Fr.snoc X118 N114 g_b79
    refine own_go (S' := T118.setTop (mkF m 169 #[.val (.int p0)] [(.ref b79)])) st118 ?_
    refine own_go (S' := T118.setTop (mkF m 174 #[.val (.int p0)] [(.int (105 : Int32)), (.int (10 : Int32)), (.ref b79), (.ref b79)])) (fun target kt => ?_) ?_
    · skip
      show Steps p.tables e below (T118.setTop (mkF m 169 #[.val (.int p0)] [(.ref b79)])) _
      refine XS.dup X118.here hx rfl (hb hby d2_169) rfl rfl ?_
      show Steps p.tables e below (T118.setTop (mkF m 170 #[.val (.int p0)] [(.ref b79), (.ref b79)])) _
      refine XS.bipush X118.here hx rfl (hb hby d2_170) ?_
      show Steps p.tables e below (T118.setTop (mkF m 172 #[.val (.int p0)] [(.int (10 : Int32)), (.ref b79), (.ref b79)])) _
      refine XS.bipush X118.here hx rfl (hb hby d2_172) ?_
      exact kt
    obtain ⟨c121, Ar121, S121, M121, H121⟩ := id f119
    have hin121 : ¬ ((10 : Int32) < 0 ∨ c121.slots.size ≤ ((10 : Int32)).toNatClampNeg) := own_in S121 ⟨by decide, by decide⟩
    obtain ⟨T122, h122, X122, e122, W122, st122⟩ := stC X118 hx hZ e118 Ar121 (j := (10 : Int32)) hin121 (g := (mkF m 174 #[.val (.int p0)] [(.int (105 : Int32)), (.int (10 : Int32)), (.ref b79), (.ref b79)])) rfl rfl (hb hby d2_174)
    have f124 : Exa Z h122 b79 "[C" := f120.wr W122
    have f123 : own_AI Z h122 b79 .char 14 (own_upd (own_upd (own_upd (own_upd (own_upd (own_upd (own_upd (own_upd (own_upd (own_upd (own_upd (fun _ => 0) 0 (nar .char (97 : Int32))) 1 (nar .char (99 : Int32))) 2 (nar .char (99 : Int32))) 3 (nar .char (101 : Int32))) 4 (nar .char (115 : Int32))) 5 (nar .char (115 : Int32))) 6 (nar .char (66 : Int32))) 7 (nar .char (105 : Int32))) 8 (nar .char (110 : Int32))) 9 (nar .char (100 : Int32))) 10 (nar .char (105 : Int32))) := own_AI.set Ar121 S121 M121 H121 W122
    have Z122 : n0 ≤ h122.size := Nat.le_trans Z118 (Keep.of_wr W122).1
    have K122 : Keep h0 h122 [] := K118.wr W122 (Or.inr sz_b79)
    have N122 := Fr.snoc X122 N118 g_b79
    refine own_go (S' := T122.setTop (mkF m 175 #[.val (.int p0)] [(.ref b79)])) st122 ?_
    refine own_go (S' := T122.setTop (mkF m 180 #[.val (.int p0)] [(.int (110 : Int32)), (.int (11 : Int32)), (.ref b79), (.ref b79)])) (fun target kt => ?_) ?_
    · skip
      show Steps p.tables e below (T122.setTop (mkF m 175 #[.val (.int p0)] [(.ref b79)])) _
      refine XS.dup X122.here hx rfl (hb hby d2_175) rfl rfl ?_
      show Steps p.tables e below (T122.setTop (mkF m 176 #[.val (.int p0)] [(.ref b79), (.ref b79)])) _
      refine XS.bipush X122.here hx rfl (hb hby d2_176) ?_
      show Steps p.tables e below (T122.setTop (mkF m 178 #[.val (.int p0)] [(.int (11 : Int32)), (.ref b79), (.ref b79)])) _
      refine XS.bipush X122.here hx rfl (hb hby d2_178) ?_
      exact kt
    obtain ⟨c125, Ar125, S125, M125, H125⟩ := id f123
    have hin125 : ¬ ((11 : Int32) < 0 ∨ c125.slots.size ≤ ((11 : Int32)).toNatClampNeg) := own_in S125 ⟨by decide, by decide⟩
    obtain ⟨T126, h126, X126, e126, W126, st126⟩ := stC X122 hx hZ e122 Ar125 (j := (11 : Int32)) hin125 (g := (mkF m 180 #[.val (.int p0)] [(.int (110 : Int32)), (.int (11 : Int32)), (.ref b79), (.ref b79)])) rfl rfl (hb hby d2_180)
    have f128 : Exa Z h126 b79 "[C" := f124.wr W126
    have f127 : own_AI Z h126 b79 .char 14 (own_upd (own_upd (own_upd (own_upd (own_upd (own_upd (own_upd (own_upd (own_upd (own_upd (own_upd (own_upd (fun _ => 0) 0 (nar .char (97 : Int32))) 1 (nar .char (99 : Int32))) 2 (nar .char (99 : Int32))) 3 (nar .char (101 : Int32))) 4 (nar .char (115 : Int32))) 5 (nar .char (115 : Int32))) 6 (nar .char (66 : Int32))) 7 (nar .char (105 : Int32))) 8 (nar .char (110 : Int32))) 9 (nar .char (100 : Int32))) 10 (nar .char (105 : Int32))) 11 (nar .char (110 : Int32))) := own_AI.set Ar125 S125 M125 H125 W126
    have Z126 : n0 ≤ h126.size := Nat.le_trans Z122 (Keep.of_wr W126).1
    have K126 : Keep h0 h126 [] := K122.wr W126 (Or.inr sz_b79)
    have N126 := Fr.snoc X126 N122 g_b79
    refine own_go (S' := T126.setTop (mkF m 181 #[.val (.int p0)] [(.ref b79)])) st126 ?_
    refine own_go (S' := T126.setTop (mkF m 186 #[.val (.int p0)] [(.int (103 : Int32)), (.int (12 : Int32)), (.ref b79), (.ref b79)])) (fun target kt => ?_) ?_
    · skip
      show Steps p.tables e below (T126.setTop (mkF m 181 #[.val (.int p0)] [(.ref b79)])) _
      refine XS.dup X126.here hx rfl (hb hby d2_181) rfl rfl ?_
      show Steps p.tables e below (T126.setTop (mkF m 182 #[.val (.int p0)] [(.ref b79), (.ref b79)])) _
      refine XS.bipush X126.here hx rfl (hb hby d2_182) ?_
      show Steps p.tables e below (T126.setTop (mkF m 184 #[.val (.int p0)] [(.int (12 : Int32)), (.ref b79), (.ref b79)])) _
      refine XS.bipush X126.here hx rfl (hb hby d2_184) ?_
      exact kt
    obtain ⟨c129, Ar129, S129, M129, H129⟩ := id f127
    have hin129 : ¬ ((12 : Int32) < 0 ∨ c129.slots.size ≤ ((12 : Int32)).toNatClampNeg) := own_in S129 ⟨by decide, by decide⟩
    obtain ⟨T130, h130, X130, e130, W130, st130⟩ := stC X126 hx hZ e126 Ar129 (j := (12 : Int32)) hin129 (g := (mkF m 186 #[.val (.int p0)] [(.int (103 : Int32)), (.int (12 : Int32)), (.ref b79), (.ref b79)])) rfl rfl (hb hby d2_186)
    have f132 : Exa Z h130 b79 "[C" := f128.wr W130
    have f131 : own_AI Z h130 b79 .char 14 (own_upd (own_upd (own_upd (own_upd (own_upd (own_upd (own_upd (own_upd (own_upd (own_upd (own_upd (own_upd (own_upd (fun _ => 0) 0 (nar .char (97 : Int32))) 1 (nar .char (99 : Int32))) 2 (nar .char (99 : Int32))) 3 (nar .char (101 : Int32))) 4 (nar .char (115 : Int32))) 5 (nar .char (115 : Int32))) 6 (nar .char (66 : Int32))) 7 (nar .char (105 : Int32))) 8 (nar .char (110 : Int32))) 9 (nar .char (100 : Int32))) 10 (nar .char (105 : Int32))) 11 (nar .char (110 : Int32))) 12 (nar .char (103 : Int32))) := own_AI.set Ar129 S129 M129 H129 W130
    have Z130 : n0 ≤ h130.size := Nat.le_trans Z126 (Keep.of_wr W130).1
    have K130 : Keep h0 h130 [] := K126.wr W130 (Or.inr sz_b79)
    have N130 := Fr.snoc X130 N126 g_b79
    refine own_go (S' := T130.setTop (mkF m 187 #[.val (.int p0)] [(.ref b79)])) st130 ?_
    refine own_go (S' := T130.setTop (mkF m 192 #[.val (.int p0)] [(.int (115 : Int32)), (.int (13 : Int32)), (.ref b79), (.ref b79)])) (fun target kt => ?_) ?_
    · skip
      show Steps p.tables e below (T130.setTop (mkF m 187 #[.val (.int p0)] [(.ref b79)])) _
      refine XS.dup X130.here hx rfl (hb hby d2_187) rfl rfl ?_
      show Steps p.tables e below (T130.setTop (mkF m 188 #[.val (.int p0)] [(.ref b79), (.ref b79)])) _
      refine XS.bipush X130.here hx rfl (hb hby d2_188) ?_
      show Steps p.tables e below (T130.setTop (mkF m 190 #[.val (.int p0)] [(.int (13 : Int32)), (.ref b79), (.ref b79)])) _
      refine XS.bipush X130.here hx rfl (hb hby d2_190) ?_
      exact kt
    obtain ⟨c133, Ar133, S133, M133, H133⟩ := id f131
    have hin133 : ¬ ((13 : Int32) < 0 ∨ c133.slots.size ≤ ((13 : Int32)).toNatClampNeg) := own_in S133 ⟨by decide, by decide⟩
    obtain ⟨T134, h134, X134, e134, W134, st134⟩ := stC X130 hx hZ e130 Ar133 (j := (13 : Int32)) hin133 (g := (mkF m 192 #[.val (.int p0)] [(.int (115 : Int32)), (.int (13 : Int32)), (.ref b79), (.ref b79)])) rfl rfl (hb hby d2_192)
    have f136 : Exa Z h134 b79 "[C" := f132.wr W134
    have f135 : own_AI Z h134 b79 .char 14 (own_upd (own_upd (own_upd (own_upd (own_upd (own_upd (own_upd (own_upd (own_upd (own_upd (own_upd (own_upd (own_upd (own_upd (fun _ => 0) 0 (nar .char (97 : Int32))) 1 (nar .char (99 : Int32))) 2 (nar .char (99 : Int32))) 3 (nar .char (101 : Int32))) 4 (nar .char (115 : Int32))) 5 (nar .char (115 : Int32))) 6 (nar .char (66 : Int32))) 7 (nar .char (105 : Int32))) 8 (nar .char (110 : Int32))) 9 (nar .char (100 : Int32))) 10 (nar .char (105 : Int32))) 11 (nar .char (110 : Int32))) 12 (nar .char (103 : Int32))) 13 (nar .char (115 : Int32))) := own_AI.set Ar133 S133 M133 H133 W134
    have Z134 : n0 ≤ h134.size := Nat.le_trans Z130 (Keep.of_wr W134).1
    have K134 : Keep h0 h134 [] := K130.wr W134 (Or.inr sz_b79)
    have N134 := Fr.snoc X134 N130 g_b79
    refine own_go (S' := T134.setTop (mkF m 193 #[.val (.int p0)] [(.ref b79)])) st134 ?_
    obtain ⟨fs, hr, hrun, hended, hW, hsame⟩ := X134.leave (v := some (.ref b79)) (fun h => by rw [Bd.returns] at h; cases h)
    refine ⟨_, _, ?_, hrun, hended, _, _, rfl, ?_, ⟨_, rfl⟩, hW, hsame.mono (by decide) (by decide)⟩
    · exact retA X134 hx Bd.returns rfl (hb hby d2_193) rfl hr
    · show Q2 Z p0 h0 n0 _ T134.heap _
      rw [e134]
      exact ⟨b79, 14, (own_upd (own_upd (own_upd (own_upd (own_upd (own_upd (own_upd (own_upd (own_upd (own_upd (own_upd (own_upd (own_upd (own_upd (fun _ => 0) 0 (nar .char (97 : Int32))) 1 (nar .char (99 : Int32))) 2 (nar .char (99 : Int32))) 3 (nar .char (101 : Int32))) 4 (nar .char (115 : Int32))) 5 (nar .char (115 : Int32))) 6 (nar .char (66 : Int32))) 7 (nar .char (105 : Int32))) 8 (nar .char (110 : Int32))) 9 (nar .char (100 : Int32))) 10 (nar .char (105 : Int32))) 11 (nar .char (110 : Int32))) 12 (nar .char (103 : Int32))) 13 (nar .char (115 : Int32))), rfl, N134, K134, f135, f136, sz_b79, Or.inr ⟨hc1, rfl, by decide +kernel⟩⟩
theorem d12_0 : decode method_3_code 0 = .ok (.iload_n 0, 1) := by decide +kernel
theorem d12_1 : decode method_3_code 1 = .ok (.ifCond .ne 115, 3) := by decide +kernel
theorem d12_4 : decode method_3_code 4 = .ok (.bipush 19, 2) := by decide +kernel
theorem d12_6 : decode method_3_code 6 = .ok (.newarray .char, 2) := by decide +kernel
theorem d12_8 : decode method_3_code 8 = .ok (.dup, 1) := by decide +kernel
theorem d12_9 : decode method_3_code 9 = .ok (.iconst 0, 1) := by decide +kernel
theorem d12_10 : decode method_3_code 10 = .ok (.bipush 108, 2) := by decide +kernel
theorem d12_12 : decode method_3_code 12 = .ok (.castore, 1) := by decide +kernel
theorem d12_13 : decode method_3_code 13 = .ok (.dup, 1) := by decide +kernel
theorem d12_14 : decode method_3_code 14 = .ok (.iconst 1, 1) := by decide +kernel
theorem d12_15 : decode method_3_code 15 = .ok (.bipush 105, 2) := by decide +kernel
theorem d12_17 : decode method_3_code 17 = .ok (.castore, 1) := by decide +kernel
theorem d12_18 : decode method_3_code 18 = .ok (.dup, 1) := by decide +kernel
theorem d12_19 : decode method_3_code 19 = .ok (.iconst 2, 1) := by decide +kernel
theorem d12_20 : decode method_3_code 20 = .ok (.bipush 115, 2) := by decide +kernel
theorem d12_22 : decode method_3_code 22 = .ok (.castore, 1) := by decide +kernel
theorem d12_23 : decode method_3_code 23 = .ok (.dup, 1) := by decide +kernel
theorem d12_24 : decode method_3_code 24 = .ok (.iconst 3, 1) := by decide +kernel
theorem d12_25 : decode method_3_code 25 = .ok (.bipush 116, 2) := by decide +kernel
theorem d12_27 : decode method_3_code 27 = .ok (.castore, 1) := by decide +kernel
theorem d12_28 : decode method_3_code 28 = .ok (.dup, 1) := by decide +kernel
theorem d12_29 : decode method_3_code 29 = .ok (.iconst 4, 1) := by decide +kernel
theorem d12_30 : decode method_3_code 30 = .ok (.bipush 65, 2) := by decide +kernel
theorem d12_32 : decode method_3_code 32 = .ok (.castore, 1) := by decide +kernel
theorem d12_33 : decode method_3_code 33 = .ok (.dup, 1) := by decide +kernel
theorem d12_34 : decode method_3_code 34 = .ok (.iconst 5, 1) := by decide +kernel
theorem d12_35 : decode method_3_code 35 = .ok (.bipush 99, 2) := by decide +kernel
theorem d12_37 : decode method_3_code 37 = .ok (.castore, 1) := by decide +kernel
theorem d12_38 : decode method_3_code 38 = .ok (.dup, 1) := by decide +kernel
theorem d12_39 : decode method_3_code 39 = .ok (.bipush 6, 2) := by decide +kernel
theorem d12_41 : decode method_3_code 41 = .ok (.bipush 99, 2) := by decide +kernel
theorem d12_43 : decode method_3_code 43 = .ok (.castore, 1) := by decide +kernel
theorem d12_44 : decode method_3_code 44 = .ok (.dup, 1) := by decide +kernel
theorem d12_45 : decode method_3_code 45 = .ok (.bipush 7, 2) := by decide +kernel
theorem d12_47 : decode method_3_code 47 = .ok (.bipush 101, 2) := by decide +kernel
theorem d12_49 : decode method_3_code 49 = .ok (.castore, 1) := by decide +kernel
theorem d12_50 : decode method_3_code 50 = .ok (.dup, 1) := by decide +kernel
theorem d12_51 : decode method_3_code 51 = .ok (.bipush 8, 2) := by decide +kernel
theorem d12_53 : decode method_3_code 53 = .ok (.bipush 115, 2) := by decide +kernel
theorem d12_55 : decode method_3_code 55 = .ok (.castore, 1) := by decide +kernel
theorem d12_56 : decode method_3_code 56 = .ok (.dup, 1) := by decide +kernel
theorem d12_57 : decode method_3_code 57 = .ok (.bipush 9, 2) := by decide +kernel
theorem d12_59 : decode method_3_code 59 = .ok (.bipush 115, 2) := by decide +kernel
theorem d12_61 : decode method_3_code 61 = .ok (.castore, 1) := by decide +kernel
theorem d12_62 : decode method_3_code 62 = .ok (.dup, 1) := by decide +kernel
theorem d12_63 : decode method_3_code 63 = .ok (.bipush 10, 2) := by decide +kernel
theorem d12_65 : decode method_3_code 65 = .ok (.bipush 66, 2) := by decide +kernel
theorem d12_67 : decode method_3_code 67 = .ok (.castore, 1) := by decide +kernel
theorem d12_68 : decode method_3_code 68 = .ok (.dup, 1) := by decide +kernel
theorem d12_69 : decode method_3_code 69 = .ok (.bipush 11, 2) := by decide +kernel
theorem d12_71 : decode method_3_code 71 = .ok (.bipush 105, 2) := by decide +kernel
theorem d12_73 : decode method_3_code 73 = .ok (.castore, 1) := by decide +kernel
theorem d12_74 : decode method_3_code 74 = .ok (.dup, 1) := by decide +kernel
theorem d12_75 : decode method_3_code 75 = .ok (.bipush 12, 2) := by decide +kernel
theorem d12_77 : decode method_3_code 77 = .ok (.bipush 110, 2) := by decide +kernel
theorem d12_79 : decode method_3_code 79 = .ok (.castore, 1) := by decide +kernel
theorem d12_80 : decode method_3_code 80 = .ok (.dup, 1) := by decide +kernel
theorem d12_81 : decode method_3_code 81 = .ok (.bipush 13, 2) := by decide +kernel
theorem d12_83 : decode method_3_code 83 = .ok (.bipush 100, 2) := by decide +kernel
theorem d12_85 : decode method_3_code 85 = .ok (.castore, 1) := by decide +kernel
theorem d12_86 : decode method_3_code 86 = .ok (.dup, 1) := by decide +kernel
theorem d12_87 : decode method_3_code 87 = .ok (.bipush 14, 2) := by decide +kernel
theorem d12_89 : decode method_3_code 89 = .ok (.bipush 105, 2) := by decide +kernel
theorem d12_91 : decode method_3_code 91 = .ok (.castore, 1) := by decide +kernel
theorem d12_92 : decode method_3_code 92 = .ok (.dup, 1) := by decide +kernel
theorem d12_93 : decode method_3_code 93 = .ok (.bipush 15, 2) := by decide +kernel
theorem d12_95 : decode method_3_code 95 = .ok (.bipush 110, 2) := by decide +kernel
theorem d12_97 : decode method_3_code 97 = .ok (.castore, 1) := by decide +kernel
theorem d12_98 : decode method_3_code 98 = .ok (.dup, 1) := by decide +kernel
theorem d12_99 : decode method_3_code 99 = .ok (.bipush 16, 2) := by decide +kernel
theorem d12_101 : decode method_3_code 101 = .ok (.bipush 103, 2) := by decide +kernel
theorem d12_103 : decode method_3_code 103 = .ok (.castore, 1) := by decide +kernel
theorem d12_104 : decode method_3_code 104 = .ok (.dup, 1) := by decide +kernel
theorem d12_105 : decode method_3_code 105 = .ok (.bipush 17, 2) := by decide +kernel
theorem d12_107 : decode method_3_code 107 = .ok (.bipush 115, 2) := by decide +kernel
theorem d12_109 : decode method_3_code 109 = .ok (.castore, 1) := by decide +kernel
theorem d12_110 : decode method_3_code 110 = .ok (.dup, 1) := by decide +kernel
theorem d12_111 : decode method_3_code 111 = .ok (.bipush 18, 2) := by decide +kernel
theorem d12_113 : decode method_3_code 113 = .ok (.iload_n 1, 1) := by decide +kernel
theorem d12_114 : decode method_3_code 114 = .ok (.castore, 1) := by decide +kernel
theorem d12_115 : decode method_3_code 115 = .ok (.areturn, 1) := by decide +kernel
theorem d12_116 : decode method_3_code 116 = .ok (.bipush 15, 2) := by decide +kernel
theorem d12_118 : decode method_3_code 118 = .ok (.newarray .char, 2) := by decide +kernel
theorem d12_120 : decode method_3_code 120 = .ok (.dup, 1) := by decide +kernel
theorem d12_121 : decode method_3_code 121 = .ok (.iconst 0, 1) := by decide +kernel
theorem d12_122 : decode method_3_code 122 = .ok (.bipush 97, 2) := by decide +kernel
theorem d12_124 : decode method_3_code 124 = .ok (.castore, 1) := by decide +kernel
theorem d12_125 : decode method_3_code 125 = .ok (.dup, 1) := by decide +kernel
theorem d12_126 : decode method_3_code 126 = .ok (.iconst 1, 1) := by decide +kernel
theorem d12_127 : decode method_3_code 127 = .ok (.bipush 99, 2) := by decide +kernel
theorem d12_129 : decode method_3_code 129 = .ok (.castore, 1) := by decide +kernel
theorem d12_130 : decode method_3_code 130 = .ok (.dup, 1) := by decide +kernel
theorem d12_131 : decode method_3_code 131 = .ok (.iconst 2, 1) := by decide +kernel
theorem d12_132 : decode method_3_code 132 = .ok (.bipush 99, 2) := by decide +kernel
theorem d12_134 : decode method_3_code 134 = .ok (.castore, 1) := by decide +kernel
theorem d12_135 : decode method_3_code 135 = .ok (.dup, 1) := by decide +kernel
theorem d12_136 : decode method_3_code 136 = .ok (.iconst 3, 1) := by decide +kernel
theorem d12_137 : decode method_3_code 137 = .ok (.bipush 101, 2) := by decide +kernel
theorem d12_139 : decode method_3_code 139 = .ok (.castore, 1) := by decide +kernel
theorem d12_140 : decode method_3_code 140 = .ok (.dup, 1) := by decide +kernel
theorem d12_141 : decode method_3_code 141 = .ok (.iconst 4, 1) := by decide +kernel
theorem d12_142 : decode method_3_code 142 = .ok (.bipush 115, 2) := by decide +kernel
theorem d12_144 : decode method_3_code 144 = .ok (.castore, 1) := by decide +kernel
theorem d12_145 : decode method_3_code 145 = .ok (.dup, 1) := by decide +kernel
theorem d12_146 : decode method_3_code 146 = .ok (.iconst 5, 1) := by decide +kernel
theorem d12_147 : decode method_3_code 147 = .ok (.bipush 115, 2) := by decide +kernel
theorem d12_149 : decode method_3_code 149 = .ok (.castore, 1) := by decide +kernel
theorem d12_150 : decode method_3_code 150 = .ok (.dup, 1) := by decide +kernel
theorem d12_151 : decode method_3_code 151 = .ok (.bipush 6, 2) := by decide +kernel
theorem d12_153 : decode method_3_code 153 = .ok (.bipush 66, 2) := by decide +kernel
theorem d12_155 : decode method_3_code 155 = .ok (.castore, 1) := by decide +kernel
theorem d12_156 : decode method_3_code 156 = .ok (.dup, 1) := by decide +kernel
theorem d12_157 : decode method_3_code 157 = .ok (.bipush 7, 2) := by decide +kernel
theorem d12_159 : decode method_3_code 159 = .ok (.bipush 105, 2) := by decide +kernel
theorem d12_161 : decode method_3_code 161 = .ok (.castore, 1) := by decide +kernel
theorem d12_162 : decode method_3_code 162 = .ok (.dup, 1) := by decide +kernel
theorem d12_163 : decode method_3_code 163 = .ok (.bipush 8, 2) := by decide +kernel
theorem d12_165 : decode method_3_code 165 = .ok (.bipush 110, 2) := by decide +kernel
theorem d12_167 : decode method_3_code 167 = .ok (.castore, 1) := by decide +kernel
theorem d12_168 : decode method_3_code 168 = .ok (.dup, 1) := by decide +kernel
theorem d12_169 : decode method_3_code 169 = .ok (.bipush 9, 2) := by decide +kernel
theorem d12_171 : decode method_3_code 171 = .ok (.bipush 100, 2) := by decide +kernel
theorem d12_173 : decode method_3_code 173 = .ok (.castore, 1) := by decide +kernel
theorem d12_174 : decode method_3_code 174 = .ok (.dup, 1) := by decide +kernel
theorem d12_175 : decode method_3_code 175 = .ok (.bipush 10, 2) := by decide +kernel
theorem d12_177 : decode method_3_code 177 = .ok (.bipush 105, 2) := by decide +kernel
theorem d12_179 : decode method_3_code 179 = .ok (.castore, 1) := by decide +kernel
theorem d12_180 : decode method_3_code 180 = .ok (.dup, 1) := by decide +kernel
theorem d12_181 : decode method_3_code 181 = .ok (.bipush 11, 2) := by decide +kernel
theorem d12_183 : decode method_3_code 183 = .ok (.bipush 110, 2) := by decide +kernel
theorem d12_185 : decode method_3_code 185 = .ok (.castore, 1) := by decide +kernel
theorem d12_186 : decode method_3_code 186 = .ok (.dup, 1) := by decide +kernel
theorem d12_187 : decode method_3_code 187 = .ok (.bipush 12, 2) := by decide +kernel
theorem d12_189 : decode method_3_code 189 = .ok (.bipush 103, 2) := by decide +kernel
theorem d12_191 : decode method_3_code 191 = .ok (.castore, 1) := by decide +kernel
theorem d12_192 : decode method_3_code 192 = .ok (.dup, 1) := by decide +kernel
theorem d12_193 : decode method_3_code 193 = .ok (.bipush 13, 2) := by decide +kernel
theorem d12_195 : decode method_3_code 195 = .ok (.bipush 115, 2) := by decide +kernel
theorem d12_197 : decode method_3_code 197 = .ok (.castore, 1) := by decide +kernel
theorem d12_198 : decode method_3_code 198 = .ok (.dup, 1) := by decide +kernel
theorem d12_199 : decode method_3_code 199 = .ok (.bipush 14, 2) := by decide +kernel
theorem d12_201 : decode method_3_code 201 = .ok (.iload_n 1, 1) := by decide +kernel
theorem d12_202 : decode method_3_code 202 = .ok (.castore, 1) := by decide +kernel
theorem d12_203 : decode method_3_code 203 = .ok (.areturn, 1) := by decide +kernel
set_option maxHeartbeats 40000000 in
theorem own_ef_rm12 (m : MethodId) (x0 : Int32) (x1 : Int32) : entryFrame m #[(.int x0), (.int x1)] 2 = mkF m 0 #[.val (.int x0), .val (.int x1)] [] := by first | (simp [entryFrame, mkF, argsToLocals, Value.category]; done) | rfl
def Q12 (Z : State) (p0 : Int32) (p1 : Int32) (h0 : Heap) (n0 : Nat) (v : Option Value) (h : Heap) (L : List Loc) : Prop := ∃ bb : Addr, ∃ nb : Nat, ∃ gb : Nat → Int32, v = some (.ref bb) ∧ Fr n0 L ∧ Keep h0 h [] ∧ own_AI Z h bb .char nb gb ∧ Exa Z h bb "[C" ∧ h0.size ≤ bb ∧ own_isX p0 p1 nb gb
set_option maxRecDepth 65536 in
set_option maxHeartbeats 40000000 in
theorem rm12 (l : Launch) (Z : State) (aZ : Array Value) (hw : ∀ d ∈ tables_1, d.before aZ Z = true) (ws : List Jvm.Cond) (p0 : Int32) (p1 : Int32) (h0 : Heap) (n0 : Nat) (Z0 : n0 ≤ h0.size) :
    MetFree l (⟨"com/example/access_bindings/accessbindings/server/RestResourceListsBindingsAtPinLaw", "extended", "(IC)[C"⟩ : MethodName) (head1 (Jvm.Cond.code (⟨"com/example/access_bindings/accessbindings/server/RestResourceListsBindingsAtPinLaw", "extended", "(IC)[C"⟩ : MethodName) method_3_code 2 (some (.array .char)) :: ws) ({ frames := 0, cells := 1, slots := 19, locals := 0 } : Room)) (fun a U => a = #[(.int p0), (.int p1)] ∧ Z.Warmed39 U.vm ∧ U.heap = h0) (fun _ _ _ _ _ => True) (fun _ U o U' => ∃ v L, o = .returned v ∧ Q12 Z p0 p1 h0 n0 v U'.heap L ∧ FrameEnd U o U' L ({ frames := 0, cells := 1, slots := 19, locals := 0 } : Room).cells ({ frames := 0, cells := 1, slots := 19, locals := 0 } : Room).slots) := by
  refine MetFree.of_bodySF (plainFor_of_name own_pn0) hisR ?_
  intro p e s m args below meth c s₁ Bd hml0 hP hK
  obtain ⟨rfl, hZ, hh⟩ := hP
  have hx := Bd.exec
  have hby := Bd.bytes
  have hml : c.maxLocals = 2 := hml0
  have hown : s.vm.findClass "com/example/access_bindings/accessbindings/server/RestResourceListsBindingsAtPinLaw" = some m.cls := findClass_of_methodNamed Bd.named
  have hnm := (name_of_methodNamed Bd.named Bd.method).1
  have X0 : Stand p l e ({ frames := 0, cells := 1, slots := 19, locals := 0 } : Room) s m #[(.int p0), (.int p1)] below meth c s₁ [] 0 0 := Stand.of_body Bd
  have e0 : s₁.heap = h0 := by rw [← hh, Bd.state]; rfl
  have N0 := Fr.nil n0
  have K0 : Keep h0 h0 [] := Keep.refl h0 _
  refine own_go (S' := s₁.setTop (mkF m 0 #[.val (.int p0), .val (.int p1)] [])) (fun tt0 kk0 => castTop (own_ef_rm12 m p0 p1) kk0) ?_
  refine own_go (S' := s₁.setTop (mkF m 1 #[.val (.int p0), .val (.int p1)] [(.int p0)])) (fun target kt => ?_) ?_
  · skip
    show Steps p.tables e below (s₁.setTop (mkF m 0 #[.val (.int p0), .val (.int p1)] [])) _
    refine XS.iloadN X0.here hx rfl (hb hby d12_0) rfl ?_
    exact kt
  by_cases hc1 : p0 = (0 : Int32)
  · skip
    refine own_go (S' := s₁.setTop (mkF m 6 #[.val (.int p0), .val (.int p1)] [(.int (19 : Int32))])) (fun target kt => ?_) ?_
    · skip
      show Steps p.tables e below (s₁.setTop (mkF m 1 #[.val (.int p0), .val (.int p1)] [(.int p0)])) _
      refine XS.ifNo X0.here hx rfl (hb hby d12_1) rfl ((if0 _ _).trans (teq hc1).2) ?_
      show Steps p.tables e below (s₁.setTop (mkF m 4 #[.val (.int p0), .val (.int p1)] [])) _
      refine XS.bipush X0.here hx rfl (hb hby d12_4) ?_
      exact kt
    obtain ⟨T137, h137, k137, X137, e137, E137, A137, B137, st137⟩ := newPE X0 hx hZ (hw _ (List.mem_of_getElem? (i := 10) rfl)) e0 (g := (mkF m 6 #[.val (.int p0), .val (.int p1)] [(.int (19 : Int32))])) rfl (hb hby d12_6) rfl (by decide) (cap := 19) (by decide) (by decide) (by decide) (by decide) (ad := "[C") (by decide)
    obtain ⟨b137, g137⟩ : ∃ z, z = h0.size := ⟨_, rfl⟩
    rw [← g137] at A137 B137 st137
    have g_b137 : n0 ≤ b137 := Nat.le_trans Z0 (Nat.le_of_eq g137.symm)
    have sz_b137 : h0.size ≤ b137 := Nat.le_trans K0.1 (Nat.le_of_eq g137.symm)
    have Z137 : n0 ≤ h137.size := Nat.le_trans Z0 E137.1
    have K137 : Keep h0 h137 [] := K0.ext E137
    have f138 : own_AI Z h137 b137 .char 19 (fun _ => 0) := own_AI.fresh A137 rfl
    refine own_go (S' := T137.setTop (mkF m 8 #[.val (.int p0), .val (.int p1)] [(.ref b137)])) st137 ?_
    refine own_go (S' := T137.setTop (mkF m 12 #[.val (.int p0), .val (.int p1)] [(.int (108 : Int32)), (.int (0 : Int32)), (.ref b137), (.ref b137)])) (fun target kt => ?_) ?_
    · skip
      show Steps p.tables e below (T137.setTop (mkF m 8 #[.val (.int p0), .val (.int p1)] [(.ref b137)])) _
      refine XS.dup X137.here hx rfl (hb hby d12_8) rfl rfl ?_
      show Steps p.tables e below (T137.setTop (mkF m 9 #[.val (.int p0), .val (.int p1)] [(.ref b137), (.ref b137)])) _
      refine XS.iconst X137.here hx rfl (hb hby d12_9) ?_
      show Steps p.tables e below (T137.setTop (mkF m 10 #[.val (.int p0), .val (.int p1)] [(.int (0 : Int32)), (.ref b137), (.ref b137)])) _
      refine XS.bipush X137.here hx rfl (hb hby d12_10) ?_
      exact kt
    obtain ⟨c139, Ar139, S139, M139, H139⟩ := id f138
    have hin139 : ¬ ((0 : Int32) < 0 ∨ c139.slots.size ≤ ((0 : Int32)).toNatClampNeg) := own_in S139 ⟨by decide, by decide⟩
    obtain ⟨T140, h140, X140, e140, W140, st140⟩ := stC X137 hx hZ e137 Ar139 (j := (0 : Int32)) hin139 (g := (mkF m 12 #[.val (.int p0), .val (.int p1)] [(.int (108 : Int32)), (.int (0 : Int32)), (.ref b137), (.ref b137)])) rfl rfl (hb hby d12_12)
    have f142 : Exa Z h140 b137 "[C" := B137.wr W140
    have f141 : own_AI Z h140 b137 .char 19 (own_upd (fun _ => 0) 0 (nar .char (108 : Int32))) := own_AI.set Ar139 S139 M139 H139 W140
    have Z140 : n0 ≤ h140.size := Nat.le_trans Z137 (Keep.of_wr W140).1
    have K140 : Keep h0 h140 [] := K137.wr W140 (Or.inr sz_b137)
    have N140 := Fr.snoc X140 N0 g_b137
    refine own_go (S' := T140.setTop (mkF m 13 #[.val (.int p0), .val (.int p1)] [(.ref b137)])) st140 ?_
    refine own_go (S' := T140.setTop (mkF m 17 #[.val (.int p0), .val (.int p1)] [(.int (105 : Int32)), (.int (1 : Int32)), (.ref b137), (.ref b137)])) (fun target kt => ?_) ?_
    · skip
      show Steps p.tables e below (T140.setTop (mkF m 13 #[.val (.int p0), .val (.int p1)] [(.ref b137)])) _
      refine XS.dup X140.here hx rfl (hb hby d12_13) rfl rfl ?_
      show Steps p.tables e below (T140.setTop (mkF m 14 #[.val (.int p0), .val (.int p1)] [(.ref b137), (.ref b137)])) _
      refine XS.iconst X140.here hx rfl (hb hby d12_14) ?_
      show Steps p.tables e below (T140.setTop (mkF m 15 #[.val (.int p0), .val (.int p1)] [(.int (1 : Int32)), (.ref b137), (.ref b137)])) _
      refine XS.bipush X140.here hx rfl (hb hby d12_15) ?_
      exact kt
    obtain ⟨c143, Ar143, S143, M143, H143⟩ := id f141
    have hin143 : ¬ ((1 : Int32) < 0 ∨ c143.slots.size ≤ ((1 : Int32)).toNatClampNeg) := own_in S143 ⟨by decide, by decide⟩
    obtain ⟨T144, h144, X144, e144, W144, st144⟩ := stC X140 hx hZ e140 Ar143 (j := (1 : Int32)) hin143 (g := (mkF m 17 #[.val (.int p0), .val (.int p1)] [(.int (105 : Int32)), (.int (1 : Int32)), (.ref b137), (.ref b137)])) rfl rfl (hb hby d12_17)
    have f146 : Exa Z h144 b137 "[C" := f142.wr W144
    have f145 : own_AI Z h144 b137 .char 19 (own_upd (own_upd (fun _ => 0) 0 (nar .char (108 : Int32))) 1 (nar .char (105 : Int32))) := own_AI.set Ar143 S143 M143 H143 W144
    have Z144 : n0 ≤ h144.size := Nat.le_trans Z140 (Keep.of_wr W144).1
    have K144 : Keep h0 h144 [] := K140.wr W144 (Or.inr sz_b137)
    have N144 := Fr.snoc X144 N140 g_b137
    refine own_go (S' := T144.setTop (mkF m 18 #[.val (.int p0), .val (.int p1)] [(.ref b137)])) st144 ?_
    refine own_go (S' := T144.setTop (mkF m 22 #[.val (.int p0), .val (.int p1)] [(.int (115 : Int32)), (.int (2 : Int32)), (.ref b137), (.ref b137)])) (fun target kt => ?_) ?_
    · skip
      show Steps p.tables e below (T144.setTop (mkF m 18 #[.val (.int p0), .val (.int p1)] [(.ref b137)])) _
      refine XS.dup X144.here hx rfl (hb hby d12_18) rfl rfl ?_
      show Steps p.tables e below (T144.setTop (mkF m 19 #[.val (.int p0), .val (.int p1)] [(.ref b137), (.ref b137)])) _
      refine XS.iconst X144.here hx rfl (hb hby d12_19) ?_
      show Steps p.tables e below (T144.setTop (mkF m 20 #[.val (.int p0), .val (.int p1)] [(.int (2 : Int32)), (.ref b137), (.ref b137)])) _
      refine XS.bipush X144.here hx rfl (hb hby d12_20) ?_
      exact kt
    obtain ⟨c147, Ar147, S147, M147, H147⟩ := id f145
    have hin147 : ¬ ((2 : Int32) < 0 ∨ c147.slots.size ≤ ((2 : Int32)).toNatClampNeg) := own_in S147 ⟨by decide, by decide⟩
    obtain ⟨T148, h148, X148, e148, W148, st148⟩ := stC X144 hx hZ e144 Ar147 (j := (2 : Int32)) hin147 (g := (mkF m 22 #[.val (.int p0), .val (.int p1)] [(.int (115 : Int32)), (.int (2 : Int32)), (.ref b137), (.ref b137)])) rfl rfl (hb hby d12_22)
    have f150 : Exa Z h148 b137 "[C" := f146.wr W148
    have f149 : own_AI Z h148 b137 .char 19 (own_upd (own_upd (own_upd (fun _ => 0) 0 (nar .char (108 : Int32))) 1 (nar .char (105 : Int32))) 2 (nar .char (115 : Int32))) := own_AI.set Ar147 S147 M147 H147 W148
    have Z148 : n0 ≤ h148.size := Nat.le_trans Z144 (Keep.of_wr W148).1
    have K148 : Keep h0 h148 [] := K144.wr W148 (Or.inr sz_b137)
    have N148 := Fr.snoc X148 N144 g_b137
    refine own_go (S' := T148.setTop (mkF m 23 #[.val (.int p0), .val (.int p1)] [(.ref b137)])) st148 ?_
    refine own_go (S' := T148.setTop (mkF m 27 #[.val (.int p0), .val (.int p1)] [(.int (116 : Int32)), (.int (3 : Int32)), (.ref b137), (.ref b137)])) (fun target kt => ?_) ?_
    · skip
      show Steps p.tables e below (T148.setTop (mkF m 23 #[.val (.int p0), .val (.int p1)] [(.ref b137)])) _
      refine XS.dup X148.here hx rfl (hb hby d12_23) rfl rfl ?_
      show Steps p.tables e below (T148.setTop (mkF m 24 #[.val (.int p0), .val (.int p1)] [(.ref b137), (.ref b137)])) _
      refine XS.iconst X148.here hx rfl (hb hby d12_24) ?_
      show Steps p.tables e below (T148.setTop (mkF m 25 #[.val (.int p0), .val (.int p1)] [(.int (3 : Int32)), (.ref b137), (.ref b137)])) _
      refine XS.bipush X148.here hx rfl (hb hby d12_25) ?_
      exact kt
    obtain ⟨c151, Ar151, S151, M151, H151⟩ := id f149
    have hin151 : ¬ ((3 : Int32) < 0 ∨ c151.slots.size ≤ ((3 : Int32)).toNatClampNeg) := own_in S151 ⟨by decide, by decide⟩
    obtain ⟨T152, h152, X152, e152, W152, st152⟩ := stC X148 hx hZ e148 Ar151 (j := (3 : Int32)) hin151 (g := (mkF m 27 #[.val (.int p0), .val (.int p1)] [(.int (116 : Int32)), (.int (3 : Int32)), (.ref b137), (.ref b137)])) rfl rfl (hb hby d12_27)
    have f154 : Exa Z h152 b137 "[C" := f150.wr W152
    have f153 : own_AI Z h152 b137 .char 19 (own_upd (own_upd (own_upd (own_upd (fun _ => 0) 0 (nar .char (108 : Int32))) 1 (nar .char (105 : Int32))) 2 (nar .char (115 : Int32))) 3 (nar .char (116 : Int32))) := own_AI.set Ar151 S151 M151 H151 W152
    have Z152 : n0 ≤ h152.size := Nat.le_trans Z148 (Keep.of_wr W152).1
    have K152 : Keep h0 h152 [] := K148.wr W152 (Or.inr sz_b137)
    have N152 := Fr.snoc X152 N148 g_b137
    refine own_go (S' := T152.setTop (mkF m 28 #[.val (.int p0), .val (.int p1)] [(.ref b137)])) st152 ?_
    refine own_go (S' := T152.setTop (mkF m 32 #[.val (.int p0), .val (.int p1)] [(.int (65 : Int32)), (.int (4 : Int32)), (.ref b137), (.ref b137)])) (fun target kt => ?_) ?_
    · skip
      show Steps p.tables e below (T152.setTop (mkF m 28 #[.val (.int p0), .val (.int p1)] [(.ref b137)])) _
      refine XS.dup X152.here hx rfl (hb hby d12_28) rfl rfl ?_
      show Steps p.tables e below (T152.setTop (mkF m 29 #[.val (.int p0), .val (.int p1)] [(.ref b137), (.ref b137)])) _
      refine XS.iconst X152.here hx rfl (hb hby d12_29) ?_
      show Steps p.tables e below (T152.setTop (mkF m 30 #[.val (.int p0), .val (.int p1)] [(.int (4 : Int32)), (.ref b137), (.ref b137)])) _
      refine XS.bipush X152.here hx rfl (hb hby d12_30) ?_
      exact kt
    obtain ⟨c155, Ar155, S155, M155, H155⟩ := id f153
    have hin155 : ¬ ((4 : Int32) < 0 ∨ c155.slots.size ≤ ((4 : Int32)).toNatClampNeg) := own_in S155 ⟨by decide, by decide⟩
    obtain ⟨T156, h156, X156, e156, W156, st156⟩ := stC X152 hx hZ e152 Ar155 (j := (4 : Int32)) hin155 (g := (mkF m 32 #[.val (.int p0), .val (.int p1)] [(.int (65 : Int32)), (.int (4 : Int32)), (.ref b137), (.ref b137)])) rfl rfl (hb hby d12_32)
    have f158 : Exa Z h156 b137 "[C" := f154.wr W156
    have f157 : own_AI Z h156 b137 .char 19 (own_upd (own_upd (own_upd (own_upd (own_upd (fun _ => 0) 0 (nar .char (108 : Int32))) 1 (nar .char (105 : Int32))) 2 (nar .char (115 : Int32))) 3 (nar .char (116 : Int32))) 4 (nar .char (65 : Int32))) := own_AI.set Ar155 S155 M155 H155 W156
    have Z156 : n0 ≤ h156.size := Nat.le_trans Z152 (Keep.of_wr W156).1
    have K156 : Keep h0 h156 [] := K152.wr W156 (Or.inr sz_b137)
    have N156 := Fr.snoc X156 N152 g_b137
    refine own_go (S' := T156.setTop (mkF m 33 #[.val (.int p0), .val (.int p1)] [(.ref b137)])) st156 ?_
    refine own_go (S' := T156.setTop (mkF m 37 #[.val (.int p0), .val (.int p1)] [(.int (99 : Int32)), (.int (5 : Int32)), (.ref b137), (.ref b137)])) (fun target kt => ?_) ?_
    · skip
      show Steps p.tables e below (T156.setTop (mkF m 33 #[.val (.int p0), .val (.int p1)] [(.ref b137)])) _
      refine XS.dup X156.here hx rfl (hb hby d12_33) rfl rfl ?_
      show Steps p.tables e below (T156.setTop (mkF m 34 #[.val (.int p0), .val (.int p1)] [(.ref b137), (.ref b137)])) _
      refine XS.iconst X156.here hx rfl (hb hby d12_34) ?_
      show Steps p.tables e below (T156.setTop (mkF m 35 #[.val (.int p0), .val (.int p1)] [(.int (5 : Int32)), (.ref b137), (.ref b137)])) _
      refine XS.bipush X156.here hx rfl (hb hby d12_35) ?_
      exact kt
    obtain ⟨c159, Ar159, S159, M159, H159⟩ := id f157
    have hin159 : ¬ ((5 : Int32) < 0 ∨ c159.slots.size ≤ ((5 : Int32)).toNatClampNeg) := own_in S159 ⟨by decide, by decide⟩
    obtain ⟨T160, h160, X160, e160, W160, st160⟩ := stC X156 hx hZ e156 Ar159 (j := (5 : Int32)) hin159 (g := (mkF m 37 #[.val (.int p0), .val (.int p1)] [(.int (99 : Int32)), (.int (5 : Int32)), (.ref b137), (.ref b137)])) rfl rfl (hb hby d12_37)
    have f162 : Exa Z h160 b137 "[C" := f158.wr W160
    have f161 : own_AI Z h160 b137 .char 19 (own_upd (own_upd (own_upd (own_upd (own_upd (own_upd (fun _ => 0) 0 (nar .char (108 : Int32))) 1 (nar .char (105 : Int32))) 2 (nar .char (115 : Int32))) 3 (nar .char (116 : Int32))) 4 (nar .char (65 : Int32))) 5 (nar .char (99 : Int32))) := own_AI.set Ar159 S159 M159 H159 W160
    have Z160 : n0 ≤ h160.size := Nat.le_trans Z156 (Keep.of_wr W160).1
    have K160 : Keep h0 h160 [] := K156.wr W160 (Or.inr sz_b137)
    have N160 := Fr.snoc X160 N156 g_b137
    refine own_go (S' := T160.setTop (mkF m 38 #[.val (.int p0), .val (.int p1)] [(.ref b137)])) st160 ?_
    refine own_go (S' := T160.setTop (mkF m 43 #[.val (.int p0), .val (.int p1)] [(.int (99 : Int32)), (.int (6 : Int32)), (.ref b137), (.ref b137)])) (fun target kt => ?_) ?_
    · skip
      show Steps p.tables e below (T160.setTop (mkF m 38 #[.val (.int p0), .val (.int p1)] [(.ref b137)])) _
      refine XS.dup X160.here hx rfl (hb hby d12_38) rfl rfl ?_
      show Steps p.tables e below (T160.setTop (mkF m 39 #[.val (.int p0), .val (.int p1)] [(.ref b137), (.ref b137)])) _
      refine XS.bipush X160.here hx rfl (hb hby d12_39) ?_
      show Steps p.tables e below (T160.setTop (mkF m 41 #[.val (.int p0), .val (.int p1)] [(.int (6 : Int32)), (.ref b137), (.ref b137)])) _
      refine XS.bipush X160.here hx rfl (hb hby d12_41) ?_
      exact kt
    obtain ⟨c163, Ar163, S163, M163, H163⟩ := id f161
    have hin163 : ¬ ((6 : Int32) < 0 ∨ c163.slots.size ≤ ((6 : Int32)).toNatClampNeg) := own_in S163 ⟨by decide, by decide⟩
    obtain ⟨T164, h164, X164, e164, W164, st164⟩ := stC X160 hx hZ e160 Ar163 (j := (6 : Int32)) hin163 (g := (mkF m 43 #[.val (.int p0), .val (.int p1)] [(.int (99 : Int32)), (.int (6 : Int32)), (.ref b137), (.ref b137)])) rfl rfl (hb hby d12_43)
    have f166 : Exa Z h164 b137 "[C" := f162.wr W164
    have f165 : own_AI Z h164 b137 .char 19 (own_upd (own_upd (own_upd (own_upd (own_upd (own_upd (own_upd (fun _ => 0) 0 (nar .char (108 : Int32))) 1 (nar .char (105 : Int32))) 2 (nar .char (115 : Int32))) 3 (nar .char (116 : Int32))) 4 (nar .char (65 : Int32))) 5 (nar .char (99 : Int32))) 6 (nar .char (99 : Int32))) := own_AI.set Ar163 S163 M163 H163 W164
    have Z164 : n0 ≤ h164.size := Nat.le_trans Z160 (Keep.of_wr W164).1
    have K164 : Keep h0 h164 [] := K160.wr W164 (Or.inr sz_b137)
    have N164 := Fr.snoc X164 N160 g_b137
    refine own_go (S' := T164.setTop (mkF m 44 #[.val (.int p0), .val (.int p1)] [(.ref b137)])) st164 ?_
    refine own_go (S' := T164.setTop (mkF m 49 #[.val (.int p0), .val (.int p1)] [(.int (101 : Int32)), (.int (7 : Int32)), (.ref b137), (.ref b137)])) (fun target kt => ?_) ?_
    · skip
      show Steps p.tables e below (T164.setTop (mkF m 44 #[.val (.int p0), .val (.int p1)] [(.ref b137)])) _
      refine XS.dup X164.here hx rfl (hb hby d12_44) rfl rfl ?_
      show Steps p.tables e below (T164.setTop (mkF m 45 #[.val (.int p0), .val (.int p1)] [(.ref b137), (.ref b137)])) _
      refine XS.bipush X164.here hx rfl (hb hby d12_45) ?_
      show Steps p.tables e below (T164.setTop (mkF m 47 #[.val (.int p0), .val (.int p1)] [(.int (7 : Int32)), (.ref b137), (.ref b137)])) _
      refine XS.bipush X164.here hx rfl (hb hby d12_47) ?_
      exact kt
    obtain ⟨c167, Ar167, S167, M167, H167⟩ := id f165
    have hin167 : ¬ ((7 : Int32) < 0 ∨ c167.slots.size ≤ ((7 : Int32)).toNatClampNeg) := own_in S167 ⟨by decide, by decide⟩
    obtain ⟨T168, h168, X168, e168, W168, st168⟩ := stC X164 hx hZ e164 Ar167 (j := (7 : Int32)) hin167 (g := (mkF m 49 #[.val (.int p0), .val (.int p1)] [(.int (101 : Int32)), (.int (7 : Int32)), (.ref b137), (.ref b137)])) rfl rfl (hb hby d12_49)
    have f170 : Exa Z h168 b137 "[C" := f166.wr W168
    have f169 : own_AI Z h168 b137 .char 19 (own_upd (own_upd (own_upd (own_upd (own_upd (own_upd (own_upd (own_upd (fun _ => 0) 0 (nar .char (108 : Int32))) 1 (nar .char (105 : Int32))) 2 (nar .char (115 : Int32))) 3 (nar .char (116 : Int32))) 4 (nar .char (65 : Int32))) 5 (nar .char (99 : Int32))) 6 (nar .char (99 : Int32))) 7 (nar .char (101 : Int32))) := own_AI.set Ar167 S167 M167 H167 W168
    have Z168 : n0 ≤ h168.size := Nat.le_trans Z164 (Keep.of_wr W168).1
    have K168 : Keep h0 h168 [] := K164.wr W168 (Or.inr sz_b137)
    have N168 := Fr.snoc X168 N164 g_b137
    refine own_go (S' := T168.setTop (mkF m 50 #[.val (.int p0), .val (.int p1)] [(.ref b137)])) st168 ?_
    refine own_go (S' := T168.setTop (mkF m 55 #[.val (.int p0), .val (.int p1)] [(.int (115 : Int32)), (.int (8 : Int32)), (.ref b137), (.ref b137)])) (fun target kt => ?_) ?_
    · skip
      show Steps p.tables e below (T168.setTop (mkF m 50 #[.val (.int p0), .val (.int p1)] [(.ref b137)])) _
      refine XS.dup X168.here hx rfl (hb hby d12_50) rfl rfl ?_
      show Steps p.tables e below (T168.setTop (mkF m 51 #[.val (.int p0), .val (.int p1)] [(.ref b137), (.ref b137)])) _
      refine XS.bipush X168.here hx rfl (hb hby d12_51) ?_
      show Steps p.tables e below (T168.setTop (mkF m 53 #[.val (.int p0), .val (.int p1)] [(.int (8 : Int32)), (.ref b137), (.ref b137)])) _
      refine XS.bipush X168.here hx rfl (hb hby d12_53) ?_
      exact kt
    obtain ⟨c171, Ar171, S171, M171, H171⟩ := id f169
    have hin171 : ¬ ((8 : Int32) < 0 ∨ c171.slots.size ≤ ((8 : Int32)).toNatClampNeg) := own_in S171 ⟨by decide, by decide⟩
    obtain ⟨T172, h172, X172, e172, W172, st172⟩ := stC X168 hx hZ e168 Ar171 (j := (8 : Int32)) hin171 (g := (mkF m 55 #[.val (.int p0), .val (.int p1)] [(.int (115 : Int32)), (.int (8 : Int32)), (.ref b137), (.ref b137)])) rfl rfl (hb hby d12_55)
    have f174 : Exa Z h172 b137 "[C" := f170.wr W172
    have f173 : own_AI Z h172 b137 .char 19 (own_upd (own_upd (own_upd (own_upd (own_upd (own_upd (own_upd (own_upd (own_upd (fun _ => 0) 0 (nar .char (108 : Int32))) 1 (nar .char (105 : Int32))) 2 (nar .char (115 : Int32))) 3 (nar .char (116 : Int32))) 4 (nar .char (65 : Int32))) 5 (nar .char (99 : Int32))) 6 (nar .char (99 : Int32))) 7 (nar .char (101 : Int32))) 8 (nar .char (115 : Int32))) := own_AI.set Ar171 S171 M171 H171 W172
    have Z172 : n0 ≤ h172.size := Nat.le_trans Z168 (Keep.of_wr W172).1
    have K172 : Keep h0 h172 [] := K168.wr W172 (Or.inr sz_b137)
    have N172 := Fr.snoc X172 N168 g_b137
    refine own_go (S' := T172.setTop (mkF m 56 #[.val (.int p0), .val (.int p1)] [(.ref b137)])) st172 ?_
    refine own_go (S' := T172.setTop (mkF m 61 #[.val (.int p0), .val (.int p1)] [(.int (115 : Int32)), (.int (9 : Int32)), (.ref b137), (.ref b137)])) (fun target kt => ?_) ?_
    · skip
      show Steps p.tables e below (T172.setTop (mkF m 56 #[.val (.int p0), .val (.int p1)] [(.ref b137)])) _
      refine XS.dup X172.here hx rfl (hb hby d12_56) rfl rfl ?_
      show Steps p.tables e below (T172.setTop (mkF m 57 #[.val (.int p0), .val (.int p1)] [(.ref b137), (.ref b137)])) _
      refine XS.bipush X172.here hx rfl (hb hby d12_57) ?_
      show Steps p.tables e below (T172.setTop (mkF m 59 #[.val (.int p0), .val (.int p1)] [(.int (9 : Int32)), (.ref b137), (.ref b137)])) _
      refine XS.bipush X172.here hx rfl (hb hby d12_59) ?_
      exact kt
    obtain ⟨c175, Ar175, S175, M175, H175⟩ := id f173
    have hin175 : ¬ ((9 : Int32) < 0 ∨ c175.slots.size ≤ ((9 : Int32)).toNatClampNeg) := own_in S175 ⟨by decide, by decide⟩
    obtain ⟨T176, h176, X176, e176, W176, st176⟩ := stC X172 hx hZ e172 Ar175 (j := (9 : Int32)) hin175 (g := (mkF m 61 #[.val (.int p0), .val (.int p1)] [(.int (115 : Int32)), (.int (9 : Int32)), (.ref b137), (.ref b137)])) rfl rfl (hb hby d12_61)
    have f178 : Exa Z h176 b137 "[C" := f174.wr W176
    have f177 : own_AI Z h176 b137 .char 19 (own_upd (own_upd (own_upd (own_upd (own_upd (own_upd (own_upd (own_upd (own_upd (own_upd (fun _ => 0) 0 (nar .char (108 : Int32))) 1 (nar .char (105 : Int32))) 2 (nar .char (115 : Int32))) 3 (nar .char (116 : Int32))) 4 (nar .char (65 : Int32))) 5 (nar .char (99 : Int32))) 6 (nar .char (99 : Int32))) 7 (nar .char (101 : Int32))) 8 (nar .char (115 : Int32))) 9 (nar .char (115 : Int32))) := own_AI.set Ar175 S175 M175 H175 W176
    have Z176 : n0 ≤ h176.size := Nat.le_trans Z172 (Keep.of_wr W176).1
    have K176 : Keep h0 h176 [] := K172.wr W176 (Or.inr sz_b137)
    have N176 := Fr.snoc X176 N172 g_b137
    refine own_go (S' := T176.setTop (mkF m 62 #[.val (.int p0), .val (.int p1)] [(.ref b137)])) st176 ?_
    refine own_go (S' := T176.setTop (mkF m 67 #[.val (.int p0), .val (.int p1)] [(.int (66 : Int32)), (.int (10 : Int32)), (.ref b137), (.ref b137)])) (fun target kt => ?_) ?_
    · skip
      show Steps p.tables e below (T176.setTop (mkF m 62 #[.val (.int p0), .val (.int p1)] [(.ref b137)])) _
      refine XS.dup X176.here hx rfl (hb hby d12_62) rfl rfl ?_
      show Steps p.tables e below (T176.setTop (mkF m 63 #[.val (.int p0), .val (.int p1)] [(.ref b137), (.ref b137)])) _
      refine XS.bipush X176.here hx rfl (hb hby d12_63) ?_
      show Steps p.tables e below (T176.setTop (mkF m 65 #[.val (.int p0), .val (.int p1)] [(.int (10 : Int32)), (.ref b137), (.ref b137)])) _
      refine XS.bipush X176.here hx rfl (hb hby d12_65) ?_
      exact kt
    obtain ⟨c179, Ar179, S179, M179, H179⟩ := id f177
    have hin179 : ¬ ((10 : Int32) < 0 ∨ c179.slots.size ≤ ((10 : Int32)).toNatClampNeg) := own_in S179 ⟨by decide, by decide⟩
    obtain ⟨T180, h180, X180, e180, W180, st180⟩ := stC X176 hx hZ e176 Ar179 (j := (10 : Int32)) hin179 (g := (mkF m 67 #[.val (.int p0), .val (.int p1)] [(.int (66 : Int32)), (.int (10 : Int32)), (.ref b137), (.ref b137)])) rfl rfl (hb hby d12_67)
    have f182 : Exa Z h180 b137 "[C" := f178.wr W180
    have f181 : own_AI Z h180 b137 .char 19 (own_upd (own_upd (own_upd (own_upd (own_upd (own_upd (own_upd (own_upd (own_upd (own_upd (own_upd (fun _ => 0) 0 (nar .char (108 : Int32))) 1 (nar .char (105 : Int32))) 2 (nar .char (115 : Int32))) 3 (nar .char (116 : Int32))) 4 (nar .char (65 : Int32))) 5 (nar .char (99 : Int32))) 6 (nar .char (99 : Int32))) 7 (nar .char (101 : Int32))) 8 (nar .char (115 : Int32))) 9 (nar .char (115 : Int32))) 10 (nar .char (66 : Int32))) := own_AI.set Ar179 S179 M179 H179 W180
    have Z180 : n0 ≤ h180.size := Nat.le_trans Z176 (Keep.of_wr W180).1
    have K180 : Keep h0 h180 [] := K176.wr W180 (Or.inr sz_b137)
    have N180 := Fr.snoc X180 N176 g_b137
    refine own_go (S' := T180.setTop (mkF m 68 #[.val (.int p0), .val (.int p1)] [(.ref b137)])) st180 ?_
    refine own_go (S' := T180.setTop (mkF m 73 #[.val (.int p0), .val (.int p1)] [(.int (105 : Int32)), (.int (11 : Int32)), (.ref b137), (.ref b137)])) (fun target kt => ?_) ?_
    · skip
      show Steps p.tables e below (T180.setTop (mkF m 68 #[.val (.int p0), .val (.int p1)] [(.ref b137)])) _
      refine XS.dup X180.here hx rfl (hb hby d12_68) rfl rfl ?_
      show Steps p.tables e below (T180.setTop (mkF m 69 #[.val (.int p0), .val (.int p1)] [(.ref b137), (.ref b137)])) _
      refine XS.bipush X180.here hx rfl (hb hby d12_69) ?_
      show Steps p.tables e below (T180.setTop (mkF m 71 #[.val (.int p0), .val (.int p1)] [(.int (11 : Int32)), (.ref b137), (.ref b137)])) _
      refine XS.bipush X180.here hx rfl (hb hby d12_71) ?_
      exact kt
    obtain ⟨c183, Ar183, S183, M183, H183⟩ := id f181
    have hin183 : ¬ ((11 : Int32) < 0 ∨ c183.slots.size ≤ ((11 : Int32)).toNatClampNeg) := own_in S183 ⟨by decide, by decide⟩
    obtain ⟨T184, h184, X184, e184, W184, st184⟩ := stC X180 hx hZ e180 Ar183 (j := (11 : Int32)) hin183 (g := (mkF m 73 #[.val (.int p0), .val (.int p1)] [(.int (105 : Int32)), (.int (11 : Int32)), (.ref b137), (.ref b137)])) rfl rfl (hb hby d12_73)
    have f186 : Exa Z h184 b137 "[C" := f182.wr W184
    have f185 : own_AI Z h184 b137 .char 19 (own_upd (own_upd (own_upd (own_upd (own_upd (own_upd (own_upd (own_upd (own_upd (own_upd (own_upd (own_upd (fun _ => 0) 0 (nar .char (108 : Int32))) 1 (nar .char (105 : Int32))) 2 (nar .char (115 : Int32))) 3 (nar .char (116 : Int32))) 4 (nar .char (65 : Int32))) 5 (nar .char (99 : Int32))) 6 (nar .char (99 : Int32))) 7 (nar .char (101 : Int32))) 8 (nar .char (115 : Int32))) 9 (nar .char (115 : Int32))) 10 (nar .char (66 : Int32))) 11 (nar .char (105 : Int32))) := own_AI.set Ar183 S183 M183 H183 W184
    have Z184 : n0 ≤ h184.size := Nat.le_trans Z180 (Keep.of_wr W184).1
    have K184 : Keep h0 h184 [] := K180.wr W184 (Or.inr sz_b137)
    have N184 := Fr.snoc X184 N180 g_b137
    refine own_go (S' := T184.setTop (mkF m 74 #[.val (.int p0), .val (.int p1)] [(.ref b137)])) st184 ?_
    refine own_go (S' := T184.setTop (mkF m 79 #[.val (.int p0), .val (.int p1)] [(.int (110 : Int32)), (.int (12 : Int32)), (.ref b137), (.ref b137)])) (fun target kt => ?_) ?_
    · skip
      show Steps p.tables e below (T184.setTop (mkF m 74 #[.val (.int p0), .val (.int p1)] [(.ref b137)])) _
      refine XS.dup X184.here hx rfl (hb hby d12_74) rfl rfl ?_
      show Steps p.tables e below (T184.setTop (mkF m 75 #[.val (.int p0), .val (.int p1)] [(.ref b137), (.ref b137)])) _
      refine XS.bipush X184.here hx rfl (hb hby d12_75) ?_
      show Steps p.tables e below (T184.setTop (mkF m 77 #[.val (.int p0), .val (.int p1)] [(.int (12 : Int32)), (.ref b137), (.ref b137)])) _
      refine XS.bipush X184.here hx rfl (hb hby d12_77) ?_
      exact kt
    obtain ⟨c187, Ar187, S187, M187, H187⟩ := id f185
    have hin187 : ¬ ((12 : Int32) < 0 ∨ c187.slots.size ≤ ((12 : Int32)).toNatClampNeg) := own_in S187 ⟨by decide, by decide⟩
    obtain ⟨T188, h188, X188, e188, W188, st188⟩ := stC X184 hx hZ e184 Ar187 (j := (12 : Int32)) hin187 (g := (mkF m 79 #[.val (.int p0), .val (.int p1)] [(.int (110 : Int32)), (.int (12 : Int32)), (.ref b137), (.ref b137)])) rfl rfl (hb hby d12_79)
    have f190 : Exa Z h188 b137 "[C" := f186.wr W188
    have f189 : own_AI Z h188 b137 .char 19 (own_upd (own_upd (own_upd (own_upd (own_upd (own_upd (own_upd (own_upd (own_upd (own_upd (own_upd (own_upd (own_upd (fun _ => 0) 0 (nar .char (108 : Int32))) 1 (nar .char (105 : Int32))) 2 (nar .char (115 : Int32))) 3 (nar .char (116 : Int32))) 4 (nar .char (65 : Int32))) 5 (nar .char (99 : Int32))) 6 (nar .char (99 : Int32))) 7 (nar .char (101 : Int32))) 8 (nar .char (115 : Int32))) 9 (nar .char (115 : Int32))) 10 (nar .char (66 : Int32))) 11 (nar .char (105 : Int32))) 12 (nar .char (110 : Int32))) := own_AI.set Ar187 S187 M187 H187 W188
    have Z188 : n0 ≤ h188.size := Nat.le_trans Z184 (Keep.of_wr W188).1
    have K188 : Keep h0 h188 [] := K184.wr W188 (Or.inr sz_b137)
    have N188 := Fr.snoc X188 N184 g_b137
    refine own_go (S' := T188.setTop (mkF m 80 #[.val (.int p0), .val (.int p1)] [(.ref b137)])) st188 ?_
    refine own_go (S' := T188.setTop (mkF m 85 #[.val (.int p0), .val (.int p1)] [(.int (100 : Int32)), (.int (13 : Int32)), (.ref b137), (.ref b137)])) (fun target kt => ?_) ?_
    · skip
      show Steps p.tables e below (T188.setTop (mkF m 80 #[.val (.int p0), .val (.int p1)] [(.ref b137)])) _
      refine XS.dup X188.here hx rfl (hb hby d12_80) rfl rfl ?_
      show Steps p.tables e below (T188.setTop (mkF m 81 #[.val (.int p0), .val (.int p1)] [(.ref b137), (.ref b137)])) _
      refine XS.bipush X188.here hx rfl (hb hby d12_81) ?_
      show Steps p.tables e below (T188.setTop (mkF m 83 #[.val (.int p0), .val (.int p1)] [(.int (13 : Int32)), (.ref b137), (.ref b137)])) _
      refine XS.bipush X188.here hx rfl (hb hby d12_83) ?_
      exact kt
    obtain ⟨c191, Ar191, S191, M191, H191⟩ := id f189
    have hin191 : ¬ ((13 : Int32) < 0 ∨ c191.slots.size ≤ ((13 : Int32)).toNatClampNeg) := own_in S191 ⟨by decide, by decide⟩
    obtain ⟨T192, h192, X192, e192, W192, st192⟩ := stC X188 hx hZ e188 Ar191 (j := (13 : Int32)) hin191 (g := (mkF m 85 #[.val (.int p0), .val (.int p1)] [(.int (100 : Int32)), (.int (13 : Int32)), (.ref b137), (.ref b137)])) rfl rfl (hb hby d12_85)
    have f194 : Exa Z h192 b137 "[C" := f190.wr W192
    have f193 : own_AI Z h192 b137 .char 19 (own_upd (own_upd (own_upd (own_upd (own_upd (own_upd (own_upd (own_upd (own_upd (own_upd (own_upd (own_upd (own_upd (own_upd (fun _ => 0) 0 (nar .char (108 : Int32))) 1 (nar .char (105 : Int32))) 2 (nar .char (115 : Int32))) 3 (nar .char (116 : Int32))) 4 (nar .char (65 : Int32))) 5 (nar .char (99 : Int32))) 6 (nar .char (99 : Int32))) 7 (nar .char (101 : Int32))) 8 (nar .char (115 : Int32))) 9 (nar .char (115 : Int32))) 10 (nar .char (66 : Int32))) 11 (nar .char (105 : Int32))) 12 (nar .char (110 : Int32))) 13 (nar .char (100 : Int32))) := own_AI.set Ar191 S191 M191 H191 W192
    have Z192 : n0 ≤ h192.size := Nat.le_trans Z188 (Keep.of_wr W192).1
    have K192 : Keep h0 h192 [] := K188.wr W192 (Or.inr sz_b137)
    have N192 := Fr.snoc X192 N188 g_b137
    refine own_go (S' := T192.setTop (mkF m 86 #[.val (.int p0), .val (.int p1)] [(.ref b137)])) st192 ?_
    refine own_go (S' := T192.setTop (mkF m 91 #[.val (.int p0), .val (.int p1)] [(.int (105 : Int32)), (.int (14 : Int32)), (.ref b137), (.ref b137)])) (fun target kt => ?_) ?_
    · skip
      show Steps p.tables e below (T192.setTop (mkF m 86 #[.val (.int p0), .val (.int p1)] [(.ref b137)])) _
      refine XS.dup X192.here hx rfl (hb hby d12_86) rfl rfl ?_
      show Steps p.tables e below (T192.setTop (mkF m 87 #[.val (.int p0), .val (.int p1)] [(.ref b137), (.ref b137)])) _
      refine XS.bipush X192.here hx rfl (hb hby d12_87) ?_
      show Steps p.tables e below (T192.setTop (mkF m 89 #[.val (.int p0), .val (.int p1)] [(.int (14 : Int32)), (.ref b137), (.ref b137)])) _
      refine XS.bipush X192.here hx rfl (hb hby d12_89) ?_
      exact kt
    obtain ⟨c195, Ar195, S195, M195, H195⟩ := id f193
    have hin195 : ¬ ((14 : Int32) < 0 ∨ c195.slots.size ≤ ((14 : Int32)).toNatClampNeg) := own_in S195 ⟨by decide, by decide⟩
    obtain ⟨T196, h196, X196, e196, W196, st196⟩ := stC X192 hx hZ e192 Ar195 (j := (14 : Int32)) hin195 (g := (mkF m 91 #[.val (.int p0), .val (.int p1)] [(.int (105 : Int32)), (.int (14 : Int32)), (.ref b137), (.ref b137)])) rfl rfl (hb hby d12_91)
    have f198 : Exa Z h196 b137 "[C" := f194.wr W196
    have f197 : own_AI Z h196 b137 .char 19 (own_upd (own_upd (own_upd (own_upd (own_upd (own_upd (own_upd (own_upd (own_upd (own_upd (own_upd (own_upd (own_upd (own_upd (own_upd (fun _ => 0) 0 (nar .char (108 : Int32))) 1 (nar .char (105 : Int32))) 2 (nar .char (115 : Int32))) 3 (nar .char (116 : Int32))) 4 (nar .char (65 : Int32))) 5 (nar .char (99 : Int32))) 6 (nar .char (99 : Int32))) 7 (nar .char (101 : Int32))) 8 (nar .char (115 : Int32))) 9 (nar .char (115 : Int32))) 10 (nar .char (66 : Int32))) 11 (nar .char (105 : Int32))) 12 (nar .char (110 : Int32))) 13 (nar .char (100 : Int32))) 14 (nar .char (105 : Int32))) := own_AI.set Ar195 S195 M195 H195 W196
    have Z196 : n0 ≤ h196.size := Nat.le_trans Z192 (Keep.of_wr W196).1
    have K196 : Keep h0 h196 [] := K192.wr W196 (Or.inr sz_b137)
    have N196 := Fr.snoc X196 N192 g_b137
    refine own_go (S' := T196.setTop (mkF m 92 #[.val (.int p0), .val (.int p1)] [(.ref b137)])) st196 ?_
    refine own_go (S' := T196.setTop (mkF m 97 #[.val (.int p0), .val (.int p1)] [(.int (110 : Int32)), (.int (15 : Int32)), (.ref b137), (.ref b137)])) (fun target kt => ?_) ?_
    · skip
      show Steps p.tables e below (T196.setTop (mkF m 92 #[.val (.int p0), .val (.int p1)] [(.ref b137)])) _
      refine XS.dup X196.here hx rfl (hb hby d12_92) rfl rfl ?_
      show Steps p.tables e below (T196.setTop (mkF m 93 #[.val (.int p0), .val (.int p1)] [(.ref b137), (.ref b137)])) _
      refine XS.bipush X196.here hx rfl (hb hby d12_93) ?_
      show Steps p.tables e below (T196.setTop (mkF m 95 #[.val (.int p0), .val (.int p1)] [(.int (15 : Int32)), (.ref b137), (.ref b137)])) _
      refine XS.bipush X196.here hx rfl (hb hby d12_95) ?_
      exact kt
    obtain ⟨c199, Ar199, S199, M199, H199⟩ := id f197
    have hin199 : ¬ ((15 : Int32) < 0 ∨ c199.slots.size ≤ ((15 : Int32)).toNatClampNeg) := own_in S199 ⟨by decide, by decide⟩
    obtain ⟨T200, h200, X200, e200, W200, st200⟩ := stC X196 hx hZ e196 Ar199 (j := (15 : Int32)) hin199 (g := (mkF m 97 #[.val (.int p0), .val (.int p1)] [(.int (110 : Int32)), (.int (15 : Int32)), (.ref b137), (.ref b137)])) rfl rfl (hb hby d12_97)
    have f202 : Exa Z h200 b137 "[C" := f198.wr W200
    have f201 : own_AI Z h200 b137 .char 19 (own_upd (own_upd (own_upd (own_upd (own_upd (own_upd (own_upd (own_upd (own_upd (own_upd (own_upd (own_upd (own_upd (own_upd (own_upd (own_upd (fun _ => 0) 0 (nar .char (108 : Int32))) 1 (nar .char (105 : Int32))) 2 (nar .char (115 : Int32))) 3 (nar .char (116 : Int32))) 4 (nar .char (65 : Int32))) 5 (nar .char (99 : Int32))) 6 (nar .char (99 : Int32))) 7 (nar .char (101 : Int32))) 8 (nar .char (115 : Int32))) 9 (nar .char (115 : Int32))) 10 (nar .char (66 : Int32))) 11 (nar .char (105 : Int32))) 12 (nar .char (110 : Int32))) 13 (nar .char (100 : Int32))) 14 (nar .char (105 : Int32))) 15 (nar .char (110 : Int32))) := own_AI.set Ar199 S199 M199 H199 W200
    have Z200 : n0 ≤ h200.size := Nat.le_trans Z196 (Keep.of_wr W200).1
    have K200 : Keep h0 h200 [] := K196.wr W200 (Or.inr sz_b137)
    have N200 := Fr.snoc X200 N196 g_b137
    refine own_go (S' := T200.setTop (mkF m 98 #[.val (.int p0), .val (.int p1)] [(.ref b137)])) st200 ?_
    refine own_go (S' := T200.setTop (mkF m 103 #[.val (.int p0), .val (.int p1)] [(.int (103 : Int32)), (.int (16 : Int32)), (.ref b137), (.ref b137)])) (fun target kt => ?_) ?_
    · skip
      show Steps p.tables e below (T200.setTop (mkF m 98 #[.val (.int p0), .val (.int p1)] [(.ref b137)])) _
      refine XS.dup X200.here hx rfl (hb hby d12_98) rfl rfl ?_
      show Steps p.tables e below (T200.setTop (mkF m 99 #[.val (.int p0), .val (.int p1)] [(.ref b137), (.ref b137)])) _
      refine XS.bipush X200.here hx rfl (hb hby d12_99) ?_
      show Steps p.tables e below (T200.setTop (mkF m 101 #[.val (.int p0), .val (.int p1)] [(.int (16 : Int32)), (.ref b137), (.ref b137)])) _
      refine XS.bipush X200.here hx rfl (hb hby d12_101) ?_
      exact kt
    obtain ⟨c203, Ar203, S203, M203, H203⟩ := id f201
    have hin203 : ¬ ((16 : Int32) < 0 ∨ c203.slots.size ≤ ((16 : Int32)).toNatClampNeg) := own_in S203 ⟨by decide, by decide⟩
    obtain ⟨T204, h204, X204, e204, W204, st204⟩ := stC X200 hx hZ e200 Ar203 (j := (16 : Int32)) hin203 (g := (mkF m 103 #[.val (.int p0), .val (.int p1)] [(.int (103 : Int32)), (.int (16 : Int32)), (.ref b137), (.ref b137)])) rfl rfl (hb hby d12_103)
    have f206 : Exa Z h204 b137 "[C" := f202.wr W204
    have f205 : own_AI Z h204 b137 .char 19 (own_upd (own_upd (own_upd (own_upd (own_upd (own_upd (own_upd (own_upd (own_upd (own_upd (own_upd (own_upd (own_upd (own_upd (own_upd (own_upd (own_upd (fun _ => 0) 0 (nar .char (108 : Int32))) 1 (nar .char (105 : Int32))) 2 (nar .char (115 : Int32))) 3 (nar .char (116 : Int32))) 4 (nar .char (65 : Int32))) 5 (nar .char (99 : Int32))) 6 (nar .char (99 : Int32))) 7 (nar .char (101 : Int32))) 8 (nar .char (115 : Int32))) 9 (nar .char (115 : Int32))) 10 (nar .char (66 : Int32))) 11 (nar .char (105 : Int32))) 12 (nar .char (110 : Int32))) 13 (nar .char (100 : Int32))) 14 (nar .char (105 : Int32))) 15 (nar .char (110 : Int32))) 16 (nar .char (103 : Int32))) := own_AI.set Ar203 S203 M203 H203 W204
    have Z204 : n0 ≤ h204.size := Nat.le_trans Z200 (Keep.of_wr W204).1
    have K204 : Keep h0 h204 [] := K200.wr W204 (Or.inr sz_b137)
    have N204 := Fr.snoc X204 N200 g_b137
    refine own_go (S' := T204.setTop (mkF m 104 #[.val (.int p0), .val (.int p1)] [(.ref b137)])) st204 ?_
    refine own_go (S' := T204.setTop (mkF m 109 #[.val (.int p0), .val (.int p1)] [(.int (115 : Int32)), (.int (17 : Int32)), (.ref b137), (.ref b137)])) (fun target kt => ?_) ?_
    · skip
      show Steps p.tables e below (T204.setTop (mkF m 104 #[.val (.int p0), .val (.int p1)] [(.ref b137)])) _
      refine XS.dup X204.here hx rfl (hb hby d12_104) rfl rfl ?_
      show Steps p.tables e below (T204.setTop (mkF m 105 #[.val (.int p0), .val (.int p1)] [(.ref b137), (.ref b137)])) _
      refine XS.bipush X204.here hx rfl (hb hby d12_105) ?_
      show Steps p.tables e below (T204.setTop (mkF m 107 #[.val (.int p0), .val (.int p1)] [(.int (17 : Int32)), (.ref b137), (.ref b137)])) _
      refine XS.bipush X204.here hx rfl (hb hby d12_107) ?_
      exact kt
    obtain ⟨c207, Ar207, S207, M207, H207⟩ := id f205
    have hin207 : ¬ ((17 : Int32) < 0 ∨ c207.slots.size ≤ ((17 : Int32)).toNatClampNeg) := own_in S207 ⟨by decide, by decide⟩
    obtain ⟨T208, h208, X208, e208, W208, st208⟩ := stC X204 hx hZ e204 Ar207 (j := (17 : Int32)) hin207 (g := (mkF m 109 #[.val (.int p0), .val (.int p1)] [(.int (115 : Int32)), (.int (17 : Int32)), (.ref b137), (.ref b137)])) rfl rfl (hb hby d12_109)
    have f210 : Exa Z h208 b137 "[C" := f206.wr W208
    have f209 : own_AI Z h208 b137 .char 19 (own_upd (own_upd (own_upd (own_upd (own_upd (own_upd (own_upd (own_upd (own_upd (own_upd (own_upd (own_upd (own_upd (own_upd (own_upd (own_upd (own_upd (own_upd (fun _ => 0) 0 (nar .char (108 : Int32))) 1 (nar .char (105 : Int32))) 2 (nar .char (115 : Int32))) 3 (nar .char (116 : Int32))) 4 (nar .char (65 : Int32))) 5 (nar .char (99 : Int32))) 6 (nar .char (99 : Int32))) 7 (nar .char (101 : Int32))) 8 (nar .char (115 : Int32))) 9 (nar .char (115 : Int32))) 10 (nar .char (66 : Int32))) 11 (nar .char (105 : Int32))) 12 (nar .char (110 : Int32))) 13 (nar .char (100 : Int32))) 14 (nar .char (105 : Int32))) 15 (nar .char (110 : Int32))) 16 (nar .char (103 : Int32))) 17 (nar .char (115 : Int32))) := own_AI.set Ar207 S207 M207 H207 W208
    have Z208 : n0 ≤ h208.size := Nat.le_trans Z204 (Keep.of_wr W208).1
    have K208 : Keep h0 h208 [] := K204.wr W208 (Or.inr sz_b137)
    have N208 := Fr.snoc X208 N204 g_b137
    refine own_go (S' := T208.setTop (mkF m 110 #[.val (.int p0), .val (.int p1)] [(.ref b137)])) st208 ?_
    refine own_go (S' := T208.setTop (mkF m 114 #[.val (.int p0), .val (.int p1)] [(.int p1), (.int (18 : Int32)), (.ref b137), (.ref b137)])) (fun target kt => ?_) ?_
    · skip
      show Steps p.tables e below (T208.setTop (mkF m 110 #[.val (.int p0), .val (.int p1)] [(.ref b137)])) _
      refine XS.dup X208.here hx rfl (hb hby d12_110) rfl rfl ?_
      show Steps p.tables e below (T208.setTop (mkF m 111 #[.val (.int p0), .val (.int p1)] [(.ref b137), (.ref b137)])) _
      refine XS.bipush X208.here hx rfl (hb hby d12_111) ?_
      show Steps p.tables e below (T208.setTop (mkF m 113 #[.val (.int p0), .val (.int p1)] [(.int (18 : Int32)), (.ref b137), (.ref b137)])) _
      refine XS.iloadN X208.here hx rfl (hb hby d12_113) rfl ?_
      exact kt
    obtain ⟨c211, Ar211, S211, M211, H211⟩ := id f209
    have hin211 : ¬ ((18 : Int32) < 0 ∨ c211.slots.size ≤ ((18 : Int32)).toNatClampNeg) := own_in S211 ⟨by decide, by decide⟩
    obtain ⟨T212, h212, X212, e212, W212, st212⟩ := stC X208 hx hZ e208 Ar211 (j := (18 : Int32)) hin211 (g := (mkF m 114 #[.val (.int p0), .val (.int p1)] [(.int p1), (.int (18 : Int32)), (.ref b137), (.ref b137)])) rfl rfl (hb hby d12_114)
    have f214 : Exa Z h212 b137 "[C" := f210.wr W212
    have f213 : own_AI Z h212 b137 .char 19 (own_upd (own_upd (own_upd (own_upd (own_upd (own_upd (own_upd (own_upd (own_upd (own_upd (own_upd (own_upd (own_upd (own_upd (own_upd (own_upd (own_upd (own_upd (own_upd (fun _ => 0) 0 (nar .char (108 : Int32))) 1 (nar .char (105 : Int32))) 2 (nar .char (115 : Int32))) 3 (nar .char (116 : Int32))) 4 (nar .char (65 : Int32))) 5 (nar .char (99 : Int32))) 6 (nar .char (99 : Int32))) 7 (nar .char (101 : Int32))) 8 (nar .char (115 : Int32))) 9 (nar .char (115 : Int32))) 10 (nar .char (66 : Int32))) 11 (nar .char (105 : Int32))) 12 (nar .char (110 : Int32))) 13 (nar .char (100 : Int32))) 14 (nar .char (105 : Int32))) 15 (nar .char (110 : Int32))) 16 (nar .char (103 : Int32))) 17 (nar .char (115 : Int32))) 18 (nar .char p1)) := own_AI.set Ar211 S211 M211 H211 W212
    have Z212 : n0 ≤ h212.size := Nat.le_trans Z208 (Keep.of_wr W212).1
    have K212 : Keep h0 h212 [] := K208.wr W212 (Or.inr sz_b137)
    have N212 := Fr.snoc X212 N208 g_b137
    refine own_go (S' := T212.setTop (mkF m 115 #[.val (.int p0), .val (.int p1)] [(.ref b137)])) st212 ?_
    obtain ⟨fs, hr, hrun, hended, hW, hsame⟩ := X212.leave (v := some (.ref b137)) (fun h => by rw [Bd.returns] at h; cases h)
    refine ⟨_, _, ?_, hrun, hended, _, _, rfl, ?_, ⟨_, rfl⟩, hW, hsame.mono (by decide) (by decide)⟩
    · exact retA X212 hx Bd.returns rfl (hb hby d12_115) rfl hr
    · show Q12 Z p0 p1 h0 n0 _ T212.heap _
      rw [e212]
      exact ⟨b137, 19, (own_upd (own_upd (own_upd (own_upd (own_upd (own_upd (own_upd (own_upd (own_upd (own_upd (own_upd (own_upd (own_upd (own_upd (own_upd (own_upd (own_upd (own_upd (own_upd (fun _ => 0) 0 (nar .char (108 : Int32))) 1 (nar .char (105 : Int32))) 2 (nar .char (115 : Int32))) 3 (nar .char (116 : Int32))) 4 (nar .char (65 : Int32))) 5 (nar .char (99 : Int32))) 6 (nar .char (99 : Int32))) 7 (nar .char (101 : Int32))) 8 (nar .char (115 : Int32))) 9 (nar .char (115 : Int32))) 10 (nar .char (66 : Int32))) 11 (nar .char (105 : Int32))) 12 (nar .char (110 : Int32))) 13 (nar .char (100 : Int32))) 14 (nar .char (105 : Int32))) 15 (nar .char (110 : Int32))) 16 (nar .char (103 : Int32))) 17 (nar .char (115 : Int32))) 18 (nar .char p1)), rfl, N212, K212, f213, f214, sz_b137, Or.inl ⟨hc1, rfl, fun i hi => (own_upd_ne _ _ (by omega)).trans ((by decide +kernel : ∀ i, i < 18 → (own_upd (own_upd (own_upd (own_upd (own_upd (own_upd (own_upd (own_upd (own_upd (own_upd (own_upd (own_upd (own_upd (own_upd (own_upd (own_upd (own_upd (own_upd (fun _ => 0) 0 (nar .char (108 : Int32))) 1 (nar .char (105 : Int32))) 2 (nar .char (115 : Int32))) 3 (nar .char (116 : Int32))) 4 (nar .char (65 : Int32))) 5 (nar .char (99 : Int32))) 6 (nar .char (99 : Int32))) 7 (nar .char (101 : Int32))) 8 (nar .char (115 : Int32))) 9 (nar .char (115 : Int32))) 10 (nar .char (66 : Int32))) 11 (nar .char (105 : Int32))) 12 (nar .char (110 : Int32))) 13 (nar .char (100 : Int32))) 14 (nar .char (105 : Int32))) 15 (nar .char (110 : Int32))) 16 (nar .char (103 : Int32))) 17 (nar .char (115 : Int32))) i = own_L0.getD i 0) i hi), own_upd_same _ _ _⟩⟩
  · skip
    refine own_go (S' := s₁.setTop (mkF m 118 #[.val (.int p0), .val (.int p1)] [(.int (15 : Int32))])) (fun target kt => ?_) ?_
    · skip
      show Steps p.tables e below (s₁.setTop (mkF m 1 #[.val (.int p0), .val (.int p1)] [(.int p0)])) _
      refine XS.ifYes X0.here hx rfl (pc0 := 1) (pc' := 116) rfl (hb hby d12_1) rfl ((if0 _ _).trans (feq hc1).2) (by decide) (by decide) ?_
      show Steps p.tables e below (s₁.setTop (mkF m 116 #[.val (.int p0), .val (.int p1)] [])) _
      refine XS.bipush X0.here hx rfl (hb hby d12_116) ?_
      exact kt
    obtain ⟨T215, h215, k215, X215, e215, E215, A215, B215, st215⟩ := newPE X0 hx hZ (hw _ (List.mem_of_getElem? (i := 10) rfl)) e0 (g := (mkF m 118 #[.val (.int p0), .val (.int p1)] [(.int (15 : Int32))])) rfl (hb hby d12_118) rfl (by decide) (cap := 15) (by decide) (by decide) (by decide) (by decide) (ad := "[C") (by decide)
    obtain ⟨b215, g215⟩ : ∃ z, z = h0.size := ⟨_, rfl⟩
    rw [← g215] at A215 B215 st215
    have g_b215 : n0 ≤ b215 := Nat.le_trans Z0 (Nat.le_of_eq g215.symm)
    have sz_b215 : h0.size ≤ b215 := Nat.le_trans K0.1 (Nat.le_of_eq g215.symm)
    have Z215 : n0 ≤ h215.size := Nat.le_trans Z0 E215.1
    have K215 : Keep h0 h215 [] := K0.ext E215
    have f216 : own_AI Z h215 b215 .char 15 (fun _ => 0) := own_AI.fresh A215 rfl
    refine own_go (S' := T215.setTop (mkF m 120 #[.val (.int p0), .val (.int p1)] [(.ref b215)])) st215 ?_
    refine own_go (S' := T215.setTop (mkF m 124 #[.val (.int p0), .val (.int p1)] [(.int (97 : Int32)), (.int (0 : Int32)), (.ref b215), (.ref b215)])) (fun target kt => ?_) ?_
    · skip
      show Steps p.tables e below (T215.setTop (mkF m 120 #[.val (.int p0), .val (.int p1)] [(.ref b215)])) _
      refine XS.dup X215.here hx rfl (hb hby d12_120) rfl rfl ?_
      show Steps p.tables e below (T215.setTop (mkF m 121 #[.val (.int p0), .val (.int p1)] [(.ref b215), (.ref b215)])) _
      refine XS.iconst X215.here hx rfl (hb hby d12_121) ?_
      show Steps p.tables e below (T215.setTop (mkF m 122 #[.val (.int p0), .val (.int p1)] [(.int (0 : Int32)), (.ref b215), (.ref b215)])) _
      refine XS.bipush X215.here hx rfl (hb hby d12_122) ?_
      exact kt
    obtain ⟨c217, Ar217, S217, M217, H217⟩ := id f216
    have hin217 : ¬ ((0 : Int32) < 0 ∨ c217.slots.size ≤ ((0 : Int32)).toNatClampNeg) := own_in S217 ⟨by decide, by decide⟩
    obtain ⟨T218, h218, X218, e218, W218, st218⟩ := stC X215 hx hZ e215 Ar217 (j := (0 : Int32)) hin217 (g := (mkF m 124 #[.val (.int p0), .val (.int p1)] [(.int (97 : Int32)), (.int (0 : Int32)), (.ref b215), (.ref b215)])) rfl rfl (hb hby d12_124)
    have f220 : Exa Z h218 b215 "[C" := B215.wr W218
    have f219 : own_AI Z h218 b215 .char 15 (own_upd (fun _ => 0) 0 (nar .char (97 : Int32))) := own_AI.set Ar217 S217 M217 H217 W218
    have Z218 : n0 ≤ h218.size := Nat.le_trans Z215 (Keep.of_wr W218).1
    have K218 : Keep h0 h218 [] := K215.wr W218 (Or.inr sz_b215)
    have N218 := Fr.snoc X218 N0 g_b215
    refine own_go (S' := T218.setTop (mkF m 125 #[.val (.int p0), .val (.int p1)] [(.ref b215)])) st218 ?_
    refine own_go (S' := T218.setTop (mkF m 129 #[.val (.int p0), .val (.int p1)] [(.int (99 : Int32)), (.int (1 : Int32)), (.ref b215), (.ref b215)])) (fun target kt => ?_) ?_
    · skip
      show Steps p.tables e below (T218.setTop (mkF m 125 #[.val (.int p0), .val (.int p1)] [(.ref b215)])) _
      refine XS.dup X218.here hx rfl (hb hby d12_125) rfl rfl ?_
      show Steps p.tables e below (T218.setTop (mkF m 126 #[.val (.int p0), .val (.int p1)] [(.ref b215), (.ref b215)])) _
      refine XS.iconst X218.here hx rfl (hb hby d12_126) ?_
      show Steps p.tables e below (T218.setTop (mkF m 127 #[.val (.int p0), .val (.int p1)] [(.int (1 : Int32)), (.ref b215), (.ref b215)])) _
      refine XS.bipush X218.here hx rfl (hb hby d12_127) ?_
      exact kt
    obtain ⟨c221, Ar221, S221, M221, H221⟩ := id f219
    have hin221 : ¬ ((1 : Int32) < 0 ∨ c221.slots.size ≤ ((1 : Int32)).toNatClampNeg) := own_in S221 ⟨by decide, by decide⟩
    obtain ⟨T222, h222, X222, e222, W222, st222⟩ := stC X218 hx hZ e218 Ar221 (j := (1 : Int32)) hin221 (g := (mkF m 129 #[.val (.int p0), .val (.int p1)] [(.int (99 : Int32)), (.int (1 : Int32)), (.ref b215), (.ref b215)])) rfl rfl (hb hby d12_129)
    have f224 : Exa Z h222 b215 "[C" := f220.wr W222
    have f223 : own_AI Z h222 b215 .char 15 (own_upd (own_upd (fun _ => 0) 0 (nar .char (97 : Int32))) 1 (nar .char (99 : Int32))) := own_AI.set Ar221 S221 M221 H221 W222
    have Z222 : n0 ≤ h222.size := Nat.le_trans Z218 (Keep.of_wr W222).1
    have K222 : Keep h0 h222 [] := K218.wr W222 (Or.inr sz_b215)
    have N222 := Fr.snoc X222 N218 g_b215
    refine own_go (S' := T222.setTop (mkF m 130 #[.val (.int p0), .val (.int p1)] [(.ref b215)])) st222 ?_
    refine own_go (S' := T222.setTop (mkF m 134 #[.val (.int p0), .val (.int p1)] [(.int (99 : Int32)), (.int (2 : Int32)), (.ref b215), (.ref b215)])) (fun target kt => ?_) ?_
    · skip
      show Steps p.tables e below (T222.setTop (mkF m 130 #[.val (.int p0), .val (.int p1)] [(.ref b215)])) _
      refine XS.dup X222.here hx rfl (hb hby d12_130) rfl rfl ?_
      show Steps p.tables e below (T222.setTop (mkF m 131 #[.val (.int p0), .val (.int p1)] [(.ref b215), (.ref b215)])) _
      refine XS.iconst X222.here hx rfl (hb hby d12_131) ?_
      show Steps p.tables e below (T222.setTop (mkF m 132 #[.val (.int p0), .val (.int p1)] [(.int (2 : Int32)), (.ref b215), (.ref b215)])) _
      refine XS.bipush X222.here hx rfl (hb hby d12_132) ?_
      exact kt
    obtain ⟨c225, Ar225, S225, M225, H225⟩ := id f223
    have hin225 : ¬ ((2 : Int32) < 0 ∨ c225.slots.size ≤ ((2 : Int32)).toNatClampNeg) := own_in S225 ⟨by decide, by decide⟩
    obtain ⟨T226, h226, X226, e226, W226, st226⟩ := stC X222 hx hZ e222 Ar225 (j := (2 : Int32)) hin225 (g := (mkF m 134 #[.val (.int p0), .val (.int p1)] [(.int (99 : Int32)), (.int (2 : Int32)), (.ref b215), (.ref b215)])) rfl rfl (hb hby d12_134)
    have f228 : Exa Z h226 b215 "[C" := f224.wr W226
    have f227 : own_AI Z h226 b215 .char 15 (own_upd (own_upd (own_upd (fun _ => 0) 0 (nar .char (97 : Int32))) 1 (nar .char (99 : Int32))) 2 (nar .char (99 : Int32))) := own_AI.set Ar225 S225 M225 H225 W226
    have Z226 : n0 ≤ h226.size := Nat.le_trans Z222 (Keep.of_wr W226).1
    have K226 : Keep h0 h226 [] := K222.wr W226 (Or.inr sz_b215)
    have N226 := Fr.snoc X226 N222 g_b215
    refine own_go (S' := T226.setTop (mkF m 135 #[.val (.int p0), .val (.int p1)] [(.ref b215)])) st226 ?_
    refine own_go (S' := T226.setTop (mkF m 139 #[.val (.int p0), .val (.int p1)] [(.int (101 : Int32)), (.int (3 : Int32)), (.ref b215), (.ref b215)])) (fun target kt => ?_) ?_
    · skip
      show Steps p.tables e below (T226.setTop (mkF m 135 #[.val (.int p0), .val (.int p1)] [(.ref b215)])) _
      refine XS.dup X226.here hx rfl (hb hby d12_135) rfl rfl ?_
      show Steps p.tables e below (T226.setTop (mkF m 136 #[.val (.int p0), .val (.int p1)] [(.ref b215), (.ref b215)])) _
      refine XS.iconst X226.here hx rfl (hb hby d12_136) ?_
      show Steps p.tables e below (T226.setTop (mkF m 137 #[.val (.int p0), .val (.int p1)] [(.int (3 : Int32)), (.ref b215), (.ref b215)])) _
      refine XS.bipush X226.here hx rfl (hb hby d12_137) ?_
      exact kt
    obtain ⟨c229, Ar229, S229, M229, H229⟩ := id f227
    have hin229 : ¬ ((3 : Int32) < 0 ∨ c229.slots.size ≤ ((3 : Int32)).toNatClampNeg) := own_in S229 ⟨by decide, by decide⟩
    obtain ⟨T230, h230, X230, e230, W230, st230⟩ := stC X226 hx hZ e226 Ar229 (j := (3 : Int32)) hin229 (g := (mkF m 139 #[.val (.int p0), .val (.int p1)] [(.int (101 : Int32)), (.int (3 : Int32)), (.ref b215), (.ref b215)])) rfl rfl (hb hby d12_139)
    have f232 : Exa Z h230 b215 "[C" := f228.wr W230
    have f231 : own_AI Z h230 b215 .char 15 (own_upd (own_upd (own_upd (own_upd (fun _ => 0) 0 (nar .char (97 : Int32))) 1 (nar .char (99 : Int32))) 2 (nar .char (99 : Int32))) 3 (nar .char (101 : Int32))) := own_AI.set Ar229 S229 M229 H229 W230
    have Z230 : n0 ≤ h230.size := Nat.le_trans Z226 (Keep.of_wr W230).1
    have K230 : Keep h0 h230 [] := K226.wr W230 (Or.inr sz_b215)
    have N230 := Fr.snoc X230 N226 g_b215
    refine own_go (S' := T230.setTop (mkF m 140 #[.val (.int p0), .val (.int p1)] [(.ref b215)])) st230 ?_
    refine own_go (S' := T230.setTop (mkF m 144 #[.val (.int p0), .val (.int p1)] [(.int (115 : Int32)), (.int (4 : Int32)), (.ref b215), (.ref b215)])) (fun target kt => ?_) ?_
    · skip
      show Steps p.tables e below (T230.setTop (mkF m 140 #[.val (.int p0), .val (.int p1)] [(.ref b215)])) _
      refine XS.dup X230.here hx rfl (hb hby d12_140) rfl rfl ?_
      show Steps p.tables e below (T230.setTop (mkF m 141 #[.val (.int p0), .val (.int p1)] [(.ref b215), (.ref b215)])) _
      refine XS.iconst X230.here hx rfl (hb hby d12_141) ?_
      show Steps p.tables e below (T230.setTop (mkF m 142 #[.val (.int p0), .val (.int p1)] [(.int (4 : Int32)), (.ref b215), (.ref b215)])) _
      refine XS.bipush X230.here hx rfl (hb hby d12_142) ?_
      exact kt
    obtain ⟨c233, Ar233, S233, M233, H233⟩ := id f231
    have hin233 : ¬ ((4 : Int32) < 0 ∨ c233.slots.size ≤ ((4 : Int32)).toNatClampNeg) := own_in S233 ⟨by decide, by decide⟩
    obtain ⟨T234, h234, X234, e234, W234, st234⟩ := stC X230 hx hZ e230 Ar233 (j := (4 : Int32)) hin233 (g := (mkF m 144 #[.val (.int p0), .val (.int p1)] [(.int (115 : Int32)), (.int (4 : Int32)), (.ref b215), (.ref b215)])) rfl rfl (hb hby d12_144)
    have f236 : Exa Z h234 b215 "[C" := f232.wr W234
    have f235 : own_AI Z h234 b215 .char 15 (own_upd (own_upd (own_upd (own_upd (own_upd (fun _ => 0) 0 (nar .char (97 : Int32))) 1 (nar .char (99 : Int32))) 2 (nar .char (99 : Int32))) 3 (nar .char (101 : Int32))) 4 (nar .char (115 : Int32))) := own_AI.set Ar233 S233 M233 H233 W234
    have Z234 : n0 ≤ h234.size := Nat.le_trans Z230 (Keep.of_wr W234).1
    have K234 : Keep h0 h234 [] := K230.wr W234 (Or.inr sz_b215)
    have N234 := Fr.snoc X234 N230 g_b215
    refine own_go (S' := T234.setTop (mkF m 145 #[.val (.int p0), .val (.int p1)] [(.ref b215)])) st234 ?_
    refine own_go (S' := T234.setTop (mkF m 149 #[.val (.int p0), .val (.int p1)] [(.int (115 : Int32)), (.int (5 : Int32)), (.ref b215), (.ref b215)])) (fun target kt => ?_) ?_
    · skip
      show Steps p.tables e below (T234.setTop (mkF m 145 #[.val (.int p0), .val (.int p1)] [(.ref b215)])) _
      refine XS.dup X234.here hx rfl (hb hby d12_145) rfl rfl ?_
      show Steps p.tables e below (T234.setTop (mkF m 146 #[.val (.int p0), .val (.int p1)] [(.ref b215), (.ref b215)])) _
      refine XS.iconst X234.here hx rfl (hb hby d12_146) ?_
      show Steps p.tables e below (T234.setTop (mkF m 147 #[.val (.int p0), .val (.int p1)] [(.int (5 : Int32)), (.ref b215), (.ref b215)])) _
      refine XS.bipush X234.here hx rfl (hb hby d12_147) ?_
      exact kt
    obtain ⟨c237, Ar237, S237, M237, H237⟩ := id f235
    have hin237 : ¬ ((5 : Int32) < 0 ∨ c237.slots.size ≤ ((5 : Int32)).toNatClampNeg) := own_in S237 ⟨by decide, by decide⟩
    obtain ⟨T238, h238, X238, e238, W238, st238⟩ := stC X234 hx hZ e234 Ar237 (j := (5 : Int32)) hin237 (g := (mkF m 149 #[.val (.int p0), .val (.int p1)] [(.int (115 : Int32)), (.int (5 : Int32)), (.ref b215), (.ref b215)])) rfl rfl (hb hby d12_149)
    have f240 : Exa Z h238 b215 "[C" := f236.wr W238
    have f239 : own_AI Z h238 b215 .char 15 (own_upd (own_upd (own_upd (own_upd (own_upd (own_upd (fun _ => 0) 0 (nar .char (97 : Int32))) 1 (nar .char (99 : Int32))) 2 (nar .char (99 : Int32))) 3 (nar .char (101 : Int32))) 4 (nar .char (115 : Int32))) 5 (nar .char (115 : Int32))) := own_AI.set Ar237 S237 M237 H237 W238
    have Z238 : n0 ≤ h238.size := Nat.le_trans Z234 (Keep.of_wr W238).1
    have K238 : Keep h0 h238 [] := K234.wr W238 (Or.inr sz_b215)
    have N238 := Fr.snoc X238 N234 g_b215
    refine own_go (S' := T238.setTop (mkF m 150 #[.val (.int p0), .val (.int p1)] [(.ref b215)])) st238 ?_
    refine own_go (S' := T238.setTop (mkF m 155 #[.val (.int p0), .val (.int p1)] [(.int (66 : Int32)), (.int (6 : Int32)), (.ref b215), (.ref b215)])) (fun target kt => ?_) ?_
    · skip
      show Steps p.tables e below (T238.setTop (mkF m 150 #[.val (.int p0), .val (.int p1)] [(.ref b215)])) _
      refine XS.dup X238.here hx rfl (hb hby d12_150) rfl rfl ?_
      show Steps p.tables e below (T238.setTop (mkF m 151 #[.val (.int p0), .val (.int p1)] [(.ref b215), (.ref b215)])) _
      refine XS.bipush X238.here hx rfl (hb hby d12_151) ?_
      show Steps p.tables e below (T238.setTop (mkF m 153 #[.val (.int p0), .val (.int p1)] [(.int (6 : Int32)), (.ref b215), (.ref b215)])) _
      refine XS.bipush X238.here hx rfl (hb hby d12_153) ?_
      exact kt
    obtain ⟨c241, Ar241, S241, M241, H241⟩ := id f239
    have hin241 : ¬ ((6 : Int32) < 0 ∨ c241.slots.size ≤ ((6 : Int32)).toNatClampNeg) := own_in S241 ⟨by decide, by decide⟩
    obtain ⟨T242, h242, X242, e242, W242, st242⟩ := stC X238 hx hZ e238 Ar241 (j := (6 : Int32)) hin241 (g := (mkF m 155 #[.val (.int p0), .val (.int p1)] [(.int (66 : Int32)), (.int (6 : Int32)), (.ref b215), (.ref b215)])) rfl rfl (hb hby d12_155)
    have f244 : Exa Z h242 b215 "[C" := f240.wr W242
    have f243 : own_AI Z h242 b215 .char 15 (own_upd (own_upd (own_upd (own_upd (own_upd (own_upd (own_upd (fun _ => 0) 0 (nar .char (97 : Int32))) 1 (nar .char (99 : Int32))) 2 (nar .char (99 : Int32))) 3 (nar .char (101 : Int32))) 4 (nar .char (115 : Int32))) 5 (nar .char (115 : Int32))) 6 (nar .char (66 : Int32))) := own_AI.set Ar241 S241 M241 H241 W242
    have Z242 : n0 ≤ h242.size := Nat.le_trans Z238 (Keep.of_wr W242).1
    have K242 : Keep h0 h242 [] := K238.wr W242 (Or.inr sz_b215)
    have N242 := Fr.snoc X242 N238 g_b215
    refine own_go (S' := T242.setTop (mkF m 156 #[.val (.int p0), .val (.int p1)] [(.ref b215)])) st242 ?_
    refine own_go (S' := T242.setTop (mkF m 161 #[.val (.int p0), .val (.int p1)] [(.int (105 : Int32)), (.int (7 : Int32)), (.ref b215), (.ref b215)])) (fun target kt => ?_) ?_
    · skip
      show Steps p.tables e below (T242.setTop (mkF m 156 #[.val (.int p0), .val (.int p1)] [(.ref b215)])) _
      refine XS.dup X242.here hx rfl (hb hby d12_156) rfl rfl ?_
      show Steps p.tables e below (T242.setTop (mkF m 157 #[.val (.int p0), .val (.int p1)] [(.ref b215), (.ref b215)])) _
      refine XS.bipush X242.here hx rfl (hb hby d12_157) ?_
      show Steps p.tables e below (T242.setTop (mkF m 159 #[.val (.int p0), .val (.int p1)] [(.int (7 : Int32)), (.ref b215), (.ref b215)])) _
      refine XS.bipush X242.here hx rfl (hb hby d12_159) ?_
      exact kt
    obtain ⟨c245, Ar245, S245, M245, H245⟩ := id f243
    have hin245 : ¬ ((7 : Int32) < 0 ∨ c245.slots.size ≤ ((7 : Int32)).toNatClampNeg) := own_in S245 ⟨by decide, by decide⟩
    obtain ⟨T246, h246, X246, e246, W246, st246⟩ := stC X242 hx hZ e242 Ar245 (j := (7 : Int32)) hin245 (g := (mkF m 161 #[.val (.int p0), .val (.int p1)] [(.int (105 : Int32)), (.int (7 : Int32)), (.ref b215), (.ref b215)])) rfl rfl (hb hby d12_161)
    have f248 : Exa Z h246 b215 "[C" := f244.wr W246
    have f247 : own_AI Z h246 b215 .char 15 (own_upd (own_upd (own_upd (own_upd (own_upd (own_upd (own_upd (own_upd (fun _ => 0) 0 (nar .char (97 : Int32))) 1 (nar .char (99 : Int32))) 2 (nar .char (99 : Int32))) 3 (nar .char (101 : Int32))) 4 (nar .char (115 : Int32))) 5 (nar .char (115 : Int32))) 6 (nar .char (66 : Int32))) 7 (nar .char (105 : Int32))) := own_AI.set Ar245 S245 M245 H245 W246
    have Z246 : n0 ≤ h246.size := Nat.le_trans Z242 (Keep.of_wr W246).1
    have K246 : Keep h0 h246 [] := K242.wr W246 (Or.inr sz_b215)
    have N246 := Fr.snoc X246 N242 g_b215
    refine own_go (S' := T246.setTop (mkF m 162 #[.val (.int p0), .val (.int p1)] [(.ref b215)])) st246 ?_
    refine own_go (S' := T246.setTop (mkF m 167 #[.val (.int p0), .val (.int p1)] [(.int (110 : Int32)), (.int (8 : Int32)), (.ref b215), (.ref b215)])) (fun target kt => ?_) ?_
    · skip
      show Steps p.tables e below (T246.setTop (mkF m 162 #[.val (.int p0), .val (.int p1)] [(.ref b215)])) _
      refine XS.dup X246.here hx rfl (hb hby d12_162) rfl rfl ?_
      show Steps p.tables e below (T246.setTop (mkF m 163 #[.val (.int p0), .val (.int p1)] [(.ref b215), (.ref b215)])) _
      refine XS.bipush X246.here hx rfl (hb hby d12_163) ?_
      show Steps p.tables e below (T246.setTop (mkF m 165 #[.val (.int p0), .val (.int p1)] [(.int (8 : Int32)), (.ref b215), (.ref b215)])) _
      refine XS.bipush X246.here hx rfl (hb hby d12_165) ?_
      exact kt
    obtain ⟨c249, Ar249, S249, M249, H249⟩ := id f247
    have hin249 : ¬ ((8 : Int32) < 0 ∨ c249.slots.size ≤ ((8 : Int32)).toNatClampNeg) := own_in S249 ⟨by decide, by decide⟩
    obtain ⟨T250, h250, X250, e250, W250, st250⟩ := stC X246 hx hZ e246 Ar249 (j := (8 : Int32)) hin249 (g := (mkF m 167 #[.val (.int p0), .val (.int p1)] [(.int (110 : Int32)), (.int (8 : Int32)), (.ref b215), (.ref b215)])) rfl rfl (hb hby d12_167)
    have f252 : Exa Z h250 b215 "[C" := f248.wr W250
    have f251 : own_AI Z h250 b215 .char 15 (own_upd (own_upd (own_upd (own_upd (own_upd (own_upd (own_upd (own_upd (own_upd (fun _ => 0) 0 (nar .char (97 : Int32))) 1 (nar .char (99 : Int32))) 2 (nar .char (99 : Int32))) 3 (nar .char (101 : Int32))) 4 (nar .char (115 : Int32))) 5 (nar .char (115 : Int32))) 6 (nar .char (66 : Int32))) 7 (nar .char (105 : Int32))) 8 (nar .char (110 : Int32))) := own_AI.set Ar249 S249 M249 H249 W250
    have Z250 : n0 ≤ h250.size := Nat.le_trans Z246 (Keep.of_wr W250).1
    have K250 : Keep h0 h250 [] := K246.wr W250 (Or.inr sz_b215)
    have N250 := Fr.snoc X250 N246 g_b215
    refine own_go (S' := T250.setTop (mkF m 168 #[.val (.int p0), .val (.int p1)] [(.ref b215)])) st250 ?_
    refine own_go (S' := T250.setTop (mkF m 173 #[.val (.int p0), .val (.int p1)] [(.int (100 : Int32)), (.int (9 : Int32)), (.ref b215), (.ref b215)])) (fun target kt => ?_) ?_
    · skip
      show Steps p.tables e below (T250.setTop (mkF m 168 #[.val (.int p0), .val (.int p1)] [(.ref b215)])) _
      refine XS.dup X250.here hx rfl (hb hby d12_168) rfl rfl ?_
      show Steps p.tables e below (T250.setTop (mkF m 169 #[.val (.int p0), .val (.int p1)] [(.ref b215), (.ref b215)])) _
      refine XS.bipush X250.here hx rfl (hb hby d12_169) ?_
      show Steps p.tables e below (T250.setTop (mkF m 171 #[.val (.int p0), .val (.int p1)] [(.int (9 : Int32)), (.ref b215), (.ref b215)])) _
      refine XS.bipush X250.here hx rfl (hb hby d12_171) ?_
      exact kt
    obtain ⟨c253, Ar253, S253, M253, H253⟩ := id f251
    have hin253 : ¬ ((9 : Int32) < 0 ∨ c253.slots.size ≤ ((9 : Int32)).toNatClampNeg) := own_in S253 ⟨by decide, by decide⟩
    obtain ⟨T254, h254, X254, e254, W254, st254⟩ := stC X250 hx hZ e250 Ar253 (j := (9 : Int32)) hin253 (g := (mkF m 173 #[.val (.int p0), .val (.int p1)] [(.int (100 : Int32)), (.int (9 : Int32)), (.ref b215), (.ref b215)])) rfl rfl (hb hby d12_173)
    have f256 : Exa Z h254 b215 "[C" := f252.wr W254
    have f255 : own_AI Z h254 b215 .char 15 (own_upd (own_upd (own_upd (own_upd (own_upd (own_upd (own_upd (own_upd (own_upd (own_upd (fun _ => 0) 0 (nar .char (97 : Int32))) 1 (nar .char (99 : Int32))) 2 (nar .char (99 : Int32))) 3 (nar .char (101 : Int32))) 4 (nar .char (115 : Int32))) 5 (nar .char (115 : Int32))) 6 (nar .char (66 : Int32))) 7 (nar .char (105 : Int32))) 8 (nar .char (110 : Int32))) 9 (nar .char (100 : Int32))) := own_AI.set Ar253 S253 M253 H253 W254
    have Z254 : n0 ≤ h254.size := Nat.le_trans Z250 (Keep.of_wr W254).1
    have K254 : Keep h0 h254 [] := K250.wr W254 (Or.inr sz_b215)
    have N254 := Fr.snoc X254 N250 g_b215
    refine own_go (S' := T254.setTop (mkF m 174 #[.val (.int p0), .val (.int p1)] [(.ref b215)])) st254 ?_
    refine own_go (S' := T254.setTop (mkF m 179 #[.val (.int p0), .val (.int p1)] [(.int (105 : Int32)), (.int (10 : Int32)), (.ref b215), (.ref b215)])) (fun target kt => ?_) ?_
    · skip
      show Steps p.tables e below (T254.setTop (mkF m 174 #[.val (.int p0), .val (.int p1)] [(.ref b215)])) _
      refine XS.dup X254.here hx rfl (hb hby d12_174) rfl rfl ?_
      show Steps p.tables e below (T254.setTop (mkF m 175 #[.val (.int p0), .val (.int p1)] [(.ref b215), (.ref b215)])) _
      refine XS.bipush X254.here hx rfl (hb hby d12_175) ?_
      show Steps p.tables e below (T254.setTop (mkF m 177 #[.val (.int p0), .val (.int p1)] [(.int (10 : Int32)), (.ref b215), (.ref b215)])) _
      refine XS.bipush X254.here hx rfl (hb hby d12_177) ?_
      exact kt
    obtain ⟨c257, Ar257, S257, M257, H257⟩ := id f255
    have hin257 : ¬ ((10 : Int32) < 0 ∨ c257.slots.size ≤ ((10 : Int32)).toNatClampNeg) := own_in S257 ⟨by decide, by decide⟩
    obtain ⟨T258, h258, X258, e258, W258, st258⟩ := stC X254 hx hZ e254 Ar257 (j := (10 : Int32)) hin257 (g := (mkF m 179 #[.val (.int p0), .val (.int p1)] [(.int (105 : Int32)), (.int (10 : Int32)), (.ref b215), (.ref b215)])) rfl rfl (hb hby d12_179)
    have f260 : Exa Z h258 b215 "[C" := f256.wr W258
    have f259 : own_AI Z h258 b215 .char 15 (own_upd (own_upd (own_upd (own_upd (own_upd (own_upd (own_upd (own_upd (own_upd (own_upd (own_upd (fun _ => 0) 0 (nar .char (97 : Int32))) 1 (nar .char (99 : Int32))) 2 (nar .char (99 : Int32))) 3 (nar .char (101 : Int32))) 4 (nar .char (115 : Int32))) 5 (nar .char (115 : Int32))) 6 (nar .char (66 : Int32))) 7 (nar .char (105 : Int32))) 8 (nar .char (110 : Int32))) 9 (nar .char (100 : Int32))) 10 (nar .char (105 : Int32))) := own_AI.set Ar257 S257 M257 H257 W258
    have Z258 : n0 ≤ h258.size := Nat.le_trans Z254 (Keep.of_wr W258).1
    have K258 : Keep h0 h258 [] := K254.wr W258 (Or.inr sz_b215)
    have N258 := Fr.snoc X258 N254 g_b215
    refine own_go (S' := T258.setTop (mkF m 180 #[.val (.int p0), .val (.int p1)] [(.ref b215)])) st258 ?_
    refine own_go (S' := T258.setTop (mkF m 185 #[.val (.int p0), .val (.int p1)] [(.int (110 : Int32)), (.int (11 : Int32)), (.ref b215), (.ref b215)])) (fun target kt => ?_) ?_
    · skip
      show Steps p.tables e below (T258.setTop (mkF m 180 #[.val (.int p0), .val (.int p1)] [(.ref b215)])) _
      refine XS.dup X258.here hx rfl (hb hby d12_180) rfl rfl ?_
      show Steps p.tables e below (T258.setTop (mkF m 181 #[.val (.int p0), .val (.int p1)] [(.ref b215), (.ref b215)])) _
      refine XS.bipush X258.here hx rfl (hb hby d12_181) ?_
      show Steps p.tables e below (T258.setTop (mkF m 183 #[.val (.int p0), .val (.int p1)] [(.int (11 : Int32)), (.ref b215), (.ref b215)])) _
      refine XS.bipush X258.here hx rfl (hb hby d12_183) ?_
      exact kt
    obtain ⟨c261, Ar261, S261, M261, H261⟩ := id f259
    have hin261 : ¬ ((11 : Int32) < 0 ∨ c261.slots.size ≤ ((11 : Int32)).toNatClampNeg) := own_in S261 ⟨by decide, by decide⟩
    obtain ⟨T262, h262, X262, e262, W262, st262⟩ := stC X258 hx hZ e258 Ar261 (j := (11 : Int32)) hin261 (g := (mkF m 185 #[.val (.int p0), .val (.int p1)] [(.int (110 : Int32)), (.int (11 : Int32)), (.ref b215), (.ref b215)])) rfl rfl (hb hby d12_185)
    have f264 : Exa Z h262 b215 "[C" := f260.wr W262
    have f263 : own_AI Z h262 b215 .char 15 (own_upd (own_upd (own_upd (own_upd (own_upd (own_upd (own_upd (own_upd (own_upd (own_upd (own_upd (own_upd (fun _ => 0) 0 (nar .char (97 : Int32))) 1 (nar .char (99 : Int32))) 2 (nar .char (99 : Int32))) 3 (nar .char (101 : Int32))) 4 (nar .char (115 : Int32))) 5 (nar .char (115 : Int32))) 6 (nar .char (66 : Int32))) 7 (nar .char (105 : Int32))) 8 (nar .char (110 : Int32))) 9 (nar .char (100 : Int32))) 10 (nar .char (105 : Int32))) 11 (nar .char (110 : Int32))) := own_AI.set Ar261 S261 M261 H261 W262
    have Z262 : n0 ≤ h262.size := Nat.le_trans Z258 (Keep.of_wr W262).1
    have K262 : Keep h0 h262 [] := K258.wr W262 (Or.inr sz_b215)
    have N262 := Fr.snoc X262 N258 g_b215
    refine own_go (S' := T262.setTop (mkF m 186 #[.val (.int p0), .val (.int p1)] [(.ref b215)])) st262 ?_
    refine own_go (S' := T262.setTop (mkF m 191 #[.val (.int p0), .val (.int p1)] [(.int (103 : Int32)), (.int (12 : Int32)), (.ref b215), (.ref b215)])) (fun target kt => ?_) ?_
    · skip
      show Steps p.tables e below (T262.setTop (mkF m 186 #[.val (.int p0), .val (.int p1)] [(.ref b215)])) _
      refine XS.dup X262.here hx rfl (hb hby d12_186) rfl rfl ?_
      show Steps p.tables e below (T262.setTop (mkF m 187 #[.val (.int p0), .val (.int p1)] [(.ref b215), (.ref b215)])) _
      refine XS.bipush X262.here hx rfl (hb hby d12_187) ?_
      show Steps p.tables e below (T262.setTop (mkF m 189 #[.val (.int p0), .val (.int p1)] [(.int (12 : Int32)), (.ref b215), (.ref b215)])) _
      refine XS.bipush X262.here hx rfl (hb hby d12_189) ?_
      exact kt
    obtain ⟨c265, Ar265, S265, M265, H265⟩ := id f263
    have hin265 : ¬ ((12 : Int32) < 0 ∨ c265.slots.size ≤ ((12 : Int32)).toNatClampNeg) := own_in S265 ⟨by decide, by decide⟩
    obtain ⟨T266, h266, X266, e266, W266, st266⟩ := stC X262 hx hZ e262 Ar265 (j := (12 : Int32)) hin265 (g := (mkF m 191 #[.val (.int p0), .val (.int p1)] [(.int (103 : Int32)), (.int (12 : Int32)), (.ref b215), (.ref b215)])) rfl rfl (hb hby d12_191)
    have f268 : Exa Z h266 b215 "[C" := f264.wr W266
    have f267 : own_AI Z h266 b215 .char 15 (own_upd (own_upd (own_upd (own_upd (own_upd (own_upd (own_upd (own_upd (own_upd (own_upd (own_upd (own_upd (own_upd (fun _ => 0) 0 (nar .char (97 : Int32))) 1 (nar .char (99 : Int32))) 2 (nar .char (99 : Int32))) 3 (nar .char (101 : Int32))) 4 (nar .char (115 : Int32))) 5 (nar .char (115 : Int32))) 6 (nar .char (66 : Int32))) 7 (nar .char (105 : Int32))) 8 (nar .char (110 : Int32))) 9 (nar .char (100 : Int32))) 10 (nar .char (105 : Int32))) 11 (nar .char (110 : Int32))) 12 (nar .char (103 : Int32))) := own_AI.set Ar265 S265 M265 H265 W266
    have Z266 : n0 ≤ h266.size := Nat.le_trans Z262 (Keep.of_wr W266).1
    have K266 : Keep h0 h266 [] := K262.wr W266 (Or.inr sz_b215)
    have N266 := Fr.snoc X266 N262 g_b215
    refine own_go (S' := T266.setTop (mkF m 192 #[.val (.int p0), .val (.int p1)] [(.ref b215)])) st266 ?_
    refine own_go (S' := T266.setTop (mkF m 197 #[.val (.int p0), .val (.int p1)] [(.int (115 : Int32)), (.int (13 : Int32)), (.ref b215), (.ref b215)])) (fun target kt => ?_) ?_
    · skip
      show Steps p.tables e below (T266.setTop (mkF m 192 #[.val (.int p0), .val (.int p1)] [(.ref b215)])) _
      refine XS.dup X266.here hx rfl (hb hby d12_192) rfl rfl ?_
      show Steps p.tables e below (T266.setTop (mkF m 193 #[.val (.int p0), .val (.int p1)] [(.ref b215), (.ref b215)])) _
      refine XS.bipush X266.here hx rfl (hb hby d12_193) ?_
      show Steps p.tables e below (T266.setTop (mkF m 195 #[.val (.int p0), .val (.int p1)] [(.int (13 : Int32)), (.ref b215), (.ref b215)])) _
      refine XS.bipush X266.here hx rfl (hb hby d12_195) ?_
      exact kt
    obtain ⟨c269, Ar269, S269, M269, H269⟩ := id f267
    have hin269 : ¬ ((13 : Int32) < 0 ∨ c269.slots.size ≤ ((13 : Int32)).toNatClampNeg) := own_in S269 ⟨by decide, by decide⟩
    obtain ⟨T270, h270, X270, e270, W270, st270⟩ := stC X266 hx hZ e266 Ar269 (j := (13 : Int32)) hin269 (g := (mkF m 197 #[.val (.int p0), .val (.int p1)] [(.int (115 : Int32)), (.int (13 : Int32)), (.ref b215), (.ref b215)])) rfl rfl (hb hby d12_197)
    have f272 : Exa Z h270 b215 "[C" := f268.wr W270
    have f271 : own_AI Z h270 b215 .char 15 (own_upd (own_upd (own_upd (own_upd (own_upd (own_upd (own_upd (own_upd (own_upd (own_upd (own_upd (own_upd (own_upd (own_upd (fun _ => 0) 0 (nar .char (97 : Int32))) 1 (nar .char (99 : Int32))) 2 (nar .char (99 : Int32))) 3 (nar .char (101 : Int32))) 4 (nar .char (115 : Int32))) 5 (nar .char (115 : Int32))) 6 (nar .char (66 : Int32))) 7 (nar .char (105 : Int32))) 8 (nar .char (110 : Int32))) 9 (nar .char (100 : Int32))) 10 (nar .char (105 : Int32))) 11 (nar .char (110 : Int32))) 12 (nar .char (103 : Int32))) 13 (nar .char (115 : Int32))) := own_AI.set Ar269 S269 M269 H269 W270
    have Z270 : n0 ≤ h270.size := Nat.le_trans Z266 (Keep.of_wr W270).1
    have K270 : Keep h0 h270 [] := K266.wr W270 (Or.inr sz_b215)
    have N270 := Fr.snoc X270 N266 g_b215
    refine own_go (S' := T270.setTop (mkF m 198 #[.val (.int p0), .val (.int p1)] [(.ref b215)])) st270 ?_
    refine own_go (S' := T270.setTop (mkF m 202 #[.val (.int p0), .val (.int p1)] [(.int p1), (.int (14 : Int32)), (.ref b215), (.ref b215)])) (fun target kt => ?_) ?_
    · skip
      show Steps p.tables e below (T270.setTop (mkF m 198 #[.val (.int p0), .val (.int p1)] [(.ref b215)])) _
      refine XS.dup X270.here hx rfl (hb hby d12_198) rfl rfl ?_
      show Steps p.tables e below (T270.setTop (mkF m 199 #[.val (.int p0), .val (.int p1)] [(.ref b215), (.ref b215)])) _
      refine XS.bipush X270.here hx rfl (hb hby d12_199) ?_
      show Steps p.tables e below (T270.setTop (mkF m 201 #[.val (.int p0), .val (.int p1)] [(.int (14 : Int32)), (.ref b215), (.ref b215)])) _
      refine XS.iloadN X270.here hx rfl (hb hby d12_201) rfl ?_
      exact kt
    obtain ⟨c273, Ar273, S273, M273, H273⟩ := id f271
    have hin273 : ¬ ((14 : Int32) < 0 ∨ c273.slots.size ≤ ((14 : Int32)).toNatClampNeg) := own_in S273 ⟨by decide, by decide⟩
    obtain ⟨T274, h274, X274, e274, W274, st274⟩ := stC X270 hx hZ e270 Ar273 (j := (14 : Int32)) hin273 (g := (mkF m 202 #[.val (.int p0), .val (.int p1)] [(.int p1), (.int (14 : Int32)), (.ref b215), (.ref b215)])) rfl rfl (hb hby d12_202)
    have f276 : Exa Z h274 b215 "[C" := f272.wr W274
    have f275 : own_AI Z h274 b215 .char 15 (own_upd (own_upd (own_upd (own_upd (own_upd (own_upd (own_upd (own_upd (own_upd (own_upd (own_upd (own_upd (own_upd (own_upd (own_upd (fun _ => 0) 0 (nar .char (97 : Int32))) 1 (nar .char (99 : Int32))) 2 (nar .char (99 : Int32))) 3 (nar .char (101 : Int32))) 4 (nar .char (115 : Int32))) 5 (nar .char (115 : Int32))) 6 (nar .char (66 : Int32))) 7 (nar .char (105 : Int32))) 8 (nar .char (110 : Int32))) 9 (nar .char (100 : Int32))) 10 (nar .char (105 : Int32))) 11 (nar .char (110 : Int32))) 12 (nar .char (103 : Int32))) 13 (nar .char (115 : Int32))) 14 (nar .char p1)) := own_AI.set Ar273 S273 M273 H273 W274
    have Z274 : n0 ≤ h274.size := Nat.le_trans Z270 (Keep.of_wr W274).1
    have K274 : Keep h0 h274 [] := K270.wr W274 (Or.inr sz_b215)
    have N274 := Fr.snoc X274 N270 g_b215
    refine own_go (S' := T274.setTop (mkF m 203 #[.val (.int p0), .val (.int p1)] [(.ref b215)])) st274 ?_
    obtain ⟨fs, hr, hrun, hended, hW, hsame⟩ := X274.leave (v := some (.ref b215)) (fun h => by rw [Bd.returns] at h; cases h)
    refine ⟨_, _, ?_, hrun, hended, _, _, rfl, ?_, ⟨_, rfl⟩, hW, hsame.mono (by decide) (by decide)⟩
    · exact retA X274 hx Bd.returns rfl (hb hby d12_203) rfl hr
    · show Q12 Z p0 p1 h0 n0 _ T274.heap _
      rw [e274]
      exact ⟨b215, 15, (own_upd (own_upd (own_upd (own_upd (own_upd (own_upd (own_upd (own_upd (own_upd (own_upd (own_upd (own_upd (own_upd (own_upd (own_upd (fun _ => 0) 0 (nar .char (97 : Int32))) 1 (nar .char (99 : Int32))) 2 (nar .char (99 : Int32))) 3 (nar .char (101 : Int32))) 4 (nar .char (115 : Int32))) 5 (nar .char (115 : Int32))) 6 (nar .char (66 : Int32))) 7 (nar .char (105 : Int32))) 8 (nar .char (110 : Int32))) 9 (nar .char (100 : Int32))) 10 (nar .char (105 : Int32))) 11 (nar .char (110 : Int32))) 12 (nar .char (103 : Int32))) 13 (nar .char (115 : Int32))) 14 (nar .char p1)), rfl, N274, K274, f275, f276, sz_b215, Or.inr ⟨hc1, rfl, fun i hi => (own_upd_ne _ _ (by omega)).trans ((by decide +kernel : ∀ i, i < 14 → (own_upd (own_upd (own_upd (own_upd (own_upd (own_upd (own_upd (own_upd (own_upd (own_upd (own_upd (own_upd (own_upd (own_upd (fun _ => 0) 0 (nar .char (97 : Int32))) 1 (nar .char (99 : Int32))) 2 (nar .char (99 : Int32))) 3 (nar .char (101 : Int32))) 4 (nar .char (115 : Int32))) 5 (nar .char (115 : Int32))) 6 (nar .char (66 : Int32))) 7 (nar .char (105 : Int32))) 8 (nar .char (110 : Int32))) 9 (nar .char (100 : Int32))) 10 (nar .char (105 : Int32))) 11 (nar .char (110 : Int32))) 12 (nar .char (103 : Int32))) 13 (nar .char (115 : Int32))) i = own_L1.getD i 0) i hi), own_upd_same _ _ _⟩⟩
theorem d4_0 : decode jdk_42_method_149_code 0 = .ok (.aload_n 0, 1) := by decide +kernel
theorem d4_1 : decode jdk_42_method_149_code 1 = .ok (.invokespecial 1, 3) := by decide +kernel
theorem d4_4 : decode jdk_42_method_149_code 4 = .ok (.iload_n 3, 1) := by decide +kernel
theorem d4_5 : decode jdk_42_method_149_code 5 = .ok (.ifCond .ne 22, 3) := by decide +kernel
theorem d4_8 : decode jdk_42_method_149_code 8 = .ok (.aload_n 0, 1) := by decide +kernel
theorem d4_9 : decode jdk_42_method_149_code 9 = .ok (.ldc 7, 2) := by decide +kernel
theorem d4_11 : decode jdk_42_method_149_code 11 = .ok (.getfield 9, 3) := by decide +kernel
theorem d4_14 : decode jdk_42_method_149_code 14 = .ok (.putfield 9, 3) := by decide +kernel
theorem d4_17 : decode jdk_42_method_149_code 17 = .ok (.aload_n 0, 1) := by decide +kernel
theorem d4_18 : decode jdk_42_method_149_code 18 = .ok (.ldc 7, 2) := by decide +kernel
theorem d4_20 : decode jdk_42_method_149_code 20 = .ok (.getfield 15, 3) := by decide +kernel
theorem d4_23 : decode jdk_42_method_149_code 23 = .ok (.putfield 15, 3) := by decide +kernel
theorem d4_26 : decode jdk_42_method_149_code 26 = .ok (.return_, 1) := by decide +kernel
theorem d4_27 : decode jdk_42_method_149_code 27 = .ok (.getstatic 38, 3) := by decide +kernel
theorem d4_30 : decode jdk_42_method_149_code 30 = .ok (.ifCond .eq 28, 3) := by decide +kernel
theorem d4_33 : decode jdk_42_method_149_code 33 = .ok (.aload_n 1, 1) := by decide +kernel
theorem d4_34 : decode jdk_42_method_149_code 34 = .ok (.iload_n 2, 1) := by decide +kernel
theorem d4_35 : decode jdk_42_method_149_code 35 = .ok (.iload_n 3, 1) := by decide +kernel
theorem d4_36 : decode jdk_42_method_149_code 36 = .ok (.invokestatic 177, 3) := by decide +kernel
theorem d4_39 : decode jdk_42_method_149_code 39 = .ok (.astore 5, 2) := by decide +kernel
theorem d4_41 : decode jdk_42_method_149_code 41 = .ok (.aload_n 0, 1) := by decide +kernel
theorem d4_42 : decode jdk_42_method_149_code 42 = .ok (.aload 5, 2) := by decide +kernel
theorem d4_44 : decode jdk_42_method_149_code 44 = .ok (.iload_n 3, 1) := by decide +kernel
theorem d4_45 : decode jdk_42_method_149_code 45 = .ok (.invokestatic 47, 3) := by decide +kernel
theorem d4_48 : decode jdk_42_method_149_code 48 = .ok (.putfield 15, 3) := by decide +kernel
theorem d4_51 : decode jdk_42_method_149_code 51 = .ok (.aload_n 0, 1) := by decide +kernel
theorem d4_52 : decode jdk_42_method_149_code 52 = .ok (.aload 5, 2) := by decide +kernel
theorem d4_54 : decode jdk_42_method_149_code 54 = .ok (.putfield 9, 3) := by decide +kernel
theorem d4_57 : decode jdk_42_method_149_code 57 = .ok (.return_, 1) := by decide +kernel
theorem d4_58 : decode jdk_42_method_149_code 58 = .ok (.aload_n 0, 1) := by decide +kernel
theorem d4_59 : decode jdk_42_method_149_code 59 = .ok (.iconst 1, 1) := by decide +kernel
theorem d4_60 : decode jdk_42_method_149_code 60 = .ok (.putfield 15, 3) := by decide +kernel
theorem d4_63 : decode jdk_42_method_149_code 63 = .ok (.aload_n 0, 1) := by decide +kernel
theorem d4_64 : decode jdk_42_method_149_code 64 = .ok (.aload_n 1, 1) := by decide +kernel
theorem d4_65 : decode jdk_42_method_149_code 65 = .ok (.iload_n 2, 1) := by decide +kernel
theorem d4_66 : decode jdk_42_method_149_code 66 = .ok (.iload_n 3, 1) := by decide +kernel
theorem d4_67 : decode jdk_42_method_149_code 67 = .ok (.invokestatic 180, 3) := by decide +kernel
theorem d4_70 : decode jdk_42_method_149_code 70 = .ok (.putfield 9, 3) := by decide +kernel
theorem d4_73 : decode jdk_42_method_149_code 73 = .ok (.return_, 1) := by decide +kernel
theorem own_pd0 : parseMethodDescriptor "()V" = some ⟨[], none⟩ := by decide +kernel
theorem own_pd1 : parseMethodDescriptor "([CII)[B" = some ⟨[(.array .char), .int, .int], some (.array .byte)⟩ := by decide +kernel
theorem own_pd2 : parseMethodDescriptor "([BI)B" = some ⟨[(.array .byte), .int], some .byte⟩ := by decide +kernel
theorem own_pn1 : plainName "java/lang/String" = true := by first | (simp [plainName, overriddenIn]; done) | decide +kernel
set_option maxHeartbeats 40000000 in
theorem own_ef_rm4e (m : MethodId) (x0 : Addr) (x1 : Addr) (x2 : Int32) (x3 : Int32) : entryFrame m #[(.ref x0), (.ref x1), (.int x2), (.int x3), .null] 6 = mkF m 0 #[.val (.ref x0), .val (.ref x1), .val (.int x2), .val (.int x3), .val .null, .unset] [] := by first | (simp [entryFrame, mkF, argsToLocals, Value.category]; done) | rfl
def Q4e (Z : State) (a0 : Addr) (a1 : Addr) (h0 : Heap) (n0 : Nat) (v : Option Value) (h : Heap) (L : List Loc) : Prop := v = none ∧ Fr n0 L ∧ Keep h0 h [a0] ∧ Exa Z h a0 "java/lang/String" ∧ own_Str Z h a0 []
set_option maxRecDepth 65536 in
set_option maxHeartbeats 40000000 in
theorem rm4e (l : Launch) (Z : State) (aZ : Array Value) (hw : ∀ d ∈ tables_1, d.before aZ Z = true) (ws : List Jvm.Cond) (a0 : Addr) (a1 : Addr) (h0 : Heap) (n0 : Nat) (Z0 : n0 ≤ h0.size) (pf0 : Exa Z h0 a0 "java/lang/String") (pf1 : Fld Z h0 a0 "java/lang/String" "value" "[B" .null) (pf2 : Fld Z h0 a0 "java/lang/String" "coder" "B" (.int (0 : Int32))) (g_a0 : n0 ≤ a0) (hold : ∀ (bq : Addr) (cq : Cell), Z.heap[bq]? = some cq → h0[bq]? = some cq) (held : Jvm.Lit.constHeld Z "java/lang/String" 7 ∧ Jvm.Lit.compactW.before aZ Z = true) :
    MetFree l (⟨"java/lang/String", "<init>", "([CIILjava/lang/Void;)V"⟩ : MethodName) (head1 (Jvm.Cond.code (⟨"java/lang/String", "<init>", "([CIILjava/lang/Void;)V"⟩ : MethodName) jdk_42_method_149_code 6 none :: ws) ({ frames := 1, cells := 2, slots := 8, locals := 12 } : Room)) (fun a U => a = #[(.ref a0), (.ref a1), (.int (0 : Int32)), (.int (0 : Int32)), .null] ∧ Z.Warmed39 U.vm ∧ U.heap = h0 ∧ IB Z U.vm []) (fun _ _ _ _ _ => True) (fun _ U o U' => ∃ v L, o = .returned v ∧ (Q4e Z a0 a1 h0 n0 v U'.heap L ∧ IB Z U'.vm ("" :: [])) ∧ ReturnedEndW U o U' L ({ frames := 1, cells := 2, slots := 8, locals := 12 } : Room).cells ({ frames := 1, cells := 2, slots := 8, locals := 12 } : Room).slots) := by
  refine MetFree.of_bodySF (plainFor_of_name own_pn1) hisR ?_
  intro p e s m args below meth c s₁ Bd hml0 hP hK
  obtain ⟨rfl, hZ, hh, hI0⟩ := hP
  have hx := Bd.exec
  have hby := Bd.bytes
  have hml : c.maxLocals = 6 := hml0
  have hown : s.vm.findClass "java/lang/String" = some m.cls := findClass_of_methodNamed Bd.named
  have hnm := (name_of_methodNamed Bd.named Bd.method).1
  have X0 : Stand p l e ({ frames := 1, cells := 2, slots := 8, locals := 12 } : Room) s m #[(.ref a0), (.ref a1), (.int (0 : Int32)), (.int (0 : Int32)), .null] below meth c s₁ [] 0 0 := Stand.of_body Bd
  have e0 : s₁.heap = h0 := by rw [← hh, Bd.state]; rfl
  have N0 := Fr.nil n0
  have ST0 := own_St.refl s h0
  have K0 : Keep h0 h0 [a0] := Keep.refl h0 _
  refine own_go (S' := s₁.setTop (mkF m 0 #[.val (.ref a0), .val (.ref a1), .val (.int (0 : Int32)), .val (.int (0 : Int32)), .val .null, .unset] [])) (fun tt0 kk0 => castTop (own_ef_rm4e m a0 a1 (0 : Int32) (0 : Int32)) kk0) ?_
  refine own_go (S' := s₁.setTop (mkF m 1 #[.val (.ref a0), .val (.ref a1), .val (.int (0 : Int32)), .val (.int (0 : Int32)), .val .null, .unset] [(.ref a0)])) (fun target kt => ?_) ?_
  · skip
    show Steps p.tables e below (s₁.setTop (mkF m 0 #[.val (.ref a0), .val (.ref a1), .val (.int (0 : Int32)), .val (.int (0 : Int32)), .val .null, .unset] [])) _
    refine XS.aloadN X0.here hx rfl (hb hby d4_0) rfl rfl ?_
    exact kt
  obtain ⟨T277, X277, e277, st277⟩ := initO X0 hx hZ hown (hw _ (List.mem_of_getElem? (i := 22) rfl)) (hw _ (List.mem_of_getElem? (i := 23) rfl)) (hw _ (List.mem_of_getElem? (i := 24) rfl)) e0 (g := (mkF m 1 #[.val (.ref a0), .val (.ref a1), .val (.int (0 : Int32)), .val (.int (0 : Int32)), .val .null, .unset] [(.ref a0)])) rfl (by rw [hml]; rfl) rfl (hb hby d4_1) (by decide) (W := 0) (by show 2 * 0 + _ ≤ _; exact Nat.le_of_eq rfl) (by decide)
  refine own_go (S' := T277.setTop (mkF m 4 #[.val (.ref a0), .val (.ref a1), .val (.int (0 : Int32)), .val (.int (0 : Int32)), .val .null, .unset] [])) st277 ?_
  refine own_go (S' := T277.setTop (mkF m 9 #[.val (.ref a0), .val (.ref a1), .val (.int (0 : Int32)), .val (.int (0 : Int32)), .val .null, .unset] [(.ref a0)])) (fun target kt => ?_) ?_
  · skip
    show Steps p.tables e below (T277.setTop (mkF m 4 #[.val (.ref a0), .val (.ref a1), .val (.int (0 : Int32)), .val (.int (0 : Int32)), .val .null, .unset] [])) _
    refine XS.iloadN X277.here hx rfl (hb hby d4_4) rfl ?_
    show Steps p.tables e below (T277.setTop (mkF m 5 #[.val (.ref a0), .val (.ref a1), .val (.int (0 : Int32)), .val (.int (0 : Int32)), .val .null, .unset] [(.int (0 : Int32))])) _
    refine XS.ifNo X277.here hx rfl (hb hby d4_5) rfl ((if0 _ _).trans (teq (by decide : (0 : Int32) = (0 : Int32))).2) ?_
    show Steps p.tables e below (T277.setTop (mkF m 8 #[.val (.ref a0), .val (.ref a1), .val (.int (0 : Int32)), .val (.int (0 : Int32)), .val .null, .unset] [])) _
    refine XS.aloadN X277.here hx rfl (hb hby d4_8) rfl rfl ?_
    exact kt
  obtain ⟨r278, s278, T278, h278, t278, kb278, X278, e278, E278, ST278, hZ, hown, A278, C278, V278, B278, Q278, I278, Lt278, st278⟩ := own_ldcV X277 hx hZ hown (hw _ (List.mem_of_getElem? (i := 70) rfl)) (own_strw hw) e277 ST0 (fun bq cq qq => by rw [hh]; exact hold bq cq qq) hI0 (by simp) held (cs := ([] : List Int32)) (by decide) (by decide) (by decide) (by decide) (g := (mkF m 9 #[.val (.ref a0), .val (.ref a1), .val (.int (0 : Int32)), .val (.int (0 : Int32)), .val .null, .unset] [(.ref a0)])) rfl (hb hby d4_9) (n := 4) (by decide) (by decide) (by decide) (by decide)
  have f279 : Exa Z h278 a0 "java/lang/String" := pf0.ext E278
  have f280 : Fld Z h278 a0 "java/lang/String" "value" "[B" .null := pf1.ext E278
  have f281 : Fld Z h278 a0 "java/lang/String" "coder" "B" (.int (0 : Int32)) := pf2.ext E278
  have Z278 : n0 ≤ h278.size := Nat.le_trans Z0 E278.1
  have K278 : Keep h0 h278 [a0] := K0.ext E278
  have ne_a0_t278 : a0 ≠ t278 := Exa.neArv f279 B278 (hw _ (List.mem_of_getElem? (i := 13) rfl))
  refine own_go (S' := T278.setTop (mkF m 11 #[.val (.ref a0), .val (.ref a1), .val (.int (0 : Int32)), .val (.int (0 : Int32)), .val .null, .unset] [(.ref r278), (.ref a0)])) st278 ?_
  obtain ⟨T282, X282, e282, st282⟩ := getF X278 hx hZ hown (host := "") (Or.inl (hw _ (List.mem_of_getElem? (i := 39) rfl))) Via.refl e278 V278 (g := (mkF m 11 #[.val (.ref a0), .val (.ref a1), .val (.int (0 : Int32)), .val (.int (0 : Int32)), .val .null, .unset] [(.ref r278), (.ref a0)])) rfl rfl (hb hby d4_11)
  refine own_go (S' := T282.setTop (mkF m 14 #[.val (.ref a0), .val (.ref a1), .val (.int (0 : Int32)), .val (.int (0 : Int32)), .val .null, .unset] [(.ref t278), (.ref a0)])) st282 ?_
  obtain ⟨T283, h283, X283, e283, W283, st283⟩ := putF X282 hx hZ hown (host := "") (Or.inl (hw _ (List.mem_of_getElem? (i := 39) rfl))) Via.refl e282 f280 f279 (Or.inr ⟨(hw _ (List.mem_of_getElem? (i := 40) rfl)), rfl, hnm⟩) (hw _ (List.mem_of_getElem? (i := 13) rfl)) (ty := (.array .byte)) (by decide) rfl rfl (g := (mkF m 14 #[.val (.ref a0), .val (.ref a1), .val (.int (0 : Int32)), .val (.int (0 : Int32)), .val .null, .unset] [(.ref t278), (.ref a0)])) rfl rfl (hb hby d4_14)
  have f284 : Exa Z h283 a0 "java/lang/String" := f279.wr W283
  have f285 : Fld Z h283 a0 "java/lang/String" "coder" "B" (.int (0 : Int32)) := f281.other W283 (Or.inr (slot_ne (Or.inr (hw _ (List.mem_of_getElem? (i := 38) rfl))) (Or.inr (hw _ (List.mem_of_getElem? (i := 40) rfl))) (by decide) (t := .byte) (t' := (.array .byte)) (by decide) (by decide)))
  have f286 : Exa Z h283 r278 "java/lang/String" := A278.wr W283
  have f287 : Fld Z h283 r278 "java/lang/String" "coder" "B" (.int (0 : Int32)) := C278.other W283 (Or.inr (slot_ne (Or.inr (hw _ (List.mem_of_getElem? (i := 38) rfl))) (Or.inr (hw _ (List.mem_of_getElem? (i := 40) rfl))) (by decide) (t := .byte) (t' := (.array .byte)) (by decide) (by decide)))
  have f289 : Arv Z h283 t278 kb278 .byte (Int32.ofNat 0) ((([] : List Int32).map StrChars.lo8).map Value.int) (.int 0) := B278.other W283 (Ne.symm ne_a0_t278)
  have f291 : Fld Z h283 a0 "java/lang/String" "value" "[B" (.ref t278) := f280.same W283
  have Z283 : n0 ≤ h283.size := Nat.le_trans Z278 (Keep.of_wr W283).1
  have ST283 := ST278.le (Keep.of_wr W283).1
  have K283 : Keep h0 h283 [a0] := K278.wr W283 (Or.inl (List.mem_of_getElem? (i := 0) rfl))
  have N283 := Fr.snoc X283 N0 g_a0
  refine own_go (S' := T283.setTop (mkF m 17 #[.val (.ref a0), .val (.ref a1), .val (.int (0 : Int32)), .val (.int (0 : Int32)), .val .null, .unset] [])) st283 ?_
  refine own_go (S' := T283.setTop (mkF m 18 #[.val (.ref a0), .val (.ref a1), .val (.int (0 : Int32)), .val (.int (0 : Int32)), .val .null, .unset] [(.ref a0)])) (fun target kt => ?_) ?_
  · skip
    show Steps p.tables e below (T283.setTop (mkF m 17 #[.val (.ref a0), .val (.ref a1), .val (.int (0 : Int32)), .val (.int (0 : Int32)), .val .null, .unset] [])) _
    refine XS.aloadN X283.here hx rfl (hb hby d4_17) rfl rfl ?_
    exact kt
  refine own_go (S' := T283.setTop (mkF m 20 #[.val (.ref a0), .val (.ref a1), .val (.int (0 : Int32)), .val (.int (0 : Int32)), .val .null, .unset] [(.ref r278), (.ref a0)])) (own_ldcA X283 hx hZ hown (hw _ (List.mem_of_getElem? (i := 70) rfl)) Lt278 (g := (mkF m 18 #[.val (.ref a0), .val (.ref a1), .val (.int (0 : Int32)), .val (.int (0 : Int32)), .val .null, .unset] [(.ref a0)])) rfl (hb hby d4_18)) ?_
  obtain ⟨T292, X292, e292, st292⟩ := getF X283 hx hZ hown (host := "") (Or.inl (hw _ (List.mem_of_getElem? (i := 37) rfl))) Via.refl e283 f287 (g := (mkF m 20 #[.val (.ref a0), .val (.ref a1), .val (.int (0 : Int32)), .val (.int (0 : Int32)), .val .null, .unset] [(.ref r278), (.ref a0)])) rfl rfl (hb hby d4_20)
  refine own_go (S' := T292.setTop (mkF m 23 #[.val (.ref a0), .val (.ref a1), .val (.int (0 : Int32)), .val (.int (0 : Int32)), .val .null, .unset] [(.int (0 : Int32)), (.ref a0)])) st292 ?_
  obtain ⟨T293, h293, X293, e293, W293, st293⟩ := putFN X292 hx hZ hown (hw _ (List.mem_of_getElem? (i := 37) rfl)) Via.refl e292 f285 f284 (Or.inr ⟨(hw _ (List.mem_of_getElem? (i := 38) rfl)), rfl, hnm⟩) (hw _ (List.mem_of_getElem? (i := 13) rfl)) (ty := .byte) (v' := (.int (0 : Int32))) (by decide) rfl (by decide) (g := (mkF m 23 #[.val (.ref a0), .val (.ref a1), .val (.int (0 : Int32)), .val (.int (0 : Int32)), .val .null, .unset] [(.int (0 : Int32)), (.ref a0)])) rfl rfl (hb hby d4_23)
  have f294 : Exa Z h293 a0 "java/lang/String" := f284.wr W293
  have f295 : Exa Z h293 r278 "java/lang/String" := f286.wr W293
  have f297 : Arv Z h293 t278 kb278 .byte (Int32.ofNat 0) ((([] : List Int32).map StrChars.lo8).map Value.int) (.int 0) := f289.other W293 (Ne.symm ne_a0_t278)
  have f298 : Fld Z h293 a0 "java/lang/String" "value" "[B" (.ref t278) := f291.other W293 (Or.inr (slot_ne (Or.inr (hw _ (List.mem_of_getElem? (i := 40) rfl))) (Or.inr (hw _ (List.mem_of_getElem? (i := 38) rfl))) (by decide) (t := (.array .byte)) (t' := .byte) (by decide) (by decide)))
  have f299 : Fld Z h293 a0 "java/lang/String" "coder" "B" (.int (0 : Int32)) := f285.same W293
  have Z293 : n0 ≤ h293.size := Nat.le_trans Z283 (Keep.of_wr W293).1
  have ST293 := ST283.le (Keep.of_wr W293).1
  have K293 : Keep h0 h293 [a0] := K283.wr W293 (Or.inl (List.mem_of_getElem? (i := 0) rfl))
  have N293 := Fr.snoc X293 N283 g_a0
  refine own_go (S' := T293.setTop (mkF m 26 #[.val (.ref a0), .val (.ref a1), .val (.int (0 : Int32)), .val (.int (0 : Int32)), .val .null, .unset] [])) st293 ?_
  have fT : own_Str Z h293 a0 [] := ⟨t278, _, f294, f299, f298, f297, (fun c hc => nomatch hc), by decide⟩
  obtain ⟨fs, hr, hrun, hended, hW, hBk, hsame⟩ := own_leave X293 e293 ST293 (v := none) (fun _ => rfl)
  refine ⟨_, _, ?_, hrun, hended, _, _, rfl, ⟨?_, (own_IB.of_eq I278 X293.warmed.interned_eq)⟩, ⟨_, rfl⟩, hW, hBk, hsame.mono (by decide) (by decide)⟩
  · exact X293.returnOut hx Bd.returns (hb hby d4_26) hr
  · show Q4e Z a0 a1 h0 n0 _ T293.heap _
    rw [e293]
    exact ⟨rfl, N293, K293, f294, fT⟩
theorem d3_0 : decode jdk_42_method_3_code 0 = .ok (.aload_n 0, 1) := by decide +kernel
theorem d3_1 : decode jdk_42_method_3_code 1 = .ok (.aload_n 1, 1) := by decide +kernel
theorem d3_2 : decode jdk_42_method_3_code 2 = .ok (.iconst 0, 1) := by decide +kernel
theorem d3_3 : decode jdk_42_method_3_code 3 = .ok (.aload_n 1, 1) := by decide +kernel
theorem d3_4 : decode jdk_42_method_3_code 4 = .ok (.arraylength, 1) := by decide +kernel
theorem d3_5 : decode jdk_42_method_3_code 5 = .ok (.aconst_null, 1) := by decide +kernel
theorem d3_6 : decode jdk_42_method_3_code 6 = .ok (.invokespecial 27, 3) := by decide +kernel
theorem d3_9 : decode jdk_42_method_3_code 9 = .ok (.return_, 1) := by decide +kernel
theorem own_pd3 : parseMethodDescriptor "([CIILjava/lang/Void;)V" = some ⟨[(.array .char), .int, .int, (.object "java/lang/Void")], none⟩ := by decide +kernel
set_option maxHeartbeats 40000000 in
theorem own_ef_rm3e (m : MethodId) (x0 : Addr) (x1 : Addr) : entryFrame m #[(.ref x0), (.ref x1)] 2 = mkF m 0 #[.val (.ref x0), .val (.ref x1)] [] := by first | (simp [entryFrame, mkF, argsToLocals, Value.category]; done) | rfl
def Q3e (Z : State) (a0 : Addr) (a1 : Addr) (gz : Nat → Int32) (h0 : Heap) (n0 : Nat) (v : Option Value) (h : Heap) (L : List Loc) : Prop := v = none ∧ Fr n0 L ∧ Keep h0 h [a0] ∧ Exa Z h a0 "java/lang/String" ∧ own_Str Z h a0 []
set_option maxRecDepth 65536 in
set_option maxHeartbeats 40000000 in
theorem rm3e (l : Launch) (Z : State) (aZ : Array Value) (hw : ∀ d ∈ tables_1, d.before aZ Z = true) (ws : List Jvm.Cond) (a0 : Addr) (a1 : Addr) (gz : Nat → Int32) (h0 : Heap) (n0 : Nat) (Z0 : n0 ≤ h0.size) (pf0 : Exa Z h0 a0 "java/lang/String") (pf1 : Fld Z h0 a0 "java/lang/String" "value" "[B" .null) (pf2 : Fld Z h0 a0 "java/lang/String" "coder" "B" (.int (0 : Int32))) (pf3 : own_AI Z h0 a1 .char 0 gz) (g_a0 : n0 ≤ a0) (hold : ∀ (bq : Addr) (cq : Cell), Z.heap[bq]? = some cq → h0[bq]? = some cq) (held : Jvm.Lit.constHeld Z "java/lang/String" 7 ∧ Jvm.Lit.compactW.before aZ Z = true) (hne : a1 ≠ a0) :
    MetFree l (⟨"java/lang/String", "<init>", "([C)V"⟩ : MethodName) (head1 (Jvm.Cond.code (⟨"java/lang/String", "<init>", "([C)V"⟩ : MethodName) jdk_42_method_3_code 2 none :: ws) ({ frames := 2, cells := 2, slots := 8, locals := 29 } : Room)) (fun a U => a = #[(.ref a0), (.ref a1)] ∧ Z.Warmed39 U.vm ∧ U.heap = h0 ∧ IB Z U.vm []) (fun _ _ _ _ _ => True) (fun _ U o U' => ∃ v L, o = .returned v ∧ (Q3e Z a0 a1 gz h0 n0 v U'.heap L ∧ IB Z U'.vm ("" :: [])) ∧ ReturnedEndW U o U' L ({ frames := 2, cells := 2, slots := 8, locals := 29 } : Room).cells ({ frames := 2, cells := 2, slots := 8, locals := 29 } : Room).slots) := by
  refine MetFree.of_bodySF (plainFor_of_name own_pn1) hisR ?_
  intro p e s m args below meth c s₁ Bd hml0 hP hK
  obtain ⟨rfl, hZ, hh, hI0⟩ := hP
  have hx := Bd.exec
  have hby := Bd.bytes
  have hml : c.maxLocals = 2 := hml0
  have hown : s.vm.findClass "java/lang/String" = some m.cls := findClass_of_methodNamed Bd.named
  have hnm := (name_of_methodNamed Bd.named Bd.method).1
  have X0 : Stand p l e ({ frames := 2, cells := 2, slots := 8, locals := 29 } : Room) s m #[(.ref a0), (.ref a1)] below meth c s₁ [] 0 0 := Stand.of_body Bd
  have e0 : s₁.heap = h0 := by rw [← hh, Bd.state]; rfl
  have N0 := Fr.nil n0
  have ST0 := own_St.refl s h0
  have K0 : Keep h0 h0 [a0] := Keep.refl h0 _
  refine own_go (S' := s₁.setTop (mkF m 0 #[.val (.ref a0), .val (.ref a1)] [])) (fun tt0 kk0 => castTop (own_ef_rm3e m a0 a1) kk0) ?_
  refine own_go (S' := s₁.setTop (mkF m 4 #[.val (.ref a0), .val (.ref a1)] [(.ref a1), (.int (0 : Int32)), (.ref a1), (.ref a0)])) (fun target kt => ?_) ?_
  · skip
    show Steps p.tables e below (s₁.setTop (mkF m 0 #[.val (.ref a0), .val (.ref a1)] [])) _
    refine XS.aloadN X0.here hx rfl (hb hby d3_0) rfl rfl ?_
    show Steps p.tables e below (s₁.setTop (mkF m 1 #[.val (.ref a0), .val (.ref a1)] [(.ref a0)])) _
    refine XS.aloadN X0.here hx rfl (hb hby d3_1) rfl rfl ?_
    show Steps p.tables e below (s₁.setTop (mkF m 2 #[.val (.ref a0), .val (.ref a1)] [(.ref a1), (.ref a0)])) _
    refine XS.iconst X0.here hx rfl (hb hby d3_2) ?_
    show Steps p.tables e below (s₁.setTop (mkF m 3 #[.val (.ref a0), .val (.ref a1)] [(.int (0 : Int32)), (.ref a1), (.ref a0)])) _
    refine XS.aloadN X0.here hx rfl (hb hby d3_3) rfl rfl ?_
    exact kt
  obtain ⟨c300, Ar300, S300, M300, H300⟩ := id pf3
  have st300 : ∀ target, Steps p.tables e below (s₁.setTop (mkF m 5 #[.val (.ref a0), .val (.ref a1)] [(.int (0 : Int32)), (.int (0 : Int32)), (.ref a1), (.ref a0)])) target → Steps p.tables e below (s₁.setTop (mkF m 4 #[.val (.ref a0), .val (.ref a1)] [(.ref a1), (.int (0 : Int32)), (.ref a1), (.ref a0)])) target := fun target kt => X0.arraylength hx (cell := c300) (by rw [e0]; exact Ar300.1) (State.isArrayOf_alike hZ.alike Ar300.2.1) (g := (mkF m 4 #[.val (.ref a0), .val (.ref a1)] [(.ref a1), (.int (0 : Int32)), (.ref a1), (.ref a0)])) rfl rfl (hb hby d3_4) _ (by rw [own_len S300]; exact kt)
  refine own_go (S' := s₁.setTop (mkF m 5 #[.val (.ref a0), .val (.ref a1)] [(.int (0 : Int32)), (.int (0 : Int32)), (.ref a1), (.ref a0)])) st300 ?_
  refine own_go (S' := s₁.setTop (mkF m 6 #[.val (.ref a0), .val (.ref a1)] [.null, (.int (0 : Int32)), (.int (0 : Int32)), (.ref a1), (.ref a0)])) (fun target kt => ?_) ?_
  · skip
    show Steps p.tables e below (s₁.setTop (mkF m 5 #[.val (.ref a0), .val (.ref a1)] [(.int (0 : Int32)), (.int (0 : Int32)), (.ref a1), (.ref a0)])) _
    refine XS.aconstNull X0.here hx rfl (hb hby d3_5) ?_
    exact kt
  obtain ⟨_, _, ⟨T301, L301, k301, n301⟩, -, X301, hS301, hG301, ⟨Lc301, hQ301, l301, y301, z301⟩, st301⟩ := X0.specialBackS hx (y := (⟨"java/lang/String", "<init>", "([CIILjava/lang/Void;)V"⟩ : MethodName)) rfl hown (mvT hZ (hw _ (List.mem_of_getElem? (i := 18) rfl))) (mvT hZ (hw _ (List.mem_of_getElem? (i := 19) rfl))) (mvT hZ (hw _ (List.mem_of_getElem? (i := 21) rfl))) (by decide) (own_backOfI (Ts' := ("" :: [])) (W := 0) (rm4e l Z aZ hw [] a0 a1 h0 n0 Z0 pf0 pf1 pf2 g_a0 (hold : ∀ (bq : Addr) (cq : Cell), Z.heap[bq]? = some cq → h0[bq]? = some cq) (held : Jvm.Lit.constHeld Z "java/lang/String" 7 ∧ Jvm.Lit.compactW.before aZ Z = true)) hZ (hw _ (List.mem_of_getElem? (i := 21) rfl)) (hw _ (List.mem_of_getElem? (i := 14) rfl)) (by decide) (by decide) hI0) (g := (mkF m 6 #[.val (.ref a0), .val (.ref a1)] [.null, (.int (0 : Int32)), (.int (0 : Int32)), (.ref a1), (.ref a0)])) rfl (by rw [hml]; rfl) (Steps.refl _) (a := a0) (argsL := [(.ref a1), (.int (0 : Int32)), (.int (0 : Int32)), .null]) (rest := []) (lenOf own_pd3 rfl) rfl (by show 2 * 0 + _ ≤ _; exact Nat.le_of_eq rfl) (hb hby d3_6) (fun _ _ => ⟨rfl, e0, (by decide : 0 + 2 ≤ _), (by decide : 0 + 8 ≤ _)⟩)
  dsimp only [Pt.U, Pt.locs, Pt.cells, Pt.slots] at X301 l301 y301 z301 st301 hQ301 hS301 hG301
  obtain rfl : k301 = 2 := y301
  obtain rfl : n301 = 8 := z301
  obtain ⟨hQ301, hI301⟩ := hQ301
  obtain ⟨s301, X301, ST301, hZ, hown, I301⟩ := own_backI X301 ST0 hS301 hG301 e0 hZ hown hI301
  obtain ⟨rfl, N301q, K301q, f301_0, f301_1⟩ := hQ301
  have N301 : Fr n0 L301 := by rw [l301]; exact Fr.app N0 N301q
  clear l301
  have f302 : Exa Z T301.heap a0 "java/lang/String" := pf0.keep K301q
  have f305 : own_AI Z T301.heap a1 .char 0 gz := pf3.keep K301q (ninS hne nin0)
  have Z301 : n0 ≤ T301.heap.size := Nat.le_trans Z0 K301q.1
  have K301 : Keep h0 T301.heap [a0] := K0.trans K301q (allS (Or.inl (List.mem_of_getElem? (i := 0) rfl)) all0)
  refine own_go (S' := T301.setTop (mkF m 9 #[.val (.ref a0), .val (.ref a1)] [])) (fun _ k => st301.trans k) ?_
  obtain ⟨fs, hr, hrun, hended, hW, hBk, hsame⟩ := own_leave X301 rfl ST301 (v := none) (fun _ => rfl)
  refine ⟨_, _, ?_, hrun, hended, _, _, rfl, ⟨?_, (own_IB.of_eq I301 X301.warmed.interned_eq)⟩, ⟨_, rfl⟩, hW, hBk, hsame.mono (by decide) (by decide)⟩
  · exact X301.returnOut hx Bd.returns (hb hby d3_9) hr
  · show Q3e Z a0 a1 gz h0 n0 _ T301.heap _
    exact ⟨rfl, N301, K301, f301_0, f301_1⟩
theorem d9_0 : decode prog_52_method_8_code 0 = .ok (.aload_n 1, 1) := by decide +kernel
theorem d9_1 : decode prog_52_method_8_code 1 = .ok (.aload_n 0, 1) := by decide +kernel
theorem d9_2 : decode prog_52_method_8_code 2 = .ok (.getfield 51, 3) := by decide +kernel
theorem d9_5 : decode prog_52_method_8_code 5 = .ok (.invokevirtual 72, 3) := by decide +kernel
theorem d9_8 : decode prog_52_method_8_code 8 = .ok (.ifCond .ne 12, 3) := by decide +kernel
theorem d9_11 : decode prog_52_method_8_code 11 = .ok (.aload_n 1, 1) := by decide +kernel
theorem d9_12 : decode prog_52_method_8_code 12 = .ok (.ldc 31, 2) := by decide +kernel
theorem d9_14 : decode prog_52_method_8_code 14 = .ok (.invokevirtual 72, 3) := by decide +kernel
theorem d9_17 : decode prog_52_method_8_code 17 = .ok (.ifCond .eq 7, 3) := by decide +kernel
theorem d9_20 : decode prog_52_method_8_code 20 = .ok (.iconst 1, 1) := by decide +kernel
theorem d9_21 : decode prog_52_method_8_code 21 = .ok (.goto 4, 3) := by decide +kernel
theorem d9_24 : decode prog_52_method_8_code 24 = .ok (.iconst 0, 1) := by decide +kernel
theorem d9_25 : decode prog_52_method_8_code 25 = .ok (.ireturn, 1) := by decide +kernel
theorem own_pd4 : parseMethodDescriptor "(Ljava/lang/Object;)Z" = some ⟨[(.object "java/lang/Object")], some .boolean⟩ := by decide +kernel
theorem own_pn2 : plainName "com/example/access_bindings/accessbindings/server/RestResource" = true := by first | (simp [plainName, overriddenIn]; done) | decide +kernel
set_option maxHeartbeats 40000000 in
theorem own_ef_rm9 (m : MethodId) (x0 : Addr) (x1 : Addr) : entryFrame m #[(.ref x0), (.ref x1)] 2 = mkF m 0 #[.val (.ref x0), .val (.ref x1)] [] := by first | (simp [entryFrame, mkF, argsToLocals, Value.category]; done) | rfl
def Q9 (Z : State) (a0 : Addr) (a1 : Addr) (lm : Addr) (cs : List Int32) (ds : List Int32) (zz : Int32) (h0 : Heap) (n0 : Nat) (v : Option Value) (h : Heap) (L : List Loc) : Prop := v = some (.int (own_lb cs ds)) ∧ Fr n0 L ∧ Keep h0 h []
set_option maxRecDepth 65536 in
set_option maxHeartbeats 40000000 in
theorem rm9 (l : Launch) (Z : State) (aZ : Array Value) (hw : ∀ d ∈ tables_1, d.before aZ Z = true) (ws : List Jvm.Cond) (a0 : Addr) (a1 : Addr) (lm : Addr) (cs : List Int32) (ds : List Int32) (zz : Int32) (h0 : Heap) (n0 : Nat) (Z0 : n0 ≤ h0.size) (pf0 : Exa Z h0 a0 "com/example/access_bindings/accessbindings/server/RestResource") (pf1 : Fld Z h0 a0 "com/example/access_bindings/accessbindings/server/RestResource" "listMethod" "Ljava/lang/String;" (.ref lm)) (pf2 : Exa Z h0 a1 "java/lang/String") (pf3 : own_Str Z h0 a1 cs) (pf4 : own_Str Z h0 lm ds) (pf5 : Sta Z h0 "java/lang/String" "COMPACT_STRINGS" "Z" (.int zz)) (hold : ∀ (bq : Addr) (cq : Cell), Z.heap[bq]? = some cq → h0[bq]? = some cq) (held : Jvm.Lit.constHeld Z "com/example/access_bindings/accessbindings/server/RestResource" 31 ∧ Jvm.Lit.compactW.before aZ Z = true) (zne : ¬ zz = 0) :
    MetFree l (⟨"com/example/access_bindings/accessbindings/server/RestResource", "listsBindingsAt", "(Ljava/lang/String;)Z"⟩ : MethodName) (head1 (Jvm.Cond.code (⟨"com/example/access_bindings/accessbindings/server/RestResource", "listsBindingsAt", "(Ljava/lang/String;)Z"⟩ : MethodName) prog_52_method_8_code 2 (some .boolean) :: ws) ({ frames := 2, cells := 2, slots := 76, locals := 28 } : Room)) (fun a U => a = #[(.ref a0), (.ref a1)] ∧ Z.Warmed39 U.vm ∧ U.heap = h0 ∧ IB Z U.vm ("" :: [])) (fun _ _ _ _ _ => True) (fun _ U o U' => ∃ v L, o = .returned v ∧ (Q9 Z a0 a1 lm cs ds zz h0 n0 v U'.heap L ∧ IB Z U'.vm ("listAccessBindings" :: ("" :: []))) ∧ ReturnedEndW U o U' L ({ frames := 2, cells := 2, slots := 76, locals := 28 } : Room).cells ({ frames := 2, cells := 2, slots := 76, locals := 28 } : Room).slots) := by
  refine MetFree.of_bodySF (plainFor_of_name own_pn2) hisR ?_
  intro p e s m args below meth c s₁ Bd hml0 hP hK
  obtain ⟨rfl, hZ, hh, hI0⟩ := hP
  have hx := Bd.exec
  have hby := Bd.bytes
  have hml : c.maxLocals = 2 := hml0
  have hown : s.vm.findClass "com/example/access_bindings/accessbindings/server/RestResource" = some m.cls := findClass_of_methodNamed Bd.named
  have hnm := (name_of_methodNamed Bd.named Bd.method).1
  have X0 : Stand p l e ({ frames := 2, cells := 2, slots := 76, locals := 28 } : Room) s m #[(.ref a0), (.ref a1)] below meth c s₁ [] 0 0 := Stand.of_body Bd
  have e0 : s₁.heap = h0 := by rw [← hh, Bd.state]; rfl
  have N0 := Fr.nil n0
  have ST0 := own_St.refl s h0
  have K0 : Keep h0 h0 [] := Keep.refl h0 _
  refine own_go (S' := s₁.setTop (mkF m 0 #[.val (.ref a0), .val (.ref a1)] [])) (fun tt0 kk0 => castTop (own_ef_rm9 m a0 a1) kk0) ?_
  refine own_go (S' := s₁.setTop (mkF m 2 #[.val (.ref a0), .val (.ref a1)] [(.ref a0), (.ref a1)])) (fun target kt => ?_) ?_
  · skip
    show Steps p.tables e below (s₁.setTop (mkF m 0 #[.val (.ref a0), .val (.ref a1)] [])) _
    refine XS.aloadN X0.here hx rfl (hb hby d9_0) rfl rfl ?_
    show Steps p.tables e below (s₁.setTop (mkF m 1 #[.val (.ref a0), .val (.ref a1)] [(.ref a1)])) _
    refine XS.aloadN X0.here hx rfl (hb hby d9_1) rfl rfl ?_
    exact kt
  obtain ⟨T306, X306, e306, st306⟩ := getF X0 hx hZ hown (host := "") (Or.inl (hw _ (List.mem_of_getElem? (i := 46) rfl))) Via.refl e0 pf1 (g := (mkF m 2 #[.val (.ref a0), .val (.ref a1)] [(.ref a0), (.ref a1)])) rfl rfl (hb hby d9_2)
  refine own_go (S' := T306.setTop (mkF m 5 #[.val (.ref a0), .val (.ref a1)] [(.ref lm), (.ref a1)])) st306 ?_
  obtain ⟨cq307, kq307, q307a, q307b, q307c⟩ := isOf hZ e306 pf2
  obtain ⟨_, _, ⟨T307, L307, k307, n307⟩, -, X307, ⟨Lc307, hQ307, l307, y307, z307⟩, st307⟩ := X306.virtualBack hx (y := (⟨"java/lang/String", "equals", "(Ljava/lang/Object;)Z"⟩ : MethodName)) (z := (⟨"java/lang/String", "equals", "(Ljava/lang/Object;)Z"⟩ : MethodName)) hown (mvT hZ (hw _ (List.mem_of_getElem? (i := 48) rfl))) (mvT hZ (hw _ (List.mem_of_getElem? (i := 49) rfl))) (notFace_of_selects (args := #[]) (mvT hZ (hw _ (List.mem_of_getElem? (i := 51) rfl)))) (mvT hZ (hw _ (List.mem_of_getElem? (i := 51) rfl))) (mvT hZ (hw _ (List.mem_of_getElem? (i := 50) rfl))) (by decide) (own_eqBack (W := 0) (n0 := n0) hZ hw Z0 pf3 pf4 pf5 (zne : ¬ zz = 0) (by decide) (by decide)) q307a q307c (g := (mkF m 5 #[.val (.ref a0), .val (.ref a1)] [(.ref lm), (.ref a1)])) rfl (by rw [hml]; rfl) (Steps.refl _) (argsL := [(.ref lm)]) (rest := []) (lenOf own_pd4 rfl) rfl (by show 2 * 0 + _ ≤ _; exact Nat.le_of_eq rfl) (hb hby d9_5) (fun _ _ => ⟨rfl, e306, (by decide : 0 + 0 ≤ _), (by decide : 0 + 0 ≤ _)⟩)
  dsimp only [Pt.U, Pt.locs, Pt.cells, Pt.slots] at X307 l307 y307 z307 st307 hQ307
  obtain rfl : k307 = 0 := y307
  obtain rfl : n307 = 0 := z307
  obtain ⟨rfl, rfl, e307⟩ := hQ307
  rw [List.append_nil] at l307
  subst l307
  refine own_go (S' := T307.setTop (mkF m 8 #[.val (.ref a0), .val (.ref a1)] [(.int (if cs = ds then (1 : Int32) else 0))])) (fun _ k => st307.trans k) ?_
  by_cases hc8 : (if cs = ds then (1 : Int32) else 0) = (0 : Int32)
  · skip
    refine own_go (S' := T307.setTop (mkF m 12 #[.val (.ref a0), .val (.ref a1)] [(.ref a1)])) (fun target kt => ?_) ?_
    · skip
      show Steps p.tables e below (T307.setTop (mkF m 8 #[.val (.ref a0), .val (.ref a1)] [(.int (if cs = ds then (1 : Int32) else 0))])) _
      refine XS.ifNo X307.here hx rfl (hb hby d9_8) rfl ((if0 _ _).trans (teq hc8).2) ?_
      show Steps p.tables e below (T307.setTop (mkF m 11 #[.val (.ref a0), .val (.ref a1)] [])) _
      refine XS.aloadN X307.here hx rfl (hb hby d9_11) rfl rfl ?_
      exact kt
    obtain ⟨r308, s308, T308, h308, t308, kb308, X308, e308, E308, ST308, hZ, hown, A308, C308, V308, B308, Q308, I308, Lt308, st308⟩ := own_ldcV X307 hx hZ hown (hw _ (List.mem_of_getElem? (i := 58) rfl)) (own_strw hw) e307 ST0 (fun bq cq qq => by rw [hh]; exact hold bq cq qq) hI0 (by simp) held (cs := ([108, 105, 115, 116, 65, 99, 99, 101, 115, 115, 66, 105, 110, 100, 105, 110, 103, 115] : List Int32)) (by decide) (by decide) (by decide) (by decide) (g := (mkF m 12 #[.val (.ref a0), .val (.ref a1)] [(.ref a1)])) rfl (hb hby d9_12) (n := 72) (by decide) (by decide) (by decide) (by decide)
    have f309 : Exa Z h308 a0 "com/example/access_bindings/accessbindings/server/RestResource" := pf0.ext E308
    have f310 : Fld Z h308 a0 "com/example/access_bindings/accessbindings/server/RestResource" "listMethod" "Ljava/lang/String;" (.ref lm) := pf1.ext E308
    have f311 : Exa Z h308 a1 "java/lang/String" := pf2.ext E308
    have f312 : own_Str Z h308 a1 cs := pf3.ext E308
    have f313 : own_Str Z h308 lm ds := pf4.ext E308
    have f314 : Sta Z h308 "java/lang/String" "COMPACT_STRINGS" "Z" (.int zz) := pf5.ext E308
    have Z308 : n0 ≤ h308.size := Nat.le_trans Z0 E308.1
    have K308 : Keep h0 h308 [] := K0.ext E308
    refine own_go (S' := T308.setTop (mkF m 14 #[.val (.ref a0), .val (.ref a1)] [(.ref r308), (.ref a1)])) st308 ?_
    obtain ⟨cq315, kq315, q315a, q315b, q315c⟩ := isOf hZ e308 f311
    obtain ⟨_, _, ⟨T315, L315, k315, n315⟩, -, X315, ⟨Lc315, hQ315, l315, y315, z315⟩, st315⟩ := X308.virtualBack hx (y := (⟨"java/lang/String", "equals", "(Ljava/lang/Object;)Z"⟩ : MethodName)) (z := (⟨"java/lang/String", "equals", "(Ljava/lang/Object;)Z"⟩ : MethodName)) hown (mvT hZ (hw _ (List.mem_of_getElem? (i := 48) rfl))) (mvT hZ (hw _ (List.mem_of_getElem? (i := 49) rfl))) (notFace_of_selects (args := #[]) (mvT hZ (hw _ (List.mem_of_getElem? (i := 51) rfl)))) (mvT hZ (hw _ (List.mem_of_getElem? (i := 51) rfl))) (mvT hZ (hw _ (List.mem_of_getElem? (i := 50) rfl))) (by decide) (own_eqBack (W := 0) (n0 := n0) hZ hw Z308 f312 Q308 f314 (zne : ¬ zz = 0) (by decide) (by decide)) q315a q315c (g := (mkF m 14 #[.val (.ref a0), .val (.ref a1)] [(.ref r308), (.ref a1)])) rfl (by rw [hml]; rfl) (Steps.refl _) (argsL := [(.ref r308)]) (rest := []) (lenOf own_pd4 rfl) rfl (by show 2 * 0 + _ ≤ _; exact Nat.le_of_eq rfl) (hb hby d9_14) (fun _ _ => ⟨rfl, e308, (by decide : 2 + 0 ≤ _), (by decide : 76 + 0 ≤ _)⟩)
    dsimp only [Pt.U, Pt.locs, Pt.cells, Pt.slots] at X315 l315 y315 z315 st315 hQ315
    obtain rfl : k315 = 2 := y315
    obtain rfl : n315 = 76 := z315
    obtain ⟨rfl, rfl, e315⟩ := hQ315
    rw [List.append_nil] at l315
    subst l315
    refine own_go (S' := T315.setTop (mkF m 17 #[.val (.ref a0), .val (.ref a1)] [(.int (if cs = ([108, 105, 115, 116, 65, 99, 99, 101, 115, 115, 66, 105, 110, 100, 105, 110, 103, 115] : List Int32) then (1 : Int32) else 0))])) (fun _ k => st315.trans k) ?_
    by_cases hc17 : (if cs = ([108, 105, 115, 116, 65, 99, 99, 101, 115, 115, 66, 105, 110, 100, 105, 110, 103, 115] : List Int32) then (1 : Int32) else 0) = (0 : Int32)
    · skip
      refine own_go (S' := T315.setTop (mkF m 25 #[.val (.ref a0), .val (.ref a1)] [(.int (0 : Int32))])) (fun target kt => ?_) ?_
      · skip
        show Steps p.tables e below (T315.setTop (mkF m 17 #[.val (.ref a0), .val (.ref a1)] [(.int (if cs = ([108, 105, 115, 116, 65, 99, 99, 101, 115, 115, 66, 105, 110, 100, 105, 110, 103, 115] : List Int32) then (1 : Int32) else 0))])) _
        refine XS.ifYes X315.here hx rfl (pc0 := 17) (pc' := 24) rfl (hb hby d9_17) rfl ((if0 _ _).trans (teq hc17).1) (by decide) (by decide) ?_
        show Steps p.tables e below (T315.setTop (mkF m 24 #[.val (.ref a0), .val (.ref a1)] [])) _
        refine XS.iconst X315.here hx rfl (hb hby d9_24) ?_
        exact kt
      obtain ⟨fs, hr, hrun, hended, hW, hBk, hsame⟩ := own_leave X315 e315 ST308 (v := some (.int (0 : Int32))) (fun h => by rw [Bd.returns] at h; cases h)
      refine ⟨_, _, ?_, hrun, hended, _, _, rfl, ⟨?_, (own_IB.of_eq I308 X315.warmed.interned_eq)⟩, ⟨_, rfl⟩, hW, hBk, hsame.mono (by decide) (by decide)⟩
      · exact retN X315 hx (t := .boolean) Bd.returns (by simp) (hb hby d9_25) hr
      · show Q9 Z a0 a1 lm cs ds zz h0 n0 _ T315.heap _
        rw [e315]
        exact ⟨(congrArg (fun q => some (Value.int q)) (own_lb3 hc8 hc17).symm), N0, K308⟩
    · skip
      refine own_go (S' := T315.setTop (mkF m 25 #[.val (.ref a0), .val (.ref a1)] [(.int (1 : Int32))])) (fun target kt => ?_) ?_
      · skip
        show Steps p.tables e below (T315.setTop (mkF m 17 #[.val (.ref a0), .val (.ref a1)] [(.int (if cs = ([108, 105, 115, 116, 65, 99, 99, 101, 115, 115, 66, 105, 110, 100, 105, 110, 103, 115] : List Int32) then (1 : Int32) else 0))])) _
        refine XS.ifNo X315.here hx rfl (hb hby d9_17) rfl ((if0 _ _).trans (feq hc17).1) ?_
        show Steps p.tables e below (T315.setTop (mkF m 20 #[.val (.ref a0), .val (.ref a1)] [])) _
        refine XS.iconst X315.here hx rfl (hb hby d9_20) ?_
        show Steps p.tables e below (T315.setTop (mkF m 21 #[.val (.ref a0), .val (.ref a1)] [(.int (1 : Int32))])) _
        refine XS.goto X315.here hx rfl (pc0 := 21) (pc' := 25) rfl (hb hby d9_21) (by decide) (by decide) ?_
        exact kt
      obtain ⟨fs, hr, hrun, hended, hW, hBk, hsame⟩ := own_leave X315 e315 ST308 (v := some (.int (1 : Int32))) (fun h => by rw [Bd.returns] at h; cases h)
      refine ⟨_, _, ?_, hrun, hended, _, _, rfl, ⟨?_, (own_IB.of_eq I308 X315.warmed.interned_eq)⟩, ⟨_, rfl⟩, hW, hBk, hsame.mono (by decide) (by decide)⟩
      · exact retN X315 hx (t := .boolean) Bd.returns (by simp) (hb hby d9_25) hr
      · show Q9 Z a0 a1 lm cs ds zz h0 n0 _ T315.heap _
        rw [e315]
        exact ⟨(congrArg (fun q => some (Value.int q)) (own_lb2 hc8 hc17).symm), N0, K308⟩
  · skip
    refine own_go (S' := T307.setTop (mkF m 25 #[.val (.ref a0), .val (.ref a1)] [(.int (1 : Int32))])) (fun target kt => ?_) ?_
    · skip
      show Steps p.tables e below (T307.setTop (mkF m 8 #[.val (.ref a0), .val (.ref a1)] [(.int (if cs = ds then (1 : Int32) else 0))])) _
      refine XS.ifYes X307.here hx rfl (pc0 := 8) (pc' := 20) rfl (hb hby d9_8) rfl ((if0 _ _).trans (feq hc8).2) (by decide) (by decide) ?_
      show Steps p.tables e below (T307.setTop (mkF m 20 #[.val (.ref a0), .val (.ref a1)] [])) _
      refine XS.iconst X307.here hx rfl (hb hby d9_20) ?_
      show Steps p.tables e below (T307.setTop (mkF m 21 #[.val (.ref a0), .val (.ref a1)] [(.int (1 : Int32))])) _
      refine XS.goto X307.here hx rfl (pc0 := 21) (pc' := 25) rfl (hb hby d9_21) (by decide) (by decide) ?_
      exact kt
    obtain ⟨fs, hr, hrun, hended, hW, hBk, hsame⟩ := own_leave X307 e307 ST0 (v := some (.int (1 : Int32))) (fun h => by rw [Bd.returns] at h; cases h)
    refine ⟨_, _, ?_, hrun, hended, _, _, rfl, ⟨?_, (own_IB.of_eq (own_IB.more hI0 (by simp)) X307.warmed.interned_eq)⟩, ⟨_, rfl⟩, hW, hBk, hsame.mono (by decide) (by decide)⟩
    · exact retN X307 hx (t := .boolean) Bd.returns (by simp) (hb hby d9_25) hr
    · show Q9 Z a0 a1 lm cs ds zz h0 n0 _ T307.heap _
      rw [e307]
      exact ⟨(congrArg (fun q => some (Value.int q)) (own_lb1 hc8).symm), N0, K0⟩
theorem own_pd5 : parseMethodDescriptor "(I)Lcom/example/access_bindings/accessbindings/server/RestResource;" = some ⟨[.int], some (.object "com/example/access_bindings/accessbindings/server/RestResource")⟩ := by decide +kernel
theorem own_pd6 : parseMethodDescriptor "(I)[C" = some ⟨[.int], some (.array .char)⟩ := by decide +kernel
theorem own_pd7 : parseMethodDescriptor "([C)V" = some ⟨[(.array .char)], none⟩ := by decide +kernel
theorem own_pd8 : parseMethodDescriptor "(IC)[C" = some ⟨[.int, .char], some (.array .char)⟩ := by decide +kernel
theorem own_pd9 : parseMethodDescriptor "(Ljava/lang/String;)Z" = some ⟨[(.object "java/lang/String")], some .boolean⟩ := by decide +kernel
set_option maxHeartbeats 40000000 in
theorem own_ef_rm0 (m : MethodId) (x0 : Int32) (x1 : Int32) (x2 : Int32) (x3 : Int32) : entryFrame m #[(.int x0), (.int x1), (.int x2), (.int x3)] maxLocals = mkF m 0 #[.val (.int x0), .val (.int x1), .val (.int x2), .val (.int x3), .unset, .unset, .unset, .unset, .unset, .unset, .unset, .unset, .unset, .unset] [] := by first | (simp [entryFrame, mkF, argsToLocals, Value.category, maxLocals]; done) | rfl
def Q0 (Z : State) (p0 : Int32) (p1 : Int32) (p2 : Int32) (p3 : Int32) (cl : Addr) (co : Addr) (cu : Addr) (ap : Addr) (zz : Int32) (h0 : Heap) (n0 : Nat) (v : Option Value) (h : Heap) (L : List Loc) : Prop := v = some (.int 1) ∧ Fr n0 L
set_option maxRecDepth 65536 in
set_option maxHeartbeats 40000000 in
theorem rm0 (l : Launch) (Z : State) (aZ : Array Value) (hw : ∀ d ∈ tables_1, d.before aZ Z = true) (ws : List Jvm.Cond) (p0 : Int32) (p1 : Int32) (p2 : Int32) (p3 : Int32) (cl : Addr) (co : Addr) (cu : Addr) (ap : Addr) (zz : Int32) (h0 : Heap) (n0 : Nat) (Z0 : n0 ≤ h0.size) (pf0 : Sta Z h0 "com/example/access_bindings/accessbindings/server/RestResource" "CLOUDS" "Lcom/example/access_bindings/accessbindings/server/RestResource;" (.ref cl)) (pf1 : Sta Z h0 "com/example/access_bindings/accessbindings/server/RestResource" "COMMUNITIES" "Lcom/example/access_bindings/accessbindings/server/RestResource;" (.ref co)) (pf2 : Sta Z h0 "com/example/access_bindings/accessbindings/server/RestResource" "CLUSTERS" "Lcom/example/access_bindings/accessbindings/server/RestResource;" (.ref cu)) (pf3 : Sta Z h0 "com/example/access_bindings/accessbindings/server/RestResource" "APPLICATIONS" "Lcom/example/access_bindings/accessbindings/server/RestResource;" (.ref ap)) (pf4 : Sta Z h0 "java/lang/String" "COMPACT_STRINGS" "Z" (.int zz)) (hsts : own_W Z h0 cl co cu ap) (hold : ∀ (bq : Addr) (cq : Cell), Z.heap[bq]? = some cq → h0[bq]? = some cq) (held7 : Jvm.Lit.constHeld Z "java/lang/String" 7 ∧ Jvm.Lit.compactW.before aZ Z = true) (held31 : Jvm.Lit.constHeld Z "com/example/access_bindings/accessbindings/server/RestResource" 31 ∧ Jvm.Lit.compactW.before aZ Z = true) (zne : ¬ zz = 0) :
    MetFree l x (head1 (Jvm.Cond.code x code maxLocals ret :: ws) room_1) (fun a U => a = #[(.int p0), (.int p1), (.int p2), (.int p3)] ∧ Z.Warmed39 U.vm ∧ U.heap = h0 ∧ IB Z U.vm []) (fun _ _ _ _ _ => True) (fun _ U o U' => ∃ v L, o = .returned v ∧ Q0 Z p0 p1 p2 p3 cl co cu ap zz h0 n0 v U'.heap L ∧ ReturnedEndW U o U' L room_1.cells room_1.slots) := by
  refine MetFree.of_bodySF (plainFor_of_name own_pn0) hisR ?_
  intro p e s m args below meth c s₁ Bd hml0 hP hK
  obtain ⟨rfl, hZ, hh, hI0⟩ := hP
  have hx := Bd.exec
  have hby := Bd.bytes
  have hml : c.maxLocals = 14 := hml0
  have hown : s.vm.findClass "com/example/access_bindings/accessbindings/server/RestResourceListsBindingsAtPinLaw" = some m.cls := findClass_of_methodNamed Bd.named
  have hnm := (name_of_methodNamed Bd.named Bd.method).1
  have X0 : Stand p l e room_1 s m #[(.int p0), (.int p1), (.int p2), (.int p3)] below meth c s₁ [] 0 0 := Stand.of_body Bd
  have e0 : s₁.heap = h0 := by rw [← hh, Bd.state]; rfl
  have N0 := Fr.nil n0
  have ST0 := own_St.refl s h0
  have K0 : Keep h0 h0 [] := Keep.refl h0 _
  refine own_go (S' := s₁.setTop (mkF m 0 #[.val (.int p0), .val (.int p1), .val (.int p2), .val (.int p3), .unset, .unset, .unset, .unset, .unset, .unset, .unset, .unset, .unset, .unset] [])) (fun tt0 kk0 => castTop (own_ef_rm0 m p0 p1 p2 p3) kk0) ?_
  refine own_go (S' := s₁.setTop (mkF m 1 #[.val (.int p0), .val (.int p1), .val (.int p2), .val (.int p3), .unset, .unset, .unset, .unset, .unset, .unset, .unset, .unset, .unset, .unset] [(.int p0)])) (fun target kt => ?_) ?_
  · skip
    show Steps p.tables e below (s₁.setTop (mkF m 0 #[.val (.int p0), .val (.int p1), .val (.int p2), .val (.int p3), .unset, .unset, .unset, .unset, .unset, .unset, .unset, .unset, .unset, .unset] [])) _
    refine XS.iloadN X0.here hx rfl (hb hby at_0) rfl ?_
    exact kt
  obtain ⟨_, _, ⟨T316, L316, k316, n316⟩, -, X316, ⟨Lc316, hQ316, l316, y316, z316⟩, st316⟩ := Jvm.LawKit.callS X0 hx (y := (⟨"com/example/access_bindings/accessbindings/server/RestResourceListsBindingsAtPinLaw", "constant", "(I)Lcom/example/access_bindings/accessbindings/server/RestResource;"⟩ : MethodName)) hown (mvT hZ (hw _ (List.mem_of_getElem? (i := 0) rfl))) (mvT hZ (hw _ (List.mem_of_getElem? (i := 1) rfl))) (mvT hZ (hw _ (List.mem_of_getElem? (i := 2) rfl))) (mvT hZ (hw _ (List.mem_of_getElem? (i := 3) rfl))) (by decide) (backOf (W := 0) (rm1 l Z aZ hw [] p0 cl co cu ap h0 n0 Z0 pf0 pf1 pf2 pf3) hZ (hw _ (List.mem_of_getElem? (i := 3) rfl)) (hw _ (List.mem_of_getElem? (i := 2) rfl)) (by decide) (by decide)) (g := (mkF m 1 #[.val (.int p0), .val (.int p1), .val (.int p2), .val (.int p3), .unset, .unset, .unset, .unset, .unset, .unset, .unset, .unset, .unset, .unset] [(.int p0)])) rfl (by rw [hml]; rfl) (argsL := [(.int p0)]) (rest := []) (lenOf own_pd5 rfl) rfl (by show 2 * 0 + _ ≤ _; exact Nat.le_of_eq rfl) (hb hby at_1) (fun _ _ => ⟨rfl, e0, (by decide : 0 + 0 ≤ _), (by decide : 0 + 0 ≤ _)⟩)
  dsimp only [Pt.U, Pt.locs, Pt.cells, Pt.slots] at X316 l316 y316 z316 st316 hQ316
  obtain rfl : k316 = 0 := y316
  obtain rfl : n316 = 0 := z316
  obtain ⟨rr, rfl, N316q, e316, u316_0⟩ := hQ316
  have N316 : Fr n0 L316 := by rw [l316]; exact Fr.app N0 N316q
  clear l316
  refine own_go (S' := T316.setTop (mkF m 4 #[.val (.int p0), .val (.int p1), .val (.int p2), .val (.int p3), .unset, .unset, .unset, .unset, .unset, .unset, .unset, .unset, .unset, .unset] [(.ref rr)])) st316 ?_
  obtain ⟨lm, ds, fRE, fRF, fRT, hR⟩ := own_pick hsts u316_0
  obtain ⟨wh, h_wh⟩ : ∃ z : Int32, z = (p1 &&& (1 : Int32)) := ⟨_, rfl⟩
  refine own_go (S' := T316.setTop (mkF m 11 #[.val (.int p0), .val (.int p1), .val (.int p2), .val (.int p3), .val (.ref rr), .val (.int wh), .unset, .unset, .unset, .unset, .unset, .unset, .unset, .unset] [])) (fun target kt => ?_) ?_
  · subst h_wh
    show Steps p.tables e below (T316.setTop (mkF m 4 #[.val (.int p0), .val (.int p1), .val (.int p2), .val (.int p3), .unset, .unset, .unset, .unset, .unset, .unset, .unset, .unset, .unset, .unset] [(.ref rr)])) _
    refine XS.astore X316.here hx rfl (hb hby at_4) rfl rfl (l' := #[.val (.int p0), .val (.int p1), .val (.int p2), .val (.int p3), .val (.ref rr), .unset, .unset, .unset, .unset, .unset, .unset, .unset, .unset, .unset]) rfl ?_
    show Steps p.tables e below (T316.setTop (mkF m 6 #[.val (.int p0), .val (.int p1), .val (.int p2), .val (.int p3), .val (.ref rr), .unset, .unset, .unset, .unset, .unset, .unset, .unset, .unset, .unset] [])) _
    refine XS.iloadN X316.here hx rfl (hb hby at_6) rfl ?_
    show Steps p.tables e below (T316.setTop (mkF m 7 #[.val (.int p0), .val (.int p1), .val (.int p2), .val (.int p3), .val (.ref rr), .unset, .unset, .unset, .unset, .unset, .unset, .unset, .unset, .unset] [(.int p1)])) _
    refine XS.iconst X316.here hx rfl (hb hby at_7) ?_
    show Steps p.tables e below (T316.setTop (mkF m 8 #[.val (.int p0), .val (.int p1), .val (.int p2), .val (.int p3), .val (.ref rr), .unset, .unset, .unset, .unset, .unset, .unset, .unset, .unset, .unset] [(.int (1 : Int32)), (.int p1)])) _
    refine XS.iand X316.here hx rfl (hb hby at_8) rfl ?_
    show Steps p.tables e below (T316.setTop (mkF m 9 #[.val (.int p0), .val (.int p1), .val (.int p2), .val (.int p3), .val (.ref rr), .unset, .unset, .unset, .unset, .unset, .unset, .unset, .unset, .unset] [(.int (p1 &&& (1 : Int32)))])) _
    refine XS.istore X316.here hx rfl (hb hby at_9) rfl (l' := #[.val (.int p0), .val (.int p1), .val (.int p2), .val (.int p3), .val (.ref rr), .val (.int (p1 &&& (1 : Int32))), .unset, .unset, .unset, .unset, .unset, .unset, .unset, .unset]) rfl ?_
    exact kt
  obtain ⟨mo, h_mo⟩ : ∃ z : Int32, z = ((own_ushr p1 (1 : Int32)) &&& (3 : Int32)) := ⟨_, rfl⟩
  refine own_go (S' := T316.setTop (mkF m 18 #[.val (.int p0), .val (.int p1), .val (.int p2), .val (.int p3), .val (.ref rr), .val (.int wh), .val (.int mo), .unset, .unset, .unset, .unset, .unset, .unset, .unset] [])) (fun target kt => ?_) ?_
  · subst h_mo
    show Steps p.tables e below (T316.setTop (mkF m 11 #[.val (.int p0), .val (.int p1), .val (.int p2), .val (.int p3), .val (.ref rr), .val (.int wh), .unset, .unset, .unset, .unset, .unset, .unset, .unset, .unset] [])) _
    refine XS.iloadN X316.here hx rfl (hb hby at_11) rfl ?_
    show Steps p.tables e below (T316.setTop (mkF m 12 #[.val (.int p0), .val (.int p1), .val (.int p2), .val (.int p3), .val (.ref rr), .val (.int wh), .unset, .unset, .unset, .unset, .unset, .unset, .unset, .unset] [(.int p1)])) _
    refine XS.iconst X316.here hx rfl (hb hby at_12) ?_
    show Steps p.tables e below (T316.setTop (mkF m 13 #[.val (.int p0), .val (.int p1), .val (.int p2), .val (.int p3), .val (.ref rr), .val (.int wh), .unset, .unset, .unset, .unset, .unset, .unset, .unset, .unset] [(.int (1 : Int32)), (.int p1)])) _
    refine XS.iushr X316.here hx rfl (hb hby at_13) rfl ?_
    show Steps p.tables e below (T316.setTop (mkF m 14 #[.val (.int p0), .val (.int p1), .val (.int p2), .val (.int p3), .val (.ref rr), .val (.int wh), .unset, .unset, .unset, .unset, .unset, .unset, .unset, .unset] [(.int (own_ushr p1 (1 : Int32)))])) _
    refine XS.iconst X316.here hx rfl (hb hby at_14) ?_
    show Steps p.tables e below (T316.setTop (mkF m 15 #[.val (.int p0), .val (.int p1), .val (.int p2), .val (.int p3), .val (.ref rr), .val (.int wh), .unset, .unset, .unset, .unset, .unset, .unset, .unset, .unset] [(.int (3 : Int32)), (.int (own_ushr p1 (1 : Int32)))])) _
    refine XS.iand X316.here hx rfl (hb hby at_15) rfl ?_
    show Steps p.tables e below (T316.setTop (mkF m 16 #[.val (.int p0), .val (.int p1), .val (.int p2), .val (.int p3), .val (.ref rr), .val (.int wh), .unset, .unset, .unset, .unset, .unset, .unset, .unset, .unset] [(.int ((own_ushr p1 (1 : Int32)) &&& (3 : Int32)))])) _
    refine XS.istore X316.here hx rfl (hb hby at_16) rfl (l' := #[.val (.int p0), .val (.int p1), .val (.int p2), .val (.int p3), .val (.ref rr), .val (.int wh), .val (.int ((own_ushr p1 (1 : Int32)) &&& (3 : Int32))), .unset, .unset, .unset, .unset, .unset, .unset, .unset]) rfl ?_
    exact kt
  obtain ⟨xx, h_xx⟩ : ∃ z : Int32, z = ((p3 &&& (255 : Int32)).toUInt32.toUInt16.toUInt32.toInt32) := ⟨_, rfl⟩
  refine own_go (S' := T316.setTop (mkF m 26 #[.val (.int p0), .val (.int p1), .val (.int p2), .val (.int p3), .val (.ref rr), .val (.int wh), .val (.int mo), .val (.int xx), .unset, .unset, .unset, .unset, .unset, .unset] [])) (fun target kt => ?_) ?_
  · subst h_xx
    show Steps p.tables e below (T316.setTop (mkF m 18 #[.val (.int p0), .val (.int p1), .val (.int p2), .val (.int p3), .val (.ref rr), .val (.int wh), .val (.int mo), .unset, .unset, .unset, .unset, .unset, .unset, .unset] [])) _
    refine XS.iloadN X316.here hx rfl (hb hby at_18) rfl ?_
    show Steps p.tables e below (T316.setTop (mkF m 19 #[.val (.int p0), .val (.int p1), .val (.int p2), .val (.int p3), .val (.ref rr), .val (.int wh), .val (.int mo), .unset, .unset, .unset, .unset, .unset, .unset, .unset] [(.int p3)])) _
    refine XS.sipush X316.here hx rfl (hb hby at_19) ?_
    show Steps p.tables e below (T316.setTop (mkF m 22 #[.val (.int p0), .val (.int p1), .val (.int p2), .val (.int p3), .val (.ref rr), .val (.int wh), .val (.int mo), .unset, .unset, .unset, .unset, .unset, .unset, .unset] [(.int (255 : Int32)), (.int p3)])) _
    refine XS.iand X316.here hx rfl (hb hby at_22) rfl ?_
    show Steps p.tables e below (T316.setTop (mkF m 23 #[.val (.int p0), .val (.int p1), .val (.int p2), .val (.int p3), .val (.ref rr), .val (.int wh), .val (.int mo), .unset, .unset, .unset, .unset, .unset, .unset, .unset] [(.int (p3 &&& (255 : Int32)))])) _
    refine XS.i2c X316.here hx rfl (hb hby at_23) rfl ?_
    show Steps p.tables e below (T316.setTop (mkF m 24 #[.val (.int p0), .val (.int p1), .val (.int p2), .val (.int p3), .val (.ref rr), .val (.int wh), .val (.int mo), .unset, .unset, .unset, .unset, .unset, .unset, .unset] [(.int ((p3 &&& (255 : Int32)).toUInt32.toUInt16.toUInt32.toInt32))])) _
    refine XS.istore X316.here hx rfl (hb hby at_24) rfl (l' := #[.val (.int p0), .val (.int p1), .val (.int p2), .val (.int p3), .val (.ref rr), .val (.int wh), .val (.int mo), .val (.int ((p3 &&& (255 : Int32)).toUInt32.toUInt16.toUInt32.toInt32)), .unset, .unset, .unset, .unset, .unset, .unset]) rfl ?_
    exact kt
  obtain ⟨yy, h_yy⟩ : ∃ z : Int32, z = (((own_ushr p3 (8 : Int32)) &&& (255 : Int32)).toUInt32.toUInt16.toUInt32.toInt32) := ⟨_, rfl⟩
  refine own_go (S' := T316.setTop (mkF m 37 #[.val (.int p0), .val (.int p1), .val (.int p2), .val (.int p3), .val (.ref rr), .val (.int wh), .val (.int mo), .val (.int xx), .val (.int yy), .unset, .unset, .unset, .unset, .unset] [])) (fun target kt => ?_) ?_
  · subst h_yy
    show Steps p.tables e below (T316.setTop (mkF m 26 #[.val (.int p0), .val (.int p1), .val (.int p2), .val (.int p3), .val (.ref rr), .val (.int wh), .val (.int mo), .val (.int xx), .unset, .unset, .unset, .unset, .unset, .unset] [])) _
    refine XS.iloadN X316.here hx rfl (hb hby at_26) rfl ?_
    show Steps p.tables e below (T316.setTop (mkF m 27 #[.val (.int p0), .val (.int p1), .val (.int p2), .val (.int p3), .val (.ref rr), .val (.int wh), .val (.int mo), .val (.int xx), .unset, .unset, .unset, .unset, .unset, .unset] [(.int p3)])) _
    refine XS.bipush X316.here hx rfl (hb hby at_27) ?_
    show Steps p.tables e below (T316.setTop (mkF m 29 #[.val (.int p0), .val (.int p1), .val (.int p2), .val (.int p3), .val (.ref rr), .val (.int wh), .val (.int mo), .val (.int xx), .unset, .unset, .unset, .unset, .unset, .unset] [(.int (8 : Int32)), (.int p3)])) _
    refine XS.iushr X316.here hx rfl (hb hby at_29) rfl ?_
    show Steps p.tables e below (T316.setTop (mkF m 30 #[.val (.int p0), .val (.int p1), .val (.int p2), .val (.int p3), .val (.ref rr), .val (.int wh), .val (.int mo), .val (.int xx), .unset, .unset, .unset, .unset, .unset, .unset] [(.int (own_ushr p3 (8 : Int32)))])) _
    refine XS.sipush X316.here hx rfl (hb hby at_30) ?_
    show Steps p.tables e below (T316.setTop (mkF m 33 #[.val (.int p0), .val (.int p1), .val (.int p2), .val (.int p3), .val (.ref rr), .val (.int wh), .val (.int mo), .val (.int xx), .unset, .unset, .unset, .unset, .unset, .unset] [(.int (255 : Int32)), (.int (own_ushr p3 (8 : Int32)))])) _
    refine XS.iand X316.here hx rfl (hb hby at_33) rfl ?_
    show Steps p.tables e below (T316.setTop (mkF m 34 #[.val (.int p0), .val (.int p1), .val (.int p2), .val (.int p3), .val (.ref rr), .val (.int wh), .val (.int mo), .val (.int xx), .unset, .unset, .unset, .unset, .unset, .unset] [(.int ((own_ushr p3 (8 : Int32)) &&& (255 : Int32)))])) _
    refine XS.i2c X316.here hx rfl (hb hby at_34) rfl ?_
    show Steps p.tables e below (T316.setTop (mkF m 35 #[.val (.int p0), .val (.int p1), .val (.int p2), .val (.int p3), .val (.ref rr), .val (.int wh), .val (.int mo), .val (.int xx), .unset, .unset, .unset, .unset, .unset, .unset] [(.int (((own_ushr p3 (8 : Int32)) &&& (255 : Int32)).toUInt32.toUInt16.toUInt32.toInt32))])) _
    refine XS.istore X316.here hx rfl (hb hby at_35) rfl (l' := #[.val (.int p0), .val (.int p1), .val (.int p2), .val (.int p3), .val (.ref rr), .val (.int wh), .val (.int mo), .val (.int xx), .val (.int (((own_ushr p3 (8 : Int32)) &&& (255 : Int32)).toUInt32.toUInt16.toUInt32.toInt32)), .unset, .unset, .unset, .unset, .unset]) rfl ?_
    exact kt
  refine own_go (S' := T316.setTop (mkF m 39 #[.val (.int p0), .val (.int p1), .val (.int p2), .val (.int p3), .val (.ref rr), .val (.int wh), .val (.int mo), .val (.int xx), .val (.int yy), .unset, .unset, .unset, .unset, .unset] [(.int wh)])) (fun target kt => ?_) ?_
  · skip
    show Steps p.tables e below (T316.setTop (mkF m 37 #[.val (.int p0), .val (.int p1), .val (.int p2), .val (.int p3), .val (.ref rr), .val (.int wh), .val (.int mo), .val (.int xx), .val (.int yy), .unset, .unset, .unset, .unset, .unset] [])) _
    refine XS.iload X316.here hx rfl (hb hby at_37) rfl ?_
    exact kt
  obtain ⟨_, _, ⟨T317, L317, k317, n317⟩, -, X317, ⟨Lc317, hQ317, l317, y317, z317⟩, st317⟩ := Jvm.LawKit.callS X316 hx (y := (⟨"com/example/access_bindings/accessbindings/server/RestResourceListsBindingsAtPinLaw", "base", "(I)[C"⟩ : MethodName)) hown (mvT hZ (hw _ (List.mem_of_getElem? (i := 7) rfl))) (mvT hZ (hw _ (List.mem_of_getElem? (i := 8) rfl))) (mvT hZ (hw _ (List.mem_of_getElem? (i := 2) rfl))) (mvT hZ (hw _ (List.mem_of_getElem? (i := 9) rfl))) (by decide) (backOf (W := 0) (rm2 l Z aZ hw [] wh h0 n0 Z0 ) hZ (hw _ (List.mem_of_getElem? (i := 9) rfl)) (hw _ (List.mem_of_getElem? (i := 2) rfl)) (by decide) (by decide)) (g := (mkF m 39 #[.val (.int p0), .val (.int p1), .val (.int p2), .val (.int p3), .val (.ref rr), .val (.int wh), .val (.int mo), .val (.int xx), .val (.int yy), .unset, .unset, .unset, .unset, .unset] [(.int wh)])) rfl (by rw [hml]; rfl) (argsL := [(.int wh)]) (rest := []) (lenOf own_pd6 rfl) rfl (by show 2 * 0 + _ ≤ _; exact Nat.le_of_eq rfl) (hb hby at_39) (fun _ _ => ⟨rfl, e316, (by decide : 0 + 1 ≤ _), (by decide : 0 + 18 ≤ _)⟩)
  dsimp only [Pt.U, Pt.locs, Pt.cells, Pt.slots] at X317 l317 y317 z317 st317 hQ317
  obtain rfl : k317 = 1 := y317
  obtain rfl : n317 = 18 := z317
  obtain ⟨bb, nb, gb, rfl, N317q, K317q, f317_0, f317_1, u317_0, u317_1⟩ := hQ317
  have N317 : Fr n0 L317 := by rw [l317]; exact Fr.app N316 N317q
  clear l317
  have f318 : Sta Z T317.heap "com/example/access_bindings/accessbindings/server/RestResource" "CLOUDS" "Lcom/example/access_bindings/accessbindings/server/RestResource;" (.ref cl) := own_Sta_keep pf0 K317q all0
  have f319 : Sta Z T317.heap "com/example/access_bindings/accessbindings/server/RestResource" "COMMUNITIES" "Lcom/example/access_bindings/accessbindings/server/RestResource;" (.ref co) := own_Sta_keep pf1 K317q all0
  have f320 : Sta Z T317.heap "com/example/access_bindings/accessbindings/server/RestResource" "CLUSTERS" "Lcom/example/access_bindings/accessbindings/server/RestResource;" (.ref cu) := own_Sta_keep pf2 K317q all0
  have f321 : Sta Z T317.heap "com/example/access_bindings/accessbindings/server/RestResource" "APPLICATIONS" "Lcom/example/access_bindings/accessbindings/server/RestResource;" (.ref ap) := own_Sta_keep pf3 K317q all0
  have f322 : Sta Z T317.heap "java/lang/String" "COMPACT_STRINGS" "Z" (.int zz) := own_Sta_keep pf4 K317q all0
  have f323 : Exa Z T317.heap rr "com/example/access_bindings/accessbindings/server/RestResource" := fRE.keep K317q
  have f324 : Fld Z T317.heap rr "com/example/access_bindings/accessbindings/server/RestResource" "listMethod" "Ljava/lang/String;" (.ref lm) := fRF.keep K317q nin0
  have Z317 : n0 ≤ T317.heap.size := Nat.le_trans Z0 K317q.1
  have ST317 := ST0.le K317q.1
  have K317 : Keep h0 T317.heap [] := K0.trans K317q all0
  have g_bb : n0 ≤ bb := Nat.le_trans Z0 u317_0
  have sz_bb : h0.size ≤ bb := Nat.le_trans K0.1 u317_0
  have ne_rr_bb : rr ≠ bb := Nat.ne_of_lt (Nat.lt_of_lt_of_le fRE.lt u317_0)
  refine own_go (S' := T317.setTop (mkF m 42 #[.val (.int p0), .val (.int p1), .val (.int p2), .val (.int p3), .val (.ref rr), .val (.int wh), .val (.int mo), .val (.int xx), .val (.int yy), .unset, .unset, .unset, .unset, .unset] [(.ref bb)])) st317 ?_
  have hB := u317_1
  refine own_go (S' := T317.setTop (mkF m 46 #[.val (.int p0), .val (.int p1), .val (.int p2), .val (.int p3), .val (.ref rr), .val (.int wh), .val (.int mo), .val (.int xx), .val (.int yy), .val (.ref bb), .unset, .unset, .unset, .unset] [(.int mo)])) (fun target kt => ?_) ?_
  · skip
    show Steps p.tables e below (T317.setTop (mkF m 42 #[.val (.int p0), .val (.int p1), .val (.int p2), .val (.int p3), .val (.ref rr), .val (.int wh), .val (.int mo), .val (.int xx), .val (.int yy), .unset, .unset, .unset, .unset, .unset] [(.ref bb)])) _
    refine XS.astore X317.here hx rfl (hb hby at_42) rfl rfl (l' := #[.val (.int p0), .val (.int p1), .val (.int p2), .val (.int p3), .val (.ref rr), .val (.int wh), .val (.int mo), .val (.int xx), .val (.int yy), .val (.ref bb), .unset, .unset, .unset, .unset]) rfl ?_
    show Steps p.tables e below (T317.setTop (mkF m 44 #[.val (.int p0), .val (.int p1), .val (.int p2), .val (.int p3), .val (.ref rr), .val (.int wh), .val (.int mo), .val (.int xx), .val (.int yy), .val (.ref bb), .unset, .unset, .unset, .unset] [])) _
    refine XS.iload X317.here hx rfl (hb hby at_44) rfl ?_
    exact kt
  by_cases hc46 : mo = (0 : Int32)
  · skip
    refine own_go (S' := T317.setTop (mkF m 49 #[.val (.int p0), .val (.int p1), .val (.int p2), .val (.int p3), .val (.ref rr), .val (.int wh), .val (.int mo), .val (.int xx), .val (.int yy), .val (.ref bb), .unset, .unset, .unset, .unset] [])) (fun target kt => ?_) ?_
    · skip
      show Steps p.tables e below (T317.setTop (mkF m 46 #[.val (.int p0), .val (.int p1), .val (.int p2), .val (.int p3), .val (.ref rr), .val (.int wh), .val (.int mo), .val (.int xx), .val (.int yy), .val (.ref bb), .unset, .unset, .unset, .unset] [(.int mo)])) _
      refine XS.ifNo X317.here hx rfl (hb hby at_46) rfl ((if0 _ _).trans (teq hc46).2) ?_
      exact kt
    obtain ⟨T325, h325, X325, e325, E325, A325, D325, -, st325⟩ := newO X317 hx hZ hown (hw _ (List.mem_of_getElem? (i := 12) rfl)) (hw _ (List.mem_of_getElem? (i := 13) rfl)) (hw _ (List.mem_of_getElem? (i := 14) rfl)) rfl (g := (mkF m 49 #[.val (.int p0), .val (.int p1), .val (.int p2), .val (.int p3), .val (.ref rr), .val (.int wh), .val (.int mo), .val (.int xx), .val (.int yy), .val (.ref bb), .unset, .unset, .unset, .unset] [])) rfl (hb hby at_49) (by decide) (by decide)
    obtain ⟨b325, g325⟩ : ∃ z, z = T317.heap.size := ⟨_, rfl⟩
    rw [← g325] at A325 D325 st325
    have f326 : Sta Z h325 "com/example/access_bindings/accessbindings/server/RestResource" "CLOUDS" "Lcom/example/access_bindings/accessbindings/server/RestResource;" (.ref cl) := f318.ext E325
    have f327 : Sta Z h325 "com/example/access_bindings/accessbindings/server/RestResource" "COMMUNITIES" "Lcom/example/access_bindings/accessbindings/server/RestResource;" (.ref co) := f319.ext E325
    have f328 : Sta Z h325 "com/example/access_bindings/accessbindings/server/RestResource" "CLUSTERS" "Lcom/example/access_bindings/accessbindings/server/RestResource;" (.ref cu) := f320.ext E325
    have f329 : Sta Z h325 "com/example/access_bindings/accessbindings/server/RestResource" "APPLICATIONS" "Lcom/example/access_bindings/accessbindings/server/RestResource;" (.ref ap) := f321.ext E325
    have f330 : Sta Z h325 "java/lang/String" "COMPACT_STRINGS" "Z" (.int zz) := f322.ext E325
    have f331 : Exa Z h325 rr "com/example/access_bindings/accessbindings/server/RestResource" := f323.ext E325
    have f332 : Fld Z h325 rr "com/example/access_bindings/accessbindings/server/RestResource" "listMethod" "Ljava/lang/String;" (.ref lm) := f324.ext E325
    have f333 : own_AI Z h325 bb .char nb gb := f317_0.ext E325
    have f334 : Exa Z h325 bb "[C" := f317_1.ext E325
    have g_b325 : n0 ≤ b325 := Nat.le_trans Z317 (Nat.le_of_eq g325.symm)
    have sz_b325 : h0.size ≤ b325 := Nat.le_trans K317.1 (Nat.le_of_eq g325.symm)
    have ne_rr_b325 : rr ≠ b325 := Nat.ne_of_lt (Nat.lt_of_lt_of_le f323.lt (Nat.le_of_eq g325.symm))
    have ne_bb_b325 : bb ≠ b325 := Nat.ne_of_lt (Nat.lt_of_lt_of_le f317_0.lt (Nat.le_of_eq g325.symm))
    have Z325 : n0 ≤ h325.size := Nat.le_trans Z317 E325.1
    have ST325 := ST317.le E325.1
    have K325 : Keep h0 h325 [] := K317.ext E325
    have f335 : Fld Z h325 b325 "java/lang/String" "coder" "B" (.int (0 : Int32)) := D325 (Or.inr (hw _ (List.mem_of_getElem? (i := 38) rfl))) (ty := .byte) (by decide)
    have f336 : Fld Z h325 b325 "java/lang/String" "value" "[B" .null := D325 (Or.inr (hw _ (List.mem_of_getElem? (i := 40) rfl))) (ty := (.array .byte)) (by decide)
    refine own_go (S' := T325.setTop (mkF m 52 #[.val (.int p0), .val (.int p1), .val (.int p2), .val (.int p3), .val (.ref rr), .val (.int wh), .val (.int mo), .val (.int xx), .val (.int yy), .val (.ref bb), .unset, .unset, .unset, .unset] [(.ref b325)])) st325 ?_
    refine own_go (S' := T325.setTop (mkF m 55 #[.val (.int p0), .val (.int p1), .val (.int p2), .val (.int p3), .val (.ref rr), .val (.int wh), .val (.int mo), .val (.int xx), .val (.int yy), .val (.ref bb), .unset, .unset, .unset, .unset] [(.ref bb), (.ref b325), (.ref b325)])) (fun target kt => ?_) ?_
    · skip
      show Steps p.tables e below (T325.setTop (mkF m 52 #[.val (.int p0), .val (.int p1), .val (.int p2), .val (.int p3), .val (.ref rr), .val (.int wh), .val (.int mo), .val (.int xx), .val (.int yy), .val (.ref bb), .unset, .unset, .unset, .unset] [(.ref b325)])) _
      refine XS.dup X325.here hx rfl (hb hby at_52) rfl rfl ?_
      show Steps p.tables e below (T325.setTop (mkF m 53 #[.val (.int p0), .val (.int p1), .val (.int p2), .val (.int p3), .val (.ref rr), .val (.int wh), .val (.int mo), .val (.int xx), .val (.int yy), .val (.ref bb), .unset, .unset, .unset, .unset] [(.ref b325), (.ref b325)])) _
      refine XS.aload X325.here hx rfl (hb hby at_53) rfl rfl ?_
      exact kt
    obtain ⟨_, _, ⟨T337, L337, k337, n337⟩, -, X337, ⟨Lc337, hQ337, l337, y337, z337⟩, st337⟩ := X325.specialBack hx (y := (⟨"java/lang/String", "<init>", "([C)V"⟩ : MethodName)) rfl hown (mvT hZ (hw _ (List.mem_of_getElem? (i := 15) rfl))) (mvT hZ (hw _ (List.mem_of_getElem? (i := 16) rfl))) (mvT hZ (hw _ (List.mem_of_getElem? (i := 17) rfl))) (by decide) (own_newBack (W := 1) (n0 := n0) hZ hw Z325 A325 f336 f335 f333 f330 g_b325 (zne : ¬ zz = 0) (own_isB.len hB : 0 < nb ∧ nb ≤ 19) (own_isB.ok hB : ∀ i, i < nb → ¬ gb i < 0 ∧ ¬ (255 : Int32) < gb i) (by decide) (by decide)) (g := (mkF m 55 #[.val (.int p0), .val (.int p1), .val (.int p2), .val (.int p3), .val (.ref rr), .val (.int wh), .val (.int mo), .val (.int xx), .val (.int yy), .val (.ref bb), .unset, .unset, .unset, .unset] [(.ref bb), (.ref b325), (.ref b325)])) rfl (by rw [hml]; rfl) (Steps.refl _) (a := b325) (argsL := [(.ref bb)]) (rest := [(.ref b325)]) (lenOf own_pd7 rfl) rfl (by show 2 * 0 + _ ≤ _; exact Nat.le_of_eq rfl) (hb hby at_55) (fun _ _ => ⟨rfl, e325, (by decide : 2 + 1 ≤ _), (by decide : 22 + 19 ≤ _)⟩)
    dsimp only [Pt.U, Pt.locs, Pt.cells, Pt.slots] at X337 l337 y337 z337 st337 hQ337
    obtain rfl : k337 = 3 := y337
    obtain rfl : n337 = 41 := z337
    obtain ⟨rfl, N337q, K337q, f337_0, f337_1⟩ := hQ337
    have N337 : Fr n0 L337 := by rw [l337]; exact Fr.app N317 N337q
    clear l337
    have f338 : Sta Z T337.heap "com/example/access_bindings/accessbindings/server/RestResource" "CLOUDS" "Lcom/example/access_bindings/accessbindings/server/RestResource;" (.ref cl) := own_Sta_keep f326 K337q (allS (own_nst A325) all0)
    have f339 : Sta Z T337.heap "com/example/access_bindings/accessbindings/server/RestResource" "COMMUNITIES" "Lcom/example/access_bindings/accessbindings/server/RestResource;" (.ref co) := own_Sta_keep f327 K337q (allS (own_nst A325) all0)
    have f340 : Sta Z T337.heap "com/example/access_bindings/accessbindings/server/RestResource" "CLUSTERS" "Lcom/example/access_bindings/accessbindings/server/RestResource;" (.ref cu) := own_Sta_keep f328 K337q (allS (own_nst A325) all0)
    have f341 : Sta Z T337.heap "com/example/access_bindings/accessbindings/server/RestResource" "APPLICATIONS" "Lcom/example/access_bindings/accessbindings/server/RestResource;" (.ref ap) := own_Sta_keep f329 K337q (allS (own_nst A325) all0)
    have f342 : Sta Z T337.heap "java/lang/String" "COMPACT_STRINGS" "Z" (.int zz) := own_Sta_keep f330 K337q (allS (own_nst A325) all0)
    have f343 : Exa Z T337.heap rr "com/example/access_bindings/accessbindings/server/RestResource" := f331.keep K337q
    have f344 : Fld Z T337.heap rr "com/example/access_bindings/accessbindings/server/RestResource" "listMethod" "Ljava/lang/String;" (.ref lm) := f332.keep K337q (ninS ne_rr_b325 nin0)
    have f345 : own_AI Z T337.heap bb .char nb gb := f333.keep K337q (ninS ne_bb_b325 nin0)
    have f346 : Exa Z T337.heap bb "[C" := f334.keep K337q
    have f347 : Exa Z T337.heap b325 "java/lang/String" := A325.keep K337q
    have Z337 : n0 ≤ T337.heap.size := Nat.le_trans Z325 K337q.1
    have ST337 := ST325.le K337q.1
    have K337 : Keep h0 T337.heap [] := K325.trans K337q (allS (Or.inr sz_b325) all0)
    refine own_go (S' := T337.setTop (mkF m 58 #[.val (.int p0), .val (.int p1), .val (.int p2), .val (.int p3), .val (.ref rr), .val (.int wh), .val (.int mo), .val (.int xx), .val (.int yy), .val (.ref bb), .unset, .unset, .unset, .unset] [(.ref b325)])) (fun _ k => st337.trans k) ?_
    refine own_go (S' := T337.setTop (mkF m 238 #[.val (.int p0), .val (.int p1), .val (.int p2), .val (.int p3), .val (.ref rr), .val (.int wh), .val (.int mo), .val (.int xx), .val (.int yy), .val (.ref bb), .val (.int (1 : Int32)), .val (.ref b325), .unset, .unset] [(.int wh)])) (fun target kt => ?_) ?_
    · skip
      show Steps p.tables e below (T337.setTop (mkF m 58 #[.val (.int p0), .val (.int p1), .val (.int p2), .val (.int p3), .val (.ref rr), .val (.int wh), .val (.int mo), .val (.int xx), .val (.int yy), .val (.ref bb), .unset, .unset, .unset, .unset] [(.ref b325)])) _
      refine XS.astore X337.here hx rfl (hb hby at_58) rfl rfl (l' := #[.val (.int p0), .val (.int p1), .val (.int p2), .val (.int p3), .val (.ref rr), .val (.int wh), .val (.int mo), .val (.int xx), .val (.int yy), .val (.ref bb), .unset, .val (.ref b325), .unset, .unset]) rfl ?_
      show Steps p.tables e below (T337.setTop (mkF m 60 #[.val (.int p0), .val (.int p1), .val (.int p2), .val (.int p3), .val (.ref rr), .val (.int wh), .val (.int mo), .val (.int xx), .val (.int yy), .val (.ref bb), .unset, .val (.ref b325), .unset, .unset] [])) _
      refine XS.iconst X337.here hx rfl (hb hby at_60) ?_
      show Steps p.tables e below (T337.setTop (mkF m 61 #[.val (.int p0), .val (.int p1), .val (.int p2), .val (.int p3), .val (.ref rr), .val (.int wh), .val (.int mo), .val (.int xx), .val (.int yy), .val (.ref bb), .unset, .val (.ref b325), .unset, .unset] [(.int (1 : Int32))])) _
      refine XS.istore X337.here hx rfl (hb hby at_61) rfl (l' := #[.val (.int p0), .val (.int p1), .val (.int p2), .val (.int p3), .val (.ref rr), .val (.int wh), .val (.int mo), .val (.int xx), .val (.int yy), .val (.ref bb), .val (.int (1 : Int32)), .val (.ref b325), .unset, .unset]) rfl ?_
      show Steps p.tables e below (T337.setTop (mkF m 63 #[.val (.int p0), .val (.int p1), .val (.int p2), .val (.int p3), .val (.ref rr), .val (.int wh), .val (.int mo), .val (.int xx), .val (.int yy), .val (.ref bb), .val (.int (1 : Int32)), .val (.ref b325), .unset, .unset] [])) _
      refine XS.goto X337.here hx rfl (pc0 := 63) (pc' := 231) rfl (hb hby at_63) (by decide) (by decide) ?_
      show Steps p.tables e below (T337.setTop (mkF m 231 #[.val (.int p0), .val (.int p1), .val (.int p2), .val (.int p3), .val (.ref rr), .val (.int wh), .val (.int mo), .val (.int xx), .val (.int yy), .val (.ref bb), .val (.int (1 : Int32)), .val (.ref b325), .unset, .unset] [])) _
      refine XS.iload X337.here hx rfl (hb hby at_231) rfl ?_
      show Steps p.tables e below (T337.setTop (mkF m 233 #[.val (.int p0), .val (.int p1), .val (.int p2), .val (.int p3), .val (.ref rr), .val (.int wh), .val (.int mo), .val (.int xx), .val (.int yy), .val (.ref bb), .val (.int (1 : Int32)), .val (.ref b325), .unset, .unset] [(.int (1 : Int32))])) _
      refine XS.ifNo X337.here hx rfl (hb hby at_233) rfl ((if0 _ _).trans (feq (by decide : ¬ ((1 : Int32) = (0 : Int32)))).1) ?_
      show Steps p.tables e below (T337.setTop (mkF m 236 #[.val (.int p0), .val (.int p1), .val (.int p2), .val (.int p3), .val (.ref rr), .val (.int wh), .val (.int mo), .val (.int xx), .val (.int yy), .val (.ref bb), .val (.int (1 : Int32)), .val (.ref b325), .unset, .unset] [])) _
      refine XS.iload X337.here hx rfl (hb hby at_236) rfl ?_
      exact kt
    by_cases hc238 : wh = (0 : Int32)
    · skip
      refine own_go (S' := T337.setTop (mkF m 256 #[.val (.int p0), .val (.int p1), .val (.int p2), .val (.int p3), .val (.ref rr), .val (.int wh), .val (.int mo), .val (.int xx), .val (.int yy), .val (.ref bb), .val (.int (1 : Int32)), .val (.ref b325), .val (.int (1 : Int32)), .unset] [])) (fun target kt => ?_) ?_
      · skip
        show Steps p.tables e below (T337.setTop (mkF m 238 #[.val (.int p0), .val (.int p1), .val (.int p2), .val (.int p3), .val (.ref rr), .val (.int wh), .val (.int mo), .val (.int xx), .val (.int yy), .val (.ref bb), .val (.int (1 : Int32)), .val (.ref b325), .unset, .unset] [(.int wh)])) _
        refine XS.ifYes X337.here hx rfl (pc0 := 238) (pc' := 249) rfl (hb hby at_238) rfl ((if0 _ _).trans (teq hc238).1) (by decide) (by decide) ?_
        show Steps p.tables e below (T337.setTop (mkF m 249 #[.val (.int p0), .val (.int p1), .val (.int p2), .val (.int p3), .val (.ref rr), .val (.int wh), .val (.int mo), .val (.int xx), .val (.int yy), .val (.ref bb), .val (.int (1 : Int32)), .val (.ref b325), .unset, .unset] [])) _
        refine XS.iconst X337.here hx rfl (hb hby at_249) ?_
        show Steps p.tables e below (T337.setTop (mkF m 250 #[.val (.int p0), .val (.int p1), .val (.int p2), .val (.int p3), .val (.ref rr), .val (.int wh), .val (.int mo), .val (.int xx), .val (.int yy), .val (.ref bb), .val (.int (1 : Int32)), .val (.ref b325), .unset, .unset] [(.int (1 : Int32))])) _
        refine XS.goto X337.here hx rfl (pc0 := 250) (pc' := 254) rfl (hb hby at_250) (by decide) (by decide) ?_
        show Steps p.tables e below (T337.setTop (mkF m 254 #[.val (.int p0), .val (.int p1), .val (.int p2), .val (.int p3), .val (.ref rr), .val (.int wh), .val (.int mo), .val (.int xx), .val (.int yy), .val (.ref bb), .val (.int (1 : Int32)), .val (.ref b325), .unset, .unset] [(.int (1 : Int32))])) _
        refine XS.istore X337.here hx rfl (hb hby at_254) rfl (l' := #[.val (.int p0), .val (.int p1), .val (.int p2), .val (.int p3), .val (.ref rr), .val (.int wh), .val (.int mo), .val (.int xx), .val (.int yy), .val (.ref bb), .val (.int (1 : Int32)), .val (.ref b325), .val (.int (1 : Int32)), .unset]) rfl ?_
        exact kt
      have fLM : own_Str Z T337.heap lm ds := own_Str.keep fRT K337
      refine own_go (S' := T337.setTop (mkF m 260 #[.val (.int p0), .val (.int p1), .val (.int p2), .val (.int p3), .val (.ref rr), .val (.int wh), .val (.int mo), .val (.int xx), .val (.int yy), .val (.ref bb), .val (.int (1 : Int32)), .val (.ref b325), .val (.int (1 : Int32)), .unset] [(.ref b325), (.ref rr)])) (fun target kt => ?_) ?_
      · skip
        show Steps p.tables e below (T337.setTop (mkF m 256 #[.val (.int p0), .val (.int p1), .val (.int p2), .val (.int p3), .val (.ref rr), .val (.int wh), .val (.int mo), .val (.int xx), .val (.int yy), .val (.ref bb), .val (.int (1 : Int32)), .val (.ref b325), .val (.int (1 : Int32)), .unset] [])) _
        refine XS.aload X337.here hx rfl (hb hby at_256) rfl rfl ?_
        show Steps p.tables e below (T337.setTop (mkF m 258 #[.val (.int p0), .val (.int p1), .val (.int p2), .val (.int p3), .val (.ref rr), .val (.int wh), .val (.int mo), .val (.int xx), .val (.int yy), .val (.ref bb), .val (.int (1 : Int32)), .val (.ref b325), .val (.int (1 : Int32)), .unset] [(.ref rr)])) _
        refine XS.aload X337.here hx rfl (hb hby at_258) rfl rfl ?_
        exact kt
      obtain ⟨cq350, kq350, q350a, q350b, q350c⟩ := isOf hZ rfl f343
      obtain ⟨_, _, ⟨T350, L350, k350, n350⟩, -, X350, hS350, hG350, ⟨Lc350, hQ350, l350, y350, z350⟩, st350⟩ := X337.virtualBackS hx (y := (⟨"com/example/access_bindings/accessbindings/server/RestResource", "listsBindingsAt", "(Ljava/lang/String;)Z"⟩ : MethodName)) (z := (⟨"com/example/access_bindings/accessbindings/server/RestResource", "listsBindingsAt", "(Ljava/lang/String;)Z"⟩ : MethodName)) hown (mvT hZ (hw _ (List.mem_of_getElem? (i := 41) rfl))) (mvT hZ (hw _ (List.mem_of_getElem? (i := 42) rfl))) (notFace_of_selects (args := #[]) (mvT hZ (hw _ (List.mem_of_getElem? (i := 44) rfl)))) (mvT hZ (hw _ (List.mem_of_getElem? (i := 44) rfl))) (mvT hZ (hw _ (List.mem_of_getElem? (i := 43) rfl))) (by decide) (own_backOfI (Ts' := ("listAccessBindings" :: ("" :: []))) (W := 0) (rm9 l Z aZ hw [] rr b325 lm ((List.range nb).map gb) ds zz T337.heap n0 Z337 f343 f344 f337_0 f337_1 fLM f342 ((fun bq cq qq => K337.2.1 bq cq (hold bq cq qq) nin0) : ∀ (bq : Addr) (cq : Cell), Z.heap[bq]? = some cq → T337.heap[bq]? = some cq) (held31 : Jvm.Lit.constHeld Z "com/example/access_bindings/accessbindings/server/RestResource" 31 ∧ Jvm.Lit.compactW.before aZ Z = true) (zne : ¬ zz = 0)) hZ (hw _ (List.mem_of_getElem? (i := 45) rfl)) (hw _ (List.mem_of_getElem? (i := 5) rfl)) (by decide) (by decide) (own_IB.more hI0 (by simp))) q350a q350c (g := (mkF m 260 #[.val (.int p0), .val (.int p1), .val (.int p2), .val (.int p3), .val (.ref rr), .val (.int wh), .val (.int mo), .val (.int xx), .val (.int yy), .val (.ref bb), .val (.int (1 : Int32)), .val (.ref b325), .val (.int (1 : Int32)), .unset] [(.ref b325), (.ref rr)])) rfl (by rw [hml]; rfl) (Steps.refl _) (argsL := [(.ref b325)]) (rest := []) (lenOf own_pd9 rfl) rfl (by show 2 * 0 + _ ≤ _; exact Nat.le_of_eq rfl) (hb hby at_260) (fun _ _ => ⟨rfl, rfl, (by decide : 3 + 2 ≤ _), (by decide : 41 + 76 ≤ _)⟩)
      dsimp only [Pt.U, Pt.locs, Pt.cells, Pt.slots] at X350 l350 y350 z350 st350 hQ350 hS350 hG350
      obtain rfl : k350 = 5 := y350
      obtain rfl : n350 = 117 := z350
      obtain ⟨hQ350, hI350⟩ := hQ350
      obtain ⟨s350, X350, ST350, hZ, hown, I350⟩ := own_backI X350 ST337 hS350 hG350 rfl hZ hown hI350
      obtain ⟨rfl, N350q, K350q⟩ := hQ350
      have N350 : Fr n0 L350 := by rw [l350]; exact Fr.app N337 N350q
      clear l350
      have f351 : Sta Z T350.heap "com/example/access_bindings/accessbindings/server/RestResource" "CLOUDS" "Lcom/example/access_bindings/accessbindings/server/RestResource;" (.ref cl) := own_Sta_keep f338 K350q all0
      have f352 : Sta Z T350.heap "com/example/access_bindings/accessbindings/server/RestResource" "COMMUNITIES" "Lcom/example/access_bindings/accessbindings/server/RestResource;" (.ref co) := own_Sta_keep f339 K350q all0
      have f353 : Sta Z T350.heap "com/example/access_bindings/accessbindings/server/RestResource" "CLUSTERS" "Lcom/example/access_bindings/accessbindings/server/RestResource;" (.ref cu) := own_Sta_keep f340 K350q all0
      have f354 : Sta Z T350.heap "com/example/access_bindings/accessbindings/server/RestResource" "APPLICATIONS" "Lcom/example/access_bindings/accessbindings/server/RestResource;" (.ref ap) := own_Sta_keep f341 K350q all0
      have f355 : Sta Z T350.heap "java/lang/String" "COMPACT_STRINGS" "Z" (.int zz) := own_Sta_keep f342 K350q all0
      have f356 : Exa Z T350.heap rr "com/example/access_bindings/accessbindings/server/RestResource" := f343.keep K350q
      have f357 : Fld Z T350.heap rr "com/example/access_bindings/accessbindings/server/RestResource" "listMethod" "Ljava/lang/String;" (.ref lm) := f344.keep K350q nin0
      have f358 : own_AI Z T350.heap bb .char nb gb := f345.keep K350q nin0
      have f359 : Exa Z T350.heap bb "[C" := f346.keep K350q
      have f360 : Exa Z T350.heap b325 "java/lang/String" := f337_0.keep K350q
      have f361 : own_Str Z T350.heap b325 ((List.range nb).map gb) := f337_1.keep K350q
      have f362 : own_Str Z T350.heap lm ds := fLM.keep K350q
      have Z350 : n0 ≤ T350.heap.size := Nat.le_trans Z337 K350q.1
      have K350 : Keep h0 T350.heap [] := K337.trans K350q all0
      refine own_go (S' := T350.setTop (mkF m 263 #[.val (.int p0), .val (.int p1), .val (.int p2), .val (.int p3), .val (.ref rr), .val (.int wh), .val (.int mo), .val (.int xx), .val (.int yy), .val (.ref bb), .val (.int (1 : Int32)), .val (.ref b325), .val (.int (1 : Int32)), .unset] [(.int (own_lb ((List.range nb).map gb) ds))])) (fun _ k => st350.trans k) ?_
      refine own_go (S' := T350.setTop (mkF m 273 #[.val (.int p0), .val (.int p1), .val (.int p2), .val (.int p3), .val (.ref rr), .val (.int wh), .val (.int mo), .val (.int xx), .val (.int yy), .val (.ref bb), .val (.int (1 : Int32)), .val (.ref b325), .val (.int (1 : Int32)), .unset] [(.int (1 : Int32))])) (fun target kt => ?_) ?_
      · skip
        show Steps p.tables e below (T350.setTop (mkF m 263 #[.val (.int p0), .val (.int p1), .val (.int p2), .val (.int p3), .val (.ref rr), .val (.int wh), .val (.int mo), .val (.int xx), .val (.int yy), .val (.ref bb), .val (.int (1 : Int32)), .val (.ref b325), .val (.int (1 : Int32)), .unset] [(.int (own_lb ((List.range nb).map gb) ds))])) _
        refine XS.iload X350.here hx rfl (hb hby at_263) rfl ?_
        show Steps p.tables e below (T350.setTop (mkF m 265 #[.val (.int p0), .val (.int p1), .val (.int p2), .val (.int p3), .val (.ref rr), .val (.int wh), .val (.int mo), .val (.int xx), .val (.int yy), .val (.ref bb), .val (.int (1 : Int32)), .val (.ref b325), .val (.int (1 : Int32)), .unset] [(.int (1 : Int32)), (.int (own_lb ((List.range nb).map gb) ds))])) _
        refine XS.icmpNo X350.here hx rfl (hb hby at_265) rfl (teq (own_t1 (own_isB.l0 hB hc238) : (own_lb ((List.range nb).map gb) ds) = (1 : Int32))).2 ?_
        show Steps p.tables e below (T350.setTop (mkF m 268 #[.val (.int p0), .val (.int p1), .val (.int p2), .val (.int p3), .val (.ref rr), .val (.int wh), .val (.int mo), .val (.int xx), .val (.int yy), .val (.ref bb), .val (.int (1 : Int32)), .val (.ref b325), .val (.int (1 : Int32)), .unset] [])) _
        refine XS.iconst X350.here hx rfl (hb hby at_268) ?_
        show Steps p.tables e below (T350.setTop (mkF m 269 #[.val (.int p0), .val (.int p1), .val (.int p2), .val (.int p3), .val (.ref rr), .val (.int wh), .val (.int mo), .val (.int xx), .val (.int yy), .val (.ref bb), .val (.int (1 : Int32)), .val (.ref b325), .val (.int (1 : Int32)), .unset] [(.int (1 : Int32))])) _
        refine XS.goto X350.here hx rfl (pc0 := 269) (pc' := 273) rfl (hb hby at_269) (by decide) (by decide) ?_
        exact kt
      obtain ⟨fs, hr, hrun, hended, hW, hBk, hsame⟩ := own_leave X350 rfl ST350 (v := some (.int (1 : Int32))) (fun h => by rw [Bd.returns] at h; cases h)
      refine ⟨_, _, ?_, hrun, hended, _, _, rfl, ?_, ⟨_, rfl⟩, hW, hBk, hsame.mono (by decide) (by decide)⟩
      · exact retN X350 hx (t := .boolean) Bd.returns (by simp) (hb hby at_273) hr
      · show Q0 Z p0 p1 p2 p3 cl co cu ap zz h0 n0 _ T350.heap _
        exact ⟨rfl, N350⟩
    · skip
      refine own_go (S' := T337.setTop (mkF m 243 #[.val (.int p0), .val (.int p1), .val (.int p2), .val (.int p3), .val (.ref rr), .val (.int wh), .val (.int mo), .val (.int xx), .val (.int yy), .val (.ref bb), .val (.int (1 : Int32)), .val (.ref b325), .unset, .unset] [(.ref rr)])) (fun target kt => ?_) ?_
      · skip
        show Steps p.tables e below (T337.setTop (mkF m 238 #[.val (.int p0), .val (.int p1), .val (.int p2), .val (.int p3), .val (.ref rr), .val (.int wh), .val (.int mo), .val (.int xx), .val (.int yy), .val (.ref bb), .val (.int (1 : Int32)), .val (.ref b325), .unset, .unset] [(.int wh)])) _
        refine XS.ifNo X337.here hx rfl (hb hby at_238) rfl ((if0 _ _).trans (feq hc238).1) ?_
        show Steps p.tables e below (T337.setTop (mkF m 241 #[.val (.int p0), .val (.int p1), .val (.int p2), .val (.int p3), .val (.ref rr), .val (.int wh), .val (.int mo), .val (.int xx), .val (.int yy), .val (.ref bb), .val (.int (1 : Int32)), .val (.ref b325), .unset, .unset] [])) _
        refine XS.aload X337.here hx rfl (hb hby at_241) rfl rfl ?_
        exact kt
      obtain ⟨T363, X363, e363, st363⟩ := getS2 X337 hx hZ hown (host := "") (Or.inl (hw _ (List.mem_of_getElem? (i := 68) rfl))) Via.refl rfl f339 (g := (mkF m 243 #[.val (.int p0), .val (.int p1), .val (.int p2), .val (.int p3), .val (.ref rr), .val (.int wh), .val (.int mo), .val (.int xx), .val (.int yy), .val (.ref bb), .val (.int (1 : Int32)), .val (.ref b325), .unset, .unset] [(.ref rr)])) rfl (hb hby at_243)
      refine own_go (S' := T363.setTop (mkF m 246 #[.val (.int p0), .val (.int p1), .val (.int p2), .val (.int p3), .val (.ref rr), .val (.int wh), .val (.int mo), .val (.int xx), .val (.int yy), .val (.ref bb), .val (.int (1 : Int32)), .val (.ref b325), .unset, .unset] [(.ref co), (.ref rr)])) st363 ?_
      by_cases hc246 : rr = co
      · skip
        refine own_go (S' := T363.setTop (mkF m 256 #[.val (.int p0), .val (.int p1), .val (.int p2), .val (.int p3), .val (.ref rr), .val (.int wh), .val (.int mo), .val (.int xx), .val (.int yy), .val (.ref bb), .val (.int (1 : Int32)), .val (.ref b325), .val (.int (1 : Int32)), .unset] [])) (fun target kt => ?_) ?_
        · skip
          show Steps p.tables e below (T363.setTop (mkF m 246 #[.val (.int p0), .val (.int p1), .val (.int p2), .val (.int p3), .val (.ref rr), .val (.int wh), .val (.int mo), .val (.int xx), .val (.int yy), .val (.ref bb), .val (.int (1 : Int32)), .val (.ref b325), .unset, .unset] [(.ref co), (.ref rr)])) _
          refine Jvm.RoadKit.acmp (g := (mkF m 246 #[.val (.int p0), .val (.int p1), .val (.int p2), .val (.int p3), .val (.ref rr), .val (.int wh), .val (.int mo), .val (.int xx), .val (.int yy), .val (.ref bb), .val (.int (1 : Int32)), .val (.ref b325), .unset, .unset] [(.ref co), (.ref rr)])) X363 hx rfl rfl rfl (pc0 := 246) (pc' := 249) (same := true) rfl (hb hby at_246) rfl (decide_eq_true (congrArg Value.ref hc246)) (by decide) (by decide) ?_
          show Steps p.tables e below (T363.setTop (mkF m 249 #[.val (.int p0), .val (.int p1), .val (.int p2), .val (.int p3), .val (.ref rr), .val (.int wh), .val (.int mo), .val (.int xx), .val (.int yy), .val (.ref bb), .val (.int (1 : Int32)), .val (.ref b325), .unset, .unset] [])) _
          refine XS.iconst X363.here hx rfl (hb hby at_249) ?_
          show Steps p.tables e below (T363.setTop (mkF m 250 #[.val (.int p0), .val (.int p1), .val (.int p2), .val (.int p3), .val (.ref rr), .val (.int wh), .val (.int mo), .val (.int xx), .val (.int yy), .val (.ref bb), .val (.int (1 : Int32)), .val (.ref b325), .unset, .unset] [(.int (1 : Int32))])) _
          refine XS.goto X363.here hx rfl (pc0 := 250) (pc' := 254) rfl (hb hby at_250) (by decide) (by decide) ?_
          show Steps p.tables e below (T363.setTop (mkF m 254 #[.val (.int p0), .val (.int p1), .val (.int p2), .val (.int p3), .val (.ref rr), .val (.int wh), .val (.int mo), .val (.int xx), .val (.int yy), .val (.ref bb), .val (.int (1 : Int32)), .val (.ref b325), .unset, .unset] [(.int (1 : Int32))])) _
          refine XS.istore X363.here hx rfl (hb hby at_254) rfl (l' := #[.val (.int p0), .val (.int p1), .val (.int p2), .val (.int p3), .val (.ref rr), .val (.int wh), .val (.int mo), .val (.int xx), .val (.int yy), .val (.ref bb), .val (.int (1 : Int32)), .val (.ref b325), .val (.int (1 : Int32)), .unset]) rfl ?_
          exact kt
        have fLM : own_Str Z T337.heap lm ds := own_Str.keep fRT K337
        refine own_go (S' := T363.setTop (mkF m 260 #[.val (.int p0), .val (.int p1), .val (.int p2), .val (.int p3), .val (.ref rr), .val (.int wh), .val (.int mo), .val (.int xx), .val (.int yy), .val (.ref bb), .val (.int (1 : Int32)), .val (.ref b325), .val (.int (1 : Int32)), .unset] [(.ref b325), (.ref rr)])) (fun target kt => ?_) ?_
        · skip
          show Steps p.tables e below (T363.setTop (mkF m 256 #[.val (.int p0), .val (.int p1), .val (.int p2), .val (.int p3), .val (.ref rr), .val (.int wh), .val (.int mo), .val (.int xx), .val (.int yy), .val (.ref bb), .val (.int (1 : Int32)), .val (.ref b325), .val (.int (1 : Int32)), .unset] [])) _
          refine XS.aload X363.here hx rfl (hb hby at_256) rfl rfl ?_
          show Steps p.tables e below (T363.setTop (mkF m 258 #[.val (.int p0), .val (.int p1), .val (.int p2), .val (.int p3), .val (.ref rr), .val (.int wh), .val (.int mo), .val (.int xx), .val (.int yy), .val (.ref bb), .val (.int (1 : Int32)), .val (.ref b325), .val (.int (1 : Int32)), .unset] [(.ref rr)])) _
          refine XS.aload X363.here hx rfl (hb hby at_258) rfl rfl ?_
          exact kt
        obtain ⟨cq364, kq364, q364a, q364b, q364c⟩ := isOf hZ e363 f343
        obtain ⟨_, _, ⟨T364, L364, k364, n364⟩, -, X364, hS364, hG364, ⟨Lc364, hQ364, l364, y364, z364⟩, st364⟩ := X363.virtualBackS hx (y := (⟨"com/example/access_bindings/accessbindings/server/RestResource", "listsBindingsAt", "(Ljava/lang/String;)Z"⟩ : MethodName)) (z := (⟨"com/example/access_bindings/accessbindings/server/RestResource", "listsBindingsAt", "(Ljava/lang/String;)Z"⟩ : MethodName)) hown (mvT hZ (hw _ (List.mem_of_getElem? (i := 41) rfl))) (mvT hZ (hw _ (List.mem_of_getElem? (i := 42) rfl))) (notFace_of_selects (args := #[]) (mvT hZ (hw _ (List.mem_of_getElem? (i := 44) rfl)))) (mvT hZ (hw _ (List.mem_of_getElem? (i := 44) rfl))) (mvT hZ (hw _ (List.mem_of_getElem? (i := 43) rfl))) (by decide) (own_backOfI (Ts' := ("listAccessBindings" :: ("" :: []))) (W := 0) (rm9 l Z aZ hw [] rr b325 lm ((List.range nb).map gb) ds zz T337.heap n0 Z337 f343 f344 f337_0 f337_1 fLM f342 ((fun bq cq qq => K337.2.1 bq cq (hold bq cq qq) nin0) : ∀ (bq : Addr) (cq : Cell), Z.heap[bq]? = some cq → T337.heap[bq]? = some cq) (held31 : Jvm.Lit.constHeld Z "com/example/access_bindings/accessbindings/server/RestResource" 31 ∧ Jvm.Lit.compactW.before aZ Z = true) (zne : ¬ zz = 0)) hZ (hw _ (List.mem_of_getElem? (i := 45) rfl)) (hw _ (List.mem_of_getElem? (i := 5) rfl)) (by decide) (by decide) (own_IB.more hI0 (by simp))) q364a q364c (g := (mkF m 260 #[.val (.int p0), .val (.int p1), .val (.int p2), .val (.int p3), .val (.ref rr), .val (.int wh), .val (.int mo), .val (.int xx), .val (.int yy), .val (.ref bb), .val (.int (1 : Int32)), .val (.ref b325), .val (.int (1 : Int32)), .unset] [(.ref b325), (.ref rr)])) rfl (by rw [hml]; rfl) (Steps.refl _) (argsL := [(.ref b325)]) (rest := []) (lenOf own_pd9 rfl) rfl (by show 2 * 0 + _ ≤ _; exact Nat.le_of_eq rfl) (hb hby at_260) (fun _ _ => ⟨rfl, e363, (by decide : 3 + 2 ≤ _), (by decide : 41 + 76 ≤ _)⟩)
        dsimp only [Pt.U, Pt.locs, Pt.cells, Pt.slots] at X364 l364 y364 z364 st364 hQ364 hS364 hG364
        obtain rfl : k364 = 5 := y364
        obtain rfl : n364 = 117 := z364
        obtain ⟨hQ364, hI364⟩ := hQ364
        obtain ⟨s364, X364, ST364, hZ, hown, I364⟩ := own_backI X364 ST337 hS364 hG364 e363 hZ hown hI364
        obtain ⟨rfl, N364q, K364q⟩ := hQ364
        have N364 : Fr n0 L364 := by rw [l364]; exact Fr.app N337 N364q
        clear l364
        have f365 : Sta Z T364.heap "com/example/access_bindings/accessbindings/server/RestResource" "CLOUDS" "Lcom/example/access_bindings/accessbindings/server/RestResource;" (.ref cl) := own_Sta_keep f338 K364q all0
        have f366 : Sta Z T364.heap "com/example/access_bindings/accessbindings/server/RestResource" "COMMUNITIES" "Lcom/example/access_bindings/accessbindings/server/RestResource;" (.ref co) := own_Sta_keep f339 K364q all0
        have f367 : Sta Z T364.heap "com/example/access_bindings/accessbindings/server/RestResource" "CLUSTERS" "Lcom/example/access_bindings/accessbindings/server/RestResource;" (.ref cu) := own_Sta_keep f340 K364q all0
        have f368 : Sta Z T364.heap "com/example/access_bindings/accessbindings/server/RestResource" "APPLICATIONS" "Lcom/example/access_bindings/accessbindings/server/RestResource;" (.ref ap) := own_Sta_keep f341 K364q all0
        have f369 : Sta Z T364.heap "java/lang/String" "COMPACT_STRINGS" "Z" (.int zz) := own_Sta_keep f342 K364q all0
        have f370 : Exa Z T364.heap rr "com/example/access_bindings/accessbindings/server/RestResource" := f343.keep K364q
        have f371 : Fld Z T364.heap rr "com/example/access_bindings/accessbindings/server/RestResource" "listMethod" "Ljava/lang/String;" (.ref lm) := f344.keep K364q nin0
        have f372 : own_AI Z T364.heap bb .char nb gb := f345.keep K364q nin0
        have f373 : Exa Z T364.heap bb "[C" := f346.keep K364q
        have f374 : Exa Z T364.heap b325 "java/lang/String" := f337_0.keep K364q
        have f375 : own_Str Z T364.heap b325 ((List.range nb).map gb) := f337_1.keep K364q
        have f376 : own_Str Z T364.heap lm ds := fLM.keep K364q
        have Z364 : n0 ≤ T364.heap.size := Nat.le_trans Z337 K364q.1
        have K364 : Keep h0 T364.heap [] := K337.trans K364q all0
        refine own_go (S' := T364.setTop (mkF m 263 #[.val (.int p0), .val (.int p1), .val (.int p2), .val (.int p3), .val (.ref rr), .val (.int wh), .val (.int mo), .val (.int xx), .val (.int yy), .val (.ref bb), .val (.int (1 : Int32)), .val (.ref b325), .val (.int (1 : Int32)), .unset] [(.int (own_lb ((List.range nb).map gb) ds))])) (fun _ k => st364.trans k) ?_
        refine own_go (S' := T364.setTop (mkF m 273 #[.val (.int p0), .val (.int p1), .val (.int p2), .val (.int p3), .val (.ref rr), .val (.int wh), .val (.int mo), .val (.int xx), .val (.int yy), .val (.ref bb), .val (.int (1 : Int32)), .val (.ref b325), .val (.int (1 : Int32)), .unset] [(.int (1 : Int32))])) (fun target kt => ?_) ?_
        · skip
          show Steps p.tables e below (T364.setTop (mkF m 263 #[.val (.int p0), .val (.int p1), .val (.int p2), .val (.int p3), .val (.ref rr), .val (.int wh), .val (.int mo), .val (.int xx), .val (.int yy), .val (.ref bb), .val (.int (1 : Int32)), .val (.ref b325), .val (.int (1 : Int32)), .unset] [(.int (own_lb ((List.range nb).map gb) ds))])) _
          refine XS.iload X364.here hx rfl (hb hby at_263) rfl ?_
          show Steps p.tables e below (T364.setTop (mkF m 265 #[.val (.int p0), .val (.int p1), .val (.int p2), .val (.int p3), .val (.ref rr), .val (.int wh), .val (.int mo), .val (.int xx), .val (.int yy), .val (.ref bb), .val (.int (1 : Int32)), .val (.ref b325), .val (.int (1 : Int32)), .unset] [(.int (1 : Int32)), (.int (own_lb ((List.range nb).map gb) ds))])) _
          refine XS.icmpNo X364.here hx rfl (hb hby at_265) rfl (teq (own_t2 (own_isB.l1 hB hc238) hR hc246 : (own_lb ((List.range nb).map gb) ds) = (1 : Int32))).2 ?_
          show Steps p.tables e below (T364.setTop (mkF m 268 #[.val (.int p0), .val (.int p1), .val (.int p2), .val (.int p3), .val (.ref rr), .val (.int wh), .val (.int mo), .val (.int xx), .val (.int yy), .val (.ref bb), .val (.int (1 : Int32)), .val (.ref b325), .val (.int (1 : Int32)), .unset] [])) _
          refine XS.iconst X364.here hx rfl (hb hby at_268) ?_
          show Steps p.tables e below (T364.setTop (mkF m 269 #[.val (.int p0), .val (.int p1), .val (.int p2), .val (.int p3), .val (.ref rr), .val (.int wh), .val (.int mo), .val (.int xx), .val (.int yy), .val (.ref bb), .val (.int (1 : Int32)), .val (.ref b325), .val (.int (1 : Int32)), .unset] [(.int (1 : Int32))])) _
          refine XS.goto X364.here hx rfl (pc0 := 269) (pc' := 273) rfl (hb hby at_269) (by decide) (by decide) ?_
          exact kt
        obtain ⟨fs, hr, hrun, hended, hW, hBk, hsame⟩ := own_leave X364 rfl ST364 (v := some (.int (1 : Int32))) (fun h => by rw [Bd.returns] at h; cases h)
        refine ⟨_, _, ?_, hrun, hended, _, _, rfl, ?_, ⟨_, rfl⟩, hW, hBk, hsame.mono (by decide) (by decide)⟩
        · exact retN X364 hx (t := .boolean) Bd.returns (by simp) (hb hby at_273) hr
        · show Q0 Z p0 p1 p2 p3 cl co cu ap zz h0 n0 _ T364.heap _
          exact ⟨rfl, N364⟩
      · skip
        refine own_go (S' := T363.setTop (mkF m 256 #[.val (.int p0), .val (.int p1), .val (.int p2), .val (.int p3), .val (.ref rr), .val (.int wh), .val (.int mo), .val (.int xx), .val (.int yy), .val (.ref bb), .val (.int (1 : Int32)), .val (.ref b325), .val (.int (0 : Int32)), .unset] [])) (fun target kt => ?_) ?_
        · skip
          show Steps p.tables e below (T363.setTop (mkF m 246 #[.val (.int p0), .val (.int p1), .val (.int p2), .val (.int p3), .val (.ref rr), .val (.int wh), .val (.int mo), .val (.int xx), .val (.int yy), .val (.ref bb), .val (.int (1 : Int32)), .val (.ref b325), .unset, .unset] [(.ref co), (.ref rr)])) _
          refine Jvm.RoadKit.acmp (g := (mkF m 246 #[.val (.int p0), .val (.int p1), .val (.int p2), .val (.int p3), .val (.ref rr), .val (.int wh), .val (.int mo), .val (.int xx), .val (.int yy), .val (.ref bb), .val (.int (1 : Int32)), .val (.ref b325), .unset, .unset] [(.ref co), (.ref rr)])) X363 hx rfl rfl rfl (pc0 := 246) (pc' := 253) (same := false) rfl (hb hby at_246) rfl (decide_eq_false fun q => hc246 (Value.ref.inj q)) (by decide) (by decide) ?_
          show Steps p.tables e below (T363.setTop (mkF m 253 #[.val (.int p0), .val (.int p1), .val (.int p2), .val (.int p3), .val (.ref rr), .val (.int wh), .val (.int mo), .val (.int xx), .val (.int yy), .val (.ref bb), .val (.int (1 : Int32)), .val (.ref b325), .unset, .unset] [])) _
          refine XS.iconst X363.here hx rfl (hb hby at_253) ?_
          show Steps p.tables e below (T363.setTop (mkF m 254 #[.val (.int p0), .val (.int p1), .val (.int p2), .val (.int p3), .val (.ref rr), .val (.int wh), .val (.int mo), .val (.int xx), .val (.int yy), .val (.ref bb), .val (.int (1 : Int32)), .val (.ref b325), .unset, .unset] [(.int (0 : Int32))])) _
          refine XS.istore X363.here hx rfl (hb hby at_254) rfl (l' := #[.val (.int p0), .val (.int p1), .val (.int p2), .val (.int p3), .val (.ref rr), .val (.int wh), .val (.int mo), .val (.int xx), .val (.int yy), .val (.ref bb), .val (.int (1 : Int32)), .val (.ref b325), .val (.int (0 : Int32)), .unset]) rfl ?_
          exact kt
        have fLM : own_Str Z T337.heap lm ds := own_Str.keep fRT K337
        refine own_go (S' := T363.setTop (mkF m 260 #[.val (.int p0), .val (.int p1), .val (.int p2), .val (.int p3), .val (.ref rr), .val (.int wh), .val (.int mo), .val (.int xx), .val (.int yy), .val (.ref bb), .val (.int (1 : Int32)), .val (.ref b325), .val (.int (0 : Int32)), .unset] [(.ref b325), (.ref rr)])) (fun target kt => ?_) ?_
        · skip
          show Steps p.tables e below (T363.setTop (mkF m 256 #[.val (.int p0), .val (.int p1), .val (.int p2), .val (.int p3), .val (.ref rr), .val (.int wh), .val (.int mo), .val (.int xx), .val (.int yy), .val (.ref bb), .val (.int (1 : Int32)), .val (.ref b325), .val (.int (0 : Int32)), .unset] [])) _
          refine XS.aload X363.here hx rfl (hb hby at_256) rfl rfl ?_
          show Steps p.tables e below (T363.setTop (mkF m 258 #[.val (.int p0), .val (.int p1), .val (.int p2), .val (.int p3), .val (.ref rr), .val (.int wh), .val (.int mo), .val (.int xx), .val (.int yy), .val (.ref bb), .val (.int (1 : Int32)), .val (.ref b325), .val (.int (0 : Int32)), .unset] [(.ref rr)])) _
          refine XS.aload X363.here hx rfl (hb hby at_258) rfl rfl ?_
          exact kt
        obtain ⟨cq377, kq377, q377a, q377b, q377c⟩ := isOf hZ e363 f343
        obtain ⟨_, _, ⟨T377, L377, k377, n377⟩, -, X377, hS377, hG377, ⟨Lc377, hQ377, l377, y377, z377⟩, st377⟩ := X363.virtualBackS hx (y := (⟨"com/example/access_bindings/accessbindings/server/RestResource", "listsBindingsAt", "(Ljava/lang/String;)Z"⟩ : MethodName)) (z := (⟨"com/example/access_bindings/accessbindings/server/RestResource", "listsBindingsAt", "(Ljava/lang/String;)Z"⟩ : MethodName)) hown (mvT hZ (hw _ (List.mem_of_getElem? (i := 41) rfl))) (mvT hZ (hw _ (List.mem_of_getElem? (i := 42) rfl))) (notFace_of_selects (args := #[]) (mvT hZ (hw _ (List.mem_of_getElem? (i := 44) rfl)))) (mvT hZ (hw _ (List.mem_of_getElem? (i := 44) rfl))) (mvT hZ (hw _ (List.mem_of_getElem? (i := 43) rfl))) (by decide) (own_backOfI (Ts' := ("listAccessBindings" :: ("" :: []))) (W := 0) (rm9 l Z aZ hw [] rr b325 lm ((List.range nb).map gb) ds zz T337.heap n0 Z337 f343 f344 f337_0 f337_1 fLM f342 ((fun bq cq qq => K337.2.1 bq cq (hold bq cq qq) nin0) : ∀ (bq : Addr) (cq : Cell), Z.heap[bq]? = some cq → T337.heap[bq]? = some cq) (held31 : Jvm.Lit.constHeld Z "com/example/access_bindings/accessbindings/server/RestResource" 31 ∧ Jvm.Lit.compactW.before aZ Z = true) (zne : ¬ zz = 0)) hZ (hw _ (List.mem_of_getElem? (i := 45) rfl)) (hw _ (List.mem_of_getElem? (i := 5) rfl)) (by decide) (by decide) (own_IB.more hI0 (by simp))) q377a q377c (g := (mkF m 260 #[.val (.int p0), .val (.int p1), .val (.int p2), .val (.int p3), .val (.ref rr), .val (.int wh), .val (.int mo), .val (.int xx), .val (.int yy), .val (.ref bb), .val (.int (1 : Int32)), .val (.ref b325), .val (.int (0 : Int32)), .unset] [(.ref b325), (.ref rr)])) rfl (by rw [hml]; rfl) (Steps.refl _) (argsL := [(.ref b325)]) (rest := []) (lenOf own_pd9 rfl) rfl (by show 2 * 0 + _ ≤ _; exact Nat.le_of_eq rfl) (hb hby at_260) (fun _ _ => ⟨rfl, e363, (by decide : 3 + 2 ≤ _), (by decide : 41 + 76 ≤ _)⟩)
        dsimp only [Pt.U, Pt.locs, Pt.cells, Pt.slots] at X377 l377 y377 z377 st377 hQ377 hS377 hG377
        obtain rfl : k377 = 5 := y377
        obtain rfl : n377 = 117 := z377
        obtain ⟨hQ377, hI377⟩ := hQ377
        obtain ⟨s377, X377, ST377, hZ, hown, I377⟩ := own_backI X377 ST337 hS377 hG377 e363 hZ hown hI377
        obtain ⟨rfl, N377q, K377q⟩ := hQ377
        have N377 : Fr n0 L377 := by rw [l377]; exact Fr.app N337 N377q
        clear l377
        have f378 : Sta Z T377.heap "com/example/access_bindings/accessbindings/server/RestResource" "CLOUDS" "Lcom/example/access_bindings/accessbindings/server/RestResource;" (.ref cl) := own_Sta_keep f338 K377q all0
        have f379 : Sta Z T377.heap "com/example/access_bindings/accessbindings/server/RestResource" "COMMUNITIES" "Lcom/example/access_bindings/accessbindings/server/RestResource;" (.ref co) := own_Sta_keep f339 K377q all0
        have f380 : Sta Z T377.heap "com/example/access_bindings/accessbindings/server/RestResource" "CLUSTERS" "Lcom/example/access_bindings/accessbindings/server/RestResource;" (.ref cu) := own_Sta_keep f340 K377q all0
        have f381 : Sta Z T377.heap "com/example/access_bindings/accessbindings/server/RestResource" "APPLICATIONS" "Lcom/example/access_bindings/accessbindings/server/RestResource;" (.ref ap) := own_Sta_keep f341 K377q all0
        have f382 : Sta Z T377.heap "java/lang/String" "COMPACT_STRINGS" "Z" (.int zz) := own_Sta_keep f342 K377q all0
        have f383 : Exa Z T377.heap rr "com/example/access_bindings/accessbindings/server/RestResource" := f343.keep K377q
        have f384 : Fld Z T377.heap rr "com/example/access_bindings/accessbindings/server/RestResource" "listMethod" "Ljava/lang/String;" (.ref lm) := f344.keep K377q nin0
        have f385 : own_AI Z T377.heap bb .char nb gb := f345.keep K377q nin0
        have f386 : Exa Z T377.heap bb "[C" := f346.keep K377q
        have f387 : Exa Z T377.heap b325 "java/lang/String" := f337_0.keep K377q
        have f388 : own_Str Z T377.heap b325 ((List.range nb).map gb) := f337_1.keep K377q
        have f389 : own_Str Z T377.heap lm ds := fLM.keep K377q
        have Z377 : n0 ≤ T377.heap.size := Nat.le_trans Z337 K377q.1
        have K377 : Keep h0 T377.heap [] := K337.trans K377q all0
        refine own_go (S' := T377.setTop (mkF m 263 #[.val (.int p0), .val (.int p1), .val (.int p2), .val (.int p3), .val (.ref rr), .val (.int wh), .val (.int mo), .val (.int xx), .val (.int yy), .val (.ref bb), .val (.int (1 : Int32)), .val (.ref b325), .val (.int (0 : Int32)), .unset] [(.int (own_lb ((List.range nb).map gb) ds))])) (fun _ k => st377.trans k) ?_
        refine own_go (S' := T377.setTop (mkF m 273 #[.val (.int p0), .val (.int p1), .val (.int p2), .val (.int p3), .val (.ref rr), .val (.int wh), .val (.int mo), .val (.int xx), .val (.int yy), .val (.ref bb), .val (.int (1 : Int32)), .val (.ref b325), .val (.int (0 : Int32)), .unset] [(.int (1 : Int32))])) (fun target kt => ?_) ?_
        · skip
          show Steps p.tables e below (T377.setTop (mkF m 263 #[.val (.int p0), .val (.int p1), .val (.int p2), .val (.int p3), .val (.ref rr), .val (.int wh), .val (.int mo), .val (.int xx), .val (.int yy), .val (.ref bb), .val (.int (1 : Int32)), .val (.ref b325), .val (.int (0 : Int32)), .unset] [(.int (own_lb ((List.range nb).map gb) ds))])) _
          refine XS.iload X377.here hx rfl (hb hby at_263) rfl ?_
          show Steps p.tables e below (T377.setTop (mkF m 265 #[.val (.int p0), .val (.int p1), .val (.int p2), .val (.int p3), .val (.ref rr), .val (.int wh), .val (.int mo), .val (.int xx), .val (.int yy), .val (.ref bb), .val (.int (1 : Int32)), .val (.ref b325), .val (.int (0 : Int32)), .unset] [(.int (0 : Int32)), (.int (own_lb ((List.range nb).map gb) ds))])) _
          refine XS.icmpNo X377.here hx rfl (hb hby at_265) rfl (teq (own_t3 (own_isB.l1 hB hc238) hR hc246 : (own_lb ((List.range nb).map gb) ds) = (0 : Int32))).2 ?_
          show Steps p.tables e below (T377.setTop (mkF m 268 #[.val (.int p0), .val (.int p1), .val (.int p2), .val (.int p3), .val (.ref rr), .val (.int wh), .val (.int mo), .val (.int xx), .val (.int yy), .val (.ref bb), .val (.int (1 : Int32)), .val (.ref b325), .val (.int (0 : Int32)), .unset] [])) _
          refine XS.iconst X377.here hx rfl (hb hby at_268) ?_
          show Steps p.tables e below (T377.setTop (mkF m 269 #[.val (.int p0), .val (.int p1), .val (.int p2), .val (.int p3), .val (.ref rr), .val (.int wh), .val (.int mo), .val (.int xx), .val (.int yy), .val (.ref bb), .val (.int (1 : Int32)), .val (.ref b325), .val (.int (0 : Int32)), .unset] [(.int (1 : Int32))])) _
          refine XS.goto X377.here hx rfl (pc0 := 269) (pc' := 273) rfl (hb hby at_269) (by decide) (by decide) ?_
          exact kt
        obtain ⟨fs, hr, hrun, hended, hW, hBk, hsame⟩ := own_leave X377 rfl ST377 (v := some (.int (1 : Int32))) (fun h => by rw [Bd.returns] at h; cases h)
        refine ⟨_, _, ?_, hrun, hended, _, _, rfl, ?_, ⟨_, rfl⟩, hW, hBk, hsame.mono (by decide) (by decide)⟩
        · exact retN X377 hx (t := .boolean) Bd.returns (by simp) (hb hby at_273) hr
        · show Q0 Z p0 p1 p2 p3 cl co cu ap zz h0 n0 _ T377.heap _
          exact ⟨rfl, N377⟩
  · skip
    refine own_go (S' := T317.setTop (mkF m 69 #[.val (.int p0), .val (.int p1), .val (.int p2), .val (.int p3), .val (.ref rr), .val (.int wh), .val (.int mo), .val (.int xx), .val (.int yy), .val (.ref bb), .unset, .unset, .unset, .unset] [(.int (1 : Int32)), (.int mo)])) (fun target kt => ?_) ?_
    · skip
      show Steps p.tables e below (T317.setTop (mkF m 46 #[.val (.int p0), .val (.int p1), .val (.int p2), .val (.int p3), .val (.ref rr), .val (.int wh), .val (.int mo), .val (.int xx), .val (.int yy), .val (.ref bb), .unset, .unset, .unset, .unset] [(.int mo)])) _
      refine XS.ifYes X317.here hx rfl (pc0 := 46) (pc' := 66) rfl (hb hby at_46) rfl ((if0 _ _).trans (feq hc46).2) (by decide) (by decide) ?_
      show Steps p.tables e below (T317.setTop (mkF m 66 #[.val (.int p0), .val (.int p1), .val (.int p2), .val (.int p3), .val (.ref rr), .val (.int wh), .val (.int mo), .val (.int xx), .val (.int yy), .val (.ref bb), .unset, .unset, .unset, .unset] [])) _
      refine XS.iload X317.here hx rfl (hb hby at_66) rfl ?_
      show Steps p.tables e below (T317.setTop (mkF m 68 #[.val (.int p0), .val (.int p1), .val (.int p2), .val (.int p3), .val (.ref rr), .val (.int wh), .val (.int mo), .val (.int xx), .val (.int yy), .val (.ref bb), .unset, .unset, .unset, .unset] [(.int mo)])) _
      refine XS.iconst X317.here hx rfl (hb hby at_68) ?_
      exact kt
    by_cases hc69 : mo = (1 : Int32)
    · skip
      refine own_go (S' := T317.setTop (mkF m 78 #[.val (.int p0), .val (.int p1), .val (.int p2), .val (.int p3), .val (.ref rr), .val (.int wh), .val (.int mo), .val (.int xx), .val (.int yy), .val (.ref bb), .unset, .unset, .unset, .unset] [(.ref bb), (.int (p2 &&& (2147483647 : Int32)))])) (fun target kt => ?_) ?_
      · skip
        show Steps p.tables e below (T317.setTop (mkF m 69 #[.val (.int p0), .val (.int p1), .val (.int p2), .val (.int p3), .val (.ref rr), .val (.int wh), .val (.int mo), .val (.int xx), .val (.int yy), .val (.ref bb), .unset, .unset, .unset, .unset] [(.int (1 : Int32)), (.int mo)])) _
        refine XS.icmpNo X317.here hx rfl (hb hby at_69) rfl (teq hc69).2 ?_
        show Steps p.tables e below (T317.setTop (mkF m 72 #[.val (.int p0), .val (.int p1), .val (.int p2), .val (.int p3), .val (.ref rr), .val (.int wh), .val (.int mo), .val (.int xx), .val (.int yy), .val (.ref bb), .unset, .unset, .unset, .unset] [])) _
        refine XS.iloadN X317.here hx rfl (hb hby at_72) rfl ?_
        show Steps p.tables e below (T317.setTop (mkF m 73 #[.val (.int p0), .val (.int p1), .val (.int p2), .val (.int p3), .val (.ref rr), .val (.int wh), .val (.int mo), .val (.int xx), .val (.int yy), .val (.ref bb), .unset, .unset, .unset, .unset] [(.int p2)])) _
        refine X317.ldcInt hx hown (mvT hZ (hw _ (List.mem_of_getElem? (i := 11) rfl))) (g := (mkF m 73 #[.val (.int p0), .val (.int p1), .val (.int p2), .val (.int p3), .val (.ref rr), .val (.int wh), .val (.int mo), .val (.int xx), .val (.int yy), .val (.ref bb), .unset, .unset, .unset, .unset] [(.int p2)])) rfl (hb hby at_73) _ ?_
        show Steps p.tables e below (T317.setTop (mkF m 75 #[.val (.int p0), .val (.int p1), .val (.int p2), .val (.int p3), .val (.ref rr), .val (.int wh), .val (.int mo), .val (.int xx), .val (.int yy), .val (.ref bb), .unset, .unset, .unset, .unset] [(.int (2147483647 : Int32)), (.int p2)])) _
        refine XS.iand X317.here hx rfl (hb hby at_75) rfl ?_
        show Steps p.tables e below (T317.setTop (mkF m 76 #[.val (.int p0), .val (.int p1), .val (.int p2), .val (.int p3), .val (.ref rr), .val (.int wh), .val (.int mo), .val (.int xx), .val (.int yy), .val (.ref bb), .unset, .unset, .unset, .unset] [(.int (p2 &&& (2147483647 : Int32)))])) _
        refine XS.aload X317.here hx rfl (hb hby at_76) rfl rfl ?_
        exact kt
      obtain ⟨c390, Ar390, S390, M390, H390⟩ := id f317_0
      have st390 : ∀ target, Steps p.tables e below (T317.setTop (mkF m 79 #[.val (.int p0), .val (.int p1), .val (.int p2), .val (.int p3), .val (.ref rr), .val (.int wh), .val (.int mo), .val (.int xx), .val (.int yy), .val (.ref bb), .unset, .unset, .unset, .unset] [(.int (Int32.ofNat nb)), (.int (p2 &&& (2147483647 : Int32)))])) target → Steps p.tables e below (T317.setTop (mkF m 78 #[.val (.int p0), .val (.int p1), .val (.int p2), .val (.int p3), .val (.ref rr), .val (.int wh), .val (.int mo), .val (.int xx), .val (.int yy), .val (.ref bb), .unset, .unset, .unset, .unset] [(.ref bb), (.int (p2 &&& (2147483647 : Int32)))])) target := fun target kt => X317.arraylength hx (cell := c390) Ar390.1 (State.isArrayOf_alike hZ.alike Ar390.2.1) (g := (mkF m 78 #[.val (.int p0), .val (.int p1), .val (.int p2), .val (.int p3), .val (.ref rr), .val (.int wh), .val (.int mo), .val (.int xx), .val (.int yy), .val (.ref bb), .unset, .unset, .unset, .unset] [(.ref bb), (.int (p2 &&& (2147483647 : Int32)))])) rfl rfl (hb hby at_78) _ (by rw [own_len S390]; exact kt)
      refine own_go (S' := T317.setTop (mkF m 79 #[.val (.int p0), .val (.int p1), .val (.int p2), .val (.int p3), .val (.ref rr), .val (.int wh), .val (.int mo), .val (.int xx), .val (.int yy), .val (.ref bb), .unset, .unset, .unset, .unset] [(.int (Int32.ofNat nb)), (.int (p2 &&& (2147483647 : Int32)))])) st390 ?_
      obtain ⟨po, h_po⟩ : ∃ z : Int32, z = ((p2 &&& (2147483647 : Int32)) % (Int32.ofNat nb)) := ⟨_, rfl⟩
      refine own_go (S' := T317.setTop (mkF m 82 #[.val (.int p0), .val (.int p1), .val (.int p2), .val (.int p3), .val (.ref rr), .val (.int wh), .val (.int mo), .val (.int xx), .val (.int yy), .val (.ref bb), .unset, .unset, .val (.int po), .unset] [])) (fun target kt => ?_) ?_
      · subst h_po
        show Steps p.tables e below (T317.setTop (mkF m 79 #[.val (.int p0), .val (.int p1), .val (.int p2), .val (.int p3), .val (.ref rr), .val (.int wh), .val (.int mo), .val (.int xx), .val (.int yy), .val (.ref bb), .unset, .unset, .unset, .unset] [(.int (Int32.ofNat nb)), (.int (p2 &&& (2147483647 : Int32)))])) _
        refine iremM (g := (mkF m 79 #[.val (.int p0), .val (.int p1), .val (.int p2), .val (.int p3), .val (.ref rr), .val (.int wh), .val (.int mo), .val (.int xx), .val (.int yy), .val (.ref bb), .unset, .unset, .unset, .unset] [(.int (Int32.ofNat nb)), (.int (p2 &&& (2147483647 : Int32)))])) X317 hx rfl (hb hby at_79) rfl (own_nz (own_isB.len hB)) ?_
        show Steps p.tables e below (T317.setTop (mkF m 80 #[.val (.int p0), .val (.int p1), .val (.int p2), .val (.int p3), .val (.ref rr), .val (.int wh), .val (.int mo), .val (.int xx), .val (.int yy), .val (.ref bb), .unset, .unset, .unset, .unset] [(.int ((p2 &&& (2147483647 : Int32)) % (Int32.ofNat nb)))])) _
        refine XS.istore X317.here hx rfl (hb hby at_80) rfl (l' := #[.val (.int p0), .val (.int p1), .val (.int p2), .val (.int p3), .val (.ref rr), .val (.int wh), .val (.int mo), .val (.int xx), .val (.int yy), .val (.ref bb), .unset, .unset, .val (.int ((p2 &&& (2147483647 : Int32)) % (Int32.ofNat nb))), .unset]) rfl ?_
        exact kt
      have hpo := own_po (own_isB.len hB) h_po
      refine own_go (S' := T317.setTop (mkF m 86 #[.val (.int p0), .val (.int p1), .val (.int p2), .val (.int p3), .val (.ref rr), .val (.int wh), .val (.int mo), .val (.int xx), .val (.int yy), .val (.ref bb), .unset, .unset, .val (.int po), .unset] [(.int po), (.ref bb)])) (fun target kt => ?_) ?_
      · skip
        show Steps p.tables e below (T317.setTop (mkF m 82 #[.val (.int p0), .val (.int p1), .val (.int p2), .val (.int p3), .val (.ref rr), .val (.int wh), .val (.int mo), .val (.int xx), .val (.int yy), .val (.ref bb), .unset, .unset, .val (.int po), .unset] [])) _
        refine XS.aload X317.here hx rfl (hb hby at_82) rfl rfl ?_
        show Steps p.tables e below (T317.setTop (mkF m 84 #[.val (.int p0), .val (.int p1), .val (.int p2), .val (.int p3), .val (.ref rr), .val (.int wh), .val (.int mo), .val (.int xx), .val (.int yy), .val (.ref bb), .unset, .unset, .val (.int po), .unset] [(.ref bb)])) _
        refine XS.iload X317.here hx rfl (hb hby at_84) rfl ?_
        exact kt
      obtain ⟨c391, Ar391, S391, M391, H391⟩ := id f317_0
      have hj391 : ¬ po < 0 ∧ (po).toNatClampNeg < nb := (hpo)
      have st391 : ∀ target, Steps p.tables e below (T317.setTop (mkF m 87 #[.val (.int p0), .val (.int p1), .val (.int p2), .val (.int p3), .val (.ref rr), .val (.int wh), .val (.int mo), .val (.int xx), .val (.int yy), .val (.ref bb), .unset, .unset, .val (.int po), .unset] [(.int (gb (po).toNatClampNeg))])) target → Steps p.tables e below (T317.setTop (mkF m 86 #[.val (.int p0), .val (.int p1), .val (.int p2), .val (.int p3), .val (.ref rr), .val (.int wh), .val (.int mo), .val (.int xx), .val (.int yy), .val (.ref bb), .unset, .unset, .val (.int po), .unset] [(.int po), (.ref bb)])) target := fun target kt => X317.caload hx (j := po) (v := (.int (gb (po).toNatClampNeg))) Ar391.1 (State.isArrayOf_alike hZ.alike Ar391.2.1) Ar391.2.2 (own_in S391 hj391) (H391 _ hj391.2) (g := (mkF m 86 #[.val (.int p0), .val (.int p1), .val (.int p2), .val (.int p3), .val (.ref rr), .val (.int wh), .val (.int mo), .val (.int xx), .val (.int yy), .val (.ref bb), .unset, .unset, .val (.int po), .unset] [(.int po), (.ref bb)])) rfl rfl (hb hby at_86) _ kt
      refine own_go (S' := T317.setTop (mkF m 87 #[.val (.int p0), .val (.int p1), .val (.int p2), .val (.int p3), .val (.ref rr), .val (.int wh), .val (.int mo), .val (.int xx), .val (.int yy), .val (.ref bb), .unset, .unset, .val (.int po), .unset] [(.int (gb (po).toNatClampNeg))])) st391 ?_
      obtain ⟨og, h_og⟩ : ∃ z : Int32, z = (gb (po).toNatClampNeg) := ⟨_, rfl⟩
      refine own_go (S' := T317.setTop (mkF m 89 #[.val (.int p0), .val (.int p1), .val (.int p2), .val (.int p3), .val (.ref rr), .val (.int wh), .val (.int mo), .val (.int xx), .val (.int yy), .val (.ref bb), .unset, .unset, .val (.int po), .val (.int og)] [])) (fun target kt => ?_) ?_
      · subst h_og
        show Steps p.tables e below (T317.setTop (mkF m 87 #[.val (.int p0), .val (.int p1), .val (.int p2), .val (.int p3), .val (.ref rr), .val (.int wh), .val (.int mo), .val (.int xx), .val (.int yy), .val (.ref bb), .unset, .unset, .val (.int po), .unset] [(.int (gb (po).toNatClampNeg))])) _
        refine XS.istore X317.here hx rfl (hb hby at_87) rfl (l' := #[.val (.int p0), .val (.int p1), .val (.int p2), .val (.int p3), .val (.ref rr), .val (.int wh), .val (.int mo), .val (.int xx), .val (.int yy), .val (.ref bb), .unset, .unset, .val (.int po), .val (.int (gb (po).toNatClampNeg))]) rfl ?_
        exact kt
      refine own_go (S' := T317.setTop (mkF m 95 #[.val (.int p0), .val (.int p1), .val (.int p2), .val (.int p3), .val (.ref rr), .val (.int wh), .val (.int mo), .val (.int xx), .val (.int yy), .val (.ref bb), .unset, .unset, .val (.int po), .val (.int og)] [(.int xx), (.int po), (.ref bb)])) (fun target kt => ?_) ?_
      · skip
        show Steps p.tables e below (T317.setTop (mkF m 89 #[.val (.int p0), .val (.int p1), .val (.int p2), .val (.int p3), .val (.ref rr), .val (.int wh), .val (.int mo), .val (.int xx), .val (.int yy), .val (.ref bb), .unset, .unset, .val (.int po), .val (.int og)] [])) _
        refine XS.aload X317.here hx rfl (hb hby at_89) rfl rfl ?_
        show Steps p.tables e below (T317.setTop (mkF m 91 #[.val (.int p0), .val (.int p1), .val (.int p2), .val (.int p3), .val (.ref rr), .val (.int wh), .val (.int mo), .val (.int xx), .val (.int yy), .val (.ref bb), .unset, .unset, .val (.int po), .val (.int og)] [(.ref bb)])) _
        refine XS.iload X317.here hx rfl (hb hby at_91) rfl ?_
        show Steps p.tables e below (T317.setTop (mkF m 93 #[.val (.int p0), .val (.int p1), .val (.int p2), .val (.int p3), .val (.ref rr), .val (.int wh), .val (.int mo), .val (.int xx), .val (.int yy), .val (.ref bb), .unset, .unset, .val (.int po), .val (.int og)] [(.int po), (.ref bb)])) _
        refine XS.iload X317.here hx rfl (hb hby at_93) rfl ?_
        exact kt
      obtain ⟨c392, Ar392, S392, M392, H392⟩ := id f317_0
      have hin392 : ¬ (po < 0 ∨ c392.slots.size ≤ (po).toNatClampNeg) := own_in S392 (hpo)
      obtain ⟨T393, h393, X393, e393, W393, st393⟩ := stC X317 hx hZ rfl Ar392 (j := po) hin392 (g := (mkF m 95 #[.val (.int p0), .val (.int p1), .val (.int p2), .val (.int p3), .val (.ref rr), .val (.int wh), .val (.int mo), .val (.int xx), .val (.int yy), .val (.ref bb), .unset, .unset, .val (.int po), .val (.int og)] [(.int xx), (.int po), (.ref bb)])) rfl rfl (hb hby at_95)
      have f395 : Sta Z h393 "com/example/access_bindings/accessbindings/server/RestResource" "CLOUDS" "Lcom/example/access_bindings/accessbindings/server/RestResource;" (.ref cl) := f318.wr W393
      have f396 : Sta Z h393 "com/example/access_bindings/accessbindings/server/RestResource" "COMMUNITIES" "Lcom/example/access_bindings/accessbindings/server/RestResource;" (.ref co) := f319.wr W393
      have f397 : Sta Z h393 "com/example/access_bindings/accessbindings/server/RestResource" "CLUSTERS" "Lcom/example/access_bindings/accessbindings/server/RestResource;" (.ref cu) := f320.wr W393
      have f398 : Sta Z h393 "com/example/access_bindings/accessbindings/server/RestResource" "APPLICATIONS" "Lcom/example/access_bindings/accessbindings/server/RestResource;" (.ref ap) := f321.wr W393
      have f399 : Sta Z h393 "java/lang/String" "COMPACT_STRINGS" "Z" (.int zz) := f322.wr W393
      have f400 : Exa Z h393 rr "com/example/access_bindings/accessbindings/server/RestResource" := f323.wr W393
      have f401 : Fld Z h393 rr "com/example/access_bindings/accessbindings/server/RestResource" "listMethod" "Ljava/lang/String;" (.ref lm) := f324.other W393 (Or.inl ne_rr_bb)
      have f402 : Exa Z h393 bb "[C" := f317_1.wr W393
      have f394 : own_AI Z h393 bb .char nb (own_upd gb (po).toNatClampNeg (nar .char xx)) := own_AI.set Ar392 S392 M392 H392 W393
      have Z393 : n0 ≤ h393.size := Nat.le_trans Z317 (Keep.of_wr W393).1
      have ST393 := ST317.le (Keep.of_wr W393).1
      have K393 : Keep h0 h393 [] := K317.wr W393 (Or.inr sz_bb)
      have N393 := Fr.snoc X393 N317 g_bb
      refine own_go (S' := T393.setTop (mkF m 96 #[.val (.int p0), .val (.int p1), .val (.int p2), .val (.int p3), .val (.ref rr), .val (.int wh), .val (.int mo), .val (.int xx), .val (.int yy), .val (.ref bb), .unset, .unset, .val (.int po), .val (.int og)] [])) st393 ?_
      obtain ⟨T403, h403, X403, e403, E403, A403, D403, -, st403⟩ := newO X393 hx hZ hown (hw _ (List.mem_of_getElem? (i := 12) rfl)) (hw _ (List.mem_of_getElem? (i := 13) rfl)) (hw _ (List.mem_of_getElem? (i := 14) rfl)) e393 (g := (mkF m 96 #[.val (.int p0), .val (.int p1), .val (.int p2), .val (.int p3), .val (.ref rr), .val (.int wh), .val (.int mo), .val (.int xx), .val (.int yy), .val (.ref bb), .unset, .unset, .val (.int po), .val (.int og)] [])) rfl (hb hby at_96) (by decide) (by decide)
      obtain ⟨b403, g403⟩ : ∃ z, z = h393.size := ⟨_, rfl⟩
      rw [← g403] at A403 D403 st403
      have f404 : Sta Z h403 "com/example/access_bindings/accessbindings/server/RestResource" "CLOUDS" "Lcom/example/access_bindings/accessbindings/server/RestResource;" (.ref cl) := f395.ext E403
      have f405 : Sta Z h403 "com/example/access_bindings/accessbindings/server/RestResource" "COMMUNITIES" "Lcom/example/access_bindings/accessbindings/server/RestResource;" (.ref co) := f396.ext E403
      have f406 : Sta Z h403 "com/example/access_bindings/accessbindings/server/RestResource" "CLUSTERS" "Lcom/example/access_bindings/accessbindings/server/RestResource;" (.ref cu) := f397.ext E403
      have f407 : Sta Z h403 "com/example/access_bindings/accessbindings/server/RestResource" "APPLICATIONS" "Lcom/example/access_bindings/accessbindings/server/RestResource;" (.ref ap) := f398.ext E403
      have f408 : Sta Z h403 "java/lang/String" "COMPACT_STRINGS" "Z" (.int zz) := f399.ext E403
      have f409 : Exa Z h403 rr "com/example/access_bindings/accessbindings/server/RestResource" := f400.ext E403
      have f410 : Fld Z h403 rr "com/example/access_bindings/accessbindings/server/RestResource" "listMethod" "Ljava/lang/String;" (.ref lm) := f401.ext E403
      have f411 : Exa Z h403 bb "[C" := f402.ext E403
      have f412 : own_AI Z h403 bb .char nb (own_upd gb (po).toNatClampNeg (nar .char xx)) := f394.ext E403
      have g_b403 : n0 ≤ b403 := Nat.le_trans Z393 (Nat.le_of_eq g403.symm)
      have sz_b403 : h0.size ≤ b403 := Nat.le_trans K393.1 (Nat.le_of_eq g403.symm)
      have ne_rr_b403 : rr ≠ b403 := Nat.ne_of_lt (Nat.lt_of_lt_of_le f400.lt (Nat.le_of_eq g403.symm))
      have ne_bb_b403 : bb ≠ b403 := Nat.ne_of_lt (Nat.lt_of_lt_of_le f402.lt (Nat.le_of_eq g403.symm))
      have Z403 : n0 ≤ h403.size := Nat.le_trans Z393 E403.1
      have ST403 := ST393.le E403.1
      have K403 : Keep h0 h403 [] := K393.ext E403
      have f413 : Fld Z h403 b403 "java/lang/String" "coder" "B" (.int (0 : Int32)) := D403 (Or.inr (hw _ (List.mem_of_getElem? (i := 38) rfl))) (ty := .byte) (by decide)
      have f414 : Fld Z h403 b403 "java/lang/String" "value" "[B" .null := D403 (Or.inr (hw _ (List.mem_of_getElem? (i := 40) rfl))) (ty := (.array .byte)) (by decide)
      refine own_go (S' := T403.setTop (mkF m 99 #[.val (.int p0), .val (.int p1), .val (.int p2), .val (.int p3), .val (.ref rr), .val (.int wh), .val (.int mo), .val (.int xx), .val (.int yy), .val (.ref bb), .unset, .unset, .val (.int po), .val (.int og)] [(.ref b403)])) st403 ?_
      refine own_go (S' := T403.setTop (mkF m 102 #[.val (.int p0), .val (.int p1), .val (.int p2), .val (.int p3), .val (.ref rr), .val (.int wh), .val (.int mo), .val (.int xx), .val (.int yy), .val (.ref bb), .unset, .unset, .val (.int po), .val (.int og)] [(.ref bb), (.ref b403), (.ref b403)])) (fun target kt => ?_) ?_
      · skip
        show Steps p.tables e below (T403.setTop (mkF m 99 #[.val (.int p0), .val (.int p1), .val (.int p2), .val (.int p3), .val (.ref rr), .val (.int wh), .val (.int mo), .val (.int xx), .val (.int yy), .val (.ref bb), .unset, .unset, .val (.int po), .val (.int og)] [(.ref b403)])) _
        refine XS.dup X403.here hx rfl (hb hby at_99) rfl rfl ?_
        show Steps p.tables e below (T403.setTop (mkF m 100 #[.val (.int p0), .val (.int p1), .val (.int p2), .val (.int p3), .val (.ref rr), .val (.int wh), .val (.int mo), .val (.int xx), .val (.int yy), .val (.ref bb), .unset, .unset, .val (.int po), .val (.int og)] [(.ref b403), (.ref b403)])) _
        refine XS.aload X403.here hx rfl (hb hby at_100) rfl rfl ?_
        exact kt
      obtain ⟨_, _, ⟨T415, L415, k415, n415⟩, -, X415, ⟨Lc415, hQ415, l415, y415, z415⟩, st415⟩ := X403.specialBack hx (y := (⟨"java/lang/String", "<init>", "([C)V"⟩ : MethodName)) rfl hown (mvT hZ (hw _ (List.mem_of_getElem? (i := 15) rfl))) (mvT hZ (hw _ (List.mem_of_getElem? (i := 16) rfl))) (mvT hZ (hw _ (List.mem_of_getElem? (i := 17) rfl))) (by decide) (own_newBack (W := 1) (n0 := n0) hZ hw Z403 A403 f414 f413 f412 f408 g_b403 (zne : ¬ zz = 0) (own_isB.len hB : 0 < nb ∧ nb ≤ 19) (own_upd_ok (own_isB.ok hB) (own_cok h_xx) : ∀ i, i < nb → ¬ (own_upd gb (po).toNatClampNeg (nar .char xx)) i < 0 ∧ ¬ (255 : Int32) < (own_upd gb (po).toNatClampNeg (nar .char xx)) i) (by decide) (by decide)) (g := (mkF m 102 #[.val (.int p0), .val (.int p1), .val (.int p2), .val (.int p3), .val (.ref rr), .val (.int wh), .val (.int mo), .val (.int xx), .val (.int yy), .val (.ref bb), .unset, .unset, .val (.int po), .val (.int og)] [(.ref bb), (.ref b403), (.ref b403)])) rfl (by rw [hml]; rfl) (Steps.refl _) (a := b403) (argsL := [(.ref bb)]) (rest := [(.ref b403)]) (lenOf own_pd7 rfl) rfl (by show 2 * 0 + _ ≤ _; exact Nat.le_of_eq rfl) (hb hby at_102) (fun _ _ => ⟨rfl, e403, (by decide : 2 + 1 ≤ _), (by decide : 22 + 19 ≤ _)⟩)
      dsimp only [Pt.U, Pt.locs, Pt.cells, Pt.slots] at X415 l415 y415 z415 st415 hQ415
      obtain rfl : k415 = 3 := y415
      obtain rfl : n415 = 41 := z415
      obtain ⟨rfl, N415q, K415q, f415_0, f415_1⟩ := hQ415
      have N415 : Fr n0 L415 := by rw [l415]; exact Fr.app N393 N415q
      clear l415
      have f416 : Sta Z T415.heap "com/example/access_bindings/accessbindings/server/RestResource" "CLOUDS" "Lcom/example/access_bindings/accessbindings/server/RestResource;" (.ref cl) := own_Sta_keep f404 K415q (allS (own_nst A403) all0)
      have f417 : Sta Z T415.heap "com/example/access_bindings/accessbindings/server/RestResource" "COMMUNITIES" "Lcom/example/access_bindings/accessbindings/server/RestResource;" (.ref co) := own_Sta_keep f405 K415q (allS (own_nst A403) all0)
      have f418 : Sta Z T415.heap "com/example/access_bindings/accessbindings/server/RestResource" "CLUSTERS" "Lcom/example/access_bindings/accessbindings/server/RestResource;" (.ref cu) := own_Sta_keep f406 K415q (allS (own_nst A403) all0)
      have f419 : Sta Z T415.heap "com/example/access_bindings/accessbindings/server/RestResource" "APPLICATIONS" "Lcom/example/access_bindings/accessbindings/server/RestResource;" (.ref ap) := own_Sta_keep f407 K415q (allS (own_nst A403) all0)
      have f420 : Sta Z T415.heap "java/lang/String" "COMPACT_STRINGS" "Z" (.int zz) := own_Sta_keep f408 K415q (allS (own_nst A403) all0)
      have f421 : Exa Z T415.heap rr "com/example/access_bindings/accessbindings/server/RestResource" := f409.keep K415q
      have f422 : Fld Z T415.heap rr "com/example/access_bindings/accessbindings/server/RestResource" "listMethod" "Ljava/lang/String;" (.ref lm) := f410.keep K415q (ninS ne_rr_b403 nin0)
      have f423 : Exa Z T415.heap bb "[C" := f411.keep K415q
      have f424 : own_AI Z T415.heap bb .char nb (own_upd gb (po).toNatClampNeg (nar .char xx)) := f412.keep K415q (ninS ne_bb_b403 nin0)
      have f425 : Exa Z T415.heap b403 "java/lang/String" := A403.keep K415q
      have Z415 : n0 ≤ T415.heap.size := Nat.le_trans Z403 K415q.1
      have ST415 := ST403.le K415q.1
      have K415 : Keep h0 T415.heap [] := K403.trans K415q (allS (Or.inr sz_b403) all0)
      refine own_go (S' := T415.setTop (mkF m 105 #[.val (.int p0), .val (.int p1), .val (.int p2), .val (.int p3), .val (.ref rr), .val (.int wh), .val (.int mo), .val (.int xx), .val (.int yy), .val (.ref bb), .unset, .unset, .val (.int po), .val (.int og)] [(.ref b403)])) (fun _ k => st415.trans k) ?_
      refine own_go (S' := T415.setTop (mkF m 111 #[.val (.int p0), .val (.int p1), .val (.int p2), .val (.int p3), .val (.ref rr), .val (.int wh), .val (.int mo), .val (.int xx), .val (.int yy), .val (.ref bb), .unset, .val (.ref b403), .val (.int po), .val (.int og)] [(.int xx), (.int og)])) (fun target kt => ?_) ?_
      · skip
        show Steps p.tables e below (T415.setTop (mkF m 105 #[.val (.int p0), .val (.int p1), .val (.int p2), .val (.int p3), .val (.ref rr), .val (.int wh), .val (.int mo), .val (.int xx), .val (.int yy), .val (.ref bb), .unset, .unset, .val (.int po), .val (.int og)] [(.ref b403)])) _
        refine XS.astore X415.here hx rfl (hb hby at_105) rfl rfl (l' := #[.val (.int p0), .val (.int p1), .val (.int p2), .val (.int p3), .val (.ref rr), .val (.int wh), .val (.int mo), .val (.int xx), .val (.int yy), .val (.ref bb), .unset, .val (.ref b403), .val (.int po), .val (.int og)]) rfl ?_
        show Steps p.tables e below (T415.setTop (mkF m 107 #[.val (.int p0), .val (.int p1), .val (.int p2), .val (.int p3), .val (.ref rr), .val (.int wh), .val (.int mo), .val (.int xx), .val (.int yy), .val (.ref bb), .unset, .val (.ref b403), .val (.int po), .val (.int og)] [])) _
        refine XS.iload X415.here hx rfl (hb hby at_107) rfl ?_
        show Steps p.tables e below (T415.setTop (mkF m 109 #[.val (.int p0), .val (.int p1), .val (.int p2), .val (.int p3), .val (.ref rr), .val (.int wh), .val (.int mo), .val (.int xx), .val (.int yy), .val (.ref bb), .unset, .val (.ref b403), .val (.int po), .val (.int og)] [(.int og)])) _
        refine XS.iload X415.here hx rfl (hb hby at_109) rfl ?_
        exact kt
      by_cases hc111 : og = xx
      · skip
        refine own_go (S' := T415.setTop (mkF m 114 #[.val (.int p0), .val (.int p1), .val (.int p2), .val (.int p3), .val (.ref rr), .val (.int wh), .val (.int mo), .val (.int xx), .val (.int yy), .val (.ref bb), .unset, .val (.ref b403), .val (.int po), .val (.int og)] [])) (fun target kt => ?_) ?_
        · skip
          show Steps p.tables e below (T415.setTop (mkF m 111 #[.val (.int p0), .val (.int p1), .val (.int p2), .val (.int p3), .val (.ref rr), .val (.int wh), .val (.int mo), .val (.int xx), .val (.int yy), .val (.ref bb), .unset, .val (.ref b403), .val (.int po), .val (.int og)] [(.int xx), (.int og)])) _
          refine XS.icmpNo X415.here hx rfl (hb hby at_111) rfl (teq hc111).2 ?_
          exact kt
        have hyx : nar .char xx = gb po.toNatClampNeg := by rw [(own_c8 h_xx).1, ← h_og]; exact hc111.symm
        refine own_go (S' := T415.setTop (mkF m 238 #[.val (.int p0), .val (.int p1), .val (.int p2), .val (.int p3), .val (.ref rr), .val (.int wh), .val (.int mo), .val (.int xx), .val (.int yy), .val (.ref bb), .val (.int (1 : Int32)), .val (.ref b403), .val (.int po), .val (.int og)] [(.int wh)])) (fun target kt => ?_) ?_
        · skip
          show Steps p.tables e below (T415.setTop (mkF m 114 #[.val (.int p0), .val (.int p1), .val (.int p2), .val (.int p3), .val (.ref rr), .val (.int wh), .val (.int mo), .val (.int xx), .val (.int yy), .val (.ref bb), .unset, .val (.ref b403), .val (.int po), .val (.int og)] [])) _
          refine XS.iconst X415.here hx rfl (hb hby at_114) ?_
          show Steps p.tables e below (T415.setTop (mkF m 115 #[.val (.int p0), .val (.int p1), .val (.int p2), .val (.int p3), .val (.ref rr), .val (.int wh), .val (.int mo), .val (.int xx), .val (.int yy), .val (.ref bb), .unset, .val (.ref b403), .val (.int po), .val (.int og)] [(.int (1 : Int32))])) _
          refine XS.goto X415.here hx rfl (pc0 := 115) (pc' := 119) rfl (hb hby at_115) (by decide) (by decide) ?_
          show Steps p.tables e below (T415.setTop (mkF m 119 #[.val (.int p0), .val (.int p1), .val (.int p2), .val (.int p3), .val (.ref rr), .val (.int wh), .val (.int mo), .val (.int xx), .val (.int yy), .val (.ref bb), .unset, .val (.ref b403), .val (.int po), .val (.int og)] [(.int (1 : Int32))])) _
          refine XS.istore X415.here hx rfl (hb hby at_119) rfl (l' := #[.val (.int p0), .val (.int p1), .val (.int p2), .val (.int p3), .val (.ref rr), .val (.int wh), .val (.int mo), .val (.int xx), .val (.int yy), .val (.ref bb), .val (.int (1 : Int32)), .val (.ref b403), .val (.int po), .val (.int og)]) rfl ?_
          show Steps p.tables e below (T415.setTop (mkF m 121 #[.val (.int p0), .val (.int p1), .val (.int p2), .val (.int p3), .val (.ref rr), .val (.int wh), .val (.int mo), .val (.int xx), .val (.int yy), .val (.ref bb), .val (.int (1 : Int32)), .val (.ref b403), .val (.int po), .val (.int og)] [])) _
          refine XS.goto X415.here hx rfl (pc0 := 121) (pc' := 231) rfl (hb hby at_121) (by decide) (by decide) ?_
          show Steps p.tables e below (T415.setTop (mkF m 231 #[.val (.int p0), .val (.int p1), .val (.int p2), .val (.int p3), .val (.ref rr), .val (.int wh), .val (.int mo), .val (.int xx), .val (.int yy), .val (.ref bb), .val (.int (1 : Int32)), .val (.ref b403), .val (.int po), .val (.int og)] [])) _
          refine XS.iload X415.here hx rfl (hb hby at_231) rfl ?_
          show Steps p.tables e below (T415.setTop (mkF m 233 #[.val (.int p0), .val (.int p1), .val (.int p2), .val (.int p3), .val (.ref rr), .val (.int wh), .val (.int mo), .val (.int xx), .val (.int yy), .val (.ref bb), .val (.int (1 : Int32)), .val (.ref b403), .val (.int po), .val (.int og)] [(.int (1 : Int32))])) _
          refine XS.ifNo X415.here hx rfl (hb hby at_233) rfl ((if0 _ _).trans (feq (by decide : ¬ ((1 : Int32) = (0 : Int32)))).1) ?_
          show Steps p.tables e below (T415.setTop (mkF m 236 #[.val (.int p0), .val (.int p1), .val (.int p2), .val (.int p3), .val (.ref rr), .val (.int wh), .val (.int mo), .val (.int xx), .val (.int yy), .val (.ref bb), .val (.int (1 : Int32)), .val (.ref b403), .val (.int po), .val (.int og)] [])) _
          refine XS.iload X415.here hx rfl (hb hby at_236) rfl ?_
          exact kt
        by_cases hc238 : wh = (0 : Int32)
        · skip
          refine own_go (S' := T415.setTop (mkF m 256 #[.val (.int p0), .val (.int p1), .val (.int p2), .val (.int p3), .val (.ref rr), .val (.int wh), .val (.int mo), .val (.int xx), .val (.int yy), .val (.ref bb), .val (.int (1 : Int32)), .val (.ref b403), .val (.int (1 : Int32)), .val (.int og)] [])) (fun target kt => ?_) ?_
          · skip
            show Steps p.tables e below (T415.setTop (mkF m 238 #[.val (.int p0), .val (.int p1), .val (.int p2), .val (.int p3), .val (.ref rr), .val (.int wh), .val (.int mo), .val (.int xx), .val (.int yy), .val (.ref bb), .val (.int (1 : Int32)), .val (.ref b403), .val (.int po), .val (.int og)] [(.int wh)])) _
            refine XS.ifYes X415.here hx rfl (pc0 := 238) (pc' := 249) rfl (hb hby at_238) rfl ((if0 _ _).trans (teq hc238).1) (by decide) (by decide) ?_
            show Steps p.tables e below (T415.setTop (mkF m 249 #[.val (.int p0), .val (.int p1), .val (.int p2), .val (.int p3), .val (.ref rr), .val (.int wh), .val (.int mo), .val (.int xx), .val (.int yy), .val (.ref bb), .val (.int (1 : Int32)), .val (.ref b403), .val (.int po), .val (.int og)] [])) _
            refine XS.iconst X415.here hx rfl (hb hby at_249) ?_
            show Steps p.tables e below (T415.setTop (mkF m 250 #[.val (.int p0), .val (.int p1), .val (.int p2), .val (.int p3), .val (.ref rr), .val (.int wh), .val (.int mo), .val (.int xx), .val (.int yy), .val (.ref bb), .val (.int (1 : Int32)), .val (.ref b403), .val (.int po), .val (.int og)] [(.int (1 : Int32))])) _
            refine XS.goto X415.here hx rfl (pc0 := 250) (pc' := 254) rfl (hb hby at_250) (by decide) (by decide) ?_
            show Steps p.tables e below (T415.setTop (mkF m 254 #[.val (.int p0), .val (.int p1), .val (.int p2), .val (.int p3), .val (.ref rr), .val (.int wh), .val (.int mo), .val (.int xx), .val (.int yy), .val (.ref bb), .val (.int (1 : Int32)), .val (.ref b403), .val (.int po), .val (.int og)] [(.int (1 : Int32))])) _
            refine XS.istore X415.here hx rfl (hb hby at_254) rfl (l' := #[.val (.int p0), .val (.int p1), .val (.int p2), .val (.int p3), .val (.ref rr), .val (.int wh), .val (.int mo), .val (.int xx), .val (.int yy), .val (.ref bb), .val (.int (1 : Int32)), .val (.ref b403), .val (.int (1 : Int32)), .val (.int og)]) rfl ?_
            exact kt
          have fLM : own_Str Z T415.heap lm ds := own_Str.keep fRT K415
          refine own_go (S' := T415.setTop (mkF m 260 #[.val (.int p0), .val (.int p1), .val (.int p2), .val (.int p3), .val (.ref rr), .val (.int wh), .val (.int mo), .val (.int xx), .val (.int yy), .val (.ref bb), .val (.int (1 : Int32)), .val (.ref b403), .val (.int (1 : Int32)), .val (.int og)] [(.ref b403), (.ref rr)])) (fun target kt => ?_) ?_
          · skip
            show Steps p.tables e below (T415.setTop (mkF m 256 #[.val (.int p0), .val (.int p1), .val (.int p2), .val (.int p3), .val (.ref rr), .val (.int wh), .val (.int mo), .val (.int xx), .val (.int yy), .val (.ref bb), .val (.int (1 : Int32)), .val (.ref b403), .val (.int (1 : Int32)), .val (.int og)] [])) _
            refine XS.aload X415.here hx rfl (hb hby at_256) rfl rfl ?_
            show Steps p.tables e below (T415.setTop (mkF m 258 #[.val (.int p0), .val (.int p1), .val (.int p2), .val (.int p3), .val (.ref rr), .val (.int wh), .val (.int mo), .val (.int xx), .val (.int yy), .val (.ref bb), .val (.int (1 : Int32)), .val (.ref b403), .val (.int (1 : Int32)), .val (.int og)] [(.ref rr)])) _
            refine XS.aload X415.here hx rfl (hb hby at_258) rfl rfl ?_
            exact kt
          obtain ⟨cq428, kq428, q428a, q428b, q428c⟩ := isOf hZ rfl f421
          obtain ⟨_, _, ⟨T428, L428, k428, n428⟩, -, X428, hS428, hG428, ⟨Lc428, hQ428, l428, y428, z428⟩, st428⟩ := X415.virtualBackS hx (y := (⟨"com/example/access_bindings/accessbindings/server/RestResource", "listsBindingsAt", "(Ljava/lang/String;)Z"⟩ : MethodName)) (z := (⟨"com/example/access_bindings/accessbindings/server/RestResource", "listsBindingsAt", "(Ljava/lang/String;)Z"⟩ : MethodName)) hown (mvT hZ (hw _ (List.mem_of_getElem? (i := 41) rfl))) (mvT hZ (hw _ (List.mem_of_getElem? (i := 42) rfl))) (notFace_of_selects (args := #[]) (mvT hZ (hw _ (List.mem_of_getElem? (i := 44) rfl)))) (mvT hZ (hw _ (List.mem_of_getElem? (i := 44) rfl))) (mvT hZ (hw _ (List.mem_of_getElem? (i := 43) rfl))) (by decide) (own_backOfI (Ts' := ("listAccessBindings" :: ("" :: []))) (W := 0) (rm9 l Z aZ hw [] rr b403 lm ((List.range nb).map (own_upd gb (po).toNatClampNeg (nar .char xx))) ds zz T415.heap n0 Z415 f421 f422 f415_0 f415_1 fLM f420 ((fun bq cq qq => K415.2.1 bq cq (hold bq cq qq) nin0) : ∀ (bq : Addr) (cq : Cell), Z.heap[bq]? = some cq → T415.heap[bq]? = some cq) (held31 : Jvm.Lit.constHeld Z "com/example/access_bindings/accessbindings/server/RestResource" 31 ∧ Jvm.Lit.compactW.before aZ Z = true) (zne : ¬ zz = 0)) hZ (hw _ (List.mem_of_getElem? (i := 45) rfl)) (hw _ (List.mem_of_getElem? (i := 5) rfl)) (by decide) (by decide) (own_IB.more hI0 (by simp))) q428a q428c (g := (mkF m 260 #[.val (.int p0), .val (.int p1), .val (.int p2), .val (.int p3), .val (.ref rr), .val (.int wh), .val (.int mo), .val (.int xx), .val (.int yy), .val (.ref bb), .val (.int (1 : Int32)), .val (.ref b403), .val (.int (1 : Int32)), .val (.int og)] [(.ref b403), (.ref rr)])) rfl (by rw [hml]; rfl) (Steps.refl _) (argsL := [(.ref b403)]) (rest := []) (lenOf own_pd9 rfl) rfl (by show 2 * 0 + _ ≤ _; exact Nat.le_of_eq rfl) (hb hby at_260) (fun _ _ => ⟨rfl, rfl, (by decide : 3 + 2 ≤ _), (by decide : 41 + 76 ≤ _)⟩)
          dsimp only [Pt.U, Pt.locs, Pt.cells, Pt.slots] at X428 l428 y428 z428 st428 hQ428 hS428 hG428
          obtain rfl : k428 = 5 := y428
          obtain rfl : n428 = 117 := z428
          obtain ⟨hQ428, hI428⟩ := hQ428
          obtain ⟨s428, X428, ST428, hZ, hown, I428⟩ := own_backI X428 ST415 hS428 hG428 rfl hZ hown hI428
          obtain ⟨rfl, N428q, K428q⟩ := hQ428
          have N428 : Fr n0 L428 := by rw [l428]; exact Fr.app N415 N428q
          clear l428
          have f429 : Sta Z T428.heap "com/example/access_bindings/accessbindings/server/RestResource" "CLOUDS" "Lcom/example/access_bindings/accessbindings/server/RestResource;" (.ref cl) := own_Sta_keep f416 K428q all0
          have f430 : Sta Z T428.heap "com/example/access_bindings/accessbindings/server/RestResource" "COMMUNITIES" "Lcom/example/access_bindings/accessbindings/server/RestResource;" (.ref co) := own_Sta_keep f417 K428q all0
          have f431 : Sta Z T428.heap "com/example/access_bindings/accessbindings/server/RestResource" "CLUSTERS" "Lcom/example/access_bindings/accessbindings/server/RestResource;" (.ref cu) := own_Sta_keep f418 K428q all0
          have f432 : Sta Z T428.heap "com/example/access_bindings/accessbindings/server/RestResource" "APPLICATIONS" "Lcom/example/access_bindings/accessbindings/server/RestResource;" (.ref ap) := own_Sta_keep f419 K428q all0
          have f433 : Sta Z T428.heap "java/lang/String" "COMPACT_STRINGS" "Z" (.int zz) := own_Sta_keep f420 K428q all0
          have f434 : Exa Z T428.heap rr "com/example/access_bindings/accessbindings/server/RestResource" := f421.keep K428q
          have f435 : Fld Z T428.heap rr "com/example/access_bindings/accessbindings/server/RestResource" "listMethod" "Ljava/lang/String;" (.ref lm) := f422.keep K428q nin0
          have f436 : Exa Z T428.heap bb "[C" := f423.keep K428q
          have f437 : own_AI Z T428.heap bb .char nb (own_upd gb (po).toNatClampNeg (nar .char xx)) := f424.keep K428q nin0
          have f438 : Exa Z T428.heap b403 "java/lang/String" := f415_0.keep K428q
          have f439 : own_Str Z T428.heap b403 ((List.range nb).map (own_upd gb (po).toNatClampNeg (nar .char xx))) := f415_1.keep K428q
          have f440 : own_Str Z T428.heap lm ds := fLM.keep K428q
          have Z428 : n0 ≤ T428.heap.size := Nat.le_trans Z415 K428q.1
          have K428 : Keep h0 T428.heap [] := K415.trans K428q all0
          refine own_go (S' := T428.setTop (mkF m 263 #[.val (.int p0), .val (.int p1), .val (.int p2), .val (.int p3), .val (.ref rr), .val (.int wh), .val (.int mo), .val (.int xx), .val (.int yy), .val (.ref bb), .val (.int (1 : Int32)), .val (.ref b403), .val (.int (1 : Int32)), .val (.int og)] [(.int (own_lb ((List.range nb).map (own_upd gb (po).toNatClampNeg (nar .char xx))) ds))])) (fun _ k => st428.trans k) ?_
          refine own_go (S' := T428.setTop (mkF m 273 #[.val (.int p0), .val (.int p1), .val (.int p2), .val (.int p3), .val (.ref rr), .val (.int wh), .val (.int mo), .val (.int xx), .val (.int yy), .val (.ref bb), .val (.int (1 : Int32)), .val (.ref b403), .val (.int (1 : Int32)), .val (.int og)] [(.int (1 : Int32))])) (fun target kt => ?_) ?_
          · skip
            show Steps p.tables e below (T428.setTop (mkF m 263 #[.val (.int p0), .val (.int p1), .val (.int p2), .val (.int p3), .val (.ref rr), .val (.int wh), .val (.int mo), .val (.int xx), .val (.int yy), .val (.ref bb), .val (.int (1 : Int32)), .val (.ref b403), .val (.int (1 : Int32)), .val (.int og)] [(.int (own_lb ((List.range nb).map (own_upd gb (po).toNatClampNeg (nar .char xx))) ds))])) _
            refine XS.iload X428.here hx rfl (hb hby at_263) rfl ?_
            show Steps p.tables e below (T428.setTop (mkF m 265 #[.val (.int p0), .val (.int p1), .val (.int p2), .val (.int p3), .val (.ref rr), .val (.int wh), .val (.int mo), .val (.int xx), .val (.int yy), .val (.ref bb), .val (.int (1 : Int32)), .val (.ref b403), .val (.int (1 : Int32)), .val (.int og)] [(.int (1 : Int32)), (.int (own_lb ((List.range nb).map (own_upd gb (po).toNatClampNeg (nar .char xx))) ds))])) _
            refine XS.icmpNo X428.here hx rfl (hb hby at_265) rfl (teq (own_t1 (own_isB.l0 (own_isB.upd hB hyx) hc238) : (own_lb ((List.range nb).map (own_upd gb (po).toNatClampNeg (nar .char xx))) ds) = (1 : Int32))).2 ?_
            show Steps p.tables e below (T428.setTop (mkF m 268 #[.val (.int p0), .val (.int p1), .val (.int p2), .val (.int p3), .val (.ref rr), .val (.int wh), .val (.int mo), .val (.int xx), .val (.int yy), .val (.ref bb), .val (.int (1 : Int32)), .val (.ref b403), .val (.int (1 : Int32)), .val (.int og)] [])) _
            refine XS.iconst X428.here hx rfl (hb hby at_268) ?_
            show Steps p.tables e below (T428.setTop (mkF m 269 #[.val (.int p0), .val (.int p1), .val (.int p2), .val (.int p3), .val (.ref rr), .val (.int wh), .val (.int mo), .val (.int xx), .val (.int yy), .val (.ref bb), .val (.int (1 : Int32)), .val (.ref b403), .val (.int (1 : Int32)), .val (.int og)] [(.int (1 : Int32))])) _
            refine XS.goto X428.here hx rfl (pc0 := 269) (pc' := 273) rfl (hb hby at_269) (by decide) (by decide) ?_
            exact kt
          obtain ⟨fs, hr, hrun, hended, hW, hBk, hsame⟩ := own_leave X428 rfl ST428 (v := some (.int (1 : Int32))) (fun h => by rw [Bd.returns] at h; cases h)
          refine ⟨_, _, ?_, hrun, hended, _, _, rfl, ?_, ⟨_, rfl⟩, hW, hBk, hsame.mono (by decide) (by decide)⟩
          · exact retN X428 hx (t := .boolean) Bd.returns (by simp) (hb hby at_273) hr
          · show Q0 Z p0 p1 p2 p3 cl co cu ap zz h0 n0 _ T428.heap _
            exact ⟨rfl, N428⟩
        · skip
          refine own_go (S' := T415.setTop (mkF m 243 #[.val (.int p0), .val (.int p1), .val (.int p2), .val (.int p3), .val (.ref rr), .val (.int wh), .val (.int mo), .val (.int xx), .val (.int yy), .val (.ref bb), .val (.int (1 : Int32)), .val (.ref b403), .val (.int po), .val (.int og)] [(.ref rr)])) (fun target kt => ?_) ?_
          · skip
            show Steps p.tables e below (T415.setTop (mkF m 238 #[.val (.int p0), .val (.int p1), .val (.int p2), .val (.int p3), .val (.ref rr), .val (.int wh), .val (.int mo), .val (.int xx), .val (.int yy), .val (.ref bb), .val (.int (1 : Int32)), .val (.ref b403), .val (.int po), .val (.int og)] [(.int wh)])) _
            refine XS.ifNo X415.here hx rfl (hb hby at_238) rfl ((if0 _ _).trans (feq hc238).1) ?_
            show Steps p.tables e below (T415.setTop (mkF m 241 #[.val (.int p0), .val (.int p1), .val (.int p2), .val (.int p3), .val (.ref rr), .val (.int wh), .val (.int mo), .val (.int xx), .val (.int yy), .val (.ref bb), .val (.int (1 : Int32)), .val (.ref b403), .val (.int po), .val (.int og)] [])) _
            refine XS.aload X415.here hx rfl (hb hby at_241) rfl rfl ?_
            exact kt
          obtain ⟨T441, X441, e441, st441⟩ := getS2 X415 hx hZ hown (host := "") (Or.inl (hw _ (List.mem_of_getElem? (i := 68) rfl))) Via.refl rfl f417 (g := (mkF m 243 #[.val (.int p0), .val (.int p1), .val (.int p2), .val (.int p3), .val (.ref rr), .val (.int wh), .val (.int mo), .val (.int xx), .val (.int yy), .val (.ref bb), .val (.int (1 : Int32)), .val (.ref b403), .val (.int po), .val (.int og)] [(.ref rr)])) rfl (hb hby at_243)
          refine own_go (S' := T441.setTop (mkF m 246 #[.val (.int p0), .val (.int p1), .val (.int p2), .val (.int p3), .val (.ref rr), .val (.int wh), .val (.int mo), .val (.int xx), .val (.int yy), .val (.ref bb), .val (.int (1 : Int32)), .val (.ref b403), .val (.int po), .val (.int og)] [(.ref co), (.ref rr)])) st441 ?_
          by_cases hc246 : rr = co
          · skip
            refine own_go (S' := T441.setTop (mkF m 256 #[.val (.int p0), .val (.int p1), .val (.int p2), .val (.int p3), .val (.ref rr), .val (.int wh), .val (.int mo), .val (.int xx), .val (.int yy), .val (.ref bb), .val (.int (1 : Int32)), .val (.ref b403), .val (.int (1 : Int32)), .val (.int og)] [])) (fun target kt => ?_) ?_
            · skip
              show Steps p.tables e below (T441.setTop (mkF m 246 #[.val (.int p0), .val (.int p1), .val (.int p2), .val (.int p3), .val (.ref rr), .val (.int wh), .val (.int mo), .val (.int xx), .val (.int yy), .val (.ref bb), .val (.int (1 : Int32)), .val (.ref b403), .val (.int po), .val (.int og)] [(.ref co), (.ref rr)])) _
              refine Jvm.RoadKit.acmp (g := (mkF m 246 #[.val (.int p0), .val (.int p1), .val (.int p2), .val (.int p3), .val (.ref rr), .val (.int wh), .val (.int mo), .val (.int xx), .val (.int yy), .val (.ref bb), .val (.int (1 : Int32)), .val (.ref b403), .val (.int po), .val (.int og)] [(.ref co), (.ref rr)])) X441 hx rfl rfl rfl (pc0 := 246) (pc' := 249) (same := true) rfl (hb hby at_246) rfl (decide_eq_true (congrArg Value.ref hc246)) (by decide) (by decide) ?_
              show Steps p.tables e below (T441.setTop (mkF m 249 #[.val (.int p0), .val (.int p1), .val (.int p2), .val (.int p3), .val (.ref rr), .val (.int wh), .val (.int mo), .val (.int xx), .val (.int yy), .val (.ref bb), .val (.int (1 : Int32)), .val (.ref b403), .val (.int po), .val (.int og)] [])) _
              refine XS.iconst X441.here hx rfl (hb hby at_249) ?_
              show Steps p.tables e below (T441.setTop (mkF m 250 #[.val (.int p0), .val (.int p1), .val (.int p2), .val (.int p3), .val (.ref rr), .val (.int wh), .val (.int mo), .val (.int xx), .val (.int yy), .val (.ref bb), .val (.int (1 : Int32)), .val (.ref b403), .val (.int po), .val (.int og)] [(.int (1 : Int32))])) _
              refine XS.goto X441.here hx rfl (pc0 := 250) (pc' := 254) rfl (hb hby at_250) (by decide) (by decide) ?_
              show Steps p.tables e below (T441.setTop (mkF m 254 #[.val (.int p0), .val (.int p1), .val (.int p2), .val (.int p3), .val (.ref rr), .val (.int wh), .val (.int mo), .val (.int xx), .val (.int yy), .val (.ref bb), .val (.int (1 : Int32)), .val (.ref b403), .val (.int po), .val (.int og)] [(.int (1 : Int32))])) _
              refine XS.istore X441.here hx rfl (hb hby at_254) rfl (l' := #[.val (.int p0), .val (.int p1), .val (.int p2), .val (.int p3), .val (.ref rr), .val (.int wh), .val (.int mo), .val (.int xx), .val (.int yy), .val (.ref bb), .val (.int (1 : Int32)), .val (.ref b403), .val (.int (1 : Int32)), .val (.int og)]) rfl ?_
              exact kt
            have fLM : own_Str Z T415.heap lm ds := own_Str.keep fRT K415
            refine own_go (S' := T441.setTop (mkF m 260 #[.val (.int p0), .val (.int p1), .val (.int p2), .val (.int p3), .val (.ref rr), .val (.int wh), .val (.int mo), .val (.int xx), .val (.int yy), .val (.ref bb), .val (.int (1 : Int32)), .val (.ref b403), .val (.int (1 : Int32)), .val (.int og)] [(.ref b403), (.ref rr)])) (fun target kt => ?_) ?_
            · skip
              show Steps p.tables e below (T441.setTop (mkF m 256 #[.val (.int p0), .val (.int p1), .val (.int p2), .val (.int p3), .val (.ref rr), .val (.int wh), .val (.int mo), .val (.int xx), .val (.int yy), .val (.ref bb), .val (.int (1 : Int32)), .val (.ref b403), .val (.int (1 : Int32)), .val (.int og)] [])) _
              refine XS.aload X441.here hx rfl (hb hby at_256) rfl rfl ?_
              show Steps p.tables e below (T441.setTop (mkF m 258 #[.val (.int p0), .val (.int p1), .val (.int p2), .val (.int p3), .val (.ref rr), .val (.int wh), .val (.int mo), .val (.int xx), .val (.int yy), .val (.ref bb), .val (.int (1 : Int32)), .val (.ref b403), .val (.int (1 : Int32)), .val (.int og)] [(.ref rr)])) _
              refine XS.aload X441.here hx rfl (hb hby at_258) rfl rfl ?_
              exact kt
            obtain ⟨cq442, kq442, q442a, q442b, q442c⟩ := isOf hZ e441 f421
            obtain ⟨_, _, ⟨T442, L442, k442, n442⟩, -, X442, hS442, hG442, ⟨Lc442, hQ442, l442, y442, z442⟩, st442⟩ := X441.virtualBackS hx (y := (⟨"com/example/access_bindings/accessbindings/server/RestResource", "listsBindingsAt", "(Ljava/lang/String;)Z"⟩ : MethodName)) (z := (⟨"com/example/access_bindings/accessbindings/server/RestResource", "listsBindingsAt", "(Ljava/lang/String;)Z"⟩ : MethodName)) hown (mvT hZ (hw _ (List.mem_of_getElem? (i := 41) rfl))) (mvT hZ (hw _ (List.mem_of_getElem? (i := 42) rfl))) (notFace_of_selects (args := #[]) (mvT hZ (hw _ (List.mem_of_getElem? (i := 44) rfl)))) (mvT hZ (hw _ (List.mem_of_getElem? (i := 44) rfl))) (mvT hZ (hw _ (List.mem_of_getElem? (i := 43) rfl))) (by decide) (own_backOfI (Ts' := ("listAccessBindings" :: ("" :: []))) (W := 0) (rm9 l Z aZ hw [] rr b403 lm ((List.range nb).map (own_upd gb (po).toNatClampNeg (nar .char xx))) ds zz T415.heap n0 Z415 f421 f422 f415_0 f415_1 fLM f420 ((fun bq cq qq => K415.2.1 bq cq (hold bq cq qq) nin0) : ∀ (bq : Addr) (cq : Cell), Z.heap[bq]? = some cq → T415.heap[bq]? = some cq) (held31 : Jvm.Lit.constHeld Z "com/example/access_bindings/accessbindings/server/RestResource" 31 ∧ Jvm.Lit.compactW.before aZ Z = true) (zne : ¬ zz = 0)) hZ (hw _ (List.mem_of_getElem? (i := 45) rfl)) (hw _ (List.mem_of_getElem? (i := 5) rfl)) (by decide) (by decide) (own_IB.more hI0 (by simp))) q442a q442c (g := (mkF m 260 #[.val (.int p0), .val (.int p1), .val (.int p2), .val (.int p3), .val (.ref rr), .val (.int wh), .val (.int mo), .val (.int xx), .val (.int yy), .val (.ref bb), .val (.int (1 : Int32)), .val (.ref b403), .val (.int (1 : Int32)), .val (.int og)] [(.ref b403), (.ref rr)])) rfl (by rw [hml]; rfl) (Steps.refl _) (argsL := [(.ref b403)]) (rest := []) (lenOf own_pd9 rfl) rfl (by show 2 * 0 + _ ≤ _; exact Nat.le_of_eq rfl) (hb hby at_260) (fun _ _ => ⟨rfl, e441, (by decide : 3 + 2 ≤ _), (by decide : 41 + 76 ≤ _)⟩)
            dsimp only [Pt.U, Pt.locs, Pt.cells, Pt.slots] at X442 l442 y442 z442 st442 hQ442 hS442 hG442
            obtain rfl : k442 = 5 := y442
            obtain rfl : n442 = 117 := z442
            obtain ⟨hQ442, hI442⟩ := hQ442
            obtain ⟨s442, X442, ST442, hZ, hown, I442⟩ := own_backI X442 ST415 hS442 hG442 e441 hZ hown hI442
            obtain ⟨rfl, N442q, K442q⟩ := hQ442
            have N442 : Fr n0 L442 := by rw [l442]; exact Fr.app N415 N442q
            clear l442
            have f443 : Sta Z T442.heap "com/example/access_bindings/accessbindings/server/RestResource" "CLOUDS" "Lcom/example/access_bindings/accessbindings/server/RestResource;" (.ref cl) := own_Sta_keep f416 K442q all0
            have f444 : Sta Z T442.heap "com/example/access_bindings/accessbindings/server/RestResource" "COMMUNITIES" "Lcom/example/access_bindings/accessbindings/server/RestResource;" (.ref co) := own_Sta_keep f417 K442q all0
            have f445 : Sta Z T442.heap "com/example/access_bindings/accessbindings/server/RestResource" "CLUSTERS" "Lcom/example/access_bindings/accessbindings/server/RestResource;" (.ref cu) := own_Sta_keep f418 K442q all0
            have f446 : Sta Z T442.heap "com/example/access_bindings/accessbindings/server/RestResource" "APPLICATIONS" "Lcom/example/access_bindings/accessbindings/server/RestResource;" (.ref ap) := own_Sta_keep f419 K442q all0
            have f447 : Sta Z T442.heap "java/lang/String" "COMPACT_STRINGS" "Z" (.int zz) := own_Sta_keep f420 K442q all0
            have f448 : Exa Z T442.heap rr "com/example/access_bindings/accessbindings/server/RestResource" := f421.keep K442q
            have f449 : Fld Z T442.heap rr "com/example/access_bindings/accessbindings/server/RestResource" "listMethod" "Ljava/lang/String;" (.ref lm) := f422.keep K442q nin0
            have f450 : Exa Z T442.heap bb "[C" := f423.keep K442q
            have f451 : own_AI Z T442.heap bb .char nb (own_upd gb (po).toNatClampNeg (nar .char xx)) := f424.keep K442q nin0
            have f452 : Exa Z T442.heap b403 "java/lang/String" := f415_0.keep K442q
            have f453 : own_Str Z T442.heap b403 ((List.range nb).map (own_upd gb (po).toNatClampNeg (nar .char xx))) := f415_1.keep K442q
            have f454 : own_Str Z T442.heap lm ds := fLM.keep K442q
            have Z442 : n0 ≤ T442.heap.size := Nat.le_trans Z415 K442q.1
            have K442 : Keep h0 T442.heap [] := K415.trans K442q all0
            refine own_go (S' := T442.setTop (mkF m 263 #[.val (.int p0), .val (.int p1), .val (.int p2), .val (.int p3), .val (.ref rr), .val (.int wh), .val (.int mo), .val (.int xx), .val (.int yy), .val (.ref bb), .val (.int (1 : Int32)), .val (.ref b403), .val (.int (1 : Int32)), .val (.int og)] [(.int (own_lb ((List.range nb).map (own_upd gb (po).toNatClampNeg (nar .char xx))) ds))])) (fun _ k => st442.trans k) ?_
            refine own_go (S' := T442.setTop (mkF m 273 #[.val (.int p0), .val (.int p1), .val (.int p2), .val (.int p3), .val (.ref rr), .val (.int wh), .val (.int mo), .val (.int xx), .val (.int yy), .val (.ref bb), .val (.int (1 : Int32)), .val (.ref b403), .val (.int (1 : Int32)), .val (.int og)] [(.int (1 : Int32))])) (fun target kt => ?_) ?_
            · skip
              show Steps p.tables e below (T442.setTop (mkF m 263 #[.val (.int p0), .val (.int p1), .val (.int p2), .val (.int p3), .val (.ref rr), .val (.int wh), .val (.int mo), .val (.int xx), .val (.int yy), .val (.ref bb), .val (.int (1 : Int32)), .val (.ref b403), .val (.int (1 : Int32)), .val (.int og)] [(.int (own_lb ((List.range nb).map (own_upd gb (po).toNatClampNeg (nar .char xx))) ds))])) _
              refine XS.iload X442.here hx rfl (hb hby at_263) rfl ?_
              show Steps p.tables e below (T442.setTop (mkF m 265 #[.val (.int p0), .val (.int p1), .val (.int p2), .val (.int p3), .val (.ref rr), .val (.int wh), .val (.int mo), .val (.int xx), .val (.int yy), .val (.ref bb), .val (.int (1 : Int32)), .val (.ref b403), .val (.int (1 : Int32)), .val (.int og)] [(.int (1 : Int32)), (.int (own_lb ((List.range nb).map (own_upd gb (po).toNatClampNeg (nar .char xx))) ds))])) _
              refine XS.icmpNo X442.here hx rfl (hb hby at_265) rfl (teq (own_t2 (own_isB.l1 (own_isB.upd hB hyx) hc238) hR hc246 : (own_lb ((List.range nb).map (own_upd gb (po).toNatClampNeg (nar .char xx))) ds) = (1 : Int32))).2 ?_
              show Steps p.tables e below (T442.setTop (mkF m 268 #[.val (.int p0), .val (.int p1), .val (.int p2), .val (.int p3), .val (.ref rr), .val (.int wh), .val (.int mo), .val (.int xx), .val (.int yy), .val (.ref bb), .val (.int (1 : Int32)), .val (.ref b403), .val (.int (1 : Int32)), .val (.int og)] [])) _
              refine XS.iconst X442.here hx rfl (hb hby at_268) ?_
              show Steps p.tables e below (T442.setTop (mkF m 269 #[.val (.int p0), .val (.int p1), .val (.int p2), .val (.int p3), .val (.ref rr), .val (.int wh), .val (.int mo), .val (.int xx), .val (.int yy), .val (.ref bb), .val (.int (1 : Int32)), .val (.ref b403), .val (.int (1 : Int32)), .val (.int og)] [(.int (1 : Int32))])) _
              refine XS.goto X442.here hx rfl (pc0 := 269) (pc' := 273) rfl (hb hby at_269) (by decide) (by decide) ?_
              exact kt
            obtain ⟨fs, hr, hrun, hended, hW, hBk, hsame⟩ := own_leave X442 rfl ST442 (v := some (.int (1 : Int32))) (fun h => by rw [Bd.returns] at h; cases h)
            refine ⟨_, _, ?_, hrun, hended, _, _, rfl, ?_, ⟨_, rfl⟩, hW, hBk, hsame.mono (by decide) (by decide)⟩
            · exact retN X442 hx (t := .boolean) Bd.returns (by simp) (hb hby at_273) hr
            · show Q0 Z p0 p1 p2 p3 cl co cu ap zz h0 n0 _ T442.heap _
              exact ⟨rfl, N442⟩
          · skip
            refine own_go (S' := T441.setTop (mkF m 256 #[.val (.int p0), .val (.int p1), .val (.int p2), .val (.int p3), .val (.ref rr), .val (.int wh), .val (.int mo), .val (.int xx), .val (.int yy), .val (.ref bb), .val (.int (1 : Int32)), .val (.ref b403), .val (.int (0 : Int32)), .val (.int og)] [])) (fun target kt => ?_) ?_
            · skip
              show Steps p.tables e below (T441.setTop (mkF m 246 #[.val (.int p0), .val (.int p1), .val (.int p2), .val (.int p3), .val (.ref rr), .val (.int wh), .val (.int mo), .val (.int xx), .val (.int yy), .val (.ref bb), .val (.int (1 : Int32)), .val (.ref b403), .val (.int po), .val (.int og)] [(.ref co), (.ref rr)])) _
              refine Jvm.RoadKit.acmp (g := (mkF m 246 #[.val (.int p0), .val (.int p1), .val (.int p2), .val (.int p3), .val (.ref rr), .val (.int wh), .val (.int mo), .val (.int xx), .val (.int yy), .val (.ref bb), .val (.int (1 : Int32)), .val (.ref b403), .val (.int po), .val (.int og)] [(.ref co), (.ref rr)])) X441 hx rfl rfl rfl (pc0 := 246) (pc' := 253) (same := false) rfl (hb hby at_246) rfl (decide_eq_false fun q => hc246 (Value.ref.inj q)) (by decide) (by decide) ?_
              show Steps p.tables e below (T441.setTop (mkF m 253 #[.val (.int p0), .val (.int p1), .val (.int p2), .val (.int p3), .val (.ref rr), .val (.int wh), .val (.int mo), .val (.int xx), .val (.int yy), .val (.ref bb), .val (.int (1 : Int32)), .val (.ref b403), .val (.int po), .val (.int og)] [])) _
              refine XS.iconst X441.here hx rfl (hb hby at_253) ?_
              show Steps p.tables e below (T441.setTop (mkF m 254 #[.val (.int p0), .val (.int p1), .val (.int p2), .val (.int p3), .val (.ref rr), .val (.int wh), .val (.int mo), .val (.int xx), .val (.int yy), .val (.ref bb), .val (.int (1 : Int32)), .val (.ref b403), .val (.int po), .val (.int og)] [(.int (0 : Int32))])) _
              refine XS.istore X441.here hx rfl (hb hby at_254) rfl (l' := #[.val (.int p0), .val (.int p1), .val (.int p2), .val (.int p3), .val (.ref rr), .val (.int wh), .val (.int mo), .val (.int xx), .val (.int yy), .val (.ref bb), .val (.int (1 : Int32)), .val (.ref b403), .val (.int (0 : Int32)), .val (.int og)]) rfl ?_
              exact kt
            have fLM : own_Str Z T415.heap lm ds := own_Str.keep fRT K415
            refine own_go (S' := T441.setTop (mkF m 260 #[.val (.int p0), .val (.int p1), .val (.int p2), .val (.int p3), .val (.ref rr), .val (.int wh), .val (.int mo), .val (.int xx), .val (.int yy), .val (.ref bb), .val (.int (1 : Int32)), .val (.ref b403), .val (.int (0 : Int32)), .val (.int og)] [(.ref b403), (.ref rr)])) (fun target kt => ?_) ?_
            · skip
              show Steps p.tables e below (T441.setTop (mkF m 256 #[.val (.int p0), .val (.int p1), .val (.int p2), .val (.int p3), .val (.ref rr), .val (.int wh), .val (.int mo), .val (.int xx), .val (.int yy), .val (.ref bb), .val (.int (1 : Int32)), .val (.ref b403), .val (.int (0 : Int32)), .val (.int og)] [])) _
              refine XS.aload X441.here hx rfl (hb hby at_256) rfl rfl ?_
              show Steps p.tables e below (T441.setTop (mkF m 258 #[.val (.int p0), .val (.int p1), .val (.int p2), .val (.int p3), .val (.ref rr), .val (.int wh), .val (.int mo), .val (.int xx), .val (.int yy), .val (.ref bb), .val (.int (1 : Int32)), .val (.ref b403), .val (.int (0 : Int32)), .val (.int og)] [(.ref rr)])) _
              refine XS.aload X441.here hx rfl (hb hby at_258) rfl rfl ?_
              exact kt
            obtain ⟨cq455, kq455, q455a, q455b, q455c⟩ := isOf hZ e441 f421
            obtain ⟨_, _, ⟨T455, L455, k455, n455⟩, -, X455, hS455, hG455, ⟨Lc455, hQ455, l455, y455, z455⟩, st455⟩ := X441.virtualBackS hx (y := (⟨"com/example/access_bindings/accessbindings/server/RestResource", "listsBindingsAt", "(Ljava/lang/String;)Z"⟩ : MethodName)) (z := (⟨"com/example/access_bindings/accessbindings/server/RestResource", "listsBindingsAt", "(Ljava/lang/String;)Z"⟩ : MethodName)) hown (mvT hZ (hw _ (List.mem_of_getElem? (i := 41) rfl))) (mvT hZ (hw _ (List.mem_of_getElem? (i := 42) rfl))) (notFace_of_selects (args := #[]) (mvT hZ (hw _ (List.mem_of_getElem? (i := 44) rfl)))) (mvT hZ (hw _ (List.mem_of_getElem? (i := 44) rfl))) (mvT hZ (hw _ (List.mem_of_getElem? (i := 43) rfl))) (by decide) (own_backOfI (Ts' := ("listAccessBindings" :: ("" :: []))) (W := 0) (rm9 l Z aZ hw [] rr b403 lm ((List.range nb).map (own_upd gb (po).toNatClampNeg (nar .char xx))) ds zz T415.heap n0 Z415 f421 f422 f415_0 f415_1 fLM f420 ((fun bq cq qq => K415.2.1 bq cq (hold bq cq qq) nin0) : ∀ (bq : Addr) (cq : Cell), Z.heap[bq]? = some cq → T415.heap[bq]? = some cq) (held31 : Jvm.Lit.constHeld Z "com/example/access_bindings/accessbindings/server/RestResource" 31 ∧ Jvm.Lit.compactW.before aZ Z = true) (zne : ¬ zz = 0)) hZ (hw _ (List.mem_of_getElem? (i := 45) rfl)) (hw _ (List.mem_of_getElem? (i := 5) rfl)) (by decide) (by decide) (own_IB.more hI0 (by simp))) q455a q455c (g := (mkF m 260 #[.val (.int p0), .val (.int p1), .val (.int p2), .val (.int p3), .val (.ref rr), .val (.int wh), .val (.int mo), .val (.int xx), .val (.int yy), .val (.ref bb), .val (.int (1 : Int32)), .val (.ref b403), .val (.int (0 : Int32)), .val (.int og)] [(.ref b403), (.ref rr)])) rfl (by rw [hml]; rfl) (Steps.refl _) (argsL := [(.ref b403)]) (rest := []) (lenOf own_pd9 rfl) rfl (by show 2 * 0 + _ ≤ _; exact Nat.le_of_eq rfl) (hb hby at_260) (fun _ _ => ⟨rfl, e441, (by decide : 3 + 2 ≤ _), (by decide : 41 + 76 ≤ _)⟩)
            dsimp only [Pt.U, Pt.locs, Pt.cells, Pt.slots] at X455 l455 y455 z455 st455 hQ455 hS455 hG455
            obtain rfl : k455 = 5 := y455
            obtain rfl : n455 = 117 := z455
            obtain ⟨hQ455, hI455⟩ := hQ455
            obtain ⟨s455, X455, ST455, hZ, hown, I455⟩ := own_backI X455 ST415 hS455 hG455 e441 hZ hown hI455
            obtain ⟨rfl, N455q, K455q⟩ := hQ455
            have N455 : Fr n0 L455 := by rw [l455]; exact Fr.app N415 N455q
            clear l455
            have f456 : Sta Z T455.heap "com/example/access_bindings/accessbindings/server/RestResource" "CLOUDS" "Lcom/example/access_bindings/accessbindings/server/RestResource;" (.ref cl) := own_Sta_keep f416 K455q all0
            have f457 : Sta Z T455.heap "com/example/access_bindings/accessbindings/server/RestResource" "COMMUNITIES" "Lcom/example/access_bindings/accessbindings/server/RestResource;" (.ref co) := own_Sta_keep f417 K455q all0
            have f458 : Sta Z T455.heap "com/example/access_bindings/accessbindings/server/RestResource" "CLUSTERS" "Lcom/example/access_bindings/accessbindings/server/RestResource;" (.ref cu) := own_Sta_keep f418 K455q all0
            have f459 : Sta Z T455.heap "com/example/access_bindings/accessbindings/server/RestResource" "APPLICATIONS" "Lcom/example/access_bindings/accessbindings/server/RestResource;" (.ref ap) := own_Sta_keep f419 K455q all0
            have f460 : Sta Z T455.heap "java/lang/String" "COMPACT_STRINGS" "Z" (.int zz) := own_Sta_keep f420 K455q all0
            have f461 : Exa Z T455.heap rr "com/example/access_bindings/accessbindings/server/RestResource" := f421.keep K455q
            have f462 : Fld Z T455.heap rr "com/example/access_bindings/accessbindings/server/RestResource" "listMethod" "Ljava/lang/String;" (.ref lm) := f422.keep K455q nin0
            have f463 : Exa Z T455.heap bb "[C" := f423.keep K455q
            have f464 : own_AI Z T455.heap bb .char nb (own_upd gb (po).toNatClampNeg (nar .char xx)) := f424.keep K455q nin0
            have f465 : Exa Z T455.heap b403 "java/lang/String" := f415_0.keep K455q
            have f466 : own_Str Z T455.heap b403 ((List.range nb).map (own_upd gb (po).toNatClampNeg (nar .char xx))) := f415_1.keep K455q
            have f467 : own_Str Z T455.heap lm ds := fLM.keep K455q
            have Z455 : n0 ≤ T455.heap.size := Nat.le_trans Z415 K455q.1
            have K455 : Keep h0 T455.heap [] := K415.trans K455q all0
            refine own_go (S' := T455.setTop (mkF m 263 #[.val (.int p0), .val (.int p1), .val (.int p2), .val (.int p3), .val (.ref rr), .val (.int wh), .val (.int mo), .val (.int xx), .val (.int yy), .val (.ref bb), .val (.int (1 : Int32)), .val (.ref b403), .val (.int (0 : Int32)), .val (.int og)] [(.int (own_lb ((List.range nb).map (own_upd gb (po).toNatClampNeg (nar .char xx))) ds))])) (fun _ k => st455.trans k) ?_
            refine own_go (S' := T455.setTop (mkF m 273 #[.val (.int p0), .val (.int p1), .val (.int p2), .val (.int p3), .val (.ref rr), .val (.int wh), .val (.int mo), .val (.int xx), .val (.int yy), .val (.ref bb), .val (.int (1 : Int32)), .val (.ref b403), .val (.int (0 : Int32)), .val (.int og)] [(.int (1 : Int32))])) (fun target kt => ?_) ?_
            · skip
              show Steps p.tables e below (T455.setTop (mkF m 263 #[.val (.int p0), .val (.int p1), .val (.int p2), .val (.int p3), .val (.ref rr), .val (.int wh), .val (.int mo), .val (.int xx), .val (.int yy), .val (.ref bb), .val (.int (1 : Int32)), .val (.ref b403), .val (.int (0 : Int32)), .val (.int og)] [(.int (own_lb ((List.range nb).map (own_upd gb (po).toNatClampNeg (nar .char xx))) ds))])) _
              refine XS.iload X455.here hx rfl (hb hby at_263) rfl ?_
              show Steps p.tables e below (T455.setTop (mkF m 265 #[.val (.int p0), .val (.int p1), .val (.int p2), .val (.int p3), .val (.ref rr), .val (.int wh), .val (.int mo), .val (.int xx), .val (.int yy), .val (.ref bb), .val (.int (1 : Int32)), .val (.ref b403), .val (.int (0 : Int32)), .val (.int og)] [(.int (0 : Int32)), (.int (own_lb ((List.range nb).map (own_upd gb (po).toNatClampNeg (nar .char xx))) ds))])) _
              refine XS.icmpNo X455.here hx rfl (hb hby at_265) rfl (teq (own_t3 (own_isB.l1 (own_isB.upd hB hyx) hc238) hR hc246 : (own_lb ((List.range nb).map (own_upd gb (po).toNatClampNeg (nar .char xx))) ds) = (0 : Int32))).2 ?_
              show Steps p.tables e below (T455.setTop (mkF m 268 #[.val (.int p0), .val (.int p1), .val (.int p2), .val (.int p3), .val (.ref rr), .val (.int wh), .val (.int mo), .val (.int xx), .val (.int yy), .val (.ref bb), .val (.int (1 : Int32)), .val (.ref b403), .val (.int (0 : Int32)), .val (.int og)] [])) _
              refine XS.iconst X455.here hx rfl (hb hby at_268) ?_
              show Steps p.tables e below (T455.setTop (mkF m 269 #[.val (.int p0), .val (.int p1), .val (.int p2), .val (.int p3), .val (.ref rr), .val (.int wh), .val (.int mo), .val (.int xx), .val (.int yy), .val (.ref bb), .val (.int (1 : Int32)), .val (.ref b403), .val (.int (0 : Int32)), .val (.int og)] [(.int (1 : Int32))])) _
              refine XS.goto X455.here hx rfl (pc0 := 269) (pc' := 273) rfl (hb hby at_269) (by decide) (by decide) ?_
              exact kt
            obtain ⟨fs, hr, hrun, hended, hW, hBk, hsame⟩ := own_leave X455 rfl ST455 (v := some (.int (1 : Int32))) (fun h => by rw [Bd.returns] at h; cases h)
            refine ⟨_, _, ?_, hrun, hended, _, _, rfl, ?_, ⟨_, rfl⟩, hW, hBk, hsame.mono (by decide) (by decide)⟩
            · exact retN X455 hx (t := .boolean) Bd.returns (by simp) (hb hby at_273) hr
            · show Q0 Z p0 p1 p2 p3 cl co cu ap zz h0 n0 _ T455.heap _
              exact ⟨rfl, N455⟩
      · skip
        refine own_go (S' := T415.setTop (mkF m 118 #[.val (.int p0), .val (.int p1), .val (.int p2), .val (.int p3), .val (.ref rr), .val (.int wh), .val (.int mo), .val (.int xx), .val (.int yy), .val (.ref bb), .unset, .val (.ref b403), .val (.int po), .val (.int og)] [])) (fun target kt => ?_) ?_
        · skip
          show Steps p.tables e below (T415.setTop (mkF m 111 #[.val (.int p0), .val (.int p1), .val (.int p2), .val (.int p3), .val (.ref rr), .val (.int wh), .val (.int mo), .val (.int xx), .val (.int yy), .val (.ref bb), .unset, .val (.ref b403), .val (.int po), .val (.int og)] [(.int xx), (.int og)])) _
          refine XS.icmpYes X415.here hx rfl (pc0 := 111) (pc' := 118) rfl (hb hby at_111) rfl (feq hc111).2 (by decide) (by decide) ?_
          exact kt
        have hnx : ¬ nar .char xx = gb po.toNatClampNeg := by rw [(own_c8 h_xx).1, ← h_og]; exact fun q => hc111 q.symm
        refine own_go (S' := T415.setTop (mkF m 256 #[.val (.int p0), .val (.int p1), .val (.int p2), .val (.int p3), .val (.ref rr), .val (.int wh), .val (.int mo), .val (.int xx), .val (.int yy), .val (.ref bb), .val (.int (0 : Int32)), .val (.ref b403), .val (.int (0 : Int32)), .val (.int og)] [])) (fun target kt => ?_) ?_
        · skip
          show Steps p.tables e below (T415.setTop (mkF m 118 #[.val (.int p0), .val (.int p1), .val (.int p2), .val (.int p3), .val (.ref rr), .val (.int wh), .val (.int mo), .val (.int xx), .val (.int yy), .val (.ref bb), .unset, .val (.ref b403), .val (.int po), .val (.int og)] [])) _
          refine XS.iconst X415.here hx rfl (hb hby at_118) ?_
          show Steps p.tables e below (T415.setTop (mkF m 119 #[.val (.int p0), .val (.int p1), .val (.int p2), .val (.int p3), .val (.ref rr), .val (.int wh), .val (.int mo), .val (.int xx), .val (.int yy), .val (.ref bb), .unset, .val (.ref b403), .val (.int po), .val (.int og)] [(.int (0 : Int32))])) _
          refine XS.istore X415.here hx rfl (hb hby at_119) rfl (l' := #[.val (.int p0), .val (.int p1), .val (.int p2), .val (.int p3), .val (.ref rr), .val (.int wh), .val (.int mo), .val (.int xx), .val (.int yy), .val (.ref bb), .val (.int (0 : Int32)), .val (.ref b403), .val (.int po), .val (.int og)]) rfl ?_
          show Steps p.tables e below (T415.setTop (mkF m 121 #[.val (.int p0), .val (.int p1), .val (.int p2), .val (.int p3), .val (.ref rr), .val (.int wh), .val (.int mo), .val (.int xx), .val (.int yy), .val (.ref bb), .val (.int (0 : Int32)), .val (.ref b403), .val (.int po), .val (.int og)] [])) _
          refine XS.goto X415.here hx rfl (pc0 := 121) (pc' := 231) rfl (hb hby at_121) (by decide) (by decide) ?_
          show Steps p.tables e below (T415.setTop (mkF m 231 #[.val (.int p0), .val (.int p1), .val (.int p2), .val (.int p3), .val (.ref rr), .val (.int wh), .val (.int mo), .val (.int xx), .val (.int yy), .val (.ref bb), .val (.int (0 : Int32)), .val (.ref b403), .val (.int po), .val (.int og)] [])) _
          refine XS.iload X415.here hx rfl (hb hby at_231) rfl ?_
          show Steps p.tables e below (T415.setTop (mkF m 233 #[.val (.int p0), .val (.int p1), .val (.int p2), .val (.int p3), .val (.ref rr), .val (.int wh), .val (.int mo), .val (.int xx), .val (.int yy), .val (.ref bb), .val (.int (0 : Int32)), .val (.ref b403), .val (.int po), .val (.int og)] [(.int (0 : Int32))])) _
          refine XS.ifYes X415.here hx rfl (pc0 := 233) (pc' := 253) rfl (hb hby at_233) rfl ((if0 _ _).trans (teq (by decide : (0 : Int32) = (0 : Int32))).1) (by decide) (by decide) ?_
          show Steps p.tables e below (T415.setTop (mkF m 253 #[.val (.int p0), .val (.int p1), .val (.int p2), .val (.int p3), .val (.ref rr), .val (.int wh), .val (.int mo), .val (.int xx), .val (.int yy), .val (.ref bb), .val (.int (0 : Int32)), .val (.ref b403), .val (.int po), .val (.int og)] [])) _
          refine XS.iconst X415.here hx rfl (hb hby at_253) ?_
          show Steps p.tables e below (T415.setTop (mkF m 254 #[.val (.int p0), .val (.int p1), .val (.int p2), .val (.int p3), .val (.ref rr), .val (.int wh), .val (.int mo), .val (.int xx), .val (.int yy), .val (.ref bb), .val (.int (0 : Int32)), .val (.ref b403), .val (.int po), .val (.int og)] [(.int (0 : Int32))])) _
          refine XS.istore X415.here hx rfl (hb hby at_254) rfl (l' := #[.val (.int p0), .val (.int p1), .val (.int p2), .val (.int p3), .val (.ref rr), .val (.int wh), .val (.int mo), .val (.int xx), .val (.int yy), .val (.ref bb), .val (.int (0 : Int32)), .val (.ref b403), .val (.int (0 : Int32)), .val (.int og)]) rfl ?_
          exact kt
        have fLM : own_Str Z T415.heap lm ds := own_Str.keep fRT K415
        refine own_go (S' := T415.setTop (mkF m 260 #[.val (.int p0), .val (.int p1), .val (.int p2), .val (.int p3), .val (.ref rr), .val (.int wh), .val (.int mo), .val (.int xx), .val (.int yy), .val (.ref bb), .val (.int (0 : Int32)), .val (.ref b403), .val (.int (0 : Int32)), .val (.int og)] [(.ref b403), (.ref rr)])) (fun target kt => ?_) ?_
        · skip
          show Steps p.tables e below (T415.setTop (mkF m 256 #[.val (.int p0), .val (.int p1), .val (.int p2), .val (.int p3), .val (.ref rr), .val (.int wh), .val (.int mo), .val (.int xx), .val (.int yy), .val (.ref bb), .val (.int (0 : Int32)), .val (.ref b403), .val (.int (0 : Int32)), .val (.int og)] [])) _
          refine XS.aload X415.here hx rfl (hb hby at_256) rfl rfl ?_
          show Steps p.tables e below (T415.setTop (mkF m 258 #[.val (.int p0), .val (.int p1), .val (.int p2), .val (.int p3), .val (.ref rr), .val (.int wh), .val (.int mo), .val (.int xx), .val (.int yy), .val (.ref bb), .val (.int (0 : Int32)), .val (.ref b403), .val (.int (0 : Int32)), .val (.int og)] [(.ref rr)])) _
          refine XS.aload X415.here hx rfl (hb hby at_258) rfl rfl ?_
          exact kt
        obtain ⟨cq468, kq468, q468a, q468b, q468c⟩ := isOf hZ rfl f421
        obtain ⟨_, _, ⟨T468, L468, k468, n468⟩, -, X468, hS468, hG468, ⟨Lc468, hQ468, l468, y468, z468⟩, st468⟩ := X415.virtualBackS hx (y := (⟨"com/example/access_bindings/accessbindings/server/RestResource", "listsBindingsAt", "(Ljava/lang/String;)Z"⟩ : MethodName)) (z := (⟨"com/example/access_bindings/accessbindings/server/RestResource", "listsBindingsAt", "(Ljava/lang/String;)Z"⟩ : MethodName)) hown (mvT hZ (hw _ (List.mem_of_getElem? (i := 41) rfl))) (mvT hZ (hw _ (List.mem_of_getElem? (i := 42) rfl))) (notFace_of_selects (args := #[]) (mvT hZ (hw _ (List.mem_of_getElem? (i := 44) rfl)))) (mvT hZ (hw _ (List.mem_of_getElem? (i := 44) rfl))) (mvT hZ (hw _ (List.mem_of_getElem? (i := 43) rfl))) (by decide) (own_backOfI (Ts' := ("listAccessBindings" :: ("" :: []))) (W := 0) (rm9 l Z aZ hw [] rr b403 lm ((List.range nb).map (own_upd gb (po).toNatClampNeg (nar .char xx))) ds zz T415.heap n0 Z415 f421 f422 f415_0 f415_1 fLM f420 ((fun bq cq qq => K415.2.1 bq cq (hold bq cq qq) nin0) : ∀ (bq : Addr) (cq : Cell), Z.heap[bq]? = some cq → T415.heap[bq]? = some cq) (held31 : Jvm.Lit.constHeld Z "com/example/access_bindings/accessbindings/server/RestResource" 31 ∧ Jvm.Lit.compactW.before aZ Z = true) (zne : ¬ zz = 0)) hZ (hw _ (List.mem_of_getElem? (i := 45) rfl)) (hw _ (List.mem_of_getElem? (i := 5) rfl)) (by decide) (by decide) (own_IB.more hI0 (by simp))) q468a q468c (g := (mkF m 260 #[.val (.int p0), .val (.int p1), .val (.int p2), .val (.int p3), .val (.ref rr), .val (.int wh), .val (.int mo), .val (.int xx), .val (.int yy), .val (.ref bb), .val (.int (0 : Int32)), .val (.ref b403), .val (.int (0 : Int32)), .val (.int og)] [(.ref b403), (.ref rr)])) rfl (by rw [hml]; rfl) (Steps.refl _) (argsL := [(.ref b403)]) (rest := []) (lenOf own_pd9 rfl) rfl (by show 2 * 0 + _ ≤ _; exact Nat.le_of_eq rfl) (hb hby at_260) (fun _ _ => ⟨rfl, rfl, (by decide : 3 + 2 ≤ _), (by decide : 41 + 76 ≤ _)⟩)
        dsimp only [Pt.U, Pt.locs, Pt.cells, Pt.slots] at X468 l468 y468 z468 st468 hQ468 hS468 hG468
        obtain rfl : k468 = 5 := y468
        obtain rfl : n468 = 117 := z468
        obtain ⟨hQ468, hI468⟩ := hQ468
        obtain ⟨s468, X468, ST468, hZ, hown, I468⟩ := own_backI X468 ST415 hS468 hG468 rfl hZ hown hI468
        obtain ⟨rfl, N468q, K468q⟩ := hQ468
        have N468 : Fr n0 L468 := by rw [l468]; exact Fr.app N415 N468q
        clear l468
        have f469 : Sta Z T468.heap "com/example/access_bindings/accessbindings/server/RestResource" "CLOUDS" "Lcom/example/access_bindings/accessbindings/server/RestResource;" (.ref cl) := own_Sta_keep f416 K468q all0
        have f470 : Sta Z T468.heap "com/example/access_bindings/accessbindings/server/RestResource" "COMMUNITIES" "Lcom/example/access_bindings/accessbindings/server/RestResource;" (.ref co) := own_Sta_keep f417 K468q all0
        have f471 : Sta Z T468.heap "com/example/access_bindings/accessbindings/server/RestResource" "CLUSTERS" "Lcom/example/access_bindings/accessbindings/server/RestResource;" (.ref cu) := own_Sta_keep f418 K468q all0
        have f472 : Sta Z T468.heap "com/example/access_bindings/accessbindings/server/RestResource" "APPLICATIONS" "Lcom/example/access_bindings/accessbindings/server/RestResource;" (.ref ap) := own_Sta_keep f419 K468q all0
        have f473 : Sta Z T468.heap "java/lang/String" "COMPACT_STRINGS" "Z" (.int zz) := own_Sta_keep f420 K468q all0
        have f474 : Exa Z T468.heap rr "com/example/access_bindings/accessbindings/server/RestResource" := f421.keep K468q
        have f475 : Fld Z T468.heap rr "com/example/access_bindings/accessbindings/server/RestResource" "listMethod" "Ljava/lang/String;" (.ref lm) := f422.keep K468q nin0
        have f476 : Exa Z T468.heap bb "[C" := f423.keep K468q
        have f477 : own_AI Z T468.heap bb .char nb (own_upd gb (po).toNatClampNeg (nar .char xx)) := f424.keep K468q nin0
        have f478 : Exa Z T468.heap b403 "java/lang/String" := f415_0.keep K468q
        have f479 : own_Str Z T468.heap b403 ((List.range nb).map (own_upd gb (po).toNatClampNeg (nar .char xx))) := f415_1.keep K468q
        have f480 : own_Str Z T468.heap lm ds := fLM.keep K468q
        have Z468 : n0 ≤ T468.heap.size := Nat.le_trans Z415 K468q.1
        have K468 : Keep h0 T468.heap [] := K415.trans K468q all0
        refine own_go (S' := T468.setTop (mkF m 263 #[.val (.int p0), .val (.int p1), .val (.int p2), .val (.int p3), .val (.ref rr), .val (.int wh), .val (.int mo), .val (.int xx), .val (.int yy), .val (.ref bb), .val (.int (0 : Int32)), .val (.ref b403), .val (.int (0 : Int32)), .val (.int og)] [(.int (own_lb ((List.range nb).map (own_upd gb (po).toNatClampNeg (nar .char xx))) ds))])) (fun _ k => st468.trans k) ?_
        refine own_go (S' := T468.setTop (mkF m 273 #[.val (.int p0), .val (.int p1), .val (.int p2), .val (.int p3), .val (.ref rr), .val (.int wh), .val (.int mo), .val (.int xx), .val (.int yy), .val (.ref bb), .val (.int (0 : Int32)), .val (.ref b403), .val (.int (0 : Int32)), .val (.int og)] [(.int (1 : Int32))])) (fun target kt => ?_) ?_
        · skip
          show Steps p.tables e below (T468.setTop (mkF m 263 #[.val (.int p0), .val (.int p1), .val (.int p2), .val (.int p3), .val (.ref rr), .val (.int wh), .val (.int mo), .val (.int xx), .val (.int yy), .val (.ref bb), .val (.int (0 : Int32)), .val (.ref b403), .val (.int (0 : Int32)), .val (.int og)] [(.int (own_lb ((List.range nb).map (own_upd gb (po).toNatClampNeg (nar .char xx))) ds))])) _
          refine XS.iload X468.here hx rfl (hb hby at_263) rfl ?_
          show Steps p.tables e below (T468.setTop (mkF m 265 #[.val (.int p0), .val (.int p1), .val (.int p2), .val (.int p3), .val (.ref rr), .val (.int wh), .val (.int mo), .val (.int xx), .val (.int yy), .val (.ref bb), .val (.int (0 : Int32)), .val (.ref b403), .val (.int (0 : Int32)), .val (.int og)] [(.int (0 : Int32)), (.int (own_lb ((List.range nb).map (own_upd gb (po).toNatClampNeg (nar .char xx))) ds))])) _
          refine XS.icmpNo X468.here hx rfl (hb hby at_265) rfl (teq (own_t4 hR (own_isB.bad hB hpo.2 hnx).1 (own_isB.bad hB hpo.2 hnx).2 : (own_lb ((List.range nb).map (own_upd gb (po).toNatClampNeg (nar .char xx))) ds) = (0 : Int32))).2 ?_
          show Steps p.tables e below (T468.setTop (mkF m 268 #[.val (.int p0), .val (.int p1), .val (.int p2), .val (.int p3), .val (.ref rr), .val (.int wh), .val (.int mo), .val (.int xx), .val (.int yy), .val (.ref bb), .val (.int (0 : Int32)), .val (.ref b403), .val (.int (0 : Int32)), .val (.int og)] [])) _
          refine XS.iconst X468.here hx rfl (hb hby at_268) ?_
          show Steps p.tables e below (T468.setTop (mkF m 269 #[.val (.int p0), .val (.int p1), .val (.int p2), .val (.int p3), .val (.ref rr), .val (.int wh), .val (.int mo), .val (.int xx), .val (.int yy), .val (.ref bb), .val (.int (0 : Int32)), .val (.ref b403), .val (.int (0 : Int32)), .val (.int og)] [(.int (1 : Int32))])) _
          refine XS.goto X468.here hx rfl (pc0 := 269) (pc' := 273) rfl (hb hby at_269) (by decide) (by decide) ?_
          exact kt
        obtain ⟨fs, hr, hrun, hended, hW, hBk, hsame⟩ := own_leave X468 rfl ST468 (v := some (.int (1 : Int32))) (fun h => by rw [Bd.returns] at h; cases h)
        refine ⟨_, _, ?_, hrun, hended, _, _, rfl, ?_, ⟨_, rfl⟩, hW, hBk, hsame.mono (by decide) (by decide)⟩
        · exact retN X468 hx (t := .boolean) Bd.returns (by simp) (hb hby at_273) hr
        · show Q0 Z p0 p1 p2 p3 cl co cu ap zz h0 n0 _ T468.heap _
          exact ⟨rfl, N468⟩
    · skip
      refine own_go (S' := T317.setTop (mkF m 127 #[.val (.int p0), .val (.int p1), .val (.int p2), .val (.int p3), .val (.ref rr), .val (.int wh), .val (.int mo), .val (.int xx), .val (.int yy), .val (.ref bb), .unset, .unset, .unset, .unset] [(.int (2 : Int32)), (.int mo)])) (fun target kt => ?_) ?_
      · skip
        show Steps p.tables e below (T317.setTop (mkF m 69 #[.val (.int p0), .val (.int p1), .val (.int p2), .val (.int p3), .val (.ref rr), .val (.int wh), .val (.int mo), .val (.int xx), .val (.int yy), .val (.ref bb), .unset, .unset, .unset, .unset] [(.int (1 : Int32)), (.int mo)])) _
        refine XS.icmpYes X317.here hx rfl (pc0 := 69) (pc' := 124) rfl (hb hby at_69) rfl (feq hc69).2 (by decide) (by decide) ?_
        show Steps p.tables e below (T317.setTop (mkF m 124 #[.val (.int p0), .val (.int p1), .val (.int p2), .val (.int p3), .val (.ref rr), .val (.int wh), .val (.int mo), .val (.int xx), .val (.int yy), .val (.ref bb), .unset, .unset, .unset, .unset] [])) _
        refine XS.iload X317.here hx rfl (hb hby at_124) rfl ?_
        show Steps p.tables e below (T317.setTop (mkF m 126 #[.val (.int p0), .val (.int p1), .val (.int p2), .val (.int p3), .val (.ref rr), .val (.int wh), .val (.int mo), .val (.int xx), .val (.int yy), .val (.ref bb), .unset, .unset, .unset, .unset] [(.int mo)])) _
        refine XS.iconst X317.here hx rfl (hb hby at_126) ?_
        exact kt
      by_cases hc127 : mo = (2 : Int32)
      · skip
        obtain ⟨ni, h_ni⟩ : ∃ z : Int32, z = ((p2 &&& (2147483647 : Int32)) % (3 : Int32)) := ⟨_, rfl⟩
        refine own_go (S' := T317.setTop (mkF m 138 #[.val (.int p0), .val (.int p1), .val (.int p2), .val (.int p3), .val (.ref rr), .val (.int wh), .val (.int mo), .val (.int xx), .val (.int yy), .val (.ref bb), .unset, .unset, .val (.int ni), .unset] [])) (fun target kt => ?_) ?_
        · subst h_ni
          show Steps p.tables e below (T317.setTop (mkF m 127 #[.val (.int p0), .val (.int p1), .val (.int p2), .val (.int p3), .val (.ref rr), .val (.int wh), .val (.int mo), .val (.int xx), .val (.int yy), .val (.ref bb), .unset, .unset, .unset, .unset] [(.int (2 : Int32)), (.int mo)])) _
          refine XS.icmpNo X317.here hx rfl (hb hby at_127) rfl (teq hc127).2 ?_
          show Steps p.tables e below (T317.setTop (mkF m 130 #[.val (.int p0), .val (.int p1), .val (.int p2), .val (.int p3), .val (.ref rr), .val (.int wh), .val (.int mo), .val (.int xx), .val (.int yy), .val (.ref bb), .unset, .unset, .unset, .unset] [])) _
          refine XS.iloadN X317.here hx rfl (hb hby at_130) rfl ?_
          show Steps p.tables e below (T317.setTop (mkF m 131 #[.val (.int p0), .val (.int p1), .val (.int p2), .val (.int p3), .val (.ref rr), .val (.int wh), .val (.int mo), .val (.int xx), .val (.int yy), .val (.ref bb), .unset, .unset, .unset, .unset] [(.int p2)])) _
          refine X317.ldcInt hx hown (mvT hZ (hw _ (List.mem_of_getElem? (i := 11) rfl))) (g := (mkF m 131 #[.val (.int p0), .val (.int p1), .val (.int p2), .val (.int p3), .val (.ref rr), .val (.int wh), .val (.int mo), .val (.int xx), .val (.int yy), .val (.ref bb), .unset, .unset, .unset, .unset] [(.int p2)])) rfl (hb hby at_131) _ ?_
          show Steps p.tables e below (T317.setTop (mkF m 133 #[.val (.int p0), .val (.int p1), .val (.int p2), .val (.int p3), .val (.ref rr), .val (.int wh), .val (.int mo), .val (.int xx), .val (.int yy), .val (.ref bb), .unset, .unset, .unset, .unset] [(.int (2147483647 : Int32)), (.int p2)])) _
          refine XS.iand X317.here hx rfl (hb hby at_133) rfl ?_
          show Steps p.tables e below (T317.setTop (mkF m 134 #[.val (.int p0), .val (.int p1), .val (.int p2), .val (.int p3), .val (.ref rr), .val (.int wh), .val (.int mo), .val (.int xx), .val (.int yy), .val (.ref bb), .unset, .unset, .unset, .unset] [(.int (p2 &&& (2147483647 : Int32)))])) _
          refine XS.iconst X317.here hx rfl (hb hby at_134) ?_
          show Steps p.tables e below (T317.setTop (mkF m 135 #[.val (.int p0), .val (.int p1), .val (.int p2), .val (.int p3), .val (.ref rr), .val (.int wh), .val (.int mo), .val (.int xx), .val (.int yy), .val (.ref bb), .unset, .unset, .unset, .unset] [(.int (3 : Int32)), (.int (p2 &&& (2147483647 : Int32)))])) _
          refine iremM (g := (mkF m 135 #[.val (.int p0), .val (.int p1), .val (.int p2), .val (.int p3), .val (.ref rr), .val (.int wh), .val (.int mo), .val (.int xx), .val (.int yy), .val (.ref bb), .unset, .unset, .unset, .unset] [(.int (3 : Int32)), (.int (p2 &&& (2147483647 : Int32)))])) X317 hx rfl (hb hby at_135) rfl (by decide) ?_
          show Steps p.tables e below (T317.setTop (mkF m 136 #[.val (.int p0), .val (.int p1), .val (.int p2), .val (.int p3), .val (.ref rr), .val (.int wh), .val (.int mo), .val (.int xx), .val (.int yy), .val (.ref bb), .unset, .unset, .unset, .unset] [(.int ((p2 &&& (2147483647 : Int32)) % (3 : Int32)))])) _
          refine XS.istore X317.here hx rfl (hb hby at_136) rfl (l' := #[.val (.int p0), .val (.int p1), .val (.int p2), .val (.int p3), .val (.ref rr), .val (.int wh), .val (.int mo), .val (.int xx), .val (.int yy), .val (.ref bb), .unset, .unset, .val (.int ((p2 &&& (2147483647 : Int32)) % (3 : Int32))), .unset]) rfl ?_
          exact kt
        refine own_go (S' := T317.setTop (mkF m 140 #[.val (.int p0), .val (.int p1), .val (.int p2), .val (.int p3), .val (.ref rr), .val (.int wh), .val (.int mo), .val (.int xx), .val (.int yy), .val (.ref bb), .unset, .unset, .val (.int ni), .unset] [(.int ni)])) (fun target kt => ?_) ?_
        · skip
          show Steps p.tables e below (T317.setTop (mkF m 138 #[.val (.int p0), .val (.int p1), .val (.int p2), .val (.int p3), .val (.ref rr), .val (.int wh), .val (.int mo), .val (.int xx), .val (.int yy), .val (.ref bb), .unset, .unset, .val (.int ni), .unset] [])) _
          refine XS.iload X317.here hx rfl (hb hby at_138) rfl ?_
          exact kt
        by_cases hc140 : ni = (0 : Int32)
        · skip
          refine own_go (S' := T317.setTop (mkF m 143 #[.val (.int p0), .val (.int p1), .val (.int p2), .val (.int p3), .val (.ref rr), .val (.int wh), .val (.int mo), .val (.int xx), .val (.int yy), .val (.ref bb), .unset, .unset, .val (.int ni), .unset] [])) (fun target kt => ?_) ?_
          · skip
            show Steps p.tables e below (T317.setTop (mkF m 140 #[.val (.int p0), .val (.int p1), .val (.int p2), .val (.int p3), .val (.ref rr), .val (.int wh), .val (.int mo), .val (.int xx), .val (.int yy), .val (.ref bb), .unset, .unset, .val (.int ni), .unset] [(.int ni)])) _
            refine XS.ifNo X317.here hx rfl (hb hby at_140) rfl ((if0 _ _).trans (teq hc140).2) ?_
            exact kt
          obtain ⟨T481, h481, X481, e481, E481, A481, D481, -, st481⟩ := newO X317 hx hZ hown (hw _ (List.mem_of_getElem? (i := 12) rfl)) (hw _ (List.mem_of_getElem? (i := 13) rfl)) (hw _ (List.mem_of_getElem? (i := 14) rfl)) rfl (g := (mkF m 143 #[.val (.int p0), .val (.int p1), .val (.int p2), .val (.int p3), .val (.ref rr), .val (.int wh), .val (.int mo), .val (.int xx), .val (.int yy), .val (.ref bb), .unset, .unset, .val (.int ni), .unset] [])) rfl (hb hby at_143) (by decide) (by decide)
          obtain ⟨b481, g481⟩ : ∃ z, z = T317.heap.size := ⟨_, rfl⟩
          rw [← g481] at A481 D481 st481
          have f482 : Sta Z h481 "com/example/access_bindings/accessbindings/server/RestResource" "CLOUDS" "Lcom/example/access_bindings/accessbindings/server/RestResource;" (.ref cl) := f318.ext E481
          have f483 : Sta Z h481 "com/example/access_bindings/accessbindings/server/RestResource" "COMMUNITIES" "Lcom/example/access_bindings/accessbindings/server/RestResource;" (.ref co) := f319.ext E481
          have f484 : Sta Z h481 "com/example/access_bindings/accessbindings/server/RestResource" "CLUSTERS" "Lcom/example/access_bindings/accessbindings/server/RestResource;" (.ref cu) := f320.ext E481
          have f485 : Sta Z h481 "com/example/access_bindings/accessbindings/server/RestResource" "APPLICATIONS" "Lcom/example/access_bindings/accessbindings/server/RestResource;" (.ref ap) := f321.ext E481
          have f486 : Sta Z h481 "java/lang/String" "COMPACT_STRINGS" "Z" (.int zz) := f322.ext E481
          have f487 : Exa Z h481 rr "com/example/access_bindings/accessbindings/server/RestResource" := f323.ext E481
          have f488 : Fld Z h481 rr "com/example/access_bindings/accessbindings/server/RestResource" "listMethod" "Ljava/lang/String;" (.ref lm) := f324.ext E481
          have f489 : own_AI Z h481 bb .char nb gb := f317_0.ext E481
          have f490 : Exa Z h481 bb "[C" := f317_1.ext E481
          have g_b481 : n0 ≤ b481 := Nat.le_trans Z317 (Nat.le_of_eq g481.symm)
          have sz_b481 : h0.size ≤ b481 := Nat.le_trans K317.1 (Nat.le_of_eq g481.symm)
          have ne_rr_b481 : rr ≠ b481 := Nat.ne_of_lt (Nat.lt_of_lt_of_le f323.lt (Nat.le_of_eq g481.symm))
          have ne_bb_b481 : bb ≠ b481 := Nat.ne_of_lt (Nat.lt_of_lt_of_le f317_0.lt (Nat.le_of_eq g481.symm))
          have Z481 : n0 ≤ h481.size := Nat.le_trans Z317 E481.1
          have ST481 := ST317.le E481.1
          have K481 : Keep h0 h481 [] := K317.ext E481
          have f491 : Fld Z h481 b481 "java/lang/String" "coder" "B" (.int (0 : Int32)) := D481 (Or.inr (hw _ (List.mem_of_getElem? (i := 38) rfl))) (ty := .byte) (by decide)
          have f492 : Fld Z h481 b481 "java/lang/String" "value" "[B" .null := D481 (Or.inr (hw _ (List.mem_of_getElem? (i := 40) rfl))) (ty := (.array .byte)) (by decide)
          refine own_go (S' := T481.setTop (mkF m 146 #[.val (.int p0), .val (.int p1), .val (.int p2), .val (.int p3), .val (.ref rr), .val (.int wh), .val (.int mo), .val (.int xx), .val (.int yy), .val (.ref bb), .unset, .unset, .val (.int ni), .unset] [(.ref b481)])) st481 ?_
          refine own_go (S' := T481.setTop (mkF m 148 #[.val (.int p0), .val (.int p1), .val (.int p2), .val (.int p3), .val (.ref rr), .val (.int wh), .val (.int mo), .val (.int xx), .val (.int yy), .val (.ref bb), .unset, .unset, .val (.int ni), .unset] [(.int (0 : Int32)), (.ref b481), (.ref b481)])) (fun target kt => ?_) ?_
          · skip
            show Steps p.tables e below (T481.setTop (mkF m 146 #[.val (.int p0), .val (.int p1), .val (.int p2), .val (.int p3), .val (.ref rr), .val (.int wh), .val (.int mo), .val (.int xx), .val (.int yy), .val (.ref bb), .unset, .unset, .val (.int ni), .unset] [(.ref b481)])) _
            refine XS.dup X481.here hx rfl (hb hby at_146) rfl rfl ?_
            show Steps p.tables e below (T481.setTop (mkF m 147 #[.val (.int p0), .val (.int p1), .val (.int p2), .val (.int p3), .val (.ref rr), .val (.int wh), .val (.int mo), .val (.int xx), .val (.int yy), .val (.ref bb), .unset, .unset, .val (.int ni), .unset] [(.ref b481), (.ref b481)])) _
            refine XS.iconst X481.here hx rfl (hb hby at_147) ?_
            exact kt
          obtain ⟨T493, h493, k493, X493, e493, E493, A493, B493, st493⟩ := newPE X481 hx hZ (hw _ (List.mem_of_getElem? (i := 10) rfl)) e481 (g := (mkF m 148 #[.val (.int p0), .val (.int p1), .val (.int p2), .val (.int p3), .val (.ref rr), .val (.int wh), .val (.int mo), .val (.int xx), .val (.int yy), .val (.ref bb), .unset, .unset, .val (.int ni), .unset] [(.int (0 : Int32)), (.ref b481), (.ref b481)])) rfl (hb hby at_148) rfl (by decide) (cap := 0) (by decide) (by decide) (by decide) (by decide) (ad := "[C") (by decide)
          obtain ⟨b493, g493⟩ : ∃ z, z = h481.size := ⟨_, rfl⟩
          rw [← g493] at A493 B493 st493
          have f494 : Sta Z h493 "com/example/access_bindings/accessbindings/server/RestResource" "CLOUDS" "Lcom/example/access_bindings/accessbindings/server/RestResource;" (.ref cl) := f482.ext E493
          have f495 : Sta Z h493 "com/example/access_bindings/accessbindings/server/RestResource" "COMMUNITIES" "Lcom/example/access_bindings/accessbindings/server/RestResource;" (.ref co) := f483.ext E493
          have f496 : Sta Z h493 "com/example/access_bindings/accessbindings/server/RestResource" "CLUSTERS" "Lcom/example/access_bindings/accessbindings/server/RestResource;" (.ref cu) := f484.ext E493
          have f497 : Sta Z h493 "com/example/access_bindings/accessbindings/server/RestResource" "APPLICATIONS" "Lcom/example/access_bindings/accessbindings/server/RestResource;" (.ref ap) := f485.ext E493
          have f498 : Sta Z h493 "java/lang/String" "COMPACT_STRINGS" "Z" (.int zz) := f486.ext E493
          have f499 : Exa Z h493 rr "com/example/access_bindings/accessbindings/server/RestResource" := f487.ext E493
          have f500 : Fld Z h493 rr "com/example/access_bindings/accessbindings/server/RestResource" "listMethod" "Ljava/lang/String;" (.ref lm) := f488.ext E493
          have f501 : own_AI Z h493 bb .char nb gb := f489.ext E493
          have f502 : Exa Z h493 bb "[C" := f490.ext E493
          have f503 : Exa Z h493 b481 "java/lang/String" := A481.ext E493
          have f504 : Fld Z h493 b481 "java/lang/String" "coder" "B" (.int (0 : Int32)) := f491.ext E493
          have f505 : Fld Z h493 b481 "java/lang/String" "value" "[B" .null := f492.ext E493
          have g_b493 : n0 ≤ b493 := Nat.le_trans Z481 (Nat.le_of_eq g493.symm)
          have sz_b493 : h0.size ≤ b493 := Nat.le_trans K481.1 (Nat.le_of_eq g493.symm)
          have ne_rr_b493 : rr ≠ b493 := Nat.ne_of_lt (Nat.lt_of_lt_of_le f487.lt (Nat.le_of_eq g493.symm))
          have ne_bb_b493 : bb ≠ b493 := Nat.ne_of_lt (Nat.lt_of_lt_of_le f489.lt (Nat.le_of_eq g493.symm))
          have ne_b481_b493 : b481 ≠ b493 := Nat.ne_of_lt (Nat.lt_of_lt_of_le A481.lt (Nat.le_of_eq g493.symm))
          have Z493 : n0 ≤ h493.size := Nat.le_trans Z481 E493.1
          have ST493 := ST481.le E493.1
          have K493 : Keep h0 h493 [] := K481.ext E493
          have f506 : own_AI Z h493 b493 .char 0 (fun _ => 0) := own_AI.fresh A493 rfl
          refine own_go (S' := T493.setTop (mkF m 150 #[.val (.int p0), .val (.int p1), .val (.int p2), .val (.int p3), .val (.ref rr), .val (.int wh), .val (.int mo), .val (.int xx), .val (.int yy), .val (.ref bb), .unset, .unset, .val (.int ni), .unset] [(.ref b493), (.ref b481), (.ref b481)])) st493 ?_
          obtain ⟨_, _, ⟨T507, L507, k507, n507⟩, -, X507, hS507, hG507, ⟨Lc507, hQ507, l507, y507, z507⟩, st507⟩ := X493.specialBackS hx (y := (⟨"java/lang/String", "<init>", "([C)V"⟩ : MethodName)) rfl hown (mvT hZ (hw _ (List.mem_of_getElem? (i := 15) rfl))) (mvT hZ (hw _ (List.mem_of_getElem? (i := 16) rfl))) (mvT hZ (hw _ (List.mem_of_getElem? (i := 17) rfl))) (by decide) (own_backOfI (Ts' := ("" :: [])) (W := 1) (rm3e l Z aZ hw [] b481 b493 (fun _ => 0) h493 n0 Z493 f503 f505 f504 f506 g_b481 ((fun bq cq qq => K493.2.1 bq cq (hold bq cq qq) nin0) : ∀ (bq : Addr) (cq : Cell), Z.heap[bq]? = some cq → h493[bq]? = some cq) (held7 : Jvm.Lit.constHeld Z "java/lang/String" 7 ∧ Jvm.Lit.compactW.before aZ Z = true) (Ne.symm ne_b481_b493)) hZ (hw _ (List.mem_of_getElem? (i := 17) rfl)) (hw _ (List.mem_of_getElem? (i := 14) rfl)) (by decide) (by decide) hI0) (g := (mkF m 150 #[.val (.int p0), .val (.int p1), .val (.int p2), .val (.int p3), .val (.ref rr), .val (.int wh), .val (.int mo), .val (.int xx), .val (.int yy), .val (.ref bb), .unset, .unset, .val (.int ni), .unset] [(.ref b493), (.ref b481), (.ref b481)])) rfl (by rw [hml]; rfl) (Steps.refl _) (a := b481) (argsL := [(.ref b493)]) (rest := [(.ref b481)]) (lenOf own_pd7 rfl) rfl (by show 2 * 0 + _ ≤ _; exact Nat.le_of_eq rfl) (hb hby at_150) (fun _ _ => ⟨rfl, e493, (by decide : 3 + 2 ≤ _), (by decide : 22 + 8 ≤ _)⟩)
          dsimp only [Pt.U, Pt.locs, Pt.cells, Pt.slots] at X507 l507 y507 z507 st507 hQ507 hS507 hG507
          obtain rfl : k507 = 5 := y507
          obtain rfl : n507 = 30 := z507
          obtain ⟨hQ507, hI507⟩ := hQ507
          obtain ⟨s507, X507, ST507, hZ, hown, I507⟩ := own_backI X507 ST493 hS507 hG507 e493 hZ hown hI507
          obtain ⟨rfl, N507q, K507q, f507_0, f507_1⟩ := hQ507
          have N507 : Fr n0 L507 := by rw [l507]; exact Fr.app N317 N507q
          clear l507
          have f508 : Sta Z T507.heap "com/example/access_bindings/accessbindings/server/RestResource" "CLOUDS" "Lcom/example/access_bindings/accessbindings/server/RestResource;" (.ref cl) := own_Sta_keep f494 K507q (allS (own_nst f503) all0)
          have f509 : Sta Z T507.heap "com/example/access_bindings/accessbindings/server/RestResource" "COMMUNITIES" "Lcom/example/access_bindings/accessbindings/server/RestResource;" (.ref co) := own_Sta_keep f495 K507q (allS (own_nst f503) all0)
          have f510 : Sta Z T507.heap "com/example/access_bindings/accessbindings/server/RestResource" "CLUSTERS" "Lcom/example/access_bindings/accessbindings/server/RestResource;" (.ref cu) := own_Sta_keep f496 K507q (allS (own_nst f503) all0)
          have f511 : Sta Z T507.heap "com/example/access_bindings/accessbindings/server/RestResource" "APPLICATIONS" "Lcom/example/access_bindings/accessbindings/server/RestResource;" (.ref ap) := own_Sta_keep f497 K507q (allS (own_nst f503) all0)
          have f512 : Sta Z T507.heap "java/lang/String" "COMPACT_STRINGS" "Z" (.int zz) := own_Sta_keep f498 K507q (allS (own_nst f503) all0)
          have f513 : Exa Z T507.heap rr "com/example/access_bindings/accessbindings/server/RestResource" := f499.keep K507q
          have f514 : Fld Z T507.heap rr "com/example/access_bindings/accessbindings/server/RestResource" "listMethod" "Ljava/lang/String;" (.ref lm) := f500.keep K507q (ninS ne_rr_b481 nin0)
          have f515 : own_AI Z T507.heap bb .char nb gb := f501.keep K507q (ninS ne_bb_b481 nin0)
          have f516 : Exa Z T507.heap bb "[C" := f502.keep K507q
          have f517 : Exa Z T507.heap b481 "java/lang/String" := f503.keep K507q
          have f520 : own_AI Z T507.heap b493 .char 0 (fun _ => 0) := f506.keep K507q (ninS (Ne.symm ne_b481_b493) nin0)
          have f521 : Exa Z T507.heap b493 "[C" := B493.keep K507q
          have Z507 : n0 ≤ T507.heap.size := Nat.le_trans Z493 K507q.1
          have K507 : Keep h0 T507.heap [] := K493.trans K507q (allS (Or.inr sz_b481) all0)
          refine own_go (S' := T507.setTop (mkF m 153 #[.val (.int p0), .val (.int p1), .val (.int p2), .val (.int p3), .val (.ref rr), .val (.int wh), .val (.int mo), .val (.int xx), .val (.int yy), .val (.ref bb), .unset, .unset, .val (.int ni), .unset] [(.ref b481)])) (fun _ k => st507.trans k) ?_
          refine own_go (S' := T507.setTop (mkF m 256 #[.val (.int p0), .val (.int p1), .val (.int p2), .val (.int p3), .val (.ref rr), .val (.int wh), .val (.int mo), .val (.int xx), .val (.int yy), .val (.ref bb), .val (.int (0 : Int32)), .val (.ref b481), .val (.int (0 : Int32)), .unset] [])) (fun target kt => ?_) ?_
          · skip
            show Steps p.tables e below (T507.setTop (mkF m 153 #[.val (.int p0), .val (.int p1), .val (.int p2), .val (.int p3), .val (.ref rr), .val (.int wh), .val (.int mo), .val (.int xx), .val (.int yy), .val (.ref bb), .unset, .unset, .val (.int ni), .unset] [(.ref b481)])) _
            refine XS.astore X507.here hx rfl (hb hby at_153) rfl rfl (l' := #[.val (.int p0), .val (.int p1), .val (.int p2), .val (.int p3), .val (.ref rr), .val (.int wh), .val (.int mo), .val (.int xx), .val (.int yy), .val (.ref bb), .unset, .val (.ref b481), .val (.int ni), .unset]) rfl ?_
            show Steps p.tables e below (T507.setTop (mkF m 155 #[.val (.int p0), .val (.int p1), .val (.int p2), .val (.int p3), .val (.ref rr), .val (.int wh), .val (.int mo), .val (.int xx), .val (.int yy), .val (.ref bb), .unset, .val (.ref b481), .val (.int ni), .unset] [])) _
            refine XS.goto X507.here hx rfl (pc0 := 155) (pc' := 206) rfl (hb hby at_155) (by decide) (by decide) ?_
            show Steps p.tables e below (T507.setTop (mkF m 206 #[.val (.int p0), .val (.int p1), .val (.int p2), .val (.int p3), .val (.ref rr), .val (.int wh), .val (.int mo), .val (.int xx), .val (.int yy), .val (.ref bb), .unset, .val (.ref b481), .val (.int ni), .unset] [])) _
            refine XS.iconst X507.here hx rfl (hb hby at_206) ?_
            show Steps p.tables e below (T507.setTop (mkF m 207 #[.val (.int p0), .val (.int p1), .val (.int p2), .val (.int p3), .val (.ref rr), .val (.int wh), .val (.int mo), .val (.int xx), .val (.int yy), .val (.ref bb), .unset, .val (.ref b481), .val (.int ni), .unset] [(.int (0 : Int32))])) _
            refine XS.istore X507.here hx rfl (hb hby at_207) rfl (l' := #[.val (.int p0), .val (.int p1), .val (.int p2), .val (.int p3), .val (.ref rr), .val (.int wh), .val (.int mo), .val (.int xx), .val (.int yy), .val (.ref bb), .val (.int (0 : Int32)), .val (.ref b481), .val (.int ni), .unset]) rfl ?_
            show Steps p.tables e below (T507.setTop (mkF m 209 #[.val (.int p0), .val (.int p1), .val (.int p2), .val (.int p3), .val (.ref rr), .val (.int wh), .val (.int mo), .val (.int xx), .val (.int yy), .val (.ref bb), .val (.int (0 : Int32)), .val (.ref b481), .val (.int ni), .unset] [])) _
            refine XS.goto X507.here hx rfl (pc0 := 209) (pc' := 231) rfl (hb hby at_209) (by decide) (by decide) ?_
            show Steps p.tables e below (T507.setTop (mkF m 231 #[.val (.int p0), .val (.int p1), .val (.int p2), .val (.int p3), .val (.ref rr), .val (.int wh), .val (.int mo), .val (.int xx), .val (.int yy), .val (.ref bb), .val (.int (0 : Int32)), .val (.ref b481), .val (.int ni), .unset] [])) _
            refine XS.iload X507.here hx rfl (hb hby at_231) rfl ?_
            show Steps p.tables e below (T507.setTop (mkF m 233 #[.val (.int p0), .val (.int p1), .val (.int p2), .val (.int p3), .val (.ref rr), .val (.int wh), .val (.int mo), .val (.int xx), .val (.int yy), .val (.ref bb), .val (.int (0 : Int32)), .val (.ref b481), .val (.int ni), .unset] [(.int (0 : Int32))])) _
            refine XS.ifYes X507.here hx rfl (pc0 := 233) (pc' := 253) rfl (hb hby at_233) rfl ((if0 _ _).trans (teq (by decide : (0 : Int32) = (0 : Int32))).1) (by decide) (by decide) ?_
            show Steps p.tables e below (T507.setTop (mkF m 253 #[.val (.int p0), .val (.int p1), .val (.int p2), .val (.int p3), .val (.ref rr), .val (.int wh), .val (.int mo), .val (.int xx), .val (.int yy), .val (.ref bb), .val (.int (0 : Int32)), .val (.ref b481), .val (.int ni), .unset] [])) _
            refine XS.iconst X507.here hx rfl (hb hby at_253) ?_
            show Steps p.tables e below (T507.setTop (mkF m 254 #[.val (.int p0), .val (.int p1), .val (.int p2), .val (.int p3), .val (.ref rr), .val (.int wh), .val (.int mo), .val (.int xx), .val (.int yy), .val (.ref bb), .val (.int (0 : Int32)), .val (.ref b481), .val (.int ni), .unset] [(.int (0 : Int32))])) _
            refine XS.istore X507.here hx rfl (hb hby at_254) rfl (l' := #[.val (.int p0), .val (.int p1), .val (.int p2), .val (.int p3), .val (.ref rr), .val (.int wh), .val (.int mo), .val (.int xx), .val (.int yy), .val (.ref bb), .val (.int (0 : Int32)), .val (.ref b481), .val (.int (0 : Int32)), .unset]) rfl ?_
            exact kt
          have fLM : own_Str Z T507.heap lm ds := own_Str.keep fRT K507
          refine own_go (S' := T507.setTop (mkF m 260 #[.val (.int p0), .val (.int p1), .val (.int p2), .val (.int p3), .val (.ref rr), .val (.int wh), .val (.int mo), .val (.int xx), .val (.int yy), .val (.ref bb), .val (.int (0 : Int32)), .val (.ref b481), .val (.int (0 : Int32)), .unset] [(.ref b481), (.ref rr)])) (fun target kt => ?_) ?_
          · skip
            show Steps p.tables e below (T507.setTop (mkF m 256 #[.val (.int p0), .val (.int p1), .val (.int p2), .val (.int p3), .val (.ref rr), .val (.int wh), .val (.int mo), .val (.int xx), .val (.int yy), .val (.ref bb), .val (.int (0 : Int32)), .val (.ref b481), .val (.int (0 : Int32)), .unset] [])) _
            refine XS.aload X507.here hx rfl (hb hby at_256) rfl rfl ?_
            show Steps p.tables e below (T507.setTop (mkF m 258 #[.val (.int p0), .val (.int p1), .val (.int p2), .val (.int p3), .val (.ref rr), .val (.int wh), .val (.int mo), .val (.int xx), .val (.int yy), .val (.ref bb), .val (.int (0 : Int32)), .val (.ref b481), .val (.int (0 : Int32)), .unset] [(.ref rr)])) _
            refine XS.aload X507.here hx rfl (hb hby at_258) rfl rfl ?_
            exact kt
          obtain ⟨cq522, kq522, q522a, q522b, q522c⟩ := isOf hZ rfl f513
          obtain ⟨_, _, ⟨T522, L522, k522, n522⟩, -, X522, hS522, hG522, ⟨Lc522, hQ522, l522, y522, z522⟩, st522⟩ := X507.virtualBackS hx (y := (⟨"com/example/access_bindings/accessbindings/server/RestResource", "listsBindingsAt", "(Ljava/lang/String;)Z"⟩ : MethodName)) (z := (⟨"com/example/access_bindings/accessbindings/server/RestResource", "listsBindingsAt", "(Ljava/lang/String;)Z"⟩ : MethodName)) hown (mvT hZ (hw _ (List.mem_of_getElem? (i := 41) rfl))) (mvT hZ (hw _ (List.mem_of_getElem? (i := 42) rfl))) (notFace_of_selects (args := #[]) (mvT hZ (hw _ (List.mem_of_getElem? (i := 44) rfl)))) (mvT hZ (hw _ (List.mem_of_getElem? (i := 44) rfl))) (mvT hZ (hw _ (List.mem_of_getElem? (i := 43) rfl))) (by decide) (own_backOfI (Ts' := ("listAccessBindings" :: ("" :: []))) (W := 0) (rm9 l Z aZ hw [] rr b481 lm [] ds zz T507.heap n0 Z507 f513 f514 f507_0 f507_1 fLM f512 ((fun bq cq qq => K507.2.1 bq cq (hold bq cq qq) nin0) : ∀ (bq : Addr) (cq : Cell), Z.heap[bq]? = some cq → T507.heap[bq]? = some cq) (held31 : Jvm.Lit.constHeld Z "com/example/access_bindings/accessbindings/server/RestResource" 31 ∧ Jvm.Lit.compactW.before aZ Z = true) (zne : ¬ zz = 0)) hZ (hw _ (List.mem_of_getElem? (i := 45) rfl)) (hw _ (List.mem_of_getElem? (i := 5) rfl)) (by decide) (by decide) I507) q522a q522c (g := (mkF m 260 #[.val (.int p0), .val (.int p1), .val (.int p2), .val (.int p3), .val (.ref rr), .val (.int wh), .val (.int mo), .val (.int xx), .val (.int yy), .val (.ref bb), .val (.int (0 : Int32)), .val (.ref b481), .val (.int (0 : Int32)), .unset] [(.ref b481), (.ref rr)])) rfl (by rw [hml]; rfl) (Steps.refl _) (argsL := [(.ref b481)]) (rest := []) (lenOf own_pd9 rfl) rfl (by show 2 * 0 + _ ≤ _; exact Nat.le_of_eq rfl) (hb hby at_260) (fun _ _ => ⟨rfl, rfl, (by decide : 5 + 2 ≤ _), (by decide : 30 + 76 ≤ _)⟩)
          dsimp only [Pt.U, Pt.locs, Pt.cells, Pt.slots] at X522 l522 y522 z522 st522 hQ522 hS522 hG522
          obtain rfl : k522 = 7 := y522
          obtain rfl : n522 = 106 := z522
          obtain ⟨hQ522, hI522⟩ := hQ522
          obtain ⟨s522, X522, ST522, hZ, hown, I522⟩ := own_backI X522 ST507 hS522 hG522 rfl hZ hown hI522
          obtain ⟨rfl, N522q, K522q⟩ := hQ522
          have N522 : Fr n0 L522 := by rw [l522]; exact Fr.app N507 N522q
          clear l522
          have f523 : Sta Z T522.heap "com/example/access_bindings/accessbindings/server/RestResource" "CLOUDS" "Lcom/example/access_bindings/accessbindings/server/RestResource;" (.ref cl) := own_Sta_keep f508 K522q all0
          have f524 : Sta Z T522.heap "com/example/access_bindings/accessbindings/server/RestResource" "COMMUNITIES" "Lcom/example/access_bindings/accessbindings/server/RestResource;" (.ref co) := own_Sta_keep f509 K522q all0
          have f525 : Sta Z T522.heap "com/example/access_bindings/accessbindings/server/RestResource" "CLUSTERS" "Lcom/example/access_bindings/accessbindings/server/RestResource;" (.ref cu) := own_Sta_keep f510 K522q all0
          have f526 : Sta Z T522.heap "com/example/access_bindings/accessbindings/server/RestResource" "APPLICATIONS" "Lcom/example/access_bindings/accessbindings/server/RestResource;" (.ref ap) := own_Sta_keep f511 K522q all0
          have f527 : Sta Z T522.heap "java/lang/String" "COMPACT_STRINGS" "Z" (.int zz) := own_Sta_keep f512 K522q all0
          have f528 : Exa Z T522.heap rr "com/example/access_bindings/accessbindings/server/RestResource" := f513.keep K522q
          have f529 : Fld Z T522.heap rr "com/example/access_bindings/accessbindings/server/RestResource" "listMethod" "Ljava/lang/String;" (.ref lm) := f514.keep K522q nin0
          have f530 : own_AI Z T522.heap bb .char nb gb := f515.keep K522q nin0
          have f531 : Exa Z T522.heap bb "[C" := f516.keep K522q
          have f532 : Exa Z T522.heap b481 "java/lang/String" := f507_0.keep K522q
          have f533 : own_AI Z T522.heap b493 .char 0 (fun _ => 0) := f520.keep K522q nin0
          have f534 : Exa Z T522.heap b493 "[C" := f521.keep K522q
          have f535 : own_Str Z T522.heap b481 [] := f507_1.keep K522q
          have f536 : own_Str Z T522.heap lm ds := fLM.keep K522q
          have Z522 : n0 ≤ T522.heap.size := Nat.le_trans Z507 K522q.1
          have K522 : Keep h0 T522.heap [] := K507.trans K522q all0
          refine own_go (S' := T522.setTop (mkF m 263 #[.val (.int p0), .val (.int p1), .val (.int p2), .val (.int p3), .val (.ref rr), .val (.int wh), .val (.int mo), .val (.int xx), .val (.int yy), .val (.ref bb), .val (.int (0 : Int32)), .val (.ref b481), .val (.int (0 : Int32)), .unset] [(.int (own_lb [] ds))])) (fun _ k => st522.trans k) ?_
          refine own_go (S' := T522.setTop (mkF m 273 #[.val (.int p0), .val (.int p1), .val (.int p2), .val (.int p3), .val (.ref rr), .val (.int wh), .val (.int mo), .val (.int xx), .val (.int yy), .val (.ref bb), .val (.int (0 : Int32)), .val (.ref b481), .val (.int (0 : Int32)), .unset] [(.int (1 : Int32))])) (fun target kt => ?_) ?_
          · skip
            show Steps p.tables e below (T522.setTop (mkF m 263 #[.val (.int p0), .val (.int p1), .val (.int p2), .val (.int p3), .val (.ref rr), .val (.int wh), .val (.int mo), .val (.int xx), .val (.int yy), .val (.ref bb), .val (.int (0 : Int32)), .val (.ref b481), .val (.int (0 : Int32)), .unset] [(.int (own_lb [] ds))])) _
            refine XS.iload X522.here hx rfl (hb hby at_263) rfl ?_
            show Steps p.tables e below (T522.setTop (mkF m 265 #[.val (.int p0), .val (.int p1), .val (.int p2), .val (.int p3), .val (.ref rr), .val (.int wh), .val (.int mo), .val (.int xx), .val (.int yy), .val (.ref bb), .val (.int (0 : Int32)), .val (.ref b481), .val (.int (0 : Int32)), .unset] [(.int (0 : Int32)), (.int (own_lb [] ds))])) _
            refine XS.icmpNo X522.here hx rfl (hb hby at_265) rfl (teq (own_t4 hR (by decide) (by decide) : (own_lb [] ds) = (0 : Int32))).2 ?_
            show Steps p.tables e below (T522.setTop (mkF m 268 #[.val (.int p0), .val (.int p1), .val (.int p2), .val (.int p3), .val (.ref rr), .val (.int wh), .val (.int mo), .val (.int xx), .val (.int yy), .val (.ref bb), .val (.int (0 : Int32)), .val (.ref b481), .val (.int (0 : Int32)), .unset] [])) _
            refine XS.iconst X522.here hx rfl (hb hby at_268) ?_
            show Steps p.tables e below (T522.setTop (mkF m 269 #[.val (.int p0), .val (.int p1), .val (.int p2), .val (.int p3), .val (.ref rr), .val (.int wh), .val (.int mo), .val (.int xx), .val (.int yy), .val (.ref bb), .val (.int (0 : Int32)), .val (.ref b481), .val (.int (0 : Int32)), .unset] [(.int (1 : Int32))])) _
            refine XS.goto X522.here hx rfl (pc0 := 269) (pc' := 273) rfl (hb hby at_269) (by decide) (by decide) ?_
            exact kt
          obtain ⟨fs, hr, hrun, hended, hW, hBk, hsame⟩ := own_leave X522 rfl ST522 (v := some (.int (1 : Int32))) (fun h => by rw [Bd.returns] at h; cases h)
          refine ⟨_, _, ?_, hrun, hended, _, _, rfl, ?_, ⟨_, rfl⟩, hW, hBk, hsame.mono (by decide) (by decide)⟩
          · exact retN X522 hx (t := .boolean) Bd.returns (by simp) (hb hby at_273) hr
          · show Q0 Z p0 p1 p2 p3 cl co cu ap zz h0 n0 _ T522.heap _
            exact ⟨rfl, N522⟩
        · skip
          refine own_go (S' := T317.setTop (mkF m 161 #[.val (.int p0), .val (.int p1), .val (.int p2), .val (.int p3), .val (.ref rr), .val (.int wh), .val (.int mo), .val (.int xx), .val (.int yy), .val (.ref bb), .unset, .unset, .val (.int ni), .unset] [(.int (1 : Int32)), (.int ni)])) (fun target kt => ?_) ?_
          · skip
            show Steps p.tables e below (T317.setTop (mkF m 140 #[.val (.int p0), .val (.int p1), .val (.int p2), .val (.int p3), .val (.ref rr), .val (.int wh), .val (.int mo), .val (.int xx), .val (.int yy), .val (.ref bb), .unset, .unset, .val (.int ni), .unset] [(.int ni)])) _
            refine XS.ifYes X317.here hx rfl (pc0 := 140) (pc' := 158) rfl (hb hby at_140) rfl ((if0 _ _).trans (feq hc140).2) (by decide) (by decide) ?_
            show Steps p.tables e below (T317.setTop (mkF m 158 #[.val (.int p0), .val (.int p1), .val (.int p2), .val (.int p3), .val (.ref rr), .val (.int wh), .val (.int mo), .val (.int xx), .val (.int yy), .val (.ref bb), .unset, .unset, .val (.int ni), .unset] [])) _
            refine XS.iload X317.here hx rfl (hb hby at_158) rfl ?_
            show Steps p.tables e below (T317.setTop (mkF m 160 #[.val (.int p0), .val (.int p1), .val (.int p2), .val (.int p3), .val (.ref rr), .val (.int wh), .val (.int mo), .val (.int xx), .val (.int yy), .val (.ref bb), .unset, .unset, .val (.int ni), .unset] [(.int ni)])) _
            refine XS.iconst X317.here hx rfl (hb hby at_160) ?_
            exact kt
          by_cases hc161 : ni = (1 : Int32)
          · skip
            refine own_go (S' := T317.setTop (mkF m 164 #[.val (.int p0), .val (.int p1), .val (.int p2), .val (.int p3), .val (.ref rr), .val (.int wh), .val (.int mo), .val (.int xx), .val (.int yy), .val (.ref bb), .unset, .unset, .val (.int ni), .unset] [])) (fun target kt => ?_) ?_
            · skip
              show Steps p.tables e below (T317.setTop (mkF m 161 #[.val (.int p0), .val (.int p1), .val (.int p2), .val (.int p3), .val (.ref rr), .val (.int wh), .val (.int mo), .val (.int xx), .val (.int yy), .val (.ref bb), .unset, .unset, .val (.int ni), .unset] [(.int (1 : Int32)), (.int ni)])) _
              refine XS.icmpNo X317.here hx rfl (hb hby at_161) rfl (teq hc161).2 ?_
              exact kt
            obtain ⟨T537, h537, X537, e537, E537, A537, D537, -, st537⟩ := newO X317 hx hZ hown (hw _ (List.mem_of_getElem? (i := 12) rfl)) (hw _ (List.mem_of_getElem? (i := 13) rfl)) (hw _ (List.mem_of_getElem? (i := 14) rfl)) rfl (g := (mkF m 164 #[.val (.int p0), .val (.int p1), .val (.int p2), .val (.int p3), .val (.ref rr), .val (.int wh), .val (.int mo), .val (.int xx), .val (.int yy), .val (.ref bb), .unset, .unset, .val (.int ni), .unset] [])) rfl (hb hby at_164) (by decide) (by decide)
            obtain ⟨b537, g537⟩ : ∃ z, z = T317.heap.size := ⟨_, rfl⟩
            rw [← g537] at A537 D537 st537
            have f538 : Sta Z h537 "com/example/access_bindings/accessbindings/server/RestResource" "CLOUDS" "Lcom/example/access_bindings/accessbindings/server/RestResource;" (.ref cl) := f318.ext E537
            have f539 : Sta Z h537 "com/example/access_bindings/accessbindings/server/RestResource" "COMMUNITIES" "Lcom/example/access_bindings/accessbindings/server/RestResource;" (.ref co) := f319.ext E537
            have f540 : Sta Z h537 "com/example/access_bindings/accessbindings/server/RestResource" "CLUSTERS" "Lcom/example/access_bindings/accessbindings/server/RestResource;" (.ref cu) := f320.ext E537
            have f541 : Sta Z h537 "com/example/access_bindings/accessbindings/server/RestResource" "APPLICATIONS" "Lcom/example/access_bindings/accessbindings/server/RestResource;" (.ref ap) := f321.ext E537
            have f542 : Sta Z h537 "java/lang/String" "COMPACT_STRINGS" "Z" (.int zz) := f322.ext E537
            have f543 : Exa Z h537 rr "com/example/access_bindings/accessbindings/server/RestResource" := f323.ext E537
            have f544 : Fld Z h537 rr "com/example/access_bindings/accessbindings/server/RestResource" "listMethod" "Ljava/lang/String;" (.ref lm) := f324.ext E537
            have f545 : own_AI Z h537 bb .char nb gb := f317_0.ext E537
            have f546 : Exa Z h537 bb "[C" := f317_1.ext E537
            have g_b537 : n0 ≤ b537 := Nat.le_trans Z317 (Nat.le_of_eq g537.symm)
            have sz_b537 : h0.size ≤ b537 := Nat.le_trans K317.1 (Nat.le_of_eq g537.symm)
            have ne_rr_b537 : rr ≠ b537 := Nat.ne_of_lt (Nat.lt_of_lt_of_le f323.lt (Nat.le_of_eq g537.symm))
            have ne_bb_b537 : bb ≠ b537 := Nat.ne_of_lt (Nat.lt_of_lt_of_le f317_0.lt (Nat.le_of_eq g537.symm))
            have Z537 : n0 ≤ h537.size := Nat.le_trans Z317 E537.1
            have ST537 := ST317.le E537.1
            have K537 : Keep h0 h537 [] := K317.ext E537
            have f547 : Fld Z h537 b537 "java/lang/String" "coder" "B" (.int (0 : Int32)) := D537 (Or.inr (hw _ (List.mem_of_getElem? (i := 38) rfl))) (ty := .byte) (by decide)
            have f548 : Fld Z h537 b537 "java/lang/String" "value" "[B" .null := D537 (Or.inr (hw _ (List.mem_of_getElem? (i := 40) rfl))) (ty := (.array .byte)) (by decide)
            refine own_go (S' := T537.setTop (mkF m 167 #[.val (.int p0), .val (.int p1), .val (.int p2), .val (.int p3), .val (.ref rr), .val (.int wh), .val (.int mo), .val (.int xx), .val (.int yy), .val (.ref bb), .unset, .unset, .val (.int ni), .unset] [(.ref b537)])) st537 ?_
            refine own_go (S' := T537.setTop (mkF m 169 #[.val (.int p0), .val (.int p1), .val (.int p2), .val (.int p3), .val (.ref rr), .val (.int wh), .val (.int mo), .val (.int xx), .val (.int yy), .val (.ref bb), .unset, .unset, .val (.int ni), .unset] [(.int (1 : Int32)), (.ref b537), (.ref b537)])) (fun target kt => ?_) ?_
            · skip
              show Steps p.tables e below (T537.setTop (mkF m 167 #[.val (.int p0), .val (.int p1), .val (.int p2), .val (.int p3), .val (.ref rr), .val (.int wh), .val (.int mo), .val (.int xx), .val (.int yy), .val (.ref bb), .unset, .unset, .val (.int ni), .unset] [(.ref b537)])) _
              refine XS.dup X537.here hx rfl (hb hby at_167) rfl rfl ?_
              show Steps p.tables e below (T537.setTop (mkF m 168 #[.val (.int p0), .val (.int p1), .val (.int p2), .val (.int p3), .val (.ref rr), .val (.int wh), .val (.int mo), .val (.int xx), .val (.int yy), .val (.ref bb), .unset, .unset, .val (.int ni), .unset] [(.ref b537), (.ref b537)])) _
              refine XS.iconst X537.here hx rfl (hb hby at_168) ?_
              exact kt
            obtain ⟨T549, h549, k549, X549, e549, E549, A549, B549, st549⟩ := newPE X537 hx hZ (hw _ (List.mem_of_getElem? (i := 10) rfl)) e537 (g := (mkF m 169 #[.val (.int p0), .val (.int p1), .val (.int p2), .val (.int p3), .val (.ref rr), .val (.int wh), .val (.int mo), .val (.int xx), .val (.int yy), .val (.ref bb), .unset, .unset, .val (.int ni), .unset] [(.int (1 : Int32)), (.ref b537), (.ref b537)])) rfl (hb hby at_169) rfl (by decide) (cap := 1) (by decide) (by decide) (by decide) (by decide) (ad := "[C") (by decide)
            obtain ⟨b549, g549⟩ : ∃ z, z = h537.size := ⟨_, rfl⟩
            rw [← g549] at A549 B549 st549
            have f550 : Sta Z h549 "com/example/access_bindings/accessbindings/server/RestResource" "CLOUDS" "Lcom/example/access_bindings/accessbindings/server/RestResource;" (.ref cl) := f538.ext E549
            have f551 : Sta Z h549 "com/example/access_bindings/accessbindings/server/RestResource" "COMMUNITIES" "Lcom/example/access_bindings/accessbindings/server/RestResource;" (.ref co) := f539.ext E549
            have f552 : Sta Z h549 "com/example/access_bindings/accessbindings/server/RestResource" "CLUSTERS" "Lcom/example/access_bindings/accessbindings/server/RestResource;" (.ref cu) := f540.ext E549
            have f553 : Sta Z h549 "com/example/access_bindings/accessbindings/server/RestResource" "APPLICATIONS" "Lcom/example/access_bindings/accessbindings/server/RestResource;" (.ref ap) := f541.ext E549
            have f554 : Sta Z h549 "java/lang/String" "COMPACT_STRINGS" "Z" (.int zz) := f542.ext E549
            have f555 : Exa Z h549 rr "com/example/access_bindings/accessbindings/server/RestResource" := f543.ext E549
            have f556 : Fld Z h549 rr "com/example/access_bindings/accessbindings/server/RestResource" "listMethod" "Ljava/lang/String;" (.ref lm) := f544.ext E549
            have f557 : own_AI Z h549 bb .char nb gb := f545.ext E549
            have f558 : Exa Z h549 bb "[C" := f546.ext E549
            have f559 : Exa Z h549 b537 "java/lang/String" := A537.ext E549
            have f560 : Fld Z h549 b537 "java/lang/String" "coder" "B" (.int (0 : Int32)) := f547.ext E549
            have f561 : Fld Z h549 b537 "java/lang/String" "value" "[B" .null := f548.ext E549
            have g_b549 : n0 ≤ b549 := Nat.le_trans Z537 (Nat.le_of_eq g549.symm)
            have sz_b549 : h0.size ≤ b549 := Nat.le_trans K537.1 (Nat.le_of_eq g549.symm)
            have ne_rr_b549 : rr ≠ b549 := Nat.ne_of_lt (Nat.lt_of_lt_of_le f543.lt (Nat.le_of_eq g549.symm))
            have ne_bb_b549 : bb ≠ b549 := Nat.ne_of_lt (Nat.lt_of_lt_of_le f545.lt (Nat.le_of_eq g549.symm))
            have ne_b537_b549 : b537 ≠ b549 := Nat.ne_of_lt (Nat.lt_of_lt_of_le A537.lt (Nat.le_of_eq g549.symm))
            have Z549 : n0 ≤ h549.size := Nat.le_trans Z537 E549.1
            have ST549 := ST537.le E549.1
            have K549 : Keep h0 h549 [] := K537.ext E549
            have f562 : own_AI Z h549 b549 .char 1 (fun _ => 0) := own_AI.fresh A549 rfl
            refine own_go (S' := T549.setTop (mkF m 171 #[.val (.int p0), .val (.int p1), .val (.int p2), .val (.int p3), .val (.ref rr), .val (.int wh), .val (.int mo), .val (.int xx), .val (.int yy), .val (.ref bb), .unset, .unset, .val (.int ni), .unset] [(.ref b549), (.ref b537), (.ref b537)])) st549 ?_
            refine own_go (S' := T549.setTop (mkF m 175 #[.val (.int p0), .val (.int p1), .val (.int p2), .val (.int p3), .val (.ref rr), .val (.int wh), .val (.int mo), .val (.int xx), .val (.int yy), .val (.ref bb), .unset, .unset, .val (.int ni), .unset] [(.int xx), (.int (0 : Int32)), (.ref b549), (.ref b549), (.ref b537), (.ref b537)])) (fun target kt => ?_) ?_
            · skip
              show Steps p.tables e below (T549.setTop (mkF m 171 #[.val (.int p0), .val (.int p1), .val (.int p2), .val (.int p3), .val (.ref rr), .val (.int wh), .val (.int mo), .val (.int xx), .val (.int yy), .val (.ref bb), .unset, .unset, .val (.int ni), .unset] [(.ref b549), (.ref b537), (.ref b537)])) _
              refine XS.dup X549.here hx rfl (hb hby at_171) rfl rfl ?_
              show Steps p.tables e below (T549.setTop (mkF m 172 #[.val (.int p0), .val (.int p1), .val (.int p2), .val (.int p3), .val (.ref rr), .val (.int wh), .val (.int mo), .val (.int xx), .val (.int yy), .val (.ref bb), .unset, .unset, .val (.int ni), .unset] [(.ref b549), (.ref b549), (.ref b537), (.ref b537)])) _
              refine XS.iconst X549.here hx rfl (hb hby at_172) ?_
              show Steps p.tables e below (T549.setTop (mkF m 173 #[.val (.int p0), .val (.int p1), .val (.int p2), .val (.int p3), .val (.ref rr), .val (.int wh), .val (.int mo), .val (.int xx), .val (.int yy), .val (.ref bb), .unset, .unset, .val (.int ni), .unset] [(.int (0 : Int32)), (.ref b549), (.ref b549), (.ref b537), (.ref b537)])) _
              refine XS.iload X549.here hx rfl (hb hby at_173) rfl ?_
              exact kt
            obtain ⟨c563, Ar563, S563, M563, H563⟩ := id f562
            have hin563 : ¬ ((0 : Int32) < 0 ∨ c563.slots.size ≤ ((0 : Int32)).toNatClampNeg) := own_in S563 ⟨by decide, by decide⟩
            obtain ⟨T564, h564, X564, e564, W564, st564⟩ := stC X549 hx hZ e549 Ar563 (j := (0 : Int32)) hin563 (g := (mkF m 175 #[.val (.int p0), .val (.int p1), .val (.int p2), .val (.int p3), .val (.ref rr), .val (.int wh), .val (.int mo), .val (.int xx), .val (.int yy), .val (.ref bb), .unset, .unset, .val (.int ni), .unset] [(.int xx), (.int (0 : Int32)), (.ref b549), (.ref b549), (.ref b537), (.ref b537)])) rfl rfl (hb hby at_175)
            have f566 : Sta Z h564 "com/example/access_bindings/accessbindings/server/RestResource" "CLOUDS" "Lcom/example/access_bindings/accessbindings/server/RestResource;" (.ref cl) := f550.wr W564
            have f567 : Sta Z h564 "com/example/access_bindings/accessbindings/server/RestResource" "COMMUNITIES" "Lcom/example/access_bindings/accessbindings/server/RestResource;" (.ref co) := f551.wr W564
            have f568 : Sta Z h564 "com/example/access_bindings/accessbindings/server/RestResource" "CLUSTERS" "Lcom/example/access_bindings/accessbindings/server/RestResource;" (.ref cu) := f552.wr W564
            have f569 : Sta Z h564 "com/example/access_bindings/accessbindings/server/RestResource" "APPLICATIONS" "Lcom/example/access_bindings/accessbindings/server/RestResource;" (.ref ap) := f553.wr W564
            have f570 : Sta Z h564 "java/lang/String" "COMPACT_STRINGS" "Z" (.int zz) := f554.wr W564
            have f571 : Exa Z h564 rr "com/example/access_bindings/accessbindings/server/RestResource" := f555.wr W564
            have f572 : Fld Z h564 rr "com/example/access_bindings/accessbindings/server/RestResource" "listMethod" "Ljava/lang/String;" (.ref lm) := f556.other W564 (Or.inl ne_rr_b549)
            have f573 : own_AI Z h564 bb .char nb gb := f557.other W564 ne_bb_b549
            have f574 : Exa Z h564 bb "[C" := f558.wr W564
            have f575 : Exa Z h564 b537 "java/lang/String" := f559.wr W564
            have f576 : Fld Z h564 b537 "java/lang/String" "coder" "B" (.int (0 : Int32)) := f560.other W564 (Or.inl ne_b537_b549)
            have f577 : Fld Z h564 b537 "java/lang/String" "value" "[B" .null := f561.other W564 (Or.inl ne_b537_b549)
            have f578 : Exa Z h564 b549 "[C" := B549.wr W564
            have f565 : own_AI Z h564 b549 .char 1 (own_upd (fun _ => 0) 0 (nar .char xx)) := own_AI.set Ar563 S563 M563 H563 W564
            have Z564 : n0 ≤ h564.size := Nat.le_trans Z549 (Keep.of_wr W564).1
            have ST564 := ST549.le (Keep.of_wr W564).1
            have K564 : Keep h0 h564 [] := K549.wr W564 (Or.inr sz_b549)
            have N564 := Fr.snoc X564 N317 g_b549
            refine own_go (S' := T564.setTop (mkF m 176 #[.val (.int p0), .val (.int p1), .val (.int p2), .val (.int p3), .val (.ref rr), .val (.int wh), .val (.int mo), .val (.int xx), .val (.int yy), .val (.ref bb), .unset, .unset, .val (.int ni), .unset] [(.ref b549), (.ref b537), (.ref b537)])) st564 ?_
            obtain ⟨_, _, ⟨T579, L579, k579, n579⟩, -, X579, ⟨Lc579, hQ579, l579, y579, z579⟩, st579⟩ := X564.specialBack hx (y := (⟨"java/lang/String", "<init>", "([C)V"⟩ : MethodName)) rfl hown (mvT hZ (hw _ (List.mem_of_getElem? (i := 15) rfl))) (mvT hZ (hw _ (List.mem_of_getElem? (i := 16) rfl))) (mvT hZ (hw _ (List.mem_of_getElem? (i := 17) rfl))) (by decide) (own_newBack (W := 1) (n0 := n0) hZ hw Z564 f575 f577 f576 f565 f570 g_b537 (zne : ¬ zz = 0) (⟨by decide, by decide⟩ : 0 < 1 ∧ 1 ≤ 19) (own_upd_ok own_z_ok (own_cok h_xx) : ∀ i, i < 1 → ¬ (own_upd (fun _ => 0) 0 (nar .char xx)) i < 0 ∧ ¬ (255 : Int32) < (own_upd (fun _ => 0) 0 (nar .char xx)) i) (by decide) (by decide)) (g := (mkF m 176 #[.val (.int p0), .val (.int p1), .val (.int p2), .val (.int p3), .val (.ref rr), .val (.int wh), .val (.int mo), .val (.int xx), .val (.int yy), .val (.ref bb), .unset, .unset, .val (.int ni), .unset] [(.ref b549), (.ref b537), (.ref b537)])) rfl (by rw [hml]; rfl) (Steps.refl _) (a := b537) (argsL := [(.ref b549)]) (rest := [(.ref b537)]) (lenOf own_pd7 rfl) rfl (by show 2 * 0 + _ ≤ _; exact Nat.le_of_eq rfl) (hb hby at_176) (fun _ _ => ⟨rfl, e564, (by decide : 3 + 1 ≤ _), (by decide : 23 + 19 ≤ _)⟩)
            dsimp only [Pt.U, Pt.locs, Pt.cells, Pt.slots] at X579 l579 y579 z579 st579 hQ579
            obtain rfl : k579 = 4 := y579
            obtain rfl : n579 = 42 := z579
            obtain ⟨rfl, N579q, K579q, f579_0, f579_1⟩ := hQ579
            have N579 : Fr n0 L579 := by rw [l579]; exact Fr.app N564 N579q
            clear l579
            have f580 : Sta Z T579.heap "com/example/access_bindings/accessbindings/server/RestResource" "CLOUDS" "Lcom/example/access_bindings/accessbindings/server/RestResource;" (.ref cl) := own_Sta_keep f566 K579q (allS (own_nst f575) all0)
            have f581 : Sta Z T579.heap "com/example/access_bindings/accessbindings/server/RestResource" "COMMUNITIES" "Lcom/example/access_bindings/accessbindings/server/RestResource;" (.ref co) := own_Sta_keep f567 K579q (allS (own_nst f575) all0)
            have f582 : Sta Z T579.heap "com/example/access_bindings/accessbindings/server/RestResource" "CLUSTERS" "Lcom/example/access_bindings/accessbindings/server/RestResource;" (.ref cu) := own_Sta_keep f568 K579q (allS (own_nst f575) all0)
            have f583 : Sta Z T579.heap "com/example/access_bindings/accessbindings/server/RestResource" "APPLICATIONS" "Lcom/example/access_bindings/accessbindings/server/RestResource;" (.ref ap) := own_Sta_keep f569 K579q (allS (own_nst f575) all0)
            have f584 : Sta Z T579.heap "java/lang/String" "COMPACT_STRINGS" "Z" (.int zz) := own_Sta_keep f570 K579q (allS (own_nst f575) all0)
            have f585 : Exa Z T579.heap rr "com/example/access_bindings/accessbindings/server/RestResource" := f571.keep K579q
            have f586 : Fld Z T579.heap rr "com/example/access_bindings/accessbindings/server/RestResource" "listMethod" "Ljava/lang/String;" (.ref lm) := f572.keep K579q (ninS ne_rr_b537 nin0)
            have f587 : own_AI Z T579.heap bb .char nb gb := f573.keep K579q (ninS ne_bb_b537 nin0)
            have f588 : Exa Z T579.heap bb "[C" := f574.keep K579q
            have f589 : Exa Z T579.heap b537 "java/lang/String" := f575.keep K579q
            have f592 : Exa Z T579.heap b549 "[C" := f578.keep K579q
            have f593 : own_AI Z T579.heap b549 .char 1 (own_upd (fun _ => 0) 0 (nar .char xx)) := f565.keep K579q (ninS (Ne.symm ne_b537_b549) nin0)
            have Z579 : n0 ≤ T579.heap.size := Nat.le_trans Z564 K579q.1
            have ST579 := ST564.le K579q.1
            have K579 : Keep h0 T579.heap [] := K564.trans K579q (allS (Or.inr sz_b537) all0)
            refine own_go (S' := T579.setTop (mkF m 179 #[.val (.int p0), .val (.int p1), .val (.int p2), .val (.int p3), .val (.ref rr), .val (.int wh), .val (.int mo), .val (.int xx), .val (.int yy), .val (.ref bb), .unset, .unset, .val (.int ni), .unset] [(.ref b537)])) (fun _ k => st579.trans k) ?_
            refine own_go (S' := T579.setTop (mkF m 256 #[.val (.int p0), .val (.int p1), .val (.int p2), .val (.int p3), .val (.ref rr), .val (.int wh), .val (.int mo), .val (.int xx), .val (.int yy), .val (.ref bb), .val (.int (0 : Int32)), .val (.ref b537), .val (.int (0 : Int32)), .unset] [])) (fun target kt => ?_) ?_
            · skip
              show Steps p.tables e below (T579.setTop (mkF m 179 #[.val (.int p0), .val (.int p1), .val (.int p2), .val (.int p3), .val (.ref rr), .val (.int wh), .val (.int mo), .val (.int xx), .val (.int yy), .val (.ref bb), .unset, .unset, .val (.int ni), .unset] [(.ref b537)])) _
              refine XS.astore X579.here hx rfl (hb hby at_179) rfl rfl (l' := #[.val (.int p0), .val (.int p1), .val (.int p2), .val (.int p3), .val (.ref rr), .val (.int wh), .val (.int mo), .val (.int xx), .val (.int yy), .val (.ref bb), .unset, .val (.ref b537), .val (.int ni), .unset]) rfl ?_
              show Steps p.tables e below (T579.setTop (mkF m 181 #[.val (.int p0), .val (.int p1), .val (.int p2), .val (.int p3), .val (.ref rr), .val (.int wh), .val (.int mo), .val (.int xx), .val (.int yy), .val (.ref bb), .unset, .val (.ref b537), .val (.int ni), .unset] [])) _
              refine XS.goto X579.here hx rfl (pc0 := 181) (pc' := 206) rfl (hb hby at_181) (by decide) (by decide) ?_
              show Steps p.tables e below (T579.setTop (mkF m 206 #[.val (.int p0), .val (.int p1), .val (.int p2), .val (.int p3), .val (.ref rr), .val (.int wh), .val (.int mo), .val (.int xx), .val (.int yy), .val (.ref bb), .unset, .val (.ref b537), .val (.int ni), .unset] [])) _
              refine XS.iconst X579.here hx rfl (hb hby at_206) ?_
              show Steps p.tables e below (T579.setTop (mkF m 207 #[.val (.int p0), .val (.int p1), .val (.int p2), .val (.int p3), .val (.ref rr), .val (.int wh), .val (.int mo), .val (.int xx), .val (.int yy), .val (.ref bb), .unset, .val (.ref b537), .val (.int ni), .unset] [(.int (0 : Int32))])) _
              refine XS.istore X579.here hx rfl (hb hby at_207) rfl (l' := #[.val (.int p0), .val (.int p1), .val (.int p2), .val (.int p3), .val (.ref rr), .val (.int wh), .val (.int mo), .val (.int xx), .val (.int yy), .val (.ref bb), .val (.int (0 : Int32)), .val (.ref b537), .val (.int ni), .unset]) rfl ?_
              show Steps p.tables e below (T579.setTop (mkF m 209 #[.val (.int p0), .val (.int p1), .val (.int p2), .val (.int p3), .val (.ref rr), .val (.int wh), .val (.int mo), .val (.int xx), .val (.int yy), .val (.ref bb), .val (.int (0 : Int32)), .val (.ref b537), .val (.int ni), .unset] [])) _
              refine XS.goto X579.here hx rfl (pc0 := 209) (pc' := 231) rfl (hb hby at_209) (by decide) (by decide) ?_
              show Steps p.tables e below (T579.setTop (mkF m 231 #[.val (.int p0), .val (.int p1), .val (.int p2), .val (.int p3), .val (.ref rr), .val (.int wh), .val (.int mo), .val (.int xx), .val (.int yy), .val (.ref bb), .val (.int (0 : Int32)), .val (.ref b537), .val (.int ni), .unset] [])) _
              refine XS.iload X579.here hx rfl (hb hby at_231) rfl ?_
              show Steps p.tables e below (T579.setTop (mkF m 233 #[.val (.int p0), .val (.int p1), .val (.int p2), .val (.int p3), .val (.ref rr), .val (.int wh), .val (.int mo), .val (.int xx), .val (.int yy), .val (.ref bb), .val (.int (0 : Int32)), .val (.ref b537), .val (.int ni), .unset] [(.int (0 : Int32))])) _
              refine XS.ifYes X579.here hx rfl (pc0 := 233) (pc' := 253) rfl (hb hby at_233) rfl ((if0 _ _).trans (teq (by decide : (0 : Int32) = (0 : Int32))).1) (by decide) (by decide) ?_
              show Steps p.tables e below (T579.setTop (mkF m 253 #[.val (.int p0), .val (.int p1), .val (.int p2), .val (.int p3), .val (.ref rr), .val (.int wh), .val (.int mo), .val (.int xx), .val (.int yy), .val (.ref bb), .val (.int (0 : Int32)), .val (.ref b537), .val (.int ni), .unset] [])) _
              refine XS.iconst X579.here hx rfl (hb hby at_253) ?_
              show Steps p.tables e below (T579.setTop (mkF m 254 #[.val (.int p0), .val (.int p1), .val (.int p2), .val (.int p3), .val (.ref rr), .val (.int wh), .val (.int mo), .val (.int xx), .val (.int yy), .val (.ref bb), .val (.int (0 : Int32)), .val (.ref b537), .val (.int ni), .unset] [(.int (0 : Int32))])) _
              refine XS.istore X579.here hx rfl (hb hby at_254) rfl (l' := #[.val (.int p0), .val (.int p1), .val (.int p2), .val (.int p3), .val (.ref rr), .val (.int wh), .val (.int mo), .val (.int xx), .val (.int yy), .val (.ref bb), .val (.int (0 : Int32)), .val (.ref b537), .val (.int (0 : Int32)), .unset]) rfl ?_
              exact kt
            have fLM : own_Str Z T579.heap lm ds := own_Str.keep fRT K579
            refine own_go (S' := T579.setTop (mkF m 260 #[.val (.int p0), .val (.int p1), .val (.int p2), .val (.int p3), .val (.ref rr), .val (.int wh), .val (.int mo), .val (.int xx), .val (.int yy), .val (.ref bb), .val (.int (0 : Int32)), .val (.ref b537), .val (.int (0 : Int32)), .unset] [(.ref b537), (.ref rr)])) (fun target kt => ?_) ?_
            · skip
              show Steps p.tables e below (T579.setTop (mkF m 256 #[.val (.int p0), .val (.int p1), .val (.int p2), .val (.int p3), .val (.ref rr), .val (.int wh), .val (.int mo), .val (.int xx), .val (.int yy), .val (.ref bb), .val (.int (0 : Int32)), .val (.ref b537), .val (.int (0 : Int32)), .unset] [])) _
              refine XS.aload X579.here hx rfl (hb hby at_256) rfl rfl ?_
              show Steps p.tables e below (T579.setTop (mkF m 258 #[.val (.int p0), .val (.int p1), .val (.int p2), .val (.int p3), .val (.ref rr), .val (.int wh), .val (.int mo), .val (.int xx), .val (.int yy), .val (.ref bb), .val (.int (0 : Int32)), .val (.ref b537), .val (.int (0 : Int32)), .unset] [(.ref rr)])) _
              refine XS.aload X579.here hx rfl (hb hby at_258) rfl rfl ?_
              exact kt
            obtain ⟨cq594, kq594, q594a, q594b, q594c⟩ := isOf hZ rfl f585
            obtain ⟨_, _, ⟨T594, L594, k594, n594⟩, -, X594, hS594, hG594, ⟨Lc594, hQ594, l594, y594, z594⟩, st594⟩ := X579.virtualBackS hx (y := (⟨"com/example/access_bindings/accessbindings/server/RestResource", "listsBindingsAt", "(Ljava/lang/String;)Z"⟩ : MethodName)) (z := (⟨"com/example/access_bindings/accessbindings/server/RestResource", "listsBindingsAt", "(Ljava/lang/String;)Z"⟩ : MethodName)) hown (mvT hZ (hw _ (List.mem_of_getElem? (i := 41) rfl))) (mvT hZ (hw _ (List.mem_of_getElem? (i := 42) rfl))) (notFace_of_selects (args := #[]) (mvT hZ (hw _ (List.mem_of_getElem? (i := 44) rfl)))) (mvT hZ (hw _ (List.mem_of_getElem? (i := 44) rfl))) (mvT hZ (hw _ (List.mem_of_getElem? (i := 43) rfl))) (by decide) (own_backOfI (Ts' := ("listAccessBindings" :: ("" :: []))) (W := 0) (rm9 l Z aZ hw [] rr b537 lm ((List.range 1).map (own_upd (fun _ => 0) 0 (nar .char xx))) ds zz T579.heap n0 Z579 f585 f586 f579_0 f579_1 fLM f584 ((fun bq cq qq => K579.2.1 bq cq (hold bq cq qq) nin0) : ∀ (bq : Addr) (cq : Cell), Z.heap[bq]? = some cq → T579.heap[bq]? = some cq) (held31 : Jvm.Lit.constHeld Z "com/example/access_bindings/accessbindings/server/RestResource" 31 ∧ Jvm.Lit.compactW.before aZ Z = true) (zne : ¬ zz = 0)) hZ (hw _ (List.mem_of_getElem? (i := 45) rfl)) (hw _ (List.mem_of_getElem? (i := 5) rfl)) (by decide) (by decide) (own_IB.more hI0 (by simp))) q594a q594c (g := (mkF m 260 #[.val (.int p0), .val (.int p1), .val (.int p2), .val (.int p3), .val (.ref rr), .val (.int wh), .val (.int mo), .val (.int xx), .val (.int yy), .val (.ref bb), .val (.int (0 : Int32)), .val (.ref b537), .val (.int (0 : Int32)), .unset] [(.ref b537), (.ref rr)])) rfl (by rw [hml]; rfl) (Steps.refl _) (argsL := [(.ref b537)]) (rest := []) (lenOf own_pd9 rfl) rfl (by show 2 * 0 + _ ≤ _; exact Nat.le_of_eq rfl) (hb hby at_260) (fun _ _ => ⟨rfl, rfl, (by decide : 4 + 2 ≤ _), (by decide : 42 + 76 ≤ _)⟩)
            dsimp only [Pt.U, Pt.locs, Pt.cells, Pt.slots] at X594 l594 y594 z594 st594 hQ594 hS594 hG594
            obtain rfl : k594 = 6 := y594
            obtain rfl : n594 = 118 := z594
            obtain ⟨hQ594, hI594⟩ := hQ594
            obtain ⟨s594, X594, ST594, hZ, hown, I594⟩ := own_backI X594 ST579 hS594 hG594 rfl hZ hown hI594
            obtain ⟨rfl, N594q, K594q⟩ := hQ594
            have N594 : Fr n0 L594 := by rw [l594]; exact Fr.app N579 N594q
            clear l594
            have f595 : Sta Z T594.heap "com/example/access_bindings/accessbindings/server/RestResource" "CLOUDS" "Lcom/example/access_bindings/accessbindings/server/RestResource;" (.ref cl) := own_Sta_keep f580 K594q all0
            have f596 : Sta Z T594.heap "com/example/access_bindings/accessbindings/server/RestResource" "COMMUNITIES" "Lcom/example/access_bindings/accessbindings/server/RestResource;" (.ref co) := own_Sta_keep f581 K594q all0
            have f597 : Sta Z T594.heap "com/example/access_bindings/accessbindings/server/RestResource" "CLUSTERS" "Lcom/example/access_bindings/accessbindings/server/RestResource;" (.ref cu) := own_Sta_keep f582 K594q all0
            have f598 : Sta Z T594.heap "com/example/access_bindings/accessbindings/server/RestResource" "APPLICATIONS" "Lcom/example/access_bindings/accessbindings/server/RestResource;" (.ref ap) := own_Sta_keep f583 K594q all0
            have f599 : Sta Z T594.heap "java/lang/String" "COMPACT_STRINGS" "Z" (.int zz) := own_Sta_keep f584 K594q all0
            have f600 : Exa Z T594.heap rr "com/example/access_bindings/accessbindings/server/RestResource" := f585.keep K594q
            have f601 : Fld Z T594.heap rr "com/example/access_bindings/accessbindings/server/RestResource" "listMethod" "Ljava/lang/String;" (.ref lm) := f586.keep K594q nin0
            have f602 : own_AI Z T594.heap bb .char nb gb := f587.keep K594q nin0
            have f603 : Exa Z T594.heap bb "[C" := f588.keep K594q
            have f604 : Exa Z T594.heap b537 "java/lang/String" := f579_0.keep K594q
            have f605 : Exa Z T594.heap b549 "[C" := f592.keep K594q
            have f606 : own_AI Z T594.heap b549 .char 1 (own_upd (fun _ => 0) 0 (nar .char xx)) := f593.keep K594q nin0
            have f607 : own_Str Z T594.heap b537 ((List.range 1).map (own_upd (fun _ => 0) 0 (nar .char xx))) := f579_1.keep K594q
            have f608 : own_Str Z T594.heap lm ds := fLM.keep K594q
            have Z594 : n0 ≤ T594.heap.size := Nat.le_trans Z579 K594q.1
            have K594 : Keep h0 T594.heap [] := K579.trans K594q all0
            refine own_go (S' := T594.setTop (mkF m 263 #[.val (.int p0), .val (.int p1), .val (.int p2), .val (.int p3), .val (.ref rr), .val (.int wh), .val (.int mo), .val (.int xx), .val (.int yy), .val (.ref bb), .val (.int (0 : Int32)), .val (.ref b537), .val (.int (0 : Int32)), .unset] [(.int (own_lb ((List.range 1).map (own_upd (fun _ => 0) 0 (nar .char xx))) ds))])) (fun _ k => st594.trans k) ?_
            refine own_go (S' := T594.setTop (mkF m 273 #[.val (.int p0), .val (.int p1), .val (.int p2), .val (.int p3), .val (.ref rr), .val (.int wh), .val (.int mo), .val (.int xx), .val (.int yy), .val (.ref bb), .val (.int (0 : Int32)), .val (.ref b537), .val (.int (0 : Int32)), .unset] [(.int (1 : Int32))])) (fun target kt => ?_) ?_
            · skip
              show Steps p.tables e below (T594.setTop (mkF m 263 #[.val (.int p0), .val (.int p1), .val (.int p2), .val (.int p3), .val (.ref rr), .val (.int wh), .val (.int mo), .val (.int xx), .val (.int yy), .val (.ref bb), .val (.int (0 : Int32)), .val (.ref b537), .val (.int (0 : Int32)), .unset] [(.int (own_lb ((List.range 1).map (own_upd (fun _ => 0) 0 (nar .char xx))) ds))])) _
              refine XS.iload X594.here hx rfl (hb hby at_263) rfl ?_
              show Steps p.tables e below (T594.setTop (mkF m 265 #[.val (.int p0), .val (.int p1), .val (.int p2), .val (.int p3), .val (.ref rr), .val (.int wh), .val (.int mo), .val (.int xx), .val (.int yy), .val (.ref bb), .val (.int (0 : Int32)), .val (.ref b537), .val (.int (0 : Int32)), .unset] [(.int (0 : Int32)), (.int (own_lb ((List.range 1).map (own_upd (fun _ => 0) 0 (nar .char xx))) ds))])) _
              refine XS.icmpNo X594.here hx rfl (hb hby at_265) rfl (teq (own_t5 hR (by decide) (by decide) : (own_lb ((List.range 1).map (own_upd (fun _ => 0) 0 (nar .char xx))) ds) = (0 : Int32))).2 ?_
              show Steps p.tables e below (T594.setTop (mkF m 268 #[.val (.int p0), .val (.int p1), .val (.int p2), .val (.int p3), .val (.ref rr), .val (.int wh), .val (.int mo), .val (.int xx), .val (.int yy), .val (.ref bb), .val (.int (0 : Int32)), .val (.ref b537), .val (.int (0 : Int32)), .unset] [])) _
              refine XS.iconst X594.here hx rfl (hb hby at_268) ?_
              show Steps p.tables e below (T594.setTop (mkF m 269 #[.val (.int p0), .val (.int p1), .val (.int p2), .val (.int p3), .val (.ref rr), .val (.int wh), .val (.int mo), .val (.int xx), .val (.int yy), .val (.ref bb), .val (.int (0 : Int32)), .val (.ref b537), .val (.int (0 : Int32)), .unset] [(.int (1 : Int32))])) _
              refine XS.goto X594.here hx rfl (pc0 := 269) (pc' := 273) rfl (hb hby at_269) (by decide) (by decide) ?_
              exact kt
            obtain ⟨fs, hr, hrun, hended, hW, hBk, hsame⟩ := own_leave X594 rfl ST594 (v := some (.int (1 : Int32))) (fun h => by rw [Bd.returns] at h; cases h)
            refine ⟨_, _, ?_, hrun, hended, _, _, rfl, ?_, ⟨_, rfl⟩, hW, hBk, hsame.mono (by decide) (by decide)⟩
            · exact retN X594 hx (t := .boolean) Bd.returns (by simp) (hb hby at_273) hr
            · show Q0 Z p0 p1 p2 p3 cl co cu ap zz h0 n0 _ T594.heap _
              exact ⟨rfl, N594⟩
          · skip
            refine own_go (S' := T317.setTop (mkF m 184 #[.val (.int p0), .val (.int p1), .val (.int p2), .val (.int p3), .val (.ref rr), .val (.int wh), .val (.int mo), .val (.int xx), .val (.int yy), .val (.ref bb), .unset, .unset, .val (.int ni), .unset] [])) (fun target kt => ?_) ?_
            · skip
              show Steps p.tables e below (T317.setTop (mkF m 161 #[.val (.int p0), .val (.int p1), .val (.int p2), .val (.int p3), .val (.ref rr), .val (.int wh), .val (.int mo), .val (.int xx), .val (.int yy), .val (.ref bb), .unset, .unset, .val (.int ni), .unset] [(.int (1 : Int32)), (.int ni)])) _
              refine XS.icmpYes X317.here hx rfl (pc0 := 161) (pc' := 184) rfl (hb hby at_161) rfl (feq hc161).2 (by decide) (by decide) ?_
              exact kt
            obtain ⟨T609, h609, X609, e609, E609, A609, D609, -, st609⟩ := newO X317 hx hZ hown (hw _ (List.mem_of_getElem? (i := 12) rfl)) (hw _ (List.mem_of_getElem? (i := 13) rfl)) (hw _ (List.mem_of_getElem? (i := 14) rfl)) rfl (g := (mkF m 184 #[.val (.int p0), .val (.int p1), .val (.int p2), .val (.int p3), .val (.ref rr), .val (.int wh), .val (.int mo), .val (.int xx), .val (.int yy), .val (.ref bb), .unset, .unset, .val (.int ni), .unset] [])) rfl (hb hby at_184) (by decide) (by decide)
            obtain ⟨b609, g609⟩ : ∃ z, z = T317.heap.size := ⟨_, rfl⟩
            rw [← g609] at A609 D609 st609
            have f610 : Sta Z h609 "com/example/access_bindings/accessbindings/server/RestResource" "CLOUDS" "Lcom/example/access_bindings/accessbindings/server/RestResource;" (.ref cl) := f318.ext E609
            have f611 : Sta Z h609 "com/example/access_bindings/accessbindings/server/RestResource" "COMMUNITIES" "Lcom/example/access_bindings/accessbindings/server/RestResource;" (.ref co) := f319.ext E609
            have f612 : Sta Z h609 "com/example/access_bindings/accessbindings/server/RestResource" "CLUSTERS" "Lcom/example/access_bindings/accessbindings/server/RestResource;" (.ref cu) := f320.ext E609
            have f613 : Sta Z h609 "com/example/access_bindings/accessbindings/server/RestResource" "APPLICATIONS" "Lcom/example/access_bindings/accessbindings/server/RestResource;" (.ref ap) := f321.ext E609
            have f614 : Sta Z h609 "java/lang/String" "COMPACT_STRINGS" "Z" (.int zz) := f322.ext E609
            have f615 : Exa Z h609 rr "com/example/access_bindings/accessbindings/server/RestResource" := f323.ext E609
            have f616 : Fld Z h609 rr "com/example/access_bindings/accessbindings/server/RestResource" "listMethod" "Ljava/lang/String;" (.ref lm) := f324.ext E609
            have f617 : own_AI Z h609 bb .char nb gb := f317_0.ext E609
            have f618 : Exa Z h609 bb "[C" := f317_1.ext E609
            have g_b609 : n0 ≤ b609 := Nat.le_trans Z317 (Nat.le_of_eq g609.symm)
            have sz_b609 : h0.size ≤ b609 := Nat.le_trans K317.1 (Nat.le_of_eq g609.symm)
            have ne_rr_b609 : rr ≠ b609 := Nat.ne_of_lt (Nat.lt_of_lt_of_le f323.lt (Nat.le_of_eq g609.symm))
            have ne_bb_b609 : bb ≠ b609 := Nat.ne_of_lt (Nat.lt_of_lt_of_le f317_0.lt (Nat.le_of_eq g609.symm))
            have Z609 : n0 ≤ h609.size := Nat.le_trans Z317 E609.1
            have ST609 := ST317.le E609.1
            have K609 : Keep h0 h609 [] := K317.ext E609
            have f619 : Fld Z h609 b609 "java/lang/String" "coder" "B" (.int (0 : Int32)) := D609 (Or.inr (hw _ (List.mem_of_getElem? (i := 38) rfl))) (ty := .byte) (by decide)
            have f620 : Fld Z h609 b609 "java/lang/String" "value" "[B" .null := D609 (Or.inr (hw _ (List.mem_of_getElem? (i := 40) rfl))) (ty := (.array .byte)) (by decide)
            refine own_go (S' := T609.setTop (mkF m 187 #[.val (.int p0), .val (.int p1), .val (.int p2), .val (.int p3), .val (.ref rr), .val (.int wh), .val (.int mo), .val (.int xx), .val (.int yy), .val (.ref bb), .unset, .unset, .val (.int ni), .unset] [(.ref b609)])) st609 ?_
            refine own_go (S' := T609.setTop (mkF m 189 #[.val (.int p0), .val (.int p1), .val (.int p2), .val (.int p3), .val (.ref rr), .val (.int wh), .val (.int mo), .val (.int xx), .val (.int yy), .val (.ref bb), .unset, .unset, .val (.int ni), .unset] [(.int (2 : Int32)), (.ref b609), (.ref b609)])) (fun target kt => ?_) ?_
            · skip
              show Steps p.tables e below (T609.setTop (mkF m 187 #[.val (.int p0), .val (.int p1), .val (.int p2), .val (.int p3), .val (.ref rr), .val (.int wh), .val (.int mo), .val (.int xx), .val (.int yy), .val (.ref bb), .unset, .unset, .val (.int ni), .unset] [(.ref b609)])) _
              refine XS.dup X609.here hx rfl (hb hby at_187) rfl rfl ?_
              show Steps p.tables e below (T609.setTop (mkF m 188 #[.val (.int p0), .val (.int p1), .val (.int p2), .val (.int p3), .val (.ref rr), .val (.int wh), .val (.int mo), .val (.int xx), .val (.int yy), .val (.ref bb), .unset, .unset, .val (.int ni), .unset] [(.ref b609), (.ref b609)])) _
              refine XS.iconst X609.here hx rfl (hb hby at_188) ?_
              exact kt
            obtain ⟨T621, h621, k621, X621, e621, E621, A621, B621, st621⟩ := newPE X609 hx hZ (hw _ (List.mem_of_getElem? (i := 10) rfl)) e609 (g := (mkF m 189 #[.val (.int p0), .val (.int p1), .val (.int p2), .val (.int p3), .val (.ref rr), .val (.int wh), .val (.int mo), .val (.int xx), .val (.int yy), .val (.ref bb), .unset, .unset, .val (.int ni), .unset] [(.int (2 : Int32)), (.ref b609), (.ref b609)])) rfl (hb hby at_189) rfl (by decide) (cap := 2) (by decide) (by decide) (by decide) (by decide) (ad := "[C") (by decide)
            obtain ⟨b621, g621⟩ : ∃ z, z = h609.size := ⟨_, rfl⟩
            rw [← g621] at A621 B621 st621
            have f622 : Sta Z h621 "com/example/access_bindings/accessbindings/server/RestResource" "CLOUDS" "Lcom/example/access_bindings/accessbindings/server/RestResource;" (.ref cl) := f610.ext E621
            have f623 : Sta Z h621 "com/example/access_bindings/accessbindings/server/RestResource" "COMMUNITIES" "Lcom/example/access_bindings/accessbindings/server/RestResource;" (.ref co) := f611.ext E621
            have f624 : Sta Z h621 "com/example/access_bindings/accessbindings/server/RestResource" "CLUSTERS" "Lcom/example/access_bindings/accessbindings/server/RestResource;" (.ref cu) := f612.ext E621
            have f625 : Sta Z h621 "com/example/access_bindings/accessbindings/server/RestResource" "APPLICATIONS" "Lcom/example/access_bindings/accessbindings/server/RestResource;" (.ref ap) := f613.ext E621
            have f626 : Sta Z h621 "java/lang/String" "COMPACT_STRINGS" "Z" (.int zz) := f614.ext E621
            have f627 : Exa Z h621 rr "com/example/access_bindings/accessbindings/server/RestResource" := f615.ext E621
            have f628 : Fld Z h621 rr "com/example/access_bindings/accessbindings/server/RestResource" "listMethod" "Ljava/lang/String;" (.ref lm) := f616.ext E621
            have f629 : own_AI Z h621 bb .char nb gb := f617.ext E621
            have f630 : Exa Z h621 bb "[C" := f618.ext E621
            have f631 : Exa Z h621 b609 "java/lang/String" := A609.ext E621
            have f632 : Fld Z h621 b609 "java/lang/String" "coder" "B" (.int (0 : Int32)) := f619.ext E621
            have f633 : Fld Z h621 b609 "java/lang/String" "value" "[B" .null := f620.ext E621
            have g_b621 : n0 ≤ b621 := Nat.le_trans Z609 (Nat.le_of_eq g621.symm)
            have sz_b621 : h0.size ≤ b621 := Nat.le_trans K609.1 (Nat.le_of_eq g621.symm)
            have ne_rr_b621 : rr ≠ b621 := Nat.ne_of_lt (Nat.lt_of_lt_of_le f615.lt (Nat.le_of_eq g621.symm))
            have ne_bb_b621 : bb ≠ b621 := Nat.ne_of_lt (Nat.lt_of_lt_of_le f617.lt (Nat.le_of_eq g621.symm))
            have ne_b609_b621 : b609 ≠ b621 := Nat.ne_of_lt (Nat.lt_of_lt_of_le A609.lt (Nat.le_of_eq g621.symm))
            have Z621 : n0 ≤ h621.size := Nat.le_trans Z609 E621.1
            have ST621 := ST609.le E621.1
            have K621 : Keep h0 h621 [] := K609.ext E621
            have f634 : own_AI Z h621 b621 .char 2 (fun _ => 0) := own_AI.fresh A621 rfl
            refine own_go (S' := T621.setTop (mkF m 191 #[.val (.int p0), .val (.int p1), .val (.int p2), .val (.int p3), .val (.ref rr), .val (.int wh), .val (.int mo), .val (.int xx), .val (.int yy), .val (.ref bb), .unset, .unset, .val (.int ni), .unset] [(.ref b621), (.ref b609), (.ref b609)])) st621 ?_
            refine own_go (S' := T621.setTop (mkF m 195 #[.val (.int p0), .val (.int p1), .val (.int p2), .val (.int p3), .val (.ref rr), .val (.int wh), .val (.int mo), .val (.int xx), .val (.int yy), .val (.ref bb), .unset, .unset, .val (.int ni), .unset] [(.int xx), (.int (0 : Int32)), (.ref b621), (.ref b621), (.ref b609), (.ref b609)])) (fun target kt => ?_) ?_
            · skip
              show Steps p.tables e below (T621.setTop (mkF m 191 #[.val (.int p0), .val (.int p1), .val (.int p2), .val (.int p3), .val (.ref rr), .val (.int wh), .val (.int mo), .val (.int xx), .val (.int yy), .val (.ref bb), .unset, .unset, .val (.int ni), .unset] [(.ref b621), (.ref b609), (.ref b609)])) _
              refine XS.dup X621.here hx rfl (hb hby at_191) rfl rfl ?_
              show Steps p.tables e below (T621.setTop (mkF m 192 #[.val (.int p0), .val (.int p1), .val (.int p2), .val (.int p3), .val (.ref rr), .val (.int wh), .val (.int mo), .val (.int xx), .val (.int yy), .val (.ref bb), .unset, .unset, .val (.int ni), .unset] [(.ref b621), (.ref b621), (.ref b609), (.ref b609)])) _
              refine XS.iconst X621.here hx rfl (hb hby at_192) ?_
              show Steps p.tables e below (T621.setTop (mkF m 193 #[.val (.int p0), .val (.int p1), .val (.int p2), .val (.int p3), .val (.ref rr), .val (.int wh), .val (.int mo), .val (.int xx), .val (.int yy), .val (.ref bb), .unset, .unset, .val (.int ni), .unset] [(.int (0 : Int32)), (.ref b621), (.ref b621), (.ref b609), (.ref b609)])) _
              refine XS.iload X621.here hx rfl (hb hby at_193) rfl ?_
              exact kt
            obtain ⟨c635, Ar635, S635, M635, H635⟩ := id f634
            have hin635 : ¬ ((0 : Int32) < 0 ∨ c635.slots.size ≤ ((0 : Int32)).toNatClampNeg) := own_in S635 ⟨by decide, by decide⟩
            obtain ⟨T636, h636, X636, e636, W636, st636⟩ := stC X621 hx hZ e621 Ar635 (j := (0 : Int32)) hin635 (g := (mkF m 195 #[.val (.int p0), .val (.int p1), .val (.int p2), .val (.int p3), .val (.ref rr), .val (.int wh), .val (.int mo), .val (.int xx), .val (.int yy), .val (.ref bb), .unset, .unset, .val (.int ni), .unset] [(.int xx), (.int (0 : Int32)), (.ref b621), (.ref b621), (.ref b609), (.ref b609)])) rfl rfl (hb hby at_195)
            have f638 : Sta Z h636 "com/example/access_bindings/accessbindings/server/RestResource" "CLOUDS" "Lcom/example/access_bindings/accessbindings/server/RestResource;" (.ref cl) := f622.wr W636
            have f639 : Sta Z h636 "com/example/access_bindings/accessbindings/server/RestResource" "COMMUNITIES" "Lcom/example/access_bindings/accessbindings/server/RestResource;" (.ref co) := f623.wr W636
            have f640 : Sta Z h636 "com/example/access_bindings/accessbindings/server/RestResource" "CLUSTERS" "Lcom/example/access_bindings/accessbindings/server/RestResource;" (.ref cu) := f624.wr W636
            have f641 : Sta Z h636 "com/example/access_bindings/accessbindings/server/RestResource" "APPLICATIONS" "Lcom/example/access_bindings/accessbindings/server/RestResource;" (.ref ap) := f625.wr W636
            have f642 : Sta Z h636 "java/lang/String" "COMPACT_STRINGS" "Z" (.int zz) := f626.wr W636
            have f643 : Exa Z h636 rr "com/example/access_bindings/accessbindings/server/RestResource" := f627.wr W636
            have f644 : Fld Z h636 rr "com/example/access_bindings/accessbindings/server/RestResource" "listMethod" "Ljava/lang/String;" (.ref lm) := f628.other W636 (Or.inl ne_rr_b621)
            have f645 : own_AI Z h636 bb .char nb gb := f629.other W636 ne_bb_b621
            have f646 : Exa Z h636 bb "[C" := f630.wr W636
            have f647 : Exa Z h636 b609 "java/lang/String" := f631.wr W636
            have f648 : Fld Z h636 b609 "java/lang/String" "coder" "B" (.int (0 : Int32)) := f632.other W636 (Or.inl ne_b609_b621)
            have f649 : Fld Z h636 b609 "java/lang/String" "value" "[B" .null := f633.other W636 (Or.inl ne_b609_b621)
            have f650 : Exa Z h636 b621 "[C" := B621.wr W636
            have f637 : own_AI Z h636 b621 .char 2 (own_upd (fun _ => 0) 0 (nar .char xx)) := own_AI.set Ar635 S635 M635 H635 W636
            have Z636 : n0 ≤ h636.size := Nat.le_trans Z621 (Keep.of_wr W636).1
            have ST636 := ST621.le (Keep.of_wr W636).1
            have K636 : Keep h0 h636 [] := K621.wr W636 (Or.inr sz_b621)
            have N636 := Fr.snoc X636 N317 g_b621
            refine own_go (S' := T636.setTop (mkF m 196 #[.val (.int p0), .val (.int p1), .val (.int p2), .val (.int p3), .val (.ref rr), .val (.int wh), .val (.int mo), .val (.int xx), .val (.int yy), .val (.ref bb), .unset, .unset, .val (.int ni), .unset] [(.ref b621), (.ref b609), (.ref b609)])) st636 ?_
            refine own_go (S' := T636.setTop (mkF m 200 #[.val (.int p0), .val (.int p1), .val (.int p2), .val (.int p3), .val (.ref rr), .val (.int wh), .val (.int mo), .val (.int xx), .val (.int yy), .val (.ref bb), .unset, .unset, .val (.int ni), .unset] [(.int yy), (.int (1 : Int32)), (.ref b621), (.ref b621), (.ref b609), (.ref b609)])) (fun target kt => ?_) ?_
            · skip
              show Steps p.tables e below (T636.setTop (mkF m 196 #[.val (.int p0), .val (.int p1), .val (.int p2), .val (.int p3), .val (.ref rr), .val (.int wh), .val (.int mo), .val (.int xx), .val (.int yy), .val (.ref bb), .unset, .unset, .val (.int ni), .unset] [(.ref b621), (.ref b609), (.ref b609)])) _
              refine XS.dup X636.here hx rfl (hb hby at_196) rfl rfl ?_
              show Steps p.tables e below (T636.setTop (mkF m 197 #[.val (.int p0), .val (.int p1), .val (.int p2), .val (.int p3), .val (.ref rr), .val (.int wh), .val (.int mo), .val (.int xx), .val (.int yy), .val (.ref bb), .unset, .unset, .val (.int ni), .unset] [(.ref b621), (.ref b621), (.ref b609), (.ref b609)])) _
              refine XS.iconst X636.here hx rfl (hb hby at_197) ?_
              show Steps p.tables e below (T636.setTop (mkF m 198 #[.val (.int p0), .val (.int p1), .val (.int p2), .val (.int p3), .val (.ref rr), .val (.int wh), .val (.int mo), .val (.int xx), .val (.int yy), .val (.ref bb), .unset, .unset, .val (.int ni), .unset] [(.int (1 : Int32)), (.ref b621), (.ref b621), (.ref b609), (.ref b609)])) _
              refine XS.iload X636.here hx rfl (hb hby at_198) rfl ?_
              exact kt
            obtain ⟨c651, Ar651, S651, M651, H651⟩ := id f637
            have hin651 : ¬ ((1 : Int32) < 0 ∨ c651.slots.size ≤ ((1 : Int32)).toNatClampNeg) := own_in S651 ⟨by decide, by decide⟩
            obtain ⟨T652, h652, X652, e652, W652, st652⟩ := stC X636 hx hZ e636 Ar651 (j := (1 : Int32)) hin651 (g := (mkF m 200 #[.val (.int p0), .val (.int p1), .val (.int p2), .val (.int p3), .val (.ref rr), .val (.int wh), .val (.int mo), .val (.int xx), .val (.int yy), .val (.ref bb), .unset, .unset, .val (.int ni), .unset] [(.int yy), (.int (1 : Int32)), (.ref b621), (.ref b621), (.ref b609), (.ref b609)])) rfl rfl (hb hby at_200)
            have f654 : Sta Z h652 "com/example/access_bindings/accessbindings/server/RestResource" "CLOUDS" "Lcom/example/access_bindings/accessbindings/server/RestResource;" (.ref cl) := f638.wr W652
            have f655 : Sta Z h652 "com/example/access_bindings/accessbindings/server/RestResource" "COMMUNITIES" "Lcom/example/access_bindings/accessbindings/server/RestResource;" (.ref co) := f639.wr W652
            have f656 : Sta Z h652 "com/example/access_bindings/accessbindings/server/RestResource" "CLUSTERS" "Lcom/example/access_bindings/accessbindings/server/RestResource;" (.ref cu) := f640.wr W652
            have f657 : Sta Z h652 "com/example/access_bindings/accessbindings/server/RestResource" "APPLICATIONS" "Lcom/example/access_bindings/accessbindings/server/RestResource;" (.ref ap) := f641.wr W652
            have f658 : Sta Z h652 "java/lang/String" "COMPACT_STRINGS" "Z" (.int zz) := f642.wr W652
            have f659 : Exa Z h652 rr "com/example/access_bindings/accessbindings/server/RestResource" := f643.wr W652
            have f660 : Fld Z h652 rr "com/example/access_bindings/accessbindings/server/RestResource" "listMethod" "Ljava/lang/String;" (.ref lm) := f644.other W652 (Or.inl ne_rr_b621)
            have f661 : own_AI Z h652 bb .char nb gb := f645.other W652 ne_bb_b621
            have f662 : Exa Z h652 bb "[C" := f646.wr W652
            have f663 : Exa Z h652 b609 "java/lang/String" := f647.wr W652
            have f664 : Fld Z h652 b609 "java/lang/String" "coder" "B" (.int (0 : Int32)) := f648.other W652 (Or.inl ne_b609_b621)
            have f665 : Fld Z h652 b609 "java/lang/String" "value" "[B" .null := f649.other W652 (Or.inl ne_b609_b621)
            have f666 : Exa Z h652 b621 "[C" := f650.wr W652
            have f653 : own_AI Z h652 b621 .char 2 (own_upd (own_upd (fun _ => 0) 0 (nar .char xx)) 1 (nar .char yy)) := own_AI.set Ar651 S651 M651 H651 W652
            have Z652 : n0 ≤ h652.size := Nat.le_trans Z636 (Keep.of_wr W652).1
            have ST652 := ST636.le (Keep.of_wr W652).1
            have K652 : Keep h0 h652 [] := K636.wr W652 (Or.inr sz_b621)
            have N652 := Fr.snoc X652 N636 g_b621
            refine own_go (S' := T652.setTop (mkF m 201 #[.val (.int p0), .val (.int p1), .val (.int p2), .val (.int p3), .val (.ref rr), .val (.int wh), .val (.int mo), .val (.int xx), .val (.int yy), .val (.ref bb), .unset, .unset, .val (.int ni), .unset] [(.ref b621), (.ref b609), (.ref b609)])) st652 ?_
            obtain ⟨_, _, ⟨T667, L667, k667, n667⟩, -, X667, ⟨Lc667, hQ667, l667, y667, z667⟩, st667⟩ := X652.specialBack hx (y := (⟨"java/lang/String", "<init>", "([C)V"⟩ : MethodName)) rfl hown (mvT hZ (hw _ (List.mem_of_getElem? (i := 15) rfl))) (mvT hZ (hw _ (List.mem_of_getElem? (i := 16) rfl))) (mvT hZ (hw _ (List.mem_of_getElem? (i := 17) rfl))) (by decide) (own_newBack (W := 1) (n0 := n0) hZ hw Z652 f663 f665 f664 f653 f658 g_b609 (zne : ¬ zz = 0) (⟨by decide, by decide⟩ : 0 < 2 ∧ 2 ≤ 19) (own_upd_ok (own_upd_ok own_z_ok (own_cok h_xx)) (own_cok h_yy) : ∀ i, i < 2 → ¬ (own_upd (own_upd (fun _ => 0) 0 (nar .char xx)) 1 (nar .char yy)) i < 0 ∧ ¬ (255 : Int32) < (own_upd (own_upd (fun _ => 0) 0 (nar .char xx)) 1 (nar .char yy)) i) (by decide) (by decide)) (g := (mkF m 201 #[.val (.int p0), .val (.int p1), .val (.int p2), .val (.int p3), .val (.ref rr), .val (.int wh), .val (.int mo), .val (.int xx), .val (.int yy), .val (.ref bb), .unset, .unset, .val (.int ni), .unset] [(.ref b621), (.ref b609), (.ref b609)])) rfl (by rw [hml]; rfl) (Steps.refl _) (a := b609) (argsL := [(.ref b621)]) (rest := [(.ref b609)]) (lenOf own_pd7 rfl) rfl (by show 2 * 0 + _ ≤ _; exact Nat.le_of_eq rfl) (hb hby at_201) (fun _ _ => ⟨rfl, e652, (by decide : 3 + 1 ≤ _), (by decide : 24 + 19 ≤ _)⟩)
            dsimp only [Pt.U, Pt.locs, Pt.cells, Pt.slots] at X667 l667 y667 z667 st667 hQ667
            obtain rfl : k667 = 4 := y667
            obtain rfl : n667 = 43 := z667
            obtain ⟨rfl, N667q, K667q, f667_0, f667_1⟩ := hQ667
            have N667 : Fr n0 L667 := by rw [l667]; exact Fr.app N652 N667q
            clear l667
            have f668 : Sta Z T667.heap "com/example/access_bindings/accessbindings/server/RestResource" "CLOUDS" "Lcom/example/access_bindings/accessbindings/server/RestResource;" (.ref cl) := own_Sta_keep f654 K667q (allS (own_nst f663) all0)
            have f669 : Sta Z T667.heap "com/example/access_bindings/accessbindings/server/RestResource" "COMMUNITIES" "Lcom/example/access_bindings/accessbindings/server/RestResource;" (.ref co) := own_Sta_keep f655 K667q (allS (own_nst f663) all0)
            have f670 : Sta Z T667.heap "com/example/access_bindings/accessbindings/server/RestResource" "CLUSTERS" "Lcom/example/access_bindings/accessbindings/server/RestResource;" (.ref cu) := own_Sta_keep f656 K667q (allS (own_nst f663) all0)
            have f671 : Sta Z T667.heap "com/example/access_bindings/accessbindings/server/RestResource" "APPLICATIONS" "Lcom/example/access_bindings/accessbindings/server/RestResource;" (.ref ap) := own_Sta_keep f657 K667q (allS (own_nst f663) all0)
            have f672 : Sta Z T667.heap "java/lang/String" "COMPACT_STRINGS" "Z" (.int zz) := own_Sta_keep f658 K667q (allS (own_nst f663) all0)
            have f673 : Exa Z T667.heap rr "com/example/access_bindings/accessbindings/server/RestResource" := f659.keep K667q
            have f674 : Fld Z T667.heap rr "com/example/access_bindings/accessbindings/server/RestResource" "listMethod" "Ljava/lang/String;" (.ref lm) := f660.keep K667q (ninS ne_rr_b609 nin0)
            have f675 : own_AI Z T667.heap bb .char nb gb := f661.keep K667q (ninS ne_bb_b609 nin0)
            have f676 : Exa Z T667.heap bb "[C" := f662.keep K667q
            have f677 : Exa Z T667.heap b609 "java/lang/String" := f663.keep K667q
            have f680 : Exa Z T667.heap b621 "[C" := f666.keep K667q
            have f681 : own_AI Z T667.heap b621 .char 2 (own_upd (own_upd (fun _ => 0) 0 (nar .char xx)) 1 (nar .char yy)) := f653.keep K667q (ninS (Ne.symm ne_b609_b621) nin0)
            have Z667 : n0 ≤ T667.heap.size := Nat.le_trans Z652 K667q.1
            have ST667 := ST652.le K667q.1
            have K667 : Keep h0 T667.heap [] := K652.trans K667q (allS (Or.inr sz_b609) all0)
            refine own_go (S' := T667.setTop (mkF m 204 #[.val (.int p0), .val (.int p1), .val (.int p2), .val (.int p3), .val (.ref rr), .val (.int wh), .val (.int mo), .val (.int xx), .val (.int yy), .val (.ref bb), .unset, .unset, .val (.int ni), .unset] [(.ref b609)])) (fun _ k => st667.trans k) ?_
            refine own_go (S' := T667.setTop (mkF m 256 #[.val (.int p0), .val (.int p1), .val (.int p2), .val (.int p3), .val (.ref rr), .val (.int wh), .val (.int mo), .val (.int xx), .val (.int yy), .val (.ref bb), .val (.int (0 : Int32)), .val (.ref b609), .val (.int (0 : Int32)), .unset] [])) (fun target kt => ?_) ?_
            · skip
              show Steps p.tables e below (T667.setTop (mkF m 204 #[.val (.int p0), .val (.int p1), .val (.int p2), .val (.int p3), .val (.ref rr), .val (.int wh), .val (.int mo), .val (.int xx), .val (.int yy), .val (.ref bb), .unset, .unset, .val (.int ni), .unset] [(.ref b609)])) _
              refine XS.astore X667.here hx rfl (hb hby at_204) rfl rfl (l' := #[.val (.int p0), .val (.int p1), .val (.int p2), .val (.int p3), .val (.ref rr), .val (.int wh), .val (.int mo), .val (.int xx), .val (.int yy), .val (.ref bb), .unset, .val (.ref b609), .val (.int ni), .unset]) rfl ?_
              show Steps p.tables e below (T667.setTop (mkF m 206 #[.val (.int p0), .val (.int p1), .val (.int p2), .val (.int p3), .val (.ref rr), .val (.int wh), .val (.int mo), .val (.int xx), .val (.int yy), .val (.ref bb), .unset, .val (.ref b609), .val (.int ni), .unset] [])) _
              refine XS.iconst X667.here hx rfl (hb hby at_206) ?_
              show Steps p.tables e below (T667.setTop (mkF m 207 #[.val (.int p0), .val (.int p1), .val (.int p2), .val (.int p3), .val (.ref rr), .val (.int wh), .val (.int mo), .val (.int xx), .val (.int yy), .val (.ref bb), .unset, .val (.ref b609), .val (.int ni), .unset] [(.int (0 : Int32))])) _
              refine XS.istore X667.here hx rfl (hb hby at_207) rfl (l' := #[.val (.int p0), .val (.int p1), .val (.int p2), .val (.int p3), .val (.ref rr), .val (.int wh), .val (.int mo), .val (.int xx), .val (.int yy), .val (.ref bb), .val (.int (0 : Int32)), .val (.ref b609), .val (.int ni), .unset]) rfl ?_
              show Steps p.tables e below (T667.setTop (mkF m 209 #[.val (.int p0), .val (.int p1), .val (.int p2), .val (.int p3), .val (.ref rr), .val (.int wh), .val (.int mo), .val (.int xx), .val (.int yy), .val (.ref bb), .val (.int (0 : Int32)), .val (.ref b609), .val (.int ni), .unset] [])) _
              refine XS.goto X667.here hx rfl (pc0 := 209) (pc' := 231) rfl (hb hby at_209) (by decide) (by decide) ?_
              show Steps p.tables e below (T667.setTop (mkF m 231 #[.val (.int p0), .val (.int p1), .val (.int p2), .val (.int p3), .val (.ref rr), .val (.int wh), .val (.int mo), .val (.int xx), .val (.int yy), .val (.ref bb), .val (.int (0 : Int32)), .val (.ref b609), .val (.int ni), .unset] [])) _
              refine XS.iload X667.here hx rfl (hb hby at_231) rfl ?_
              show Steps p.tables e below (T667.setTop (mkF m 233 #[.val (.int p0), .val (.int p1), .val (.int p2), .val (.int p3), .val (.ref rr), .val (.int wh), .val (.int mo), .val (.int xx), .val (.int yy), .val (.ref bb), .val (.int (0 : Int32)), .val (.ref b609), .val (.int ni), .unset] [(.int (0 : Int32))])) _
              refine XS.ifYes X667.here hx rfl (pc0 := 233) (pc' := 253) rfl (hb hby at_233) rfl ((if0 _ _).trans (teq (by decide : (0 : Int32) = (0 : Int32))).1) (by decide) (by decide) ?_
              show Steps p.tables e below (T667.setTop (mkF m 253 #[.val (.int p0), .val (.int p1), .val (.int p2), .val (.int p3), .val (.ref rr), .val (.int wh), .val (.int mo), .val (.int xx), .val (.int yy), .val (.ref bb), .val (.int (0 : Int32)), .val (.ref b609), .val (.int ni), .unset] [])) _
              refine XS.iconst X667.here hx rfl (hb hby at_253) ?_
              show Steps p.tables e below (T667.setTop (mkF m 254 #[.val (.int p0), .val (.int p1), .val (.int p2), .val (.int p3), .val (.ref rr), .val (.int wh), .val (.int mo), .val (.int xx), .val (.int yy), .val (.ref bb), .val (.int (0 : Int32)), .val (.ref b609), .val (.int ni), .unset] [(.int (0 : Int32))])) _
              refine XS.istore X667.here hx rfl (hb hby at_254) rfl (l' := #[.val (.int p0), .val (.int p1), .val (.int p2), .val (.int p3), .val (.ref rr), .val (.int wh), .val (.int mo), .val (.int xx), .val (.int yy), .val (.ref bb), .val (.int (0 : Int32)), .val (.ref b609), .val (.int (0 : Int32)), .unset]) rfl ?_
              exact kt
            have fLM : own_Str Z T667.heap lm ds := own_Str.keep fRT K667
            refine own_go (S' := T667.setTop (mkF m 260 #[.val (.int p0), .val (.int p1), .val (.int p2), .val (.int p3), .val (.ref rr), .val (.int wh), .val (.int mo), .val (.int xx), .val (.int yy), .val (.ref bb), .val (.int (0 : Int32)), .val (.ref b609), .val (.int (0 : Int32)), .unset] [(.ref b609), (.ref rr)])) (fun target kt => ?_) ?_
            · skip
              show Steps p.tables e below (T667.setTop (mkF m 256 #[.val (.int p0), .val (.int p1), .val (.int p2), .val (.int p3), .val (.ref rr), .val (.int wh), .val (.int mo), .val (.int xx), .val (.int yy), .val (.ref bb), .val (.int (0 : Int32)), .val (.ref b609), .val (.int (0 : Int32)), .unset] [])) _
              refine XS.aload X667.here hx rfl (hb hby at_256) rfl rfl ?_
              show Steps p.tables e below (T667.setTop (mkF m 258 #[.val (.int p0), .val (.int p1), .val (.int p2), .val (.int p3), .val (.ref rr), .val (.int wh), .val (.int mo), .val (.int xx), .val (.int yy), .val (.ref bb), .val (.int (0 : Int32)), .val (.ref b609), .val (.int (0 : Int32)), .unset] [(.ref rr)])) _
              refine XS.aload X667.here hx rfl (hb hby at_258) rfl rfl ?_
              exact kt
            obtain ⟨cq682, kq682, q682a, q682b, q682c⟩ := isOf hZ rfl f673
            obtain ⟨_, _, ⟨T682, L682, k682, n682⟩, -, X682, hS682, hG682, ⟨Lc682, hQ682, l682, y682, z682⟩, st682⟩ := X667.virtualBackS hx (y := (⟨"com/example/access_bindings/accessbindings/server/RestResource", "listsBindingsAt", "(Ljava/lang/String;)Z"⟩ : MethodName)) (z := (⟨"com/example/access_bindings/accessbindings/server/RestResource", "listsBindingsAt", "(Ljava/lang/String;)Z"⟩ : MethodName)) hown (mvT hZ (hw _ (List.mem_of_getElem? (i := 41) rfl))) (mvT hZ (hw _ (List.mem_of_getElem? (i := 42) rfl))) (notFace_of_selects (args := #[]) (mvT hZ (hw _ (List.mem_of_getElem? (i := 44) rfl)))) (mvT hZ (hw _ (List.mem_of_getElem? (i := 44) rfl))) (mvT hZ (hw _ (List.mem_of_getElem? (i := 43) rfl))) (by decide) (own_backOfI (Ts' := ("listAccessBindings" :: ("" :: []))) (W := 0) (rm9 l Z aZ hw [] rr b609 lm ((List.range 2).map (own_upd (own_upd (fun _ => 0) 0 (nar .char xx)) 1 (nar .char yy))) ds zz T667.heap n0 Z667 f673 f674 f667_0 f667_1 fLM f672 ((fun bq cq qq => K667.2.1 bq cq (hold bq cq qq) nin0) : ∀ (bq : Addr) (cq : Cell), Z.heap[bq]? = some cq → T667.heap[bq]? = some cq) (held31 : Jvm.Lit.constHeld Z "com/example/access_bindings/accessbindings/server/RestResource" 31 ∧ Jvm.Lit.compactW.before aZ Z = true) (zne : ¬ zz = 0)) hZ (hw _ (List.mem_of_getElem? (i := 45) rfl)) (hw _ (List.mem_of_getElem? (i := 5) rfl)) (by decide) (by decide) (own_IB.more hI0 (by simp))) q682a q682c (g := (mkF m 260 #[.val (.int p0), .val (.int p1), .val (.int p2), .val (.int p3), .val (.ref rr), .val (.int wh), .val (.int mo), .val (.int xx), .val (.int yy), .val (.ref bb), .val (.int (0 : Int32)), .val (.ref b609), .val (.int (0 : Int32)), .unset] [(.ref b609), (.ref rr)])) rfl (by rw [hml]; rfl) (Steps.refl _) (argsL := [(.ref b609)]) (rest := []) (lenOf own_pd9 rfl) rfl (by show 2 * 0 + _ ≤ _; exact Nat.le_of_eq rfl) (hb hby at_260) (fun _ _ => ⟨rfl, rfl, (by decide : 4 + 2 ≤ _), (by decide : 43 + 76 ≤ _)⟩)
            dsimp only [Pt.U, Pt.locs, Pt.cells, Pt.slots] at X682 l682 y682 z682 st682 hQ682 hS682 hG682
            obtain rfl : k682 = 6 := y682
            obtain rfl : n682 = 119 := z682
            obtain ⟨hQ682, hI682⟩ := hQ682
            obtain ⟨s682, X682, ST682, hZ, hown, I682⟩ := own_backI X682 ST667 hS682 hG682 rfl hZ hown hI682
            obtain ⟨rfl, N682q, K682q⟩ := hQ682
            have N682 : Fr n0 L682 := by rw [l682]; exact Fr.app N667 N682q
            clear l682
            have f683 : Sta Z T682.heap "com/example/access_bindings/accessbindings/server/RestResource" "CLOUDS" "Lcom/example/access_bindings/accessbindings/server/RestResource;" (.ref cl) := own_Sta_keep f668 K682q all0
            have f684 : Sta Z T682.heap "com/example/access_bindings/accessbindings/server/RestResource" "COMMUNITIES" "Lcom/example/access_bindings/accessbindings/server/RestResource;" (.ref co) := own_Sta_keep f669 K682q all0
            have f685 : Sta Z T682.heap "com/example/access_bindings/accessbindings/server/RestResource" "CLUSTERS" "Lcom/example/access_bindings/accessbindings/server/RestResource;" (.ref cu) := own_Sta_keep f670 K682q all0
            have f686 : Sta Z T682.heap "com/example/access_bindings/accessbindings/server/RestResource" "APPLICATIONS" "Lcom/example/access_bindings/accessbindings/server/RestResource;" (.ref ap) := own_Sta_keep f671 K682q all0
            have f687 : Sta Z T682.heap "java/lang/String" "COMPACT_STRINGS" "Z" (.int zz) := own_Sta_keep f672 K682q all0
            have f688 : Exa Z T682.heap rr "com/example/access_bindings/accessbindings/server/RestResource" := f673.keep K682q
            have f689 : Fld Z T682.heap rr "com/example/access_bindings/accessbindings/server/RestResource" "listMethod" "Ljava/lang/String;" (.ref lm) := f674.keep K682q nin0
            have f690 : own_AI Z T682.heap bb .char nb gb := f675.keep K682q nin0
            have f691 : Exa Z T682.heap bb "[C" := f676.keep K682q
            have f692 : Exa Z T682.heap b609 "java/lang/String" := f667_0.keep K682q
            have f693 : Exa Z T682.heap b621 "[C" := f680.keep K682q
            have f694 : own_AI Z T682.heap b621 .char 2 (own_upd (own_upd (fun _ => 0) 0 (nar .char xx)) 1 (nar .char yy)) := f681.keep K682q nin0
            have f695 : own_Str Z T682.heap b609 ((List.range 2).map (own_upd (own_upd (fun _ => 0) 0 (nar .char xx)) 1 (nar .char yy))) := f667_1.keep K682q
            have f696 : own_Str Z T682.heap lm ds := fLM.keep K682q
            have Z682 : n0 ≤ T682.heap.size := Nat.le_trans Z667 K682q.1
            have K682 : Keep h0 T682.heap [] := K667.trans K682q all0
            refine own_go (S' := T682.setTop (mkF m 263 #[.val (.int p0), .val (.int p1), .val (.int p2), .val (.int p3), .val (.ref rr), .val (.int wh), .val (.int mo), .val (.int xx), .val (.int yy), .val (.ref bb), .val (.int (0 : Int32)), .val (.ref b609), .val (.int (0 : Int32)), .unset] [(.int (own_lb ((List.range 2).map (own_upd (own_upd (fun _ => 0) 0 (nar .char xx)) 1 (nar .char yy))) ds))])) (fun _ k => st682.trans k) ?_
            refine own_go (S' := T682.setTop (mkF m 273 #[.val (.int p0), .val (.int p1), .val (.int p2), .val (.int p3), .val (.ref rr), .val (.int wh), .val (.int mo), .val (.int xx), .val (.int yy), .val (.ref bb), .val (.int (0 : Int32)), .val (.ref b609), .val (.int (0 : Int32)), .unset] [(.int (1 : Int32))])) (fun target kt => ?_) ?_
            · skip
              show Steps p.tables e below (T682.setTop (mkF m 263 #[.val (.int p0), .val (.int p1), .val (.int p2), .val (.int p3), .val (.ref rr), .val (.int wh), .val (.int mo), .val (.int xx), .val (.int yy), .val (.ref bb), .val (.int (0 : Int32)), .val (.ref b609), .val (.int (0 : Int32)), .unset] [(.int (own_lb ((List.range 2).map (own_upd (own_upd (fun _ => 0) 0 (nar .char xx)) 1 (nar .char yy))) ds))])) _
              refine XS.iload X682.here hx rfl (hb hby at_263) rfl ?_
              show Steps p.tables e below (T682.setTop (mkF m 265 #[.val (.int p0), .val (.int p1), .val (.int p2), .val (.int p3), .val (.ref rr), .val (.int wh), .val (.int mo), .val (.int xx), .val (.int yy), .val (.ref bb), .val (.int (0 : Int32)), .val (.ref b609), .val (.int (0 : Int32)), .unset] [(.int (0 : Int32)), (.int (own_lb ((List.range 2).map (own_upd (own_upd (fun _ => 0) 0 (nar .char xx)) 1 (nar .char yy))) ds))])) _
              refine XS.icmpNo X682.here hx rfl (hb hby at_265) rfl (teq (own_t5 hR (by decide) (by decide) : (own_lb ((List.range 2).map (own_upd (own_upd (fun _ => 0) 0 (nar .char xx)) 1 (nar .char yy))) ds) = (0 : Int32))).2 ?_
              show Steps p.tables e below (T682.setTop (mkF m 268 #[.val (.int p0), .val (.int p1), .val (.int p2), .val (.int p3), .val (.ref rr), .val (.int wh), .val (.int mo), .val (.int xx), .val (.int yy), .val (.ref bb), .val (.int (0 : Int32)), .val (.ref b609), .val (.int (0 : Int32)), .unset] [])) _
              refine XS.iconst X682.here hx rfl (hb hby at_268) ?_
              show Steps p.tables e below (T682.setTop (mkF m 269 #[.val (.int p0), .val (.int p1), .val (.int p2), .val (.int p3), .val (.ref rr), .val (.int wh), .val (.int mo), .val (.int xx), .val (.int yy), .val (.ref bb), .val (.int (0 : Int32)), .val (.ref b609), .val (.int (0 : Int32)), .unset] [(.int (1 : Int32))])) _
              refine XS.goto X682.here hx rfl (pc0 := 269) (pc' := 273) rfl (hb hby at_269) (by decide) (by decide) ?_
              exact kt
            obtain ⟨fs, hr, hrun, hended, hW, hBk, hsame⟩ := own_leave X682 rfl ST682 (v := some (.int (1 : Int32))) (fun h => by rw [Bd.returns] at h; cases h)
            refine ⟨_, _, ?_, hrun, hended, _, _, rfl, ?_, ⟨_, rfl⟩, hW, hBk, hsame.mono (by decide) (by decide)⟩
            · exact retN X682 hx (t := .boolean) Bd.returns (by simp) (hb hby at_273) hr
            · show Q0 Z p0 p1 p2 p3 cl co cu ap zz h0 n0 _ T682.heap _
              exact ⟨rfl, N682⟩
      · skip
        refine own_go (S' := T317.setTop (mkF m 212 #[.val (.int p0), .val (.int p1), .val (.int p2), .val (.int p3), .val (.ref rr), .val (.int wh), .val (.int mo), .val (.int xx), .val (.int yy), .val (.ref bb), .unset, .unset, .unset, .unset] [])) (fun target kt => ?_) ?_
        · skip
          show Steps p.tables e below (T317.setTop (mkF m 127 #[.val (.int p0), .val (.int p1), .val (.int p2), .val (.int p3), .val (.ref rr), .val (.int wh), .val (.int mo), .val (.int xx), .val (.int yy), .val (.ref bb), .unset, .unset, .unset, .unset] [(.int (2 : Int32)), (.int mo)])) _
          refine XS.icmpYes X317.here hx rfl (pc0 := 127) (pc' := 212) rfl (hb hby at_127) rfl (feq hc127).2 (by decide) (by decide) ?_
          exact kt
        obtain ⟨T697, h697, X697, e697, E697, A697, D697, -, st697⟩ := newO X317 hx hZ hown (hw _ (List.mem_of_getElem? (i := 12) rfl)) (hw _ (List.mem_of_getElem? (i := 13) rfl)) (hw _ (List.mem_of_getElem? (i := 14) rfl)) rfl (g := (mkF m 212 #[.val (.int p0), .val (.int p1), .val (.int p2), .val (.int p3), .val (.ref rr), .val (.int wh), .val (.int mo), .val (.int xx), .val (.int yy), .val (.ref bb), .unset, .unset, .unset, .unset] [])) rfl (hb hby at_212) (by decide) (by decide)
        obtain ⟨b697, g697⟩ : ∃ z, z = T317.heap.size := ⟨_, rfl⟩
        rw [← g697] at A697 D697 st697
        have f698 : Sta Z h697 "com/example/access_bindings/accessbindings/server/RestResource" "CLOUDS" "Lcom/example/access_bindings/accessbindings/server/RestResource;" (.ref cl) := f318.ext E697
        have f699 : Sta Z h697 "com/example/access_bindings/accessbindings/server/RestResource" "COMMUNITIES" "Lcom/example/access_bindings/accessbindings/server/RestResource;" (.ref co) := f319.ext E697
        have f700 : Sta Z h697 "com/example/access_bindings/accessbindings/server/RestResource" "CLUSTERS" "Lcom/example/access_bindings/accessbindings/server/RestResource;" (.ref cu) := f320.ext E697
        have f701 : Sta Z h697 "com/example/access_bindings/accessbindings/server/RestResource" "APPLICATIONS" "Lcom/example/access_bindings/accessbindings/server/RestResource;" (.ref ap) := f321.ext E697
        have f702 : Sta Z h697 "java/lang/String" "COMPACT_STRINGS" "Z" (.int zz) := f322.ext E697
        have f703 : Exa Z h697 rr "com/example/access_bindings/accessbindings/server/RestResource" := f323.ext E697
        have f704 : Fld Z h697 rr "com/example/access_bindings/accessbindings/server/RestResource" "listMethod" "Ljava/lang/String;" (.ref lm) := f324.ext E697
        have f705 : own_AI Z h697 bb .char nb gb := f317_0.ext E697
        have f706 : Exa Z h697 bb "[C" := f317_1.ext E697
        have g_b697 : n0 ≤ b697 := Nat.le_trans Z317 (Nat.le_of_eq g697.symm)
        have sz_b697 : h0.size ≤ b697 := Nat.le_trans K317.1 (Nat.le_of_eq g697.symm)
        have ne_rr_b697 : rr ≠ b697 := Nat.ne_of_lt (Nat.lt_of_lt_of_le f323.lt (Nat.le_of_eq g697.symm))
        have ne_bb_b697 : bb ≠ b697 := Nat.ne_of_lt (Nat.lt_of_lt_of_le f317_0.lt (Nat.le_of_eq g697.symm))
        have Z697 : n0 ≤ h697.size := Nat.le_trans Z317 E697.1
        have ST697 := ST317.le E697.1
        have K697 : Keep h0 h697 [] := K317.ext E697
        have f707 : Fld Z h697 b697 "java/lang/String" "coder" "B" (.int (0 : Int32)) := D697 (Or.inr (hw _ (List.mem_of_getElem? (i := 38) rfl))) (ty := .byte) (by decide)
        have f708 : Fld Z h697 b697 "java/lang/String" "value" "[B" .null := D697 (Or.inr (hw _ (List.mem_of_getElem? (i := 40) rfl))) (ty := (.array .byte)) (by decide)
        refine own_go (S' := T697.setTop (mkF m 215 #[.val (.int p0), .val (.int p1), .val (.int p2), .val (.int p3), .val (.ref rr), .val (.int wh), .val (.int mo), .val (.int xx), .val (.int yy), .val (.ref bb), .unset, .unset, .unset, .unset] [(.ref b697)])) st697 ?_
        refine own_go (S' := T697.setTop (mkF m 220 #[.val (.int p0), .val (.int p1), .val (.int p2), .val (.int p3), .val (.ref rr), .val (.int wh), .val (.int mo), .val (.int xx), .val (.int yy), .val (.ref bb), .unset, .unset, .unset, .unset] [(.int xx), (.int wh), (.ref b697), (.ref b697)])) (fun target kt => ?_) ?_
        · skip
          show Steps p.tables e below (T697.setTop (mkF m 215 #[.val (.int p0), .val (.int p1), .val (.int p2), .val (.int p3), .val (.ref rr), .val (.int wh), .val (.int mo), .val (.int xx), .val (.int yy), .val (.ref bb), .unset, .unset, .unset, .unset] [(.ref b697)])) _
          refine XS.dup X697.here hx rfl (hb hby at_215) rfl rfl ?_
          show Steps p.tables e below (T697.setTop (mkF m 216 #[.val (.int p0), .val (.int p1), .val (.int p2), .val (.int p3), .val (.ref rr), .val (.int wh), .val (.int mo), .val (.int xx), .val (.int yy), .val (.ref bb), .unset, .unset, .unset, .unset] [(.ref b697), (.ref b697)])) _
          refine XS.iload X697.here hx rfl (hb hby at_216) rfl ?_
          show Steps p.tables e below (T697.setTop (mkF m 218 #[.val (.int p0), .val (.int p1), .val (.int p2), .val (.int p3), .val (.ref rr), .val (.int wh), .val (.int mo), .val (.int xx), .val (.int yy), .val (.ref bb), .unset, .unset, .unset, .unset] [(.int wh), (.ref b697), (.ref b697)])) _
          refine XS.iload X697.here hx rfl (hb hby at_218) rfl ?_
          exact kt
        obtain ⟨_, _, ⟨T709, L709, k709, n709⟩, -, X709, ⟨Lc709, hQ709, l709, y709, z709⟩, st709⟩ := Jvm.LawKit.callS X697 hx (y := (⟨"com/example/access_bindings/accessbindings/server/RestResourceListsBindingsAtPinLaw", "extended", "(IC)[C"⟩ : MethodName)) hown (mvT hZ (hw _ (List.mem_of_getElem? (i := 63) rfl))) (mvT hZ (hw _ (List.mem_of_getElem? (i := 64) rfl))) (mvT hZ (hw _ (List.mem_of_getElem? (i := 2) rfl))) (mvT hZ (hw _ (List.mem_of_getElem? (i := 65) rfl))) (by decide) (backOf (W := 2) (rm12 l Z aZ hw [] wh xx h697 n0 Z697 ) hZ (hw _ (List.mem_of_getElem? (i := 65) rfl)) (hw _ (List.mem_of_getElem? (i := 2) rfl)) (by decide) (by decide)) (g := (mkF m 220 #[.val (.int p0), .val (.int p1), .val (.int p2), .val (.int p3), .val (.ref rr), .val (.int wh), .val (.int mo), .val (.int xx), .val (.int yy), .val (.ref bb), .unset, .unset, .unset, .unset] [(.int xx), (.int wh), (.ref b697), (.ref b697)])) rfl (by rw [hml]; rfl) (argsL := [(.int wh), (.int xx)]) (rest := [(.ref b697), (.ref b697)]) (lenOf own_pd8 rfl) rfl (by show 2 * 0 + _ ≤ _; exact Nat.le_of_eq rfl) (hb hby at_220) (fun _ _ => ⟨rfl, e697, (by decide : 2 + 1 ≤ _), (by decide : 22 + 19 ≤ _)⟩)
        dsimp only [Pt.U, Pt.locs, Pt.cells, Pt.slots] at X709 l709 y709 z709 st709 hQ709
        obtain rfl : k709 = 3 := y709
        obtain rfl : n709 = 41 := z709
        obtain ⟨be, nx, gx, rfl, N709q, K709q, f709_0, f709_1, u709_0, u709_1⟩ := hQ709
        have N709 : Fr n0 L709 := by rw [l709]; exact Fr.app N317 N709q
        clear l709
        have f710 : Sta Z T709.heap "com/example/access_bindings/accessbindings/server/RestResource" "CLOUDS" "Lcom/example/access_bindings/accessbindings/server/RestResource;" (.ref cl) := own_Sta_keep f698 K709q all0
        have f711 : Sta Z T709.heap "com/example/access_bindings/accessbindings/server/RestResource" "COMMUNITIES" "Lcom/example/access_bindings/accessbindings/server/RestResource;" (.ref co) := own_Sta_keep f699 K709q all0
        have f712 : Sta Z T709.heap "com/example/access_bindings/accessbindings/server/RestResource" "CLUSTERS" "Lcom/example/access_bindings/accessbindings/server/RestResource;" (.ref cu) := own_Sta_keep f700 K709q all0
        have f713 : Sta Z T709.heap "com/example/access_bindings/accessbindings/server/RestResource" "APPLICATIONS" "Lcom/example/access_bindings/accessbindings/server/RestResource;" (.ref ap) := own_Sta_keep f701 K709q all0
        have f714 : Sta Z T709.heap "java/lang/String" "COMPACT_STRINGS" "Z" (.int zz) := own_Sta_keep f702 K709q all0
        have f715 : Exa Z T709.heap rr "com/example/access_bindings/accessbindings/server/RestResource" := f703.keep K709q
        have f716 : Fld Z T709.heap rr "com/example/access_bindings/accessbindings/server/RestResource" "listMethod" "Ljava/lang/String;" (.ref lm) := f704.keep K709q nin0
        have f717 : own_AI Z T709.heap bb .char nb gb := f705.keep K709q nin0
        have f718 : Exa Z T709.heap bb "[C" := f706.keep K709q
        have f719 : Exa Z T709.heap b697 "java/lang/String" := A697.keep K709q
        have f720 : Fld Z T709.heap b697 "java/lang/String" "coder" "B" (.int (0 : Int32)) := f707.keep K709q nin0
        have f721 : Fld Z T709.heap b697 "java/lang/String" "value" "[B" .null := f708.keep K709q nin0
        have Z709 : n0 ≤ T709.heap.size := Nat.le_trans Z697 K709q.1
        have ST709 := ST697.le K709q.1
        have K709 : Keep h0 T709.heap [] := K697.trans K709q all0
        have g_be : n0 ≤ be := Nat.le_trans Z697 u709_0
        have sz_be : h0.size ≤ be := Nat.le_trans K697.1 u709_0
        have ne_rr_be : rr ≠ be := Nat.ne_of_lt (Nat.lt_of_lt_of_le f703.lt u709_0)
        have ne_bb_be : bb ≠ be := Nat.ne_of_lt (Nat.lt_of_lt_of_le f705.lt u709_0)
        have ne_b697_be : b697 ≠ be := Nat.ne_of_lt (Nat.lt_of_lt_of_le A697.lt u709_0)
        refine own_go (S' := T709.setTop (mkF m 223 #[.val (.int p0), .val (.int p1), .val (.int p2), .val (.int p3), .val (.ref rr), .val (.int wh), .val (.int mo), .val (.int xx), .val (.int yy), .val (.ref bb), .unset, .unset, .unset, .unset] [(.ref be), (.ref b697), (.ref b697)])) st709 ?_
        have hX := u709_1
        obtain ⟨_, _, ⟨T722, L722, k722, n722⟩, -, X722, ⟨Lc722, hQ722, l722, y722, z722⟩, st722⟩ := X709.specialBack hx (y := (⟨"java/lang/String", "<init>", "([C)V"⟩ : MethodName)) rfl hown (mvT hZ (hw _ (List.mem_of_getElem? (i := 15) rfl))) (mvT hZ (hw _ (List.mem_of_getElem? (i := 16) rfl))) (mvT hZ (hw _ (List.mem_of_getElem? (i := 17) rfl))) (by decide) (own_newBack (W := 1) (n0 := n0) hZ hw Z709 f719 f721 f720 f709_0 f714 g_b697 (zne : ¬ zz = 0) (own_isX.len hX : 0 < nx ∧ nx ≤ 19) (own_isX.ok hX (own_cok h_xx) : ∀ i, i < nx → ¬ gx i < 0 ∧ ¬ (255 : Int32) < gx i) (by decide) (by decide)) (g := (mkF m 223 #[.val (.int p0), .val (.int p1), .val (.int p2), .val (.int p3), .val (.ref rr), .val (.int wh), .val (.int mo), .val (.int xx), .val (.int yy), .val (.ref bb), .unset, .unset, .unset, .unset] [(.ref be), (.ref b697), (.ref b697)])) rfl (by rw [hml]; rfl) (Steps.refl _) (a := b697) (argsL := [(.ref be)]) (rest := [(.ref b697)]) (lenOf own_pd7 rfl) rfl (by show 2 * 0 + _ ≤ _; exact Nat.le_of_eq rfl) (hb hby at_223) (fun _ _ => ⟨rfl, rfl, (by decide : 3 + 1 ≤ _), (by decide : 41 + 19 ≤ _)⟩)
        dsimp only [Pt.U, Pt.locs, Pt.cells, Pt.slots] at X722 l722 y722 z722 st722 hQ722
        obtain rfl : k722 = 4 := y722
        obtain rfl : n722 = 60 := z722
        obtain ⟨rfl, N722q, K722q, f722_0, f722_1⟩ := hQ722
        have N722 : Fr n0 L722 := by rw [l722]; exact Fr.app N709 N722q
        clear l722
        have f723 : Sta Z T722.heap "com/example/access_bindings/accessbindings/server/RestResource" "CLOUDS" "Lcom/example/access_bindings/accessbindings/server/RestResource;" (.ref cl) := own_Sta_keep f710 K722q (allS (own_nst f719) all0)
        have f724 : Sta Z T722.heap "com/example/access_bindings/accessbindings/server/RestResource" "COMMUNITIES" "Lcom/example/access_bindings/accessbindings/server/RestResource;" (.ref co) := own_Sta_keep f711 K722q (allS (own_nst f719) all0)
        have f725 : Sta Z T722.heap "com/example/access_bindings/accessbindings/server/RestResource" "CLUSTERS" "Lcom/example/access_bindings/accessbindings/server/RestResource;" (.ref cu) := own_Sta_keep f712 K722q (allS (own_nst f719) all0)
        have f726 : Sta Z T722.heap "com/example/access_bindings/accessbindings/server/RestResource" "APPLICATIONS" "Lcom/example/access_bindings/accessbindings/server/RestResource;" (.ref ap) := own_Sta_keep f713 K722q (allS (own_nst f719) all0)
        have f727 : Sta Z T722.heap "java/lang/String" "COMPACT_STRINGS" "Z" (.int zz) := own_Sta_keep f714 K722q (allS (own_nst f719) all0)
        have f728 : Exa Z T722.heap rr "com/example/access_bindings/accessbindings/server/RestResource" := f715.keep K722q
        have f729 : Fld Z T722.heap rr "com/example/access_bindings/accessbindings/server/RestResource" "listMethod" "Ljava/lang/String;" (.ref lm) := f716.keep K722q (ninS ne_rr_b697 nin0)
        have f730 : own_AI Z T722.heap bb .char nb gb := f717.keep K722q (ninS ne_bb_b697 nin0)
        have f731 : Exa Z T722.heap bb "[C" := f718.keep K722q
        have f732 : Exa Z T722.heap b697 "java/lang/String" := f719.keep K722q
        have f735 : own_AI Z T722.heap be .char nx gx := f709_0.keep K722q (ninS (Ne.symm ne_b697_be) nin0)
        have f736 : Exa Z T722.heap be "[C" := f709_1.keep K722q
        have Z722 : n0 ≤ T722.heap.size := Nat.le_trans Z709 K722q.1
        have ST722 := ST709.le K722q.1
        have K722 : Keep h0 T722.heap [] := K709.trans K722q (allS (Or.inr sz_b697) all0)
        refine own_go (S' := T722.setTop (mkF m 226 #[.val (.int p0), .val (.int p1), .val (.int p2), .val (.int p3), .val (.ref rr), .val (.int wh), .val (.int mo), .val (.int xx), .val (.int yy), .val (.ref bb), .unset, .unset, .unset, .unset] [(.ref b697)])) (fun _ k => st722.trans k) ?_
        refine own_go (S' := T722.setTop (mkF m 256 #[.val (.int p0), .val (.int p1), .val (.int p2), .val (.int p3), .val (.ref rr), .val (.int wh), .val (.int mo), .val (.int xx), .val (.int yy), .val (.ref bb), .val (.int (0 : Int32)), .val (.ref b697), .val (.int (0 : Int32)), .unset] [])) (fun target kt => ?_) ?_
        · skip
          show Steps p.tables e below (T722.setTop (mkF m 226 #[.val (.int p0), .val (.int p1), .val (.int p2), .val (.int p3), .val (.ref rr), .val (.int wh), .val (.int mo), .val (.int xx), .val (.int yy), .val (.ref bb), .unset, .unset, .unset, .unset] [(.ref b697)])) _
          refine XS.astore X722.here hx rfl (hb hby at_226) rfl rfl (l' := #[.val (.int p0), .val (.int p1), .val (.int p2), .val (.int p3), .val (.ref rr), .val (.int wh), .val (.int mo), .val (.int xx), .val (.int yy), .val (.ref bb), .unset, .val (.ref b697), .unset, .unset]) rfl ?_
          show Steps p.tables e below (T722.setTop (mkF m 228 #[.val (.int p0), .val (.int p1), .val (.int p2), .val (.int p3), .val (.ref rr), .val (.int wh), .val (.int mo), .val (.int xx), .val (.int yy), .val (.ref bb), .unset, .val (.ref b697), .unset, .unset] [])) _
          refine XS.iconst X722.here hx rfl (hb hby at_228) ?_
          show Steps p.tables e below (T722.setTop (mkF m 229 #[.val (.int p0), .val (.int p1), .val (.int p2), .val (.int p3), .val (.ref rr), .val (.int wh), .val (.int mo), .val (.int xx), .val (.int yy), .val (.ref bb), .unset, .val (.ref b697), .unset, .unset] [(.int (0 : Int32))])) _
          refine XS.istore X722.here hx rfl (hb hby at_229) rfl (l' := #[.val (.int p0), .val (.int p1), .val (.int p2), .val (.int p3), .val (.ref rr), .val (.int wh), .val (.int mo), .val (.int xx), .val (.int yy), .val (.ref bb), .val (.int (0 : Int32)), .val (.ref b697), .unset, .unset]) rfl ?_
          show Steps p.tables e below (T722.setTop (mkF m 231 #[.val (.int p0), .val (.int p1), .val (.int p2), .val (.int p3), .val (.ref rr), .val (.int wh), .val (.int mo), .val (.int xx), .val (.int yy), .val (.ref bb), .val (.int (0 : Int32)), .val (.ref b697), .unset, .unset] [])) _
          refine XS.iload X722.here hx rfl (hb hby at_231) rfl ?_
          show Steps p.tables e below (T722.setTop (mkF m 233 #[.val (.int p0), .val (.int p1), .val (.int p2), .val (.int p3), .val (.ref rr), .val (.int wh), .val (.int mo), .val (.int xx), .val (.int yy), .val (.ref bb), .val (.int (0 : Int32)), .val (.ref b697), .unset, .unset] [(.int (0 : Int32))])) _
          refine XS.ifYes X722.here hx rfl (pc0 := 233) (pc' := 253) rfl (hb hby at_233) rfl ((if0 _ _).trans (teq (by decide : (0 : Int32) = (0 : Int32))).1) (by decide) (by decide) ?_
          show Steps p.tables e below (T722.setTop (mkF m 253 #[.val (.int p0), .val (.int p1), .val (.int p2), .val (.int p3), .val (.ref rr), .val (.int wh), .val (.int mo), .val (.int xx), .val (.int yy), .val (.ref bb), .val (.int (0 : Int32)), .val (.ref b697), .unset, .unset] [])) _
          refine XS.iconst X722.here hx rfl (hb hby at_253) ?_
          show Steps p.tables e below (T722.setTop (mkF m 254 #[.val (.int p0), .val (.int p1), .val (.int p2), .val (.int p3), .val (.ref rr), .val (.int wh), .val (.int mo), .val (.int xx), .val (.int yy), .val (.ref bb), .val (.int (0 : Int32)), .val (.ref b697), .unset, .unset] [(.int (0 : Int32))])) _
          refine XS.istore X722.here hx rfl (hb hby at_254) rfl (l' := #[.val (.int p0), .val (.int p1), .val (.int p2), .val (.int p3), .val (.ref rr), .val (.int wh), .val (.int mo), .val (.int xx), .val (.int yy), .val (.ref bb), .val (.int (0 : Int32)), .val (.ref b697), .val (.int (0 : Int32)), .unset]) rfl ?_
          exact kt
        have fLM : own_Str Z T722.heap lm ds := own_Str.keep fRT K722
        refine own_go (S' := T722.setTop (mkF m 260 #[.val (.int p0), .val (.int p1), .val (.int p2), .val (.int p3), .val (.ref rr), .val (.int wh), .val (.int mo), .val (.int xx), .val (.int yy), .val (.ref bb), .val (.int (0 : Int32)), .val (.ref b697), .val (.int (0 : Int32)), .unset] [(.ref b697), (.ref rr)])) (fun target kt => ?_) ?_
        · skip
          show Steps p.tables e below (T722.setTop (mkF m 256 #[.val (.int p0), .val (.int p1), .val (.int p2), .val (.int p3), .val (.ref rr), .val (.int wh), .val (.int mo), .val (.int xx), .val (.int yy), .val (.ref bb), .val (.int (0 : Int32)), .val (.ref b697), .val (.int (0 : Int32)), .unset] [])) _
          refine XS.aload X722.here hx rfl (hb hby at_256) rfl rfl ?_
          show Steps p.tables e below (T722.setTop (mkF m 258 #[.val (.int p0), .val (.int p1), .val (.int p2), .val (.int p3), .val (.ref rr), .val (.int wh), .val (.int mo), .val (.int xx), .val (.int yy), .val (.ref bb), .val (.int (0 : Int32)), .val (.ref b697), .val (.int (0 : Int32)), .unset] [(.ref rr)])) _
          refine XS.aload X722.here hx rfl (hb hby at_258) rfl rfl ?_
          exact kt
        obtain ⟨cq737, kq737, q737a, q737b, q737c⟩ := isOf hZ rfl f728
        obtain ⟨_, _, ⟨T737, L737, k737, n737⟩, -, X737, hS737, hG737, ⟨Lc737, hQ737, l737, y737, z737⟩, st737⟩ := X722.virtualBackS hx (y := (⟨"com/example/access_bindings/accessbindings/server/RestResource", "listsBindingsAt", "(Ljava/lang/String;)Z"⟩ : MethodName)) (z := (⟨"com/example/access_bindings/accessbindings/server/RestResource", "listsBindingsAt", "(Ljava/lang/String;)Z"⟩ : MethodName)) hown (mvT hZ (hw _ (List.mem_of_getElem? (i := 41) rfl))) (mvT hZ (hw _ (List.mem_of_getElem? (i := 42) rfl))) (notFace_of_selects (args := #[]) (mvT hZ (hw _ (List.mem_of_getElem? (i := 44) rfl)))) (mvT hZ (hw _ (List.mem_of_getElem? (i := 44) rfl))) (mvT hZ (hw _ (List.mem_of_getElem? (i := 43) rfl))) (by decide) (own_backOfI (Ts' := ("listAccessBindings" :: ("" :: []))) (W := 0) (rm9 l Z aZ hw [] rr b697 lm ((List.range nx).map gx) ds zz T722.heap n0 Z722 f728 f729 f722_0 f722_1 fLM f727 ((fun bq cq qq => K722.2.1 bq cq (hold bq cq qq) nin0) : ∀ (bq : Addr) (cq : Cell), Z.heap[bq]? = some cq → T722.heap[bq]? = some cq) (held31 : Jvm.Lit.constHeld Z "com/example/access_bindings/accessbindings/server/RestResource" 31 ∧ Jvm.Lit.compactW.before aZ Z = true) (zne : ¬ zz = 0)) hZ (hw _ (List.mem_of_getElem? (i := 45) rfl)) (hw _ (List.mem_of_getElem? (i := 5) rfl)) (by decide) (by decide) (own_IB.more hI0 (by simp))) q737a q737c (g := (mkF m 260 #[.val (.int p0), .val (.int p1), .val (.int p2), .val (.int p3), .val (.ref rr), .val (.int wh), .val (.int mo), .val (.int xx), .val (.int yy), .val (.ref bb), .val (.int (0 : Int32)), .val (.ref b697), .val (.int (0 : Int32)), .unset] [(.ref b697), (.ref rr)])) rfl (by rw [hml]; rfl) (Steps.refl _) (argsL := [(.ref b697)]) (rest := []) (lenOf own_pd9 rfl) rfl (by show 2 * 0 + _ ≤ _; exact Nat.le_of_eq rfl) (hb hby at_260) (fun _ _ => ⟨rfl, rfl, (by decide : 4 + 2 ≤ _), (by decide : 60 + 76 ≤ _)⟩)
        dsimp only [Pt.U, Pt.locs, Pt.cells, Pt.slots] at X737 l737 y737 z737 st737 hQ737 hS737 hG737
        obtain rfl : k737 = 6 := y737
        obtain rfl : n737 = 136 := z737
        obtain ⟨hQ737, hI737⟩ := hQ737
        obtain ⟨s737, X737, ST737, hZ, hown, I737⟩ := own_backI X737 ST722 hS737 hG737 rfl hZ hown hI737
        obtain ⟨rfl, N737q, K737q⟩ := hQ737
        have N737 : Fr n0 L737 := by rw [l737]; exact Fr.app N722 N737q
        clear l737
        have f738 : Sta Z T737.heap "com/example/access_bindings/accessbindings/server/RestResource" "CLOUDS" "Lcom/example/access_bindings/accessbindings/server/RestResource;" (.ref cl) := own_Sta_keep f723 K737q all0
        have f739 : Sta Z T737.heap "com/example/access_bindings/accessbindings/server/RestResource" "COMMUNITIES" "Lcom/example/access_bindings/accessbindings/server/RestResource;" (.ref co) := own_Sta_keep f724 K737q all0
        have f740 : Sta Z T737.heap "com/example/access_bindings/accessbindings/server/RestResource" "CLUSTERS" "Lcom/example/access_bindings/accessbindings/server/RestResource;" (.ref cu) := own_Sta_keep f725 K737q all0
        have f741 : Sta Z T737.heap "com/example/access_bindings/accessbindings/server/RestResource" "APPLICATIONS" "Lcom/example/access_bindings/accessbindings/server/RestResource;" (.ref ap) := own_Sta_keep f726 K737q all0
        have f742 : Sta Z T737.heap "java/lang/String" "COMPACT_STRINGS" "Z" (.int zz) := own_Sta_keep f727 K737q all0
        have f743 : Exa Z T737.heap rr "com/example/access_bindings/accessbindings/server/RestResource" := f728.keep K737q
        have f744 : Fld Z T737.heap rr "com/example/access_bindings/accessbindings/server/RestResource" "listMethod" "Ljava/lang/String;" (.ref lm) := f729.keep K737q nin0
        have f745 : own_AI Z T737.heap bb .char nb gb := f730.keep K737q nin0
        have f746 : Exa Z T737.heap bb "[C" := f731.keep K737q
        have f747 : Exa Z T737.heap b697 "java/lang/String" := f722_0.keep K737q
        have f748 : own_AI Z T737.heap be .char nx gx := f735.keep K737q nin0
        have f749 : Exa Z T737.heap be "[C" := f736.keep K737q
        have f750 : own_Str Z T737.heap b697 ((List.range nx).map gx) := f722_1.keep K737q
        have f751 : own_Str Z T737.heap lm ds := fLM.keep K737q
        have Z737 : n0 ≤ T737.heap.size := Nat.le_trans Z722 K737q.1
        have K737 : Keep h0 T737.heap [] := K722.trans K737q all0
        refine own_go (S' := T737.setTop (mkF m 263 #[.val (.int p0), .val (.int p1), .val (.int p2), .val (.int p3), .val (.ref rr), .val (.int wh), .val (.int mo), .val (.int xx), .val (.int yy), .val (.ref bb), .val (.int (0 : Int32)), .val (.ref b697), .val (.int (0 : Int32)), .unset] [(.int (own_lb ((List.range nx).map gx) ds))])) (fun _ k => st737.trans k) ?_
        refine own_go (S' := T737.setTop (mkF m 273 #[.val (.int p0), .val (.int p1), .val (.int p2), .val (.int p3), .val (.ref rr), .val (.int wh), .val (.int mo), .val (.int xx), .val (.int yy), .val (.ref bb), .val (.int (0 : Int32)), .val (.ref b697), .val (.int (0 : Int32)), .unset] [(.int (1 : Int32))])) (fun target kt => ?_) ?_
        · skip
          show Steps p.tables e below (T737.setTop (mkF m 263 #[.val (.int p0), .val (.int p1), .val (.int p2), .val (.int p3), .val (.ref rr), .val (.int wh), .val (.int mo), .val (.int xx), .val (.int yy), .val (.ref bb), .val (.int (0 : Int32)), .val (.ref b697), .val (.int (0 : Int32)), .unset] [(.int (own_lb ((List.range nx).map gx) ds))])) _
          refine XS.iload X737.here hx rfl (hb hby at_263) rfl ?_
          show Steps p.tables e below (T737.setTop (mkF m 265 #[.val (.int p0), .val (.int p1), .val (.int p2), .val (.int p3), .val (.ref rr), .val (.int wh), .val (.int mo), .val (.int xx), .val (.int yy), .val (.ref bb), .val (.int (0 : Int32)), .val (.ref b697), .val (.int (0 : Int32)), .unset] [(.int (0 : Int32)), (.int (own_lb ((List.range nx).map gx) ds))])) _
          refine XS.icmpNo X737.here hx rfl (hb hby at_265) rfl (teq (own_t5 hR (own_isX.nl hX).1 (own_isX.nl hX).2 : (own_lb ((List.range nx).map gx) ds) = (0 : Int32))).2 ?_
          show Steps p.tables e below (T737.setTop (mkF m 268 #[.val (.int p0), .val (.int p1), .val (.int p2), .val (.int p3), .val (.ref rr), .val (.int wh), .val (.int mo), .val (.int xx), .val (.int yy), .val (.ref bb), .val (.int (0 : Int32)), .val (.ref b697), .val (.int (0 : Int32)), .unset] [])) _
          refine XS.iconst X737.here hx rfl (hb hby at_268) ?_
          show Steps p.tables e below (T737.setTop (mkF m 269 #[.val (.int p0), .val (.int p1), .val (.int p2), .val (.int p3), .val (.ref rr), .val (.int wh), .val (.int mo), .val (.int xx), .val (.int yy), .val (.ref bb), .val (.int (0 : Int32)), .val (.ref b697), .val (.int (0 : Int32)), .unset] [(.int (1 : Int32))])) _
          refine XS.goto X737.here hx rfl (pc0 := 269) (pc' := 273) rfl (hb hby at_269) (by decide) (by decide) ?_
          exact kt
        obtain ⟨fs, hr, hrun, hended, hW, hBk, hsame⟩ := own_leave X737 rfl ST737 (v := some (.int (1 : Int32))) (fun h => by rw [Bd.returns] at h; cases h)
        refine ⟨_, _, ?_, hrun, hended, _, _, rfl, ?_, ⟨_, rfl⟩, hW, hBk, hsame.mono (by decide) (by decide)⟩
        · exact retN X737 hx (t := .boolean) Bd.returns (by simp) (hb hby at_273) hr
        · show Q0 Z p0 p1 p2 p3 cl co cu ap zz h0 n0 _ T737.heap _
          exact ⟨rfl, N737⟩
set_option maxRecDepth 65536 in
set_option maxHeartbeats 40000000 in
theorem comes_1 {Post : Tables → Env → Array Value → State → Outcome → State → Prop} (hpost : ∀ tb e args s v u, (limb_1_1.after args s (.returned v) u = true ∧ limb_1_2.after args s (.returned v) u = true) → FramedW s (.returned v) u (Jvm.fieldLocs frame_1_writes args s ++ Jvm.arrayLocs frame_1_arrays args s ++ Jvm.staticLocs frame_1_statics s) 24 2240 → Post tb e args s (.returned v) u) :
    ArmFor flags0 classFile x code maxLocals ret World_1 tables_1 room_1 Calls_1 rest_1 Pre_1 Post := by
  intro l hfl _ _ p e ha hc hk s m args below hf hA hF happ hP
  obtain ⟨hcalls, hrest, hpre⟩ := hP
  obtain ⟨-, -, -, hnamed, -, -, -, hat⟩ := (Spec.applies_iff hf).mp happ
  obtain ⟨hg, hn⟩ := and_e (Cond.before_iff.mp (show (Jvm.Cond.and given_1 narrow_1).before args s = true from hpre))
  obtain ⟨hg1, hg2⟩ := and_e hg
  obtain ⟨hg3, hg4⟩ := and_e hg2
  obtain ⟨hg5, hg6⟩ := and_e hg4
  obtain ⟨hg7, hg8⟩ := and_e hg6
  obtain ⟨w0, w1, w2, w3, rfl⟩ : ∃ w0 w1 w2 w3 : Value, args = #[w0, w1, w2, w3] := by
    have hs : args.size = 4 := by simpa [Cond.value, given_1] using hg1
    obtain ⟨L⟩ := args
    match L, hs with
    | [w0, w1, w2, w3], _ => exact ⟨w0, w1, w2, w3, rfl⟩
  have hw := fun d (hd : d ∈ tables_1) => atoms_spec (ws := Jvm.Cond.code x code maxLocals ret :: tables_1) hat d (List.mem_cons_of_mem _ hd)
  obtain ⟨i0, ei0⟩ := is_v hg3
  obtain rfl : w0 = (.int i0) := Option.some.inj ei0
  obtain ⟨i1, ei1⟩ := is_v hg5
  obtain rfl : w1 = (.int i1) := Option.some.inj ei1
  obtain ⟨i2, ei2⟩ := is_v hg7
  obtain rfl : w2 = (.int i2) := Option.some.inj ei2
  obtain ⟨i3, ei3⟩ := is_v hg8
  obtain rfl : w3 = (.int i3) := Option.some.inj ei3
  obtain ⟨hsets, hown0⟩ := atoms_of _ (rest_1_c_eq ▸ (show rest_1_c.before _ s = true from hrest))
  obtain ⟨zc, ezc⟩ := is_v (Cond.before_iff.mp (hsets _ (List.mem_of_getElem? (i := 1) rfl)))
  have S0 := Sta.start ezc (Or.inl (hsets _ (List.mem_of_getElem? (i := 0) rfl)))
  have hzc : ¬ zc = 0 := fun q => by
    have k := not_v (Cond.before_iff.mp (hsets _ (List.mem_of_getElem? (i := 2) rfl)))
    rw [eq_i ezc (Term.int_eval 0) (congrArg Value.int q)] at k
    cases k
  have hcW : Jvm.Lit.compactW.before _ s = true := hsets _ (List.mem_of_getElem? (i := 2) rfl)
  obtain ⟨cl, co, cu, ap, ⟨S1, S2, S3, S4⟩, hsts⟩ := own_start hn hw
  have hk1 := hcalls.1 _ (List.mem_of_getElem? (i := 0) rfl)
  have hk2 := hcalls.1 _ (List.mem_of_getElem? (i := 1) rfl)
  obtain ⟨n, o, h1, h2, h3, _, L, rfl, ⟨rfl, N⟩, hq⟩ := rm0 l s _ hw tables_1 i0 i1 i2 i3 cl co cu ap zc s.heap s.heap.size (Nat.le_refl _) S1 S2 S3 S4 S0 hsts (fun _ _ q => q) ⟨hk2, hcW⟩ ⟨hk1, hcW⟩ hzc p e ha hc hk s m _ below hf ((Spec.applies_iff_loose hf).mp happ).1 ⟨rfl, State.Warmed39.refl s, rfl, IB.start⟩ trivial
  refine ⟨n, _, h1, h2, h3, hpost _ _ _ _ _ _ ⟨Cond.after_iff.mpr rfl, Cond.after_iff.mpr (eq_i res_at (Term.int_eval (1)) rfl)⟩ ⟨hq.1, hq.2.1, hq.2.2.1, (hq.2.2.2.sift fun y hy => Or.inr (N y hy)).mono (by decide) (by decide)⟩⟩
theorem main_1_1 : Claimed_1_1 := comes_1 fun _ _ _ _ _ _ h hF => ⟨h.1, hF⟩
theorem main_1_2 : Claimed_1_2 := comes_1 fun _ _ _ _ _ _ h hF => ⟨h.2, hF⟩
end Jvm.Pilot.@@N@@
namespace Jvm.Pilot.@@N@@
open Jvm Jvm.ClassFile Sem Op Lib Jvm.Free Jvm.Stand Jvm.Pilot.@@N@@.Jvm.D
/-! MADE BY PROGRAM (witnessworld.py) out of the Statement's table words and the real class files: 19 classes; the members and pool entries that the words name. The judged class is class 1, her method 4. -/
namespace start1
open Jvm.ClassFile
def u (s : String) : CpInfo := .utf8 (stringToUtf16 s)
/-- a pool by its gaps: so many unusable entries, then the entry; so many at the end -/
def gap : Nat → List CpInfo → List CpInfo
  | 0, r => r
  | n + 1, r => .unusable :: gap n r
def poolList (es : List (Nat × CpInfo)) (last : Nat) : List CpInfo := es.foldr (fun e r => gap e.1 (e.2 :: r)) (gap last [])
def pool (es : List (Nat × CpInfo)) (last : Nat) : Array CpInfo := ⟨poolList es last⟩
def fileOf (pool : Array CpInfo) (this : Nat) (attrs : Array Attribute := #[]) (ms : Array MethodInfo := #[]) (fl : Nat := 33) (sup : Nat := 0) (ifs : Array Nat := #[]) (fds : Array FieldInfo := #[]) : ClassFile where
  minorVersion := 0
  majorVersion := 65
  constantPool := pool
  accessFlags := fl
  thisClass := this
  superClass := sup
  interfaces := ifs
  fields := fds
  methods := ms
  attributes := attrs
def plain (name : String) (sup : Option ClassId) : Class where
  name := name
  kind := .ordinary
  loader := none
  accessFlags := 33
  super := sup
  interfaces := #[]
  cf := none
  fields := #[]
  methods := #[]
  instanceTypes := #[]
  staticTypes := #[]
  resolved := #[]
  callSites := []
  init := .initialized
  statics := none
  mirror := none

def pool0 : Array CpInfo := pool [(5, u "<init>"), (0, u "()V"), (1, .class_ 10), (1, u "java/lang/Object")] 113

def k0c0 : Code := { maxStack := 0, maxLocals := 1, code := object_method_1_code, exceptionTable := #[], attributes := #[] }
def k0m0 : Method := { name := "<init>", desc := "()V", sig := { parameters := [], returnType := none }, accessFlags := 1, code := some k0c0 }
/-- java/lang/Object -/
def k0 : Class := { plain "java/lang/Object" none with
  accessFlags := 33
  interfaces := #[]
  cf := some (fileOf pool0 8 #[] #[{ accessFlags := 1, nameIndex := 5, descriptorIndex := 6, attributes := #[] }] 33 0 #[] #[])
  fields := #[]
  methods := #[k0m0]
  instanceTypes := #[]
  staticTypes := #[]
  resolved := Array.replicate 124 none
  statics := none }

def pool1 : Array CpInfo := pool [(2, .class_ 4), (1, u "java/lang/Object"), (0, u "<init>"), (0, u "()V"), (0, .fieldref 8 9), (0, .class_ 10), (0, .nameAndType 11 12), (0, u "com/example/access_bindings/accessbindings/server/RestResource"), (0, u "CLOUDS"), (0, u "Lcom/example/access_bindings/accessbindings/server/RestResource;"), (0, .fieldref 8 14), (0, .nameAndType 15 12), (0, u "COMMUNITIES"), (0, .fieldref 8 17), (0, .nameAndType 18 12), (0, u "CLUSTERS"), (0, .fieldref 8 20), (0, .nameAndType 21 12), (0, u "APPLICATIONS"), (0, .methodref 23 24), (0, .class_ 25), (0, .nameAndType 26 27), (0, u "com/example/access_bindings/accessbindings/server/RestResourceListsBindingsAtPinLaw"), (0, u "constant"), (0, u "(I)Lcom/example/access_bindings/accessbindings/server/RestResource;"), (0, .methodref 23 29), (0, .nameAndType 30 31), (0, u "base"), (0, u "(I)[C"), (0, .class_ 33), (0, u "java/lang/String"), (0, .methodref 32 35), (0, .nameAndType 5 36), (0, u "([C)V"), (0, .integer 2147483647), (0, .methodref 23 39), (0, .nameAndType 40 41), (0, u "extended"), (0, u "(IC)[C"), (0, .methodref 8 43), (0, .nameAndType 44 45), (0, u "listsBindingsAt"), (0, u "(Ljava/lang/String;)Z"), (3, u "law"), (0, u "(IIII)Z")] 4

def k1m0 : Method := { name := "<init>", desc := "()V", sig := { parameters := [], returnType := none }, accessFlags := 1, code := none }
def k1c1 : Code := { maxStack := 4, maxLocals := 1, code := method_2_code, exceptionTable := #[], attributes := #[] }
def k1m1 : Method := { name := "base", desc := "(I)[C", sig := { parameters := [.int], returnType := some (.array .char) }, accessFlags := 10, code := some k1c1 }
def k1c2 : Code := { maxStack := 4, maxLocals := 2, code := method_3_code, exceptionTable := #[], attributes := #[] }
def k1m2 : Method := { name := "extended", desc := "(IC)[C", sig := { parameters := [.int, .char], returnType := some (.array .char) }, accessFlags := 10, code := some k1c2 }
def k1c3 : Code := { maxStack := 2, maxLocals := 2, code := method_4_code, exceptionTable := #[], attributes := #[] }
def k1m3 : Method := { name := "constant", desc := "(I)Lcom/example/access_bindings/accessbindings/server/RestResource;", sig := { parameters := [.int], returnType := some (.object "com/example/access_bindings/accessbindings/server/RestResource") }, accessFlags := 10, code := some k1c3 }
def k1c4 : Code := { maxStack := 6, maxLocals := 14, code := code, exceptionTable := #[], attributes := #[] }
def k1m4 : Method := { name := "law", desc := "(IIII)Z", sig := { parameters := [.int, .int, .int, .int], returnType := some .boolean }, accessFlags := 9, code := some k1c4 }
/-- com/example/access_bindings/accessbindings/server/RestResourceListsBindingsAtPinLaw -/
def k1 : Class := { plain "com/example/access_bindings/accessbindings/server/RestResourceListsBindingsAtPinLaw" (some 0) with
  accessFlags := 49
  interfaces := #[]
  cf := some (fileOf pool1 23 #[] #[{ accessFlags := 1, nameIndex := 5, descriptorIndex := 6, attributes := #[] }, { accessFlags := 10, nameIndex := 30, descriptorIndex := 31, attributes := #[] }, { accessFlags := 10, nameIndex := 40, descriptorIndex := 41, attributes := #[] }, { accessFlags := 10, nameIndex := 26, descriptorIndex := 27, attributes := #[] }, { accessFlags := 9, nameIndex := 49, descriptorIndex := 50, attributes := #[] }] 49 2 #[] #[])
  fields := #[]
  methods := #[k1m0, k1m1, k1m2, k1m3, k1m4]
  instanceTypes := #[]
  staticTypes := #[]
  resolved := Array.replicate 55 none
  statics := none }

def pool2 : Array CpInfo := pool [(1, .class_ 2), (0, u "java/lang/constant/Constable"), (0, .class_ 4), (0, u "java/lang/Object")] 6

/-- java/lang/constant/Constable -/
def k2 : Class := { plain "java/lang/constant/Constable" (some 0) with
  accessFlags := 1537
  interfaces := #[]
  cf := some (fileOf pool2 1 #[] #[] 1537 3 #[] #[])
  fields := #[]
  methods := #[]
  instanceTypes := #[]
  staticTypes := #[]
  resolved := Array.replicate 11 none
  statics := none }

def pool3 : Array CpInfo := pool [(1, .class_ 2), (0, u "java/lang/Comparable"), (0, .class_ 4), (0, u "java/lang/Object")] 7

/-- java/lang/Comparable -/
def k3 : Class := { plain "java/lang/Comparable" (some 0) with
  accessFlags := 1537
  interfaces := #[]
  cf := some (fileOf pool3 1 #[] #[] 1537 3 #[] #[])
  fields := #[]
  methods := #[]
  instanceTypes := #[]
  staticTypes := #[]
  resolved := Array.replicate 12 none
  statics := none }

def pool4 : Array CpInfo := pool [(1, .class_ 2), (0, u "java/io/Serializable"), (0, .class_ 4), (0, u "java/lang/Object")] 2

/-- java/io/Serializable -/
def k4 : Class := { plain "java/io/Serializable" (some 0) with
  accessFlags := 1537
  interfaces := #[]
  cf := some (fileOf pool4 1 #[] #[] 1537 3 #[] #[])
  fields := #[]
  methods := #[]
  instanceTypes := #[]
  staticTypes := #[]
  resolved := Array.replicate 7 none
  statics := none }

def pool5 : Array CpInfo := pool [(2, .class_ 4), (1, u "java/lang/Enum"), (0, u "name"), (0, u "Ljava/lang/String;"), (2, u "ordinal"), (0, u "I"), (1, .class_ 14), (1, u "java/lang/Object"), (4, u "hash"), (86, .class_ 108), (1, u "java/lang/Enum$EnumDesc"), (2, .class_ 112), (0, u "java/lang/constant/Constable"), (0, .class_ 114), (0, u "java/lang/Comparable"), (0, .class_ 116), (0, u "java/io/Serializable")] 87

/-- java/lang/Enum -/
def k5 : Class := { plain "java/lang/Enum" (some 0) with
  accessFlags := 1057
  interfaces := #[2, 3, 4]
  cf := some (fileOf pool5 2 #[.nestMembers #[106]] #[] 1057 12 #[111, 113, 115] #[{ accessFlags := 18, nameIndex := 5, descriptorIndex := 6, attributes := #[] }, { accessFlags := 18, nameIndex := 9, descriptorIndex := 10, attributes := #[] }, { accessFlags := 2, nameIndex := 19, descriptorIndex := 10, attributes := #[] }])
  fields := #[{ name := "name", type := (.object "java/lang/String"), accessFlags := 18, slot := 0, constantValue := 0 }, { name := "ordinal", type := .int, accessFlags := 18, slot := 1, constantValue := 0 }, { name := "hash", type := .int, accessFlags := 2, slot := 2, constantValue := 0 }]
  methods := #[]
  instanceTypes := #[(.object "java/lang/String"), .int, .int]
  staticTypes := #[]
  resolved := Array.replicate 204 none
  statics := none }

def pool6 : Array CpInfo := pool [(1, .class_ 2), (0, u "com/example/access_bindings/accessbindings/server/RestResource"), (2, u "CLOUDS"), (0, u "Lcom/example/access_bindings/accessbindings/server/RestResource;"), (2, u "COMMUNITIES"), (2, u "CLUSTERS"), (2, u "APPLICATIONS"), (2, u "$VALUES"), (0, u "[Lcom/example/access_bindings/accessbindings/server/RestResource;"), (6, .class_ 28), (1, u "java/lang/Enum"), (2, .string 32), (0, u "listAccessBindings"), (9, u "kind"), (0, u "Lcom/example/access_bindings/accessbindings/ResourceKind;"), (2, u "pathPrefix"), (0, u "Ljava/lang/String;"), (2, u "metadataField"), (0, .fieldref 1 52), (0, .nameAndType 53 47), (0, u "listMethod"), (7, .class_ 63), (1, u "java/lang/String"), (8, .methodref 61 73), (0, .nameAndType 74 75), (0, u "equals"), (0, u "(Ljava/lang/Object;)Z"), (38, u "LIST_ACCESS_BINDINGS"), (13, u "listsBindingsAt"), (0, u "(Ljava/lang/String;)Z")] 20

def k6c0 : Code := { maxStack := 2, maxLocals := 2, code := prog_52_method_8_code, exceptionTable := #[], attributes := #[] }
def k6m0 : Method := { name := "listsBindingsAt", desc := "(Ljava/lang/String;)Z", sig := { parameters := [(.object "java/lang/String")], returnType := some .boolean }, accessFlags := 0, code := some k6c0 }
/-- com/example/access_bindings/accessbindings/server/RestResource -/
def k6 : Class := { plain "com/example/access_bindings/accessbindings/server/RestResource" (some 5) with
  accessFlags := 16432
  interfaces := #[]
  cf := some (fileOf pool6 1 #[] #[{ accessFlags := 0, nameIndex := 128, descriptorIndex := 129, attributes := #[] }] 16432 26 #[] #[{ accessFlags := 16409, nameIndex := 5, descriptorIndex := 6, attributes := #[] }, { accessFlags := 16409, nameIndex := 9, descriptorIndex := 6, attributes := #[] }, { accessFlags := 16409, nameIndex := 12, descriptorIndex := 6, attributes := #[] }, { accessFlags := 16409, nameIndex := 15, descriptorIndex := 6, attributes := #[] }, { accessFlags := 26, nameIndex := 114, descriptorIndex := 47, attributes := #[] }, { accessFlags := 18, nameIndex := 42, descriptorIndex := 43, attributes := #[] }, { accessFlags := 18, nameIndex := 46, descriptorIndex := 47, attributes := #[] }, { accessFlags := 18, nameIndex := 50, descriptorIndex := 47, attributes := #[] }, { accessFlags := 18, nameIndex := 53, descriptorIndex := 47, attributes := #[] }, { accessFlags := 4122, nameIndex := 18, descriptorIndex := 19, attributes := #[] }])
  fields := #[{ name := "CLOUDS", type := (.object "com/example/access_bindings/accessbindings/server/RestResource"), accessFlags := 16409, slot := 0, constantValue := 0 }, { name := "COMMUNITIES", type := (.object "com/example/access_bindings/accessbindings/server/RestResource"), accessFlags := 16409, slot := 1, constantValue := 0 }, { name := "CLUSTERS", type := (.object "com/example/access_bindings/accessbindings/server/RestResource"), accessFlags := 16409, slot := 2, constantValue := 0 }, { name := "APPLICATIONS", type := (.object "com/example/access_bindings/accessbindings/server/RestResource"), accessFlags := 16409, slot := 3, constantValue := 0 }, { name := "LIST_ACCESS_BINDINGS", type := (.object "java/lang/String"), accessFlags := 26, slot := 4, constantValue := 0 }, { name := "kind", type := (.object "com/example/access_bindings/accessbindings/ResourceKind"), accessFlags := 18, slot := 3, constantValue := 0 }, { name := "pathPrefix", type := (.object "java/lang/String"), accessFlags := 18, slot := 4, constantValue := 0 }, { name := "metadataField", type := (.object "java/lang/String"), accessFlags := 18, slot := 5, constantValue := 0 }, { name := "listMethod", type := (.object "java/lang/String"), accessFlags := 18, slot := 6, constantValue := 0 }, { name := "$VALUES", type := (.array (.object "com/example/access_bindings/accessbindings/server/RestResource")), accessFlags := 4122, slot := 5, constantValue := 0 }]
  methods := #[k6m0]
  instanceTypes := #[(.object "java/lang/String"), .int, .int, (.object "com/example/access_bindings/accessbindings/ResourceKind"), (.object "java/lang/String"), (.object "java/lang/String"), (.object "java/lang/String")]
  staticTypes := #[(.object "com/example/access_bindings/accessbindings/server/RestResource"), (.object "com/example/access_bindings/accessbindings/server/RestResource"), (.object "com/example/access_bindings/accessbindings/server/RestResource"), (.object "com/example/access_bindings/accessbindings/server/RestResource"), (.object "java/lang/String"), (.array (.object "com/example/access_bindings/accessbindings/server/RestResource"))]
  resolved := Array.replicate 150 none
  statics := some 0 }

def pool7 : Array CpInfo := pool [(2, .class_ 4), (1, u "java/lang/CharSequence"), (42, .class_ 48), (0, u "java/lang/CharSequence$1CodePointIterator"), (10, .class_ 60), (0, u "java/lang/CharSequence$1CharIterator"), (5, .class_ 67), (0, u "java/lang/Object")] 63

/-- java/lang/CharSequence -/
def k7 : Class := { plain "java/lang/CharSequence" (some 0) with
  accessFlags := 1537
  interfaces := #[]
  cf := some (fileOf pool7 2 #[.nestMembers #[47, 59]] #[] 1537 66 #[] #[])
  fields := #[]
  methods := #[]
  instanceTypes := #[]
  staticTypes := #[]
  resolved := Array.replicate 131 none
  statics := none }

def pool8 : Array CpInfo := pool [(1, .class_ 2), (0, u "java/lang/constant/ConstantDesc"), (0, .class_ 4), (0, u "java/lang/Object")] 32

/-- java/lang/constant/ConstantDesc -/
def k8 : Class := { plain "java/lang/constant/ConstantDesc" (some 0) with
  accessFlags := 1537
  interfaces := #[]
  cf := some (fileOf pool8 1 #[] #[] 1537 3 #[] #[])
  fields := #[]
  methods := #[]
  instanceTypes := #[]
  staticTypes := #[]
  resolved := Array.replicate 37 none
  statics := none }

def pool9 : Array CpInfo := pool [(1, .methodref 2 3), (0, .class_ 4), (0, .nameAndType 5 6), (0, u "java/lang/Object"), (0, u "<init>"), (0, u "()V"), (0, .string 8), (0, u ""), (0, .fieldref 10 11), (0, .class_ 12), (0, .nameAndType 13 14), (0, u "java/lang/String"), (0, u "value"), (0, u "[B"), (0, .fieldref 10 16), (0, .nameAndType 17 18), (0, u "coder"), (0, u "B"), (2, u "hash"), (0, u "I"), (2, u "hashIsZero"), (0, u "Z"), (0, .methodref 10 28), (0, .nameAndType 5 29), (0, u "([CIILjava/lang/Void;)V"), (8, .fieldref 10 39), (0, .nameAndType 40 26), (0, u "COMPACT_STRINGS"), (1, .class_ 44), (1, u "java/lang/StringUTF16"), (0, u "compress"), (1, .methodref 42 48), (0, .nameAndType 49 50), (0, u "coderFromArrayLen"), (0, u "([BI)B"), (56, .class_ 109), (1, u "java/lang/StringLatin1"), (67, .methodref 42 178), (0, .nameAndType 45 179), (0, u "([CII)[B"), (361, .methodref 107 542), (0, .nameAndType 543 544), (0, u "equals"), (0, u "([B[B)Z"), (28, u "(Ljava/lang/Object;)Z"), (1, .class_ 576), (0, u "java/lang/CharSequence"), (22, u "CASE_INSENSITIVE_ORDER"), (0, u "Ljava/util/Comparator;"), (409, u "([C)V"), (90, u "serialPersistentFields"), (0, u "[Ljava/io/ObjectStreamField;"), (0, .class_ 1104), (0, u "java/lang/String$CaseInsensitiveComparator"), (1, .class_ 1107), (0, u "java/io/Serializable"), (0, .class_ 1109), (0, u "java/lang/Comparable"), (0, .class_ 1111), (0, u "java/lang/constant/Constable"), (0, .class_ 1113), (0, u "java/lang/constant/ConstantDesc"), (2, u "serialVersionUID"), (0, u "J"), (3, u "REPL"), (0, u "C"), (2, u "LATIN1"), (1, u "UTF16")] 323

def k9m0 : Method := { name := "<init>", desc := "()V", sig := { parameters := [], returnType := none }, accessFlags := 1, code := none }
def k9c1 : Code := { maxStack := 5, maxLocals := 2, code := jdk_42_method_3_code, exceptionTable := #[], attributes := #[] }
def k9m1 : Method := { name := "<init>", desc := "([C)V", sig := { parameters := [(.array .char)], returnType := none }, accessFlags := 1, code := some k9c1 }
def k9c2 : Code := { maxStack := 2, maxLocals := 3, code := jdk_42_method_66_code, exceptionTable := #[], attributes := #[] }
def k9m2 : Method := { name := "equals", desc := "(Ljava/lang/Object;)Z", sig := { parameters := [(.object "java/lang/Object")], returnType := some .boolean }, accessFlags := 1, code := some k9c2 }
def k9c3 : Code := { maxStack := 4, maxLocals := 6, code := jdk_42_method_149_code, exceptionTable := #[], attributes := #[] }
def k9m3 : Method := { name := "<init>", desc := "([CIILjava/lang/Void;)V", sig := { parameters := [(.array .char), .int, .int, (.object "java/lang/Void")], returnType := none }, accessFlags := 2, code := some k9c3 }
/-- java/lang/String -/
def k9 : Class := { plain "java/lang/String" (some 0) with
  accessFlags := 49
  interfaces := #[4, 3, 7, 2, 8]
  cf := some (fileOf pool9 10 #[.nestMembers #[1103]] #[{ accessFlags := 1, nameIndex := 5, descriptorIndex := 6, attributes := #[] }, { accessFlags := 1, nameIndex := 5, descriptorIndex := 1010, attributes := #[] }, { accessFlags := 1, nameIndex := 543, descriptorIndex := 573, attributes := #[] }, { accessFlags := 2, nameIndex := 5, descriptorIndex := 29, attributes := #[] }] 49 2 #[1106, 1108, 575, 1110, 1112] #[{ accessFlags := 18, nameIndex := 13, descriptorIndex := 14, attributes := #[] }, { accessFlags := 18, nameIndex := 17, descriptorIndex := 18, attributes := #[] }, { accessFlags := 2, nameIndex := 21, descriptorIndex := 22, attributes := #[] }, { accessFlags := 2, nameIndex := 25, descriptorIndex := 26, attributes := #[] }, { accessFlags := 26, nameIndex := 1116, descriptorIndex := 1117, attributes := #[] }, { accessFlags := 24, nameIndex := 40, descriptorIndex := 26, attributes := #[] }, { accessFlags := 26, nameIndex := 1101, descriptorIndex := 1102, attributes := #[] }, { accessFlags := 26, nameIndex := 1121, descriptorIndex := 1122, attributes := #[] }, { accessFlags := 25, nameIndex := 599, descriptorIndex := 600, attributes := #[] }, { accessFlags := 24, nameIndex := 1125, descriptorIndex := 18, attributes := #[] }, { accessFlags := 24, nameIndex := 1127, descriptorIndex := 18, attributes := #[] }])
  fields := #[{ name := "value", type := (.array .byte), accessFlags := 18, slot := 0, constantValue := 0 }, { name := "coder", type := .byte, accessFlags := 18, slot := 1, constantValue := 0 }, { name := "hash", type := .int, accessFlags := 2, slot := 2, constantValue := 0 }, { name := "hashIsZero", type := .boolean, accessFlags := 2, slot := 3, constantValue := 0 }, { name := "serialVersionUID", type := .long, accessFlags := 26, slot := 0, constantValue := 0 }, { name := "COMPACT_STRINGS", type := .boolean, accessFlags := 24, slot := 1, constantValue := 0 }, { name := "serialPersistentFields", type := (.array (.object "java/io/ObjectStreamField")), accessFlags := 26, slot := 2, constantValue := 0 }, { name := "REPL", type := .char, accessFlags := 26, slot := 3, constantValue := 0 }, { name := "CASE_INSENSITIVE_ORDER", type := (.object "java/util/Comparator"), accessFlags := 25, slot := 4, constantValue := 0 }, { name := "LATIN1", type := .byte, accessFlags := 24, slot := 5, constantValue := 0 }, { name := "UTF16", type := .byte, accessFlags := 24, slot := 6, constantValue := 0 }]
  methods := #[k9m0, k9m1, k9m2, k9m3]
  instanceTypes := #[(.array .byte), .byte, .int, .boolean]
  staticTypes := #[.long, .boolean, (.array (.object "java/io/ObjectStreamField")), .char, (.object "java/util/Comparator"), .byte, .byte]
  resolved := Array.replicate 1451 none
  statics := some 1 }

def pool10 : Array CpInfo := pool [(6, .class_ 8), (1, u "java/lang/Object"), (0, u "<init>"), (0, u "()V"), (1, .class_ 14), (1, u "java/lang/StringUTF16"), (31, u "$assertionsDisabled"), (0, u "Z"), (13, u "HI_BYTE_SHIFT"), (0, u "I"), (2, u "LO_BYTE_SHIFT"), (49, .methodref 12 116), (0, .nameAndType 117 118), (0, u "compress"), (0, u "([CI[BII)I"), (3, u "([CII)[B"), (138, u "coderFromArrayLen"), (0, u "([BI)B"), (106, .class_ 371), (1, u "java/lang/StringUTF16$LinesSpliterator"), (58, u "MAX_LENGTH"), (196, .class_ 628), (0, u "java/lang/StringUTF16$CodePointsSpliterator"), (0, .class_ 630), (0, u "java/lang/StringUTF16$CharsSpliterator")] 4

def k10m0 : Method := { name := "<init>", desc := "()V", sig := { parameters := [], returnType := none }, accessFlags := 0, code := none }
def k10c1 : Code := { maxStack := 2, maxLocals := 2, code := jdk_52_method_15_code, exceptionTable := #[], attributes := #[] }
def k10m1 : Method := { name := "coderFromArrayLen", desc := "([BI)B", sig := { parameters := [(.array .byte), .int], returnType := some .byte }, accessFlags := 8, code := some k10c1 }
def k10c2 : Code := { maxStack := 5, maxLocals := 6, code := jdk_52_method_16_code, exceptionTable := #[], attributes := #[] }
def k10m2 : Method := { name := "compress", desc := "([CII)[B", sig := { parameters := [(.array .char), .int, .int], returnType := some (.array .byte) }, accessFlags := 9, code := some k10c2 }
def k10c3 : Code := { maxStack := 3, maxLocals := 7, code := jdk_52_method_21_code, exceptionTable := #[], attributes := #[] }
def k10m3 : Method := { name := "compress", desc := "([CI[BII)I", sig := { parameters := [(.array .char), .int, (.array .byte), .int, .int], returnType := some .int }, accessFlags := 9, code := some k10c3 }
/-- java/lang/StringUTF16 -/
def k10 : Class := { plain "java/lang/StringUTF16" (some 0) with
  accessFlags := 48
  interfaces := #[]
  cf := some (fileOf pool10 12 #[.nestMembers #[627, 629, 369]] #[{ accessFlags := 0, nameIndex := 9, descriptorIndex := 10, attributes := #[] }, { accessFlags := 8, nameIndex := 261, descriptorIndex := 262, attributes := #[] }, { accessFlags := 9, nameIndex := 117, descriptorIndex := 122, attributes := #[] }, { accessFlags := 9, nameIndex := 117, descriptorIndex := 118, attributes := #[] }] 48 6 #[] #[{ accessFlags := 26, nameIndex := 61, descriptorIndex := 62, attributes := #[] }, { accessFlags := 26, nameIndex := 65, descriptorIndex := 62, attributes := #[] }, { accessFlags := 24, nameIndex := 430, descriptorIndex := 62, attributes := #[] }, { accessFlags := 4120, nameIndex := 46, descriptorIndex := 47, attributes := #[] }])
  fields := #[{ name := "HI_BYTE_SHIFT", type := .int, accessFlags := 26, slot := 0, constantValue := 0 }, { name := "LO_BYTE_SHIFT", type := .int, accessFlags := 26, slot := 1, constantValue := 0 }, { name := "MAX_LENGTH", type := .int, accessFlags := 24, slot := 2, constantValue := 0 }, { name := "$assertionsDisabled", type := .boolean, accessFlags := 4120, slot := 3, constantValue := 0 }]
  methods := #[k10m0, k10m1, k10m2, k10m3]
  instanceTypes := #[]
  staticTypes := #[.int, .int, .int, .boolean]
  resolved := Array.replicate 635 none
  statics := none }

def pool11 : Array CpInfo := pool [(4, .class_ 6), (1, u "java/lang/Object"), (0, u "<init>"), (0, u "()V"), (5, .class_ 16), (1, u "java/lang/StringLatin1"), (104, u "$assertionsDisabled"), (0, u "Z"), (98, .class_ 223), (1, u "java/lang/StringLatin1$LinesSpliterator"), (57, u "equals"), (0, u "([B[B)Z"), (107, .class_ 391), (0, u "java/lang/StringLatin1$CharsSpliterator")] 3

def k11m0 : Method := { name := "<init>", desc := "()V", sig := { parameters := [], returnType := none }, accessFlags := 0, code := none }
def k11c1 : Code := { maxStack := 3, maxLocals := 3, code := jdk_43_method_13_code, exceptionTable := #[], attributes := #[] }
def k11m1 : Method := { name := "equals", desc := "([B[B)Z", sig := { parameters := [(.array .byte), (.array .byte)], returnType := some .boolean }, accessFlags := 9, code := some k11c1 }
/-- java/lang/StringLatin1 -/
def k11 : Class := { plain "java/lang/StringLatin1" (some 0) with
  accessFlags := 48
  interfaces := #[]
  cf := some (fileOf pool11 14 #[.nestMembers #[390, 221]] #[{ accessFlags := 0, nameIndex := 7, descriptorIndex := 8, attributes := #[] }, { accessFlags := 9, nameIndex := 281, descriptorIndex := 282, attributes := #[] }] 48 4 #[] #[{ accessFlags := 4120, nameIndex := 121, descriptorIndex := 122, attributes := #[] }])
  fields := #[{ name := "$assertionsDisabled", type := .boolean, accessFlags := 4120, slot := 0, constantValue := 0 }]
  methods := #[k11m0, k11m1]
  instanceTypes := #[]
  staticTypes := #[.boolean]
  resolved := Array.replicate 395 none
  statics := none }

def pool12 : Array CpInfo := pool [(2, .class_ 4), (1, u "java/lang/Object"), (0, u "<init>"), (0, u "()V"), (17, .class_ 26), (1, u "jdk/internal/util/Preconditions"), (28, .class_ 56), (0, u "jdk/internal/util/Preconditions$4"), (57, .class_ 115), (0, u "jdk/internal/util/Preconditions$1"), (7, u "SIOOBE_FORMATTER"), (0, u "Ljava/util/function/BiFunction;"), (0, .class_ 126), (0, u "jdk/internal/util/Preconditions$2"), (3, u "AIOOBE_FORMATTER"), (0, .class_ 132), (0, u "jdk/internal/util/Preconditions$3"), (3, u "IOOBE_FORMATTER")] 57

def k12m0 : Method := { name := "<init>", desc := "()V", sig := { parameters := [], returnType := none }, accessFlags := 1, code := none }
/-- jdk/internal/util/Preconditions -/
def k12 : Class := { plain "jdk/internal/util/Preconditions" (some 0) with
  accessFlags := 33
  interfaces := #[]
  cf := some (fileOf pool12 24 #[.nestMembers #[55, 131, 125, 114]] #[{ accessFlags := 1, nameIndex := 5, descriptorIndex := 6, attributes := #[] }] 33 2 #[] #[{ accessFlags := 25, nameIndex := 123, descriptorIndex := 124, attributes := #[] }, { accessFlags := 25, nameIndex := 130, descriptorIndex := 124, attributes := #[] }, { accessFlags := 25, nameIndex := 136, descriptorIndex := 124, attributes := #[] }])
  fields := #[{ name := "SIOOBE_FORMATTER", type := (.object "java/util/function/BiFunction"), accessFlags := 25, slot := 0, constantValue := 0 }, { name := "AIOOBE_FORMATTER", type := (.object "java/util/function/BiFunction"), accessFlags := 25, slot := 1, constantValue := 0 }, { name := "IOOBE_FORMATTER", type := (.object "java/util/function/BiFunction"), accessFlags := 25, slot := 2, constantValue := 0 }]
  methods := #[k12m0]
  instanceTypes := #[]
  staticTypes := #[(.object "java/util/function/BiFunction"), (.object "java/util/function/BiFunction"), (.object "java/util/function/BiFunction")]
  resolved := Array.replicate 194 none
  statics := some 2 }

def pool13 : Array CpInfo := pool [(9, u "<init>"), (6, .class_ 18), (1, u "java/lang/Object"), (0, u "()V"), (1, .class_ 23), (1, u "jdk/internal/util/ArraysSupport"), (0, u "LOG2_ARRAY_LONG_INDEX_SCALE"), (0, u "I"), (2, u "U"), (0, u "Ljdk/internal/misc/Unsafe;"), (8, u "BIG_ENDIAN"), (0, u "Z"), (8, u "LOG2_BYTE_BIT_SIZE"), (4, u "LOG2_ARRAY_INT_INDEX_SCALE"), (54, u "JLA"), (0, u "Ljdk/internal/access/JavaLangAccess;"), (11, u "LOG2_ARRAY_BOOLEAN_INDEX_SCALE"), (9, u "LOG2_ARRAY_BYTE_INDEX_SCALE"), (5, u "LOG2_ARRAY_CHAR_INDEX_SCALE"), (5, u "LOG2_ARRAY_SHORT_INDEX_SCALE"), (18, u "LOG2_ARRAY_FLOAT_INDEX_SCALE"), (24, u "LOG2_ARRAY_DOUBLE_INDEX_SCALE"), (89, u "T_BOOLEAN"), (2, u "T_CHAR"), (1, u "T_FLOAT"), (1, u "T_DOUBLE"), (1, u "T_BYTE"), (1, u "T_SHORT"), (1, u "T_INT"), (1, u "T_LONG"), (1, u "SOFT_MAX_ARRAY_LENGTH")] 83

def k13m0 : Method := { name := "<init>", desc := "()V", sig := { parameters := [], returnType := none }, accessFlags := 2, code := none }
/-- jdk/internal/util/ArraysSupport -/
def k13 : Class := { plain "jdk/internal/util/ArraysSupport" (some 0) with
  accessFlags := 33
  interfaces := #[]
  cf := some (fileOf pool13 21 #[] #[{ accessFlags := 2, nameIndex := 9, descriptorIndex := 19, attributes := #[] }] 33 16 #[] #[{ accessFlags := 24, nameIndex := 28, descriptorIndex := 29, attributes := #[] }, { accessFlags := 26, nameIndex := 38, descriptorIndex := 39, attributes := #[] }, { accessFlags := 25, nameIndex := 121, descriptorIndex := 25, attributes := #[] }, { accessFlags := 25, nameIndex := 131, descriptorIndex := 25, attributes := #[] }, { accessFlags := 25, nameIndex := 137, descriptorIndex := 25, attributes := #[] }, { accessFlags := 25, nameIndex := 143, descriptorIndex := 25, attributes := #[] }, { accessFlags := 25, nameIndex := 53, descriptorIndex := 25, attributes := #[] }, { accessFlags := 25, nameIndex := 24, descriptorIndex := 25, attributes := #[] }, { accessFlags := 25, nameIndex := 162, descriptorIndex := 25, attributes := #[] }, { accessFlags := 25, nameIndex := 187, descriptorIndex := 25, attributes := #[] }, { accessFlags := 26, nameIndex := 48, descriptorIndex := 25, attributes := #[] }, { accessFlags := 25, nameIndex := 277, descriptorIndex := 25, attributes := #[] }, { accessFlags := 25, nameIndex := 280, descriptorIndex := 25, attributes := #[] }, { accessFlags := 25, nameIndex := 282, descriptorIndex := 25, attributes := #[] }, { accessFlags := 25, nameIndex := 284, descriptorIndex := 25, attributes := #[] }, { accessFlags := 25, nameIndex := 286, descriptorIndex := 25, attributes := #[] }, { accessFlags := 25, nameIndex := 288, descriptorIndex := 25, attributes := #[] }, { accessFlags := 25, nameIndex := 290, descriptorIndex := 25, attributes := #[] }, { accessFlags := 25, nameIndex := 292, descriptorIndex := 25, attributes := #[] }, { accessFlags := 26, nameIndex := 108, descriptorIndex := 109, attributes := #[] }, { accessFlags := 25, nameIndex := 294, descriptorIndex := 25, attributes := #[] }])
  fields := #[{ name := "U", type := (.object "jdk/internal/misc/Unsafe"), accessFlags := 24, slot := 0, constantValue := 0 }, { name := "BIG_ENDIAN", type := .boolean, accessFlags := 26, slot := 1, constantValue := 0 }, { name := "LOG2_ARRAY_BOOLEAN_INDEX_SCALE", type := .int, accessFlags := 25, slot := 2, constantValue := 0 }, { name := "LOG2_ARRAY_BYTE_INDEX_SCALE", type := .int, accessFlags := 25, slot := 3, constantValue := 0 }, { name := "LOG2_ARRAY_CHAR_INDEX_SCALE", type := .int, accessFlags := 25, slot := 4, constantValue := 0 }, { name := "LOG2_ARRAY_SHORT_INDEX_SCALE", type := .int, accessFlags := 25, slot := 5, constantValue := 0 }, { name := "LOG2_ARRAY_INT_INDEX_SCALE", type := .int, accessFlags := 25, slot := 6, constantValue := 0 }, { name := "LOG2_ARRAY_LONG_INDEX_SCALE", type := .int, accessFlags := 25, slot := 7, constantValue := 0 }, { name := "LOG2_ARRAY_FLOAT_INDEX_SCALE", type := .int, accessFlags := 25, slot := 8, constantValue := 0 }, { name := "LOG2_ARRAY_DOUBLE_INDEX_SCALE", type := .int, accessFlags := 25, slot := 9, constantValue := 0 }, { name := "LOG2_BYTE_BIT_SIZE", type := .int, accessFlags := 26, slot := 10, constantValue := 0 }, { name := "T_BOOLEAN", type := .int, accessFlags := 25, slot := 11, constantValue := 0 }, { name := "T_CHAR", type := .int, accessFlags := 25, slot := 12, constantValue := 0 }, { name := "T_FLOAT", type := .int, accessFlags := 25, slot := 13, constantValue := 0 }, { name := "T_DOUBLE", type := .int, accessFlags := 25, slot := 14, constantValue := 0 }, { name := "T_BYTE", type := .int, accessFlags := 25, slot := 15, constantValue := 0 }, { name := "T_SHORT", type := .int, accessFlags := 25, slot := 16, constantValue := 0 }, { name := "T_INT", type := .int, accessFlags := 25, slot := 17, constantValue := 0 }, { name := "T_LONG", type := .int, accessFlags := 25, slot := 18, constantValue := 0 }, { name := "JLA", type := (.object "jdk/internal/access/JavaLangAccess"), accessFlags := 26, slot := 19, constantValue := 0 }, { name := "SOFT_MAX_ARRAY_LENGTH", type := .int, accessFlags := 25, slot := 20, constantValue := 0 }]
  methods := #[k13m0]
  instanceTypes := #[]
  staticTypes := #[(.object "jdk/internal/misc/Unsafe"), .boolean, .int, .int, .int, .int, .int, .int, .int, .int, .int, .int, .int, .int, .int, .int, .int, .int, .int, (.object "jdk/internal/access/JavaLangAccess"), .int]
  resolved := Array.replicate 378 none
  statics := none }

def pool14 : Array CpInfo := pool [(1, u "java/lang/Cloneable"), (0, .class_ 1), (0, u "java/lang/Object"), (0, .class_ 3)] 3

/-- java/lang/Cloneable -/
def k14 : Class := { plain "java/lang/Cloneable" (some 0) with
  accessFlags := 1537
  interfaces := #[]
  cf := some (fileOf pool14 2 #[] #[] 1537 4 #[] #[])
  fields := #[]
  methods := #[]
  instanceTypes := #[]
  staticTypes := #[]
  resolved := Array.replicate 8 none
  statics := none }

/-- the primitive byte -/
def k15 : Class := { plain "byte" none with kind := .primitive 'B', accessFlags := 0x411 }
/-- [B -/
def k16 : Class := { plain "[B" (some 0) with kind := .array 15 .byte, interfaces := #[14, 4], accessFlags := 1041 }

/-- the primitive char -/
def k17 : Class := { plain "char" none with kind := .primitive 'C', accessFlags := 0x411 }
/-- [C -/
def k18 : Class := { plain "[C" (some 0) with kind := .array 17 .char, interfaces := #[14, 4], accessFlags := 1041 }

def heap : Heap := #[{ cls := 6, slots := #[.ref 7, .ref 8, .ref 9, .ref 10, .null, .null], vm := .statics 6 },
  { cls := 9, slots := #[.long 0, .int 1, .null, .int 0, .null, .int 0, .int 0], vm := .statics 9 },
  { cls := 12, slots := #[.null, .null, .null], vm := .statics 12 },
  { cls := 16, slots := #[.int 108, .int 105, .int 115, .int 116, .int 65, .int 99, .int 99, .int 101, .int 115, .int 115, .int 66, .int 105, .int 110, .int 100, .int 105, .int 110, .int 103, .int 115], vm := .none },
  { cls := 16, slots := #[.int 97, .int 99, .int 99, .int 101, .int 115, .int 115, .int 66, .int 105, .int 110, .int 100, .int 105, .int 110, .int 103, .int 115], vm := .none },
  { cls := 9, slots := #[.ref 3, .int 0, .int 0, .int 0], vm := .none },
  { cls := 9, slots := #[.ref 4, .int 0, .int 0, .int 0], vm := .none },
  { cls := 6, slots := #[.null, .int 0, .int 0, .null, .null, .null, .ref 5], vm := .none },
  { cls := 6, slots := #[.null, .int 1, .int 0, .null, .null, .null, .ref 6], vm := .none },
  { cls := 6, slots := #[.null, .int 2, .int 0, .null, .null, .null, .ref 5], vm := .none },
  { cls := 6, slots := #[.null, .int 3, .int 0, .null, .null, .null, .ref 5], vm := .none }]
def classes : Array Class := #[k0, k1, k2, k3, k4, k5, k6, k7, k8, k9, k10, k11, k12, k13, k14, k15, k16, k17, k18]
def interned : List (Array UInt16 × Addr) := []
def slotsUsed : Nat := 84
def theMethod : MethodId := ⟨1, 4⟩
def args0 : Array Value := #[.int 5, .int 7, .int 8, .int 9]
def aboutOver (below : List Frame) : State where
  vm := { classes := classes, interned := interned.toArray }
  heap := heap
  slotsUsed := slotsUsed
  threads := #[{ frames := .invoking theMethod args0 :: below }]
def below0 : List Frame := [.native { method := ⟨0, 0⟩, args := #[] }]
def about1 : State := aboutOver below0
def p0 : Program := .bare "" "" ""
def e0 : Env := launch0.env 0 0 0
theorem w_frames : about1.frames = Frame.invoking theMethod args0 :: below0 := rfl
set_option maxRecDepth 65536 in
theorem w_args : argsFit about1.vm theMethod args0 = true := by decide +kernel
set_option maxRecDepth 65536 in
theorem w_heap : heapFits about1 = true := by decide +kernel
set_option maxRecDepth 65536 in
theorem w_runnable : about1.curStatus? = some .runnable := by decide +kernel
set_option maxRecDepth 65536 in
theorem w_alone : about1.alone = true := by decide +kernel
set_option maxRecDepth 65536 in
theorem w_named : about1.methodNamed? x = some theMethod := by decide +kernel
set_option maxRecDepth 65536 in
theorem w_hears : about1.hears theMethod below0 = true := by decide +kernel
set_option maxRecDepth 65536 in
theorem w_ripe : about1.ripe theMethod args0 below0 = true := by decide +kernel
theorem w_running : about1.status = .running := rfl
set_option maxRecDepth 65536 in
theorem w_room : about1.hasRoom e0.platform room_1 = true :=
  launch0.hasRoom_least _ room_1 (by decide +kernel) (by decide +kernel) (by decide +kernel) (by decide +kernel) (by decide +kernel) (by decide +kernel)
theorem allAtoms_all (ts : List Jvm.Cond) (a : Array Jvm.Value) (st : Jvm.State) : (allAtoms ts).before a st = ts.all (fun c => c.before a st) := by
  induction ts with
  | nil => rfl
  | cons c t ih =>
    show (Jvm.Cond.and c (allAtoms t)).before a st = _
    rw [Jvm.Cond.before_and, ih, List.all_cons]
def words1 : List Jvm.Cond := Jvm.Cond.code x code maxLocals ret :: tables_1
/-- a 'code' word, met by the world's own term for the bytes: nothing is compared byte by byte -/
theorem code_word {y : MethodName} {bytes : ByteArray} {mx : Nat} {rt : Option FieldType} {a : Array Value} {s : State} {m : MethodId} {meth : Method} {c : Code} (h1 : s.methodNamed? y = some m) (h2 : s.vm.method? m = some meth) (h3 : meth.code = some c) (h4 : c.code = bytes)
    (h5 : (c.maxLocals == mx && c.exceptionTable.isEmpty && decide (c.maxStack ≤ mostOperands) && decide (meth.sig.returnType = rt) && !meth.locks && decide (parseMethodDescriptor y.desc = some meth.sig)) = true) : (Jvm.Cond.code y bytes mx rt).before a s = true := by
  simp only [Bool.and_eq_true, beq_iff_eq, Bool.not_eq_true', decide_eq_true_eq] at h5
  obtain ⟨⟨⟨⟨⟨g1, g2⟩, g3⟩, g4⟩, g5⟩, g6⟩ := h5
  simp [Cond.before, Cond.holds, Cond.value, h1, h2, h3, h4, g1, g2, g3, g4, g5, g6]
def isCode : Jvm.Cond → Bool
  | .code _ _ _ _ => true
  | _ => false
theorem all_split {L : List Jvm.Cond} {P : Jvm.Cond → Bool} (h1 : L.all (fun c => isCode c || P c) = true) (h2 : ∀ c ∈ L.filter isCode, P c = true) : L.all P = true := by
  refine List.all_eq_true.mpr fun c hc => ?_
  have h := List.all_eq_true.mp h1 c hc
  rcases Bool.eq_false_or_eq_true (isCode c) with hi | hi
  · exact h2 c (List.mem_filter.mpr ⟨hc, hi⟩)
  · simpa [hi] using h
set_option maxRecDepth 65536 in
theorem w_c0 : (Jvm.Cond.code x code maxLocals ret).before args0 about1 = true := code_word (m := ⟨1, 4⟩) (meth := k1m4) (c := k1c4) (by decide +kernel) rfl rfl rfl (by decide +kernel)
set_option maxRecDepth 65536 in
theorem w_c1 : (Jvm.Cond.code ({ cls := "com/example/access_bindings/accessbindings/server/RestResourceListsBindingsAtPinLaw", name := "constant", desc := "(I)Lcom/example/access_bindings/accessbindings/server/RestResource;" } : Jvm.MethodName) method_4_code (2 : Nat) (Option.some (Jvm.ClassFile.FieldType.object "com/example/access_bindings/accessbindings/server/RestResource"))).before args0 about1 = true := code_word (m := ⟨1, 3⟩) (meth := k1m3) (c := k1c3) (by decide +kernel) rfl rfl rfl (by decide +kernel)
set_option maxRecDepth 65536 in
theorem w_c2 : (Jvm.Cond.code ({ cls := "com/example/access_bindings/accessbindings/server/RestResourceListsBindingsAtPinLaw", name := "base", desc := "(I)[C" } : Jvm.MethodName) method_2_code (1 : Nat) (Option.some (Jvm.ClassFile.FieldType.array Jvm.ClassFile.FieldType.char))).before args0 about1 = true := code_word (m := ⟨1, 1⟩) (meth := k1m1) (c := k1c1) (by decide +kernel) rfl rfl rfl (by decide +kernel)
set_option maxRecDepth 65536 in
theorem w_c3 : (Jvm.Cond.code ({ cls := "java/lang/String", name := "<init>", desc := "([C)V" } : Jvm.MethodName) jdk_42_method_3_code (2 : Nat) (Option.none : Option Jvm.ClassFile.FieldType)).before args0 about1 = true := code_word (m := ⟨9, 1⟩) (meth := k9m1) (c := k9c1) (by decide +kernel) rfl rfl rfl (by decide +kernel)
set_option maxRecDepth 65536 in
theorem w_c4 : (Jvm.Cond.code ({ cls := "java/lang/String", name := "<init>", desc := "([CIILjava/lang/Void;)V" } : Jvm.MethodName) jdk_42_method_149_code (6 : Nat) (Option.none : Option Jvm.ClassFile.FieldType)).before args0 about1 = true := code_word (m := ⟨9, 3⟩) (meth := k9m3) (c := k9c3) (by decide +kernel) rfl rfl rfl (by decide +kernel)
set_option maxRecDepth 65536 in
theorem w_c5 : (Jvm.Cond.code ({ cls := "java/lang/Object", name := "<init>", desc := "()V" } : Jvm.MethodName) object_method_1_code (1 : Nat) (Option.none : Option Jvm.ClassFile.FieldType)).before args0 about1 = true := code_word (m := ⟨0, 0⟩) (meth := k0m0) (c := k0c0) (by decide +kernel) rfl rfl rfl (by decide +kernel)
set_option maxRecDepth 65536 in
theorem w_c6 : (Jvm.Cond.code ({ cls := "java/lang/StringUTF16", name := "compress", desc := "([CII)[B" } : Jvm.MethodName) jdk_52_method_16_code (6 : Nat) (Option.some (Jvm.ClassFile.FieldType.array Jvm.ClassFile.FieldType.byte))).before args0 about1 = true := code_word (m := ⟨10, 2⟩) (meth := k10m2) (c := k10c2) (by decide +kernel) rfl rfl rfl (by decide +kernel)
set_option maxRecDepth 65536 in
theorem w_c7 : (Jvm.Cond.code ({ cls := "java/lang/StringUTF16", name := "compress", desc := "([CI[BII)I" } : Jvm.MethodName) jdk_52_method_21_code (7 : Nat) (Option.some Jvm.ClassFile.FieldType.int)).before args0 about1 = true := code_word (m := ⟨10, 3⟩) (meth := k10m3) (c := k10c3) (by decide +kernel) rfl rfl rfl (by decide +kernel)
set_option maxRecDepth 65536 in
theorem w_c8 : (Jvm.Cond.code ({ cls := "java/lang/StringUTF16", name := "coderFromArrayLen", desc := "([BI)B" } : Jvm.MethodName) jdk_52_method_15_code (2 : Nat) (Option.some Jvm.ClassFile.FieldType.byte)).before args0 about1 = true := code_word (m := ⟨10, 1⟩) (meth := k10m1) (c := k10c1) (by decide +kernel) rfl rfl rfl (by decide +kernel)
set_option maxRecDepth 65536 in
theorem w_c9 : (Jvm.Cond.code ({ cls := "com/example/access_bindings/accessbindings/server/RestResource", name := "listsBindingsAt", desc := "(Ljava/lang/String;)Z" } : Jvm.MethodName) prog_52_method_8_code (2 : Nat) (Option.some Jvm.ClassFile.FieldType.boolean)).before args0 about1 = true := code_word (m := ⟨6, 0⟩) (meth := k6m0) (c := k6c0) (by decide +kernel) rfl rfl rfl (by decide +kernel)
set_option maxRecDepth 65536 in
theorem w_c10 : (Jvm.Cond.code ({ cls := "java/lang/String", name := "equals", desc := "(Ljava/lang/Object;)Z" } : Jvm.MethodName) jdk_42_method_66_code (3 : Nat) (Option.some Jvm.ClassFile.FieldType.boolean)).before args0 about1 = true := code_word (m := ⟨9, 2⟩) (meth := k9m2) (c := k9c2) (by decide +kernel) rfl rfl rfl (by decide +kernel)
set_option maxRecDepth 65536 in
theorem w_c11 : (Jvm.Cond.code ({ cls := "java/lang/StringLatin1", name := "equals", desc := "([B[B)Z" } : Jvm.MethodName) jdk_43_method_13_code (3 : Nat) (Option.some Jvm.ClassFile.FieldType.boolean)).before args0 about1 = true := code_word (m := ⟨11, 1⟩) (meth := k11m1) (c := k11c1) (by decide +kernel) rfl rfl rfl (by decide +kernel)
set_option maxRecDepth 65536 in
theorem w_c12 : (Jvm.Cond.code ({ cls := "com/example/access_bindings/accessbindings/server/RestResourceListsBindingsAtPinLaw", name := "extended", desc := "(IC)[C" } : Jvm.MethodName) method_3_code (2 : Nat) (Option.some (Jvm.ClassFile.FieldType.array Jvm.ClassFile.FieldType.char))).before args0 about1 = true := code_word (m := ⟨1, 2⟩) (meth := k1m2) (c := k1c2) (by decide +kernel) rfl rfl rfl (by decide +kernel)
def codes1 : List Jvm.Cond := [Jvm.Cond.code x code maxLocals ret, Jvm.Cond.code ({ cls := "com/example/access_bindings/accessbindings/server/RestResourceListsBindingsAtPinLaw", name := "constant", desc := "(I)Lcom/example/access_bindings/accessbindings/server/RestResource;" } : Jvm.MethodName) method_4_code (2 : Nat) (Option.some (Jvm.ClassFile.FieldType.object "com/example/access_bindings/accessbindings/server/RestResource")), Jvm.Cond.code ({ cls := "com/example/access_bindings/accessbindings/server/RestResourceListsBindingsAtPinLaw", name := "base", desc := "(I)[C" } : Jvm.MethodName) method_2_code (1 : Nat) (Option.some (Jvm.ClassFile.FieldType.array Jvm.ClassFile.FieldType.char)), Jvm.Cond.code ({ cls := "java/lang/String", name := "<init>", desc := "([C)V" } : Jvm.MethodName) jdk_42_method_3_code (2 : Nat) (Option.none : Option Jvm.ClassFile.FieldType), Jvm.Cond.code ({ cls := "java/lang/String", name := "<init>", desc := "([CIILjava/lang/Void;)V" } : Jvm.MethodName) jdk_42_method_149_code (6 : Nat) (Option.none : Option Jvm.ClassFile.FieldType), Jvm.Cond.code ({ cls := "java/lang/Object", name := "<init>", desc := "()V" } : Jvm.MethodName) object_method_1_code (1 : Nat) (Option.none : Option Jvm.ClassFile.FieldType), Jvm.Cond.code ({ cls := "java/lang/StringUTF16", name := "compress", desc := "([CII)[B" } : Jvm.MethodName) jdk_52_method_16_code (6 : Nat) (Option.some (Jvm.ClassFile.FieldType.array Jvm.ClassFile.FieldType.byte)), Jvm.Cond.code ({ cls := "java/lang/StringUTF16", name := "compress", desc := "([CI[BII)I" } : Jvm.MethodName) jdk_52_method_21_code (7 : Nat) (Option.some Jvm.ClassFile.FieldType.int), Jvm.Cond.code ({ cls := "java/lang/StringUTF16", name := "coderFromArrayLen", desc := "([BI)B" } : Jvm.MethodName) jdk_52_method_15_code (2 : Nat) (Option.some Jvm.ClassFile.FieldType.byte), Jvm.Cond.code ({ cls := "com/example/access_bindings/accessbindings/server/RestResource", name := "listsBindingsAt", desc := "(Ljava/lang/String;)Z" } : Jvm.MethodName) prog_52_method_8_code (2 : Nat) (Option.some Jvm.ClassFile.FieldType.boolean), Jvm.Cond.code ({ cls := "java/lang/String", name := "equals", desc := "(Ljava/lang/Object;)Z" } : Jvm.MethodName) jdk_42_method_66_code (3 : Nat) (Option.some Jvm.ClassFile.FieldType.boolean), Jvm.Cond.code ({ cls := "java/lang/StringLatin1", name := "equals", desc := "([B[B)Z" } : Jvm.MethodName) jdk_43_method_13_code (3 : Nat) (Option.some Jvm.ClassFile.FieldType.boolean), Jvm.Cond.code ({ cls := "com/example/access_bindings/accessbindings/server/RestResourceListsBindingsAtPinLaw", name := "extended", desc := "(IC)[C" } : Jvm.MethodName) method_3_code (2 : Nat) (Option.some (Jvm.ClassFile.FieldType.array Jvm.ClassFile.FieldType.char))]
set_option maxRecDepth 65536 in
theorem codes_eq : words1.filter isCode = codes1 := rfl
theorem w_codes : ∀ c ∈ words1.filter isCode, c.before args0 about1 = true := by
  rw [codes_eq]
  intro c hc
  simp only [codes1, List.mem_cons, List.not_mem_nil, or_false] at hc
  rcases hc with rfl | rfl | rfl | rfl | rfl | rfl | rfl | rfl | rfl | rfl | rfl | rfl | rfl
  · exact w_c0
  · exact w_c1
  · exact w_c2
  · exact w_c3
  · exact w_c4
  · exact w_c5
  · exact w_c6
  · exact w_c7
  · exact w_c8
  · exact w_c9
  · exact w_c10
  · exact w_c11
  · exact w_c12
set_option maxRecDepth 65536 in
theorem w_t1 : (words1.take 24).all (fun c => isCode c || c.before args0 about1) = true := by decide +kernel
set_option maxRecDepth 65536 in
theorem w_t2 : ((words1.drop 24).take 24).all (fun c => isCode c || c.before args0 about1) = true := by decide +kernel
set_option maxRecDepth 65536 in
theorem w_t3 : ((words1.drop 24).drop 24).all (fun c => isCode c || c.before args0 about1) = true := by decide +kernel
theorem w_tables : (allAtoms (Jvm.Cond.code x code maxLocals ret :: tables_1)).before args0 about1 = true := by
  rw [allAtoms_all]
  show words1.all (fun c => c.before args0 about1) = true
  refine all_split ?_ w_codes
  rw [← List.take_append_drop 24 words1, List.all_append, w_t1, ← List.take_append_drop 24 (words1.drop 24), List.all_append, w_t2, w_t3]
  rfl
set_option maxRecDepth 65536 in
theorem w_rest : rest_1_c.before args0 about1 = true := by decide +kernel
set_option maxRecDepth 65536 in
theorem w_case : (Jvm.Cond.and given_1 narrow_1).before args0 about1 = true := by decide +kernel
set_option maxRecDepth 65536 in
theorem w_consts : constsHeld consts_1 about1 := Jvm.Lit.constsHeldB_iff.mp (by decide +kernel)
theorem w_applies : (headSpec (Jvm.Cond.code x code maxLocals ret :: tables_1) room_1).applies x e0.platform about1 = true :=
  (Spec.applies_iff w_frames).mpr ⟨w_running, w_runnable, w_alone, w_named, w_hears, w_ripe, w_room, w_tables⟩
theorem atStart : AtStart classFile x code maxLocals ret World_1 tables_1 room_1 Calls_1 rest_1 Pre_1 launch0 p0 e0 about1 theMethod args0 below0 :=
  ⟨lists_1, trivial, launch0.admits_env _ _ _, launch0.least_env, fairChoices_fair.cas, fairChoices_fair.clock, w_frames, w_args, w_heap, w_applies, ⟨w_consts, trivial⟩, w_rest, w_case⟩
end start1
theorem witness_1 : WitnessClaimed_1 := ⟨start1.p0, start1.e0, start1.about1, start1.theMethod, start1.args0, start1.below0, start1.atStart⟩
end Jvm.Pilot.@@N@@
