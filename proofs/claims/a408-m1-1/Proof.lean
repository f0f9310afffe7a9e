import JvmDerived
import JvmDerived.Pilot.@@N@@Statement
import JvmDerived.Pilot.@@N@@Code
set_option linter.unusedVariables false
set_option linter.unusedSimpArgs false
@@BLOCK:NumsL.lean.txt@@
namespace Jvm.RoadKit
open Sem ClassFile Op Lib Jvm.Stand Jvm.Free Jvm.LawKit
section New
variable {p : Program} {l : Launch} {e : Env} {R : Room} {s : State} {m : MethodId} {args : Array Value} {below : List Frame} {meth : Method} {c : Code} {T : State} {locs : List Loc} {cells slots : Nat}
theorem retI (X : Stand p l e R s m args below meth c T locs cells slots) (hx : p.tables.exec = Jvm.exec) {pc : Nat} {Ls : Array Slot} {z : Int32} {rest : List Value} (hret : meth.sig.returnType = some .int) (hd : decode c.code pc = .ok (.ireturn, 1)) {fs : List Frame}
    (hl : ∀ (f : JFrame) (acts : List Action), f.method = m → f.locked = none → f.entered = [] → (doReturn e (T.setTop f) acts (some (.int z))).1 = T.setFrames fs) : Steps p.tables e below (T.setTop (mkF m pc Ls (.int z :: rest))) (T.setFrames fs) :=
  retOut X hx hret rfl (Or.inl ⟨rfl, Or.inl rfl, _, rfl⟩) hd hl
theorem retL (X : Stand p l e R s m args below meth c T locs cells slots) (hx : p.tables.exec = Jvm.exec) {pc : Nat} {Ls : Array Slot} {z : Int64} {rest : List Value} (hret : meth.sig.returnType = some .long) (hd : decode c.code pc = .ok (.lreturn, 1)) {fs : List Frame}
    (hl : ∀ (f : JFrame) (acts : List Action), f.method = m → f.locked = none → f.entered = [] → (doReturn e (T.setTop f) acts (some (.long z))).1 = T.setFrames fs) : Steps p.tables e below (T.setTop (mkF m pc Ls (.long z :: rest))) (T.setFrames fs) :=
  retOut X hx hret rfl (Or.inr (Or.inl ⟨rfl, rfl, _, rfl⟩)) hd hl
theorem retA (X : Stand p l e R s m args below meth c T locs cells slots) (hx : p.tables.exec = Jvm.exec) {pc : Nat} {Ls : Array Slot} {z : Addr} {t : FieldType} {rest : List Value} (hret : meth.sig.returnType = some t) (ht : t.isReference = true) (hd : decode c.code pc = .ok (.areturn, 1)) {fs : List Frame}
    (hn : narrow t (.ref z) = .ref z) (hl : ∀ (f : JFrame) (acts : List Action), f.method = m → f.locked = none → f.entered = [] → (doReturn e (T.setTop f) acts (some (.ref z))).1 = T.setFrames fs) : Steps p.tables e below (T.setTop (mkF m pc Ls (.ref z :: rest))) (T.setFrames fs) :=
  retOut X hx hret hn (Or.inr (Or.inr (Or.inr (Or.inr ⟨rfl, ht, rfl⟩)))) hd hl
end New
end Jvm.RoadKit
namespace Jvm.Pilot.@@N@@
open Jvm Jvm.ClassFile Sem Op Lib Jvm.Free Jvm.Stand Jvm.LawKit Jvm.RoadKit Bundle Jvm.Pilot.@@N@@.Jvm.D
/-- the walk moves on: what runs from S' runs from S -/
theorem own_go {tb : Tables} {e : Env} {below : List Frame} {S S' : State} {P : State → Outcome → Prop} (h : ∀ t, Steps tb e below S' t → Steps tb e below S t)
    (k : ∃ s₂ o, Steps tb e below S' s₂ ∧ s₂.status = .running ∧ Ended s₂ below o ∧ P s₂ o) : ∃ s₂ o, Steps tb e below S s₂ ∧ s₂.status = .running ∧ Ended s₂ below o ∧ P s₂ o := by
  obtain ⟨s₂, o, h1, h2⟩ := k
  exact ⟨s₂, o, h _ h1, h2⟩
/-- Java's x >>> y on ints and on longs -/
def own_ushr (x y : Int32) : Int32 := (x.toUInt32 >>> (y &&& 31).toUInt32).toInt32
def own_ushrL (x : Int64) (y : Int32) : Int64 := (x.toUInt64 >>> (y &&& 0x3f).toInt64.toUInt64).toInt64
def own_shlL (x : Int64) (y : Int32) : Int64 := x <<< (y &&& 0x3f).toInt64
def own_shrL (x : Int64) (y : Int32) : Int64 := x >>> (y &&& 0x3f).toInt64
def own_shl (x y : Int32) : Int32 := x <<< (y &&& 31)
def own_shr (x y : Int32) : Int32 := x >>> (y &&& 31)
/-- an array by its places: ints (byte, char, short, boolean too), longs -/
def own_AI (Z : State) (h : Heap) (a : Addr) (ty : FieldType) (n : Nat) (g : Nat → Int32) : Prop := ∃ c : Cell, Arr Z h a c ty ∧ c.slots.size = n ∧ n < 2 ^ 31 ∧ ∀ i, i < n → c.slots[i]? = some (.int (g i))
def own_AJ (Z : State) (h : Heap) (a : Addr) (ty : FieldType) (n : Nat) (g : Nat → Int64) : Prop := ∃ c : Cell, Arr Z h a c ty ∧ c.slots.size = n ∧ n < 2 ^ 31 ∧ ∀ i, i < n → c.slots[i]? = some (.long (g i))
def own_AD (Z : State) (h : Heap) (a : Addr) (ty : FieldType) (n : Nat) (g : Nat → UInt64) : Prop := ∃ c : Cell, Arr Z h a c ty ∧ c.slots.size = n ∧ n < 2 ^ 31 ∧ ∀ i, i < n → c.slots[i]? = some (.double (g i))
def own_upd {α : Type} (g : Nat → α) (j : Nat) (v : α) : Nat → α := fun i => if i = j then v else g i
theorem own_upd_same {α : Type} (g : Nat → α) (j : Nat) (v : α) : own_upd g j v j = v := if_pos rfl
theorem own_upd_ne {α : Type} (g : Nat → α) {i j : Nat} (v : α) (h : i ≠ j) : own_upd g j v i = g i := if_neg h
section OwnArrays
variable {Z : State} {h h' : Heap} {a b : Addr} {ty : FieldType} {n sl : Nat} {v : Value} {ws : List Addr}
theorem own_AI.lt {g : Nat → Int32} (F : own_AI Z h a ty n g) : a < h.size := by obtain ⟨c, A, -⟩ := F; exact A.lt
theorem own_AI.ext {g : Nat → Int32} (F : own_AI Z h a ty n g) (E : Ext h h') : own_AI Z h' a ty n g := by obtain ⟨c, A, r⟩ := F; exact ⟨c, A.ext E, r⟩
theorem own_AI.other {g : Nat → Int32} (F : own_AI Z h b ty n g) (W : Wr h h' a sl v) (q : b ≠ a) : own_AI Z h' b ty n g := by obtain ⟨c, A, r⟩ := F; exact ⟨c, A.other W q, r⟩
theorem own_AI.keep {g : Nat → Int32} (F : own_AI Z h a ty n g) (K : Keep h h' ws) (q : a ∉ ws) : own_AI Z h' a ty n g := by obtain ⟨c, A, r⟩ := F; exact ⟨c, ⟨K.2.1 a c A.1 q, A.2⟩, r⟩
theorem own_AJ.lt {g : Nat → Int64} (F : own_AJ Z h a ty n g) : a < h.size := by obtain ⟨c, A, -⟩ := F; exact A.lt
theorem own_AJ.ext {g : Nat → Int64} (F : own_AJ Z h a ty n g) (E : Ext h h') : own_AJ Z h' a ty n g := by obtain ⟨c, A, r⟩ := F; exact ⟨c, A.ext E, r⟩
theorem own_AJ.other {g : Nat → Int64} (F : own_AJ Z h b ty n g) (W : Wr h h' a sl v) (q : b ≠ a) : own_AJ Z h' b ty n g := by obtain ⟨c, A, r⟩ := F; exact ⟨c, A.other W q, r⟩
theorem own_AJ.keep {g : Nat → Int64} (F : own_AJ Z h a ty n g) (K : Keep h h' ws) (q : a ∉ ws) : own_AJ Z h' a ty n g := by obtain ⟨c, A, r⟩ := F; exact ⟨c, ⟨K.2.1 a c A.1 q, A.2⟩, r⟩
theorem own_AD.lt {g : Nat → UInt64} (F : own_AD Z h a ty n g) : a < h.size := by obtain ⟨c, A, -⟩ := F; exact A.lt
theorem own_AD.ext {g : Nat → UInt64} (F : own_AD Z h a ty n g) (E : Ext h h') : own_AD Z h' a ty n g := by obtain ⟨c, A, r⟩ := F; exact ⟨c, A.ext E, r⟩
theorem own_AD.other {g : Nat → UInt64} (F : own_AD Z h b ty n g) (W : Wr h h' a sl v) (q : b ≠ a) : own_AD Z h' b ty n g := by obtain ⟨c, A, r⟩ := F; exact ⟨c, A.other W q, r⟩
theorem own_AD.keep {g : Nat → UInt64} (F : own_AD Z h a ty n g) (K : Keep h h' ws) (q : a ∉ ws) : own_AD Z h' a ty n g := by obtain ⟨c, A, r⟩ := F; exact ⟨c, ⟨K.2.1 a c A.1 q, A.2⟩, r⟩
theorem own_AI.set {g : Nat → Int32} {c : Cell} {x : Int32} {j : Nat} (A : Arr Z h a c ty) (S : c.slots.size = n) (M : n < 2 ^ 31) (H : ∀ i, i < n → c.slots[i]? = some (.int (g i))) (W : Wr h h' a j (.int x)) : own_AI Z h' a ty n (own_upd g j x) := by
  refine ⟨_, A.same W, (sz_set _ _ _).trans S, M, fun i hi => ?_⟩
  simp only [Cell.setSlot, Array.getElem?_setIfInBounds, own_upd]
  by_cases q : j = i
  · subst q; simp [S, hi]
  · rw [if_neg q, if_neg (fun z => q z.symm)]; exact H i hi
theorem own_AJ.set {g : Nat → Int64} {c : Cell} {x : Int64} {j : Nat} (A : Arr Z h a c ty) (S : c.slots.size = n) (M : n < 2 ^ 31) (H : ∀ i, i < n → c.slots[i]? = some (.long (g i))) (W : Wr h h' a j (.long x)) : own_AJ Z h' a ty n (own_upd g j x) := by
  refine ⟨_, A.same W, (sz_set _ _ _).trans S, M, fun i hi => ?_⟩
  simp only [Cell.setSlot, Array.getElem?_setIfInBounds, own_upd]
  by_cases q : j = i
  · subst q; simp [S, hi]
  · rw [if_neg q, if_neg (fun z => q z.symm)]; exact H i hi
theorem own_AD.set {g : Nat → UInt64} {c : Cell} {x : UInt64} {j : Nat} (A : Arr Z h a c ty) (S : c.slots.size = n) (M : n < 2 ^ 31) (H : ∀ i, i < n → c.slots[i]? = some (.double (g i))) (W : Wr h h' a j (.double x)) : own_AD Z h' a ty n (own_upd g j x) := by
  refine ⟨_, A.same W, (sz_set _ _ _).trans S, M, fun i hi => ?_⟩
  simp only [Cell.setSlot, Array.getElem?_setIfInBounds, own_upd]
  by_cases q : j = i
  · subst q; simp [S, hi]
  · rw [if_neg q, if_neg (fun z => q z.symm)]; exact H i hi
theorem own_clamp_lt (z : Int32) : z.toNatClampNeg < 2 ^ 31 := by have := z.toInt_lt; simp only [Int32.toNatClampNeg]; omega
theorem own_AI.fresh {k : ClassId} {z : Int32} (A : Arr Z h a (newA k ty z) ty) (hd : defaultValue ty = .int 0) : own_AI Z h a ty z.toNatClampNeg (fun _ => 0) :=
  ⟨_, A, sz_new _ _ _, own_clamp_lt z, fun i hi => by simp [newA, hi, hd]⟩
theorem own_AJ.fresh {k : ClassId} {z : Int32} (A : Arr Z h a (newA k ty z) ty) (hd : defaultValue ty = .long 0) : own_AJ Z h a ty z.toNatClampNeg (fun _ => 0) :=
  ⟨_, A, sz_new _ _ _, own_clamp_lt z, fun i hi => by simp [newA, hi, hd]⟩
theorem own_AD.fresh {k : ClassId} {z : Int32} (A : Arr Z h a (newA k ty z) ty) (hd : defaultValue ty = .double 0) : own_AD Z h a ty z.toNatClampNeg (fun _ => 0) :=
  ⟨_, A, sz_new _ _ _, own_clamp_lt z, fun i hi => by simp [newA, hi, hd]⟩
theorem own_in {c : Cell} {j : Int32} (S : c.slots.size = n) (q : ¬ j < 0 ∧ j.toNatClampNeg < n) : ¬ (j < 0 ∨ c.slots.size ≤ j.toNatClampNeg) := by
  rw [S]; exact fun z => z.elim q.1 (fun y => by have := q.2; omega)
theorem own_len {c : Cell} (S : c.slots.size = n) : c.slots.size.toInt32 = Int32.ofNat n := by rw [S]
theorem own_fitI {g : Nat → Int32} {c : Cell} (A : Arr Z h a c .int) (S : c.slots.size = n) (H : ∀ i, i < n → c.slots[i]? = some (.int (g i))) : FitC Z c :=
  fitC_of A fun i hi v hv => by rw [H i (S ▸ hi)] at hv; cases hv; rfl
theorem own_nst {C : String} (E : Exa Z h a C) : ∃ c : Cell, h[a]? = some c ∧ c.vm.isStatics = false := by obtain ⟨c, k, h1, -, -, h4, -⟩ := E; exact ⟨c, h1, h4⟩
theorem own_Sta_keep {C f d : String} (F : Sta Z h C f d v) (K : Keep h h' ws) (q : ∀ x ∈ ws, ∃ c : Cell, h[x]? = some c ∧ c.vm.isStatics = false) : Sta Z h' C f d v := by
  obtain ⟨cf, i, k, f, st, cell, h1, h2, h3, h4, h5, h6, h7⟩ := F
  refine ⟨cf, i, k, f, st, cell, h1, h2, h3, h4, K.2.1 st cell h5 (fun z => ?_), h6, h7⟩
  obtain ⟨c, g1, g2⟩ := q st z
  cases h5.symm.trans g1
  rw [h6] at g2
  cases g2
end OwnArrays
theorem own_lremq (x y : Int64) : x - (x / y) * y = x % y := by
  apply Int64.toInt_inj.mp
  rw [Int64.toInt_sub, Int64.toInt_mul, Int64.toInt_div, Int64.toInt_mod]
  have h := Int.mul_tdiv_add_tmod x.toInt y.toInt
  have hl := x.toInt_lt; have hg := x.le_toInt
  simp only [Int.bmod_sub_bmod, Int.sub_bmod_bmod, Int.bmod_mul_bmod, Int.mul_bmod_bmod]
  have e : x.toInt - x.toInt.tdiv y.toInt * y.toInt = x.toInt.tmod y.toInt := by rw [Int.mul_comm]; omega
  rw [e]
  have h1 := (x % y).toInt_lt; have h2 := (x % y).le_toInt
  rw [Int64.toInt_mod] at h1 h2
  exact Int.bmod_eq_of_le (by omega) (by omega)
def own_u32 (a b c d : Int32) : Int32 := ((((own_shl (a &&& (255 : Int32)) (24 : Int32)) ||| (own_shl (b &&& (255 : Int32)) (16 : Int32))) ||| (own_shl (c &&& (255 : Int32)) (8 : Int32))) ||| (d &&& (255 : Int32)))
theorem own_m32 {q k : Int32} (h : 0 ≤ q.toInt) : (q % k).toInt = q.toInt % k.toInt := by rw [Int32.toInt_mod, Int.tmod_eq_emod_of_nonneg h]
theorem own_mask (x : Int32) : 0 ≤ (x &&& (2147483647 : Int32)).toInt := by
  have := Jvm.Kit.i32_mask x 2147483647 (k := 31) (by decide) (by decide)
  rw [this]; omega
theorem own_cases {k n : Int32} (h : n = ((k &&& (2147483647 : Int32)) % (4 : Int32))) : n = 0 ∨ n = 1 ∨ n = 2 ∨ n = 3 := by
  have hn : n.toInt = (k &&& (2147483647 : Int32)).toInt % 4 := by rw [h, own_m32 (own_mask _)]; rfl
  have c : n.toInt = 0 ∨ n.toInt = 1 ∨ n.toInt = 2 ∨ n.toInt = 3 := by omega
  rcases c with c | c | c | c
  · exact Or.inl (Int32.toInt_inj.mp c)
  · exact Or.inr (Or.inl (Int32.toInt_inj.mp c))
  · exact Or.inr (Or.inr (Or.inl (Int32.toInt_inj.mp c)))
  · exact Or.inr (Or.inr (Or.inr (Int32.toInt_inj.mp c)))
theorem own_b8 (x : Int32) : (nar .byte (x.toInt8.toInt32)) &&& (255 : Int32) = x &&& (255 : Int32) := by
  apply Int32.toBitVec_inj.mp
  show (((x.toInt8.toInt32).toInt8.toInt32).toBitVec &&& 255#32) = x.toBitVec &&& 255#32
  have e : x.toInt8.toInt32.toInt8 = x.toInt8 := by simp
  rw [e]
  show ((x.toBitVec.signExtend 8).signExtend 32 &&& 255#32) = _
  apply BitVec.eq_of_getLsbD_eq
  intro i hi
  rw [BitVec.getLsbD_and, BitVec.getLsbD_and]
  by_cases h8 : i < 8
  · congr 1
    rw [BitVec.getLsbD_signExtend, BitVec.getLsbD_signExtend]
    simp [h8, hi]
  · have : (255#32).getLsbD i = false := by
      have := (by decide : ∀ j : Fin 32, ¬ j.val < 8 → (255#32).getLsbD j.val = false) ⟨i, hi⟩ h8
      exact this
    rw [this, Bool.and_false, Bool.and_false]
theorem own_bits (v : BitVec 32) : ((((v >>> 24 &&& 255#32) <<< 24) ||| ((v >>> 16 &&& 255#32) <<< 16)) ||| ((v >>> 8 &&& 255#32) <<< 8)) ||| (v &&& 255#32) = v := by
  have h255 : ∀ j, (255#32).getLsbD j = decide (j < 8) := by
    intro j
    by_cases h : j < 32
    · have := (by decide : ∀ j : Fin 32, (255#32).getLsbD j.val = decide (j.val < 8)) ⟨j, h⟩
      exact this
    · rw [BitVec.getLsbD_of_ge _ _ (by omega)]; simp; omega
  apply BitVec.eq_of_getLsbD_eq
  intro i hi
  simp only [BitVec.getLsbD_or, BitVec.getLsbD_shiftLeft, BitVec.getLsbD_and, BitVec.getLsbD_ushiftRight, h255]
  by_cases h1 : i < 8
  · simp [h1, show i < 24 by omega, show i < 16 by omega]
  · by_cases h2 : i < 16
    · simp [h1, h2, show i < 24 by omega, show i - 8 < 8 by omega, hi, show 8 + (i - 8) = i by omega]
    · by_cases h3 : i < 24
      · simp [h1, h2, h3, show ¬ i - 8 < 8 by omega, show i - 16 < 8 by omega, hi, show 16 + (i - 16) = i by omega]
      · simp [h1, h2, h3, show ¬ i - 8 < 8 by omega, show ¬ i - 16 < 8 by omega, show i - 24 < 8 by omega, hi, show 24 + (i - 24) = i by omega]
theorem own_back (v : Int32) : own_u32 (nar .byte ((own_ushr v (24 : Int32)).toInt8.toInt32)) (nar .byte ((own_ushr v (16 : Int32)).toInt8.toInt32)) (nar .byte ((own_ushr v (8 : Int32)).toInt8.toInt32)) (nar .byte (v.toInt8.toInt32)) = v := by
  rw [own_u32, own_b8, own_b8, own_b8, own_b8]
  apply Int32.toBitVec_inj.mp
  have e24 : (own_ushr v 24).toBitVec = v.toBitVec >>> 24 := by simp [own_ushr]
  have e16 : (own_ushr v 16).toBitVec = v.toBitVec >>> 16 := by simp [own_ushr]
  have e8 : (own_ushr v 8).toBitVec = v.toBitVec >>> 8 := by simp [own_ushr]
  have s : ∀ (x : Int32) (y : Int32) (k : Nat), ((y &&& 31).toBitVec.smod 32#32).toNat = k → (own_shl x y).toBitVec = x.toBitVec <<< k := by
    intro x y k h
    show (x <<< (y &&& 31)).toBitVec = _
    have h' : ((y &&& 31).toBitVec.smod 32).toNat = k := h
    rw [Int32.toBitVec_shiftLeft, BitVec.shiftLeft_eq', h']
  simp only [Int32.toBitVec_or, Int32.toBitVec_and]
  rw [s _ 24 24 (by decide), s _ 16 16 (by decide), s _ 8 8 (by decide)]
  simp only [Int32.toBitVec_and, e24, e16, e8]
  exact own_bits _

theorem d1_0 : decode prog_57_method_5_code 0 = .ok (.aload_n 0, 1) := by decide +kernel
theorem d1_1 : decode prog_57_method_5_code 1 = .ok (.iload_n 1, 1) := by decide +kernel
theorem d1_2 : decode prog_57_method_5_code 2 = .ok (.baload, 1) := by decide +kernel
theorem d1_3 : decode prog_57_method_5_code 3 = .ok (.sipush 255, 3) := by decide +kernel
theorem d1_6 : decode prog_57_method_5_code 6 = .ok (.iand, 1) := by decide +kernel
theorem d1_7 : decode prog_57_method_5_code 7 = .ok (.bipush 24, 2) := by decide +kernel
theorem d1_9 : decode prog_57_method_5_code 9 = .ok (.ishl, 1) := by decide +kernel
theorem d1_10 : decode prog_57_method_5_code 10 = .ok (.aload_n 0, 1) := by decide +kernel
theorem d1_11 : decode prog_57_method_5_code 11 = .ok (.iload_n 1, 1) := by decide +kernel
theorem d1_12 : decode prog_57_method_5_code 12 = .ok (.iconst 1, 1) := by decide +kernel
theorem d1_13 : decode prog_57_method_5_code 13 = .ok (.iadd, 1) := by decide +kernel
theorem d1_14 : decode prog_57_method_5_code 14 = .ok (.baload, 1) := by decide +kernel
theorem d1_15 : decode prog_57_method_5_code 15 = .ok (.sipush 255, 3) := by decide +kernel
theorem d1_18 : decode prog_57_method_5_code 18 = .ok (.iand, 1) := by decide +kernel
theorem d1_19 : decode prog_57_method_5_code 19 = .ok (.bipush 16, 2) := by decide +kernel
theorem d1_21 : decode prog_57_method_5_code 21 = .ok (.ishl, 1) := by decide +kernel
theorem d1_22 : decode prog_57_method_5_code 22 = .ok (.ior, 1) := by decide +kernel
theorem d1_23 : decode prog_57_method_5_code 23 = .ok (.aload_n 0, 1) := by decide +kernel
theorem d1_24 : decode prog_57_method_5_code 24 = .ok (.iload_n 1, 1) := by decide +kernel
theorem d1_25 : decode prog_57_method_5_code 25 = .ok (.iconst 2, 1) := by decide +kernel
theorem d1_26 : decode prog_57_method_5_code 26 = .ok (.iadd, 1) := by decide +kernel
theorem d1_27 : decode prog_57_method_5_code 27 = .ok (.baload, 1) := by decide +kernel
theorem d1_28 : decode prog_57_method_5_code 28 = .ok (.sipush 255, 3) := by decide +kernel
theorem d1_31 : decode prog_57_method_5_code 31 = .ok (.iand, 1) := by decide +kernel
theorem d1_32 : decode prog_57_method_5_code 32 = .ok (.bipush 8, 2) := by decide +kernel
theorem d1_34 : decode prog_57_method_5_code 34 = .ok (.ishl, 1) := by decide +kernel
theorem d1_35 : decode prog_57_method_5_code 35 = .ok (.ior, 1) := by decide +kernel
theorem d1_36 : decode prog_57_method_5_code 36 = .ok (.aload_n 0, 1) := by decide +kernel
theorem d1_37 : decode prog_57_method_5_code 37 = .ok (.iload_n 1, 1) := by decide +kernel
theorem d1_38 : decode prog_57_method_5_code 38 = .ok (.iconst 3, 1) := by decide +kernel
theorem d1_39 : decode prog_57_method_5_code 39 = .ok (.iadd, 1) := by decide +kernel
theorem d1_40 : decode prog_57_method_5_code 40 = .ok (.baload, 1) := by decide +kernel
theorem d1_41 : decode prog_57_method_5_code 41 = .ok (.sipush 255, 3) := by decide +kernel
theorem d1_44 : decode prog_57_method_5_code 44 = .ok (.iand, 1) := by decide +kernel
theorem d1_45 : decode prog_57_method_5_code 45 = .ok (.ior, 1) := by decide +kernel
theorem d1_46 : decode prog_57_method_5_code 46 = .ok (.ireturn, 1) := by decide +kernel
theorem own_pn0 : plainName "portwarden/wire/Decoder" = true := by first | (simp [plainName, overriddenIn]; done) | decide +kernel
set_option maxHeartbeats 40000000 in
theorem own_ef_rm1 (m : MethodId) (x0 : Addr) (x1 : Int32) : entryFrame m #[(.ref x0), (.int x1)] 2 = mkF m 0 #[.val (.ref x0), .val (.int x1)] [] := by first | (simp [entryFrame, mkF, argsToLocals, Value.category]; done) | rfl
def Q1 (Z : State) (a0 : Addr) (p1 : Int32) (g : Nat → Int32) (h0 : Heap) (n0 : Nat) (v : Option Value) (h : Heap) (L : List Loc) : Prop := v = some (.int (own_u32 (g (p1).toNatClampNeg) (g ((p1 + (1 : Int32))).toNatClampNeg) (g ((p1 + (2 : Int32))).toNatClampNeg) (g ((p1 + (3 : Int32))).toNatClampNeg))) ∧ Fr n0 L ∧ h = h0
set_option maxRecDepth 65536 in
set_option maxHeartbeats 40000000 in
theorem rm1 (l : Launch) (Z : State) (aZ : Array Value) (hw : ∀ d ∈ tables_1, d.before aZ Z = true) (ws : List Jvm.Cond) (a0 : Addr) (p1 : Int32) (g : Nat → Int32) (h0 : Heap) (n0 : Nat) (Z0 : n0 ≤ h0.size) (pf0 : own_AI Z h0 a0 .byte 7 g) (hi0 : ¬ p1 < 0 ∧ (p1).toNatClampNeg < 7) (hi1 : ¬ (p1 + (1 : Int32)) < 0 ∧ ((p1 + (1 : Int32))).toNatClampNeg < 7) (hi2 : ¬ (p1 + (2 : Int32)) < 0 ∧ ((p1 + (2 : Int32))).toNatClampNeg < 7) (hi3 : ¬ (p1 + (3 : Int32)) < 0 ∧ ((p1 + (3 : Int32))).toNatClampNeg < 7) :
    MetFree l (⟨"portwarden/wire/Decoder", "uint32", "([BI)I"⟩ : MethodName) (head1 (Jvm.Cond.code (⟨"portwarden/wire/Decoder", "uint32", "([BI)I"⟩ : MethodName) prog_57_method_5_code 2 (some .int) :: ws) ({ frames := 0, cells := 0, slots := 0, locals := 0 } : Room)) (fun a U => a = #[(.ref a0), (.int p1)] ∧ Z.Warmed39 U.vm ∧ U.heap = h0) (fun _ _ _ _ _ => True) (fun _ U o U' => ∃ v L, o = .returned v ∧ Q1 Z a0 p1 g h0 n0 v U'.heap L ∧ FrameEnd U o U' L ({ frames := 0, cells := 0, slots := 0, locals := 0 } : Room).cells ({ frames := 0, cells := 0, slots := 0, locals := 0 } : Room).slots) := by
  refine MetFree.of_bodySF (plainFor_of_name own_pn0) hisR ?_
  intro p e s m args below meth c s₁ Bd hml0 hP hK
  obtain ⟨rfl, hZ, hh⟩ := hP
  have hx := Bd.exec
  have hby := Bd.bytes
  have hml : c.maxLocals = 2 := hml0
  have hown : s.vm.findClass "portwarden/wire/Decoder" = some m.cls := findClass_of_methodNamed Bd.named
  have hnm := (name_of_methodNamed Bd.named Bd.method).1
  have X0 : Stand p l e ({ frames := 0, cells := 0, slots := 0, locals := 0 } : Room) s m #[(.ref a0), (.int p1)] below meth c s₁ [] 0 0 := Stand.of_body Bd
  have e0 : s₁.heap = h0 := by rw [← hh, Bd.state]; rfl
  have N0 := Fr.nil n0
  refine own_go (S' := s₁.setTop (mkF m 0 #[.val (.ref a0), .val (.int p1)] [])) (fun t k => castTop (own_ef_rm1 m a0 p1) k) ?_
  refine own_go (S' := s₁.setTop (mkF m 2 #[.val (.ref a0), .val (.int p1)] [(.int p1), (.ref a0)])) (fun target kt => ?_) ?_
  · skip
    show Steps p.tables e below (s₁.setTop (mkF m 0 #[.val (.ref a0), .val (.int p1)] [])) _
    refine XS.aloadN X0.here hx rfl (hb hby d1_0) rfl rfl ?_
    show Steps p.tables e below (s₁.setTop (mkF m 1 #[.val (.ref a0), .val (.int p1)] [(.ref a0)])) _
    refine XS.iloadN X0.here hx rfl (hb hby d1_1) rfl ?_
    exact kt
  obtain ⟨c1, Ar1, S1, M1, H1⟩ := id pf0
  have hj1 : ¬ p1 < 0 ∧ (p1).toNatClampNeg < 7 := hi0
  have st1 : ∀ target, Steps p.tables e below (s₁.setTop (mkF m 3 #[.val (.ref a0), .val (.int p1)] [(.int (g (p1).toNatClampNeg))])) target → Steps p.tables e below (s₁.setTop (mkF m 2 #[.val (.ref a0), .val (.int p1)] [(.int p1), (.ref a0)])) target := fun target kt => X0.baloadBytes hx (j := p1) (v := (.int (g (p1).toNatClampNeg))) (by rw [e0]; exact Ar1.1) (State.isArrayOf_alike hZ.alike Ar1.2.1) Ar1.2.2 (own_in S1 hj1) (H1 _ hj1.2) (g := (mkF m 2 #[.val (.ref a0), .val (.int p1)] [(.int p1), (.ref a0)])) rfl rfl (hb hby d1_2) _ kt
  refine own_go (S' := s₁.setTop (mkF m 3 #[.val (.ref a0), .val (.int p1)] [(.int (g (p1).toNatClampNeg))])) st1 ?_
  refine own_go (S' := s₁.setTop (mkF m 14 #[.val (.ref a0), .val (.int p1)] [(.int (p1 + (1 : Int32))), (.ref a0), (.int (own_shl ((g (p1).toNatClampNeg) &&& (255 : Int32)) (24 : Int32)))])) (fun target kt => ?_) ?_
  · skip
    show Steps p.tables e below (s₁.setTop (mkF m 3 #[.val (.ref a0), .val (.int p1)] [(.int (g (p1).toNatClampNeg))])) _
    refine XS.sipush X0.here hx rfl (hb hby d1_3) ?_
    show Steps p.tables e below (s₁.setTop (mkF m 6 #[.val (.ref a0), .val (.int p1)] [(.int (255 : Int32)), (.int (g (p1).toNatClampNeg))])) _
    refine XS.iand X0.here hx rfl (hb hby d1_6) rfl ?_
    show Steps p.tables e below (s₁.setTop (mkF m 7 #[.val (.ref a0), .val (.int p1)] [(.int ((g (p1).toNatClampNeg) &&& (255 : Int32)))])) _
    refine XS.bipush X0.here hx rfl (hb hby d1_7) ?_
    show Steps p.tables e below (s₁.setTop (mkF m 9 #[.val (.ref a0), .val (.int p1)] [(.int (24 : Int32)), (.int ((g (p1).toNatClampNeg) &&& (255 : Int32)))])) _
    refine XS.ishl X0.here hx rfl (hb hby d1_9) rfl ?_
    show Steps p.tables e below (s₁.setTop (mkF m 10 #[.val (.ref a0), .val (.int p1)] [(.int (own_shl ((g (p1).toNatClampNeg) &&& (255 : Int32)) (24 : Int32)))])) _
    refine XS.aloadN X0.here hx rfl (hb hby d1_10) rfl rfl ?_
    show Steps p.tables e below (s₁.setTop (mkF m 11 #[.val (.ref a0), .val (.int p1)] [(.ref a0), (.int (own_shl ((g (p1).toNatClampNeg) &&& (255 : Int32)) (24 : Int32)))])) _
    refine XS.iloadN X0.here hx rfl (hb hby d1_11) rfl ?_
    show Steps p.tables e below (s₁.setTop (mkF m 12 #[.val (.ref a0), .val (.int p1)] [(.int p1), (.ref a0), (.int (own_shl ((g (p1).toNatClampNeg) &&& (255 : Int32)) (24 : Int32)))])) _
    refine XS.iconst X0.here hx rfl (hb hby d1_12) ?_
    show Steps p.tables e below (s₁.setTop (mkF m 13 #[.val (.ref a0), .val (.int p1)] [(.int (1 : Int32)), (.int p1), (.ref a0), (.int (own_shl ((g (p1).toNatClampNeg) &&& (255 : Int32)) (24 : Int32)))])) _
    refine XS.iadd X0.here hx rfl (hb hby d1_13) rfl ?_
    exact kt
  obtain ⟨c2, Ar2, S2, M2, H2⟩ := id pf0
  have hj2 : ¬ (p1 + (1 : Int32)) < 0 ∧ ((p1 + (1 : Int32))).toNatClampNeg < 7 := hi1
  have st2 : ∀ target, Steps p.tables e below (s₁.setTop (mkF m 15 #[.val (.ref a0), .val (.int p1)] [(.int (g ((p1 + (1 : Int32))).toNatClampNeg)), (.int (own_shl ((g (p1).toNatClampNeg) &&& (255 : Int32)) (24 : Int32)))])) target → Steps p.tables e below (s₁.setTop (mkF m 14 #[.val (.ref a0), .val (.int p1)] [(.int (p1 + (1 : Int32))), (.ref a0), (.int (own_shl ((g (p1).toNatClampNeg) &&& (255 : Int32)) (24 : Int32)))])) target := fun target kt => X0.baloadBytes hx (j := (p1 + (1 : Int32))) (v := (.int (g ((p1 + (1 : Int32))).toNatClampNeg))) (by rw [e0]; exact Ar2.1) (State.isArrayOf_alike hZ.alike Ar2.2.1) Ar2.2.2 (own_in S2 hj2) (H2 _ hj2.2) (g := (mkF m 14 #[.val (.ref a0), .val (.int p1)] [(.int (p1 + (1 : Int32))), (.ref a0), (.int (own_shl ((g (p1).toNatClampNeg) &&& (255 : Int32)) (24 : Int32)))])) rfl rfl (hb hby d1_14) _ kt
  refine own_go (S' := s₁.setTop (mkF m 15 #[.val (.ref a0), .val (.int p1)] [(.int (g ((p1 + (1 : Int32))).toNatClampNeg)), (.int (own_shl ((g (p1).toNatClampNeg) &&& (255 : Int32)) (24 : Int32)))])) st2 ?_
  refine own_go (S' := s₁.setTop (mkF m 27 #[.val (.ref a0), .val (.int p1)] [(.int (p1 + (2 : Int32))), (.ref a0), (.int ((own_shl ((g (p1).toNatClampNeg) &&& (255 : Int32)) (24 : Int32)) ||| (own_shl ((g ((p1 + (1 : Int32))).toNatClampNeg) &&& (255 : Int32)) (16 : Int32))))])) (fun target kt => ?_) ?_
  · skip
    show Steps p.tables e below (s₁.setTop (mkF m 15 #[.val (.ref a0), .val (.int p1)] [(.int (g ((p1 + (1 : Int32))).toNatClampNeg)), (.int (own_shl ((g (p1).toNatClampNeg) &&& (255 : Int32)) (24 : Int32)))])) _
    refine XS.sipush X0.here hx rfl (hb hby d1_15) ?_
    show Steps p.tables e below (s₁.setTop (mkF m 18 #[.val (.ref a0), .val (.int p1)] [(.int (255 : Int32)), (.int (g ((p1 + (1 : Int32))).toNatClampNeg)), (.int (own_shl ((g (p1).toNatClampNeg) &&& (255 : Int32)) (24 : Int32)))])) _
    refine XS.iand X0.here hx rfl (hb hby d1_18) rfl ?_
    show Steps p.tables e below (s₁.setTop (mkF m 19 #[.val (.ref a0), .val (.int p1)] [(.int ((g ((p1 + (1 : Int32))).toNatClampNeg) &&& (255 : Int32))), (.int (own_shl ((g (p1).toNatClampNeg) &&& (255 : Int32)) (24 : Int32)))])) _
    refine XS.bipush X0.here hx rfl (hb hby d1_19) ?_
    show Steps p.tables e below (s₁.setTop (mkF m 21 #[.val (.ref a0), .val (.int p1)] [(.int (16 : Int32)), (.int ((g ((p1 + (1 : Int32))).toNatClampNeg) &&& (255 : Int32))), (.int (own_shl ((g (p1).toNatClampNeg) &&& (255 : Int32)) (24 : Int32)))])) _
    refine XS.ishl X0.here hx rfl (hb hby d1_21) rfl ?_
    show Steps p.tables e below (s₁.setTop (mkF m 22 #[.val (.ref a0), .val (.int p1)] [(.int (own_shl ((g ((p1 + (1 : Int32))).toNatClampNeg) &&& (255 : Int32)) (16 : Int32))), (.int (own_shl ((g (p1).toNatClampNeg) &&& (255 : Int32)) (24 : Int32)))])) _
    refine XS.ior X0.here hx rfl (hb hby d1_22) rfl ?_
    show Steps p.tables e below (s₁.setTop (mkF m 23 #[.val (.ref a0), .val (.int p1)] [(.int ((own_shl ((g (p1).toNatClampNeg) &&& (255 : Int32)) (24 : Int32)) ||| (own_shl ((g ((p1 + (1 : Int32))).toNatClampNeg) &&& (255 : Int32)) (16 : Int32))))])) _
    refine XS.aloadN X0.here hx rfl (hb hby d1_23) rfl rfl ?_
    show Steps p.tables e below (s₁.setTop (mkF m 24 #[.val (.ref a0), .val (.int p1)] [(.ref a0), (.int ((own_shl ((g (p1).toNatClampNeg) &&& (255 : Int32)) (24 : Int32)) ||| (own_shl ((g ((p1 + (1 : Int32))).toNatClampNeg) &&& (255 : Int32)) (16 : Int32))))])) _
    refine XS.iloadN X0.here hx rfl (hb hby d1_24) rfl ?_
    show Steps p.tables e below (s₁.setTop (mkF m 25 #[.val (.ref a0), .val (.int p1)] [(.int p1), (.ref a0), (.int ((own_shl ((g (p1).toNatClampNeg) &&& (255 : Int32)) (24 : Int32)) ||| (own_shl ((g ((p1 + (1 : Int32))).toNatClampNeg) &&& (255 : Int32)) (16 : Int32))))])) _
    refine XS.iconst X0.here hx rfl (hb hby d1_25) ?_
    show Steps p.tables e below (s₁.setTop (mkF m 26 #[.val (.ref a0), .val (.int p1)] [(.int (2 : Int32)), (.int p1), (.ref a0), (.int ((own_shl ((g (p1).toNatClampNeg) &&& (255 : Int32)) (24 : Int32)) ||| (own_shl ((g ((p1 + (1 : Int32))).toNatClampNeg) &&& (255 : Int32)) (16 : Int32))))])) _
    refine XS.iadd X0.here hx rfl (hb hby d1_26) rfl ?_
    exact kt
  obtain ⟨c3, Ar3, S3, M3, H3⟩ := id pf0
  have hj3 : ¬ (p1 + (2 : Int32)) < 0 ∧ ((p1 + (2 : Int32))).toNatClampNeg < 7 := hi2
  have st3 : ∀ target, Steps p.tables e below (s₁.setTop (mkF m 28 #[.val (.ref a0), .val (.int p1)] [(.int (g ((p1 + (2 : Int32))).toNatClampNeg)), (.int ((own_shl ((g (p1).toNatClampNeg) &&& (255 : Int32)) (24 : Int32)) ||| (own_shl ((g ((p1 + (1 : Int32))).toNatClampNeg) &&& (255 : Int32)) (16 : Int32))))])) target → Steps p.tables e below (s₁.setTop (mkF m 27 #[.val (.ref a0), .val (.int p1)] [(.int (p1 + (2 : Int32))), (.ref a0), (.int ((own_shl ((g (p1).toNatClampNeg) &&& (255 : Int32)) (24 : Int32)) ||| (own_shl ((g ((p1 + (1 : Int32))).toNatClampNeg) &&& (255 : Int32)) (16 : Int32))))])) target := fun target kt => X0.baloadBytes hx (j := (p1 + (2 : Int32))) (v := (.int (g ((p1 + (2 : Int32))).toNatClampNeg))) (by rw [e0]; exact Ar3.1) (State.isArrayOf_alike hZ.alike Ar3.2.1) Ar3.2.2 (own_in S3 hj3) (H3 _ hj3.2) (g := (mkF m 27 #[.val (.ref a0), .val (.int p1)] [(.int (p1 + (2 : Int32))), (.ref a0), (.int ((own_shl ((g (p1).toNatClampNeg) &&& (255 : Int32)) (24 : Int32)) ||| (own_shl ((g ((p1 + (1 : Int32))).toNatClampNeg) &&& (255 : Int32)) (16 : Int32))))])) rfl rfl (hb hby d1_27) _ kt
  refine own_go (S' := s₁.setTop (mkF m 28 #[.val (.ref a0), .val (.int p1)] [(.int (g ((p1 + (2 : Int32))).toNatClampNeg)), (.int ((own_shl ((g (p1).toNatClampNeg) &&& (255 : Int32)) (24 : Int32)) ||| (own_shl ((g ((p1 + (1 : Int32))).toNatClampNeg) &&& (255 : Int32)) (16 : Int32))))])) st3 ?_
  refine own_go (S' := s₁.setTop (mkF m 40 #[.val (.ref a0), .val (.int p1)] [(.int (p1 + (3 : Int32))), (.ref a0), (.int (((own_shl ((g (p1).toNatClampNeg) &&& (255 : Int32)) (24 : Int32)) ||| (own_shl ((g ((p1 + (1 : Int32))).toNatClampNeg) &&& (255 : Int32)) (16 : Int32))) ||| (own_shl ((g ((p1 + (2 : Int32))).toNatClampNeg) &&& (255 : Int32)) (8 : Int32))))])) (fun target kt => ?_) ?_
  · skip
    show Steps p.tables e below (s₁.setTop (mkF m 28 #[.val (.ref a0), .val (.int p1)] [(.int (g ((p1 + (2 : Int32))).toNatClampNeg)), (.int ((own_shl ((g (p1).toNatClampNeg) &&& (255 : Int32)) (24 : Int32)) ||| (own_shl ((g ((p1 + (1 : Int32))).toNatClampNeg) &&& (255 : Int32)) (16 : Int32))))])) _
    refine XS.sipush X0.here hx rfl (hb hby d1_28) ?_
    show Steps p.tables e below (s₁.setTop (mkF m 31 #[.val (.ref a0), .val (.int p1)] [(.int (255 : Int32)), (.int (g ((p1 + (2 : Int32))).toNatClampNeg)), (.int ((own_shl ((g (p1).toNatClampNeg) &&& (255 : Int32)) (24 : Int32)) ||| (own_shl ((g ((p1 + (1 : Int32))).toNatClampNeg) &&& (255 : Int32)) (16 : Int32))))])) _
    refine XS.iand X0.here hx rfl (hb hby d1_31) rfl ?_
    show Steps p.tables e below (s₁.setTop (mkF m 32 #[.val (.ref a0), .val (.int p1)] [(.int ((g ((p1 + (2 : Int32))).toNatClampNeg) &&& (255 : Int32))), (.int ((own_shl ((g (p1).toNatClampNeg) &&& (255 : Int32)) (24 : Int32)) ||| (own_shl ((g ((p1 + (1 : Int32))).toNatClampNeg) &&& (255 : Int32)) (16 : Int32))))])) _
    refine XS.bipush X0.here hx rfl (hb hby d1_32) ?_
    show Steps p.tables e below (s₁.setTop (mkF m 34 #[.val (.ref a0), .val (.int p1)] [(.int (8 : Int32)), (.int ((g ((p1 + (2 : Int32))).toNatClampNeg) &&& (255 : Int32))), (.int ((own_shl ((g (p1).toNatClampNeg) &&& (255 : Int32)) (24 : Int32)) ||| (own_shl ((g ((p1 + (1 : Int32))).toNatClampNeg) &&& (255 : Int32)) (16 : Int32))))])) _
    refine XS.ishl X0.here hx rfl (hb hby d1_34) rfl ?_
    show Steps p.tables e below (s₁.setTop (mkF m 35 #[.val (.ref a0), .val (.int p1)] [(.int (own_shl ((g ((p1 + (2 : Int32))).toNatClampNeg) &&& (255 : Int32)) (8 : Int32))), (.int ((own_shl ((g (p1).toNatClampNeg) &&& (255 : Int32)) (24 : Int32)) ||| (own_shl ((g ((p1 + (1 : Int32))).toNatClampNeg) &&& (255 : Int32)) (16 : Int32))))])) _
    refine XS.ior X0.here hx rfl (hb hby d1_35) rfl ?_
    show Steps p.tables e below (s₁.setTop (mkF m 36 #[.val (.ref a0), .val (.int p1)] [(.int (((own_shl ((g (p1).toNatClampNeg) &&& (255 : Int32)) (24 : Int32)) ||| (own_shl ((g ((p1 + (1 : Int32))).toNatClampNeg) &&& (255 : Int32)) (16 : Int32))) ||| (own_shl ((g ((p1 + (2 : Int32))).toNatClampNeg) &&& (255 : Int32)) (8 : Int32))))])) _
    refine XS.aloadN X0.here hx rfl (hb hby d1_36) rfl rfl ?_
    show Steps p.tables e below (s₁.setTop (mkF m 37 #[.val (.ref a0), .val (.int p1)] [(.ref a0), (.int (((own_shl ((g (p1).toNatClampNeg) &&& (255 : Int32)) (24 : Int32)) ||| (own_shl ((g ((p1 + (1 : Int32))).toNatClampNeg) &&& (255 : Int32)) (16 : Int32))) ||| (own_shl ((g ((p1 + (2 : Int32))).toNatClampNeg) &&& (255 : Int32)) (8 : Int32))))])) _
    refine XS.iloadN X0.here hx rfl (hb hby d1_37) rfl ?_
    show Steps p.tables e below (s₁.setTop (mkF m 38 #[.val (.ref a0), .val (.int p1)] [(.int p1), (.ref a0), (.int (((own_shl ((g (p1).toNatClampNeg) &&& (255 : Int32)) (24 : Int32)) ||| (own_shl ((g ((p1 + (1 : Int32))).toNatClampNeg) &&& (255 : Int32)) (16 : Int32))) ||| (own_shl ((g ((p1 + (2 : Int32))).toNatClampNeg) &&& (255 : Int32)) (8 : Int32))))])) _
    refine XS.iconst X0.here hx rfl (hb hby d1_38) ?_
    show Steps p.tables e below (s₁.setTop (mkF m 39 #[.val (.ref a0), .val (.int p1)] [(.int (3 : Int32)), (.int p1), (.ref a0), (.int (((own_shl ((g (p1).toNatClampNeg) &&& (255 : Int32)) (24 : Int32)) ||| (own_shl ((g ((p1 + (1 : Int32))).toNatClampNeg) &&& (255 : Int32)) (16 : Int32))) ||| (own_shl ((g ((p1 + (2 : Int32))).toNatClampNeg) &&& (255 : Int32)) (8 : Int32))))])) _
    refine XS.iadd X0.here hx rfl (hb hby d1_39) rfl ?_
    exact kt
  obtain ⟨c4, Ar4, S4, M4, H4⟩ := id pf0
  have hj4 : ¬ (p1 + (3 : Int32)) < 0 ∧ ((p1 + (3 : Int32))).toNatClampNeg < 7 := hi3
  have st4 : ∀ target, Steps p.tables e below (s₁.setTop (mkF m 41 #[.val (.ref a0), .val (.int p1)] [(.int (g ((p1 + (3 : Int32))).toNatClampNeg)), (.int (((own_shl ((g (p1).toNatClampNeg) &&& (255 : Int32)) (24 : Int32)) ||| (own_shl ((g ((p1 + (1 : Int32))).toNatClampNeg) &&& (255 : Int32)) (16 : Int32))) ||| (own_shl ((g ((p1 + (2 : Int32))).toNatClampNeg) &&& (255 : Int32)) (8 : Int32))))])) target → Steps p.tables e below (s₁.setTop (mkF m 40 #[.val (.ref a0), .val (.int p1)] [(.int (p1 + (3 : Int32))), (.ref a0), (.int (((own_shl ((g (p1).toNatClampNeg) &&& (255 : Int32)) (24 : Int32)) ||| (own_shl ((g ((p1 + (1 : Int32))).toNatClampNeg) &&& (255 : Int32)) (16 : Int32))) ||| (own_shl ((g ((p1 + (2 : Int32))).toNatClampNeg) &&& (255 : Int32)) (8 : Int32))))])) target := fun target kt => X0.baloadBytes hx (j := (p1 + (3 : Int32))) (v := (.int (g ((p1 + (3 : Int32))).toNatClampNeg))) (by rw [e0]; exact Ar4.1) (State.isArrayOf_alike hZ.alike Ar4.2.1) Ar4.2.2 (own_in S4 hj4) (H4 _ hj4.2) (g := (mkF m 40 #[.val (.ref a0), .val (.int p1)] [(.int (p1 + (3 : Int32))), (.ref a0), (.int (((own_shl ((g (p1).toNatClampNeg) &&& (255 : Int32)) (24 : Int32)) ||| (own_shl ((g ((p1 + (1 : Int32))).toNatClampNeg) &&& (255 : Int32)) (16 : Int32))) ||| (own_shl ((g ((p1 + (2 : Int32))).toNatClampNeg) &&& (255 : Int32)) (8 : Int32))))])) rfl rfl (hb hby d1_40) _ kt
  refine own_go (S' := s₁.setTop (mkF m 41 #[.val (.ref a0), .val (.int p1)] [(.int (g ((p1 + (3 : Int32))).toNatClampNeg)), (.int (((own_shl ((g (p1).toNatClampNeg) &&& (255 : Int32)) (24 : Int32)) ||| (own_shl ((g ((p1 + (1 : Int32))).toNatClampNeg) &&& (255 : Int32)) (16 : Int32))) ||| (own_shl ((g ((p1 + (2 : Int32))).toNatClampNeg) &&& (255 : Int32)) (8 : Int32))))])) st4 ?_
  refine own_go (S' := s₁.setTop (mkF m 46 #[.val (.ref a0), .val (.int p1)] [(.int ((((own_shl ((g (p1).toNatClampNeg) &&& (255 : Int32)) (24 : Int32)) ||| (own_shl ((g ((p1 + (1 : Int32))).toNatClampNeg) &&& (255 : Int32)) (16 : Int32))) ||| (own_shl ((g ((p1 + (2 : Int32))).toNatClampNeg) &&& (255 : Int32)) (8 : Int32))) ||| ((g ((p1 + (3 : Int32))).toNatClampNeg) &&& (255 : Int32))))])) (fun target kt => ?_) ?_
  · skip
    show Steps p.tables e below (s₁.setTop (mkF m 41 #[.val (.ref a0), .val (.int p1)] [(.int (g ((p1 + (3 : Int32))).toNatClampNeg)), (.int (((own_shl ((g (p1).toNatClampNeg) &&& (255 : Int32)) (24 : Int32)) ||| (own_shl ((g ((p1 + (1 : Int32))).toNatClampNeg) &&& (255 : Int32)) (16 : Int32))) ||| (own_shl ((g ((p1 + (2 : Int32))).toNatClampNeg) &&& (255 : Int32)) (8 : Int32))))])) _
    refine XS.sipush X0.here hx rfl (hb hby d1_41) ?_
    show Steps p.tables e below (s₁.setTop (mkF m 44 #[.val (.ref a0), .val (.int p1)] [(.int (255 : Int32)), (.int (g ((p1 + (3 : Int32))).toNatClampNeg)), (.int (((own_shl ((g (p1).toNatClampNeg) &&& (255 : Int32)) (24 : Int32)) ||| (own_shl ((g ((p1 + (1 : Int32))).toNatClampNeg) &&& (255 : Int32)) (16 : Int32))) ||| (own_shl ((g ((p1 + (2 : Int32))).toNatClampNeg) &&& (255 : Int32)) (8 : Int32))))])) _
    refine XS.iand X0.here hx rfl (hb hby d1_44) rfl ?_
    show Steps p.tables e below (s₁.setTop (mkF m 45 #[.val (.ref a0), .val (.int p1)] [(.int ((g ((p1 + (3 : Int32))).toNatClampNeg) &&& (255 : Int32))), (.int (((own_shl ((g (p1).toNatClampNeg) &&& (255 : Int32)) (24 : Int32)) ||| (own_shl ((g ((p1 + (1 : Int32))).toNatClampNeg) &&& (255 : Int32)) (16 : Int32))) ||| (own_shl ((g ((p1 + (2 : Int32))).toNatClampNeg) &&& (255 : Int32)) (8 : Int32))))])) _
    refine XS.ior X0.here hx rfl (hb hby d1_45) rfl ?_
    exact kt
  obtain ⟨fs, hr, hrun, hended, hW, hsame⟩ := X0.leave (v := some (.int ((((own_shl ((g (p1).toNatClampNeg) &&& (255 : Int32)) (24 : Int32)) ||| (own_shl ((g ((p1 + (1 : Int32))).toNatClampNeg) &&& (255 : Int32)) (16 : Int32))) ||| (own_shl ((g ((p1 + (2 : Int32))).toNatClampNeg) &&& (255 : Int32)) (8 : Int32))) ||| ((g ((p1 + (3 : Int32))).toNatClampNeg) &&& (255 : Int32))))) (fun h => by rw [Bd.returns] at h; cases h)
  refine ⟨_, _, ?_, hrun, hended, _, _, rfl, ?_, ⟨_, rfl⟩, hW, hsame.mono (by decide) (by decide)⟩
  · exact retI X0 hx Bd.returns (hb hby d1_46) hr
  · show Q1 Z a0 p1 g h0 n0 _ s₁.heap _
    rw [e0]
    exact ⟨(by (first | rfl | (simp only []; done) | (simp []; done))), N0, rfl⟩
theorem own_pd0 : parseMethodDescriptor "([BI)I" = some ⟨[(.array .byte), .int], some .int⟩ := by decide +kernel
theorem own_pn1 : plainName "portwarden/wire/DecoderUint32PinLaw" = true := by first | (simp [plainName, overriddenIn]; done) | decide +kernel
set_option maxHeartbeats 40000000 in
theorem own_ef_rm0 (m : MethodId) (x0 : Int32) (x1 : Int32) (x2 : Int64) : entryFrame m #[(.int x0), (.int x1), (.long x2)] maxLocals = mkF m 0 #[.val (.int x0), .val (.int x1), .val (.long x2), .second, .unset, .unset] [] := by first | (simp [entryFrame, mkF, argsToLocals, Value.category, maxLocals]; done) | rfl
def Q0 (Z : State) (p0 : Int32) (p1 : Int32) (q2 : Int64) (h0 : Heap) (n0 : Nat) (v : Option Value) (h : Heap) (L : List Loc) : Prop := v = some (.int 1) ∧ Fr n0 L
set_option maxRecDepth 65536 in
set_option maxHeartbeats 40000000 in
theorem rm0 (l : Launch) (Z : State) (aZ : Array Value) (hw : ∀ d ∈ tables_1, d.before aZ Z = true) (ws : List Jvm.Cond) (p0 : Int32) (p1 : Int32) (q2 : Int64) (h0 : Heap) (n0 : Nat) (Z0 : n0 ≤ h0.size) :
    MetFree l x (head1 (Jvm.Cond.code x code maxLocals ret :: ws) room_1) (fun a U => a = #[(.int p0), (.int p1), (.long q2)] ∧ Z.Warmed39 U.vm ∧ U.heap = h0) (fun _ _ _ _ _ => True) (fun _ U o U' => ∃ v L, o = .returned v ∧ Q0 Z p0 p1 q2 h0 n0 v U'.heap L ∧ FrameEnd U o U' L room_1.cells room_1.slots) := by
  refine MetFree.of_bodySF (plainFor_of_name own_pn1) hisR ?_
  intro p e s m args below meth c s₁ Bd hml0 hP hK
  obtain ⟨rfl, hZ, hh⟩ := hP
  have hx := Bd.exec
  have hby := Bd.bytes
  have hml : c.maxLocals = 6 := hml0
  have hown : s.vm.findClass "portwarden/wire/DecoderUint32PinLaw" = some m.cls := findClass_of_methodNamed Bd.named
  have hnm := (name_of_methodNamed Bd.named Bd.method).1
  have X0 : Stand p l e room_1 s m #[(.int p0), (.int p1), (.long q2)] below meth c s₁ [] 0 0 := Stand.of_body Bd
  have e0 : s₁.heap = h0 := by rw [← hh, Bd.state]; rfl
  have N0 := Fr.nil n0
  refine own_go (S' := s₁.setTop (mkF m 0 #[.val (.int p0), .val (.int p1), .val (.long q2), .second, .unset, .unset] [])) (fun t k => castTop (own_ef_rm0 m p0 p1 q2) k) ?_
  obtain ⟨off, h_off⟩ : ∃ z : Int32, z = ((p1 &&& (2147483647 : Int32)) % (4 : Int32)) := ⟨_, rfl⟩
  refine own_go (S' := s₁.setTop (mkF m 8 #[.val (.int p0), .val (.int p1), .val (.long q2), .second, .val (.int off), .unset] [])) (fun target kt => ?_) ?_
  · subst h_off
    show Steps p.tables e below (s₁.setTop (mkF m 0 #[.val (.int p0), .val (.int p1), .val (.long q2), .second, .unset, .unset] [])) _
    refine XS.iloadN X0.here hx rfl (hb hby at_0) rfl ?_
    show Steps p.tables e below (s₁.setTop (mkF m 1 #[.val (.int p0), .val (.int p1), .val (.long q2), .second, .unset, .unset] [(.int p1)])) _
    refine X0.ldcInt hx hown (mvT hZ (hw _ (List.mem_of_getElem? (i := 0) rfl))) (g := (mkF m 1 #[.val (.int p0), .val (.int p1), .val (.long q2), .second, .unset, .unset] [(.int p1)])) rfl (hb hby at_1) _ ?_
    show Steps p.tables e below (s₁.setTop (mkF m 3 #[.val (.int p0), .val (.int p1), .val (.long q2), .second, .unset, .unset] [(.int (2147483647 : Int32)), (.int p1)])) _
    refine XS.iand X0.here hx rfl (hb hby at_3) rfl ?_
    show Steps p.tables e below (s₁.setTop (mkF m 4 #[.val (.int p0), .val (.int p1), .val (.long q2), .second, .unset, .unset] [(.int (p1 &&& (2147483647 : Int32)))])) _
    refine XS.iconst X0.here hx rfl (hb hby at_4) ?_
    show Steps p.tables e below (s₁.setTop (mkF m 5 #[.val (.int p0), .val (.int p1), .val (.long q2), .second, .unset, .unset] [(.int (4 : Int32)), (.int (p1 &&& (2147483647 : Int32)))])) _
    refine iremM (g := (mkF m 5 #[.val (.int p0), .val (.int p1), .val (.long q2), .second, .unset, .unset] [(.int (4 : Int32)), (.int (p1 &&& (2147483647 : Int32)))])) X0 hx rfl (hb hby at_5) rfl (by decide) ?_
    show Steps p.tables e below (s₁.setTop (mkF m 6 #[.val (.int p0), .val (.int p1), .val (.long q2), .second, .unset, .unset] [(.int ((p1 &&& (2147483647 : Int32)) % (4 : Int32)))])) _
    refine XS.istore X0.here hx rfl (hb hby at_6) rfl (l' := #[.val (.int p0), .val (.int p1), .val (.long q2), .second, .val (.int ((p1 &&& (2147483647 : Int32)) % (4 : Int32))), .unset]) rfl ?_
    exact kt
  rcases own_cases h_off with hs_off | hs_off | hs_off | hs_off
  · subst hs_off
    refine own_go (S' := s₁.setTop (mkF m 10 #[.val (.int p0), .val (.int p1), .val (.long q2), .second, .val (.int (0 : Int32)), .unset] [(.int (7 : Int32))])) (fun target kt => ?_) ?_
    · skip
      show Steps p.tables e below (s₁.setTop (mkF m 8 #[.val (.int p0), .val (.int p1), .val (.long q2), .second, .val (.int (0 : Int32)), .unset] [])) _
      refine XS.bipush X0.here hx rfl (hb hby at_8) ?_
      exact kt
    obtain ⟨T5, h5, k5, X5, e5, E5, A5, B5, st5⟩ := newPE X0 hx hZ (hw _ (List.mem_of_getElem? (i := 1) rfl)) e0 (g := (mkF m 10 #[.val (.int p0), .val (.int p1), .val (.long q2), .second, .val (.int (0 : Int32)), .unset] [(.int (7 : Int32))])) rfl (hb hby at_10) rfl (by decide) (cap := 7) (by decide) (by decide) (by decide) (by decide) (ad := "[B") (by decide)
    obtain ⟨b5, g5⟩ : ∃ z, z = h0.size := ⟨_, rfl⟩
    rw [← g5] at A5 B5 st5
    have g_b5 : n0 ≤ b5 := Nat.le_trans Z0 (Nat.le_of_eq g5.symm)
    have Z5 : n0 ≤ h5.size := Nat.le_trans Z0 E5.1
    have f6 : own_AI Z h5 b5 .byte 7 (fun _ => 0) := own_AI.fresh A5 rfl
    refine own_go (S' := T5.setTop (mkF m 12 #[.val (.int p0), .val (.int p1), .val (.long q2), .second, .val (.int (0 : Int32)), .unset] [(.ref b5)])) st5 ?_
    refine own_go (S' := T5.setTop (mkF m 20 #[.val (.int p0), .val (.int p1), .val (.long q2), .second, .val (.int (0 : Int32)), .val (.ref b5)] [(.int ((q2.toInt32).toInt8.toInt32)), (.int (0 : Int32)), (.ref b5)])) (fun target kt => ?_) ?_
    · skip
      show Steps p.tables e below (T5.setTop (mkF m 12 #[.val (.int p0), .val (.int p1), .val (.long q2), .second, .val (.int (0 : Int32)), .unset] [(.ref b5)])) _
      refine XS.astore X5.here hx rfl (hb hby at_12) rfl rfl (l' := #[.val (.int p0), .val (.int p1), .val (.long q2), .second, .val (.int (0 : Int32)), .val (.ref b5)]) rfl ?_
      show Steps p.tables e below (T5.setTop (mkF m 14 #[.val (.int p0), .val (.int p1), .val (.long q2), .second, .val (.int (0 : Int32)), .val (.ref b5)] [])) _
      refine XS.aload X5.here hx rfl (hb hby at_14) rfl rfl ?_
      show Steps p.tables e below (T5.setTop (mkF m 16 #[.val (.int p0), .val (.int p1), .val (.long q2), .second, .val (.int (0 : Int32)), .val (.ref b5)] [(.ref b5)])) _
      refine XS.iconst X5.here hx rfl (hb hby at_16) ?_
      show Steps p.tables e below (T5.setTop (mkF m 17 #[.val (.int p0), .val (.int p1), .val (.long q2), .second, .val (.int (0 : Int32)), .val (.ref b5)] [(.int (0 : Int32)), (.ref b5)])) _
      refine XS.lloadN X5.here hx rfl (hb hby at_17) rfl ?_
      show Steps p.tables e below (T5.setTop (mkF m 18 #[.val (.int p0), .val (.int p1), .val (.long q2), .second, .val (.int (0 : Int32)), .val (.ref b5)] [(.long q2), (.int (0 : Int32)), (.ref b5)])) _
      refine XS.l2i X5.here hx rfl (hb hby at_18) rfl ?_
      show Steps p.tables e below (T5.setTop (mkF m 19 #[.val (.int p0), .val (.int p1), .val (.long q2), .second, .val (.int (0 : Int32)), .val (.ref b5)] [(.int (q2.toInt32)), (.int (0 : Int32)), (.ref b5)])) _
      refine XS.i2b X5.here hx rfl (hb hby at_19) rfl ?_
      exact kt
    obtain ⟨c7, Ar7, S7, M7, H7⟩ := id f6
    have hin7 : ¬ ((0 : Int32) < 0 ∨ c7.slots.size ≤ ((0 : Int32)).toNatClampNeg) := own_in S7 ⟨by decide, by decide⟩
    obtain ⟨T8, h8, X8, e8, W8, st8⟩ := stB X5 hx hZ e5 Ar7 (j := (0 : Int32)) hin7 (g := (mkF m 20 #[.val (.int p0), .val (.int p1), .val (.long q2), .second, .val (.int (0 : Int32)), .val (.ref b5)] [(.int ((q2.toInt32).toInt8.toInt32)), (.int (0 : Int32)), (.ref b5)])) rfl rfl (hb hby at_20)
    have f10 : Exa Z h8 b5 "[B" := B5.wr W8
    have f9 : own_AI Z h8 b5 .byte 7 (own_upd (fun _ => 0) 0 (nar .byte ((q2.toInt32).toInt8.toInt32))) := own_AI.set Ar7 S7 M7 H7 W8
    have Z8 : n0 ≤ h8.size := Nat.le_trans Z5 (Keep.of_wr W8).1
    have N8 := Fr.snoc X8 N0 g_b5
    refine own_go (S' := T8.setTop (mkF m 21 #[.val (.int p0), .val (.int p1), .val (.long q2), .second, .val (.int (0 : Int32)), .val (.ref b5)] [])) st8 ?_
    refine own_go (S' := T8.setTop (mkF m 30 #[.val (.int p0), .val (.int p1), .val (.long q2), .second, .val (.int (0 : Int32)), .val (.ref b5)] [(.int (((own_ushrL q2 (8 : Int32)).toInt32).toInt8.toInt32)), (.int (1 : Int32)), (.ref b5)])) (fun target kt => ?_) ?_
    · skip
      show Steps p.tables e below (T8.setTop (mkF m 21 #[.val (.int p0), .val (.int p1), .val (.long q2), .second, .val (.int (0 : Int32)), .val (.ref b5)] [])) _
      refine XS.aload X8.here hx rfl (hb hby at_21) rfl rfl ?_
      show Steps p.tables e below (T8.setTop (mkF m 23 #[.val (.int p0), .val (.int p1), .val (.long q2), .second, .val (.int (0 : Int32)), .val (.ref b5)] [(.ref b5)])) _
      refine XS.iconst X8.here hx rfl (hb hby at_23) ?_
      show Steps p.tables e below (T8.setTop (mkF m 24 #[.val (.int p0), .val (.int p1), .val (.long q2), .second, .val (.int (0 : Int32)), .val (.ref b5)] [(.int (1 : Int32)), (.ref b5)])) _
      refine XS.lloadN X8.here hx rfl (hb hby at_24) rfl ?_
      show Steps p.tables e below (T8.setTop (mkF m 25 #[.val (.int p0), .val (.int p1), .val (.long q2), .second, .val (.int (0 : Int32)), .val (.ref b5)] [(.long q2), (.int (1 : Int32)), (.ref b5)])) _
      refine XS.bipush X8.here hx rfl (hb hby at_25) ?_
      show Steps p.tables e below (T8.setTop (mkF m 27 #[.val (.int p0), .val (.int p1), .val (.long q2), .second, .val (.int (0 : Int32)), .val (.ref b5)] [(.int (8 : Int32)), (.long q2), (.int (1 : Int32)), (.ref b5)])) _
      refine XS.lushr X8.here hx rfl (hb hby at_27) rfl ?_
      show Steps p.tables e below (T8.setTop (mkF m 28 #[.val (.int p0), .val (.int p1), .val (.long q2), .second, .val (.int (0 : Int32)), .val (.ref b5)] [(.long (own_ushrL q2 (8 : Int32))), (.int (1 : Int32)), (.ref b5)])) _
      refine XS.l2i X8.here hx rfl (hb hby at_28) rfl ?_
      show Steps p.tables e below (T8.setTop (mkF m 29 #[.val (.int p0), .val (.int p1), .val (.long q2), .second, .val (.int (0 : Int32)), .val (.ref b5)] [(.int ((own_ushrL q2 (8 : Int32)).toInt32)), (.int (1 : Int32)), (.ref b5)])) _
      refine XS.i2b X8.here hx rfl (hb hby at_29) rfl ?_
      exact kt
    obtain ⟨c11, Ar11, S11, M11, H11⟩ := id f9
    have hin11 : ¬ ((1 : Int32) < 0 ∨ c11.slots.size ≤ ((1 : Int32)).toNatClampNeg) := own_in S11 ⟨by decide, by decide⟩
    obtain ⟨T12, h12, X12, e12, W12, st12⟩ := stB X8 hx hZ e8 Ar11 (j := (1 : Int32)) hin11 (g := (mkF m 30 #[.val (.int p0), .val (.int p1), .val (.long q2), .second, .val (.int (0 : Int32)), .val (.ref b5)] [(.int (((own_ushrL q2 (8 : Int32)).toInt32).toInt8.toInt32)), (.int (1 : Int32)), (.ref b5)])) rfl rfl (hb hby at_30)
    have f14 : Exa Z h12 b5 "[B" := f10.wr W12
    have f13 : own_AI Z h12 b5 .byte 7 (own_upd (own_upd (fun _ => 0) 0 (nar .byte ((q2.toInt32).toInt8.toInt32))) 1 (nar .byte (((own_ushrL q2 (8 : Int32)).toInt32).toInt8.toInt32))) := own_AI.set Ar11 S11 M11 H11 W12
    have Z12 : n0 ≤ h12.size := Nat.le_trans Z8 (Keep.of_wr W12).1
    have N12 := Fr.snoc X12 N8 g_b5
    refine own_go (S' := T12.setTop (mkF m 31 #[.val (.int p0), .val (.int p1), .val (.long q2), .second, .val (.int (0 : Int32)), .val (.ref b5)] [])) st12 ?_
    refine own_go (S' := T12.setTop (mkF m 40 #[.val (.int p0), .val (.int p1), .val (.long q2), .second, .val (.int (0 : Int32)), .val (.ref b5)] [(.int (((own_ushrL q2 (16 : Int32)).toInt32).toInt8.toInt32)), (.int (2 : Int32)), (.ref b5)])) (fun target kt => ?_) ?_
    · skip
      show Steps p.tables e below (T12.setTop (mkF m 31 #[.val (.int p0), .val (.int p1), .val (.long q2), .second, .val (.int (0 : Int32)), .val (.ref b5)] [])) _
      refine XS.aload X12.here hx rfl (hb hby at_31) rfl rfl ?_
      show Steps p.tables e below (T12.setTop (mkF m 33 #[.val (.int p0), .val (.int p1), .val (.long q2), .second, .val (.int (0 : Int32)), .val (.ref b5)] [(.ref b5)])) _
      refine XS.iconst X12.here hx rfl (hb hby at_33) ?_
      show Steps p.tables e below (T12.setTop (mkF m 34 #[.val (.int p0), .val (.int p1), .val (.long q2), .second, .val (.int (0 : Int32)), .val (.ref b5)] [(.int (2 : Int32)), (.ref b5)])) _
      refine XS.lloadN X12.here hx rfl (hb hby at_34) rfl ?_
      show Steps p.tables e below (T12.setTop (mkF m 35 #[.val (.int p0), .val (.int p1), .val (.long q2), .second, .val (.int (0 : Int32)), .val (.ref b5)] [(.long q2), (.int (2 : Int32)), (.ref b5)])) _
      refine XS.bipush X12.here hx rfl (hb hby at_35) ?_
      show Steps p.tables e below (T12.setTop (mkF m 37 #[.val (.int p0), .val (.int p1), .val (.long q2), .second, .val (.int (0 : Int32)), .val (.ref b5)] [(.int (16 : Int32)), (.long q2), (.int (2 : Int32)), (.ref b5)])) _
      refine XS.lushr X12.here hx rfl (hb hby at_37) rfl ?_
      show Steps p.tables e below (T12.setTop (mkF m 38 #[.val (.int p0), .val (.int p1), .val (.long q2), .second, .val (.int (0 : Int32)), .val (.ref b5)] [(.long (own_ushrL q2 (16 : Int32))), (.int (2 : Int32)), (.ref b5)])) _
      refine XS.l2i X12.here hx rfl (hb hby at_38) rfl ?_
      show Steps p.tables e below (T12.setTop (mkF m 39 #[.val (.int p0), .val (.int p1), .val (.long q2), .second, .val (.int (0 : Int32)), .val (.ref b5)] [(.int ((own_ushrL q2 (16 : Int32)).toInt32)), (.int (2 : Int32)), (.ref b5)])) _
      refine XS.i2b X12.here hx rfl (hb hby at_39) rfl ?_
      exact kt
    obtain ⟨c15, Ar15, S15, M15, H15⟩ := id f13
    have hin15 : ¬ ((2 : Int32) < 0 ∨ c15.slots.size ≤ ((2 : Int32)).toNatClampNeg) := own_in S15 ⟨by decide, by decide⟩
    obtain ⟨T16, h16, X16, e16, W16, st16⟩ := stB X12 hx hZ e12 Ar15 (j := (2 : Int32)) hin15 (g := (mkF m 40 #[.val (.int p0), .val (.int p1), .val (.long q2), .second, .val (.int (0 : Int32)), .val (.ref b5)] [(.int (((own_ushrL q2 (16 : Int32)).toInt32).toInt8.toInt32)), (.int (2 : Int32)), (.ref b5)])) rfl rfl (hb hby at_40)
    have f18 : Exa Z h16 b5 "[B" := f14.wr W16
    have f17 : own_AI Z h16 b5 .byte 7 (own_upd (own_upd (own_upd (fun _ => 0) 0 (nar .byte ((q2.toInt32).toInt8.toInt32))) 1 (nar .byte (((own_ushrL q2 (8 : Int32)).toInt32).toInt8.toInt32))) 2 (nar .byte (((own_ushrL q2 (16 : Int32)).toInt32).toInt8.toInt32))) := own_AI.set Ar15 S15 M15 H15 W16
    have Z16 : n0 ≤ h16.size := Nat.le_trans Z12 (Keep.of_wr W16).1
    have N16 := Fr.snoc X16 N12 g_b5
    refine own_go (S' := T16.setTop (mkF m 41 #[.val (.int p0), .val (.int p1), .val (.long q2), .second, .val (.int (0 : Int32)), .val (.ref b5)] [])) st16 ?_
    refine own_go (S' := T16.setTop (mkF m 50 #[.val (.int p0), .val (.int p1), .val (.long q2), .second, .val (.int (0 : Int32)), .val (.ref b5)] [(.int (((own_ushrL q2 (24 : Int32)).toInt32).toInt8.toInt32)), (.int (3 : Int32)), (.ref b5)])) (fun target kt => ?_) ?_
    · skip
      show Steps p.tables e below (T16.setTop (mkF m 41 #[.val (.int p0), .val (.int p1), .val (.long q2), .second, .val (.int (0 : Int32)), .val (.ref b5)] [])) _
      refine XS.aload X16.here hx rfl (hb hby at_41) rfl rfl ?_
      show Steps p.tables e below (T16.setTop (mkF m 43 #[.val (.int p0), .val (.int p1), .val (.long q2), .second, .val (.int (0 : Int32)), .val (.ref b5)] [(.ref b5)])) _
      refine XS.iconst X16.here hx rfl (hb hby at_43) ?_
      show Steps p.tables e below (T16.setTop (mkF m 44 #[.val (.int p0), .val (.int p1), .val (.long q2), .second, .val (.int (0 : Int32)), .val (.ref b5)] [(.int (3 : Int32)), (.ref b5)])) _
      refine XS.lloadN X16.here hx rfl (hb hby at_44) rfl ?_
      show Steps p.tables e below (T16.setTop (mkF m 45 #[.val (.int p0), .val (.int p1), .val (.long q2), .second, .val (.int (0 : Int32)), .val (.ref b5)] [(.long q2), (.int (3 : Int32)), (.ref b5)])) _
      refine XS.bipush X16.here hx rfl (hb hby at_45) ?_
      show Steps p.tables e below (T16.setTop (mkF m 47 #[.val (.int p0), .val (.int p1), .val (.long q2), .second, .val (.int (0 : Int32)), .val (.ref b5)] [(.int (24 : Int32)), (.long q2), (.int (3 : Int32)), (.ref b5)])) _
      refine XS.lushr X16.here hx rfl (hb hby at_47) rfl ?_
      show Steps p.tables e below (T16.setTop (mkF m 48 #[.val (.int p0), .val (.int p1), .val (.long q2), .second, .val (.int (0 : Int32)), .val (.ref b5)] [(.long (own_ushrL q2 (24 : Int32))), (.int (3 : Int32)), (.ref b5)])) _
      refine XS.l2i X16.here hx rfl (hb hby at_48) rfl ?_
      show Steps p.tables e below (T16.setTop (mkF m 49 #[.val (.int p0), .val (.int p1), .val (.long q2), .second, .val (.int (0 : Int32)), .val (.ref b5)] [(.int ((own_ushrL q2 (24 : Int32)).toInt32)), (.int (3 : Int32)), (.ref b5)])) _
      refine XS.i2b X16.here hx rfl (hb hby at_49) rfl ?_
      exact kt
    obtain ⟨c19, Ar19, S19, M19, H19⟩ := id f17
    have hin19 : ¬ ((3 : Int32) < 0 ∨ c19.slots.size ≤ ((3 : Int32)).toNatClampNeg) := own_in S19 ⟨by decide, by decide⟩
    obtain ⟨T20, h20, X20, e20, W20, st20⟩ := stB X16 hx hZ e16 Ar19 (j := (3 : Int32)) hin19 (g := (mkF m 50 #[.val (.int p0), .val (.int p1), .val (.long q2), .second, .val (.int (0 : Int32)), .val (.ref b5)] [(.int (((own_ushrL q2 (24 : Int32)).toInt32).toInt8.toInt32)), (.int (3 : Int32)), (.ref b5)])) rfl rfl (hb hby at_50)
    have f22 : Exa Z h20 b5 "[B" := f18.wr W20
    have f21 : own_AI Z h20 b5 .byte 7 (own_upd (own_upd (own_upd (own_upd (fun _ => 0) 0 (nar .byte ((q2.toInt32).toInt8.toInt32))) 1 (nar .byte (((own_ushrL q2 (8 : Int32)).toInt32).toInt8.toInt32))) 2 (nar .byte (((own_ushrL q2 (16 : Int32)).toInt32).toInt8.toInt32))) 3 (nar .byte (((own_ushrL q2 (24 : Int32)).toInt32).toInt8.toInt32))) := own_AI.set Ar19 S19 M19 H19 W20
    have Z20 : n0 ≤ h20.size := Nat.le_trans Z16 (Keep.of_wr W20).1
    have N20 := Fr.snoc X20 N16 g_b5
    refine own_go (S' := T20.setTop (mkF m 51 #[.val (.int p0), .val (.int p1), .val (.long q2), .second, .val (.int (0 : Int32)), .val (.ref b5)] [])) st20 ?_
    refine own_go (S' := T20.setTop (mkF m 60 #[.val (.int p0), .val (.int p1), .val (.long q2), .second, .val (.int (0 : Int32)), .val (.ref b5)] [(.int (((own_ushrL q2 (32 : Int32)).toInt32).toInt8.toInt32)), (.int (4 : Int32)), (.ref b5)])) (fun target kt => ?_) ?_
    · skip
      show Steps p.tables e below (T20.setTop (mkF m 51 #[.val (.int p0), .val (.int p1), .val (.long q2), .second, .val (.int (0 : Int32)), .val (.ref b5)] [])) _
      refine XS.aload X20.here hx rfl (hb hby at_51) rfl rfl ?_
      show Steps p.tables e below (T20.setTop (mkF m 53 #[.val (.int p0), .val (.int p1), .val (.long q2), .second, .val (.int (0 : Int32)), .val (.ref b5)] [(.ref b5)])) _
      refine XS.iconst X20.here hx rfl (hb hby at_53) ?_
      show Steps p.tables e below (T20.setTop (mkF m 54 #[.val (.int p0), .val (.int p1), .val (.long q2), .second, .val (.int (0 : Int32)), .val (.ref b5)] [(.int (4 : Int32)), (.ref b5)])) _
      refine XS.lloadN X20.here hx rfl (hb hby at_54) rfl ?_
      show Steps p.tables e below (T20.setTop (mkF m 55 #[.val (.int p0), .val (.int p1), .val (.long q2), .second, .val (.int (0 : Int32)), .val (.ref b5)] [(.long q2), (.int (4 : Int32)), (.ref b5)])) _
      refine XS.bipush X20.here hx rfl (hb hby at_55) ?_
      show Steps p.tables e below (T20.setTop (mkF m 57 #[.val (.int p0), .val (.int p1), .val (.long q2), .second, .val (.int (0 : Int32)), .val (.ref b5)] [(.int (32 : Int32)), (.long q2), (.int (4 : Int32)), (.ref b5)])) _
      refine XS.lushr X20.here hx rfl (hb hby at_57) rfl ?_
      show Steps p.tables e below (T20.setTop (mkF m 58 #[.val (.int p0), .val (.int p1), .val (.long q2), .second, .val (.int (0 : Int32)), .val (.ref b5)] [(.long (own_ushrL q2 (32 : Int32))), (.int (4 : Int32)), (.ref b5)])) _
      refine XS.l2i X20.here hx rfl (hb hby at_58) rfl ?_
      show Steps p.tables e below (T20.setTop (mkF m 59 #[.val (.int p0), .val (.int p1), .val (.long q2), .second, .val (.int (0 : Int32)), .val (.ref b5)] [(.int ((own_ushrL q2 (32 : Int32)).toInt32)), (.int (4 : Int32)), (.ref b5)])) _
      refine XS.i2b X20.here hx rfl (hb hby at_59) rfl ?_
      exact kt
    obtain ⟨c23, Ar23, S23, M23, H23⟩ := id f21
    have hin23 : ¬ ((4 : Int32) < 0 ∨ c23.slots.size ≤ ((4 : Int32)).toNatClampNeg) := own_in S23 ⟨by decide, by decide⟩
    obtain ⟨T24, h24, X24, e24, W24, st24⟩ := stB X20 hx hZ e20 Ar23 (j := (4 : Int32)) hin23 (g := (mkF m 60 #[.val (.int p0), .val (.int p1), .val (.long q2), .second, .val (.int (0 : Int32)), .val (.ref b5)] [(.int (((own_ushrL q2 (32 : Int32)).toInt32).toInt8.toInt32)), (.int (4 : Int32)), (.ref b5)])) rfl rfl (hb hby at_60)
    have f26 : Exa Z h24 b5 "[B" := f22.wr W24
    have f25 : own_AI Z h24 b5 .byte 7 (own_upd (own_upd (own_upd (own_upd (own_upd (fun _ => 0) 0 (nar .byte ((q2.toInt32).toInt8.toInt32))) 1 (nar .byte (((own_ushrL q2 (8 : Int32)).toInt32).toInt8.toInt32))) 2 (nar .byte (((own_ushrL q2 (16 : Int32)).toInt32).toInt8.toInt32))) 3 (nar .byte (((own_ushrL q2 (24 : Int32)).toInt32).toInt8.toInt32))) 4 (nar .byte (((own_ushrL q2 (32 : Int32)).toInt32).toInt8.toInt32))) := own_AI.set Ar23 S23 M23 H23 W24
    have Z24 : n0 ≤ h24.size := Nat.le_trans Z20 (Keep.of_wr W24).1
    have N24 := Fr.snoc X24 N20 g_b5
    refine own_go (S' := T24.setTop (mkF m 61 #[.val (.int p0), .val (.int p1), .val (.long q2), .second, .val (.int (0 : Int32)), .val (.ref b5)] [])) st24 ?_
    refine own_go (S' := T24.setTop (mkF m 70 #[.val (.int p0), .val (.int p1), .val (.long q2), .second, .val (.int (0 : Int32)), .val (.ref b5)] [(.int (((own_ushrL q2 (40 : Int32)).toInt32).toInt8.toInt32)), (.int (5 : Int32)), (.ref b5)])) (fun target kt => ?_) ?_
    · skip
      show Steps p.tables e below (T24.setTop (mkF m 61 #[.val (.int p0), .val (.int p1), .val (.long q2), .second, .val (.int (0 : Int32)), .val (.ref b5)] [])) _
      refine XS.aload X24.here hx rfl (hb hby at_61) rfl rfl ?_
      show Steps p.tables e below (T24.setTop (mkF m 63 #[.val (.int p0), .val (.int p1), .val (.long q2), .second, .val (.int (0 : Int32)), .val (.ref b5)] [(.ref b5)])) _
      refine XS.iconst X24.here hx rfl (hb hby at_63) ?_
      show Steps p.tables e below (T24.setTop (mkF m 64 #[.val (.int p0), .val (.int p1), .val (.long q2), .second, .val (.int (0 : Int32)), .val (.ref b5)] [(.int (5 : Int32)), (.ref b5)])) _
      refine XS.lloadN X24.here hx rfl (hb hby at_64) rfl ?_
      show Steps p.tables e below (T24.setTop (mkF m 65 #[.val (.int p0), .val (.int p1), .val (.long q2), .second, .val (.int (0 : Int32)), .val (.ref b5)] [(.long q2), (.int (5 : Int32)), (.ref b5)])) _
      refine XS.bipush X24.here hx rfl (hb hby at_65) ?_
      show Steps p.tables e below (T24.setTop (mkF m 67 #[.val (.int p0), .val (.int p1), .val (.long q2), .second, .val (.int (0 : Int32)), .val (.ref b5)] [(.int (40 : Int32)), (.long q2), (.int (5 : Int32)), (.ref b5)])) _
      refine XS.lushr X24.here hx rfl (hb hby at_67) rfl ?_
      show Steps p.tables e below (T24.setTop (mkF m 68 #[.val (.int p0), .val (.int p1), .val (.long q2), .second, .val (.int (0 : Int32)), .val (.ref b5)] [(.long (own_ushrL q2 (40 : Int32))), (.int (5 : Int32)), (.ref b5)])) _
      refine XS.l2i X24.here hx rfl (hb hby at_68) rfl ?_
      show Steps p.tables e below (T24.setTop (mkF m 69 #[.val (.int p0), .val (.int p1), .val (.long q2), .second, .val (.int (0 : Int32)), .val (.ref b5)] [(.int ((own_ushrL q2 (40 : Int32)).toInt32)), (.int (5 : Int32)), (.ref b5)])) _
      refine XS.i2b X24.here hx rfl (hb hby at_69) rfl ?_
      exact kt
    obtain ⟨c27, Ar27, S27, M27, H27⟩ := id f25
    have hin27 : ¬ ((5 : Int32) < 0 ∨ c27.slots.size ≤ ((5 : Int32)).toNatClampNeg) := own_in S27 ⟨by decide, by decide⟩
    obtain ⟨T28, h28, X28, e28, W28, st28⟩ := stB X24 hx hZ e24 Ar27 (j := (5 : Int32)) hin27 (g := (mkF m 70 #[.val (.int p0), .val (.int p1), .val (.long q2), .second, .val (.int (0 : Int32)), .val (.ref b5)] [(.int (((own_ushrL q2 (40 : Int32)).toInt32).toInt8.toInt32)), (.int (5 : Int32)), (.ref b5)])) rfl rfl (hb hby at_70)
    have f30 : Exa Z h28 b5 "[B" := f26.wr W28
    have f29 : own_AI Z h28 b5 .byte 7 (own_upd (own_upd (own_upd (own_upd (own_upd (own_upd (fun _ => 0) 0 (nar .byte ((q2.toInt32).toInt8.toInt32))) 1 (nar .byte (((own_ushrL q2 (8 : Int32)).toInt32).toInt8.toInt32))) 2 (nar .byte (((own_ushrL q2 (16 : Int32)).toInt32).toInt8.toInt32))) 3 (nar .byte (((own_ushrL q2 (24 : Int32)).toInt32).toInt8.toInt32))) 4 (nar .byte (((own_ushrL q2 (32 : Int32)).toInt32).toInt8.toInt32))) 5 (nar .byte (((own_ushrL q2 (40 : Int32)).toInt32).toInt8.toInt32))) := own_AI.set Ar27 S27 M27 H27 W28
    have Z28 : n0 ≤ h28.size := Nat.le_trans Z24 (Keep.of_wr W28).1
    have N28 := Fr.snoc X28 N24 g_b5
    refine own_go (S' := T28.setTop (mkF m 71 #[.val (.int p0), .val (.int p1), .val (.long q2), .second, .val (.int (0 : Int32)), .val (.ref b5)] [])) st28 ?_
    refine own_go (S' := T28.setTop (mkF m 81 #[.val (.int p0), .val (.int p1), .val (.long q2), .second, .val (.int (0 : Int32)), .val (.ref b5)] [(.int (((own_ushrL q2 (48 : Int32)).toInt32).toInt8.toInt32)), (.int (6 : Int32)), (.ref b5)])) (fun target kt => ?_) ?_
    · skip
      show Steps p.tables e below (T28.setTop (mkF m 71 #[.val (.int p0), .val (.int p1), .val (.long q2), .second, .val (.int (0 : Int32)), .val (.ref b5)] [])) _
      refine XS.aload X28.here hx rfl (hb hby at_71) rfl rfl ?_
      show Steps p.tables e below (T28.setTop (mkF m 73 #[.val (.int p0), .val (.int p1), .val (.long q2), .second, .val (.int (0 : Int32)), .val (.ref b5)] [(.ref b5)])) _
      refine XS.bipush X28.here hx rfl (hb hby at_73) ?_
      show Steps p.tables e below (T28.setTop (mkF m 75 #[.val (.int p0), .val (.int p1), .val (.long q2), .second, .val (.int (0 : Int32)), .val (.ref b5)] [(.int (6 : Int32)), (.ref b5)])) _
      refine XS.lloadN X28.here hx rfl (hb hby at_75) rfl ?_
      show Steps p.tables e below (T28.setTop (mkF m 76 #[.val (.int p0), .val (.int p1), .val (.long q2), .second, .val (.int (0 : Int32)), .val (.ref b5)] [(.long q2), (.int (6 : Int32)), (.ref b5)])) _
      refine XS.bipush X28.here hx rfl (hb hby at_76) ?_
      show Steps p.tables e below (T28.setTop (mkF m 78 #[.val (.int p0), .val (.int p1), .val (.long q2), .second, .val (.int (0 : Int32)), .val (.ref b5)] [(.int (48 : Int32)), (.long q2), (.int (6 : Int32)), (.ref b5)])) _
      refine XS.lushr X28.here hx rfl (hb hby at_78) rfl ?_
      show Steps p.tables e below (T28.setTop (mkF m 79 #[.val (.int p0), .val (.int p1), .val (.long q2), .second, .val (.int (0 : Int32)), .val (.ref b5)] [(.long (own_ushrL q2 (48 : Int32))), (.int (6 : Int32)), (.ref b5)])) _
      refine XS.l2i X28.here hx rfl (hb hby at_79) rfl ?_
      show Steps p.tables e below (T28.setTop (mkF m 80 #[.val (.int p0), .val (.int p1), .val (.long q2), .second, .val (.int (0 : Int32)), .val (.ref b5)] [(.int ((own_ushrL q2 (48 : Int32)).toInt32)), (.int (6 : Int32)), (.ref b5)])) _
      refine XS.i2b X28.here hx rfl (hb hby at_80) rfl ?_
      exact kt
    obtain ⟨c31, Ar31, S31, M31, H31⟩ := id f29
    have hin31 : ¬ ((6 : Int32) < 0 ∨ c31.slots.size ≤ ((6 : Int32)).toNatClampNeg) := own_in S31 ⟨by decide, by decide⟩
    obtain ⟨T32, h32, X32, e32, W32, st32⟩ := stB X28 hx hZ e28 Ar31 (j := (6 : Int32)) hin31 (g := (mkF m 81 #[.val (.int p0), .val (.int p1), .val (.long q2), .second, .val (.int (0 : Int32)), .val (.ref b5)] [(.int (((own_ushrL q2 (48 : Int32)).toInt32).toInt8.toInt32)), (.int (6 : Int32)), (.ref b5)])) rfl rfl (hb hby at_81)
    have f34 : Exa Z h32 b5 "[B" := f30.wr W32
    have f33 : own_AI Z h32 b5 .byte 7 (own_upd (own_upd (own_upd (own_upd (own_upd (own_upd (own_upd (fun _ => 0) 0 (nar .byte ((q2.toInt32).toInt8.toInt32))) 1 (nar .byte (((own_ushrL q2 (8 : Int32)).toInt32).toInt8.toInt32))) 2 (nar .byte (((own_ushrL q2 (16 : Int32)).toInt32).toInt8.toInt32))) 3 (nar .byte (((own_ushrL q2 (24 : Int32)).toInt32).toInt8.toInt32))) 4 (nar .byte (((own_ushrL q2 (32 : Int32)).toInt32).toInt8.toInt32))) 5 (nar .byte (((own_ushrL q2 (40 : Int32)).toInt32).toInt8.toInt32))) 6 (nar .byte (((own_ushrL q2 (48 : Int32)).toInt32).toInt8.toInt32))) := own_AI.set Ar31 S31 M31 H31 W32
    have Z32 : n0 ≤ h32.size := Nat.le_trans Z28 (Keep.of_wr W32).1
    have N32 := Fr.snoc X32 N28 g_b5
    refine own_go (S' := T32.setTop (mkF m 82 #[.val (.int p0), .val (.int p1), .val (.long q2), .second, .val (.int (0 : Int32)), .val (.ref b5)] [])) st32 ?_
    refine own_go (S' := T32.setTop (mkF m 91 #[.val (.int p0), .val (.int p1), .val (.long q2), .second, .val (.int (0 : Int32)), .val (.ref b5)] [(.int ((own_ushr p0 (24 : Int32)).toInt8.toInt32)), (.int (0 : Int32)), (.ref b5)])) (fun target kt => ?_) ?_
    · skip
      show Steps p.tables e below (T32.setTop (mkF m 82 #[.val (.int p0), .val (.int p1), .val (.long q2), .second, .val (.int (0 : Int32)), .val (.ref b5)] [])) _
      refine XS.aload X32.here hx rfl (hb hby at_82) rfl rfl ?_
      show Steps p.tables e below (T32.setTop (mkF m 84 #[.val (.int p0), .val (.int p1), .val (.long q2), .second, .val (.int (0 : Int32)), .val (.ref b5)] [(.ref b5)])) _
      refine XS.iload X32.here hx rfl (hb hby at_84) rfl ?_
      show Steps p.tables e below (T32.setTop (mkF m 86 #[.val (.int p0), .val (.int p1), .val (.long q2), .second, .val (.int (0 : Int32)), .val (.ref b5)] [(.int (0 : Int32)), (.ref b5)])) _
      refine XS.iloadN X32.here hx rfl (hb hby at_86) rfl ?_
      show Steps p.tables e below (T32.setTop (mkF m 87 #[.val (.int p0), .val (.int p1), .val (.long q2), .second, .val (.int (0 : Int32)), .val (.ref b5)] [(.int p0), (.int (0 : Int32)), (.ref b5)])) _
      refine XS.bipush X32.here hx rfl (hb hby at_87) ?_
      show Steps p.tables e below (T32.setTop (mkF m 89 #[.val (.int p0), .val (.int p1), .val (.long q2), .second, .val (.int (0 : Int32)), .val (.ref b5)] [(.int (24 : Int32)), (.int p0), (.int (0 : Int32)), (.ref b5)])) _
      refine XS.iushr X32.here hx rfl (hb hby at_89) rfl ?_
      show Steps p.tables e below (T32.setTop (mkF m 90 #[.val (.int p0), .val (.int p1), .val (.long q2), .second, .val (.int (0 : Int32)), .val (.ref b5)] [(.int (own_ushr p0 (24 : Int32))), (.int (0 : Int32)), (.ref b5)])) _
      refine XS.i2b X32.here hx rfl (hb hby at_90) rfl ?_
      exact kt
    obtain ⟨c35, Ar35, S35, M35, H35⟩ := id f33
    have hin35 : ¬ ((0 : Int32) < 0 ∨ c35.slots.size ≤ ((0 : Int32)).toNatClampNeg) := own_in S35 ⟨by decide, by decide⟩
    obtain ⟨T36, h36, X36, e36, W36, st36⟩ := stB X32 hx hZ e32 Ar35 (j := (0 : Int32)) hin35 (g := (mkF m 91 #[.val (.int p0), .val (.int p1), .val (.long q2), .second, .val (.int (0 : Int32)), .val (.ref b5)] [(.int ((own_ushr p0 (24 : Int32)).toInt8.toInt32)), (.int (0 : Int32)), (.ref b5)])) rfl rfl (hb hby at_91)
    have f38 : Exa Z h36 b5 "[B" := f34.wr W36
    have f37 : own_AI Z h36 b5 .byte 7 (own_upd (own_upd (own_upd (own_upd (own_upd (own_upd (own_upd (own_upd (fun _ => 0) 0 (nar .byte ((q2.toInt32).toInt8.toInt32))) 1 (nar .byte (((own_ushrL q2 (8 : Int32)).toInt32).toInt8.toInt32))) 2 (nar .byte (((own_ushrL q2 (16 : Int32)).toInt32).toInt8.toInt32))) 3 (nar .byte (((own_ushrL q2 (24 : Int32)).toInt32).toInt8.toInt32))) 4 (nar .byte (((own_ushrL q2 (32 : Int32)).toInt32).toInt8.toInt32))) 5 (nar .byte (((own_ushrL q2 (40 : Int32)).toInt32).toInt8.toInt32))) 6 (nar .byte (((own_ushrL q2 (48 : Int32)).toInt32).toInt8.toInt32))) 0 (nar .byte ((own_ushr p0 (24 : Int32)).toInt8.toInt32))) := own_AI.set Ar35 S35 M35 H35 W36
    have Z36 : n0 ≤ h36.size := Nat.le_trans Z32 (Keep.of_wr W36).1
    have N36 := Fr.snoc X36 N32 g_b5
    refine own_go (S' := T36.setTop (mkF m 92 #[.val (.int p0), .val (.int p1), .val (.long q2), .second, .val (.int (0 : Int32)), .val (.ref b5)] [])) st36 ?_
    refine own_go (S' := T36.setTop (mkF m 103 #[.val (.int p0), .val (.int p1), .val (.long q2), .second, .val (.int (0 : Int32)), .val (.ref b5)] [(.int ((own_ushr p0 (16 : Int32)).toInt8.toInt32)), (.int (1 : Int32)), (.ref b5)])) (fun target kt => ?_) ?_
    · skip
      show Steps p.tables e below (T36.setTop (mkF m 92 #[.val (.int p0), .val (.int p1), .val (.long q2), .second, .val (.int (0 : Int32)), .val (.ref b5)] [])) _
      refine XS.aload X36.here hx rfl (hb hby at_92) rfl rfl ?_
      show Steps p.tables e below (T36.setTop (mkF m 94 #[.val (.int p0), .val (.int p1), .val (.long q2), .second, .val (.int (0 : Int32)), .val (.ref b5)] [(.ref b5)])) _
      refine XS.iload X36.here hx rfl (hb hby at_94) rfl ?_
      show Steps p.tables e below (T36.setTop (mkF m 96 #[.val (.int p0), .val (.int p1), .val (.long q2), .second, .val (.int (0 : Int32)), .val (.ref b5)] [(.int (0 : Int32)), (.ref b5)])) _
      refine XS.iconst X36.here hx rfl (hb hby at_96) ?_
      show Steps p.tables e below (T36.setTop (mkF m 97 #[.val (.int p0), .val (.int p1), .val (.long q2), .second, .val (.int (0 : Int32)), .val (.ref b5)] [(.int (1 : Int32)), (.int (0 : Int32)), (.ref b5)])) _
      refine XS.iadd X36.here hx rfl (hb hby at_97) rfl ?_
      rw [show ((0 : Int32) + (1 : Int32)) = (1 : Int32) from by decide]
      show Steps p.tables e below (T36.setTop (mkF m 98 #[.val (.int p0), .val (.int p1), .val (.long q2), .second, .val (.int (0 : Int32)), .val (.ref b5)] [(.int (1 : Int32)), (.ref b5)])) _
      refine XS.iloadN X36.here hx rfl (hb hby at_98) rfl ?_
      show Steps p.tables e below (T36.setTop (mkF m 99 #[.val (.int p0), .val (.int p1), .val (.long q2), .second, .val (.int (0 : Int32)), .val (.ref b5)] [(.int p0), (.int (1 : Int32)), (.ref b5)])) _
      refine XS.bipush X36.here hx rfl (hb hby at_99) ?_
      show Steps p.tables e below (T36.setTop (mkF m 101 #[.val (.int p0), .val (.int p1), .val (.long q2), .second, .val (.int (0 : Int32)), .val (.ref b5)] [(.int (16 : Int32)), (.int p0), (.int (1 : Int32)), (.ref b5)])) _
      refine XS.iushr X36.here hx rfl (hb hby at_101) rfl ?_
      show Steps p.tables e below (T36.setTop (mkF m 102 #[.val (.int p0), .val (.int p1), .val (.long q2), .second, .val (.int (0 : Int32)), .val (.ref b5)] [(.int (own_ushr p0 (16 : Int32))), (.int (1 : Int32)), (.ref b5)])) _
      refine XS.i2b X36.here hx rfl (hb hby at_102) rfl ?_
      exact kt
    obtain ⟨c39, Ar39, S39, M39, H39⟩ := id f37
    have hin39 : ¬ ((1 : Int32) < 0 ∨ c39.slots.size ≤ ((1 : Int32)).toNatClampNeg) := own_in S39 ⟨by decide, by decide⟩
    obtain ⟨T40, h40, X40, e40, W40, st40⟩ := stB X36 hx hZ e36 Ar39 (j := (1 : Int32)) hin39 (g := (mkF m 103 #[.val (.int p0), .val (.int p1), .val (.long q2), .second, .val (.int (0 : Int32)), .val (.ref b5)] [(.int ((own_ushr p0 (16 : Int32)).toInt8.toInt32)), (.int (1 : Int32)), (.ref b5)])) rfl rfl (hb hby at_103)
    have f42 : Exa Z h40 b5 "[B" := f38.wr W40
    have f41 : own_AI Z h40 b5 .byte 7 (own_upd (own_upd (own_upd (own_upd (own_upd (own_upd (own_upd (own_upd (own_upd (fun _ => 0) 0 (nar .byte ((q2.toInt32).toInt8.toInt32))) 1 (nar .byte (((own_ushrL q2 (8 : Int32)).toInt32).toInt8.toInt32))) 2 (nar .byte (((own_ushrL q2 (16 : Int32)).toInt32).toInt8.toInt32))) 3 (nar .byte (((own_ushrL q2 (24 : Int32)).toInt32).toInt8.toInt32))) 4 (nar .byte (((own_ushrL q2 (32 : Int32)).toInt32).toInt8.toInt32))) 5 (nar .byte (((own_ushrL q2 (40 : Int32)).toInt32).toInt8.toInt32))) 6 (nar .byte (((own_ushrL q2 (48 : Int32)).toInt32).toInt8.toInt32))) 0 (nar .byte ((own_ushr p0 (24 : Int32)).toInt8.toInt32))) 1 (nar .byte ((own_ushr p0 (16 : Int32)).toInt8.toInt32))) := own_AI.set Ar39 S39 M39 H39 W40
    have Z40 : n0 ≤ h40.size := Nat.le_trans Z36 (Keep.of_wr W40).1
    have N40 := Fr.snoc X40 N36 g_b5
    refine own_go (S' := T40.setTop (mkF m 104 #[.val (.int p0), .val (.int p1), .val (.long q2), .second, .val (.int (0 : Int32)), .val (.ref b5)] [])) st40 ?_
    refine own_go (S' := T40.setTop (mkF m 115 #[.val (.int p0), .val (.int p1), .val (.long q2), .second, .val (.int (0 : Int32)), .val (.ref b5)] [(.int ((own_ushr p0 (8 : Int32)).toInt8.toInt32)), (.int (2 : Int32)), (.ref b5)])) (fun target kt => ?_) ?_
    · skip
      show Steps p.tables e below (T40.setTop (mkF m 104 #[.val (.int p0), .val (.int p1), .val (.long q2), .second, .val (.int (0 : Int32)), .val (.ref b5)] [])) _
      refine XS.aload X40.here hx rfl (hb hby at_104) rfl rfl ?_
      show Steps p.tables e below (T40.setTop (mkF m 106 #[.val (.int p0), .val (.int p1), .val (.long q2), .second, .val (.int (0 : Int32)), .val (.ref b5)] [(.ref b5)])) _
      refine XS.iload X40.here hx rfl (hb hby at_106) rfl ?_
      show Steps p.tables e below (T40.setTop (mkF m 108 #[.val (.int p0), .val (.int p1), .val (.long q2), .second, .val (.int (0 : Int32)), .val (.ref b5)] [(.int (0 : Int32)), (.ref b5)])) _
      refine XS.iconst X40.here hx rfl (hb hby at_108) ?_
      show Steps p.tables e below (T40.setTop (mkF m 109 #[.val (.int p0), .val (.int p1), .val (.long q2), .second, .val (.int (0 : Int32)), .val (.ref b5)] [(.int (2 : Int32)), (.int (0 : Int32)), (.ref b5)])) _
      refine XS.iadd X40.here hx rfl (hb hby at_109) rfl ?_
      rw [show ((0 : Int32) + (2 : Int32)) = (2 : Int32) from by decide]
      show Steps p.tables e below (T40.setTop (mkF m 110 #[.val (.int p0), .val (.int p1), .val (.long q2), .second, .val (.int (0 : Int32)), .val (.ref b5)] [(.int (2 : Int32)), (.ref b5)])) _
      refine XS.iloadN X40.here hx rfl (hb hby at_110) rfl ?_
      show Steps p.tables e below (T40.setTop (mkF m 111 #[.val (.int p0), .val (.int p1), .val (.long q2), .second, .val (.int (0 : Int32)), .val (.ref b5)] [(.int p0), (.int (2 : Int32)), (.ref b5)])) _
      refine XS.bipush X40.here hx rfl (hb hby at_111) ?_
      show Steps p.tables e below (T40.setTop (mkF m 113 #[.val (.int p0), .val (.int p1), .val (.long q2), .second, .val (.int (0 : Int32)), .val (.ref b5)] [(.int (8 : Int32)), (.int p0), (.int (2 : Int32)), (.ref b5)])) _
      refine XS.iushr X40.here hx rfl (hb hby at_113) rfl ?_
      show Steps p.tables e below (T40.setTop (mkF m 114 #[.val (.int p0), .val (.int p1), .val (.long q2), .second, .val (.int (0 : Int32)), .val (.ref b5)] [(.int (own_ushr p0 (8 : Int32))), (.int (2 : Int32)), (.ref b5)])) _
      refine XS.i2b X40.here hx rfl (hb hby at_114) rfl ?_
      exact kt
    obtain ⟨c43, Ar43, S43, M43, H43⟩ := id f41
    have hin43 : ¬ ((2 : Int32) < 0 ∨ c43.slots.size ≤ ((2 : Int32)).toNatClampNeg) := own_in S43 ⟨by decide, by decide⟩
    obtain ⟨T44, h44, X44, e44, W44, st44⟩ := stB X40 hx hZ e40 Ar43 (j := (2 : Int32)) hin43 (g := (mkF m 115 #[.val (.int p0), .val (.int p1), .val (.long q2), .second, .val (.int (0 : Int32)), .val (.ref b5)] [(.int ((own_ushr p0 (8 : Int32)).toInt8.toInt32)), (.int (2 : Int32)), (.ref b5)])) rfl rfl (hb hby at_115)
    have f46 : Exa Z h44 b5 "[B" := f42.wr W44
    have f45 : own_AI Z h44 b5 .byte 7 (own_upd (own_upd (own_upd (own_upd (own_upd (own_upd (own_upd (own_upd (own_upd (own_upd (fun _ => 0) 0 (nar .byte ((q2.toInt32).toInt8.toInt32))) 1 (nar .byte (((own_ushrL q2 (8 : Int32)).toInt32).toInt8.toInt32))) 2 (nar .byte (((own_ushrL q2 (16 : Int32)).toInt32).toInt8.toInt32))) 3 (nar .byte (((own_ushrL q2 (24 : Int32)).toInt32).toInt8.toInt32))) 4 (nar .byte (((own_ushrL q2 (32 : Int32)).toInt32).toInt8.toInt32))) 5 (nar .byte (((own_ushrL q2 (40 : Int32)).toInt32).toInt8.toInt32))) 6 (nar .byte (((own_ushrL q2 (48 : Int32)).toInt32).toInt8.toInt32))) 0 (nar .byte ((own_ushr p0 (24 : Int32)).toInt8.toInt32))) 1 (nar .byte ((own_ushr p0 (16 : Int32)).toInt8.toInt32))) 2 (nar .byte ((own_ushr p0 (8 : Int32)).toInt8.toInt32))) := own_AI.set Ar43 S43 M43 H43 W44
    have Z44 : n0 ≤ h44.size := Nat.le_trans Z40 (Keep.of_wr W44).1
    have N44 := Fr.snoc X44 N40 g_b5
    refine own_go (S' := T44.setTop (mkF m 116 #[.val (.int p0), .val (.int p1), .val (.long q2), .second, .val (.int (0 : Int32)), .val (.ref b5)] [])) st44 ?_
    refine own_go (S' := T44.setTop (mkF m 124 #[.val (.int p0), .val (.int p1), .val (.long q2), .second, .val (.int (0 : Int32)), .val (.ref b5)] [(.int (p0.toInt8.toInt32)), (.int (3 : Int32)), (.ref b5)])) (fun target kt => ?_) ?_
    · skip
      show Steps p.tables e below (T44.setTop (mkF m 116 #[.val (.int p0), .val (.int p1), .val (.long q2), .second, .val (.int (0 : Int32)), .val (.ref b5)] [])) _
      refine XS.aload X44.here hx rfl (hb hby at_116) rfl rfl ?_
      show Steps p.tables e below (T44.setTop (mkF m 118 #[.val (.int p0), .val (.int p1), .val (.long q2), .second, .val (.int (0 : Int32)), .val (.ref b5)] [(.ref b5)])) _
      refine XS.iload X44.here hx rfl (hb hby at_118) rfl ?_
      show Steps p.tables e below (T44.setTop (mkF m 120 #[.val (.int p0), .val (.int p1), .val (.long q2), .second, .val (.int (0 : Int32)), .val (.ref b5)] [(.int (0 : Int32)), (.ref b5)])) _
      refine XS.iconst X44.here hx rfl (hb hby at_120) ?_
      show Steps p.tables e below (T44.setTop (mkF m 121 #[.val (.int p0), .val (.int p1), .val (.long q2), .second, .val (.int (0 : Int32)), .val (.ref b5)] [(.int (3 : Int32)), (.int (0 : Int32)), (.ref b5)])) _
      refine XS.iadd X44.here hx rfl (hb hby at_121) rfl ?_
      rw [show ((0 : Int32) + (3 : Int32)) = (3 : Int32) from by decide]
      show Steps p.tables e below (T44.setTop (mkF m 122 #[.val (.int p0), .val (.int p1), .val (.long q2), .second, .val (.int (0 : Int32)), .val (.ref b5)] [(.int (3 : Int32)), (.ref b5)])) _
      refine XS.iloadN X44.here hx rfl (hb hby at_122) rfl ?_
      show Steps p.tables e below (T44.setTop (mkF m 123 #[.val (.int p0), .val (.int p1), .val (.long q2), .second, .val (.int (0 : Int32)), .val (.ref b5)] [(.int p0), (.int (3 : Int32)), (.ref b5)])) _
      refine XS.i2b X44.here hx rfl (hb hby at_123) rfl ?_
      exact kt
    obtain ⟨c47, Ar47, S47, M47, H47⟩ := id f45
    have hin47 : ¬ ((3 : Int32) < 0 ∨ c47.slots.size ≤ ((3 : Int32)).toNatClampNeg) := own_in S47 ⟨by decide, by decide⟩
    obtain ⟨T48, h48, X48, e48, W48, st48⟩ := stB X44 hx hZ e44 Ar47 (j := (3 : Int32)) hin47 (g := (mkF m 124 #[.val (.int p0), .val (.int p1), .val (.long q2), .second, .val (.int (0 : Int32)), .val (.ref b5)] [(.int (p0.toInt8.toInt32)), (.int (3 : Int32)), (.ref b5)])) rfl rfl (hb hby at_124)
    have f50 : Exa Z h48 b5 "[B" := f46.wr W48
    have f49 : own_AI Z h48 b5 .byte 7 (own_upd (own_upd (own_upd (own_upd (own_upd (own_upd (own_upd (own_upd (own_upd (own_upd (own_upd (fun _ => 0) 0 (nar .byte ((q2.toInt32).toInt8.toInt32))) 1 (nar .byte (((own_ushrL q2 (8 : Int32)).toInt32).toInt8.toInt32))) 2 (nar .byte (((own_ushrL q2 (16 : Int32)).toInt32).toInt8.toInt32))) 3 (nar .byte (((own_ushrL q2 (24 : Int32)).toInt32).toInt8.toInt32))) 4 (nar .byte (((own_ushrL q2 (32 : Int32)).toInt32).toInt8.toInt32))) 5 (nar .byte (((own_ushrL q2 (40 : Int32)).toInt32).toInt8.toInt32))) 6 (nar .byte (((own_ushrL q2 (48 : Int32)).toInt32).toInt8.toInt32))) 0 (nar .byte ((own_ushr p0 (24 : Int32)).toInt8.toInt32))) 1 (nar .byte ((own_ushr p0 (16 : Int32)).toInt8.toInt32))) 2 (nar .byte ((own_ushr p0 (8 : Int32)).toInt8.toInt32))) 3 (nar .byte (p0.toInt8.toInt32))) := own_AI.set Ar47 S47 M47 H47 W48
    have Z48 : n0 ≤ h48.size := Nat.le_trans Z44 (Keep.of_wr W48).1
    have N48 := Fr.snoc X48 N44 g_b5
    refine own_go (S' := T48.setTop (mkF m 125 #[.val (.int p0), .val (.int p1), .val (.long q2), .second, .val (.int (0 : Int32)), .val (.ref b5)] [])) st48 ?_
    refine own_go (S' := T48.setTop (mkF m 129 #[.val (.int p0), .val (.int p1), .val (.long q2), .second, .val (.int (0 : Int32)), .val (.ref b5)] [(.int (0 : Int32)), (.ref b5)])) (fun target kt => ?_) ?_
    · skip
      show Steps p.tables e below (T48.setTop (mkF m 125 #[.val (.int p0), .val (.int p1), .val (.long q2), .second, .val (.int (0 : Int32)), .val (.ref b5)] [])) _
      refine XS.aload X48.here hx rfl (hb hby at_125) rfl rfl ?_
      show Steps p.tables e below (T48.setTop (mkF m 127 #[.val (.int p0), .val (.int p1), .val (.long q2), .second, .val (.int (0 : Int32)), .val (.ref b5)] [(.ref b5)])) _
      refine XS.iload X48.here hx rfl (hb hby at_127) rfl ?_
      exact kt
    obtain ⟨_, _, ⟨T51, L51, k51, n51⟩, -, X51, ⟨Lc51, hQ51, l51, y51, z51⟩, st51⟩ := Jvm.LawKit.callS X48 hx (y := (⟨"portwarden/wire/Decoder", "uint32", "([BI)I"⟩ : MethodName)) hown (mvT hZ (hw _ (List.mem_of_getElem? (i := 2) rfl))) (mvT hZ (hw _ (List.mem_of_getElem? (i := 3) rfl))) (mvT hZ (hw _ (List.mem_of_getElem? (i := 4) rfl))) (mvT hZ (hw _ (List.mem_of_getElem? (i := 5) rfl))) (by decide) (backOf (W := 0) (rm1 l Z aZ hw [] b5 (0 : Int32) (own_upd (own_upd (own_upd (own_upd (own_upd (own_upd (own_upd (own_upd (own_upd (own_upd (own_upd (fun _ => 0) 0 (nar .byte ((q2.toInt32).toInt8.toInt32))) 1 (nar .byte (((own_ushrL q2 (8 : Int32)).toInt32).toInt8.toInt32))) 2 (nar .byte (((own_ushrL q2 (16 : Int32)).toInt32).toInt8.toInt32))) 3 (nar .byte (((own_ushrL q2 (24 : Int32)).toInt32).toInt8.toInt32))) 4 (nar .byte (((own_ushrL q2 (32 : Int32)).toInt32).toInt8.toInt32))) 5 (nar .byte (((own_ushrL q2 (40 : Int32)).toInt32).toInt8.toInt32))) 6 (nar .byte (((own_ushrL q2 (48 : Int32)).toInt32).toInt8.toInt32))) 0 (nar .byte ((own_ushr p0 (24 : Int32)).toInt8.toInt32))) 1 (nar .byte ((own_ushr p0 (16 : Int32)).toInt8.toInt32))) 2 (nar .byte ((own_ushr p0 (8 : Int32)).toInt8.toInt32))) 3 (nar .byte (p0.toInt8.toInt32))) h48 n0 Z48 f49 (⟨by decide, by decide⟩ : ¬ (0 : Int32) < 0 ∧ ((0 : Int32)).toNatClampNeg < 7) (⟨by decide, by decide⟩ : ¬ ((0 : Int32) + (1 : Int32)) < 0 ∧ (((0 : Int32) + (1 : Int32))).toNatClampNeg < 7) (⟨by decide, by decide⟩ : ¬ ((0 : Int32) + (2 : Int32)) < 0 ∧ (((0 : Int32) + (2 : Int32))).toNatClampNeg < 7) (⟨by decide, by decide⟩ : ¬ ((0 : Int32) + (3 : Int32)) < 0 ∧ (((0 : Int32) + (3 : Int32))).toNatClampNeg < 7)) hZ (hw _ (List.mem_of_getElem? (i := 5) rfl)) (hw _ (List.mem_of_getElem? (i := 4) rfl)) (by decide) (by decide)) (g := (mkF m 129 #[.val (.int p0), .val (.int p1), .val (.long q2), .second, .val (.int (0 : Int32)), .val (.ref b5)] [(.int (0 : Int32)), (.ref b5)])) rfl (by rw [hml]; rfl) (argsL := [(.ref b5), (.int (0 : Int32))]) (rest := []) (lenOf own_pd0 rfl) rfl (by show 2 * 0 + _ ≤ _; exact Nat.le_of_eq rfl) (hb hby at_129) (fun _ _ => ⟨rfl, e48, (by decide : 1 + 0 ≤ _), (by decide : 7 + 0 ≤ _)⟩)
    dsimp only [Pt.U, Pt.locs, Pt.cells, Pt.slots] at X51 l51 y51 z51 st51 hQ51
    subst l51 y51 z51
    obtain ⟨rfl, N51q, e51⟩ := hQ51
    have N51 := Fr.app N48 N51q
    refine own_go (S' := T51.setTop (mkF m 132 #[.val (.int p0), .val (.int p1), .val (.long q2), .second, .val (.int (0 : Int32)), .val (.ref b5)] [(.int (own_u32 ((own_upd (own_upd (own_upd (own_upd (own_upd (own_upd (own_upd (own_upd (own_upd (own_upd (own_upd (fun _ => 0) 0 (nar .byte ((q2.toInt32).toInt8.toInt32))) 1 (nar .byte (((own_ushrL q2 (8 : Int32)).toInt32).toInt8.toInt32))) 2 (nar .byte (((own_ushrL q2 (16 : Int32)).toInt32).toInt8.toInt32))) 3 (nar .byte (((own_ushrL q2 (24 : Int32)).toInt32).toInt8.toInt32))) 4 (nar .byte (((own_ushrL q2 (32 : Int32)).toInt32).toInt8.toInt32))) 5 (nar .byte (((own_ushrL q2 (40 : Int32)).toInt32).toInt8.toInt32))) 6 (nar .byte (((own_ushrL q2 (48 : Int32)).toInt32).toInt8.toInt32))) 0 (nar .byte ((own_ushr p0 (24 : Int32)).toInt8.toInt32))) 1 (nar .byte ((own_ushr p0 (16 : Int32)).toInt8.toInt32))) 2 (nar .byte ((own_ushr p0 (8 : Int32)).toInt8.toInt32))) 3 (nar .byte (p0.toInt8.toInt32))) ((0 : Int32)).toNatClampNeg) ((own_upd (own_upd (own_upd (own_upd (own_upd (own_upd (own_upd (own_upd (own_upd (own_upd (own_upd (fun _ => 0) 0 (nar .byte ((q2.toInt32).toInt8.toInt32))) 1 (nar .byte (((own_ushrL q2 (8 : Int32)).toInt32).toInt8.toInt32))) 2 (nar .byte (((own_ushrL q2 (16 : Int32)).toInt32).toInt8.toInt32))) 3 (nar .byte (((own_ushrL q2 (24 : Int32)).toInt32).toInt8.toInt32))) 4 (nar .byte (((own_ushrL q2 (32 : Int32)).toInt32).toInt8.toInt32))) 5 (nar .byte (((own_ushrL q2 (40 : Int32)).toInt32).toInt8.toInt32))) 6 (nar .byte (((own_ushrL q2 (48 : Int32)).toInt32).toInt8.toInt32))) 0 (nar .byte ((own_ushr p0 (24 : Int32)).toInt8.toInt32))) 1 (nar .byte ((own_ushr p0 (16 : Int32)).toInt8.toInt32))) 2 (nar .byte ((own_ushr p0 (8 : Int32)).toInt8.toInt32))) 3 (nar .byte (p0.toInt8.toInt32))) (((0 : Int32) + (1 : Int32))).toNatClampNeg) ((own_upd (own_upd (own_upd (own_upd (own_upd (own_upd (own_upd (own_upd (own_upd (own_upd (own_upd (fun _ => 0) 0 (nar .byte ((q2.toInt32).toInt8.toInt32))) 1 (nar .byte (((own_ushrL q2 (8 : Int32)).toInt32).toInt8.toInt32))) 2 (nar .byte (((own_ushrL q2 (16 : Int32)).toInt32).toInt8.toInt32))) 3 (nar .byte (((own_ushrL q2 (24 : Int32)).toInt32).toInt8.toInt32))) 4 (nar .byte (((own_ushrL q2 (32 : Int32)).toInt32).toInt8.toInt32))) 5 (nar .byte (((own_ushrL q2 (40 : Int32)).toInt32).toInt8.toInt32))) 6 (nar .byte (((own_ushrL q2 (48 : Int32)).toInt32).toInt8.toInt32))) 0 (nar .byte ((own_ushr p0 (24 : Int32)).toInt8.toInt32))) 1 (nar .byte ((own_ushr p0 (16 : Int32)).toInt8.toInt32))) 2 (nar .byte ((own_ushr p0 (8 : Int32)).toInt8.toInt32))) 3 (nar .byte (p0.toInt8.toInt32))) (((0 : Int32) + (2 : Int32))).toNatClampNeg) ((own_upd (own_upd (own_upd (own_upd (own_upd (own_upd (own_upd (own_upd (own_upd (own_upd (own_upd (fun _ => 0) 0 (nar .byte ((q2.toInt32).toInt8.toInt32))) 1 (nar .byte (((own_ushrL q2 (8 : Int32)).toInt32).toInt8.toInt32))) 2 (nar .byte (((own_ushrL q2 (16 : Int32)).toInt32).toInt8.toInt32))) 3 (nar .byte (((own_ushrL q2 (24 : Int32)).toInt32).toInt8.toInt32))) 4 (nar .byte (((own_ushrL q2 (32 : Int32)).toInt32).toInt8.toInt32))) 5 (nar .byte (((own_ushrL q2 (40 : Int32)).toInt32).toInt8.toInt32))) 6 (nar .byte (((own_ushrL q2 (48 : Int32)).toInt32).toInt8.toInt32))) 0 (nar .byte ((own_ushr p0 (24 : Int32)).toInt8.toInt32))) 1 (nar .byte ((own_ushr p0 (16 : Int32)).toInt8.toInt32))) 2 (nar .byte ((own_ushr p0 (8 : Int32)).toInt8.toInt32))) 3 (nar .byte (p0.toInt8.toInt32))) (((0 : Int32) + (3 : Int32))).toNatClampNeg)))])) st51 ?_
    refine own_go (S' := T51.setTop (mkF m 141 #[.val (.int p0), .val (.int p1), .val (.long q2), .second, .val (.int (0 : Int32)), .val (.ref b5)] [(.int (1 : Int32))])) (fun target kt => ?_) ?_
    · skip
      show Steps p.tables e below (T51.setTop (mkF m 132 #[.val (.int p0), .val (.int p1), .val (.long q2), .second, .val (.int (0 : Int32)), .val (.ref b5)] [(.int (own_u32 ((own_upd (own_upd (own_upd (own_upd (own_upd (own_upd (own_upd (own_upd (own_upd (own_upd (own_upd (fun _ => 0) 0 (nar .byte ((q2.toInt32).toInt8.toInt32))) 1 (nar .byte (((own_ushrL q2 (8 : Int32)).toInt32).toInt8.toInt32))) 2 (nar .byte (((own_ushrL q2 (16 : Int32)).toInt32).toInt8.toInt32))) 3 (nar .byte (((own_ushrL q2 (24 : Int32)).toInt32).toInt8.toInt32))) 4 (nar .byte (((own_ushrL q2 (32 : Int32)).toInt32).toInt8.toInt32))) 5 (nar .byte (((own_ushrL q2 (40 : Int32)).toInt32).toInt8.toInt32))) 6 (nar .byte (((own_ushrL q2 (48 : Int32)).toInt32).toInt8.toInt32))) 0 (nar .byte ((own_ushr p0 (24 : Int32)).toInt8.toInt32))) 1 (nar .byte ((own_ushr p0 (16 : Int32)).toInt8.toInt32))) 2 (nar .byte ((own_ushr p0 (8 : Int32)).toInt8.toInt32))) 3 (nar .byte (p0.toInt8.toInt32))) ((0 : Int32)).toNatClampNeg) ((own_upd (own_upd (own_upd (own_upd (own_upd (own_upd (own_upd (own_upd (own_upd (own_upd (own_upd (fun _ => 0) 0 (nar .byte ((q2.toInt32).toInt8.toInt32))) 1 (nar .byte (((own_ushrL q2 (8 : Int32)).toInt32).toInt8.toInt32))) 2 (nar .byte (((own_ushrL q2 (16 : Int32)).toInt32).toInt8.toInt32))) 3 (nar .byte (((own_ushrL q2 (24 : Int32)).toInt32).toInt8.toInt32))) 4 (nar .byte (((own_ushrL q2 (32 : Int32)).toInt32).toInt8.toInt32))) 5 (nar .byte (((own_ushrL q2 (40 : Int32)).toInt32).toInt8.toInt32))) 6 (nar .byte (((own_ushrL q2 (48 : Int32)).toInt32).toInt8.toInt32))) 0 (nar .byte ((own_ushr p0 (24 : Int32)).toInt8.toInt32))) 1 (nar .byte ((own_ushr p0 (16 : Int32)).toInt8.toInt32))) 2 (nar .byte ((own_ushr p0 (8 : Int32)).toInt8.toInt32))) 3 (nar .byte (p0.toInt8.toInt32))) (((0 : Int32) + (1 : Int32))).toNatClampNeg) ((own_upd (own_upd (own_upd (own_upd (own_upd (own_upd (own_upd (own_upd (own_upd (own_upd (own_upd (fun _ => 0) 0 (nar .byte ((q2.toInt32).toInt8.toInt32))) 1 (nar .byte (((own_ushrL q2 (8 : Int32)).toInt32).toInt8.toInt32))) 2 (nar .byte (((own_ushrL q2 (16 : Int32)).toInt32).toInt8.toInt32))) 3 (nar .byte (((own_ushrL q2 (24 : Int32)).toInt32).toInt8.toInt32))) 4 (nar .byte (((own_ushrL q2 (32 : Int32)).toInt32).toInt8.toInt32))) 5 (nar .byte (((own_ushrL q2 (40 : Int32)).toInt32).toInt8.toInt32))) 6 (nar .byte (((own_ushrL q2 (48 : Int32)).toInt32).toInt8.toInt32))) 0 (nar .byte ((own_ushr p0 (24 : Int32)).toInt8.toInt32))) 1 (nar .byte ((own_ushr p0 (16 : Int32)).toInt8.toInt32))) 2 (nar .byte ((own_ushr p0 (8 : Int32)).toInt8.toInt32))) 3 (nar .byte (p0.toInt8.toInt32))) (((0 : Int32) + (2 : Int32))).toNatClampNeg) ((own_upd (own_upd (own_upd (own_upd (own_upd (own_upd (own_upd (own_upd (own_upd (own_upd (own_upd (fun _ => 0) 0 (nar .byte ((q2.toInt32).toInt8.toInt32))) 1 (nar .byte (((own_ushrL q2 (8 : Int32)).toInt32).toInt8.toInt32))) 2 (nar .byte (((own_ushrL q2 (16 : Int32)).toInt32).toInt8.toInt32))) 3 (nar .byte (((own_ushrL q2 (24 : Int32)).toInt32).toInt8.toInt32))) 4 (nar .byte (((own_ushrL q2 (32 : Int32)).toInt32).toInt8.toInt32))) 5 (nar .byte (((own_ushrL q2 (40 : Int32)).toInt32).toInt8.toInt32))) 6 (nar .byte (((own_ushrL q2 (48 : Int32)).toInt32).toInt8.toInt32))) 0 (nar .byte ((own_ushr p0 (24 : Int32)).toInt8.toInt32))) 1 (nar .byte ((own_ushr p0 (16 : Int32)).toInt8.toInt32))) 2 (nar .byte ((own_ushr p0 (8 : Int32)).toInt8.toInt32))) 3 (nar .byte (p0.toInt8.toInt32))) (((0 : Int32) + (3 : Int32))).toNatClampNeg)))])) _
      refine XS.iloadN X51.here hx rfl (hb hby at_132) rfl ?_
      show Steps p.tables e below (T51.setTop (mkF m 133 #[.val (.int p0), .val (.int p1), .val (.long q2), .second, .val (.int (0 : Int32)), .val (.ref b5)] [(.int p0), (.int (own_u32 ((own_upd (own_upd (own_upd (own_upd (own_upd (own_upd (own_upd (own_upd (own_upd (own_upd (own_upd (fun _ => 0) 0 (nar .byte ((q2.toInt32).toInt8.toInt32))) 1 (nar .byte (((own_ushrL q2 (8 : Int32)).toInt32).toInt8.toInt32))) 2 (nar .byte (((own_ushrL q2 (16 : Int32)).toInt32).toInt8.toInt32))) 3 (nar .byte (((own_ushrL q2 (24 : Int32)).toInt32).toInt8.toInt32))) 4 (nar .byte (((own_ushrL q2 (32 : Int32)).toInt32).toInt8.toInt32))) 5 (nar .byte (((own_ushrL q2 (40 : Int32)).toInt32).toInt8.toInt32))) 6 (nar .byte (((own_ushrL q2 (48 : Int32)).toInt32).toInt8.toInt32))) 0 (nar .byte ((own_ushr p0 (24 : Int32)).toInt8.toInt32))) 1 (nar .byte ((own_ushr p0 (16 : Int32)).toInt8.toInt32))) 2 (nar .byte ((own_ushr p0 (8 : Int32)).toInt8.toInt32))) 3 (nar .byte (p0.toInt8.toInt32))) ((0 : Int32)).toNatClampNeg) ((own_upd (own_upd (own_upd (own_upd (own_upd (own_upd (own_upd (own_upd (own_upd (own_upd (own_upd (fun _ => 0) 0 (nar .byte ((q2.toInt32).toInt8.toInt32))) 1 (nar .byte (((own_ushrL q2 (8 : Int32)).toInt32).toInt8.toInt32))) 2 (nar .byte (((own_ushrL q2 (16 : Int32)).toInt32).toInt8.toInt32))) 3 (nar .byte (((own_ushrL q2 (24 : Int32)).toInt32).toInt8.toInt32))) 4 (nar .byte (((own_ushrL q2 (32 : Int32)).toInt32).toInt8.toInt32))) 5 (nar .byte (((own_ushrL q2 (40 : Int32)).toInt32).toInt8.toInt32))) 6 (nar .byte (((own_ushrL q2 (48 : Int32)).toInt32).toInt8.toInt32))) 0 (nar .byte ((own_ushr p0 (24 : Int32)).toInt8.toInt32))) 1 (nar .byte ((own_ushr p0 (16 : Int32)).toInt8.toInt32))) 2 (nar .byte ((own_ushr p0 (8 : Int32)).toInt8.toInt32))) 3 (nar .byte (p0.toInt8.toInt32))) (((0 : Int32) + (1 : Int32))).toNatClampNeg) ((own_upd (own_upd (own_upd (own_upd (own_upd (own_upd (own_upd (own_upd (own_upd (own_upd (own_upd (fun _ => 0) 0 (nar .byte ((q2.toInt32).toInt8.toInt32))) 1 (nar .byte (((own_ushrL q2 (8 : Int32)).toInt32).toInt8.toInt32))) 2 (nar .byte (((own_ushrL q2 (16 : Int32)).toInt32).toInt8.toInt32))) 3 (nar .byte (((own_ushrL q2 (24 : Int32)).toInt32).toInt8.toInt32))) 4 (nar .byte (((own_ushrL q2 (32 : Int32)).toInt32).toInt8.toInt32))) 5 (nar .byte (((own_ushrL q2 (40 : Int32)).toInt32).toInt8.toInt32))) 6 (nar .byte (((own_ushrL q2 (48 : Int32)).toInt32).toInt8.toInt32))) 0 (nar .byte ((own_ushr p0 (24 : Int32)).toInt8.toInt32))) 1 (nar .byte ((own_ushr p0 (16 : Int32)).toInt8.toInt32))) 2 (nar .byte ((own_ushr p0 (8 : Int32)).toInt8.toInt32))) 3 (nar .byte (p0.toInt8.toInt32))) (((0 : Int32) + (2 : Int32))).toNatClampNeg) ((own_upd (own_upd (own_upd (own_upd (own_upd (own_upd (own_upd (own_upd (own_upd (own_upd (own_upd (fun _ => 0) 0 (nar .byte ((q2.toInt32).toInt8.toInt32))) 1 (nar .byte (((own_ushrL q2 (8 : Int32)).toInt32).toInt8.toInt32))) 2 (nar .byte (((own_ushrL q2 (16 : Int32)).toInt32).toInt8.toInt32))) 3 (nar .byte (((own_ushrL q2 (24 : Int32)).toInt32).toInt8.toInt32))) 4 (nar .byte (((own_ushrL q2 (32 : Int32)).toInt32).toInt8.toInt32))) 5 (nar .byte (((own_ushrL q2 (40 : Int32)).toInt32).toInt8.toInt32))) 6 (nar .byte (((own_ushrL q2 (48 : Int32)).toInt32).toInt8.toInt32))) 0 (nar .byte ((own_ushr p0 (24 : Int32)).toInt8.toInt32))) 1 (nar .byte ((own_ushr p0 (16 : Int32)).toInt8.toInt32))) 2 (nar .byte ((own_ushr p0 (8 : Int32)).toInt8.toInt32))) 3 (nar .byte (p0.toInt8.toInt32))) (((0 : Int32) + (3 : Int32))).toNatClampNeg)))])) _
      refine XS.icmpNo X51.here hx rfl (hb hby at_133) rfl (teq (own_back p0 : (own_u32 ((own_upd (own_upd (own_upd (own_upd (own_upd (own_upd (own_upd (own_upd (own_upd (own_upd (own_upd (fun _ => 0) 0 (nar .byte ((q2.toInt32).toInt8.toInt32))) 1 (nar .byte (((own_ushrL q2 (8 : Int32)).toInt32).toInt8.toInt32))) 2 (nar .byte (((own_ushrL q2 (16 : Int32)).toInt32).toInt8.toInt32))) 3 (nar .byte (((own_ushrL q2 (24 : Int32)).toInt32).toInt8.toInt32))) 4 (nar .byte (((own_ushrL q2 (32 : Int32)).toInt32).toInt8.toInt32))) 5 (nar .byte (((own_ushrL q2 (40 : Int32)).toInt32).toInt8.toInt32))) 6 (nar .byte (((own_ushrL q2 (48 : Int32)).toInt32).toInt8.toInt32))) 0 (nar .byte ((own_ushr p0 (24 : Int32)).toInt8.toInt32))) 1 (nar .byte ((own_ushr p0 (16 : Int32)).toInt8.toInt32))) 2 (nar .byte ((own_ushr p0 (8 : Int32)).toInt8.toInt32))) 3 (nar .byte (p0.toInt8.toInt32))) ((0 : Int32)).toNatClampNeg) ((own_upd (own_upd (own_upd (own_upd (own_upd (own_upd (own_upd (own_upd (own_upd (own_upd (own_upd (fun _ => 0) 0 (nar .byte ((q2.toInt32).toInt8.toInt32))) 1 (nar .byte (((own_ushrL q2 (8 : Int32)).toInt32).toInt8.toInt32))) 2 (nar .byte (((own_ushrL q2 (16 : Int32)).toInt32).toInt8.toInt32))) 3 (nar .byte (((own_ushrL q2 (24 : Int32)).toInt32).toInt8.toInt32))) 4 (nar .byte (((own_ushrL q2 (32 : Int32)).toInt32).toInt8.toInt32))) 5 (nar .byte (((own_ushrL q2 (40 : Int32)).toInt32).toInt8.toInt32))) 6 (nar .byte (((own_ushrL q2 (48 : Int32)).toInt32).toInt8.toInt32))) 0 (nar .byte ((own_ushr p0 (24 : Int32)).toInt8.toInt32))) 1 (nar .byte ((own_ushr p0 (16 : Int32)).toInt8.toInt32))) 2 (nar .byte ((own_ushr p0 (8 : Int32)).toInt8.toInt32))) 3 (nar .byte (p0.toInt8.toInt32))) (((0 : Int32) + (1 : Int32))).toNatClampNeg) ((own_upd (own_upd (own_upd (own_upd (own_upd (own_upd (own_upd (own_upd (own_upd (own_upd (own_upd (fun _ => 0) 0 (nar .byte ((q2.toInt32).toInt8.toInt32))) 1 (nar .byte (((own_ushrL q2 (8 : Int32)).toInt32).toInt8.toInt32))) 2 (nar .byte (((own_ushrL q2 (16 : Int32)).toInt32).toInt8.toInt32))) 3 (nar .byte (((own_ushrL q2 (24 : Int32)).toInt32).toInt8.toInt32))) 4 (nar .byte (((own_ushrL q2 (32 : Int32)).toInt32).toInt8.toInt32))) 5 (nar .byte (((own_ushrL q2 (40 : Int32)).toInt32).toInt8.toInt32))) 6 (nar .byte (((own_ushrL q2 (48 : Int32)).toInt32).toInt8.toInt32))) 0 (nar .byte ((own_ushr p0 (24 : Int32)).toInt8.toInt32))) 1 (nar .byte ((own_ushr p0 (16 : Int32)).toInt8.toInt32))) 2 (nar .byte ((own_ushr p0 (8 : Int32)).toInt8.toInt32))) 3 (nar .byte (p0.toInt8.toInt32))) (((0 : Int32) + (2 : Int32))).toNatClampNeg) ((own_upd (own_upd (own_upd (own_upd (own_upd (own_upd (own_upd (own_upd (own_upd (own_upd (own_upd (fun _ => 0) 0 (nar .byte ((q2.toInt32).toInt8.toInt32))) 1 (nar .byte (((own_ushrL q2 (8 : Int32)).toInt32).toInt8.toInt32))) 2 (nar .byte (((own_ushrL q2 (16 : Int32)).toInt32).toInt8.toInt32))) 3 (nar .byte (((own_ushrL q2 (24 : Int32)).toInt32).toInt8.toInt32))) 4 (nar .byte (((own_ushrL q2 (32 : Int32)).toInt32).toInt8.toInt32))) 5 (nar .byte (((own_ushrL q2 (40 : Int32)).toInt32).toInt8.toInt32))) 6 (nar .byte (((own_ushrL q2 (48 : Int32)).toInt32).toInt8.toInt32))) 0 (nar .byte ((own_ushr p0 (24 : Int32)).toInt8.toInt32))) 1 (nar .byte ((own_ushr p0 (16 : Int32)).toInt8.toInt32))) 2 (nar .byte ((own_ushr p0 (8 : Int32)).toInt8.toInt32))) 3 (nar .byte (p0.toInt8.toInt32))) (((0 : Int32) + (3 : Int32))).toNatClampNeg)) = p0)).2 ?_
      show Steps p.tables e below (T51.setTop (mkF m 136 #[.val (.int p0), .val (.int p1), .val (.long q2), .second, .val (.int (0 : Int32)), .val (.ref b5)] [])) _
      refine XS.iconst X51.here hx rfl (hb hby at_136) ?_
      show Steps p.tables e below (T51.setTop (mkF m 137 #[.val (.int p0), .val (.int p1), .val (.long q2), .second, .val (.int (0 : Int32)), .val (.ref b5)] [(.int (1 : Int32))])) _
      refine XS.goto X51.here hx rfl (pc0 := 137) (pc' := 141) rfl (hb hby at_137) (by decide) (by decide) ?_
      exact kt
    obtain ⟨fs, hr, hrun, hended, hW, hsame⟩ := X51.leave (v := some (.int (1 : Int32))) (fun h => by rw [Bd.returns] at h; cases h)
    refine ⟨_, _, ?_, hrun, hended, _, _, rfl, ?_, ⟨_, rfl⟩, hW, hsame.mono (by decide) (by decide)⟩
    · exact retN X51 hx (t := .boolean) Bd.returns (by simp) (hb hby at_141) hr
    · show Q0 Z p0 p1 q2 h0 n0 _ T51.heap _
      rw [e51]
      exact ⟨rfl, N51⟩
  · subst hs_off
    refine own_go (S' := s₁.setTop (mkF m 10 #[.val (.int p0), .val (.int p1), .val (.long q2), .second, .val (.int (1 : Int32)), .unset] [(.int (7 : Int32))])) (fun target kt => ?_) ?_
    · skip
      show Steps p.tables e below (s₁.setTop (mkF m 8 #[.val (.int p0), .val (.int p1), .val (.long q2), .second, .val (.int (1 : Int32)), .unset] [])) _
      refine XS.bipush X0.here hx rfl (hb hby at_8) ?_
      exact kt
    obtain ⟨T52, h52, k52, X52, e52, E52, A52, B52, st52⟩ := newPE X0 hx hZ (hw _ (List.mem_of_getElem? (i := 1) rfl)) e0 (g := (mkF m 10 #[.val (.int p0), .val (.int p1), .val (.long q2), .second, .val (.int (1 : Int32)), .unset] [(.int (7 : Int32))])) rfl (hb hby at_10) rfl (by decide) (cap := 7) (by decide) (by decide) (by decide) (by decide) (ad := "[B") (by decide)
    obtain ⟨b52, g52⟩ : ∃ z, z = h0.size := ⟨_, rfl⟩
    rw [← g52] at A52 B52 st52
    have g_b52 : n0 ≤ b52 := Nat.le_trans Z0 (Nat.le_of_eq g52.symm)
    have Z52 : n0 ≤ h52.size := Nat.le_trans Z0 E52.1
    have f53 : own_AI Z h52 b52 .byte 7 (fun _ => 0) := own_AI.fresh A52 rfl
    refine own_go (S' := T52.setTop (mkF m 12 #[.val (.int p0), .val (.int p1), .val (.long q2), .second, .val (.int (1 : Int32)), .unset] [(.ref b52)])) st52 ?_
    refine own_go (S' := T52.setTop (mkF m 20 #[.val (.int p0), .val (.int p1), .val (.long q2), .second, .val (.int (1 : Int32)), .val (.ref b52)] [(.int ((q2.toInt32).toInt8.toInt32)), (.int (0 : Int32)), (.ref b52)])) (fun target kt => ?_) ?_
    · skip
      show Steps p.tables e below (T52.setTop (mkF m 12 #[.val (.int p0), .val (.int p1), .val (.long q2), .second, .val (.int (1 : Int32)), .unset] [(.ref b52)])) _
      refine XS.astore X52.here hx rfl (hb hby at_12) rfl rfl (l' := #[.val (.int p0), .val (.int p1), .val (.long q2), .second, .val (.int (1 : Int32)), .val (.ref b52)]) rfl ?_
      show Steps p.tables e below (T52.setTop (mkF m 14 #[.val (.int p0), .val (.int p1), .val (.long q2), .second, .val (.int (1 : Int32)), .val (.ref b52)] [])) _
      refine XS.aload X52.here hx rfl (hb hby at_14) rfl rfl ?_
      show Steps p.tables e below (T52.setTop (mkF m 16 #[.val (.int p0), .val (.int p1), .val (.long q2), .second, .val (.int (1 : Int32)), .val (.ref b52)] [(.ref b52)])) _
      refine XS.iconst X52.here hx rfl (hb hby at_16) ?_
      show Steps p.tables e below (T52.setTop (mkF m 17 #[.val (.int p0), .val (.int p1), .val (.long q2), .second, .val (.int (1 : Int32)), .val (.ref b52)] [(.int (0 : Int32)), (.ref b52)])) _
      refine XS.lloadN X52.here hx rfl (hb hby at_17) rfl ?_
      show Steps p.tables e below (T52.setTop (mkF m 18 #[.val (.int p0), .val (.int p1), .val (.long q2), .second, .val (.int (1 : Int32)), .val (.ref b52)] [(.long q2), (.int (0 : Int32)), (.ref b52)])) _
      refine XS.l2i X52.here hx rfl (hb hby at_18) rfl ?_
      show Steps p.tables e below (T52.setTop (mkF m 19 #[.val (.int p0), .val (.int p1), .val (.long q2), .second, .val (.int (1 : Int32)), .val (.ref b52)] [(.int (q2.toInt32)), (.int (0 : Int32)), (.ref b52)])) _
      refine XS.i2b X52.here hx rfl (hb hby at_19) rfl ?_
      exact kt
    obtain ⟨c54, Ar54, S54, M54, H54⟩ := id f53
    have hin54 : ¬ ((0 : Int32) < 0 ∨ c54.slots.size ≤ ((0 : Int32)).toNatClampNeg) := own_in S54 ⟨by decide, by decide⟩
    obtain ⟨T55, h55, X55, e55, W55, st55⟩ := stB X52 hx hZ e52 Ar54 (j := (0 : Int32)) hin54 (g := (mkF m 20 #[.val (.int p0), .val (.int p1), .val (.long q2), .second, .val (.int (1 : Int32)), .val (.ref b52)] [(.int ((q2.toInt32).toInt8.toInt32)), (.int (0 : Int32)), (.ref b52)])) rfl rfl (hb hby at_20)
    have f57 : Exa Z h55 b52 "[B" := B52.wr W55
    have f56 : own_AI Z h55 b52 .byte 7 (own_upd (fun _ => 0) 0 (nar .byte ((q2.toInt32).toInt8.toInt32))) := own_AI.set Ar54 S54 M54 H54 W55
    have Z55 : n0 ≤ h55.size := Nat.le_trans Z52 (Keep.of_wr W55).1
    have N55 := Fr.snoc X55 N0 g_b52
    refine own_go (S' := T55.setTop (mkF m 21 #[.val (.int p0), .val (.int p1), .val (.long q2), .second, .val (.int (1 : Int32)), .val (.ref b52)] [])) st55 ?_
    refine own_go (S' := T55.setTop (mkF m 30 #[.val (.int p0), .val (.int p1), .val (.long q2), .second, .val (.int (1 : Int32)), .val (.ref b52)] [(.int (((own_ushrL q2 (8 : Int32)).toInt32).toInt8.toInt32)), (.int (1 : Int32)), (.ref b52)])) (fun target kt => ?_) ?_
    · skip
      show Steps p.tables e below (T55.setTop (mkF m 21 #[.val (.int p0), .val (.int p1), .val (.long q2), .second, .val (.int (1 : Int32)), .val (.ref b52)] [])) _
      refine XS.aload X55.here hx rfl (hb hby at_21) rfl rfl ?_
      show Steps p.tables e below (T55.setTop (mkF m 23 #[.val (.int p0), .val (.int p1), .val (.long q2), .second, .val (.int (1 : Int32)), .val (.ref b52)] [(.ref b52)])) _
      refine XS.iconst X55.here hx rfl (hb hby at_23) ?_
      show Steps p.tables e below (T55.setTop (mkF m 24 #[.val (.int p0), .val (.int p1), .val (.long q2), .second, .val (.int (1 : Int32)), .val (.ref b52)] [(.int (1 : Int32)), (.ref b52)])) _
      refine XS.lloadN X55.here hx rfl (hb hby at_24) rfl ?_
      show Steps p.tables e below (T55.setTop (mkF m 25 #[.val (.int p0), .val (.int p1), .val (.long q2), .second, .val (.int (1 : Int32)), .val (.ref b52)] [(.long q2), (.int (1 : Int32)), (.ref b52)])) _
      refine XS.bipush X55.here hx rfl (hb hby at_25) ?_
      show Steps p.tables e below (T55.setTop (mkF m 27 #[.val (.int p0), .val (.int p1), .val (.long q2), .second, .val (.int (1 : Int32)), .val (.ref b52)] [(.int (8 : Int32)), (.long q2), (.int (1 : Int32)), (.ref b52)])) _
      refine XS.lushr X55.here hx rfl (hb hby at_27) rfl ?_
      show Steps p.tables e below (T55.setTop (mkF m 28 #[.val (.int p0), .val (.int p1), .val (.long q2), .second, .val (.int (1 : Int32)), .val (.ref b52)] [(.long (own_ushrL q2 (8 : Int32))), (.int (1 : Int32)), (.ref b52)])) _
      refine XS.l2i X55.here hx rfl (hb hby at_28) rfl ?_
      show Steps p.tables e below (T55.setTop (mkF m 29 #[.val (.int p0), .val (.int p1), .val (.long q2), .second, .val (.int (1 : Int32)), .val (.ref b52)] [(.int ((own_ushrL q2 (8 : Int32)).toInt32)), (.int (1 : Int32)), (.ref b52)])) _
      refine XS.i2b X55.here hx rfl (hb hby at_29) rfl ?_
      exact kt
    obtain ⟨c58, Ar58, S58, M58, H58⟩ := id f56
    have hin58 : ¬ ((1 : Int32) < 0 ∨ c58.slots.size ≤ ((1 : Int32)).toNatClampNeg) := own_in S58 ⟨by decide, by decide⟩
    obtain ⟨T59, h59, X59, e59, W59, st59⟩ := stB X55 hx hZ e55 Ar58 (j := (1 : Int32)) hin58 (g := (mkF m 30 #[.val (.int p0), .val (.int p1), .val (.long q2), .second, .val (.int (1 : Int32)), .val (.ref b52)] [(.int (((own_ushrL q2 (8 : Int32)).toInt32).toInt8.toInt32)), (.int (1 : Int32)), (.ref b52)])) rfl rfl (hb hby at_30)
    have f61 : Exa Z h59 b52 "[B" := f57.wr W59
    have f60 : own_AI Z h59 b52 .byte 7 (own_upd (own_upd (fun _ => 0) 0 (nar .byte ((q2.toInt32).toInt8.toInt32))) 1 (nar .byte (((own_ushrL q2 (8 : Int32)).toInt32).toInt8.toInt32))) := own_AI.set Ar58 S58 M58 H58 W59
    have Z59 : n0 ≤ h59.size := Nat.le_trans Z55 (Keep.of_wr W59).1
    have N59 := Fr.snoc X59 N55 g_b52
    refine own_go (S' := T59.setTop (mkF m 31 #[.val (.int p0), .val (.int p1), .val (.long q2), .second, .val (.int (1 : Int32)), .val (.ref b52)] [])) st59 ?_
    refine own_go (S' := T59.setTop (mkF m 40 #[.val (.int p0), .val (.int p1), .val (.long q2), .second, .val (.int (1 : Int32)), .val (.ref b52)] [(.int (((own_ushrL q2 (16 : Int32)).toInt32).toInt8.toInt32)), (.int (2 : Int32)), (.ref b52)])) (fun target kt => ?_) ?_
    · skip
      show Steps p.tables e below (T59.setTop (mkF m 31 #[.val (.int p0), .val (.int p1), .val (.long q2), .second, .val (.int (1 : Int32)), .val (.ref b52)] [])) _
      refine XS.aload X59.here hx rfl (hb hby at_31) rfl rfl ?_
      show Steps p.tables e below (T59.setTop (mkF m 33 #[.val (.int p0), .val (.int p1), .val (.long q2), .second, .val (.int (1 : Int32)), .val (.ref b52)] [(.ref b52)])) _
      refine XS.iconst X59.here hx rfl (hb hby at_33) ?_
      show Steps p.tables e below (T59.setTop (mkF m 34 #[.val (.int p0), .val (.int p1), .val (.long q2), .second, .val (.int (1 : Int32)), .val (.ref b52)] [(.int (2 : Int32)), (.ref b52)])) _
      refine XS.lloadN X59.here hx rfl (hb hby at_34) rfl ?_
      show Steps p.tables e below (T59.setTop (mkF m 35 #[.val (.int p0), .val (.int p1), .val (.long q2), .second, .val (.int (1 : Int32)), .val (.ref b52)] [(.long q2), (.int (2 : Int32)), (.ref b52)])) _
      refine XS.bipush X59.here hx rfl (hb hby at_35) ?_
      show Steps p.tables e below (T59.setTop (mkF m 37 #[.val (.int p0), .val (.int p1), .val (.long q2), .second, .val (.int (1 : Int32)), .val (.ref b52)] [(.int (16 : Int32)), (.long q2), (.int (2 : Int32)), (.ref b52)])) _
      refine XS.lushr X59.here hx rfl (hb hby at_37) rfl ?_
      show Steps p.tables e below (T59.setTop (mkF m 38 #[.val (.int p0), .val (.int p1), .val (.long q2), .second, .val (.int (1 : Int32)), .val (.ref b52)] [(.long (own_ushrL q2 (16 : Int32))), (.int (2 : Int32)), (.ref b52)])) _
      refine XS.l2i X59.here hx rfl (hb hby at_38) rfl ?_
      show Steps p.tables e below (T59.setTop (mkF m 39 #[.val (.int p0), .val (.int p1), .val (.long q2), .second, .val (.int (1 : Int32)), .val (.ref b52)] [(.int ((own_ushrL q2 (16 : Int32)).toInt32)), (.int (2 : Int32)), (.ref b52)])) _
      refine XS.i2b X59.here hx rfl (hb hby at_39) rfl ?_
      exact kt
    obtain ⟨c62, Ar62, S62, M62, H62⟩ := id f60
    have hin62 : ¬ ((2 : Int32) < 0 ∨ c62.slots.size ≤ ((2 : Int32)).toNatClampNeg) := own_in S62 ⟨by decide, by decide⟩
    obtain ⟨T63, h63, X63, e63, W63, st63⟩ := stB X59 hx hZ e59 Ar62 (j := (2 : Int32)) hin62 (g := (mkF m 40 #[.val (.int p0), .val (.int p1), .val (.long q2), .second, .val (.int (1 : Int32)), .val (.ref b52)] [(.int (((own_ushrL q2 (16 : Int32)).toInt32).toInt8.toInt32)), (.int (2 : Int32)), (.ref b52)])) rfl rfl (hb hby at_40)
    have f65 : Exa Z h63 b52 "[B" := f61.wr W63
    have f64 : own_AI Z h63 b52 .byte 7 (own_upd (own_upd (own_upd (fun _ => 0) 0 (nar .byte ((q2.toInt32).toInt8.toInt32))) 1 (nar .byte (((own_ushrL q2 (8 : Int32)).toInt32).toInt8.toInt32))) 2 (nar .byte (((own_ushrL q2 (16 : Int32)).toInt32).toInt8.toInt32))) := own_AI.set Ar62 S62 M62 H62 W63
    have Z63 : n0 ≤ h63.size := Nat.le_trans Z59 (Keep.of_wr W63).1
    have N63 := Fr.snoc X63 N59 g_b52
    refine own_go (S' := T63.setTop (mkF m 41 #[.val (.int p0), .val (.int p1), .val (.long q2), .second, .val (.int (1 : Int32)), .val (.ref b52)] [])) st63 ?_
    refine own_go (S' := T63.setTop (mkF m 50 #[.val (.int p0), .val (.int p1), .val (.long q2), .second, .val (.int (1 : Int32)), .val (.ref b52)] [(.int (((own_ushrL q2 (24 : Int32)).toInt32).toInt8.toInt32)), (.int (3 : Int32)), (.ref b52)])) (fun target kt => ?_) ?_
    · skip
      show Steps p.tables e below (T63.setTop (mkF m 41 #[.val (.int p0), .val (.int p1), .val (.long q2), .second, .val (.int (1 : Int32)), .val (.ref b52)] [])) _
      refine XS.aload X63.here hx rfl (hb hby at_41) rfl rfl ?_
      show Steps p.tables e below (T63.setTop (mkF m 43 #[.val (.int p0), .val (.int p1), .val (.long q2), .second, .val (.int (1 : Int32)), .val (.ref b52)] [(.ref b52)])) _
      refine XS.iconst X63.here hx rfl (hb hby at_43) ?_
      show Steps p.tables e below (T63.setTop (mkF m 44 #[.val (.int p0), .val (.int p1), .val (.long q2), .second, .val (.int (1 : Int32)), .val (.ref b52)] [(.int (3 : Int32)), (.ref b52)])) _
      refine XS.lloadN X63.here hx rfl (hb hby at_44) rfl ?_
      show Steps p.tables e below (T63.setTop (mkF m 45 #[.val (.int p0), .val (.int p1), .val (.long q2), .second, .val (.int (1 : Int32)), .val (.ref b52)] [(.long q2), (.int (3 : Int32)), (.ref b52)])) _
      refine XS.bipush X63.here hx rfl (hb hby at_45) ?_
      show Steps p.tables e below (T63.setTop (mkF m 47 #[.val (.int p0), .val (.int p1), .val (.long q2), .second, .val (.int (1 : Int32)), .val (.ref b52)] [(.int (24 : Int32)), (.long q2), (.int (3 : Int32)), (.ref b52)])) _
      refine XS.lushr X63.here hx rfl (hb hby at_47) rfl ?_
      show Steps p.tables e below (T63.setTop (mkF m 48 #[.val (.int p0), .val (.int p1), .val (.long q2), .second, .val (.int (1 : Int32)), .val (.ref b52)] [(.long (own_ushrL q2 (24 : Int32))), (.int (3 : Int32)), (.ref b52)])) _
      refine XS.l2i X63.here hx rfl (hb hby at_48) rfl ?_
      show Steps p.tables e below (T63.setTop (mkF m 49 #[.val (.int p0), .val (.int p1), .val (.long q2), .second, .val (.int (1 : Int32)), .val (.ref b52)] [(.int ((own_ushrL q2 (24 : Int32)).toInt32)), (.int (3 : Int32)), (.ref b52)])) _
      refine XS.i2b X63.here hx rfl (hb hby at_49) rfl ?_
      exact kt
    obtain ⟨c66, Ar66, S66, M66, H66⟩ := id f64
    have hin66 : ¬ ((3 : Int32) < 0 ∨ c66.slots.size ≤ ((3 : Int32)).toNatClampNeg) := own_in S66 ⟨by decide, by decide⟩
    obtain ⟨T67, h67, X67, e67, W67, st67⟩ := stB X63 hx hZ e63 Ar66 (j := (3 : Int32)) hin66 (g := (mkF m 50 #[.val (.int p0), .val (.int p1), .val (.long q2), .second, .val (.int (1 : Int32)), .val (.ref b52)] [(.int (((own_ushrL q2 (24 : Int32)).toInt32).toInt8.toInt32)), (.int (3 : Int32)), (.ref b52)])) rfl rfl (hb hby at_50)
    have f69 : Exa Z h67 b52 "[B" := f65.wr W67
    have f68 : own_AI Z h67 b52 .byte 7 (own_upd (own_upd (own_upd (own_upd (fun _ => 0) 0 (nar .byte ((q2.toInt32).toInt8.toInt32))) 1 (nar .byte (((own_ushrL q2 (8 : Int32)).toInt32).toInt8.toInt32))) 2 (nar .byte (((own_ushrL q2 (16 : Int32)).toInt32).toInt8.toInt32))) 3 (nar .byte (((own_ushrL q2 (24 : Int32)).toInt32).toInt8.toInt32))) := own_AI.set Ar66 S66 M66 H66 W67
    have Z67 : n0 ≤ h67.size := Nat.le_trans Z63 (Keep.of_wr W67).1
    have N67 := Fr.snoc X67 N63 g_b52
    refine own_go (S' := T67.setTop (mkF m 51 #[.val (.int p0), .val (.int p1), .val (.long q2), .second, .val (.int (1 : Int32)), .val (.ref b52)] [])) st67 ?_
    refine own_go (S' := T67.setTop (mkF m 60 #[.val (.int p0), .val (.int p1), .val (.long q2), .second, .val (.int (1 : Int32)), .val (.ref b52)] [(.int (((own_ushrL q2 (32 : Int32)).toInt32).toInt8.toInt32)), (.int (4 : Int32)), (.ref b52)])) (fun target kt => ?_) ?_
    · skip
      show Steps p.tables e below (T67.setTop (mkF m 51 #[.val (.int p0), .val (.int p1), .val (.long q2), .second, .val (.int (1 : Int32)), .val (.ref b52)] [])) _
      refine XS.aload X67.here hx rfl (hb hby at_51) rfl rfl ?_
      show Steps p.tables e below (T67.setTop (mkF m 53 #[.val (.int p0), .val (.int p1), .val (.long q2), .second, .val (.int (1 : Int32)), .val (.ref b52)] [(.ref b52)])) _
      refine XS.iconst X67.here hx rfl (hb hby at_53) ?_
      show Steps p.tables e below (T67.setTop (mkF m 54 #[.val (.int p0), .val (.int p1), .val (.long q2), .second, .val (.int (1 : Int32)), .val (.ref b52)] [(.int (4 : Int32)), (.ref b52)])) _
      refine XS.lloadN X67.here hx rfl (hb hby at_54) rfl ?_
      show Steps p.tables e below (T67.setTop (mkF m 55 #[.val (.int p0), .val (.int p1), .val (.long q2), .second, .val (.int (1 : Int32)), .val (.ref b52)] [(.long q2), (.int (4 : Int32)), (.ref b52)])) _
      refine XS.bipush X67.here hx rfl (hb hby at_55) ?_
      show Steps p.tables e below (T67.setTop (mkF m 57 #[.val (.int p0), .val (.int p1), .val (.long q2), .second, .val (.int (1 : Int32)), .val (.ref b52)] [(.int (32 : Int32)), (.long q2), (.int (4 : Int32)), (.ref b52)])) _
      refine XS.lushr X67.here hx rfl (hb hby at_57) rfl ?_
      show Steps p.tables e below (T67.setTop (mkF m 58 #[.val (.int p0), .val (.int p1), .val (.long q2), .second, .val (.int (1 : Int32)), .val (.ref b52)] [(.long (own_ushrL q2 (32 : Int32))), (.int (4 : Int32)), (.ref b52)])) _
      refine XS.l2i X67.here hx rfl (hb hby at_58) rfl ?_
      show Steps p.tables e below (T67.setTop (mkF m 59 #[.val (.int p0), .val (.int p1), .val (.long q2), .second, .val (.int (1 : Int32)), .val (.ref b52)] [(.int ((own_ushrL q2 (32 : Int32)).toInt32)), (.int (4 : Int32)), (.ref b52)])) _
      refine XS.i2b X67.here hx rfl (hb hby at_59) rfl ?_
      exact kt
    obtain ⟨c70, Ar70, S70, M70, H70⟩ := id f68
    have hin70 : ¬ ((4 : Int32) < 0 ∨ c70.slots.size ≤ ((4 : Int32)).toNatClampNeg) := own_in S70 ⟨by decide, by decide⟩
    obtain ⟨T71, h71, X71, e71, W71, st71⟩ := stB X67 hx hZ e67 Ar70 (j := (4 : Int32)) hin70 (g := (mkF m 60 #[.val (.int p0), .val (.int p1), .val (.long q2), .second, .val (.int (1 : Int32)), .val (.ref b52)] [(.int (((own_ushrL q2 (32 : Int32)).toInt32).toInt8.toInt32)), (.int (4 : Int32)), (.ref b52)])) rfl rfl (hb hby at_60)
    have f73 : Exa Z h71 b52 "[B" := f69.wr W71
    have f72 : own_AI Z h71 b52 .byte 7 (own_upd (own_upd (own_upd (own_upd (own_upd (fun _ => 0) 0 (nar .byte ((q2.toInt32).toInt8.toInt32))) 1 (nar .byte (((own_ushrL q2 (8 : Int32)).toInt32).toInt8.toInt32))) 2 (nar .byte (((own_ushrL q2 (16 : Int32)).toInt32).toInt8.toInt32))) 3 (nar .byte (((own_ushrL q2 (24 : Int32)).toInt32).toInt8.toInt32))) 4 (nar .byte (((own_ushrL q2 (32 : Int32)).toInt32).toInt8.toInt32))) := own_AI.set Ar70 S70 M70 H70 W71
    have Z71 : n0 ≤ h71.size := Nat.le_trans Z67 (Keep.of_wr W71).1
    have N71 := Fr.snoc X71 N67 g_b52
    refine own_go (S' := T71.setTop (mkF m 61 #[.val (.int p0), .val (.int p1), .val (.long q2), .second, .val (.int (1 : Int32)), .val (.ref b52)] [])) st71 ?_
    refine own_go (S' := T71.setTop (mkF m 70 #[.val (.int p0), .val (.int p1), .val (.long q2), .second, .val (.int (1 : Int32)), .val (.ref b52)] [(.int (((own_ushrL q2 (40 : Int32)).toInt32).toInt8.toInt32)), (.int (5 : Int32)), (.ref b52)])) (fun target kt => ?_) ?_
    · skip
      show Steps p.tables e below (T71.setTop (mkF m 61 #[.val (.int p0), .val (.int p1), .val (.long q2), .second, .val (.int (1 : Int32)), .val (.ref b52)] [])) _
      refine XS.aload X71.here hx rfl (hb hby at_61) rfl rfl ?_
      show Steps p.tables e below (T71.setTop (mkF m 63 #[.val (.int p0), .val (.int p1), .val (.long q2), .second, .val (.int (1 : Int32)), .val (.ref b52)] [(.ref b52)])) _
      refine XS.iconst X71.here hx rfl (hb hby at_63) ?_
      show Steps p.tables e below (T71.setTop (mkF m 64 #[.val (.int p0), .val (.int p1), .val (.long q2), .second, .val (.int (1 : Int32)), .val (.ref b52)] [(.int (5 : Int32)), (.ref b52)])) _
      refine XS.lloadN X71.here hx rfl (hb hby at_64) rfl ?_
      show Steps p.tables e below (T71.setTop (mkF m 65 #[.val (.int p0), .val (.int p1), .val (.long q2), .second, .val (.int (1 : Int32)), .val (.ref b52)] [(.long q2), (.int (5 : Int32)), (.ref b52)])) _
      refine XS.bipush X71.here hx rfl (hb hby at_65) ?_
      show Steps p.tables e below (T71.setTop (mkF m 67 #[.val (.int p0), .val (.int p1), .val (.long q2), .second, .val (.int (1 : Int32)), .val (.ref b52)] [(.int (40 : Int32)), (.long q2), (.int (5 : Int32)), (.ref b52)])) _
      refine XS.lushr X71.here hx rfl (hb hby at_67) rfl ?_
      show Steps p.tables e below (T71.setTop (mkF m 68 #[.val (.int p0), .val (.int p1), .val (.long q2), .second, .val (.int (1 : Int32)), .val (.ref b52)] [(.long (own_ushrL q2 (40 : Int32))), (.int (5 : Int32)), (.ref b52)])) _
      refine XS.l2i X71.here hx rfl (hb hby at_68) rfl ?_
      show Steps p.tables e below (T71.setTop (mkF m 69 #[.val (.int p0), .val (.int p1), .val (.long q2), .second, .val (.int (1 : Int32)), .val (.ref b52)] [(.int ((own_ushrL q2 (40 : Int32)).toInt32)), (.int (5 : Int32)), (.ref b52)])) _
      refine XS.i2b X71.here hx rfl (hb hby at_69) rfl ?_
      exact kt
    obtain ⟨c74, Ar74, S74, M74, H74⟩ := id f72
    have hin74 : ¬ ((5 : Int32) < 0 ∨ c74.slots.size ≤ ((5 : Int32)).toNatClampNeg) := own_in S74 ⟨by decide, by decide⟩
    obtain ⟨T75, h75, X75, e75, W75, st75⟩ := stB X71 hx hZ e71 Ar74 (j := (5 : Int32)) hin74 (g := (mkF m 70 #[.val (.int p0), .val (.int p1), .val (.long q2), .second, .val (.int (1 : Int32)), .val (.ref b52)] [(.int (((own_ushrL q2 (40 : Int32)).toInt32).toInt8.toInt32)), (.int (5 : Int32)), (.ref b52)])) rfl rfl (hb hby at_70)
    have f77 : Exa Z h75 b52 "[B" := f73.wr W75
    have f76 : own_AI Z h75 b52 .byte 7 (own_upd (own_upd (own_upd (own_upd (own_upd (own_upd (fun _ => 0) 0 (nar .byte ((q2.toInt32).toInt8.toInt32))) 1 (nar .byte (((own_ushrL q2 (8 : Int32)).toInt32).toInt8.toInt32))) 2 (nar .byte (((own_ushrL q2 (16 : Int32)).toInt32).toInt8.toInt32))) 3 (nar .byte (((own_ushrL q2 (24 : Int32)).toInt32).toInt8.toInt32))) 4 (nar .byte (((own_ushrL q2 (32 : Int32)).toInt32).toInt8.toInt32))) 5 (nar .byte (((own_ushrL q2 (40 : Int32)).toInt32).toInt8.toInt32))) := own_AI.set Ar74 S74 M74 H74 W75
    have Z75 : n0 ≤ h75.size := Nat.le_trans Z71 (Keep.of_wr W75).1
    have N75 := Fr.snoc X75 N71 g_b52
    refine own_go (S' := T75.setTop (mkF m 71 #[.val (.int p0), .val (.int p1), .val (.long q2), .second, .val (.int (1 : Int32)), .val (.ref b52)] [])) st75 ?_
    refine own_go (S' := T75.setTop (mkF m 81 #[.val (.int p0), .val (.int p1), .val (.long q2), .second, .val (.int (1 : Int32)), .val (.ref b52)] [(.int (((own_ushrL q2 (48 : Int32)).toInt32).toInt8.toInt32)), (.int (6 : Int32)), (.ref b52)])) (fun target kt => ?_) ?_
    · skip
      show Steps p.tables e below (T75.setTop (mkF m 71 #[.val (.int p0), .val (.int p1), .val (.long q2), .second, .val (.int (1 : Int32)), .val (.ref b52)] [])) _
      refine XS.aload X75.here hx rfl (hb hby at_71) rfl rfl ?_
      show Steps p.tables e below (T75.setTop (mkF m 73 #[.val (.int p0), .val (.int p1), .val (.long q2), .second, .val (.int (1 : Int32)), .val (.ref b52)] [(.ref b52)])) _
      refine XS.bipush X75.here hx rfl (hb hby at_73) ?_
      show Steps p.tables e below (T75.setTop (mkF m 75 #[.val (.int p0), .val (.int p1), .val (.long q2), .second, .val (.int (1 : Int32)), .val (.ref b52)] [(.int (6 : Int32)), (.ref b52)])) _
      refine XS.lloadN X75.here hx rfl (hb hby at_75) rfl ?_
      show Steps p.tables e below (T75.setTop (mkF m 76 #[.val (.int p0), .val (.int p1), .val (.long q2), .second, .val (.int (1 : Int32)), .val (.ref b52)] [(.long q2), (.int (6 : Int32)), (.ref b52)])) _
      refine XS.bipush X75.here hx rfl (hb hby at_76) ?_
      show Steps p.tables e below (T75.setTop (mkF m 78 #[.val (.int p0), .val (.int p1), .val (.long q2), .second, .val (.int (1 : Int32)), .val (.ref b52)] [(.int (48 : Int32)), (.long q2), (.int (6 : Int32)), (.ref b52)])) _
      refine XS.lushr X75.here hx rfl (hb hby at_78) rfl ?_
      show Steps p.tables e below (T75.setTop (mkF m 79 #[.val (.int p0), .val (.int p1), .val (.long q2), .second, .val (.int (1 : Int32)), .val (.ref b52)] [(.long (own_ushrL q2 (48 : Int32))), (.int (6 : Int32)), (.ref b52)])) _
      refine XS.l2i X75.here hx rfl (hb hby at_79) rfl ?_
      show Steps p.tables e below (T75.setTop (mkF m 80 #[.val (.int p0), .val (.int p1), .val (.long q2), .second, .val (.int (1 : Int32)), .val (.ref b52)] [(.int ((own_ushrL q2 (48 : Int32)).toInt32)), (.int (6 : Int32)), (.ref b52)])) _
      refine XS.i2b X75.here hx rfl (hb hby at_80) rfl ?_
      exact kt
    obtain ⟨c78, Ar78, S78, M78, H78⟩ := id f76
    have hin78 : ¬ ((6 : Int32) < 0 ∨ c78.slots.size ≤ ((6 : Int32)).toNatClampNeg) := own_in S78 ⟨by decide, by decide⟩
    obtain ⟨T79, h79, X79, e79, W79, st79⟩ := stB X75 hx hZ e75 Ar78 (j := (6 : Int32)) hin78 (g := (mkF m 81 #[.val (.int p0), .val (.int p1), .val (.long q2), .second, .val (.int (1 : Int32)), .val (.ref b52)] [(.int (((own_ushrL q2 (48 : Int32)).toInt32).toInt8.toInt32)), (.int (6 : Int32)), (.ref b52)])) rfl rfl (hb hby at_81)
    have f81 : Exa Z h79 b52 "[B" := f77.wr W79
    have f80 : own_AI Z h79 b52 .byte 7 (own_upd (own_upd (own_upd (own_upd (own_upd (own_upd (own_upd (fun _ => 0) 0 (nar .byte ((q2.toInt32).toInt8.toInt32))) 1 (nar .byte (((own_ushrL q2 (8 : Int32)).toInt32).toInt8.toInt32))) 2 (nar .byte (((own_ushrL q2 (16 : Int32)).toInt32).toInt8.toInt32))) 3 (nar .byte (((own_ushrL q2 (24 : Int32)).toInt32).toInt8.toInt32))) 4 (nar .byte (((own_ushrL q2 (32 : Int32)).toInt32).toInt8.toInt32))) 5 (nar .byte (((own_ushrL q2 (40 : Int32)).toInt32).toInt8.toInt32))) 6 (nar .byte (((own_ushrL q2 (48 : Int32)).toInt32).toInt8.toInt32))) := own_AI.set Ar78 S78 M78 H78 W79
    have Z79 : n0 ≤ h79.size := Nat.le_trans Z75 (Keep.of_wr W79).1
    have N79 := Fr.snoc X79 N75 g_b52
    refine own_go (S' := T79.setTop (mkF m 82 #[.val (.int p0), .val (.int p1), .val (.long q2), .second, .val (.int (1 : Int32)), .val (.ref b52)] [])) st79 ?_
    refine own_go (S' := T79.setTop (mkF m 91 #[.val (.int p0), .val (.int p1), .val (.long q2), .second, .val (.int (1 : Int32)), .val (.ref b52)] [(.int ((own_ushr p0 (24 : Int32)).toInt8.toInt32)), (.int (1 : Int32)), (.ref b52)])) (fun target kt => ?_) ?_
    · skip
      show Steps p.tables e below (T79.setTop (mkF m 82 #[.val (.int p0), .val (.int p1), .val (.long q2), .second, .val (.int (1 : Int32)), .val (.ref b52)] [])) _
      refine XS.aload X79.here hx rfl (hb hby at_82) rfl rfl ?_
      show Steps p.tables e below (T79.setTop (mkF m 84 #[.val (.int p0), .val (.int p1), .val (.long q2), .second, .val (.int (1 : Int32)), .val (.ref b52)] [(.ref b52)])) _
      refine XS.iload X79.here hx rfl (hb hby at_84) rfl ?_
      show Steps p.tables e below (T79.setTop (mkF m 86 #[.val (.int p0), .val (.int p1), .val (.long q2), .second, .val (.int (1 : Int32)), .val (.ref b52)] [(.int (1 : Int32)), (.ref b52)])) _
      refine XS.iloadN X79.here hx rfl (hb hby at_86) rfl ?_
      show Steps p.tables e below (T79.setTop (mkF m 87 #[.val (.int p0), .val (.int p1), .val (.long q2), .second, .val (.int (1 : Int32)), .val (.ref b52)] [(.int p0), (.int (1 : Int32)), (.ref b52)])) _
      refine XS.bipush X79.here hx rfl (hb hby at_87) ?_
      show Steps p.tables e below (T79.setTop (mkF m 89 #[.val (.int p0), .val (.int p1), .val (.long q2), .second, .val (.int (1 : Int32)), .val (.ref b52)] [(.int (24 : Int32)), (.int p0), (.int (1 : Int32)), (.ref b52)])) _
      refine XS.iushr X79.here hx rfl (hb hby at_89) rfl ?_
      show Steps p.tables e below (T79.setTop (mkF m 90 #[.val (.int p0), .val (.int p1), .val (.long q2), .second, .val (.int (1 : Int32)), .val (.ref b52)] [(.int (own_ushr p0 (24 : Int32))), (.int (1 : Int32)), (.ref b52)])) _
      refine XS.i2b X79.here hx rfl (hb hby at_90) rfl ?_
      exact kt
    obtain ⟨c82, Ar82, S82, M82, H82⟩ := id f80
    have hin82 : ¬ ((1 : Int32) < 0 ∨ c82.slots.size ≤ ((1 : Int32)).toNatClampNeg) := own_in S82 ⟨by decide, by decide⟩
    obtain ⟨T83, h83, X83, e83, W83, st83⟩ := stB X79 hx hZ e79 Ar82 (j := (1 : Int32)) hin82 (g := (mkF m 91 #[.val (.int p0), .val (.int p1), .val (.long q2), .second, .val (.int (1 : Int32)), .val (.ref b52)] [(.int ((own_ushr p0 (24 : Int32)).toInt8.toInt32)), (.int (1 : Int32)), (.ref b52)])) rfl rfl (hb hby at_91)
    have f85 : Exa Z h83 b52 "[B" := f81.wr W83
    have f84 : own_AI Z h83 b52 .byte 7 (own_upd (own_upd (own_upd (own_upd (own_upd (own_upd (own_upd (own_upd (fun _ => 0) 0 (nar .byte ((q2.toInt32).toInt8.toInt32))) 1 (nar .byte (((own_ushrL q2 (8 : Int32)).toInt32).toInt8.toInt32))) 2 (nar .byte (((own_ushrL q2 (16 : Int32)).toInt32).toInt8.toInt32))) 3 (nar .byte (((own_ushrL q2 (24 : Int32)).toInt32).toInt8.toInt32))) 4 (nar .byte (((own_ushrL q2 (32 : Int32)).toInt32).toInt8.toInt32))) 5 (nar .byte (((own_ushrL q2 (40 : Int32)).toInt32).toInt8.toInt32))) 6 (nar .byte (((own_ushrL q2 (48 : Int32)).toInt32).toInt8.toInt32))) 1 (nar .byte ((own_ushr p0 (24 : Int32)).toInt8.toInt32))) := own_AI.set Ar82 S82 M82 H82 W83
    have Z83 : n0 ≤ h83.size := Nat.le_trans Z79 (Keep.of_wr W83).1
    have N83 := Fr.snoc X83 N79 g_b52
    refine own_go (S' := T83.setTop (mkF m 92 #[.val (.int p0), .val (.int p1), .val (.long q2), .second, .val (.int (1 : Int32)), .val (.ref b52)] [])) st83 ?_
    refine own_go (S' := T83.setTop (mkF m 103 #[.val (.int p0), .val (.int p1), .val (.long q2), .second, .val (.int (1 : Int32)), .val (.ref b52)] [(.int ((own_ushr p0 (16 : Int32)).toInt8.toInt32)), (.int (2 : Int32)), (.ref b52)])) (fun target kt => ?_) ?_
    · skip
      show Steps p.tables e below (T83.setTop (mkF m 92 #[.val (.int p0), .val (.int p1), .val (.long q2), .second, .val (.int (1 : Int32)), .val (.ref b52)] [])) _
      refine XS.aload X83.here hx rfl (hb hby at_92) rfl rfl ?_
      show Steps p.tables e below (T83.setTop (mkF m 94 #[.val (.int p0), .val (.int p1), .val (.long q2), .second, .val (.int (1 : Int32)), .val (.ref b52)] [(.ref b52)])) _
      refine XS.iload X83.here hx rfl (hb hby at_94) rfl ?_
      show Steps p.tables e below (T83.setTop (mkF m 96 #[.val (.int p0), .val (.int p1), .val (.long q2), .second, .val (.int (1 : Int32)), .val (.ref b52)] [(.int (1 : Int32)), (.ref b52)])) _
      refine XS.iconst X83.here hx rfl (hb hby at_96) ?_
      show Steps p.tables e below (T83.setTop (mkF m 97 #[.val (.int p0), .val (.int p1), .val (.long q2), .second, .val (.int (1 : Int32)), .val (.ref b52)] [(.int (1 : Int32)), (.int (1 : Int32)), (.ref b52)])) _
      refine XS.iadd X83.here hx rfl (hb hby at_97) rfl ?_
      rw [show ((1 : Int32) + (1 : Int32)) = (2 : Int32) from by decide]
      show Steps p.tables e below (T83.setTop (mkF m 98 #[.val (.int p0), .val (.int p1), .val (.long q2), .second, .val (.int (1 : Int32)), .val (.ref b52)] [(.int (2 : Int32)), (.ref b52)])) _
      refine XS.iloadN X83.here hx rfl (hb hby at_98) rfl ?_
      show Steps p.tables e below (T83.setTop (mkF m 99 #[.val (.int p0), .val (.int p1), .val (.long q2), .second, .val (.int (1 : Int32)), .val (.ref b52)] [(.int p0), (.int (2 : Int32)), (.ref b52)])) _
      refine XS.bipush X83.here hx rfl (hb hby at_99) ?_
      show Steps p.tables e below (T83.setTop (mkF m 101 #[.val (.int p0), .val (.int p1), .val (.long q2), .second, .val (.int (1 : Int32)), .val (.ref b52)] [(.int (16 : Int32)), (.int p0), (.int (2 : Int32)), (.ref b52)])) _
      refine XS.iushr X83.here hx rfl (hb hby at_101) rfl ?_
      show Steps p.tables e below (T83.setTop (mkF m 102 #[.val (.int p0), .val (.int p1), .val (.long q2), .second, .val (.int (1 : Int32)), .val (.ref b52)] [(.int (own_ushr p0 (16 : Int32))), (.int (2 : Int32)), (.ref b52)])) _
      refine XS.i2b X83.here hx rfl (hb hby at_102) rfl ?_
      exact kt
    obtain ⟨c86, Ar86, S86, M86, H86⟩ := id f84
    have hin86 : ¬ ((2 : Int32) < 0 ∨ c86.slots.size ≤ ((2 : Int32)).toNatClampNeg) := own_in S86 ⟨by decide, by decide⟩
    obtain ⟨T87, h87, X87, e87, W87, st87⟩ := stB X83 hx hZ e83 Ar86 (j := (2 : Int32)) hin86 (g := (mkF m 103 #[.val (.int p0), .val (.int p1), .val (.long q2), .second, .val (.int (1 : Int32)), .val (.ref b52)] [(.int ((own_ushr p0 (16 : Int32)).toInt8.toInt32)), (.int (2 : Int32)), (.ref b52)])) rfl rfl (hb hby at_103)
    have f89 : Exa Z h87 b52 "[B" := f85.wr W87
    have f88 : own_AI Z h87 b52 .byte 7 (own_upd (own_upd (own_upd (own_upd (own_upd (own_upd (own_upd (own_upd (own_upd (fun _ => 0) 0 (nar .byte ((q2.toInt32).toInt8.toInt32))) 1 (nar .byte (((own_ushrL q2 (8 : Int32)).toInt32).toInt8.toInt32))) 2 (nar .byte (((own_ushrL q2 (16 : Int32)).toInt32).toInt8.toInt32))) 3 (nar .byte (((own_ushrL q2 (24 : Int32)).toInt32).toInt8.toInt32))) 4 (nar .byte (((own_ushrL q2 (32 : Int32)).toInt32).toInt8.toInt32))) 5 (nar .byte (((own_ushrL q2 (40 : Int32)).toInt32).toInt8.toInt32))) 6 (nar .byte (((own_ushrL q2 (48 : Int32)).toInt32).toInt8.toInt32))) 1 (nar .byte ((own_ushr p0 (24 : Int32)).toInt8.toInt32))) 2 (nar .byte ((own_ushr p0 (16 : Int32)).toInt8.toInt32))) := own_AI.set Ar86 S86 M86 H86 W87
    have Z87 : n0 ≤ h87.size := Nat.le_trans Z83 (Keep.of_wr W87).1
    have N87 := Fr.snoc X87 N83 g_b52
    refine own_go (S' := T87.setTop (mkF m 104 #[.val (.int p0), .val (.int p1), .val (.long q2), .second, .val (.int (1 : Int32)), .val (.ref b52)] [])) st87 ?_
    refine own_go (S' := T87.setTop (mkF m 115 #[.val (.int p0), .val (.int p1), .val (.long q2), .second, .val (.int (1 : Int32)), .val (.ref b52)] [(.int ((own_ushr p0 (8 : Int32)).toInt8.toInt32)), (.int (3 : Int32)), (.ref b52)])) (fun target kt => ?_) ?_
    · skip
      show Steps p.tables e below (T87.setTop (mkF m 104 #[.val (.int p0), .val (.int p1), .val (.long q2), .second, .val (.int (1 : Int32)), .val (.ref b52)] [])) _
      refine XS.aload X87.here hx rfl (hb hby at_104) rfl rfl ?_
      show Steps p.tables e below (T87.setTop (mkF m 106 #[.val (.int p0), .val (.int p1), .val (.long q2), .second, .val (.int (1 : Int32)), .val (.ref b52)] [(.ref b52)])) _
      refine XS.iload X87.here hx rfl (hb hby at_106) rfl ?_
      show Steps p.tables e below (T87.setTop (mkF m 108 #[.val (.int p0), .val (.int p1), .val (.long q2), .second, .val (.int (1 : Int32)), .val (.ref b52)] [(.int (1 : Int32)), (.ref b52)])) _
      refine XS.iconst X87.here hx rfl (hb hby at_108) ?_
      show Steps p.tables e below (T87.setTop (mkF m 109 #[.val (.int p0), .val (.int p1), .val (.long q2), .second, .val (.int (1 : Int32)), .val (.ref b52)] [(.int (2 : Int32)), (.int (1 : Int32)), (.ref b52)])) _
      refine XS.iadd X87.here hx rfl (hb hby at_109) rfl ?_
      rw [show ((1 : Int32) + (2 : Int32)) = (3 : Int32) from by decide]
      show Steps p.tables e below (T87.setTop (mkF m 110 #[.val (.int p0), .val (.int p1), .val (.long q2), .second, .val (.int (1 : Int32)), .val (.ref b52)] [(.int (3 : Int32)), (.ref b52)])) _
      refine XS.iloadN X87.here hx rfl (hb hby at_110) rfl ?_
      show Steps p.tables e below (T87.setTop (mkF m 111 #[.val (.int p0), .val (.int p1), .val (.long q2), .second, .val (.int (1 : Int32)), .val (.ref b52)] [(.int p0), (.int (3 : Int32)), (.ref b52)])) _
      refine XS.bipush X87.here hx rfl (hb hby at_111) ?_
      show Steps p.tables e below (T87.setTop (mkF m 113 #[.val (.int p0), .val (.int p1), .val (.long q2), .second, .val (.int (1 : Int32)), .val (.ref b52)] [(.int (8 : Int32)), (.int p0), (.int (3 : Int32)), (.ref b52)])) _
      refine XS.iushr X87.here hx rfl (hb hby at_113) rfl ?_
      show Steps p.tables e below (T87.setTop (mkF m 114 #[.val (.int p0), .val (.int p1), .val (.long q2), .second, .val (.int (1 : Int32)), .val (.ref b52)] [(.int (own_ushr p0 (8 : Int32))), (.int (3 : Int32)), (.ref b52)])) _
      refine XS.i2b X87.here hx rfl (hb hby at_114) rfl ?_
      exact kt
    obtain ⟨c90, Ar90, S90, M90, H90⟩ := id f88
    have hin90 : ¬ ((3 : Int32) < 0 ∨ c90.slots.size ≤ ((3 : Int32)).toNatClampNeg) := own_in S90 ⟨by decide, by decide⟩
    obtain ⟨T91, h91, X91, e91, W91, st91⟩ := stB X87 hx hZ e87 Ar90 (j := (3 : Int32)) hin90 (g := (mkF m 115 #[.val (.int p0), .val (.int p1), .val (.long q2), .second, .val (.int (1 : Int32)), .val (.ref b52)] [(.int ((own_ushr p0 (8 : Int32)).toInt8.toInt32)), (.int (3 : Int32)), (.ref b52)])) rfl rfl (hb hby at_115)
    have f93 : Exa Z h91 b52 "[B" := f89.wr W91
    have f92 : own_AI Z h91 b52 .byte 7 (own_upd (own_upd (own_upd (own_upd (own_upd (own_upd (own_upd (own_upd (own_upd (own_upd (fun _ => 0) 0 (nar .byte ((q2.toInt32).toInt8.toInt32))) 1 (nar .byte (((own_ushrL q2 (8 : Int32)).toInt32).toInt8.toInt32))) 2 (nar .byte (((own_ushrL q2 (16 : Int32)).toInt32).toInt8.toInt32))) 3 (nar .byte (((own_ushrL q2 (24 : Int32)).toInt32).toInt8.toInt32))) 4 (nar .byte (((own_ushrL q2 (32 : Int32)).toInt32).toInt8.toInt32))) 5 (nar .byte (((own_ushrL q2 (40 : Int32)).toInt32).toInt8.toInt32))) 6 (nar .byte (((own_ushrL q2 (48 : Int32)).toInt32).toInt8.toInt32))) 1 (nar .byte ((own_ushr p0 (24 : Int32)).toInt8.toInt32))) 2 (nar .byte ((own_ushr p0 (16 : Int32)).toInt8.toInt32))) 3 (nar .byte ((own_ushr p0 (8 : Int32)).toInt8.toInt32))) := own_AI.set Ar90 S90 M90 H90 W91
    have Z91 : n0 ≤ h91.size := Nat.le_trans Z87 (Keep.of_wr W91).1
    have N91 := Fr.snoc X91 N87 g_b52
    refine own_go (S' := T91.setTop (mkF m 116 #[.val (.int p0), .val (.int p1), .val (.long q2), .second, .val (.int (1 : Int32)), .val (.ref b52)] [])) st91 ?_
    refine own_go (S' := T91.setTop (mkF m 124 #[.val (.int p0), .val (.int p1), .val (.long q2), .second, .val (.int (1 : Int32)), .val (.ref b52)] [(.int (p0.toInt8.toInt32)), (.int (4 : Int32)), (.ref b52)])) (fun target kt => ?_) ?_
    · skip
      show Steps p.tables e below (T91.setTop (mkF m 116 #[.val (.int p0), .val (.int p1), .val (.long q2), .second, .val (.int (1 : Int32)), .val (.ref b52)] [])) _
      refine XS.aload X91.here hx rfl (hb hby at_116) rfl rfl ?_
      show Steps p.tables e below (T91.setTop (mkF m 118 #[.val (.int p0), .val (.int p1), .val (.long q2), .second, .val (.int (1 : Int32)), .val (.ref b52)] [(.ref b52)])) _
      refine XS.iload X91.here hx rfl (hb hby at_118) rfl ?_
      show Steps p.tables e below (T91.setTop (mkF m 120 #[.val (.int p0), .val (.int p1), .val (.long q2), .second, .val (.int (1 : Int32)), .val (.ref b52)] [(.int (1 : Int32)), (.ref b52)])) _
      refine XS.iconst X91.here hx rfl (hb hby at_120) ?_
      show Steps p.tables e below (T91.setTop (mkF m 121 #[.val (.int p0), .val (.int p1), .val (.long q2), .second, .val (.int (1 : Int32)), .val (.ref b52)] [(.int (3 : Int32)), (.int (1 : Int32)), (.ref b52)])) _
      refine XS.iadd X91.here hx rfl (hb hby at_121) rfl ?_
      rw [show ((1 : Int32) + (3 : Int32)) = (4 : Int32) from by decide]
      show Steps p.tables e below (T91.setTop (mkF m 122 #[.val (.int p0), .val (.int p1), .val (.long q2), .second, .val (.int (1 : Int32)), .val (.ref b52)] [(.int (4 : Int32)), (.ref b52)])) _
      refine XS.iloadN X91.here hx rfl (hb hby at_122) rfl ?_
      show Steps p.tables e below (T91.setTop (mkF m 123 #[.val (.int p0), .val (.int p1), .val (.long q2), .second, .val (.int (1 : Int32)), .val (.ref b52)] [(.int p0), (.int (4 : Int32)), (.ref b52)])) _
      refine XS.i2b X91.here hx rfl (hb hby at_123) rfl ?_
      exact kt
    obtain ⟨c94, Ar94, S94, M94, H94⟩ := id f92
    have hin94 : ¬ ((4 : Int32) < 0 ∨ c94.slots.size ≤ ((4 : Int32)).toNatClampNeg) := own_in S94 ⟨by decide, by decide⟩
    obtain ⟨T95, h95, X95, e95, W95, st95⟩ := stB X91 hx hZ e91 Ar94 (j := (4 : Int32)) hin94 (g := (mkF m 124 #[.val (.int p0), .val (.int p1), .val (.long q2), .second, .val (.int (1 : Int32)), .val (.ref b52)] [(.int (p0.toInt8.toInt32)), (.int (4 : Int32)), (.ref b52)])) rfl rfl (hb hby at_124)
    have f97 : Exa Z h95 b52 "[B" := f93.wr W95
    have f96 : own_AI Z h95 b52 .byte 7 (own_upd (own_upd (own_upd (own_upd (own_upd (own_upd (own_upd (own_upd (own_upd (own_upd (own_upd (fun _ => 0) 0 (nar .byte ((q2.toInt32).toInt8.toInt32))) 1 (nar .byte (((own_ushrL q2 (8 : Int32)).toInt32).toInt8.toInt32))) 2 (nar .byte (((own_ushrL q2 (16 : Int32)).toInt32).toInt8.toInt32))) 3 (nar .byte (((own_ushrL q2 (24 : Int32)).toInt32).toInt8.toInt32))) 4 (nar .byte (((own_ushrL q2 (32 : Int32)).toInt32).toInt8.toInt32))) 5 (nar .byte (((own_ushrL q2 (40 : Int32)).toInt32).toInt8.toInt32))) 6 (nar .byte (((own_ushrL q2 (48 : Int32)).toInt32).toInt8.toInt32))) 1 (nar .byte ((own_ushr p0 (24 : Int32)).toInt8.toInt32))) 2 (nar .byte ((own_ushr p0 (16 : Int32)).toInt8.toInt32))) 3 (nar .byte ((own_ushr p0 (8 : Int32)).toInt8.toInt32))) 4 (nar .byte (p0.toInt8.toInt32))) := own_AI.set Ar94 S94 M94 H94 W95
    have Z95 : n0 ≤ h95.size := Nat.le_trans Z91 (Keep.of_wr W95).1
    have N95 := Fr.snoc X95 N91 g_b52
    refine own_go (S' := T95.setTop (mkF m 125 #[.val (.int p0), .val (.int p1), .val (.long q2), .second, .val (.int (1 : Int32)), .val (.ref b52)] [])) st95 ?_
    refine own_go (S' := T95.setTop (mkF m 129 #[.val (.int p0), .val (.int p1), .val (.long q2), .second, .val (.int (1 : Int32)), .val (.ref b52)] [(.int (1 : Int32)), (.ref b52)])) (fun target kt => ?_) ?_
    · skip
      show Steps p.tables e below (T95.setTop (mkF m 125 #[.val (.int p0), .val (.int p1), .val (.long q2), .second, .val (.int (1 : Int32)), .val (.ref b52)] [])) _
      refine XS.aload X95.here hx rfl (hb hby at_125) rfl rfl ?_
      show Steps p.tables e below (T95.setTop (mkF m 127 #[.val (.int p0), .val (.int p1), .val (.long q2), .second, .val (.int (1 : Int32)), .val (.ref b52)] [(.ref b52)])) _
      refine XS.iload X95.here hx rfl (hb hby at_127) rfl ?_
      exact kt
    obtain ⟨_, _, ⟨T98, L98, k98, n98⟩, -, X98, ⟨Lc98, hQ98, l98, y98, z98⟩, st98⟩ := Jvm.LawKit.callS X95 hx (y := (⟨"portwarden/wire/Decoder", "uint32", "([BI)I"⟩ : MethodName)) hown (mvT hZ (hw _ (List.mem_of_getElem? (i := 2) rfl))) (mvT hZ (hw _ (List.mem_of_getElem? (i := 3) rfl))) (mvT hZ (hw _ (List.mem_of_getElem? (i := 4) rfl))) (mvT hZ (hw _ (List.mem_of_getElem? (i := 5) rfl))) (by decide) (backOf (W := 0) (rm1 l Z aZ hw [] b52 (1 : Int32) (own_upd (own_upd (own_upd (own_upd (own_upd (own_upd (own_upd (own_upd (own_upd (own_upd (own_upd (fun _ => 0) 0 (nar .byte ((q2.toInt32).toInt8.toInt32))) 1 (nar .byte (((own_ushrL q2 (8 : Int32)).toInt32).toInt8.toInt32))) 2 (nar .byte (((own_ushrL q2 (16 : Int32)).toInt32).toInt8.toInt32))) 3 (nar .byte (((own_ushrL q2 (24 : Int32)).toInt32).toInt8.toInt32))) 4 (nar .byte (((own_ushrL q2 (32 : Int32)).toInt32).toInt8.toInt32))) 5 (nar .byte (((own_ushrL q2 (40 : Int32)).toInt32).toInt8.toInt32))) 6 (nar .byte (((own_ushrL q2 (48 : Int32)).toInt32).toInt8.toInt32))) 1 (nar .byte ((own_ushr p0 (24 : Int32)).toInt8.toInt32))) 2 (nar .byte ((own_ushr p0 (16 : Int32)).toInt8.toInt32))) 3 (nar .byte ((own_ushr p0 (8 : Int32)).toInt8.toInt32))) 4 (nar .byte (p0.toInt8.toInt32))) h95 n0 Z95 f96 (⟨by decide, by decide⟩ : ¬ (1 : Int32) < 0 ∧ ((1 : Int32)).toNatClampNeg < 7) (⟨by decide, by decide⟩ : ¬ ((1 : Int32) + (1 : Int32)) < 0 ∧ (((1 : Int32) + (1 : Int32))).toNatClampNeg < 7) (⟨by decide, by decide⟩ : ¬ ((1 : Int32) + (2 : Int32)) < 0 ∧ (((1 : Int32) + (2 : Int32))).toNatClampNeg < 7) (⟨by decide, by decide⟩ : ¬ ((1 : Int32) + (3 : Int32)) < 0 ∧ (((1 : Int32) + (3 : Int32))).toNatClampNeg < 7)) hZ (hw _ (List.mem_of_getElem? (i := 5) rfl)) (hw _ (List.mem_of_getElem? (i := 4) rfl)) (by decide) (by decide)) (g := (mkF m 129 #[.val (.int p0), .val (.int p1), .val (.long q2), .second, .val (.int (1 : Int32)), .val (.ref b52)] [(.int (1 : Int32)), (.ref b52)])) rfl (by rw [hml]; rfl) (argsL := [(.ref b52), (.int (1 : Int32))]) (rest := []) (lenOf own_pd0 rfl) rfl (by show 2 * 0 + _ ≤ _; exact Nat.le_of_eq rfl) (hb hby at_129) (fun _ _ => ⟨rfl, e95, (by decide : 1 + 0 ≤ _), (by decide : 7 + 0 ≤ _)⟩)
    dsimp only [Pt.U, Pt.locs, Pt.cells, Pt.slots] at X98 l98 y98 z98 st98 hQ98
    subst l98 y98 z98
    obtain ⟨rfl, N98q, e98⟩ := hQ98
    have N98 := Fr.app N95 N98q
    refine own_go (S' := T98.setTop (mkF m 132 #[.val (.int p0), .val (.int p1), .val (.long q2), .second, .val (.int (1 : Int32)), .val (.ref b52)] [(.int (own_u32 ((own_upd (own_upd (own_upd (own_upd (own_upd (own_upd (own_upd (own_upd (own_upd (own_upd (own_upd (fun _ => 0) 0 (nar .byte ((q2.toInt32).toInt8.toInt32))) 1 (nar .byte (((own_ushrL q2 (8 : Int32)).toInt32).toInt8.toInt32))) 2 (nar .byte (((own_ushrL q2 (16 : Int32)).toInt32).toInt8.toInt32))) 3 (nar .byte (((own_ushrL q2 (24 : Int32)).toInt32).toInt8.toInt32))) 4 (nar .byte (((own_ushrL q2 (32 : Int32)).toInt32).toInt8.toInt32))) 5 (nar .byte (((own_ushrL q2 (40 : Int32)).toInt32).toInt8.toInt32))) 6 (nar .byte (((own_ushrL q2 (48 : Int32)).toInt32).toInt8.toInt32))) 1 (nar .byte ((own_ushr p0 (24 : Int32)).toInt8.toInt32))) 2 (nar .byte ((own_ushr p0 (16 : Int32)).toInt8.toInt32))) 3 (nar .byte ((own_ushr p0 (8 : Int32)).toInt8.toInt32))) 4 (nar .byte (p0.toInt8.toInt32))) ((1 : Int32)).toNatClampNeg) ((own_upd (own_upd (own_upd (own_upd (own_upd (own_upd (own_upd (own_upd (own_upd (own_upd (own_upd (fun _ => 0) 0 (nar .byte ((q2.toInt32).toInt8.toInt32))) 1 (nar .byte (((own_ushrL q2 (8 : Int32)).toInt32).toInt8.toInt32))) 2 (nar .byte (((own_ushrL q2 (16 : Int32)).toInt32).toInt8.toInt32))) 3 (nar .byte (((own_ushrL q2 (24 : Int32)).toInt32).toInt8.toInt32))) 4 (nar .byte (((own_ushrL q2 (32 : Int32)).toInt32).toInt8.toInt32))) 5 (nar .byte (((own_ushrL q2 (40 : Int32)).toInt32).toInt8.toInt32))) 6 (nar .byte (((own_ushrL q2 (48 : Int32)).toInt32).toInt8.toInt32))) 1 (nar .byte ((own_ushr p0 (24 : Int32)).toInt8.toInt32))) 2 (nar .byte ((own_ushr p0 (16 : Int32)).toInt8.toInt32))) 3 (nar .byte ((own_ushr p0 (8 : Int32)).toInt8.toInt32))) 4 (nar .byte (p0.toInt8.toInt32))) (((1 : Int32) + (1 : Int32))).toNatClampNeg) ((own_upd (own_upd (own_upd (own_upd (own_upd (own_upd (own_upd (own_upd (own_upd (own_upd (own_upd (fun _ => 0) 0 (nar .byte ((q2.toInt32).toInt8.toInt32))) 1 (nar .byte (((own_ushrL q2 (8 : Int32)).toInt32).toInt8.toInt32))) 2 (nar .byte (((own_ushrL q2 (16 : Int32)).toInt32).toInt8.toInt32))) 3 (nar .byte (((own_ushrL q2 (24 : Int32)).toInt32).toInt8.toInt32))) 4 (nar .byte (((own_ushrL q2 (32 : Int32)).toInt32).toInt8.toInt32))) 5 (nar .byte (((own_ushrL q2 (40 : Int32)).toInt32).toInt8.toInt32))) 6 (nar .byte (((own_ushrL q2 (48 : Int32)).toInt32).toInt8.toInt32))) 1 (nar .byte ((own_ushr p0 (24 : Int32)).toInt8.toInt32))) 2 (nar .byte ((own_ushr p0 (16 : Int32)).toInt8.toInt32))) 3 (nar .byte ((own_ushr p0 (8 : Int32)).toInt8.toInt32))) 4 (nar .byte (p0.toInt8.toInt32))) (((1 : Int32) + (2 : Int32))).toNatClampNeg) ((own_upd (own_upd (own_upd (own_upd (own_upd (own_upd (own_upd (own_upd (own_upd (own_upd (own_upd (fun _ => 0) 0 (nar .byte ((q2.toInt32).toInt8.toInt32))) 1 (nar .byte (((own_ushrL q2 (8 : Int32)).toInt32).toInt8.toInt32))) 2 (nar .byte (((own_ushrL q2 (16 : Int32)).toInt32).toInt8.toInt32))) 3 (nar .byte (((own_ushrL q2 (24 : Int32)).toInt32).toInt8.toInt32))) 4 (nar .byte (((own_ushrL q2 (32 : Int32)).toInt32).toInt8.toInt32))) 5 (nar .byte (((own_ushrL q2 (40 : Int32)).toInt32).toInt8.toInt32))) 6 (nar .byte (((own_ushrL q2 (48 : Int32)).toInt32).toInt8.toInt32))) 1 (nar .byte ((own_ushr p0 (24 : Int32)).toInt8.toInt32))) 2 (nar .byte ((own_ushr p0 (16 : Int32)).toInt8.toInt32))) 3 (nar .byte ((own_ushr p0 (8 : Int32)).toInt8.toInt32))) 4 (nar .byte (p0.toInt8.toInt32))) (((1 : Int32) + (3 : Int32))).toNatClampNeg)))])) st98 ?_
    refine own_go (S' := T98.setTop (mkF m 141 #[.val (.int p0), .val (.int p1), .val (.long q2), .second, .val (.int (1 : Int32)), .val (.ref b52)] [(.int (1 : Int32))])) (fun target kt => ?_) ?_
    · skip
      show Steps p.tables e below (T98.setTop (mkF m 132 #[.val (.int p0), .val (.int p1), .val (.long q2), .second, .val (.int (1 : Int32)), .val (.ref b52)] [(.int (own_u32 ((own_upd (own_upd (own_upd (own_upd (own_upd (own_upd (own_upd (own_upd (own_upd (own_upd (own_upd (fun _ => 0) 0 (nar .byte ((q2.toInt32).toInt8.toInt32))) 1 (nar .byte (((own_ushrL q2 (8 : Int32)).toInt32).toInt8.toInt32))) 2 (nar .byte (((own_ushrL q2 (16 : Int32)).toInt32).toInt8.toInt32))) 3 (nar .byte (((own_ushrL q2 (24 : Int32)).toInt32).toInt8.toInt32))) 4 (nar .byte (((own_ushrL q2 (32 : Int32)).toInt32).toInt8.toInt32))) 5 (nar .byte (((own_ushrL q2 (40 : Int32)).toInt32).toInt8.toInt32))) 6 (nar .byte (((own_ushrL q2 (48 : Int32)).toInt32).toInt8.toInt32))) 1 (nar .byte ((own_ushr p0 (24 : Int32)).toInt8.toInt32))) 2 (nar .byte ((own_ushr p0 (16 : Int32)).toInt8.toInt32))) 3 (nar .byte ((own_ushr p0 (8 : Int32)).toInt8.toInt32))) 4 (nar .byte (p0.toInt8.toInt32))) ((1 : Int32)).toNatClampNeg) ((own_upd (own_upd (own_upd (own_upd (own_upd (own_upd (own_upd (own_upd (own_upd (own_upd (own_upd (fun _ => 0) 0 (nar .byte ((q2.toInt32).toInt8.toInt32))) 1 (nar .byte (((own_ushrL q2 (8 : Int32)).toInt32).toInt8.toInt32))) 2 (nar .byte (((own_ushrL q2 (16 : Int32)).toInt32).toInt8.toInt32))) 3 (nar .byte (((own_ushrL q2 (24 : Int32)).toInt32).toInt8.toInt32))) 4 (nar .byte (((own_ushrL q2 (32 : Int32)).toInt32).toInt8.toInt32))) 5 (nar .byte (((own_ushrL q2 (40 : Int32)).toInt32).toInt8.toInt32))) 6 (nar .byte (((own_ushrL q2 (48 : Int32)).toInt32).toInt8.toInt32))) 1 (nar .byte ((own_ushr p0 (24 : Int32)).toInt8.toInt32))) 2 (nar .byte ((own_ushr p0 (16 : Int32)).toInt8.toInt32))) 3 (nar .byte ((own_ushr p0 (8 : Int32)).toInt8.toInt32))) 4 (nar .byte (p0.toInt8.toInt32))) (((1 : Int32) + (1 : Int32))).toNatClampNeg) ((own_upd (own_upd (own_upd (own_upd (own_upd (own_upd (own_upd (own_upd (own_upd (own_upd (own_upd (fun _ => 0) 0 (nar .byte ((q2.toInt32).toInt8.toInt32))) 1 (nar .byte (((own_ushrL q2 (8 : Int32)).toInt32).toInt8.toInt32))) 2 (nar .byte (((own_ushrL q2 (16 : Int32)).toInt32).toInt8.toInt32))) 3 (nar .byte (((own_ushrL q2 (24 : Int32)).toInt32).toInt8.toInt32))) 4 (nar .byte (((own_ushrL q2 (32 : Int32)).toInt32).toInt8.toInt32))) 5 (nar .byte (((own_ushrL q2 (40 : Int32)).toInt32).toInt8.toInt32))) 6 (nar .byte (((own_ushrL q2 (48 : Int32)).toInt32).toInt8.toInt32))) 1 (nar .byte ((own_ushr p0 (24 : Int32)).toInt8.toInt32))) 2 (nar .byte ((own_ushr p0 (16 : Int32)).toInt8.toInt32))) 3 (nar .byte ((own_ushr p0 (8 : Int32)).toInt8.toInt32))) 4 (nar .byte (p0.toInt8.toInt32))) (((1 : Int32) + (2 : Int32))).toNatClampNeg) ((own_upd (own_upd (own_upd (own_upd (own_upd (own_upd (own_upd (own_upd (own_upd (own_upd (own_upd (fun _ => 0) 0 (nar .byte ((q2.toInt32).toInt8.toInt32))) 1 (nar .byte (((own_ushrL q2 (8 : Int32)).toInt32).toInt8.toInt32))) 2 (nar .byte (((own_ushrL q2 (16 : Int32)).toInt32).toInt8.toInt32))) 3 (nar .byte (((own_ushrL q2 (24 : Int32)).toInt32).toInt8.toInt32))) 4 (nar .byte (((own_ushrL q2 (32 : Int32)).toInt32).toInt8.toInt32))) 5 (nar .byte (((own_ushrL q2 (40 : Int32)).toInt32).toInt8.toInt32))) 6 (nar .byte (((own_ushrL q2 (48 : Int32)).toInt32).toInt8.toInt32))) 1 (nar .byte ((own_ushr p0 (24 : Int32)).toInt8.toInt32))) 2 (nar .byte ((own_ushr p0 (16 : Int32)).toInt8.toInt32))) 3 (nar .byte ((own_ushr p0 (8 : Int32)).toInt8.toInt32))) 4 (nar .byte (p0.toInt8.toInt32))) (((1 : Int32) + (3 : Int32))).toNatClampNeg)))])) _
      refine XS.iloadN X98.here hx rfl (hb hby at_132) rfl ?_
      show Steps p.tables e below (T98.setTop (mkF m 133 #[.val (.int p0), .val (.int p1), .val (.long q2), .second, .val (.int (1 : Int32)), .val (.ref b52)] [(.int p0), (.int (own_u32 ((own_upd (own_upd (own_upd (own_upd (own_upd (own_upd (own_upd (own_upd (own_upd (own_upd (own_upd (fun _ => 0) 0 (nar .byte ((q2.toInt32).toInt8.toInt32))) 1 (nar .byte (((own_ushrL q2 (8 : Int32)).toInt32).toInt8.toInt32))) 2 (nar .byte (((own_ushrL q2 (16 : Int32)).toInt32).toInt8.toInt32))) 3 (nar .byte (((own_ushrL q2 (24 : Int32)).toInt32).toInt8.toInt32))) 4 (nar .byte (((own_ushrL q2 (32 : Int32)).toInt32).toInt8.toInt32))) 5 (nar .byte (((own_ushrL q2 (40 : Int32)).toInt32).toInt8.toInt32))) 6 (nar .byte (((own_ushrL q2 (48 : Int32)).toInt32).toInt8.toInt32))) 1 (nar .byte ((own_ushr p0 (24 : Int32)).toInt8.toInt32))) 2 (nar .byte ((own_ushr p0 (16 : Int32)).toInt8.toInt32))) 3 (nar .byte ((own_ushr p0 (8 : Int32)).toInt8.toInt32))) 4 (nar .byte (p0.toInt8.toInt32))) ((1 : Int32)).toNatClampNeg) ((own_upd (own_upd (own_upd (own_upd (own_upd (own_upd (own_upd (own_upd (own_upd (own_upd (own_upd (fun _ => 0) 0 (nar .byte ((q2.toInt32).toInt8.toInt32))) 1 (nar .byte (((own_ushrL q2 (8 : Int32)).toInt32).toInt8.toInt32))) 2 (nar .byte (((own_ushrL q2 (16 : Int32)).toInt32).toInt8.toInt32))) 3 (nar .byte (((own_ushrL q2 (24 : Int32)).toInt32).toInt8.toInt32))) 4 (nar .byte (((own_ushrL q2 (32 : Int32)).toInt32).toInt8.toInt32))) 5 (nar .byte (((own_ushrL q2 (40 : Int32)).toInt32).toInt8.toInt32))) 6 (nar .byte (((own_ushrL q2 (48 : Int32)).toInt32).toInt8.toInt32))) 1 (nar .byte ((own_ushr p0 (24 : Int32)).toInt8.toInt32))) 2 (nar .byte ((own_ushr p0 (16 : Int32)).toInt8.toInt32))) 3 (nar .byte ((own_ushr p0 (8 : Int32)).toInt8.toInt32))) 4 (nar .byte (p0.toInt8.toInt32))) (((1 : Int32) + (1 : Int32))).toNatClampNeg) ((own_upd (own_upd (own_upd (own_upd (own_upd (own_upd (own_upd (own_upd (own_upd (own_upd (own_upd (fun _ => 0) 0 (nar .byte ((q2.toInt32).toInt8.toInt32))) 1 (nar .byte (((own_ushrL q2 (8 : Int32)).toInt32).toInt8.toInt32))) 2 (nar .byte (((own_ushrL q2 (16 : Int32)).toInt32).toInt8.toInt32))) 3 (nar .byte (((own_ushrL q2 (24 : Int32)).toInt32).toInt8.toInt32))) 4 (nar .byte (((own_ushrL q2 (32 : Int32)).toInt32).toInt8.toInt32))) 5 (nar .byte (((own_ushrL q2 (40 : Int32)).toInt32).toInt8.toInt32))) 6 (nar .byte (((own_ushrL q2 (48 : Int32)).toInt32).toInt8.toInt32))) 1 (nar .byte ((own_ushr p0 (24 : Int32)).toInt8.toInt32))) 2 (nar .byte ((own_ushr p0 (16 : Int32)).toInt8.toInt32))) 3 (nar .byte ((own_ushr p0 (8 : Int32)).toInt8.toInt32))) 4 (nar .byte (p0.toInt8.toInt32))) (((1 : Int32) + (2 : Int32))).toNatClampNeg) ((own_upd (own_upd (own_upd (own_upd (own_upd (own_upd (own_upd (own_upd (own_upd (own_upd (own_upd (fun _ => 0) 0 (nar .byte ((q2.toInt32).toInt8.toInt32))) 1 (nar .byte (((own_ushrL q2 (8 : Int32)).toInt32).toInt8.toInt32))) 2 (nar .byte (((own_ushrL q2 (16 : Int32)).toInt32).toInt8.toInt32))) 3 (nar .byte (((own_ushrL q2 (24 : Int32)).toInt32).toInt8.toInt32))) 4 (nar .byte (((own_ushrL q2 (32 : Int32)).toInt32).toInt8.toInt32))) 5 (nar .byte (((own_ushrL q2 (40 : Int32)).toInt32).toInt8.toInt32))) 6 (nar .byte (((own_ushrL q2 (48 : Int32)).toInt32).toInt8.toInt32))) 1 (nar .byte ((own_ushr p0 (24 : Int32)).toInt8.toInt32))) 2 (nar .byte ((own_ushr p0 (16 : Int32)).toInt8.toInt32))) 3 (nar .byte ((own_ushr p0 (8 : Int32)).toInt8.toInt32))) 4 (nar .byte (p0.toInt8.toInt32))) (((1 : Int32) + (3 : Int32))).toNatClampNeg)))])) _
      refine XS.icmpNo X98.here hx rfl (hb hby at_133) rfl (teq (own_back p0 : (own_u32 ((own_upd (own_upd (own_upd (own_upd (own_upd (own_upd (own_upd (own_upd (own_upd (own_upd (own_upd (fun _ => 0) 0 (nar .byte ((q2.toInt32).toInt8.toInt32))) 1 (nar .byte (((own_ushrL q2 (8 : Int32)).toInt32).toInt8.toInt32))) 2 (nar .byte (((own_ushrL q2 (16 : Int32)).toInt32).toInt8.toInt32))) 3 (nar .byte (((own_ushrL q2 (24 : Int32)).toInt32).toInt8.toInt32))) 4 (nar .byte (((own_ushrL q2 (32 : Int32)).toInt32).toInt8.toInt32))) 5 (nar .byte (((own_ushrL q2 (40 : Int32)).toInt32).toInt8.toInt32))) 6 (nar .byte (((own_ushrL q2 (48 : Int32)).toInt32).toInt8.toInt32))) 1 (nar .byte ((own_ushr p0 (24 : Int32)).toInt8.toInt32))) 2 (nar .byte ((own_ushr p0 (16 : Int32)).toInt8.toInt32))) 3 (nar .byte ((own_ushr p0 (8 : Int32)).toInt8.toInt32))) 4 (nar .byte (p0.toInt8.toInt32))) ((1 : Int32)).toNatClampNeg) ((own_upd (own_upd (own_upd (own_upd (own_upd (own_upd (own_upd (own_upd (own_upd (own_upd (own_upd (fun _ => 0) 0 (nar .byte ((q2.toInt32).toInt8.toInt32))) 1 (nar .byte (((own_ushrL q2 (8 : Int32)).toInt32).toInt8.toInt32))) 2 (nar .byte (((own_ushrL q2 (16 : Int32)).toInt32).toInt8.toInt32))) 3 (nar .byte (((own_ushrL q2 (24 : Int32)).toInt32).toInt8.toInt32))) 4 (nar .byte (((own_ushrL q2 (32 : Int32)).toInt32).toInt8.toInt32))) 5 (nar .byte (((own_ushrL q2 (40 : Int32)).toInt32).toInt8.toInt32))) 6 (nar .byte (((own_ushrL q2 (48 : Int32)).toInt32).toInt8.toInt32))) 1 (nar .byte ((own_ushr p0 (24 : Int32)).toInt8.toInt32))) 2 (nar .byte ((own_ushr p0 (16 : Int32)).toInt8.toInt32))) 3 (nar .byte ((own_ushr p0 (8 : Int32)).toInt8.toInt32))) 4 (nar .byte (p0.toInt8.toInt32))) (((1 : Int32) + (1 : Int32))).toNatClampNeg) ((own_upd (own_upd (own_upd (own_upd (own_upd (own_upd (own_upd (own_upd (own_upd (own_upd (own_upd (fun _ => 0) 0 (nar .byte ((q2.toInt32).toInt8.toInt32))) 1 (nar .byte (((own_ushrL q2 (8 : Int32)).toInt32).toInt8.toInt32))) 2 (nar .byte (((own_ushrL q2 (16 : Int32)).toInt32).toInt8.toInt32))) 3 (nar .byte (((own_ushrL q2 (24 : Int32)).toInt32).toInt8.toInt32))) 4 (nar .byte (((own_ushrL q2 (32 : Int32)).toInt32).toInt8.toInt32))) 5 (nar .byte (((own_ushrL q2 (40 : Int32)).toInt32).toInt8.toInt32))) 6 (nar .byte (((own_ushrL q2 (48 : Int32)).toInt32).toInt8.toInt32))) 1 (nar .byte ((own_ushr p0 (24 : Int32)).toInt8.toInt32))) 2 (nar .byte ((own_ushr p0 (16 : Int32)).toInt8.toInt32))) 3 (nar .byte ((own_ushr p0 (8 : Int32)).toInt8.toInt32))) 4 (nar .byte (p0.toInt8.toInt32))) (((1 : Int32) + (2 : Int32))).toNatClampNeg) ((own_upd (own_upd (own_upd (own_upd (own_upd (own_upd (own_upd (own_upd (own_upd (own_upd (own_upd (fun _ => 0) 0 (nar .byte ((q2.toInt32).toInt8.toInt32))) 1 (nar .byte (((own_ushrL q2 (8 : Int32)).toInt32).toInt8.toInt32))) 2 (nar .byte (((own_ushrL q2 (16 : Int32)).toInt32).toInt8.toInt32))) 3 (nar .byte (((own_ushrL q2 (24 : Int32)).toInt32).toInt8.toInt32))) 4 (nar .byte (((own_ushrL q2 (32 : Int32)).toInt32).toInt8.toInt32))) 5 (nar .byte (((own_ushrL q2 (40 : Int32)).toInt32).toInt8.toInt32))) 6 (nar .byte (((own_ushrL q2 (48 : Int32)).toInt32).toInt8.toInt32))) 1 (nar .byte ((own_ushr p0 (24 : Int32)).toInt8.toInt32))) 2 (nar .byte ((own_ushr p0 (16 : Int32)).toInt8.toInt32))) 3 (nar .byte ((own_ushr p0 (8 : Int32)).toInt8.toInt32))) 4 (nar .byte (p0.toInt8.toInt32))) (((1 : Int32) + (3 : Int32))).toNatClampNeg)) = p0)).2 ?_
      show Steps p.tables e below (T98.setTop (mkF m 136 #[.val (.int p0), .val (.int p1), .val (.long q2), .second, .val (.int (1 : Int32)), .val (.ref b52)] [])) _
      refine XS.iconst X98.here hx rfl (hb hby at_136) ?_
      show Steps p.tables e below (T98.setTop (mkF m 137 #[.val (.int p0), .val (.int p1), .val (.long q2), .second, .val (.int (1 : Int32)), .val (.ref b52)] [(.int (1 : Int32))])) _
      refine XS.goto X98.here hx rfl (pc0 := 137) (pc' := 141) rfl (hb hby at_137) (by decide) (by decide) ?_
      exact kt
    obtain ⟨fs, hr, hrun, hended, hW, hsame⟩ := X98.leave (v := some (.int (1 : Int32))) (fun h => by rw [Bd.returns] at h; cases h)
    refine ⟨_, _, ?_, hrun, hended, _, _, rfl, ?_, ⟨_, rfl⟩, hW, hsame.mono (by decide) (by decide)⟩
    · exact retN X98 hx (t := .boolean) Bd.returns (by simp) (hb hby at_141) hr
    · show Q0 Z p0 p1 q2 h0 n0 _ T98.heap _
      rw [e98]
      exact ⟨rfl, N98⟩
  · subst hs_off
    refine own_go (S' := s₁.setTop (mkF m 10 #[.val (.int p0), .val (.int p1), .val (.long q2), .second, .val (.int (2 : Int32)), .unset] [(.int (7 : Int32))])) (fun target kt => ?_) ?_
    · skip
      show Steps p.tables e below (s₁.setTop (mkF m 8 #[.val (.int p0), .val (.int p1), .val (.long q2), .second, .val (.int (2 : Int32)), .unset] [])) _
      refine XS.bipush X0.here hx rfl (hb hby at_8) ?_
      exact kt
    obtain ⟨T99, h99, k99, X99, e99, E99, A99, B99, st99⟩ := newPE X0 hx hZ (hw _ (List.mem_of_getElem? (i := 1) rfl)) e0 (g := (mkF m 10 #[.val (.int p0), .val (.int p1), .val (.long q2), .second, .val (.int (2 : Int32)), .unset] [(.int (7 : Int32))])) rfl (hb hby at_10) rfl (by decide) (cap := 7) (by decide) (by decide) (by decide) (by decide) (ad := "[B") (by decide)
    obtain ⟨b99, g99⟩ : ∃ z, z = h0.size := ⟨_, rfl⟩
    rw [← g99] at A99 B99 st99
    have g_b99 : n0 ≤ b99 := Nat.le_trans Z0 (Nat.le_of_eq g99.symm)
    have Z99 : n0 ≤ h99.size := Nat.le_trans Z0 E99.1
    have f100 : own_AI Z h99 b99 .byte 7 (fun _ => 0) := own_AI.fresh A99 rfl
    refine own_go (S' := T99.setTop (mkF m 12 #[.val (.int p0), .val (.int p1), .val (.long q2), .second, .val (.int (2 : Int32)), .unset] [(.ref b99)])) st99 ?_
    refine own_go (S' := T99.setTop (mkF m 20 #[.val (.int p0), .val (.int p1), .val (.long q2), .second, .val (.int (2 : Int32)), .val (.ref b99)] [(.int ((q2.toInt32).toInt8.toInt32)), (.int (0 : Int32)), (.ref b99)])) (fun target kt => ?_) ?_
    · skip
      show Steps p.tables e below (T99.setTop (mkF m 12 #[.val (.int p0), .val (.int p1), .val (.long q2), .second, .val (.int (2 : Int32)), .unset] [(.ref b99)])) _
      refine XS.astore X99.here hx rfl (hb hby at_12) rfl rfl (l' := #[.val (.int p0), .val (.int p1), .val (.long q2), .second, .val (.int (2 : Int32)), .val (.ref b99)]) rfl ?_
      show Steps p.tables e below (T99.setTop (mkF m 14 #[.val (.int p0), .val (.int p1), .val (.long q2), .second, .val (.int (2 : Int32)), .val (.ref b99)] [])) _
      refine XS.aload X99.here hx rfl (hb hby at_14) rfl rfl ?_
      show Steps p.tables e below (T99.setTop (mkF m 16 #[.val (.int p0), .val (.int p1), .val (.long q2), .second, .val (.int (2 : Int32)), .val (.ref b99)] [(.ref b99)])) _
      refine XS.iconst X99.here hx rfl (hb hby at_16) ?_
      show Steps p.tables e below (T99.setTop (mkF m 17 #[.val (.int p0), .val (.int p1), .val (.long q2), .second, .val (.int (2 : Int32)), .val (.ref b99)] [(.int (0 : Int32)), (.ref b99)])) _
      refine XS.lloadN X99.here hx rfl (hb hby at_17) rfl ?_
      show Steps p.tables e below (T99.setTop (mkF m 18 #[.val (.int p0), .val (.int p1), .val (.long q2), .second, .val (.int (2 : Int32)), .val (.ref b99)] [(.long q2), (.int (0 : Int32)), (.ref b99)])) _
      refine XS.l2i X99.here hx rfl (hb hby at_18) rfl ?_
      show Steps p.tables e below (T99.setTop (mkF m 19 #[.val (.int p0), .val (.int p1), .val (.long q2), .second, .val (.int (2 : Int32)), .val (.ref b99)] [(.int (q2.toInt32)), (.int (0 : Int32)), (.ref b99)])) _
      refine XS.i2b X99.here hx rfl (hb hby at_19) rfl ?_
      exact kt
    obtain ⟨c101, Ar101, S101, M101, H101⟩ := id f100
    have hin101 : ¬ ((0 : Int32) < 0 ∨ c101.slots.size ≤ ((0 : Int32)).toNatClampNeg) := own_in S101 ⟨by decide, by decide⟩
    obtain ⟨T102, h102, X102, e102, W102, st102⟩ := stB X99 hx hZ e99 Ar101 (j := (0 : Int32)) hin101 (g := (mkF m 20 #[.val (.int p0), .val (.int p1), .val (.long q2), .second, .val (.int (2 : Int32)), .val (.ref b99)] [(.int ((q2.toInt32).toInt8.toInt32)), (.int (0 : Int32)), (.ref b99)])) rfl rfl (hb hby at_20)
    have f104 : Exa Z h102 b99 "[B" := B99.wr W102
    have f103 : own_AI Z h102 b99 .byte 7 (own_upd (fun _ => 0) 0 (nar .byte ((q2.toInt32).toInt8.toInt32))) := own_AI.set Ar101 S101 M101 H101 W102
    have Z102 : n0 ≤ h102.size := Nat.le_trans Z99 (Keep.of_wr W102).1
    have N102 := Fr.snoc X102 N0 g_b99
    refine own_go (S' := T102.setTop (mkF m 21 #[.val (.int p0), .val (.int p1), .val (.long q2), .second, .val (.int (2 : Int32)), .val (.ref b99)] [])) st102 ?_
    refine own_go (S' := T102.setTop (mkF m 30 #[.val (.int p0), .val (.int p1), .val (.long q2), .second, .val (.int (2 : Int32)), .val (.ref b99)] [(.int (((own_ushrL q2 (8 : Int32)).toInt32).toInt8.toInt32)), (.int (1 : Int32)), (.ref b99)])) (fun target kt => ?_) ?_
    · skip
      show Steps p.tables e below (T102.setTop (mkF m 21 #[.val (.int p0), .val (.int p1), .val (.long q2), .second, .val (.int (2 : Int32)), .val (.ref b99)] [])) _
      refine XS.aload X102.here hx rfl (hb hby at_21) rfl rfl ?_
      show Steps p.tables e below (T102.setTop (mkF m 23 #[.val (.int p0), .val (.int p1), .val (.long q2), .second, .val (.int (2 : Int32)), .val (.ref b99)] [(.ref b99)])) _
      refine XS.iconst X102.here hx rfl (hb hby at_23) ?_
      show Steps p.tables e below (T102.setTop (mkF m 24 #[.val (.int p0), .val (.int p1), .val (.long q2), .second, .val (.int (2 : Int32)), .val (.ref b99)] [(.int (1 : Int32)), (.ref b99)])) _
      refine XS.lloadN X102.here hx rfl (hb hby at_24) rfl ?_
      show Steps p.tables e below (T102.setTop (mkF m 25 #[.val (.int p0), .val (.int p1), .val (.long q2), .second, .val (.int (2 : Int32)), .val (.ref b99)] [(.long q2), (.int (1 : Int32)), (.ref b99)])) _
      refine XS.bipush X102.here hx rfl (hb hby at_25) ?_
      show Steps p.tables e below (T102.setTop (mkF m 27 #[.val (.int p0), .val (.int p1), .val (.long q2), .second, .val (.int (2 : Int32)), .val (.ref b99)] [(.int (8 : Int32)), (.long q2), (.int (1 : Int32)), (.ref b99)])) _
      refine XS.lushr X102.here hx rfl (hb hby at_27) rfl ?_
      show Steps p.tables e below (T102.setTop (mkF m 28 #[.val (.int p0), .val (.int p1), .val (.long q2), .second, .val (.int (2 : Int32)), .val (.ref b99)] [(.long (own_ushrL q2 (8 : Int32))), (.int (1 : Int32)), (.ref b99)])) _
      refine XS.l2i X102.here hx rfl (hb hby at_28) rfl ?_
      show Steps p.tables e below (T102.setTop (mkF m 29 #[.val (.int p0), .val (.int p1), .val (.long q2), .second, .val (.int (2 : Int32)), .val (.ref b99)] [(.int ((own_ushrL q2 (8 : Int32)).toInt32)), (.int (1 : Int32)), (.ref b99)])) _
      refine XS.i2b X102.here hx rfl (hb hby at_29) rfl ?_
      exact kt
    obtain ⟨c105, Ar105, S105, M105, H105⟩ := id f103
    have hin105 : ¬ ((1 : Int32) < 0 ∨ c105.slots.size ≤ ((1 : Int32)).toNatClampNeg) := own_in S105 ⟨by decide, by decide⟩
    obtain ⟨T106, h106, X106, e106, W106, st106⟩ := stB X102 hx hZ e102 Ar105 (j := (1 : Int32)) hin105 (g := (mkF m 30 #[.val (.int p0), .val (.int p1), .val (.long q2), .second, .val (.int (2 : Int32)), .val (.ref b99)] [(.int (((own_ushrL q2 (8 : Int32)).toInt32).toInt8.toInt32)), (.int (1 : Int32)), (.ref b99)])) rfl rfl (hb hby at_30)
    have f108 : Exa Z h106 b99 "[B" := f104.wr W106
    have f107 : own_AI Z h106 b99 .byte 7 (own_upd (own_upd (fun _ => 0) 0 (nar .byte ((q2.toInt32).toInt8.toInt32))) 1 (nar .byte (((own_ushrL q2 (8 : Int32)).toInt32).toInt8.toInt32))) := own_AI.set Ar105 S105 M105 H105 W106
    have Z106 : n0 ≤ h106.size := Nat.le_trans Z102 (Keep.of_wr W106).1
    have N106 := Fr.snoc X106 N102 g_b99
    refine own_go (S' := T106.setTop (mkF m 31 #[.val (.int p0), .val (.int p1), .val (.long q2), .second, .val (.int (2 : Int32)), .val (.ref b99)] [])) st106 ?_
    refine own_go (S' := T106.setTop (mkF m 40 #[.val (.int p0), .val (.int p1), .val (.long q2), .second, .val (.int (2 : Int32)), .val (.ref b99)] [(.int (((own_ushrL q2 (16 : Int32)).toInt32).toInt8.toInt32)), (.int (2 : Int32)), (.ref b99)])) (fun target kt => ?_) ?_
    · skip
      show Steps p.tables e below (T106.setTop (mkF m 31 #[.val (.int p0), .val (.int p1), .val (.long q2), .second, .val (.int (2 : Int32)), .val (.ref b99)] [])) _
      refine XS.aload X106.here hx rfl (hb hby at_31) rfl rfl ?_
      show Steps p.tables e below (T106.setTop (mkF m 33 #[.val (.int p0), .val (.int p1), .val (.long q2), .second, .val (.int (2 : Int32)), .val (.ref b99)] [(.ref b99)])) _
      refine XS.iconst X106.here hx rfl (hb hby at_33) ?_
      show Steps p.tables e below (T106.setTop (mkF m 34 #[.val (.int p0), .val (.int p1), .val (.long q2), .second, .val (.int (2 : Int32)), .val (.ref b99)] [(.int (2 : Int32)), (.ref b99)])) _
      refine XS.lloadN X106.here hx rfl (hb hby at_34) rfl ?_
      show Steps p.tables e below (T106.setTop (mkF m 35 #[.val (.int p0), .val (.int p1), .val (.long q2), .second, .val (.int (2 : Int32)), .val (.ref b99)] [(.long q2), (.int (2 : Int32)), (.ref b99)])) _
      refine XS.bipush X106.here hx rfl (hb hby at_35) ?_
      show Steps p.tables e below (T106.setTop (mkF m 37 #[.val (.int p0), .val (.int p1), .val (.long q2), .second, .val (.int (2 : Int32)), .val (.ref b99)] [(.int (16 : Int32)), (.long q2), (.int (2 : Int32)), (.ref b99)])) _
      refine XS.lushr X106.here hx rfl (hb hby at_37) rfl ?_
      show Steps p.tables e below (T106.setTop (mkF m 38 #[.val (.int p0), .val (.int p1), .val (.long q2), .second, .val (.int (2 : Int32)), .val (.ref b99)] [(.long (own_ushrL q2 (16 : Int32))), (.int (2 : Int32)), (.ref b99)])) _
      refine XS.l2i X106.here hx rfl (hb hby at_38) rfl ?_
      show Steps p.tables e below (T106.setTop (mkF m 39 #[.val (.int p0), .val (.int p1), .val (.long q2), .second, .val (.int (2 : Int32)), .val (.ref b99)] [(.int ((own_ushrL q2 (16 : Int32)).toInt32)), (.int (2 : Int32)), (.ref b99)])) _
      refine XS.i2b X106.here hx rfl (hb hby at_39) rfl ?_
      exact kt
    obtain ⟨c109, Ar109, S109, M109, H109⟩ := id f107
    have hin109 : ¬ ((2 : Int32) < 0 ∨ c109.slots.size ≤ ((2 : Int32)).toNatClampNeg) := own_in S109 ⟨by decide, by decide⟩
    obtain ⟨T110, h110, X110, e110, W110, st110⟩ := stB X106 hx hZ e106 Ar109 (j := (2 : Int32)) hin109 (g := (mkF m 40 #[.val (.int p0), .val (.int p1), .val (.long q2), .second, .val (.int (2 : Int32)), .val (.ref b99)] [(.int (((own_ushrL q2 (16 : Int32)).toInt32).toInt8.toInt32)), (.int (2 : Int32)), (.ref b99)])) rfl rfl (hb hby at_40)
    have f112 : Exa Z h110 b99 "[B" := f108.wr W110
    have f111 : own_AI Z h110 b99 .byte 7 (own_upd (own_upd (own_upd (fun _ => 0) 0 (nar .byte ((q2.toInt32).toInt8.toInt32))) 1 (nar .byte (((own_ushrL q2 (8 : Int32)).toInt32).toInt8.toInt32))) 2 (nar .byte (((own_ushrL q2 (16 : Int32)).toInt32).toInt8.toInt32))) := own_AI.set Ar109 S109 M109 H109 W110
    have Z110 : n0 ≤ h110.size := Nat.le_trans Z106 (Keep.of_wr W110).1
    have N110 := Fr.snoc X110 N106 g_b99
    refine own_go (S' := T110.setTop (mkF m 41 #[.val (.int p0), .val (.int p1), .val (.long q2), .second, .val (.int (2 : Int32)), .val (.ref b99)] [])) st110 ?_
    refine own_go (S' := T110.setTop (mkF m 50 #[.val (.int p0), .val (.int p1), .val (.long q2), .second, .val (.int (2 : Int32)), .val (.ref b99)] [(.int (((own_ushrL q2 (24 : Int32)).toInt32).toInt8.toInt32)), (.int (3 : Int32)), (.ref b99)])) (fun target kt => ?_) ?_
    · skip
      show Steps p.tables e below (T110.setTop (mkF m 41 #[.val (.int p0), .val (.int p1), .val (.long q2), .second, .val (.int (2 : Int32)), .val (.ref b99)] [])) _
      refine XS.aload X110.here hx rfl (hb hby at_41) rfl rfl ?_
      show Steps p.tables e below (T110.setTop (mkF m 43 #[.val (.int p0), .val (.int p1), .val (.long q2), .second, .val (.int (2 : Int32)), .val (.ref b99)] [(.ref b99)])) _
      refine XS.iconst X110.here hx rfl (hb hby at_43) ?_
      show Steps p.tables e below (T110.setTop (mkF m 44 #[.val (.int p0), .val (.int p1), .val (.long q2), .second, .val (.int (2 : Int32)), .val (.ref b99)] [(.int (3 : Int32)), (.ref b99)])) _
      refine XS.lloadN X110.here hx rfl (hb hby at_44) rfl ?_
      show Steps p.tables e below (T110.setTop (mkF m 45 #[.val (.int p0), .val (.int p1), .val (.long q2), .second, .val (.int (2 : Int32)), .val (.ref b99)] [(.long q2), (.int (3 : Int32)), (.ref b99)])) _
      refine XS.bipush X110.here hx rfl (hb hby at_45) ?_
      show Steps p.tables e below (T110.setTop (mkF m 47 #[.val (.int p0), .val (.int p1), .val (.long q2), .second, .val (.int (2 : Int32)), .val (.ref b99)] [(.int (24 : Int32)), (.long q2), (.int (3 : Int32)), (.ref b99)])) _
      refine XS.lushr X110.here hx rfl (hb hby at_47) rfl ?_
      show Steps p.tables e below (T110.setTop (mkF m 48 #[.val (.int p0), .val (.int p1), .val (.long q2), .second, .val (.int (2 : Int32)), .val (.ref b99)] [(.long (own_ushrL q2 (24 : Int32))), (.int (3 : Int32)), (.ref b99)])) _
      refine XS.l2i X110.here hx rfl (hb hby at_48) rfl ?_
      show Steps p.tables e below (T110.setTop (mkF m 49 #[.val (.int p0), .val (.int p1), .val (.long q2), .second, .val (.int (2 : Int32)), .val (.ref b99)] [(.int ((own_ushrL q2 (24 : Int32)).toInt32)), (.int (3 : Int32)), (.ref b99)])) _
      refine XS.i2b X110.here hx rfl (hb hby at_49) rfl ?_
      exact kt
    obtain ⟨c113, Ar113, S113, M113, H113⟩ := id f111
    have hin113 : ¬ ((3 : Int32) < 0 ∨ c113.slots.size ≤ ((3 : Int32)).toNatClampNeg) := own_in S113 ⟨by decide, by decide⟩
    obtain ⟨T114, h114, X114, e114, W114, st114⟩ := stB X110 hx hZ e110 Ar113 (j := (3 : Int32)) hin113 (g := (mkF m 50 #[.val (.int p0), .val (.int p1), .val (.long q2), .second, .val (.int (2 : Int32)), .val (.ref b99)] [(.int (((own_ushrL q2 (24 : Int32)).toInt32).toInt8.toInt32)), (.int (3 : Int32)), (.ref b99)])) rfl rfl (hb hby at_50)
    have f116 : Exa Z h114 b99 "[B" := f112.wr W114
    have f115 : own_AI Z h114 b99 .byte 7 (own_upd (own_upd (own_upd (own_upd (fun _ => 0) 0 (nar .byte ((q2.toInt32).toInt8.toInt32))) 1 (nar .byte (((own_ushrL q2 (8 : Int32)).toInt32).toInt8.toInt32))) 2 (nar .byte (((own_ushrL q2 (16 : Int32)).toInt32).toInt8.toInt32))) 3 (nar .byte (((own_ushrL q2 (24 : Int32)).toInt32).toInt8.toInt32))) := own_AI.set Ar113 S113 M113 H113 W114
    have Z114 : n0 ≤ h114.size := Nat.le_trans Z110 (Keep.of_wr W114).1
    have N114 := Fr.snoc X114 N110 g_b99
    refine own_go (S' := T114.setTop (mkF m 51 #[.val (.int p0), .val (.int p1), .val (.long q2), .second, .val (.int (2 : Int32)), .val (.ref b99)] [])) st114 ?_
    refine own_go (S' := T114.setTop (mkF m 60 #[.val (.int p0), .val (.int p1), .val (.long q2), .second, .val (.int (2 : Int32)), .val (.ref b99)] [(.int (((own_ushrL q2 (32 : Int32)).toInt32).toInt8.toInt32)), (.int (4 : Int32)), (.ref b99)])) (fun target kt => ?_) ?_
    · skip
      show Steps p.tables e below (T114.setTop (mkF m 51 #[.val (.int p0), .val (.int p1), .val (.long q2), .second, .val (.int (2 : Int32)), .val (.ref b99)] [])) _
      refine XS.aload X114.here hx rfl (hb hby at_51) rfl rfl ?_
      show Steps p.tables e below (T114.setTop (mkF m 53 #[.val (.int p0), .val (.int p1), .val (.long q2), .second, .val (.int (2 : Int32)), .val (.ref b99)] [(.ref b99)])) _
      refine XS.iconst X114.here hx rfl (hb hby at_53) ?_
      show Steps p.tables e below (T114.setTop (mkF m 54 #[.val (.int p0), .val (.int p1), .val (.long q2), .second, .val (.int (2 : Int32)), .val (.ref b99)] [(.int (4 : Int32)), (.ref b99)])) _
      refine XS.lloadN X114.here hx rfl (hb hby at_54) rfl ?_
      show Steps p.tables e below (T114.setTop (mkF m 55 #[.val (.int p0), .val (.int p1), .val (.long q2), .second, .val (.int (2 : Int32)), .val (.ref b99)] [(.long q2), (.int (4 : Int32)), (.ref b99)])) _
      refine XS.bipush X114.here hx rfl (hb hby at_55) ?_
      show Steps p.tables e below (T114.setTop (mkF m 57 #[.val (.int p0), .val (.int p1), .val (.long q2), .second, .val (.int (2 : Int32)), .val (.ref b99)] [(.int (32 : Int32)), (.long q2), (.int (4 : Int32)), (.ref b99)])) _
      refine XS.lushr X114.here hx rfl (hb hby at_57) rfl ?_
      show Steps p.tables e below (T114.setTop (mkF m 58 #[.val (.int p0), .val (.int p1), .val (.long q2), .second, .val (.int (2 : Int32)), .val (.ref b99)] [(.long (own_ushrL q2 (32 : Int32))), (.int (4 : Int32)), (.ref b99)])) _
      refine XS.l2i X114.here hx rfl (hb hby at_58) rfl ?_
      show Steps p.tables e below (T114.setTop (mkF m 59 #[.val (.int p0), .val (.int p1), .val (.long q2), .second, .val (.int (2 : Int32)), .val (.ref b99)] [(.int ((own_ushrL q2 (32 : Int32)).toInt32)), (.int (4 : Int32)), (.ref b99)])) _
      refine XS.i2b X114.here hx rfl (hb hby at_59) rfl ?_
      exact kt
    obtain ⟨c117, Ar117, S117, M117, H117⟩ := id f115
    have hin117 : ¬ ((4 : Int32) < 0 ∨ c117.slots.size ≤ ((4 : Int32)).toNatClampNeg) := own_in S117 ⟨by decide, by decide⟩
    obtain ⟨T118, h118, X118, e118, W118, st118⟩ := stB X114 hx hZ e114 Ar117 (j := (4 : Int32)) hin117 (g := (mkF m 60 #[.val (.int p0), .val (.int p1), .val (.long q2), .second, .val (.int (2 : Int32)), .val (.ref b99)] [(.int (((own_ushrL q2 (32 : Int32)).toInt32).toInt8.toInt32)), (.int (4 : Int32)), (.ref b99)])) rfl rfl (hb hby at_60)
    have f120 : Exa Z h118 b99 "[B" := f116.wr W118
    have f119 : own_AI Z h118 b99 .byte 7 (own_upd (own_upd (own_upd (own_upd (own_upd (fun _ => 0) 0 (nar .byte ((q2.toInt32).toInt8.toInt32))) 1 (nar .byte (((own_ushrL q2 (8 : Int32)).toInt32).toInt8.toInt32))) 2 (nar .byte (((own_ushrL q2 (16 : Int32)).toInt32).toInt8.toInt32))) 3 (nar .byte (((own_ushrL q2 (24 : Int32)).toInt32).toInt8.toInt32))) 4 (nar .byte (((own_ushrL q2 (32 : Int32)).toInt32).toInt8.toInt32))) := own_AI.set Ar117 S117 M117 H117 W118
    have Z118 : n0 ≤ h118.size := Nat.le_trans Z114 (Keep.of_wr W118).1
    have N118 := Fr.snoc X118 N114 g_b99
    refine own_go (S' := T118.setTop (mkF m 61 #[.val (.int p0), .val (.int p1), .val (.long q2), .second, .val (.int (2 : Int32)), .val (.ref b99)] [])) st118 ?_
    refine own_go (S' := T118.setTop (mkF m 70 #[.val (.int p0), .val (.int p1), .val (.long q2), .second, .val (.int (2 : Int32)), .val (.ref b99)] [(.int (((own_ushrL q2 (40 : Int32)).toInt32).toInt8.toInt32)), (.int (5 : Int32)), (.ref b99)])) (fun target kt => ?_) ?_
    · skip
      show Steps p.tables e below (T118.setTop (mkF m 61 #[.val (.int p0), .val (.int p1), .val (.long q2), .second, .val (.int (2 : Int32)), .val (.ref b99)] [])) _
      refine XS.aload X118.here hx rfl (hb hby at_61) rfl rfl ?_
      show Steps p.tables e below (T118.setTop (mkF m 63 #[.val (.int p0), .val (.int p1), .val (.long q2), .second, .val (.int (2 : Int32)), .val (.ref b99)] [(.ref b99)])) _
      refine XS.iconst X118.here hx rfl (hb hby at_63) ?_
      show Steps p.tables e below (T118.setTop (mkF m 64 #[.val (.int p0), .val (.int p1), .val (.long q2), .second, .val (.int (2 : Int32)), .val (.ref b99)] [(.int (5 : Int32)), (.ref b99)])) _
      refine XS.lloadN X118.here hx rfl (hb hby at_64) rfl ?_
      show Steps p.tables e below (T118.setTop (mkF m 65 #[.val (.int p0), .val (.int p1), .val (.long q2), .second, .val (.int (2 : Int32)), .val (.ref b99)] [(.long q2), (.int (5 : Int32)), (.ref b99)])) _
      refine XS.bipush X118.here hx rfl (hb hby at_65) ?_
      show Steps p.tables e below (T118.setTop (mkF m 67 #[.val (.int p0), .val (.int p1), .val (.long q2), .second, .val (.int (2 : Int32)), .val (.ref b99)] [(.int (40 : Int32)), (.long q2), (.int (5 : Int32)), (.ref b99)])) _
      refine XS.lushr X118.here hx rfl (hb hby at_67) rfl ?_
      show Steps p.tables e below (T118.setTop (mkF m 68 #[.val (.int p0), .val (.int p1), .val (.long q2), .second, .val (.int (2 : Int32)), .val (.ref b99)] [(.long (own_ushrL q2 (40 : Int32))), (.int (5 : Int32)), (.ref b99)])) _
      refine XS.l2i X118.here hx rfl (hb hby at_68) rfl ?_
      show Steps p.tables e below (T118.setTop (mkF m 69 #[.val (.int p0), .val (.int p1), .val (.long q2), .second, .val (.int (2 : Int32)), .val (.ref b99)] [(.int ((own_ushrL q2 (40 : Int32)).toInt32)), (.int (5 : Int32)), (.ref b99)])) _
      refine XS.i2b X118.here hx rfl (hb hby at_69) rfl ?_
      exact kt
    obtain ⟨c121, Ar121, S121, M121, H121⟩ := id f119
    have hin121 : ¬ ((5 : Int32) < 0 ∨ c121.slots.size ≤ ((5 : Int32)).toNatClampNeg) := own_in S121 ⟨by decide, by decide⟩
    obtain ⟨T122, h122, X122, e122, W122, st122⟩ := stB X118 hx hZ e118 Ar121 (j := (5 : Int32)) hin121 (g := (mkF m 70 #[.val (.int p0), .val (.int p1), .val (.long q2), .second, .val (.int (2 : Int32)), .val (.ref b99)] [(.int (((own_ushrL q2 (40 : Int32)).toInt32).toInt8.toInt32)), (.int (5 : Int32)), (.ref b99)])) rfl rfl (hb hby at_70)
    have f124 : Exa Z h122 b99 "[B" := f120.wr W122
    have f123 : own_AI Z h122 b99 .byte 7 (own_upd (own_upd (own_upd (own_upd (own_upd (own_upd (fun _ => 0) 0 (nar .byte ((q2.toInt32).toInt8.toInt32))) 1 (nar .byte (((own_ushrL q2 (8 : Int32)).toInt32).toInt8.toInt32))) 2 (nar .byte (((own_ushrL q2 (16 : Int32)).toInt32).toInt8.toInt32))) 3 (nar .byte (((own_ushrL q2 (24 : Int32)).toInt32).toInt8.toInt32))) 4 (nar .byte (((own_ushrL q2 (32 : Int32)).toInt32).toInt8.toInt32))) 5 (nar .byte (((own_ushrL q2 (40 : Int32)).toInt32).toInt8.toInt32))) := own_AI.set Ar121 S121 M121 H121 W122
    have Z122 : n0 ≤ h122.size := Nat.le_trans Z118 (Keep.of_wr W122).1
    have N122 := Fr.snoc X122 N118 g_b99
    refine own_go (S' := T122.setTop (mkF m 71 #[.val (.int p0), .val (.int p1), .val (.long q2), .second, .val (.int (2 : Int32)), .val (.ref b99)] [])) st122 ?_
    refine own_go (S' := T122.setTop (mkF m 81 #[.val (.int p0), .val (.int p1), .val (.long q2), .second, .val (.int (2 : Int32)), .val (.ref b99)] [(.int (((own_ushrL q2 (48 : Int32)).toInt32).toInt8.toInt32)), (.int (6 : Int32)), (.ref b99)])) (fun target kt => ?_) ?_
    · skip
      show Steps p.tables e below (T122.setTop (mkF m 71 #[.val (.int p0), .val (.int p1), .val (.long q2), .second, .val (.int (2 : Int32)), .val (.ref b99)] [])) _
      refine XS.aload X122.here hx rfl (hb hby at_71) rfl rfl ?_
      show Steps p.tables e below (T122.setTop (mkF m 73 #[.val (.int p0), .val (.int p1), .val (.long q2), .second, .val (.int (2 : Int32)), .val (.ref b99)] [(.ref b99)])) _
      refine XS.bipush X122.here hx rfl (hb hby at_73) ?_
      show Steps p.tables e below (T122.setTop (mkF m 75 #[.val (.int p0), .val (.int p1), .val (.long q2), .second, .val (.int (2 : Int32)), .val (.ref b99)] [(.int (6 : Int32)), (.ref b99)])) _
      refine XS.lloadN X122.here hx rfl (hb hby at_75) rfl ?_
      show Steps p.tables e below (T122.setTop (mkF m 76 #[.val (.int p0), .val (.int p1), .val (.long q2), .second, .val (.int (2 : Int32)), .val (.ref b99)] [(.long q2), (.int (6 : Int32)), (.ref b99)])) _
      refine XS.bipush X122.here hx rfl (hb hby at_76) ?_
      show Steps p.tables e below (T122.setTop (mkF m 78 #[.val (.int p0), .val (.int p1), .val (.long q2), .second, .val (.int (2 : Int32)), .val (.ref b99)] [(.int (48 : Int32)), (.long q2), (.int (6 : Int32)), (.ref b99)])) _
      refine XS.lushr X122.here hx rfl (hb hby at_78) rfl ?_
      show Steps p.tables e below (T122.setTop (mkF m 79 #[.val (.int p0), .val (.int p1), .val (.long q2), .second, .val (.int (2 : Int32)), .val (.ref b99)] [(.long (own_ushrL q2 (48 : Int32))), (.int (6 : Int32)), (.ref b99)])) _
      refine XS.l2i X122.here hx rfl (hb hby at_79) rfl ?_
      show Steps p.tables e below (T122.setTop (mkF m 80 #[.val (.int p0), .val (.int p1), .val (.long q2), .second, .val (.int (2 : Int32)), .val (.ref b99)] [(.int ((own_ushrL q2 (48 : Int32)).toInt32)), (.int (6 : Int32)), (.ref b99)])) _
      refine XS.i2b X122.here hx rfl (hb hby at_80) rfl ?_
      exact kt
    obtain ⟨c125, Ar125, S125, M125, H125⟩ := id f123
    have hin125 : ¬ ((6 : Int32) < 0 ∨ c125.slots.size ≤ ((6 : Int32)).toNatClampNeg) := own_in S125 ⟨by decide, by decide⟩
    obtain ⟨T126, h126, X126, e126, W126, st126⟩ := stB X122 hx hZ e122 Ar125 (j := (6 : Int32)) hin125 (g := (mkF m 81 #[.val (.int p0), .val (.int p1), .val (.long q2), .second, .val (.int (2 : Int32)), .val (.ref b99)] [(.int (((own_ushrL q2 (48 : Int32)).toInt32).toInt8.toInt32)), (.int (6 : Int32)), (.ref b99)])) rfl rfl (hb hby at_81)
    have f128 : Exa Z h126 b99 "[B" := f124.wr W126
    have f127 : own_AI Z h126 b99 .byte 7 (own_upd (own_upd (own_upd (own_upd (own_upd (own_upd (own_upd (fun _ => 0) 0 (nar .byte ((q2.toInt32).toInt8.toInt32))) 1 (nar .byte (((own_ushrL q2 (8 : Int32)).toInt32).toInt8.toInt32))) 2 (nar .byte (((own_ushrL q2 (16 : Int32)).toInt32).toInt8.toInt32))) 3 (nar .byte (((own_ushrL q2 (24 : Int32)).toInt32).toInt8.toInt32))) 4 (nar .byte (((own_ushrL q2 (32 : Int32)).toInt32).toInt8.toInt32))) 5 (nar .byte (((own_ushrL q2 (40 : Int32)).toInt32).toInt8.toInt32))) 6 (nar .byte (((own_ushrL q2 (48 : Int32)).toInt32).toInt8.toInt32))) := own_AI.set Ar125 S125 M125 H125 W126
    have Z126 : n0 ≤ h126.size := Nat.le_trans Z122 (Keep.of_wr W126).1
    have N126 := Fr.snoc X126 N122 g_b99
    refine own_go (S' := T126.setTop (mkF m 82 #[.val (.int p0), .val (.int p1), .val (.long q2), .second, .val (.int (2 : Int32)), .val (.ref b99)] [])) st126 ?_
    refine own_go (S' := T126.setTop (mkF m 91 #[.val (.int p0), .val (.int p1), .val (.long q2), .second, .val (.int (2 : Int32)), .val (.ref b99)] [(.int ((own_ushr p0 (24 : Int32)).toInt8.toInt32)), (.int (2 : Int32)), (.ref b99)])) (fun target kt => ?_) ?_
    · skip
      show Steps p.tables e below (T126.setTop (mkF m 82 #[.val (.int p0), .val (.int p1), .val (.long q2), .second, .val (.int (2 : Int32)), .val (.ref b99)] [])) _
      refine XS.aload X126.here hx rfl (hb hby at_82) rfl rfl ?_
      show Steps p.tables e below (T126.setTop (mkF m 84 #[.val (.int p0), .val (.int p1), .val (.long q2), .second, .val (.int (2 : Int32)), .val (.ref b99)] [(.ref b99)])) _
      refine XS.iload X126.here hx rfl (hb hby at_84) rfl ?_
      show Steps p.tables e below (T126.setTop (mkF m 86 #[.val (.int p0), .val (.int p1), .val (.long q2), .second, .val (.int (2 : Int32)), .val (.ref b99)] [(.int (2 : Int32)), (.ref b99)])) _
      refine XS.iloadN X126.here hx rfl (hb hby at_86) rfl ?_
      show Steps p.tables e below (T126.setTop (mkF m 87 #[.val (.int p0), .val (.int p1), .val (.long q2), .second, .val (.int (2 : Int32)), .val (.ref b99)] [(.int p0), (.int (2 : Int32)), (.ref b99)])) _
      refine XS.bipush X126.here hx rfl (hb hby at_87) ?_
      show Steps p.tables e below (T126.setTop (mkF m 89 #[.val (.int p0), .val (.int p1), .val (.long q2), .second, .val (.int (2 : Int32)), .val (.ref b99)] [(.int (24 : Int32)), (.int p0), (.int (2 : Int32)), (.ref b99)])) _
      refine XS.iushr X126.here hx rfl (hb hby at_89) rfl ?_
      show Steps p.tables e below (T126.setTop (mkF m 90 #[.val (.int p0), .val (.int p1), .val (.long q2), .second, .val (.int (2 : Int32)), .val (.ref b99)] [(.int (own_ushr p0 (24 : Int32))), (.int (2 : Int32)), (.ref b99)])) _
      refine XS.i2b X126.here hx rfl (hb hby at_90) rfl ?_
      exact kt
    obtain ⟨c129, Ar129, S129, M129, H129⟩ := id f127
    have hin129 : ¬ ((2 : Int32) < 0 ∨ c129.slots.size ≤ ((2 : Int32)).toNatClampNeg) := own_in S129 ⟨by decide, by decide⟩
    obtain ⟨T130, h130, X130, e130, W130, st130⟩ := stB X126 hx hZ e126 Ar129 (j := (2 : Int32)) hin129 (g := (mkF m 91 #[.val (.int p0), .val (.int p1), .val (.long q2), .second, .val (.int (2 : Int32)), .val (.ref b99)] [(.int ((own_ushr p0 (24 : Int32)).toInt8.toInt32)), (.int (2 : Int32)), (.ref b99)])) rfl rfl (hb hby at_91)
    have f132 : Exa Z h130 b99 "[B" := f128.wr W130
    have f131 : own_AI Z h130 b99 .byte 7 (own_upd (own_upd (own_upd (own_upd (own_upd (own_upd (own_upd (own_upd (fun _ => 0) 0 (nar .byte ((q2.toInt32).toInt8.toInt32))) 1 (nar .byte (((own_ushrL q2 (8 : Int32)).toInt32).toInt8.toInt32))) 2 (nar .byte (((own_ushrL q2 (16 : Int32)).toInt32).toInt8.toInt32))) 3 (nar .byte (((own_ushrL q2 (24 : Int32)).toInt32).toInt8.toInt32))) 4 (nar .byte (((own_ushrL q2 (32 : Int32)).toInt32).toInt8.toInt32))) 5 (nar .byte (((own_ushrL q2 (40 : Int32)).toInt32).toInt8.toInt32))) 6 (nar .byte (((own_ushrL q2 (48 : Int32)).toInt32).toInt8.toInt32))) 2 (nar .byte ((own_ushr p0 (24 : Int32)).toInt8.toInt32))) := own_AI.set Ar129 S129 M129 H129 W130
    have Z130 : n0 ≤ h130.size := Nat.le_trans Z126 (Keep.of_wr W130).1
    have N130 := Fr.snoc X130 N126 g_b99
    refine own_go (S' := T130.setTop (mkF m 92 #[.val (.int p0), .val (.int p1), .val (.long q2), .second, .val (.int (2 : Int32)), .val (.ref b99)] [])) st130 ?_
    refine own_go (S' := T130.setTop (mkF m 103 #[.val (.int p0), .val (.int p1), .val (.long q2), .second, .val (.int (2 : Int32)), .val (.ref b99)] [(.int ((own_ushr p0 (16 : Int32)).toInt8.toInt32)), (.int (3 : Int32)), (.ref b99)])) (fun target kt => ?_) ?_
    · skip
      show Steps p.tables e below (T130.setTop (mkF m 92 #[.val (.int p0), .val (.int p1), .val (.long q2), .second, .val (.int (2 : Int32)), .val (.ref b99)] [])) _
      refine XS.aload X130.here hx rfl (hb hby at_92) rfl rfl ?_
      show Steps p.tables e below (T130.setTop (mkF m 94 #[.val (.int p0), .val (.int p1), .val (.long q2), .second, .val (.int (2 : Int32)), .val (.ref b99)] [(.ref b99)])) _
      refine XS.iload X130.here hx rfl (hb hby at_94) rfl ?_
      show Steps p.tables e below (T130.setTop (mkF m 96 #[.val (.int p0), .val (.int p1), .val (.long q2), .second, .val (.int (2 : Int32)), .val (.ref b99)] [(.int (2 : Int32)), (.ref b99)])) _
      refine XS.iconst X130.here hx rfl (hb hby at_96) ?_
      show Steps p.tables e below (T130.setTop (mkF m 97 #[.val (.int p0), .val (.int p1), .val (.long q2), .second, .val (.int (2 : Int32)), .val (.ref b99)] [(.int (1 : Int32)), (.int (2 : Int32)), (.ref b99)])) _
      refine XS.iadd X130.here hx rfl (hb hby at_97) rfl ?_
      rw [show ((2 : Int32) + (1 : Int32)) = (3 : Int32) from by decide]
      show Steps p.tables e below (T130.setTop (mkF m 98 #[.val (.int p0), .val (.int p1), .val (.long q2), .second, .val (.int (2 : Int32)), .val (.ref b99)] [(.int (3 : Int32)), (.ref b99)])) _
      refine XS.iloadN X130.here hx rfl (hb hby at_98) rfl ?_
      show Steps p.tables e below (T130.setTop (mkF m 99 #[.val (.int p0), .val (.int p1), .val (.long q2), .second, .val (.int (2 : Int32)), .val (.ref b99)] [(.int p0), (.int (3 : Int32)), (.ref b99)])) _
      refine XS.bipush X130.here hx rfl (hb hby at_99) ?_
      show Steps p.tables e below (T130.setTop (mkF m 101 #[.val (.int p0), .val (.int p1), .val (.long q2), .second, .val (.int (2 : Int32)), .val (.ref b99)] [(.int (16 : Int32)), (.int p0), (.int (3 : Int32)), (.ref b99)])) _
      refine XS.iushr X130.here hx rfl (hb hby at_101) rfl ?_
      show Steps p.tables e below (T130.setTop (mkF m 102 #[.val (.int p0), .val (.int p1), .val (.long q2), .second, .val (.int (2 : Int32)), .val (.ref b99)] [(.int (own_ushr p0 (16 : Int32))), (.int (3 : Int32)), (.ref b99)])) _
      refine XS.i2b X130.here hx rfl (hb hby at_102) rfl ?_
      exact kt
    obtain ⟨c133, Ar133, S133, M133, H133⟩ := id f131
    have hin133 : ¬ ((3 : Int32) < 0 ∨ c133.slots.size ≤ ((3 : Int32)).toNatClampNeg) := own_in S133 ⟨by decide, by decide⟩
    obtain ⟨T134, h134, X134, e134, W134, st134⟩ := stB X130 hx hZ e130 Ar133 (j := (3 : Int32)) hin133 (g := (mkF m 103 #[.val (.int p0), .val (.int p1), .val (.long q2), .second, .val (.int (2 : Int32)), .val (.ref b99)] [(.int ((own_ushr p0 (16 : Int32)).toInt8.toInt32)), (.int (3 : Int32)), (.ref b99)])) rfl rfl (hb hby at_103)
    have f136 : Exa Z h134 b99 "[B" := f132.wr W134
    have f135 : own_AI Z h134 b99 .byte 7 (own_upd (own_upd (own_upd (own_upd (own_upd (own_upd (own_upd (own_upd (own_upd (fun _ => 0) 0 (nar .byte ((q2.toInt32).toInt8.toInt32))) 1 (nar .byte (((own_ushrL q2 (8 : Int32)).toInt32).toInt8.toInt32))) 2 (nar .byte (((own_ushrL q2 (16 : Int32)).toInt32).toInt8.toInt32))) 3 (nar .byte (((own_ushrL q2 (24 : Int32)).toInt32).toInt8.toInt32))) 4 (nar .byte (((own_ushrL q2 (32 : Int32)).toInt32).toInt8.toInt32))) 5 (nar .byte (((own_ushrL q2 (40 : Int32)).toInt32).toInt8.toInt32))) 6 (nar .byte (((own_ushrL q2 (48 : Int32)).toInt32).toInt8.toInt32))) 2 (nar .byte ((own_ushr p0 (24 : Int32)).toInt8.toInt32))) 3 (nar .byte ((own_ushr p0 (16 : Int32)).toInt8.toInt32))) := own_AI.set Ar133 S133 M133 H133 W134
    have Z134 : n0 ≤ h134.size := Nat.le_trans Z130 (Keep.of_wr W134).1
    have N134 := Fr.snoc X134 N130 g_b99
    refine own_go (S' := T134.setTop (mkF m 104 #[.val (.int p0), .val (.int p1), .val (.long q2), .second, .val (.int (2 : Int32)), .val (.ref b99)] [])) st134 ?_
    refine own_go (S' := T134.setTop (mkF m 115 #[.val (.int p0), .val (.int p1), .val (.long q2), .second, .val (.int (2 : Int32)), .val (.ref b99)] [(.int ((own_ushr p0 (8 : Int32)).toInt8.toInt32)), (.int (4 : Int32)), (.ref b99)])) (fun target kt => ?_) ?_
    · skip
      show Steps p.tables e below (T134.setTop (mkF m 104 #[.val (.int p0), .val (.int p1), .val (.long q2), .second, .val (.int (2 : Int32)), .val (.ref b99)] [])) _
      refine XS.aload X134.here hx rfl (hb hby at_104) rfl rfl ?_
      show Steps p.tables e below (T134.setTop (mkF m 106 #[.val (.int p0), .val (.int p1), .val (.long q2), .second, .val (.int (2 : Int32)), .val (.ref b99)] [(.ref b99)])) _
      refine XS.iload X134.here hx rfl (hb hby at_106) rfl ?_
      show Steps p.tables e below (T134.setTop (mkF m 108 #[.val (.int p0), .val (.int p1), .val (.long q2), .second, .val (.int (2 : Int32)), .val (.ref b99)] [(.int (2 : Int32)), (.ref b99)])) _
      refine XS.iconst X134.here hx rfl (hb hby at_108) ?_
      show Steps p.tables e below (T134.setTop (mkF m 109 #[.val (.int p0), .val (.int p1), .val (.long q2), .second, .val (.int (2 : Int32)), .val (.ref b99)] [(.int (2 : Int32)), (.int (2 : Int32)), (.ref b99)])) _
      refine XS.iadd X134.here hx rfl (hb hby at_109) rfl ?_
      rw [show ((2 : Int32) + (2 : Int32)) = (4 : Int32) from by decide]
      show Steps p.tables e below (T134.setTop (mkF m 110 #[.val (.int p0), .val (.int p1), .val (.long q2), .second, .val (.int (2 : Int32)), .val (.ref b99)] [(.int (4 : Int32)), (.ref b99)])) _
      refine XS.iloadN X134.here hx rfl (hb hby at_110) rfl ?_
      show Steps p.tables e below (T134.setTop (mkF m 111 #[.val (.int p0), .val (.int p1), .val (.long q2), .second, .val (.int (2 : Int32)), .val (.ref b99)] [(.int p0), (.int (4 : Int32)), (.ref b99)])) _
      refine XS.bipush X134.here hx rfl (hb hby at_111) ?_
      show Steps p.tables e below (T134.setTop (mkF m 113 #[.val (.int p0), .val (.int p1), .val (.long q2), .second, .val (.int (2 : Int32)), .val (.ref b99)] [(.int (8 : Int32)), (.int p0), (.int (4 : Int32)), (.ref b99)])) _
      refine XS.iushr X134.here hx rfl (hb hby at_113) rfl ?_
      show Steps p.tables e below (T134.setTop (mkF m 114 #[.val (.int p0), .val (.int p1), .val (.long q2), .second, .val (.int (2 : Int32)), .val (.ref b99)] [(.int (own_ushr p0 (8 : Int32))), (.int (4 : Int32)), (.ref b99)])) _
      refine XS.i2b X134.here hx rfl (hb hby at_114) rfl ?_
      exact kt
    obtain ⟨c137, Ar137, S137, M137, H137⟩ := id f135
    have hin137 : ¬ ((4 : Int32) < 0 ∨ c137.slots.size ≤ ((4 : Int32)).toNatClampNeg) := own_in S137 ⟨by decide, by decide⟩
    obtain ⟨T138, h138, X138, e138, W138, st138⟩ := stB X134 hx hZ e134 Ar137 (j := (4 : Int32)) hin137 (g := (mkF m 115 #[.val (.int p0), .val (.int p1), .val (.long q2), .second, .val (.int (2 : Int32)), .val (.ref b99)] [(.int ((own_ushr p0 (8 : Int32)).toInt8.toInt32)), (.int (4 : Int32)), (.ref b99)])) rfl rfl (hb hby at_115)
    have f140 : Exa Z h138 b99 "[B" := f136.wr W138
    have f139 : own_AI Z h138 b99 .byte 7 (own_upd (own_upd (own_upd (own_upd (own_upd (own_upd (own_upd (own_upd (own_upd (own_upd (fun _ => 0) 0 (nar .byte ((q2.toInt32).toInt8.toInt32))) 1 (nar .byte (((own_ushrL q2 (8 : Int32)).toInt32).toInt8.toInt32))) 2 (nar .byte (((own_ushrL q2 (16 : Int32)).toInt32).toInt8.toInt32))) 3 (nar .byte (((own_ushrL q2 (24 : Int32)).toInt32).toInt8.toInt32))) 4 (nar .byte (((own_ushrL q2 (32 : Int32)).toInt32).toInt8.toInt32))) 5 (nar .byte (((own_ushrL q2 (40 : Int32)).toInt32).toInt8.toInt32))) 6 (nar .byte (((own_ushrL q2 (48 : Int32)).toInt32).toInt8.toInt32))) 2 (nar .byte ((own_ushr p0 (24 : Int32)).toInt8.toInt32))) 3 (nar .byte ((own_ushr p0 (16 : Int32)).toInt8.toInt32))) 4 (nar .byte ((own_ushr p0 (8 : Int32)).toInt8.toInt32))) := own_AI.set Ar137 S137 M137 H137 W138
    have Z138 : n0 ≤ h138.size := Nat.le_trans Z134 (Keep.of_wr W138).1
    have N138 := Fr.snoc X138 N134 g_b99
    refine own_go (S' := T138.setTop (mkF m 116 #[.val (.int p0), .val (.int p1), .val (.long q2), .second, .val (.int (2 : Int32)), .val (.ref b99)] [])) st138 ?_
    refine own_go (S' := T138.setTop (mkF m 124 #[.val (.int p0), .val (.int p1), .val (.long q2), .second, .val (.int (2 : Int32)), .val (.ref b99)] [(.int (p0.toInt8.toInt32)), (.int (5 : Int32)), (.ref b99)])) (fun target kt => ?_) ?_
    · skip
      show Steps p.tables e below (T138.setTop (mkF m 116 #[.val (.int p0), .val (.int p1), .val (.long q2), .second, .val (.int (2 : Int32)), .val (.ref b99)] [])) _
      refine XS.aload X138.here hx rfl (hb hby at_116) rfl rfl ?_
      show Steps p.tables e below (T138.setTop (mkF m 118 #[.val (.int p0), .val (.int p1), .val (.long q2), .second, .val (.int (2 : Int32)), .val (.ref b99)] [(.ref b99)])) _
      refine XS.iload X138.here hx rfl (hb hby at_118) rfl ?_
      show Steps p.tables e below (T138.setTop (mkF m 120 #[.val (.int p0), .val (.int p1), .val (.long q2), .second, .val (.int (2 : Int32)), .val (.ref b99)] [(.int (2 : Int32)), (.ref b99)])) _
      refine XS.iconst X138.here hx rfl (hb hby at_120) ?_
      show Steps p.tables e below (T138.setTop (mkF m 121 #[.val (.int p0), .val (.int p1), .val (.long q2), .second, .val (.int (2 : Int32)), .val (.ref b99)] [(.int (3 : Int32)), (.int (2 : Int32)), (.ref b99)])) _
      refine XS.iadd X138.here hx rfl (hb hby at_121) rfl ?_
      rw [show ((2 : Int32) + (3 : Int32)) = (5 : Int32) from by decide]
      show Steps p.tables e below (T138.setTop (mkF m 122 #[.val (.int p0), .val (.int p1), .val (.long q2), .second, .val (.int (2 : Int32)), .val (.ref b99)] [(.int (5 : Int32)), (.ref b99)])) _
      refine XS.iloadN X138.here hx rfl (hb hby at_122) rfl ?_
      show Steps p.tables e below (T138.setTop (mkF m 123 #[.val (.int p0), .val (.int p1), .val (.long q2), .second, .val (.int (2 : Int32)), .val (.ref b99)] [(.int p0), (.int (5 : Int32)), (.ref b99)])) _
      refine XS.i2b X138.here hx rfl (hb hby at_123) rfl ?_
      exact kt
    obtain ⟨c141, Ar141, S141, M141, H141⟩ := id f139
    have hin141 : ¬ ((5 : Int32) < 0 ∨ c141.slots.size ≤ ((5 : Int32)).toNatClampNeg) := own_in S141 ⟨by decide, by decide⟩
    obtain ⟨T142, h142, X142, e142, W142, st142⟩ := stB X138 hx hZ e138 Ar141 (j := (5 : Int32)) hin141 (g := (mkF m 124 #[.val (.int p0), .val (.int p1), .val (.long q2), .second, .val (.int (2 : Int32)), .val (.ref b99)] [(.int (p0.toInt8.toInt32)), (.int (5 : Int32)), (.ref b99)])) rfl rfl (hb hby at_124)
    have f144 : Exa Z h142 b99 "[B" := f140.wr W142
    have f143 : own_AI Z h142 b99 .byte 7 (own_upd (own_upd (own_upd (own_upd (own_upd (own_upd (own_upd (own_upd (own_upd (own_upd (own_upd (fun _ => 0) 0 (nar .byte ((q2.toInt32).toInt8.toInt32))) 1 (nar .byte (((own_ushrL q2 (8 : Int32)).toInt32).toInt8.toInt32))) 2 (nar .byte (((own_ushrL q2 (16 : Int32)).toInt32).toInt8.toInt32))) 3 (nar .byte (((own_ushrL q2 (24 : Int32)).toInt32).toInt8.toInt32))) 4 (nar .byte (((own_ushrL q2 (32 : Int32)).toInt32).toInt8.toInt32))) 5 (nar .byte (((own_ushrL q2 (40 : Int32)).toInt32).toInt8.toInt32))) 6 (nar .byte (((own_ushrL q2 (48 : Int32)).toInt32).toInt8.toInt32))) 2 (nar .byte ((own_ushr p0 (24 : Int32)).toInt8.toInt32))) 3 (nar .byte ((own_ushr p0 (16 : Int32)).toInt8.toInt32))) 4 (nar .byte ((own_ushr p0 (8 : Int32)).toInt8.toInt32))) 5 (nar .byte (p0.toInt8.toInt32))) := own_AI.set Ar141 S141 M141 H141 W142
    have Z142 : n0 ≤ h142.size := Nat.le_trans Z138 (Keep.of_wr W142).1
    have N142 := Fr.snoc X142 N138 g_b99
    refine own_go (S' := T142.setTop (mkF m 125 #[.val (.int p0), .val (.int p1), .val (.long q2), .second, .val (.int (2 : Int32)), .val (.ref b99)] [])) st142 ?_
    refine own_go (S' := T142.setTop (mkF m 129 #[.val (.int p0), .val (.int p1), .val (.long q2), .second, .val (.int (2 : Int32)), .val (.ref b99)] [(.int (2 : Int32)), (.ref b99)])) (fun target kt => ?_) ?_
    · skip
      show Steps p.tables e below (T142.setTop (mkF m 125 #[.val (.int p0), .val (.int p1), .val (.long q2), .second, .val (.int (2 : Int32)), .val (.ref b99)] [])) _
      refine XS.aload X142.here hx rfl (hb hby at_125) rfl rfl ?_
      show Steps p.tables e below (T142.setTop (mkF m 127 #[.val (.int p0), .val (.int p1), .val (.long q2), .second, .val (.int (2 : Int32)), .val (.ref b99)] [(.ref b99)])) _
      refine XS.iload X142.here hx rfl (hb hby at_127) rfl ?_
      exact kt
    obtain ⟨_, _, ⟨T145, L145, k145, n145⟩, -, X145, ⟨Lc145, hQ145, l145, y145, z145⟩, st145⟩ := Jvm.LawKit.callS X142 hx (y := (⟨"portwarden/wire/Decoder", "uint32", "([BI)I"⟩ : MethodName)) hown (mvT hZ (hw _ (List.mem_of_getElem? (i := 2) rfl))) (mvT hZ (hw _ (List.mem_of_getElem? (i := 3) rfl))) (mvT hZ (hw _ (List.mem_of_getElem? (i := 4) rfl))) (mvT hZ (hw _ (List.mem_of_getElem? (i := 5) rfl))) (by decide) (backOf (W := 0) (rm1 l Z aZ hw [] b99 (2 : Int32) (own_upd (own_upd (own_upd (own_upd (own_upd (own_upd (own_upd (own_upd (own_upd (own_upd (own_upd (fun _ => 0) 0 (nar .byte ((q2.toInt32).toInt8.toInt32))) 1 (nar .byte (((own_ushrL q2 (8 : Int32)).toInt32).toInt8.toInt32))) 2 (nar .byte (((own_ushrL q2 (16 : Int32)).toInt32).toInt8.toInt32))) 3 (nar .byte (((own_ushrL q2 (24 : Int32)).toInt32).toInt8.toInt32))) 4 (nar .byte (((own_ushrL q2 (32 : Int32)).toInt32).toInt8.toInt32))) 5 (nar .byte (((own_ushrL q2 (40 : Int32)).toInt32).toInt8.toInt32))) 6 (nar .byte (((own_ushrL q2 (48 : Int32)).toInt32).toInt8.toInt32))) 2 (nar .byte ((own_ushr p0 (24 : Int32)).toInt8.toInt32))) 3 (nar .byte ((own_ushr p0 (16 : Int32)).toInt8.toInt32))) 4 (nar .byte ((own_ushr p0 (8 : Int32)).toInt8.toInt32))) 5 (nar .byte (p0.toInt8.toInt32))) h142 n0 Z142 f143 (⟨by decide, by decide⟩ : ¬ (2 : Int32) < 0 ∧ ((2 : Int32)).toNatClampNeg < 7) (⟨by decide, by decide⟩ : ¬ ((2 : Int32) + (1 : Int32)) < 0 ∧ (((2 : Int32) + (1 : Int32))).toNatClampNeg < 7) (⟨by decide, by decide⟩ : ¬ ((2 : Int32) + (2 : Int32)) < 0 ∧ (((2 : Int32) + (2 : Int32))).toNatClampNeg < 7) (⟨by decide, by decide⟩ : ¬ ((2 : Int32) + (3 : Int32)) < 0 ∧ (((2 : Int32) + (3 : Int32))).toNatClampNeg < 7)) hZ (hw _ (List.mem_of_getElem? (i := 5) rfl)) (hw _ (List.mem_of_getElem? (i := 4) rfl)) (by decide) (by decide)) (g := (mkF m 129 #[.val (.int p0), .val (.int p1), .val (.long q2), .second, .val (.int (2 : Int32)), .val (.ref b99)] [(.int (2 : Int32)), (.ref b99)])) rfl (by rw [hml]; rfl) (argsL := [(.ref b99), (.int (2 : Int32))]) (rest := []) (lenOf own_pd0 rfl) rfl (by show 2 * 0 + _ ≤ _; exact Nat.le_of_eq rfl) (hb hby at_129) (fun _ _ => ⟨rfl, e142, (by decide : 1 + 0 ≤ _), (by decide : 7 + 0 ≤ _)⟩)
    dsimp only [Pt.U, Pt.locs, Pt.cells, Pt.slots] at X145 l145 y145 z145 st145 hQ145
    subst l145 y145 z145
    obtain ⟨rfl, N145q, e145⟩ := hQ145
    have N145 := Fr.app N142 N145q
    refine own_go (S' := T145.setTop (mkF m 132 #[.val (.int p0), .val (.int p1), .val (.long q2), .second, .val (.int (2 : Int32)), .val (.ref b99)] [(.int (own_u32 ((own_upd (own_upd (own_upd (own_upd (own_upd (own_upd (own_upd (own_upd (own_upd (own_upd (own_upd (fun _ => 0) 0 (nar .byte ((q2.toInt32).toInt8.toInt32))) 1 (nar .byte (((own_ushrL q2 (8 : Int32)).toInt32).toInt8.toInt32))) 2 (nar .byte (((own_ushrL q2 (16 : Int32)).toInt32).toInt8.toInt32))) 3 (nar .byte (((own_ushrL q2 (24 : Int32)).toInt32).toInt8.toInt32))) 4 (nar .byte (((own_ushrL q2 (32 : Int32)).toInt32).toInt8.toInt32))) 5 (nar .byte (((own_ushrL q2 (40 : Int32)).toInt32).toInt8.toInt32))) 6 (nar .byte (((own_ushrL q2 (48 : Int32)).toInt32).toInt8.toInt32))) 2 (nar .byte ((own_ushr p0 (24 : Int32)).toInt8.toInt32))) 3 (nar .byte ((own_ushr p0 (16 : Int32)).toInt8.toInt32))) 4 (nar .byte ((own_ushr p0 (8 : Int32)).toInt8.toInt32))) 5 (nar .byte (p0.toInt8.toInt32))) ((2 : Int32)).toNatClampNeg) ((own_upd (own_upd (own_upd (own_upd (own_upd (own_upd (own_upd (own_upd (own_upd (own_upd (own_upd (fun _ => 0) 0 (nar .byte ((q2.toInt32).toInt8.toInt32))) 1 (nar .byte (((own_ushrL q2 (8 : Int32)).toInt32).toInt8.toInt32))) 2 (nar .byte (((own_ushrL q2 (16 : Int32)).toInt32).toInt8.toInt32))) 3 (nar .byte (((own_ushrL q2 (24 : Int32)).toInt32).toInt8.toInt32))) 4 (nar .byte (((own_ushrL q2 (32 : Int32)).toInt32).toInt8.toInt32))) 5 (nar .byte (((own_ushrL q2 (40 : Int32)).toInt32).toInt8.toInt32))) 6 (nar .byte (((own_ushrL q2 (48 : Int32)).toInt32).toInt8.toInt32))) 2 (nar .byte ((own_ushr p0 (24 : Int32)).toInt8.toInt32))) 3 (nar .byte ((own_ushr p0 (16 : Int32)).toInt8.toInt32))) 4 (nar .byte ((own_ushr p0 (8 : Int32)).toInt8.toInt32))) 5 (nar .byte (p0.toInt8.toInt32))) (((2 : Int32) + (1 : Int32))).toNatClampNeg) ((own_upd (own_upd (own_upd (own_upd (own_upd (own_upd (own_upd (own_upd (own_upd (own_upd (own_upd (fun _ => 0) 0 (nar .byte ((q2.toInt32).toInt8.toInt32))) 1 (nar .byte (((own_ushrL q2 (8 : Int32)).toInt32).toInt8.toInt32))) 2 (nar .byte (((own_ushrL q2 (16 : Int32)).toInt32).toInt8.toInt32))) 3 (nar .byte (((own_ushrL q2 (24 : Int32)).toInt32).toInt8.toInt32))) 4 (nar .byte (((own_ushrL q2 (32 : Int32)).toInt32).toInt8.toInt32))) 5 (nar .byte (((own_ushrL q2 (40 : Int32)).toInt32).toInt8.toInt32))) 6 (nar .byte (((own_ushrL q2 (48 : Int32)).toInt32).toInt8.toInt32))) 2 (nar .byte ((own_ushr p0 (24 : Int32)).toInt8.toInt32))) 3 (nar .byte ((own_ushr p0 (16 : Int32)).toInt8.toInt32))) 4 (nar .byte ((own_ushr p0 (8 : Int32)).toInt8.toInt32))) 5 (nar .byte (p0.toInt8.toInt32))) (((2 : Int32) + (2 : Int32))).toNatClampNeg) ((own_upd (own_upd (own_upd (own_upd (own_upd (own_upd (own_upd (own_upd (own_upd (own_upd (own_upd (fun _ => 0) 0 (nar .byte ((q2.toInt32).toInt8.toInt32))) 1 (nar .byte (((own_ushrL q2 (8 : Int32)).toInt32).toInt8.toInt32))) 2 (nar .byte (((own_ushrL q2 (16 : Int32)).toInt32).toInt8.toInt32))) 3 (nar .byte (((own_ushrL q2 (24 : Int32)).toInt32).toInt8.toInt32))) 4 (nar .byte (((own_ushrL q2 (32 : Int32)).toInt32).toInt8.toInt32))) 5 (nar .byte (((own_ushrL q2 (40 : Int32)).toInt32).toInt8.toInt32))) 6 (nar .byte (((own_ushrL q2 (48 : Int32)).toInt32).toInt8.toInt32))) 2 (nar .byte ((own_ushr p0 (24 : Int32)).toInt8.toInt32))) 3 (nar .byte ((own_ushr p0 (16 : Int32)).toInt8.toInt32))) 4 (nar .byte ((own_ushr p0 (8 : Int32)).toInt8.toInt32))) 5 (nar .byte (p0.toInt8.toInt32))) (((2 : Int32) + (3 : Int32))).toNatClampNeg)))])) st145 ?_
    refine own_go (S' := T145.setTop (mkF m 141 #[.val (.int p0), .val (.int p1), .val (.long q2), .second, .val (.int (2 : Int32)), .val (.ref b99)] [(.int (1 : Int32))])) (fun target kt => ?_) ?_
    · skip
      show Steps p.tables e below (T145.setTop (mkF m 132 #[.val (.int p0), .val (.int p1), .val (.long q2), .second, .val (.int (2 : Int32)), .val (.ref b99)] [(.int (own_u32 ((own_upd (own_upd (own_upd (own_upd (own_upd (own_upd (own_upd (own_upd (own_upd (own_upd (own_upd (fun _ => 0) 0 (nar .byte ((q2.toInt32).toInt8.toInt32))) 1 (nar .byte (((own_ushrL q2 (8 : Int32)).toInt32).toInt8.toInt32))) 2 (nar .byte (((own_ushrL q2 (16 : Int32)).toInt32).toInt8.toInt32))) 3 (nar .byte (((own_ushrL q2 (24 : Int32)).toInt32).toInt8.toInt32))) 4 (nar .byte (((own_ushrL q2 (32 : Int32)).toInt32).toInt8.toInt32))) 5 (nar .byte (((own_ushrL q2 (40 : Int32)).toInt32).toInt8.toInt32))) 6 (nar .byte (((own_ushrL q2 (48 : Int32)).toInt32).toInt8.toInt32))) 2 (nar .byte ((own_ushr p0 (24 : Int32)).toInt8.toInt32))) 3 (nar .byte ((own_ushr p0 (16 : Int32)).toInt8.toInt32))) 4 (nar .byte ((own_ushr p0 (8 : Int32)).toInt8.toInt32))) 5 (nar .byte (p0.toInt8.toInt32))) ((2 : Int32)).toNatClampNeg) ((own_upd (own_upd (own_upd (own_upd (own_upd (own_upd (own_upd (own_upd (own_upd (own_upd (own_upd (fun _ => 0) 0 (nar .byte ((q2.toInt32).toInt8.toInt32))) 1 (nar .byte (((own_ushrL q2 (8 : Int32)).toInt32).toInt8.toInt32))) 2 (nar .byte (((own_ushrL q2 (16 : Int32)).toInt32).toInt8.toInt32))) 3 (nar .byte (((own_ushrL q2 (24 : Int32)).toInt32).toInt8.toInt32))) 4 (nar .byte (((own_ushrL q2 (32 : Int32)).toInt32).toInt8.toInt32))) 5 (nar .byte (((own_ushrL q2 (40 : Int32)).toInt32).toInt8.toInt32))) 6 (nar .byte (((own_ushrL q2 (48 : Int32)).toInt32).toInt8.toInt32))) 2 (nar .byte ((own_ushr p0 (24 : Int32)).toInt8.toInt32))) 3 (nar .byte ((own_ushr p0 (16 : Int32)).toInt8.toInt32))) 4 (nar .byte ((own_ushr p0 (8 : Int32)).toInt8.toInt32))) 5 (nar .byte (p0.toInt8.toInt32))) (((2 : Int32) + (1 : Int32))).toNatClampNeg) ((own_upd (own_upd (own_upd (own_upd (own_upd (own_upd (own_upd (own_upd (own_upd (own_upd (own_upd (fun _ => 0) 0 (nar .byte ((q2.toInt32).toInt8.toInt32))) 1 (nar .byte (((own_ushrL q2 (8 : Int32)).toInt32).toInt8.toInt32))) 2 (nar .byte (((own_ushrL q2 (16 : Int32)).toInt32).toInt8.toInt32))) 3 (nar .byte (((own_ushrL q2 (24 : Int32)).toInt32).toInt8.toInt32))) 4 (nar .byte (((own_ushrL q2 (32 : Int32)).toInt32).toInt8.toInt32))) 5 (nar .byte (((own_ushrL q2 (40 : Int32)).toInt32).toInt8.toInt32))) 6 (nar .byte (((own_ushrL q2 (48 : Int32)).toInt32).toInt8.toInt32))) 2 (nar .byte ((own_ushr p0 (24 : Int32)).toInt8.toInt32))) 3 (nar .byte ((own_ushr p0 (16 : Int32)).toInt8.toInt32))) 4 (nar .byte ((own_ushr p0 (8 : Int32)).toInt8.toInt32))) 5 (nar .byte (p0.toInt8.toInt32))) (((2 : Int32) + (2 : Int32))).toNatClampNeg) ((own_upd (own_upd (own_upd (own_upd (own_upd (own_upd (own_upd (own_upd (own_upd (own_upd (own_upd (fun _ => 0) 0 (nar .byte ((q2.toInt32).toInt8.toInt32))) 1 (nar .byte (((own_ushrL q2 (8 : Int32)).toInt32).toInt8.toInt32))) 2 (nar .byte (((own_ushrL q2 (16 : Int32)).toInt32).toInt8.toInt32))) 3 (nar .byte (((own_ushrL q2 (24 : Int32)).toInt32).toInt8.toInt32))) 4 (nar .byte (((own_ushrL q2 (32 : Int32)).toInt32).toInt8.toInt32))) 5 (nar .byte (((own_ushrL q2 (40 : Int32)).toInt32).toInt8.toInt32))) 6 (nar .byte (((own_ushrL q2 (48 : Int32)).toInt32).toInt8.toInt32))) 2 (nar .byte ((own_ushr p0 (24 : Int32)).toInt8.toInt32))) 3 (nar .byte ((own_ushr p0 (16 : Int32)).toInt8.toInt32))) 4 (nar .byte ((own_ushr p0 (8 : Int32)).toInt8.toInt32))) 5 (nar .byte (p0.toInt8.toInt32))) (((2 : Int32) + (3 : Int32))).toNatClampNeg)))])) _
      refine XS.iloadN X145.here hx rfl (hb hby at_132) rfl ?_
      show Steps p.tables e below (T145.setTop (mkF m 133 #[.val (.int p0), .val (.int p1), .val (.long q2), .second, .val (.int (2 : Int32)), .val (.ref b99)] [(.int p0), (.int (own_u32 ((own_upd (own_upd (own_upd (own_upd (own_upd (own_upd (own_upd (own_upd (own_upd (own_upd (own_upd (fun _ => 0) 0 (nar .byte ((q2.toInt32).toInt8.toInt32))) 1 (nar .byte (((own_ushrL q2 (8 : Int32)).toInt32).toInt8.toInt32))) 2 (nar .byte (((own_ushrL q2 (16 : Int32)).toInt32).toInt8.toInt32))) 3 (nar .byte (((own_ushrL q2 (24 : Int32)).toInt32).toInt8.toInt32))) 4 (nar .byte (((own_ushrL q2 (32 : Int32)).toInt32).toInt8.toInt32))) 5 (nar .byte (((own_ushrL q2 (40 : Int32)).toInt32).toInt8.toInt32))) 6 (nar .byte (((own_ushrL q2 (48 : Int32)).toInt32).toInt8.toInt32))) 2 (nar .byte ((own_ushr p0 (24 : Int32)).toInt8.toInt32))) 3 (nar .byte ((own_ushr p0 (16 : Int32)).toInt8.toInt32))) 4 (nar .byte ((own_ushr p0 (8 : Int32)).toInt8.toInt32))) 5 (nar .byte (p0.toInt8.toInt32))) ((2 : Int32)).toNatClampNeg) ((own_upd (own_upd (own_upd (own_upd (own_upd (own_upd (own_upd (own_upd (own_upd (own_upd (own_upd (fun _ => 0) 0 (nar .byte ((q2.toInt32).toInt8.toInt32))) 1 (nar .byte (((own_ushrL q2 (8 : Int32)).toInt32).toInt8.toInt32))) 2 (nar .byte (((own_ushrL q2 (16 : Int32)).toInt32).toInt8.toInt32))) 3 (nar .byte (((own_ushrL q2 (24 : Int32)).toInt32).toInt8.toInt32))) 4 (nar .byte (((own_ushrL q2 (32 : Int32)).toInt32).toInt8.toInt32))) 5 (nar .byte (((own_ushrL q2 (40 : Int32)).toInt32).toInt8.toInt32))) 6 (nar .byte (((own_ushrL q2 (48 : Int32)).toInt32).toInt8.toInt32))) 2 (nar .byte ((own_ushr p0 (24 : Int32)).toInt8.toInt32))) 3 (nar .byte ((own_ushr p0 (16 : Int32)).toInt8.toInt32))) 4 (nar .byte ((own_ushr p0 (8 : Int32)).toInt8.toInt32))) 5 (nar .byte (p0.toInt8.toInt32))) (((2 : Int32) + (1 : Int32))).toNatClampNeg) ((own_upd (own_upd (own_upd (own_upd (own_upd (own_upd (own_upd (own_upd (own_upd (own_upd (own_upd (fun _ => 0) 0 (nar .byte ((q2.toInt32).toInt8.toInt32))) 1 (nar .byte (((own_ushrL q2 (8 : Int32)).toInt32).toInt8.toInt32))) 2 (nar .byte (((own_ushrL q2 (16 : Int32)).toInt32).toInt8.toInt32))) 3 (nar .byte (((own_ushrL q2 (24 : Int32)).toInt32).toInt8.toInt32))) 4 (nar .byte (((own_ushrL q2 (32 : Int32)).toInt32).toInt8.toInt32))) 5 (nar .byte (((own_ushrL q2 (40 : Int32)).toInt32).toInt8.toInt32))) 6 (nar .byte (((own_ushrL q2 (48 : Int32)).toInt32).toInt8.toInt32))) 2 (nar .byte ((own_ushr p0 (24 : Int32)).toInt8.toInt32))) 3 (nar .byte ((own_ushr p0 (16 : Int32)).toInt8.toInt32))) 4 (nar .byte ((own_ushr p0 (8 : Int32)).toInt8.toInt32))) 5 (nar .byte (p0.toInt8.toInt32))) (((2 : Int32) + (2 : Int32))).toNatClampNeg) ((own_upd (own_upd (own_upd (own_upd (own_upd (own_upd (own_upd (own_upd (own_upd (own_upd (own_upd (fun _ => 0) 0 (nar .byte ((q2.toInt32).toInt8.toInt32))) 1 (nar .byte (((own_ushrL q2 (8 : Int32)).toInt32).toInt8.toInt32))) 2 (nar .byte (((own_ushrL q2 (16 : Int32)).toInt32).toInt8.toInt32))) 3 (nar .byte (((own_ushrL q2 (24 : Int32)).toInt32).toInt8.toInt32))) 4 (nar .byte (((own_ushrL q2 (32 : Int32)).toInt32).toInt8.toInt32))) 5 (nar .byte (((own_ushrL q2 (40 : Int32)).toInt32).toInt8.toInt32))) 6 (nar .byte (((own_ushrL q2 (48 : Int32)).toInt32).toInt8.toInt32))) 2 (nar .byte ((own_ushr p0 (24 : Int32)).toInt8.toInt32))) 3 (nar .byte ((own_ushr p0 (16 : Int32)).toInt8.toInt32))) 4 (nar .byte ((own_ushr p0 (8 : Int32)).toInt8.toInt32))) 5 (nar .byte (p0.toInt8.toInt32))) (((2 : Int32) + (3 : Int32))).toNatClampNeg)))])) _
      refine XS.icmpNo X145.here hx rfl (hb hby at_133) rfl (teq (own_back p0 : (own_u32 ((own_upd (own_upd (own_upd (own_upd (own_upd (own_upd (own_upd (own_upd (own_upd (own_upd (own_upd (fun _ => 0) 0 (nar .byte ((q2.toInt32).toInt8.toInt32))) 1 (nar .byte (((own_ushrL q2 (8 : Int32)).toInt32).toInt8.toInt32))) 2 (nar .byte (((own_ushrL q2 (16 : Int32)).toInt32).toInt8.toInt32))) 3 (nar .byte (((own_ushrL q2 (24 : Int32)).toInt32).toInt8.toInt32))) 4 (nar .byte (((own_ushrL q2 (32 : Int32)).toInt32).toInt8.toInt32))) 5 (nar .byte (((own_ushrL q2 (40 : Int32)).toInt32).toInt8.toInt32))) 6 (nar .byte (((own_ushrL q2 (48 : Int32)).toInt32).toInt8.toInt32))) 2 (nar .byte ((own_ushr p0 (24 : Int32)).toInt8.toInt32))) 3 (nar .byte ((own_ushr p0 (16 : Int32)).toInt8.toInt32))) 4 (nar .byte ((own_ushr p0 (8 : Int32)).toInt8.toInt32))) 5 (nar .byte (p0.toInt8.toInt32))) ((2 : Int32)).toNatClampNeg) ((own_upd (own_upd (own_upd (own_upd (own_upd (own_upd (own_upd (own_upd (own_upd (own_upd (own_upd (fun _ => 0) 0 (nar .byte ((q2.toInt32).toInt8.toInt32))) 1 (nar .byte (((own_ushrL q2 (8 : Int32)).toInt32).toInt8.toInt32))) 2 (nar .byte (((own_ushrL q2 (16 : Int32)).toInt32).toInt8.toInt32))) 3 (nar .byte (((own_ushrL q2 (24 : Int32)).toInt32).toInt8.toInt32))) 4 (nar .byte (((own_ushrL q2 (32 : Int32)).toInt32).toInt8.toInt32))) 5 (nar .byte (((own_ushrL q2 (40 : Int32)).toInt32).toInt8.toInt32))) 6 (nar .byte (((own_ushrL q2 (48 : Int32)).toInt32).toInt8.toInt32))) 2 (nar .byte ((own_ushr p0 (24 : Int32)).toInt8.toInt32))) 3 (nar .byte ((own_ushr p0 (16 : Int32)).toInt8.toInt32))) 4 (nar .byte ((own_ushr p0 (8 : Int32)).toInt8.toInt32))) 5 (nar .byte (p0.toInt8.toInt32))) (((2 : Int32) + (1 : Int32))).toNatClampNeg) ((own_upd (own_upd (own_upd (own_upd (own_upd (own_upd (own_upd (own_upd (own_upd (own_upd (own_upd (fun _ => 0) 0 (nar .byte ((q2.toInt32).toInt8.toInt32))) 1 (nar .byte (((own_ushrL q2 (8 : Int32)).toInt32).toInt8.toInt32))) 2 (nar .byte (((own_ushrL q2 (16 : Int32)).toInt32).toInt8.toInt32))) 3 (nar .byte (((own_ushrL q2 (24 : Int32)).toInt32).toInt8.toInt32))) 4 (nar .byte (((own_ushrL q2 (32 : Int32)).toInt32).toInt8.toInt32))) 5 (nar .byte (((own_ushrL q2 (40 : Int32)).toInt32).toInt8.toInt32))) 6 (nar .byte (((own_ushrL q2 (48 : Int32)).toInt32).toInt8.toInt32))) 2 (nar .byte ((own_ushr p0 (24 : Int32)).toInt8.toInt32))) 3 (nar .byte ((own_ushr p0 (16 : Int32)).toInt8.toInt32))) 4 (nar .byte ((own_ushr p0 (8 : Int32)).toInt8.toInt32))) 5 (nar .byte (p0.toInt8.toInt32))) (((2 : Int32) + (2 : Int32))).toNatClampNeg) ((own_upd (own_upd (own_upd (own_upd (own_upd (own_upd (own_upd (own_upd (own_upd (own_upd (own_upd (fun _ => 0) 0 (nar .byte ((q2.toInt32).toInt8.toInt32))) 1 (nar .byte (((own_ushrL q2 (8 : Int32)).toInt32).toInt8.toInt32))) 2 (nar .byte (((own_ushrL q2 (16 : Int32)).toInt32).toInt8.toInt32))) 3 (nar .byte (((own_ushrL q2 (24 : Int32)).toInt32).toInt8.toInt32))) 4 (nar .byte (((own_ushrL q2 (32 : Int32)).toInt32).toInt8.toInt32))) 5 (nar .byte (((own_ushrL q2 (40 : Int32)).toInt32).toInt8.toInt32))) 6 (nar .byte (((own_ushrL q2 (48 : Int32)).toInt32).toInt8.toInt32))) 2 (nar .byte ((own_ushr p0 (24 : Int32)).toInt8.toInt32))) 3 (nar .byte ((own_ushr p0 (16 : Int32)).toInt8.toInt32))) 4 (nar .byte ((own_ushr p0 (8 : Int32)).toInt8.toInt32))) 5 (nar .byte (p0.toInt8.toInt32))) (((2 : Int32) + (3 : Int32))).toNatClampNeg)) = p0)).2 ?_
      show Steps p.tables e below (T145.setTop (mkF m 136 #[.val (.int p0), .val (.int p1), .val (.long q2), .second, .val (.int (2 : Int32)), .val (.ref b99)] [])) _
      refine XS.iconst X145.here hx rfl (hb hby at_136) ?_
      show Steps p.tables e below (T145.setTop (mkF m 137 #[.val (.int p0), .val (.int p1), .val (.long q2), .second, .val (.int (2 : Int32)), .val (.ref b99)] [(.int (1 : Int32))])) _
      refine XS.goto X145.here hx rfl (pc0 := 137) (pc' := 141) rfl (hb hby at_137) (by decide) (by decide) ?_
      exact kt
    obtain ⟨fs, hr, hrun, hended, hW, hsame⟩ := X145.leave (v := some (.int (1 : Int32))) (fun h => by rw [Bd.returns] at h; cases h)
    refine ⟨_, _, ?_, hrun, hended, _, _, rfl, ?_, ⟨_, rfl⟩, hW, hsame.mono (by decide) (by decide)⟩
    · exact retN X145 hx (t := .boolean) Bd.returns (by simp) (hb hby at_141) hr
    · show Q0 Z p0 p1 q2 h0 n0 _ T145.heap _
      rw [e145]
      exact ⟨rfl, N145⟩
  · subst hs_off
    refine own_go (S' := s₁.setTop (mkF m 10 #[.val (.int p0), .val (.int p1), .val (.long q2), .second, .val (.int (3 : Int32)), .unset] [(.int (7 : Int32))])) (fun target kt => ?_) ?_
    · skip
      show Steps p.tables e below (s₁.setTop (mkF m 8 #[.val (.int p0), .val (.int p1), .val (.long q2), .second, .val (.int (3 : Int32)), .unset] [])) _
      refine XS.bipush X0.here hx rfl (hb hby at_8) ?_
      exact kt
    obtain ⟨T146, h146, k146, X146, e146, E146, A146, B146, st146⟩ := newPE X0 hx hZ (hw _ (List.mem_of_getElem? (i := 1) rfl)) e0 (g := (mkF m 10 #[.val (.int p0), .val (.int p1), .val (.long q2), .second, .val (.int (3 : Int32)), .unset] [(.int (7 : Int32))])) rfl (hb hby at_10) rfl (by decide) (cap := 7) (by decide) (by decide) (by decide) (by decide) (ad := "[B") (by decide)
    obtain ⟨b146, g146⟩ : ∃ z, z = h0.size := ⟨_, rfl⟩
    rw [← g146] at A146 B146 st146
    have g_b146 : n0 ≤ b146 := Nat.le_trans Z0 (Nat.le_of_eq g146.symm)
    have Z146 : n0 ≤ h146.size := Nat.le_trans Z0 E146.1
    have f147 : own_AI Z h146 b146 .byte 7 (fun _ => 0) := own_AI.fresh A146 rfl
    refine own_go (S' := T146.setTop (mkF m 12 #[.val (.int p0), .val (.int p1), .val (.long q2), .second, .val (.int (3 : Int32)), .unset] [(.ref b146)])) st146 ?_
    refine own_go (S' := T146.setTop (mkF m 20 #[.val (.int p0), .val (.int p1), .val (.long q2), .second, .val (.int (3 : Int32)), .val (.ref b146)] [(.int ((q2.toInt32).toInt8.toInt32)), (.int (0 : Int32)), (.ref b146)])) (fun target kt => ?_) ?_
    · skip
      show Steps p.tables e below (T146.setTop (mkF m 12 #[.val (.int p0), .val (.int p1), .val (.long q2), .second, .val (.int (3 : Int32)), .unset] [(.ref b146)])) _
      refine XS.astore X146.here hx rfl (hb hby at_12) rfl rfl (l' := #[.val (.int p0), .val (.int p1), .val (.long q2), .second, .val (.int (3 : Int32)), .val (.ref b146)]) rfl ?_
      show Steps p.tables e below (T146.setTop (mkF m 14 #[.val (.int p0), .val (.int p1), .val (.long q2), .second, .val (.int (3 : Int32)), .val (.ref b146)] [])) _
      refine XS.aload X146.here hx rfl (hb hby at_14) rfl rfl ?_
      show Steps p.tables e below (T146.setTop (mkF m 16 #[.val (.int p0), .val (.int p1), .val (.long q2), .second, .val (.int (3 : Int32)), .val (.ref b146)] [(.ref b146)])) _
      refine XS.iconst X146.here hx rfl (hb hby at_16) ?_
      show Steps p.tables e below (T146.setTop (mkF m 17 #[.val (.int p0), .val (.int p1), .val (.long q2), .second, .val (.int (3 : Int32)), .val (.ref b146)] [(.int (0 : Int32)), (.ref b146)])) _
      refine XS.lloadN X146.here hx rfl (hb hby at_17) rfl ?_
      show Steps p.tables e below (T146.setTop (mkF m 18 #[.val (.int p0), .val (.int p1), .val (.long q2), .second, .val (.int (3 : Int32)), .val (.ref b146)] [(.long q2), (.int (0 : Int32)), (.ref b146)])) _
      refine XS.l2i X146.here hx rfl (hb hby at_18) rfl ?_
      show Steps p.tables e below (T146.setTop (mkF m 19 #[.val (.int p0), .val (.int p1), .val (.long q2), .second, .val (.int (3 : Int32)), .val (.ref b146)] [(.int (q2.toInt32)), (.int (0 : Int32)), (.ref b146)])) _
      refine XS.i2b X146.here hx rfl (hb hby at_19) rfl ?_
      exact kt
    obtain ⟨c148, Ar148, S148, M148, H148⟩ := id f147
    have hin148 : ¬ ((0 : Int32) < 0 ∨ c148.slots.size ≤ ((0 : Int32)).toNatClampNeg) := own_in S148 ⟨by decide, by decide⟩
    obtain ⟨T149, h149, X149, e149, W149, st149⟩ := stB X146 hx hZ e146 Ar148 (j := (0 : Int32)) hin148 (g := (mkF m 20 #[.val (.int p0), .val (.int p1), .val (.long q2), .second, .val (.int (3 : Int32)), .val (.ref b146)] [(.int ((q2.toInt32).toInt8.toInt32)), (.int (0 : Int32)), (.ref b146)])) rfl rfl (hb hby at_20)
    have f151 : Exa Z h149 b146 "[B" := B146.wr W149
    have f150 : own_AI Z h149 b146 .byte 7 (own_upd (fun _ => 0) 0 (nar .byte ((q2.toInt32).toInt8.toInt32))) := own_AI.set Ar148 S148 M148 H148 W149
    have Z149 : n0 ≤ h149.size := Nat.le_trans Z146 (Keep.of_wr W149).1
    have N149 := Fr.snoc X149 N0 g_b146
    refine own_go (S' := T149.setTop (mkF m 21 #[.val (.int p0), .val (.int p1), .val (.long q2), .second, .val (.int (3 : Int32)), .val (.ref b146)] [])) st149 ?_
    refine own_go (S' := T149.setTop (mkF m 30 #[.val (.int p0), .val (.int p1), .val (.long q2), .second, .val (.int (3 : Int32)), .val (.ref b146)] [(.int (((own_ushrL q2 (8 : Int32)).toInt32).toInt8.toInt32)), (.int (1 : Int32)), (.ref b146)])) (fun target kt => ?_) ?_
    · skip
      show Steps p.tables e below (T149.setTop (mkF m 21 #[.val (.int p0), .val (.int p1), .val (.long q2), .second, .val (.int (3 : Int32)), .val (.ref b146)] [])) _
      refine XS.aload X149.here hx rfl (hb hby at_21) rfl rfl ?_
      show Steps p.tables e below (T149.setTop (mkF m 23 #[.val (.int p0), .val (.int p1), .val (.long q2), .second, .val (.int (3 : Int32)), .val (.ref b146)] [(.ref b146)])) _
      refine XS.iconst X149.here hx rfl (hb hby at_23) ?_
      show Steps p.tables e below (T149.setTop (mkF m 24 #[.val (.int p0), .val (.int p1), .val (.long q2), .second, .val (.int (3 : Int32)), .val (.ref b146)] [(.int (1 : Int32)), (.ref b146)])) _
      refine XS.lloadN X149.here hx rfl (hb hby at_24) rfl ?_
      show Steps p.tables e below (T149.setTop (mkF m 25 #[.val (.int p0), .val (.int p1), .val (.long q2), .second, .val (.int (3 : Int32)), .val (.ref b146)] [(.long q2), (.int (1 : Int32)), (.ref b146)])) _
      refine XS.bipush X149.here hx rfl (hb hby at_25) ?_
      show Steps p.tables e below (T149.setTop (mkF m 27 #[.val (.int p0), .val (.int p1), .val (.long q2), .second, .val (.int (3 : Int32)), .val (.ref b146)] [(.int (8 : Int32)), (.long q2), (.int (1 : Int32)), (.ref b146)])) _
      refine XS.lushr X149.here hx rfl (hb hby at_27) rfl ?_
      show Steps p.tables e below (T149.setTop (mkF m 28 #[.val (.int p0), .val (.int p1), .val (.long q2), .second, .val (.int (3 : Int32)), .val (.ref b146)] [(.long (own_ushrL q2 (8 : Int32))), (.int (1 : Int32)), (.ref b146)])) _
      refine XS.l2i X149.here hx rfl (hb hby at_28) rfl ?_
      show Steps p.tables e below (T149.setTop (mkF m 29 #[.val (.int p0), .val (.int p1), .val (.long q2), .second, .val (.int (3 : Int32)), .val (.ref b146)] [(.int ((own_ushrL q2 (8 : Int32)).toInt32)), (.int (1 : Int32)), (.ref b146)])) _
      refine XS.i2b X149.here hx rfl (hb hby at_29) rfl ?_
      exact kt
    obtain ⟨c152, Ar152, S152, M152, H152⟩ := id f150
    have hin152 : ¬ ((1 : Int32) < 0 ∨ c152.slots.size ≤ ((1 : Int32)).toNatClampNeg) := own_in S152 ⟨by decide, by decide⟩
    obtain ⟨T153, h153, X153, e153, W153, st153⟩ := stB X149 hx hZ e149 Ar152 (j := (1 : Int32)) hin152 (g := (mkF m 30 #[.val (.int p0), .val (.int p1), .val (.long q2), .second, .val (.int (3 : Int32)), .val (.ref b146)] [(.int (((own_ushrL q2 (8 : Int32)).toInt32).toInt8.toInt32)), (.int (1 : Int32)), (.ref b146)])) rfl rfl (hb hby at_30)
    have f155 : Exa Z h153 b146 "[B" := f151.wr W153
    have f154 : own_AI Z h153 b146 .byte 7 (own_upd (own_upd (fun _ => 0) 0 (nar .byte ((q2.toInt32).toInt8.toInt32))) 1 (nar .byte (((own_ushrL q2 (8 : Int32)).toInt32).toInt8.toInt32))) := own_AI.set Ar152 S152 M152 H152 W153
    have Z153 : n0 ≤ h153.size := Nat.le_trans Z149 (Keep.of_wr W153).1
    have N153 := Fr.snoc X153 N149 g_b146
    refine own_go (S' := T153.setTop (mkF m 31 #[.val (.int p0), .val (.int p1), .val (.long q2), .second, .val (.int (3 : Int32)), .val (.ref b146)] [])) st153 ?_
    refine own_go (S' := T153.setTop (mkF m 40 #[.val (.int p0), .val (.int p1), .val (.long q2), .second, .val (.int (3 : Int32)), .val (.ref b146)] [(.int (((own_ushrL q2 (16 : Int32)).toInt32).toInt8.toInt32)), (.int (2 : Int32)), (.ref b146)])) (fun target kt => ?_) ?_
    · skip
      show Steps p.tables e below (T153.setTop (mkF m 31 #[.val (.int p0), .val (.int p1), .val (.long q2), .second, .val (.int (3 : Int32)), .val (.ref b146)] [])) _
      refine XS.aload X153.here hx rfl (hb hby at_31) rfl rfl ?_
      show Steps p.tables e below (T153.setTop (mkF m 33 #[.val (.int p0), .val (.int p1), .val (.long q2), .second, .val (.int (3 : Int32)), .val (.ref b146)] [(.ref b146)])) _
      refine XS.iconst X153.here hx rfl (hb hby at_33) ?_
      show Steps p.tables e below (T153.setTop (mkF m 34 #[.val (.int p0), .val (.int p1), .val (.long q2), .second, .val (.int (3 : Int32)), .val (.ref b146)] [(.int (2 : Int32)), (.ref b146)])) _
      refine XS.lloadN X153.here hx rfl (hb hby at_34) rfl ?_
      show Steps p.tables e below (T153.setTop (mkF m 35 #[.val (.int p0), .val (.int p1), .val (.long q2), .second, .val (.int (3 : Int32)), .val (.ref b146)] [(.long q2), (.int (2 : Int32)), (.ref b146)])) _
      refine XS.bipush X153.here hx rfl (hb hby at_35) ?_
      show Steps p.tables e below (T153.setTop (mkF m 37 #[.val (.int p0), .val (.int p1), .val (.long q2), .second, .val (.int (3 : Int32)), .val (.ref b146)] [(.int (16 : Int32)), (.long q2), (.int (2 : Int32)), (.ref b146)])) _
      refine XS.lushr X153.here hx rfl (hb hby at_37) rfl ?_
      show Steps p.tables e below (T153.setTop (mkF m 38 #[.val (.int p0), .val (.int p1), .val (.long q2), .second, .val (.int (3 : Int32)), .val (.ref b146)] [(.long (own_ushrL q2 (16 : Int32))), (.int (2 : Int32)), (.ref b146)])) _
      refine XS.l2i X153.here hx rfl (hb hby at_38) rfl ?_
      show Steps p.tables e below (T153.setTop (mkF m 39 #[.val (.int p0), .val (.int p1), .val (.long q2), .second, .val (.int (3 : Int32)), .val (.ref b146)] [(.int ((own_ushrL q2 (16 : Int32)).toInt32)), (.int (2 : Int32)), (.ref b146)])) _
      refine XS.i2b X153.here hx rfl (hb hby at_39) rfl ?_
      exact kt
    obtain ⟨c156, Ar156, S156, M156, H156⟩ := id f154
    have hin156 : ¬ ((2 : Int32) < 0 ∨ c156.slots.size ≤ ((2 : Int32)).toNatClampNeg) := own_in S156 ⟨by decide, by decide⟩
    obtain ⟨T157, h157, X157, e157, W157, st157⟩ := stB X153 hx hZ e153 Ar156 (j := (2 : Int32)) hin156 (g := (mkF m 40 #[.val (.int p0), .val (.int p1), .val (.long q2), .second, .val (.int (3 : Int32)), .val (.ref b146)] [(.int (((own_ushrL q2 (16 : Int32)).toInt32).toInt8.toInt32)), (.int (2 : Int32)), (.ref b146)])) rfl rfl (hb hby at_40)
    have f159 : Exa Z h157 b146 "[B" := f155.wr W157
    have f158 : own_AI Z h157 b146 .byte 7 (own_upd (own_upd (own_upd (fun _ => 0) 0 (nar .byte ((q2.toInt32).toInt8.toInt32))) 1 (nar .byte (((own_ushrL q2 (8 : Int32)).toInt32).toInt8.toInt32))) 2 (nar .byte (((own_ushrL q2 (16 : Int32)).toInt32).toInt8.toInt32))) := own_AI.set Ar156 S156 M156 H156 W157
    have Z157 : n0 ≤ h157.size := Nat.le_trans Z153 (Keep.of_wr W157).1
    have N157 := Fr.snoc X157 N153 g_b146
    refine own_go (S' := T157.setTop (mkF m 41 #[.val (.int p0), .val (.int p1), .val (.long q2), .second, .val (.int (3 : Int32)), .val (.ref b146)] [])) st157 ?_
    refine own_go (S' := T157.setTop (mkF m 50 #[.val (.int p0), .val (.int p1), .val (.long q2), .second, .val (.int (3 : Int32)), .val (.ref b146)] [(.int (((own_ushrL q2 (24 : Int32)).toInt32).toInt8.toInt32)), (.int (3 : Int32)), (.ref b146)])) (fun target kt => ?_) ?_
    · skip
      show Steps p.tables e below (T157.setTop (mkF m 41 #[.val (.int p0), .val (.int p1), .val (.long q2), .second, .val (.int (3 : Int32)), .val (.ref b146)] [])) _
      refine XS.aload X157.here hx rfl (hb hby at_41) rfl rfl ?_
      show Steps p.tables e below (T157.setTop (mkF m 43 #[.val (.int p0), .val (.int p1), .val (.long q2), .second, .val (.int (3 : Int32)), .val (.ref b146)] [(.ref b146)])) _
      refine XS.iconst X157.here hx rfl (hb hby at_43) ?_
      show Steps p.tables e below (T157.setTop (mkF m 44 #[.val (.int p0), .val (.int p1), .val (.long q2), .second, .val (.int (3 : Int32)), .val (.ref b146)] [(.int (3 : Int32)), (.ref b146)])) _
      refine XS.lloadN X157.here hx rfl (hb hby at_44) rfl ?_
      show Steps p.tables e below (T157.setTop (mkF m 45 #[.val (.int p0), .val (.int p1), .val (.long q2), .second, .val (.int (3 : Int32)), .val (.ref b146)] [(.long q2), (.int (3 : Int32)), (.ref b146)])) _
      refine XS.bipush X157.here hx rfl (hb hby at_45) ?_
      show Steps p.tables e below (T157.setTop (mkF m 47 #[.val (.int p0), .val (.int p1), .val (.long q2), .second, .val (.int (3 : Int32)), .val (.ref b146)] [(.int (24 : Int32)), (.long q2), (.int (3 : Int32)), (.ref b146)])) _
      refine XS.lushr X157.here hx rfl (hb hby at_47) rfl ?_
      show Steps p.tables e below (T157.setTop (mkF m 48 #[.val (.int p0), .val (.int p1), .val (.long q2), .second, .val (.int (3 : Int32)), .val (.ref b146)] [(.long (own_ushrL q2 (24 : Int32))), (.int (3 : Int32)), (.ref b146)])) _
      refine XS.l2i X157.here hx rfl (hb hby at_48) rfl ?_
      show Steps p.tables e below (T157.setTop (mkF m 49 #[.val (.int p0), .val (.int p1), .val (.long q2), .second, .val (.int (3 : Int32)), .val (.ref b146)] [(.int ((own_ushrL q2 (24 : Int32)).toInt32)), (.int (3 : Int32)), (.ref b146)])) _
      refine XS.i2b X157.here hx rfl (hb hby at_49) rfl ?_
      exact kt
    obtain ⟨c160, Ar160, S160, M160, H160⟩ := id f158
    have hin160 : ¬ ((3 : Int32) < 0 ∨ c160.slots.size ≤ ((3 : Int32)).toNatClampNeg) := own_in S160 ⟨by decide, by decide⟩
    obtain ⟨T161, h161, X161, e161, W161, st161⟩ := stB X157 hx hZ e157 Ar160 (j := (3 : Int32)) hin160 (g := (mkF m 50 #[.val (.int p0), .val (.int p1), .val (.long q2), .second, .val (.int (3 : Int32)), .val (.ref b146)] [(.int (((own_ushrL q2 (24 : Int32)).toInt32).toInt8.toInt32)), (.int (3 : Int32)), (.ref b146)])) rfl rfl (hb hby at_50)
    have f163 : Exa Z h161 b146 "[B" := f159.wr W161
    have f162 : own_AI Z h161 b146 .byte 7 (own_upd (own_upd (own_upd (own_upd (fun _ => 0) 0 (nar .byte ((q2.toInt32).toInt8.toInt32))) 1 (nar .byte (((own_ushrL q2 (8 : Int32)).toInt32).toInt8.toInt32))) 2 (nar .byte (((own_ushrL q2 (16 : Int32)).toInt32).toInt8.toInt32))) 3 (nar .byte (((own_ushrL q2 (24 : Int32)).toInt32).toInt8.toInt32))) := own_AI.set Ar160 S160 M160 H160 W161
    have Z161 : n0 ≤ h161.size := Nat.le_trans Z157 (Keep.of_wr W161).1
    have N161 := Fr.snoc X161 N157 g_b146
    refine own_go (S' := T161.setTop (mkF m 51 #[.val (.int p0), .val (.int p1), .val (.long q2), .second, .val (.int (3 : Int32)), .val (.ref b146)] [])) st161 ?_
    refine own_go (S' := T161.setTop (mkF m 60 #[.val (.int p0), .val (.int p1), .val (.long q2), .second, .val (.int (3 : Int32)), .val (.ref b146)] [(.int (((own_ushrL q2 (32 : Int32)).toInt32).toInt8.toInt32)), (.int (4 : Int32)), (.ref b146)])) (fun target kt => ?_) ?_
    · skip
      show Steps p.tables e below (T161.setTop (mkF m 51 #[.val (.int p0), .val (.int p1), .val (.long q2), .second, .val (.int (3 : Int32)), .val (.ref b146)] [])) _
      refine XS.aload X161.here hx rfl (hb hby at_51) rfl rfl ?_
      show Steps p.tables e below (T161.setTop (mkF m 53 #[.val (.int p0), .val (.int p1), .val (.long q2), .second, .val (.int (3 : Int32)), .val (.ref b146)] [(.ref b146)])) _
      refine XS.iconst X161.here hx rfl (hb hby at_53) ?_
      show Steps p.tables e below (T161.setTop (mkF m 54 #[.val (.int p0), .val (.int p1), .val (.long q2), .second, .val (.int (3 : Int32)), .val (.ref b146)] [(.int (4 : Int32)), (.ref b146)])) _
      refine XS.lloadN X161.here hx rfl (hb hby at_54) rfl ?_
      show Steps p.tables e below (T161.setTop (mkF m 55 #[.val (.int p0), .val (.int p1), .val (.long q2), .second, .val (.int (3 : Int32)), .val (.ref b146)] [(.long q2), (.int (4 : Int32)), (.ref b146)])) _
      refine XS.bipush X161.here hx rfl (hb hby at_55) ?_
      show Steps p.tables e below (T161.setTop (mkF m 57 #[.val (.int p0), .val (.int p1), .val (.long q2), .second, .val (.int (3 : Int32)), .val (.ref b146)] [(.int (32 : Int32)), (.long q2), (.int (4 : Int32)), (.ref b146)])) _
      refine XS.lushr X161.here hx rfl (hb hby at_57) rfl ?_
      show Steps p.tables e below (T161.setTop (mkF m 58 #[.val (.int p0), .val (.int p1), .val (.long q2), .second, .val (.int (3 : Int32)), .val (.ref b146)] [(.long (own_ushrL q2 (32 : Int32))), (.int (4 : Int32)), (.ref b146)])) _
      refine XS.l2i X161.here hx rfl (hb hby at_58) rfl ?_
      show Steps p.tables e below (T161.setTop (mkF m 59 #[.val (.int p0), .val (.int p1), .val (.long q2), .second, .val (.int (3 : Int32)), .val (.ref b146)] [(.int ((own_ushrL q2 (32 : Int32)).toInt32)), (.int (4 : Int32)), (.ref b146)])) _
      refine XS.i2b X161.here hx rfl (hb hby at_59) rfl ?_
      exact kt
    obtain ⟨c164, Ar164, S164, M164, H164⟩ := id f162
    have hin164 : ¬ ((4 : Int32) < 0 ∨ c164.slots.size ≤ ((4 : Int32)).toNatClampNeg) := own_in S164 ⟨by decide, by decide⟩
    obtain ⟨T165, h165, X165, e165, W165, st165⟩ := stB X161 hx hZ e161 Ar164 (j := (4 : Int32)) hin164 (g := (mkF m 60 #[.val (.int p0), .val (.int p1), .val (.long q2), .second, .val (.int (3 : Int32)), .val (.ref b146)] [(.int (((own_ushrL q2 (32 : Int32)).toInt32).toInt8.toInt32)), (.int (4 : Int32)), (.ref b146)])) rfl rfl (hb hby at_60)
    have f167 : Exa Z h165 b146 "[B" := f163.wr W165
    have f166 : own_AI Z h165 b146 .byte 7 (own_upd (own_upd (own_upd (own_upd (own_upd (fun _ => 0) 0 (nar .byte ((q2.toInt32).toInt8.toInt32))) 1 (nar .byte (((own_ushrL q2 (8 : Int32)).toInt32).toInt8.toInt32))) 2 (nar .byte (((own_ushrL q2 (16 : Int32)).toInt32).toInt8.toInt32))) 3 (nar .byte (((own_ushrL q2 (24 : Int32)).toInt32).toInt8.toInt32))) 4 (nar .byte (((own_ushrL q2 (32 : Int32)).toInt32).toInt8.toInt32))) := own_AI.set Ar164 S164 M164 H164 W165
    have Z165 : n0 ≤ h165.size := Nat.le_trans Z161 (Keep.of_wr W165).1
    have N165 := Fr.snoc X165 N161 g_b146
    refine own_go (S' := T165.setTop (mkF m 61 #[.val (.int p0), .val (.int p1), .val (.long q2), .second, .val (.int (3 : Int32)), .val (.ref b146)] [])) st165 ?_
    refine own_go (S' := T165.setTop (mkF m 70 #[.val (.int p0), .val (.int p1), .val (.long q2), .second, .val (.int (3 : Int32)), .val (.ref b146)] [(.int (((own_ushrL q2 (40 : Int32)).toInt32).toInt8.toInt32)), (.int (5 : Int32)), (.ref b146)])) (fun target kt => ?_) ?_
    · skip
      show Steps p.tables e below (T165.setTop (mkF m 61 #[.val (.int p0), .val (.int p1), .val (.long q2), .second, .val (.int (3 : Int32)), .val (.ref b146)] [])) _
      refine XS.aload X165.here hx rfl (hb hby at_61) rfl rfl ?_
      show Steps p.tables e below (T165.setTop (mkF m 63 #[.val (.int p0), .val (.int p1), .val (.long q2), .second, .val (.int (3 : Int32)), .val (.ref b146)] [(.ref b146)])) _
      refine XS.iconst X165.here hx rfl (hb hby at_63) ?_
      show Steps p.tables e below (T165.setTop (mkF m 64 #[.val (.int p0), .val (.int p1), .val (.long q2), .second, .val (.int (3 : Int32)), .val (.ref b146)] [(.int (5 : Int32)), (.ref b146)])) _
      refine XS.lloadN X165.here hx rfl (hb hby at_64) rfl ?_
      show Steps p.tables e below (T165.setTop (mkF m 65 #[.val (.int p0), .val (.int p1), .val (.long q2), .second, .val (.int (3 : Int32)), .val (.ref b146)] [(.long q2), (.int (5 : Int32)), (.ref b146)])) _
      refine XS.bipush X165.here hx rfl (hb hby at_65) ?_
      show Steps p.tables e below (T165.setTop (mkF m 67 #[.val (.int p0), .val (.int p1), .val (.long q2), .second, .val (.int (3 : Int32)), .val (.ref b146)] [(.int (40 : Int32)), (.long q2), (.int (5 : Int32)), (.ref b146)])) _
      refine XS.lushr X165.here hx rfl (hb hby at_67) rfl ?_
      show Steps p.tables e below (T165.setTop (mkF m 68 #[.val (.int p0), .val (.int p1), .val (.long q2), .second, .val (.int (3 : Int32)), .val (.ref b146)] [(.long (own_ushrL q2 (40 : Int32))), (.int (5 : Int32)), (.ref b146)])) _
      refine XS.l2i X165.here hx rfl (hb hby at_68) rfl ?_
      show Steps p.tables e below (T165.setTop (mkF m 69 #[.val (.int p0), .val (.int p1), .val (.long q2), .second, .val (.int (3 : Int32)), .val (.ref b146)] [(.int ((own_ushrL q2 (40 : Int32)).toInt32)), (.int (5 : Int32)), (.ref b146)])) _
      refine XS.i2b X165.here hx rfl (hb hby at_69) rfl ?_
      exact kt
    obtain ⟨c168, Ar168, S168, M168, H168⟩ := id f166
    have hin168 : ¬ ((5 : Int32) < 0 ∨ c168.slots.size ≤ ((5 : Int32)).toNatClampNeg) := own_in S168 ⟨by decide, by decide⟩
    obtain ⟨T169, h169, X169, e169, W169, st169⟩ := stB X165 hx hZ e165 Ar168 (j := (5 : Int32)) hin168 (g := (mkF m 70 #[.val (.int p0), .val (.int p1), .val (.long q2), .second, .val (.int (3 : Int32)), .val (.ref b146)] [(.int (((own_ushrL q2 (40 : Int32)).toInt32).toInt8.toInt32)), (.int (5 : Int32)), (.ref b146)])) rfl rfl (hb hby at_70)
    have f171 : Exa Z h169 b146 "[B" := f167.wr W169
    have f170 : own_AI Z h169 b146 .byte 7 (own_upd (own_upd (own_upd (own_upd (own_upd (own_upd (fun _ => 0) 0 (nar .byte ((q2.toInt32).toInt8.toInt32))) 1 (nar .byte (((own_ushrL q2 (8 : Int32)).toInt32).toInt8.toInt32))) 2 (nar .byte (((own_ushrL q2 (16 : Int32)).toInt32).toInt8.toInt32))) 3 (nar .byte (((own_ushrL q2 (24 : Int32)).toInt32).toInt8.toInt32))) 4 (nar .byte (((own_ushrL q2 (32 : Int32)).toInt32).toInt8.toInt32))) 5 (nar .byte (((own_ushrL q2 (40 : Int32)).toInt32).toInt8.toInt32))) := own_AI.set Ar168 S168 M168 H168 W169
    have Z169 : n0 ≤ h169.size := Nat.le_trans Z165 (Keep.of_wr W169).1
    have N169 := Fr.snoc X169 N165 g_b146
    refine own_go (S' := T169.setTop (mkF m 71 #[.val (.int p0), .val (.int p1), .val (.long q2), .second, .val (.int (3 : Int32)), .val (.ref b146)] [])) st169 ?_
    refine own_go (S' := T169.setTop (mkF m 81 #[.val (.int p0), .val (.int p1), .val (.long q2), .second, .val (.int (3 : Int32)), .val (.ref b146)] [(.int (((own_ushrL q2 (48 : Int32)).toInt32).toInt8.toInt32)), (.int (6 : Int32)), (.ref b146)])) (fun target kt => ?_) ?_
    · skip
      show Steps p.tables e below (T169.setTop (mkF m 71 #[.val (.int p0), .val (.int p1), .val (.long q2), .second, .val (.int (3 : Int32)), .val (.ref b146)] [])) _
      refine XS.aload X169.here hx rfl (hb hby at_71) rfl rfl ?_
      show Steps p.tables e below (T169.setTop (mkF m 73 #[.val (.int p0), .val (.int p1), .val (.long q2), .second, .val (.int (3 : Int32)), .val (.ref b146)] [(.ref b146)])) _
      refine XS.bipush X169.here hx rfl (hb hby at_73) ?_
      show Steps p.tables e below (T169.setTop (mkF m 75 #[.val (.int p0), .val (.int p1), .val (.long q2), .second, .val (.int (3 : Int32)), .val (.ref b146)] [(.int (6 : Int32)), (.ref b146)])) _
      refine XS.lloadN X169.here hx rfl (hb hby at_75) rfl ?_
      show Steps p.tables e below (T169.setTop (mkF m 76 #[.val (.int p0), .val (.int p1), .val (.long q2), .second, .val (.int (3 : Int32)), .val (.ref b146)] [(.long q2), (.int (6 : Int32)), (.ref b146)])) _
      refine XS.bipush X169.here hx rfl (hb hby at_76) ?_
      show Steps p.tables e below (T169.setTop (mkF m 78 #[.val (.int p0), .val (.int p1), .val (.long q2), .second, .val (.int (3 : Int32)), .val (.ref b146)] [(.int (48 : Int32)), (.long q2), (.int (6 : Int32)), (.ref b146)])) _
      refine XS.lushr X169.here hx rfl (hb hby at_78) rfl ?_
      show Steps p.tables e below (T169.setTop (mkF m 79 #[.val (.int p0), .val (.int p1), .val (.long q2), .second, .val (.int (3 : Int32)), .val (.ref b146)] [(.long (own_ushrL q2 (48 : Int32))), (.int (6 : Int32)), (.ref b146)])) _
      refine XS.l2i X169.here hx rfl (hb hby at_79) rfl ?_
      show Steps p.tables e below (T169.setTop (mkF m 80 #[.val (.int p0), .val (.int p1), .val (.long q2), .second, .val (.int (3 : Int32)), .val (.ref b146)] [(.int ((own_ushrL q2 (48 : Int32)).toInt32)), (.int (6 : Int32)), (.ref b146)])) _
      refine XS.i2b X169.here hx rfl (hb hby at_80) rfl ?_
      exact kt
    obtain ⟨c172, Ar172, S172, M172, H172⟩ := id f170
    have hin172 : ¬ ((6 : Int32) < 0 ∨ c172.slots.size ≤ ((6 : Int32)).toNatClampNeg) := own_in S172 ⟨by decide, by decide⟩
    obtain ⟨T173, h173, X173, e173, W173, st173⟩ := stB X169 hx hZ e169 Ar172 (j := (6 : Int32)) hin172 (g := (mkF m 81 #[.val (.int p0), .val (.int p1), .val (.long q2), .second, .val (.int (3 : Int32)), .val (.ref b146)] [(.int (((own_ushrL q2 (48 : Int32)).toInt32).toInt8.toInt32)), (.int (6 : Int32)), (.ref b146)])) rfl rfl (hb hby at_81)
    have f175 : Exa Z h173 b146 "[B" := f171.wr W173
    have f174 : own_AI Z h173 b146 .byte 7 (own_upd (own_upd (own_upd (own_upd (own_upd (own_upd (own_upd (fun _ => 0) 0 (nar .byte ((q2.toInt32).toInt8.toInt32))) 1 (nar .byte (((own_ushrL q2 (8 : Int32)).toInt32).toInt8.toInt32))) 2 (nar .byte (((own_ushrL q2 (16 : Int32)).toInt32).toInt8.toInt32))) 3 (nar .byte (((own_ushrL q2 (24 : Int32)).toInt32).toInt8.toInt32))) 4 (nar .byte (((own_ushrL q2 (32 : Int32)).toInt32).toInt8.toInt32))) 5 (nar .byte (((own_ushrL q2 (40 : Int32)).toInt32).toInt8.toInt32))) 6 (nar .byte (((own_ushrL q2 (48 : Int32)).toInt32).toInt8.toInt32))) := own_AI.set Ar172 S172 M172 H172 W173
    have Z173 : n0 ≤ h173.size := Nat.le_trans Z169 (Keep.of_wr W173).1
    have N173 := Fr.snoc X173 N169 g_b146
    refine own_go (S' := T173.setTop (mkF m 82 #[.val (.int p0), .val (.int p1), .val (.long q2), .second, .val (.int (3 : Int32)), .val (.ref b146)] [])) st173 ?_
    refine own_go (S' := T173.setTop (mkF m 91 #[.val (.int p0), .val (.int p1), .val (.long q2), .second, .val (.int (3 : Int32)), .val (.ref b146)] [(.int ((own_ushr p0 (24 : Int32)).toInt8.toInt32)), (.int (3 : Int32)), (.ref b146)])) (fun target kt => ?_) ?_
    · skip
      show Steps p.tables e below (T173.setTop (mkF m 82 #[.val (.int p0), .val (.int p1), .val (.long q2), .second, .val (.int (3 : Int32)), .val (.ref b146)] [])) _
      refine XS.aload X173.here hx rfl (hb hby at_82) rfl rfl ?_
      show Steps p.tables e below (T173.setTop (mkF m 84 #[.val (.int p0), .val (.int p1), .val (.long q2), .second, .val (.int (3 : Int32)), .val (.ref b146)] [(.ref b146)])) _
      refine XS.iload X173.here hx rfl (hb hby at_84) rfl ?_
      show Steps p.tables e below (T173.setTop (mkF m 86 #[.val (.int p0), .val (.int p1), .val (.long q2), .second, .val (.int (3 : Int32)), .val (.ref b146)] [(.int (3 : Int32)), (.ref b146)])) _
      refine XS.iloadN X173.here hx rfl (hb hby at_86) rfl ?_
      show Steps p.tables e below (T173.setTop (mkF m 87 #[.val (.int p0), .val (.int p1), .val (.long q2), .second, .val (.int (3 : Int32)), .val (.ref b146)] [(.int p0), (.int (3 : Int32)), (.ref b146)])) _
      refine XS.bipush X173.here hx rfl (hb hby at_87) ?_
      show Steps p.tables e below (T173.setTop (mkF m 89 #[.val (.int p0), .val (.int p1), .val (.long q2), .second, .val (.int (3 : Int32)), .val (.ref b146)] [(.int (24 : Int32)), (.int p0), (.int (3 : Int32)), (.ref b146)])) _
      refine XS.iushr X173.here hx rfl (hb hby at_89) rfl ?_
      show Steps p.tables e below (T173.setTop (mkF m 90 #[.val (.int p0), .val (.int p1), .val (.long q2), .second, .val (.int (3 : Int32)), .val (.ref b146)] [(.int (own_ushr p0 (24 : Int32))), (.int (3 : Int32)), (.ref b146)])) _
      refine XS.i2b X173.here hx rfl (hb hby at_90) rfl ?_
      exact kt
    obtain ⟨c176, Ar176, S176, M176, H176⟩ := id f174
    have hin176 : ¬ ((3 : Int32) < 0 ∨ c176.slots.size ≤ ((3 : Int32)).toNatClampNeg) := own_in S176 ⟨by decide, by decide⟩
    obtain ⟨T177, h177, X177, e177, W177, st177⟩ := stB X173 hx hZ e173 Ar176 (j := (3 : Int32)) hin176 (g := (mkF m 91 #[.val (.int p0), .val (.int p1), .val (.long q2), .second, .val (.int (3 : Int32)), .val (.ref b146)] [(.int ((own_ushr p0 (24 : Int32)).toInt8.toInt32)), (.int (3 : Int32)), (.ref b146)])) rfl rfl (hb hby at_91)
    have f179 : Exa Z h177 b146 "[B" := f175.wr W177
    have f178 : own_AI Z h177 b146 .byte 7 (own_upd (own_upd (own_upd (own_upd (own_upd (own_upd (own_upd (own_upd (fun _ => 0) 0 (nar .byte ((q2.toInt32).toInt8.toInt32))) 1 (nar .byte (((own_ushrL q2 (8 : Int32)).toInt32).toInt8.toInt32))) 2 (nar .byte (((own_ushrL q2 (16 : Int32)).toInt32).toInt8.toInt32))) 3 (nar .byte (((own_ushrL q2 (24 : Int32)).toInt32).toInt8.toInt32))) 4 (nar .byte (((own_ushrL q2 (32 : Int32)).toInt32).toInt8.toInt32))) 5 (nar .byte (((own_ushrL q2 (40 : Int32)).toInt32).toInt8.toInt32))) 6 (nar .byte (((own_ushrL q2 (48 : Int32)).toInt32).toInt8.toInt32))) 3 (nar .byte ((own_ushr p0 (24 : Int32)).toInt8.toInt32))) := own_AI.set Ar176 S176 M176 H176 W177
    have Z177 : n0 ≤ h177.size := Nat.le_trans Z173 (Keep.of_wr W177).1
    have N177 := Fr.snoc X177 N173 g_b146
    refine own_go (S' := T177.setTop (mkF m 92 #[.val (.int p0), .val (.int p1), .val (.long q2), .second, .val (.int (3 : Int32)), .val (.ref b146)] [])) st177 ?_
    refine own_go (S' := T177.setTop (mkF m 103 #[.val (.int p0), .val (.int p1), .val (.long q2), .second, .val (.int (3 : Int32)), .val (.ref b146)] [(.int ((own_ushr p0 (16 : Int32)).toInt8.toInt32)), (.int (4 : Int32)), (.ref b146)])) (fun target kt => ?_) ?_
    · skip
      show Steps p.tables e below (T177.setTop (mkF m 92 #[.val (.int p0), .val (.int p1), .val (.long q2), .second, .val (.int (3 : Int32)), .val (.ref b146)] [])) _
      refine XS.aload X177.here hx rfl (hb hby at_92) rfl rfl ?_
      show Steps p.tables e below (T177.setTop (mkF m 94 #[.val (.int p0), .val (.int p1), .val (.long q2), .second, .val (.int (3 : Int32)), .val (.ref b146)] [(.ref b146)])) _
      refine XS.iload X177.here hx rfl (hb hby at_94) rfl ?_
      show Steps p.tables e below (T177.setTop (mkF m 96 #[.val (.int p0), .val (.int p1), .val (.long q2), .second, .val (.int (3 : Int32)), .val (.ref b146)] [(.int (3 : Int32)), (.ref b146)])) _
      refine XS.iconst X177.here hx rfl (hb hby at_96) ?_
      show Steps p.tables e below (T177.setTop (mkF m 97 #[.val (.int p0), .val (.int p1), .val (.long q2), .second, .val (.int (3 : Int32)), .val (.ref b146)] [(.int (1 : Int32)), (.int (3 : Int32)), (.ref b146)])) _
      refine XS.iadd X177.here hx rfl (hb hby at_97) rfl ?_
      rw [show ((3 : Int32) + (1 : Int32)) = (4 : Int32) from by decide]
      show Steps p.tables e below (T177.setTop (mkF m 98 #[.val (.int p0), .val (.int p1), .val (.long q2), .second, .val (.int (3 : Int32)), .val (.ref b146)] [(.int (4 : Int32)), (.ref b146)])) _
      refine XS.iloadN X177.here hx rfl (hb hby at_98) rfl ?_
      show Steps p.tables e below (T177.setTop (mkF m 99 #[.val (.int p0), .val (.int p1), .val (.long q2), .second, .val (.int (3 : Int32)), .val (.ref b146)] [(.int p0), (.int (4 : Int32)), (.ref b146)])) _
      refine XS.bipush X177.here hx rfl (hb hby at_99) ?_
      show Steps p.tables e below (T177.setTop (mkF m 101 #[.val (.int p0), .val (.int p1), .val (.long q2), .second, .val (.int (3 : Int32)), .val (.ref b146)] [(.int (16 : Int32)), (.int p0), (.int (4 : Int32)), (.ref b146)])) _
      refine XS.iushr X177.here hx rfl (hb hby at_101) rfl ?_
      show Steps p.tables e below (T177.setTop (mkF m 102 #[.val (.int p0), .val (.int p1), .val (.long q2), .second, .val (.int (3 : Int32)), .val (.ref b146)] [(.int (own_ushr p0 (16 : Int32))), (.int (4 : Int32)), (.ref b146)])) _
      refine XS.i2b X177.here hx rfl (hb hby at_102) rfl ?_
      exact kt
    obtain ⟨c180, Ar180, S180, M180, H180⟩ := id f178
    have hin180 : ¬ ((4 : Int32) < 0 ∨ c180.slots.size ≤ ((4 : Int32)).toNatClampNeg) := own_in S180 ⟨by decide, by decide⟩
    obtain ⟨T181, h181, X181, e181, W181, st181⟩ := stB X177 hx hZ e177 Ar180 (j := (4 : Int32)) hin180 (g := (mkF m 103 #[.val (.int p0), .val (.int p1), .val (.long q2), .second, .val (.int (3 : Int32)), .val (.ref b146)] [(.int ((own_ushr p0 (16 : Int32)).toInt8.toInt32)), (.int (4 : Int32)), (.ref b146)])) rfl rfl (hb hby at_103)
    have f183 : Exa Z h181 b146 "[B" := f179.wr W181
    have f182 : own_AI Z h181 b146 .byte 7 (own_upd (own_upd (own_upd (own_upd (own_upd (own_upd (own_upd (own_upd (own_upd (fun _ => 0) 0 (nar .byte ((q2.toInt32).toInt8.toInt32))) 1 (nar .byte (((own_ushrL q2 (8 : Int32)).toInt32).toInt8.toInt32))) 2 (nar .byte (((own_ushrL q2 (16 : Int32)).toInt32).toInt8.toInt32))) 3 (nar .byte (((own_ushrL q2 (24 : Int32)).toInt32).toInt8.toInt32))) 4 (nar .byte (((own_ushrL q2 (32 : Int32)).toInt32).toInt8.toInt32))) 5 (nar .byte (((own_ushrL q2 (40 : Int32)).toInt32).toInt8.toInt32))) 6 (nar .byte (((own_ushrL q2 (48 : Int32)).toInt32).toInt8.toInt32))) 3 (nar .byte ((own_ushr p0 (24 : Int32)).toInt8.toInt32))) 4 (nar .byte ((own_ushr p0 (16 : Int32)).toInt8.toInt32))) := own_AI.set Ar180 S180 M180 H180 W181
    have Z181 : n0 ≤ h181.size := Nat.le_trans Z177 (Keep.of_wr W181).1
    have N181 := Fr.snoc X181 N177 g_b146
    refine own_go (S' := T181.setTop (mkF m 104 #[.val (.int p0), .val (.int p1), .val (.long q2), .second, .val (.int (3 : Int32)), .val (.ref b146)] [])) st181 ?_
    refine own_go (S' := T181.setTop (mkF m 115 #[.val (.int p0), .val (.int p1), .val (.long q2), .second, .val (.int (3 : Int32)), .val (.ref b146)] [(.int ((own_ushr p0 (8 : Int32)).toInt8.toInt32)), (.int (5 : Int32)), (.ref b146)])) (fun target kt => ?_) ?_
    · skip
      show Steps p.tables e below (T181.setTop (mkF m 104 #[.val (.int p0), .val (.int p1), .val (.long q2), .second, .val (.int (3 : Int32)), .val (.ref b146)] [])) _
      refine XS.aload X181.here hx rfl (hb hby at_104) rfl rfl ?_
      show Steps p.tables e below (T181.setTop (mkF m 106 #[.val (.int p0), .val (.int p1), .val (.long q2), .second, .val (.int (3 : Int32)), .val (.ref b146)] [(.ref b146)])) _
      refine XS.iload X181.here hx rfl (hb hby at_106) rfl ?_
      show Steps p.tables e below (T181.setTop (mkF m 108 #[.val (.int p0), .val (.int p1), .val (.long q2), .second, .val (.int (3 : Int32)), .val (.ref b146)] [(.int (3 : Int32)), (.ref b146)])) _
      refine XS.iconst X181.here hx rfl (hb hby at_108) ?_
      show Steps p.tables e below (T181.setTop (mkF m 109 #[.val (.int p0), .val (.int p1), .val (.long q2), .second, .val (.int (3 : Int32)), .val (.ref b146)] [(.int (2 : Int32)), (.int (3 : Int32)), (.ref b146)])) _
      refine XS.iadd X181.here hx rfl (hb hby at_109) rfl ?_
      rw [show ((3 : Int32) + (2 : Int32)) = (5 : Int32) from by decide]
      show Steps p.tables e below (T181.setTop (mkF m 110 #[.val (.int p0), .val (.int p1), .val (.long q2), .second, .val (.int (3 : Int32)), .val (.ref b146)] [(.int (5 : Int32)), (.ref b146)])) _
      refine XS.iloadN X181.here hx rfl (hb hby at_110) rfl ?_
      show Steps p.tables e below (T181.setTop (mkF m 111 #[.val (.int p0), .val (.int p1), .val (.long q2), .second, .val (.int (3 : Int32)), .val (.ref b146)] [(.int p0), (.int (5 : Int32)), (.ref b146)])) _
      refine XS.bipush X181.here hx rfl (hb hby at_111) ?_
      show Steps p.tables e below (T181.setTop (mkF m 113 #[.val (.int p0), .val (.int p1), .val (.long q2), .second, .val (.int (3 : Int32)), .val (.ref b146)] [(.int (8 : Int32)), (.int p0), (.int (5 : Int32)), (.ref b146)])) _
      refine XS.iushr X181.here hx rfl (hb hby at_113) rfl ?_
      show Steps p.tables e below (T181.setTop (mkF m 114 #[.val (.int p0), .val (.int p1), .val (.long q2), .second, .val (.int (3 : Int32)), .val (.ref b146)] [(.int (own_ushr p0 (8 : Int32))), (.int (5 : Int32)), (.ref b146)])) _
      refine XS.i2b X181.here hx rfl (hb hby at_114) rfl ?_
      exact kt
    obtain ⟨c184, Ar184, S184, M184, H184⟩ := id f182
    have hin184 : ¬ ((5 : Int32) < 0 ∨ c184.slots.size ≤ ((5 : Int32)).toNatClampNeg) := own_in S184 ⟨by decide, by decide⟩
    obtain ⟨T185, h185, X185, e185, W185, st185⟩ := stB X181 hx hZ e181 Ar184 (j := (5 : Int32)) hin184 (g := (mkF m 115 #[.val (.int p0), .val (.int p1), .val (.long q2), .second, .val (.int (3 : Int32)), .val (.ref b146)] [(.int ((own_ushr p0 (8 : Int32)).toInt8.toInt32)), (.int (5 : Int32)), (.ref b146)])) rfl rfl (hb hby at_115)
    have f187 : Exa Z h185 b146 "[B" := f183.wr W185
    have f186 : own_AI Z h185 b146 .byte 7 (own_upd (own_upd (own_upd (own_upd (own_upd (own_upd (own_upd (own_upd (own_upd (own_upd (fun _ => 0) 0 (nar .byte ((q2.toInt32).toInt8.toInt32))) 1 (nar .byte (((own_ushrL q2 (8 : Int32)).toInt32).toInt8.toInt32))) 2 (nar .byte (((own_ushrL q2 (16 : Int32)).toInt32).toInt8.toInt32))) 3 (nar .byte (((own_ushrL q2 (24 : Int32)).toInt32).toInt8.toInt32))) 4 (nar .byte (((own_ushrL q2 (32 : Int32)).toInt32).toInt8.toInt32))) 5 (nar .byte (((own_ushrL q2 (40 : Int32)).toInt32).toInt8.toInt32))) 6 (nar .byte (((own_ushrL q2 (48 : Int32)).toInt32).toInt8.toInt32))) 3 (nar .byte ((own_ushr p0 (24 : Int32)).toInt8.toInt32))) 4 (nar .byte ((own_ushr p0 (16 : Int32)).toInt8.toInt32))) 5 (nar .byte ((own_ushr p0 (8 : Int32)).toInt8.toInt32))) := own_AI.set Ar184 S184 M184 H184 W185
    have Z185 : n0 ≤ h185.size := Nat.le_trans Z181 (Keep.of_wr W185).1
    have N185 := Fr.snoc X185 N181 g_b146
    refine own_go (S' := T185.setTop (mkF m 116 #[.val (.int p0), .val (.int p1), .val (.long q2), .second, .val (.int (3 : Int32)), .val (.ref b146)] [])) st185 ?_
    refine own_go (S' := T185.setTop (mkF m 124 #[.val (.int p0), .val (.int p1), .val (.long q2), .second, .val (.int (3 : Int32)), .val (.ref b146)] [(.int (p0.toInt8.toInt32)), (.int (6 : Int32)), (.ref b146)])) (fun target kt => ?_) ?_
    · skip
      show Steps p.tables e below (T185.setTop (mkF m 116 #[.val (.int p0), .val (.int p1), .val (.long q2), .second, .val (.int (3 : Int32)), .val (.ref b146)] [])) _
      refine XS.aload X185.here hx rfl (hb hby at_116) rfl rfl ?_
      show Steps p.tables e below (T185.setTop (mkF m 118 #[.val (.int p0), .val (.int p1), .val (.long q2), .second, .val (.int (3 : Int32)), .val (.ref b146)] [(.ref b146)])) _
      refine XS.iload X185.here hx rfl (hb hby at_118) rfl ?_
      show Steps p.tables e below (T185.setTop (mkF m 120 #[.val (.int p0), .val (.int p1), .val (.long q2), .second, .val (.int (3 : Int32)), .val (.ref b146)] [(.int (3 : Int32)), (.ref b146)])) _
      refine XS.iconst X185.here hx rfl (hb hby at_120) ?_
      show Steps p.tables e below (T185.setTop (mkF m 121 #[.val (.int p0), .val (.int p1), .val (.long q2), .second, .val (.int (3 : Int32)), .val (.ref b146)] [(.int (3 : Int32)), (.int (3 : Int32)), (.ref b146)])) _
      refine XS.iadd X185.here hx rfl (hb hby at_121) rfl ?_
      rw [show ((3 : Int32) + (3 : Int32)) = (6 : Int32) from by decide]
      show Steps p.tables e below (T185.setTop (mkF m 122 #[.val (.int p0), .val (.int p1), .val (.long q2), .second, .val (.int (3 : Int32)), .val (.ref b146)] [(.int (6 : Int32)), (.ref b146)])) _
      refine XS.iloadN X185.here hx rfl (hb hby at_122) rfl ?_
      show Steps p.tables e below (T185.setTop (mkF m 123 #[.val (.int p0), .val (.int p1), .val (.long q2), .second, .val (.int (3 : Int32)), .val (.ref b146)] [(.int p0), (.int (6 : Int32)), (.ref b146)])) _
      refine XS.i2b X185.here hx rfl (hb hby at_123) rfl ?_
      exact kt
    obtain ⟨c188, Ar188, S188, M188, H188⟩ := id f186
    have hin188 : ¬ ((6 : Int32) < 0 ∨ c188.slots.size ≤ ((6 : Int32)).toNatClampNeg) := own_in S188 ⟨by decide, by decide⟩
    obtain ⟨T189, h189, X189, e189, W189, st189⟩ := stB X185 hx hZ e185 Ar188 (j := (6 : Int32)) hin188 (g := (mkF m 124 #[.val (.int p0), .val (.int p1), .val (.long q2), .second, .val (.int (3 : Int32)), .val (.ref b146)] [(.int (p0.toInt8.toInt32)), (.int (6 : Int32)), (.ref b146)])) rfl rfl (hb hby at_124)
    have f191 : Exa Z h189 b146 "[B" := f187.wr W189
    have f190 : own_AI Z h189 b146 .byte 7 (own_upd (own_upd (own_upd (own_upd (own_upd (own_upd (own_upd (own_upd (own_upd (own_upd (own_upd (fun _ => 0) 0 (nar .byte ((q2.toInt32).toInt8.toInt32))) 1 (nar .byte (((own_ushrL q2 (8 : Int32)).toInt32).toInt8.toInt32))) 2 (nar .byte (((own_ushrL q2 (16 : Int32)).toInt32).toInt8.toInt32))) 3 (nar .byte (((own_ushrL q2 (24 : Int32)).toInt32).toInt8.toInt32))) 4 (nar .byte (((own_ushrL q2 (32 : Int32)).toInt32).toInt8.toInt32))) 5 (nar .byte (((own_ushrL q2 (40 : Int32)).toInt32).toInt8.toInt32))) 6 (nar .byte (((own_ushrL q2 (48 : Int32)).toInt32).toInt8.toInt32))) 3 (nar .byte ((own_ushr p0 (24 : Int32)).toInt8.toInt32))) 4 (nar .byte ((own_ushr p0 (16 : Int32)).toInt8.toInt32))) 5 (nar .byte ((own_ushr p0 (8 : Int32)).toInt8.toInt32))) 6 (nar .byte (p0.toInt8.toInt32))) := own_AI.set Ar188 S188 M188 H188 W189
    have Z189 : n0 ≤ h189.size := Nat.le_trans Z185 (Keep.of_wr W189).1
    have N189 := Fr.snoc X189 N185 g_b146
    refine own_go (S' := T189.setTop (mkF m 125 #[.val (.int p0), .val (.int p1), .val (.long q2), .second, .val (.int (3 : Int32)), .val (.ref b146)] [])) st189 ?_
    refine own_go (S' := T189.setTop (mkF m 129 #[.val (.int p0), .val (.int p1), .val (.long q2), .second, .val (.int (3 : Int32)), .val (.ref b146)] [(.int (3 : Int32)), (.ref b146)])) (fun target kt => ?_) ?_
    · skip
      show Steps p.tables e below (T189.setTop (mkF m 125 #[.val (.int p0), .val (.int p1), .val (.long q2), .second, .val (.int (3 : Int32)), .val (.ref b146)] [])) _
      refine XS.aload X189.here hx rfl (hb hby at_125) rfl rfl ?_
      show Steps p.tables e below (T189.setTop (mkF m 127 #[.val (.int p0), .val (.int p1), .val (.long q2), .second, .val (.int (3 : Int32)), .val (.ref b146)] [(.ref b146)])) _
      refine XS.iload X189.here hx rfl (hb hby at_127) rfl ?_
      exact kt
    obtain ⟨_, _, ⟨T192, L192, k192, n192⟩, -, X192, ⟨Lc192, hQ192, l192, y192, z192⟩, st192⟩ := Jvm.LawKit.callS X189 hx (y := (⟨"portwarden/wire/Decoder", "uint32", "([BI)I"⟩ : MethodName)) hown (mvT hZ (hw _ (List.mem_of_getElem? (i := 2) rfl))) (mvT hZ (hw _ (List.mem_of_getElem? (i := 3) rfl))) (mvT hZ (hw _ (List.mem_of_getElem? (i := 4) rfl))) (mvT hZ (hw _ (List.mem_of_getElem? (i := 5) rfl))) (by decide) (backOf (W := 0) (rm1 l Z aZ hw [] b146 (3 : Int32) (own_upd (own_upd (own_upd (own_upd (own_upd (own_upd (own_upd (own_upd (own_upd (own_upd (own_upd (fun _ => 0) 0 (nar .byte ((q2.toInt32).toInt8.toInt32))) 1 (nar .byte (((own_ushrL q2 (8 : Int32)).toInt32).toInt8.toInt32))) 2 (nar .byte (((own_ushrL q2 (16 : Int32)).toInt32).toInt8.toInt32))) 3 (nar .byte (((own_ushrL q2 (24 : Int32)).toInt32).toInt8.toInt32))) 4 (nar .byte (((own_ushrL q2 (32 : Int32)).toInt32).toInt8.toInt32))) 5 (nar .byte (((own_ushrL q2 (40 : Int32)).toInt32).toInt8.toInt32))) 6 (nar .byte (((own_ushrL q2 (48 : Int32)).toInt32).toInt8.toInt32))) 3 (nar .byte ((own_ushr p0 (24 : Int32)).toInt8.toInt32))) 4 (nar .byte ((own_ushr p0 (16 : Int32)).toInt8.toInt32))) 5 (nar .byte ((own_ushr p0 (8 : Int32)).toInt8.toInt32))) 6 (nar .byte (p0.toInt8.toInt32))) h189 n0 Z189 f190 (⟨by decide, by decide⟩ : ¬ (3 : Int32) < 0 ∧ ((3 : Int32)).toNatClampNeg < 7) (⟨by decide, by decide⟩ : ¬ ((3 : Int32) + (1 : Int32)) < 0 ∧ (((3 : Int32) + (1 : Int32))).toNatClampNeg < 7) (⟨by decide, by decide⟩ : ¬ ((3 : Int32) + (2 : Int32)) < 0 ∧ (((3 : Int32) + (2 : Int32))).toNatClampNeg < 7) (⟨by decide, by decide⟩ : ¬ ((3 : Int32) + (3 : Int32)) < 0 ∧ (((3 : Int32) + (3 : Int32))).toNatClampNeg < 7)) hZ (hw _ (List.mem_of_getElem? (i := 5) rfl)) (hw _ (List.mem_of_getElem? (i := 4) rfl)) (by decide) (by decide)) (g := (mkF m 129 #[.val (.int p0), .val (.int p1), .val (.long q2), .second, .val (.int (3 : Int32)), .val (.ref b146)] [(.int (3 : Int32)), (.ref b146)])) rfl (by rw [hml]; rfl) (argsL := [(.ref b146), (.int (3 : Int32))]) (rest := []) (lenOf own_pd0 rfl) rfl (by show 2 * 0 + _ ≤ _; exact Nat.le_of_eq rfl) (hb hby at_129) (fun _ _ => ⟨rfl, e189, (by decide : 1 + 0 ≤ _), (by decide : 7 + 0 ≤ _)⟩)
    dsimp only [Pt.U, Pt.locs, Pt.cells, Pt.slots] at X192 l192 y192 z192 st192 hQ192
    subst l192 y192 z192
    obtain ⟨rfl, N192q, e192⟩ := hQ192
    have N192 := Fr.app N189 N192q
    refine own_go (S' := T192.setTop (mkF m 132 #[.val (.int p0), .val (.int p1), .val (.long q2), .second, .val (.int (3 : Int32)), .val (.ref b146)] [(.int (own_u32 ((own_upd (own_upd (own_upd (own_upd (own_upd (own_upd (own_upd (own_upd (own_upd (own_upd (own_upd (fun _ => 0) 0 (nar .byte ((q2.toInt32).toInt8.toInt32))) 1 (nar .byte (((own_ushrL q2 (8 : Int32)).toInt32).toInt8.toInt32))) 2 (nar .byte (((own_ushrL q2 (16 : Int32)).toInt32).toInt8.toInt32))) 3 (nar .byte (((own_ushrL q2 (24 : Int32)).toInt32).toInt8.toInt32))) 4 (nar .byte (((own_ushrL q2 (32 : Int32)).toInt32).toInt8.toInt32))) 5 (nar .byte (((own_ushrL q2 (40 : Int32)).toInt32).toInt8.toInt32))) 6 (nar .byte (((own_ushrL q2 (48 : Int32)).toInt32).toInt8.toInt32))) 3 (nar .byte ((own_ushr p0 (24 : Int32)).toInt8.toInt32))) 4 (nar .byte ((own_ushr p0 (16 : Int32)).toInt8.toInt32))) 5 (nar .byte ((own_ushr p0 (8 : Int32)).toInt8.toInt32))) 6 (nar .byte (p0.toInt8.toInt32))) ((3 : Int32)).toNatClampNeg) ((own_upd (own_upd (own_upd (own_upd (own_upd (own_upd (own_upd (own_upd (own_upd (own_upd (own_upd (fun _ => 0) 0 (nar .byte ((q2.toInt32).toInt8.toInt32))) 1 (nar .byte (((own_ushrL q2 (8 : Int32)).toInt32).toInt8.toInt32))) 2 (nar .byte (((own_ushrL q2 (16 : Int32)).toInt32).toInt8.toInt32))) 3 (nar .byte (((own_ushrL q2 (24 : Int32)).toInt32).toInt8.toInt32))) 4 (nar .byte (((own_ushrL q2 (32 : Int32)).toInt32).toInt8.toInt32))) 5 (nar .byte (((own_ushrL q2 (40 : Int32)).toInt32).toInt8.toInt32))) 6 (nar .byte (((own_ushrL q2 (48 : Int32)).toInt32).toInt8.toInt32))) 3 (nar .byte ((own_ushr p0 (24 : Int32)).toInt8.toInt32))) 4 (nar .byte ((own_ushr p0 (16 : Int32)).toInt8.toInt32))) 5 (nar .byte ((own_ushr p0 (8 : Int32)).toInt8.toInt32))) 6 (nar .byte (p0.toInt8.toInt32))) (((3 : Int32) + (1 : Int32))).toNatClampNeg) ((own_upd (own_upd (own_upd (own_upd (own_upd (own_upd (own_upd (own_upd (own_upd (own_upd (own_upd (fun _ => 0) 0 (nar .byte ((q2.toInt32).toInt8.toInt32))) 1 (nar .byte (((own_ushrL q2 (8 : Int32)).toInt32).toInt8.toInt32))) 2 (nar .byte (((own_ushrL q2 (16 : Int32)).toInt32).toInt8.toInt32))) 3 (nar .byte (((own_ushrL q2 (24 : Int32)).toInt32).toInt8.toInt32))) 4 (nar .byte (((own_ushrL q2 (32 : Int32)).toInt32).toInt8.toInt32))) 5 (nar .byte (((own_ushrL q2 (40 : Int32)).toInt32).toInt8.toInt32))) 6 (nar .byte (((own_ushrL q2 (48 : Int32)).toInt32).toInt8.toInt32))) 3 (nar .byte ((own_ushr p0 (24 : Int32)).toInt8.toInt32))) 4 (nar .byte ((own_ushr p0 (16 : Int32)).toInt8.toInt32))) 5 (nar .byte ((own_ushr p0 (8 : Int32)).toInt8.toInt32))) 6 (nar .byte (p0.toInt8.toInt32))) (((3 : Int32) + (2 : Int32))).toNatClampNeg) ((own_upd (own_upd (own_upd (own_upd (own_upd (own_upd (own_upd (own_upd (own_upd (own_upd (own_upd (fun _ => 0) 0 (nar .byte ((q2.toInt32).toInt8.toInt32))) 1 (nar .byte (((own_ushrL q2 (8 : Int32)).toInt32).toInt8.toInt32))) 2 (nar .byte (((own_ushrL q2 (16 : Int32)).toInt32).toInt8.toInt32))) 3 (nar .byte (((own_ushrL q2 (24 : Int32)).toInt32).toInt8.toInt32))) 4 (nar .byte (((own_ushrL q2 (32 : Int32)).toInt32).toInt8.toInt32))) 5 (nar .byte (((own_ushrL q2 (40 : Int32)).toInt32).toInt8.toInt32))) 6 (nar .byte (((own_ushrL q2 (48 : Int32)).toInt32).toInt8.toInt32))) 3 (nar .byte ((own_ushr p0 (24 : Int32)).toInt8.toInt32))) 4 (nar .byte ((own_ushr p0 (16 : Int32)).toInt8.toInt32))) 5 (nar .byte ((own_ushr p0 (8 : Int32)).toInt8.toInt32))) 6 (nar .byte (p0.toInt8.toInt32))) (((3 : Int32) + (3 : Int32))).toNatClampNeg)))])) st192 ?_
    refine own_go (S' := T192.setTop (mkF m 141 #[.val (.int p0), .val (.int p1), .val (.long q2), .second, .val (.int (3 : Int32)), .val (.ref b146)] [(.int (1 : Int32))])) (fun target kt => ?_) ?_
    · skip
      show Steps p.tables e below (T192.setTop (mkF m 132 #[.val (.int p0), .val (.int p1), .val (.long q2), .second, .val (.int (3 : Int32)), .val (.ref b146)] [(.int (own_u32 ((own_upd (own_upd (own_upd (own_upd (own_upd (own_upd (own_upd (own_upd (own_upd (own_upd (own_upd (fun _ => 0) 0 (nar .byte ((q2.toInt32).toInt8.toInt32))) 1 (nar .byte (((own_ushrL q2 (8 : Int32)).toInt32).toInt8.toInt32))) 2 (nar .byte (((own_ushrL q2 (16 : Int32)).toInt32).toInt8.toInt32))) 3 (nar .byte (((own_ushrL q2 (24 : Int32)).toInt32).toInt8.toInt32))) 4 (nar .byte (((own_ushrL q2 (32 : Int32)).toInt32).toInt8.toInt32))) 5 (nar .byte (((own_ushrL q2 (40 : Int32)).toInt32).toInt8.toInt32))) 6 (nar .byte (((own_ushrL q2 (48 : Int32)).toInt32).toInt8.toInt32))) 3 (nar .byte ((own_ushr p0 (24 : Int32)).toInt8.toInt32))) 4 (nar .byte ((own_ushr p0 (16 : Int32)).toInt8.toInt32))) 5 (nar .byte ((own_ushr p0 (8 : Int32)).toInt8.toInt32))) 6 (nar .byte (p0.toInt8.toInt32))) ((3 : Int32)).toNatClampNeg) ((own_upd (own_upd (own_upd (own_upd (own_upd (own_upd (own_upd (own_upd (own_upd (own_upd (own_upd (fun _ => 0) 0 (nar .byte ((q2.toInt32).toInt8.toInt32))) 1 (nar .byte (((own_ushrL q2 (8 : Int32)).toInt32).toInt8.toInt32))) 2 (nar .byte (((own_ushrL q2 (16 : Int32)).toInt32).toInt8.toInt32))) 3 (nar .byte (((own_ushrL q2 (24 : Int32)).toInt32).toInt8.toInt32))) 4 (nar .byte (((own_ushrL q2 (32 : Int32)).toInt32).toInt8.toInt32))) 5 (nar .byte (((own_ushrL q2 (40 : Int32)).toInt32).toInt8.toInt32))) 6 (nar .byte (((own_ushrL q2 (48 : Int32)).toInt32).toInt8.toInt32))) 3 (nar .byte ((own_ushr p0 (24 : Int32)).toInt8.toInt32))) 4 (nar .byte ((own_ushr p0 (16 : Int32)).toInt8.toInt32))) 5 (nar .byte ((own_ushr p0 (8 : Int32)).toInt8.toInt32))) 6 (nar .byte (p0.toInt8.toInt32))) (((3 : Int32) + (1 : Int32))).toNatClampNeg) ((own_upd (own_upd (own_upd (own_upd (own_upd (own_upd (own_upd (own_upd (own_upd (own_upd (own_upd (fun _ => 0) 0 (nar .byte ((q2.toInt32).toInt8.toInt32))) 1 (nar .byte (((own_ushrL q2 (8 : Int32)).toInt32).toInt8.toInt32))) 2 (nar .byte (((own_ushrL q2 (16 : Int32)).toInt32).toInt8.toInt32))) 3 (nar .byte (((own_ushrL q2 (24 : Int32)).toInt32).toInt8.toInt32))) 4 (nar .byte (((own_ushrL q2 (32 : Int32)).toInt32).toInt8.toInt32))) 5 (nar .byte (((own_ushrL q2 (40 : Int32)).toInt32).toInt8.toInt32))) 6 (nar .byte (((own_ushrL q2 (48 : Int32)).toInt32).toInt8.toInt32))) 3 (nar .byte ((own_ushr p0 (24 : Int32)).toInt8.toInt32))) 4 (nar .byte ((own_ushr p0 (16 : Int32)).toInt8.toInt32))) 5 (nar .byte ((own_ushr p0 (8 : Int32)).toInt8.toInt32))) 6 (nar .byte (p0.toInt8.toInt32))) (((3 : Int32) + (2 : Int32))).toNatClampNeg) ((own_upd (own_upd (own_upd (own_upd (own_upd (own_upd (own_upd (own_upd (own_upd (own_upd (own_upd (fun _ => 0) 0 (nar .byte ((q2.toInt32).toInt8.toInt32))) 1 (nar .byte (((own_ushrL q2 (8 : Int32)).toInt32).toInt8.toInt32))) 2 (nar .byte (((own_ushrL q2 (16 : Int32)).toInt32).toInt8.toInt32))) 3 (nar .byte (((own_ushrL q2 (24 : Int32)).toInt32).toInt8.toInt32))) 4 (nar .byte (((own_ushrL q2 (32 : Int32)).toInt32).toInt8.toInt32))) 5 (nar .byte (((own_ushrL q2 (40 : Int32)).toInt32).toInt8.toInt32))) 6 (nar .byte (((own_ushrL q2 (48 : Int32)).toInt32).toInt8.toInt32))) 3 (nar .byte ((own_ushr p0 (24 : Int32)).toInt8.toInt32))) 4 (nar .byte ((own_ushr p0 (16 : Int32)).toInt8.toInt32))) 5 (nar .byte ((own_ushr p0 (8 : Int32)).toInt8.toInt32))) 6 (nar .byte (p0.toInt8.toInt32))) (((3 : Int32) + (3 : Int32))).toNatClampNeg)))])) _
      refine XS.iloadN X192.here hx rfl (hb hby at_132) rfl ?_
      show Steps p.tables e below (T192.setTop (mkF m 133 #[.val (.int p0), .val (.int p1), .val (.long q2), .second, .val (.int (3 : Int32)), .val (.ref b146)] [(.int p0), (.int (own_u32 ((own_upd (own_upd (own_upd (own_upd (own_upd (own_upd (own_upd (own_upd (own_upd (own_upd (own_upd (fun _ => 0) 0 (nar .byte ((q2.toInt32).toInt8.toInt32))) 1 (nar .byte (((own_ushrL q2 (8 : Int32)).toInt32).toInt8.toInt32))) 2 (nar .byte (((own_ushrL q2 (16 : Int32)).toInt32).toInt8.toInt32))) 3 (nar .byte (((own_ushrL q2 (24 : Int32)).toInt32).toInt8.toInt32))) 4 (nar .byte (((own_ushrL q2 (32 : Int32)).toInt32).toInt8.toInt32))) 5 (nar .byte (((own_ushrL q2 (40 : Int32)).toInt32).toInt8.toInt32))) 6 (nar .byte (((own_ushrL q2 (48 : Int32)).toInt32).toInt8.toInt32))) 3 (nar .byte ((own_ushr p0 (24 : Int32)).toInt8.toInt32))) 4 (nar .byte ((own_ushr p0 (16 : Int32)).toInt8.toInt32))) 5 (nar .byte ((own_ushr p0 (8 : Int32)).toInt8.toInt32))) 6 (nar .byte (p0.toInt8.toInt32))) ((3 : Int32)).toNatClampNeg) ((own_upd (own_upd (own_upd (own_upd (own_upd (own_upd (own_upd (own_upd (own_upd (own_upd (own_upd (fun _ => 0) 0 (nar .byte ((q2.toInt32).toInt8.toInt32))) 1 (nar .byte (((own_ushrL q2 (8 : Int32)).toInt32).toInt8.toInt32))) 2 (nar .byte (((own_ushrL q2 (16 : Int32)).toInt32).toInt8.toInt32))) 3 (nar .byte (((own_ushrL q2 (24 : Int32)).toInt32).toInt8.toInt32))) 4 (nar .byte (((own_ushrL q2 (32 : Int32)).toInt32).toInt8.toInt32))) 5 (nar .byte (((own_ushrL q2 (40 : Int32)).toInt32).toInt8.toInt32))) 6 (nar .byte (((own_ushrL q2 (48 : Int32)).toInt32).toInt8.toInt32))) 3 (nar .byte ((own_ushr p0 (24 : Int32)).toInt8.toInt32))) 4 (nar .byte ((own_ushr p0 (16 : Int32)).toInt8.toInt32))) 5 (nar .byte ((own_ushr p0 (8 : Int32)).toInt8.toInt32))) 6 (nar .byte (p0.toInt8.toInt32))) (((3 : Int32) + (1 : Int32))).toNatClampNeg) ((own_upd (own_upd (own_upd (own_upd (own_upd (own_upd (own_upd (own_upd (own_upd (own_upd (own_upd (fun _ => 0) 0 (nar .byte ((q2.toInt32).toInt8.toInt32))) 1 (nar .byte (((own_ushrL q2 (8 : Int32)).toInt32).toInt8.toInt32))) 2 (nar .byte (((own_ushrL q2 (16 : Int32)).toInt32).toInt8.toInt32))) 3 (nar .byte (((own_ushrL q2 (24 : Int32)).toInt32).toInt8.toInt32))) 4 (nar .byte (((own_ushrL q2 (32 : Int32)).toInt32).toInt8.toInt32))) 5 (nar .byte (((own_ushrL q2 (40 : Int32)).toInt32).toInt8.toInt32))) 6 (nar .byte (((own_ushrL q2 (48 : Int32)).toInt32).toInt8.toInt32))) 3 (nar .byte ((own_ushr p0 (24 : Int32)).toInt8.toInt32))) 4 (nar .byte ((own_ushr p0 (16 : Int32)).toInt8.toInt32))) 5 (nar .byte ((own_ushr p0 (8 : Int32)).toInt8.toInt32))) 6 (nar .byte (p0.toInt8.toInt32))) (((3 : Int32) + (2 : Int32))).toNatClampNeg) ((own_upd (own_upd (own_upd (own_upd (own_upd (own_upd (own_upd (own_upd (own_upd (own_upd (own_upd (fun _ => 0) 0 (nar .byte ((q2.toInt32).toInt8.toInt32))) 1 (nar .byte (((own_ushrL q2 (8 : Int32)).toInt32).toInt8.toInt32))) 2 (nar .byte (((own_ushrL q2 (16 : Int32)).toInt32).toInt8.toInt32))) 3 (nar .byte (((own_ushrL q2 (24 : Int32)).toInt32).toInt8.toInt32))) 4 (nar .byte (((own_ushrL q2 (32 : Int32)).toInt32).toInt8.toInt32))) 5 (nar .byte (((own_ushrL q2 (40 : Int32)).toInt32).toInt8.toInt32))) 6 (nar .byte (((own_ushrL q2 (48 : Int32)).toInt32).toInt8.toInt32))) 3 (nar .byte ((own_ushr p0 (24 : Int32)).toInt8.toInt32))) 4 (nar .byte ((own_ushr p0 (16 : Int32)).toInt8.toInt32))) 5 (nar .byte ((own_ushr p0 (8 : Int32)).toInt8.toInt32))) 6 (nar .byte (p0.toInt8.toInt32))) (((3 : Int32) + (3 : Int32))).toNatClampNeg)))])) _
      refine XS.icmpNo X192.here hx rfl (hb hby at_133) rfl (teq (own_back p0 : (own_u32 ((own_upd (own_upd (own_upd (own_upd (own_upd (own_upd (own_upd (own_upd (own_upd (own_upd (own_upd (fun _ => 0) 0 (nar .byte ((q2.toInt32).toInt8.toInt32))) 1 (nar .byte (((own_ushrL q2 (8 : Int32)).toInt32).toInt8.toInt32))) 2 (nar .byte (((own_ushrL q2 (16 : Int32)).toInt32).toInt8.toInt32))) 3 (nar .byte (((own_ushrL q2 (24 : Int32)).toInt32).toInt8.toInt32))) 4 (nar .byte (((own_ushrL q2 (32 : Int32)).toInt32).toInt8.toInt32))) 5 (nar .byte (((own_ushrL q2 (40 : Int32)).toInt32).toInt8.toInt32))) 6 (nar .byte (((own_ushrL q2 (48 : Int32)).toInt32).toInt8.toInt32))) 3 (nar .byte ((own_ushr p0 (24 : Int32)).toInt8.toInt32))) 4 (nar .byte ((own_ushr p0 (16 : Int32)).toInt8.toInt32))) 5 (nar .byte ((own_ushr p0 (8 : Int32)).toInt8.toInt32))) 6 (nar .byte (p0.toInt8.toInt32))) ((3 : Int32)).toNatClampNeg) ((own_upd (own_upd (own_upd (own_upd (own_upd (own_upd (own_upd (own_upd (own_upd (own_upd (own_upd (fun _ => 0) 0 (nar .byte ((q2.toInt32).toInt8.toInt32))) 1 (nar .byte (((own_ushrL q2 (8 : Int32)).toInt32).toInt8.toInt32))) 2 (nar .byte (((own_ushrL q2 (16 : Int32)).toInt32).toInt8.toInt32))) 3 (nar .byte (((own_ushrL q2 (24 : Int32)).toInt32).toInt8.toInt32))) 4 (nar .byte (((own_ushrL q2 (32 : Int32)).toInt32).toInt8.toInt32))) 5 (nar .byte (((own_ushrL q2 (40 : Int32)).toInt32).toInt8.toInt32))) 6 (nar .byte (((own_ushrL q2 (48 : Int32)).toInt32).toInt8.toInt32))) 3 (nar .byte ((own_ushr p0 (24 : Int32)).toInt8.toInt32))) 4 (nar .byte ((own_ushr p0 (16 : Int32)).toInt8.toInt32))) 5 (nar .byte ((own_ushr p0 (8 : Int32)).toInt8.toInt32))) 6 (nar .byte (p0.toInt8.toInt32))) (((3 : Int32) + (1 : Int32))).toNatClampNeg) ((own_upd (own_upd (own_upd (own_upd (own_upd (own_upd (own_upd (own_upd (own_upd (own_upd (own_upd (fun _ => 0) 0 (nar .byte ((q2.toInt32).toInt8.toInt32))) 1 (nar .byte (((own_ushrL q2 (8 : Int32)).toInt32).toInt8.toInt32))) 2 (nar .byte (((own_ushrL q2 (16 : Int32)).toInt32).toInt8.toInt32))) 3 (nar .byte (((own_ushrL q2 (24 : Int32)).toInt32).toInt8.toInt32))) 4 (nar .byte (((own_ushrL q2 (32 : Int32)).toInt32).toInt8.toInt32))) 5 (nar .byte (((own_ushrL q2 (40 : Int32)).toInt32).toInt8.toInt32))) 6 (nar .byte (((own_ushrL q2 (48 : Int32)).toInt32).toInt8.toInt32))) 3 (nar .byte ((own_ushr p0 (24 : Int32)).toInt8.toInt32))) 4 (nar .byte ((own_ushr p0 (16 : Int32)).toInt8.toInt32))) 5 (nar .byte ((own_ushr p0 (8 : Int32)).toInt8.toInt32))) 6 (nar .byte (p0.toInt8.toInt32))) (((3 : Int32) + (2 : Int32))).toNatClampNeg) ((own_upd (own_upd (own_upd (own_upd (own_upd (own_upd (own_upd (own_upd (own_upd (own_upd (own_upd (fun _ => 0) 0 (nar .byte ((q2.toInt32).toInt8.toInt32))) 1 (nar .byte (((own_ushrL q2 (8 : Int32)).toInt32).toInt8.toInt32))) 2 (nar .byte (((own_ushrL q2 (16 : Int32)).toInt32).toInt8.toInt32))) 3 (nar .byte (((own_ushrL q2 (24 : Int32)).toInt32).toInt8.toInt32))) 4 (nar .byte (((own_ushrL q2 (32 : Int32)).toInt32).toInt8.toInt32))) 5 (nar .byte (((own_ushrL q2 (40 : Int32)).toInt32).toInt8.toInt32))) 6 (nar .byte (((own_ushrL q2 (48 : Int32)).toInt32).toInt8.toInt32))) 3 (nar .byte ((own_ushr p0 (24 : Int32)).toInt8.toInt32))) 4 (nar .byte ((own_ushr p0 (16 : Int32)).toInt8.toInt32))) 5 (nar .byte ((own_ushr p0 (8 : Int32)).toInt8.toInt32))) 6 (nar .byte (p0.toInt8.toInt32))) (((3 : Int32) + (3 : Int32))).toNatClampNeg)) = p0)).2 ?_
      show Steps p.tables e below (T192.setTop (mkF m 136 #[.val (.int p0), .val (.int p1), .val (.long q2), .second, .val (.int (3 : Int32)), .val (.ref b146)] [])) _
      refine XS.iconst X192.here hx rfl (hb hby at_136) ?_
      show Steps p.tables e below (T192.setTop (mkF m 137 #[.val (.int p0), .val (.int p1), .val (.long q2), .second, .val (.int (3 : Int32)), .val (.ref b146)] [(.int (1 : Int32))])) _
      refine XS.goto X192.here hx rfl (pc0 := 137) (pc' := 141) rfl (hb hby at_137) (by decide) (by decide) ?_
      exact kt
    obtain ⟨fs, hr, hrun, hended, hW, hsame⟩ := X192.leave (v := some (.int (1 : Int32))) (fun h => by rw [Bd.returns] at h; cases h)
    refine ⟨_, _, ?_, hrun, hended, _, _, rfl, ?_, ⟨_, rfl⟩, hW, hsame.mono (by decide) (by decide)⟩
    · exact retN X192 hx (t := .boolean) Bd.returns (by simp) (hb hby at_141) hr
    · show Q0 Z p0 p1 q2 h0 n0 _ T192.heap _
      rw [e192]
      exact ⟨rfl, N192⟩
set_option maxRecDepth 65536 in
set_option maxHeartbeats 40000000 in
theorem comes_1 {Post : Tables → Env → Array Value → State → Outcome → State → Prop} (hpost : ∀ tb e args s v u, (limb_1_1.after args s (.returned v) u = true ∧ limb_1_2.after args s (.returned v) u = true) → FrameEnd s (.returned v) u (Jvm.fieldLocs frame_1_writes args s ++ Jvm.arrayLocs frame_1_arrays args s ++ Jvm.staticLocs frame_1_statics s) 16 128 → Post tb e args s (.returned v) u) :
    ArmFor flags0 classFile x code maxLocals ret World_1 tables_1 room_1 Calls_1 rest_1 Pre_1 Post := by
  intro l hfl _ _ p e ha hc hk s m args below hf hA hF happ hP
  obtain ⟨hcalls, hrest, hpre⟩ := hP
  obtain ⟨-, -, -, hnamed, -, -, -, hat⟩ := (Spec.applies_iff hf).mp happ
  obtain ⟨hg, hn⟩ := and_e (Cond.before_iff.mp (show (Jvm.Cond.and given_1 narrow_1).before args s = true from hpre))
  obtain ⟨hg1, hg2⟩ := and_e hg
  obtain ⟨hg3, hg4⟩ := and_e hg2
  obtain ⟨hg5, hg6⟩ := and_e hg4
  obtain ⟨w0, w1, w2, rfl⟩ : ∃ w0 w1 w2 : Value, args = #[w0, w1, w2] := by
    have hs : args.size = 3 := by simpa [Cond.value, given_1] using hg1
    obtain ⟨L⟩ := args
    match L, hs with
    | [w0, w1, w2], _ => exact ⟨w0, w1, w2, rfl⟩
  have hw := fun d (hd : d ∈ tables_1) => atoms_spec (ws := Jvm.Cond.code x code maxLocals ret :: tables_1) hat d (List.mem_cons_of_mem _ hd)
  obtain ⟨i0, ei0⟩ := is_v hg3
  obtain rfl : w0 = (.int i0) := Option.some.inj ei0
  obtain ⟨i1, ei1⟩ := is_v hg5
  obtain rfl : w1 = (.int i1) := Option.some.inj ei1
  obtain ⟨i2, ei2⟩ := isL_v hg6
  obtain rfl : w2 = (.long i2) := Option.some.inj ei2
  obtain ⟨n, o, h1, h2, h3, _, L, rfl, ⟨rfl, N⟩, hq⟩ := rm0 l s _ hw tables_1 i0 i1 i2 s.heap s.heap.size (Nat.le_refl _)  p e ha hc hk s m _ below hf ((Spec.applies_iff_loose hf).mp happ).1 ⟨rfl, State.Warmed39.refl s, rfl⟩ trivial
  refine ⟨n, _, h1, h2, h3, hpost _ _ _ _ _ _ ⟨Cond.after_iff.mpr rfl, Cond.after_iff.mpr (eq_i res_at (Term.int_eval (1)) rfl)⟩ ⟨hq.1, hq.2.1, (hq.2.2.sift fun y hy => Or.inr (N y hy)).mono (by decide) (by decide)⟩⟩
theorem main_1_1 : Claimed_1_1 := comes_1 fun _ _ _ _ _ _ h hF => ⟨h.1, hF⟩
theorem main_1_2 : Claimed_1_2 := comes_1 fun _ _ _ _ _ _ h hF => ⟨h.2, hF⟩
end Jvm.Pilot.@@N@@
namespace Jvm.Pilot.@@N@@
open Jvm Jvm.ClassFile Sem Op Lib Jvm.Free Jvm.Stand Jvm.Pilot.@@N@@.Jvm.D
/-! MADE BY PROGRAM (witnessworld.py) out of the Statement's table words and the real class files: 9 classes; the members and pool entries that the words name. The judged class is class 1, her method 1. -/
namespace start1
open Jvm.ClassFile
def u (s : String) : CpInfo := .utf8 (stringToUtf16 s)
/-- a pool by its gaps: so many unusable entries, then the entry; so many at the end -/
def gap : Nat → List CpInfo → List CpInfo
  | 0, r => r
  | n + 1, r => .unusable :: gap n r
def poolList (es : List (Nat × CpInfo)) (last : Nat) : List CpInfo := es.foldr (fun e r => gap e.1 (e.2 :: r)) (gap last [])
def pool (es : List (Nat × CpInfo)) (last : Nat) : Array CpInfo := ⟨poolList es last⟩
def fileOf (pool : Array CpInfo) (this : Nat) (attrs : Array Attribute := #[]) (ms : Array MethodInfo := #[]) (fl : Nat := 33) (sup : Nat := 0) (ifs : Array Nat := #[]) (fds : Array FieldInfo := #[]) : ClassFile where
  minorVersion := 0
  majorVersion := 65
  constantPool := pool
  accessFlags := fl
  thisClass := this
  superClass := sup
  interfaces := ifs
  fields := fds
  methods := ms
  attributes := attrs
def plain (name : String) (sup : Option ClassId) : Class where
  name := name
  kind := .ordinary
  loader := none
  accessFlags := 33
  super := sup
  interfaces := #[]
  cf := none
  fields := #[]
  methods := #[]
  instanceTypes := #[]
  staticTypes := #[]
  resolved := #[]
  callSites := []
  init := .initialized
  statics := none
  mirror := none

def pool0 : Array CpInfo := pool [(5, u "<init>"), (0, u "()V"), (1, .class_ 10), (1, u "java/lang/Object")] 113

def k0m0 : Method := { name := "<init>", desc := "()V", sig := { parameters := [], returnType := none }, accessFlags := 1, code := none }
/-- java/lang/Object -/
def k0 : Class := { plain "java/lang/Object" none with
  accessFlags := 33
  interfaces := #[]
  cf := some (fileOf pool0 8 #[] #[{ accessFlags := 1, nameIndex := 5, descriptorIndex := 6, attributes := #[] }] 33 0 #[] #[])
  fields := #[]
  methods := #[k0m0]
  instanceTypes := #[]
  staticTypes := #[]
  resolved := Array.replicate 124 none
  statics := none }

def pool1 : Array CpInfo := pool [(2, .class_ 4), (1, u "java/lang/Object"), (0, u "<init>"), (0, u "()V"), (0, .integer 2147483647), (0, .methodref 9 10), (0, .class_ 11), (0, .nameAndType 12 13), (0, u "portwarden/wire/Decoder"), (0, u "uint32"), (0, u "([BI)I"), (0, .class_ 15), (0, u "portwarden/wire/DecoderUint32PinLaw"), (2, u "law"), (0, u "(IIJ)Z")] 5

def k1m0 : Method := { name := "<init>", desc := "()V", sig := { parameters := [], returnType := none }, accessFlags := 1, code := none }
def k1c1 : Code := { maxStack := 5, maxLocals := 6, code := code, exceptionTable := #[], attributes := #[] }
def k1m1 : Method := { name := "law", desc := "(IIJ)Z", sig := { parameters := [.int, .int, .long], returnType := some .boolean }, accessFlags := 9, code := some k1c1 }
/-- portwarden/wire/DecoderUint32PinLaw -/
def k1 : Class := { plain "portwarden/wire/DecoderUint32PinLaw" (some 0) with
  accessFlags := 49
  interfaces := #[]
  cf := some (fileOf pool1 14 #[] #[{ accessFlags := 1, nameIndex := 5, descriptorIndex := 6, attributes := #[] }, { accessFlags := 9, nameIndex := 18, descriptorIndex := 19, attributes := #[] }] 49 2 #[] #[])
  fields := #[]
  methods := #[k1m0, k1m1]
  instanceTypes := #[]
  staticTypes := #[]
  resolved := Array.replicate 25 none
  statics := none }

def pool2 : Array CpInfo := pool [(2, .class_ 4), (1, u "java/lang/Object"), (3, .class_ 10), (1, u "portwarden/wire/Decoder"), (0, u "bytes"), (0, u "[B"), (2, u "end"), (0, u "I"), (6, u "position"), (6, u "uint32"), (0, u "([BI)I")] 91

def k2c0 : Code := { maxStack := 4, maxLocals := 2, code := prog_57_method_5_code, exceptionTable := #[], attributes := #[] }
def k2m0 : Method := { name := "uint32", desc := "([BI)I", sig := { parameters := [(.array .byte), .int], returnType := some .int }, accessFlags := 9, code := some k2c0 }
/-- portwarden/wire/Decoder -/
def k2 : Class := { plain "portwarden/wire/Decoder" (some 0) with
  accessFlags := 49
  interfaces := #[]
  cf := some (fileOf pool2 8 #[] #[{ accessFlags := 9, nameIndex := 30, descriptorIndex := 31, attributes := #[] }] 49 2 #[] #[{ accessFlags := 18, nameIndex := 11, descriptorIndex := 12, attributes := #[] }, { accessFlags := 18, nameIndex := 15, descriptorIndex := 16, attributes := #[] }, { accessFlags := 2, nameIndex := 23, descriptorIndex := 16, attributes := #[] }])
  fields := #[{ name := "bytes", type := (.array .byte), accessFlags := 18, slot := 0, constantValue := 0 }, { name := "end", type := .int, accessFlags := 18, slot := 1, constantValue := 0 }, { name := "position", type := .int, accessFlags := 2, slot := 2, constantValue := 0 }]
  methods := #[k2m0]
  instanceTypes := #[(.array .byte), .int, .int]
  staticTypes := #[]
  resolved := Array.replicate 123 none
  statics := none }

def pool3 : Array CpInfo := pool [(1, u "java/lang/Cloneable"), (0, .class_ 1), (0, u "java/lang/Object"), (0, .class_ 3)] 3

/-- java/lang/Cloneable -/
def k3 : Class := { plain "java/lang/Cloneable" (some 0) with
  accessFlags := 1537
  interfaces := #[]
  cf := some (fileOf pool3 2 #[] #[] 1537 4 #[] #[])
  fields := #[]
  methods := #[]
  instanceTypes := #[]
  staticTypes := #[]
  resolved := Array.replicate 8 none
  statics := none }

def pool4 : Array CpInfo := pool [(1, u "java/io/Serializable"), (0, .class_ 1), (0, u "java/lang/Object"), (0, .class_ 3)] 3

/-- java/io/Serializable -/
def k4 : Class := { plain "java/io/Serializable" (some 0) with
  accessFlags := 1537
  interfaces := #[]
  cf := some (fileOf pool4 2 #[] #[] 1537 4 #[] #[])
  fields := #[]
  methods := #[]
  instanceTypes := #[]
  staticTypes := #[]
  resolved := Array.replicate 8 none
  statics := none }

/-- the primitive byte -/
def k5 : Class := { plain "byte" none with kind := .primitive 'B', accessFlags := 0x411 }
/-- [B -/
def k6 : Class := { plain "[B" (some 0) with kind := .array 5 .byte, interfaces := #[3, 4], accessFlags := 1041 }

/-- the primitive int -/
def k7 : Class := { plain "int" none with kind := .primitive 'I', accessFlags := 0x411 }
/-- [I -/
def k8 : Class := { plain "[I" (some 0) with kind := .array 7 .int, interfaces := #[3, 4], accessFlags := 1041 }

def heap : Heap := #[]
def classes : Array Class := #[k0, k1, k2, k3, k4, k5, k6, k7, k8]
def interned : List (Array UInt16 × Addr) := []
def slotsUsed : Nat := 0
def theMethod : MethodId := ⟨1, 1⟩
def args0 : Array Value := #[.int 5, .int 7, .long 9]
def aboutOver (below : List Frame) : State where
  vm := { classes := classes, interned := interned.toArray }
  heap := heap
  slotsUsed := slotsUsed
  threads := #[{ frames := .invoking theMethod args0 :: below }]
def below0 : List Frame := [.native { method := ⟨0, 0⟩, args := #[] }]
def about1 : State := aboutOver below0
def p0 : Program := .bare "" "" ""
def e0 : Env := launch0.env 0 0 0
theorem w_frames : about1.frames = Frame.invoking theMethod args0 :: below0 := rfl
set_option maxRecDepth 65536 in
theorem w_args : argsFit about1.vm theMethod args0 = true := by decide +kernel
set_option maxRecDepth 65536 in
theorem w_heap : heapFits about1 = true := by decide +kernel
set_option maxRecDepth 65536 in
theorem w_runnable : about1.curStatus? = some .runnable := by decide +kernel
set_option maxRecDepth 65536 in
theorem w_alone : about1.alone = true := by decide +kernel
set_option maxRecDepth 65536 in
theorem w_named : about1.methodNamed? x = some theMethod := by decide +kernel
set_option maxRecDepth 65536 in
theorem w_hears : about1.hears theMethod below0 = true := by decide +kernel
set_option maxRecDepth 65536 in
theorem w_ripe : about1.ripe theMethod args0 below0 = true := by decide +kernel
theorem w_running : about1.status = .running := rfl
set_option maxRecDepth 65536 in
theorem w_room : about1.hasRoom e0.platform room_1 = true :=
  launch0.hasRoom_least _ room_1 (by decide +kernel) (by decide +kernel) (by decide +kernel) (by decide +kernel) (by decide +kernel) (by decide +kernel)
theorem allAtoms_all (ts : List Jvm.Cond) (a : Array Jvm.Value) (st : Jvm.State) : (allAtoms ts).before a st = ts.all (fun c => c.before a st) := by
  induction ts with
  | nil => rfl
  | cons c t ih =>
    show (Jvm.Cond.and c (allAtoms t)).before a st = _
    rw [Jvm.Cond.before_and, ih, List.all_cons]
def words1 : List Jvm.Cond := Jvm.Cond.code x code maxLocals ret :: tables_1
/-- a 'code' word, met by the world's own term for the bytes: nothing is compared byte by byte -/
theorem code_word {y : MethodName} {bytes : ByteArray} {mx : Nat} {rt : Option FieldType} {a : Array Value} {s : State} {m : MethodId} {meth : Method} {c : Code} (h1 : s.methodNamed? y = some m) (h2 : s.vm.method? m = some meth) (h3 : meth.code = some c) (h4 : c.code = bytes)
    (h5 : (c.maxLocals == mx && c.exceptionTable.isEmpty && decide (c.maxStack ≤ mostOperands) && decide (meth.sig.returnType = rt) && !meth.locks && decide (parseMethodDescriptor y.desc = some meth.sig)) = true) : (Jvm.Cond.code y bytes mx rt).before a s = true := by
  simp only [Bool.and_eq_true, beq_iff_eq, Bool.not_eq_true', decide_eq_true_eq] at h5
  obtain ⟨⟨⟨⟨⟨g1, g2⟩, g3⟩, g4⟩, g5⟩, g6⟩ := h5
  simp [Cond.before, Cond.holds, Cond.value, h1, h2, h3, h4, g1, g2, g3, g4, g5, g6]
def isCode : Jvm.Cond → Bool
  | .code _ _ _ _ => true
  | _ => false
theorem all_split {L : List Jvm.Cond} {P : Jvm.Cond → Bool} (h1 : L.all (fun c => isCode c || P c) = true) (h2 : ∀ c ∈ L.filter isCode, P c = true) : L.all P = true := by
  refine List.all_eq_true.mpr fun c hc => ?_
  have h := List.all_eq_true.mp h1 c hc
  rcases Bool.eq_false_or_eq_true (isCode c) with hi | hi
  · exact h2 c (List.mem_filter.mpr ⟨hc, hi⟩)
  · simpa [hi] using h
set_option maxRecDepth 65536 in
theorem w_c0 : (Jvm.Cond.code x code maxLocals ret).before args0 about1 = true := code_word (m := ⟨1, 1⟩) (meth := k1m1) (c := k1c1) (by decide +kernel) rfl rfl rfl (by decide +kernel)
set_option maxRecDepth 65536 in
theorem w_c1 : (Jvm.Cond.code ({ cls := "portwarden/wire/Decoder", name := "uint32", desc := "([BI)I" } : Jvm.MethodName) prog_57_method_5_code (2 : Nat) (Option.some Jvm.ClassFile.FieldType.int)).before args0 about1 = true := code_word (m := ⟨2, 0⟩) (meth := k2m0) (c := k2c0) (by decide +kernel) rfl rfl rfl (by decide +kernel)
def codes1 : List Jvm.Cond := [Jvm.Cond.code x code maxLocals ret, Jvm.Cond.code ({ cls := "portwarden/wire/Decoder", name := "uint32", desc := "([BI)I" } : Jvm.MethodName) prog_57_method_5_code (2 : Nat) (Option.some Jvm.ClassFile.FieldType.int)]
set_option maxRecDepth 65536 in
theorem codes_eq : words1.filter isCode = codes1 := rfl
theorem w_codes : ∀ c ∈ words1.filter isCode, c.before args0 about1 = true := by
  rw [codes_eq]
  intro c hc
  simp only [codes1, List.mem_cons, List.not_mem_nil, or_false] at hc
  rcases hc with rfl | rfl
  · exact w_c0
  · exact w_c1
set_option maxRecDepth 65536 in
theorem w_t1 : words1.all (fun c => isCode c || c.before args0 about1) = true := by decide +kernel
theorem w_tables : (allAtoms (Jvm.Cond.code x code maxLocals ret :: tables_1)).before args0 about1 = true := by
  rw [allAtoms_all]
  show words1.all (fun c => c.before args0 about1) = true
  refine all_split ?_ w_codes
  rw [w_t1]
set_option maxRecDepth 65536 in
theorem w_case : (Jvm.Cond.and given_1 narrow_1).before args0 about1 = true := by decide +kernel
theorem w_applies : (headSpec (Jvm.Cond.code x code maxLocals ret :: tables_1) room_1).applies x e0.platform about1 = true :=
  (Spec.applies_iff w_frames).mpr ⟨w_running, w_runnable, w_alone, w_named, w_hears, w_ripe, w_room, w_tables⟩
theorem atStart : AtStart classFile x code maxLocals ret World_1 tables_1 room_1 Calls_1 rest_1 Pre_1 launch0 p0 e0 about1 theMethod args0 below0 :=
  ⟨lists_1, trivial, launch0.admits_env _ _ _, launch0.least_env, fairChoices_fair.cas, fairChoices_fair.clock, w_frames, w_args, w_heap, w_applies, trivial, trivial, w_case⟩
end start1
theorem witness_1 : WitnessClaimed_1 := ⟨start1.p0, start1.e0, start1.about1, start1.theMethod, start1.args0, start1.below0, start1.atStart⟩
end Jvm.Pilot.@@N@@
