import JvmDerived
import JvmDerived.Pilot.@@N@@Statement
import JvmDerived.Pilot.@@N@@Code
set_option linter.unusedVariables false
set_option linter.unusedSimpArgs false
@@BLOCK:NumsL.lean.txt@@
namespace Jvm.RoadKit
open Sem ClassFile Op Lib Jvm.Stand Jvm.Free Jvm.LawKit
section New
variable {p : Program} {l : Launch} {e : Env} {R : Room} {s : State} {m : MethodId} {args : Array Value} {below : List Frame} {meth : Method} {c : Code} {T : State} {locs : List Loc} {cells slots : Nat}
theorem retI (X : Stand p l e R s m args below meth c T locs cells slots) (hx : p.tables.exec = Jvm.exec) {pc : Nat} {Ls : Array Slot} {z : Int32} {rest : List Value} (hret : meth.sig.returnType = some .int) (hd : decode c.code pc = .ok (.ireturn, 1)) {fs : List Frame}
    (hl : ∀ (f : JFrame) (acts : List Action), f.method = m → f.locked = none → f.entered = [] → (doReturn e (T.setTop f) acts (some (.int z))).1 = T.setFrames fs) : Steps p.tables e below (T.setTop (mkF m pc Ls (.int z :: rest))) (T.setFrames fs) :=
  retOut X hx hret rfl (Or.inl ⟨rfl, Or.inl rfl, _, rfl⟩) hd hl
theorem retL (X : Stand p l e R s m args below meth c T locs cells slots) (hx : p.tables.exec = Jvm.exec) {pc : Nat} {Ls : Array Slot} {z : Int64} {rest : List Value} (hret : meth.sig.returnType = some .long) (hd : decode c.code pc = .ok (.lreturn, 1)) {fs : List Frame}
    (hl : ∀ (f : JFrame) (acts : List Action), f.method = m → f.locked = none → f.entered = [] → (doReturn e (T.setTop f) acts (some (.long z))).1 = T.setFrames fs) : Steps p.tables e below (T.setTop (mkF m pc Ls (.long z :: rest))) (T.setFrames fs) :=
  retOut X hx hret rfl (Or.inr (Or.inl ⟨rfl, rfl, _, rfl⟩)) hd hl
theorem retA (X : Stand p l e R s m args below meth c T locs cells slots) (hx : p.tables.exec = Jvm.exec) {pc : Nat} {Ls : Array Slot} {z : Addr} {t : FieldType} {rest : List Value} (hret : meth.sig.returnType = some t) (ht : t.isReference = true) (hd : decode c.code pc = .ok (.areturn, 1)) {fs : List Frame}
    (hn : narrow t (.ref z) = .ref z) (hl : ∀ (f : JFrame) (acts : List Action), f.method = m → f.locked = none → f.entered = [] → (doReturn e (T.setTop f) acts (some (.ref z))).1 = T.setFrames fs) : Steps p.tables e below (T.setTop (mkF m pc Ls (.ref z :: rest))) (T.setFrames fs) :=
  retOut X hx hret hn (Or.inr (Or.inr (Or.inr (Or.inr ⟨rfl, ht, rfl⟩)))) hd hl
end New
end Jvm.RoadKit
namespace Jvm.Pilot.@@N@@
open Jvm Jvm.ClassFile Sem Op Lib Jvm.Free Jvm.Stand Jvm.LawKit Jvm.RoadKit Bundle Jvm.Pilot.@@N@@.Jvm.D
/-- the walk moves on: what runs from S' runs from S -/
theorem own_go {tb : Tables} {e : Env} {below : List Frame} {S S' : State} {P : State → Outcome → Prop} (h : ∀ t, Steps tb e below S' t → Steps tb e below S t)
    (k : ∃ s₂ o, Steps tb e below S' s₂ ∧ s₂.status = .running ∧ Ended s₂ below o ∧ P s₂ o) : ∃ s₂ o, Steps tb e below S s₂ ∧ s₂.status = .running ∧ Ended s₂ below o ∧ P s₂ o := by
  obtain ⟨s₂, o, h1, h2⟩ := k
  exact ⟨s₂, o, h _ h1, h2⟩
/-- Java's x >>> y on ints and on longs -/
def own_ushr (x y : Int32) : Int32 := (x.toUInt32 >>> (y &&& 31).toUInt32).toInt32
def own_ushrL (x : Int64) (y : Int32) : Int64 := (x.toUInt64 >>> (y &&& 0x3f).toInt64.toUInt64).toInt64
def own_shlL (x : Int64) (y : Int32) : Int64 := x <<< (y &&& 0x3f).toInt64
def own_shrL (x : Int64) (y : Int32) : Int64 := x >>> (y &&& 0x3f).toInt64
def own_shl (x y : Int32) : Int32 := x <<< (y &&& 31)
def own_shr (x y : Int32) : Int32 := x >>> (y &&& 31)
/-- an array by its places: ints (byte, char, short, boolean too), longs -/
def own_AI (Z : State) (h : Heap) (a : Addr) (ty : FieldType) (n : Nat) (g : Nat → Int32) : Prop := ∃ c : Cell, Arr Z h a c ty ∧ c.slots.size = n ∧ n < 2 ^ 31 ∧ ∀ i, i < n → c.slots[i]? = some (.int (g i))
def own_AJ (Z : State) (h : Heap) (a : Addr) (ty : FieldType) (n : Nat) (g : Nat → Int64) : Prop := ∃ c : Cell, Arr Z h a c ty ∧ c.slots.size = n ∧ n < 2 ^ 31 ∧ ∀ i, i < n → c.slots[i]? = some (.long (g i))
def own_AD (Z : State) (h : Heap) (a : Addr) (ty : FieldType) (n : Nat) (g : Nat → UInt64) : Prop := ∃ c : Cell, Arr Z h a c ty ∧ c.slots.size = n ∧ n < 2 ^ 31 ∧ ∀ i, i < n → c.slots[i]? = some (.double (g i))
def own_upd {α : Type} (g : Nat → α) (j : Nat) (v : α) : Nat → α := fun i => if i = j then v else g i
theorem own_upd_same {α : Type} (g : Nat → α) (j : Nat) (v : α) : own_upd g j v j = v := if_pos rfl
theorem own_upd_ne {α : Type} (g : Nat → α) {i j : Nat} (v : α) (h : i ≠ j) : own_upd g j v i = g i := if_neg h
section OwnArrays
variable {Z : State} {h h' : Heap} {a b : Addr} {ty : FieldType} {n sl : Nat} {v : Value} {ws : List Addr}
theorem own_AI.lt {g : Nat → Int32} (F : own_AI Z h a ty n g) : a < h.size := by obtain ⟨c, A, -⟩ := F; exact A.lt
theorem own_AI.ext {g : Nat → Int32} (F : own_AI Z h a ty n g) (E : Ext h h') : own_AI Z h' a ty n g := by obtain ⟨c, A, r⟩ := F; exact ⟨c, A.ext E, r⟩
theorem own_AI.other {g : Nat → Int32} (F : own_AI Z h b ty n g) (W : Wr h h' a sl v) (q : b ≠ a) : own_AI Z h' b ty n g := by obtain ⟨c, A, r⟩ := F; exact ⟨c, A.other W q, r⟩
theorem own_AI.keep {g : Nat → Int32} (F : own_AI Z h a ty n g) (K : Keep h h' ws) (q : a ∉ ws) : own_AI Z h' a ty n g := by obtain ⟨c, A, r⟩ := F; exact ⟨c, ⟨K.2.1 a c A.1 q, A.2⟩, r⟩
theorem own_AJ.lt {g : Nat → Int64} (F : own_AJ Z h a ty n g) : a < h.size := by obtain ⟨c, A, -⟩ := F; exact A.lt
theorem own_AJ.ext {g : Nat → Int64} (F : own_AJ Z h a ty n g) (E : Ext h h') : own_AJ Z h' a ty n g := by obtain ⟨c, A, r⟩ := F; exact ⟨c, A.ext E, r⟩
theorem own_AJ.other {g : Nat → Int64} (F : own_AJ Z h b ty n g) (W : Wr h h' a sl v) (q : b ≠ a) : own_AJ Z h' b ty n g := by obtain ⟨c, A, r⟩ := F; exact ⟨c, A.other W q, r⟩
theorem own_AJ.keep {g : Nat → Int64} (F : own_AJ Z h a ty n g) (K : Keep h h' ws) (q : a ∉ ws) : own_AJ Z h' a ty n g := by obtain ⟨c, A, r⟩ := F; exact ⟨c, ⟨K.2.1 a c A.1 q, A.2⟩, r⟩
theorem own_AD.lt {g : Nat → UInt64} (F : own_AD Z h a ty n g) : a < h.size := by obtain ⟨c, A, -⟩ := F; exact A.lt
theorem own_AD.ext {g : Nat → UInt64} (F : own_AD Z h a ty n g) (E : Ext h h') : own_AD Z h' a ty n g := by obtain ⟨c, A, r⟩ := F; exact ⟨c, A.ext E, r⟩
theorem own_AD.other {g : Nat → UInt64} (F : own_AD Z h b ty n g) (W : Wr h h' a sl v) (q : b ≠ a) : own_AD Z h' b ty n g := by obtain ⟨c, A, r⟩ := F; exact ⟨c, A.other W q, r⟩
theorem own_AD.keep {g : Nat → UInt64} (F : own_AD Z h a ty n g) (K : Keep h h' ws) (q : a ∉ ws) : own_AD Z h' a ty n g := by obtain ⟨c, A, r⟩ := F; exact ⟨c, ⟨K.2.1 a c A.1 q, A.2⟩, r⟩
theorem own_AI.set {g : Nat → Int32} {c : Cell} {x : Int32} {j : Nat} (A : Arr Z h a c ty) (S : c.slots.size = n) (M : n < 2 ^ 31) (H : ∀ i, i < n → c.slots[i]? = some (.int (g i))) (W : Wr h h' a j (.int x)) : own_AI Z h' a ty n (own_upd g j x) := by
  refine ⟨_, A.same W, (sz_set _ _ _).trans S, M, fun i hi => ?_⟩
  simp only [Cell.setSlot, Array.getElem?_setIfInBounds, own_upd]
  by_cases q : j = i
  · subst q; simp [S, hi]
  · rw [if_neg q, if_neg (fun z => q z.symm)]; exact H i hi
theorem own_AJ.set {g : Nat → Int64} {c : Cell} {x : Int64} {j : Nat} (A : Arr Z h a c ty) (S : c.slots.size = n) (M : n < 2 ^ 31) (H : ∀ i, i < n → c.slots[i]? = some (.long (g i))) (W : Wr h h' a j (.long x)) : own_AJ Z h' a ty n (own_upd g j x) := by
  refine ⟨_, A.same W, (sz_set _ _ _).trans S, M, fun i hi => ?_⟩
  simp only [Cell.setSlot, Array.getElem?_setIfInBounds, own_upd]
  by_cases q : j = i
  · subst q; simp [S, hi]
  · rw [if_neg q, if_neg (fun z => q z.symm)]; exact H i hi
theorem own_AD.set {g : Nat → UInt64} {c : Cell} {x : UInt64} {j : Nat} (A : Arr Z h a c ty) (S : c.slots.size = n) (M : n < 2 ^ 31) (H : ∀ i, i < n → c.slots[i]? = some (.double (g i))) (W : Wr h h' a j (.double x)) : own_AD Z h' a ty n (own_upd g j x) := by
  refine ⟨_, A.same W, (sz_set _ _ _).trans S, M, fun i hi => ?_⟩
  simp only [Cell.setSlot, Array.getElem?_setIfInBounds, own_upd]
  by_cases q : j = i
  · subst q; simp [S, hi]
  · rw [if_neg q, if_neg (fun z => q z.symm)]; exact H i hi
theorem own_clamp_lt (z : Int32) : z.toNatClampNeg < 2 ^ 31 := by have := z.toInt_lt; simp only [Int32.toNatClampNeg]; omega
theorem own_AI.fresh {k : ClassId} {z : Int32} (A : Arr Z h a (newA k ty z) ty) (hd : defaultValue ty = .int 0) : own_AI Z h a ty z.toNatClampNeg (fun _ => 0) :=
  ⟨_, A, sz_new _ _ _, own_clamp_lt z, fun i hi => by simp [newA, hi, hd]⟩
theorem own_AJ.fresh {k : ClassId} {z : Int32} (A : Arr Z h a (newA k ty z) ty) (hd : defaultValue ty = .long 0) : own_AJ Z h a ty z.toNatClampNeg (fun _ => 0) :=
  ⟨_, A, sz_new _ _ _, own_clamp_lt z, fun i hi => by simp [newA, hi, hd]⟩
theorem own_AD.fresh {k : ClassId} {z : Int32} (A : Arr Z h a (newA k ty z) ty) (hd : defaultValue ty = .double 0) : own_AD Z h a ty z.toNatClampNeg (fun _ => 0) :=
  ⟨_, A, sz_new _ _ _, own_clamp_lt z, fun i hi => by simp [newA, hi, hd]⟩
theorem own_in {c : Cell} {j : Int32} (S : c.slots.size = n) (q : ¬ j < 0 ∧ j.toNatClampNeg < n) : ¬ (j < 0 ∨ c.slots.size ≤ j.toNatClampNeg) := by
  rw [S]; exact fun z => z.elim q.1 (fun y => by have := q.2; omega)
theorem own_len {c : Cell} (S : c.slots.size = n) : c.slots.size.toInt32 = Int32.ofNat n := by rw [S]
theorem own_fitI {g : Nat → Int32} {c : Cell} (A : Arr Z h a c .int) (S : c.slots.size = n) (H : ∀ i, i < n → c.slots[i]? = some (.int (g i))) : FitC Z c :=
  fitC_of A fun i hi v hv => by rw [H i (S ▸ hi)] at hv; cases hv; rfl
theorem own_nst {C : String} (E : Exa Z h a C) : ∃ c : Cell, h[a]? = some c ∧ c.vm.isStatics = false := by obtain ⟨c, k, h1, -, -, h4, -⟩ := E; exact ⟨c, h1, h4⟩
theorem own_Sta_keep {C f d : String} (F : Sta Z h C f d v) (K : Keep h h' ws) (q : ∀ x ∈ ws, ∃ c : Cell, h[x]? = some c ∧ c.vm.isStatics = false) : Sta Z h' C f d v := by
  obtain ⟨cf, i, k, f, st, cell, h1, h2, h3, h4, h5, h6, h7⟩ := F
  refine ⟨cf, i, k, f, st, cell, h1, h2, h3, h4, K.2.1 st cell h5 (fun z => ?_), h6, h7⟩
  obtain ⟨c, g1, g2⟩ := q st z
  cases h5.symm.trans g1
  rw [h6] at g2
  cases g2
end OwnArrays
theorem own_lremq (x y : Int64) : x - (x / y) * y = x % y := by
  apply Int64.toInt_inj.mp
  rw [Int64.toInt_sub, Int64.toInt_mul, Int64.toInt_div, Int64.toInt_mod]
  have h := Int.mul_tdiv_add_tmod x.toInt y.toInt
  have hl := x.toInt_lt; have hg := x.le_toInt
  simp only [Int.bmod_sub_bmod, Int.sub_bmod_bmod, Int.bmod_mul_bmod, Int.mul_bmod_bmod]
  have e : x.toInt - x.toInt.tdiv y.toInt * y.toInt = x.toInt.tmod y.toInt := by rw [Int.mul_comm]; omega
  rw [e]
  have h1 := (x % y).toInt_lt; have h2 := (x % y).le_toInt
  rw [Int64.toInt_mod] at h1 h2
  exact Int.bmod_eq_of_le (by omega) (by omega)
theorem own_m32 {q k : Int32} (h : 0 ≤ q.toInt) : (q % k).toInt = q.toInt % k.toInt := by rw [Int32.toInt_mod, Int.tmod_eq_emod_of_nonneg h]
theorem own_ofn {i : Nat} (h : i ≤ 2000) : (Int32.ofNat i).toInt = i := Int32.toInt_ofNat_of_lt (by omega)
theorem own_clamp {i : Nat} (h : i ≤ 2000) : ((Int32.ofNat i)).toNatClampNeg = i := by simp only [Int32.toNatClampNeg, own_ofn h]; omega
theorem own_nn {i : Nat} (h : i ≤ 2000) : ¬ (Int32.ofNat i) < 0 := by rw [Int32.lt_iff_toInt_lt, own_ofn h, show (0 : Int32).toInt = 0 from rfl]; omega
/-- the first n places out of gd, the rest out of gb -/
def own_cp (gd : Nat → Int32) (n : Nat) (gb : Nat → Int32) : Nat → Int32 := fun i => if i < n then gd i else gb i
def own_list (n : Nat) (g : Nat → Int32) : List Value := (List.range n).map fun i => .int (g i)
theorem own_list_at {n i : Nat} (g : Nat → Int32) (h : i < n) (d : Value) : (own_list n g).getD i d = .int (g i) := by simp [own_list, List.getD_eq_getElem?_getD, h]
theorem own_arv {Z : State} {h : Heap} {a : Addr} {n : Nat} {g : Nat → Int32} (F : own_AI Z h a .byte n g) (hn : n ≤ 2000) (hf : ∀ i, i < n → fits .byte (.int (g i)) = true) : ∃ k, Arv Z h a k .byte (Int32.ofNat n) (own_list n g) (.int 0) := by
  obtain ⟨c, A, S, M, H⟩ := F
  refine ⟨c.cls, c, A, rfl, by rw [S, own_clamp hn], own_nn hn, fun k hk => ?_, fun i hi => ?_⟩
  · rw [own_list_at g (S ▸ hk)]; exact H k (S ▸ hk)
  · rw [own_list_at g (S ▸ hi)]; exact hf i (S ▸ hi)
theorem own_copy {p : Program} {l : Launch} {e : Env} {R : Room} {s : State} {m : MethodId} {args : Array Value} {below : List Frame} {meth : Method} {c : Code} {T : State} {locs : List Loc} {cells slots : Nat} {Z : State} {h : Heap} {a b : Addr} {gd gb : Nat → Int32} {n : Nat}
    (X : Stand p l e R s m args below meth c T locs cells slots) (hx : p.tables.exec = Jvm.exec) (hZ : Z.Warmed39 s.vm) {a0 : Array Value} {own : String} {index : Nat} (hown : s.vm.findClass own = some m.cls)
    (w1 : (Jvm.Cond.methodLink own index Jvm.Stand.acN).before a0 Z = true) (w2 : (Jvm.Cond.native Jvm.Stand.acN).before a0 Z = true) (w3 : (Jvm.Cond.static Jvm.Stand.acN).before a0 Z = true) (w4 : (Jvm.Cond.initialized "java/lang/System").before a0 Z = true) (eT : T.heap = h)
    (A : own_AI Z h a .byte 8 gd) (B : own_AI Z h b .byte 1024 gb) (hfd : ∀ i, i < 8 → fits .byte (.int (gd i)) = true) (hfb : ∀ i, i < 1024 → fits .byte (.int (gb i)) = true) (hn8 : n ≤ 8) {n0 : Nat} (N : Fr n0 locs) (ge : n0 ≤ b)
    {g : JFrame} (hg : g.method = m) (hsize : g.locals.size = c.maxLocals) {rest : List Value} (hs : g.stack = .int (Int32.ofNat n) :: .int (0 : Int32) :: .ref b :: .int (0 : Int32) :: .ref a :: rest) (hd : decode c.code g.pc = .ok (.invokestatic index, 3))
    (hf : 1 ≤ R.frames) {W : Nat} (hW : 2 * g.monitorRoom + (rest.map fun v => v.category).sum ≤ W) (hlo : W + (nativeFrameWords "java/lang/System" "arraycopy" 5 + 11) ≤ R.locals) :
    ∃ T' h' L, Stand p l e R s m args below meth c T' L cells slots ∧ T'.heap = h' ∧ Fr n0 L ∧ Keep h h' [b] ∧ own_AI Z h' b .byte 1024 (own_cp gd n gb) ∧
      ∀ target, Steps p.tables e below (T'.setTop { g with pc := g.pc + 3, stack := rest }) target → Steps p.tables e below (T.setTop g) target := by
  obtain ⟨k, A'⟩ := own_arv A (by decide) hfd
  obtain ⟨k', B'⟩ := own_arv B (by decide) hfb
  have z0 : (0 : Int32).toNatClampNeg = 0 := by decide
  obtain ⟨T', h', L, X', e', N', K', F', st⟩ := cpA X hx hZ hown w1 w2 w3 w4 eT (sp := 0) (dp := 0) (nn := Int32.ofNat n) (us := (List.range (Int32.ofNat n).toNatClampNeg).map fun i => (own_list 8 gd).getD ((0 : Int32).toNatClampNeg + i) (.int 0)) A' B' (Or.inl ⟨rfl, rfl⟩) (by decide) (by decide) (own_nn (by omega))
    (by rw [z0, own_clamp (by omega), own_clamp (by decide)]; omega) (by rw [z0, own_clamp (by omega), own_clamp (by decide)]; omega) rfl (by rw [z0, own_clamp (by omega)]; simp [own_list]; omega) N ge hg hsize hs hd hf hW hlo
  refine ⟨T', h', L, X', e', N', K', ?_, st⟩
  obtain ⟨c', A2, -, S2, -, H2, -⟩ := F'
  have S3 : c'.slots.size = 1024 := by rw [S2, own_clamp (by decide)]
  refine ⟨c', A2, S3, by decide, fun i hi => ?_⟩
  rw [H2 i (by rw [S3]; exact hi), z0, own_clamp (by omega)]
  simp only [List.take_zero, List.nil_append, Nat.zero_add, own_cp]
  by_cases q : i < n
  · rw [if_pos q, List.getD_eq_getElem?_getD, List.getElem?_append_left (by simpa using q)]
    simp only [List.getElem?_map, List.getElem?_range q, Option.map_some, Option.getD_some]
    rw [own_list_at gd (by omega)]
  · rw [if_neg q, List.getD_eq_getElem?_getD, List.getElem?_append_right (by simp; omega), List.getElem?_drop]
    simp only [List.length_map, List.length_range]
    rw [show n + (i - n) = i by omega, ← List.getD_eq_getElem?_getD, own_list_at gb hi]
def own_st (w1 w2 p : Int32) : Int32 := if (w1 + p) = w2 then (0 : Int32) else (w1 + p)
def own_en (w1 w2 p : Int32) : Int32 := if (w1 + p) = w2 then (0 : Int32) else w2
def own_eqs (g gd : Nat → Int32) (s f j : Int32) : Prop := (¬ (s + j) < 0 ∧ ((s + j)).toNatClampNeg < 1024) ∧ (¬ (f + j) < 0 ∧ ((f + j)).toNatClampNeg < 8) ∧ (g ((s + j)).toNatClampNeg) = (gd ((f + j)).toNatClampNeg)
def own_same (g gd : Nat → Int32) (s f len : Int32) : Prop := ∀ j : Int32, ¬ j < 0 → j < len → own_eqs g gd s f j
theorem own_room {n : Nat} (h : n ≤ 8) : ¬ (1024 : Int32) < (Int32.ofNat n) := by
  rw [Int32.lt_iff_toInt_lt, own_ofn (by omega), show (1024 : Int32).toInt = 1024 from rfl]; omega

theorem d1_0 : decode prog_40_method_1_code 0 = .ok (.aload_n 0, 1) := by decide +kernel
theorem d1_1 : decode prog_40_method_1_code 1 = .ok (.invokespecial 1, 3) := by decide +kernel
theorem d1_4 : decode prog_40_method_1_code 4 = .ok (.aload_n 0, 1) := by decide +kernel
theorem d1_5 : decode prog_40_method_1_code 5 = .ok (.sipush 1024, 3) := by decide +kernel
theorem d1_8 : decode prog_40_method_1_code 8 = .ok (.newarray .byte, 2) := by decide +kernel
theorem d1_10 : decode prog_40_method_1_code 10 = .ok (.putfield 9, 3) := by decide +kernel
theorem d1_13 : decode prog_40_method_1_code 13 = .ok (.return_, 1) := by decide +kernel
theorem own_pd0 : parseMethodDescriptor "()V" = some ⟨[], none⟩ := by decide +kernel
theorem own_pn0 : plainName "portwarden/transport/InputBuffer" = true := by first | (simp [plainName, overriddenIn]; done) | decide +kernel
set_option maxHeartbeats 40000000 in
theorem own_ef_rm1 (m : MethodId) (x0 : Addr) : entryFrame m #[(.ref x0)] 1 = mkF m 0 #[.val (.ref x0)] [] := by first | (simp [entryFrame, mkF, argsToLocals, Value.category]; done) | rfl
def Q1 (Z : State) (a0 : Addr) (h0 : Heap) (n0 : Nat) (v : Option Value) (h : Heap) (L : List Loc) : Prop := ∃ b : Addr, v = none ∧ Fr n0 L ∧ Keep h0 h [a0] ∧ Exa Z h a0 "portwarden/transport/InputBuffer" ∧ Fld Z h a0 "portwarden/transport/InputBuffer" "bytes" "[B" (.ref b) ∧ Fld Z h a0 "portwarden/transport/InputBuffer" "start" "I" (.int (0 : Int32)) ∧ Fld Z h a0 "portwarden/transport/InputBuffer" "end" "I" (.int (0 : Int32)) ∧ own_AI Z h b .byte 1024 (fun _ => 0) ∧ h0.size ≤ b
set_option maxRecDepth 65536 in
set_option maxHeartbeats 40000000 in
theorem rm1 (l : Launch) (Z : State) (aZ : Array Value) (hw : ∀ d ∈ tables_1, d.before aZ Z = true) (ws : List Jvm.Cond) (a0 : Addr) (h0 : Heap) (n0 : Nat) (Z0 : n0 ≤ h0.size) (pf0 : Exa Z h0 a0 "portwarden/transport/InputBuffer") (pf1 : Fld Z h0 a0 "portwarden/transport/InputBuffer" "bytes" "[B" .null) (pf2 : Fld Z h0 a0 "portwarden/transport/InputBuffer" "start" "I" (.int (0 : Int32))) (pf3 : Fld Z h0 a0 "portwarden/transport/InputBuffer" "end" "I" (.int (0 : Int32))) (g_a0 : n0 ≤ a0) :
    MetFree l (⟨"portwarden/transport/InputBuffer", "<init>", "()V"⟩ : MethodName) (head1 (Jvm.Cond.code (⟨"portwarden/transport/InputBuffer", "<init>", "()V"⟩ : MethodName) prog_40_method_1_code 1 none :: ws) ({ frames := 1, cells := 1, slots := 1024, locals := 12 } : Room)) (fun a U => a = #[(.ref a0)] ∧ Z.Warmed39 U.vm ∧ U.heap = h0) (fun _ _ _ _ _ => True) (fun _ U o U' => ∃ v L, o = .returned v ∧ Q1 Z a0 h0 n0 v U'.heap L ∧ FrameEnd U o U' L ({ frames := 1, cells := 1, slots := 1024, locals := 12 } : Room).cells ({ frames := 1, cells := 1, slots := 1024, locals := 12 } : Room).slots) := by
  refine MetFree.of_bodySF (plainFor_of_name own_pn0) hisR ?_
  intro p e s m args below meth c s₁ Bd hml0 hP hK
  obtain ⟨rfl, hZ, hh⟩ := hP
  have hx := Bd.exec
  have hby := Bd.bytes
  have hml : c.maxLocals = 1 := hml0
  have hown : s.vm.findClass "portwarden/transport/InputBuffer" = some m.cls := findClass_of_methodNamed Bd.named
  have hnm := (name_of_methodNamed Bd.named Bd.method).1
  have X0 : Stand p l e ({ frames := 1, cells := 1, slots := 1024, locals := 12 } : Room) s m #[(.ref a0)] below meth c s₁ [] 0 0 := Stand.of_body Bd
  have e0 : s₁.heap = h0 := by rw [← hh, Bd.state]; rfl
  have N0 := Fr.nil n0
  have K0 : Keep h0 h0 [a0] := Keep.refl h0 _
  refine own_go (S' := s₁.setTop (mkF m 0 #[.val (.ref a0)] [])) (fun t k => castTop (own_ef_rm1 m a0) k) ?_
  refine own_go (S' := s₁.setTop (mkF m 1 #[.val (.ref a0)] [(.ref a0)])) (fun target kt => ?_) ?_
  · skip
    show Steps p.tables e below (s₁.setTop (mkF m 0 #[.val (.ref a0)] [])) _
    refine XS.aloadN X0.here hx rfl (hb hby d1_0) rfl rfl ?_
    exact kt
  obtain ⟨T1, X1, e1, st1⟩ := initO X0 hx hZ hown (hw _ (List.mem_of_getElem? (i := 7) rfl)) (hw _ (List.mem_of_getElem? (i := 8) rfl)) (hw _ (List.mem_of_getElem? (i := 9) rfl)) e0 (g := (mkF m 1 #[.val (.ref a0)] [(.ref a0)])) rfl (by rw [hml]; rfl) rfl (hb hby d1_1) (by decide) (W := 0) (by show 2 * 0 + _ ≤ _; exact Nat.le_of_eq rfl) (by decide)
  refine own_go (S' := T1.setTop (mkF m 4 #[.val (.ref a0)] [])) st1 ?_
  refine own_go (S' := T1.setTop (mkF m 8 #[.val (.ref a0)] [(.int (1024 : Int32)), (.ref a0)])) (fun target kt => ?_) ?_
  · skip
    show Steps p.tables e below (T1.setTop (mkF m 4 #[.val (.ref a0)] [])) _
    refine XS.aloadN X1.here hx rfl (hb hby d1_4) rfl rfl ?_
    show Steps p.tables e below (T1.setTop (mkF m 5 #[.val (.ref a0)] [(.ref a0)])) _
    refine XS.sipush X1.here hx rfl (hb hby d1_5) ?_
    exact kt
  obtain ⟨T2, h2, k2, X2, e2, E2, A2, B2, st2⟩ := newPE X1 hx hZ (hw _ (List.mem_of_getElem? (i := 0) rfl)) e1 (g := (mkF m 8 #[.val (.ref a0)] [(.int (1024 : Int32)), (.ref a0)])) rfl (hb hby d1_8) rfl (by decide) (cap := 1024) (by decide) (by decide) (by decide) (by decide) (ad := "[B") (by decide)
  obtain ⟨b2, g2⟩ : ∃ z, z = h0.size := ⟨_, rfl⟩
  rw [← g2] at A2 B2 st2
  have f3 : Exa Z h2 a0 "portwarden/transport/InputBuffer" := pf0.ext E2
  have f4 : Fld Z h2 a0 "portwarden/transport/InputBuffer" "bytes" "[B" .null := pf1.ext E2
  have f5 : Fld Z h2 a0 "portwarden/transport/InputBuffer" "start" "I" (.int (0 : Int32)) := pf2.ext E2
  have f6 : Fld Z h2 a0 "portwarden/transport/InputBuffer" "end" "I" (.int (0 : Int32)) := pf3.ext E2
  have g_b2 : n0 ≤ b2 := Nat.le_trans Z0 (Nat.le_of_eq g2.symm)
  have sz_b2 : h0.size ≤ b2 := Nat.le_trans K0.1 (Nat.le_of_eq g2.symm)
  have ne_a0_b2 : a0 ≠ b2 := Nat.ne_of_lt (Nat.lt_of_lt_of_le pf0.lt (Nat.le_of_eq g2.symm))
  have Z2 : n0 ≤ h2.size := Nat.le_trans Z0 E2.1
  have K2 : Keep h0 h2 [a0] := K0.ext E2
  have f7 : own_AI Z h2 b2 .byte 1024 (fun _ => 0) := own_AI.fresh A2 rfl
  refine own_go (S' := T2.setTop (mkF m 10 #[.val (.ref a0)] [(.ref b2), (.ref a0)])) st2 ?_
  obtain ⟨T8, h8, X8, e8, W8, st8⟩ := putF X2 hx hZ hown (host := "") (Or.inl (hw _ (List.mem_of_getElem? (i := 10) rfl))) Via.refl e2 f4 f3 (Or.inl (hw _ (List.mem_of_getElem? (i := 11) rfl))) (hw _ (List.mem_of_getElem? (i := 2) rfl)) (ty := (.array .byte)) (by decide) rfl rfl (g := (mkF m 10 #[.val (.ref a0)] [(.ref b2), (.ref a0)])) rfl rfl (hb hby d1_10)
  have f9 : Exa Z h8 a0 "portwarden/transport/InputBuffer" := f3.wr W8
  have f10 : Fld Z h8 a0 "portwarden/transport/InputBuffer" "start" "I" (.int (0 : Int32)) := f5.other W8 (Or.inr (slot_ne (Or.inl (hw _ (List.mem_of_getElem? (i := 30) rfl))) (Or.inl (hw _ (List.mem_of_getElem? (i := 11) rfl))) (by decide) (t := .int) (t' := (.array .byte)) (by decide) (by decide)))
  have f11 : Fld Z h8 a0 "portwarden/transport/InputBuffer" "end" "I" (.int (0 : Int32)) := f6.other W8 (Or.inr (slot_ne (Or.inl (hw _ (List.mem_of_getElem? (i := 18) rfl))) (Or.inl (hw _ (List.mem_of_getElem? (i := 11) rfl))) (by decide) (t := .int) (t' := (.array .byte)) (by decide) (by decide)))
  have f12 : own_AI Z h8 b2 .byte 1024 (fun _ => 0) := f7.other W8 (Ne.symm ne_a0_b2)
  have f13 : Exa Z h8 b2 "[B" := B2.wr W8
  have f14 : Fld Z h8 a0 "portwarden/transport/InputBuffer" "bytes" "[B" (.ref b2) := f4.same W8
  have Z8 : n0 ≤ h8.size := Nat.le_trans Z2 (Keep.of_wr W8).1
  have K8 : Keep h0 h8 [a0] := K2.wr W8 (Or.inl (List.mem_of_getElem? (i := 0) rfl))
  have N8 := Fr.snoc X8 N0 g_a0
  refine own_go (S' := T8.setTop (mkF m 13 #[.val (.ref a0)] [])) st8 ?_
  obtain ⟨fs, hr, hrun, hended, hW, hsame⟩ := X8.leave (v := none) (fun _ => rfl)
  refine ⟨_, _, ?_, hrun, hended, _, _, rfl, ?_, ⟨_, rfl⟩, hW, hsame.mono (by decide) (by decide)⟩
  · exact X8.returnOut hx Bd.returns (hb hby d1_13) hr
  · show Q1 Z a0 h0 n0 _ T8.heap _
    rw [e8]
    exact ⟨b2, rfl, N8, K8, f9, f14, f10, f11, f12, (by assumption)⟩
theorem d3_0 : decode prog_40_method_2_code 0 = .ok (.aload_n 0, 1) := by decide +kernel
theorem d3_1 : decode prog_40_method_2_code 1 = .ok (.getfield 9, 3) := by decide +kernel
theorem d3_4 : decode prog_40_method_2_code 4 = .ok (.arraylength, 1) := by decide +kernel
theorem d3_5 : decode prog_40_method_2_code 5 = .ok (.aload_n 0, 1) := by decide +kernel
theorem d3_6 : decode prog_40_method_2_code 6 = .ok (.getfield 13, 3) := by decide +kernel
theorem d3_9 : decode prog_40_method_2_code 9 = .ok (.isub, 1) := by decide +kernel
theorem d3_10 : decode prog_40_method_2_code 10 = .ok (.iload_n 3, 1) := by decide +kernel
theorem d3_11 : decode prog_40_method_2_code 11 = .ok (.if_icmp .ge 87, 3) := by decide +kernel
theorem d3_14 : decode prog_40_method_2_code 14 = .ok (.aload_n 0, 1) := by decide +kernel
theorem d3_15 : decode prog_40_method_2_code 15 = .ok (.invokevirtual 17, 3) := by decide +kernel
theorem d3_18 : decode prog_40_method_2_code 18 = .ok (.istore 4, 2) := by decide +kernel
theorem d3_20 : decode prog_40_method_2_code 20 = .ok (.aload_n 0, 1) := by decide +kernel
theorem d3_21 : decode prog_40_method_2_code 21 = .ok (.getfield 9, 3) := by decide +kernel
theorem d3_24 : decode prog_40_method_2_code 24 = .ok (.arraylength, 1) := by decide +kernel
theorem d3_25 : decode prog_40_method_2_code 25 = .ok (.iload 4, 2) := by decide +kernel
theorem d3_27 : decode prog_40_method_2_code 27 = .ok (.iload_n 3, 1) := by decide +kernel
theorem d3_28 : decode prog_40_method_2_code 28 = .ok (.iadd, 1) := by decide +kernel
theorem d3_29 : decode prog_40_method_2_code 29 = .ok (.if_icmp .ge 40, 3) := by decide +kernel
theorem d3_32 : decode prog_40_method_2_code 32 = .ok (.aload_n 0, 1) := by decide +kernel
theorem d3_33 : decode prog_40_method_2_code 33 = .ok (.aload_n 0, 1) := by decide +kernel
theorem d3_34 : decode prog_40_method_2_code 34 = .ok (.getfield 9, 3) := by decide +kernel
theorem d3_37 : decode prog_40_method_2_code 37 = .ok (.aload_n 0, 1) := by decide +kernel
theorem d3_38 : decode prog_40_method_2_code 38 = .ok (.getfield 21, 3) := by decide +kernel
theorem d3_41 : decode prog_40_method_2_code 41 = .ok (.aload_n 0, 1) := by decide +kernel
theorem d3_42 : decode prog_40_method_2_code 42 = .ok (.getfield 21, 3) := by decide +kernel
theorem d3_45 : decode prog_40_method_2_code 45 = .ok (.iconst 2, 1) := by decide +kernel
theorem d3_46 : decode prog_40_method_2_code 46 = .ok (.aload_n 0, 1) := by decide +kernel
theorem d3_47 : decode prog_40_method_2_code 47 = .ok (.getfield 9, 3) := by decide +kernel
theorem d3_50 : decode prog_40_method_2_code 50 = .ok (.arraylength, 1) := by decide +kernel
theorem d3_51 : decode prog_40_method_2_code 51 = .ok (.imul, 1) := by decide +kernel
theorem d3_52 : decode prog_40_method_2_code 52 = .ok (.iload 4, 2) := by decide +kernel
theorem d3_54 : decode prog_40_method_2_code 54 = .ok (.iload_n 3, 1) := by decide +kernel
theorem d3_55 : decode prog_40_method_2_code 55 = .ok (.iadd, 1) := by decide +kernel
theorem d3_56 : decode prog_40_method_2_code 56 = .ok (.invokestatic 24, 3) := by decide +kernel
theorem d3_59 : decode prog_40_method_2_code 59 = .ok (.iadd, 1) := by decide +kernel
theorem d3_60 : decode prog_40_method_2_code 60 = .ok (.invokestatic 30, 3) := by decide +kernel
theorem d3_63 : decode prog_40_method_2_code 63 = .ok (.putfield 9, 3) := by decide +kernel
theorem d3_66 : decode prog_40_method_2_code 66 = .ok (.goto 21, 3) := by decide +kernel
theorem d3_69 : decode prog_40_method_2_code 69 = .ok (.aload_n 0, 1) := by decide +kernel
theorem d3_70 : decode prog_40_method_2_code 70 = .ok (.getfield 9, 3) := by decide +kernel
theorem d3_73 : decode prog_40_method_2_code 73 = .ok (.aload_n 0, 1) := by decide +kernel
theorem d3_74 : decode prog_40_method_2_code 74 = .ok (.getfield 21, 3) := by decide +kernel
theorem d3_77 : decode prog_40_method_2_code 77 = .ok (.aload_n 0, 1) := by decide +kernel
theorem d3_78 : decode prog_40_method_2_code 78 = .ok (.getfield 9, 3) := by decide +kernel
theorem d3_81 : decode prog_40_method_2_code 81 = .ok (.iconst 0, 1) := by decide +kernel
theorem d3_82 : decode prog_40_method_2_code 82 = .ok (.iload 4, 2) := by decide +kernel
theorem d3_84 : decode prog_40_method_2_code 84 = .ok (.invokestatic 36, 3) := by decide +kernel
theorem d3_87 : decode prog_40_method_2_code 87 = .ok (.aload_n 0, 1) := by decide +kernel
theorem d3_88 : decode prog_40_method_2_code 88 = .ok (.iconst 0, 1) := by decide +kernel
theorem d3_89 : decode prog_40_method_2_code 89 = .ok (.putfield 21, 3) := by decide +kernel
theorem d3_92 : decode prog_40_method_2_code 92 = .ok (.aload_n 0, 1) := by decide +kernel
theorem d3_93 : decode prog_40_method_2_code 93 = .ok (.iload 4, 2) := by decide +kernel
theorem d3_95 : decode prog_40_method_2_code 95 = .ok (.putfield 13, 3) := by decide +kernel
theorem d3_98 : decode prog_40_method_2_code 98 = .ok (.aload_n 1, 1) := by decide +kernel
theorem d3_99 : decode prog_40_method_2_code 99 = .ok (.iload_n 2, 1) := by decide +kernel
theorem d3_100 : decode prog_40_method_2_code 100 = .ok (.aload_n 0, 1) := by decide +kernel
theorem d3_101 : decode prog_40_method_2_code 101 = .ok (.getfield 9, 3) := by decide +kernel
theorem d3_104 : decode prog_40_method_2_code 104 = .ok (.aload_n 0, 1) := by decide +kernel
theorem d3_105 : decode prog_40_method_2_code 105 = .ok (.getfield 13, 3) := by decide +kernel
theorem d3_108 : decode prog_40_method_2_code 108 = .ok (.iload_n 3, 1) := by decide +kernel
theorem d3_109 : decode prog_40_method_2_code 109 = .ok (.invokestatic 36, 3) := by decide +kernel
theorem d3_112 : decode prog_40_method_2_code 112 = .ok (.aload_n 0, 1) := by decide +kernel
theorem d3_113 : decode prog_40_method_2_code 113 = .ok (.dup, 1) := by decide +kernel
theorem d3_114 : decode prog_40_method_2_code 114 = .ok (.getfield 13, 3) := by decide +kernel
theorem d3_117 : decode prog_40_method_2_code 117 = .ok (.iload_n 3, 1) := by decide +kernel
theorem d3_118 : decode prog_40_method_2_code 118 = .ok (.iadd, 1) := by decide +kernel
theorem d3_119 : decode prog_40_method_2_code 119 = .ok (.putfield 13, 3) := by decide +kernel
theorem d3_122 : decode prog_40_method_2_code 122 = .ok (.return_, 1) := by decide +kernel
theorem own_pd1 : parseMethodDescriptor "()I" = some ⟨[], some .int⟩ := by decide +kernel
theorem own_pd2 : parseMethodDescriptor "(Ljava/lang/Object;ILjava/lang/Object;II)V" = some ⟨[(.object "java/lang/Object"), .int, (.object "java/lang/Object"), .int, .int], none⟩ := by decide +kernel
set_option maxHeartbeats 40000000 in
theorem own_ef_rm3 (m : MethodId) (x0 : Addr) (x1 : Addr) (x2 : Int32) (x3 : Int32) : entryFrame m #[(.ref x0), (.ref x1), (.int x2), (.int x3)] 5 = mkF m 0 #[.val (.ref x0), .val (.ref x1), .val (.int x2), .val (.int x3), .unset] [] := by first | (simp [entryFrame, mkF, argsToLocals, Value.category]; done) | rfl
def Q3 (Z : State) (a0 : Addr) (a1 : Addr) (n : Nat) (b1 : Addr) (gd : Nat → Int32) (gb : Nat → Int32) (h0 : Heap) (n0 : Nat) (v : Option Value) (h : Heap) (L : List Loc) : Prop := v = none ∧ Fr n0 L ∧ Keep h0 h [a0, b1] ∧ Exa Z h a0 "portwarden/transport/InputBuffer" ∧ Fld Z h a0 "portwarden/transport/InputBuffer" "bytes" "[B" (.ref b1) ∧ Fld Z h a0 "portwarden/transport/InputBuffer" "start" "I" (.int (0 : Int32)) ∧ Fld Z h a0 "portwarden/transport/InputBuffer" "end" "I" (.int ((0 : Int32) + (Int32.ofNat n))) ∧ own_AI Z h b1 .byte 1024 (own_cp gd n gb)
set_option maxRecDepth 65536 in
set_option maxHeartbeats 40000000 in
theorem rm3 (l : Launch) (Z : State) (aZ : Array Value) (hw : ∀ d ∈ tables_1, d.before aZ Z = true) (ws : List Jvm.Cond) (a0 : Addr) (a1 : Addr) (n : Nat) (b1 : Addr) (gd : Nat → Int32) (gb : Nat → Int32) (h0 : Heap) (n0 : Nat) (Z0 : n0 ≤ h0.size) (pf0 : Exa Z h0 a0 "portwarden/transport/InputBuffer") (pf1 : Fld Z h0 a0 "portwarden/transport/InputBuffer" "bytes" "[B" (.ref b1)) (pf2 : Fld Z h0 a0 "portwarden/transport/InputBuffer" "start" "I" (.int (0 : Int32))) (pf3 : Fld Z h0 a0 "portwarden/transport/InputBuffer" "end" "I" (.int (0 : Int32))) (pf4 : own_AI Z h0 a1 .byte 8 gd) (pf5 : own_AI Z h0 b1 .byte 1024 gb) (g_a0 : n0 ≤ a0) (g_b1 : n0 ≤ b1) (hn8 : n ≤ 8) (hfd : ∀ i, i < 8 → fits .byte (.int (gd i)) = true) (hfb : ∀ i, i < 1024 → fits .byte (.int (gb i)) = true) (nab : a0 ≠ b1) (nac : a0 ≠ a1) (nbc : a1 ≠ b1) :
    MetFree l (⟨"portwarden/transport/InputBuffer", "append", "([BII)V"⟩ : MethodName) (head1 (Jvm.Cond.code (⟨"portwarden/transport/InputBuffer", "append", "([BII)V"⟩ : MethodName) prog_40_method_2_code 5 none :: ws) ({ frames := 1, cells := 0, slots := 0, locals := 40 } : Room)) (fun a U => a = #[(.ref a0), (.ref a1), (.int (0 : Int32)), (.int (Int32.ofNat n))] ∧ Z.Warmed39 U.vm ∧ U.heap = h0) (fun _ _ _ _ _ => True) (fun _ U o U' => ∃ v L, o = .returned v ∧ Q3 Z a0 a1 n b1 gd gb h0 n0 v U'.heap L ∧ FrameEnd U o U' L ({ frames := 1, cells := 0, slots := 0, locals := 40 } : Room).cells ({ frames := 1, cells := 0, slots := 0, locals := 40 } : Room).slots) := by
  refine MetFree.of_bodySF (plainFor_of_name own_pn0) hisR ?_
  intro p e s m args below meth c s₁ Bd hml0 hP hK
  obtain ⟨rfl, hZ, hh⟩ := hP
  have hx := Bd.exec
  have hby := Bd.bytes
  have hml : c.maxLocals = 5 := hml0
  have hown : s.vm.findClass "portwarden/transport/InputBuffer" = some m.cls := findClass_of_methodNamed Bd.named
  have hnm := (name_of_methodNamed Bd.named Bd.method).1
  have X0 : Stand p l e ({ frames := 1, cells := 0, slots := 0, locals := 40 } : Room) s m #[(.ref a0), (.ref a1), (.int (0 : Int32)), (.int (Int32.ofNat n))] below meth c s₁ [] 0 0 := Stand.of_body Bd
  have e0 : s₁.heap = h0 := by rw [← hh, Bd.state]; rfl
  have N0 := Fr.nil n0
  have K0 : Keep h0 h0 [a0, b1] := Keep.refl h0 _
  refine own_go (S' := s₁.setTop (mkF m 0 #[.val (.ref a0), .val (.ref a1), .val (.int (0 : Int32)), .val (.int (Int32.ofNat n)), .unset] [])) (fun t k => castTop (own_ef_rm3 m a0 a1 (0 : Int32) (Int32.ofNat n)) k) ?_
  refine own_go (S' := s₁.setTop (mkF m 1 #[.val (.ref a0), .val (.ref a1), .val (.int (0 : Int32)), .val (.int (Int32.ofNat n)), .unset] [(.ref a0)])) (fun target kt => ?_) ?_
  · skip
    show Steps p.tables e below (s₁.setTop (mkF m 0 #[.val (.ref a0), .val (.ref a1), .val (.int (0 : Int32)), .val (.int (Int32.ofNat n)), .unset] [])) _
    refine XS.aloadN X0.here hx rfl (hb hby d3_0) rfl rfl ?_
    exact kt
  obtain ⟨T15, X15, e15, st15⟩ := getF X0 hx hZ hown (host := "") (Or.inl (hw _ (List.mem_of_getElem? (i := 10) rfl))) Via.refl e0 pf1 (g := (mkF m 1 #[.val (.ref a0), .val (.ref a1), .val (.int (0 : Int32)), .val (.int (Int32.ofNat n)), .unset] [(.ref a0)])) rfl rfl (hb hby d3_1)
  refine own_go (S' := T15.setTop (mkF m 4 #[.val (.ref a0), .val (.ref a1), .val (.int (0 : Int32)), .val (.int (Int32.ofNat n)), .unset] [(.ref b1)])) st15 ?_
  obtain ⟨c16, Ar16, S16, M16, H16⟩ := id pf5
  have st16 : ∀ target, Steps p.tables e below (T15.setTop (mkF m 5 #[.val (.ref a0), .val (.ref a1), .val (.int (0 : Int32)), .val (.int (Int32.ofNat n)), .unset] [(.int (1024 : Int32))])) target → Steps p.tables e below (T15.setTop (mkF m 4 #[.val (.ref a0), .val (.ref a1), .val (.int (0 : Int32)), .val (.int (Int32.ofNat n)), .unset] [(.ref b1)])) target := fun target kt => X15.arraylength hx (cell := c16) (by rw [e15]; exact Ar16.1) (State.isArrayOf_alike hZ.alike Ar16.2.1) (g := (mkF m 4 #[.val (.ref a0), .val (.ref a1), .val (.int (0 : Int32)), .val (.int (Int32.ofNat n)), .unset] [(.ref b1)])) rfl rfl (hb hby d3_4) _ (by rw [own_len S16]; exact kt)
  refine own_go (S' := T15.setTop (mkF m 5 #[.val (.ref a0), .val (.ref a1), .val (.int (0 : Int32)), .val (.int (Int32.ofNat n)), .unset] [(.int (1024 : Int32))])) st16 ?_
  refine own_go (S' := T15.setTop (mkF m 6 #[.val (.ref a0), .val (.ref a1), .val (.int (0 : Int32)), .val (.int (Int32.ofNat n)), .unset] [(.ref a0), (.int (1024 : Int32))])) (fun target kt => ?_) ?_
  · skip
    show Steps p.tables e below (T15.setTop (mkF m 5 #[.val (.ref a0), .val (.ref a1), .val (.int (0 : Int32)), .val (.int (Int32.ofNat n)), .unset] [(.int (1024 : Int32))])) _
    refine XS.aloadN X15.here hx rfl (hb hby d3_5) rfl rfl ?_
    exact kt
  obtain ⟨T17, X17, e17, st17⟩ := getF X15 hx hZ hown (host := "") (Or.inl (hw _ (List.mem_of_getElem? (i := 17) rfl))) Via.refl e15 pf3 (g := (mkF m 6 #[.val (.ref a0), .val (.ref a1), .val (.int (0 : Int32)), .val (.int (Int32.ofNat n)), .unset] [(.ref a0), (.int (1024 : Int32))])) rfl rfl (hb hby d3_6)
  refine own_go (S' := T17.setTop (mkF m 9 #[.val (.ref a0), .val (.ref a1), .val (.int (0 : Int32)), .val (.int (Int32.ofNat n)), .unset] [(.int (0 : Int32)), (.int (1024 : Int32))])) st17 ?_
  refine own_go (S' := T17.setTop (mkF m 101 #[.val (.ref a0), .val (.ref a1), .val (.int (0 : Int32)), .val (.int (Int32.ofNat n)), .unset] [(.ref a0), (.int (0 : Int32)), (.ref a1)])) (fun target kt => ?_) ?_
  · skip
    show Steps p.tables e below (T17.setTop (mkF m 9 #[.val (.ref a0), .val (.ref a1), .val (.int (0 : Int32)), .val (.int (Int32.ofNat n)), .unset] [(.int (0 : Int32)), (.int (1024 : Int32))])) _
    refine XS.isub X17.here hx rfl (hb hby d3_9) rfl ?_
    rw [show ((1024 : Int32) - (0 : Int32)) = (1024 : Int32) from by decide]
    show Steps p.tables e below (T17.setTop (mkF m 10 #[.val (.ref a0), .val (.ref a1), .val (.int (0 : Int32)), .val (.int (Int32.ofNat n)), .unset] [(.int (1024 : Int32))])) _
    refine XS.iloadN X17.here hx rfl (hb hby d3_10) rfl ?_
    show Steps p.tables e below (T17.setTop (mkF m 11 #[.val (.ref a0), .val (.ref a1), .val (.int (0 : Int32)), .val (.int (Int32.ofNat n)), .unset] [(.int (Int32.ofNat n)), (.int (1024 : Int32))])) _
    refine XS.icmpYes X17.here hx rfl (pc0 := 11) (pc' := 98) rfl (hb hby d3_11) rfl (flt (own_room hn8 : ¬ ((1024 : Int32) < (Int32.ofNat n)))).2.1 (by decide) (by decide) ?_
    show Steps p.tables e below (T17.setTop (mkF m 98 #[.val (.ref a0), .val (.ref a1), .val (.int (0 : Int32)), .val (.int (Int32.ofNat n)), .unset] [])) _
    refine XS.aloadN X17.here hx rfl (hb hby d3_98) rfl rfl ?_
    show Steps p.tables e below (T17.setTop (mkF m 99 #[.val (.ref a0), .val (.ref a1), .val (.int (0 : Int32)), .val (.int (Int32.ofNat n)), .unset] [(.ref a1)])) _
    refine XS.iloadN X17.here hx rfl (hb hby d3_99) rfl ?_
    show Steps p.tables e below (T17.setTop (mkF m 100 #[.val (.ref a0), .val (.ref a1), .val (.int (0 : Int32)), .val (.int (Int32.ofNat n)), .unset] [(.int (0 : Int32)), (.ref a1)])) _
    refine XS.aloadN X17.here hx rfl (hb hby d3_100) rfl rfl ?_
    exact kt
  obtain ⟨T18, X18, e18, st18⟩ := getF X17 hx hZ hown (host := "") (Or.inl (hw _ (List.mem_of_getElem? (i := 10) rfl))) Via.refl e17 pf1 (g := (mkF m 101 #[.val (.ref a0), .val (.ref a1), .val (.int (0 : Int32)), .val (.int (Int32.ofNat n)), .unset] [(.ref a0), (.int (0 : Int32)), (.ref a1)])) rfl rfl (hb hby d3_101)
  refine own_go (S' := T18.setTop (mkF m 104 #[.val (.ref a0), .val (.ref a1), .val (.int (0 : Int32)), .val (.int (Int32.ofNat n)), .unset] [(.ref b1), (.int (0 : Int32)), (.ref a1)])) st18 ?_
  refine own_go (S' := T18.setTop (mkF m 105 #[.val (.ref a0), .val (.ref a1), .val (.int (0 : Int32)), .val (.int (Int32.ofNat n)), .unset] [(.ref a0), (.ref b1), (.int (0 : Int32)), (.ref a1)])) (fun target kt => ?_) ?_
  · skip
    show Steps p.tables e below (T18.setTop (mkF m 104 #[.val (.ref a0), .val (.ref a1), .val (.int (0 : Int32)), .val (.int (Int32.ofNat n)), .unset] [(.ref b1), (.int (0 : Int32)), (.ref a1)])) _
    refine XS.aloadN X18.here hx rfl (hb hby d3_104) rfl rfl ?_
    exact kt
  obtain ⟨T19, X19, e19, st19⟩ := getF X18 hx hZ hown (host := "") (Or.inl (hw _ (List.mem_of_getElem? (i := 17) rfl))) Via.refl e18 pf3 (g := (mkF m 105 #[.val (.ref a0), .val (.ref a1), .val (.int (0 : Int32)), .val (.int (Int32.ofNat n)), .unset] [(.ref a0), (.ref b1), (.int (0 : Int32)), (.ref a1)])) rfl rfl (hb hby d3_105)
  refine own_go (S' := T19.setTop (mkF m 108 #[.val (.ref a0), .val (.ref a1), .val (.int (0 : Int32)), .val (.int (Int32.ofNat n)), .unset] [(.int (0 : Int32)), (.ref b1), (.int (0 : Int32)), (.ref a1)])) st19 ?_
  refine own_go (S' := T19.setTop (mkF m 109 #[.val (.ref a0), .val (.ref a1), .val (.int (0 : Int32)), .val (.int (Int32.ofNat n)), .unset] [(.int (Int32.ofNat n)), (.int (0 : Int32)), (.ref b1), (.int (0 : Int32)), (.ref a1)])) (fun target kt => ?_) ?_
  · skip
    show Steps p.tables e below (T19.setTop (mkF m 108 #[.val (.ref a0), .val (.ref a1), .val (.int (0 : Int32)), .val (.int (Int32.ofNat n)), .unset] [(.int (0 : Int32)), (.ref b1), (.int (0 : Int32)), (.ref a1)])) _
    refine XS.iloadN X19.here hx rfl (hb hby d3_108) rfl ?_
    exact kt
  obtain ⟨T20, h20, L20, X20, e20, N20, Kc20, A20, st20⟩ := own_copy X19 hx hZ hown (hw _ (List.mem_of_getElem? (i := 19) rfl)) (hw _ (List.mem_of_getElem? (i := 22) rfl)) (hw _ (List.mem_of_getElem? (i := 20) rfl)) (hw _ (List.mem_of_getElem? (i := 21) rfl)) e19 pf4 pf5 hfd hfb hn8 N0 g_b1 (g := (mkF m 109 #[.val (.ref a0), .val (.ref a1), .val (.int (0 : Int32)), .val (.int (Int32.ofNat n)), .unset] [(.int (Int32.ofNat n)), (.int (0 : Int32)), (.ref b1), (.int (0 : Int32)), (.ref a1)])) rfl (by rw [hml]; rfl) rfl (hb hby d3_109) (by decide) (W := 0) (by show 2 * 0 + _ ≤ _; exact Nat.le_of_eq rfl) (by decide)
  have f21 : Exa Z h20 a0 "portwarden/transport/InputBuffer" := pf0.keep Kc20
  have f22 : Fld Z h20 a0 "portwarden/transport/InputBuffer" "bytes" "[B" (.ref b1) := pf1.keep Kc20 (ninS nab nin0)
  have f23 : Fld Z h20 a0 "portwarden/transport/InputBuffer" "start" "I" (.int (0 : Int32)) := pf2.keep Kc20 (ninS nab nin0)
  have f24 : Fld Z h20 a0 "portwarden/transport/InputBuffer" "end" "I" (.int (0 : Int32)) := pf3.keep Kc20 (ninS nab nin0)
  have f25 : own_AI Z h20 a1 .byte 8 gd := pf4.keep Kc20 (ninS nbc nin0)
  have Z20 : n0 ≤ h20.size := Nat.le_trans Z0 Kc20.1
  have K20 : Keep h0 h20 [a0, b1] := K0.trans Kc20 (allS (Or.inl (List.mem_of_getElem? (i := 1) rfl)) all0)
  refine own_go (S' := T20.setTop (mkF m 112 #[.val (.ref a0), .val (.ref a1), .val (.int (0 : Int32)), .val (.int (Int32.ofNat n)), .unset] [])) st20 ?_
  refine own_go (S' := T20.setTop (mkF m 114 #[.val (.ref a0), .val (.ref a1), .val (.int (0 : Int32)), .val (.int (Int32.ofNat n)), .unset] [(.ref a0), (.ref a0)])) (fun target kt => ?_) ?_
  · skip
    show Steps p.tables e below (T20.setTop (mkF m 112 #[.val (.ref a0), .val (.ref a1), .val (.int (0 : Int32)), .val (.int (Int32.ofNat n)), .unset] [])) _
    refine XS.aloadN X20.here hx rfl (hb hby d3_112) rfl rfl ?_
    show Steps p.tables e below (T20.setTop (mkF m 113 #[.val (.ref a0), .val (.ref a1), .val (.int (0 : Int32)), .val (.int (Int32.ofNat n)), .unset] [(.ref a0)])) _
    refine XS.dup X20.here hx rfl (hb hby d3_113) rfl rfl ?_
    exact kt
  obtain ⟨T26, X26, e26, st26⟩ := getF X20 hx hZ hown (host := "") (Or.inl (hw _ (List.mem_of_getElem? (i := 17) rfl))) Via.refl e20 f24 (g := (mkF m 114 #[.val (.ref a0), .val (.ref a1), .val (.int (0 : Int32)), .val (.int (Int32.ofNat n)), .unset] [(.ref a0), (.ref a0)])) rfl rfl (hb hby d3_114)
  refine own_go (S' := T26.setTop (mkF m 117 #[.val (.ref a0), .val (.ref a1), .val (.int (0 : Int32)), .val (.int (Int32.ofNat n)), .unset] [(.int (0 : Int32)), (.ref a0)])) st26 ?_
  refine own_go (S' := T26.setTop (mkF m 119 #[.val (.ref a0), .val (.ref a1), .val (.int (0 : Int32)), .val (.int (Int32.ofNat n)), .unset] [(.int ((0 : Int32) + (Int32.ofNat n))), (.ref a0)])) (fun target kt => ?_) ?_
  · skip
    show Steps p.tables e below (T26.setTop (mkF m 117 #[.val (.ref a0), .val (.ref a1), .val (.int (0 : Int32)), .val (.int (Int32.ofNat n)), .unset] [(.int (0 : Int32)), (.ref a0)])) _
    refine XS.iloadN X26.here hx rfl (hb hby d3_117) rfl ?_
    show Steps p.tables e below (T26.setTop (mkF m 118 #[.val (.ref a0), .val (.ref a1), .val (.int (0 : Int32)), .val (.int (Int32.ofNat n)), .unset] [(.int (Int32.ofNat n)), (.int (0 : Int32)), (.ref a0)])) _
    refine XS.iadd X26.here hx rfl (hb hby d3_118) rfl ?_
    exact kt
  obtain ⟨T27, h27, X27, e27, W27, st27⟩ := putF X26 hx hZ hown (host := "") (Or.inl (hw _ (List.mem_of_getElem? (i := 17) rfl))) Via.refl e26 f24 f21 (Or.inl (hw _ (List.mem_of_getElem? (i := 18) rfl))) (hw _ (List.mem_of_getElem? (i := 2) rfl)) (ty := .int) (by decide) rfl rfl (g := (mkF m 119 #[.val (.ref a0), .val (.ref a1), .val (.int (0 : Int32)), .val (.int (Int32.ofNat n)), .unset] [(.int ((0 : Int32) + (Int32.ofNat n))), (.ref a0)])) rfl rfl (hb hby d3_119)
  have f28 : Exa Z h27 a0 "portwarden/transport/InputBuffer" := f21.wr W27
  have f29 : Fld Z h27 a0 "portwarden/transport/InputBuffer" "bytes" "[B" (.ref b1) := f22.other W27 (Or.inr (slot_ne (Or.inl (hw _ (List.mem_of_getElem? (i := 11) rfl))) (Or.inl (hw _ (List.mem_of_getElem? (i := 18) rfl))) (by decide) (t := (.array .byte)) (t' := .int) (by decide) (by decide)))
  have f30 : Fld Z h27 a0 "portwarden/transport/InputBuffer" "start" "I" (.int (0 : Int32)) := f23.other W27 (Or.inr (slot_ne (Or.inl (hw _ (List.mem_of_getElem? (i := 30) rfl))) (Or.inl (hw _ (List.mem_of_getElem? (i := 18) rfl))) (by decide) (t := .int) (t' := .int) (by decide) (by decide)))
  have f31 : own_AI Z h27 a1 .byte 8 gd := f25.other W27 (Ne.symm nac)
  have f32 : own_AI Z h27 b1 .byte 1024 (own_cp gd n gb) := A20.other W27 (Ne.symm nab)
  have f33 : Fld Z h27 a0 "portwarden/transport/InputBuffer" "end" "I" (.int ((0 : Int32) + (Int32.ofNat n))) := f24.same W27
  have Z27 : n0 ≤ h27.size := Nat.le_trans Z20 (Keep.of_wr W27).1
  have K27 : Keep h0 h27 [a0, b1] := K20.wr W27 (Or.inl (List.mem_of_getElem? (i := 0) rfl))
  have N27 := Fr.snoc X27 N20 g_a0
  refine own_go (S' := T27.setTop (mkF m 122 #[.val (.ref a0), .val (.ref a1), .val (.int (0 : Int32)), .val (.int (Int32.ofNat n)), .unset] [])) st27 ?_
  obtain ⟨fs, hr, hrun, hended, hW, hsame⟩ := X27.leave (v := none) (fun _ => rfl)
  refine ⟨_, _, ?_, hrun, hended, _, _, rfl, ?_, ⟨_, rfl⟩, hW, hsame.mono (by decide) (by decide)⟩
  · exact X27.returnOut hx Bd.returns (hb hby d3_122) hr
  · show Q3 Z a0 a1 n b1 gd gb h0 n0 _ T27.heap _
    rw [e27]
    exact ⟨rfl, N27, K27, f28, f29, f30, f33, f32⟩
theorem d4_0 : decode prog_40_method_6_code 0 = .ok (.aload_n 0, 1) := by decide +kernel
theorem d4_1 : decode prog_40_method_6_code 1 = .ok (.dup, 1) := by decide +kernel
theorem d4_2 : decode prog_40_method_6_code 2 = .ok (.getfield 21, 3) := by decide +kernel
theorem d4_5 : decode prog_40_method_6_code 5 = .ok (.iload_n 1, 1) := by decide +kernel
theorem d4_6 : decode prog_40_method_6_code 6 = .ok (.iadd, 1) := by decide +kernel
theorem d4_7 : decode prog_40_method_6_code 7 = .ok (.putfield 21, 3) := by decide +kernel
theorem d4_10 : decode prog_40_method_6_code 10 = .ok (.aload_n 0, 1) := by decide +kernel
theorem d4_11 : decode prog_40_method_6_code 11 = .ok (.getfield 21, 3) := by decide +kernel
theorem d4_14 : decode prog_40_method_6_code 14 = .ok (.aload_n 0, 1) := by decide +kernel
theorem d4_15 : decode prog_40_method_6_code 15 = .ok (.getfield 13, 3) := by decide +kernel
theorem d4_18 : decode prog_40_method_6_code 18 = .ok (.if_icmp .ne 13, 3) := by decide +kernel
theorem d4_21 : decode prog_40_method_6_code 21 = .ok (.aload_n 0, 1) := by decide +kernel
theorem d4_22 : decode prog_40_method_6_code 22 = .ok (.iconst 0, 1) := by decide +kernel
theorem d4_23 : decode prog_40_method_6_code 23 = .ok (.putfield 21, 3) := by decide +kernel
theorem d4_26 : decode prog_40_method_6_code 26 = .ok (.aload_n 0, 1) := by decide +kernel
theorem d4_27 : decode prog_40_method_6_code 27 = .ok (.iconst 0, 1) := by decide +kernel
theorem d4_28 : decode prog_40_method_6_code 28 = .ok (.putfield 13, 3) := by decide +kernel
theorem d4_31 : decode prog_40_method_6_code 31 = .ok (.return_, 1) := by decide +kernel
set_option maxHeartbeats 40000000 in
theorem own_ef_rm4 (m : MethodId) (x0 : Addr) (x1 : Int32) : entryFrame m #[(.ref x0), (.int x1)] 2 = mkF m 0 #[.val (.ref x0), .val (.int x1)] [] := by first | (simp [entryFrame, mkF, argsToLocals, Value.category]; done) | rfl
def Q4 (Z : State) (a0 : Addr) (p1 : Int32) (w1 : Int32) (w2 : Int32) (b1 : Addr) (h0 : Heap) (n0 : Nat) (v : Option Value) (h : Heap) (L : List Loc) : Prop := ∃ s9 : Int32, ∃ e9 : Int32, v = none ∧ Fr n0 L ∧ Keep h0 h [a0] ∧ Exa Z h a0 "portwarden/transport/InputBuffer" ∧ Fld Z h a0 "portwarden/transport/InputBuffer" "bytes" "[B" (.ref b1) ∧ Fld Z h a0 "portwarden/transport/InputBuffer" "start" "I" (.int s9) ∧ Fld Z h a0 "portwarden/transport/InputBuffer" "end" "I" (.int e9) ∧ s9 = own_st w1 w2 p1 ∧ e9 = own_en w1 w2 p1
set_option maxRecDepth 65536 in
set_option maxHeartbeats 40000000 in
theorem rm4 (l : Launch) (Z : State) (aZ : Array Value) (hw : ∀ d ∈ tables_1, d.before aZ Z = true) (ws : List Jvm.Cond) (a0 : Addr) (p1 : Int32) (w1 : Int32) (w2 : Int32) (b1 : Addr) (h0 : Heap) (n0 : Nat) (Z0 : n0 ≤ h0.size) (pf0 : Exa Z h0 a0 "portwarden/transport/InputBuffer") (pf1 : Fld Z h0 a0 "portwarden/transport/InputBuffer" "bytes" "[B" (.ref b1)) (pf2 : Fld Z h0 a0 "portwarden/transport/InputBuffer" "start" "I" (.int w1)) (pf3 : Fld Z h0 a0 "portwarden/transport/InputBuffer" "end" "I" (.int w2)) (g_a0 : n0 ≤ a0) :
    MetFree l (⟨"portwarden/transport/InputBuffer", "consume", "(I)V"⟩ : MethodName) (head1 (Jvm.Cond.code (⟨"portwarden/transport/InputBuffer", "consume", "(I)V"⟩ : MethodName) prog_40_method_6_code 2 none :: ws) ({ frames := 0, cells := 0, slots := 0, locals := 0 } : Room)) (fun a U => a = #[(.ref a0), (.int p1)] ∧ Z.Warmed39 U.vm ∧ U.heap = h0) (fun _ _ _ _ _ => True) (fun _ U o U' => ∃ v L, o = .returned v ∧ Q4 Z a0 p1 w1 w2 b1 h0 n0 v U'.heap L ∧ FrameEnd U o U' L ({ frames := 0, cells := 0, slots := 0, locals := 0 } : Room).cells ({ frames := 0, cells := 0, slots := 0, locals := 0 } : Room).slots) := by
  refine MetFree.of_bodySF (plainFor_of_name own_pn0) hisR ?_
  intro p e s m args below meth c s₁ Bd hml0 hP hK
  obtain ⟨rfl, hZ, hh⟩ := hP
  have hx := Bd.exec
  have hby := Bd.bytes
  have hml : c.maxLocals = 2 := hml0
  have hown : s.vm.findClass "portwarden/transport/InputBuffer" = some m.cls := findClass_of_methodNamed Bd.named
  have hnm := (name_of_methodNamed Bd.named Bd.method).1
  have X0 : Stand p l e ({ frames := 0, cells := 0, slots := 0, locals := 0 } : Room) s m #[(.ref a0), (.int p1)] below meth c s₁ [] 0 0 := Stand.of_body Bd
  have e0 : s₁.heap = h0 := by rw [← hh, Bd.state]; rfl
  have N0 := Fr.nil n0
  have K0 : Keep h0 h0 [a0] := Keep.refl h0 _
  refine own_go (S' := s₁.setTop (mkF m 0 #[.val (.ref a0), .val (.int p1)] [])) (fun t k => castTop (own_ef_rm4 m a0 p1) k) ?_
  refine own_go (S' := s₁.setTop (mkF m 2 #[.val (.ref a0), .val (.int p1)] [(.ref a0), (.ref a0)])) (fun target kt => ?_) ?_
  · skip
    show Steps p.tables e below (s₁.setTop (mkF m 0 #[.val (.ref a0), .val (.int p1)] [])) _
    refine XS.aloadN X0.here hx rfl (hb hby d4_0) rfl rfl ?_
    show Steps p.tables e below (s₁.setTop (mkF m 1 #[.val (.ref a0), .val (.int p1)] [(.ref a0)])) _
    refine XS.dup X0.here hx rfl (hb hby d4_1) rfl rfl ?_
    exact kt
  obtain ⟨T34, X34, e34, st34⟩ := getF X0 hx hZ hown (host := "") (Or.inl (hw _ (List.mem_of_getElem? (i := 29) rfl))) Via.refl e0 pf2 (g := (mkF m 2 #[.val (.ref a0), .val (.int p1)] [(.ref a0), (.ref a0)])) rfl rfl (hb hby d4_2)
  refine own_go (S' := T34.setTop (mkF m 5 #[.val (.ref a0), .val (.int p1)] [(.int w1), (.ref a0)])) st34 ?_
  refine own_go (S' := T34.setTop (mkF m 7 #[.val (.ref a0), .val (.int p1)] [(.int (w1 + p1)), (.ref a0)])) (fun target kt => ?_) ?_
  · skip
    show Steps p.tables e below (T34.setTop (mkF m 5 #[.val (.ref a0), .val (.int p1)] [(.int w1), (.ref a0)])) _
    refine XS.iloadN X34.here hx rfl (hb hby d4_5) rfl ?_
    show Steps p.tables e below (T34.setTop (mkF m 6 #[.val (.ref a0), .val (.int p1)] [(.int p1), (.int w1), (.ref a0)])) _
    refine XS.iadd X34.here hx rfl (hb hby d4_6) rfl ?_
    exact kt
  obtain ⟨T35, h35, X35, e35, W35, st35⟩ := putF X34 hx hZ hown (host := "") (Or.inl (hw _ (List.mem_of_getElem? (i := 29) rfl))) Via.refl e34 pf2 pf0 (Or.inl (hw _ (List.mem_of_getElem? (i := 30) rfl))) (hw _ (List.mem_of_getElem? (i := 2) rfl)) (ty := .int) (by decide) rfl rfl (g := (mkF m 7 #[.val (.ref a0), .val (.int p1)] [(.int (w1 + p1)), (.ref a0)])) rfl rfl (hb hby d4_7)
  have f36 : Exa Z h35 a0 "portwarden/transport/InputBuffer" := pf0.wr W35
  have f37 : Fld Z h35 a0 "portwarden/transport/InputBuffer" "bytes" "[B" (.ref b1) := pf1.other W35 (Or.inr (slot_ne (Or.inl (hw _ (List.mem_of_getElem? (i := 11) rfl))) (Or.inl (hw _ (List.mem_of_getElem? (i := 30) rfl))) (by decide) (t := (.array .byte)) (t' := .int) (by decide) (by decide)))
  have f38 : Fld Z h35 a0 "portwarden/transport/InputBuffer" "end" "I" (.int w2) := pf3.other W35 (Or.inr (slot_ne (Or.inl (hw _ (List.mem_of_getElem? (i := 18) rfl))) (Or.inl (hw _ (List.mem_of_getElem? (i := 30) rfl))) (by decide) (t := .int) (t' := .int) (by decide) (by decide)))
  have f39 : Fld Z h35 a0 "portwarden/transport/InputBuffer" "start" "I" (.int (w1 + p1)) := pf2.same W35
  have Z35 : n0 ≤ h35.size := Nat.le_trans Z0 (Keep.of_wr W35).1
  have K35 : Keep h0 h35 [a0] := K0.wr W35 (Or.inl (List.mem_of_getElem? (i := 0) rfl))
  have N35 := Fr.snoc X35 N0 g_a0
  refine own_go (S' := T35.setTop (mkF m 10 #[.val (.ref a0), .val (.int p1)] [])) st35 ?_
  refine own_go (S' := T35.setTop (mkF m 11 #[.val (.ref a0), .val (.int p1)] [(.ref a0)])) (fun target kt => ?_) ?_
  · skip
    show Steps p.tables e below (T35.setTop (mkF m 10 #[.val (.ref a0), .val (.int p1)] [])) _
    refine XS.aloadN X35.here hx rfl (hb hby d4_10) rfl rfl ?_
    exact kt
  obtain ⟨T40, X40, e40, st40⟩ := getF X35 hx hZ hown (host := "") (Or.inl (hw _ (List.mem_of_getElem? (i := 29) rfl))) Via.refl e35 f39 (g := (mkF m 11 #[.val (.ref a0), .val (.int p1)] [(.ref a0)])) rfl rfl (hb hby d4_11)
  refine own_go (S' := T40.setTop (mkF m 14 #[.val (.ref a0), .val (.int p1)] [(.int (w1 + p1))])) st40 ?_
  refine own_go (S' := T40.setTop (mkF m 15 #[.val (.ref a0), .val (.int p1)] [(.ref a0), (.int (w1 + p1))])) (fun target kt => ?_) ?_
  · skip
    show Steps p.tables e below (T40.setTop (mkF m 14 #[.val (.ref a0), .val (.int p1)] [(.int (w1 + p1))])) _
    refine XS.aloadN X40.here hx rfl (hb hby d4_14) rfl rfl ?_
    exact kt
  obtain ⟨T41, X41, e41, st41⟩ := getF X40 hx hZ hown (host := "") (Or.inl (hw _ (List.mem_of_getElem? (i := 17) rfl))) Via.refl e40 f38 (g := (mkF m 15 #[.val (.ref a0), .val (.int p1)] [(.ref a0), (.int (w1 + p1))])) rfl rfl (hb hby d4_15)
  refine own_go (S' := T41.setTop (mkF m 18 #[.val (.ref a0), .val (.int p1)] [(.int w2), (.int (w1 + p1))])) st41 ?_
  by_cases hc18 : (w1 + p1) = w2
  · skip
    refine own_go (S' := T41.setTop (mkF m 23 #[.val (.ref a0), .val (.int p1)] [(.int (0 : Int32)), (.ref a0)])) (fun target kt => ?_) ?_
    · skip
      show Steps p.tables e below (T41.setTop (mkF m 18 #[.val (.ref a0), .val (.int p1)] [(.int w2), (.int (w1 + p1))])) _
      refine XS.icmpNo X41.here hx rfl (hb hby d4_18) rfl (teq hc18).2 ?_
      show Steps p.tables e below (T41.setTop (mkF m 21 #[.val (.ref a0), .val (.int p1)] [])) _
      refine XS.aloadN X41.here hx rfl (hb hby d4_21) rfl rfl ?_
      show Steps p.tables e below (T41.setTop (mkF m 22 #[.val (.ref a0), .val (.int p1)] [(.ref a0)])) _
      refine XS.iconst X41.here hx rfl (hb hby d4_22) ?_
      exact kt
    obtain ⟨T42, h42, X42, e42, W42, st42⟩ := putF X41 hx hZ hown (host := "") (Or.inl (hw _ (List.mem_of_getElem? (i := 29) rfl))) Via.refl e41 f39 f36 (Or.inl (hw _ (List.mem_of_getElem? (i := 30) rfl))) (hw _ (List.mem_of_getElem? (i := 2) rfl)) (ty := .int) (by decide) rfl rfl (g := (mkF m 23 #[.val (.ref a0), .val (.int p1)] [(.int (0 : Int32)), (.ref a0)])) rfl rfl (hb hby d4_23)
    have f43 : Exa Z h42 a0 "portwarden/transport/InputBuffer" := f36.wr W42
    have f44 : Fld Z h42 a0 "portwarden/transport/InputBuffer" "bytes" "[B" (.ref b1) := f37.other W42 (Or.inr (slot_ne (Or.inl (hw _ (List.mem_of_getElem? (i := 11) rfl))) (Or.inl (hw _ (List.mem_of_getElem? (i := 30) rfl))) (by decide) (t := (.array .byte)) (t' := .int) (by decide) (by decide)))
    have f45 : Fld Z h42 a0 "portwarden/transport/InputBuffer" "end" "I" (.int w2) := f38.other W42 (Or.inr (slot_ne (Or.inl (hw _ (List.mem_of_getElem? (i := 18) rfl))) (Or.inl (hw _ (List.mem_of_getElem? (i := 30) rfl))) (by decide) (t := .int) (t' := .int) (by decide) (by decide)))
    have f46 : Fld Z h42 a0 "portwarden/transport/InputBuffer" "start" "I" (.int (0 : Int32)) := f39.same W42
    have Z42 : n0 ≤ h42.size := Nat.le_trans Z35 (Keep.of_wr W42).1
    have K42 : Keep h0 h42 [a0] := K35.wr W42 (Or.inl (List.mem_of_getElem? (i := 0) rfl))
    have N42 := Fr.snoc X42 N35 g_a0
    refine own_go (S' := T42.setTop (mkF m 26 #[.val (.ref a0), .val (.int p1)] [])) st42 ?_
    refine own_go (S' := T42.setTop (mkF m 28 #[.val (.ref a0), .val (.int p1)] [(.int (0 : Int32)), (.ref a0)])) (fun target kt => ?_) ?_
    · skip
      show Steps p.tables e below (T42.setTop (mkF m 26 #[.val (.ref a0), .val (.int p1)] [])) _
      refine XS.aloadN X42.here hx rfl (hb hby d4_26) rfl rfl ?_
      show Steps p.tables e below (T42.setTop (mkF m 27 #[.val (.ref a0), .val (.int p1)] [(.ref a0)])) _
      refine XS.iconst X42.here hx rfl (hb hby d4_27) ?_
      exact kt
    obtain ⟨T47, h47, X47, e47, W47, st47⟩ := putF X42 hx hZ hown (host := "") (Or.inl (hw _ (List.mem_of_getElem? (i := 17) rfl))) Via.refl e42 f45 f43 (Or.inl (hw _ (List.mem_of_getElem? (i := 18) rfl))) (hw _ (List.mem_of_getElem? (i := 2) rfl)) (ty := .int) (by decide) rfl rfl (g := (mkF m 28 #[.val (.ref a0), .val (.int p1)] [(.int (0 : Int32)), (.ref a0)])) rfl rfl (hb hby d4_28)
    have f48 : Exa Z h47 a0 "portwarden/transport/InputBuffer" := f43.wr W47
    have f49 : Fld Z h47 a0 "portwarden/transport/InputBuffer" "bytes" "[B" (.ref b1) := f44.other W47 (Or.inr (slot_ne (Or.inl (hw _ (List.mem_of_getElem? (i := 11) rfl))) (Or.inl (hw _ (List.mem_of_getElem? (i := 18) rfl))) (by decide) (t := (.array .byte)) (t' := .int) (by decide) (by decide)))
    have f50 : Fld Z h47 a0 "portwarden/transport/InputBuffer" "start" "I" (.int (0 : Int32)) := f46.other W47 (Or.inr (slot_ne (Or.inl (hw _ (List.mem_of_getElem? (i := 30) rfl))) (Or.inl (hw _ (List.mem_of_getElem? (i := 18) rfl))) (by decide) (t := .int) (t' := .int) (by decide) (by decide)))
    have f51 : Fld Z h47 a0 "portwarden/transport/InputBuffer" "end" "I" (.int (0 : Int32)) := f45.same W47
    have Z47 : n0 ≤ h47.size := Nat.le_trans Z42 (Keep.of_wr W47).1
    have K47 : Keep h0 h47 [a0] := K42.wr W47 (Or.inl (List.mem_of_getElem? (i := 0) rfl))
    have N47 := Fr.snoc X47 N42 g_a0
    refine own_go (S' := T47.setTop (mkF m 31 #[.val (.ref a0), .val (.int p1)] [])) st47 ?_
    obtain ⟨fs, hr, hrun, hended, hW, hsame⟩ := X47.leave (v := none) (fun _ => rfl)
    refine ⟨_, _, ?_, hrun, hended, _, _, rfl, ?_, ⟨_, rfl⟩, hW, hsame.mono (by decide) (by decide)⟩
    · exact X47.returnOut hx Bd.returns (hb hby d4_31) hr
    · show Q4 Z a0 p1 w1 w2 b1 h0 n0 _ T47.heap _
      rw [e47]
      exact ⟨_, _, rfl, N47, K47, f48, f49, f50, f51, (by rw [own_st, if_pos hc18]), (by rw [own_en, if_pos hc18])⟩
  · skip
    refine own_go (S' := T41.setTop (mkF m 31 #[.val (.ref a0), .val (.int p1)] [])) (fun target kt => ?_) ?_
    · skip
      show Steps p.tables e below (T41.setTop (mkF m 18 #[.val (.ref a0), .val (.int p1)] [(.int w2), (.int (w1 + p1))])) _
      refine XS.icmpYes X41.here hx rfl (pc0 := 18) (pc' := 31) rfl (hb hby d4_18) rfl (feq hc18).2 (by decide) (by decide) ?_
      exact kt
    obtain ⟨fs, hr, hrun, hended, hW, hsame⟩ := X41.leave (v := none) (fun _ => rfl)
    refine ⟨_, _, ?_, hrun, hended, _, _, rfl, ?_, ⟨_, rfl⟩, hW, hsame.mono (by decide) (by decide)⟩
    · exact X41.returnOut hx Bd.returns (hb hby d4_31) hr
    · show Q4 Z a0 p1 w1 w2 b1 h0 n0 _ T41.heap _
      rw [e41]
      exact ⟨_, _, rfl, N35, K35, f36, f37, f39, f38, (by rw [own_st, if_neg hc18]), (by rw [own_en, if_neg hc18])⟩
theorem d5_0 : decode prog_40_method_5_code 0 = .ok (.aload_n 0, 1) := by decide +kernel
theorem d5_1 : decode prog_40_method_5_code 1 = .ok (.getfield 13, 3) := by decide +kernel
theorem d5_4 : decode prog_40_method_5_code 4 = .ok (.aload_n 0, 1) := by decide +kernel
theorem d5_5 : decode prog_40_method_5_code 5 = .ok (.getfield 21, 3) := by decide +kernel
theorem d5_8 : decode prog_40_method_5_code 8 = .ok (.isub, 1) := by decide +kernel
theorem d5_9 : decode prog_40_method_5_code 9 = .ok (.ireturn, 1) := by decide +kernel
set_option maxHeartbeats 40000000 in
theorem own_ef_rm5 (m : MethodId) (x0 : Addr) : entryFrame m #[(.ref x0)] 1 = mkF m 0 #[.val (.ref x0)] [] := by first | (simp [entryFrame, mkF, argsToLocals, Value.category]; done) | rfl
def Q5 (Z : State) (a0 : Addr) (w1 : Int32) (w2 : Int32) (b1 : Addr) (h0 : Heap) (n0 : Nat) (v : Option Value) (h : Heap) (L : List Loc) : Prop := v = some (.int (w2 - w1)) ∧ Fr n0 L ∧ h = h0
set_option maxRecDepth 65536 in
set_option maxHeartbeats 40000000 in
theorem rm5 (l : Launch) (Z : State) (aZ : Array Value) (hw : ∀ d ∈ tables_1, d.before aZ Z = true) (ws : List Jvm.Cond) (a0 : Addr) (w1 : Int32) (w2 : Int32) (b1 : Addr) (h0 : Heap) (n0 : Nat) (Z0 : n0 ≤ h0.size) (pf0 : Fld Z h0 a0 "portwarden/transport/InputBuffer" "bytes" "[B" (.ref b1)) (pf1 : Fld Z h0 a0 "portwarden/transport/InputBuffer" "start" "I" (.int w1)) (pf2 : Fld Z h0 a0 "portwarden/transport/InputBuffer" "end" "I" (.int w2)) :
    MetFree l (⟨"portwarden/transport/InputBuffer", "available", "()I"⟩ : MethodName) (head1 (Jvm.Cond.code (⟨"portwarden/transport/InputBuffer", "available", "()I"⟩ : MethodName) prog_40_method_5_code 1 (some .int) :: ws) ({ frames := 0, cells := 0, slots := 0, locals := 0 } : Room)) (fun a U => a = #[(.ref a0)] ∧ Z.Warmed39 U.vm ∧ U.heap = h0) (fun _ _ _ _ _ => True) (fun _ U o U' => ∃ v L, o = .returned v ∧ Q5 Z a0 w1 w2 b1 h0 n0 v U'.heap L ∧ FrameEnd U o U' L ({ frames := 0, cells := 0, slots := 0, locals := 0 } : Room).cells ({ frames := 0, cells := 0, slots := 0, locals := 0 } : Room).slots) := by
  refine MetFree.of_bodySF (plainFor_of_name own_pn0) hisR ?_
  intro p e s m args below meth c s₁ Bd hml0 hP hK
  obtain ⟨rfl, hZ, hh⟩ := hP
  have hx := Bd.exec
  have hby := Bd.bytes
  have hml : c.maxLocals = 1 := hml0
  have hown : s.vm.findClass "portwarden/transport/InputBuffer" = some m.cls := findClass_of_methodNamed Bd.named
  have hnm := (name_of_methodNamed Bd.named Bd.method).1
  have X0 : Stand p l e ({ frames := 0, cells := 0, slots := 0, locals := 0 } : Room) s m #[(.ref a0)] below meth c s₁ [] 0 0 := Stand.of_body Bd
  have e0 : s₁.heap = h0 := by rw [← hh, Bd.state]; rfl
  have N0 := Fr.nil n0
  refine own_go (S' := s₁.setTop (mkF m 0 #[.val (.ref a0)] [])) (fun t k => castTop (own_ef_rm5 m a0) k) ?_
  refine own_go (S' := s₁.setTop (mkF m 1 #[.val (.ref a0)] [(.ref a0)])) (fun target kt => ?_) ?_
  · skip
    show Steps p.tables e below (s₁.setTop (mkF m 0 #[.val (.ref a0)] [])) _
    refine XS.aloadN X0.here hx rfl (hb hby d5_0) rfl rfl ?_
    exact kt
  obtain ⟨T52, X52, e52, st52⟩ := getF X0 hx hZ hown (host := "") (Or.inl (hw _ (List.mem_of_getElem? (i := 17) rfl))) Via.refl e0 pf2 (g := (mkF m 1 #[.val (.ref a0)] [(.ref a0)])) rfl rfl (hb hby d5_1)
  refine own_go (S' := T52.setTop (mkF m 4 #[.val (.ref a0)] [(.int w2)])) st52 ?_
  refine own_go (S' := T52.setTop (mkF m 5 #[.val (.ref a0)] [(.ref a0), (.int w2)])) (fun target kt => ?_) ?_
  · skip
    show Steps p.tables e below (T52.setTop (mkF m 4 #[.val (.ref a0)] [(.int w2)])) _
    refine XS.aloadN X52.here hx rfl (hb hby d5_4) rfl rfl ?_
    exact kt
  obtain ⟨T53, X53, e53, st53⟩ := getF X52 hx hZ hown (host := "") (Or.inl (hw _ (List.mem_of_getElem? (i := 29) rfl))) Via.refl e52 pf1 (g := (mkF m 5 #[.val (.ref a0)] [(.ref a0), (.int w2)])) rfl rfl (hb hby d5_5)
  refine own_go (S' := T53.setTop (mkF m 8 #[.val (.ref a0)] [(.int w1), (.int w2)])) st53 ?_
  refine own_go (S' := T53.setTop (mkF m 9 #[.val (.ref a0)] [(.int (w2 - w1))])) (fun target kt => ?_) ?_
  · skip
    show Steps p.tables e below (T53.setTop (mkF m 8 #[.val (.ref a0)] [(.int w1), (.int w2)])) _
    refine XS.isub X53.here hx rfl (hb hby d5_8) rfl ?_
    exact kt
  obtain ⟨fs, hr, hrun, hended, hW, hsame⟩ := X53.leave (v := some (.int (w2 - w1))) (fun h => by rw [Bd.returns] at h; cases h)
  refine ⟨_, _, ?_, hrun, hended, _, _, rfl, ?_, ⟨_, rfl⟩, hW, hsame.mono (by decide) (by decide)⟩
  · exact retI X53 hx Bd.returns (hb hby d5_9) hr
  · show Q5 Z a0 w1 w2 b1 h0 n0 _ T53.heap _
    rw [e53]
    exact ⟨rfl, N0, rfl⟩
theorem d6_0 : decode prog_40_method_4_code 0 = .ok (.aload_n 0, 1) := by decide +kernel
theorem d6_1 : decode prog_40_method_4_code 1 = .ok (.getfield 21, 3) := by decide +kernel
theorem d6_4 : decode prog_40_method_4_code 4 = .ok (.ireturn, 1) := by decide +kernel
set_option maxHeartbeats 40000000 in
theorem own_ef_rm6 (m : MethodId) (x0 : Addr) : entryFrame m #[(.ref x0)] 1 = mkF m 0 #[.val (.ref x0)] [] := by first | (simp [entryFrame, mkF, argsToLocals, Value.category]; done) | rfl
def Q6 (Z : State) (a0 : Addr) (w1 : Int32) (w2 : Int32) (b1 : Addr) (h0 : Heap) (n0 : Nat) (v : Option Value) (h : Heap) (L : List Loc) : Prop := v = some (.int w1) ∧ Fr n0 L ∧ h = h0
set_option maxRecDepth 65536 in
set_option maxHeartbeats 40000000 in
theorem rm6 (l : Launch) (Z : State) (aZ : Array Value) (hw : ∀ d ∈ tables_1, d.before aZ Z = true) (ws : List Jvm.Cond) (a0 : Addr) (w1 : Int32) (w2 : Int32) (b1 : Addr) (h0 : Heap) (n0 : Nat) (Z0 : n0 ≤ h0.size) (pf0 : Fld Z h0 a0 "portwarden/transport/InputBuffer" "bytes" "[B" (.ref b1)) (pf1 : Fld Z h0 a0 "portwarden/transport/InputBuffer" "start" "I" (.int w1)) (pf2 : Fld Z h0 a0 "portwarden/transport/InputBuffer" "end" "I" (.int w2)) :
    MetFree l (⟨"portwarden/transport/InputBuffer", "start", "()I"⟩ : MethodName) (head1 (Jvm.Cond.code (⟨"portwarden/transport/InputBuffer", "start", "()I"⟩ : MethodName) prog_40_method_4_code 1 (some .int) :: ws) ({ frames := 0, cells := 0, slots := 0, locals := 0 } : Room)) (fun a U => a = #[(.ref a0)] ∧ Z.Warmed39 U.vm ∧ U.heap = h0) (fun _ _ _ _ _ => True) (fun _ U o U' => ∃ v L, o = .returned v ∧ Q6 Z a0 w1 w2 b1 h0 n0 v U'.heap L ∧ FrameEnd U o U' L ({ frames := 0, cells := 0, slots := 0, locals := 0 } : Room).cells ({ frames := 0, cells := 0, slots := 0, locals := 0 } : Room).slots) := by
  refine MetFree.of_bodySF (plainFor_of_name own_pn0) hisR ?_
  intro p e s m args below meth c s₁ Bd hml0 hP hK
  obtain ⟨rfl, hZ, hh⟩ := hP
  have hx := Bd.exec
  have hby := Bd.bytes
  have hml : c.maxLocals = 1 := hml0
  have hown : s.vm.findClass "portwarden/transport/InputBuffer" = some m.cls := findClass_of_methodNamed Bd.named
  have hnm := (name_of_methodNamed Bd.named Bd.method).1
  have X0 : Stand p l e ({ frames := 0, cells := 0, slots := 0, locals := 0 } : Room) s m #[(.ref a0)] below meth c s₁ [] 0 0 := Stand.of_body Bd
  have e0 : s₁.heap = h0 := by rw [← hh, Bd.state]; rfl
  have N0 := Fr.nil n0
  refine own_go (S' := s₁.setTop (mkF m 0 #[.val (.ref a0)] [])) (fun t k => castTop (own_ef_rm6 m a0) k) ?_
  refine own_go (S' := s₁.setTop (mkF m 1 #[.val (.ref a0)] [(.ref a0)])) (fun target kt => ?_) ?_
  · skip
    show Steps p.tables e below (s₁.setTop (mkF m 0 #[.val (.ref a0)] [])) _
    refine XS.aloadN X0.here hx rfl (hb hby d6_0) rfl rfl ?_
    exact kt
  obtain ⟨T54, X54, e54, st54⟩ := getF X0 hx hZ hown (host := "") (Or.inl (hw _ (List.mem_of_getElem? (i := 29) rfl))) Via.refl e0 pf1 (g := (mkF m 1 #[.val (.ref a0)] [(.ref a0)])) rfl rfl (hb hby d6_1)
  refine own_go (S' := T54.setTop (mkF m 4 #[.val (.ref a0)] [(.int w1)])) st54 ?_
  obtain ⟨fs, hr, hrun, hended, hW, hsame⟩ := X54.leave (v := some (.int w1)) (fun h => by rw [Bd.returns] at h; cases h)
  refine ⟨_, _, ?_, hrun, hended, _, _, rfl, ?_, ⟨_, rfl⟩, hW, hsame.mono (by decide) (by decide)⟩
  · exact retI X54 hx Bd.returns (hb hby d6_4) hr
  · show Q6 Z a0 w1 w2 b1 h0 n0 _ T54.heap _
    rw [e54]
    exact ⟨rfl, N0, rfl⟩
theorem d7_0 : decode prog_40_method_3_code 0 = .ok (.aload_n 0, 1) := by decide +kernel
theorem d7_1 : decode prog_40_method_3_code 1 = .ok (.getfield 9, 3) := by decide +kernel
theorem d7_4 : decode prog_40_method_3_code 4 = .ok (.areturn, 1) := by decide +kernel
set_option maxHeartbeats 40000000 in
theorem own_ef_rm7 (m : MethodId) (x0 : Addr) : entryFrame m #[(.ref x0)] 1 = mkF m 0 #[.val (.ref x0)] [] := by first | (simp [entryFrame, mkF, argsToLocals, Value.category]; done) | rfl
def Q7 (Z : State) (a0 : Addr) (w1 : Int32) (w2 : Int32) (b1 : Addr) (h0 : Heap) (n0 : Nat) (v : Option Value) (h : Heap) (L : List Loc) : Prop := v = some (.ref b1) ∧ Fr n0 L ∧ h = h0
set_option maxRecDepth 65536 in
set_option maxHeartbeats 40000000 in
theorem rm7 (l : Launch) (Z : State) (aZ : Array Value) (hw : ∀ d ∈ tables_1, d.before aZ Z = true) (ws : List Jvm.Cond) (a0 : Addr) (w1 : Int32) (w2 : Int32) (b1 : Addr) (h0 : Heap) (n0 : Nat) (Z0 : n0 ≤ h0.size) (pf0 : Fld Z h0 a0 "portwarden/transport/InputBuffer" "bytes" "[B" (.ref b1)) (pf1 : Fld Z h0 a0 "portwarden/transport/InputBuffer" "start" "I" (.int w1)) (pf2 : Fld Z h0 a0 "portwarden/transport/InputBuffer" "end" "I" (.int w2)) :
    MetFree l (⟨"portwarden/transport/InputBuffer", "array", "()[B"⟩ : MethodName) (head1 (Jvm.Cond.code (⟨"portwarden/transport/InputBuffer", "array", "()[B"⟩ : MethodName) prog_40_method_3_code 1 (some (.array .byte)) :: ws) ({ frames := 0, cells := 0, slots := 0, locals := 0 } : Room)) (fun a U => a = #[(.ref a0)] ∧ Z.Warmed39 U.vm ∧ U.heap = h0) (fun _ _ _ _ _ => True) (fun _ U o U' => ∃ v L, o = .returned v ∧ Q7 Z a0 w1 w2 b1 h0 n0 v U'.heap L ∧ FrameEnd U o U' L ({ frames := 0, cells := 0, slots := 0, locals := 0 } : Room).cells ({ frames := 0, cells := 0, slots := 0, locals := 0 } : Room).slots) := by
  refine MetFree.of_bodySF (plainFor_of_name own_pn0) hisR ?_
  intro p e s m args below meth c s₁ Bd hml0 hP hK
  obtain ⟨rfl, hZ, hh⟩ := hP
  have hx := Bd.exec
  have hby := Bd.bytes
  have hml : c.maxLocals = 1 := hml0
  have hown : s.vm.findClass "portwarden/transport/InputBuffer" = some m.cls := findClass_of_methodNamed Bd.named
  have hnm := (name_of_methodNamed Bd.named Bd.method).1
  have X0 : Stand p l e ({ frames := 0, cells := 0, slots := 0, locals := 0 } : Room) s m #[(.ref a0)] below meth c s₁ [] 0 0 := Stand.of_body Bd
  have e0 : s₁.heap = h0 := by rw [← hh, Bd.state]; rfl
  have N0 := Fr.nil n0
  refine own_go (S' := s₁.setTop (mkF m 0 #[.val (.ref a0)] [])) (fun t k => castTop (own_ef_rm7 m a0) k) ?_
  refine own_go (S' := s₁.setTop (mkF m 1 #[.val (.ref a0)] [(.ref a0)])) (fun target kt => ?_) ?_
  · skip
    show Steps p.tables e below (s₁.setTop (mkF m 0 #[.val (.ref a0)] [])) _
    refine XS.aloadN X0.here hx rfl (hb hby d7_0) rfl rfl ?_
    exact kt
  obtain ⟨T55, X55, e55, st55⟩ := getF X0 hx hZ hown (host := "") (Or.inl (hw _ (List.mem_of_getElem? (i := 10) rfl))) Via.refl e0 pf0 (g := (mkF m 1 #[.val (.ref a0)] [(.ref a0)])) rfl rfl (hb hby d7_1)
  refine own_go (S' := T55.setTop (mkF m 4 #[.val (.ref a0)] [(.ref b1)])) st55 ?_
  obtain ⟨fs, hr, hrun, hended, hW, hsame⟩ := X55.leave (v := some (.ref b1)) (fun h => by rw [Bd.returns] at h; cases h)
  refine ⟨_, _, ?_, hrun, hended, _, _, rfl, ?_, ⟨_, rfl⟩, hW, hsame.mono (by decide) (by decide)⟩
  · exact retA X55 hx Bd.returns rfl (hb hby d7_4) rfl hr
  · show Q7 Z a0 w1 w2 b1 h0 n0 _ T55.heap _
    rw [e55]
    exact ⟨rfl, N0, rfl⟩
theorem d9_0 : decode method_2_code 0 = .ok (.iload 5, 2) := by decide +kernel
theorem d9_2 : decode method_2_code 2 = .ok (.iload 4, 2) := by decide +kernel
theorem d9_4 : decode method_2_code 4 = .ok (.if_icmp .ge 18, 3) := by decide +kernel
theorem d9_7 : decode method_2_code 7 = .ok (.aload_n 0, 1) := by decide +kernel
theorem d9_8 : decode method_2_code 8 = .ok (.iload_n 1, 1) := by decide +kernel
theorem d9_9 : decode method_2_code 9 = .ok (.iload 5, 2) := by decide +kernel
theorem d9_11 : decode method_2_code 11 = .ok (.iadd, 1) := by decide +kernel
theorem d9_12 : decode method_2_code 12 = .ok (.baload, 1) := by decide +kernel
theorem d9_13 : decode method_2_code 13 = .ok (.aload_n 2, 1) := by decide +kernel
theorem d9_14 : decode method_2_code 14 = .ok (.iload_n 3, 1) := by decide +kernel
theorem d9_15 : decode method_2_code 15 = .ok (.iload 5, 2) := by decide +kernel
theorem d9_17 : decode method_2_code 17 = .ok (.iadd, 1) := by decide +kernel
theorem d9_18 : decode method_2_code 18 = .ok (.baload, 1) := by decide +kernel
theorem d9_19 : decode method_2_code 19 = .ok (.if_icmp .ne 7, 3) := by decide +kernel
theorem d9_22 : decode method_2_code 22 = .ok (.iconst 1, 1) := by decide +kernel
theorem d9_23 : decode method_2_code 23 = .ok (.goto 4, 3) := by decide +kernel
theorem d9_26 : decode method_2_code 26 = .ok (.iconst 0, 1) := by decide +kernel
theorem d9_27 : decode method_2_code 27 = .ok (.ireturn, 1) := by decide +kernel
theorem own_pn1 : plainName "portwarden/transport/InputBufferConsumePinLaw" = true := by first | (simp [plainName, overriddenIn]; done) | decide +kernel
set_option maxHeartbeats 40000000 in
theorem own_ef_rm9 (m : MethodId) (x0 : Addr) (x1 : Int32) (x2 : Addr) (x3 : Int32) (x4 : Int32) (x5 : Int32) : entryFrame m #[(.ref x0), (.int x1), (.ref x2), (.int x3), (.int x4), (.int x5)] 6 = mkF m 0 #[.val (.ref x0), .val (.int x1), .val (.ref x2), .val (.int x3), .val (.int x4), .val (.int x5)] [] := by first | (simp [entryFrame, mkF, argsToLocals, Value.category]; done) | rfl
def Q9 (Z : State) (a0 : Addr) (p1 : Int32) (a2 : Addr) (p3 : Int32) (p4 : Int32) (p5 : Int32) (g : Nat → Int32) (gd : Nat → Int32) (h0 : Heap) (n0 : Nat) (v : Option Value) (h : Heap) (L : List Loc) : Prop := v = some (.int (1 : Int32)) ∧ Fr n0 L ∧ h = h0
set_option maxRecDepth 65536 in
set_option maxHeartbeats 40000000 in
theorem rm9 (l : Launch) (Z : State) (aZ : Array Value) (hw : ∀ d ∈ tables_1, d.before aZ Z = true) (ws : List Jvm.Cond) (a0 : Addr) (p1 : Int32) (a2 : Addr) (p3 : Int32) (p4 : Int32) (p5 : Int32) (g : Nat → Int32) (gd : Nat → Int32) (h0 : Heap) (n0 : Nat) (Z0 : n0 ≤ h0.size) (pf0 : own_AI Z h0 a0 .byte 1024 g) (pf1 : own_AI Z h0 a2 .byte 8 gd) (hq : p5 < p4 → own_eqs g gd p1 p3 p5) :
    MetFree l (⟨"portwarden/transport/InputBufferConsumePinLaw", "at", "([BI[BIII)Z"⟩ : MethodName) (head1 (Jvm.Cond.code (⟨"portwarden/transport/InputBufferConsumePinLaw", "at", "([BI[BIII)Z"⟩ : MethodName) method_2_code 6 (some .boolean) :: ws) ({ frames := 0, cells := 0, slots := 0, locals := 0 } : Room)) (fun a U => a = #[(.ref a0), (.int p1), (.ref a2), (.int p3), (.int p4), (.int p5)] ∧ Z.Warmed39 U.vm ∧ U.heap = h0) (fun _ _ _ _ _ => True) (fun _ U o U' => ∃ v L, o = .returned v ∧ Q9 Z a0 p1 a2 p3 p4 p5 g gd h0 n0 v U'.heap L ∧ FrameEnd U o U' L ({ frames := 0, cells := 0, slots := 0, locals := 0 } : Room).cells ({ frames := 0, cells := 0, slots := 0, locals := 0 } : Room).slots) := by
  refine MetFree.of_bodySF (plainFor_of_name own_pn1) hisR ?_
  intro p e s m args below meth c s₁ Bd hml0 hP hK
  obtain ⟨rfl, hZ, hh⟩ := hP
  have hx := Bd.exec
  have hby := Bd.bytes
  have hml : c.maxLocals = 6 := hml0
  have hown : s.vm.findClass "portwarden/transport/InputBufferConsumePinLaw" = some m.cls := findClass_of_methodNamed Bd.named
  have hnm := (name_of_methodNamed Bd.named Bd.method).1
  have X0 : Stand p l e ({ frames := 0, cells := 0, slots := 0, locals := 0 } : Room) s m #[(.ref a0), (.int p1), (.ref a2), (.int p3), (.int p4), (.int p5)] below meth c s₁ [] 0 0 := Stand.of_body Bd
  have e0 : s₁.heap = h0 := by rw [← hh, Bd.state]; rfl
  have N0 := Fr.nil n0
  refine own_go (S' := s₁.setTop (mkF m 0 #[.val (.ref a0), .val (.int p1), .val (.ref a2), .val (.int p3), .val (.int p4), .val (.int p5)] [])) (fun t k => castTop (own_ef_rm9 m a0 p1 a2 p3 p4 p5) k) ?_
  refine own_go (S' := s₁.setTop (mkF m 4 #[.val (.ref a0), .val (.int p1), .val (.ref a2), .val (.int p3), .val (.int p4), .val (.int p5)] [(.int p4), (.int p5)])) (fun target kt => ?_) ?_
  · skip
    show Steps p.tables e below (s₁.setTop (mkF m 0 #[.val (.ref a0), .val (.int p1), .val (.ref a2), .val (.int p3), .val (.int p4), .val (.int p5)] [])) _
    refine XS.iload X0.here hx rfl (hb hby d9_0) rfl ?_
    show Steps p.tables e below (s₁.setTop (mkF m 2 #[.val (.ref a0), .val (.int p1), .val (.ref a2), .val (.int p3), .val (.int p4), .val (.int p5)] [(.int p5)])) _
    refine XS.iload X0.here hx rfl (hb hby d9_2) rfl ?_
    exact kt
  by_cases hc4 : p5 < p4
  · skip
    refine own_go (S' := s₁.setTop (mkF m 12 #[.val (.ref a0), .val (.int p1), .val (.ref a2), .val (.int p3), .val (.int p4), .val (.int p5)] [(.int (p1 + p5)), (.ref a0)])) (fun target kt => ?_) ?_
    · skip
      show Steps p.tables e below (s₁.setTop (mkF m 4 #[.val (.ref a0), .val (.int p1), .val (.ref a2), .val (.int p3), .val (.int p4), .val (.int p5)] [(.int p4), (.int p5)])) _
      refine XS.icmpNo X0.here hx rfl (hb hby d9_4) rfl (tlt hc4).2.1 ?_
      show Steps p.tables e below (s₁.setTop (mkF m 7 #[.val (.ref a0), .val (.int p1), .val (.ref a2), .val (.int p3), .val (.int p4), .val (.int p5)] [])) _
      refine XS.aloadN X0.here hx rfl (hb hby d9_7) rfl rfl ?_
      show Steps p.tables e below (s₁.setTop (mkF m 8 #[.val (.ref a0), .val (.int p1), .val (.ref a2), .val (.int p3), .val (.int p4), .val (.int p5)] [(.ref a0)])) _
      refine XS.iloadN X0.here hx rfl (hb hby d9_8) rfl ?_
      show Steps p.tables e below (s₁.setTop (mkF m 9 #[.val (.ref a0), .val (.int p1), .val (.ref a2), .val (.int p3), .val (.int p4), .val (.int p5)] [(.int p1), (.ref a0)])) _
      refine XS.iload X0.here hx rfl (hb hby d9_9) rfl ?_
      show Steps p.tables e below (s₁.setTop (mkF m 11 #[.val (.ref a0), .val (.int p1), .val (.ref a2), .val (.int p3), .val (.int p4), .val (.int p5)] [(.int p5), (.int p1), (.ref a0)])) _
      refine XS.iadd X0.here hx rfl (hb hby d9_11) rfl ?_
      exact kt
    obtain ⟨c56, Ar56, S56, M56, H56⟩ := id pf0
    have hj56 : ¬ (p1 + p5) < 0 ∧ ((p1 + p5)).toNatClampNeg < 1024 := ((hq hc4).1)
    have st56 : ∀ target, Steps p.tables e below (s₁.setTop (mkF m 13 #[.val (.ref a0), .val (.int p1), .val (.ref a2), .val (.int p3), .val (.int p4), .val (.int p5)] [(.int (g ((p1 + p5)).toNatClampNeg))])) target → Steps p.tables e below (s₁.setTop (mkF m 12 #[.val (.ref a0), .val (.int p1), .val (.ref a2), .val (.int p3), .val (.int p4), .val (.int p5)] [(.int (p1 + p5)), (.ref a0)])) target := fun target kt => X0.baloadBytes hx (j := (p1 + p5)) (v := (.int (g ((p1 + p5)).toNatClampNeg))) (by rw [e0]; exact Ar56.1) (State.isArrayOf_alike hZ.alike Ar56.2.1) Ar56.2.2 (own_in S56 hj56) (H56 _ hj56.2) (g := (mkF m 12 #[.val (.ref a0), .val (.int p1), .val (.ref a2), .val (.int p3), .val (.int p4), .val (.int p5)] [(.int (p1 + p5)), (.ref a0)])) rfl rfl (hb hby d9_12) _ kt
    refine own_go (S' := s₁.setTop (mkF m 13 #[.val (.ref a0), .val (.int p1), .val (.ref a2), .val (.int p3), .val (.int p4), .val (.int p5)] [(.int (g ((p1 + p5)).toNatClampNeg))])) st56 ?_
    refine own_go (S' := s₁.setTop (mkF m 18 #[.val (.ref a0), .val (.int p1), .val (.ref a2), .val (.int p3), .val (.int p4), .val (.int p5)] [(.int (p3 + p5)), (.ref a2), (.int (g ((p1 + p5)).toNatClampNeg))])) (fun target kt => ?_) ?_
    · skip
      show Steps p.tables e below (s₁.setTop (mkF m 13 #[.val (.ref a0), .val (.int p1), .val (.ref a2), .val (.int p3), .val (.int p4), .val (.int p5)] [(.int (g ((p1 + p5)).toNatClampNeg))])) _
      refine XS.aloadN X0.here hx rfl (hb hby d9_13) rfl rfl ?_
      show Steps p.tables e below (s₁.setTop (mkF m 14 #[.val (.ref a0), .val (.int p1), .val (.ref a2), .val (.int p3), .val (.int p4), .val (.int p5)] [(.ref a2), (.int (g ((p1 + p5)).toNatClampNeg))])) _
      refine XS.iloadN X0.here hx rfl (hb hby d9_14) rfl ?_
      show Steps p.tables e below (s₁.setTop (mkF m 15 #[.val (.ref a0), .val (.int p1), .val (.ref a2), .val (.int p3), .val (.int p4), .val (.int p5)] [(.int p3), (.ref a2), (.int (g ((p1 + p5)).toNatClampNeg))])) _
      refine XS.iload X0.here hx rfl (hb hby d9_15) rfl ?_
      show Steps p.tables e below (s₁.setTop (mkF m 17 #[.val (.ref a0), .val (.int p1), .val (.ref a2), .val (.int p3), .val (.int p4), .val (.int p5)] [(.int p5), (.int p3), (.ref a2), (.int (g ((p1 + p5)).toNatClampNeg))])) _
      refine XS.iadd X0.here hx rfl (hb hby d9_17) rfl ?_
      exact kt
    obtain ⟨c57, Ar57, S57, M57, H57⟩ := id pf1
    have hj57 : ¬ (p3 + p5) < 0 ∧ ((p3 + p5)).toNatClampNeg < 8 := ((hq hc4).2.1)
    have st57 : ∀ target, Steps p.tables e below (s₁.setTop (mkF m 19 #[.val (.ref a0), .val (.int p1), .val (.ref a2), .val (.int p3), .val (.int p4), .val (.int p5)] [(.int (gd ((p3 + p5)).toNatClampNeg)), (.int (g ((p1 + p5)).toNatClampNeg))])) target → Steps p.tables e below (s₁.setTop (mkF m 18 #[.val (.ref a0), .val (.int p1), .val (.ref a2), .val (.int p3), .val (.int p4), .val (.int p5)] [(.int (p3 + p5)), (.ref a2), (.int (g ((p1 + p5)).toNatClampNeg))])) target := fun target kt => X0.baloadBytes hx (j := (p3 + p5)) (v := (.int (gd ((p3 + p5)).toNatClampNeg))) (by rw [e0]; exact Ar57.1) (State.isArrayOf_alike hZ.alike Ar57.2.1) Ar57.2.2 (own_in S57 hj57) (H57 _ hj57.2) (g := (mkF m 18 #[.val (.ref a0), .val (.int p1), .val (.ref a2), .val (.int p3), .val (.int p4), .val (.int p5)] [(.int (p3 + p5)), (.ref a2), (.int (g ((p1 + p5)).toNatClampNeg))])) rfl rfl (hb hby d9_18) _ kt
    refine own_go (S' := s₁.setTop (mkF m 19 #[.val (.ref a0), .val (.int p1), .val (.ref a2), .val (.int p3), .val (.int p4), .val (.int p5)] [(.int (gd ((p3 + p5)).toNatClampNeg)), (.int (g ((p1 + p5)).toNatClampNeg))])) st57 ?_
    refine own_go (S' := s₁.setTop (mkF m 27 #[.val (.ref a0), .val (.int p1), .val (.ref a2), .val (.int p3), .val (.int p4), .val (.int p5)] [(.int (1 : Int32))])) (fun target kt => ?_) ?_
    · skip
      show Steps p.tables e below (s₁.setTop (mkF m 19 #[.val (.ref a0), .val (.int p1), .val (.ref a2), .val (.int p3), .val (.int p4), .val (.int p5)] [(.int (gd ((p3 + p5)).toNatClampNeg)), (.int (g ((p1 + p5)).toNatClampNeg))])) _
      refine XS.icmpNo X0.here hx rfl (hb hby d9_19) rfl (teq ((hq hc4).2.2 : (g ((p1 + p5)).toNatClampNeg) = (gd ((p3 + p5)).toNatClampNeg))).2 ?_
      show Steps p.tables e below (s₁.setTop (mkF m 22 #[.val (.ref a0), .val (.int p1), .val (.ref a2), .val (.int p3), .val (.int p4), .val (.int p5)] [])) _
      refine XS.iconst X0.here hx rfl (hb hby d9_22) ?_
      show Steps p.tables e below (s₁.setTop (mkF m 23 #[.val (.ref a0), .val (.int p1), .val (.ref a2), .val (.int p3), .val (.int p4), .val (.int p5)] [(.int (1 : Int32))])) _
      refine XS.goto X0.here hx rfl (pc0 := 23) (pc' := 27) rfl (hb hby d9_23) (by decide) (by decide) ?_
      exact kt
    obtain ⟨fs, hr, hrun, hended, hW, hsame⟩ := X0.leave (v := some (.int (1 : Int32))) (fun h => by rw [Bd.returns] at h; cases h)
    refine ⟨_, _, ?_, hrun, hended, _, _, rfl, ?_, ⟨_, rfl⟩, hW, hsame.mono (by decide) (by decide)⟩
    · exact retN X0 hx (t := .boolean) Bd.returns (by simp) (hb hby d9_27) hr
    · show Q9 Z a0 p1 a2 p3 p4 p5 g gd h0 n0 _ s₁.heap _
      rw [e0]
      exact ⟨rfl, N0, rfl⟩
  · skip
    refine own_go (S' := s₁.setTop (mkF m 27 #[.val (.ref a0), .val (.int p1), .val (.ref a2), .val (.int p3), .val (.int p4), .val (.int p5)] [(.int (1 : Int32))])) (fun target kt => ?_) ?_
    · skip
      show Steps p.tables e below (s₁.setTop (mkF m 4 #[.val (.ref a0), .val (.int p1), .val (.ref a2), .val (.int p3), .val (.int p4), .val (.int p5)] [(.int p4), (.int p5)])) _
      refine XS.icmpYes X0.here hx rfl (pc0 := 4) (pc' := 22) rfl (hb hby d9_4) rfl (flt hc4).2.1 (by decide) (by decide) ?_
      show Steps p.tables e below (s₁.setTop (mkF m 22 #[.val (.ref a0), .val (.int p1), .val (.ref a2), .val (.int p3), .val (.int p4), .val (.int p5)] [])) _
      refine XS.iconst X0.here hx rfl (hb hby d9_22) ?_
      show Steps p.tables e below (s₁.setTop (mkF m 23 #[.val (.ref a0), .val (.int p1), .val (.ref a2), .val (.int p3), .val (.int p4), .val (.int p5)] [(.int (1 : Int32))])) _
      refine XS.goto X0.here hx rfl (pc0 := 23) (pc' := 27) rfl (hb hby d9_23) (by decide) (by decide) ?_
      exact kt
    obtain ⟨fs, hr, hrun, hended, hW, hsame⟩ := X0.leave (v := some (.int (1 : Int32))) (fun h => by rw [Bd.returns] at h; cases h)
    refine ⟨_, _, ?_, hrun, hended, _, _, rfl, ?_, ⟨_, rfl⟩, hW, hsame.mono (by decide) (by decide)⟩
    · exact retN X0 hx (t := .boolean) Bd.returns (by simp) (hb hby d9_27) hr
    · show Q9 Z a0 p1 a2 p3 p4 p5 g gd h0 n0 _ s₁.heap _
      rw [e0]
      exact ⟨rfl, N0, rfl⟩
theorem d8_0 : decode method_3_code 0 = .ok (.aload_n 0, 1) := by decide +kernel
theorem d8_1 : decode method_3_code 1 = .ok (.iload_n 1, 1) := by decide +kernel
theorem d8_2 : decode method_3_code 2 = .ok (.aload_n 2, 1) := by decide +kernel
theorem d8_3 : decode method_3_code 3 = .ok (.iload_n 3, 1) := by decide +kernel
theorem d8_4 : decode method_3_code 4 = .ok (.iload 4, 2) := by decide +kernel
theorem d8_6 : decode method_3_code 6 = .ok (.iconst 0, 1) := by decide +kernel
theorem d8_7 : decode method_3_code 7 = .ok (.invokestatic 7, 3) := by decide +kernel
theorem d8_10 : decode method_3_code 10 = .ok (.ifCond .eq 100, 3) := by decide +kernel
theorem d8_13 : decode method_3_code 13 = .ok (.aload_n 0, 1) := by decide +kernel
theorem d8_14 : decode method_3_code 14 = .ok (.iload_n 1, 1) := by decide +kernel
theorem d8_15 : decode method_3_code 15 = .ok (.aload_n 2, 1) := by decide +kernel
theorem d8_16 : decode method_3_code 16 = .ok (.iload_n 3, 1) := by decide +kernel
theorem d8_17 : decode method_3_code 17 = .ok (.iload 4, 2) := by decide +kernel
theorem d8_19 : decode method_3_code 19 = .ok (.iconst 1, 1) := by decide +kernel
theorem d8_20 : decode method_3_code 20 = .ok (.invokestatic 7, 3) := by decide +kernel
theorem d8_23 : decode method_3_code 23 = .ok (.ifCond .eq 87, 3) := by decide +kernel
theorem d8_26 : decode method_3_code 26 = .ok (.aload_n 0, 1) := by decide +kernel
theorem d8_27 : decode method_3_code 27 = .ok (.iload_n 1, 1) := by decide +kernel
theorem d8_28 : decode method_3_code 28 = .ok (.aload_n 2, 1) := by decide +kernel
theorem d8_29 : decode method_3_code 29 = .ok (.iload_n 3, 1) := by decide +kernel
theorem d8_30 : decode method_3_code 30 = .ok (.iload 4, 2) := by decide +kernel
theorem d8_32 : decode method_3_code 32 = .ok (.iconst 2, 1) := by decide +kernel
theorem d8_33 : decode method_3_code 33 = .ok (.invokestatic 7, 3) := by decide +kernel
theorem d8_36 : decode method_3_code 36 = .ok (.ifCond .eq 74, 3) := by decide +kernel
theorem d8_39 : decode method_3_code 39 = .ok (.aload_n 0, 1) := by decide +kernel
theorem d8_40 : decode method_3_code 40 = .ok (.iload_n 1, 1) := by decide +kernel
theorem d8_41 : decode method_3_code 41 = .ok (.aload_n 2, 1) := by decide +kernel
theorem d8_42 : decode method_3_code 42 = .ok (.iload_n 3, 1) := by decide +kernel
theorem d8_43 : decode method_3_code 43 = .ok (.iload 4, 2) := by decide +kernel
theorem d8_45 : decode method_3_code 45 = .ok (.iconst 3, 1) := by decide +kernel
theorem d8_46 : decode method_3_code 46 = .ok (.invokestatic 7, 3) := by decide +kernel
theorem d8_49 : decode method_3_code 49 = .ok (.ifCond .eq 61, 3) := by decide +kernel
theorem d8_52 : decode method_3_code 52 = .ok (.aload_n 0, 1) := by decide +kernel
theorem d8_53 : decode method_3_code 53 = .ok (.iload_n 1, 1) := by decide +kernel
theorem d8_54 : decode method_3_code 54 = .ok (.aload_n 2, 1) := by decide +kernel
theorem d8_55 : decode method_3_code 55 = .ok (.iload_n 3, 1) := by decide +kernel
theorem d8_56 : decode method_3_code 56 = .ok (.iload 4, 2) := by decide +kernel
theorem d8_58 : decode method_3_code 58 = .ok (.iconst 4, 1) := by decide +kernel
theorem d8_59 : decode method_3_code 59 = .ok (.invokestatic 7, 3) := by decide +kernel
theorem d8_62 : decode method_3_code 62 = .ok (.ifCond .eq 48, 3) := by decide +kernel
theorem d8_65 : decode method_3_code 65 = .ok (.aload_n 0, 1) := by decide +kernel
theorem d8_66 : decode method_3_code 66 = .ok (.iload_n 1, 1) := by decide +kernel
theorem d8_67 : decode method_3_code 67 = .ok (.aload_n 2, 1) := by decide +kernel
theorem d8_68 : decode method_3_code 68 = .ok (.iload_n 3, 1) := by decide +kernel
theorem d8_69 : decode method_3_code 69 = .ok (.iload 4, 2) := by decide +kernel
theorem d8_71 : decode method_3_code 71 = .ok (.iconst 5, 1) := by decide +kernel
theorem d8_72 : decode method_3_code 72 = .ok (.invokestatic 7, 3) := by decide +kernel
theorem d8_75 : decode method_3_code 75 = .ok (.ifCond .eq 35, 3) := by decide +kernel
theorem d8_78 : decode method_3_code 78 = .ok (.aload_n 0, 1) := by decide +kernel
theorem d8_79 : decode method_3_code 79 = .ok (.iload_n 1, 1) := by decide +kernel
theorem d8_80 : decode method_3_code 80 = .ok (.aload_n 2, 1) := by decide +kernel
theorem d8_81 : decode method_3_code 81 = .ok (.iload_n 3, 1) := by decide +kernel
theorem d8_82 : decode method_3_code 82 = .ok (.iload 4, 2) := by decide +kernel
theorem d8_84 : decode method_3_code 84 = .ok (.bipush 6, 2) := by decide +kernel
theorem d8_86 : decode method_3_code 86 = .ok (.invokestatic 7, 3) := by decide +kernel
theorem d8_89 : decode method_3_code 89 = .ok (.ifCond .eq 21, 3) := by decide +kernel
theorem d8_92 : decode method_3_code 92 = .ok (.aload_n 0, 1) := by decide +kernel
theorem d8_93 : decode method_3_code 93 = .ok (.iload_n 1, 1) := by decide +kernel
theorem d8_94 : decode method_3_code 94 = .ok (.aload_n 2, 1) := by decide +kernel
theorem d8_95 : decode method_3_code 95 = .ok (.iload_n 3, 1) := by decide +kernel
theorem d8_96 : decode method_3_code 96 = .ok (.iload 4, 2) := by decide +kernel
theorem d8_98 : decode method_3_code 98 = .ok (.bipush 7, 2) := by decide +kernel
theorem d8_100 : decode method_3_code 100 = .ok (.invokestatic 7, 3) := by decide +kernel
theorem d8_103 : decode method_3_code 103 = .ok (.ifCond .eq 7, 3) := by decide +kernel
theorem d8_106 : decode method_3_code 106 = .ok (.iconst 1, 1) := by decide +kernel
theorem d8_107 : decode method_3_code 107 = .ok (.goto 4, 3) := by decide +kernel
theorem d8_110 : decode method_3_code 110 = .ok (.iconst 0, 1) := by decide +kernel
theorem d8_111 : decode method_3_code 111 = .ok (.ireturn, 1) := by decide +kernel
theorem own_pd3 : parseMethodDescriptor "([BI[BIII)Z" = some ⟨[(.array .byte), .int, (.array .byte), .int, .int, .int], some .boolean⟩ := by decide +kernel
set_option maxHeartbeats 40000000 in
theorem own_ef_rm8 (m : MethodId) (x0 : Addr) (x1 : Int32) (x2 : Addr) (x3 : Int32) (x4 : Int32) : entryFrame m #[(.ref x0), (.int x1), (.ref x2), (.int x3), (.int x4)] 5 = mkF m 0 #[.val (.ref x0), .val (.int x1), .val (.ref x2), .val (.int x3), .val (.int x4)] [] := by first | (simp [entryFrame, mkF, argsToLocals, Value.category]; done) | rfl
def Q8 (Z : State) (a0 : Addr) (p1 : Int32) (a2 : Addr) (p3 : Int32) (p4 : Int32) (g : Nat → Int32) (gd : Nat → Int32) (h0 : Heap) (n0 : Nat) (v : Option Value) (h : Heap) (L : List Loc) : Prop := v = some (.int (1 : Int32)) ∧ Fr n0 L ∧ h = h0
set_option maxRecDepth 65536 in
set_option maxHeartbeats 40000000 in
theorem rm8 (l : Launch) (Z : State) (aZ : Array Value) (hw : ∀ d ∈ tables_1, d.before aZ Z = true) (ws : List Jvm.Cond) (a0 : Addr) (p1 : Int32) (a2 : Addr) (p3 : Int32) (p4 : Int32) (g : Nat → Int32) (gd : Nat → Int32) (h0 : Heap) (n0 : Nat) (Z0 : n0 ≤ h0.size) (pf0 : own_AI Z h0 a0 .byte 1024 g) (pf1 : own_AI Z h0 a2 .byte 8 gd) (hq : own_same g gd p1 p3 p4) :
    MetFree l (⟨"portwarden/transport/InputBufferConsumePinLaw", "same", "([BI[BII)Z"⟩ : MethodName) (head1 (Jvm.Cond.code (⟨"portwarden/transport/InputBufferConsumePinLaw", "same", "([BI[BII)Z"⟩ : MethodName) method_3_code 5 (some .boolean) :: ws) ({ frames := 1, cells := 0, slots := 0, locals := 17 } : Room)) (fun a U => a = #[(.ref a0), (.int p1), (.ref a2), (.int p3), (.int p4)] ∧ Z.Warmed39 U.vm ∧ U.heap = h0) (fun _ _ _ _ _ => True) (fun _ U o U' => ∃ v L, o = .returned v ∧ Q8 Z a0 p1 a2 p3 p4 g gd h0 n0 v U'.heap L ∧ FrameEnd U o U' L ({ frames := 1, cells := 0, slots := 0, locals := 17 } : Room).cells ({ frames := 1, cells := 0, slots := 0, locals := 17 } : Room).slots) := by
  refine MetFree.of_bodySF (plainFor_of_name own_pn1) hisR ?_
  intro p e s m args below meth c s₁ Bd hml0 hP hK
  obtain ⟨rfl, hZ, hh⟩ := hP
  have hx := Bd.exec
  have hby := Bd.bytes
  have hml : c.maxLocals = 5 := hml0
  have hown : s.vm.findClass "portwarden/transport/InputBufferConsumePinLaw" = some m.cls := findClass_of_methodNamed Bd.named
  have hnm := (name_of_methodNamed Bd.named Bd.method).1
  have X0 : Stand p l e ({ frames := 1, cells := 0, slots := 0, locals := 17 } : Room) s m #[(.ref a0), (.int p1), (.ref a2), (.int p3), (.int p4)] below meth c s₁ [] 0 0 := Stand.of_body Bd
  have e0 : s₁.heap = h0 := by rw [← hh, Bd.state]; rfl
  have N0 := Fr.nil n0
  refine own_go (S' := s₁.setTop (mkF m 0 #[.val (.ref a0), .val (.int p1), .val (.ref a2), .val (.int p3), .val (.int p4)] [])) (fun t k => castTop (own_ef_rm8 m a0 p1 a2 p3 p4) k) ?_
  refine own_go (S' := s₁.setTop (mkF m 7 #[.val (.ref a0), .val (.int p1), .val (.ref a2), .val (.int p3), .val (.int p4)] [(.int (0 : Int32)), (.int p4), (.int p3), (.ref a2), (.int p1), (.ref a0)])) (fun target kt => ?_) ?_
  · skip
    show Steps p.tables e below (s₁.setTop (mkF m 0 #[.val (.ref a0), .val (.int p1), .val (.ref a2), .val (.int p3), .val (.int p4)] [])) _
    refine XS.aloadN X0.here hx rfl (hb hby d8_0) rfl rfl ?_
    show Steps p.tables e below (s₁.setTop (mkF m 1 #[.val (.ref a0), .val (.int p1), .val (.ref a2), .val (.int p3), .val (.int p4)] [(.ref a0)])) _
    refine XS.iloadN X0.here hx rfl (hb hby d8_1) rfl ?_
    show Steps p.tables e below (s₁.setTop (mkF m 2 #[.val (.ref a0), .val (.int p1), .val (.ref a2), .val (.int p3), .val (.int p4)] [(.int p1), (.ref a0)])) _
    refine XS.aloadN X0.here hx rfl (hb hby d8_2) rfl rfl ?_
    show Steps p.tables e below (s₁.setTop (mkF m 3 #[.val (.ref a0), .val (.int p1), .val (.ref a2), .val (.int p3), .val (.int p4)] [(.ref a2), (.int p1), (.ref a0)])) _
    refine XS.iloadN X0.here hx rfl (hb hby d8_3) rfl ?_
    show Steps p.tables e below (s₁.setTop (mkF m 4 #[.val (.ref a0), .val (.int p1), .val (.ref a2), .val (.int p3), .val (.int p4)] [(.int p3), (.ref a2), (.int p1), (.ref a0)])) _
    refine XS.iload X0.here hx rfl (hb hby d8_4) rfl ?_
    show Steps p.tables e below (s₁.setTop (mkF m 6 #[.val (.ref a0), .val (.int p1), .val (.ref a2), .val (.int p3), .val (.int p4)] [(.int p4), (.int p3), (.ref a2), (.int p1), (.ref a0)])) _
    refine XS.iconst X0.here hx rfl (hb hby d8_6) ?_
    exact kt
  obtain ⟨_, _, ⟨T58, L58, k58, n58⟩, -, X58, ⟨Lc58, hQ58, l58, y58, z58⟩, st58⟩ := Jvm.LawKit.callS X0 hx (y := (⟨"portwarden/transport/InputBufferConsumePinLaw", "at", "([BI[BIII)Z"⟩ : MethodName)) hown (mvT hZ (hw _ (List.mem_of_getElem? (i := 50) rfl))) (mvT hZ (hw _ (List.mem_of_getElem? (i := 51) rfl))) (mvT hZ (hw _ (List.mem_of_getElem? (i := 48) rfl))) (mvT hZ (hw _ (List.mem_of_getElem? (i := 52) rfl))) (by decide) (backOf (W := 0) (rm9 l Z aZ hw [] a0 p1 a2 p3 p4 (0 : Int32) g gd h0 n0 Z0 pf0 pf1 (fun h => hq (0 : Int32) (by decide) h : (0 : Int32) < p4 → own_eqs g gd p1 p3 (0 : Int32))) hZ (hw _ (List.mem_of_getElem? (i := 52) rfl)) (hw _ (List.mem_of_getElem? (i := 48) rfl)) (by decide) (by decide)) (g := (mkF m 7 #[.val (.ref a0), .val (.int p1), .val (.ref a2), .val (.int p3), .val (.int p4)] [(.int (0 : Int32)), (.int p4), (.int p3), (.ref a2), (.int p1), (.ref a0)])) rfl (by rw [hml]; rfl) (argsL := [(.ref a0), (.int p1), (.ref a2), (.int p3), (.int p4), (.int (0 : Int32))]) (rest := []) (lenOf own_pd3 rfl) rfl (by show 2 * 0 + _ ≤ _; exact Nat.le_of_eq rfl) (hb hby d8_7) (fun _ _ => ⟨rfl, e0, (by decide : 0 + 0 ≤ _), (by decide : 0 + 0 ≤ _)⟩)
  dsimp only [Pt.U, Pt.locs, Pt.cells, Pt.slots] at X58 l58 y58 z58 st58 hQ58
  subst l58 y58 z58
  obtain ⟨rfl, N58q, e58⟩ := hQ58
  have N58 := Fr.app N0 N58q
  refine own_go (S' := T58.setTop (mkF m 10 #[.val (.ref a0), .val (.int p1), .val (.ref a2), .val (.int p3), .val (.int p4)] [(.int (1 : Int32))])) st58 ?_
  refine own_go (S' := T58.setTop (mkF m 20 #[.val (.ref a0), .val (.int p1), .val (.ref a2), .val (.int p3), .val (.int p4)] [(.int (1 : Int32)), (.int p4), (.int p3), (.ref a2), (.int p1), (.ref a0)])) (fun target kt => ?_) ?_
  · skip
    show Steps p.tables e below (T58.setTop (mkF m 10 #[.val (.ref a0), .val (.int p1), .val (.ref a2), .val (.int p3), .val (.int p4)] [(.int (1 : Int32))])) _
    refine XS.ifNo X58.here hx rfl (hb hby d8_10) rfl ((if0 _ _).trans (feq (by decide : ¬ ((1 : Int32) = (0 : Int32)))).1) ?_
    show Steps p.tables e below (T58.setTop (mkF m 13 #[.val (.ref a0), .val (.int p1), .val (.ref a2), .val (.int p3), .val (.int p4)] [])) _
    refine XS.aloadN X58.here hx rfl (hb hby d8_13) rfl rfl ?_
    show Steps p.tables e below (T58.setTop (mkF m 14 #[.val (.ref a0), .val (.int p1), .val (.ref a2), .val (.int p3), .val (.int p4)] [(.ref a0)])) _
    refine XS.iloadN X58.here hx rfl (hb hby d8_14) rfl ?_
    show Steps p.tables e below (T58.setTop (mkF m 15 #[.val (.ref a0), .val (.int p1), .val (.ref a2), .val (.int p3), .val (.int p4)] [(.int p1), (.ref a0)])) _
    refine XS.aloadN X58.here hx rfl (hb hby d8_15) rfl rfl ?_
    show Steps p.tables e below (T58.setTop (mkF m 16 #[.val (.ref a0), .val (.int p1), .val (.ref a2), .val (.int p3), .val (.int p4)] [(.ref a2), (.int p1), (.ref a0)])) _
    refine XS.iloadN X58.here hx rfl (hb hby d8_16) rfl ?_
    show Steps p.tables e below (T58.setTop (mkF m 17 #[.val (.ref a0), .val (.int p1), .val (.ref a2), .val (.int p3), .val (.int p4)] [(.int p3), (.ref a2), (.int p1), (.ref a0)])) _
    refine XS.iload X58.here hx rfl (hb hby d8_17) rfl ?_
    show Steps p.tables e below (T58.setTop (mkF m 19 #[.val (.ref a0), .val (.int p1), .val (.ref a2), .val (.int p3), .val (.int p4)] [(.int p4), (.int p3), (.ref a2), (.int p1), (.ref a0)])) _
    refine XS.iconst X58.here hx rfl (hb hby d8_19) ?_
    exact kt
  obtain ⟨_, _, ⟨T59, L59, k59, n59⟩, -, X59, ⟨Lc59, hQ59, l59, y59, z59⟩, st59⟩ := Jvm.LawKit.callS X58 hx (y := (⟨"portwarden/transport/InputBufferConsumePinLaw", "at", "([BI[BIII)Z"⟩ : MethodName)) hown (mvT hZ (hw _ (List.mem_of_getElem? (i := 50) rfl))) (mvT hZ (hw _ (List.mem_of_getElem? (i := 51) rfl))) (mvT hZ (hw _ (List.mem_of_getElem? (i := 48) rfl))) (mvT hZ (hw _ (List.mem_of_getElem? (i := 52) rfl))) (by decide) (backOf (W := 0) (rm9 l Z aZ hw [] a0 p1 a2 p3 p4 (1 : Int32) g gd h0 n0 Z0 pf0 pf1 (fun h => hq (1 : Int32) (by decide) h : (1 : Int32) < p4 → own_eqs g gd p1 p3 (1 : Int32))) hZ (hw _ (List.mem_of_getElem? (i := 52) rfl)) (hw _ (List.mem_of_getElem? (i := 48) rfl)) (by decide) (by decide)) (g := (mkF m 20 #[.val (.ref a0), .val (.int p1), .val (.ref a2), .val (.int p3), .val (.int p4)] [(.int (1 : Int32)), (.int p4), (.int p3), (.ref a2), (.int p1), (.ref a0)])) rfl (by rw [hml]; rfl) (argsL := [(.ref a0), (.int p1), (.ref a2), (.int p3), (.int p4), (.int (1 : Int32))]) (rest := []) (lenOf own_pd3 rfl) rfl (by show 2 * 0 + _ ≤ _; exact Nat.le_of_eq rfl) (hb hby d8_20) (fun _ _ => ⟨rfl, e58, (by decide : 0 + 0 ≤ _), (by decide : 0 + 0 ≤ _)⟩)
  dsimp only [Pt.U, Pt.locs, Pt.cells, Pt.slots] at X59 l59 y59 z59 st59 hQ59
  subst l59 y59 z59
  obtain ⟨rfl, N59q, e59⟩ := hQ59
  have N59 := Fr.app N58 N59q
  refine own_go (S' := T59.setTop (mkF m 23 #[.val (.ref a0), .val (.int p1), .val (.ref a2), .val (.int p3), .val (.int p4)] [(.int (1 : Int32))])) st59 ?_
  refine own_go (S' := T59.setTop (mkF m 33 #[.val (.ref a0), .val (.int p1), .val (.ref a2), .val (.int p3), .val (.int p4)] [(.int (2 : Int32)), (.int p4), (.int p3), (.ref a2), (.int p1), (.ref a0)])) (fun target kt => ?_) ?_
  · skip
    show Steps p.tables e below (T59.setTop (mkF m 23 #[.val (.ref a0), .val (.int p1), .val (.ref a2), .val (.int p3), .val (.int p4)] [(.int (1 : Int32))])) _
    refine XS.ifNo X59.here hx rfl (hb hby d8_23) rfl ((if0 _ _).trans (feq (by decide : ¬ ((1 : Int32) = (0 : Int32)))).1) ?_
    show Steps p.tables e below (T59.setTop (mkF m 26 #[.val (.ref a0), .val (.int p1), .val (.ref a2), .val (.int p3), .val (.int p4)] [])) _
    refine XS.aloadN X59.here hx rfl (hb hby d8_26) rfl rfl ?_
    show Steps p.tables e below (T59.setTop (mkF m 27 #[.val (.ref a0), .val (.int p1), .val (.ref a2), .val (.int p3), .val (.int p4)] [(.ref a0)])) _
    refine XS.iloadN X59.here hx rfl (hb hby d8_27) rfl ?_
    show Steps p.tables e below (T59.setTop (mkF m 28 #[.val (.ref a0), .val (.int p1), .val (.ref a2), .val (.int p3), .val (.int p4)] [(.int p1), (.ref a0)])) _
    refine XS.aloadN X59.here hx rfl (hb hby d8_28) rfl rfl ?_
    show Steps p.tables e below (T59.setTop (mkF m 29 #[.val (.ref a0), .val (.int p1), .val (.ref a2), .val (.int p3), .val (.int p4)] [(.ref a2), (.int p1), (.ref a0)])) _
    refine XS.iloadN X59.here hx rfl (hb hby d8_29) rfl ?_
    show Steps p.tables e below (T59.setTop (mkF m 30 #[.val (.ref a0), .val (.int p1), .val (.ref a2), .val (.int p3), .val (.int p4)] [(.int p3), (.ref a2), (.int p1), (.ref a0)])) _
    refine XS.iload X59.here hx rfl (hb hby d8_30) rfl ?_
    show Steps p.tables e below (T59.setTop (mkF m 32 #[.val (.ref a0), .val (.int p1), .val (.ref a2), .val (.int p3), .val (.int p4)] [(.int p4), (.int p3), (.ref a2), (.int p1), (.ref a0)])) _
    refine XS.iconst X59.here hx rfl (hb hby d8_32) ?_
    exact kt
  obtain ⟨_, _, ⟨T60, L60, k60, n60⟩, -, X60, ⟨Lc60, hQ60, l60, y60, z60⟩, st60⟩ := Jvm.LawKit.callS X59 hx (y := (⟨"portwarden/transport/InputBufferConsumePinLaw", "at", "([BI[BIII)Z"⟩ : MethodName)) hown (mvT hZ (hw _ (List.mem_of_getElem? (i := 50) rfl))) (mvT hZ (hw _ (List.mem_of_getElem? (i := 51) rfl))) (mvT hZ (hw _ (List.mem_of_getElem? (i := 48) rfl))) (mvT hZ (hw _ (List.mem_of_getElem? (i := 52) rfl))) (by decide) (backOf (W := 0) (rm9 l Z aZ hw [] a0 p1 a2 p3 p4 (2 : Int32) g gd h0 n0 Z0 pf0 pf1 (fun h => hq (2 : Int32) (by decide) h : (2 : Int32) < p4 → own_eqs g gd p1 p3 (2 : Int32))) hZ (hw _ (List.mem_of_getElem? (i := 52) rfl)) (hw _ (List.mem_of_getElem? (i := 48) rfl)) (by decide) (by decide)) (g := (mkF m 33 #[.val (.ref a0), .val (.int p1), .val (.ref a2), .val (.int p3), .val (.int p4)] [(.int (2 : Int32)), (.int p4), (.int p3), (.ref a2), (.int p1), (.ref a0)])) rfl (by rw [hml]; rfl) (argsL := [(.ref a0), (.int p1), (.ref a2), (.int p3), (.int p4), (.int (2 : Int32))]) (rest := []) (lenOf own_pd3 rfl) rfl (by show 2 * 0 + _ ≤ _; exact Nat.le_of_eq rfl) (hb hby d8_33) (fun _ _ => ⟨rfl, e59, (by decide : 0 + 0 ≤ _), (by decide : 0 + 0 ≤ _)⟩)
  dsimp only [Pt.U, Pt.locs, Pt.cells, Pt.slots] at X60 l60 y60 z60 st60 hQ60
  subst l60 y60 z60
  obtain ⟨rfl, N60q, e60⟩ := hQ60
  have N60 := Fr.app N59 N60q
  refine own_go (S' := T60.setTop (mkF m 36 #[.val (.ref a0), .val (.int p1), .val (.ref a2), .val (.int p3), .val (.int p4)] [(.int (1 : Int32))])) st60 ?_
  refine own_go (S' := T60.setTop (mkF m 46 #[.val (.ref a0), .val (.int p1), .val (.ref a2), .val (.int p3), .val (.int p4)] [(.int (3 : Int32)), (.int p4), (.int p3), (.ref a2), (.int p1), (.ref a0)])) (fun target kt => ?_) ?_
  · skip
    show Steps p.tables e below (T60.setTop (mkF m 36 #[.val (.ref a0), .val (.int p1), .val (.ref a2), .val (.int p3), .val (.int p4)] [(.int (1 : Int32))])) _
    refine XS.ifNo X60.here hx rfl (hb hby d8_36) rfl ((if0 _ _).trans (feq (by decide : ¬ ((1 : Int32) = (0 : Int32)))).1) ?_
    show Steps p.tables e below (T60.setTop (mkF m 39 #[.val (.ref a0), .val (.int p1), .val (.ref a2), .val (.int p3), .val (.int p4)] [])) _
    refine XS.aloadN X60.here hx rfl (hb hby d8_39) rfl rfl ?_
    show Steps p.tables e below (T60.setTop (mkF m 40 #[.val (.ref a0), .val (.int p1), .val (.ref a2), .val (.int p3), .val (.int p4)] [(.ref a0)])) _
    refine XS.iloadN X60.here hx rfl (hb hby d8_40) rfl ?_
    show Steps p.tables e below (T60.setTop (mkF m 41 #[.val (.ref a0), .val (.int p1), .val (.ref a2), .val (.int p3), .val (.int p4)] [(.int p1), (.ref a0)])) _
    refine XS.aloadN X60.here hx rfl (hb hby d8_41) rfl rfl ?_
    show Steps p.tables e below (T60.setTop (mkF m 42 #[.val (.ref a0), .val (.int p1), .val (.ref a2), .val (.int p3), .val (.int p4)] [(.ref a2), (.int p1), (.ref a0)])) _
    refine XS.iloadN X60.here hx rfl (hb hby d8_42) rfl ?_
    show Steps p.tables e below (T60.setTop (mkF m 43 #[.val (.ref a0), .val (.int p1), .val (.ref a2), .val (.int p3), .val (.int p4)] [(.int p3), (.ref a2), (.int p1), (.ref a0)])) _
    refine XS.iload X60.here hx rfl (hb hby d8_43) rfl ?_
    show Steps p.tables e below (T60.setTop (mkF m 45 #[.val (.ref a0), .val (.int p1), .val (.ref a2), .val (.int p3), .val (.int p4)] [(.int p4), (.int p3), (.ref a2), (.int p1), (.ref a0)])) _
    refine XS.iconst X60.here hx rfl (hb hby d8_45) ?_
    exact kt
  obtain ⟨_, _, ⟨T61, L61, k61, n61⟩, -, X61, ⟨Lc61, hQ61, l61, y61, z61⟩, st61⟩ := Jvm.LawKit.callS X60 hx (y := (⟨"portwarden/transport/InputBufferConsumePinLaw", "at", "([BI[BIII)Z"⟩ : MethodName)) hown (mvT hZ (hw _ (List.mem_of_getElem? (i := 50) rfl))) (mvT hZ (hw _ (List.mem_of_getElem? (i := 51) rfl))) (mvT hZ (hw _ (List.mem_of_getElem? (i := 48) rfl))) (mvT hZ (hw _ (List.mem_of_getElem? (i := 52) rfl))) (by decide) (backOf (W := 0) (rm9 l Z aZ hw [] a0 p1 a2 p3 p4 (3 : Int32) g gd h0 n0 Z0 pf0 pf1 (fun h => hq (3 : Int32) (by decide) h : (3 : Int32) < p4 → own_eqs g gd p1 p3 (3 : Int32))) hZ (hw _ (List.mem_of_getElem? (i := 52) rfl)) (hw _ (List.mem_of_getElem? (i := 48) rfl)) (by decide) (by decide)) (g := (mkF m 46 #[.val (.ref a0), .val (.int p1), .val (.ref a2), .val (.int p3), .val (.int p4)] [(.int (3 : Int32)), (.int p4), (.int p3), (.ref a2), (.int p1), (.ref a0)])) rfl (by rw [hml]; rfl) (argsL := [(.ref a0), (.int p1), (.ref a2), (.int p3), (.int p4), (.int (3 : Int32))]) (rest := []) (lenOf own_pd3 rfl) rfl (by show 2 * 0 + _ ≤ _; exact Nat.le_of_eq rfl) (hb hby d8_46) (fun _ _ => ⟨rfl, e60, (by decide : 0 + 0 ≤ _), (by decide : 0 + 0 ≤ _)⟩)
  dsimp only [Pt.U, Pt.locs, Pt.cells, Pt.slots] at X61 l61 y61 z61 st61 hQ61
  subst l61 y61 z61
  obtain ⟨rfl, N61q, e61⟩ := hQ61
  have N61 := Fr.app N60 N61q
  refine own_go (S' := T61.setTop (mkF m 49 #[.val (.ref a0), .val (.int p1), .val (.ref a2), .val (.int p3), .val (.int p4)] [(.int (1 : Int32))])) st61 ?_
  refine own_go (S' := T61.setTop (mkF m 59 #[.val (.ref a0), .val (.int p1), .val (.ref a2), .val (.int p3), .val (.int p4)] [(.int (4 : Int32)), (.int p4), (.int p3), (.ref a2), (.int p1), (.ref a0)])) (fun target kt => ?_) ?_
  · skip
    show Steps p.tables e below (T61.setTop (mkF m 49 #[.val (.ref a0), .val (.int p1), .val (.ref a2), .val (.int p3), .val (.int p4)] [(.int (1 : Int32))])) _
    refine XS.ifNo X61.here hx rfl (hb hby d8_49) rfl ((if0 _ _).trans (feq (by decide : ¬ ((1 : Int32) = (0 : Int32)))).1) ?_
    show Steps p.tables e below (T61.setTop (mkF m 52 #[.val (.ref a0), .val (.int p1), .val (.ref a2), .val (.int p3), .val (.int p4)] [])) _
    refine XS.aloadN X61.here hx rfl (hb hby d8_52) rfl rfl ?_
    show Steps p.tables e below (T61.setTop (mkF m 53 #[.val (.ref a0), .val (.int p1), .val (.ref a2), .val (.int p3), .val (.int p4)] [(.ref a0)])) _
    refine XS.iloadN X61.here hx rfl (hb hby d8_53) rfl ?_
    show Steps p.tables e below (T61.setTop (mkF m 54 #[.val (.ref a0), .val (.int p1), .val (.ref a2), .val (.int p3), .val (.int p4)] [(.int p1), (.ref a0)])) _
    refine XS.aloadN X61.here hx rfl (hb hby d8_54) rfl rfl ?_
    show Steps p.tables e below (T61.setTop (mkF m 55 #[.val (.ref a0), .val (.int p1), .val (.ref a2), .val (.int p3), .val (.int p4)] [(.ref a2), (.int p1), (.ref a0)])) _
    refine XS.iloadN X61.here hx rfl (hb hby d8_55) rfl ?_
    show Steps p.tables e below (T61.setTop (mkF m 56 #[.val (.ref a0), .val (.int p1), .val (.ref a2), .val (.int p3), .val (.int p4)] [(.int p3), (.ref a2), (.int p1), (.ref a0)])) _
    refine XS.iload X61.here hx rfl (hb hby d8_56) rfl ?_
    show Steps p.tables e below (T61.setTop (mkF m 58 #[.val (.ref a0), .val (.int p1), .val (.ref a2), .val (.int p3), .val (.int p4)] [(.int p4), (.int p3), (.ref a2), (.int p1), (.ref a0)])) _
    refine XS.iconst X61.here hx rfl (hb hby d8_58) ?_
    exact kt
  obtain ⟨_, _, ⟨T62, L62, k62, n62⟩, -, X62, ⟨Lc62, hQ62, l62, y62, z62⟩, st62⟩ := Jvm.LawKit.callS X61 hx (y := (⟨"portwarden/transport/InputBufferConsumePinLaw", "at", "([BI[BIII)Z"⟩ : MethodName)) hown (mvT hZ (hw _ (List.mem_of_getElem? (i := 50) rfl))) (mvT hZ (hw _ (List.mem_of_getElem? (i := 51) rfl))) (mvT hZ (hw _ (List.mem_of_getElem? (i := 48) rfl))) (mvT hZ (hw _ (List.mem_of_getElem? (i := 52) rfl))) (by decide) (backOf (W := 0) (rm9 l Z aZ hw [] a0 p1 a2 p3 p4 (4 : Int32) g gd h0 n0 Z0 pf0 pf1 (fun h => hq (4 : Int32) (by decide) h : (4 : Int32) < p4 → own_eqs g gd p1 p3 (4 : Int32))) hZ (hw _ (List.mem_of_getElem? (i := 52) rfl)) (hw _ (List.mem_of_getElem? (i := 48) rfl)) (by decide) (by decide)) (g := (mkF m 59 #[.val (.ref a0), .val (.int p1), .val (.ref a2), .val (.int p3), .val (.int p4)] [(.int (4 : Int32)), (.int p4), (.int p3), (.ref a2), (.int p1), (.ref a0)])) rfl (by rw [hml]; rfl) (argsL := [(.ref a0), (.int p1), (.ref a2), (.int p3), (.int p4), (.int (4 : Int32))]) (rest := []) (lenOf own_pd3 rfl) rfl (by show 2 * 0 + _ ≤ _; exact Nat.le_of_eq rfl) (hb hby d8_59) (fun _ _ => ⟨rfl, e61, (by decide : 0 + 0 ≤ _), (by decide : 0 + 0 ≤ _)⟩)
  dsimp only [Pt.U, Pt.locs, Pt.cells, Pt.slots] at X62 l62 y62 z62 st62 hQ62
  subst l62 y62 z62
  obtain ⟨rfl, N62q, e62⟩ := hQ62
  have N62 := Fr.app N61 N62q
  refine own_go (S' := T62.setTop (mkF m 62 #[.val (.ref a0), .val (.int p1), .val (.ref a2), .val (.int p3), .val (.int p4)] [(.int (1 : Int32))])) st62 ?_
  refine own_go (S' := T62.setTop (mkF m 72 #[.val (.ref a0), .val (.int p1), .val (.ref a2), .val (.int p3), .val (.int p4)] [(.int (5 : Int32)), (.int p4), (.int p3), (.ref a2), (.int p1), (.ref a0)])) (fun target kt => ?_) ?_
  · skip
    show Steps p.tables e below (T62.setTop (mkF m 62 #[.val (.ref a0), .val (.int p1), .val (.ref a2), .val (.int p3), .val (.int p4)] [(.int (1 : Int32))])) _
    refine XS.ifNo X62.here hx rfl (hb hby d8_62) rfl ((if0 _ _).trans (feq (by decide : ¬ ((1 : Int32) = (0 : Int32)))).1) ?_
    show Steps p.tables e below (T62.setTop (mkF m 65 #[.val (.ref a0), .val (.int p1), .val (.ref a2), .val (.int p3), .val (.int p4)] [])) _
    refine XS.aloadN X62.here hx rfl (hb hby d8_65) rfl rfl ?_
    show Steps p.tables e below (T62.setTop (mkF m 66 #[.val (.ref a0), .val (.int p1), .val (.ref a2), .val (.int p3), .val (.int p4)] [(.ref a0)])) _
    refine XS.iloadN X62.here hx rfl (hb hby d8_66) rfl ?_
    show Steps p.tables e below (T62.setTop (mkF m 67 #[.val (.ref a0), .val (.int p1), .val (.ref a2), .val (.int p3), .val (.int p4)] [(.int p1), (.ref a0)])) _
    refine XS.aloadN X62.here hx rfl (hb hby d8_67) rfl rfl ?_
    show Steps p.tables e below (T62.setTop (mkF m 68 #[.val (.ref a0), .val (.int p1), .val (.ref a2), .val (.int p3), .val (.int p4)] [(.ref a2), (.int p1), (.ref a0)])) _
    refine XS.iloadN X62.here hx rfl (hb hby d8_68) rfl ?_
    show Steps p.tables e below (T62.setTop (mkF m 69 #[.val (.ref a0), .val (.int p1), .val (.ref a2), .val (.int p3), .val (.int p4)] [(.int p3), (.ref a2), (.int p1), (.ref a0)])) _
    refine XS.iload X62.here hx rfl (hb hby d8_69) rfl ?_
    show Steps p.tables e below (T62.setTop (mkF m 71 #[.val (.ref a0), .val (.int p1), .val (.ref a2), .val (.int p3), .val (.int p4)] [(.int p4), (.int p3), (.ref a2), (.int p1), (.ref a0)])) _
    refine XS.iconst X62.here hx rfl (hb hby d8_71) ?_
    exact kt
  obtain ⟨_, _, ⟨T63, L63, k63, n63⟩, -, X63, ⟨Lc63, hQ63, l63, y63, z63⟩, st63⟩ := Jvm.LawKit.callS X62 hx (y := (⟨"portwarden/transport/InputBufferConsumePinLaw", "at", "([BI[BIII)Z"⟩ : MethodName)) hown (mvT hZ (hw _ (List.mem_of_getElem? (i := 50) rfl))) (mvT hZ (hw _ (List.mem_of_getElem? (i := 51) rfl))) (mvT hZ (hw _ (List.mem_of_getElem? (i := 48) rfl))) (mvT hZ (hw _ (List.mem_of_getElem? (i := 52) rfl))) (by decide) (backOf (W := 0) (rm9 l Z aZ hw [] a0 p1 a2 p3 p4 (5 : Int32) g gd h0 n0 Z0 pf0 pf1 (fun h => hq (5 : Int32) (by decide) h : (5 : Int32) < p4 → own_eqs g gd p1 p3 (5 : Int32))) hZ (hw _ (List.mem_of_getElem? (i := 52) rfl)) (hw _ (List.mem_of_getElem? (i := 48) rfl)) (by decide) (by decide)) (g := (mkF m 72 #[.val (.ref a0), .val (.int p1), .val (.ref a2), .val (.int p3), .val (.int p4)] [(.int (5 : Int32)), (.int p4), (.int p3), (.ref a2), (.int p1), (.ref a0)])) rfl (by rw [hml]; rfl) (argsL := [(.ref a0), (.int p1), (.ref a2), (.int p3), (.int p4), (.int (5 : Int32))]) (rest := []) (lenOf own_pd3 rfl) rfl (by show 2 * 0 + _ ≤ _; exact Nat.le_of_eq rfl) (hb hby d8_72) (fun _ _ => ⟨rfl, e62, (by decide : 0 + 0 ≤ _), (by decide : 0 + 0 ≤ _)⟩)
  dsimp only [Pt.U, Pt.locs, Pt.cells, Pt.slots] at X63 l63 y63 z63 st63 hQ63
  subst l63 y63 z63
  obtain ⟨rfl, N63q, e63⟩ := hQ63
  have N63 := Fr.app N62 N63q
  refine own_go (S' := T63.setTop (mkF m 75 #[.val (.ref a0), .val (.int p1), .val (.ref a2), .val (.int p3), .val (.int p4)] [(.int (1 : Int32))])) st63 ?_
  refine own_go (S' := T63.setTop (mkF m 86 #[.val (.ref a0), .val (.int p1), .val (.ref a2), .val (.int p3), .val (.int p4)] [(.int (6 : Int32)), (.int p4), (.int p3), (.ref a2), (.int p1), (.ref a0)])) (fun target kt => ?_) ?_
  · skip
    show Steps p.tables e below (T63.setTop (mkF m 75 #[.val (.ref a0), .val (.int p1), .val (.ref a2), .val (.int p3), .val (.int p4)] [(.int (1 : Int32))])) _
    refine XS.ifNo X63.here hx rfl (hb hby d8_75) rfl ((if0 _ _).trans (feq (by decide : ¬ ((1 : Int32) = (0 : Int32)))).1) ?_
    show Steps p.tables e below (T63.setTop (mkF m 78 #[.val (.ref a0), .val (.int p1), .val (.ref a2), .val (.int p3), .val (.int p4)] [])) _
    refine XS.aloadN X63.here hx rfl (hb hby d8_78) rfl rfl ?_
    show Steps p.tables e below (T63.setTop (mkF m 79 #[.val (.ref a0), .val (.int p1), .val (.ref a2), .val (.int p3), .val (.int p4)] [(.ref a0)])) _
    refine XS.iloadN X63.here hx rfl (hb hby d8_79) rfl ?_
    show Steps p.tables e below (T63.setTop (mkF m 80 #[.val (.ref a0), .val (.int p1), .val (.ref a2), .val (.int p3), .val (.int p4)] [(.int p1), (.ref a0)])) _
    refine XS.aloadN X63.here hx rfl (hb hby d8_80) rfl rfl ?_
    show Steps p.tables e below (T63.setTop (mkF m 81 #[.val (.ref a0), .val (.int p1), .val (.ref a2), .val (.int p3), .val (.int p4)] [(.ref a2), (.int p1), (.ref a0)])) _
    refine XS.iloadN X63.here hx rfl (hb hby d8_81) rfl ?_
    show Steps p.tables e below (T63.setTop (mkF m 82 #[.val (.ref a0), .val (.int p1), .val (.ref a2), .val (.int p3), .val (.int p4)] [(.int p3), (.ref a2), (.int p1), (.ref a0)])) _
    refine XS.iload X63.here hx rfl (hb hby d8_82) rfl ?_
    show Steps p.tables e below (T63.setTop (mkF m 84 #[.val (.ref a0), .val (.int p1), .val (.ref a2), .val (.int p3), .val (.int p4)] [(.int p4), (.int p3), (.ref a2), (.int p1), (.ref a0)])) _
    refine XS.bipush X63.here hx rfl (hb hby d8_84) ?_
    exact kt
  obtain ⟨_, _, ⟨T64, L64, k64, n64⟩, -, X64, ⟨Lc64, hQ64, l64, y64, z64⟩, st64⟩ := Jvm.LawKit.callS X63 hx (y := (⟨"portwarden/transport/InputBufferConsumePinLaw", "at", "([BI[BIII)Z"⟩ : MethodName)) hown (mvT hZ (hw _ (List.mem_of_getElem? (i := 50) rfl))) (mvT hZ (hw _ (List.mem_of_getElem? (i := 51) rfl))) (mvT hZ (hw _ (List.mem_of_getElem? (i := 48) rfl))) (mvT hZ (hw _ (List.mem_of_getElem? (i := 52) rfl))) (by decide) (backOf (W := 0) (rm9 l Z aZ hw [] a0 p1 a2 p3 p4 (6 : Int32) g gd h0 n0 Z0 pf0 pf1 (fun h => hq (6 : Int32) (by decide) h : (6 : Int32) < p4 → own_eqs g gd p1 p3 (6 : Int32))) hZ (hw _ (List.mem_of_getElem? (i := 52) rfl)) (hw _ (List.mem_of_getElem? (i := 48) rfl)) (by decide) (by decide)) (g := (mkF m 86 #[.val (.ref a0), .val (.int p1), .val (.ref a2), .val (.int p3), .val (.int p4)] [(.int (6 : Int32)), (.int p4), (.int p3), (.ref a2), (.int p1), (.ref a0)])) rfl (by rw [hml]; rfl) (argsL := [(.ref a0), (.int p1), (.ref a2), (.int p3), (.int p4), (.int (6 : Int32))]) (rest := []) (lenOf own_pd3 rfl) rfl (by show 2 * 0 + _ ≤ _; exact Nat.le_of_eq rfl) (hb hby d8_86) (fun _ _ => ⟨rfl, e63, (by decide : 0 + 0 ≤ _), (by decide : 0 + 0 ≤ _)⟩)
  dsimp only [Pt.U, Pt.locs, Pt.cells, Pt.slots] at X64 l64 y64 z64 st64 hQ64
  subst l64 y64 z64
  obtain ⟨rfl, N64q, e64⟩ := hQ64
  have N64 := Fr.app N63 N64q
  refine own_go (S' := T64.setTop (mkF m 89 #[.val (.ref a0), .val (.int p1), .val (.ref a2), .val (.int p3), .val (.int p4)] [(.int (1 : Int32))])) st64 ?_
  refine own_go (S' := T64.setTop (mkF m 100 #[.val (.ref a0), .val (.int p1), .val (.ref a2), .val (.int p3), .val (.int p4)] [(.int (7 : Int32)), (.int p4), (.int p3), (.ref a2), (.int p1), (.ref a0)])) (fun target kt => ?_) ?_
  · skip
    show Steps p.tables e below (T64.setTop (mkF m 89 #[.val (.ref a0), .val (.int p1), .val (.ref a2), .val (.int p3), .val (.int p4)] [(.int (1 : Int32))])) _
    refine XS.ifNo X64.here hx rfl (hb hby d8_89) rfl ((if0 _ _).trans (feq (by decide : ¬ ((1 : Int32) = (0 : Int32)))).1) ?_
    show Steps p.tables e below (T64.setTop (mkF m 92 #[.val (.ref a0), .val (.int p1), .val (.ref a2), .val (.int p3), .val (.int p4)] [])) _
    refine XS.aloadN X64.here hx rfl (hb hby d8_92) rfl rfl ?_
    show Steps p.tables e below (T64.setTop (mkF m 93 #[.val (.ref a0), .val (.int p1), .val (.ref a2), .val (.int p3), .val (.int p4)] [(.ref a0)])) _
    refine XS.iloadN X64.here hx rfl (hb hby d8_93) rfl ?_
    show Steps p.tables e below (T64.setTop (mkF m 94 #[.val (.ref a0), .val (.int p1), .val (.ref a2), .val (.int p3), .val (.int p4)] [(.int p1), (.ref a0)])) _
    refine XS.aloadN X64.here hx rfl (hb hby d8_94) rfl rfl ?_
    show Steps p.tables e below (T64.setTop (mkF m 95 #[.val (.ref a0), .val (.int p1), .val (.ref a2), .val (.int p3), .val (.int p4)] [(.ref a2), (.int p1), (.ref a0)])) _
    refine XS.iloadN X64.here hx rfl (hb hby d8_95) rfl ?_
    show Steps p.tables e below (T64.setTop (mkF m 96 #[.val (.ref a0), .val (.int p1), .val (.ref a2), .val (.int p3), .val (.int p4)] [(.int p3), (.ref a2), (.int p1), (.ref a0)])) _
    refine XS.iload X64.here hx rfl (hb hby d8_96) rfl ?_
    show Steps p.tables e below (T64.setTop (mkF m 98 #[.val (.ref a0), .val (.int p1), .val (.ref a2), .val (.int p3), .val (.int p4)] [(.int p4), (.int p3), (.ref a2), (.int p1), (.ref a0)])) _
    refine XS.bipush X64.here hx rfl (hb hby d8_98) ?_
    exact kt
  obtain ⟨_, _, ⟨T65, L65, k65, n65⟩, -, X65, ⟨Lc65, hQ65, l65, y65, z65⟩, st65⟩ := Jvm.LawKit.callS X64 hx (y := (⟨"portwarden/transport/InputBufferConsumePinLaw", "at", "([BI[BIII)Z"⟩ : MethodName)) hown (mvT hZ (hw _ (List.mem_of_getElem? (i := 50) rfl))) (mvT hZ (hw _ (List.mem_of_getElem? (i := 51) rfl))) (mvT hZ (hw _ (List.mem_of_getElem? (i := 48) rfl))) (mvT hZ (hw _ (List.mem_of_getElem? (i := 52) rfl))) (by decide) (backOf (W := 0) (rm9 l Z aZ hw [] a0 p1 a2 p3 p4 (7 : Int32) g gd h0 n0 Z0 pf0 pf1 (fun h => hq (7 : Int32) (by decide) h : (7 : Int32) < p4 → own_eqs g gd p1 p3 (7 : Int32))) hZ (hw _ (List.mem_of_getElem? (i := 52) rfl)) (hw _ (List.mem_of_getElem? (i := 48) rfl)) (by decide) (by decide)) (g := (mkF m 100 #[.val (.ref a0), .val (.int p1), .val (.ref a2), .val (.int p3), .val (.int p4)] [(.int (7 : Int32)), (.int p4), (.int p3), (.ref a2), (.int p1), (.ref a0)])) rfl (by rw [hml]; rfl) (argsL := [(.ref a0), (.int p1), (.ref a2), (.int p3), (.int p4), (.int (7 : Int32))]) (rest := []) (lenOf own_pd3 rfl) rfl (by show 2 * 0 + _ ≤ _; exact Nat.le_of_eq rfl) (hb hby d8_100) (fun _ _ => ⟨rfl, e64, (by decide : 0 + 0 ≤ _), (by decide : 0 + 0 ≤ _)⟩)
  dsimp only [Pt.U, Pt.locs, Pt.cells, Pt.slots] at X65 l65 y65 z65 st65 hQ65
  subst l65 y65 z65
  obtain ⟨rfl, N65q, e65⟩ := hQ65
  have N65 := Fr.app N64 N65q
  refine own_go (S' := T65.setTop (mkF m 103 #[.val (.ref a0), .val (.int p1), .val (.ref a2), .val (.int p3), .val (.int p4)] [(.int (1 : Int32))])) st65 ?_
  refine own_go (S' := T65.setTop (mkF m 111 #[.val (.ref a0), .val (.int p1), .val (.ref a2), .val (.int p3), .val (.int p4)] [(.int (1 : Int32))])) (fun target kt => ?_) ?_
  · skip
    show Steps p.tables e below (T65.setTop (mkF m 103 #[.val (.ref a0), .val (.int p1), .val (.ref a2), .val (.int p3), .val (.int p4)] [(.int (1 : Int32))])) _
    refine XS.ifNo X65.here hx rfl (hb hby d8_103) rfl ((if0 _ _).trans (feq (by decide : ¬ ((1 : Int32) = (0 : Int32)))).1) ?_
    show Steps p.tables e below (T65.setTop (mkF m 106 #[.val (.ref a0), .val (.int p1), .val (.ref a2), .val (.int p3), .val (.int p4)] [])) _
    refine XS.iconst X65.here hx rfl (hb hby d8_106) ?_
    show Steps p.tables e below (T65.setTop (mkF m 107 #[.val (.ref a0), .val (.int p1), .val (.ref a2), .val (.int p3), .val (.int p4)] [(.int (1 : Int32))])) _
    refine XS.goto X65.here hx rfl (pc0 := 107) (pc' := 111) rfl (hb hby d8_107) (by decide) (by decide) ?_
    exact kt
  obtain ⟨fs, hr, hrun, hended, hW, hsame⟩ := X65.leave (v := some (.int (1 : Int32))) (fun h => by rw [Bd.returns] at h; cases h)
  refine ⟨_, _, ?_, hrun, hended, _, _, rfl, ?_, ⟨_, rfl⟩, hW, hsame.mono (by decide) (by decide)⟩
  · exact retN X65 hx (t := .boolean) Bd.returns (by simp) (hb hby d8_111) hr
  · show Q8 Z a0 p1 a2 p3 p4 g gd h0 n0 _ T65.heap _
    rw [e65]
    exact ⟨rfl, N65, rfl⟩
theorem own_fz : ∀ i, i < 1024 → fits .byte (.int ((fun (_ : Nat) => (0 : Int32)) i)) = true := fun _ _ => rfl
theorem own_fd {gd : Nat → Int32} {r0 r1 r2 r3 r4 r5 r6 r7 : Int32} (h : gd = own_upd (own_upd (own_upd (own_upd (own_upd (own_upd (own_upd (own_upd (fun _ => 0) 0 (nar .byte r0)) 1 (nar .byte r1)) 2 (nar .byte r2)) 3 (nar .byte r3)) 4 (nar .byte r4)) 5 (nar .byte r5)) 6 (nar .byte r6)) 7 (nar .byte r7)) : ∀ i, i < 8 → fits .byte (.int (gd i)) = true := by
  intro i hi
  have c : i = 0 ∨ i = 1 ∨ i = 2 ∨ i = 3 ∨ i = 4 ∨ i = 5 ∨ i = 6 ∨ i = 7 := by omega
  subst h
  rcases c with rfl | rfl | rfl | rfl | rfl | rfl | rfl | rfl <;> exact fits_nar_byte _
theorem own_n {x nn : Int32} (h : nn = ((x &&& (15 : Int32)) % (9 : Int32))) : ∃ n : Nat, n ≤ 8 ∧ nn = (Int32.ofNat n) := by
  have e := Jvm.Kit.i32_mask x 15 (k := 4) (by decide) (by decide)
  have k9 : (9 : Int32).toInt = 9 := by decide
  have hn : nn.toInt = (x &&& (15 : Int32)).toInt % 9 := by rw [h, own_m32 (by omega), k9]
  refine ⟨nn.toInt.toNat, by omega, ?_⟩
  apply Int32.toInt_inj.mp
  rw [own_ofn (by omega)]
  omega
theorem own_s1p {n : Nat} (hn : n ≤ 8) : ((Int32.ofNat n) + (1 : Int32)).toInt = n + 1 := by
  have k1 : (1 : Int32).toInt = 1 := by decide
  rw [Jvm.Kit.i32_add (by rw [own_ofn (by omega), k1]; omega) (by rw [own_ofn (by omega), k1]; omega), own_ofn (by omega), k1]
theorem own_nz {n : Nat} (hn : n ≤ 8) : ((Int32.ofNat n) + (1 : Int32)) ≠ 0 := fun h => by
  have := congrArg Int32.toInt h
  rw [own_s1p hn, show (0 : Int32).toInt = 0 from rfl] at this
  omega
theorem own_c {n : Nat} {x c1 : Int32} (hn : n ≤ 8) (h : c1 = ((x &&& (2147483647 : Int32)) % ((Int32.ofNat n) + (1 : Int32)))) : ∃ c : Nat, c ≤ n ∧ c1 = (Int32.ofNat c) := by
  have e := Jvm.Kit.i32_mask x 2147483647 (k := 31) (by decide) (by decide)
  have hc : c1.toInt = (x &&& (2147483647 : Int32)).toInt % (n + 1) := by rw [h, own_m32 (by omega), own_s1p hn]
  have h1 := Int.emod_lt_of_pos (x &&& (2147483647 : Int32)).toInt (b := (n + 1 : Int)) (by omega)
  have h2 := Int.emod_nonneg (x &&& (2147483647 : Int32)).toInt (b := (n + 1 : Int)) (by omega)
  refine ⟨c1.toInt.toNat, by omega, ?_⟩
  apply Int32.toInt_inj.mp
  rw [own_ofn (by omega)]
  omega
theorem own_ofsub {n c : Nat} (hc : c ≤ n) (hn : n ≤ 2000) : ((Int32.ofNat n) - (Int32.ofNat c)) = (Int32.ofNat (n - c)) := by
  apply Int32.toInt_inj.mp
  rw [Jvm.Kit.i32_sub (by rw [own_ofn (by omega), own_ofn (by omega)]; omega) (by rw [own_ofn (by omega), own_ofn (by omega)]; omega), own_ofn (by omega), own_ofn (by omega), own_ofn (by omega)]
  omega
theorem own_ofadd {n c : Nat} (hn : n + c ≤ 2000) : ((Int32.ofNat n) + (Int32.ofNat c)) = (Int32.ofNat (n + c)) := (Int32.ofNat_add n c).symm
theorem own_sub {n c : Nat} {r : Int32} (hc : c ≤ n) (hn : n ≤ 8) (h : r = ((Int32.ofNat n) - (Int32.ofNat c))) : r = (Int32.ofNat (n - c)) := h.trans (own_ofsub hc (by omega))
theorem own_ofinj {i j : Nat} (hi : i ≤ 2000) (hj : j ≤ 2000) : (Int32.ofNat i) = (Int32.ofNat j) ↔ i = j := by
  refine ⟨fun h => ?_, fun h => by rw [h]⟩
  have := congrArg Int32.toInt h
  rw [own_ofn hi, own_ofn hj] at this
  omega
theorem own_of0 : (Int32.ofNat 0) = (0 : Int32) := rfl
/-- behind one 'consume': where it starts, where it ends -/
theorem own_step {S0 E0 c : Nat} {st en : Int32} (h : S0 + c ≤ E0) (hE : E0 ≤ 8) (h1 : st = own_st (Int32.ofNat S0) (Int32.ofNat E0) (Int32.ofNat c)) (h2 : en = own_en (Int32.ofNat S0) (Int32.ofNat E0) (Int32.ofNat c)) :
    ∃ S1 E1 : Nat, ((S0 + c = E0 ∧ S1 = 0 ∧ E1 = 0) ∨ (S0 + c < E0 ∧ S1 = S0 + c ∧ E1 = E0)) ∧ st = (Int32.ofNat S1) ∧ en = (Int32.ofNat E1) := by
  unfold own_st at h1
  unfold own_en at h2
  rw [own_ofadd (by omega)] at h1 h2
  by_cases q : S0 + c = E0
  · rw [if_pos (by rw [q])] at h1 h2
    exact ⟨0, 0, Or.inl ⟨q, rfl, rfl⟩, h1, h2⟩
  · have q' : ¬ (Int32.ofNat (S0 + c)) = (Int32.ofNat E0) := fun z => q ((own_ofinj (by omega) (by omega)).mp z)
    rw [if_neg q'] at h1 h2
    exact ⟨S0 + c, E0, Or.inr ⟨by omega, rfl, rfl⟩, h1, h2⟩
theorem own_c1 {n c : Nat} {st en : Int32} (hc : c ≤ n) (hn : n ≤ 8) (h1 : st = own_st (0 : Int32) ((0 : Int32) + (Int32.ofNat n)) (Int32.ofNat c)) (h2 : en = own_en (0 : Int32) ((0 : Int32) + (Int32.ofNat n)) (Int32.ofNat c)) :
    ∃ S1 E1 : Nat, ((c = n ∧ S1 = 0 ∧ E1 = 0) ∨ (c < n ∧ S1 = c ∧ E1 = n)) ∧ st = (Int32.ofNat S1) ∧ en = (Int32.ofNat E1) := by
  rw [Int32.zero_add] at h1 h2
  obtain ⟨S1, E1, h, r⟩ := own_step (S0 := 0) (E0 := n) (c := c) (by omega) hn h1 h2
  refine ⟨S1, E1, ?_, r⟩
  rcases h with ⟨a, b, d⟩ | ⟨a, b, d⟩
  · exact Or.inl ⟨by omega, b, d⟩
  · exact Or.inr ⟨by omega, by omega, d⟩
theorem own_c2 {n c d S1 E1 : Nat} {st1 en1 st2 en2 : Int32} (hc : c ≤ n) (hd : d ≤ n - c) (hn : n ≤ 8) (hS : (c = n ∧ S1 = 0 ∧ E1 = 0) ∨ (c < n ∧ S1 = c ∧ E1 = n)) (hs1 : st1 = (Int32.ofNat S1)) (he1 : en1 = (Int32.ofNat E1))
    (h1 : st2 = own_st st1 en1 (Int32.ofNat d)) (h2 : en2 = own_en st1 en1 (Int32.ofNat d)) : ∃ S2 E2 : Nat, ((c + d = n ∧ S2 = 0 ∧ E2 = 0) ∨ (c + d < n ∧ S2 = c + d ∧ E2 = n)) ∧ st2 = (Int32.ofNat S2) ∧ en2 = (Int32.ofNat E2) := by
  subst hs1 he1
  obtain ⟨S2, E2, h, r⟩ := own_step (S0 := S1) (E0 := E1) (c := d) (by omega) (by omega) h1 h2
  refine ⟨S2, E2, ?_, r⟩
  omega
theorem own_a1 {n c S1 E1 : Nat} {st1 en1 : Int32} (hc : c ≤ n) (hn : n ≤ 8) (hS : (c = n ∧ S1 = 0 ∧ E1 = 0) ∨ (c < n ∧ S1 = c ∧ E1 = n)) (hs1 : st1 = (Int32.ofNat S1)) (he1 : en1 = (Int32.ofNat E1)) : (en1 - st1) = (Int32.ofNat (n - c)) := by
  rw [hs1, he1, own_ofsub (by omega) (by omega), own_ofinj (by omega) (by omega)]; omega
theorem own_b1 {n c S1 E1 : Nat} {st1 s1 exp1 : Int32} (hc : c ≤ n) (hn : n ≤ 8) (hS : (c = n ∧ S1 = 0 ∧ E1 = 0) ∨ (c < n ∧ S1 = c ∧ E1 = n)) (hs1 : st1 = (Int32.ofNat S1)) (h1 : s1 = st1) (h2 : exp1 = (if (Int32.ofNat (n - c)) = (0 : Int32) then (0 : Int32) else (Int32.ofNat c))) : s1 = exp1 := by
  rw [h1, h2, hs1]
  by_cases q : n - c = 0
  · rw [if_pos (by rw [q]; rfl), show S1 = 0 by omega]; rfl
  · rw [if_neg (fun z => q ((own_ofinj (by omega) (by omega)).mp (z.trans own_of0.symm))), show S1 = c by omega]
theorem own_a2 {n c d S2 E2 : Nat} {st2 en2 : Int32} (hc : c ≤ n) (hd : d ≤ n - c) (hn : n ≤ 8) (hS : (c + d = n ∧ S2 = 0 ∧ E2 = 0) ∨ (c + d < n ∧ S2 = c + d ∧ E2 = n)) (hs2 : st2 = (Int32.ofNat S2)) (he2 : en2 = (Int32.ofNat E2)) : (en2 - st2) = (Int32.ofNat (n - c - d)) := by
  rw [hs2, he2, own_ofsub (by omega) (by omega), own_ofinj (by omega) (by omega)]; omega
theorem own_b2 {n c d S2 E2 : Nat} {st2 s2 exp2 : Int32} (hc : c ≤ n) (hd : d ≤ n - c) (hn : n ≤ 8) (hS : (c + d = n ∧ S2 = 0 ∧ E2 = 0) ∨ (c + d < n ∧ S2 = c + d ∧ E2 = n)) (hs2 : st2 = (Int32.ofNat S2)) (h1 : s2 = st2) (h2 : exp2 = (if (Int32.ofNat (n - c - d)) = (0 : Int32) then (0 : Int32) else ((Int32.ofNat c) + (Int32.ofNat d)))) : s2 = exp2 := by
  rw [h1, h2, hs2]
  by_cases q : n - c - d = 0
  · rw [if_pos (by rw [q]; rfl), show S2 = 0 by omega]; rfl
  · rw [if_neg (fun z => q ((own_ofinj (by omega) (by omega)).mp (z.trans own_of0.symm))), own_ofadd (by omega), show S2 = c + d by omega]
theorem own_samen {gd gb : Nat → Int32} {n S f len : Nat} (hn : n ≤ 8) (hlen : len ≤ n) (hl : 0 < len → S = f ∧ f + len ≤ n) : own_same (own_cp gd n gb) gd (Int32.ofNat S) (Int32.ofNat f) (Int32.ofNat len) := by
  intro j h1 h2
  obtain ⟨J, hJ, hj⟩ : ∃ J : Nat, J < len ∧ j = (Int32.ofNat J) := by
    rw [Int32.lt_iff_toInt_lt, show (0 : Int32).toInt = 0 from rfl] at h1
    rw [Int32.lt_iff_toInt_lt, own_ofn (by omega)] at h2
    refine ⟨j.toInt.toNat, by omega, Int32.toInt_inj.mp ?_⟩
    rw [own_ofn (by omega)]
    omega
  subst hj
  obtain ⟨hS, hle⟩ := hl (by omega)
  subst hS
  unfold own_eqs
  rw [own_ofadd (by omega), own_clamp (by omega)]
  refine ⟨⟨own_nn (by omega), by omega⟩, ⟨own_nn (by omega), by omega⟩, ?_⟩
  rw [own_cp, if_pos (by omega)]
theorem own_s1 {gd gb : Nat → Int32} {n c S1 E1 : Nat} {st1 s1 : Int32} (hc : c ≤ n) (hn : n ≤ 8) (hS : (c = n ∧ S1 = 0 ∧ E1 = 0) ∨ (c < n ∧ S1 = c ∧ E1 = n)) (hs1 : st1 = (Int32.ofNat S1)) (h1 : s1 = st1) : own_same (own_cp gd n gb) gd s1 (Int32.ofNat c) (Int32.ofNat (n - c)) := by
  rw [h1, hs1]; exact own_samen hn (by omega) (by omega)
theorem own_s2 {gd gb : Nat → Int32} {n c d S2 E2 : Nat} {st2 s2 : Int32} (hc : c ≤ n) (hd : d ≤ n - c) (hn : n ≤ 8) (hS : (c + d = n ∧ S2 = 0 ∧ E2 = 0) ∨ (c + d < n ∧ S2 = c + d ∧ E2 = n)) (hs2 : st2 = (Int32.ofNat S2)) (h1 : s2 = st2) : own_same (own_cp gd n gb) gd s2 ((Int32.ofNat c) + (Int32.ofNat d)) (Int32.ofNat (n - c - d)) := by
  rw [h1, hs2, own_ofadd (by omega)]; exact own_samen hn (by omega) (by omega)

theorem own_pd4 : parseMethodDescriptor "([BII)V" = some ⟨[(.array .byte), .int, .int], none⟩ := by decide +kernel
theorem own_pd5 : parseMethodDescriptor "(I)V" = some ⟨[.int], none⟩ := by decide +kernel
theorem own_pd6 : parseMethodDescriptor "()[B" = some ⟨[], some (.array .byte)⟩ := by decide +kernel
theorem own_pd7 : parseMethodDescriptor "([BI[BII)Z" = some ⟨[(.array .byte), .int, (.array .byte), .int, .int], some .boolean⟩ := by decide +kernel
set_option maxHeartbeats 40000000 in
theorem own_ef_rm0 (m : MethodId) (x0 : Int64) (x1 : Int32) (x2 : Int32) (x3 : Int32) : entryFrame m #[(.long x0), (.int x1), (.int x2), (.int x3)] maxLocals = mkF m 0 #[.val (.long x0), .second, .val (.int x1), .val (.int x2), .val (.int x3), .unset, .unset, .unset, .unset, .unset, .unset, .unset, .unset, .unset, .unset, .unset] [] := by first | (simp [entryFrame, mkF, argsToLocals, Value.category, maxLocals]; done) | rfl
def Q0 (Z : State) (q0 : Int64) (p1 : Int32) (p2 : Int32) (p3 : Int32) (h0 : Heap) (n0 : Nat) (v : Option Value) (h : Heap) (L : List Loc) : Prop := v = some (.int 1) ∧ Fr n0 L
set_option maxRecDepth 65536 in
set_option maxHeartbeats 40000000 in
theorem rm0 (l : Launch) (Z : State) (aZ : Array Value) (hw : ∀ d ∈ tables_1, d.before aZ Z = true) (ws : List Jvm.Cond) (q0 : Int64) (p1 : Int32) (p2 : Int32) (p3 : Int32) (h0 : Heap) (n0 : Nat) (Z0 : n0 ≤ h0.size) :
    MetFree l x (head1 (Jvm.Cond.code x code maxLocals ret :: ws) room_1) (fun a U => a = #[(.long q0), (.int p1), (.int p2), (.int p3)] ∧ Z.Warmed39 U.vm ∧ U.heap = h0) (fun _ _ _ _ _ => True) (fun _ U o U' => ∃ v L, o = .returned v ∧ Q0 Z q0 p1 p2 p3 h0 n0 v U'.heap L ∧ FrameEnd U o U' L room_1.cells room_1.slots) := by
  refine MetFree.of_bodySF (plainFor_of_name own_pn1) hisR ?_
  intro p e s m args below meth c s₁ Bd hml0 hP hK
  obtain ⟨rfl, hZ, hh⟩ := hP
  have hx := Bd.exec
  have hby := Bd.bytes
  have hml : c.maxLocals = 16 := hml0
  have hown : s.vm.findClass "portwarden/transport/InputBufferConsumePinLaw" = some m.cls := findClass_of_methodNamed Bd.named
  have hnm := (name_of_methodNamed Bd.named Bd.method).1
  have X0 : Stand p l e room_1 s m #[(.long q0), (.int p1), (.int p2), (.int p3)] below meth c s₁ [] 0 0 := Stand.of_body Bd
  have e0 : s₁.heap = h0 := by rw [← hh, Bd.state]; rfl
  have N0 := Fr.nil n0
  refine own_go (S' := s₁.setTop (mkF m 0 #[.val (.long q0), .second, .val (.int p1), .val (.int p2), .val (.int p3), .unset, .unset, .unset, .unset, .unset, .unset, .unset, .unset, .unset, .unset, .unset] [])) (fun t k => castTop (own_ef_rm0 m q0 p1 p2 p3) k) ?_
  refine own_go (S' := s₁.setTop (mkF m 2 #[.val (.long q0), .second, .val (.int p1), .val (.int p2), .val (.int p3), .unset, .unset, .unset, .unset, .unset, .unset, .unset, .unset, .unset, .unset, .unset] [(.int (8 : Int32))])) (fun target kt => ?_) ?_
  · skip
    show Steps p.tables e below (s₁.setTop (mkF m 0 #[.val (.long q0), .second, .val (.int p1), .val (.int p2), .val (.int p3), .unset, .unset, .unset, .unset, .unset, .unset, .unset, .unset, .unset, .unset, .unset] [])) _
    refine XS.bipush X0.here hx rfl (hb hby at_0) ?_
    exact kt
  obtain ⟨T66, h66, k66, X66, e66, E66, A66, B66, st66⟩ := newPE X0 hx hZ (hw _ (List.mem_of_getElem? (i := 0) rfl)) e0 (g := (mkF m 2 #[.val (.long q0), .second, .val (.int p1), .val (.int p2), .val (.int p3), .unset, .unset, .unset, .unset, .unset, .unset, .unset, .unset, .unset, .unset, .unset] [(.int (8 : Int32))])) rfl (hb hby at_2) rfl (by decide) (cap := 8) (by decide) (by decide) (by decide) (by decide) (ad := "[B") (by decide)
  obtain ⟨b66, g66⟩ : ∃ z, z = h0.size := ⟨_, rfl⟩
  rw [← g66] at A66 B66 st66
  have g_b66 : n0 ≤ b66 := Nat.le_trans Z0 (Nat.le_of_eq g66.symm)
  have Z66 : n0 ≤ h66.size := Nat.le_trans Z0 E66.1
  have f67 : own_AI Z h66 b66 .byte 8 (fun _ => 0) := own_AI.fresh A66 rfl
  refine own_go (S' := T66.setTop (mkF m 4 #[.val (.long q0), .second, .val (.int p1), .val (.int p2), .val (.int p3), .unset, .unset, .unset, .unset, .unset, .unset, .unset, .unset, .unset, .unset, .unset] [(.ref b66)])) st66 ?_
  refine own_go (S' := T66.setTop (mkF m 12 #[.val (.long q0), .second, .val (.int p1), .val (.int p2), .val (.int p3), .val (.ref b66), .unset, .unset, .unset, .unset, .unset, .unset, .unset, .unset, .unset, .unset] [(.int ((q0.toInt32).toInt8.toInt32)), (.int (0 : Int32)), (.ref b66)])) (fun target kt => ?_) ?_
  · skip
    show Steps p.tables e below (T66.setTop (mkF m 4 #[.val (.long q0), .second, .val (.int p1), .val (.int p2), .val (.int p3), .unset, .unset, .unset, .unset, .unset, .unset, .unset, .unset, .unset, .unset, .unset] [(.ref b66)])) _
    refine XS.astore X66.here hx rfl (hb hby at_4) rfl rfl (l' := #[.val (.long q0), .second, .val (.int p1), .val (.int p2), .val (.int p3), .val (.ref b66), .unset, .unset, .unset, .unset, .unset, .unset, .unset, .unset, .unset, .unset]) rfl ?_
    show Steps p.tables e below (T66.setTop (mkF m 6 #[.val (.long q0), .second, .val (.int p1), .val (.int p2), .val (.int p3), .val (.ref b66), .unset, .unset, .unset, .unset, .unset, .unset, .unset, .unset, .unset, .unset] [])) _
    refine XS.aload X66.here hx rfl (hb hby at_6) rfl rfl ?_
    show Steps p.tables e below (T66.setTop (mkF m 8 #[.val (.long q0), .second, .val (.int p1), .val (.int p2), .val (.int p3), .val (.ref b66), .unset, .unset, .unset, .unset, .unset, .unset, .unset, .unset, .unset, .unset] [(.ref b66)])) _
    refine XS.iconst X66.here hx rfl (hb hby at_8) ?_
    show Steps p.tables e below (T66.setTop (mkF m 9 #[.val (.long q0), .second, .val (.int p1), .val (.int p2), .val (.int p3), .val (.ref b66), .unset, .unset, .unset, .unset, .unset, .unset, .unset, .unset, .unset, .unset] [(.int (0 : Int32)), (.ref b66)])) _
    refine XS.lloadN X66.here hx rfl (hb hby at_9) rfl ?_
    show Steps p.tables e below (T66.setTop (mkF m 10 #[.val (.long q0), .second, .val (.int p1), .val (.int p2), .val (.int p3), .val (.ref b66), .unset, .unset, .unset, .unset, .unset, .unset, .unset, .unset, .unset, .unset] [(.long q0), (.int (0 : Int32)), (.ref b66)])) _
    refine XS.l2i X66.here hx rfl (hb hby at_10) rfl ?_
    show Steps p.tables e below (T66.setTop (mkF m 11 #[.val (.long q0), .second, .val (.int p1), .val (.int p2), .val (.int p3), .val (.ref b66), .unset, .unset, .unset, .unset, .unset, .unset, .unset, .unset, .unset, .unset] [(.int (q0.toInt32)), (.int (0 : Int32)), (.ref b66)])) _
    refine XS.i2b X66.here hx rfl (hb hby at_11) rfl ?_
    exact kt
  obtain ⟨c68, Ar68, S68, M68, H68⟩ := id f67
  have hin68 : ¬ ((0 : Int32) < 0 ∨ c68.slots.size ≤ ((0 : Int32)).toNatClampNeg) := own_in S68 ⟨by decide, by decide⟩
  obtain ⟨T69, h69, X69, e69, W69, st69⟩ := stB X66 hx hZ e66 Ar68 (j := (0 : Int32)) hin68 (g := (mkF m 12 #[.val (.long q0), .second, .val (.int p1), .val (.int p2), .val (.int p3), .val (.ref b66), .unset, .unset, .unset, .unset, .unset, .unset, .unset, .unset, .unset, .unset] [(.int ((q0.toInt32).toInt8.toInt32)), (.int (0 : Int32)), (.ref b66)])) rfl rfl (hb hby at_12)
  have f71 : Exa Z h69 b66 "[B" := B66.wr W69
  have f70 : own_AI Z h69 b66 .byte 8 (own_upd (fun _ => 0) 0 (nar .byte ((q0.toInt32).toInt8.toInt32))) := own_AI.set Ar68 S68 M68 H68 W69
  have Z69 : n0 ≤ h69.size := Nat.le_trans Z66 (Keep.of_wr W69).1
  have N69 := Fr.snoc X69 N0 g_b66
  refine own_go (S' := T69.setTop (mkF m 13 #[.val (.long q0), .second, .val (.int p1), .val (.int p2), .val (.int p3), .val (.ref b66), .unset, .unset, .unset, .unset, .unset, .unset, .unset, .unset, .unset, .unset] [])) st69 ?_
  refine own_go (S' := T69.setTop (mkF m 22 #[.val (.long q0), .second, .val (.int p1), .val (.int p2), .val (.int p3), .val (.ref b66), .unset, .unset, .unset, .unset, .unset, .unset, .unset, .unset, .unset, .unset] [(.int (((own_ushrL q0 (8 : Int32)).toInt32).toInt8.toInt32)), (.int (1 : Int32)), (.ref b66)])) (fun target kt => ?_) ?_
  · skip
    show Steps p.tables e below (T69.setTop (mkF m 13 #[.val (.long q0), .second, .val (.int p1), .val (.int p2), .val (.int p3), .val (.ref b66), .unset, .unset, .unset, .unset, .unset, .unset, .unset, .unset, .unset, .unset] [])) _
    refine XS.aload X69.here hx rfl (hb hby at_13) rfl rfl ?_
    show Steps p.tables e below (T69.setTop (mkF m 15 #[.val (.long q0), .second, .val (.int p1), .val (.int p2), .val (.int p3), .val (.ref b66), .unset, .unset, .unset, .unset, .unset, .unset, .unset, .unset, .unset, .unset] [(.ref b66)])) _
    refine XS.iconst X69.here hx rfl (hb hby at_15) ?_
    show Steps p.tables e below (T69.setTop (mkF m 16 #[.val (.long q0), .second, .val (.int p1), .val (.int p2), .val (.int p3), .val (.ref b66), .unset, .unset, .unset, .unset, .unset, .unset, .unset, .unset, .unset, .unset] [(.int (1 : Int32)), (.ref b66)])) _
    refine XS.lloadN X69.here hx rfl (hb hby at_16) rfl ?_
    show Steps p.tables e below (T69.setTop (mkF m 17 #[.val (.long q0), .second, .val (.int p1), .val (.int p2), .val (.int p3), .val (.ref b66), .unset, .unset, .unset, .unset, .unset, .unset, .unset, .unset, .unset, .unset] [(.long q0), (.int (1 : Int32)), (.ref b66)])) _
    refine XS.bipush X69.here hx rfl (hb hby at_17) ?_
    show Steps p.tables e below (T69.setTop (mkF m 19 #[.val (.long q0), .second, .val (.int p1), .val (.int p2), .val (.int p3), .val (.ref b66), .unset, .unset, .unset, .unset, .unset, .unset, .unset, .unset, .unset, .unset] [(.int (8 : Int32)), (.long q0), (.int (1 : Int32)), (.ref b66)])) _
    refine XS.lushr X69.here hx rfl (hb hby at_19) rfl ?_
    show Steps p.tables e below (T69.setTop (mkF m 20 #[.val (.long q0), .second, .val (.int p1), .val (.int p2), .val (.int p3), .val (.ref b66), .unset, .unset, .unset, .unset, .unset, .unset, .unset, .unset, .unset, .unset] [(.long (own_ushrL q0 (8 : Int32))), (.int (1 : Int32)), (.ref b66)])) _
    refine XS.l2i X69.here hx rfl (hb hby at_20) rfl ?_
    show Steps p.tables e below (T69.setTop (mkF m 21 #[.val (.long q0), .second, .val (.int p1), .val (.int p2), .val (.int p3), .val (.ref b66), .unset, .unset, .unset, .unset, .unset, .unset, .unset, .unset, .unset, .unset] [(.int ((own_ushrL q0 (8 : Int32)).toInt32)), (.int (1 : Int32)), (.ref b66)])) _
    refine XS.i2b X69.here hx rfl (hb hby at_21) rfl ?_
    exact kt
  obtain ⟨c72, Ar72, S72, M72, H72⟩ := id f70
  have hin72 : ¬ ((1 : Int32) < 0 ∨ c72.slots.size ≤ ((1 : Int32)).toNatClampNeg) := own_in S72 ⟨by decide, by decide⟩
  obtain ⟨T73, h73, X73, e73, W73, st73⟩ := stB X69 hx hZ e69 Ar72 (j := (1 : Int32)) hin72 (g := (mkF m 22 #[.val (.long q0), .second, .val (.int p1), .val (.int p2), .val (.int p3), .val (.ref b66), .unset, .unset, .unset, .unset, .unset, .unset, .unset, .unset, .unset, .unset] [(.int (((own_ushrL q0 (8 : Int32)).toInt32).toInt8.toInt32)), (.int (1 : Int32)), (.ref b66)])) rfl rfl (hb hby at_22)
  have f75 : Exa Z h73 b66 "[B" := f71.wr W73
  have f74 : own_AI Z h73 b66 .byte 8 (own_upd (own_upd (fun _ => 0) 0 (nar .byte ((q0.toInt32).toInt8.toInt32))) 1 (nar .byte (((own_ushrL q0 (8 : Int32)).toInt32).toInt8.toInt32))) := own_AI.set Ar72 S72 M72 H72 W73
  have Z73 : n0 ≤ h73.size := Nat.le_trans Z69 (Keep.of_wr W73).1
  have N73 := Fr.snoc X73 N69 g_b66
  refine own_go (S' := T73.setTop (mkF m 23 #[.val (.long q0), .second, .val (.int p1), .val (.int p2), .val (.int p3), .val (.ref b66), .unset, .unset, .unset, .unset, .unset, .unset, .unset, .unset, .unset, .unset] [])) st73 ?_
  refine own_go (S' := T73.setTop (mkF m 32 #[.val (.long q0), .second, .val (.int p1), .val (.int p2), .val (.int p3), .val (.ref b66), .unset, .unset, .unset, .unset, .unset, .unset, .unset, .unset, .unset, .unset] [(.int (((own_ushrL q0 (16 : Int32)).toInt32).toInt8.toInt32)), (.int (2 : Int32)), (.ref b66)])) (fun target kt => ?_) ?_
  · skip
    show Steps p.tables e below (T73.setTop (mkF m 23 #[.val (.long q0), .second, .val (.int p1), .val (.int p2), .val (.int p3), .val (.ref b66), .unset, .unset, .unset, .unset, .unset, .unset, .unset, .unset, .unset, .unset] [])) _
    refine XS.aload X73.here hx rfl (hb hby at_23) rfl rfl ?_
    show Steps p.tables e below (T73.setTop (mkF m 25 #[.val (.long q0), .second, .val (.int p1), .val (.int p2), .val (.int p3), .val (.ref b66), .unset, .unset, .unset, .unset, .unset, .unset, .unset, .unset, .unset, .unset] [(.ref b66)])) _
    refine XS.iconst X73.here hx rfl (hb hby at_25) ?_
    show Steps p.tables e below (T73.setTop (mkF m 26 #[.val (.long q0), .second, .val (.int p1), .val (.int p2), .val (.int p3), .val (.ref b66), .unset, .unset, .unset, .unset, .unset, .unset, .unset, .unset, .unset, .unset] [(.int (2 : Int32)), (.ref b66)])) _
    refine XS.lloadN X73.here hx rfl (hb hby at_26) rfl ?_
    show Steps p.tables e below (T73.setTop (mkF m 27 #[.val (.long q0), .second, .val (.int p1), .val (.int p2), .val (.int p3), .val (.ref b66), .unset, .unset, .unset, .unset, .unset, .unset, .unset, .unset, .unset, .unset] [(.long q0), (.int (2 : Int32)), (.ref b66)])) _
    refine XS.bipush X73.here hx rfl (hb hby at_27) ?_
    show Steps p.tables e below (T73.setTop (mkF m 29 #[.val (.long q0), .second, .val (.int p1), .val (.int p2), .val (.int p3), .val (.ref b66), .unset, .unset, .unset, .unset, .unset, .unset, .unset, .unset, .unset, .unset] [(.int (16 : Int32)), (.long q0), (.int (2 : Int32)), (.ref b66)])) _
    refine XS.lushr X73.here hx rfl (hb hby at_29) rfl ?_
    show Steps p.tables e below (T73.setTop (mkF m 30 #[.val (.long q0), .second, .val (.int p1), .val (.int p2), .val (.int p3), .val (.ref b66), .unset, .unset, .unset, .unset, .unset, .unset, .unset, .unset, .unset, .unset] [(.long (own_ushrL q0 (16 : Int32))), (.int (2 : Int32)), (.ref b66)])) _
    refine XS.l2i X73.here hx rfl (hb hby at_30) rfl ?_
    show Steps p.tables e below (T73.setTop (mkF m 31 #[.val (.long q0), .second, .val (.int p1), .val (.int p2), .val (.int p3), .val (.ref b66), .unset, .unset, .unset, .unset, .unset, .unset, .unset, .unset, .unset, .unset] [(.int ((own_ushrL q0 (16 : Int32)).toInt32)), (.int (2 : Int32)), (.ref b66)])) _
    refine XS.i2b X73.here hx rfl (hb hby at_31) rfl ?_
    exact kt
  obtain ⟨c76, Ar76, S76, M76, H76⟩ := id f74
  have hin76 : ¬ ((2 : Int32) < 0 ∨ c76.slots.size ≤ ((2 : Int32)).toNatClampNeg) := own_in S76 ⟨by decide, by decide⟩
  obtain ⟨T77, h77, X77, e77, W77, st77⟩ := stB X73 hx hZ e73 Ar76 (j := (2 : Int32)) hin76 (g := (mkF m 32 #[.val (.long q0), .second, .val (.int p1), .val (.int p2), .val (.int p3), .val (.ref b66), .unset, .unset, .unset, .unset, .unset, .unset, .unset, .unset, .unset, .unset] [(.int (((own_ushrL q0 (16 : Int32)).toInt32).toInt8.toInt32)), (.int (2 : Int32)), (.ref b66)])) rfl rfl (hb hby at_32)
  have f79 : Exa Z h77 b66 "[B" := f75.wr W77
  have f78 : own_AI Z h77 b66 .byte 8 (own_upd (own_upd (own_upd (fun _ => 0) 0 (nar .byte ((q0.toInt32).toInt8.toInt32))) 1 (nar .byte (((own_ushrL q0 (8 : Int32)).toInt32).toInt8.toInt32))) 2 (nar .byte (((own_ushrL q0 (16 : Int32)).toInt32).toInt8.toInt32))) := own_AI.set Ar76 S76 M76 H76 W77
  have Z77 : n0 ≤ h77.size := Nat.le_trans Z73 (Keep.of_wr W77).1
  have N77 := Fr.snoc X77 N73 g_b66
  refine own_go (S' := T77.setTop (mkF m 33 #[.val (.long q0), .second, .val (.int p1), .val (.int p2), .val (.int p3), .val (.ref b66), .unset, .unset, .unset, .unset, .unset, .unset, .unset, .unset, .unset, .unset] [])) st77 ?_
  refine own_go (S' := T77.setTop (mkF m 42 #[.val (.long q0), .second, .val (.int p1), .val (.int p2), .val (.int p3), .val (.ref b66), .unset, .unset, .unset, .unset, .unset, .unset, .unset, .unset, .unset, .unset] [(.int (((own_ushrL q0 (24 : Int32)).toInt32).toInt8.toInt32)), (.int (3 : Int32)), (.ref b66)])) (fun target kt => ?_) ?_
  · skip
    show Steps p.tables e below (T77.setTop (mkF m 33 #[.val (.long q0), .second, .val (.int p1), .val (.int p2), .val (.int p3), .val (.ref b66), .unset, .unset, .unset, .unset, .unset, .unset, .unset, .unset, .unset, .unset] [])) _
    refine XS.aload X77.here hx rfl (hb hby at_33) rfl rfl ?_
    show Steps p.tables e below (T77.setTop (mkF m 35 #[.val (.long q0), .second, .val (.int p1), .val (.int p2), .val (.int p3), .val (.ref b66), .unset, .unset, .unset, .unset, .unset, .unset, .unset, .unset, .unset, .unset] [(.ref b66)])) _
    refine XS.iconst X77.here hx rfl (hb hby at_35) ?_
    show Steps p.tables e below (T77.setTop (mkF m 36 #[.val (.long q0), .second, .val (.int p1), .val (.int p2), .val (.int p3), .val (.ref b66), .unset, .unset, .unset, .unset, .unset, .unset, .unset, .unset, .unset, .unset] [(.int (3 : Int32)), (.ref b66)])) _
    refine XS.lloadN X77.here hx rfl (hb hby at_36) rfl ?_
    show Steps p.tables e below (T77.setTop (mkF m 37 #[.val (.long q0), .second, .val (.int p1), .val (.int p2), .val (.int p3), .val (.ref b66), .unset, .unset, .unset, .unset, .unset, .unset, .unset, .unset, .unset, .unset] [(.long q0), (.int (3 : Int32)), (.ref b66)])) _
    refine XS.bipush X77.here hx rfl (hb hby at_37) ?_
    show Steps p.tables e below (T77.setTop (mkF m 39 #[.val (.long q0), .second, .val (.int p1), .val (.int p2), .val (.int p3), .val (.ref b66), .unset, .unset, .unset, .unset, .unset, .unset, .unset, .unset, .unset, .unset] [(.int (24 : Int32)), (.long q0), (.int (3 : Int32)), (.ref b66)])) _
    refine XS.lushr X77.here hx rfl (hb hby at_39) rfl ?_
    show Steps p.tables e below (T77.setTop (mkF m 40 #[.val (.long q0), .second, .val (.int p1), .val (.int p2), .val (.int p3), .val (.ref b66), .unset, .unset, .unset, .unset, .unset, .unset, .unset, .unset, .unset, .unset] [(.long (own_ushrL q0 (24 : Int32))), (.int (3 : Int32)), (.ref b66)])) _
    refine XS.l2i X77.here hx rfl (hb hby at_40) rfl ?_
    show Steps p.tables e below (T77.setTop (mkF m 41 #[.val (.long q0), .second, .val (.int p1), .val (.int p2), .val (.int p3), .val (.ref b66), .unset, .unset, .unset, .unset, .unset, .unset, .unset, .unset, .unset, .unset] [(.int ((own_ushrL q0 (24 : Int32)).toInt32)), (.int (3 : Int32)), (.ref b66)])) _
    refine XS.i2b X77.here hx rfl (hb hby at_41) rfl ?_
    exact kt
  obtain ⟨c80, Ar80, S80, M80, H80⟩ := id f78
  have hin80 : ¬ ((3 : Int32) < 0 ∨ c80.slots.size ≤ ((3 : Int32)).toNatClampNeg) := own_in S80 ⟨by decide, by decide⟩
  obtain ⟨T81, h81, X81, e81, W81, st81⟩ := stB X77 hx hZ e77 Ar80 (j := (3 : Int32)) hin80 (g := (mkF m 42 #[.val (.long q0), .second, .val (.int p1), .val (.int p2), .val (.int p3), .val (.ref b66), .unset, .unset, .unset, .unset, .unset, .unset, .unset, .unset, .unset, .unset] [(.int (((own_ushrL q0 (24 : Int32)).toInt32).toInt8.toInt32)), (.int (3 : Int32)), (.ref b66)])) rfl rfl (hb hby at_42)
  have f83 : Exa Z h81 b66 "[B" := f79.wr W81
  have f82 : own_AI Z h81 b66 .byte 8 (own_upd (own_upd (own_upd (own_upd (fun _ => 0) 0 (nar .byte ((q0.toInt32).toInt8.toInt32))) 1 (nar .byte (((own_ushrL q0 (8 : Int32)).toInt32).toInt8.toInt32))) 2 (nar .byte (((own_ushrL q0 (16 : Int32)).toInt32).toInt8.toInt32))) 3 (nar .byte (((own_ushrL q0 (24 : Int32)).toInt32).toInt8.toInt32))) := own_AI.set Ar80 S80 M80 H80 W81
  have Z81 : n0 ≤ h81.size := Nat.le_trans Z77 (Keep.of_wr W81).1
  have N81 := Fr.snoc X81 N77 g_b66
  refine own_go (S' := T81.setTop (mkF m 43 #[.val (.long q0), .second, .val (.int p1), .val (.int p2), .val (.int p3), .val (.ref b66), .unset, .unset, .unset, .unset, .unset, .unset, .unset, .unset, .unset, .unset] [])) st81 ?_
  refine own_go (S' := T81.setTop (mkF m 52 #[.val (.long q0), .second, .val (.int p1), .val (.int p2), .val (.int p3), .val (.ref b66), .unset, .unset, .unset, .unset, .unset, .unset, .unset, .unset, .unset, .unset] [(.int (((own_ushrL q0 (32 : Int32)).toInt32).toInt8.toInt32)), (.int (4 : Int32)), (.ref b66)])) (fun target kt => ?_) ?_
  · skip
    show Steps p.tables e below (T81.setTop (mkF m 43 #[.val (.long q0), .second, .val (.int p1), .val (.int p2), .val (.int p3), .val (.ref b66), .unset, .unset, .unset, .unset, .unset, .unset, .unset, .unset, .unset, .unset] [])) _
    refine XS.aload X81.here hx rfl (hb hby at_43) rfl rfl ?_
    show Steps p.tables e below (T81.setTop (mkF m 45 #[.val (.long q0), .second, .val (.int p1), .val (.int p2), .val (.int p3), .val (.ref b66), .unset, .unset, .unset, .unset, .unset, .unset, .unset, .unset, .unset, .unset] [(.ref b66)])) _
    refine XS.iconst X81.here hx rfl (hb hby at_45) ?_
    show Steps p.tables e below (T81.setTop (mkF m 46 #[.val (.long q0), .second, .val (.int p1), .val (.int p2), .val (.int p3), .val (.ref b66), .unset, .unset, .unset, .unset, .unset, .unset, .unset, .unset, .unset, .unset] [(.int (4 : Int32)), (.ref b66)])) _
    refine XS.lloadN X81.here hx rfl (hb hby at_46) rfl ?_
    show Steps p.tables e below (T81.setTop (mkF m 47 #[.val (.long q0), .second, .val (.int p1), .val (.int p2), .val (.int p3), .val (.ref b66), .unset, .unset, .unset, .unset, .unset, .unset, .unset, .unset, .unset, .unset] [(.long q0), (.int (4 : Int32)), (.ref b66)])) _
    refine XS.bipush X81.here hx rfl (hb hby at_47) ?_
    show Steps p.tables e below (T81.setTop (mkF m 49 #[.val (.long q0), .second, .val (.int p1), .val (.int p2), .val (.int p3), .val (.ref b66), .unset, .unset, .unset, .unset, .unset, .unset, .unset, .unset, .unset, .unset] [(.int (32 : Int32)), (.long q0), (.int (4 : Int32)), (.ref b66)])) _
    refine XS.lushr X81.here hx rfl (hb hby at_49) rfl ?_
    show Steps p.tables e below (T81.setTop (mkF m 50 #[.val (.long q0), .second, .val (.int p1), .val (.int p2), .val (.int p3), .val (.ref b66), .unset, .unset, .unset, .unset, .unset, .unset, .unset, .unset, .unset, .unset] [(.long (own_ushrL q0 (32 : Int32))), (.int (4 : Int32)), (.ref b66)])) _
    refine XS.l2i X81.here hx rfl (hb hby at_50) rfl ?_
    show Steps p.tables e below (T81.setTop (mkF m 51 #[.val (.long q0), .second, .val (.int p1), .val (.int p2), .val (.int p3), .val (.ref b66), .unset, .unset, .unset, .unset, .unset, .unset, .unset, .unset, .unset, .unset] [(.int ((own_ushrL q0 (32 : Int32)).toInt32)), (.int (4 : Int32)), (.ref b66)])) _
    refine XS.i2b X81.here hx rfl (hb hby at_51) rfl ?_
    exact kt
  obtain ⟨c84, Ar84, S84, M84, H84⟩ := id f82
  have hin84 : ¬ ((4 : Int32) < 0 ∨ c84.slots.size ≤ ((4 : Int32)).toNatClampNeg) := own_in S84 ⟨by decide, by decide⟩
  obtain ⟨T85, h85, X85, e85, W85, st85⟩ := stB X81 hx hZ e81 Ar84 (j := (4 : Int32)) hin84 (g := (mkF m 52 #[.val (.long q0), .second, .val (.int p1), .val (.int p2), .val (.int p3), .val (.ref b66), .unset, .unset, .unset, .unset, .unset, .unset, .unset, .unset, .unset, .unset] [(.int (((own_ushrL q0 (32 : Int32)).toInt32).toInt8.toInt32)), (.int (4 : Int32)), (.ref b66)])) rfl rfl (hb hby at_52)
  have f87 : Exa Z h85 b66 "[B" := f83.wr W85
  have f86 : own_AI Z h85 b66 .byte 8 (own_upd (own_upd (own_upd (own_upd (own_upd (fun _ => 0) 0 (nar .byte ((q0.toInt32).toInt8.toInt32))) 1 (nar .byte (((own_ushrL q0 (8 : Int32)).toInt32).toInt8.toInt32))) 2 (nar .byte (((own_ushrL q0 (16 : Int32)).toInt32).toInt8.toInt32))) 3 (nar .byte (((own_ushrL q0 (24 : Int32)).toInt32).toInt8.toInt32))) 4 (nar .byte (((own_ushrL q0 (32 : Int32)).toInt32).toInt8.toInt32))) := own_AI.set Ar84 S84 M84 H84 W85
  have Z85 : n0 ≤ h85.size := Nat.le_trans Z81 (Keep.of_wr W85).1
  have N85 := Fr.snoc X85 N81 g_b66
  refine own_go (S' := T85.setTop (mkF m 53 #[.val (.long q0), .second, .val (.int p1), .val (.int p2), .val (.int p3), .val (.ref b66), .unset, .unset, .unset, .unset, .unset, .unset, .unset, .unset, .unset, .unset] [])) st85 ?_
  refine own_go (S' := T85.setTop (mkF m 62 #[.val (.long q0), .second, .val (.int p1), .val (.int p2), .val (.int p3), .val (.ref b66), .unset, .unset, .unset, .unset, .unset, .unset, .unset, .unset, .unset, .unset] [(.int (((own_ushrL q0 (40 : Int32)).toInt32).toInt8.toInt32)), (.int (5 : Int32)), (.ref b66)])) (fun target kt => ?_) ?_
  · skip
    show Steps p.tables e below (T85.setTop (mkF m 53 #[.val (.long q0), .second, .val (.int p1), .val (.int p2), .val (.int p3), .val (.ref b66), .unset, .unset, .unset, .unset, .unset, .unset, .unset, .unset, .unset, .unset] [])) _
    refine XS.aload X85.here hx rfl (hb hby at_53) rfl rfl ?_
    show Steps p.tables e below (T85.setTop (mkF m 55 #[.val (.long q0), .second, .val (.int p1), .val (.int p2), .val (.int p3), .val (.ref b66), .unset, .unset, .unset, .unset, .unset, .unset, .unset, .unset, .unset, .unset] [(.ref b66)])) _
    refine XS.iconst X85.here hx rfl (hb hby at_55) ?_
    show Steps p.tables e below (T85.setTop (mkF m 56 #[.val (.long q0), .second, .val (.int p1), .val (.int p2), .val (.int p3), .val (.ref b66), .unset, .unset, .unset, .unset, .unset, .unset, .unset, .unset, .unset, .unset] [(.int (5 : Int32)), (.ref b66)])) _
    refine XS.lloadN X85.here hx rfl (hb hby at_56) rfl ?_
    show Steps p.tables e below (T85.setTop (mkF m 57 #[.val (.long q0), .second, .val (.int p1), .val (.int p2), .val (.int p3), .val (.ref b66), .unset, .unset, .unset, .unset, .unset, .unset, .unset, .unset, .unset, .unset] [(.long q0), (.int (5 : Int32)), (.ref b66)])) _
    refine XS.bipush X85.here hx rfl (hb hby at_57) ?_
    show Steps p.tables e below (T85.setTop (mkF m 59 #[.val (.long q0), .second, .val (.int p1), .val (.int p2), .val (.int p3), .val (.ref b66), .unset, .unset, .unset, .unset, .unset, .unset, .unset, .unset, .unset, .unset] [(.int (40 : Int32)), (.long q0), (.int (5 : Int32)), (.ref b66)])) _
    refine XS.lushr X85.here hx rfl (hb hby at_59) rfl ?_
    show Steps p.tables e below (T85.setTop (mkF m 60 #[.val (.long q0), .second, .val (.int p1), .val (.int p2), .val (.int p3), .val (.ref b66), .unset, .unset, .unset, .unset, .unset, .unset, .unset, .unset, .unset, .unset] [(.long (own_ushrL q0 (40 : Int32))), (.int (5 : Int32)), (.ref b66)])) _
    refine XS.l2i X85.here hx rfl (hb hby at_60) rfl ?_
    show Steps p.tables e below (T85.setTop (mkF m 61 #[.val (.long q0), .second, .val (.int p1), .val (.int p2), .val (.int p3), .val (.ref b66), .unset, .unset, .unset, .unset, .unset, .unset, .unset, .unset, .unset, .unset] [(.int ((own_ushrL q0 (40 : Int32)).toInt32)), (.int (5 : Int32)), (.ref b66)])) _
    refine XS.i2b X85.here hx rfl (hb hby at_61) rfl ?_
    exact kt
  obtain ⟨c88, Ar88, S88, M88, H88⟩ := id f86
  have hin88 : ¬ ((5 : Int32) < 0 ∨ c88.slots.size ≤ ((5 : Int32)).toNatClampNeg) := own_in S88 ⟨by decide, by decide⟩
  obtain ⟨T89, h89, X89, e89, W89, st89⟩ := stB X85 hx hZ e85 Ar88 (j := (5 : Int32)) hin88 (g := (mkF m 62 #[.val (.long q0), .second, .val (.int p1), .val (.int p2), .val (.int p3), .val (.ref b66), .unset, .unset, .unset, .unset, .unset, .unset, .unset, .unset, .unset, .unset] [(.int (((own_ushrL q0 (40 : Int32)).toInt32).toInt8.toInt32)), (.int (5 : Int32)), (.ref b66)])) rfl rfl (hb hby at_62)
  have f91 : Exa Z h89 b66 "[B" := f87.wr W89
  have f90 : own_AI Z h89 b66 .byte 8 (own_upd (own_upd (own_upd (own_upd (own_upd (own_upd (fun _ => 0) 0 (nar .byte ((q0.toInt32).toInt8.toInt32))) 1 (nar .byte (((own_ushrL q0 (8 : Int32)).toInt32).toInt8.toInt32))) 2 (nar .byte (((own_ushrL q0 (16 : Int32)).toInt32).toInt8.toInt32))) 3 (nar .byte (((own_ushrL q0 (24 : Int32)).toInt32).toInt8.toInt32))) 4 (nar .byte (((own_ushrL q0 (32 : Int32)).toInt32).toInt8.toInt32))) 5 (nar .byte (((own_ushrL q0 (40 : Int32)).toInt32).toInt8.toInt32))) := own_AI.set Ar88 S88 M88 H88 W89
  have Z89 : n0 ≤ h89.size := Nat.le_trans Z85 (Keep.of_wr W89).1
  have N89 := Fr.snoc X89 N85 g_b66
  refine own_go (S' := T89.setTop (mkF m 63 #[.val (.long q0), .second, .val (.int p1), .val (.int p2), .val (.int p3), .val (.ref b66), .unset, .unset, .unset, .unset, .unset, .unset, .unset, .unset, .unset, .unset] [])) st89 ?_
  refine own_go (S' := T89.setTop (mkF m 73 #[.val (.long q0), .second, .val (.int p1), .val (.int p2), .val (.int p3), .val (.ref b66), .unset, .unset, .unset, .unset, .unset, .unset, .unset, .unset, .unset, .unset] [(.int (((own_ushrL q0 (48 : Int32)).toInt32).toInt8.toInt32)), (.int (6 : Int32)), (.ref b66)])) (fun target kt => ?_) ?_
  · skip
    show Steps p.tables e below (T89.setTop (mkF m 63 #[.val (.long q0), .second, .val (.int p1), .val (.int p2), .val (.int p3), .val (.ref b66), .unset, .unset, .unset, .unset, .unset, .unset, .unset, .unset, .unset, .unset] [])) _
    refine XS.aload X89.here hx rfl (hb hby at_63) rfl rfl ?_
    show Steps p.tables e below (T89.setTop (mkF m 65 #[.val (.long q0), .second, .val (.int p1), .val (.int p2), .val (.int p3), .val (.ref b66), .unset, .unset, .unset, .unset, .unset, .unset, .unset, .unset, .unset, .unset] [(.ref b66)])) _
    refine XS.bipush X89.here hx rfl (hb hby at_65) ?_
    show Steps p.tables e below (T89.setTop (mkF m 67 #[.val (.long q0), .second, .val (.int p1), .val (.int p2), .val (.int p3), .val (.ref b66), .unset, .unset, .unset, .unset, .unset, .unset, .unset, .unset, .unset, .unset] [(.int (6 : Int32)), (.ref b66)])) _
    refine XS.lloadN X89.here hx rfl (hb hby at_67) rfl ?_
    show Steps p.tables e below (T89.setTop (mkF m 68 #[.val (.long q0), .second, .val (.int p1), .val (.int p2), .val (.int p3), .val (.ref b66), .unset, .unset, .unset, .unset, .unset, .unset, .unset, .unset, .unset, .unset] [(.long q0), (.int (6 : Int32)), (.ref b66)])) _
    refine XS.bipush X89.here hx rfl (hb hby at_68) ?_
    show Steps p.tables e below (T89.setTop (mkF m 70 #[.val (.long q0), .second, .val (.int p1), .val (.int p2), .val (.int p3), .val (.ref b66), .unset, .unset, .unset, .unset, .unset, .unset, .unset, .unset, .unset, .unset] [(.int (48 : Int32)), (.long q0), (.int (6 : Int32)), (.ref b66)])) _
    refine XS.lushr X89.here hx rfl (hb hby at_70) rfl ?_
    show Steps p.tables e below (T89.setTop (mkF m 71 #[.val (.long q0), .second, .val (.int p1), .val (.int p2), .val (.int p3), .val (.ref b66), .unset, .unset, .unset, .unset, .unset, .unset, .unset, .unset, .unset, .unset] [(.long (own_ushrL q0 (48 : Int32))), (.int (6 : Int32)), (.ref b66)])) _
    refine XS.l2i X89.here hx rfl (hb hby at_71) rfl ?_
    show Steps p.tables e below (T89.setTop (mkF m 72 #[.val (.long q0), .second, .val (.int p1), .val (.int p2), .val (.int p3), .val (.ref b66), .unset, .unset, .unset, .unset, .unset, .unset, .unset, .unset, .unset, .unset] [(.int ((own_ushrL q0 (48 : Int32)).toInt32)), (.int (6 : Int32)), (.ref b66)])) _
    refine XS.i2b X89.here hx rfl (hb hby at_72) rfl ?_
    exact kt
  obtain ⟨c92, Ar92, S92, M92, H92⟩ := id f90
  have hin92 : ¬ ((6 : Int32) < 0 ∨ c92.slots.size ≤ ((6 : Int32)).toNatClampNeg) := own_in S92 ⟨by decide, by decide⟩
  obtain ⟨T93, h93, X93, e93, W93, st93⟩ := stB X89 hx hZ e89 Ar92 (j := (6 : Int32)) hin92 (g := (mkF m 73 #[.val (.long q0), .second, .val (.int p1), .val (.int p2), .val (.int p3), .val (.ref b66), .unset, .unset, .unset, .unset, .unset, .unset, .unset, .unset, .unset, .unset] [(.int (((own_ushrL q0 (48 : Int32)).toInt32).toInt8.toInt32)), (.int (6 : Int32)), (.ref b66)])) rfl rfl (hb hby at_73)
  have f95 : Exa Z h93 b66 "[B" := f91.wr W93
  have f94 : own_AI Z h93 b66 .byte 8 (own_upd (own_upd (own_upd (own_upd (own_upd (own_upd (own_upd (fun _ => 0) 0 (nar .byte ((q0.toInt32).toInt8.toInt32))) 1 (nar .byte (((own_ushrL q0 (8 : Int32)).toInt32).toInt8.toInt32))) 2 (nar .byte (((own_ushrL q0 (16 : Int32)).toInt32).toInt8.toInt32))) 3 (nar .byte (((own_ushrL q0 (24 : Int32)).toInt32).toInt8.toInt32))) 4 (nar .byte (((own_ushrL q0 (32 : Int32)).toInt32).toInt8.toInt32))) 5 (nar .byte (((own_ushrL q0 (40 : Int32)).toInt32).toInt8.toInt32))) 6 (nar .byte (((own_ushrL q0 (48 : Int32)).toInt32).toInt8.toInt32))) := own_AI.set Ar92 S92 M92 H92 W93
  have Z93 : n0 ≤ h93.size := Nat.le_trans Z89 (Keep.of_wr W93).1
  have N93 := Fr.snoc X93 N89 g_b66
  refine own_go (S' := T93.setTop (mkF m 74 #[.val (.long q0), .second, .val (.int p1), .val (.int p2), .val (.int p3), .val (.ref b66), .unset, .unset, .unset, .unset, .unset, .unset, .unset, .unset, .unset, .unset] [])) st93 ?_
  refine own_go (S' := T93.setTop (mkF m 84 #[.val (.long q0), .second, .val (.int p1), .val (.int p2), .val (.int p3), .val (.ref b66), .unset, .unset, .unset, .unset, .unset, .unset, .unset, .unset, .unset, .unset] [(.int (((own_ushrL q0 (56 : Int32)).toInt32).toInt8.toInt32)), (.int (7 : Int32)), (.ref b66)])) (fun target kt => ?_) ?_
  · skip
    show Steps p.tables e below (T93.setTop (mkF m 74 #[.val (.long q0), .second, .val (.int p1), .val (.int p2), .val (.int p3), .val (.ref b66), .unset, .unset, .unset, .unset, .unset, .unset, .unset, .unset, .unset, .unset] [])) _
    refine XS.aload X93.here hx rfl (hb hby at_74) rfl rfl ?_
    show Steps p.tables e below (T93.setTop (mkF m 76 #[.val (.long q0), .second, .val (.int p1), .val (.int p2), .val (.int p3), .val (.ref b66), .unset, .unset, .unset, .unset, .unset, .unset, .unset, .unset, .unset, .unset] [(.ref b66)])) _
    refine XS.bipush X93.here hx rfl (hb hby at_76) ?_
    show Steps p.tables e below (T93.setTop (mkF m 78 #[.val (.long q0), .second, .val (.int p1), .val (.int p2), .val (.int p3), .val (.ref b66), .unset, .unset, .unset, .unset, .unset, .unset, .unset, .unset, .unset, .unset] [(.int (7 : Int32)), (.ref b66)])) _
    refine XS.lloadN X93.here hx rfl (hb hby at_78) rfl ?_
    show Steps p.tables e below (T93.setTop (mkF m 79 #[.val (.long q0), .second, .val (.int p1), .val (.int p2), .val (.int p3), .val (.ref b66), .unset, .unset, .unset, .unset, .unset, .unset, .unset, .unset, .unset, .unset] [(.long q0), (.int (7 : Int32)), (.ref b66)])) _
    refine XS.bipush X93.here hx rfl (hb hby at_79) ?_
    show Steps p.tables e below (T93.setTop (mkF m 81 #[.val (.long q0), .second, .val (.int p1), .val (.int p2), .val (.int p3), .val (.ref b66), .unset, .unset, .unset, .unset, .unset, .unset, .unset, .unset, .unset, .unset] [(.int (56 : Int32)), (.long q0), (.int (7 : Int32)), (.ref b66)])) _
    refine XS.lushr X93.here hx rfl (hb hby at_81) rfl ?_
    show Steps p.tables e below (T93.setTop (mkF m 82 #[.val (.long q0), .second, .val (.int p1), .val (.int p2), .val (.int p3), .val (.ref b66), .unset, .unset, .unset, .unset, .unset, .unset, .unset, .unset, .unset, .unset] [(.long (own_ushrL q0 (56 : Int32))), (.int (7 : Int32)), (.ref b66)])) _
    refine XS.l2i X93.here hx rfl (hb hby at_82) rfl ?_
    show Steps p.tables e below (T93.setTop (mkF m 83 #[.val (.long q0), .second, .val (.int p1), .val (.int p2), .val (.int p3), .val (.ref b66), .unset, .unset, .unset, .unset, .unset, .unset, .unset, .unset, .unset, .unset] [(.int ((own_ushrL q0 (56 : Int32)).toInt32)), (.int (7 : Int32)), (.ref b66)])) _
    refine XS.i2b X93.here hx rfl (hb hby at_83) rfl ?_
    exact kt
  obtain ⟨c96, Ar96, S96, M96, H96⟩ := id f94
  have hin96 : ¬ ((7 : Int32) < 0 ∨ c96.slots.size ≤ ((7 : Int32)).toNatClampNeg) := own_in S96 ⟨by decide, by decide⟩
  obtain ⟨T97, h97, X97, e97, W97, st97⟩ := stB X93 hx hZ e93 Ar96 (j := (7 : Int32)) hin96 (g := (mkF m 84 #[.val (.long q0), .second, .val (.int p1), .val (.int p2), .val (.int p3), .val (.ref b66), .unset, .unset, .unset, .unset, .unset, .unset, .unset, .unset, .unset, .unset] [(.int (((own_ushrL q0 (56 : Int32)).toInt32).toInt8.toInt32)), (.int (7 : Int32)), (.ref b66)])) rfl rfl (hb hby at_84)
  have f99 : Exa Z h97 b66 "[B" := f95.wr W97
  have f98 : own_AI Z h97 b66 .byte 8 (own_upd (own_upd (own_upd (own_upd (own_upd (own_upd (own_upd (own_upd (fun _ => 0) 0 (nar .byte ((q0.toInt32).toInt8.toInt32))) 1 (nar .byte (((own_ushrL q0 (8 : Int32)).toInt32).toInt8.toInt32))) 2 (nar .byte (((own_ushrL q0 (16 : Int32)).toInt32).toInt8.toInt32))) 3 (nar .byte (((own_ushrL q0 (24 : Int32)).toInt32).toInt8.toInt32))) 4 (nar .byte (((own_ushrL q0 (32 : Int32)).toInt32).toInt8.toInt32))) 5 (nar .byte (((own_ushrL q0 (40 : Int32)).toInt32).toInt8.toInt32))) 6 (nar .byte (((own_ushrL q0 (48 : Int32)).toInt32).toInt8.toInt32))) 7 (nar .byte (((own_ushrL q0 (56 : Int32)).toInt32).toInt8.toInt32))) := own_AI.set Ar96 S96 M96 H96 W97
  have Z97 : n0 ≤ h97.size := Nat.le_trans Z93 (Keep.of_wr W97).1
  have N97 := Fr.snoc X97 N93 g_b66
  refine own_go (S' := T97.setTop (mkF m 85 #[.val (.long q0), .second, .val (.int p1), .val (.int p2), .val (.int p3), .val (.ref b66), .unset, .unset, .unset, .unset, .unset, .unset, .unset, .unset, .unset, .unset] [])) st97 ?_
  obtain ⟨nn, h_nn⟩ : ∃ z : Int32, z = ((p1 &&& (15 : Int32)) % (9 : Int32)) := ⟨_, rfl⟩
  refine own_go (S' := T97.setTop (mkF m 94 #[.val (.long q0), .second, .val (.int p1), .val (.int p2), .val (.int p3), .val (.ref b66), .val (.int nn), .unset, .unset, .unset, .unset, .unset, .unset, .unset, .unset, .unset] [])) (fun target kt => ?_) ?_
  · subst h_nn
    show Steps p.tables e below (T97.setTop (mkF m 85 #[.val (.long q0), .second, .val (.int p1), .val (.int p2), .val (.int p3), .val (.ref b66), .unset, .unset, .unset, .unset, .unset, .unset, .unset, .unset, .unset, .unset] [])) _
    refine XS.iloadN X97.here hx rfl (hb hby at_85) rfl ?_
    show Steps p.tables e below (T97.setTop (mkF m 86 #[.val (.long q0), .second, .val (.int p1), .val (.int p2), .val (.int p3), .val (.ref b66), .unset, .unset, .unset, .unset, .unset, .unset, .unset, .unset, .unset, .unset] [(.int p1)])) _
    refine XS.bipush X97.here hx rfl (hb hby at_86) ?_
    show Steps p.tables e below (T97.setTop (mkF m 88 #[.val (.long q0), .second, .val (.int p1), .val (.int p2), .val (.int p3), .val (.ref b66), .unset, .unset, .unset, .unset, .unset, .unset, .unset, .unset, .unset, .unset] [(.int (15 : Int32)), (.int p1)])) _
    refine XS.iand X97.here hx rfl (hb hby at_88) rfl ?_
    show Steps p.tables e below (T97.setTop (mkF m 89 #[.val (.long q0), .second, .val (.int p1), .val (.int p2), .val (.int p3), .val (.ref b66), .unset, .unset, .unset, .unset, .unset, .unset, .unset, .unset, .unset, .unset] [(.int (p1 &&& (15 : Int32)))])) _
    refine XS.bipush X97.here hx rfl (hb hby at_89) ?_
    show Steps p.tables e below (T97.setTop (mkF m 91 #[.val (.long q0), .second, .val (.int p1), .val (.int p2), .val (.int p3), .val (.ref b66), .unset, .unset, .unset, .unset, .unset, .unset, .unset, .unset, .unset, .unset] [(.int (9 : Int32)), (.int (p1 &&& (15 : Int32)))])) _
    refine iremM (g := (mkF m 91 #[.val (.long q0), .second, .val (.int p1), .val (.int p2), .val (.int p3), .val (.ref b66), .unset, .unset, .unset, .unset, .unset, .unset, .unset, .unset, .unset, .unset] [(.int (9 : Int32)), (.int (p1 &&& (15 : Int32)))])) X97 hx rfl (hb hby at_91) rfl (by decide) ?_
    show Steps p.tables e below (T97.setTop (mkF m 92 #[.val (.long q0), .second, .val (.int p1), .val (.int p2), .val (.int p3), .val (.ref b66), .unset, .unset, .unset, .unset, .unset, .unset, .unset, .unset, .unset, .unset] [(.int ((p1 &&& (15 : Int32)) % (9 : Int32)))])) _
    refine XS.istore X97.here hx rfl (hb hby at_92) rfl (l' := #[.val (.long q0), .second, .val (.int p1), .val (.int p2), .val (.int p3), .val (.ref b66), .val (.int ((p1 &&& (15 : Int32)) % (9 : Int32))), .unset, .unset, .unset, .unset, .unset, .unset, .unset, .unset, .unset]) rfl ?_
    exact kt
  obtain ⟨gd, h_gd⟩ : ∃ z : Nat → Int32, z = (own_upd (own_upd (own_upd (own_upd (own_upd (own_upd (own_upd (own_upd (fun _ => 0) 0 (nar .byte ((q0.toInt32).toInt8.toInt32))) 1 (nar .byte (((own_ushrL q0 (8 : Int32)).toInt32).toInt8.toInt32))) 2 (nar .byte (((own_ushrL q0 (16 : Int32)).toInt32).toInt8.toInt32))) 3 (nar .byte (((own_ushrL q0 (24 : Int32)).toInt32).toInt8.toInt32))) 4 (nar .byte (((own_ushrL q0 (32 : Int32)).toInt32).toInt8.toInt32))) 5 (nar .byte (((own_ushrL q0 (40 : Int32)).toInt32).toInt8.toInt32))) 6 (nar .byte (((own_ushrL q0 (48 : Int32)).toInt32).toInt8.toInt32))) 7 (nar .byte (((own_ushrL q0 (56 : Int32)).toInt32).toInt8.toInt32))) := ⟨_, rfl⟩
  rw [← h_gd] at f98
  have hfd := own_fd h_gd
  obtain ⟨n, hn8, hnn⟩ := own_n h_nn
  have hb_nn : nn = (Int32.ofNat n) := hnn
  subst hb_nn
  obtain ⟨T100, h100, X100, e100, E100, A100, D100, -, st100⟩ := newO X97 hx hZ hown (hw _ (List.mem_of_getElem? (i := 1) rfl)) (hw _ (List.mem_of_getElem? (i := 2) rfl)) (hw _ (List.mem_of_getElem? (i := 3) rfl)) e97 (g := (mkF m 94 #[.val (.long q0), .second, .val (.int p1), .val (.int p2), .val (.int p3), .val (.ref b66), .val (.int (Int32.ofNat n)), .unset, .unset, .unset, .unset, .unset, .unset, .unset, .unset, .unset] [])) rfl (hb hby at_94) (by decide) (by decide)
  obtain ⟨b100, g100⟩ : ∃ z, z = h97.size := ⟨_, rfl⟩
  rw [← g100] at A100 D100 st100
  have f101 : Exa Z h100 b66 "[B" := f99.ext E100
  have f102 : own_AI Z h100 b66 .byte 8 gd := f98.ext E100
  have g_b100 : n0 ≤ b100 := Nat.le_trans Z97 (Nat.le_of_eq g100.symm)
  have ne_b66_b100 : b66 ≠ b100 := Nat.ne_of_lt (Nat.lt_of_lt_of_le f99.lt (Nat.le_of_eq g100.symm))
  have Z100 : n0 ≤ h100.size := Nat.le_trans Z97 E100.1
  have f103 : Fld Z h100 b100 "portwarden/transport/InputBuffer" "bytes" "[B" .null := D100 (Or.inl (hw _ (List.mem_of_getElem? (i := 11) rfl))) (ty := (.array .byte)) (by decide)
  have f104 : Fld Z h100 b100 "portwarden/transport/InputBuffer" "end" "I" (.int (0 : Int32)) := D100 (Or.inl (hw _ (List.mem_of_getElem? (i := 18) rfl))) (ty := .int) (by decide)
  have f105 : Fld Z h100 b100 "portwarden/transport/InputBuffer" "start" "I" (.int (0 : Int32)) := D100 (Or.inl (hw _ (List.mem_of_getElem? (i := 30) rfl))) (ty := .int) (by decide)
  refine own_go (S' := T100.setTop (mkF m 97 #[.val (.long q0), .second, .val (.int p1), .val (.int p2), .val (.int p3), .val (.ref b66), .val (.int (Int32.ofNat n)), .unset, .unset, .unset, .unset, .unset, .unset, .unset, .unset, .unset] [(.ref b100)])) st100 ?_
  refine own_go (S' := T100.setTop (mkF m 98 #[.val (.long q0), .second, .val (.int p1), .val (.int p2), .val (.int p3), .val (.ref b66), .val (.int (Int32.ofNat n)), .unset, .unset, .unset, .unset, .unset, .unset, .unset, .unset, .unset] [(.ref b100), (.ref b100)])) (fun target kt => ?_) ?_
  · skip
    show Steps p.tables e below (T100.setTop (mkF m 97 #[.val (.long q0), .second, .val (.int p1), .val (.int p2), .val (.int p3), .val (.ref b66), .val (.int (Int32.ofNat n)), .unset, .unset, .unset, .unset, .unset, .unset, .unset, .unset, .unset] [(.ref b100)])) _
    refine XS.dup X100.here hx rfl (hb hby at_97) rfl rfl ?_
    exact kt
  obtain ⟨_, _, ⟨T106, L106, k106, n106⟩, -, X106, ⟨Lc106, hQ106, l106, y106, z106⟩, st106⟩ := X100.specialBack hx (y := (⟨"portwarden/transport/InputBuffer", "<init>", "()V"⟩ : MethodName)) rfl hown (mvT hZ (hw _ (List.mem_of_getElem? (i := 4) rfl))) (mvT hZ (hw _ (List.mem_of_getElem? (i := 5) rfl))) (mvT hZ (hw _ (List.mem_of_getElem? (i := 6) rfl))) (by decide) (backOf (W := 1) (rm1 l Z aZ hw [] b100 h100 n0 Z100 A100 f103 f105 f104 g_b100) hZ (hw _ (List.mem_of_getElem? (i := 6) rfl)) (hw _ (List.mem_of_getElem? (i := 3) rfl)) (by decide) (by decide)) (g := (mkF m 98 #[.val (.long q0), .second, .val (.int p1), .val (.int p2), .val (.int p3), .val (.ref b66), .val (.int (Int32.ofNat n)), .unset, .unset, .unset, .unset, .unset, .unset, .unset, .unset, .unset] [(.ref b100), (.ref b100)])) rfl (by rw [hml]; rfl) (Steps.refl _) (a := b100) (argsL := []) (rest := [(.ref b100)]) (lenOf own_pd0 rfl) rfl (by show 2 * 0 + _ ≤ _; exact Nat.le_of_eq rfl) (hb hby at_98) (fun _ _ => ⟨rfl, e100, (by decide : 2 + 1 ≤ _), (by decide : 11 + 1024 ≤ _)⟩)
  dsimp only [Pt.U, Pt.locs, Pt.cells, Pt.slots] at X106 l106 y106 z106 st106 hQ106
  subst l106 y106 z106
  obtain ⟨b_106, rfl, N106q, K106q, f106_0, f106_1, f106_2, f106_3, f106_4, u106_0⟩ := hQ106
  have N106 := Fr.app N97 N106q
  have f107 : Exa Z T106.heap b66 "[B" := f101.keep K106q
  have f108 : own_AI Z T106.heap b66 .byte 8 gd := f102.keep K106q (ninS ne_b66_b100 nin0)
  have f109 : Exa Z T106.heap b100 "portwarden/transport/InputBuffer" := A100.keep K106q
  have Z106 : n0 ≤ T106.heap.size := Nat.le_trans Z100 K106q.1
  have g_b_106 : n0 ≤ b_106 := Nat.le_trans Z100 u106_0
  have ne_b66_b_106 : b66 ≠ b_106 := Nat.ne_of_lt (Nat.lt_of_lt_of_le f101.lt u106_0)
  have ne_b100_b_106 : b100 ≠ b_106 := Nat.ne_of_lt (Nat.lt_of_lt_of_le A100.lt u106_0)
  refine own_go (S' := T106.setTop (mkF m 101 #[.val (.long q0), .second, .val (.int p1), .val (.int p2), .val (.int p3), .val (.ref b66), .val (.int (Int32.ofNat n)), .unset, .unset, .unset, .unset, .unset, .unset, .unset, .unset, .unset] [(.ref b100)])) (fun _ k => st106.trans k) ?_
  refine own_go (S' := T106.setTop (mkF m 110 #[.val (.long q0), .second, .val (.int p1), .val (.int p2), .val (.int p3), .val (.ref b66), .val (.int (Int32.ofNat n)), .val (.ref b100), .unset, .unset, .unset, .unset, .unset, .unset, .unset, .unset] [(.int (Int32.ofNat n)), (.int (0 : Int32)), (.ref b66), (.ref b100)])) (fun target kt => ?_) ?_
  · skip
    show Steps p.tables e below (T106.setTop (mkF m 101 #[.val (.long q0), .second, .val (.int p1), .val (.int p2), .val (.int p3), .val (.ref b66), .val (.int (Int32.ofNat n)), .unset, .unset, .unset, .unset, .unset, .unset, .unset, .unset, .unset] [(.ref b100)])) _
    refine XS.astore X106.here hx rfl (hb hby at_101) rfl rfl (l' := #[.val (.long q0), .second, .val (.int p1), .val (.int p2), .val (.int p3), .val (.ref b66), .val (.int (Int32.ofNat n)), .val (.ref b100), .unset, .unset, .unset, .unset, .unset, .unset, .unset, .unset]) rfl ?_
    show Steps p.tables e below (T106.setTop (mkF m 103 #[.val (.long q0), .second, .val (.int p1), .val (.int p2), .val (.int p3), .val (.ref b66), .val (.int (Int32.ofNat n)), .val (.ref b100), .unset, .unset, .unset, .unset, .unset, .unset, .unset, .unset] [])) _
    refine XS.aload X106.here hx rfl (hb hby at_103) rfl rfl ?_
    show Steps p.tables e below (T106.setTop (mkF m 105 #[.val (.long q0), .second, .val (.int p1), .val (.int p2), .val (.int p3), .val (.ref b66), .val (.int (Int32.ofNat n)), .val (.ref b100), .unset, .unset, .unset, .unset, .unset, .unset, .unset, .unset] [(.ref b100)])) _
    refine XS.aload X106.here hx rfl (hb hby at_105) rfl rfl ?_
    show Steps p.tables e below (T106.setTop (mkF m 107 #[.val (.long q0), .second, .val (.int p1), .val (.int p2), .val (.int p3), .val (.ref b66), .val (.int (Int32.ofNat n)), .val (.ref b100), .unset, .unset, .unset, .unset, .unset, .unset, .unset, .unset] [(.ref b66), (.ref b100)])) _
    refine XS.iconst X106.here hx rfl (hb hby at_107) ?_
    show Steps p.tables e below (T106.setTop (mkF m 108 #[.val (.long q0), .second, .val (.int p1), .val (.int p2), .val (.int p3), .val (.ref b66), .val (.int (Int32.ofNat n)), .val (.ref b100), .unset, .unset, .unset, .unset, .unset, .unset, .unset, .unset] [(.int (0 : Int32)), (.ref b66), (.ref b100)])) _
    refine XS.iload X106.here hx rfl (hb hby at_108) rfl ?_
    exact kt
  obtain ⟨cq110, kq110, q110a, q110b, q110c⟩ := isOf hZ rfl f106_0
  obtain ⟨_, _, ⟨T110, L110, k110, n110⟩, -, X110, ⟨Lc110, hQ110, l110, y110, z110⟩, st110⟩ := X106.virtualBack hx (y := (⟨"portwarden/transport/InputBuffer", "append", "([BII)V"⟩ : MethodName)) (z := (⟨"portwarden/transport/InputBuffer", "append", "([BII)V"⟩ : MethodName)) hown (mvT hZ (hw _ (List.mem_of_getElem? (i := 12) rfl))) (mvT hZ (hw _ (List.mem_of_getElem? (i := 13) rfl))) (notFace_of_selects (args := #[]) (mvT hZ (hw _ (List.mem_of_getElem? (i := 15) rfl)))) (mvT hZ (hw _ (List.mem_of_getElem? (i := 15) rfl))) (mvT hZ (hw _ (List.mem_of_getElem? (i := 14) rfl))) (by decide) (backOf (W := 0) (rm3 l Z aZ hw [] b100 b66 n b_106 gd (fun _ => 0) T106.heap n0 Z106 f106_0 f106_1 f106_2 f106_3 f108 f106_4 g_b100 g_b_106 (hn8 : n ≤ 8) (hfd : ∀ i, i < 8 → fits .byte (.int (gd i)) = true) (own_fz : ∀ i, i < 1024 → fits .byte (.int ((fun _ => 0) i)) = true) ne_b100_b_106 (Ne.symm ne_b66_b100) ne_b66_b_106) hZ (hw _ (List.mem_of_getElem? (i := 16) rfl)) (hw _ (List.mem_of_getElem? (i := 3) rfl)) (by decide) (by decide)) q110a q110c (g := (mkF m 110 #[.val (.long q0), .second, .val (.int p1), .val (.int p2), .val (.int p3), .val (.ref b66), .val (.int (Int32.ofNat n)), .val (.ref b100), .unset, .unset, .unset, .unset, .unset, .unset, .unset, .unset] [(.int (Int32.ofNat n)), (.int (0 : Int32)), (.ref b66), (.ref b100)])) rfl (by rw [hml]; rfl) (Steps.refl _) (argsL := [(.ref b66), (.int (0 : Int32)), (.int (Int32.ofNat n))]) (rest := []) (lenOf own_pd4 rfl) rfl (by show 2 * 0 + _ ≤ _; exact Nat.le_of_eq rfl) (hb hby at_110) (fun _ _ => ⟨rfl, rfl, (by decide : 3 + 0 ≤ _), (by decide : 1035 + 0 ≤ _)⟩)
  dsimp only [Pt.U, Pt.locs, Pt.cells, Pt.slots] at X110 l110 y110 z110 st110 hQ110
  subst l110 y110 z110
  obtain ⟨rfl, N110q, K110q, f110_0, f110_1, f110_2, f110_3, f110_4⟩ := hQ110
  have N110 := Fr.app N106 N110q
  have f111 : Exa Z T110.heap b66 "[B" := f107.keep K110q
  have f112 : own_AI Z T110.heap b66 .byte 8 gd := f108.keep K110q (ninS ne_b66_b100 (ninS ne_b66_b_106 nin0))
  have f113 : Exa Z T110.heap b100 "portwarden/transport/InputBuffer" := f106_0.keep K110q
  have Z110 : n0 ≤ T110.heap.size := Nat.le_trans Z106 K110q.1
  refine own_go (S' := T110.setTop (mkF m 113 #[.val (.long q0), .second, .val (.int p1), .val (.int p2), .val (.int p3), .val (.ref b66), .val (.int (Int32.ofNat n)), .val (.ref b100), .unset, .unset, .unset, .unset, .unset, .unset, .unset, .unset] [])) (fun _ k => st110.trans k) ?_
  obtain ⟨c1, h_c1⟩ : ∃ z : Int32, z = ((p2 &&& (2147483647 : Int32)) % ((Int32.ofNat n) + (1 : Int32))) := ⟨_, rfl⟩
  refine own_go (S' := T110.setTop (mkF m 124 #[.val (.long q0), .second, .val (.int p1), .val (.int p2), .val (.int p3), .val (.ref b66), .val (.int (Int32.ofNat n)), .val (.ref b100), .val (.int c1), .unset, .unset, .unset, .unset, .unset, .unset, .unset] [])) (fun target kt => ?_) ?_
  · subst h_c1
    show Steps p.tables e below (T110.setTop (mkF m 113 #[.val (.long q0), .second, .val (.int p1), .val (.int p2), .val (.int p3), .val (.ref b66), .val (.int (Int32.ofNat n)), .val (.ref b100), .unset, .unset, .unset, .unset, .unset, .unset, .unset, .unset] [])) _
    refine XS.iloadN X110.here hx rfl (hb hby at_113) rfl ?_
    show Steps p.tables e below (T110.setTop (mkF m 114 #[.val (.long q0), .second, .val (.int p1), .val (.int p2), .val (.int p3), .val (.ref b66), .val (.int (Int32.ofNat n)), .val (.ref b100), .unset, .unset, .unset, .unset, .unset, .unset, .unset, .unset] [(.int p2)])) _
    refine X110.ldcInt hx hown (mvT hZ (hw _ (List.mem_of_getElem? (i := 23) rfl))) (g := (mkF m 114 #[.val (.long q0), .second, .val (.int p1), .val (.int p2), .val (.int p3), .val (.ref b66), .val (.int (Int32.ofNat n)), .val (.ref b100), .unset, .unset, .unset, .unset, .unset, .unset, .unset, .unset] [(.int p2)])) rfl (hb hby at_114) _ ?_
    show Steps p.tables e below (T110.setTop (mkF m 116 #[.val (.long q0), .second, .val (.int p1), .val (.int p2), .val (.int p3), .val (.ref b66), .val (.int (Int32.ofNat n)), .val (.ref b100), .unset, .unset, .unset, .unset, .unset, .unset, .unset, .unset] [(.int (2147483647 : Int32)), (.int p2)])) _
    refine XS.iand X110.here hx rfl (hb hby at_116) rfl ?_
    show Steps p.tables e below (T110.setTop (mkF m 117 #[.val (.long q0), .second, .val (.int p1), .val (.int p2), .val (.int p3), .val (.ref b66), .val (.int (Int32.ofNat n)), .val (.ref b100), .unset, .unset, .unset, .unset, .unset, .unset, .unset, .unset] [(.int (p2 &&& (2147483647 : Int32)))])) _
    refine XS.iload X110.here hx rfl (hb hby at_117) rfl ?_
    show Steps p.tables e below (T110.setTop (mkF m 119 #[.val (.long q0), .second, .val (.int p1), .val (.int p2), .val (.int p3), .val (.ref b66), .val (.int (Int32.ofNat n)), .val (.ref b100), .unset, .unset, .unset, .unset, .unset, .unset, .unset, .unset] [(.int (Int32.ofNat n)), (.int (p2 &&& (2147483647 : Int32)))])) _
    refine XS.iconst X110.here hx rfl (hb hby at_119) ?_
    show Steps p.tables e below (T110.setTop (mkF m 120 #[.val (.long q0), .second, .val (.int p1), .val (.int p2), .val (.int p3), .val (.ref b66), .val (.int (Int32.ofNat n)), .val (.ref b100), .unset, .unset, .unset, .unset, .unset, .unset, .unset, .unset] [(.int (1 : Int32)), (.int (Int32.ofNat n)), (.int (p2 &&& (2147483647 : Int32)))])) _
    refine XS.iadd X110.here hx rfl (hb hby at_120) rfl ?_
    show Steps p.tables e below (T110.setTop (mkF m 121 #[.val (.long q0), .second, .val (.int p1), .val (.int p2), .val (.int p3), .val (.ref b66), .val (.int (Int32.ofNat n)), .val (.ref b100), .unset, .unset, .unset, .unset, .unset, .unset, .unset, .unset] [(.int ((Int32.ofNat n) + (1 : Int32))), (.int (p2 &&& (2147483647 : Int32)))])) _
    refine iremM (g := (mkF m 121 #[.val (.long q0), .second, .val (.int p1), .val (.int p2), .val (.int p3), .val (.ref b66), .val (.int (Int32.ofNat n)), .val (.ref b100), .unset, .unset, .unset, .unset, .unset, .unset, .unset, .unset] [(.int ((Int32.ofNat n) + (1 : Int32))), (.int (p2 &&& (2147483647 : Int32)))])) X110 hx rfl (hb hby at_121) rfl (own_nz hn8) ?_
    show Steps p.tables e below (T110.setTop (mkF m 122 #[.val (.long q0), .second, .val (.int p1), .val (.int p2), .val (.int p3), .val (.ref b66), .val (.int (Int32.ofNat n)), .val (.ref b100), .unset, .unset, .unset, .unset, .unset, .unset, .unset, .unset] [(.int ((p2 &&& (2147483647 : Int32)) % ((Int32.ofNat n) + (1 : Int32))))])) _
    refine XS.istore X110.here hx rfl (hb hby at_122) rfl (l' := #[.val (.long q0), .second, .val (.int p1), .val (.int p2), .val (.int p3), .val (.ref b66), .val (.int (Int32.ofNat n)), .val (.ref b100), .val (.int ((p2 &&& (2147483647 : Int32)) % ((Int32.ofNat n) + (1 : Int32)))), .unset, .unset, .unset, .unset, .unset, .unset, .unset]) rfl ?_
    exact kt
  obtain ⟨c, hcn, hc1⟩ := own_c hn8 h_c1
  have hb_c1 : c1 = (Int32.ofNat c) := hc1
  subst hb_c1
  refine own_go (S' := T110.setTop (mkF m 128 #[.val (.long q0), .second, .val (.int p1), .val (.int p2), .val (.int p3), .val (.ref b66), .val (.int (Int32.ofNat n)), .val (.ref b100), .val (.int (Int32.ofNat c)), .unset, .unset, .unset, .unset, .unset, .unset, .unset] [(.int (Int32.ofNat c)), (.ref b100)])) (fun target kt => ?_) ?_
  · skip
    show Steps p.tables e below (T110.setTop (mkF m 124 #[.val (.long q0), .second, .val (.int p1), .val (.int p2), .val (.int p3), .val (.ref b66), .val (.int (Int32.ofNat n)), .val (.ref b100), .val (.int (Int32.ofNat c)), .unset, .unset, .unset, .unset, .unset, .unset, .unset] [])) _
    refine XS.aload X110.here hx rfl (hb hby at_124) rfl rfl ?_
    show Steps p.tables e below (T110.setTop (mkF m 126 #[.val (.long q0), .second, .val (.int p1), .val (.int p2), .val (.int p3), .val (.ref b66), .val (.int (Int32.ofNat n)), .val (.ref b100), .val (.int (Int32.ofNat c)), .unset, .unset, .unset, .unset, .unset, .unset, .unset] [(.ref b100)])) _
    refine XS.iload X110.here hx rfl (hb hby at_126) rfl ?_
    exact kt
  obtain ⟨cq114, kq114, q114a, q114b, q114c⟩ := isOf hZ rfl f110_0
  obtain ⟨_, _, ⟨T114, L114, k114, n114⟩, -, X114, ⟨Lc114, hQ114, l114, y114, z114⟩, st114⟩ := X110.virtualBack hx (y := (⟨"portwarden/transport/InputBuffer", "consume", "(I)V"⟩ : MethodName)) (z := (⟨"portwarden/transport/InputBuffer", "consume", "(I)V"⟩ : MethodName)) hown (mvT hZ (hw _ (List.mem_of_getElem? (i := 24) rfl))) (mvT hZ (hw _ (List.mem_of_getElem? (i := 25) rfl))) (notFace_of_selects (args := #[]) (mvT hZ (hw _ (List.mem_of_getElem? (i := 27) rfl)))) (mvT hZ (hw _ (List.mem_of_getElem? (i := 27) rfl))) (mvT hZ (hw _ (List.mem_of_getElem? (i := 26) rfl))) (by decide) (backOf (W := 0) (rm4 l Z aZ hw [] b100 (Int32.ofNat c) (0 : Int32) ((0 : Int32) + (Int32.ofNat n)) b_106 T110.heap n0 Z110 f110_0 f110_1 f110_2 f110_3 g_b100) hZ (hw _ (List.mem_of_getElem? (i := 28) rfl)) (hw _ (List.mem_of_getElem? (i := 3) rfl)) (by decide) (by decide)) q114a q114c (g := (mkF m 128 #[.val (.long q0), .second, .val (.int p1), .val (.int p2), .val (.int p3), .val (.ref b66), .val (.int (Int32.ofNat n)), .val (.ref b100), .val (.int (Int32.ofNat c)), .unset, .unset, .unset, .unset, .unset, .unset, .unset] [(.int (Int32.ofNat c)), (.ref b100)])) rfl (by rw [hml]; rfl) (Steps.refl _) (argsL := [(.int (Int32.ofNat c))]) (rest := []) (lenOf own_pd5 rfl) rfl (by show 2 * 0 + _ ≤ _; exact Nat.le_of_eq rfl) (hb hby at_128) (fun _ _ => ⟨rfl, rfl, (by decide : 3 + 0 ≤ _), (by decide : 1035 + 0 ≤ _)⟩)
  dsimp only [Pt.U, Pt.locs, Pt.cells, Pt.slots] at X114 l114 y114 z114 st114 hQ114
  subst l114 y114 z114
  obtain ⟨st1, en1, rfl, N114q, K114q, f114_0, f114_1, f114_2, f114_3, u114_0, u114_1⟩ := hQ114
  have N114 := Fr.app N110 N114q
  have f115 : Exa Z T114.heap b66 "[B" := f111.keep K114q
  have f116 : own_AI Z T114.heap b66 .byte 8 gd := f112.keep K114q (ninS ne_b66_b100 nin0)
  have f117 : Exa Z T114.heap b100 "portwarden/transport/InputBuffer" := f110_0.keep K114q
  have f118 : own_AI Z T114.heap b_106 .byte 1024 (own_cp gd n (fun _ => 0)) := f110_4.keep K114q (ninS (Ne.symm ne_b100_b_106) nin0)
  have Z114 : n0 ≤ T114.heap.size := Nat.le_trans Z110 K114q.1
  refine own_go (S' := T114.setTop (mkF m 131 #[.val (.long q0), .second, .val (.int p1), .val (.int p2), .val (.int p3), .val (.ref b66), .val (.int (Int32.ofNat n)), .val (.ref b100), .val (.int (Int32.ofNat c)), .unset, .unset, .unset, .unset, .unset, .unset, .unset] [])) (fun _ k => st114.trans k) ?_
  have h_st1 := u114_0
  have h_en1 := u114_1
  obtain ⟨S1, E1, hS1, hs1, he1⟩ := own_c1 hcn hn8 h_st1 h_en1
  obtain ⟨rem1, h_rem1⟩ : ∃ z : Int32, z = ((Int32.ofNat n) - (Int32.ofNat c)) := ⟨_, rfl⟩
  refine own_go (S' := T114.setTop (mkF m 138 #[.val (.long q0), .second, .val (.int p1), .val (.int p2), .val (.int p3), .val (.ref b66), .val (.int (Int32.ofNat n)), .val (.ref b100), .val (.int (Int32.ofNat c)), .val (.int rem1), .unset, .unset, .unset, .unset, .unset, .unset] [])) (fun target kt => ?_) ?_
  · subst h_rem1
    show Steps p.tables e below (T114.setTop (mkF m 131 #[.val (.long q0), .second, .val (.int p1), .val (.int p2), .val (.int p3), .val (.ref b66), .val (.int (Int32.ofNat n)), .val (.ref b100), .val (.int (Int32.ofNat c)), .unset, .unset, .unset, .unset, .unset, .unset, .unset] [])) _
    refine XS.iload X114.here hx rfl (hb hby at_131) rfl ?_
    show Steps p.tables e below (T114.setTop (mkF m 133 #[.val (.long q0), .second, .val (.int p1), .val (.int p2), .val (.int p3), .val (.ref b66), .val (.int (Int32.ofNat n)), .val (.ref b100), .val (.int (Int32.ofNat c)), .unset, .unset, .unset, .unset, .unset, .unset, .unset] [(.int (Int32.ofNat n))])) _
    refine XS.iload X114.here hx rfl (hb hby at_133) rfl ?_
    show Steps p.tables e below (T114.setTop (mkF m 135 #[.val (.long q0), .second, .val (.int p1), .val (.int p2), .val (.int p3), .val (.ref b66), .val (.int (Int32.ofNat n)), .val (.ref b100), .val (.int (Int32.ofNat c)), .unset, .unset, .unset, .unset, .unset, .unset, .unset] [(.int (Int32.ofNat c)), (.int (Int32.ofNat n))])) _
    refine XS.isub X114.here hx rfl (hb hby at_135) rfl ?_
    show Steps p.tables e below (T114.setTop (mkF m 136 #[.val (.long q0), .second, .val (.int p1), .val (.int p2), .val (.int p3), .val (.ref b66), .val (.int (Int32.ofNat n)), .val (.ref b100), .val (.int (Int32.ofNat c)), .unset, .unset, .unset, .unset, .unset, .unset, .unset] [(.int ((Int32.ofNat n) - (Int32.ofNat c)))])) _
    refine XS.istore X114.here hx rfl (hb hby at_136) rfl (l' := #[.val (.long q0), .second, .val (.int p1), .val (.int p2), .val (.int p3), .val (.ref b66), .val (.int (Int32.ofNat n)), .val (.ref b100), .val (.int (Int32.ofNat c)), .val (.int ((Int32.ofNat n) - (Int32.ofNat c))), .unset, .unset, .unset, .unset, .unset, .unset]) rfl ?_
    exact kt
  have hb_rem1 : rem1 = (Int32.ofNat (n - c)) := own_sub hcn hn8 h_rem1
  subst hb_rem1
  refine own_go (S' := T114.setTop (mkF m 140 #[.val (.long q0), .second, .val (.int p1), .val (.int p2), .val (.int p3), .val (.ref b66), .val (.int (Int32.ofNat n)), .val (.ref b100), .val (.int (Int32.ofNat c)), .val (.int (Int32.ofNat (n - c))), .unset, .unset, .unset, .unset, .unset, .unset] [(.ref b100)])) (fun target kt => ?_) ?_
  · skip
    show Steps p.tables e below (T114.setTop (mkF m 138 #[.val (.long q0), .second, .val (.int p1), .val (.int p2), .val (.int p3), .val (.ref b66), .val (.int (Int32.ofNat n)), .val (.ref b100), .val (.int (Int32.ofNat c)), .val (.int (Int32.ofNat (n - c))), .unset, .unset, .unset, .unset, .unset, .unset] [])) _
    refine XS.aload X114.here hx rfl (hb hby at_138) rfl rfl ?_
    exact kt
  obtain ⟨cq119, kq119, q119a, q119b, q119c⟩ := isOf hZ rfl f114_0
  obtain ⟨_, _, ⟨T119, L119, k119, n119⟩, -, X119, ⟨Lc119, hQ119, l119, y119, z119⟩, st119⟩ := X114.virtualBack hx (y := (⟨"portwarden/transport/InputBuffer", "available", "()I"⟩ : MethodName)) (z := (⟨"portwarden/transport/InputBuffer", "available", "()I"⟩ : MethodName)) hown (mvT hZ (hw _ (List.mem_of_getElem? (i := 31) rfl))) (mvT hZ (hw _ (List.mem_of_getElem? (i := 32) rfl))) (notFace_of_selects (args := #[]) (mvT hZ (hw _ (List.mem_of_getElem? (i := 34) rfl)))) (mvT hZ (hw _ (List.mem_of_getElem? (i := 34) rfl))) (mvT hZ (hw _ (List.mem_of_getElem? (i := 33) rfl))) (by decide) (backOf (W := 0) (rm5 l Z aZ hw [] b100 st1 en1 b_106 T114.heap n0 Z114 f114_1 f114_2 f114_3) hZ (hw _ (List.mem_of_getElem? (i := 35) rfl)) (hw _ (List.mem_of_getElem? (i := 3) rfl)) (by decide) (by decide)) q119a q119c (g := (mkF m 140 #[.val (.long q0), .second, .val (.int p1), .val (.int p2), .val (.int p3), .val (.ref b66), .val (.int (Int32.ofNat n)), .val (.ref b100), .val (.int (Int32.ofNat c)), .val (.int (Int32.ofNat (n - c))), .unset, .unset, .unset, .unset, .unset, .unset] [(.ref b100)])) rfl (by rw [hml]; rfl) (Steps.refl _) (argsL := []) (rest := []) (lenOf own_pd1 rfl) rfl (by show 2 * 0 + _ ≤ _; exact Nat.le_of_eq rfl) (hb hby at_140) (fun _ _ => ⟨rfl, rfl, (by decide : 3 + 0 ≤ _), (by decide : 1035 + 0 ≤ _)⟩)
  dsimp only [Pt.U, Pt.locs, Pt.cells, Pt.slots] at X119 l119 y119 z119 st119 hQ119
  subst l119 y119 z119
  obtain ⟨rfl, N119q, e119⟩ := hQ119
  have N119 := Fr.app N114 N119q
  refine own_go (S' := T119.setTop (mkF m 143 #[.val (.long q0), .second, .val (.int p1), .val (.int p2), .val (.int p3), .val (.ref b66), .val (.int (Int32.ofNat n)), .val (.ref b100), .val (.int (Int32.ofNat c)), .val (.int (Int32.ofNat (n - c))), .unset, .unset, .unset, .unset, .unset, .unset] [(.int (en1 - st1))])) (fun _ k => st119.trans k) ?_
  refine own_go (S' := T119.setTop (mkF m 152 #[.val (.long q0), .second, .val (.int p1), .val (.int p2), .val (.int p3), .val (.ref b66), .val (.int (Int32.ofNat n)), .val (.ref b100), .val (.int (Int32.ofNat c)), .val (.int (Int32.ofNat (n - c))), .unset, .unset, .unset, .unset, .unset, .unset] [(.ref b100)])) (fun target kt => ?_) ?_
  · skip
    show Steps p.tables e below (T119.setTop (mkF m 143 #[.val (.long q0), .second, .val (.int p1), .val (.int p2), .val (.int p3), .val (.ref b66), .val (.int (Int32.ofNat n)), .val (.ref b100), .val (.int (Int32.ofNat c)), .val (.int (Int32.ofNat (n - c))), .unset, .unset, .unset, .unset, .unset, .unset] [(.int (en1 - st1))])) _
    refine XS.iload X119.here hx rfl (hb hby at_143) rfl ?_
    show Steps p.tables e below (T119.setTop (mkF m 145 #[.val (.long q0), .second, .val (.int p1), .val (.int p2), .val (.int p3), .val (.ref b66), .val (.int (Int32.ofNat n)), .val (.ref b100), .val (.int (Int32.ofNat c)), .val (.int (Int32.ofNat (n - c))), .unset, .unset, .unset, .unset, .unset, .unset] [(.int (Int32.ofNat (n - c))), (.int (en1 - st1))])) _
    refine XS.icmpYes X119.here hx rfl (pc0 := 145) (pc' := 150) rfl (hb hby at_145) rfl (teq (own_a1 hcn hn8 hS1 hs1 he1 : (en1 - st1) = (Int32.ofNat (n - c)))).1 (by decide) (by decide) ?_
    show Steps p.tables e below (T119.setTop (mkF m 150 #[.val (.long q0), .second, .val (.int p1), .val (.int p2), .val (.int p3), .val (.ref b66), .val (.int (Int32.ofNat n)), .val (.ref b100), .val (.int (Int32.ofNat c)), .val (.int (Int32.ofNat (n - c))), .unset, .unset, .unset, .unset, .unset, .unset] [])) _
    refine XS.aload X119.here hx rfl (hb hby at_150) rfl rfl ?_
    exact kt
  obtain ⟨cq120, kq120, q120a, q120b, q120c⟩ := isOf hZ e119 f114_0
  obtain ⟨_, _, ⟨T120, L120, k120, n120⟩, -, X120, ⟨Lc120, hQ120, l120, y120, z120⟩, st120⟩ := X119.virtualBack hx (y := (⟨"portwarden/transport/InputBuffer", "start", "()I"⟩ : MethodName)) (z := (⟨"portwarden/transport/InputBuffer", "start", "()I"⟩ : MethodName)) hown (mvT hZ (hw _ (List.mem_of_getElem? (i := 36) rfl))) (mvT hZ (hw _ (List.mem_of_getElem? (i := 37) rfl))) (notFace_of_selects (args := #[]) (mvT hZ (hw _ (List.mem_of_getElem? (i := 39) rfl)))) (mvT hZ (hw _ (List.mem_of_getElem? (i := 39) rfl))) (mvT hZ (hw _ (List.mem_of_getElem? (i := 38) rfl))) (by decide) (backOf (W := 0) (rm6 l Z aZ hw [] b100 st1 en1 b_106 T114.heap n0 Z114 f114_1 f114_2 f114_3) hZ (hw _ (List.mem_of_getElem? (i := 40) rfl)) (hw _ (List.mem_of_getElem? (i := 3) rfl)) (by decide) (by decide)) q120a q120c (g := (mkF m 152 #[.val (.long q0), .second, .val (.int p1), .val (.int p2), .val (.int p3), .val (.ref b66), .val (.int (Int32.ofNat n)), .val (.ref b100), .val (.int (Int32.ofNat c)), .val (.int (Int32.ofNat (n - c))), .unset, .unset, .unset, .unset, .unset, .unset] [(.ref b100)])) rfl (by rw [hml]; rfl) (Steps.refl _) (argsL := []) (rest := []) (lenOf own_pd1 rfl) rfl (by show 2 * 0 + _ ≤ _; exact Nat.le_of_eq rfl) (hb hby at_152) (fun _ _ => ⟨rfl, e119, (by decide : 3 + 0 ≤ _), (by decide : 1035 + 0 ≤ _)⟩)
  dsimp only [Pt.U, Pt.locs, Pt.cells, Pt.slots] at X120 l120 y120 z120 st120 hQ120
  subst l120 y120 z120
  obtain ⟨rfl, N120q, e120⟩ := hQ120
  have N120 := Fr.app N119 N120q
  refine own_go (S' := T120.setTop (mkF m 155 #[.val (.long q0), .second, .val (.int p1), .val (.int p2), .val (.int p3), .val (.ref b66), .val (.int (Int32.ofNat n)), .val (.ref b100), .val (.int (Int32.ofNat c)), .val (.int (Int32.ofNat (n - c))), .unset, .unset, .unset, .unset, .unset, .unset] [(.int st1)])) (fun _ k => st120.trans k) ?_
  refine own_go (S' := T120.setTop (mkF m 159 #[.val (.long q0), .second, .val (.int p1), .val (.int p2), .val (.int p3), .val (.ref b66), .val (.int (Int32.ofNat n)), .val (.ref b100), .val (.int (Int32.ofNat c)), .val (.int (Int32.ofNat (n - c))), .val (.int st1), .unset, .unset, .unset, .unset, .unset] [(.int (Int32.ofNat (n - c)))])) (fun target kt => ?_) ?_
  · skip
    show Steps p.tables e below (T120.setTop (mkF m 155 #[.val (.long q0), .second, .val (.int p1), .val (.int p2), .val (.int p3), .val (.ref b66), .val (.int (Int32.ofNat n)), .val (.ref b100), .val (.int (Int32.ofNat c)), .val (.int (Int32.ofNat (n - c))), .unset, .unset, .unset, .unset, .unset, .unset] [(.int st1)])) _
    refine XS.istore X120.here hx rfl (hb hby at_155) rfl (l' := #[.val (.long q0), .second, .val (.int p1), .val (.int p2), .val (.int p3), .val (.ref b66), .val (.int (Int32.ofNat n)), .val (.ref b100), .val (.int (Int32.ofNat c)), .val (.int (Int32.ofNat (n - c))), .val (.int st1), .unset, .unset, .unset, .unset, .unset]) rfl ?_
    show Steps p.tables e below (T120.setTop (mkF m 157 #[.val (.long q0), .second, .val (.int p1), .val (.int p2), .val (.int p3), .val (.ref b66), .val (.int (Int32.ofNat n)), .val (.ref b100), .val (.int (Int32.ofNat c)), .val (.int (Int32.ofNat (n - c))), .val (.int st1), .unset, .unset, .unset, .unset, .unset] [])) _
    refine XS.iload X120.here hx rfl (hb hby at_157) rfl ?_
    exact kt
  obtain ⟨exp1, h_exp1⟩ : ∃ z : Int32, z = (if (Int32.ofNat (n - c)) = (0 : Int32) then (0 : Int32) else (Int32.ofNat c)) := ⟨_, rfl⟩
  refine own_go (S' := T120.setTop (mkF m 168 #[.val (.long q0), .second, .val (.int p1), .val (.int p2), .val (.int p3), .val (.ref b66), .val (.int (Int32.ofNat n)), .val (.ref b100), .val (.int (Int32.ofNat c)), .val (.int (Int32.ofNat (n - c))), .val (.int st1), .unset, .unset, .unset, .unset, .unset] [(.int exp1)])) (fun target kt => ?_) ?_
  · skip
    by_cases hm159 : (Int32.ofNat (n - c)) = (0 : Int32)
    · skip
      show Steps p.tables e below (T120.setTop (mkF m 159 #[.val (.long q0), .second, .val (.int p1), .val (.int p2), .val (.int p3), .val (.ref b66), .val (.int (Int32.ofNat n)), .val (.ref b100), .val (.int (Int32.ofNat c)), .val (.int (Int32.ofNat (n - c))), .val (.int st1), .unset, .unset, .unset, .unset, .unset] [(.int (Int32.ofNat (n - c)))])) _
      refine XS.ifNo X120.here hx rfl (hb hby at_159) rfl ((if0 _ _).trans (teq hm159).2) ?_
      show Steps p.tables e below (T120.setTop (mkF m 162 #[.val (.long q0), .second, .val (.int p1), .val (.int p2), .val (.int p3), .val (.ref b66), .val (.int (Int32.ofNat n)), .val (.ref b100), .val (.int (Int32.ofNat c)), .val (.int (Int32.ofNat (n - c))), .val (.int st1), .unset, .unset, .unset, .unset, .unset] [])) _
      refine XS.iconst X120.here hx rfl (hb hby at_162) ?_
      show Steps p.tables e below (T120.setTop (mkF m 163 #[.val (.long q0), .second, .val (.int p1), .val (.int p2), .val (.int p3), .val (.ref b66), .val (.int (Int32.ofNat n)), .val (.ref b100), .val (.int (Int32.ofNat c)), .val (.int (Int32.ofNat (n - c))), .val (.int st1), .unset, .unset, .unset, .unset, .unset] [(.int (0 : Int32))])) _
      refine XS.goto X120.here hx rfl (pc0 := 163) (pc' := 168) rfl (hb hby at_163) (by decide) (by decide) ?_
      rw [h_exp1, if_pos hm159] at kt
      exact kt
    · skip
      show Steps p.tables e below (T120.setTop (mkF m 159 #[.val (.long q0), .second, .val (.int p1), .val (.int p2), .val (.int p3), .val (.ref b66), .val (.int (Int32.ofNat n)), .val (.ref b100), .val (.int (Int32.ofNat c)), .val (.int (Int32.ofNat (n - c))), .val (.int st1), .unset, .unset, .unset, .unset, .unset] [(.int (Int32.ofNat (n - c)))])) _
      refine XS.ifYes X120.here hx rfl (pc0 := 159) (pc' := 166) rfl (hb hby at_159) rfl ((if0 _ _).trans (feq hm159).2) (by decide) (by decide) ?_
      show Steps p.tables e below (T120.setTop (mkF m 166 #[.val (.long q0), .second, .val (.int p1), .val (.int p2), .val (.int p3), .val (.ref b66), .val (.int (Int32.ofNat n)), .val (.ref b100), .val (.int (Int32.ofNat c)), .val (.int (Int32.ofNat (n - c))), .val (.int st1), .unset, .unset, .unset, .unset, .unset] [])) _
      refine XS.iload X120.here hx rfl (hb hby at_166) rfl ?_
      rw [h_exp1, if_neg hm159] at kt
      exact kt
  refine own_go (S' := T120.setTop (mkF m 181 #[.val (.long q0), .second, .val (.int p1), .val (.int p2), .val (.int p3), .val (.ref b66), .val (.int (Int32.ofNat n)), .val (.ref b100), .val (.int (Int32.ofNat c)), .val (.int (Int32.ofNat (n - c))), .val (.int st1), .val (.int exp1), .unset, .unset, .unset, .unset] [(.ref b100)])) (fun target kt => ?_) ?_
  · skip
    show Steps p.tables e below (T120.setTop (mkF m 168 #[.val (.long q0), .second, .val (.int p1), .val (.int p2), .val (.int p3), .val (.ref b66), .val (.int (Int32.ofNat n)), .val (.ref b100), .val (.int (Int32.ofNat c)), .val (.int (Int32.ofNat (n - c))), .val (.int st1), .unset, .unset, .unset, .unset, .unset] [(.int exp1)])) _
    refine XS.istore X120.here hx rfl (hb hby at_168) rfl (l' := #[.val (.long q0), .second, .val (.int p1), .val (.int p2), .val (.int p3), .val (.ref b66), .val (.int (Int32.ofNat n)), .val (.ref b100), .val (.int (Int32.ofNat c)), .val (.int (Int32.ofNat (n - c))), .val (.int st1), .val (.int exp1), .unset, .unset, .unset, .unset]) rfl ?_
    show Steps p.tables e below (T120.setTop (mkF m 170 #[.val (.long q0), .second, .val (.int p1), .val (.int p2), .val (.int p3), .val (.ref b66), .val (.int (Int32.ofNat n)), .val (.ref b100), .val (.int (Int32.ofNat c)), .val (.int (Int32.ofNat (n - c))), .val (.int st1), .val (.int exp1), .unset, .unset, .unset, .unset] [])) _
    refine XS.iload X120.here hx rfl (hb hby at_170) rfl ?_
    show Steps p.tables e below (T120.setTop (mkF m 172 #[.val (.long q0), .second, .val (.int p1), .val (.int p2), .val (.int p3), .val (.ref b66), .val (.int (Int32.ofNat n)), .val (.ref b100), .val (.int (Int32.ofNat c)), .val (.int (Int32.ofNat (n - c))), .val (.int st1), .val (.int exp1), .unset, .unset, .unset, .unset] [(.int st1)])) _
    refine XS.iload X120.here hx rfl (hb hby at_172) rfl ?_
    show Steps p.tables e below (T120.setTop (mkF m 174 #[.val (.long q0), .second, .val (.int p1), .val (.int p2), .val (.int p3), .val (.ref b66), .val (.int (Int32.ofNat n)), .val (.ref b100), .val (.int (Int32.ofNat c)), .val (.int (Int32.ofNat (n - c))), .val (.int st1), .val (.int exp1), .unset, .unset, .unset, .unset] [(.int exp1), (.int st1)])) _
    refine XS.icmpYes X120.here hx rfl (pc0 := 174) (pc' := 179) rfl (hb hby at_174) rfl (teq (own_b1 hcn hn8 hS1 hs1 rfl h_exp1 : st1 = exp1)).1 (by decide) (by decide) ?_
    show Steps p.tables e below (T120.setTop (mkF m 179 #[.val (.long q0), .second, .val (.int p1), .val (.int p2), .val (.int p3), .val (.ref b66), .val (.int (Int32.ofNat n)), .val (.ref b100), .val (.int (Int32.ofNat c)), .val (.int (Int32.ofNat (n - c))), .val (.int st1), .val (.int exp1), .unset, .unset, .unset, .unset] [])) _
    refine XS.aload X120.here hx rfl (hb hby at_179) rfl rfl ?_
    exact kt
  obtain ⟨cq121, kq121, q121a, q121b, q121c⟩ := isOf hZ e120 f114_0
  obtain ⟨_, _, ⟨T121, L121, k121, n121⟩, -, X121, ⟨Lc121, hQ121, l121, y121, z121⟩, st121⟩ := X120.virtualBack hx (y := (⟨"portwarden/transport/InputBuffer", "array", "()[B"⟩ : MethodName)) (z := (⟨"portwarden/transport/InputBuffer", "array", "()[B"⟩ : MethodName)) hown (mvT hZ (hw _ (List.mem_of_getElem? (i := 41) rfl))) (mvT hZ (hw _ (List.mem_of_getElem? (i := 42) rfl))) (notFace_of_selects (args := #[]) (mvT hZ (hw _ (List.mem_of_getElem? (i := 44) rfl)))) (mvT hZ (hw _ (List.mem_of_getElem? (i := 44) rfl))) (mvT hZ (hw _ (List.mem_of_getElem? (i := 43) rfl))) (by decide) (backOf (W := 0) (rm7 l Z aZ hw [] b100 st1 en1 b_106 T114.heap n0 Z114 f114_1 f114_2 f114_3) hZ (hw _ (List.mem_of_getElem? (i := 45) rfl)) (hw _ (List.mem_of_getElem? (i := 3) rfl)) (by decide) (by decide)) q121a q121c (g := (mkF m 181 #[.val (.long q0), .second, .val (.int p1), .val (.int p2), .val (.int p3), .val (.ref b66), .val (.int (Int32.ofNat n)), .val (.ref b100), .val (.int (Int32.ofNat c)), .val (.int (Int32.ofNat (n - c))), .val (.int st1), .val (.int exp1), .unset, .unset, .unset, .unset] [(.ref b100)])) rfl (by rw [hml]; rfl) (Steps.refl _) (argsL := []) (rest := []) (lenOf own_pd6 rfl) rfl (by show 2 * 0 + _ ≤ _; exact Nat.le_of_eq rfl) (hb hby at_181) (fun _ _ => ⟨rfl, e120, (by decide : 3 + 0 ≤ _), (by decide : 1035 + 0 ≤ _)⟩)
  dsimp only [Pt.U, Pt.locs, Pt.cells, Pt.slots] at X121 l121 y121 z121 st121 hQ121
  subst l121 y121 z121
  obtain ⟨rfl, N121q, e121⟩ := hQ121
  have N121 := Fr.app N120 N121q
  refine own_go (S' := T121.setTop (mkF m 184 #[.val (.long q0), .second, .val (.int p1), .val (.int p2), .val (.int p3), .val (.ref b66), .val (.int (Int32.ofNat n)), .val (.ref b100), .val (.int (Int32.ofNat c)), .val (.int (Int32.ofNat (n - c))), .val (.int st1), .val (.int exp1), .unset, .unset, .unset, .unset] [(.ref b_106)])) (fun _ k => st121.trans k) ?_
  refine own_go (S' := T121.setTop (mkF m 192 #[.val (.long q0), .second, .val (.int p1), .val (.int p2), .val (.int p3), .val (.ref b66), .val (.int (Int32.ofNat n)), .val (.ref b100), .val (.int (Int32.ofNat c)), .val (.int (Int32.ofNat (n - c))), .val (.int st1), .val (.int exp1), .unset, .unset, .unset, .unset] [(.int (Int32.ofNat (n - c))), (.int (Int32.ofNat c)), (.ref b66), (.int st1), (.ref b_106)])) (fun target kt => ?_) ?_
  · skip
    show Steps p.tables e below (T121.setTop (mkF m 184 #[.val (.long q0), .second, .val (.int p1), .val (.int p2), .val (.int p3), .val (.ref b66), .val (.int (Int32.ofNat n)), .val (.ref b100), .val (.int (Int32.ofNat c)), .val (.int (Int32.ofNat (n - c))), .val (.int st1), .val (.int exp1), .unset, .unset, .unset, .unset] [(.ref b_106)])) _
    refine XS.iload X121.here hx rfl (hb hby at_184) rfl ?_
    show Steps p.tables e below (T121.setTop (mkF m 186 #[.val (.long q0), .second, .val (.int p1), .val (.int p2), .val (.int p3), .val (.ref b66), .val (.int (Int32.ofNat n)), .val (.ref b100), .val (.int (Int32.ofNat c)), .val (.int (Int32.ofNat (n - c))), .val (.int st1), .val (.int exp1), .unset, .unset, .unset, .unset] [(.int st1), (.ref b_106)])) _
    refine XS.aload X121.here hx rfl (hb hby at_186) rfl rfl ?_
    show Steps p.tables e below (T121.setTop (mkF m 188 #[.val (.long q0), .second, .val (.int p1), .val (.int p2), .val (.int p3), .val (.ref b66), .val (.int (Int32.ofNat n)), .val (.ref b100), .val (.int (Int32.ofNat c)), .val (.int (Int32.ofNat (n - c))), .val (.int st1), .val (.int exp1), .unset, .unset, .unset, .unset] [(.ref b66), (.int st1), (.ref b_106)])) _
    refine XS.iload X121.here hx rfl (hb hby at_188) rfl ?_
    show Steps p.tables e below (T121.setTop (mkF m 190 #[.val (.long q0), .second, .val (.int p1), .val (.int p2), .val (.int p3), .val (.ref b66), .val (.int (Int32.ofNat n)), .val (.ref b100), .val (.int (Int32.ofNat c)), .val (.int (Int32.ofNat (n - c))), .val (.int st1), .val (.int exp1), .unset, .unset, .unset, .unset] [(.int (Int32.ofNat c)), (.ref b66), (.int st1), (.ref b_106)])) _
    refine XS.iload X121.here hx rfl (hb hby at_190) rfl ?_
    exact kt
  obtain ⟨_, _, ⟨T122, L122, k122, n122⟩, -, X122, ⟨Lc122, hQ122, l122, y122, z122⟩, st122⟩ := Jvm.LawKit.callS X121 hx (y := (⟨"portwarden/transport/InputBufferConsumePinLaw", "same", "([BI[BII)Z"⟩ : MethodName)) hown (mvT hZ (hw _ (List.mem_of_getElem? (i := 46) rfl))) (mvT hZ (hw _ (List.mem_of_getElem? (i := 47) rfl))) (mvT hZ (hw _ (List.mem_of_getElem? (i := 48) rfl))) (mvT hZ (hw _ (List.mem_of_getElem? (i := 49) rfl))) (by decide) (backOf (W := 0) (rm8 l Z aZ hw [] b_106 st1 b66 (Int32.ofNat c) (Int32.ofNat (n - c)) (own_cp gd n (fun _ => 0)) gd T114.heap n0 Z114 f118 f116 (own_s1 hcn hn8 hS1 hs1 rfl : own_same (own_cp gd n (fun _ => 0)) gd st1 (Int32.ofNat c) (Int32.ofNat (n - c)))) hZ (hw _ (List.mem_of_getElem? (i := 49) rfl)) (hw _ (List.mem_of_getElem? (i := 48) rfl)) (by decide) (by decide)) (g := (mkF m 192 #[.val (.long q0), .second, .val (.int p1), .val (.int p2), .val (.int p3), .val (.ref b66), .val (.int (Int32.ofNat n)), .val (.ref b100), .val (.int (Int32.ofNat c)), .val (.int (Int32.ofNat (n - c))), .val (.int st1), .val (.int exp1), .unset, .unset, .unset, .unset] [(.int (Int32.ofNat (n - c))), (.int (Int32.ofNat c)), (.ref b66), (.int st1), (.ref b_106)])) rfl (by rw [hml]; rfl) (argsL := [(.ref b_106), (.int st1), (.ref b66), (.int (Int32.ofNat c)), (.int (Int32.ofNat (n - c)))]) (rest := []) (lenOf own_pd7 rfl) rfl (by show 2 * 0 + _ ≤ _; exact Nat.le_of_eq rfl) (hb hby at_192) (fun _ _ => ⟨rfl, e121, (by decide : 3 + 0 ≤ _), (by decide : 1035 + 0 ≤ _)⟩)
  dsimp only [Pt.U, Pt.locs, Pt.cells, Pt.slots] at X122 l122 y122 z122 st122 hQ122
  subst l122 y122 z122
  obtain ⟨rfl, N122q, e122⟩ := hQ122
  have N122 := Fr.app N121 N122q
  refine own_go (S' := T122.setTop (mkF m 195 #[.val (.long q0), .second, .val (.int p1), .val (.int p2), .val (.int p3), .val (.ref b66), .val (.int (Int32.ofNat n)), .val (.ref b100), .val (.int (Int32.ofNat c)), .val (.int (Int32.ofNat (n - c))), .val (.int st1), .val (.int exp1), .unset, .unset, .unset, .unset] [(.int (1 : Int32))])) st122 ?_
  obtain ⟨c2, h_c2⟩ : ∃ z : Int32, z = ((p3 &&& (2147483647 : Int32)) % ((Int32.ofNat (n - c)) + (1 : Int32))) := ⟨_, rfl⟩
  refine own_go (S' := T122.setTop (mkF m 212 #[.val (.long q0), .second, .val (.int p1), .val (.int p2), .val (.int p3), .val (.ref b66), .val (.int (Int32.ofNat n)), .val (.ref b100), .val (.int (Int32.ofNat c)), .val (.int (Int32.ofNat (n - c))), .val (.int st1), .val (.int exp1), .val (.int c2), .unset, .unset, .unset] [])) (fun target kt => ?_) ?_
  · subst h_c2
    show Steps p.tables e below (T122.setTop (mkF m 195 #[.val (.long q0), .second, .val (.int p1), .val (.int p2), .val (.int p3), .val (.ref b66), .val (.int (Int32.ofNat n)), .val (.ref b100), .val (.int (Int32.ofNat c)), .val (.int (Int32.ofNat (n - c))), .val (.int st1), .val (.int exp1), .unset, .unset, .unset, .unset] [(.int (1 : Int32))])) _
    refine XS.ifYes X122.here hx rfl (pc0 := 195) (pc' := 200) rfl (hb hby at_195) rfl ((if0 _ _).trans (feq (by decide : ¬ ((1 : Int32) = (0 : Int32)))).2) (by decide) (by decide) ?_
    show Steps p.tables e below (T122.setTop (mkF m 200 #[.val (.long q0), .second, .val (.int p1), .val (.int p2), .val (.int p3), .val (.ref b66), .val (.int (Int32.ofNat n)), .val (.ref b100), .val (.int (Int32.ofNat c)), .val (.int (Int32.ofNat (n - c))), .val (.int st1), .val (.int exp1), .unset, .unset, .unset, .unset] [])) _
    refine XS.iload X122.here hx rfl (hb hby at_200) rfl ?_
    show Steps p.tables e below (T122.setTop (mkF m 202 #[.val (.long q0), .second, .val (.int p1), .val (.int p2), .val (.int p3), .val (.ref b66), .val (.int (Int32.ofNat n)), .val (.ref b100), .val (.int (Int32.ofNat c)), .val (.int (Int32.ofNat (n - c))), .val (.int st1), .val (.int exp1), .unset, .unset, .unset, .unset] [(.int p3)])) _
    refine X122.ldcInt hx hown (mvT hZ (hw _ (List.mem_of_getElem? (i := 23) rfl))) (g := (mkF m 202 #[.val (.long q0), .second, .val (.int p1), .val (.int p2), .val (.int p3), .val (.ref b66), .val (.int (Int32.ofNat n)), .val (.ref b100), .val (.int (Int32.ofNat c)), .val (.int (Int32.ofNat (n - c))), .val (.int st1), .val (.int exp1), .unset, .unset, .unset, .unset] [(.int p3)])) rfl (hb hby at_202) _ ?_
    show Steps p.tables e below (T122.setTop (mkF m 204 #[.val (.long q0), .second, .val (.int p1), .val (.int p2), .val (.int p3), .val (.ref b66), .val (.int (Int32.ofNat n)), .val (.ref b100), .val (.int (Int32.ofNat c)), .val (.int (Int32.ofNat (n - c))), .val (.int st1), .val (.int exp1), .unset, .unset, .unset, .unset] [(.int (2147483647 : Int32)), (.int p3)])) _
    refine XS.iand X122.here hx rfl (hb hby at_204) rfl ?_
    show Steps p.tables e below (T122.setTop (mkF m 205 #[.val (.long q0), .second, .val (.int p1), .val (.int p2), .val (.int p3), .val (.ref b66), .val (.int (Int32.ofNat n)), .val (.ref b100), .val (.int (Int32.ofNat c)), .val (.int (Int32.ofNat (n - c))), .val (.int st1), .val (.int exp1), .unset, .unset, .unset, .unset] [(.int (p3 &&& (2147483647 : Int32)))])) _
    refine XS.iload X122.here hx rfl (hb hby at_205) rfl ?_
    show Steps p.tables e below (T122.setTop (mkF m 207 #[.val (.long q0), .second, .val (.int p1), .val (.int p2), .val (.int p3), .val (.ref b66), .val (.int (Int32.ofNat n)), .val (.ref b100), .val (.int (Int32.ofNat c)), .val (.int (Int32.ofNat (n - c))), .val (.int st1), .val (.int exp1), .unset, .unset, .unset, .unset] [(.int (Int32.ofNat (n - c))), (.int (p3 &&& (2147483647 : Int32)))])) _
    refine XS.iconst X122.here hx rfl (hb hby at_207) ?_
    show Steps p.tables e below (T122.setTop (mkF m 208 #[.val (.long q0), .second, .val (.int p1), .val (.int p2), .val (.int p3), .val (.ref b66), .val (.int (Int32.ofNat n)), .val (.ref b100), .val (.int (Int32.ofNat c)), .val (.int (Int32.ofNat (n - c))), .val (.int st1), .val (.int exp1), .unset, .unset, .unset, .unset] [(.int (1 : Int32)), (.int (Int32.ofNat (n - c))), (.int (p3 &&& (2147483647 : Int32)))])) _
    refine XS.iadd X122.here hx rfl (hb hby at_208) rfl ?_
    show Steps p.tables e below (T122.setTop (mkF m 209 #[.val (.long q0), .second, .val (.int p1), .val (.int p2), .val (.int p3), .val (.ref b66), .val (.int (Int32.ofNat n)), .val (.ref b100), .val (.int (Int32.ofNat c)), .val (.int (Int32.ofNat (n - c))), .val (.int st1), .val (.int exp1), .unset, .unset, .unset, .unset] [(.int ((Int32.ofNat (n - c)) + (1 : Int32))), (.int (p3 &&& (2147483647 : Int32)))])) _
    refine iremM (g := (mkF m 209 #[.val (.long q0), .second, .val (.int p1), .val (.int p2), .val (.int p3), .val (.ref b66), .val (.int (Int32.ofNat n)), .val (.ref b100), .val (.int (Int32.ofNat c)), .val (.int (Int32.ofNat (n - c))), .val (.int st1), .val (.int exp1), .unset, .unset, .unset, .unset] [(.int ((Int32.ofNat (n - c)) + (1 : Int32))), (.int (p3 &&& (2147483647 : Int32)))])) X122 hx rfl (hb hby at_209) rfl (own_nz (show n - c ≤ 8 by omega)) ?_
    show Steps p.tables e below (T122.setTop (mkF m 210 #[.val (.long q0), .second, .val (.int p1), .val (.int p2), .val (.int p3), .val (.ref b66), .val (.int (Int32.ofNat n)), .val (.ref b100), .val (.int (Int32.ofNat c)), .val (.int (Int32.ofNat (n - c))), .val (.int st1), .val (.int exp1), .unset, .unset, .unset, .unset] [(.int ((p3 &&& (2147483647 : Int32)) % ((Int32.ofNat (n - c)) + (1 : Int32))))])) _
    refine XS.istore X122.here hx rfl (hb hby at_210) rfl (l' := #[.val (.long q0), .second, .val (.int p1), .val (.int p2), .val (.int p3), .val (.ref b66), .val (.int (Int32.ofNat n)), .val (.ref b100), .val (.int (Int32.ofNat c)), .val (.int (Int32.ofNat (n - c))), .val (.int st1), .val (.int exp1), .val (.int ((p3 &&& (2147483647 : Int32)) % ((Int32.ofNat (n - c)) + (1 : Int32)))), .unset, .unset, .unset]) rfl ?_
    exact kt
  obtain ⟨d, hdn, hc2⟩ := own_c (show n - c ≤ 8 by omega) h_c2
  have hb_c2 : c2 = (Int32.ofNat d) := hc2
  subst hb_c2
  refine own_go (S' := T122.setTop (mkF m 216 #[.val (.long q0), .second, .val (.int p1), .val (.int p2), .val (.int p3), .val (.ref b66), .val (.int (Int32.ofNat n)), .val (.ref b100), .val (.int (Int32.ofNat c)), .val (.int (Int32.ofNat (n - c))), .val (.int st1), .val (.int exp1), .val (.int (Int32.ofNat d)), .unset, .unset, .unset] [(.int (Int32.ofNat d)), (.ref b100)])) (fun target kt => ?_) ?_
  · skip
    show Steps p.tables e below (T122.setTop (mkF m 212 #[.val (.long q0), .second, .val (.int p1), .val (.int p2), .val (.int p3), .val (.ref b66), .val (.int (Int32.ofNat n)), .val (.ref b100), .val (.int (Int32.ofNat c)), .val (.int (Int32.ofNat (n - c))), .val (.int st1), .val (.int exp1), .val (.int (Int32.ofNat d)), .unset, .unset, .unset] [])) _
    refine XS.aload X122.here hx rfl (hb hby at_212) rfl rfl ?_
    show Steps p.tables e below (T122.setTop (mkF m 214 #[.val (.long q0), .second, .val (.int p1), .val (.int p2), .val (.int p3), .val (.ref b66), .val (.int (Int32.ofNat n)), .val (.ref b100), .val (.int (Int32.ofNat c)), .val (.int (Int32.ofNat (n - c))), .val (.int st1), .val (.int exp1), .val (.int (Int32.ofNat d)), .unset, .unset, .unset] [(.ref b100)])) _
    refine XS.iload X122.here hx rfl (hb hby at_214) rfl ?_
    exact kt
  obtain ⟨cq123, kq123, q123a, q123b, q123c⟩ := isOf hZ e122 f114_0
  obtain ⟨_, _, ⟨T123, L123, k123, n123⟩, -, X123, ⟨Lc123, hQ123, l123, y123, z123⟩, st123⟩ := X122.virtualBack hx (y := (⟨"portwarden/transport/InputBuffer", "consume", "(I)V"⟩ : MethodName)) (z := (⟨"portwarden/transport/InputBuffer", "consume", "(I)V"⟩ : MethodName)) hown (mvT hZ (hw _ (List.mem_of_getElem? (i := 24) rfl))) (mvT hZ (hw _ (List.mem_of_getElem? (i := 25) rfl))) (notFace_of_selects (args := #[]) (mvT hZ (hw _ (List.mem_of_getElem? (i := 27) rfl)))) (mvT hZ (hw _ (List.mem_of_getElem? (i := 27) rfl))) (mvT hZ (hw _ (List.mem_of_getElem? (i := 26) rfl))) (by decide) (backOf (W := 0) (rm4 l Z aZ hw [] b100 (Int32.ofNat d) st1 en1 b_106 T114.heap n0 Z114 f114_0 f114_1 f114_2 f114_3 g_b100) hZ (hw _ (List.mem_of_getElem? (i := 28) rfl)) (hw _ (List.mem_of_getElem? (i := 3) rfl)) (by decide) (by decide)) q123a q123c (g := (mkF m 216 #[.val (.long q0), .second, .val (.int p1), .val (.int p2), .val (.int p3), .val (.ref b66), .val (.int (Int32.ofNat n)), .val (.ref b100), .val (.int (Int32.ofNat c)), .val (.int (Int32.ofNat (n - c))), .val (.int st1), .val (.int exp1), .val (.int (Int32.ofNat d)), .unset, .unset, .unset] [(.int (Int32.ofNat d)), (.ref b100)])) rfl (by rw [hml]; rfl) (Steps.refl _) (argsL := [(.int (Int32.ofNat d))]) (rest := []) (lenOf own_pd5 rfl) rfl (by show 2 * 0 + _ ≤ _; exact Nat.le_of_eq rfl) (hb hby at_216) (fun _ _ => ⟨rfl, e122, (by decide : 3 + 0 ≤ _), (by decide : 1035 + 0 ≤ _)⟩)
  dsimp only [Pt.U, Pt.locs, Pt.cells, Pt.slots] at X123 l123 y123 z123 st123 hQ123
  subst l123 y123 z123
  obtain ⟨st2, en2, rfl, N123q, K123q, f123_0, f123_1, f123_2, f123_3, u123_0, u123_1⟩ := hQ123
  have N123 := Fr.app N122 N123q
  have f124 : Exa Z T123.heap b66 "[B" := f115.keep K123q
  have f125 : own_AI Z T123.heap b66 .byte 8 gd := f116.keep K123q (ninS ne_b66_b100 nin0)
  have f126 : Exa Z T123.heap b100 "portwarden/transport/InputBuffer" := f114_0.keep K123q
  have f127 : own_AI Z T123.heap b_106 .byte 1024 (own_cp gd n (fun _ => 0)) := f118.keep K123q (ninS (Ne.symm ne_b100_b_106) nin0)
  have Z123 : n0 ≤ T123.heap.size := Nat.le_trans Z114 K123q.1
  refine own_go (S' := T123.setTop (mkF m 219 #[.val (.long q0), .second, .val (.int p1), .val (.int p2), .val (.int p3), .val (.ref b66), .val (.int (Int32.ofNat n)), .val (.ref b100), .val (.int (Int32.ofNat c)), .val (.int (Int32.ofNat (n - c))), .val (.int st1), .val (.int exp1), .val (.int (Int32.ofNat d)), .unset, .unset, .unset] [])) (fun _ k => st123.trans k) ?_
  have h_st2 := u123_0
  have h_en2 := u123_1
  obtain ⟨S2, E2, hS2, hs2, he2⟩ := own_c2 hcn hdn hn8 hS1 hs1 he1 h_st2 h_en2
  obtain ⟨rem2, h_rem2⟩ : ∃ z : Int32, z = ((Int32.ofNat (n - c)) - (Int32.ofNat d)) := ⟨_, rfl⟩
  refine own_go (S' := T123.setTop (mkF m 226 #[.val (.long q0), .second, .val (.int p1), .val (.int p2), .val (.int p3), .val (.ref b66), .val (.int (Int32.ofNat n)), .val (.ref b100), .val (.int (Int32.ofNat c)), .val (.int (Int32.ofNat (n - c))), .val (.int st1), .val (.int exp1), .val (.int (Int32.ofNat d)), .val (.int rem2), .unset, .unset] [])) (fun target kt => ?_) ?_
  · subst h_rem2
    show Steps p.tables e below (T123.setTop (mkF m 219 #[.val (.long q0), .second, .val (.int p1), .val (.int p2), .val (.int p3), .val (.ref b66), .val (.int (Int32.ofNat n)), .val (.ref b100), .val (.int (Int32.ofNat c)), .val (.int (Int32.ofNat (n - c))), .val (.int st1), .val (.int exp1), .val (.int (Int32.ofNat d)), .unset, .unset, .unset] [])) _
    refine XS.iload X123.here hx rfl (hb hby at_219) rfl ?_
    show Steps p.tables e below (T123.setTop (mkF m 221 #[.val (.long q0), .second, .val (.int p1), .val (.int p2), .val (.int p3), .val (.ref b66), .val (.int (Int32.ofNat n)), .val (.ref b100), .val (.int (Int32.ofNat c)), .val (.int (Int32.ofNat (n - c))), .val (.int st1), .val (.int exp1), .val (.int (Int32.ofNat d)), .unset, .unset, .unset] [(.int (Int32.ofNat (n - c)))])) _
    refine XS.iload X123.here hx rfl (hb hby at_221) rfl ?_
    show Steps p.tables e below (T123.setTop (mkF m 223 #[.val (.long q0), .second, .val (.int p1), .val (.int p2), .val (.int p3), .val (.ref b66), .val (.int (Int32.ofNat n)), .val (.ref b100), .val (.int (Int32.ofNat c)), .val (.int (Int32.ofNat (n - c))), .val (.int st1), .val (.int exp1), .val (.int (Int32.ofNat d)), .unset, .unset, .unset] [(.int (Int32.ofNat d)), (.int (Int32.ofNat (n - c)))])) _
    refine XS.isub X123.here hx rfl (hb hby at_223) rfl ?_
    show Steps p.tables e below (T123.setTop (mkF m 224 #[.val (.long q0), .second, .val (.int p1), .val (.int p2), .val (.int p3), .val (.ref b66), .val (.int (Int32.ofNat n)), .val (.ref b100), .val (.int (Int32.ofNat c)), .val (.int (Int32.ofNat (n - c))), .val (.int st1), .val (.int exp1), .val (.int (Int32.ofNat d)), .unset, .unset, .unset] [(.int ((Int32.ofNat (n - c)) - (Int32.ofNat d)))])) _
    refine XS.istore X123.here hx rfl (hb hby at_224) rfl (l' := #[.val (.long q0), .second, .val (.int p1), .val (.int p2), .val (.int p3), .val (.ref b66), .val (.int (Int32.ofNat n)), .val (.ref b100), .val (.int (Int32.ofNat c)), .val (.int (Int32.ofNat (n - c))), .val (.int st1), .val (.int exp1), .val (.int (Int32.ofNat d)), .val (.int ((Int32.ofNat (n - c)) - (Int32.ofNat d))), .unset, .unset]) rfl ?_
    exact kt
  have hb_rem2 : rem2 = (Int32.ofNat (n - c - d)) := own_sub hdn (by omega) h_rem2
  subst hb_rem2
  refine own_go (S' := T123.setTop (mkF m 228 #[.val (.long q0), .second, .val (.int p1), .val (.int p2), .val (.int p3), .val (.ref b66), .val (.int (Int32.ofNat n)), .val (.ref b100), .val (.int (Int32.ofNat c)), .val (.int (Int32.ofNat (n - c))), .val (.int st1), .val (.int exp1), .val (.int (Int32.ofNat d)), .val (.int (Int32.ofNat (n - c - d))), .unset, .unset] [(.ref b100)])) (fun target kt => ?_) ?_
  · skip
    show Steps p.tables e below (T123.setTop (mkF m 226 #[.val (.long q0), .second, .val (.int p1), .val (.int p2), .val (.int p3), .val (.ref b66), .val (.int (Int32.ofNat n)), .val (.ref b100), .val (.int (Int32.ofNat c)), .val (.int (Int32.ofNat (n - c))), .val (.int st1), .val (.int exp1), .val (.int (Int32.ofNat d)), .val (.int (Int32.ofNat (n - c - d))), .unset, .unset] [])) _
    refine XS.aload X123.here hx rfl (hb hby at_226) rfl rfl ?_
    exact kt
  obtain ⟨cq128, kq128, q128a, q128b, q128c⟩ := isOf hZ rfl f123_0
  obtain ⟨_, _, ⟨T128, L128, k128, n128⟩, -, X128, ⟨Lc128, hQ128, l128, y128, z128⟩, st128⟩ := X123.virtualBack hx (y := (⟨"portwarden/transport/InputBuffer", "available", "()I"⟩ : MethodName)) (z := (⟨"portwarden/transport/InputBuffer", "available", "()I"⟩ : MethodName)) hown (mvT hZ (hw _ (List.mem_of_getElem? (i := 31) rfl))) (mvT hZ (hw _ (List.mem_of_getElem? (i := 32) rfl))) (notFace_of_selects (args := #[]) (mvT hZ (hw _ (List.mem_of_getElem? (i := 34) rfl)))) (mvT hZ (hw _ (List.mem_of_getElem? (i := 34) rfl))) (mvT hZ (hw _ (List.mem_of_getElem? (i := 33) rfl))) (by decide) (backOf (W := 0) (rm5 l Z aZ hw [] b100 st2 en2 b_106 T123.heap n0 Z123 f123_1 f123_2 f123_3) hZ (hw _ (List.mem_of_getElem? (i := 35) rfl)) (hw _ (List.mem_of_getElem? (i := 3) rfl)) (by decide) (by decide)) q128a q128c (g := (mkF m 228 #[.val (.long q0), .second, .val (.int p1), .val (.int p2), .val (.int p3), .val (.ref b66), .val (.int (Int32.ofNat n)), .val (.ref b100), .val (.int (Int32.ofNat c)), .val (.int (Int32.ofNat (n - c))), .val (.int st1), .val (.int exp1), .val (.int (Int32.ofNat d)), .val (.int (Int32.ofNat (n - c - d))), .unset, .unset] [(.ref b100)])) rfl (by rw [hml]; rfl) (Steps.refl _) (argsL := []) (rest := []) (lenOf own_pd1 rfl) rfl (by show 2 * 0 + _ ≤ _; exact Nat.le_of_eq rfl) (hb hby at_228) (fun _ _ => ⟨rfl, rfl, (by decide : 3 + 0 ≤ _), (by decide : 1035 + 0 ≤ _)⟩)
  dsimp only [Pt.U, Pt.locs, Pt.cells, Pt.slots] at X128 l128 y128 z128 st128 hQ128
  subst l128 y128 z128
  obtain ⟨rfl, N128q, e128⟩ := hQ128
  have N128 := Fr.app N123 N128q
  refine own_go (S' := T128.setTop (mkF m 231 #[.val (.long q0), .second, .val (.int p1), .val (.int p2), .val (.int p3), .val (.ref b66), .val (.int (Int32.ofNat n)), .val (.ref b100), .val (.int (Int32.ofNat c)), .val (.int (Int32.ofNat (n - c))), .val (.int st1), .val (.int exp1), .val (.int (Int32.ofNat d)), .val (.int (Int32.ofNat (n - c - d))), .unset, .unset] [(.int (en2 - st2))])) (fun _ k => st128.trans k) ?_
  refine own_go (S' := T128.setTop (mkF m 240 #[.val (.long q0), .second, .val (.int p1), .val (.int p2), .val (.int p3), .val (.ref b66), .val (.int (Int32.ofNat n)), .val (.ref b100), .val (.int (Int32.ofNat c)), .val (.int (Int32.ofNat (n - c))), .val (.int st1), .val (.int exp1), .val (.int (Int32.ofNat d)), .val (.int (Int32.ofNat (n - c - d))), .unset, .unset] [(.ref b100)])) (fun target kt => ?_) ?_
  · skip
    show Steps p.tables e below (T128.setTop (mkF m 231 #[.val (.long q0), .second, .val (.int p1), .val (.int p2), .val (.int p3), .val (.ref b66), .val (.int (Int32.ofNat n)), .val (.ref b100), .val (.int (Int32.ofNat c)), .val (.int (Int32.ofNat (n - c))), .val (.int st1), .val (.int exp1), .val (.int (Int32.ofNat d)), .val (.int (Int32.ofNat (n - c - d))), .unset, .unset] [(.int (en2 - st2))])) _
    refine XS.iload X128.here hx rfl (hb hby at_231) rfl ?_
    show Steps p.tables e below (T128.setTop (mkF m 233 #[.val (.long q0), .second, .val (.int p1), .val (.int p2), .val (.int p3), .val (.ref b66), .val (.int (Int32.ofNat n)), .val (.ref b100), .val (.int (Int32.ofNat c)), .val (.int (Int32.ofNat (n - c))), .val (.int st1), .val (.int exp1), .val (.int (Int32.ofNat d)), .val (.int (Int32.ofNat (n - c - d))), .unset, .unset] [(.int (Int32.ofNat (n - c - d))), (.int (en2 - st2))])) _
    refine XS.icmpYes X128.here hx rfl (pc0 := 233) (pc' := 238) rfl (hb hby at_233) rfl (teq (own_a2 hcn hdn hn8 hS2 hs2 he2 : (en2 - st2) = (Int32.ofNat (n - c - d)))).1 (by decide) (by decide) ?_
    show Steps p.tables e below (T128.setTop (mkF m 238 #[.val (.long q0), .second, .val (.int p1), .val (.int p2), .val (.int p3), .val (.ref b66), .val (.int (Int32.ofNat n)), .val (.ref b100), .val (.int (Int32.ofNat c)), .val (.int (Int32.ofNat (n - c))), .val (.int st1), .val (.int exp1), .val (.int (Int32.ofNat d)), .val (.int (Int32.ofNat (n - c - d))), .unset, .unset] [])) _
    refine XS.aload X128.here hx rfl (hb hby at_238) rfl rfl ?_
    exact kt
  obtain ⟨cq129, kq129, q129a, q129b, q129c⟩ := isOf hZ e128 f123_0
  obtain ⟨_, _, ⟨T129, L129, k129, n129⟩, -, X129, ⟨Lc129, hQ129, l129, y129, z129⟩, st129⟩ := X128.virtualBack hx (y := (⟨"portwarden/transport/InputBuffer", "start", "()I"⟩ : MethodName)) (z := (⟨"portwarden/transport/InputBuffer", "start", "()I"⟩ : MethodName)) hown (mvT hZ (hw _ (List.mem_of_getElem? (i := 36) rfl))) (mvT hZ (hw _ (List.mem_of_getElem? (i := 37) rfl))) (notFace_of_selects (args := #[]) (mvT hZ (hw _ (List.mem_of_getElem? (i := 39) rfl)))) (mvT hZ (hw _ (List.mem_of_getElem? (i := 39) rfl))) (mvT hZ (hw _ (List.mem_of_getElem? (i := 38) rfl))) (by decide) (backOf (W := 0) (rm6 l Z aZ hw [] b100 st2 en2 b_106 T123.heap n0 Z123 f123_1 f123_2 f123_3) hZ (hw _ (List.mem_of_getElem? (i := 40) rfl)) (hw _ (List.mem_of_getElem? (i := 3) rfl)) (by decide) (by decide)) q129a q129c (g := (mkF m 240 #[.val (.long q0), .second, .val (.int p1), .val (.int p2), .val (.int p3), .val (.ref b66), .val (.int (Int32.ofNat n)), .val (.ref b100), .val (.int (Int32.ofNat c)), .val (.int (Int32.ofNat (n - c))), .val (.int st1), .val (.int exp1), .val (.int (Int32.ofNat d)), .val (.int (Int32.ofNat (n - c - d))), .unset, .unset] [(.ref b100)])) rfl (by rw [hml]; rfl) (Steps.refl _) (argsL := []) (rest := []) (lenOf own_pd1 rfl) rfl (by show 2 * 0 + _ ≤ _; exact Nat.le_of_eq rfl) (hb hby at_240) (fun _ _ => ⟨rfl, e128, (by decide : 3 + 0 ≤ _), (by decide : 1035 + 0 ≤ _)⟩)
  dsimp only [Pt.U, Pt.locs, Pt.cells, Pt.slots] at X129 l129 y129 z129 st129 hQ129
  subst l129 y129 z129
  obtain ⟨rfl, N129q, e129⟩ := hQ129
  have N129 := Fr.app N128 N129q
  refine own_go (S' := T129.setTop (mkF m 243 #[.val (.long q0), .second, .val (.int p1), .val (.int p2), .val (.int p3), .val (.ref b66), .val (.int (Int32.ofNat n)), .val (.ref b100), .val (.int (Int32.ofNat c)), .val (.int (Int32.ofNat (n - c))), .val (.int st1), .val (.int exp1), .val (.int (Int32.ofNat d)), .val (.int (Int32.ofNat (n - c - d))), .unset, .unset] [(.int st2)])) (fun _ k => st129.trans k) ?_
  refine own_go (S' := T129.setTop (mkF m 247 #[.val (.long q0), .second, .val (.int p1), .val (.int p2), .val (.int p3), .val (.ref b66), .val (.int (Int32.ofNat n)), .val (.ref b100), .val (.int (Int32.ofNat c)), .val (.int (Int32.ofNat (n - c))), .val (.int st1), .val (.int exp1), .val (.int (Int32.ofNat d)), .val (.int (Int32.ofNat (n - c - d))), .val (.int st2), .unset] [(.int (Int32.ofNat (n - c - d)))])) (fun target kt => ?_) ?_
  · skip
    show Steps p.tables e below (T129.setTop (mkF m 243 #[.val (.long q0), .second, .val (.int p1), .val (.int p2), .val (.int p3), .val (.ref b66), .val (.int (Int32.ofNat n)), .val (.ref b100), .val (.int (Int32.ofNat c)), .val (.int (Int32.ofNat (n - c))), .val (.int st1), .val (.int exp1), .val (.int (Int32.ofNat d)), .val (.int (Int32.ofNat (n - c - d))), .unset, .unset] [(.int st2)])) _
    refine XS.istore X129.here hx rfl (hb hby at_243) rfl (l' := #[.val (.long q0), .second, .val (.int p1), .val (.int p2), .val (.int p3), .val (.ref b66), .val (.int (Int32.ofNat n)), .val (.ref b100), .val (.int (Int32.ofNat c)), .val (.int (Int32.ofNat (n - c))), .val (.int st1), .val (.int exp1), .val (.int (Int32.ofNat d)), .val (.int (Int32.ofNat (n - c - d))), .val (.int st2), .unset]) rfl ?_
    show Steps p.tables e below (T129.setTop (mkF m 245 #[.val (.long q0), .second, .val (.int p1), .val (.int p2), .val (.int p3), .val (.ref b66), .val (.int (Int32.ofNat n)), .val (.ref b100), .val (.int (Int32.ofNat c)), .val (.int (Int32.ofNat (n - c))), .val (.int st1), .val (.int exp1), .val (.int (Int32.ofNat d)), .val (.int (Int32.ofNat (n - c - d))), .val (.int st2), .unset] [])) _
    refine XS.iload X129.here hx rfl (hb hby at_245) rfl ?_
    exact kt
  obtain ⟨exp2, h_exp2⟩ : ∃ z : Int32, z = (if (Int32.ofNat (n - c - d)) = (0 : Int32) then (0 : Int32) else ((Int32.ofNat c) + (Int32.ofNat d))) := ⟨_, rfl⟩
  refine own_go (S' := T129.setTop (mkF m 259 #[.val (.long q0), .second, .val (.int p1), .val (.int p2), .val (.int p3), .val (.ref b66), .val (.int (Int32.ofNat n)), .val (.ref b100), .val (.int (Int32.ofNat c)), .val (.int (Int32.ofNat (n - c))), .val (.int st1), .val (.int exp1), .val (.int (Int32.ofNat d)), .val (.int (Int32.ofNat (n - c - d))), .val (.int st2), .unset] [(.int exp2)])) (fun target kt => ?_) ?_
  · skip
    by_cases hm247 : (Int32.ofNat (n - c - d)) = (0 : Int32)
    · skip
      show Steps p.tables e below (T129.setTop (mkF m 247 #[.val (.long q0), .second, .val (.int p1), .val (.int p2), .val (.int p3), .val (.ref b66), .val (.int (Int32.ofNat n)), .val (.ref b100), .val (.int (Int32.ofNat c)), .val (.int (Int32.ofNat (n - c))), .val (.int st1), .val (.int exp1), .val (.int (Int32.ofNat d)), .val (.int (Int32.ofNat (n - c - d))), .val (.int st2), .unset] [(.int (Int32.ofNat (n - c - d)))])) _
      refine XS.ifNo X129.here hx rfl (hb hby at_247) rfl ((if0 _ _).trans (teq hm247).2) ?_
      show Steps p.tables e below (T129.setTop (mkF m 250 #[.val (.long q0), .second, .val (.int p1), .val (.int p2), .val (.int p3), .val (.ref b66), .val (.int (Int32.ofNat n)), .val (.ref b100), .val (.int (Int32.ofNat c)), .val (.int (Int32.ofNat (n - c))), .val (.int st1), .val (.int exp1), .val (.int (Int32.ofNat d)), .val (.int (Int32.ofNat (n - c - d))), .val (.int st2), .unset] [])) _
      refine XS.iconst X129.here hx rfl (hb hby at_250) ?_
      show Steps p.tables e below (T129.setTop (mkF m 251 #[.val (.long q0), .second, .val (.int p1), .val (.int p2), .val (.int p3), .val (.ref b66), .val (.int (Int32.ofNat n)), .val (.ref b100), .val (.int (Int32.ofNat c)), .val (.int (Int32.ofNat (n - c))), .val (.int st1), .val (.int exp1), .val (.int (Int32.ofNat d)), .val (.int (Int32.ofNat (n - c - d))), .val (.int st2), .unset] [(.int (0 : Int32))])) _
      refine XS.goto X129.here hx rfl (pc0 := 251) (pc' := 259) rfl (hb hby at_251) (by decide) (by decide) ?_
      rw [h_exp2, if_pos hm247] at kt
      exact kt
    · skip
      show Steps p.tables e below (T129.setTop (mkF m 247 #[.val (.long q0), .second, .val (.int p1), .val (.int p2), .val (.int p3), .val (.ref b66), .val (.int (Int32.ofNat n)), .val (.ref b100), .val (.int (Int32.ofNat c)), .val (.int (Int32.ofNat (n - c))), .val (.int st1), .val (.int exp1), .val (.int (Int32.ofNat d)), .val (.int (Int32.ofNat (n - c - d))), .val (.int st2), .unset] [(.int (Int32.ofNat (n - c - d)))])) _
      refine XS.ifYes X129.here hx rfl (pc0 := 247) (pc' := 254) rfl (hb hby at_247) rfl ((if0 _ _).trans (feq hm247).2) (by decide) (by decide) ?_
      show Steps p.tables e below (T129.setTop (mkF m 254 #[.val (.long q0), .second, .val (.int p1), .val (.int p2), .val (.int p3), .val (.ref b66), .val (.int (Int32.ofNat n)), .val (.ref b100), .val (.int (Int32.ofNat c)), .val (.int (Int32.ofNat (n - c))), .val (.int st1), .val (.int exp1), .val (.int (Int32.ofNat d)), .val (.int (Int32.ofNat (n - c - d))), .val (.int st2), .unset] [])) _
      refine XS.iload X129.here hx rfl (hb hby at_254) rfl ?_
      show Steps p.tables e below (T129.setTop (mkF m 256 #[.val (.long q0), .second, .val (.int p1), .val (.int p2), .val (.int p3), .val (.ref b66), .val (.int (Int32.ofNat n)), .val (.ref b100), .val (.int (Int32.ofNat c)), .val (.int (Int32.ofNat (n - c))), .val (.int st1), .val (.int exp1), .val (.int (Int32.ofNat d)), .val (.int (Int32.ofNat (n - c - d))), .val (.int st2), .unset] [(.int (Int32.ofNat c))])) _
      refine XS.iload X129.here hx rfl (hb hby at_256) rfl ?_
      show Steps p.tables e below (T129.setTop (mkF m 258 #[.val (.long q0), .second, .val (.int p1), .val (.int p2), .val (.int p3), .val (.ref b66), .val (.int (Int32.ofNat n)), .val (.ref b100), .val (.int (Int32.ofNat c)), .val (.int (Int32.ofNat (n - c))), .val (.int st1), .val (.int exp1), .val (.int (Int32.ofNat d)), .val (.int (Int32.ofNat (n - c - d))), .val (.int st2), .unset] [(.int (Int32.ofNat d)), (.int (Int32.ofNat c))])) _
      refine XS.iadd X129.here hx rfl (hb hby at_258) rfl ?_
      rw [h_exp2, if_neg hm247] at kt
      exact kt
  refine own_go (S' := T129.setTop (mkF m 272 #[.val (.long q0), .second, .val (.int p1), .val (.int p2), .val (.int p3), .val (.ref b66), .val (.int (Int32.ofNat n)), .val (.ref b100), .val (.int (Int32.ofNat c)), .val (.int (Int32.ofNat (n - c))), .val (.int st1), .val (.int exp1), .val (.int (Int32.ofNat d)), .val (.int (Int32.ofNat (n - c - d))), .val (.int st2), .val (.int exp2)] [(.ref b100)])) (fun target kt => ?_) ?_
  · skip
    show Steps p.tables e below (T129.setTop (mkF m 259 #[.val (.long q0), .second, .val (.int p1), .val (.int p2), .val (.int p3), .val (.ref b66), .val (.int (Int32.ofNat n)), .val (.ref b100), .val (.int (Int32.ofNat c)), .val (.int (Int32.ofNat (n - c))), .val (.int st1), .val (.int exp1), .val (.int (Int32.ofNat d)), .val (.int (Int32.ofNat (n - c - d))), .val (.int st2), .unset] [(.int exp2)])) _
    refine XS.istore X129.here hx rfl (hb hby at_259) rfl (l' := #[.val (.long q0), .second, .val (.int p1), .val (.int p2), .val (.int p3), .val (.ref b66), .val (.int (Int32.ofNat n)), .val (.ref b100), .val (.int (Int32.ofNat c)), .val (.int (Int32.ofNat (n - c))), .val (.int st1), .val (.int exp1), .val (.int (Int32.ofNat d)), .val (.int (Int32.ofNat (n - c - d))), .val (.int st2), .val (.int exp2)]) rfl ?_
    show Steps p.tables e below (T129.setTop (mkF m 261 #[.val (.long q0), .second, .val (.int p1), .val (.int p2), .val (.int p3), .val (.ref b66), .val (.int (Int32.ofNat n)), .val (.ref b100), .val (.int (Int32.ofNat c)), .val (.int (Int32.ofNat (n - c))), .val (.int st1), .val (.int exp1), .val (.int (Int32.ofNat d)), .val (.int (Int32.ofNat (n - c - d))), .val (.int st2), .val (.int exp2)] [])) _
    refine XS.iload X129.here hx rfl (hb hby at_261) rfl ?_
    show Steps p.tables e below (T129.setTop (mkF m 263 #[.val (.long q0), .second, .val (.int p1), .val (.int p2), .val (.int p3), .val (.ref b66), .val (.int (Int32.ofNat n)), .val (.ref b100), .val (.int (Int32.ofNat c)), .val (.int (Int32.ofNat (n - c))), .val (.int st1), .val (.int exp1), .val (.int (Int32.ofNat d)), .val (.int (Int32.ofNat (n - c - d))), .val (.int st2), .val (.int exp2)] [(.int st2)])) _
    refine XS.iload X129.here hx rfl (hb hby at_263) rfl ?_
    show Steps p.tables e below (T129.setTop (mkF m 265 #[.val (.long q0), .second, .val (.int p1), .val (.int p2), .val (.int p3), .val (.ref b66), .val (.int (Int32.ofNat n)), .val (.ref b100), .val (.int (Int32.ofNat c)), .val (.int (Int32.ofNat (n - c))), .val (.int st1), .val (.int exp1), .val (.int (Int32.ofNat d)), .val (.int (Int32.ofNat (n - c - d))), .val (.int st2), .val (.int exp2)] [(.int exp2), (.int st2)])) _
    refine XS.icmpYes X129.here hx rfl (pc0 := 265) (pc' := 270) rfl (hb hby at_265) rfl (teq (own_b2 hcn hdn hn8 hS2 hs2 rfl h_exp2 : st2 = exp2)).1 (by decide) (by decide) ?_
    show Steps p.tables e below (T129.setTop (mkF m 270 #[.val (.long q0), .second, .val (.int p1), .val (.int p2), .val (.int p3), .val (.ref b66), .val (.int (Int32.ofNat n)), .val (.ref b100), .val (.int (Int32.ofNat c)), .val (.int (Int32.ofNat (n - c))), .val (.int st1), .val (.int exp1), .val (.int (Int32.ofNat d)), .val (.int (Int32.ofNat (n - c - d))), .val (.int st2), .val (.int exp2)] [])) _
    refine XS.aload X129.here hx rfl (hb hby at_270) rfl rfl ?_
    exact kt
  obtain ⟨cq130, kq130, q130a, q130b, q130c⟩ := isOf hZ e129 f123_0
  obtain ⟨_, _, ⟨T130, L130, k130, n130⟩, -, X130, ⟨Lc130, hQ130, l130, y130, z130⟩, st130⟩ := X129.virtualBack hx (y := (⟨"portwarden/transport/InputBuffer", "array", "()[B"⟩ : MethodName)) (z := (⟨"portwarden/transport/InputBuffer", "array", "()[B"⟩ : MethodName)) hown (mvT hZ (hw _ (List.mem_of_getElem? (i := 41) rfl))) (mvT hZ (hw _ (List.mem_of_getElem? (i := 42) rfl))) (notFace_of_selects (args := #[]) (mvT hZ (hw _ (List.mem_of_getElem? (i := 44) rfl)))) (mvT hZ (hw _ (List.mem_of_getElem? (i := 44) rfl))) (mvT hZ (hw _ (List.mem_of_getElem? (i := 43) rfl))) (by decide) (backOf (W := 0) (rm7 l Z aZ hw [] b100 st2 en2 b_106 T123.heap n0 Z123 f123_1 f123_2 f123_3) hZ (hw _ (List.mem_of_getElem? (i := 45) rfl)) (hw _ (List.mem_of_getElem? (i := 3) rfl)) (by decide) (by decide)) q130a q130c (g := (mkF m 272 #[.val (.long q0), .second, .val (.int p1), .val (.int p2), .val (.int p3), .val (.ref b66), .val (.int (Int32.ofNat n)), .val (.ref b100), .val (.int (Int32.ofNat c)), .val (.int (Int32.ofNat (n - c))), .val (.int st1), .val (.int exp1), .val (.int (Int32.ofNat d)), .val (.int (Int32.ofNat (n - c - d))), .val (.int st2), .val (.int exp2)] [(.ref b100)])) rfl (by rw [hml]; rfl) (Steps.refl _) (argsL := []) (rest := []) (lenOf own_pd6 rfl) rfl (by show 2 * 0 + _ ≤ _; exact Nat.le_of_eq rfl) (hb hby at_272) (fun _ _ => ⟨rfl, e129, (by decide : 3 + 0 ≤ _), (by decide : 1035 + 0 ≤ _)⟩)
  dsimp only [Pt.U, Pt.locs, Pt.cells, Pt.slots] at X130 l130 y130 z130 st130 hQ130
  subst l130 y130 z130
  obtain ⟨rfl, N130q, e130⟩ := hQ130
  have N130 := Fr.app N129 N130q
  refine own_go (S' := T130.setTop (mkF m 275 #[.val (.long q0), .second, .val (.int p1), .val (.int p2), .val (.int p3), .val (.ref b66), .val (.int (Int32.ofNat n)), .val (.ref b100), .val (.int (Int32.ofNat c)), .val (.int (Int32.ofNat (n - c))), .val (.int st1), .val (.int exp1), .val (.int (Int32.ofNat d)), .val (.int (Int32.ofNat (n - c - d))), .val (.int st2), .val (.int exp2)] [(.ref b_106)])) (fun _ k => st130.trans k) ?_
  refine own_go (S' := T130.setTop (mkF m 286 #[.val (.long q0), .second, .val (.int p1), .val (.int p2), .val (.int p3), .val (.ref b66), .val (.int (Int32.ofNat n)), .val (.ref b100), .val (.int (Int32.ofNat c)), .val (.int (Int32.ofNat (n - c))), .val (.int st1), .val (.int exp1), .val (.int (Int32.ofNat d)), .val (.int (Int32.ofNat (n - c - d))), .val (.int st2), .val (.int exp2)] [(.int (Int32.ofNat (n - c - d))), (.int ((Int32.ofNat c) + (Int32.ofNat d))), (.ref b66), (.int st2), (.ref b_106)])) (fun target kt => ?_) ?_
  · skip
    show Steps p.tables e below (T130.setTop (mkF m 275 #[.val (.long q0), .second, .val (.int p1), .val (.int p2), .val (.int p3), .val (.ref b66), .val (.int (Int32.ofNat n)), .val (.ref b100), .val (.int (Int32.ofNat c)), .val (.int (Int32.ofNat (n - c))), .val (.int st1), .val (.int exp1), .val (.int (Int32.ofNat d)), .val (.int (Int32.ofNat (n - c - d))), .val (.int st2), .val (.int exp2)] [(.ref b_106)])) _
    refine XS.iload X130.here hx rfl (hb hby at_275) rfl ?_
    show Steps p.tables e below (T130.setTop (mkF m 277 #[.val (.long q0), .second, .val (.int p1), .val (.int p2), .val (.int p3), .val (.ref b66), .val (.int (Int32.ofNat n)), .val (.ref b100), .val (.int (Int32.ofNat c)), .val (.int (Int32.ofNat (n - c))), .val (.int st1), .val (.int exp1), .val (.int (Int32.ofNat d)), .val (.int (Int32.ofNat (n - c - d))), .val (.int st2), .val (.int exp2)] [(.int st2), (.ref b_106)])) _
    refine XS.aload X130.here hx rfl (hb hby at_277) rfl rfl ?_
    show Steps p.tables e below (T130.setTop (mkF m 279 #[.val (.long q0), .second, .val (.int p1), .val (.int p2), .val (.int p3), .val (.ref b66), .val (.int (Int32.ofNat n)), .val (.ref b100), .val (.int (Int32.ofNat c)), .val (.int (Int32.ofNat (n - c))), .val (.int st1), .val (.int exp1), .val (.int (Int32.ofNat d)), .val (.int (Int32.ofNat (n - c - d))), .val (.int st2), .val (.int exp2)] [(.ref b66), (.int st2), (.ref b_106)])) _
    refine XS.iload X130.here hx rfl (hb hby at_279) rfl ?_
    show Steps p.tables e below (T130.setTop (mkF m 281 #[.val (.long q0), .second, .val (.int p1), .val (.int p2), .val (.int p3), .val (.ref b66), .val (.int (Int32.ofNat n)), .val (.ref b100), .val (.int (Int32.ofNat c)), .val (.int (Int32.ofNat (n - c))), .val (.int st1), .val (.int exp1), .val (.int (Int32.ofNat d)), .val (.int (Int32.ofNat (n - c - d))), .val (.int st2), .val (.int exp2)] [(.int (Int32.ofNat c)), (.ref b66), (.int st2), (.ref b_106)])) _
    refine XS.iload X130.here hx rfl (hb hby at_281) rfl ?_
    show Steps p.tables e below (T130.setTop (mkF m 283 #[.val (.long q0), .second, .val (.int p1), .val (.int p2), .val (.int p3), .val (.ref b66), .val (.int (Int32.ofNat n)), .val (.ref b100), .val (.int (Int32.ofNat c)), .val (.int (Int32.ofNat (n - c))), .val (.int st1), .val (.int exp1), .val (.int (Int32.ofNat d)), .val (.int (Int32.ofNat (n - c - d))), .val (.int st2), .val (.int exp2)] [(.int (Int32.ofNat d)), (.int (Int32.ofNat c)), (.ref b66), (.int st2), (.ref b_106)])) _
    refine XS.iadd X130.here hx rfl (hb hby at_283) rfl ?_
    show Steps p.tables e below (T130.setTop (mkF m 284 #[.val (.long q0), .second, .val (.int p1), .val (.int p2), .val (.int p3), .val (.ref b66), .val (.int (Int32.ofNat n)), .val (.ref b100), .val (.int (Int32.ofNat c)), .val (.int (Int32.ofNat (n - c))), .val (.int st1), .val (.int exp1), .val (.int (Int32.ofNat d)), .val (.int (Int32.ofNat (n - c - d))), .val (.int st2), .val (.int exp2)] [(.int ((Int32.ofNat c) + (Int32.ofNat d))), (.ref b66), (.int st2), (.ref b_106)])) _
    refine XS.iload X130.here hx rfl (hb hby at_284) rfl ?_
    exact kt
  obtain ⟨_, _, ⟨T131, L131, k131, n131⟩, -, X131, ⟨Lc131, hQ131, l131, y131, z131⟩, st131⟩ := Jvm.LawKit.callS X130 hx (y := (⟨"portwarden/transport/InputBufferConsumePinLaw", "same", "([BI[BII)Z"⟩ : MethodName)) hown (mvT hZ (hw _ (List.mem_of_getElem? (i := 46) rfl))) (mvT hZ (hw _ (List.mem_of_getElem? (i := 47) rfl))) (mvT hZ (hw _ (List.mem_of_getElem? (i := 48) rfl))) (mvT hZ (hw _ (List.mem_of_getElem? (i := 49) rfl))) (by decide) (backOf (W := 0) (rm8 l Z aZ hw [] b_106 st2 b66 ((Int32.ofNat c) + (Int32.ofNat d)) (Int32.ofNat (n - c - d)) (own_cp gd n (fun _ => 0)) gd T123.heap n0 Z123 f127 f125 (own_s2 hcn hdn hn8 hS2 hs2 rfl : own_same (own_cp gd n (fun _ => 0)) gd st2 ((Int32.ofNat c) + (Int32.ofNat d)) (Int32.ofNat (n - c - d)))) hZ (hw _ (List.mem_of_getElem? (i := 49) rfl)) (hw _ (List.mem_of_getElem? (i := 48) rfl)) (by decide) (by decide)) (g := (mkF m 286 #[.val (.long q0), .second, .val (.int p1), .val (.int p2), .val (.int p3), .val (.ref b66), .val (.int (Int32.ofNat n)), .val (.ref b100), .val (.int (Int32.ofNat c)), .val (.int (Int32.ofNat (n - c))), .val (.int st1), .val (.int exp1), .val (.int (Int32.ofNat d)), .val (.int (Int32.ofNat (n - c - d))), .val (.int st2), .val (.int exp2)] [(.int (Int32.ofNat (n - c - d))), (.int ((Int32.ofNat c) + (Int32.ofNat d))), (.ref b66), (.int st2), (.ref b_106)])) rfl (by rw [hml]; rfl) (argsL := [(.ref b_106), (.int st2), (.ref b66), (.int ((Int32.ofNat c) + (Int32.ofNat d))), (.int (Int32.ofNat (n - c - d)))]) (rest := []) (lenOf own_pd7 rfl) rfl (by show 2 * 0 + _ ≤ _; exact Nat.le_of_eq rfl) (hb hby at_286) (fun _ _ => ⟨rfl, e130, (by decide : 3 + 0 ≤ _), (by decide : 1035 + 0 ≤ _)⟩)
  dsimp only [Pt.U, Pt.locs, Pt.cells, Pt.slots] at X131 l131 y131 z131 st131 hQ131
  subst l131 y131 z131
  obtain ⟨rfl, N131q, e131⟩ := hQ131
  have N131 := Fr.app N130 N131q
  refine own_go (S' := T131.setTop (mkF m 289 #[.val (.long q0), .second, .val (.int p1), .val (.int p2), .val (.int p3), .val (.ref b66), .val (.int (Int32.ofNat n)), .val (.ref b100), .val (.int (Int32.ofNat c)), .val (.int (Int32.ofNat (n - c))), .val (.int st1), .val (.int exp1), .val (.int (Int32.ofNat d)), .val (.int (Int32.ofNat (n - c - d))), .val (.int st2), .val (.int exp2)] [(.int (1 : Int32))])) st131 ?_
  obtain ⟨fs, hr, hrun, hended, hW, hsame⟩ := X131.leave (v := some (.int (1 : Int32))) (fun h => by rw [Bd.returns] at h; cases h)
  refine ⟨_, _, ?_, hrun, hended, _, _, rfl, ?_, ⟨_, rfl⟩, hW, hsame.mono (by decide) (by decide)⟩
  · exact retN X131 hx (t := .boolean) Bd.returns (by simp) (hb hby at_289) hr
  · show Q0 Z q0 p1 p2 p3 h0 n0 _ T131.heap _
    rw [e131]
    exact ⟨rfl, N131⟩
set_option maxRecDepth 65536 in
set_option maxHeartbeats 40000000 in
theorem comes_1 {Post : Tables → Env → Array Value → State → Outcome → State → Prop} (hpost : ∀ tb e args s v u, (limb_1_1.after args s (.returned v) u = true ∧ limb_1_2.after args s (.returned v) u = true) → FrameEnd s (.returned v) u (Jvm.fieldLocs frame_1_writes args s ++ Jvm.arrayLocs frame_1_arrays args s ++ Jvm.staticLocs frame_1_statics s) 16 2176 → Post tb e args s (.returned v) u) :
    ArmFor flags0 classFile x code maxLocals ret World_1 tables_1 room_1 Calls_1 rest_1 Pre_1 Post := by
  intro l hfl _ _ p e ha hc hk s m args below hf hA hF happ hP
  obtain ⟨hcalls, hrest, hpre⟩ := hP
  obtain ⟨-, -, -, hnamed, -, -, -, hat⟩ := (Spec.applies_iff hf).mp happ
  obtain ⟨hg, hn⟩ := and_e (Cond.before_iff.mp (show (Jvm.Cond.and given_1 narrow_1).before args s = true from hpre))
  obtain ⟨hg1, hg2⟩ := and_e hg
  obtain ⟨hg3, hg4⟩ := and_e hg2
  obtain ⟨hg5, hg6⟩ := and_e hg4
  obtain ⟨hg7, hg8⟩ := and_e hg6
  obtain ⟨w0, w1, w2, w3, rfl⟩ : ∃ w0 w1 w2 w3 : Value, args = #[w0, w1, w2, w3] := by
    have hs : args.size = 4 := by simpa [Cond.value, given_1] using hg1
    obtain ⟨L⟩ := args
    match L, hs with
    | [w0, w1, w2, w3], _ => exact ⟨w0, w1, w2, w3, rfl⟩
  have hw := fun d (hd : d ∈ tables_1) => atoms_spec (ws := Jvm.Cond.code x code maxLocals ret :: tables_1) hat d (List.mem_cons_of_mem _ hd)
  obtain ⟨i0, ei0⟩ := isL_v hg3
  obtain rfl : w0 = (.long i0) := Option.some.inj ei0
  obtain ⟨i1, ei1⟩ := is_v hg5
  obtain rfl : w1 = (.int i1) := Option.some.inj ei1
  obtain ⟨i2, ei2⟩ := is_v hg7
  obtain rfl : w2 = (.int i2) := Option.some.inj ei2
  obtain ⟨i3, ei3⟩ := is_v hg8
  obtain rfl : w3 = (.int i3) := Option.some.inj ei3
  obtain ⟨n, o, h1, h2, h3, _, L, rfl, ⟨rfl, N⟩, hq⟩ := rm0 l s _ hw tables_1 i0 i1 i2 i3 s.heap s.heap.size (Nat.le_refl _)  p e ha hc hk s m _ below hf ((Spec.applies_iff_loose hf).mp happ).1 ⟨rfl, State.Warmed39.refl s, rfl⟩ trivial
  refine ⟨n, _, h1, h2, h3, hpost _ _ _ _ _ _ ⟨Cond.after_iff.mpr rfl, Cond.after_iff.mpr (eq_i res_at (Term.int_eval (1)) rfl)⟩ ⟨hq.1, hq.2.1, (hq.2.2.sift fun y hy => Or.inr (N y hy)).mono (by decide) (by decide)⟩⟩
theorem main_1_1 : Claimed_1_1 := comes_1 fun _ _ _ _ _ _ h hF => ⟨h.1, hF⟩
theorem main_1_2 : Claimed_1_2 := comes_1 fun _ _ _ _ _ _ h hF => ⟨h.2, hF⟩
end Jvm.Pilot.@@N@@
namespace Jvm.Pilot.@@N@@
open Jvm Jvm.ClassFile Sem Op Lib Jvm.Free Jvm.Stand Jvm.Pilot.@@N@@.Jvm.D
/-! MADE BY PROGRAM (witnessworld.py) out of the Statement's table words and the real class files: 10 classes; the members and pool entries that the words name. The judged class is class 1, her method 3. -/
namespace start1
open Jvm.ClassFile
def u (s : String) : CpInfo := .utf8 (stringToUtf16 s)
/-- a pool by its gaps: so many unusable entries, then the entry; so many at the end -/
def gap : Nat → List CpInfo → List CpInfo
  | 0, r => r
  | n + 1, r => .unusable :: gap n r
def poolList (es : List (Nat × CpInfo)) (last : Nat) : List CpInfo := es.foldr (fun e r => gap e.1 (e.2 :: r)) (gap last [])
def pool (es : List (Nat × CpInfo)) (last : Nat) : Array CpInfo := ⟨poolList es last⟩
def fileOf (pool : Array CpInfo) (this : Nat) (attrs : Array Attribute := #[]) (ms : Array MethodInfo := #[]) (fl : Nat := 33) (sup : Nat := 0) (ifs : Array Nat := #[]) (fds : Array FieldInfo := #[]) : ClassFile where
  minorVersion := 0
  majorVersion := 65
  constantPool := pool
  accessFlags := fl
  thisClass := this
  superClass := sup
  interfaces := ifs
  fields := fds
  methods := ms
  attributes := attrs
def plain (name : String) (sup : Option ClassId) : Class where
  name := name
  kind := .ordinary
  loader := none
  accessFlags := 33
  super := sup
  interfaces := #[]
  cf := none
  fields := #[]
  methods := #[]
  instanceTypes := #[]
  staticTypes := #[]
  resolved := #[]
  callSites := []
  init := .initialized
  statics := none
  mirror := none

def pool0 : Array CpInfo := pool [(5, u "<init>"), (0, u "()V"), (1, .class_ 10), (1, u "java/lang/Object")] 113

def k0c0 : Code := { maxStack := 0, maxLocals := 1, code := object_method_1_code, exceptionTable := #[], attributes := #[] }
def k0m0 : Method := { name := "<init>", desc := "()V", sig := { parameters := [], returnType := none }, accessFlags := 1, code := some k0c0 }
/-- java/lang/Object -/
def k0 : Class := { plain "java/lang/Object" none with
  accessFlags := 33
  interfaces := #[]
  cf := some (fileOf pool0 8 #[] #[{ accessFlags := 1, nameIndex := 5, descriptorIndex := 6, attributes := #[] }] 33 0 #[] #[])
  fields := #[]
  methods := #[k0m0]
  instanceTypes := #[]
  staticTypes := #[]
  resolved := Array.replicate 124 none
  statics := none }

def pool1 : Array CpInfo := pool [(2, .class_ 4), (0, .nameAndType 5 6), (0, u "java/lang/Object"), (0, u "<init>"), (0, u "()V"), (0, .methodref 8 9), (0, .class_ 10), (0, .nameAndType 11 12), (0, u "portwarden/transport/InputBufferConsumePinLaw"), (0, u "at"), (0, u "([BI[BIII)Z"), (0, .class_ 14), (0, u "portwarden/transport/InputBuffer"), (0, .methodref 13 3), (0, .methodref 13 17), (0, .nameAndType 18 19), (0, u "append"), (0, u "([BII)V"), (0, .integer 2147483647), (0, .methodref 13 22), (0, .nameAndType 23 24), (0, u "consume"), (0, u "(I)V"), (0, .methodref 13 26), (0, .nameAndType 27 28), (0, u "available"), (0, u "()I"), (0, .methodref 13 30), (0, .nameAndType 31 28), (0, u "start"), (0, .methodref 13 33), (0, .nameAndType 34 35), (0, u "array"), (0, u "()[B"), (0, .methodref 8 37), (0, .nameAndType 38 39), (0, u "same"), (0, u "([BI[BII)Z"), (3, u "law"), (0, u "(JIII)Z")] 4

def k1m0 : Method := { name := "<init>", desc := "()V", sig := { parameters := [], returnType := none }, accessFlags := 1, code := none }
def k1c1 : Code := { maxStack := 4, maxLocals := 6, code := method_2_code, exceptionTable := #[], attributes := #[] }
def k1m1 : Method := { name := "at", desc := "([BI[BIII)Z", sig := { parameters := [(.array .byte), .int, (.array .byte), .int, .int, .int], returnType := some .boolean }, accessFlags := 10, code := some k1c1 }
def k1c2 : Code := { maxStack := 6, maxLocals := 5, code := method_3_code, exceptionTable := #[], attributes := #[] }
def k1m2 : Method := { name := "same", desc := "([BI[BII)Z", sig := { parameters := [(.array .byte), .int, (.array .byte), .int, .int], returnType := some .boolean }, accessFlags := 10, code := some k1c2 }
def k1c3 : Code := { maxStack := 5, maxLocals := 16, code := code, exceptionTable := #[], attributes := #[] }
def k1m3 : Method := { name := "law", desc := "(JIII)Z", sig := { parameters := [.long, .int, .int, .int], returnType := some .boolean }, accessFlags := 9, code := some k1c3 }
/-- portwarden/transport/InputBufferConsumePinLaw -/
def k1 : Class := { plain "portwarden/transport/InputBufferConsumePinLaw" (some 0) with
  accessFlags := 49
  interfaces := #[]
  cf := some (fileOf pool1 8 #[] #[{ accessFlags := 1, nameIndex := 5, descriptorIndex := 6, attributes := #[] }, { accessFlags := 10, nameIndex := 11, descriptorIndex := 12, attributes := #[] }, { accessFlags := 10, nameIndex := 38, descriptorIndex := 39, attributes := #[] }, { accessFlags := 9, nameIndex := 43, descriptorIndex := 44, attributes := #[] }] 49 2 #[] #[])
  fields := #[]
  methods := #[k1m0, k1m1, k1m2, k1m3]
  instanceTypes := #[]
  staticTypes := #[]
  resolved := Array.replicate 49 none
  statics := none }

def pool2 : Array CpInfo := pool [(1, .methodref 2 3), (0, .class_ 4), (0, .nameAndType 5 6), (0, u "java/lang/Object"), (0, u "<init>"), (0, u "()V"), (0, .class_ 8), (0, u "portwarden/transport/InputBuffer"), (0, .fieldref 7 10), (0, .nameAndType 11 12), (0, u "bytes"), (0, u "[B"), (0, .fieldref 7 14), (0, .nameAndType 15 16), (0, u "end"), (0, u "I"), (0, .methodref 7 18), (0, .nameAndType 19 20), (0, u "available"), (0, u "()I"), (0, .fieldref 7 22), (0, .nameAndType 23 16), (0, u "start"), (12, .methodref 37 38), (0, .class_ 39), (0, .nameAndType 40 41), (0, u "java/lang/System"), (0, u "arraycopy"), (0, u "(Ljava/lang/Object;ILjava/lang/Object;II)V"), (0, u "INITIAL_CAPACITY"), (4, u "append"), (0, u "([BII)V"), (1, u "array"), (0, u "()[B"), (0, u "consume"), (0, u "(I)V")] 2

def k2c0 : Code := { maxStack := 2, maxLocals := 1, code := prog_40_method_1_code, exceptionTable := #[], attributes := #[] }
def k2m0 : Method := { name := "<init>", desc := "()V", sig := { parameters := [], returnType := none }, accessFlags := 0, code := some k2c0 }
def k2c1 : Code := { maxStack := 7, maxLocals := 5, code := prog_40_method_2_code, exceptionTable := #[], attributes := #[] }
def k2m1 : Method := { name := "append", desc := "([BII)V", sig := { parameters := [(.array .byte), .int, .int], returnType := none }, accessFlags := 0, code := some k2c1 }
def k2c2 : Code := { maxStack := 1, maxLocals := 1, code := prog_40_method_3_code, exceptionTable := #[], attributes := #[] }
def k2m2 : Method := { name := "array", desc := "()[B", sig := { parameters := [], returnType := some (.array .byte) }, accessFlags := 0, code := some k2c2 }
def k2c3 : Code := { maxStack := 1, maxLocals := 1, code := prog_40_method_4_code, exceptionTable := #[], attributes := #[] }
def k2m3 : Method := { name := "start", desc := "()I", sig := { parameters := [], returnType := some .int }, accessFlags := 0, code := some k2c3 }
def k2c4 : Code := { maxStack := 2, maxLocals := 1, code := prog_40_method_5_code, exceptionTable := #[], attributes := #[] }
def k2m4 : Method := { name := "available", desc := "()I", sig := { parameters := [], returnType := some .int }, accessFlags := 0, code := some k2c4 }
def k2c5 : Code := { maxStack := 3, maxLocals := 2, code := prog_40_method_6_code, exceptionTable := #[], attributes := #[] }
def k2m5 : Method := { name := "consume", desc := "(I)V", sig := { parameters := [.int], returnType := none }, accessFlags := 0, code := some k2c5 }
/-- portwarden/transport/InputBuffer -/
def k2 : Class := { plain "portwarden/transport/InputBuffer" (some 0) with
  accessFlags := 48
  interfaces := #[]
  cf := some (fileOf pool2 7 #[] #[{ accessFlags := 0, nameIndex := 5, descriptorIndex := 6, attributes := #[] }, { accessFlags := 0, nameIndex := 47, descriptorIndex := 48, attributes := #[] }, { accessFlags := 0, nameIndex := 50, descriptorIndex := 51, attributes := #[] }, { accessFlags := 0, nameIndex := 23, descriptorIndex := 20, attributes := #[] }, { accessFlags := 0, nameIndex := 19, descriptorIndex := 20, attributes := #[] }, { accessFlags := 0, nameIndex := 52, descriptorIndex := 53, attributes := #[] }] 48 2 #[] #[{ accessFlags := 26, nameIndex := 42, descriptorIndex := 16, attributes := #[] }, { accessFlags := 2, nameIndex := 11, descriptorIndex := 12, attributes := #[] }, { accessFlags := 2, nameIndex := 23, descriptorIndex := 16, attributes := #[] }, { accessFlags := 2, nameIndex := 15, descriptorIndex := 16, attributes := #[] }])
  fields := #[{ name := "INITIAL_CAPACITY", type := .int, accessFlags := 26, slot := 0, constantValue := 0 }, { name := "bytes", type := (.array .byte), accessFlags := 2, slot := 0, constantValue := 0 }, { name := "start", type := .int, accessFlags := 2, slot := 1, constantValue := 0 }, { name := "end", type := .int, accessFlags := 2, slot := 2, constantValue := 0 }]
  methods := #[k2m0, k2m1, k2m2, k2m3, k2m4, k2m5]
  instanceTypes := #[(.array .byte), .int, .int]
  staticTypes := #[.int]
  resolved := Array.replicate 56 none
  statics := none }

def pool3 : Array CpInfo := pool [(2, .class_ 4), (1, u "java/lang/Object"), (0, u "<init>"), (0, u "()V"), (1, .class_ 10), (1, u "java/lang/System"), (0, u "allowSecurityManager"), (0, u "I"), (16, u "cons"), (0, u "Ljava/io/Console;"), (77, .class_ 110), (1, u "java/lang/System$CallersHolder"), (43, u "initialErrStream"), (0, u "Ljava/io/PrintStream;"), (19, u "security"), (0, u "Ljava/lang/SecurityManager;"), (31, .class_ 209), (0, u "java/lang/System$1"), (7, u "props"), (0, u "Ljava/util/Properties;"), (2, u "lineSeparator"), (0, u "Ljava/lang/String;"), (96, .class_ 321), (1, u "java/lang/System$LoggerFinder"), (5, .class_ 328), (0, u "java/lang/System$Logger"), (67, u "err"), (2, u "out"), (91, u "notSupportedJnuEncoding"), (15, u "in"), (17, u "initialIn"), (0, u "Ljava/io/InputStream;"), (35, u "bootLayer"), (0, u "Ljava/lang/ModuleLayer;"), (99, .class_ 664), (0, u "java/lang/System$2"), (9, u "NEVER"), (2, u "MAYBE"), (49, u "arraycopy"), (0, u "(Ljava/lang/Object;ILjava/lang/Object;II)V"), (72, .class_ 802), (0, u "java/lang/System$Logger$Level")] 31

def k3m0 : Method := { name := "<init>", desc := "()V", sig := { parameters := [], returnType := none }, accessFlags := 2, code := none }
def k3m1 : Method := { name := "arraycopy", desc := "(Ljava/lang/Object;ILjava/lang/Object;II)V", sig := { parameters := [(.object "java/lang/Object"), .int, (.object "java/lang/Object"), .int, .int], returnType := none }, accessFlags := 265, code := none }
/-- java/lang/System -/
def k3 : Class := { plain "java/lang/System" (some 0) with
  accessFlags := 49
  interfaces := #[]
  cf := some (fileOf pool3 8 #[.nestMembers #[319, 327, 801, 108, 663, 208]] #[{ accessFlags := 2, nameIndex := 5, descriptorIndex := 6, attributes := #[] }, { accessFlags := 265, nameIndex := 727, descriptorIndex := 728, attributes := #[] }] 49 2 #[] #[{ accessFlags := 25, nameIndex := 507, descriptorIndex := 526, attributes := #[] }, { accessFlags := 25, nameIndex := 399, descriptorIndex := 155, attributes := #[] }, { accessFlags := 25, nameIndex := 396, descriptorIndex := 155, attributes := #[] }, { accessFlags := 10, nameIndex := 525, descriptorIndex := 526, attributes := #[] }, { accessFlags := 26, nameIndex := 674, descriptorIndex := 12, attributes := #[] }, { accessFlags := 26, nameIndex := 677, descriptorIndex := 12, attributes := #[] }, { accessFlags := 10, nameIndex := 11, descriptorIndex := 12, attributes := #[] }, { accessFlags := 74, nameIndex := 175, descriptorIndex := 176, attributes := #[] }, { accessFlags := 10, nameIndex := 491, descriptorIndex := 222, attributes := #[] }, { accessFlags := 74, nameIndex := 29, descriptorIndex := 30, attributes := #[] }, { accessFlags := 74, nameIndex := 154, descriptorIndex := 155, attributes := #[] }, { accessFlags := 10, nameIndex := 217, descriptorIndex := 218, attributes := #[] }, { accessFlags := 10, nameIndex := 221, descriptorIndex := 222, attributes := #[] }, { accessFlags := 8, nameIndex := 562, descriptorIndex := 563, attributes := #[] }])
  fields := #[{ name := "in", type := (.object "java/io/InputStream"), accessFlags := 25, slot := 0, constantValue := 0 }, { name := "out", type := (.object "java/io/PrintStream"), accessFlags := 25, slot := 1, constantValue := 0 }, { name := "err", type := (.object "java/io/PrintStream"), accessFlags := 25, slot := 2, constantValue := 0 }, { name := "initialIn", type := (.object "java/io/InputStream"), accessFlags := 10, slot := 3, constantValue := 0 }, { name := "NEVER", type := .int, accessFlags := 26, slot := 4, constantValue := 0 }, { name := "MAYBE", type := .int, accessFlags := 26, slot := 5, constantValue := 0 }, { name := "allowSecurityManager", type := .int, accessFlags := 10, slot := 6, constantValue := 0 }, { name := "security", type := (.object "java/lang/SecurityManager"), accessFlags := 74, slot := 7, constantValue := 0 }, { name := "notSupportedJnuEncoding", type := (.object "java/lang/String"), accessFlags := 10, slot := 8, constantValue := 0 }, { name := "cons", type := (.object "java/io/Console"), accessFlags := 74, slot := 9, constantValue := 0 }, { name := "initialErrStream", type := (.object "java/io/PrintStream"), accessFlags := 74, slot := 10, constantValue := 0 }, { name := "props", type := (.object "java/util/Properties"), accessFlags := 10, slot := 11, constantValue := 0 }, { name := "lineSeparator", type := (.object "java/lang/String"), accessFlags := 10, slot := 12, constantValue := 0 }, { name := "bootLayer", type := (.object "java/lang/ModuleLayer"), accessFlags := 8, slot := 13, constantValue := 0 }]
  methods := #[k3m0, k3m1]
  instanceTypes := #[]
  staticTypes := #[(.object "java/io/InputStream"), (.object "java/io/PrintStream"), (.object "java/io/PrintStream"), (.object "java/io/InputStream"), .int, .int, .int, (.object "java/lang/SecurityManager"), (.object "java/lang/String"), (.object "java/io/Console"), (.object "java/io/PrintStream"), (.object "java/util/Properties"), (.object "java/lang/String"), (.object "java/lang/ModuleLayer")]
  resolved := Array.replicate 834 none
  statics := none }

def pool4 : Array CpInfo := pool [(1, u "java/lang/Cloneable"), (0, .class_ 1), (0, u "java/lang/Object"), (0, .class_ 3)] 3

/-- java/lang/Cloneable -/
def k4 : Class := { plain "java/lang/Cloneable" (some 0) with
  accessFlags := 1537
  interfaces := #[]
  cf := some (fileOf pool4 2 #[] #[] 1537 4 #[] #[])
  fields := #[]
  methods := #[]
  instanceTypes := #[]
  staticTypes := #[]
  resolved := Array.replicate 8 none
  statics := none }

def pool5 : Array CpInfo := pool [(1, u "java/io/Serializable"), (0, .class_ 1), (0, u "java/lang/Object"), (0, .class_ 3)] 3

/-- java/io/Serializable -/
def k5 : Class := { plain "java/io/Serializable" (some 0) with
  accessFlags := 1537
  interfaces := #[]
  cf := some (fileOf pool5 2 #[] #[] 1537 4 #[] #[])
  fields := #[]
  methods := #[]
  instanceTypes := #[]
  staticTypes := #[]
  resolved := Array.replicate 8 none
  statics := none }

/-- the primitive byte -/
def k6 : Class := { plain "byte" none with kind := .primitive 'B', accessFlags := 0x411 }
/-- [B -/
def k7 : Class := { plain "[B" (some 0) with kind := .array 6 .byte, interfaces := #[4, 5], accessFlags := 1041 }

/-- the primitive int -/
def k8 : Class := { plain "int" none with kind := .primitive 'I', accessFlags := 0x411 }
/-- [I -/
def k9 : Class := { plain "[I" (some 0) with kind := .array 8 .int, interfaces := #[4, 5], accessFlags := 1041 }

def heap : Heap := #[]
def classes : Array Class := #[k0, k1, k2, k3, k4, k5, k6, k7, k8, k9]
def interned : List (Array UInt16 × Addr) := []
def slotsUsed : Nat := 0
def theMethod : MethodId := ⟨1, 3⟩
def args0 : Array Value := #[.long 5, .int 7, .int 9, .int 3]
def aboutOver (below : List Frame) : State where
  vm := { classes := classes, interned := interned.toArray }
  heap := heap
  slotsUsed := slotsUsed
  threads := #[{ frames := .invoking theMethod args0 :: below }]
def below0 : List Frame := [.native { method := ⟨0, 0⟩, args := #[] }]
def about1 : State := aboutOver below0
def p0 : Program := .bare "" "" ""
def e0 : Env := launch0.env 0 0 0
theorem w_frames : about1.frames = Frame.invoking theMethod args0 :: below0 := rfl
set_option maxRecDepth 65536 in
theorem w_args : argsFit about1.vm theMethod args0 = true := by decide +kernel
set_option maxRecDepth 65536 in
theorem w_heap : heapFits about1 = true := by decide +kernel
set_option maxRecDepth 65536 in
theorem w_runnable : about1.curStatus? = some .runnable := by decide +kernel
set_option maxRecDepth 65536 in
theorem w_alone : about1.alone = true := by decide +kernel
set_option maxRecDepth 65536 in
theorem w_named : about1.methodNamed? x = some theMethod := by decide +kernel
set_option maxRecDepth 65536 in
theorem w_hears : about1.hears theMethod below0 = true := by decide +kernel
set_option maxRecDepth 65536 in
theorem w_ripe : about1.ripe theMethod args0 below0 = true := by decide +kernel
theorem w_running : about1.status = .running := rfl
set_option maxRecDepth 65536 in
theorem w_room : about1.hasRoom e0.platform room_1 = true :=
  launch0.hasRoom_least _ room_1 (by decide +kernel) (by decide +kernel) (by decide +kernel) (by decide +kernel) (by decide +kernel) (by decide +kernel)
theorem allAtoms_all (ts : List Jvm.Cond) (a : Array Jvm.Value) (st : Jvm.State) : (allAtoms ts).before a st = ts.all (fun c => c.before a st) := by
  induction ts with
  | nil => rfl
  | cons c t ih =>
    show (Jvm.Cond.and c (allAtoms t)).before a st = _
    rw [Jvm.Cond.before_and, ih, List.all_cons]
def words1 : List Jvm.Cond := Jvm.Cond.code x code maxLocals ret :: tables_1
/-- a 'code' word, met by the world's own term for the bytes: nothing is compared byte by byte -/
theorem code_word {y : MethodName} {bytes : ByteArray} {mx : Nat} {rt : Option FieldType} {a : Array Value} {s : State} {m : MethodId} {meth : Method} {c : Code} (h1 : s.methodNamed? y = some m) (h2 : s.vm.method? m = some meth) (h3 : meth.code = some c) (h4 : c.code = bytes)
    (h5 : (c.maxLocals == mx && c.exceptionTable.isEmpty && decide (c.maxStack ≤ mostOperands) && decide (meth.sig.returnType = rt) && !meth.locks && decide (parseMethodDescriptor y.desc = some meth.sig)) = true) : (Jvm.Cond.code y bytes mx rt).before a s = true := by
  simp only [Bool.and_eq_true, beq_iff_eq, Bool.not_eq_true', decide_eq_true_eq] at h5
  obtain ⟨⟨⟨⟨⟨g1, g2⟩, g3⟩, g4⟩, g5⟩, g6⟩ := h5
  simp [Cond.before, Cond.holds, Cond.value, h1, h2, h3, h4, g1, g2, g3, g4, g5, g6]
def isCode : Jvm.Cond → Bool
  | .code _ _ _ _ => true
  | _ => false
theorem all_split {L : List Jvm.Cond} {P : Jvm.Cond → Bool} (h1 : L.all (fun c => isCode c || P c) = true) (h2 : ∀ c ∈ L.filter isCode, P c = true) : L.all P = true := by
  refine List.all_eq_true.mpr fun c hc => ?_
  have h := List.all_eq_true.mp h1 c hc
  rcases Bool.eq_false_or_eq_true (isCode c) with hi | hi
  · exact h2 c (List.mem_filter.mpr ⟨hc, hi⟩)
  · simpa [hi] using h
set_option maxRecDepth 65536 in
theorem w_c0 : (Jvm.Cond.code x code maxLocals ret).before args0 about1 = true := code_word (m := ⟨1, 3⟩) (meth := k1m3) (c := k1c3) (by decide +kernel) rfl rfl rfl (by decide +kernel)
set_option maxRecDepth 65536 in
theorem w_c1 : (Jvm.Cond.code ({ cls := "portwarden/transport/InputBuffer", name := "<init>", desc := "()V" } : Jvm.MethodName) prog_40_method_1_code (1 : Nat) (Option.none : Option Jvm.ClassFile.FieldType)).before args0 about1 = true := code_word (m := ⟨2, 0⟩) (meth := k2m0) (c := k2c0) (by decide +kernel) rfl rfl rfl (by decide +kernel)
set_option maxRecDepth 65536 in
theorem w_c2 : (Jvm.Cond.code ({ cls := "java/lang/Object", name := "<init>", desc := "()V" } : Jvm.MethodName) object_method_1_code (1 : Nat) (Option.none : Option Jvm.ClassFile.FieldType)).before args0 about1 = true := code_word (m := ⟨0, 0⟩) (meth := k0m0) (c := k0c0) (by decide +kernel) rfl rfl rfl (by decide +kernel)
set_option maxRecDepth 65536 in
theorem w_c3 : (Jvm.Cond.code ({ cls := "portwarden/transport/InputBuffer", name := "append", desc := "([BII)V" } : Jvm.MethodName) prog_40_method_2_code (5 : Nat) (Option.none : Option Jvm.ClassFile.FieldType)).before args0 about1 = true := code_word (m := ⟨2, 1⟩) (meth := k2m1) (c := k2c1) (by decide +kernel) rfl rfl rfl (by decide +kernel)
set_option maxRecDepth 65536 in
theorem w_c4 : (Jvm.Cond.code ({ cls := "portwarden/transport/InputBuffer", name := "consume", desc := "(I)V" } : Jvm.MethodName) prog_40_method_6_code (2 : Nat) (Option.none : Option Jvm.ClassFile.FieldType)).before args0 about1 = true := code_word (m := ⟨2, 5⟩) (meth := k2m5) (c := k2c5) (by decide +kernel) rfl rfl rfl (by decide +kernel)
set_option maxRecDepth 65536 in
theorem w_c5 : (Jvm.Cond.code ({ cls := "portwarden/transport/InputBuffer", name := "available", desc := "()I" } : Jvm.MethodName) prog_40_method_5_code (1 : Nat) (Option.some Jvm.ClassFile.FieldType.int)).before args0 about1 = true := code_word (m := ⟨2, 4⟩) (meth := k2m4) (c := k2c4) (by decide +kernel) rfl rfl rfl (by decide +kernel)
set_option maxRecDepth 65536 in
theorem w_c6 : (Jvm.Cond.code ({ cls := "portwarden/transport/InputBuffer", name := "start", desc := "()I" } : Jvm.MethodName) prog_40_method_4_code (1 : Nat) (Option.some Jvm.ClassFile.FieldType.int)).before args0 about1 = true := code_word (m := ⟨2, 3⟩) (meth := k2m3) (c := k2c3) (by decide +kernel) rfl rfl rfl (by decide +kernel)
set_option maxRecDepth 65536 in
theorem w_c7 : (Jvm.Cond.code ({ cls := "portwarden/transport/InputBuffer", name := "array", desc := "()[B" } : Jvm.MethodName) prog_40_method_3_code (1 : Nat) (Option.some (Jvm.ClassFile.FieldType.array Jvm.ClassFile.FieldType.byte))).before args0 about1 = true := code_word (m := ⟨2, 2⟩) (meth := k2m2) (c := k2c2) (by decide +kernel) rfl rfl rfl (by decide +kernel)
set_option maxRecDepth 65536 in
theorem w_c8 : (Jvm.Cond.code ({ cls := "portwarden/transport/InputBufferConsumePinLaw", name := "same", desc := "([BI[BII)Z" } : Jvm.MethodName) method_3_code (5 : Nat) (Option.some Jvm.ClassFile.FieldType.boolean)).before args0 about1 = true := code_word (m := ⟨1, 2⟩) (meth := k1m2) (c := k1c2) (by decide +kernel) rfl rfl rfl (by decide +kernel)
set_option maxRecDepth 65536 in
theorem w_c9 : (Jvm.Cond.code ({ cls := "portwarden/transport/InputBufferConsumePinLaw", name := "at", desc := "([BI[BIII)Z" } : Jvm.MethodName) method_2_code (6 : Nat) (Option.some Jvm.ClassFile.FieldType.boolean)).before args0 about1 = true := code_word (m := ⟨1, 1⟩) (meth := k1m1) (c := k1c1) (by decide +kernel) rfl rfl rfl (by decide +kernel)
def codes1 : List Jvm.Cond := [Jvm.Cond.code x code maxLocals ret, Jvm.Cond.code ({ cls := "portwarden/transport/InputBuffer", name := "<init>", desc := "()V" } : Jvm.MethodName) prog_40_method_1_code (1 : Nat) (Option.none : Option Jvm.ClassFile.FieldType), Jvm.Cond.code ({ cls := "java/lang/Object", name := "<init>", desc := "()V" } : Jvm.MethodName) object_method_1_code (1 : Nat) (Option.none : Option Jvm.ClassFile.FieldType), Jvm.Cond.code ({ cls := "portwarden/transport/InputBuffer", name := "append", desc := "([BII)V" } : Jvm.MethodName) prog_40_method_2_code (5 : Nat) (Option.none : Option Jvm.ClassFile.FieldType), Jvm.Cond.code ({ cls := "portwarden/transport/InputBuffer", name := "consume", desc := "(I)V" } : Jvm.MethodName) prog_40_method_6_code (2 : Nat) (Option.none : Option Jvm.ClassFile.FieldType), Jvm.Cond.code ({ cls := "portwarden/transport/InputBuffer", name := "available", desc := "()I" } : Jvm.MethodName) prog_40_method_5_code (1 : Nat) (Option.some Jvm.ClassFile.FieldType.int), Jvm.Cond.code ({ cls := "portwarden/transport/InputBuffer", name := "start", desc := "()I" } : Jvm.MethodName) prog_40_method_4_code (1 : Nat) (Option.some Jvm.ClassFile.FieldType.int), Jvm.Cond.code ({ cls := "portwarden/transport/InputBuffer", name := "array", desc := "()[B" } : Jvm.MethodName) prog_40_method_3_code (1 : Nat) (Option.some (Jvm.ClassFile.FieldType.array Jvm.ClassFile.FieldType.byte)), Jvm.Cond.code ({ cls := "portwarden/transport/InputBufferConsumePinLaw", name := "same", desc := "([BI[BII)Z" } : Jvm.MethodName) method_3_code (5 : Nat) (Option.some Jvm.ClassFile.FieldType.boolean), Jvm.Cond.code ({ cls := "portwarden/transport/InputBufferConsumePinLaw", name := "at", desc := "([BI[BIII)Z" } : Jvm.MethodName) method_2_code (6 : Nat) (Option.some Jvm.ClassFile.FieldType.boolean)]
set_option maxRecDepth 65536 in
theorem codes_eq : words1.filter isCode = codes1 := rfl
theorem w_codes : ∀ c ∈ words1.filter isCode, c.before args0 about1 = true := by
  rw [codes_eq]
  intro c hc
  simp only [codes1, List.mem_cons, List.not_mem_nil, or_false] at hc
  rcases hc with rfl | rfl | rfl | rfl | rfl | rfl | rfl | rfl | rfl | rfl
  · exact w_c0
  · exact w_c1
  · exact w_c2
  · exact w_c3
  · exact w_c4
  · exact w_c5
  · exact w_c6
  · exact w_c7
  · exact w_c8
  · exact w_c9
set_option maxRecDepth 65536 in
theorem w_t1 : (words1.take 24).all (fun c => isCode c || c.before args0 about1) = true := by decide +kernel
set_option maxRecDepth 65536 in
theorem w_t2 : ((words1.drop 24).take 24).all (fun c => isCode c || c.before args0 about1) = true := by decide +kernel
set_option maxRecDepth 65536 in
theorem w_t3 : ((words1.drop 24).drop 24).all (fun c => isCode c || c.before args0 about1) = true := by decide +kernel
theorem w_tables : (allAtoms (Jvm.Cond.code x code maxLocals ret :: tables_1)).before args0 about1 = true := by
  rw [allAtoms_all]
  show words1.all (fun c => c.before args0 about1) = true
  refine all_split ?_ w_codes
  rw [← List.take_append_drop 24 words1, List.all_append, w_t1, ← List.take_append_drop 24 (words1.drop 24), List.all_append, w_t2, w_t3]
  rfl
set_option maxRecDepth 65536 in
theorem w_case : (Jvm.Cond.and given_1 narrow_1).before args0 about1 = true := by decide +kernel
theorem w_applies : (headSpec (Jvm.Cond.code x code maxLocals ret :: tables_1) room_1).applies x e0.platform about1 = true :=
  (Spec.applies_iff w_frames).mpr ⟨w_running, w_runnable, w_alone, w_named, w_hears, w_ripe, w_room, w_tables⟩
theorem atStart : AtStart classFile x code maxLocals ret World_1 tables_1 room_1 Calls_1 rest_1 Pre_1 launch0 p0 e0 about1 theMethod args0 below0 :=
  ⟨lists_1, trivial, launch0.admits_env _ _ _, launch0.least_env, fairChoices_fair.cas, fairChoices_fair.clock, w_frames, w_args, w_heap, w_applies, trivial, trivial, w_case⟩
end start1
theorem witness_1 : WitnessClaimed_1 := ⟨start1.p0, start1.e0, start1.about1, start1.theMethod, start1.args0, start1.below0, start1.atStart⟩
end Jvm.Pilot.@@N@@
