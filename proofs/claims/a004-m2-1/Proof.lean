import JvmDerived
import JvmDerived.Pilot.@@N@@Statement
import JvmDerived.Pilot.@@N@@Code
set_option linter.unusedVariables false
set_option linter.unusedSimpArgs false
@@BLOCK:NumsL.lean.txt@@
namespace Jvm.RoadKit
open Sem ClassFile Op Lib Jvm.Stand Jvm.Free Jvm.LawKit
section New
variable {p : Program} {l : Launch} {e : Env} {R : Room} {s : State} {m : MethodId} {args : Array Value} {below : List Frame} {meth : Method} {c : Code} {T : State} {locs : List Loc} {cells slots : Nat}
theorem retI (X : Stand p l e R s m args below meth c T locs cells slots) (hx : p.tables.exec = Jvm.exec) {pc : Nat} {Ls : Array Slot} {z : Int32} {rest : List Value} (hret : meth.sig.returnType = some .int) (hd : decode c.code pc = .ok (.ireturn, 1)) {fs : List Frame}
    (hl : ∀ (f : JFrame) (acts : List Action), f.method = m → f.locked = none → f.entered = [] → (doReturn e (T.setTop f) acts (some (.int z))).1 = T.setFrames fs) : Steps p.tables e below (T.setTop (mkF m pc Ls (.int z :: rest))) (T.setFrames fs) :=
  retOut X hx hret rfl (Or.inl ⟨rfl, Or.inl rfl, _, rfl⟩) hd hl
theorem retL (X : Stand p l e R s m args below meth c T locs cells slots) (hx : p.tables.exec = Jvm.exec) {pc : Nat} {Ls : Array Slot} {z : Int64} {rest : List Value} (hret : meth.sig.returnType = some .long) (hd : decode c.code pc = .ok (.lreturn, 1)) {fs : List Frame}
    (hl : ∀ (f : JFrame) (acts : List Action), f.method = m → f.locked = none → f.entered = [] → (doReturn e (T.setTop f) acts (some (.long z))).1 = T.setFrames fs) : Steps p.tables e below (T.setTop (mkF m pc Ls (.long z :: rest))) (T.setFrames fs) :=
  retOut X hx hret rfl (Or.inr (Or.inl ⟨rfl, rfl, _, rfl⟩)) hd hl
theorem retA (X : Stand p l e R s m args below meth c T locs cells slots) (hx : p.tables.exec = Jvm.exec) {pc : Nat} {Ls : Array Slot} {z : Addr} {t : FieldType} {rest : List Value} (hret : meth.sig.returnType = some t) (ht : t.isReference = true) (hd : decode c.code pc = .ok (.areturn, 1)) {fs : List Frame}
    (hn : narrow t (.ref z) = .ref z) (hl : ∀ (f : JFrame) (acts : List Action), f.method = m → f.locked = none → f.entered = [] → (doReturn e (T.setTop f) acts (some (.ref z))).1 = T.setFrames fs) : Steps p.tables e below (T.setTop (mkF m pc Ls (.ref z :: rest))) (T.setFrames fs) :=
  retOut X hx hret hn (Or.inr (Or.inr (Or.inr (Or.inr ⟨rfl, ht, rfl⟩)))) hd hl
end New
end Jvm.RoadKit
namespace Jvm.Pilot.@@N@@
open Jvm Jvm.ClassFile Sem Op Lib Jvm.Free Jvm.Stand Jvm.LawKit Jvm.RoadKit Bundle Jvm.Pilot.@@N@@.Jvm.D
/-- the walk moves on: what runs from S' runs from S -/
theorem own_go {tb : Tables} {e : Env} {below : List Frame} {S S' : State} {P : State → Outcome → Prop} (h : ∀ t, Steps tb e below S' t → Steps tb e below S t)
    (k : ∃ s₂ o, Steps tb e below S' s₂ ∧ s₂.status = .running ∧ Ended s₂ below o ∧ P s₂ o) : ∃ s₂ o, Steps tb e below S s₂ ∧ s₂.status = .running ∧ Ended s₂ below o ∧ P s₂ o := by
  obtain ⟨s₂, o, h1, h2⟩ := k
  exact ⟨s₂, o, h _ h1, h2⟩
/-- the same, on the way to a joint -/
theorem own_goR {tb : Tables} {e : Env} {below : List Frame} {S S' : State} {α : Type} {Φ : α → Prop} {Ψ : α → State} (h : ∀ t, Steps tb e below S' t → Steps tb e below S t)
    (k : ∃ x, Φ x ∧ ∀ t, Steps tb e below (Ψ x) t → Steps tb e below S' t) : ∃ x, Φ x ∧ ∀ t, Steps tb e below (Ψ x) t → Steps tb e below S t := by
  obtain ⟨x, h1, h2⟩ := k
  exact ⟨x, h1, fun t kt => h t (h2 t kt)⟩
/-- a private method is selected, where a method of its class is -/
theorem own_selp {s : State} {args args' : Array Value} {cls : String} {x' y' y : MethodName} (h : (Jvm.Cond.selects cls x' y').before args s = true) (e : y'.cls = y.cls) (hpriv : s.PrivateAt y) (hinst : (Jvm.Cond.instanceMethod y).before args' s = true) (hy : y.cls ≠ "java/lang/invoke/MethodHandle" ∧ y.cls ≠ "java/lang/invoke/VarHandle") : (Jvm.Cond.selects y.cls y y).before args' s = true := by
  obtain ⟨c, r, m, -, -, h3, -, mk, h4, h5⟩ := Cond.selects_spec h
  exact Jvm.Stand.selects_self_of_private (e ▸ findClass_of_methodNamed h3) h4 h5 hpriv hinst hy
/-- Java's x >>> y on ints and on longs -/
def own_ushr (x y : Int32) : Int32 := (x.toUInt32 >>> (y &&& 31).toUInt32).toInt32
def own_ushrL (x : Int64) (y : Int32) : Int64 := (x.toUInt64 >>> (y &&& 0x3f).toInt64.toUInt64).toInt64
def own_shlL (x : Int64) (y : Int32) : Int64 := x <<< (y &&& 0x3f).toInt64
def own_shrL (x : Int64) (y : Int32) : Int64 := x >>> (y &&& 0x3f).toInt64
def own_shl (x y : Int32) : Int32 := x <<< (y &&& 31)
def own_shr (x y : Int32) : Int32 := x >>> (y &&& 31)
/-- an array by its places: ints (byte, char, short, boolean too), longs -/
def own_AI (Z : State) (h : Heap) (a : Addr) (ty : FieldType) (n : Nat) (g : Nat → Int32) : Prop := ∃ c : Cell, Arr Z h a c ty ∧ c.slots.size = n ∧ n < 2 ^ 31 ∧ ∀ i, i < n → c.slots[i]? = some (.int (g i))
def own_AJ (Z : State) (h : Heap) (a : Addr) (ty : FieldType) (n : Nat) (g : Nat → Int64) : Prop := ∃ c : Cell, Arr Z h a c ty ∧ c.slots.size = n ∧ n < 2 ^ 31 ∧ ∀ i, i < n → c.slots[i]? = some (.long (g i))
def own_AD (Z : State) (h : Heap) (a : Addr) (ty : FieldType) (n : Nat) (g : Nat → UInt64) : Prop := ∃ c : Cell, Arr Z h a c ty ∧ c.slots.size = n ∧ n < 2 ^ 31 ∧ ∀ i, i < n → c.slots[i]? = some (.double (g i))
def own_upd {α : Type} (g : Nat → α) (j : Nat) (v : α) : Nat → α := fun i => if i = j then v else g i
theorem own_upd_same {α : Type} (g : Nat → α) (j : Nat) (v : α) : own_upd g j v j = v := if_pos rfl
theorem own_upd_ne {α : Type} (g : Nat → α) {i j : Nat} (v : α) (h : i ≠ j) : own_upd g j v i = g i := if_neg h
section OwnArrays
variable {Z : State} {h h' : Heap} {a b : Addr} {ty : FieldType} {n sl : Nat} {v : Value} {ws : List Addr}
theorem own_AI.lt {g : Nat → Int32} (F : own_AI Z h a ty n g) : a < h.size := by obtain ⟨c, A, -⟩ := F; exact A.lt
theorem own_AI.ext {g : Nat → Int32} (F : own_AI Z h a ty n g) (E : Ext h h') : own_AI Z h' a ty n g := by obtain ⟨c, A, r⟩ := F; exact ⟨c, A.ext E, r⟩
theorem own_AI.other {g : Nat → Int32} (F : own_AI Z h b ty n g) (W : Wr h h' a sl v) (q : b ≠ a) : own_AI Z h' b ty n g := by obtain ⟨c, A, r⟩ := F; exact ⟨c, A.other W q, r⟩
theorem own_AI.keep {g : Nat → Int32} (F : own_AI Z h a ty n g) (K : Keep h h' ws) (q : a ∉ ws) : own_AI Z h' a ty n g := by obtain ⟨c, A, r⟩ := F; exact ⟨c, ⟨K.2.1 a c A.1 q, A.2⟩, r⟩
theorem own_AJ.lt {g : Nat → Int64} (F : own_AJ Z h a ty n g) : a < h.size := by obtain ⟨c, A, -⟩ := F; exact A.lt
theorem own_AJ.ext {g : Nat → Int64} (F : own_AJ Z h a ty n g) (E : Ext h h') : own_AJ Z h' a ty n g := by obtain ⟨c, A, r⟩ := F; exact ⟨c, A.ext E, r⟩
theorem own_AJ.other {g : Nat → Int64} (F : own_AJ Z h b ty n g) (W : Wr h h' a sl v) (q : b ≠ a) : own_AJ Z h' b ty n g := by obtain ⟨c, A, r⟩ := F; exact ⟨c, A.other W q, r⟩
theorem own_AJ.keep {g : Nat → Int64} (F : own_AJ Z h a ty n g) (K : Keep h h' ws) (q : a ∉ ws) : own_AJ Z h' a ty n g := by obtain ⟨c, A, r⟩ := F; exact ⟨c, ⟨K.2.1 a c A.1 q, A.2⟩, r⟩
theorem own_AD.lt {g : Nat → UInt64} (F : own_AD Z h a ty n g) : a < h.size := by obtain ⟨c, A, -⟩ := F; exact A.lt
theorem own_AD.ext {g : Nat → UInt64} (F : own_AD Z h a ty n g) (E : Ext h h') : own_AD Z h' a ty n g := by obtain ⟨c, A, r⟩ := F; exact ⟨c, A.ext E, r⟩
theorem own_AD.other {g : Nat → UInt64} (F : own_AD Z h b ty n g) (W : Wr h h' a sl v) (q : b ≠ a) : own_AD Z h' b ty n g := by obtain ⟨c, A, r⟩ := F; exact ⟨c, A.other W q, r⟩
theorem own_AD.keep {g : Nat → UInt64} (F : own_AD Z h a ty n g) (K : Keep h h' ws) (q : a ∉ ws) : own_AD Z h' a ty n g := by obtain ⟨c, A, r⟩ := F; exact ⟨c, ⟨K.2.1 a c A.1 q, A.2⟩, r⟩
theorem own_AI.set {g : Nat → Int32} {c : Cell} {x : Int32} {j : Nat} (A : Arr Z h a c ty) (S : c.slots.size = n) (M : n < 2 ^ 31) (H : ∀ i, i < n → c.slots[i]? = some (.int (g i))) (W : Wr h h' a j (.int x)) : own_AI Z h' a ty n (own_upd g j x) := by
  refine ⟨_, A.same W, (sz_set _ _ _).trans S, M, fun i hi => ?_⟩
  simp only [Cell.setSlot, Array.getElem?_setIfInBounds, own_upd]
  by_cases q : j = i
  · subst q; simp [S, hi]
  · rw [if_neg q, if_neg (fun z => q z.symm)]; exact H i hi
theorem own_AJ.set {g : Nat → Int64} {c : Cell} {x : Int64} {j : Nat} (A : Arr Z h a c ty) (S : c.slots.size = n) (M : n < 2 ^ 31) (H : ∀ i, i < n → c.slots[i]? = some (.long (g i))) (W : Wr h h' a j (.long x)) : own_AJ Z h' a ty n (own_upd g j x) := by
  refine ⟨_, A.same W, (sz_set _ _ _).trans S, M, fun i hi => ?_⟩
  simp only [Cell.setSlot, Array.getElem?_setIfInBounds, own_upd]
  by_cases q : j = i
  · subst q; simp [S, hi]
  · rw [if_neg q, if_neg (fun z => q z.symm)]; exact H i hi
theorem own_AD.set {g : Nat → UInt64} {c : Cell} {x : UInt64} {j : Nat} (A : Arr Z h a c ty) (S : c.slots.size = n) (M : n < 2 ^ 31) (H : ∀ i, i < n → c.slots[i]? = some (.double (g i))) (W : Wr h h' a j (.double x)) : own_AD Z h' a ty n (own_upd g j x) := by
  refine ⟨_, A.same W, (sz_set _ _ _).trans S, M, fun i hi => ?_⟩
  simp only [Cell.setSlot, Array.getElem?_setIfInBounds, own_upd]
  by_cases q : j = i
  · subst q; simp [S, hi]
  · rw [if_neg q, if_neg (fun z => q z.symm)]; exact H i hi
theorem own_clamp_lt (z : Int32) : z.toNatClampNeg < 2 ^ 31 := by have := z.toInt_lt; simp only [Int32.toNatClampNeg]; omega
theorem own_AI.fresh {k : ClassId} {z : Int32} (A : Arr Z h a (newA k ty z) ty) (hd : defaultValue ty = .int 0) : own_AI Z h a ty z.toNatClampNeg (fun _ => 0) :=
  ⟨_, A, sz_new _ _ _, own_clamp_lt z, fun i hi => by simp [newA, hi, hd]⟩
theorem own_AJ.fresh {k : ClassId} {z : Int32} (A : Arr Z h a (newA k ty z) ty) (hd : defaultValue ty = .long 0) : own_AJ Z h a ty z.toNatClampNeg (fun _ => 0) :=
  ⟨_, A, sz_new _ _ _, own_clamp_lt z, fun i hi => by simp [newA, hi, hd]⟩
theorem own_AD.fresh {k : ClassId} {z : Int32} (A : Arr Z h a (newA k ty z) ty) (hd : defaultValue ty = .double 0) : own_AD Z h a ty z.toNatClampNeg (fun _ => 0) :=
  ⟨_, A, sz_new _ _ _, own_clamp_lt z, fun i hi => by simp [newA, hi, hd]⟩
theorem own_in {c : Cell} {j : Int32} (S : c.slots.size = n) (q : ¬ j < 0 ∧ j.toNatClampNeg < n) : ¬ (j < 0 ∨ c.slots.size ≤ j.toNatClampNeg) := by
  rw [S]; exact fun z => z.elim q.1 (fun y => by have := q.2; omega)
theorem own_len {c : Cell} (S : c.slots.size = n) : c.slots.size.toInt32 = Int32.ofNat n := by rw [S]
theorem own_fitI {g : Nat → Int32} {c : Cell} (A : Arr Z h a c .int) (S : c.slots.size = n) (H : ∀ i, i < n → c.slots[i]? = some (.int (g i))) : FitC Z c :=
  fitC_of A fun i hi v hv => by rw [H i (S ▸ hi)] at hv; cases hv; rfl
theorem own_nst {C : String} (E : Exa Z h a C) : ∃ c : Cell, h[a]? = some c ∧ c.vm.isStatics = false := by obtain ⟨c, k, h1, -, -, h4, -⟩ := E; exact ⟨c, h1, h4⟩
theorem own_Sta_keep {C f d : String} (F : Sta Z h C f d v) (K : Keep h h' ws) (q : ∀ x ∈ ws, ∃ c : Cell, h[x]? = some c ∧ c.vm.isStatics = false) : Sta Z h' C f d v := by
  obtain ⟨cf, i, k, f, st, cell, h1, h2, h3, h4, h5, h6, h7⟩ := F
  refine ⟨cf, i, k, f, st, cell, h1, h2, h3, h4, K.2.1 st cell h5 (fun z => ?_), h6, h7⟩
  obtain ⟨c, g1, g2⟩ := q st z
  cases h5.symm.trans g1
  rw [h6] at g2
  cases g2
end OwnArrays
theorem own_lremq (x y : Int64) : x - (x / y) * y = x % y := by
  apply Int64.toInt_inj.mp
  rw [Int64.toInt_sub, Int64.toInt_mul, Int64.toInt_div, Int64.toInt_mod]
  have h := Int.mul_tdiv_add_tmod x.toInt y.toInt
  have hl := x.toInt_lt; have hg := x.le_toInt
  simp only [Int.bmod_sub_bmod, Int.sub_bmod_bmod, Int.bmod_mul_bmod, Int.mul_bmod_bmod]
  have e : x.toInt - x.toInt.tdiv y.toInt * y.toInt = x.toInt.tmod y.toInt := by rw [Int.mul_comm]; omega
  rw [e]
  have h1 := (x % y).toInt_lt; have h2 := (x % y).le_toInt
  rw [Int64.toInt_mod] at h1 h2
  exact Int.bmod_eq_of_le (by omega) (by omega)
-- THE PLAIN LAW
theorem own_k0 : (0 : Int32).toInt = 0 := by decide
theorem own_k1 : (1 : Int32).toInt = 1 := by decide
theorem own_ge1 {z : Int32} (h : ¬ z < (0 : Int32)) (k : ¬ z = (0 : Int32)) : ¬ z < (1 : Int32) := by
  rw [Int32.lt_iff_toInt_lt, own_k0] at h
  rw [Int32.lt_iff_toInt_lt, own_k1]
  have : z.toInt ≠ 0 := fun y => k (Int32.toInt_inj.mp (y.trans own_k0.symm))
  omega
theorem own_mask (x : Int32) : 0 ≤ (x &&& (2147483647 : Int32)).toInt := by
  have := Jvm.Kit.i32_mask x 2147483647 (k := 31) (by decide) (by decide)
  rw [this]; omega
theorem own_msk {x z : Int32} (h : z = (x &&& (2147483647 : Int32))) : ¬ z < (0 : Int32) := by
  rw [Int32.lt_iff_toInt_lt, own_k0, h]
  have := own_mask x
  omega
theorem own_m32 {q k : Int32} (h : 0 ≤ q.toInt) : (q % k).toInt = q.toInt % k.toInt := by rw [Int32.toInt_mod, Int.tmod_eq_emod_of_nonneg h]
theorem own_n {x z : Int32} (h : z = (((x &&& (2147483647 : Int32)) % (2147483647 : Int32)) + (1 : Int32))) : ¬ z < (1 : Int32) := by
  have kM : (2147483647 : Int32).toInt = 2147483647 := by decide
  have e := own_m32 (k := 2147483647) (own_mask x)
  rw [kM] at e
  rw [Int32.lt_iff_toInt_lt, own_k1, h, Jvm.Kit.i32_add (by rw [e, own_k1]; omega) (by rw [e, own_k1]; omega), e, own_k1]
  omega
theorem own_x {x y z : Int32} {P : Prop} [Decidable P] (h : z = (if P then (x &&& (2147483647 : Int32)) else (0 : Int32))) : ¬ z < (0 : Int32) := by
  rw [Int32.lt_iff_toInt_lt, own_k0, h]
  have := own_mask x
  split
  · omega
  · rw [own_k0]; decide

theorem own_strw {Z : State} {aZ : Array Value} (hw : ∀ d ∈ tables_1, d.before aZ Z = true) : ∀ a ∈ Bundle.stringAtoms, a.before aZ Z = true := fun c hc =>
  hw c (by simpa using (List.all_eq_true.mp (by decide +kernel : (Bundle.stringAtoms.all fun c => tables_1.contains c) = true)) c hc)
/-- s is the true start s0 with the tables at hand; every pair interned since lies below h's end -/
def own_St (s0 s : State) (h : Heap) : Prop := ∃ vm k, s = s0.setVm vm ∧ s0.Since vm k ∧ k ≤ h.size
theorem own_St.refl (s : State) (h : Heap) : own_St s s h := ⟨s.vm, 0, rfl, (State.WarmedH.refl s).since 0, Nat.zero_le _⟩
theorem own_St.le {s0 s : State} {h h' : Heap} (S : own_St s0 s h) (q : h.size ≤ h'.size) : own_St s0 s h' := by
  obtain ⟨vm, k, e1, e2, e3⟩ := S
  exact ⟨vm, k, e1, e2, Nat.le_trans e3 q⟩
theorem own_St.next {s0 s : State} {h : Heap} {U : State} (S : own_St s0 s h) (q : s.Since U.vm U.heap.size) (g : h.size ≤ U.heap.size) : own_St s0 (s.setVm U.vm) U.heap := by
  obtain ⟨vm, k, rfl, e2, e3⟩ := S
  exact ⟨U.vm, U.heap.size, rfl, e2.trans q (Nat.le_trans e3 g), Nat.le_refl _⟩
section OwnIntern
variable {p : Program} {l : Launch} {e : Env} {R : Room} {s s0 : State} {m : MethodId} {args : Array Value} {below : List Frame} {meth : Method} {c : Code} {T : State} {locs : List Loc} {cells slots : Nat} {Z : State} {a0 : Array Value} {h : Heap}
theorem own_ldc (X : Stand p l e R s m args below meth c T locs cells slots) (hx : p.tables.exec = Jvm.exec) (hZ : Z.Warmed39 s.vm) {own text : String} {index : Nat} (hown : s.vm.findClass own = some m.cls) (w : (Cond.stringLink own index text).before a0 Z = true) (wS : ∀ a ∈ Bundle.stringAtoms, a.before a0 Z = true)
    (eT : T.heap = h) (S : own_St s0 s h) {g : JFrame} (hg : g.method = m) (hd : decode c.code g.pc = .ok (.ldc index, 2)) {n : Nat} (hn : 4 * text.toList.length ≤ n) (hbig : n ≤ 536870912) (hc : cells + 2 ≤ R.cells) (hl : slots + (n + 4) ≤ R.slots) :
    ∃ (a : Addr) (s' T' : State) (h' : Heap), Stand p l e R s' m args below meth c T' locs (cells + 2) (slots + (n + 4)) ∧ T'.heap = h' ∧ Ext h h' ∧ own_St s0 s' h' ∧ Z.Warmed39 s'.vm ∧ s'.vm.findClass own = some m.cls ∧
      ∀ target, Steps p.tables e below (T'.setTop { g with pc := g.pc + 2, stack := .ref a :: g.stack }) target → Steps p.tables e below (T.setTop g) target := by
  obtain ⟨a, T', X', hS', -, hb, -, st⟩ := X.ldcStringCold hx (own := own) hown (mvS hZ w) (fun d hd => by
    have q := wS d hd
    simp only [Bundle.stringAtoms, List.mem_cons, List.not_mem_nil, or_false] at hd
    rcases hd with rfl | rfl | rfl | rfl | rfl | rfl | rfl
    · exact mv hZ q
    · exact mv hZ q
    · exact mvA hZ q
    · exact mv hZ q
    · exact mv hZ q
    · exact mv hZ q
    · exact mv hZ q) hg hd hn hbig hc hl
  subst eT
  have E := ext_of hb
  exact ⟨a, s.setVm T'.vm, T', _, X', rfl, E, S.next hS' E.1, hZ.trans hS'.1, (hS'.1.alike.findClass own _).trans hown, st⟩
theorem own_back {own : String} {U : State} {L' : List Loc} {c' s' : Nat} (X : Stand p l e R (s.setVm U.vm) m args below meth c U L' c' s') (S : own_St s0 s h) (hS : s.Since U.vm U.heap.size) (hg : T.heap.size ≤ U.heap.size) (eT : T.heap = h) (hZ : Z.Warmed39 s.vm) (hown : s.vm.findClass own = some m.cls) :
    ∃ s1, Stand p l e R s1 m args below meth c U L' c' s' ∧ own_St s0 s1 U.heap ∧ Z.Warmed39 s1.vm ∧ s1.vm.findClass own = some m.cls := by
  subst eT
  exact ⟨s.setVm U.vm, X, S.next hS hg, hZ.trans hS.1, (hS.1.alike.findClass own _).trans hown⟩
theorem own_leave (X : Stand p l e R s m args below meth c T locs cells slots) (eT : T.heap = h) (S : own_St s0 s h) {v : Option Value} (hv : meth.sig.returnType = none → v = none) (hlocks : meth.locks = false := by first | assumption | exact BodyLoose.notSynchronized (by assumption) | exact Body.notSynchronized (by assumption)) :
    ∃ fs, (∀ (f : JFrame) (acts : List Action), f.method = m → f.locked = none → f.entered = [] → (doReturn e (T.setTop f) acts v).1 = T.setFrames fs) ∧ (T.setFrames fs).status = .running ∧ Ended (T.setFrames fs) below (.returned v) ∧
      s0.Warmed39 (T.setFrames fs).vm ∧ (∀ (j : Nat) (p : Array UInt16 × Addr), s0.vm.interned.size ≤ j → (T.setFrames fs).vm.interned[j]? = some p → s0.heap.size ≤ p.2 ∧ p.2 < (T.setFrames fs).heap.size) ∧ s0.sameButNew { T.setFrames fs with vm := s0.vm } locs cells slots := by
  subst eT
  obtain ⟨vm, k, rfl, e2, e3⟩ := S
  obtain ⟨fs, h1, h2, h3, -, h4, h5, h6⟩ := X.leaveW e2 e3 hv hlocks
  exact ⟨fs, h1, h2, h3, h4, h5, h6⟩
end OwnIntern

theorem d2_0 : decode jdk_30_method_1_code 0 = .ok (.aload_n 0, 1) := by decide +kernel
theorem d2_1 : decode jdk_30_method_1_code 1 = .ok (.invokespecial 1, 3) := by decide +kernel
theorem d2_4 : decode jdk_30_method_1_code 4 = .ok (.return_, 1) := by decide +kernel
theorem own_pd0 : parseMethodDescriptor "()V" = some ⟨[], none⟩ := by decide +kernel
theorem own_pn0 : plainName "java/lang/Record" = true := by first | (simp [plainName, overriddenIn]; done) | decide +kernel
set_option maxHeartbeats 40000000 in
theorem own_ef_rm2 (m : MethodId) (x0 : Addr) : entryFrame m #[(.ref x0)] 1 = mkF m 0 #[.val (.ref x0)] [] := by first | (simp [entryFrame, mkF, argsToLocals, Value.category]; done) | rfl
def Q2 (Z : State) (a0 : Addr) (h0 : Heap) (n0 : Nat) (v : Option Value) (h : Heap) (L : List Loc) : Prop := v = none ∧ Fr n0 L ∧ h = h0
set_option maxRecDepth 65536 in
set_option maxHeartbeats 40000000 in
theorem rm2 (l : Launch) (Z : State) (aZ : Array Value) (hw : ∀ d ∈ tables_1, d.before aZ Z = true) (ws : List Jvm.Cond) (a0 : Addr) (h0 : Heap) (n0 : Nat) (Z0 : n0 ≤ h0.size) :
    MetFree l (⟨"java/lang/Record", "<init>", "()V"⟩ : MethodName) (head1 (Jvm.Cond.code (⟨"java/lang/Record", "<init>", "()V"⟩ : MethodName) jdk_30_method_1_code 1 none :: ws) ({ frames := 1, cells := 0, slots := 0, locals := 12 } : Room)) (fun a U => a = #[(.ref a0)] ∧ Z.Warmed39 U.vm ∧ U.heap = h0) (fun _ _ _ _ _ => True) (fun _ U o U' => ∃ v L, o = .returned v ∧ Q2 Z a0 h0 n0 v U'.heap L ∧ FrameEnd U o U' L ({ frames := 1, cells := 0, slots := 0, locals := 12 } : Room).cells ({ frames := 1, cells := 0, slots := 0, locals := 12 } : Room).slots) := by
  refine MetFree.of_bodySF (plainFor_of_name own_pn0) hisR ?_
  intro p e s m args below meth c s₁ Bd hml0 hP hK
  obtain ⟨rfl, hZ, hh⟩ := hP
  have hx := Bd.exec
  have hby := Bd.bytes
  have hml : c.maxLocals = 1 := hml0
  have hown : s.vm.findClass "java/lang/Record" = some m.cls := findClass_of_methodNamed Bd.named
  have hnm := (name_of_methodNamed Bd.named Bd.method).1
  have X0 : Stand p l e ({ frames := 1, cells := 0, slots := 0, locals := 12 } : Room) s m #[(.ref a0)] below meth c s₁ [] 0 0 := Stand.of_body Bd
  have e0 : s₁.heap = h0 := by rw [← hh, Bd.state]; rfl
  have N0 := Fr.nil n0
  refine own_go (S' := s₁.setTop (mkF m 0 #[.val (.ref a0)] [])) (fun tt0 kk0 => castTop (own_ef_rm2 m a0) kk0) ?_
  refine own_go (S' := s₁.setTop (mkF m 1 #[.val (.ref a0)] [(.ref a0)])) (fun target kt => ?_) ?_
  · skip
    show Steps p.tables e below (s₁.setTop (mkF m 0 #[.val (.ref a0)] [])) _
    refine XS.aloadN X0.here hx rfl (hb hby d2_0) rfl rfl ?_
    exact kt
  obtain ⟨T1, X1, e1, st1⟩ := initO X0 hx hZ hown (hw _ (List.mem_of_getElem? (i := 12) rfl)) (hw _ (List.mem_of_getElem? (i := 13) rfl)) (hw _ (List.mem_of_getElem? (i := 14) rfl)) e0 (g := (mkF m 1 #[.val (.ref a0)] [(.ref a0)])) rfl (by rw [hml]; rfl) rfl (hb hby d2_1) (by decide) (W := 0) (by show 2 * 0 + _ ≤ _; exact Nat.le_of_eq rfl) (by decide)
  refine own_go (S' := T1.setTop (mkF m 4 #[.val (.ref a0)] [])) st1 ?_
  obtain ⟨fs, hr, hrun, hended, hW, hsame⟩ := X1.leave (v := none) (fun _ => rfl)
  refine ⟨_, _, ?_, hrun, hended, _, _, rfl, ?_, ⟨_, rfl⟩, hW, hsame.mono (by decide) (by decide)⟩
  · exact X1.returnOut hx Bd.returns (hb hby d2_4) hr
  · show Q2 Z a0 h0 n0 _ T1.heap _
    rw [e1]
    exact ⟨rfl, N0, rfl⟩
theorem d4_0 : decode prog_52_method_3_code 0 = .ok (.iload_n 1, 1) := by decide +kernel
theorem d4_1 : decode prog_52_method_3_code 1 = .ok (.iconst 1, 1) := by decide +kernel
theorem d4_2 : decode prog_52_method_3_code 2 = .ok (.if_icmp .ge 18, 3) := by decide +kernel
theorem d4_5 : decode prog_52_method_3_code 5 = .ok (.new 34, 3) := by decide +kernel
theorem d4_8 : decode prog_52_method_3_code 8 = .ok (.dup, 1) := by decide +kernel
theorem d4_9 : decode prog_52_method_3_code 9 = .ok (.aload_n 0, 1) := by decide +kernel
theorem d4_10 : decode prog_52_method_3_code 10 = .ok (.iload_n 1, 1) := by decide +kernel
theorem d4_11 : decode prog_52_method_3_code 11 = .ok (.invokedynamic 36, 5) := by decide +kernel
theorem d4_16 : decode prog_52_method_3_code 16 = .ok (.invokespecial 40, 3) := by decide +kernel
theorem d4_19 : decode prog_52_method_3_code 19 = .ok (.athrow, 1) := by decide +kernel
theorem d4_20 : decode prog_52_method_3_code 20 = .ok (.return_, 1) := by decide +kernel
theorem own_pn1 : plainName "com/example/assertline/assertline/policy/RateLimit$Limits" = true := by first | (simp [plainName, overriddenIn]; done) | decide +kernel
set_option maxHeartbeats 40000000 in
theorem own_ef_rm4 (m : MethodId) (x0 : Addr) (x1 : Int32) : entryFrame m #[(.ref x0), (.int x1)] 2 = mkF m 0 #[.val (.ref x0), .val (.int x1)] [] := by first | (simp [entryFrame, mkF, argsToLocals, Value.category]; done) | rfl
def Q4 (Z : State) (a0 : Addr) (p1 : Int32) (h0 : Heap) (n0 : Nat) (v : Option Value) (h : Heap) (L : List Loc) : Prop := v = none ∧ Fr n0 L ∧ h = h0
set_option maxRecDepth 65536 in
set_option maxHeartbeats 40000000 in
theorem rm4 (l : Launch) (Z : State) (aZ : Array Value) (hw : ∀ d ∈ tables_1, d.before aZ Z = true) (ws : List Jvm.Cond) (a0 : Addr) (p1 : Int32) (h0 : Heap) (n0 : Nat) (Z0 : n0 ≤ h0.size) (pg : ¬ p1 < (1 : Int32)) :
    MetFree l (⟨"com/example/assertline/assertline/policy/RateLimit$Limits", "requireAtLeastOne", "(Ljava/lang/String;I)V"⟩ : MethodName) (head1 (Jvm.Cond.code (⟨"com/example/assertline/assertline/policy/RateLimit$Limits", "requireAtLeastOne", "(Ljava/lang/String;I)V"⟩ : MethodName) prog_52_method_3_code 2 none :: ws) ({ frames := 0, cells := 0, slots := 0, locals := 0 } : Room)) (fun a U => a = #[(.ref a0), (.int p1)] ∧ Z.Warmed39 U.vm ∧ U.heap = h0) (fun _ _ _ _ _ => True) (fun _ U o U' => ∃ v L, o = .returned v ∧ Q4 Z a0 p1 h0 n0 v U'.heap L ∧ FrameEnd U o U' L ({ frames := 0, cells := 0, slots := 0, locals := 0 } : Room).cells ({ frames := 0, cells := 0, slots := 0, locals := 0 } : Room).slots) := by
  refine MetFree.of_bodySF (plainFor_of_name own_pn1) hisR ?_
  intro p e s m args below meth c s₁ Bd hml0 hP hK
  obtain ⟨rfl, hZ, hh⟩ := hP
  have hx := Bd.exec
  have hby := Bd.bytes
  have hml : c.maxLocals = 2 := hml0
  have hown : s.vm.findClass "com/example/assertline/assertline/policy/RateLimit$Limits" = some m.cls := findClass_of_methodNamed Bd.named
  have hnm := (name_of_methodNamed Bd.named Bd.method).1
  have X0 : Stand p l e ({ frames := 0, cells := 0, slots := 0, locals := 0 } : Room) s m #[(.ref a0), (.int p1)] below meth c s₁ [] 0 0 := Stand.of_body Bd
  have e0 : s₁.heap = h0 := by rw [← hh, Bd.state]; rfl
  have N0 := Fr.nil n0
  refine own_go (S' := s₁.setTop (mkF m 0 #[.val (.ref a0), .val (.int p1)] [])) (fun tt0 kk0 => castTop (own_ef_rm4 m a0 p1) kk0) ?_
  refine own_go (S' := s₁.setTop (mkF m 20 #[.val (.ref a0), .val (.int p1)] [])) (fun target kt => ?_) ?_
  · skip
    show Steps p.tables e below (s₁.setTop (mkF m 0 #[.val (.ref a0), .val (.int p1)] [])) _
    refine XS.iloadN X0.here hx rfl (hb hby d4_0) rfl ?_
    show Steps p.tables e below (s₁.setTop (mkF m 1 #[.val (.ref a0), .val (.int p1)] [(.int p1)])) _
    refine XS.iconst X0.here hx rfl (hb hby d4_1) ?_
    show Steps p.tables e below (s₁.setTop (mkF m 2 #[.val (.ref a0), .val (.int p1)] [(.int (1 : Int32)), (.int p1)])) _
    refine XS.icmpYes X0.here hx rfl (pc0 := 2) (pc' := 20) rfl (hb hby d4_2) rfl (flt (pg : ¬ (p1 < (1 : Int32)))).2.1 (by decide) (by decide) ?_
    exact kt
  obtain ⟨fs, hr, hrun, hended, hW, hsame⟩ := X0.leave (v := none) (fun _ => rfl)
  refine ⟨_, _, ?_, hrun, hended, _, _, rfl, ?_, ⟨_, rfl⟩, hW, hsame.mono (by decide) (by decide)⟩
  · exact X0.returnOut hx Bd.returns (hb hby d4_20) hr
  · show Q4 Z a0 p1 h0 n0 _ s₁.heap _
    rw [e0]
    exact ⟨rfl, N0, rfl⟩
theorem d1_0 : decode prog_52_method_1_code 0 = .ok (.aload_n 0, 1) := by decide +kernel
theorem d1_1 : decode prog_52_method_1_code 1 = .ok (.invokespecial 1, 3) := by decide +kernel
theorem d1_4 : decode prog_52_method_1_code 4 = .ok (.ldc 7, 2) := by decide +kernel
theorem d1_6 : decode prog_52_method_1_code 6 = .ok (.iload_n 1, 1) := by decide +kernel
theorem d1_7 : decode prog_52_method_1_code 7 = .ok (.invokestatic 9, 3) := by decide +kernel
theorem d1_10 : decode prog_52_method_1_code 10 = .ok (.iload_n 2, 1) := by decide +kernel
theorem d1_11 : decode prog_52_method_1_code 11 = .ok (.ifCond .eq 9, 3) := by decide +kernel
theorem d1_14 : decode prog_52_method_1_code 14 = .ok (.ldc 15, 2) := by decide +kernel
theorem d1_16 : decode prog_52_method_1_code 16 = .ok (.iload_n 2, 1) := by decide +kernel
theorem d1_17 : decode prog_52_method_1_code 17 = .ok (.invokestatic 9, 3) := by decide +kernel
theorem d1_20 : decode prog_52_method_1_code 20 = .ok (.iload_n 3, 1) := by decide +kernel
theorem d1_21 : decode prog_52_method_1_code 21 = .ok (.ifCond .eq 9, 3) := by decide +kernel
theorem d1_24 : decode prog_52_method_1_code 24 = .ok (.ldc 17, 2) := by decide +kernel
theorem d1_26 : decode prog_52_method_1_code 26 = .ok (.iload_n 3, 1) := by decide +kernel
theorem d1_27 : decode prog_52_method_1_code 27 = .ok (.invokestatic 9, 3) := by decide +kernel
theorem d1_30 : decode prog_52_method_1_code 30 = .ok (.iload 4, 2) := by decide +kernel
theorem d1_32 : decode prog_52_method_1_code 32 = .ok (.ifCond .eq 10, 3) := by decide +kernel
theorem d1_35 : decode prog_52_method_1_code 35 = .ok (.ldc 19, 2) := by decide +kernel
theorem d1_37 : decode prog_52_method_1_code 37 = .ok (.iload 4, 2) := by decide +kernel
theorem d1_39 : decode prog_52_method_1_code 39 = .ok (.invokestatic 9, 3) := by decide +kernel
theorem d1_42 : decode prog_52_method_1_code 42 = .ok (.aload_n 0, 1) := by decide +kernel
theorem d1_43 : decode prog_52_method_1_code 43 = .ok (.iload_n 1, 1) := by decide +kernel
theorem d1_44 : decode prog_52_method_1_code 44 = .ok (.putfield 21, 3) := by decide +kernel
theorem d1_47 : decode prog_52_method_1_code 47 = .ok (.aload_n 0, 1) := by decide +kernel
theorem d1_48 : decode prog_52_method_1_code 48 = .ok (.iload_n 2, 1) := by decide +kernel
theorem d1_49 : decode prog_52_method_1_code 49 = .ok (.putfield 25, 3) := by decide +kernel
theorem d1_52 : decode prog_52_method_1_code 52 = .ok (.aload_n 0, 1) := by decide +kernel
theorem d1_53 : decode prog_52_method_1_code 53 = .ok (.iload_n 3, 1) := by decide +kernel
theorem d1_54 : decode prog_52_method_1_code 54 = .ok (.putfield 28, 3) := by decide +kernel
theorem d1_57 : decode prog_52_method_1_code 57 = .ok (.aload_n 0, 1) := by decide +kernel
theorem d1_58 : decode prog_52_method_1_code 58 = .ok (.iload 4, 2) := by decide +kernel
theorem d1_60 : decode prog_52_method_1_code 60 = .ok (.putfield 31, 3) := by decide +kernel
theorem d1_63 : decode prog_52_method_1_code 63 = .ok (.return_, 1) := by decide +kernel
theorem own_pd1 : parseMethodDescriptor "(Ljava/lang/String;I)V" = some ⟨[(.object "java/lang/String"), .int], none⟩ := by decide +kernel
set_option maxHeartbeats 40000000 in
theorem own_ef_rm1 (m : MethodId) (x0 : Addr) (x1 : Int32) (x2 : Int32) (x3 : Int32) (x4 : Int32) : entryFrame m #[(.ref x0), (.int x1), (.int x2), (.int x3), (.int x4)] 5 = mkF m 0 #[.val (.ref x0), .val (.int x1), .val (.int x2), .val (.int x3), .val (.int x4)] [] := by first | (simp [entryFrame, mkF, argsToLocals, Value.category]; done) | rfl
def Q1 (Z : State) (a0 : Addr) (p1 : Int32) (p2 : Int32) (p3 : Int32) (p4 : Int32) (h0 : Heap) (n0 : Nat) (v : Option Value) (h : Heap) (L : List Loc) : Prop := v = none ∧ Fr n0 L ∧ Keep h0 h [a0] ∧ Exa Z h a0 "com/example/assertline/assertline/policy/RateLimit$Limits" ∧ Fld Z h a0 "com/example/assertline/assertline/policy/RateLimit$Limits" "maxPerSecond" "I" (.int p1) ∧ Fld Z h a0 "com/example/assertline/assertline/policy/RateLimit$Limits" "burstSeconds" "I" (.int p2) ∧ Fld Z h a0 "com/example/assertline/assertline/policy/RateLimit$Limits" "blackoutSeconds" "I" (.int p3) ∧ Fld Z h a0 "com/example/assertline/assertline/policy/RateLimit$Limits" "maxConcurrency" "I" (.int p4)
set_option maxRecDepth 65536 in
set_option maxHeartbeats 40000000 in
theorem rm1 (l : Launch) (Z : State) (aZ : Array Value) (hw : ∀ d ∈ tables_1, d.before aZ Z = true) (ws : List Jvm.Cond) (a0 : Addr) (p1 : Int32) (p2 : Int32) (p3 : Int32) (p4 : Int32) (h0 : Heap) (n0 : Nat) (Z0 : n0 ≤ h0.size) (pf0 : Exa Z h0 a0 "com/example/assertline/assertline/policy/RateLimit$Limits") (pf1 : Fld Z h0 a0 "com/example/assertline/assertline/policy/RateLimit$Limits" "maxPerSecond" "I" (.int (0 : Int32))) (pf2 : Fld Z h0 a0 "com/example/assertline/assertline/policy/RateLimit$Limits" "burstSeconds" "I" (.int (0 : Int32))) (pf3 : Fld Z h0 a0 "com/example/assertline/assertline/policy/RateLimit$Limits" "blackoutSeconds" "I" (.int (0 : Int32))) (pf4 : Fld Z h0 a0 "com/example/assertline/assertline/policy/RateLimit$Limits" "maxConcurrency" "I" (.int (0 : Int32))) (g_a0 : n0 ≤ a0) (g1 : ¬ p1 < (1 : Int32)) (g2 : ¬ p2 < (0 : Int32)) (g3 : ¬ p3 < (0 : Int32)) (g4 : ¬ p4 < (0 : Int32)) :
    MetFree l (⟨"com/example/assertline/assertline/policy/RateLimit$Limits", "<init>", "(IIII)V"⟩ : MethodName) (head1 (Jvm.Cond.code (⟨"com/example/assertline/assertline/policy/RateLimit$Limits", "<init>", "(IIII)V"⟩ : MethodName) prog_52_method_1_code 5 none :: ws) ({ frames := 2, cells := 8, slots := 248, locals := 24 } : Room)) (fun a U => a = #[(.ref a0), (.int p1), (.int p2), (.int p3), (.int p4)] ∧ Z.Warmed39 U.vm ∧ U.heap = h0) (fun _ _ _ _ _ => True) (fun _ U o U' => ∃ v L, o = .returned v ∧ Q1 Z a0 p1 p2 p3 p4 h0 n0 v U'.heap L ∧ ReturnedEndW U o U' L ({ frames := 2, cells := 8, slots := 248, locals := 24 } : Room).cells ({ frames := 2, cells := 8, slots := 248, locals := 24 } : Room).slots) := by
  refine MetFree.of_bodySF (plainFor_of_name own_pn1) hisR ?_
  intro p e s m args below meth c s₁ Bd hml0 hP hK
  obtain ⟨rfl, hZ, hh⟩ := hP
  have hx := Bd.exec
  have hby := Bd.bytes
  have hml : c.maxLocals = 5 := hml0
  have hown : s.vm.findClass "com/example/assertline/assertline/policy/RateLimit$Limits" = some m.cls := findClass_of_methodNamed Bd.named
  have hnm := (name_of_methodNamed Bd.named Bd.method).1
  have X0 : Stand p l e ({ frames := 2, cells := 8, slots := 248, locals := 24 } : Room) s m #[(.ref a0), (.int p1), (.int p2), (.int p3), (.int p4)] below meth c s₁ [] 0 0 := Stand.of_body Bd
  have e0 : s₁.heap = h0 := by rw [← hh, Bd.state]; rfl
  have N0 := Fr.nil n0
  have ST0 := own_St.refl s h0
  have K0 : Keep h0 h0 [a0] := Keep.refl h0 _
  refine own_go (S' := s₁.setTop (mkF m 0 #[.val (.ref a0), .val (.int p1), .val (.int p2), .val (.int p3), .val (.int p4)] [])) (fun tt0 kk0 => castTop (own_ef_rm1 m a0 p1 p2 p3 p4) kk0) ?_
  refine own_go (S' := s₁.setTop (mkF m 1 #[.val (.ref a0), .val (.int p1), .val (.int p2), .val (.int p3), .val (.int p4)] [(.ref a0)])) (fun target kt => ?_) ?_
  · skip
    show Steps p.tables e below (s₁.setTop (mkF m 0 #[.val (.ref a0), .val (.int p1), .val (.int p2), .val (.int p3), .val (.int p4)] [])) _
    refine XS.aloadN X0.here hx rfl (hb hby d1_0) rfl rfl ?_
    exact kt
  obtain ⟨_, _, ⟨T2, L2, k2, n2⟩, -, X2, ⟨Lc2, hQ2, l2, y2, z2⟩, st2⟩ := X0.specialBack hx (y := (⟨"java/lang/Record", "<init>", "()V"⟩ : MethodName)) rfl hown (mvT hZ (hw _ (List.mem_of_getElem? (i := 7) rfl))) (mvT hZ (hw _ (List.mem_of_getElem? (i := 8) rfl))) (mvT hZ (hw _ (List.mem_of_getElem? (i := 11) rfl))) (by decide) (backOf (W := 0) (rm2 l Z aZ hw [] a0 h0 n0 Z0 ) hZ (hw _ (List.mem_of_getElem? (i := 11) rfl)) (hw _ (List.mem_of_getElem? (i := 10) rfl)) (by decide) (by decide)) (g := (mkF m 1 #[.val (.ref a0), .val (.int p1), .val (.int p2), .val (.int p3), .val (.int p4)] [(.ref a0)])) rfl (by rw [hml]; rfl) (Steps.refl _) (a := a0) (argsL := []) (rest := []) (lenOf own_pd0 rfl) rfl (by show 2 * 0 + _ ≤ _; exact Nat.le_of_eq rfl) (hb hby d1_1) (fun _ _ => ⟨rfl, e0, (by decide : 0 + 0 ≤ _), (by decide : 0 + 0 ≤ _)⟩)
  dsimp only [Pt.U, Pt.locs, Pt.cells, Pt.slots] at X2 l2 y2 z2 st2 hQ2
  obtain rfl : k2 = 0 := y2
  obtain rfl : n2 = 0 := z2
  obtain ⟨rfl, N2q, e2⟩ := hQ2
  have N2 : Fr n0 L2 := by rw [l2]; exact Fr.app N0 N2q
  clear l2
  refine own_go (S' := T2.setTop (mkF m 4 #[.val (.ref a0), .val (.int p1), .val (.int p2), .val (.int p3), .val (.int p4)] [])) (fun _ k => st2.trans k) ?_
  obtain ⟨r3, s3, T3, h3, X3, e3, E3, ST3, hZ, hown, st3⟩ := own_ldc X2 hx hZ hown (hw _ (List.mem_of_getElem? (i := 15) rfl)) (own_strw hw) e2 ST0 (g := (mkF m 4 #[.val (.ref a0), .val (.int p1), .val (.int p2), .val (.int p3), .val (.int p4)] [])) rfl (hb hby d1_4) (n := 56) (by decide) (by decide) (by decide) (by decide)
  have f4 : Exa Z h3 a0 "com/example/assertline/assertline/policy/RateLimit$Limits" := pf0.ext E3
  have f5 : Fld Z h3 a0 "com/example/assertline/assertline/policy/RateLimit$Limits" "maxPerSecond" "I" (.int (0 : Int32)) := pf1.ext E3
  have f6 : Fld Z h3 a0 "com/example/assertline/assertline/policy/RateLimit$Limits" "burstSeconds" "I" (.int (0 : Int32)) := pf2.ext E3
  have f7 : Fld Z h3 a0 "com/example/assertline/assertline/policy/RateLimit$Limits" "blackoutSeconds" "I" (.int (0 : Int32)) := pf3.ext E3
  have f8 : Fld Z h3 a0 "com/example/assertline/assertline/policy/RateLimit$Limits" "maxConcurrency" "I" (.int (0 : Int32)) := pf4.ext E3
  have Z3 : n0 ≤ h3.size := Nat.le_trans Z0 E3.1
  have K3 : Keep h0 h3 [a0] := K0.ext E3
  refine own_go (S' := T3.setTop (mkF m 6 #[.val (.ref a0), .val (.int p1), .val (.int p2), .val (.int p3), .val (.int p4)] [(.ref r3)])) st3 ?_
  refine own_go (S' := T3.setTop (mkF m 7 #[.val (.ref a0), .val (.int p1), .val (.int p2), .val (.int p3), .val (.int p4)] [(.int p1), (.ref r3)])) (fun target kt => ?_) ?_
  · skip
    show Steps p.tables e below (T3.setTop (mkF m 6 #[.val (.ref a0), .val (.int p1), .val (.int p2), .val (.int p3), .val (.int p4)] [(.ref r3)])) _
    refine XS.iloadN X3.here hx rfl (hb hby d1_6) rfl ?_
    exact kt
  obtain ⟨_, _, ⟨T9, L9, k9, n9⟩, -, X9, ⟨Lc9, hQ9, l9, y9, z9⟩, st9⟩ := Jvm.LawKit.callS X3 hx (y := (⟨"com/example/assertline/assertline/policy/RateLimit$Limits", "requireAtLeastOne", "(Ljava/lang/String;I)V"⟩ : MethodName)) hown (mvT hZ (hw _ (List.mem_of_getElem? (i := 23) rfl))) (mvT hZ (hw _ (List.mem_of_getElem? (i := 24) rfl))) (mvT hZ (hw _ (List.mem_of_getElem? (i := 3) rfl))) (mvT hZ (hw _ (List.mem_of_getElem? (i := 25) rfl))) (by decide) (backOf (W := 0) (rm4 l Z aZ hw [] r3 p1 h3 n0 Z3 (g1 : ¬ p1 < (1 : Int32))) hZ (hw _ (List.mem_of_getElem? (i := 25) rfl)) (hw _ (List.mem_of_getElem? (i := 3) rfl)) (by decide) (by decide)) (g := (mkF m 7 #[.val (.ref a0), .val (.int p1), .val (.int p2), .val (.int p3), .val (.int p4)] [(.int p1), (.ref r3)])) rfl (by rw [hml]; rfl) (argsL := [(.ref r3), (.int p1)]) (rest := []) (lenOf own_pd1 rfl) rfl (by show 2 * 0 + _ ≤ _; exact Nat.le_of_eq rfl) (hb hby d1_7) (fun _ _ => ⟨rfl, e3, (by decide : 2 + 0 ≤ _), (by decide : 60 + 0 ≤ _)⟩)
  dsimp only [Pt.U, Pt.locs, Pt.cells, Pt.slots] at X9 l9 y9 z9 st9 hQ9
  obtain rfl : k9 = 2 := y9
  obtain rfl : n9 = 60 := z9
  obtain ⟨rfl, N9q, e9⟩ := hQ9
  have N9 : Fr n0 L9 := by rw [l9]; exact Fr.app N2 N9q
  clear l9
  refine own_go (S' := T9.setTop (mkF m 10 #[.val (.ref a0), .val (.int p1), .val (.int p2), .val (.int p3), .val (.int p4)] [])) st9 ?_
  refine own_go (S' := T9.setTop (mkF m 11 #[.val (.ref a0), .val (.int p1), .val (.int p2), .val (.int p3), .val (.int p4)] [(.int p2)])) (fun target kt => ?_) ?_
  · skip
    show Steps p.tables e below (T9.setTop (mkF m 10 #[.val (.ref a0), .val (.int p1), .val (.int p2), .val (.int p3), .val (.int p4)] [])) _
    refine XS.iloadN X9.here hx rfl (hb hby d1_10) rfl ?_
    exact kt
  by_cases hc11 : p2 = (0 : Int32)
  · skip
    refine own_go (S' := T9.setTop (mkF m 21 #[.val (.ref a0), .val (.int p1), .val (.int p2), .val (.int p3), .val (.int p4)] [(.int p3)])) (fun target kt => ?_) ?_
    · skip
      show Steps p.tables e below (T9.setTop (mkF m 11 #[.val (.ref a0), .val (.int p1), .val (.int p2), .val (.int p3), .val (.int p4)] [(.int p2)])) _
      refine XS.ifYes X9.here hx rfl (pc0 := 11) (pc' := 20) rfl (hb hby d1_11) rfl ((if0 _ _).trans (teq hc11).1) (by decide) (by decide) ?_
      show Steps p.tables e below (T9.setTop (mkF m 20 #[.val (.ref a0), .val (.int p1), .val (.int p2), .val (.int p3), .val (.int p4)] [])) _
      refine XS.iloadN X9.here hx rfl (hb hby d1_20) rfl ?_
      exact kt
    by_cases hc21 : p3 = (0 : Int32)
    · skip
      refine own_go (S' := T9.setTop (mkF m 32 #[.val (.ref a0), .val (.int p1), .val (.int p2), .val (.int p3), .val (.int p4)] [(.int p4)])) (fun target kt => ?_) ?_
      · skip
        show Steps p.tables e below (T9.setTop (mkF m 21 #[.val (.ref a0), .val (.int p1), .val (.int p2), .val (.int p3), .val (.int p4)] [(.int p3)])) _
        refine XS.ifYes X9.here hx rfl (pc0 := 21) (pc' := 30) rfl (hb hby d1_21) rfl ((if0 _ _).trans (teq hc21).1) (by decide) (by decide) ?_
        show Steps p.tables e below (T9.setTop (mkF m 30 #[.val (.ref a0), .val (.int p1), .val (.int p2), .val (.int p3), .val (.int p4)] [])) _
        refine XS.iload X9.here hx rfl (hb hby d1_30) rfl ?_
        exact kt
      by_cases hc32 : p4 = (0 : Int32)
      · skip
        refine own_go (S' := T9.setTop (mkF m 44 #[.val (.ref a0), .val (.int p1), .val (.int p2), .val (.int p3), .val (.int p4)] [(.int p1), (.ref a0)])) (fun target kt => ?_) ?_
        · skip
          show Steps p.tables e below (T9.setTop (mkF m 32 #[.val (.ref a0), .val (.int p1), .val (.int p2), .val (.int p3), .val (.int p4)] [(.int p4)])) _
          refine XS.ifYes X9.here hx rfl (pc0 := 32) (pc' := 42) rfl (hb hby d1_32) rfl ((if0 _ _).trans (teq hc32).1) (by decide) (by decide) ?_
          show Steps p.tables e below (T9.setTop (mkF m 42 #[.val (.ref a0), .val (.int p1), .val (.int p2), .val (.int p3), .val (.int p4)] [])) _
          refine XS.aloadN X9.here hx rfl (hb hby d1_42) rfl rfl ?_
          show Steps p.tables e below (T9.setTop (mkF m 43 #[.val (.ref a0), .val (.int p1), .val (.int p2), .val (.int p3), .val (.int p4)] [(.ref a0)])) _
          refine XS.iloadN X9.here hx rfl (hb hby d1_43) rfl ?_
          exact kt
        obtain ⟨T10, h10, X10, e10, W10, st10⟩ := putF X9 hx hZ hown (host := "") (Or.inl (hw _ (List.mem_of_getElem? (i := 28) rfl))) Via.refl e9 f5 f4 (Or.inr ⟨(hw _ (List.mem_of_getElem? (i := 29) rfl)), rfl, hnm⟩) (hw _ (List.mem_of_getElem? (i := 2) rfl)) (ty := .int) (by decide) rfl rfl (g := (mkF m 44 #[.val (.ref a0), .val (.int p1), .val (.int p2), .val (.int p3), .val (.int p4)] [(.int p1), (.ref a0)])) rfl rfl (hb hby d1_44)
        have f11 : Exa Z h10 a0 "com/example/assertline/assertline/policy/RateLimit$Limits" := f4.wr W10
        have f12 : Fld Z h10 a0 "com/example/assertline/assertline/policy/RateLimit$Limits" "burstSeconds" "I" (.int (0 : Int32)) := f6.other W10 (Or.inr (slot_ne (Or.inr (hw _ (List.mem_of_getElem? (i := 31) rfl))) (Or.inr (hw _ (List.mem_of_getElem? (i := 29) rfl))) (by decide) (t := .int) (t' := .int) (by decide) (by decide)))
        have f13 : Fld Z h10 a0 "com/example/assertline/assertline/policy/RateLimit$Limits" "blackoutSeconds" "I" (.int (0 : Int32)) := f7.other W10 (Or.inr (slot_ne (Or.inr (hw _ (List.mem_of_getElem? (i := 33) rfl))) (Or.inr (hw _ (List.mem_of_getElem? (i := 29) rfl))) (by decide) (t := .int) (t' := .int) (by decide) (by decide)))
        have f14 : Fld Z h10 a0 "com/example/assertline/assertline/policy/RateLimit$Limits" "maxConcurrency" "I" (.int (0 : Int32)) := f8.other W10 (Or.inr (slot_ne (Or.inr (hw _ (List.mem_of_getElem? (i := 35) rfl))) (Or.inr (hw _ (List.mem_of_getElem? (i := 29) rfl))) (by decide) (t := .int) (t' := .int) (by decide) (by decide)))
        have f15 : Fld Z h10 a0 "com/example/assertline/assertline/policy/RateLimit$Limits" "maxPerSecond" "I" (.int p1) := f5.same W10
        have Z10 : n0 ≤ h10.size := Nat.le_trans Z3 (Keep.of_wr W10).1
        have ST10 := ST3.le (Keep.of_wr W10).1
        have K10 : Keep h0 h10 [a0] := K3.wr W10 (Or.inl (List.mem_of_getElem? (i := 0) rfl))
        have N10 := Fr.snoc X10 N9 g_a0
        refine own_go (S' := T10.setTop (mkF m 47 #[.val (.ref a0), .val (.int p1), .val (.int p2), .val (.int p3), .val (.int p4)] [])) st10 ?_
        refine own_go (S' := T10.setTop (mkF m 49 #[.val (.ref a0), .val (.int p1), .val (.int p2), .val (.int p3), .val (.int p4)] [(.int p2), (.ref a0)])) (fun target kt => ?_) ?_
        · skip
          show Steps p.tables e below (T10.setTop (mkF m 47 #[.val (.ref a0), .val (.int p1), .val (.int p2), .val (.int p3), .val (.int p4)] [])) _
          refine XS.aloadN X10.here hx rfl (hb hby d1_47) rfl rfl ?_
          show Steps p.tables e below (T10.setTop (mkF m 48 #[.val (.ref a0), .val (.int p1), .val (.int p2), .val (.int p3), .val (.int p4)] [(.ref a0)])) _
          refine XS.iloadN X10.here hx rfl (hb hby d1_48) rfl ?_
          exact kt
        obtain ⟨T16, h16, X16, e16, W16, st16⟩ := putF X10 hx hZ hown (host := "") (Or.inl (hw _ (List.mem_of_getElem? (i := 30) rfl))) Via.refl e10 f12 f11 (Or.inr ⟨(hw _ (List.mem_of_getElem? (i := 31) rfl)), rfl, hnm⟩) (hw _ (List.mem_of_getElem? (i := 2) rfl)) (ty := .int) (by decide) rfl rfl (g := (mkF m 49 #[.val (.ref a0), .val (.int p1), .val (.int p2), .val (.int p3), .val (.int p4)] [(.int p2), (.ref a0)])) rfl rfl (hb hby d1_49)
        have f17 : Exa Z h16 a0 "com/example/assertline/assertline/policy/RateLimit$Limits" := f11.wr W16
        have f18 : Fld Z h16 a0 "com/example/assertline/assertline/policy/RateLimit$Limits" "blackoutSeconds" "I" (.int (0 : Int32)) := f13.other W16 (Or.inr (slot_ne (Or.inr (hw _ (List.mem_of_getElem? (i := 33) rfl))) (Or.inr (hw _ (List.mem_of_getElem? (i := 31) rfl))) (by decide) (t := .int) (t' := .int) (by decide) (by decide)))
        have f19 : Fld Z h16 a0 "com/example/assertline/assertline/policy/RateLimit$Limits" "maxConcurrency" "I" (.int (0 : Int32)) := f14.other W16 (Or.inr (slot_ne (Or.inr (hw _ (List.mem_of_getElem? (i := 35) rfl))) (Or.inr (hw _ (List.mem_of_getElem? (i := 31) rfl))) (by decide) (t := .int) (t' := .int) (by decide) (by decide)))
        have f20 : Fld Z h16 a0 "com/example/assertline/assertline/policy/RateLimit$Limits" "maxPerSecond" "I" (.int p1) := f15.other W16 (Or.inr (slot_ne (Or.inr (hw _ (List.mem_of_getElem? (i := 29) rfl))) (Or.inr (hw _ (List.mem_of_getElem? (i := 31) rfl))) (by decide) (t := .int) (t' := .int) (by decide) (by decide)))
        have f21 : Fld Z h16 a0 "com/example/assertline/assertline/policy/RateLimit$Limits" "burstSeconds" "I" (.int p2) := f12.same W16
        have Z16 : n0 ≤ h16.size := Nat.le_trans Z10 (Keep.of_wr W16).1
        have ST16 := ST10.le (Keep.of_wr W16).1
        have K16 : Keep h0 h16 [a0] := K10.wr W16 (Or.inl (List.mem_of_getElem? (i := 0) rfl))
        have N16 := Fr.snoc X16 N10 g_a0
        refine own_go (S' := T16.setTop (mkF m 52 #[.val (.ref a0), .val (.int p1), .val (.int p2), .val (.int p3), .val (.int p4)] [])) st16 ?_
        refine own_go (S' := T16.setTop (mkF m 54 #[.val (.ref a0), .val (.int p1), .val (.int p2), .val (.int p3), .val (.int p4)] [(.int p3), (.ref a0)])) (fun target kt => ?_) ?_
        · skip
          show Steps p.tables e below (T16.setTop (mkF m 52 #[.val (.ref a0), .val (.int p1), .val (.int p2), .val (.int p3), .val (.int p4)] [])) _
          refine XS.aloadN X16.here hx rfl (hb hby d1_52) rfl rfl ?_
          show Steps p.tables e below (T16.setTop (mkF m 53 #[.val (.ref a0), .val (.int p1), .val (.int p2), .val (.int p3), .val (.int p4)] [(.ref a0)])) _
          refine XS.iloadN X16.here hx rfl (hb hby d1_53) rfl ?_
          exact kt
        obtain ⟨T22, h22, X22, e22, W22, st22⟩ := putF X16 hx hZ hown (host := "") (Or.inl (hw _ (List.mem_of_getElem? (i := 32) rfl))) Via.refl e16 f18 f17 (Or.inr ⟨(hw _ (List.mem_of_getElem? (i := 33) rfl)), rfl, hnm⟩) (hw _ (List.mem_of_getElem? (i := 2) rfl)) (ty := .int) (by decide) rfl rfl (g := (mkF m 54 #[.val (.ref a0), .val (.int p1), .val (.int p2), .val (.int p3), .val (.int p4)] [(.int p3), (.ref a0)])) rfl rfl (hb hby d1_54)
        have f23 : Exa Z h22 a0 "com/example/assertline/assertline/policy/RateLimit$Limits" := f17.wr W22
        have f24 : Fld Z h22 a0 "com/example/assertline/assertline/policy/RateLimit$Limits" "maxConcurrency" "I" (.int (0 : Int32)) := f19.other W22 (Or.inr (slot_ne (Or.inr (hw _ (List.mem_of_getElem? (i := 35) rfl))) (Or.inr (hw _ (List.mem_of_getElem? (i := 33) rfl))) (by decide) (t := .int) (t' := .int) (by decide) (by decide)))
        have f25 : Fld Z h22 a0 "com/example/assertline/assertline/policy/RateLimit$Limits" "maxPerSecond" "I" (.int p1) := f20.other W22 (Or.inr (slot_ne (Or.inr (hw _ (List.mem_of_getElem? (i := 29) rfl))) (Or.inr (hw _ (List.mem_of_getElem? (i := 33) rfl))) (by decide) (t := .int) (t' := .int) (by decide) (by decide)))
        have f26 : Fld Z h22 a0 "com/example/assertline/assertline/policy/RateLimit$Limits" "burstSeconds" "I" (.int p2) := f21.other W22 (Or.inr (slot_ne (Or.inr (hw _ (List.mem_of_getElem? (i := 31) rfl))) (Or.inr (hw _ (List.mem_of_getElem? (i := 33) rfl))) (by decide) (t := .int) (t' := .int) (by decide) (by decide)))
        have f27 : Fld Z h22 a0 "com/example/assertline/assertline/policy/RateLimit$Limits" "blackoutSeconds" "I" (.int p3) := f18.same W22
        have Z22 : n0 ≤ h22.size := Nat.le_trans Z16 (Keep.of_wr W22).1
        have ST22 := ST16.le (Keep.of_wr W22).1
        have K22 : Keep h0 h22 [a0] := K16.wr W22 (Or.inl (List.mem_of_getElem? (i := 0) rfl))
        have N22 := Fr.snoc X22 N16 g_a0
        refine own_go (S' := T22.setTop (mkF m 57 #[.val (.ref a0), .val (.int p1), .val (.int p2), .val (.int p3), .val (.int p4)] [])) st22 ?_
        refine own_go (S' := T22.setTop (mkF m 60 #[.val (.ref a0), .val (.int p1), .val (.int p2), .val (.int p3), .val (.int p4)] [(.int p4), (.ref a0)])) (fun target kt => ?_) ?_
        · skip
          show Steps p.tables e below (T22.setTop (mkF m 57 #[.val (.ref a0), .val (.int p1), .val (.int p2), .val (.int p3), .val (.int p4)] [])) _
          refine XS.aloadN X22.here hx rfl (hb hby d1_57) rfl rfl ?_
          show Steps p.tables e below (T22.setTop (mkF m 58 #[.val (.ref a0), .val (.int p1), .val (.int p2), .val (.int p3), .val (.int p4)] [(.ref a0)])) _
          refine XS.iload X22.here hx rfl (hb hby d1_58) rfl ?_
          exact kt
        obtain ⟨T28, h28, X28, e28, W28, st28⟩ := putF X22 hx hZ hown (host := "") (Or.inl (hw _ (List.mem_of_getElem? (i := 34) rfl))) Via.refl e22 f24 f23 (Or.inr ⟨(hw _ (List.mem_of_getElem? (i := 35) rfl)), rfl, hnm⟩) (hw _ (List.mem_of_getElem? (i := 2) rfl)) (ty := .int) (by decide) rfl rfl (g := (mkF m 60 #[.val (.ref a0), .val (.int p1), .val (.int p2), .val (.int p3), .val (.int p4)] [(.int p4), (.ref a0)])) rfl rfl (hb hby d1_60)
        have f29 : Exa Z h28 a0 "com/example/assertline/assertline/policy/RateLimit$Limits" := f23.wr W28
        have f30 : Fld Z h28 a0 "com/example/assertline/assertline/policy/RateLimit$Limits" "maxPerSecond" "I" (.int p1) := f25.other W28 (Or.inr (slot_ne (Or.inr (hw _ (List.mem_of_getElem? (i := 29) rfl))) (Or.inr (hw _ (List.mem_of_getElem? (i := 35) rfl))) (by decide) (t := .int) (t' := .int) (by decide) (by decide)))
        have f31 : Fld Z h28 a0 "com/example/assertline/assertline/policy/RateLimit$Limits" "burstSeconds" "I" (.int p2) := f26.other W28 (Or.inr (slot_ne (Or.inr (hw _ (List.mem_of_getElem? (i := 31) rfl))) (Or.inr (hw _ (List.mem_of_getElem? (i := 35) rfl))) (by decide) (t := .int) (t' := .int) (by decide) (by decide)))
        have f32 : Fld Z h28 a0 "com/example/assertline/assertline/policy/RateLimit$Limits" "blackoutSeconds" "I" (.int p3) := f27.other W28 (Or.inr (slot_ne (Or.inr (hw _ (List.mem_of_getElem? (i := 33) rfl))) (Or.inr (hw _ (List.mem_of_getElem? (i := 35) rfl))) (by decide) (t := .int) (t' := .int) (by decide) (by decide)))
        have f33 : Fld Z h28 a0 "com/example/assertline/assertline/policy/RateLimit$Limits" "maxConcurrency" "I" (.int p4) := f24.same W28
        have Z28 : n0 ≤ h28.size := Nat.le_trans Z22 (Keep.of_wr W28).1
        have ST28 := ST22.le (Keep.of_wr W28).1
        have K28 : Keep h0 h28 [a0] := K22.wr W28 (Or.inl (List.mem_of_getElem? (i := 0) rfl))
        have N28 := Fr.snoc X28 N22 g_a0
        refine own_go (S' := T28.setTop (mkF m 63 #[.val (.ref a0), .val (.int p1), .val (.int p2), .val (.int p3), .val (.int p4)] [])) st28 ?_
        obtain ⟨fs, hr, hrun, hended, hW, hBk, hsame⟩ := own_leave X28 e28 ST28 (v := none) (fun _ => rfl)
        refine ⟨_, _, ?_, hrun, hended, _, _, rfl, ?_, ⟨_, rfl⟩, hW, hBk, hsame.mono (by decide) (by decide)⟩
        · exact X28.returnOut hx Bd.returns (hb hby d1_63) hr
        · show Q1 Z a0 p1 p2 p3 p4 h0 n0 _ T28.heap _
          rw [e28]
          exact ⟨rfl, N28, K28, f29, f30, f31, f32, f33⟩
      · skip
        refine own_go (S' := T9.setTop (mkF m 35 #[.val (.ref a0), .val (.int p1), .val (.int p2), .val (.int p3), .val (.int p4)] [])) (fun target kt => ?_) ?_
        · skip
          show Steps p.tables e below (T9.setTop (mkF m 32 #[.val (.ref a0), .val (.int p1), .val (.int p2), .val (.int p3), .val (.int p4)] [(.int p4)])) _
          refine XS.ifNo X9.here hx rfl (hb hby d1_32) rfl ((if0 _ _).trans (feq hc32).1) ?_
          exact kt
        obtain ⟨r34, s34, T34, h34, X34, e34, E34, ST34, hZ, hown, st34⟩ := own_ldc X9 hx hZ hown (hw _ (List.mem_of_getElem? (i := 41) rfl)) (own_strw hw) e9 ST3 (g := (mkF m 35 #[.val (.ref a0), .val (.int p1), .val (.int p2), .val (.int p3), .val (.int p4)] [])) rfl (hb hby d1_35) (n := 60) (by decide) (by decide) (by decide) (by decide)
        have f35 : Exa Z h34 a0 "com/example/assertline/assertline/policy/RateLimit$Limits" := f4.ext E34
        have f36 : Fld Z h34 a0 "com/example/assertline/assertline/policy/RateLimit$Limits" "maxPerSecond" "I" (.int (0 : Int32)) := f5.ext E34
        have f37 : Fld Z h34 a0 "com/example/assertline/assertline/policy/RateLimit$Limits" "burstSeconds" "I" (.int (0 : Int32)) := f6.ext E34
        have f38 : Fld Z h34 a0 "com/example/assertline/assertline/policy/RateLimit$Limits" "blackoutSeconds" "I" (.int (0 : Int32)) := f7.ext E34
        have f39 : Fld Z h34 a0 "com/example/assertline/assertline/policy/RateLimit$Limits" "maxConcurrency" "I" (.int (0 : Int32)) := f8.ext E34
        have Z34 : n0 ≤ h34.size := Nat.le_trans Z3 E34.1
        have K34 : Keep h0 h34 [a0] := K3.ext E34
        refine own_go (S' := T34.setTop (mkF m 37 #[.val (.ref a0), .val (.int p1), .val (.int p2), .val (.int p3), .val (.int p4)] [(.ref r34)])) st34 ?_
        refine own_go (S' := T34.setTop (mkF m 39 #[.val (.ref a0), .val (.int p1), .val (.int p2), .val (.int p3), .val (.int p4)] [(.int p4), (.ref r34)])) (fun target kt => ?_) ?_
        · skip
          show Steps p.tables e below (T34.setTop (mkF m 37 #[.val (.ref a0), .val (.int p1), .val (.int p2), .val (.int p3), .val (.int p4)] [(.ref r34)])) _
          refine XS.iload X34.here hx rfl (hb hby d1_37) rfl ?_
          exact kt
        obtain ⟨_, _, ⟨T40, L40, k40, n40⟩, -, X40, ⟨Lc40, hQ40, l40, y40, z40⟩, st40⟩ := Jvm.LawKit.callS X34 hx (y := (⟨"com/example/assertline/assertline/policy/RateLimit$Limits", "requireAtLeastOne", "(Ljava/lang/String;I)V"⟩ : MethodName)) hown (mvT hZ (hw _ (List.mem_of_getElem? (i := 23) rfl))) (mvT hZ (hw _ (List.mem_of_getElem? (i := 24) rfl))) (mvT hZ (hw _ (List.mem_of_getElem? (i := 3) rfl))) (mvT hZ (hw _ (List.mem_of_getElem? (i := 25) rfl))) (by decide) (backOf (W := 0) (rm4 l Z aZ hw [] r34 p4 h34 n0 Z34 (own_ge1 g4 hc32 : ¬ p4 < (1 : Int32))) hZ (hw _ (List.mem_of_getElem? (i := 25) rfl)) (hw _ (List.mem_of_getElem? (i := 3) rfl)) (by decide) (by decide)) (g := (mkF m 39 #[.val (.ref a0), .val (.int p1), .val (.int p2), .val (.int p3), .val (.int p4)] [(.int p4), (.ref r34)])) rfl (by rw [hml]; rfl) (argsL := [(.ref r34), (.int p4)]) (rest := []) (lenOf own_pd1 rfl) rfl (by show 2 * 0 + _ ≤ _; exact Nat.le_of_eq rfl) (hb hby d1_39) (fun _ _ => ⟨rfl, e34, (by decide : 4 + 0 ≤ _), (by decide : 124 + 0 ≤ _)⟩)
        dsimp only [Pt.U, Pt.locs, Pt.cells, Pt.slots] at X40 l40 y40 z40 st40 hQ40
        obtain rfl : k40 = 4 := y40
        obtain rfl : n40 = 124 := z40
        obtain ⟨rfl, N40q, e40⟩ := hQ40
        have N40 : Fr n0 L40 := by rw [l40]; exact Fr.app N9 N40q
        clear l40
        refine own_go (S' := T40.setTop (mkF m 42 #[.val (.ref a0), .val (.int p1), .val (.int p2), .val (.int p3), .val (.int p4)] [])) st40 ?_
        refine own_go (S' := T40.setTop (mkF m 44 #[.val (.ref a0), .val (.int p1), .val (.int p2), .val (.int p3), .val (.int p4)] [(.int p1), (.ref a0)])) (fun target kt => ?_) ?_
        · skip
          show Steps p.tables e below (T40.setTop (mkF m 42 #[.val (.ref a0), .val (.int p1), .val (.int p2), .val (.int p3), .val (.int p4)] [])) _
          refine XS.aloadN X40.here hx rfl (hb hby d1_42) rfl rfl ?_
          show Steps p.tables e below (T40.setTop (mkF m 43 #[.val (.ref a0), .val (.int p1), .val (.int p2), .val (.int p3), .val (.int p4)] [(.ref a0)])) _
          refine XS.iloadN X40.here hx rfl (hb hby d1_43) rfl ?_
          exact kt
        obtain ⟨T41, h41, X41, e41, W41, st41⟩ := putF X40 hx hZ hown (host := "") (Or.inl (hw _ (List.mem_of_getElem? (i := 28) rfl))) Via.refl e40 f36 f35 (Or.inr ⟨(hw _ (List.mem_of_getElem? (i := 29) rfl)), rfl, hnm⟩) (hw _ (List.mem_of_getElem? (i := 2) rfl)) (ty := .int) (by decide) rfl rfl (g := (mkF m 44 #[.val (.ref a0), .val (.int p1), .val (.int p2), .val (.int p3), .val (.int p4)] [(.int p1), (.ref a0)])) rfl rfl (hb hby d1_44)
        have f42 : Exa Z h41 a0 "com/example/assertline/assertline/policy/RateLimit$Limits" := f35.wr W41
        have f43 : Fld Z h41 a0 "com/example/assertline/assertline/policy/RateLimit$Limits" "burstSeconds" "I" (.int (0 : Int32)) := f37.other W41 (Or.inr (slot_ne (Or.inr (hw _ (List.mem_of_getElem? (i := 31) rfl))) (Or.inr (hw _ (List.mem_of_getElem? (i := 29) rfl))) (by decide) (t := .int) (t' := .int) (by decide) (by decide)))
        have f44 : Fld Z h41 a0 "com/example/assertline/assertline/policy/RateLimit$Limits" "blackoutSeconds" "I" (.int (0 : Int32)) := f38.other W41 (Or.inr (slot_ne (Or.inr (hw _ (List.mem_of_getElem? (i := 33) rfl))) (Or.inr (hw _ (List.mem_of_getElem? (i := 29) rfl))) (by decide) (t := .int) (t' := .int) (by decide) (by decide)))
        have f45 : Fld Z h41 a0 "com/example/assertline/assertline/policy/RateLimit$Limits" "maxConcurrency" "I" (.int (0 : Int32)) := f39.other W41 (Or.inr (slot_ne (Or.inr (hw _ (List.mem_of_getElem? (i := 35) rfl))) (Or.inr (hw _ (List.mem_of_getElem? (i := 29) rfl))) (by decide) (t := .int) (t' := .int) (by decide) (by decide)))
        have f46 : Fld Z h41 a0 "com/example/assertline/assertline/policy/RateLimit$Limits" "maxPerSecond" "I" (.int p1) := f36.same W41
        have Z41 : n0 ≤ h41.size := Nat.le_trans Z34 (Keep.of_wr W41).1
        have ST41 := ST34.le (Keep.of_wr W41).1
        have K41 : Keep h0 h41 [a0] := K34.wr W41 (Or.inl (List.mem_of_getElem? (i := 0) rfl))
        have N41 := Fr.snoc X41 N40 g_a0
        refine own_go (S' := T41.setTop (mkF m 47 #[.val (.ref a0), .val (.int p1), .val (.int p2), .val (.int p3), .val (.int p4)] [])) st41 ?_
        refine own_go (S' := T41.setTop (mkF m 49 #[.val (.ref a0), .val (.int p1), .val (.int p2), .val (.int p3), .val (.int p4)] [(.int p2), (.ref a0)])) (fun target kt => ?_) ?_
        · skip
          show Steps p.tables e below (T41.setTop (mkF m 47 #[.val (.ref a0), .val (.int p1), .val (.int p2), .val (.int p3), .val (.int p4)] [])) _
          refine XS.aloadN X41.here hx rfl (hb hby d1_47) rfl rfl ?_
          show Steps p.tables e below (T41.setTop (mkF m 48 #[.val (.ref a0), .val (.int p1), .val (.int p2), .val (.int p3), .val (.int p4)] [(.ref a0)])) _
          refine XS.iloadN X41.here hx rfl (hb hby d1_48) rfl ?_
          exact kt
        obtain ⟨T47, h47, X47, e47, W47, st47⟩ := putF X41 hx hZ hown (host := "") (Or.inl (hw _ (List.mem_of_getElem? (i := 30) rfl))) Via.refl e41 f43 f42 (Or.inr ⟨(hw _ (List.mem_of_getElem? (i := 31) rfl)), rfl, hnm⟩) (hw _ (List.mem_of_getElem? (i := 2) rfl)) (ty := .int) (by decide) rfl rfl (g := (mkF m 49 #[.val (.ref a0), .val (.int p1), .val (.int p2), .val (.int p3), .val (.int p4)] [(.int p2), (.ref a0)])) rfl rfl (hb hby d1_49)
        have f48 : Exa Z h47 a0 "com/example/assertline/assertline/policy/RateLimit$Limits" := f42.wr W47
        have f49 : Fld Z h47 a0 "com/example/assertline/assertline/policy/RateLimit$Limits" "blackoutSeconds" "I" (.int (0 : Int32)) := f44.other W47 (Or.inr (slot_ne (Or.inr (hw _ (List.mem_of_getElem? (i := 33) rfl))) (Or.inr (hw _ (List.mem_of_getElem? (i := 31) rfl))) (by decide) (t := .int) (t' := .int) (by decide) (by decide)))
        have f50 : Fld Z h47 a0 "com/example/assertline/assertline/policy/RateLimit$Limits" "maxConcurrency" "I" (.int (0 : Int32)) := f45.other W47 (Or.inr (slot_ne (Or.inr (hw _ (List.mem_of_getElem? (i := 35) rfl))) (Or.inr (hw _ (List.mem_of_getElem? (i := 31) rfl))) (by decide) (t := .int) (t' := .int) (by decide) (by decide)))
        have f51 : Fld Z h47 a0 "com/example/assertline/assertline/policy/RateLimit$Limits" "maxPerSecond" "I" (.int p1) := f46.other W47 (Or.inr (slot_ne (Or.inr (hw _ (List.mem_of_getElem? (i := 29) rfl))) (Or.inr (hw _ (List.mem_of_getElem? (i := 31) rfl))) (by decide) (t := .int) (t' := .int) (by decide) (by decide)))
        have f52 : Fld Z h47 a0 "com/example/assertline/assertline/policy/RateLimit$Limits" "burstSeconds" "I" (.int p2) := f43.same W47
        have Z47 : n0 ≤ h47.size := Nat.le_trans Z41 (Keep.of_wr W47).1
        have ST47 := ST41.le (Keep.of_wr W47).1
        have K47 : Keep h0 h47 [a0] := K41.wr W47 (Or.inl (List.mem_of_getElem? (i := 0) rfl))
        have N47 := Fr.snoc X47 N41 g_a0
        refine own_go (S' := T47.setTop (mkF m 52 #[.val (.ref a0), .val (.int p1), .val (.int p2), .val (.int p3), .val (.int p4)] [])) st47 ?_
        refine own_go (S' := T47.setTop (mkF m 54 #[.val (.ref a0), .val (.int p1), .val (.int p2), .val (.int p3), .val (.int p4)] [(.int p3), (.ref a0)])) (fun target kt => ?_) ?_
        · skip
          show Steps p.tables e below (T47.setTop (mkF m 52 #[.val (.ref a0), .val (.int p1), .val (.int p2), .val (.int p3), .val (.int p4)] [])) _
          refine XS.aloadN X47.here hx rfl (hb hby d1_52) rfl rfl ?_
          show Steps p.tables e below (T47.setTop (mkF m 53 #[.val (.ref a0), .val (.int p1), .val (.int p2), .val (.int p3), .val (.int p4)] [(.ref a0)])) _
          refine XS.iloadN X47.here hx rfl (hb hby d1_53) rfl ?_
          exact kt
        obtain ⟨T53, h53, X53, e53, W53, st53⟩ := putF X47 hx hZ hown (host := "") (Or.inl (hw _ (List.mem_of_getElem? (i := 32) rfl))) Via.refl e47 f49 f48 (Or.inr ⟨(hw _ (List.mem_of_getElem? (i := 33) rfl)), rfl, hnm⟩) (hw _ (List.mem_of_getElem? (i := 2) rfl)) (ty := .int) (by decide) rfl rfl (g := (mkF m 54 #[.val (.ref a0), .val (.int p1), .val (.int p2), .val (.int p3), .val (.int p4)] [(.int p3), (.ref a0)])) rfl rfl (hb hby d1_54)
        have f54 : Exa Z h53 a0 "com/example/assertline/assertline/policy/RateLimit$Limits" := f48.wr W53
        have f55 : Fld Z h53 a0 "com/example/assertline/assertline/policy/RateLimit$Limits" "maxConcurrency" "I" (.int (0 : Int32)) := f50.other W53 (Or.inr (slot_ne (Or.inr (hw _ (List.mem_of_getElem? (i := 35) rfl))) (Or.inr (hw _ (List.mem_of_getElem? (i := 33) rfl))) (by decide) (t := .int) (t' := .int) (by decide) (by decide)))
        have f56 : Fld Z h53 a0 "com/example/assertline/assertline/policy/RateLimit$Limits" "maxPerSecond" "I" (.int p1) := f51.other W53 (Or.inr (slot_ne (Or.inr (hw _ (List.mem_of_getElem? (i := 29) rfl))) (Or.inr (hw _ (List.mem_of_getElem? (i := 33) rfl))) (by decide) (t := .int) (t' := .int) (by decide) (by decide)))
        have f57 : Fld Z h53 a0 "com/example/assertline/assertline/policy/RateLimit$Limits" "burstSeconds" "I" (.int p2) := f52.other W53 (Or.inr (slot_ne (Or.inr (hw _ (List.mem_of_getElem? (i := 31) rfl))) (Or.inr (hw _ (List.mem_of_getElem? (i := 33) rfl))) (by decide) (t := .int) (t' := .int) (by decide) (by decide)))
        have f58 : Fld Z h53 a0 "com/example/assertline/assertline/policy/RateLimit$Limits" "blackoutSeconds" "I" (.int p3) := f49.same W53
        have Z53 : n0 ≤ h53.size := Nat.le_trans Z47 (Keep.of_wr W53).1
        have ST53 := ST47.le (Keep.of_wr W53).1
        have K53 : Keep h0 h53 [a0] := K47.wr W53 (Or.inl (List.mem_of_getElem? (i := 0) rfl))
        have N53 := Fr.snoc X53 N47 g_a0
        refine own_go (S' := T53.setTop (mkF m 57 #[.val (.ref a0), .val (.int p1), .val (.int p2), .val (.int p3), .val (.int p4)] [])) st53 ?_
        refine own_go (S' := T53.setTop (mkF m 60 #[.val (.ref a0), .val (.int p1), .val (.int p2), .val (.int p3), .val (.int p4)] [(.int p4), (.ref a0)])) (fun target kt => ?_) ?_
        · skip
          show Steps p.tables e below (T53.setTop (mkF m 57 #[.val (.ref a0), .val (.int p1), .val (.int p2), .val (.int p3), .val (.int p4)] [])) _
          refine XS.aloadN X53.here hx rfl (hb hby d1_57) rfl rfl ?_
          show Steps p.tables e below (T53.setTop (mkF m 58 #[.val (.ref a0), .val (.int p1), .val (.int p2), .val (.int p3), .val (.int p4)] [(.ref a0)])) _
          refine XS.iload X53.here hx rfl (hb hby d1_58) rfl ?_
          exact kt
        obtain ⟨T59, h59, X59, e59, W59, st59⟩ := putF X53 hx hZ hown (host := "") (Or.inl (hw _ (List.mem_of_getElem? (i := 34) rfl))) Via.refl e53 f55 f54 (Or.inr ⟨(hw _ (List.mem_of_getElem? (i := 35) rfl)), rfl, hnm⟩) (hw _ (List.mem_of_getElem? (i := 2) rfl)) (ty := .int) (by decide) rfl rfl (g := (mkF m 60 #[.val (.ref a0), .val (.int p1), .val (.int p2), .val (.int p3), .val (.int p4)] [(.int p4), (.ref a0)])) rfl rfl (hb hby d1_60)
        have f60 : Exa Z h59 a0 "com/example/assertline/assertline/policy/RateLimit$Limits" := f54.wr W59
        have f61 : Fld Z h59 a0 "com/example/assertline/assertline/policy/RateLimit$Limits" "maxPerSecond" "I" (.int p1) := f56.other W59 (Or.inr (slot_ne (Or.inr (hw _ (List.mem_of_getElem? (i := 29) rfl))) (Or.inr (hw _ (List.mem_of_getElem? (i := 35) rfl))) (by decide) (t := .int) (t' := .int) (by decide) (by decide)))
        have f62 : Fld Z h59 a0 "com/example/assertline/assertline/policy/RateLimit$Limits" "burstSeconds" "I" (.int p2) := f57.other W59 (Or.inr (slot_ne (Or.inr (hw _ (List.mem_of_getElem? (i := 31) rfl))) (Or.inr (hw _ (List.mem_of_getElem? (i := 35) rfl))) (by decide) (t := .int) (t' := .int) (by decide) (by decide)))
        have f63 : Fld Z h59 a0 "com/example/assertline/assertline/policy/RateLimit$Limits" "blackoutSeconds" "I" (.int p3) := f58.other W59 (Or.inr (slot_ne (Or.inr (hw _ (List.mem_of_getElem? (i := 33) rfl))) (Or.inr (hw _ (List.mem_of_getElem? (i := 35) rfl))) (by decide) (t := .int) (t' := .int) (by decide) (by decide)))
        have f64 : Fld Z h59 a0 "com/example/assertline/assertline/policy/RateLimit$Limits" "maxConcurrency" "I" (.int p4) := f55.same W59
        have Z59 : n0 ≤ h59.size := Nat.le_trans Z53 (Keep.of_wr W59).1
        have ST59 := ST53.le (Keep.of_wr W59).1
        have K59 : Keep h0 h59 [a0] := K53.wr W59 (Or.inl (List.mem_of_getElem? (i := 0) rfl))
        have N59 := Fr.snoc X59 N53 g_a0
        refine own_go (S' := T59.setTop (mkF m 63 #[.val (.ref a0), .val (.int p1), .val (.int p2), .val (.int p3), .val (.int p4)] [])) st59 ?_
        obtain ⟨fs, hr, hrun, hended, hW, hBk, hsame⟩ := own_leave X59 e59 ST59 (v := none) (fun _ => rfl)
        refine ⟨_, _, ?_, hrun, hended, _, _, rfl, ?_, ⟨_, rfl⟩, hW, hBk, hsame.mono (by decide) (by decide)⟩
        · exact X59.returnOut hx Bd.returns (hb hby d1_63) hr
        · show Q1 Z a0 p1 p2 p3 p4 h0 n0 _ T59.heap _
          rw [e59]
          exact ⟨rfl, N59, K59, f60, f61, f62, f63, f64⟩
    · skip
      refine own_go (S' := T9.setTop (mkF m 24 #[.val (.ref a0), .val (.int p1), .val (.int p2), .val (.int p3), .val (.int p4)] [])) (fun target kt => ?_) ?_
      · skip
        show Steps p.tables e below (T9.setTop (mkF m 21 #[.val (.ref a0), .val (.int p1), .val (.int p2), .val (.int p3), .val (.int p4)] [(.int p3)])) _
        refine XS.ifNo X9.here hx rfl (hb hby d1_21) rfl ((if0 _ _).trans (feq hc21).1) ?_
        exact kt
      obtain ⟨r65, s65, T65, h65, X65, e65, E65, ST65, hZ, hown, st65⟩ := own_ldc X9 hx hZ hown (hw _ (List.mem_of_getElem? (i := 27) rfl)) (own_strw hw) e9 ST3 (g := (mkF m 24 #[.val (.ref a0), .val (.int p1), .val (.int p2), .val (.int p3), .val (.int p4)] [])) rfl (hb hby d1_24) (n := 64) (by decide) (by decide) (by decide) (by decide)
      have f66 : Exa Z h65 a0 "com/example/assertline/assertline/policy/RateLimit$Limits" := f4.ext E65
      have f67 : Fld Z h65 a0 "com/example/assertline/assertline/policy/RateLimit$Limits" "maxPerSecond" "I" (.int (0 : Int32)) := f5.ext E65
      have f68 : Fld Z h65 a0 "com/example/assertline/assertline/policy/RateLimit$Limits" "burstSeconds" "I" (.int (0 : Int32)) := f6.ext E65
      have f69 : Fld Z h65 a0 "com/example/assertline/assertline/policy/RateLimit$Limits" "blackoutSeconds" "I" (.int (0 : Int32)) := f7.ext E65
      have f70 : Fld Z h65 a0 "com/example/assertline/assertline/policy/RateLimit$Limits" "maxConcurrency" "I" (.int (0 : Int32)) := f8.ext E65
      have Z65 : n0 ≤ h65.size := Nat.le_trans Z3 E65.1
      have K65 : Keep h0 h65 [a0] := K3.ext E65
      refine own_go (S' := T65.setTop (mkF m 26 #[.val (.ref a0), .val (.int p1), .val (.int p2), .val (.int p3), .val (.int p4)] [(.ref r65)])) st65 ?_
      refine own_go (S' := T65.setTop (mkF m 27 #[.val (.ref a0), .val (.int p1), .val (.int p2), .val (.int p3), .val (.int p4)] [(.int p3), (.ref r65)])) (fun target kt => ?_) ?_
      · skip
        show Steps p.tables e below (T65.setTop (mkF m 26 #[.val (.ref a0), .val (.int p1), .val (.int p2), .val (.int p3), .val (.int p4)] [(.ref r65)])) _
        refine XS.iloadN X65.here hx rfl (hb hby d1_26) rfl ?_
        exact kt
      obtain ⟨_, _, ⟨T71, L71, k71, n71⟩, -, X71, ⟨Lc71, hQ71, l71, y71, z71⟩, st71⟩ := Jvm.LawKit.callS X65 hx (y := (⟨"com/example/assertline/assertline/policy/RateLimit$Limits", "requireAtLeastOne", "(Ljava/lang/String;I)V"⟩ : MethodName)) hown (mvT hZ (hw _ (List.mem_of_getElem? (i := 23) rfl))) (mvT hZ (hw _ (List.mem_of_getElem? (i := 24) rfl))) (mvT hZ (hw _ (List.mem_of_getElem? (i := 3) rfl))) (mvT hZ (hw _ (List.mem_of_getElem? (i := 25) rfl))) (by decide) (backOf (W := 0) (rm4 l Z aZ hw [] r65 p3 h65 n0 Z65 (own_ge1 g3 hc21 : ¬ p3 < (1 : Int32))) hZ (hw _ (List.mem_of_getElem? (i := 25) rfl)) (hw _ (List.mem_of_getElem? (i := 3) rfl)) (by decide) (by decide)) (g := (mkF m 27 #[.val (.ref a0), .val (.int p1), .val (.int p2), .val (.int p3), .val (.int p4)] [(.int p3), (.ref r65)])) rfl (by rw [hml]; rfl) (argsL := [(.ref r65), (.int p3)]) (rest := []) (lenOf own_pd1 rfl) rfl (by show 2 * 0 + _ ≤ _; exact Nat.le_of_eq rfl) (hb hby d1_27) (fun _ _ => ⟨rfl, e65, (by decide : 4 + 0 ≤ _), (by decide : 128 + 0 ≤ _)⟩)
      dsimp only [Pt.U, Pt.locs, Pt.cells, Pt.slots] at X71 l71 y71 z71 st71 hQ71
      obtain rfl : k71 = 4 := y71
      obtain rfl : n71 = 128 := z71
      obtain ⟨rfl, N71q, e71⟩ := hQ71
      have N71 : Fr n0 L71 := by rw [l71]; exact Fr.app N9 N71q
      clear l71
      refine own_go (S' := T71.setTop (mkF m 30 #[.val (.ref a0), .val (.int p1), .val (.int p2), .val (.int p3), .val (.int p4)] [])) st71 ?_
      refine own_go (S' := T71.setTop (mkF m 32 #[.val (.ref a0), .val (.int p1), .val (.int p2), .val (.int p3), .val (.int p4)] [(.int p4)])) (fun target kt => ?_) ?_
      · skip
        show Steps p.tables e below (T71.setTop (mkF m 30 #[.val (.ref a0), .val (.int p1), .val (.int p2), .val (.int p3), .val (.int p4)] [])) _
        refine XS.iload X71.here hx rfl (hb hby d1_30) rfl ?_
        exact kt
      by_cases hc32 : p4 = (0 : Int32)
      · skip
        refine own_go (S' := T71.setTop (mkF m 44 #[.val (.ref a0), .val (.int p1), .val (.int p2), .val (.int p3), .val (.int p4)] [(.int p1), (.ref a0)])) (fun target kt => ?_) ?_
        · skip
          show Steps p.tables e below (T71.setTop (mkF m 32 #[.val (.ref a0), .val (.int p1), .val (.int p2), .val (.int p3), .val (.int p4)] [(.int p4)])) _
          refine XS.ifYes X71.here hx rfl (pc0 := 32) (pc' := 42) rfl (hb hby d1_32) rfl ((if0 _ _).trans (teq hc32).1) (by decide) (by decide) ?_
          show Steps p.tables e below (T71.setTop (mkF m 42 #[.val (.ref a0), .val (.int p1), .val (.int p2), .val (.int p3), .val (.int p4)] [])) _
          refine XS.aloadN X71.here hx rfl (hb hby d1_42) rfl rfl ?_
          show Steps p.tables e below (T71.setTop (mkF m 43 #[.val (.ref a0), .val (.int p1), .val (.int p2), .val (.int p3), .val (.int p4)] [(.ref a0)])) _
          refine XS.iloadN X71.here hx rfl (hb hby d1_43) rfl ?_
          exact kt
        obtain ⟨T72, h72, X72, e72, W72, st72⟩ := putF X71 hx hZ hown (host := "") (Or.inl (hw _ (List.mem_of_getElem? (i := 28) rfl))) Via.refl e71 f67 f66 (Or.inr ⟨(hw _ (List.mem_of_getElem? (i := 29) rfl)), rfl, hnm⟩) (hw _ (List.mem_of_getElem? (i := 2) rfl)) (ty := .int) (by decide) rfl rfl (g := (mkF m 44 #[.val (.ref a0), .val (.int p1), .val (.int p2), .val (.int p3), .val (.int p4)] [(.int p1), (.ref a0)])) rfl rfl (hb hby d1_44)
        have f73 : Exa Z h72 a0 "com/example/assertline/assertline/policy/RateLimit$Limits" := f66.wr W72
        have f74 : Fld Z h72 a0 "com/example/assertline/assertline/policy/RateLimit$Limits" "burstSeconds" "I" (.int (0 : Int32)) := f68.other W72 (Or.inr (slot_ne (Or.inr (hw _ (List.mem_of_getElem? (i := 31) rfl))) (Or.inr (hw _ (List.mem_of_getElem? (i := 29) rfl))) (by decide) (t := .int) (t' := .int) (by decide) (by decide)))
        have f75 : Fld Z h72 a0 "com/example/assertline/assertline/policy/RateLimit$Limits" "blackoutSeconds" "I" (.int (0 : Int32)) := f69.other W72 (Or.inr (slot_ne (Or.inr (hw _ (List.mem_of_getElem? (i := 33) rfl))) (Or.inr (hw _ (List.mem_of_getElem? (i := 29) rfl))) (by decide) (t := .int) (t' := .int) (by decide) (by decide)))
        have f76 : Fld Z h72 a0 "com/example/assertline/assertline/policy/RateLimit$Limits" "maxConcurrency" "I" (.int (0 : Int32)) := f70.other W72 (Or.inr (slot_ne (Or.inr (hw _ (List.mem_of_getElem? (i := 35) rfl))) (Or.inr (hw _ (List.mem_of_getElem? (i := 29) rfl))) (by decide) (t := .int) (t' := .int) (by decide) (by decide)))
        have f77 : Fld Z h72 a0 "com/example/assertline/assertline/policy/RateLimit$Limits" "maxPerSecond" "I" (.int p1) := f67.same W72
        have Z72 : n0 ≤ h72.size := Nat.le_trans Z65 (Keep.of_wr W72).1
        have ST72 := ST65.le (Keep.of_wr W72).1
        have K72 : Keep h0 h72 [a0] := K65.wr W72 (Or.inl (List.mem_of_getElem? (i := 0) rfl))
        have N72 := Fr.snoc X72 N71 g_a0
        refine own_go (S' := T72.setTop (mkF m 47 #[.val (.ref a0), .val (.int p1), .val (.int p2), .val (.int p3), .val (.int p4)] [])) st72 ?_
        refine own_go (S' := T72.setTop (mkF m 49 #[.val (.ref a0), .val (.int p1), .val (.int p2), .val (.int p3), .val (.int p4)] [(.int p2), (.ref a0)])) (fun target kt => ?_) ?_
        · skip
          show Steps p.tables e below (T72.setTop (mkF m 47 #[.val (.ref a0), .val (.int p1), .val (.int p2), .val (.int p3), .val (.int p4)] [])) _
          refine XS.aloadN X72.here hx rfl (hb hby d1_47) rfl rfl ?_
          show Steps p.tables e below (T72.setTop (mkF m 48 #[.val (.ref a0), .val (.int p1), .val (.int p2), .val (.int p3), .val (.int p4)] [(.ref a0)])) _
          refine XS.iloadN X72.here hx rfl (hb hby d1_48) rfl ?_
          exact kt
        obtain ⟨T78, h78, X78, e78, W78, st78⟩ := putF X72 hx hZ hown (host := "") (Or.inl (hw _ (List.mem_of_getElem? (i := 30) rfl))) Via.refl e72 f74 f73 (Or.inr ⟨(hw _ (List.mem_of_getElem? (i := 31) rfl)), rfl, hnm⟩) (hw _ (List.mem_of_getElem? (i := 2) rfl)) (ty := .int) (by decide) rfl rfl (g := (mkF m 49 #[.val (.ref a0), .val (.int p1), .val (.int p2), .val (.int p3), .val (.int p4)] [(.int p2), (.ref a0)])) rfl rfl (hb hby d1_49)
        have f79 : Exa Z h78 a0 "com/example/assertline/assertline/policy/RateLimit$Limits" := f73.wr W78
        have f80 : Fld Z h78 a0 "com/example/assertline/assertline/policy/RateLimit$Limits" "blackoutSeconds" "I" (.int (0 : Int32)) := f75.other W78 (Or.inr (slot_ne (Or.inr (hw _ (List.mem_of_getElem? (i := 33) rfl))) (Or.inr (hw _ (List.mem_of_getElem? (i := 31) rfl))) (by decide) (t := .int) (t' := .int) (by decide) (by decide)))
        have f81 : Fld Z h78 a0 "com/example/assertline/assertline/policy/RateLimit$Limits" "maxConcurrency" "I" (.int (0 : Int32)) := f76.other W78 (Or.inr (slot_ne (Or.inr (hw _ (List.mem_of_getElem? (i := 35) rfl))) (Or.inr (hw _ (List.mem_of_getElem? (i := 31) rfl))) (by decide) (t := .int) (t' := .int) (by decide) (by decide)))
        have f82 : Fld Z h78 a0 "com/example/assertline/assertline/policy/RateLimit$Limits" "maxPerSecond" "I" (.int p1) := f77.other W78 (Or.inr (slot_ne (Or.inr (hw _ (List.mem_of_getElem? (i := 29) rfl))) (Or.inr (hw _ (List.mem_of_getElem? (i := 31) rfl))) (by decide) (t := .int) (t' := .int) (by decide) (by decide)))
        have f83 : Fld Z h78 a0 "com/example/assertline/assertline/policy/RateLimit$Limits" "burstSeconds" "I" (.int p2) := f74.same W78
        have Z78 : n0 ≤ h78.size := Nat.le_trans Z72 (Keep.of_wr W78).1
        have ST78 := ST72.le (Keep.of_wr W78).1
        have K78 : Keep h0 h78 [a0] := K72.wr W78 (Or.inl (List.mem_of_getElem? (i := 0) rfl))
        have N78 := Fr.snoc X78 N72 g_a0
        refine own_go (S' := T78.setTop (mkF m 52 #[.val (.ref a0), .val (.int p1), .val (.int p2), .val (.int p3), .val (.int p4)] [])) st78 ?_
        refine own_go (S' := T78.setTop (mkF m 54 #[.val (.ref a0), .val (.int p1), .val (.int p2), .val (.int p3), .val (.int p4)] [(.int p3), (.ref a0)])) (fun target kt => ?_) ?_
        · skip
          show Steps p.tables e below (T78.setTop (mkF m 52 #[.val (.ref a0), .val (.int p1), .val (.int p2), .val (.int p3), .val (.int p4)] [])) _
          refine XS.aloadN X78.here hx rfl (hb hby d1_52) rfl rfl ?_
          show Steps p.tables e below (T78.setTop (mkF m 53 #[.val (.ref a0), .val (.int p1), .val (.int p2), .val (.int p3), .val (.int p4)] [(.ref a0)])) _
          refine XS.iloadN X78.here hx rfl (hb hby d1_53) rfl ?_
          exact kt
        obtain ⟨T84, h84, X84, e84, W84, st84⟩ := putF X78 hx hZ hown (host := "") (Or.inl (hw _ (List.mem_of_getElem? (i := 32) rfl))) Via.refl e78 f80 f79 (Or.inr ⟨(hw _ (List.mem_of_getElem? (i := 33) rfl)), rfl, hnm⟩) (hw _ (List.mem_of_getElem? (i := 2) rfl)) (ty := .int) (by decide) rfl rfl (g := (mkF m 54 #[.val (.ref a0), .val (.int p1), .val (.int p2), .val (.int p3), .val (.int p4)] [(.int p3), (.ref a0)])) rfl rfl (hb hby d1_54)
        have f85 : Exa Z h84 a0 "com/example/assertline/assertline/policy/RateLimit$Limits" := f79.wr W84
        have f86 : Fld Z h84 a0 "com/example/assertline/assertline/policy/RateLimit$Limits" "maxConcurrency" "I" (.int (0 : Int32)) := f81.other W84 (Or.inr (slot_ne (Or.inr (hw _ (List.mem_of_getElem? (i := 35) rfl))) (Or.inr (hw _ (List.mem_of_getElem? (i := 33) rfl))) (by decide) (t := .int) (t' := .int) (by decide) (by decide)))
        have f87 : Fld Z h84 a0 "com/example/assertline/assertline/policy/RateLimit$Limits" "maxPerSecond" "I" (.int p1) := f82.other W84 (Or.inr (slot_ne (Or.inr (hw _ (List.mem_of_getElem? (i := 29) rfl))) (Or.inr (hw _ (List.mem_of_getElem? (i := 33) rfl))) (by decide) (t := .int) (t' := .int) (by decide) (by decide)))
        have f88 : Fld Z h84 a0 "com/example/assertline/assertline/policy/RateLimit$Limits" "burstSeconds" "I" (.int p2) := f83.other W84 (Or.inr (slot_ne (Or.inr (hw _ (List.mem_of_getElem? (i := 31) rfl))) (Or.inr (hw _ (List.mem_of_getElem? (i := 33) rfl))) (by decide) (t := .int) (t' := .int) (by decide) (by decide)))
        have f89 : Fld Z h84 a0 "com/example/assertline/assertline/policy/RateLimit$Limits" "blackoutSeconds" "I" (.int p3) := f80.same W84
        have Z84 : n0 ≤ h84.size := Nat.le_trans Z78 (Keep.of_wr W84).1
        have ST84 := ST78.le (Keep.of_wr W84).1
        have K84 : Keep h0 h84 [a0] := K78.wr W84 (Or.inl (List.mem_of_getElem? (i := 0) rfl))
        have N84 := Fr.snoc X84 N78 g_a0
        refine own_go (S' := T84.setTop (mkF m 57 #[.val (.ref a0), .val (.int p1), .val (.int p2), .val (.int p3), .val (.int p4)] [])) st84 ?_
        refine own_go (S' := T84.setTop (mkF m 60 #[.val (.ref a0), .val (.int p1), .val (.int p2), .val (.int p3), .val (.int p4)] [(.int p4), (.ref a0)])) (fun target kt => ?_) ?_
        · skip
          show Steps p.tables e below (T84.setTop (mkF m 57 #[.val (.ref a0), .val (.int p1), .val (.int p2), .val (.int p3), .val (.int p4)] [])) _
          refine XS.aloadN X84.here hx rfl (hb hby d1_57) rfl rfl ?_
          show Steps p.tables e below (T84.setTop (mkF m 58 #[.val (.ref a0), .val (.int p1), .val (.int p2), .val (.int p3), .val (.int p4)] [(.ref a0)])) _
          refine XS.iload X84.here hx rfl (hb hby d1_58) rfl ?_
          exact kt
        obtain ⟨T90, h90, X90, e90, W90, st90⟩ := putF X84 hx hZ hown (host := "") (Or.inl (hw _ (List.mem_of_getElem? (i := 34) rfl))) Via.refl e84 f86 f85 (Or.inr ⟨(hw _ (List.mem_of_getElem? (i := 35) rfl)), rfl, hnm⟩) (hw _ (List.mem_of_getElem? (i := 2) rfl)) (ty := .int) (by decide) rfl rfl (g := (mkF m 60 #[.val (.ref a0), .val (.int p1), .val (.int p2), .val (.int p3), .val (.int p4)] [(.int p4), (.ref a0)])) rfl rfl (hb hby d1_60)
        have f91 : Exa Z h90 a0 "com/example/assertline/assertline/policy/RateLimit$Limits" := f85.wr W90
        have f92 : Fld Z h90 a0 "com/example/assertline/assertline/policy/RateLimit$Limits" "maxPerSecond" "I" (.int p1) := f87.other W90 (Or.inr (slot_ne (Or.inr (hw _ (List.mem_of_getElem? (i := 29) rfl))) (Or.inr (hw _ (List.mem_of_getElem? (i := 35) rfl))) (by decide) (t := .int) (t' := .int) (by decide) (by decide)))
        have f93 : Fld Z h90 a0 "com/example/assertline/assertline/policy/RateLimit$Limits" "burstSeconds" "I" (.int p2) := f88.other W90 (Or.inr (slot_ne (Or.inr (hw _ (List.mem_of_getElem? (i := 31) rfl))) (Or.inr (hw _ (List.mem_of_getElem? (i := 35) rfl))) (by decide) (t := .int) (t' := .int) (by decide) (by decide)))
        have f94 : Fld Z h90 a0 "com/example/assertline/assertline/policy/RateLimit$Limits" "blackoutSeconds" "I" (.int p3) := f89.other W90 (Or.inr (slot_ne (Or.inr (hw _ (List.mem_of_getElem? (i := 33) rfl))) (Or.inr (hw _ (List.mem_of_getElem? (i := 35) rfl))) (by decide) (t := .int) (t' := .int) (by decide) (by decide)))
        have f95 : Fld Z h90 a0 "com/example/assertline/assertline/policy/RateLimit$Limits" "maxConcurrency" "I" (.int p4) := f86.same W90
        have Z90 : n0 ≤ h90.size := Nat.le_trans Z84 (Keep.of_wr W90).1
        have ST90 := ST84.le (Keep.of_wr W90).1
        have K90 : Keep h0 h90 [a0] := K84.wr W90 (Or.inl (List.mem_of_getElem? (i := 0) rfl))
        have N90 := Fr.snoc X90 N84 g_a0
        refine own_go (S' := T90.setTop (mkF m 63 #[.val (.ref a0), .val (.int p1), .val (.int p2), .val (.int p3), .val (.int p4)] [])) st90 ?_
        obtain ⟨fs, hr, hrun, hended, hW, hBk, hsame⟩ := own_leave X90 e90 ST90 (v := none) (fun _ => rfl)
        refine ⟨_, _, ?_, hrun, hended, _, _, rfl, ?_, ⟨_, rfl⟩, hW, hBk, hsame.mono (by decide) (by decide)⟩
        · exact X90.returnOut hx Bd.returns (hb hby d1_63) hr
        · show Q1 Z a0 p1 p2 p3 p4 h0 n0 _ T90.heap _
          rw [e90]
          exact ⟨rfl, N90, K90, f91, f92, f93, f94, f95⟩
      · skip
        refine own_go (S' := T71.setTop (mkF m 35 #[.val (.ref a0), .val (.int p1), .val (.int p2), .val (.int p3), .val (.int p4)] [])) (fun target kt => ?_) ?_
        · skip
          show Steps p.tables e below (T71.setTop (mkF m 32 #[.val (.ref a0), .val (.int p1), .val (.int p2), .val (.int p3), .val (.int p4)] [(.int p4)])) _
          refine XS.ifNo X71.here hx rfl (hb hby d1_32) rfl ((if0 _ _).trans (feq hc32).1) ?_
          exact kt
        obtain ⟨r96, s96, T96, h96, X96, e96, E96, ST96, hZ, hown, st96⟩ := own_ldc X71 hx hZ hown (hw _ (List.mem_of_getElem? (i := 41) rfl)) (own_strw hw) e71 ST65 (g := (mkF m 35 #[.val (.ref a0), .val (.int p1), .val (.int p2), .val (.int p3), .val (.int p4)] [])) rfl (hb hby d1_35) (n := 60) (by decide) (by decide) (by decide) (by decide)
        have f97 : Exa Z h96 a0 "com/example/assertline/assertline/policy/RateLimit$Limits" := f66.ext E96
        have f98 : Fld Z h96 a0 "com/example/assertline/assertline/policy/RateLimit$Limits" "maxPerSecond" "I" (.int (0 : Int32)) := f67.ext E96
        have f99 : Fld Z h96 a0 "com/example/assertline/assertline/policy/RateLimit$Limits" "burstSeconds" "I" (.int (0 : Int32)) := f68.ext E96
        have f100 : Fld Z h96 a0 "com/example/assertline/assertline/policy/RateLimit$Limits" "blackoutSeconds" "I" (.int (0 : Int32)) := f69.ext E96
        have f101 : Fld Z h96 a0 "com/example/assertline/assertline/policy/RateLimit$Limits" "maxConcurrency" "I" (.int (0 : Int32)) := f70.ext E96
        have Z96 : n0 ≤ h96.size := Nat.le_trans Z65 E96.1
        have K96 : Keep h0 h96 [a0] := K65.ext E96
        refine own_go (S' := T96.setTop (mkF m 37 #[.val (.ref a0), .val (.int p1), .val (.int p2), .val (.int p3), .val (.int p4)] [(.ref r96)])) st96 ?_
        refine own_go (S' := T96.setTop (mkF m 39 #[.val (.ref a0), .val (.int p1), .val (.int p2), .val (.int p3), .val (.int p4)] [(.int p4), (.ref r96)])) (fun target kt => ?_) ?_
        · skip
          show Steps p.tables e below (T96.setTop (mkF m 37 #[.val (.ref a0), .val (.int p1), .val (.int p2), .val (.int p3), .val (.int p4)] [(.ref r96)])) _
          refine XS.iload X96.here hx rfl (hb hby d1_37) rfl ?_
          exact kt
        obtain ⟨_, _, ⟨T102, L102, k102, n102⟩, -, X102, ⟨Lc102, hQ102, l102, y102, z102⟩, st102⟩ := Jvm.LawKit.callS X96 hx (y := (⟨"com/example/assertline/assertline/policy/RateLimit$Limits", "requireAtLeastOne", "(Ljava/lang/String;I)V"⟩ : MethodName)) hown (mvT hZ (hw _ (List.mem_of_getElem? (i := 23) rfl))) (mvT hZ (hw _ (List.mem_of_getElem? (i := 24) rfl))) (mvT hZ (hw _ (List.mem_of_getElem? (i := 3) rfl))) (mvT hZ (hw _ (List.mem_of_getElem? (i := 25) rfl))) (by decide) (backOf (W := 0) (rm4 l Z aZ hw [] r96 p4 h96 n0 Z96 (own_ge1 g4 hc32 : ¬ p4 < (1 : Int32))) hZ (hw _ (List.mem_of_getElem? (i := 25) rfl)) (hw _ (List.mem_of_getElem? (i := 3) rfl)) (by decide) (by decide)) (g := (mkF m 39 #[.val (.ref a0), .val (.int p1), .val (.int p2), .val (.int p3), .val (.int p4)] [(.int p4), (.ref r96)])) rfl (by rw [hml]; rfl) (argsL := [(.ref r96), (.int p4)]) (rest := []) (lenOf own_pd1 rfl) rfl (by show 2 * 0 + _ ≤ _; exact Nat.le_of_eq rfl) (hb hby d1_39) (fun _ _ => ⟨rfl, e96, (by decide : 6 + 0 ≤ _), (by decide : 192 + 0 ≤ _)⟩)
        dsimp only [Pt.U, Pt.locs, Pt.cells, Pt.slots] at X102 l102 y102 z102 st102 hQ102
        obtain rfl : k102 = 6 := y102
        obtain rfl : n102 = 192 := z102
        obtain ⟨rfl, N102q, e102⟩ := hQ102
        have N102 : Fr n0 L102 := by rw [l102]; exact Fr.app N71 N102q
        clear l102
        refine own_go (S' := T102.setTop (mkF m 42 #[.val (.ref a0), .val (.int p1), .val (.int p2), .val (.int p3), .val (.int p4)] [])) st102 ?_
        refine own_go (S' := T102.setTop (mkF m 44 #[.val (.ref a0), .val (.int p1), .val (.int p2), .val (.int p3), .val (.int p4)] [(.int p1), (.ref a0)])) (fun target kt => ?_) ?_
        · skip
          show Steps p.tables e below (T102.setTop (mkF m 42 #[.val (.ref a0), .val (.int p1), .val (.int p2), .val (.int p3), .val (.int p4)] [])) _
          refine XS.aloadN X102.here hx rfl (hb hby d1_42) rfl rfl ?_
          show Steps p.tables e below (T102.setTop (mkF m 43 #[.val (.ref a0), .val (.int p1), .val (.int p2), .val (.int p3), .val (.int p4)] [(.ref a0)])) _
          refine XS.iloadN X102.here hx rfl (hb hby d1_43) rfl ?_
          exact kt
        obtain ⟨T103, h103, X103, e103, W103, st103⟩ := putF X102 hx hZ hown (host := "") (Or.inl (hw _ (List.mem_of_getElem? (i := 28) rfl))) Via.refl e102 f98 f97 (Or.inr ⟨(hw _ (List.mem_of_getElem? (i := 29) rfl)), rfl, hnm⟩) (hw _ (List.mem_of_getElem? (i := 2) rfl)) (ty := .int) (by decide) rfl rfl (g := (mkF m 44 #[.val (.ref a0), .val (.int p1), .val (.int p2), .val (.int p3), .val (.int p4)] [(.int p1), (.ref a0)])) rfl rfl (hb hby d1_44)
        have f104 : Exa Z h103 a0 "com/example/assertline/assertline/policy/RateLimit$Limits" := f97.wr W103
        have f105 : Fld Z h103 a0 "com/example/assertline/assertline/policy/RateLimit$Limits" "burstSeconds" "I" (.int (0 : Int32)) := f99.other W103 (Or.inr (slot_ne (Or.inr (hw _ (List.mem_of_getElem? (i := 31) rfl))) (Or.inr (hw _ (List.mem_of_getElem? (i := 29) rfl))) (by decide) (t := .int) (t' := .int) (by decide) (by decide)))
        have f106 : Fld Z h103 a0 "com/example/assertline/assertline/policy/RateLimit$Limits" "blackoutSeconds" "I" (.int (0 : Int32)) := f100.other W103 (Or.inr (slot_ne (Or.inr (hw _ (List.mem_of_getElem? (i := 33) rfl))) (Or.inr (hw _ (List.mem_of_getElem? (i := 29) rfl))) (by decide) (t := .int) (t' := .int) (by decide) (by decide)))
        have f107 : Fld Z h103 a0 "com/example/assertline/assertline/policy/RateLimit$Limits" "maxConcurrency" "I" (.int (0 : Int32)) := f101.other W103 (Or.inr (slot_ne (Or.inr (hw _ (List.mem_of_getElem? (i := 35) rfl))) (Or.inr (hw _ (List.mem_of_getElem? (i := 29) rfl))) (by decide) (t := .int) (t' := .int) (by decide) (by decide)))
        have f108 : Fld Z h103 a0 "com/example/assertline/assertline/policy/RateLimit$Limits" "maxPerSecond" "I" (.int p1) := f98.same W103
        have Z103 : n0 ≤ h103.size := Nat.le_trans Z96 (Keep.of_wr W103).1
        have ST103 := ST96.le (Keep.of_wr W103).1
        have K103 : Keep h0 h103 [a0] := K96.wr W103 (Or.inl (List.mem_of_getElem? (i := 0) rfl))
        have N103 := Fr.snoc X103 N102 g_a0
        refine own_go (S' := T103.setTop (mkF m 47 #[.val (.ref a0), .val (.int p1), .val (.int p2), .val (.int p3), .val (.int p4)] [])) st103 ?_
        refine own_go (S' := T103.setTop (mkF m 49 #[.val (.ref a0), .val (.int p1), .val (.int p2), .val (.int p3), .val (.int p4)] [(.int p2), (.ref a0)])) (fun target kt => ?_) ?_
        · skip
          show Steps p.tables e below (T103.setTop (mkF m 47 #[.val (.ref a0), .val (.int p1), .val (.int p2), .val (.int p3), .val (.int p4)] [])) _
          refine XS.aloadN X103.here hx rfl (hb hby d1_47) rfl rfl ?_
          show Steps p.tables e below (T103.setTop (mkF m 48 #[.val (.ref a0), .val (.int p1), .val (.int p2), .val (.int p3), .val (.int p4)] [(.ref a0)])) _
          refine XS.iloadN X103.here hx rfl (hb hby d1_48) rfl ?_
          exact kt
        obtain ⟨T109, h109, X109, e109, W109, st109⟩ := putF X103 hx hZ hown (host := "") (Or.inl (hw _ (List.mem_of_getElem? (i := 30) rfl))) Via.refl e103 f105 f104 (Or.inr ⟨(hw _ (List.mem_of_getElem? (i := 31) rfl)), rfl, hnm⟩) (hw _ (List.mem_of_getElem? (i := 2) rfl)) (ty := .int) (by decide) rfl rfl (g := (mkF m 49 #[.val (.ref a0), .val (.int p1), .val (.int p2), .val (.int p3), .val (.int p4)] [(.int p2), (.ref a0)])) rfl rfl (hb hby d1_49)
        have f110 : Exa Z h109 a0 "com/example/assertline/assertline/policy/RateLimit$Limits" := f104.wr W109
        have f111 : Fld Z h109 a0 "com/example/assertline/assertline/policy/RateLimit$Limits" "blackoutSeconds" "I" (.int (0 : Int32)) := f106.other W109 (Or.inr (slot_ne (Or.inr (hw _ (List.mem_of_getElem? (i := 33) rfl))) (Or.inr (hw _ (List.mem_of_getElem? (i := 31) rfl))) (by decide) (t := .int) (t' := .int) (by decide) (by decide)))
        have f112 : Fld Z h109 a0 "com/example/assertline/assertline/policy/RateLimit$Limits" "maxConcurrency" "I" (.int (0 : Int32)) := f107.other W109 (Or.inr (slot_ne (Or.inr (hw _ (List.mem_of_getElem? (i := 35) rfl))) (Or.inr (hw _ (List.mem_of_getElem? (i := 31) rfl))) (by decide) (t := .int) (t' := .int) (by decide) (by decide)))
        have f113 : Fld Z h109 a0 "com/example/assertline/assertline/policy/RateLimit$Limits" "maxPerSecond" "I" (.int p1) := f108.other W109 (Or.inr (slot_ne (Or.inr (hw _ (List.mem_of_getElem? (i := 29) rfl))) (Or.inr (hw _ (List.mem_of_getElem? (i := 31) rfl))) (by decide) (t := .int) (t' := .int) (by decide) (by decide)))
        have f114 : Fld Z h109 a0 "com/example/assertline/assertline/policy/RateLimit$Limits" "burstSeconds" "I" (.int p2) := f105.same W109
        have Z109 : n0 ≤ h109.size := Nat.le_trans Z103 (Keep.of_wr W109).1
        have ST109 := ST103.le (Keep.of_wr W109).1
        have K109 : Keep h0 h109 [a0] := K103.wr W109 (Or.inl (List.mem_of_getElem? (i := 0) rfl))
        have N109 := Fr.snoc X109 N103 g_a0
        refine own_go (S' := T109.setTop (mkF m 52 #[.val (.ref a0), .val (.int p1), .val (.int p2), .val (.int p3), .val (.int p4)] [])) st109 ?_
        refine own_go (S' := T109.setTop (mkF m 54 #[.val (.ref a0), .val (.int p1), .val (.int p2), .val (.int p3), .val (.int p4)] [(.int p3), (.ref a0)])) (fun target kt => ?_) ?_
        · skip
          show Steps p.tables e below (T109.setTop (mkF m 52 #[.val (.ref a0), .val (.int p1), .val (.int p2), .val (.int p3), .val (.int p4)] [])) _
          refine XS.aloadN X109.here hx rfl (hb hby d1_52) rfl rfl ?_
          show Steps p.tables e below (T109.setTop (mkF m 53 #[.val (.ref a0), .val (.int p1), .val (.int p2), .val (.int p3), .val (.int p4)] [(.ref a0)])) _
          refine XS.iloadN X109.here hx rfl (hb hby d1_53) rfl ?_
          exact kt
        obtain ⟨T115, h115, X115, e115, W115, st115⟩ := putF X109 hx hZ hown (host := "") (Or.inl (hw _ (List.mem_of_getElem? (i := 32) rfl))) Via.refl e109 f111 f110 (Or.inr ⟨(hw _ (List.mem_of_getElem? (i := 33) rfl)), rfl, hnm⟩) (hw _ (List.mem_of_getElem? (i := 2) rfl)) (ty := .int) (by decide) rfl rfl (g := (mkF m 54 #[.val (.ref a0), .val (.int p1), .val (.int p2), .val (.int p3), .val (.int p4)] [(.int p3), (.ref a0)])) rfl rfl (hb hby d1_54)
        have f116 : Exa Z h115 a0 "com/example/assertline/assertline/policy/RateLimit$Limits" := f110.wr W115
        have f117 : Fld Z h115 a0 "com/example/assertline/assertline/policy/RateLimit$Limits" "maxConcurrency" "I" (.int (0 : Int32)) := f112.other W115 (Or.inr (slot_ne (Or.inr (hw _ (List.mem_of_getElem? (i := 35) rfl))) (Or.inr (hw _ (List.mem_of_getElem? (i := 33) rfl))) (by decide) (t := .int) (t' := .int) (by decide) (by decide)))
        have f118 : Fld Z h115 a0 "com/example/assertline/assertline/policy/RateLimit$Limits" "maxPerSecond" "I" (.int p1) := f113.other W115 (Or.inr (slot_ne (Or.inr (hw _ (List.mem_of_getElem? (i := 29) rfl))) (Or.inr (hw _ (List.mem_of_getElem? (i := 33) rfl))) (by decide) (t := .int) (t' := .int) (by decide) (by decide)))
        have f119 : Fld Z h115 a0 "com/example/assertline/assertline/policy/RateLimit$Limits" "burstSeconds" "I" (.int p2) := f114.other W115 (Or.inr (slot_ne (Or.inr (hw _ (List.mem_of_getElem? (i := 31) rfl))) (Or.inr (hw _ (List.mem_of_getElem? (i := 33) rfl))) (by decide) (t := .int) (t' := .int) (by decide) (by decide)))
        have f120 : Fld Z h115 a0 "com/example/assertline/assertline/policy/RateLimit$Limits" "blackoutSeconds" "I" (.int p3) := f111.same W115
        have Z115 : n0 ≤ h115.size := Nat.le_trans Z109 (Keep.of_wr W115).1
        have ST115 := ST109.le (Keep.of_wr W115).1
        have K115 : Keep h0 h115 [a0] := K109.wr W115 (Or.inl (List.mem_of_getElem? (i := 0) rfl))
        have N115 := Fr.snoc X115 N109 g_a0
        refine own_go (S' := T115.setTop (mkF m 57 #[.val (.ref a0), .val (.int p1), .val (.int p2), .val (.int p3), .val (.int p4)] [])) st115 ?_
        refine own_go (S' := T115.setTop (mkF m 60 #[.val (.ref a0), .val (.int p1), .val (.int p2), .val (.int p3), .val (.int p4)] [(.int p4), (.ref a0)])) (fun target kt => ?_) ?_
        · skip
          show Steps p.tables e below (T115.setTop (mkF m 57 #[.val (.ref a0), .val (.int p1), .val (.int p2), .val (.int p3), .val (.int p4)] [])) _
          refine XS.aloadN X115.here hx rfl (hb hby d1_57) rfl rfl ?_
          show Steps p.tables e below (T115.setTop (mkF m 58 #[.val (.ref a0), .val (.int p1), .val (.int p2), .val (.int p3), .val (.int p4)] [(.ref a0)])) _
          refine XS.iload X115.here hx rfl (hb hby d1_58) rfl ?_
          exact kt
        obtain ⟨T121, h121, X121, e121, W121, st121⟩ := putF X115 hx hZ hown (host := "") (Or.inl (hw _ (List.mem_of_getElem? (i := 34) rfl))) Via.refl e115 f117 f116 (Or.inr ⟨(hw _ (List.mem_of_getElem? (i := 35) rfl)), rfl, hnm⟩) (hw _ (List.mem_of_getElem? (i := 2) rfl)) (ty := .int) (by decide) rfl rfl (g := (mkF m 60 #[.val (.ref a0), .val (.int p1), .val (.int p2), .val (.int p3), .val (.int p4)] [(.int p4), (.ref a0)])) rfl rfl (hb hby d1_60)
        have f122 : Exa Z h121 a0 "com/example/assertline/assertline/policy/RateLimit$Limits" := f116.wr W121
        have f123 : Fld Z h121 a0 "com/example/assertline/assertline/policy/RateLimit$Limits" "maxPerSecond" "I" (.int p1) := f118.other W121 (Or.inr (slot_ne (Or.inr (hw _ (List.mem_of_getElem? (i := 29) rfl))) (Or.inr (hw _ (List.mem_of_getElem? (i := 35) rfl))) (by decide) (t := .int) (t' := .int) (by decide) (by decide)))
        have f124 : Fld Z h121 a0 "com/example/assertline/assertline/policy/RateLimit$Limits" "burstSeconds" "I" (.int p2) := f119.other W121 (Or.inr (slot_ne (Or.inr (hw _ (List.mem_of_getElem? (i := 31) rfl))) (Or.inr (hw _ (List.mem_of_getElem? (i := 35) rfl))) (by decide) (t := .int) (t' := .int) (by decide) (by decide)))
        have f125 : Fld Z h121 a0 "com/example/assertline/assertline/policy/RateLimit$Limits" "blackoutSeconds" "I" (.int p3) := f120.other W121 (Or.inr (slot_ne (Or.inr (hw _ (List.mem_of_getElem? (i := 33) rfl))) (Or.inr (hw _ (List.mem_of_getElem? (i := 35) rfl))) (by decide) (t := .int) (t' := .int) (by decide) (by decide)))
        have f126 : Fld Z h121 a0 "com/example/assertline/assertline/policy/RateLimit$Limits" "maxConcurrency" "I" (.int p4) := f117.same W121
        have Z121 : n0 ≤ h121.size := Nat.le_trans Z115 (Keep.of_wr W121).1
        have ST121 := ST115.le (Keep.of_wr W121).1
        have K121 : Keep h0 h121 [a0] := K115.wr W121 (Or.inl (List.mem_of_getElem? (i := 0) rfl))
        have N121 := Fr.snoc X121 N115 g_a0
        refine own_go (S' := T121.setTop (mkF m 63 #[.val (.ref a0), .val (.int p1), .val (.int p2), .val (.int p3), .val (.int p4)] [])) st121 ?_
        obtain ⟨fs, hr, hrun, hended, hW, hBk, hsame⟩ := own_leave X121 e121 ST121 (v := none) (fun _ => rfl)
        refine ⟨_, _, ?_, hrun, hended, _, _, rfl, ?_, ⟨_, rfl⟩, hW, hBk, hsame.mono (by decide) (by decide)⟩
        · exact X121.returnOut hx Bd.returns (hb hby d1_63) hr
        · show Q1 Z a0 p1 p2 p3 p4 h0 n0 _ T121.heap _
          rw [e121]
          exact ⟨rfl, N121, K121, f122, f123, f124, f125, f126⟩
  · skip
    refine own_go (S' := T9.setTop (mkF m 14 #[.val (.ref a0), .val (.int p1), .val (.int p2), .val (.int p3), .val (.int p4)] [])) (fun target kt => ?_) ?_
    · skip
      show Steps p.tables e below (T9.setTop (mkF m 11 #[.val (.ref a0), .val (.int p1), .val (.int p2), .val (.int p3), .val (.int p4)] [(.int p2)])) _
      refine XS.ifNo X9.here hx rfl (hb hby d1_11) rfl ((if0 _ _).trans (feq hc11).1) ?_
      exact kt
    obtain ⟨r127, s127, T127, h127, X127, e127, E127, ST127, hZ, hown, st127⟩ := own_ldc X9 hx hZ hown (hw _ (List.mem_of_getElem? (i := 26) rfl)) (own_strw hw) e9 ST3 (g := (mkF m 14 #[.val (.ref a0), .val (.int p1), .val (.int p2), .val (.int p3), .val (.int p4)] [])) rfl (hb hby d1_14) (n := 52) (by decide) (by decide) (by decide) (by decide)
    have f128 : Exa Z h127 a0 "com/example/assertline/assertline/policy/RateLimit$Limits" := f4.ext E127
    have f129 : Fld Z h127 a0 "com/example/assertline/assertline/policy/RateLimit$Limits" "maxPerSecond" "I" (.int (0 : Int32)) := f5.ext E127
    have f130 : Fld Z h127 a0 "com/example/assertline/assertline/policy/RateLimit$Limits" "burstSeconds" "I" (.int (0 : Int32)) := f6.ext E127
    have f131 : Fld Z h127 a0 "com/example/assertline/assertline/policy/RateLimit$Limits" "blackoutSeconds" "I" (.int (0 : Int32)) := f7.ext E127
    have f132 : Fld Z h127 a0 "com/example/assertline/assertline/policy/RateLimit$Limits" "maxConcurrency" "I" (.int (0 : Int32)) := f8.ext E127
    have Z127 : n0 ≤ h127.size := Nat.le_trans Z3 E127.1
    have K127 : Keep h0 h127 [a0] := K3.ext E127
    refine own_go (S' := T127.setTop (mkF m 16 #[.val (.ref a0), .val (.int p1), .val (.int p2), .val (.int p3), .val (.int p4)] [(.ref r127)])) st127 ?_
    refine own_go (S' := T127.setTop (mkF m 17 #[.val (.ref a0), .val (.int p1), .val (.int p2), .val (.int p3), .val (.int p4)] [(.int p2), (.ref r127)])) (fun target kt => ?_) ?_
    · skip
      show Steps p.tables e below (T127.setTop (mkF m 16 #[.val (.ref a0), .val (.int p1), .val (.int p2), .val (.int p3), .val (.int p4)] [(.ref r127)])) _
      refine XS.iloadN X127.here hx rfl (hb hby d1_16) rfl ?_
      exact kt
    obtain ⟨_, _, ⟨T133, L133, k133, n133⟩, -, X133, ⟨Lc133, hQ133, l133, y133, z133⟩, st133⟩ := Jvm.LawKit.callS X127 hx (y := (⟨"com/example/assertline/assertline/policy/RateLimit$Limits", "requireAtLeastOne", "(Ljava/lang/String;I)V"⟩ : MethodName)) hown (mvT hZ (hw _ (List.mem_of_getElem? (i := 23) rfl))) (mvT hZ (hw _ (List.mem_of_getElem? (i := 24) rfl))) (mvT hZ (hw _ (List.mem_of_getElem? (i := 3) rfl))) (mvT hZ (hw _ (List.mem_of_getElem? (i := 25) rfl))) (by decide) (backOf (W := 0) (rm4 l Z aZ hw [] r127 p2 h127 n0 Z127 (own_ge1 g2 hc11 : ¬ p2 < (1 : Int32))) hZ (hw _ (List.mem_of_getElem? (i := 25) rfl)) (hw _ (List.mem_of_getElem? (i := 3) rfl)) (by decide) (by decide)) (g := (mkF m 17 #[.val (.ref a0), .val (.int p1), .val (.int p2), .val (.int p3), .val (.int p4)] [(.int p2), (.ref r127)])) rfl (by rw [hml]; rfl) (argsL := [(.ref r127), (.int p2)]) (rest := []) (lenOf own_pd1 rfl) rfl (by show 2 * 0 + _ ≤ _; exact Nat.le_of_eq rfl) (hb hby d1_17) (fun _ _ => ⟨rfl, e127, (by decide : 4 + 0 ≤ _), (by decide : 116 + 0 ≤ _)⟩)
    dsimp only [Pt.U, Pt.locs, Pt.cells, Pt.slots] at X133 l133 y133 z133 st133 hQ133
    obtain rfl : k133 = 4 := y133
    obtain rfl : n133 = 116 := z133
    obtain ⟨rfl, N133q, e133⟩ := hQ133
    have N133 : Fr n0 L133 := by rw [l133]; exact Fr.app N9 N133q
    clear l133
    refine own_go (S' := T133.setTop (mkF m 20 #[.val (.ref a0), .val (.int p1), .val (.int p2), .val (.int p3), .val (.int p4)] [])) st133 ?_
    refine own_go (S' := T133.setTop (mkF m 21 #[.val (.ref a0), .val (.int p1), .val (.int p2), .val (.int p3), .val (.int p4)] [(.int p3)])) (fun target kt => ?_) ?_
    · skip
      show Steps p.tables e below (T133.setTop (mkF m 20 #[.val (.ref a0), .val (.int p1), .val (.int p2), .val (.int p3), .val (.int p4)] [])) _
      refine XS.iloadN X133.here hx rfl (hb hby d1_20) rfl ?_
      exact kt
    by_cases hc21 : p3 = (0 : Int32)
    · skip
      refine own_go (S' := T133.setTop (mkF m 32 #[.val (.ref a0), .val (.int p1), .val (.int p2), .val (.int p3), .val (.int p4)] [(.int p4)])) (fun target kt => ?_) ?_
      · skip
        show Steps p.tables e below (T133.setTop (mkF m 21 #[.val (.ref a0), .val (.int p1), .val (.int p2), .val (.int p3), .val (.int p4)] [(.int p3)])) _
        refine XS.ifYes X133.here hx rfl (pc0 := 21) (pc' := 30) rfl (hb hby d1_21) rfl ((if0 _ _).trans (teq hc21).1) (by decide) (by decide) ?_
        show Steps p.tables e below (T133.setTop (mkF m 30 #[.val (.ref a0), .val (.int p1), .val (.int p2), .val (.int p3), .val (.int p4)] [])) _
        refine XS.iload X133.here hx rfl (hb hby d1_30) rfl ?_
        exact kt
      by_cases hc32 : p4 = (0 : Int32)
      · skip
        refine own_go (S' := T133.setTop (mkF m 44 #[.val (.ref a0), .val (.int p1), .val (.int p2), .val (.int p3), .val (.int p4)] [(.int p1), (.ref a0)])) (fun target kt => ?_) ?_
        · skip
          show Steps p.tables e below (T133.setTop (mkF m 32 #[.val (.ref a0), .val (.int p1), .val (.int p2), .val (.int p3), .val (.int p4)] [(.int p4)])) _
          refine XS.ifYes X133.here hx rfl (pc0 := 32) (pc' := 42) rfl (hb hby d1_32) rfl ((if0 _ _).trans (teq hc32).1) (by decide) (by decide) ?_
          show Steps p.tables e below (T133.setTop (mkF m 42 #[.val (.ref a0), .val (.int p1), .val (.int p2), .val (.int p3), .val (.int p4)] [])) _
          refine XS.aloadN X133.here hx rfl (hb hby d1_42) rfl rfl ?_
          show Steps p.tables e below (T133.setTop (mkF m 43 #[.val (.ref a0), .val (.int p1), .val (.int p2), .val (.int p3), .val (.int p4)] [(.ref a0)])) _
          refine XS.iloadN X133.here hx rfl (hb hby d1_43) rfl ?_
          exact kt
        obtain ⟨T134, h134, X134, e134, W134, st134⟩ := putF X133 hx hZ hown (host := "") (Or.inl (hw _ (List.mem_of_getElem? (i := 28) rfl))) Via.refl e133 f129 f128 (Or.inr ⟨(hw _ (List.mem_of_getElem? (i := 29) rfl)), rfl, hnm⟩) (hw _ (List.mem_of_getElem? (i := 2) rfl)) (ty := .int) (by decide) rfl rfl (g := (mkF m 44 #[.val (.ref a0), .val (.int p1), .val (.int p2), .val (.int p3), .val (.int p4)] [(.int p1), (.ref a0)])) rfl rfl (hb hby d1_44)
        have f135 : Exa Z h134 a0 "com/example/assertline/assertline/policy/RateLimit$Limits" := f128.wr W134
        have f136 : Fld Z h134 a0 "com/example/assertline/assertline/policy/RateLimit$Limits" "burstSeconds" "I" (.int (0 : Int32)) := f130.other W134 (Or.inr (slot_ne (Or.inr (hw _ (List.mem_of_getElem? (i := 31) rfl))) (Or.inr (hw _ (List.mem_of_getElem? (i := 29) rfl))) (by decide) (t := .int) (t' := .int) (by decide) (by decide)))
        have f137 : Fld Z h134 a0 "com/example/assertline/assertline/policy/RateLimit$Limits" "blackoutSeconds" "I" (.int (0 : Int32)) := f131.other W134 (Or.inr (slot_ne (Or.inr (hw _ (List.mem_of_getElem? (i := 33) rfl))) (Or.inr (hw _ (List.mem_of_getElem? (i := 29) rfl))) (by decide) (t := .int) (t' := .int) (by decide) (by decide)))
        have f138 : Fld Z h134 a0 "com/example/assertline/assertline/policy/RateLimit$Limits" "maxConcurrency" "I" (.int (0 : Int32)) := f132.other W134 (Or.inr (slot_ne (Or.inr (hw _ (List.mem_of_getElem? (i := 35) rfl))) (Or.inr (hw _ (List.mem_of_getElem? (i := 29) rfl))) (by decide) (t := .int) (t' := .int) (by decide) (by decide)))
        have f139 : Fld Z h134 a0 "com/example/assertline/assertline/policy/RateLimit$Limits" "maxPerSecond" "I" (.int p1) := f129.same W134
        have Z134 : n0 ≤ h134.size := Nat.le_trans Z127 (Keep.of_wr W134).1
        have ST134 := ST127.le (Keep.of_wr W134).1
        have K134 : Keep h0 h134 [a0] := K127.wr W134 (Or.inl (List.mem_of_getElem? (i := 0) rfl))
        have N134 := Fr.snoc X134 N133 g_a0
        refine own_go (S' := T134.setTop (mkF m 47 #[.val (.ref a0), .val (.int p1), .val (.int p2), .val (.int p3), .val (.int p4)] [])) st134 ?_
        refine own_go (S' := T134.setTop (mkF m 49 #[.val (.ref a0), .val (.int p1), .val (.int p2), .val (.int p3), .val (.int p4)] [(.int p2), (.ref a0)])) (fun target kt => ?_) ?_
        · skip
          show Steps p.tables e below (T134.setTop (mkF m 47 #[.val (.ref a0), .val (.int p1), .val (.int p2), .val (.int p3), .val (.int p4)] [])) _
          refine XS.aloadN X134.here hx rfl (hb hby d1_47) rfl rfl ?_
          show Steps p.tables e below (T134.setTop (mkF m 48 #[.val (.ref a0), .val (.int p1), .val (.int p2), .val (.int p3), .val (.int p4)] [(.ref a0)])) _
          refine XS.iloadN X134.here hx rfl (hb hby d1_48) rfl ?_
          exact kt
        obtain ⟨T140, h140, X140, e140, W140, st140⟩ := putF X134 hx hZ hown (host := "") (Or.inl (hw _ (List.mem_of_getElem? (i := 30) rfl))) Via.refl e134 f136 f135 (Or.inr ⟨(hw _ (List.mem_of_getElem? (i := 31) rfl)), rfl, hnm⟩) (hw _ (List.mem_of_getElem? (i := 2) rfl)) (ty := .int) (by decide) rfl rfl (g := (mkF m 49 #[.val (.ref a0), .val (.int p1), .val (.int p2), .val (.int p3), .val (.int p4)] [(.int p2), (.ref a0)])) rfl rfl (hb hby d1_49)
        have f141 : Exa Z h140 a0 "com/example/assertline/assertline/policy/RateLimit$Limits" := f135.wr W140
        have f142 : Fld Z h140 a0 "com/example/assertline/assertline/policy/RateLimit$Limits" "blackoutSeconds" "I" (.int (0 : Int32)) := f137.other W140 (Or.inr (slot_ne (Or.inr (hw _ (List.mem_of_getElem? (i := 33) rfl))) (Or.inr (hw _ (List.mem_of_getElem? (i := 31) rfl))) (by decide) (t := .int) (t' := .int) (by decide) (by decide)))
        have f143 : Fld Z h140 a0 "com/example/assertline/assertline/policy/RateLimit$Limits" "maxConcurrency" "I" (.int (0 : Int32)) := f138.other W140 (Or.inr (slot_ne (Or.inr (hw _ (List.mem_of_getElem? (i := 35) rfl))) (Or.inr (hw _ (List.mem_of_getElem? (i := 31) rfl))) (by decide) (t := .int) (t' := .int) (by decide) (by decide)))
        have f144 : Fld Z h140 a0 "com/example/assertline/assertline/policy/RateLimit$Limits" "maxPerSecond" "I" (.int p1) := f139.other W140 (Or.inr (slot_ne (Or.inr (hw _ (List.mem_of_getElem? (i := 29) rfl))) (Or.inr (hw _ (List.mem_of_getElem? (i := 31) rfl))) (by decide) (t := .int) (t' := .int) (by decide) (by decide)))
        have f145 : Fld Z h140 a0 "com/example/assertline/assertline/policy/RateLimit$Limits" "burstSeconds" "I" (.int p2) := f136.same W140
        have Z140 : n0 ≤ h140.size := Nat.le_trans Z134 (Keep.of_wr W140).1
        have ST140 := ST134.le (Keep.of_wr W140).1
        have K140 : Keep h0 h140 [a0] := K134.wr W140 (Or.inl (List.mem_of_getElem? (i := 0) rfl))
        have N140 := Fr.snoc X140 N134 g_a0
        refine own_go (S' := T140.setTop (mkF m 52 #[.val (.ref a0), .val (.int p1), .val (.int p2), .val (.int p3), .val (.int p4)] [])) st140 ?_
        refine own_go (S' := T140.setTop (mkF m 54 #[.val (.ref a0), .val (.int p1), .val (.int p2), .val (.int p3), .val (.int p4)] [(.int p3), (.ref a0)])) (fun target kt => ?_) ?_
        · skip
          show Steps p.tables e below (T140.setTop (mkF m 52 #[.val (.ref a0), .val (.int p1), .val (.int p2), .val (.int p3), .val (.int p4)] [])) _
          refine XS.aloadN X140.here hx rfl (hb hby d1_52) rfl rfl ?_
          show Steps p.tables e below (T140.setTop (mkF m 53 #[.val (.ref a0), .val (.int p1), .val (.int p2), .val (.int p3), .val (.int p4)] [(.ref a0)])) _
          refine XS.iloadN X140.here hx rfl (hb hby d1_53) rfl ?_
          exact kt
        obtain ⟨T146, h146, X146, e146, W146, st146⟩ := putF X140 hx hZ hown (host := "") (Or.inl (hw _ (List.mem_of_getElem? (i := 32) rfl))) Via.refl e140 f142 f141 (Or.inr ⟨(hw _ (List.mem_of_getElem? (i := 33) rfl)), rfl, hnm⟩) (hw _ (List.mem_of_getElem? (i := 2) rfl)) (ty := .int) (by decide) rfl rfl (g := (mkF m 54 #[.val (.ref a0), .val (.int p1), .val (.int p2), .val (.int p3), .val (.int p4)] [(.int p3), (.ref a0)])) rfl rfl (hb hby d1_54)
        have f147 : Exa Z h146 a0 "com/example/assertline/assertline/policy/RateLimit$Limits" := f141.wr W146
        have f148 : Fld Z h146 a0 "com/example/assertline/assertline/policy/RateLimit$Limits" "maxConcurrency" "I" (.int (0 : Int32)) := f143.other W146 (Or.inr (slot_ne (Or.inr (hw _ (List.mem_of_getElem? (i := 35) rfl))) (Or.inr (hw _ (List.mem_of_getElem? (i := 33) rfl))) (by decide) (t := .int) (t' := .int) (by decide) (by decide)))
        have f149 : Fld Z h146 a0 "com/example/assertline/assertline/policy/RateLimit$Limits" "maxPerSecond" "I" (.int p1) := f144.other W146 (Or.inr (slot_ne (Or.inr (hw _ (List.mem_of_getElem? (i := 29) rfl))) (Or.inr (hw _ (List.mem_of_getElem? (i := 33) rfl))) (by decide) (t := .int) (t' := .int) (by decide) (by decide)))
        have f150 : Fld Z h146 a0 "com/example/assertline/assertline/policy/RateLimit$Limits" "burstSeconds" "I" (.int p2) := f145.other W146 (Or.inr (slot_ne (Or.inr (hw _ (List.mem_of_getElem? (i := 31) rfl))) (Or.inr (hw _ (List.mem_of_getElem? (i := 33) rfl))) (by decide) (t := .int) (t' := .int) (by decide) (by decide)))
        have f151 : Fld Z h146 a0 "com/example/assertline/assertline/policy/RateLimit$Limits" "blackoutSeconds" "I" (.int p3) := f142.same W146
        have Z146 : n0 ≤ h146.size := Nat.le_trans Z140 (Keep.of_wr W146).1
        have ST146 := ST140.le (Keep.of_wr W146).1
        have K146 : Keep h0 h146 [a0] := K140.wr W146 (Or.inl (List.mem_of_getElem? (i := 0) rfl))
        have N146 := Fr.snoc X146 N140 g_a0
        refine own_go (S' := T146.setTop (mkF m 57 #[.val (.ref a0), .val (.int p1), .val (.int p2), .val (.int p3), .val (.int p4)] [])) st146 ?_
        refine own_go (S' := T146.setTop (mkF m 60 #[.val (.ref a0), .val (.int p1), .val (.int p2), .val (.int p3), .val (.int p4)] [(.int p4), (.ref a0)])) (fun target kt => ?_) ?_
        · skip
          show Steps p.tables e below (T146.setTop (mkF m 57 #[.val (.ref a0), .val (.int p1), .val (.int p2), .val (.int p3), .val (.int p4)] [])) _
          refine XS.aloadN X146.here hx rfl (hb hby d1_57) rfl rfl ?_
          show Steps p.tables e below (T146.setTop (mkF m 58 #[.val (.ref a0), .val (.int p1), .val (.int p2), .val (.int p3), .val (.int p4)] [(.ref a0)])) _
          refine XS.iload X146.here hx rfl (hb hby d1_58) rfl ?_
          exact kt
        obtain ⟨T152, h152, X152, e152, W152, st152⟩ := putF X146 hx hZ hown (host := "") (Or.inl (hw _ (List.mem_of_getElem? (i := 34) rfl))) Via.refl e146 f148 f147 (Or.inr ⟨(hw _ (List.mem_of_getElem? (i := 35) rfl)), rfl, hnm⟩) (hw _ (List.mem_of_getElem? (i := 2) rfl)) (ty := .int) (by decide) rfl rfl (g := (mkF m 60 #[.val (.ref a0), .val (.int p1), .val (.int p2), .val (.int p3), .val (.int p4)] [(.int p4), (.ref a0)])) rfl rfl (hb hby d1_60)
        have f153 : Exa Z h152 a0 "com/example/assertline/assertline/policy/RateLimit$Limits" := f147.wr W152
        have f154 : Fld Z h152 a0 "com/example/assertline/assertline/policy/RateLimit$Limits" "maxPerSecond" "I" (.int p1) := f149.other W152 (Or.inr (slot_ne (Or.inr (hw _ (List.mem_of_getElem? (i := 29) rfl))) (Or.inr (hw _ (List.mem_of_getElem? (i := 35) rfl))) (by decide) (t := .int) (t' := .int) (by decide) (by decide)))
        have f155 : Fld Z h152 a0 "com/example/assertline/assertline/policy/RateLimit$Limits" "burstSeconds" "I" (.int p2) := f150.other W152 (Or.inr (slot_ne (Or.inr (hw _ (List.mem_of_getElem? (i := 31) rfl))) (Or.inr (hw _ (List.mem_of_getElem? (i := 35) rfl))) (by decide) (t := .int) (t' := .int) (by decide) (by decide)))
        have f156 : Fld Z h152 a0 "com/example/assertline/assertline/policy/RateLimit$Limits" "blackoutSeconds" "I" (.int p3) := f151.other W152 (Or.inr (slot_ne (Or.inr (hw _ (List.mem_of_getElem? (i := 33) rfl))) (Or.inr (hw _ (List.mem_of_getElem? (i := 35) rfl))) (by decide) (t := .int) (t' := .int) (by decide) (by decide)))
        have f157 : Fld Z h152 a0 "com/example/assertline/assertline/policy/RateLimit$Limits" "maxConcurrency" "I" (.int p4) := f148.same W152
        have Z152 : n0 ≤ h152.size := Nat.le_trans Z146 (Keep.of_wr W152).1
        have ST152 := ST146.le (Keep.of_wr W152).1
        have K152 : Keep h0 h152 [a0] := K146.wr W152 (Or.inl (List.mem_of_getElem? (i := 0) rfl))
        have N152 := Fr.snoc X152 N146 g_a0
        refine own_go (S' := T152.setTop (mkF m 63 #[.val (.ref a0), .val (.int p1), .val (.int p2), .val (.int p3), .val (.int p4)] [])) st152 ?_
        obtain ⟨fs, hr, hrun, hended, hW, hBk, hsame⟩ := own_leave X152 e152 ST152 (v := none) (fun _ => rfl)
        refine ⟨_, _, ?_, hrun, hended, _, _, rfl, ?_, ⟨_, rfl⟩, hW, hBk, hsame.mono (by decide) (by decide)⟩
        · exact X152.returnOut hx Bd.returns (hb hby d1_63) hr
        · show Q1 Z a0 p1 p2 p3 p4 h0 n0 _ T152.heap _
          rw [e152]
          exact ⟨rfl, N152, K152, f153, f154, f155, f156, f157⟩
      · skip
        refine own_go (S' := T133.setTop (mkF m 35 #[.val (.ref a0), .val (.int p1), .val (.int p2), .val (.int p3), .val (.int p4)] [])) (fun target kt => ?_) ?_
        · skip
          show Steps p.tables e below (T133.setTop (mkF m 32 #[.val (.ref a0), .val (.int p1), .val (.int p2), .val (.int p3), .val (.int p4)] [(.int p4)])) _
          refine XS.ifNo X133.here hx rfl (hb hby d1_32) rfl ((if0 _ _).trans (feq hc32).1) ?_
          exact kt
        obtain ⟨r158, s158, T158, h158, X158, e158, E158, ST158, hZ, hown, st158⟩ := own_ldc X133 hx hZ hown (hw _ (List.mem_of_getElem? (i := 41) rfl)) (own_strw hw) e133 ST127 (g := (mkF m 35 #[.val (.ref a0), .val (.int p1), .val (.int p2), .val (.int p3), .val (.int p4)] [])) rfl (hb hby d1_35) (n := 60) (by decide) (by decide) (by decide) (by decide)
        have f159 : Exa Z h158 a0 "com/example/assertline/assertline/policy/RateLimit$Limits" := f128.ext E158
        have f160 : Fld Z h158 a0 "com/example/assertline/assertline/policy/RateLimit$Limits" "maxPerSecond" "I" (.int (0 : Int32)) := f129.ext E158
        have f161 : Fld Z h158 a0 "com/example/assertline/assertline/policy/RateLimit$Limits" "burstSeconds" "I" (.int (0 : Int32)) := f130.ext E158
        have f162 : Fld Z h158 a0 "com/example/assertline/assertline/policy/RateLimit$Limits" "blackoutSeconds" "I" (.int (0 : Int32)) := f131.ext E158
        have f163 : Fld Z h158 a0 "com/example/assertline/assertline/policy/RateLimit$Limits" "maxConcurrency" "I" (.int (0 : Int32)) := f132.ext E158
        have Z158 : n0 ≤ h158.size := Nat.le_trans Z127 E158.1
        have K158 : Keep h0 h158 [a0] := K127.ext E158
        refine own_go (S' := T158.setTop (mkF m 37 #[.val (.ref a0), .val (.int p1), .val (.int p2), .val (.int p3), .val (.int p4)] [(.ref r158)])) st158 ?_
        refine own_go (S' := T158.setTop (mkF m 39 #[.val (.ref a0), .val (.int p1), .val (.int p2), .val (.int p3), .val (.int p4)] [(.int p4), (.ref r158)])) (fun target kt => ?_) ?_
        · skip
          show Steps p.tables e below (T158.setTop (mkF m 37 #[.val (.ref a0), .val (.int p1), .val (.int p2), .val (.int p3), .val (.int p4)] [(.ref r158)])) _
          refine XS.iload X158.here hx rfl (hb hby d1_37) rfl ?_
          exact kt
        obtain ⟨_, _, ⟨T164, L164, k164, n164⟩, -, X164, ⟨Lc164, hQ164, l164, y164, z164⟩, st164⟩ := Jvm.LawKit.callS X158 hx (y := (⟨"com/example/assertline/assertline/policy/RateLimit$Limits", "requireAtLeastOne", "(Ljava/lang/String;I)V"⟩ : MethodName)) hown (mvT hZ (hw _ (List.mem_of_getElem? (i := 23) rfl))) (mvT hZ (hw _ (List.mem_of_getElem? (i := 24) rfl))) (mvT hZ (hw _ (List.mem_of_getElem? (i := 3) rfl))) (mvT hZ (hw _ (List.mem_of_getElem? (i := 25) rfl))) (by decide) (backOf (W := 0) (rm4 l Z aZ hw [] r158 p4 h158 n0 Z158 (own_ge1 g4 hc32 : ¬ p4 < (1 : Int32))) hZ (hw _ (List.mem_of_getElem? (i := 25) rfl)) (hw _ (List.mem_of_getElem? (i := 3) rfl)) (by decide) (by decide)) (g := (mkF m 39 #[.val (.ref a0), .val (.int p1), .val (.int p2), .val (.int p3), .val (.int p4)] [(.int p4), (.ref r158)])) rfl (by rw [hml]; rfl) (argsL := [(.ref r158), (.int p4)]) (rest := []) (lenOf own_pd1 rfl) rfl (by show 2 * 0 + _ ≤ _; exact Nat.le_of_eq rfl) (hb hby d1_39) (fun _ _ => ⟨rfl, e158, (by decide : 6 + 0 ≤ _), (by decide : 180 + 0 ≤ _)⟩)
        dsimp only [Pt.U, Pt.locs, Pt.cells, Pt.slots] at X164 l164 y164 z164 st164 hQ164
        obtain rfl : k164 = 6 := y164
        obtain rfl : n164 = 180 := z164
        obtain ⟨rfl, N164q, e164⟩ := hQ164
        have N164 : Fr n0 L164 := by rw [l164]; exact Fr.app N133 N164q
        clear l164
        refine own_go (S' := T164.setTop (mkF m 42 #[.val (.ref a0), .val (.int p1), .val (.int p2), .val (.int p3), .val (.int p4)] [])) st164 ?_
        refine own_go (S' := T164.setTop (mkF m 44 #[.val (.ref a0), .val (.int p1), .val (.int p2), .val (.int p3), .val (.int p4)] [(.int p1), (.ref a0)])) (fun target kt => ?_) ?_
        · skip
          show Steps p.tables e below (T164.setTop (mkF m 42 #[.val (.ref a0), .val (.int p1), .val (.int p2), .val (.int p3), .val (.int p4)] [])) _
          refine XS.aloadN X164.here hx rfl (hb hby d1_42) rfl rfl ?_
          show Steps p.tables e below (T164.setTop (mkF m 43 #[.val (.ref a0), .val (.int p1), .val (.int p2), .val (.int p3), .val (.int p4)] [(.ref a0)])) _
          refine XS.iloadN X164.here hx rfl (hb hby d1_43) rfl ?_
          exact kt
        obtain ⟨T165, h165, X165, e165, W165, st165⟩ := putF X164 hx hZ hown (host := "") (Or.inl (hw _ (List.mem_of_getElem? (i := 28) rfl))) Via.refl e164 f160 f159 (Or.inr ⟨(hw _ (List.mem_of_getElem? (i := 29) rfl)), rfl, hnm⟩) (hw _ (List.mem_of_getElem? (i := 2) rfl)) (ty := .int) (by decide) rfl rfl (g := (mkF m 44 #[.val (.ref a0), .val (.int p1), .val (.int p2), .val (.int p3), .val (.int p4)] [(.int p1), (.ref a0)])) rfl rfl (hb hby d1_44)
        have f166 : Exa Z h165 a0 "com/example/assertline/assertline/policy/RateLimit$Limits" := f159.wr W165
        have f167 : Fld Z h165 a0 "com/example/assertline/assertline/policy/RateLimit$Limits" "burstSeconds" "I" (.int (0 : Int32)) := f161.other W165 (Or.inr (slot_ne (Or.inr (hw _ (List.mem_of_getElem? (i := 31) rfl))) (Or.inr (hw _ (List.mem_of_getElem? (i := 29) rfl))) (by decide) (t := .int) (t' := .int) (by decide) (by decide)))
        have f168 : Fld Z h165 a0 "com/example/assertline/assertline/policy/RateLimit$Limits" "blackoutSeconds" "I" (.int (0 : Int32)) := f162.other W165 (Or.inr (slot_ne (Or.inr (hw _ (List.mem_of_getElem? (i := 33) rfl))) (Or.inr (hw _ (List.mem_of_getElem? (i := 29) rfl))) (by decide) (t := .int) (t' := .int) (by decide) (by decide)))
        have f169 : Fld Z h165 a0 "com/example/assertline/assertline/policy/RateLimit$Limits" "maxConcurrency" "I" (.int (0 : Int32)) := f163.other W165 (Or.inr (slot_ne (Or.inr (hw _ (List.mem_of_getElem? (i := 35) rfl))) (Or.inr (hw _ (List.mem_of_getElem? (i := 29) rfl))) (by decide) (t := .int) (t' := .int) (by decide) (by decide)))
        have f170 : Fld Z h165 a0 "com/example/assertline/assertline/policy/RateLimit$Limits" "maxPerSecond" "I" (.int p1) := f160.same W165
        have Z165 : n0 ≤ h165.size := Nat.le_trans Z158 (Keep.of_wr W165).1
        have ST165 := ST158.le (Keep.of_wr W165).1
        have K165 : Keep h0 h165 [a0] := K158.wr W165 (Or.inl (List.mem_of_getElem? (i := 0) rfl))
        have N165 := Fr.snoc X165 N164 g_a0
        refine own_go (S' := T165.setTop (mkF m 47 #[.val (.ref a0), .val (.int p1), .val (.int p2), .val (.int p3), .val (.int p4)] [])) st165 ?_
        refine own_go (S' := T165.setTop (mkF m 49 #[.val (.ref a0), .val (.int p1), .val (.int p2), .val (.int p3), .val (.int p4)] [(.int p2), (.ref a0)])) (fun target kt => ?_) ?_
        · skip
          show Steps p.tables e below (T165.setTop (mkF m 47 #[.val (.ref a0), .val (.int p1), .val (.int p2), .val (.int p3), .val (.int p4)] [])) _
          refine XS.aloadN X165.here hx rfl (hb hby d1_47) rfl rfl ?_
          show Steps p.tables e below (T165.setTop (mkF m 48 #[.val (.ref a0), .val (.int p1), .val (.int p2), .val (.int p3), .val (.int p4)] [(.ref a0)])) _
          refine XS.iloadN X165.here hx rfl (hb hby d1_48) rfl ?_
          exact kt
        obtain ⟨T171, h171, X171, e171, W171, st171⟩ := putF X165 hx hZ hown (host := "") (Or.inl (hw _ (List.mem_of_getElem? (i := 30) rfl))) Via.refl e165 f167 f166 (Or.inr ⟨(hw _ (List.mem_of_getElem? (i := 31) rfl)), rfl, hnm⟩) (hw _ (List.mem_of_getElem? (i := 2) rfl)) (ty := .int) (by decide) rfl rfl (g := (mkF m 49 #[.val (.ref a0), .val (.int p1), .val (.int p2), .val (.int p3), .val (.int p4)] [(.int p2), (.ref a0)])) rfl rfl (hb hby d1_49)
        have f172 : Exa Z h171 a0 "com/example/assertline/assertline/policy/RateLimit$Limits" := f166.wr W171
        have f173 : Fld Z h171 a0 "com/example/assertline/assertline/policy/RateLimit$Limits" "blackoutSeconds" "I" (.int (0 : Int32)) := f168.other W171 (Or.inr (slot_ne (Or.inr (hw _ (List.mem_of_getElem? (i := 33) rfl))) (Or.inr (hw _ (List.mem_of_getElem? (i := 31) rfl))) (by decide) (t := .int) (t' := .int) (by decide) (by decide)))
        have f174 : Fld Z h171 a0 "com/example/assertline/assertline/policy/RateLimit$Limits" "maxConcurrency" "I" (.int (0 : Int32)) := f169.other W171 (Or.inr (slot_ne (Or.inr (hw _ (List.mem_of_getElem? (i := 35) rfl))) (Or.inr (hw _ (List.mem_of_getElem? (i := 31) rfl))) (by decide) (t := .int) (t' := .int) (by decide) (by decide)))
        have f175 : Fld Z h171 a0 "com/example/assertline/assertline/policy/RateLimit$Limits" "maxPerSecond" "I" (.int p1) := f170.other W171 (Or.inr (slot_ne (Or.inr (hw _ (List.mem_of_getElem? (i := 29) rfl))) (Or.inr (hw _ (List.mem_of_getElem? (i := 31) rfl))) (by decide) (t := .int) (t' := .int) (by decide) (by decide)))
        have f176 : Fld Z h171 a0 "com/example/assertline/assertline/policy/RateLimit$Limits" "burstSeconds" "I" (.int p2) := f167.same W171
        have Z171 : n0 ≤ h171.size := Nat.le_trans Z165 (Keep.of_wr W171).1
        have ST171 := ST165.le (Keep.of_wr W171).1
        have K171 : Keep h0 h171 [a0] := K165.wr W171 (Or.inl (List.mem_of_getElem? (i := 0) rfl))
        have N171 := Fr.snoc X171 N165 g_a0
        refine own_go (S' := T171.setTop (mkF m 52 #[.val (.ref a0), .val (.int p1), .val (.int p2), .val (.int p3), .val (.int p4)] [])) st171 ?_
        refine own_go (S' := T171.setTop (mkF m 54 #[.val (.ref a0), .val (.int p1), .val (.int p2), .val (.int p3), .val (.int p4)] [(.int p3), (.ref a0)])) (fun target kt => ?_) ?_
        · skip
          show Steps p.tables e below (T171.setTop (mkF m 52 #[.val (.ref a0), .val (.int p1), .val (.int p2), .val (.int p3), .val (.int p4)] [])) _
          refine XS.aloadN X171.here hx rfl (hb hby d1_52) rfl rfl ?_
          show Steps p.tables e below (T171.setTop (mkF m 53 #[.val (.ref a0), .val (.int p1), .val (.int p2), .val (.int p3), .val (.int p4)] [(.ref a0)])) _
          refine XS.iloadN X171.here hx rfl (hb hby d1_53) rfl ?_
          exact kt
        obtain ⟨T177, h177, X177, e177, W177, st177⟩ := putF X171 hx hZ hown (host := "") (Or.inl (hw _ (List.mem_of_getElem? (i := 32) rfl))) Via.refl e171 f173 f172 (Or.inr ⟨(hw _ (List.mem_of_getElem? (i := 33) rfl)), rfl, hnm⟩) (hw _ (List.mem_of_getElem? (i := 2) rfl)) (ty := .int) (by decide) rfl rfl (g := (mkF m 54 #[.val (.ref a0), .val (.int p1), .val (.int p2), .val (.int p3), .val (.int p4)] [(.int p3), (.ref a0)])) rfl rfl (hb hby d1_54)
        have f178 : Exa Z h177 a0 "com/example/assertline/assertline/policy/RateLimit$Limits" := f172.wr W177
        have f179 : Fld Z h177 a0 "com/example/assertline/assertline/policy/RateLimit$Limits" "maxConcurrency" "I" (.int (0 : Int32)) := f174.other W177 (Or.inr (slot_ne (Or.inr (hw _ (List.mem_of_getElem? (i := 35) rfl))) (Or.inr (hw _ (List.mem_of_getElem? (i := 33) rfl))) (by decide) (t := .int) (t' := .int) (by decide) (by decide)))
        have f180 : Fld Z h177 a0 "com/example/assertline/assertline/policy/RateLimit$Limits" "maxPerSecond" "I" (.int p1) := f175.other W177 (Or.inr (slot_ne (Or.inr (hw _ (List.mem_of_getElem? (i := 29) rfl))) (Or.inr (hw _ (List.mem_of_getElem? (i := 33) rfl))) (by decide) (t := .int) (t' := .int) (by decide) (by decide)))
        have f181 : Fld Z h177 a0 "com/example/assertline/assertline/policy/RateLimit$Limits" "burstSeconds" "I" (.int p2) := f176.other W177 (Or.inr (slot_ne (Or.inr (hw _ (List.mem_of_getElem? (i := 31) rfl))) (Or.inr (hw _ (List.mem_of_getElem? (i := 33) rfl))) (by decide) (t := .int) (t' := .int) (by decide) (by decide)))
        have f182 : Fld Z h177 a0 "com/example/assertline/assertline/policy/RateLimit$Limits" "blackoutSeconds" "I" (.int p3) := f173.same W177
        have Z177 : n0 ≤ h177.size := Nat.le_trans Z171 (Keep.of_wr W177).1
        have ST177 := ST171.le (Keep.of_wr W177).1
        have K177 : Keep h0 h177 [a0] := K171.wr W177 (Or.inl (List.mem_of_getElem? (i := 0) rfl))
        have N177 := Fr.snoc X177 N171 g_a0
        refine own_go (S' := T177.setTop (mkF m 57 #[.val (.ref a0), .val (.int p1), .val (.int p2), .val (.int p3), .val (.int p4)] [])) st177 ?_
        refine own_go (S' := T177.setTop (mkF m 60 #[.val (.ref a0), .val (.int p1), .val (.int p2), .val (.int p3), .val (.int p4)] [(.int p4), (.ref a0)])) (fun target kt => ?_) ?_
        · skip
          show Steps p.tables e below (T177.setTop (mkF m 57 #[.val (.ref a0), .val (.int p1), .val (.int p2), .val (.int p3), .val (.int p4)] [])) _
          refine XS.aloadN X177.here hx rfl (hb hby d1_57) rfl rfl ?_
          show Steps p.tables e below (T177.setTop (mkF m 58 #[.val (.ref a0), .val (.int p1), .val (.int p2), .val (.int p3), .val (.int p4)] [(.ref a0)])) _
          refine XS.iload X177.here hx rfl (hb hby d1_58) rfl ?_
          exact kt
        obtain ⟨T183, h183, X183, e183, W183, st183⟩ := putF X177 hx hZ hown (host := "") (Or.inl (hw _ (List.mem_of_getElem? (i := 34) rfl))) Via.refl e177 f179 f178 (Or.inr ⟨(hw _ (List.mem_of_getElem? (i := 35) rfl)), rfl, hnm⟩) (hw _ (List.mem_of_getElem? (i := 2) rfl)) (ty := .int) (by decide) rfl rfl (g := (mkF m 60 #[.val (.ref a0), .val (.int p1), .val (.int p2), .val (.int p3), .val (.int p4)] [(.int p4), (.ref a0)])) rfl rfl (hb hby d1_60)
        have f184 : Exa Z h183 a0 "com/example/assertline/assertline/policy/RateLimit$Limits" := f178.wr W183
        have f185 : Fld Z h183 a0 "com/example/assertline/assertline/policy/RateLimit$Limits" "maxPerSecond" "I" (.int p1) := f180.other W183 (Or.inr (slot_ne (Or.inr (hw _ (List.mem_of_getElem? (i := 29) rfl))) (Or.inr (hw _ (List.mem_of_getElem? (i := 35) rfl))) (by decide) (t := .int) (t' := .int) (by decide) (by decide)))
        have f186 : Fld Z h183 a0 "com/example/assertline/assertline/policy/RateLimit$Limits" "burstSeconds" "I" (.int p2) := f181.other W183 (Or.inr (slot_ne (Or.inr (hw _ (List.mem_of_getElem? (i := 31) rfl))) (Or.inr (hw _ (List.mem_of_getElem? (i := 35) rfl))) (by decide) (t := .int) (t' := .int) (by decide) (by decide)))
        have f187 : Fld Z h183 a0 "com/example/assertline/assertline/policy/RateLimit$Limits" "blackoutSeconds" "I" (.int p3) := f182.other W183 (Or.inr (slot_ne (Or.inr (hw _ (List.mem_of_getElem? (i := 33) rfl))) (Or.inr (hw _ (List.mem_of_getElem? (i := 35) rfl))) (by decide) (t := .int) (t' := .int) (by decide) (by decide)))
        have f188 : Fld Z h183 a0 "com/example/assertline/assertline/policy/RateLimit$Limits" "maxConcurrency" "I" (.int p4) := f179.same W183
        have Z183 : n0 ≤ h183.size := Nat.le_trans Z177 (Keep.of_wr W183).1
        have ST183 := ST177.le (Keep.of_wr W183).1
        have K183 : Keep h0 h183 [a0] := K177.wr W183 (Or.inl (List.mem_of_getElem? (i := 0) rfl))
        have N183 := Fr.snoc X183 N177 g_a0
        refine own_go (S' := T183.setTop (mkF m 63 #[.val (.ref a0), .val (.int p1), .val (.int p2), .val (.int p3), .val (.int p4)] [])) st183 ?_
        obtain ⟨fs, hr, hrun, hended, hW, hBk, hsame⟩ := own_leave X183 e183 ST183 (v := none) (fun _ => rfl)
        refine ⟨_, _, ?_, hrun, hended, _, _, rfl, ?_, ⟨_, rfl⟩, hW, hBk, hsame.mono (by decide) (by decide)⟩
        · exact X183.returnOut hx Bd.returns (hb hby d1_63) hr
        · show Q1 Z a0 p1 p2 p3 p4 h0 n0 _ T183.heap _
          rw [e183]
          exact ⟨rfl, N183, K183, f184, f185, f186, f187, f188⟩
    · skip
      refine own_go (S' := T133.setTop (mkF m 24 #[.val (.ref a0), .val (.int p1), .val (.int p2), .val (.int p3), .val (.int p4)] [])) (fun target kt => ?_) ?_
      · skip
        show Steps p.tables e below (T133.setTop (mkF m 21 #[.val (.ref a0), .val (.int p1), .val (.int p2), .val (.int p3), .val (.int p4)] [(.int p3)])) _
        refine XS.ifNo X133.here hx rfl (hb hby d1_21) rfl ((if0 _ _).trans (feq hc21).1) ?_
        exact kt
      obtain ⟨r189, s189, T189, h189, X189, e189, E189, ST189, hZ, hown, st189⟩ := own_ldc X133 hx hZ hown (hw _ (List.mem_of_getElem? (i := 27) rfl)) (own_strw hw) e133 ST127 (g := (mkF m 24 #[.val (.ref a0), .val (.int p1), .val (.int p2), .val (.int p3), .val (.int p4)] [])) rfl (hb hby d1_24) (n := 64) (by decide) (by decide) (by decide) (by decide)
      have f190 : Exa Z h189 a0 "com/example/assertline/assertline/policy/RateLimit$Limits" := f128.ext E189
      have f191 : Fld Z h189 a0 "com/example/assertline/assertline/policy/RateLimit$Limits" "maxPerSecond" "I" (.int (0 : Int32)) := f129.ext E189
      have f192 : Fld Z h189 a0 "com/example/assertline/assertline/policy/RateLimit$Limits" "burstSeconds" "I" (.int (0 : Int32)) := f130.ext E189
      have f193 : Fld Z h189 a0 "com/example/assertline/assertline/policy/RateLimit$Limits" "blackoutSeconds" "I" (.int (0 : Int32)) := f131.ext E189
      have f194 : Fld Z h189 a0 "com/example/assertline/assertline/policy/RateLimit$Limits" "maxConcurrency" "I" (.int (0 : Int32)) := f132.ext E189
      have Z189 : n0 ≤ h189.size := Nat.le_trans Z127 E189.1
      have K189 : Keep h0 h189 [a0] := K127.ext E189
      refine own_go (S' := T189.setTop (mkF m 26 #[.val (.ref a0), .val (.int p1), .val (.int p2), .val (.int p3), .val (.int p4)] [(.ref r189)])) st189 ?_
      refine own_go (S' := T189.setTop (mkF m 27 #[.val (.ref a0), .val (.int p1), .val (.int p2), .val (.int p3), .val (.int p4)] [(.int p3), (.ref r189)])) (fun target kt => ?_) ?_
      · skip
        show Steps p.tables e below (T189.setTop (mkF m 26 #[.val (.ref a0), .val (.int p1), .val (.int p2), .val (.int p3), .val (.int p4)] [(.ref r189)])) _
        refine XS.iloadN X189.here hx rfl (hb hby d1_26) rfl ?_
        exact kt
      obtain ⟨_, _, ⟨T195, L195, k195, n195⟩, -, X195, ⟨Lc195, hQ195, l195, y195, z195⟩, st195⟩ := Jvm.LawKit.callS X189 hx (y := (⟨"com/example/assertline/assertline/policy/RateLimit$Limits", "requireAtLeastOne", "(Ljava/lang/String;I)V"⟩ : MethodName)) hown (mvT hZ (hw _ (List.mem_of_getElem? (i := 23) rfl))) (mvT hZ (hw _ (List.mem_of_getElem? (i := 24) rfl))) (mvT hZ (hw _ (List.mem_of_getElem? (i := 3) rfl))) (mvT hZ (hw _ (List.mem_of_getElem? (i := 25) rfl))) (by decide) (backOf (W := 0) (rm4 l Z aZ hw [] r189 p3 h189 n0 Z189 (own_ge1 g3 hc21 : ¬ p3 < (1 : Int32))) hZ (hw _ (List.mem_of_getElem? (i := 25) rfl)) (hw _ (List.mem_of_getElem? (i := 3) rfl)) (by decide) (by decide)) (g := (mkF m 27 #[.val (.ref a0), .val (.int p1), .val (.int p2), .val (.int p3), .val (.int p4)] [(.int p3), (.ref r189)])) rfl (by rw [hml]; rfl) (argsL := [(.ref r189), (.int p3)]) (rest := []) (lenOf own_pd1 rfl) rfl (by show 2 * 0 + _ ≤ _; exact Nat.le_of_eq rfl) (hb hby d1_27) (fun _ _ => ⟨rfl, e189, (by decide : 6 + 0 ≤ _), (by decide : 184 + 0 ≤ _)⟩)
      dsimp only [Pt.U, Pt.locs, Pt.cells, Pt.slots] at X195 l195 y195 z195 st195 hQ195
      obtain rfl : k195 = 6 := y195
      obtain rfl : n195 = 184 := z195
      obtain ⟨rfl, N195q, e195⟩ := hQ195
      have N195 : Fr n0 L195 := by rw [l195]; exact Fr.app N133 N195q
      clear l195
      refine own_go (S' := T195.setTop (mkF m 30 #[.val (.ref a0), .val (.int p1), .val (.int p2), .val (.int p3), .val (.int p4)] [])) st195 ?_
      refine own_go (S' := T195.setTop (mkF m 32 #[.val (.ref a0), .val (.int p1), .val (.int p2), .val (.int p3), .val (.int p4)] [(.int p4)])) (fun target kt => ?_) ?_
      · skip
        show Steps p.tables e below (T195.setTop (mkF m 30 #[.val (.ref a0), .val (.int p1), .val (.int p2), .val (.int p3), .val (.int p4)] [])) _
        refine XS.iload X195.here hx rfl (hb hby d1_30) rfl ?_
        exact kt
      by_cases hc32 : p4 = (0 : Int32)
      · skip
        refine own_go (S' := T195.setTop (mkF m 44 #[.val (.ref a0), .val (.int p1), .val (.int p2), .val (.int p3), .val (.int p4)] [(.int p1), (.ref a0)])) (fun target kt => ?_) ?_
        · skip
          show Steps p.tables e below (T195.setTop (mkF m 32 #[.val (.ref a0), .val (.int p1), .val (.int p2), .val (.int p3), .val (.int p4)] [(.int p4)])) _
          refine XS.ifYes X195.here hx rfl (pc0 := 32) (pc' := 42) rfl (hb hby d1_32) rfl ((if0 _ _).trans (teq hc32).1) (by decide) (by decide) ?_
          show Steps p.tables e below (T195.setTop (mkF m 42 #[.val (.ref a0), .val (.int p1), .val (.int p2), .val (.int p3), .val (.int p4)] [])) _
          refine XS.aloadN X195.here hx rfl (hb hby d1_42) rfl rfl ?_
          show Steps p.tables e below (T195.setTop (mkF m 43 #[.val (.ref a0), .val (.int p1), .val (.int p2), .val (.int p3), .val (.int p4)] [(.ref a0)])) _
          refine XS.iloadN X195.here hx rfl (hb hby d1_43) rfl ?_
          exact kt
        obtain ⟨T196, h196, X196, e196, W196, st196⟩ := putF X195 hx hZ hown (host := "") (Or.inl (hw _ (List.mem_of_getElem? (i := 28) rfl))) Via.refl e195 f191 f190 (Or.inr ⟨(hw _ (List.mem_of_getElem? (i := 29) rfl)), rfl, hnm⟩) (hw _ (List.mem_of_getElem? (i := 2) rfl)) (ty := .int) (by decide) rfl rfl (g := (mkF m 44 #[.val (.ref a0), .val (.int p1), .val (.int p2), .val (.int p3), .val (.int p4)] [(.int p1), (.ref a0)])) rfl rfl (hb hby d1_44)
        have f197 : Exa Z h196 a0 "com/example/assertline/assertline/policy/RateLimit$Limits" := f190.wr W196
        have f198 : Fld Z h196 a0 "com/example/assertline/assertline/policy/RateLimit$Limits" "burstSeconds" "I" (.int (0 : Int32)) := f192.other W196 (Or.inr (slot_ne (Or.inr (hw _ (List.mem_of_getElem? (i := 31) rfl))) (Or.inr (hw _ (List.mem_of_getElem? (i := 29) rfl))) (by decide) (t := .int) (t' := .int) (by decide) (by decide)))
        have f199 : Fld Z h196 a0 "com/example/assertline/assertline/policy/RateLimit$Limits" "blackoutSeconds" "I" (.int (0 : Int32)) := f193.other W196 (Or.inr (slot_ne (Or.inr (hw _ (List.mem_of_getElem? (i := 33) rfl))) (Or.inr (hw _ (List.mem_of_getElem? (i := 29) rfl))) (by decide) (t := .int) (t' := .int) (by decide) (by decide)))
        have f200 : Fld Z h196 a0 "com/example/assertline/assertline/policy/RateLimit$Limits" "maxConcurrency" "I" (.int (0 : Int32)) := f194.other W196 (Or.inr (slot_ne (Or.inr (hw _ (List.mem_of_getElem? (i := 35) rfl))) (Or.inr (hw _ (List.mem_of_getElem? (i := 29) rfl))) (by decide) (t := .int) (t' := .int) (by decide) (by decide)))
        have f201 : Fld Z h196 a0 "com/example/assertline/assertline/policy/RateLimit$Limits" "maxPerSecond" "I" (.int p1) := f191.same W196
        have Z196 : n0 ≤ h196.size := Nat.le_trans Z189 (Keep.of_wr W196).1
        have ST196 := ST189.le (Keep.of_wr W196).1
        have K196 : Keep h0 h196 [a0] := K189.wr W196 (Or.inl (List.mem_of_getElem? (i := 0) rfl))
        have N196 := Fr.snoc X196 N195 g_a0
        refine own_go (S' := T196.setTop (mkF m 47 #[.val (.ref a0), .val (.int p1), .val (.int p2), .val (.int p3), .val (.int p4)] [])) st196 ?_
        refine own_go (S' := T196.setTop (mkF m 49 #[.val (.ref a0), .val (.int p1), .val (.int p2), .val (.int p3), .val (.int p4)] [(.int p2), (.ref a0)])) (fun target kt => ?_) ?_
        · skip
          show Steps p.tables e below (T196.setTop (mkF m 47 #[.val (.ref a0), .val (.int p1), .val (.int p2), .val (.int p3), .val (.int p4)] [])) _
          refine XS.aloadN X196.here hx rfl (hb hby d1_47) rfl rfl ?_
          show Steps p.tables e below (T196.setTop (mkF m 48 #[.val (.ref a0), .val (.int p1), .val (.int p2), .val (.int p3), .val (.int p4)] [(.ref a0)])) _
          refine XS.iloadN X196.here hx rfl (hb hby d1_48) rfl ?_
          exact kt
        obtain ⟨T202, h202, X202, e202, W202, st202⟩ := putF X196 hx hZ hown (host := "") (Or.inl (hw _ (List.mem_of_getElem? (i := 30) rfl))) Via.refl e196 f198 f197 (Or.inr ⟨(hw _ (List.mem_of_getElem? (i := 31) rfl)), rfl, hnm⟩) (hw _ (List.mem_of_getElem? (i := 2) rfl)) (ty := .int) (by decide) rfl rfl (g := (mkF m 49 #[.val (.ref a0), .val (.int p1), .val (.int p2), .val (.int p3), .val (.int p4)] [(.int p2), (.ref a0)])) rfl rfl (hb hby d1_49)
        have f203 : Exa Z h202 a0 "com/example/assertline/assertline/policy/RateLimit$Limits" := f197.wr W202
        have f204 : Fld Z h202 a0 "com/example/assertline/assertline/policy/RateLimit$Limits" "blackoutSeconds" "I" (.int (0 : Int32)) := f199.other W202 (Or.inr (slot_ne (Or.inr (hw _ (List.mem_of_getElem? (i := 33) rfl))) (Or.inr (hw _ (List.mem_of_getElem? (i := 31) rfl))) (by decide) (t := .int) (t' := .int) (by decide) (by decide)))
        have f205 : Fld Z h202 a0 "com/example/assertline/assertline/policy/RateLimit$Limits" "maxConcurrency" "I" (.int (0 : Int32)) := f200.other W202 (Or.inr (slot_ne (Or.inr (hw _ (List.mem_of_getElem? (i := 35) rfl))) (Or.inr (hw _ (List.mem_of_getElem? (i := 31) rfl))) (by decide) (t := .int) (t' := .int) (by decide) (by decide)))
        have f206 : Fld Z h202 a0 "com/example/assertline/assertline/policy/RateLimit$Limits" "maxPerSecond" "I" (.int p1) := f201.other W202 (Or.inr (slot_ne (Or.inr (hw _ (List.mem_of_getElem? (i := 29) rfl))) (Or.inr (hw _ (List.mem_of_getElem? (i := 31) rfl))) (by decide) (t := .int) (t' := .int) (by decide) (by decide)))
        have f207 : Fld Z h202 a0 "com/example/assertline/assertline/policy/RateLimit$Limits" "burstSeconds" "I" (.int p2) := f198.same W202
        have Z202 : n0 ≤ h202.size := Nat.le_trans Z196 (Keep.of_wr W202).1
        have ST202 := ST196.le (Keep.of_wr W202).1
        have K202 : Keep h0 h202 [a0] := K196.wr W202 (Or.inl (List.mem_of_getElem? (i := 0) rfl))
        have N202 := Fr.snoc X202 N196 g_a0
        refine own_go (S' := T202.setTop (mkF m 52 #[.val (.ref a0), .val (.int p1), .val (.int p2), .val (.int p3), .val (.int p4)] [])) st202 ?_
        refine own_go (S' := T202.setTop (mkF m 54 #[.val (.ref a0), .val (.int p1), .val (.int p2), .val (.int p3), .val (.int p4)] [(.int p3), (.ref a0)])) (fun target kt => ?_) ?_
        · skip
          show Steps p.tables e below (T202.setTop (mkF m 52 #[.val (.ref a0), .val (.int p1), .val (.int p2), .val (.int p3), .val (.int p4)] [])) _
          refine XS.aloadN X202.here hx rfl (hb hby d1_52) rfl rfl ?_
          show Steps p.tables e below (T202.setTop (mkF m 53 #[.val (.ref a0), .val (.int p1), .val (.int p2), .val (.int p3), .val (.int p4)] [(.ref a0)])) _
          refine XS.iloadN X202.here hx rfl (hb hby d1_53) rfl ?_
          exact kt
        obtain ⟨T208, h208, X208, e208, W208, st208⟩ := putF X202 hx hZ hown (host := "") (Or.inl (hw _ (List.mem_of_getElem? (i := 32) rfl))) Via.refl e202 f204 f203 (Or.inr ⟨(hw _ (List.mem_of_getElem? (i := 33) rfl)), rfl, hnm⟩) (hw _ (List.mem_of_getElem? (i := 2) rfl)) (ty := .int) (by decide) rfl rfl (g := (mkF m 54 #[.val (.ref a0), .val (.int p1), .val (.int p2), .val (.int p3), .val (.int p4)] [(.int p3), (.ref a0)])) rfl rfl (hb hby d1_54)
        have f209 : Exa Z h208 a0 "com/example/assertline/assertline/policy/RateLimit$Limits" := f203.wr W208
        have f210 : Fld Z h208 a0 "com/example/assertline/assertline/policy/RateLimit$Limits" "maxConcurrency" "I" (.int (0 : Int32)) := f205.other W208 (Or.inr (slot_ne (Or.inr (hw _ (List.mem_of_getElem? (i := 35) rfl))) (Or.inr (hw _ (List.mem_of_getElem? (i := 33) rfl))) (by decide) (t := .int) (t' := .int) (by decide) (by decide)))
        have f211 : Fld Z h208 a0 "com/example/assertline/assertline/policy/RateLimit$Limits" "maxPerSecond" "I" (.int p1) := f206.other W208 (Or.inr (slot_ne (Or.inr (hw _ (List.mem_of_getElem? (i := 29) rfl))) (Or.inr (hw _ (List.mem_of_getElem? (i := 33) rfl))) (by decide) (t := .int) (t' := .int) (by decide) (by decide)))
        have f212 : Fld Z h208 a0 "com/example/assertline/assertline/policy/RateLimit$Limits" "burstSeconds" "I" (.int p2) := f207.other W208 (Or.inr (slot_ne (Or.inr (hw _ (List.mem_of_getElem? (i := 31) rfl))) (Or.inr (hw _ (List.mem_of_getElem? (i := 33) rfl))) (by decide) (t := .int) (t' := .int) (by decide) (by decide)))
        have f213 : Fld Z h208 a0 "com/example/assertline/assertline/policy/RateLimit$Limits" "blackoutSeconds" "I" (.int p3) := f204.same W208
        have Z208 : n0 ≤ h208.size := Nat.le_trans Z202 (Keep.of_wr W208).1
        have ST208 := ST202.le (Keep.of_wr W208).1
        have K208 : Keep h0 h208 [a0] := K202.wr W208 (Or.inl (List.mem_of_getElem? (i := 0) rfl))
        have N208 := Fr.snoc X208 N202 g_a0
        refine own_go (S' := T208.setTop (mkF m 57 #[.val (.ref a0), .val (.int p1), .val (.int p2), .val (.int p3), .val (.int p4)] [])) st208 ?_
        refine own_go (S' := T208.setTop (mkF m 60 #[.val (.ref a0), .val (.int p1), .val (.int p2), .val (.int p3), .val (.int p4)] [(.int p4), (.ref a0)])) (fun target kt => ?_) ?_
        · skip
          show Steps p.tables e below (T208.setTop (mkF m 57 #[.val (.ref a0), .val (.int p1), .val (.int p2), .val (.int p3), .val (.int p4)] [])) _
          refine XS.aloadN X208.here hx rfl (hb hby d1_57) rfl rfl ?_
          show Steps p.tables e below (T208.setTop (mkF m 58 #[.val (.ref a0), .val (.int p1), .val (.int p2), .val (.int p3), .val (.int p4)] [(.ref a0)])) _
          refine XS.iload X208.here hx rfl (hb hby d1_58) rfl ?_
          exact kt
        obtain ⟨T214, h214, X214, e214, W214, st214⟩ := putF X208 hx hZ hown (host := "") (Or.inl (hw _ (List.mem_of_getElem? (i := 34) rfl))) Via.refl e208 f210 f209 (Or.inr ⟨(hw _ (List.mem_of_getElem? (i := 35) rfl)), rfl, hnm⟩) (hw _ (List.mem_of_getElem? (i := 2) rfl)) (ty := .int) (by decide) rfl rfl (g := (mkF m 60 #[.val (.ref a0), .val (.int p1), .val (.int p2), .val (.int p3), .val (.int p4)] [(.int p4), (.ref a0)])) rfl rfl (hb hby d1_60)
        have f215 : Exa Z h214 a0 "com/example/assertline/assertline/policy/RateLimit$Limits" := f209.wr W214
        have f216 : Fld Z h214 a0 "com/example/assertline/assertline/policy/RateLimit$Limits" "maxPerSecond" "I" (.int p1) := f211.other W214 (Or.inr (slot_ne (Or.inr (hw _ (List.mem_of_getElem? (i := 29) rfl))) (Or.inr (hw _ (List.mem_of_getElem? (i := 35) rfl))) (by decide) (t := .int) (t' := .int) (by decide) (by decide)))
        have f217 : Fld Z h214 a0 "com/example/assertline/assertline/policy/RateLimit$Limits" "burstSeconds" "I" (.int p2) := f212.other W214 (Or.inr (slot_ne (Or.inr (hw _ (List.mem_of_getElem? (i := 31) rfl))) (Or.inr (hw _ (List.mem_of_getElem? (i := 35) rfl))) (by decide) (t := .int) (t' := .int) (by decide) (by decide)))
        have f218 : Fld Z h214 a0 "com/example/assertline/assertline/policy/RateLimit$Limits" "blackoutSeconds" "I" (.int p3) := f213.other W214 (Or.inr (slot_ne (Or.inr (hw _ (List.mem_of_getElem? (i := 33) rfl))) (Or.inr (hw _ (List.mem_of_getElem? (i := 35) rfl))) (by decide) (t := .int) (t' := .int) (by decide) (by decide)))
        have f219 : Fld Z h214 a0 "com/example/assertline/assertline/policy/RateLimit$Limits" "maxConcurrency" "I" (.int p4) := f210.same W214
        have Z214 : n0 ≤ h214.size := Nat.le_trans Z208 (Keep.of_wr W214).1
        have ST214 := ST208.le (Keep.of_wr W214).1
        have K214 : Keep h0 h214 [a0] := K208.wr W214 (Or.inl (List.mem_of_getElem? (i := 0) rfl))
        have N214 := Fr.snoc X214 N208 g_a0
        refine own_go (S' := T214.setTop (mkF m 63 #[.val (.ref a0), .val (.int p1), .val (.int p2), .val (.int p3), .val (.int p4)] [])) st214 ?_
        obtain ⟨fs, hr, hrun, hended, hW, hBk, hsame⟩ := own_leave X214 e214 ST214 (v := none) (fun _ => rfl)
        refine ⟨_, _, ?_, hrun, hended, _, _, rfl, ?_, ⟨_, rfl⟩, hW, hBk, hsame.mono (by decide) (by decide)⟩
        · exact X214.returnOut hx Bd.returns (hb hby d1_63) hr
        · show Q1 Z a0 p1 p2 p3 p4 h0 n0 _ T214.heap _
          rw [e214]
          exact ⟨rfl, N214, K214, f215, f216, f217, f218, f219⟩
      · skip
        refine own_go (S' := T195.setTop (mkF m 35 #[.val (.ref a0), .val (.int p1), .val (.int p2), .val (.int p3), .val (.int p4)] [])) (fun target kt => ?_) ?_
        · skip
          show Steps p.tables e below (T195.setTop (mkF m 32 #[.val (.ref a0), .val (.int p1), .val (.int p2), .val (.int p3), .val (.int p4)] [(.int p4)])) _
          refine XS.ifNo X195.here hx rfl (hb hby d1_32) rfl ((if0 _ _).trans (feq hc32).1) ?_
          exact kt
        obtain ⟨r220, s220, T220, h220, X220, e220, E220, ST220, hZ, hown, st220⟩ := own_ldc X195 hx hZ hown (hw _ (List.mem_of_getElem? (i := 41) rfl)) (own_strw hw) e195 ST189 (g := (mkF m 35 #[.val (.ref a0), .val (.int p1), .val (.int p2), .val (.int p3), .val (.int p4)] [])) rfl (hb hby d1_35) (n := 60) (by decide) (by decide) (by decide) (by decide)
        have f221 : Exa Z h220 a0 "com/example/assertline/assertline/policy/RateLimit$Limits" := f190.ext E220
        have f222 : Fld Z h220 a0 "com/example/assertline/assertline/policy/RateLimit$Limits" "maxPerSecond" "I" (.int (0 : Int32)) := f191.ext E220
        have f223 : Fld Z h220 a0 "com/example/assertline/assertline/policy/RateLimit$Limits" "burstSeconds" "I" (.int (0 : Int32)) := f192.ext E220
        have f224 : Fld Z h220 a0 "com/example/assertline/assertline/policy/RateLimit$Limits" "blackoutSeconds" "I" (.int (0 : Int32)) := f193.ext E220
        have f225 : Fld Z h220 a0 "com/example/assertline/assertline/policy/RateLimit$Limits" "maxConcurrency" "I" (.int (0 : Int32)) := f194.ext E220
        have Z220 : n0 ≤ h220.size := Nat.le_trans Z189 E220.1
        have K220 : Keep h0 h220 [a0] := K189.ext E220
        refine own_go (S' := T220.setTop (mkF m 37 #[.val (.ref a0), .val (.int p1), .val (.int p2), .val (.int p3), .val (.int p4)] [(.ref r220)])) st220 ?_
        refine own_go (S' := T220.setTop (mkF m 39 #[.val (.ref a0), .val (.int p1), .val (.int p2), .val (.int p3), .val (.int p4)] [(.int p4), (.ref r220)])) (fun target kt => ?_) ?_
        · skip
          show Steps p.tables e below (T220.setTop (mkF m 37 #[.val (.ref a0), .val (.int p1), .val (.int p2), .val (.int p3), .val (.int p4)] [(.ref r220)])) _
          refine XS.iload X220.here hx rfl (hb hby d1_37) rfl ?_
          exact kt
        obtain ⟨_, _, ⟨T226, L226, k226, n226⟩, -, X226, ⟨Lc226, hQ226, l226, y226, z226⟩, st226⟩ := Jvm.LawKit.callS X220 hx (y := (⟨"com/example/assertline/assertline/policy/RateLimit$Limits", "requireAtLeastOne", "(Ljava/lang/String;I)V"⟩ : MethodName)) hown (mvT hZ (hw _ (List.mem_of_getElem? (i := 23) rfl))) (mvT hZ (hw _ (List.mem_of_getElem? (i := 24) rfl))) (mvT hZ (hw _ (List.mem_of_getElem? (i := 3) rfl))) (mvT hZ (hw _ (List.mem_of_getElem? (i := 25) rfl))) (by decide) (backOf (W := 0) (rm4 l Z aZ hw [] r220 p4 h220 n0 Z220 (own_ge1 g4 hc32 : ¬ p4 < (1 : Int32))) hZ (hw _ (List.mem_of_getElem? (i := 25) rfl)) (hw _ (List.mem_of_getElem? (i := 3) rfl)) (by decide) (by decide)) (g := (mkF m 39 #[.val (.ref a0), .val (.int p1), .val (.int p2), .val (.int p3), .val (.int p4)] [(.int p4), (.ref r220)])) rfl (by rw [hml]; rfl) (argsL := [(.ref r220), (.int p4)]) (rest := []) (lenOf own_pd1 rfl) rfl (by show 2 * 0 + _ ≤ _; exact Nat.le_of_eq rfl) (hb hby d1_39) (fun _ _ => ⟨rfl, e220, (by decide : 8 + 0 ≤ _), (by decide : 248 + 0 ≤ _)⟩)
        dsimp only [Pt.U, Pt.locs, Pt.cells, Pt.slots] at X226 l226 y226 z226 st226 hQ226
        obtain rfl : k226 = 8 := y226
        obtain rfl : n226 = 248 := z226
        obtain ⟨rfl, N226q, e226⟩ := hQ226
        have N226 : Fr n0 L226 := by rw [l226]; exact Fr.app N195 N226q
        clear l226
        refine own_go (S' := T226.setTop (mkF m 42 #[.val (.ref a0), .val (.int p1), .val (.int p2), .val (.int p3), .val (.int p4)] [])) st226 ?_
        refine own_go (S' := T226.setTop (mkF m 44 #[.val (.ref a0), .val (.int p1), .val (.int p2), .val (.int p3), .val (.int p4)] [(.int p1), (.ref a0)])) (fun target kt => ?_) ?_
        · skip
          show Steps p.tables e below (T226.setTop (mkF m 42 #[.val (.ref a0), .val (.int p1), .val (.int p2), .val (.int p3), .val (.int p4)] [])) _
          refine XS.aloadN X226.here hx rfl (hb hby d1_42) rfl rfl ?_
          show Steps p.tables e below (T226.setTop (mkF m 43 #[.val (.ref a0), .val (.int p1), .val (.int p2), .val (.int p3), .val (.int p4)] [(.ref a0)])) _
          refine XS.iloadN X226.here hx rfl (hb hby d1_43) rfl ?_
          exact kt
        obtain ⟨T227, h227, X227, e227, W227, st227⟩ := putF X226 hx hZ hown (host := "") (Or.inl (hw _ (List.mem_of_getElem? (i := 28) rfl))) Via.refl e226 f222 f221 (Or.inr ⟨(hw _ (List.mem_of_getElem? (i := 29) rfl)), rfl, hnm⟩) (hw _ (List.mem_of_getElem? (i := 2) rfl)) (ty := .int) (by decide) rfl rfl (g := (mkF m 44 #[.val (.ref a0), .val (.int p1), .val (.int p2), .val (.int p3), .val (.int p4)] [(.int p1), (.ref a0)])) rfl rfl (hb hby d1_44)
        have f228 : Exa Z h227 a0 "com/example/assertline/assertline/policy/RateLimit$Limits" := f221.wr W227
        have f229 : Fld Z h227 a0 "com/example/assertline/assertline/policy/RateLimit$Limits" "burstSeconds" "I" (.int (0 : Int32)) := f223.other W227 (Or.inr (slot_ne (Or.inr (hw _ (List.mem_of_getElem? (i := 31) rfl))) (Or.inr (hw _ (List.mem_of_getElem? (i := 29) rfl))) (by decide) (t := .int) (t' := .int) (by decide) (by decide)))
        have f230 : Fld Z h227 a0 "com/example/assertline/assertline/policy/RateLimit$Limits" "blackoutSeconds" "I" (.int (0 : Int32)) := f224.other W227 (Or.inr (slot_ne (Or.inr (hw _ (List.mem_of_getElem? (i := 33) rfl))) (Or.inr (hw _ (List.mem_of_getElem? (i := 29) rfl))) (by decide) (t := .int) (t' := .int) (by decide) (by decide)))
        have f231 : Fld Z h227 a0 "com/example/assertline/assertline/policy/RateLimit$Limits" "maxConcurrency" "I" (.int (0 : Int32)) := f225.other W227 (Or.inr (slot_ne (Or.inr (hw _ (List.mem_of_getElem? (i := 35) rfl))) (Or.inr (hw _ (List.mem_of_getElem? (i := 29) rfl))) (by decide) (t := .int) (t' := .int) (by decide) (by decide)))
        have f232 : Fld Z h227 a0 "com/example/assertline/assertline/policy/RateLimit$Limits" "maxPerSecond" "I" (.int p1) := f222.same W227
        have Z227 : n0 ≤ h227.size := Nat.le_trans Z220 (Keep.of_wr W227).1
        have ST227 := ST220.le (Keep.of_wr W227).1
        have K227 : Keep h0 h227 [a0] := K220.wr W227 (Or.inl (List.mem_of_getElem? (i := 0) rfl))
        have N227 := Fr.snoc X227 N226 g_a0
        refine own_go (S' := T227.setTop (mkF m 47 #[.val (.ref a0), .val (.int p1), .val (.int p2), .val (.int p3), .val (.int p4)] [])) st227 ?_
        refine own_go (S' := T227.setTop (mkF m 49 #[.val (.ref a0), .val (.int p1), .val (.int p2), .val (.int p3), .val (.int p4)] [(.int p2), (.ref a0)])) (fun target kt => ?_) ?_
        · skip
          show Steps p.tables e below (T227.setTop (mkF m 47 #[.val (.ref a0), .val (.int p1), .val (.int p2), .val (.int p3), .val (.int p4)] [])) _
          refine XS.aloadN X227.here hx rfl (hb hby d1_47) rfl rfl ?_
          show Steps p.tables e below (T227.setTop (mkF m 48 #[.val (.ref a0), .val (.int p1), .val (.int p2), .val (.int p3), .val (.int p4)] [(.ref a0)])) _
          refine XS.iloadN X227.here hx rfl (hb hby d1_48) rfl ?_
          exact kt
        obtain ⟨T233, h233, X233, e233, W233, st233⟩ := putF X227 hx hZ hown (host := "") (Or.inl (hw _ (List.mem_of_getElem? (i := 30) rfl))) Via.refl e227 f229 f228 (Or.inr ⟨(hw _ (List.mem_of_getElem? (i := 31) rfl)), rfl, hnm⟩) (hw _ (List.mem_of_getElem? (i := 2) rfl)) (ty := .int) (by decide) rfl rfl (g := (mkF m 49 #[.val (.ref a0), .val (.int p1), .val (.int p2), .val (.int p3), .val (.int p4)] [(.int p2), (.ref a0)])) rfl rfl (hb hby d1_49)
        have f234 : Exa Z h233 a0 "com/example/assertline/assertline/policy/RateLimit$Limits" := f228.wr W233
        have f235 : Fld Z h233 a0 "com/example/assertline/assertline/policy/RateLimit$Limits" "blackoutSeconds" "I" (.int (0 : Int32)) := f230.other W233 (Or.inr (slot_ne (Or.inr (hw _ (List.mem_of_getElem? (i := 33) rfl))) (Or.inr (hw _ (List.mem_of_getElem? (i := 31) rfl))) (by decide) (t := .int) (t' := .int) (by decide) (by decide)))
        have f236 : Fld Z h233 a0 "com/example/assertline/assertline/policy/RateLimit$Limits" "maxConcurrency" "I" (.int (0 : Int32)) := f231.other W233 (Or.inr (slot_ne (Or.inr (hw _ (List.mem_of_getElem? (i := 35) rfl))) (Or.inr (hw _ (List.mem_of_getElem? (i := 31) rfl))) (by decide) (t := .int) (t' := .int) (by decide) (by decide)))
        have f237 : Fld Z h233 a0 "com/example/assertline/assertline/policy/RateLimit$Limits" "maxPerSecond" "I" (.int p1) := f232.other W233 (Or.inr (slot_ne (Or.inr (hw _ (List.mem_of_getElem? (i := 29) rfl))) (Or.inr (hw _ (List.mem_of_getElem? (i := 31) rfl))) (by decide) (t := .int) (t' := .int) (by decide) (by decide)))
        have f238 : Fld Z h233 a0 "com/example/assertline/assertline/policy/RateLimit$Limits" "burstSeconds" "I" (.int p2) := f229.same W233
        have Z233 : n0 ≤ h233.size := Nat.le_trans Z227 (Keep.of_wr W233).1
        have ST233 := ST227.le (Keep.of_wr W233).1
        have K233 : Keep h0 h233 [a0] := K227.wr W233 (Or.inl (List.mem_of_getElem? (i := 0) rfl))
        have N233 := Fr.snoc X233 N227 g_a0
        refine own_go (S' := T233.setTop (mkF m 52 #[.val (.ref a0), .val (.int p1), .val (.int p2), .val (.int p3), .val (.int p4)] [])) st233 ?_
        refine own_go (S' := T233.setTop (mkF m 54 #[.val (.ref a0), .val (.int p1), .val (.int p2), .val (.int p3), .val (.int p4)] [(.int p3), (.ref a0)])) (fun target kt => ?_) ?_
        · skip
          show Steps p.tables e below (T233.setTop (mkF m 52 #[.val (.ref a0), .val (.int p1), .val (.int p2), .val (.int p3), .val (.int p4)] [])) _
          refine XS.aloadN X233.here hx rfl (hb hby d1_52) rfl rfl ?_
          show Steps p.tables e below (T233.setTop (mkF m 53 #[.val (.ref a0), .val (.int p1), .val (.int p2), .val (.int p3), .val (.int p4)] [(.ref a0)])) _
          refine XS.iloadN X233.here hx rfl (hb hby d1_53) rfl ?_
          exact kt
        obtain ⟨T239, h239, X239, e239, W239, st239⟩ := putF X233 hx hZ hown (host := "") (Or.inl (hw _ (List.mem_of_getElem? (i := 32) rfl))) Via.refl e233 f235 f234 (Or.inr ⟨(hw _ (List.mem_of_getElem? (i := 33) rfl)), rfl, hnm⟩) (hw _ (List.mem_of_getElem? (i := 2) rfl)) (ty := .int) (by decide) rfl rfl (g := (mkF m 54 #[.val (.ref a0), .val (.int p1), .val (.int p2), .val (.int p3), .val (.int p4)] [(.int p3), (.ref a0)])) rfl rfl (hb hby d1_54)
        have f240 : Exa Z h239 a0 "com/example/assertline/assertline/policy/RateLimit$Limits" := f234.wr W239
        have f241 : Fld Z h239 a0 "com/example/assertline/assertline/policy/RateLimit$Limits" "maxConcurrency" "I" (.int (0 : Int32)) := f236.other W239 (Or.inr (slot_ne (Or.inr (hw _ (List.mem_of_getElem? (i := 35) rfl))) (Or.inr (hw _ (List.mem_of_getElem? (i := 33) rfl))) (by decide) (t := .int) (t' := .int) (by decide) (by decide)))
        have f242 : Fld Z h239 a0 "com/example/assertline/assertline/policy/RateLimit$Limits" "maxPerSecond" "I" (.int p1) := f237.other W239 (Or.inr (slot_ne (Or.inr (hw _ (List.mem_of_getElem? (i := 29) rfl))) (Or.inr (hw _ (List.mem_of_getElem? (i := 33) rfl))) (by decide) (t := .int) (t' := .int) (by decide) (by decide)))
        have f243 : Fld Z h239 a0 "com/example/assertline/assertline/policy/RateLimit$Limits" "burstSeconds" "I" (.int p2) := f238.other W239 (Or.inr (slot_ne (Or.inr (hw _ (List.mem_of_getElem? (i := 31) rfl))) (Or.inr (hw _ (List.mem_of_getElem? (i := 33) rfl))) (by decide) (t := .int) (t' := .int) (by decide) (by decide)))
        have f244 : Fld Z h239 a0 "com/example/assertline/assertline/policy/RateLimit$Limits" "blackoutSeconds" "I" (.int p3) := f235.same W239
        have Z239 : n0 ≤ h239.size := Nat.le_trans Z233 (Keep.of_wr W239).1
        have ST239 := ST233.le (Keep.of_wr W239).1
        have K239 : Keep h0 h239 [a0] := K233.wr W239 (Or.inl (List.mem_of_getElem? (i := 0) rfl))
        have N239 := Fr.snoc X239 N233 g_a0
        refine own_go (S' := T239.setTop (mkF m 57 #[.val (.ref a0), .val (.int p1), .val (.int p2), .val (.int p3), .val (.int p4)] [])) st239 ?_
        refine own_go (S' := T239.setTop (mkF m 60 #[.val (.ref a0), .val (.int p1), .val (.int p2), .val (.int p3), .val (.int p4)] [(.int p4), (.ref a0)])) (fun target kt => ?_) ?_
        · skip
          show Steps p.tables e below (T239.setTop (mkF m 57 #[.val (.ref a0), .val (.int p1), .val (.int p2), .val (.int p3), .val (.int p4)] [])) _
          refine XS.aloadN X239.here hx rfl (hb hby d1_57) rfl rfl ?_
          show Steps p.tables e below (T239.setTop (mkF m 58 #[.val (.ref a0), .val (.int p1), .val (.int p2), .val (.int p3), .val (.int p4)] [(.ref a0)])) _
          refine XS.iload X239.here hx rfl (hb hby d1_58) rfl ?_
          exact kt
        obtain ⟨T245, h245, X245, e245, W245, st245⟩ := putF X239 hx hZ hown (host := "") (Or.inl (hw _ (List.mem_of_getElem? (i := 34) rfl))) Via.refl e239 f241 f240 (Or.inr ⟨(hw _ (List.mem_of_getElem? (i := 35) rfl)), rfl, hnm⟩) (hw _ (List.mem_of_getElem? (i := 2) rfl)) (ty := .int) (by decide) rfl rfl (g := (mkF m 60 #[.val (.ref a0), .val (.int p1), .val (.int p2), .val (.int p3), .val (.int p4)] [(.int p4), (.ref a0)])) rfl rfl (hb hby d1_60)
        have f246 : Exa Z h245 a0 "com/example/assertline/assertline/policy/RateLimit$Limits" := f240.wr W245
        have f247 : Fld Z h245 a0 "com/example/assertline/assertline/policy/RateLimit$Limits" "maxPerSecond" "I" (.int p1) := f242.other W245 (Or.inr (slot_ne (Or.inr (hw _ (List.mem_of_getElem? (i := 29) rfl))) (Or.inr (hw _ (List.mem_of_getElem? (i := 35) rfl))) (by decide) (t := .int) (t' := .int) (by decide) (by decide)))
        have f248 : Fld Z h245 a0 "com/example/assertline/assertline/policy/RateLimit$Limits" "burstSeconds" "I" (.int p2) := f243.other W245 (Or.inr (slot_ne (Or.inr (hw _ (List.mem_of_getElem? (i := 31) rfl))) (Or.inr (hw _ (List.mem_of_getElem? (i := 35) rfl))) (by decide) (t := .int) (t' := .int) (by decide) (by decide)))
        have f249 : Fld Z h245 a0 "com/example/assertline/assertline/policy/RateLimit$Limits" "blackoutSeconds" "I" (.int p3) := f244.other W245 (Or.inr (slot_ne (Or.inr (hw _ (List.mem_of_getElem? (i := 33) rfl))) (Or.inr (hw _ (List.mem_of_getElem? (i := 35) rfl))) (by decide) (t := .int) (t' := .int) (by decide) (by decide)))
        have f250 : Fld Z h245 a0 "com/example/assertline/assertline/policy/RateLimit$Limits" "maxConcurrency" "I" (.int p4) := f241.same W245
        have Z245 : n0 ≤ h245.size := Nat.le_trans Z239 (Keep.of_wr W245).1
        have ST245 := ST239.le (Keep.of_wr W245).1
        have K245 : Keep h0 h245 [a0] := K239.wr W245 (Or.inl (List.mem_of_getElem? (i := 0) rfl))
        have N245 := Fr.snoc X245 N239 g_a0
        refine own_go (S' := T245.setTop (mkF m 63 #[.val (.ref a0), .val (.int p1), .val (.int p2), .val (.int p3), .val (.int p4)] [])) st245 ?_
        obtain ⟨fs, hr, hrun, hended, hW, hBk, hsame⟩ := own_leave X245 e245 ST245 (v := none) (fun _ => rfl)
        refine ⟨_, _, ?_, hrun, hended, _, _, rfl, ?_, ⟨_, rfl⟩, hW, hBk, hsame.mono (by decide) (by decide)⟩
        · exact X245.returnOut hx Bd.returns (hb hby d1_63) hr
        · show Q1 Z a0 p1 p2 p3 p4 h0 n0 _ T245.heap _
          rw [e245]
          exact ⟨rfl, N245, K245, f246, f247, f248, f249, f250⟩
theorem d5_0 : decode prog_52_method_2_code 0 = .ok (.aload_n 0, 1) := by decide +kernel
theorem d5_1 : decode prog_52_method_2_code 1 = .ok (.getfield 25, 3) := by decide +kernel
theorem d5_4 : decode prog_52_method_2_code 4 = .ok (.ifCond .ne 7, 3) := by decide +kernel
theorem d5_7 : decode prog_52_method_2_code 7 = .ok (.lconst 1, 1) := by decide +kernel
theorem d5_8 : decode prog_52_method_2_code 8 = .ok (.goto 14, 3) := by decide +kernel
theorem d5_11 : decode prog_52_method_2_code 11 = .ok (.aload_n 0, 1) := by decide +kernel
theorem d5_12 : decode prog_52_method_2_code 12 = .ok (.getfield 21, 3) := by decide +kernel
theorem d5_15 : decode prog_52_method_2_code 15 = .ok (.i2l, 1) := by decide +kernel
theorem d5_16 : decode prog_52_method_2_code 16 = .ok (.aload_n 0, 1) := by decide +kernel
theorem d5_17 : decode prog_52_method_2_code 17 = .ok (.getfield 25, 3) := by decide +kernel
theorem d5_20 : decode prog_52_method_2_code 20 = .ok (.i2l, 1) := by decide +kernel
theorem d5_21 : decode prog_52_method_2_code 21 = .ok (.lmul, 1) := by decide +kernel
theorem d5_22 : decode prog_52_method_2_code 22 = .ok (.lreturn, 1) := by decide +kernel
def own_bs (w1 : Int32) (w2 : Int32) : Int64 := (if w2 = (0 : Int32) then (1 : Int64) else ((w1.toInt64) * (w2.toInt64)))
set_option maxHeartbeats 40000000 in
theorem own_ef_rm5 (m : MethodId) (x0 : Addr) : entryFrame m #[(.ref x0)] 1 = mkF m 0 #[.val (.ref x0)] [] := by first | (simp [entryFrame, mkF, argsToLocals, Value.category]; done) | rfl
def Q5 (Z : State) (a0 : Addr) (w1 : Int32) (w2 : Int32) (h0 : Heap) (n0 : Nat) (v : Option Value) (h : Heap) (L : List Loc) : Prop := v = some (.long (own_bs w1 w2)) ∧ Fr n0 L ∧ h = h0
set_option maxRecDepth 65536 in
set_option maxHeartbeats 40000000 in
theorem rm5 (l : Launch) (Z : State) (aZ : Array Value) (hw : ∀ d ∈ tables_1, d.before aZ Z = true) (ws : List Jvm.Cond) (a0 : Addr) (w1 : Int32) (w2 : Int32) (h0 : Heap) (n0 : Nat) (Z0 : n0 ≤ h0.size) (pf0 : Fld Z h0 a0 "com/example/assertline/assertline/policy/RateLimit$Limits" "maxPerSecond" "I" (.int w1)) (pf1 : Fld Z h0 a0 "com/example/assertline/assertline/policy/RateLimit$Limits" "burstSeconds" "I" (.int w2)) :
    MetFree l (⟨"com/example/assertline/assertline/policy/RateLimit$Limits", "bucketSize", "()J"⟩ : MethodName) (head1 (Jvm.Cond.code (⟨"com/example/assertline/assertline/policy/RateLimit$Limits", "bucketSize", "()J"⟩ : MethodName) prog_52_method_2_code 1 (some .long) :: ws) ({ frames := 0, cells := 0, slots := 0, locals := 0 } : Room)) (fun a U => a = #[(.ref a0)] ∧ Z.Warmed39 U.vm ∧ U.heap = h0) (fun _ _ _ _ _ => True) (fun _ U o U' => ∃ v L, o = .returned v ∧ Q5 Z a0 w1 w2 h0 n0 v U'.heap L ∧ FrameEnd U o U' L ({ frames := 0, cells := 0, slots := 0, locals := 0 } : Room).cells ({ frames := 0, cells := 0, slots := 0, locals := 0 } : Room).slots) := by
  refine MetFree.of_bodySF (plainFor_of_name own_pn1) hisR ?_
  intro p e s m args below meth c s₁ Bd hml0 hP hK
  obtain ⟨rfl, hZ, hh⟩ := hP
  have hx := Bd.exec
  have hby := Bd.bytes
  have hml : c.maxLocals = 1 := hml0
  have hown : s.vm.findClass "com/example/assertline/assertline/policy/RateLimit$Limits" = some m.cls := findClass_of_methodNamed Bd.named
  have hnm := (name_of_methodNamed Bd.named Bd.method).1
  have X0 : Stand p l e ({ frames := 0, cells := 0, slots := 0, locals := 0 } : Room) s m #[(.ref a0)] below meth c s₁ [] 0 0 := Stand.of_body Bd
  have e0 : s₁.heap = h0 := by rw [← hh, Bd.state]; rfl
  have N0 := Fr.nil n0
  refine own_go (S' := s₁.setTop (mkF m 0 #[.val (.ref a0)] [])) (fun tt0 kk0 => castTop (own_ef_rm5 m a0) kk0) ?_
  refine own_go (S' := s₁.setTop (mkF m 1 #[.val (.ref a0)] [(.ref a0)])) (fun target kt => ?_) ?_
  · skip
    show Steps p.tables e below (s₁.setTop (mkF m 0 #[.val (.ref a0)] [])) _
    refine XS.aloadN X0.here hx rfl (hb hby d5_0) rfl rfl ?_
    exact kt
  obtain ⟨T251, X251, e251, st251⟩ := getF X0 hx hZ hown (host := "") (Or.inl (hw _ (List.mem_of_getElem? (i := 30) rfl))) Via.refl e0 pf1 (g := (mkF m 1 #[.val (.ref a0)] [(.ref a0)])) rfl rfl (hb hby d5_1)
  refine own_go (S' := T251.setTop (mkF m 4 #[.val (.ref a0)] [(.int w2)])) st251 ?_
  by_cases hc4 : w2 = (0 : Int32)
  · skip
    refine own_go (S' := T251.setTop (mkF m 22 #[.val (.ref a0)] [(.long (1 : Int64))])) (fun target kt => ?_) ?_
    · skip
      show Steps p.tables e below (T251.setTop (mkF m 4 #[.val (.ref a0)] [(.int w2)])) _
      refine XS.ifNo X251.here hx rfl (hb hby d5_4) rfl ((if0 _ _).trans (teq hc4).2) ?_
      show Steps p.tables e below (T251.setTop (mkF m 7 #[.val (.ref a0)] [])) _
      refine XS.lconst X251.here hx rfl (hb hby d5_7) ?_
      show Steps p.tables e below (T251.setTop (mkF m 8 #[.val (.ref a0)] [(.long (1 : Int64))])) _
      refine XS.goto X251.here hx rfl (pc0 := 8) (pc' := 22) rfl (hb hby d5_8) (by decide) (by decide) ?_
      exact kt
    obtain ⟨fs, hr, hrun, hended, hW, hsame⟩ := X251.leave (v := some (.long (1 : Int64))) (fun h => by rw [Bd.returns] at h; cases h)
    refine ⟨_, _, ?_, hrun, hended, _, _, rfl, ?_, ⟨_, rfl⟩, hW, hsame.mono (by decide) (by decide)⟩
    · exact retL X251 hx Bd.returns (hb hby d5_22) hr
    · show Q5 Z a0 w1 w2 h0 n0 _ T251.heap _
      rw [e251]
      exact ⟨(by (first | (simp only [own_bs, if_pos hc4]; done) | (simp [own_bs, if_pos hc4]; done) | rfl)), N0, rfl⟩
  · skip
    refine own_go (S' := T251.setTop (mkF m 12 #[.val (.ref a0)] [(.ref a0)])) (fun target kt => ?_) ?_
    · skip
      show Steps p.tables e below (T251.setTop (mkF m 4 #[.val (.ref a0)] [(.int w2)])) _
      refine XS.ifYes X251.here hx rfl (pc0 := 4) (pc' := 11) rfl (hb hby d5_4) rfl ((if0 _ _).trans (feq hc4).2) (by decide) (by decide) ?_
      show Steps p.tables e below (T251.setTop (mkF m 11 #[.val (.ref a0)] [])) _
      refine XS.aloadN X251.here hx rfl (hb hby d5_11) rfl rfl ?_
      exact kt
    obtain ⟨T252, X252, e252, st252⟩ := getF X251 hx hZ hown (host := "") (Or.inl (hw _ (List.mem_of_getElem? (i := 28) rfl))) Via.refl e251 pf0 (g := (mkF m 12 #[.val (.ref a0)] [(.ref a0)])) rfl rfl (hb hby d5_12)
    refine own_go (S' := T252.setTop (mkF m 15 #[.val (.ref a0)] [(.int w1)])) st252 ?_
    refine own_go (S' := T252.setTop (mkF m 17 #[.val (.ref a0)] [(.ref a0), (.long (w1.toInt64))])) (fun target kt => ?_) ?_
    · skip
      show Steps p.tables e below (T252.setTop (mkF m 15 #[.val (.ref a0)] [(.int w1)])) _
      refine XS.i2l X252.here hx rfl (hb hby d5_15) rfl ?_
      show Steps p.tables e below (T252.setTop (mkF m 16 #[.val (.ref a0)] [(.long (w1.toInt64))])) _
      refine XS.aloadN X252.here hx rfl (hb hby d5_16) rfl rfl ?_
      exact kt
    obtain ⟨T253, X253, e253, st253⟩ := getF X252 hx hZ hown (host := "") (Or.inl (hw _ (List.mem_of_getElem? (i := 30) rfl))) Via.refl e252 pf1 (g := (mkF m 17 #[.val (.ref a0)] [(.ref a0), (.long (w1.toInt64))])) rfl rfl (hb hby d5_17)
    refine own_go (S' := T253.setTop (mkF m 20 #[.val (.ref a0)] [(.int w2), (.long (w1.toInt64))])) st253 ?_
    refine own_go (S' := T253.setTop (mkF m 22 #[.val (.ref a0)] [(.long ((w1.toInt64) * (w2.toInt64)))])) (fun target kt => ?_) ?_
    · skip
      show Steps p.tables e below (T253.setTop (mkF m 20 #[.val (.ref a0)] [(.int w2), (.long (w1.toInt64))])) _
      refine XS.i2l X253.here hx rfl (hb hby d5_20) rfl ?_
      show Steps p.tables e below (T253.setTop (mkF m 21 #[.val (.ref a0)] [(.long (w2.toInt64)), (.long (w1.toInt64))])) _
      refine XS.lmul X253.here hx rfl (hb hby d5_21) rfl ?_
      exact kt
    obtain ⟨fs, hr, hrun, hended, hW, hsame⟩ := X253.leave (v := some (.long ((w1.toInt64) * (w2.toInt64)))) (fun h => by rw [Bd.returns] at h; cases h)
    refine ⟨_, _, ?_, hrun, hended, _, _, rfl, ?_, ⟨_, rfl⟩, hW, hsame.mono (by decide) (by decide)⟩
    · exact retL X253 hx Bd.returns (hb hby d5_22) hr
    · show Q5 Z a0 w1 w2 h0 n0 _ T253.heap _
      rw [e253]
      exact ⟨(by (first | (simp only [own_bs, if_neg hc4]; done) | (simp [own_bs, if_neg hc4]; done) | rfl)), N0, rfl⟩
theorem own_b0 {w x : Int32} (h : x = (0 : Int32)) : own_bs w x = (1 : Int64) := if_pos h
theorem own_b1 {w x : Int32} (h : ¬ x = (0 : Int32)) : own_bs w x = (w.toInt64) * (x.toInt64) := if_neg h
theorem own_bi {w x : Int32} (hw : ¬ w < (1 : Int32)) (hx : ¬ x < (0 : Int32)) (h : ¬ x = (0 : Int32)) : (own_bs w x).toInt = w.toInt * x.toInt ∧ 1 ≤ w.toInt ∧ 1 ≤ x.toInt := by
  have hx1 := own_ge1 hx h
  rw [Int32.lt_iff_toInt_lt, own_k1] at hw hx1
  have a1 := w.toInt_lt
  have a2 := x.toInt_lt
  have b1 : w.toInt * x.toInt ≤ 2147483647 * 2147483647 := Int.mul_le_mul (by omega) (by omega) (by omega) (by omega)
  have b2 : 1 * 1 ≤ w.toInt * x.toInt := Int.mul_le_mul (by omega) (by omega) (by omega) (by omega)
  refine ⟨?_, by omega, by omega⟩
  rw [own_b1 h, Jvm.Kit.i64_mul (by rw [Jvm.Kit.i64_of_i32, Jvm.Kit.i64_of_i32]; omega) (by rw [Jvm.Kit.i64_of_i32, Jvm.Kit.i64_of_i32]; omega), Jvm.Kit.i64_of_i32, Jvm.Kit.i64_of_i32]
theorem own_bpos {w x : Int32} (hw : ¬ w < (1 : Int32)) (hx : ¬ x < (0 : Int32)) (h : ¬ x = (0 : Int32)) : ¬ own_bs w x < (1 : Int64) := by
  obtain ⟨e, e1, e2⟩ := own_bi hw hx h
  have k : (1 : Int64).toInt = 1 := by decide
  have b2 : 1 * 1 ≤ w.toInt * x.toInt := Int.mul_le_mul (by omega) (by omega) (by omega) (by omega)
  rw [Int64.lt_iff_toInt_lt, e, k]
  omega
theorem own_bnz {w : Int32} (hw : ¬ w < (1 : Int32)) : (w.toInt64) ≠ (0 : Int64) := by
  intro q
  rw [Int32.lt_iff_toInt_lt, own_k1] at hw
  have := congrArg Int64.toInt q
  rw [Jvm.Kit.i64_of_i32] at this
  have k : (0 : Int64).toInt = 0 := by decide
  omega
theorem own_brem {w x : Int32} (hw : ¬ w < (1 : Int32)) (hx : ¬ x < (0 : Int32)) (h : ¬ x = (0 : Int32)) : own_bs w x % (w.toInt64) = (0 : Int64) := by
  obtain ⟨e, e1, e2⟩ := own_bi hw hx h
  apply Int64.toInt_inj.mp
  rw [Int64.toInt_mod, e, Jvm.Kit.i64_of_i32, Int.mul_tmod_right]
  decide
theorem own_bdiv {w x : Int32} (hw : ¬ w < (1 : Int32)) (hx : ¬ x < (0 : Int32)) (h : ¬ x = (0 : Int32)) : own_bs w x / (w.toInt64) = (x.toInt64) := by
  obtain ⟨e, e1, e2⟩ := own_bi hw hx h
  have a2 := x.toInt_lt
  apply Int64.toInt_inj.mp
  rw [Int64.toInt_div, e, Jvm.Kit.i64_of_i32, Jvm.Kit.i64_of_i32, Int.mul_tdiv_cancel_left _ (by omega)]
  exact Int.bmod_eq_of_le (by omega) (by omega)

theorem own_pd2 : parseMethodDescriptor "(IIII)V" = some ⟨[.int, .int, .int, .int], none⟩ := by decide +kernel
theorem own_pd3 : parseMethodDescriptor "()J" = some ⟨[], some .long⟩ := by decide +kernel
theorem own_pn2 : plainName "com/example/assertline/assertline/policy/LimitsBucketSizePinLaw" = true := by first | (simp [plainName, overriddenIn]; done) | decide +kernel
set_option maxHeartbeats 40000000 in
theorem own_ef_rm0 (m : MethodId) (x0 : Int32) (x1 : Int32) (x2 : Int32) (x3 : Int32) (x4 : Int32) : entryFrame m #[(.int x0), (.int x1), (.int x2), (.int x3), (.int x4)] maxLocals = mkF m 0 #[.val (.int x0), .val (.int x1), .val (.int x2), .val (.int x3), .val (.int x4), .unset, .unset, .unset, .unset, .unset, .unset, .unset, .unset, .unset] [] := by first | (simp [entryFrame, mkF, argsToLocals, Value.category, maxLocals]; done) | rfl
def Q0 (Z : State) (p0 : Int32) (p1 : Int32) (p2 : Int32) (p3 : Int32) (p4 : Int32) (h0 : Heap) (n0 : Nat) (v : Option Value) (h : Heap) (L : List Loc) : Prop := v = some (.int 1) ∧ Fr n0 L
set_option maxRecDepth 65536 in
set_option maxHeartbeats 40000000 in
theorem rm0 (l : Launch) (Z : State) (aZ : Array Value) (hw : ∀ d ∈ tables_1, d.before aZ Z = true) (ws : List Jvm.Cond) (p0 : Int32) (p1 : Int32) (p2 : Int32) (p3 : Int32) (p4 : Int32) (h0 : Heap) (n0 : Nat) (Z0 : n0 ≤ h0.size) :
    MetFree l x (head1 (Jvm.Cond.code x code maxLocals ret :: ws) room_1) (fun a U => a = #[(.int p0), (.int p1), (.int p2), (.int p3), (.int p4)] ∧ Z.Warmed39 U.vm ∧ U.heap = h0) (fun _ _ _ _ _ => True) (fun _ U o U' => ∃ v L, o = .returned v ∧ Q0 Z p0 p1 p2 p3 p4 h0 n0 v U'.heap L ∧ ReturnedEndW U o U' L room_1.cells room_1.slots) := by
  refine MetFree.of_bodySF (plainFor_of_name own_pn2) hisR ?_
  intro p e s m args below meth c s₁ Bd hml0 hP hK
  obtain ⟨rfl, hZ, hh⟩ := hP
  have hx := Bd.exec
  have hby := Bd.bytes
  have hml : c.maxLocals = 14 := hml0
  have hown : s.vm.findClass "com/example/assertline/assertline/policy/LimitsBucketSizePinLaw" = some m.cls := findClass_of_methodNamed Bd.named
  have hnm := (name_of_methodNamed Bd.named Bd.method).1
  have X0 : Stand p l e room_1 s m #[(.int p0), (.int p1), (.int p2), (.int p3), (.int p4)] below meth c s₁ [] 0 0 := Stand.of_body Bd
  have e0 : s₁.heap = h0 := by rw [← hh, Bd.state]; rfl
  have N0 := Fr.nil n0
  have ST0 := own_St.refl s h0
  refine own_go (S' := s₁.setTop (mkF m 0 #[.val (.int p0), .val (.int p1), .val (.int p2), .val (.int p3), .val (.int p4), .unset, .unset, .unset, .unset, .unset, .unset, .unset, .unset, .unset] [])) (fun tt0 kk0 => castTop (own_ef_rm0 m p0 p1 p2 p3 p4) kk0) ?_
  obtain ⟨nn, h_nn⟩ : ∃ z : Int32, z = (((p0 &&& (2147483647 : Int32)) % (2147483647 : Int32)) + (1 : Int32)) := ⟨_, rfl⟩
  refine own_go (S' := s₁.setTop (mkF m 11 #[.val (.int p0), .val (.int p1), .val (.int p2), .val (.int p3), .val (.int p4), .val (.int nn), .unset, .unset, .unset, .unset, .unset, .unset, .unset, .unset] [])) (fun target kt => ?_) ?_
  · subst h_nn
    show Steps p.tables e below (s₁.setTop (mkF m 0 #[.val (.int p0), .val (.int p1), .val (.int p2), .val (.int p3), .val (.int p4), .unset, .unset, .unset, .unset, .unset, .unset, .unset, .unset, .unset] [])) _
    refine XS.iloadN X0.here hx rfl (hb hby at_0) rfl ?_
    show Steps p.tables e below (s₁.setTop (mkF m 1 #[.val (.int p0), .val (.int p1), .val (.int p2), .val (.int p3), .val (.int p4), .unset, .unset, .unset, .unset, .unset, .unset, .unset, .unset, .unset] [(.int p0)])) _
    refine X0.ldcInt hx hown (mvT hZ (hw _ (List.mem_of_getElem? (i := 0) rfl))) (g := (mkF m 1 #[.val (.int p0), .val (.int p1), .val (.int p2), .val (.int p3), .val (.int p4), .unset, .unset, .unset, .unset, .unset, .unset, .unset, .unset, .unset] [(.int p0)])) rfl (hb hby at_1) _ ?_
    show Steps p.tables e below (s₁.setTop (mkF m 3 #[.val (.int p0), .val (.int p1), .val (.int p2), .val (.int p3), .val (.int p4), .unset, .unset, .unset, .unset, .unset, .unset, .unset, .unset, .unset] [(.int (2147483647 : Int32)), (.int p0)])) _
    refine XS.iand X0.here hx rfl (hb hby at_3) rfl ?_
    show Steps p.tables e below (s₁.setTop (mkF m 4 #[.val (.int p0), .val (.int p1), .val (.int p2), .val (.int p3), .val (.int p4), .unset, .unset, .unset, .unset, .unset, .unset, .unset, .unset, .unset] [(.int (p0 &&& (2147483647 : Int32)))])) _
    refine X0.ldcInt hx hown (mvT hZ (hw _ (List.mem_of_getElem? (i := 0) rfl))) (g := (mkF m 4 #[.val (.int p0), .val (.int p1), .val (.int p2), .val (.int p3), .val (.int p4), .unset, .unset, .unset, .unset, .unset, .unset, .unset, .unset, .unset] [(.int (p0 &&& (2147483647 : Int32)))])) rfl (hb hby at_4) _ ?_
    show Steps p.tables e below (s₁.setTop (mkF m 6 #[.val (.int p0), .val (.int p1), .val (.int p2), .val (.int p3), .val (.int p4), .unset, .unset, .unset, .unset, .unset, .unset, .unset, .unset, .unset] [(.int (2147483647 : Int32)), (.int (p0 &&& (2147483647 : Int32)))])) _
    refine iremM (g := (mkF m 6 #[.val (.int p0), .val (.int p1), .val (.int p2), .val (.int p3), .val (.int p4), .unset, .unset, .unset, .unset, .unset, .unset, .unset, .unset, .unset] [(.int (2147483647 : Int32)), (.int (p0 &&& (2147483647 : Int32)))])) X0 hx rfl (hb hby at_6) rfl (by decide) ?_
    show Steps p.tables e below (s₁.setTop (mkF m 7 #[.val (.int p0), .val (.int p1), .val (.int p2), .val (.int p3), .val (.int p4), .unset, .unset, .unset, .unset, .unset, .unset, .unset, .unset, .unset] [(.int ((p0 &&& (2147483647 : Int32)) % (2147483647 : Int32)))])) _
    refine XS.iconst X0.here hx rfl (hb hby at_7) ?_
    show Steps p.tables e below (s₁.setTop (mkF m 8 #[.val (.int p0), .val (.int p1), .val (.int p2), .val (.int p3), .val (.int p4), .unset, .unset, .unset, .unset, .unset, .unset, .unset, .unset, .unset] [(.int (1 : Int32)), (.int ((p0 &&& (2147483647 : Int32)) % (2147483647 : Int32)))])) _
    refine XS.iadd X0.here hx rfl (hb hby at_8) rfl ?_
    show Steps p.tables e below (s₁.setTop (mkF m 9 #[.val (.int p0), .val (.int p1), .val (.int p2), .val (.int p3), .val (.int p4), .unset, .unset, .unset, .unset, .unset, .unset, .unset, .unset, .unset] [(.int (((p0 &&& (2147483647 : Int32)) % (2147483647 : Int32)) + (1 : Int32)))])) _
    refine XS.istore X0.here hx rfl (hb hby at_9) rfl (l' := #[.val (.int p0), .val (.int p1), .val (.int p2), .val (.int p3), .val (.int p4), .val (.int (((p0 &&& (2147483647 : Int32)) % (2147483647 : Int32)) + (1 : Int32))), .unset, .unset, .unset, .unset, .unset, .unset, .unset, .unset]) rfl ?_
    exact kt
  refine own_go (S' := s₁.setTop (mkF m 14 #[.val (.int p0), .val (.int p1), .val (.int p2), .val (.int p3), .val (.int p4), .val (.int nn), .unset, .unset, .unset, .unset, .unset, .unset, .unset, .unset] [(.int (p2 &&& (1 : Int32)))])) (fun target kt => ?_) ?_
  · skip
    show Steps p.tables e below (s₁.setTop (mkF m 11 #[.val (.int p0), .val (.int p1), .val (.int p2), .val (.int p3), .val (.int p4), .val (.int nn), .unset, .unset, .unset, .unset, .unset, .unset, .unset, .unset] [])) _
    refine XS.iloadN X0.here hx rfl (hb hby at_11) rfl ?_
    show Steps p.tables e below (s₁.setTop (mkF m 12 #[.val (.int p0), .val (.int p1), .val (.int p2), .val (.int p3), .val (.int p4), .val (.int nn), .unset, .unset, .unset, .unset, .unset, .unset, .unset, .unset] [(.int p2)])) _
    refine XS.iconst X0.here hx rfl (hb hby at_12) ?_
    show Steps p.tables e below (s₁.setTop (mkF m 13 #[.val (.int p0), .val (.int p1), .val (.int p2), .val (.int p3), .val (.int p4), .val (.int nn), .unset, .unset, .unset, .unset, .unset, .unset, .unset, .unset] [(.int (1 : Int32)), (.int p2)])) _
    refine XS.iand X0.here hx rfl (hb hby at_13) rfl ?_
    exact kt
  obtain ⟨xx, h_xx⟩ : ∃ z : Int32, z = (if (p2 &&& (1 : Int32)) = (0 : Int32) then (p1 &&& (2147483647 : Int32)) else (0 : Int32)) := ⟨_, rfl⟩
  refine own_go (S' := s₁.setTop (mkF m 25 #[.val (.int p0), .val (.int p1), .val (.int p2), .val (.int p3), .val (.int p4), .val (.int nn), .unset, .unset, .unset, .unset, .unset, .unset, .unset, .unset] [(.int xx)])) (fun target kt => ?_) ?_
  · skip
    by_cases hm14 : (p2 &&& (1 : Int32)) = (0 : Int32)
    · skip
      show Steps p.tables e below (s₁.setTop (mkF m 14 #[.val (.int p0), .val (.int p1), .val (.int p2), .val (.int p3), .val (.int p4), .val (.int nn), .unset, .unset, .unset, .unset, .unset, .unset, .unset, .unset] [(.int (p2 &&& (1 : Int32)))])) _
      refine XS.ifYes X0.here hx rfl (pc0 := 14) (pc' := 21) rfl (hb hby at_14) rfl ((if0 _ _).trans (teq hm14).1) (by decide) (by decide) ?_
      show Steps p.tables e below (s₁.setTop (mkF m 21 #[.val (.int p0), .val (.int p1), .val (.int p2), .val (.int p3), .val (.int p4), .val (.int nn), .unset, .unset, .unset, .unset, .unset, .unset, .unset, .unset] [])) _
      refine XS.iloadN X0.here hx rfl (hb hby at_21) rfl ?_
      show Steps p.tables e below (s₁.setTop (mkF m 22 #[.val (.int p0), .val (.int p1), .val (.int p2), .val (.int p3), .val (.int p4), .val (.int nn), .unset, .unset, .unset, .unset, .unset, .unset, .unset, .unset] [(.int p1)])) _
      refine X0.ldcInt hx hown (mvT hZ (hw _ (List.mem_of_getElem? (i := 0) rfl))) (g := (mkF m 22 #[.val (.int p0), .val (.int p1), .val (.int p2), .val (.int p3), .val (.int p4), .val (.int nn), .unset, .unset, .unset, .unset, .unset, .unset, .unset, .unset] [(.int p1)])) rfl (hb hby at_22) _ ?_
      show Steps p.tables e below (s₁.setTop (mkF m 24 #[.val (.int p0), .val (.int p1), .val (.int p2), .val (.int p3), .val (.int p4), .val (.int nn), .unset, .unset, .unset, .unset, .unset, .unset, .unset, .unset] [(.int (2147483647 : Int32)), (.int p1)])) _
      refine XS.iand X0.here hx rfl (hb hby at_24) rfl ?_
      rw [h_xx, if_pos hm14] at kt
      exact kt
    · skip
      show Steps p.tables e below (s₁.setTop (mkF m 14 #[.val (.int p0), .val (.int p1), .val (.int p2), .val (.int p3), .val (.int p4), .val (.int nn), .unset, .unset, .unset, .unset, .unset, .unset, .unset, .unset] [(.int (p2 &&& (1 : Int32)))])) _
      refine XS.ifNo X0.here hx rfl (hb hby at_14) rfl ((if0 _ _).trans (feq hm14).1) ?_
      show Steps p.tables e below (s₁.setTop (mkF m 17 #[.val (.int p0), .val (.int p1), .val (.int p2), .val (.int p3), .val (.int p4), .val (.int nn), .unset, .unset, .unset, .unset, .unset, .unset, .unset, .unset] [])) _
      refine XS.iconst X0.here hx rfl (hb hby at_17) ?_
      show Steps p.tables e below (s₁.setTop (mkF m 18 #[.val (.int p0), .val (.int p1), .val (.int p2), .val (.int p3), .val (.int p4), .val (.int nn), .unset, .unset, .unset, .unset, .unset, .unset, .unset, .unset] [(.int (0 : Int32))])) _
      refine XS.goto X0.here hx rfl (pc0 := 18) (pc' := 25) rfl (hb hby at_18) (by decide) (by decide) ?_
      rw [h_xx, if_neg hm14] at kt
      exact kt
  obtain ⟨bo, h_bo⟩ : ∃ z : Int32, z = (p3 &&& (2147483647 : Int32)) := ⟨_, rfl⟩
  refine own_go (S' := s₁.setTop (mkF m 33 #[.val (.int p0), .val (.int p1), .val (.int p2), .val (.int p3), .val (.int p4), .val (.int nn), .val (.int xx), .val (.int bo), .unset, .unset, .unset, .unset, .unset, .unset] [])) (fun target kt => ?_) ?_
  · subst h_bo
    show Steps p.tables e below (s₁.setTop (mkF m 25 #[.val (.int p0), .val (.int p1), .val (.int p2), .val (.int p3), .val (.int p4), .val (.int nn), .unset, .unset, .unset, .unset, .unset, .unset, .unset, .unset] [(.int xx)])) _
    refine XS.istore X0.here hx rfl (hb hby at_25) rfl (l' := #[.val (.int p0), .val (.int p1), .val (.int p2), .val (.int p3), .val (.int p4), .val (.int nn), .val (.int xx), .unset, .unset, .unset, .unset, .unset, .unset, .unset]) rfl ?_
    show Steps p.tables e below (s₁.setTop (mkF m 27 #[.val (.int p0), .val (.int p1), .val (.int p2), .val (.int p3), .val (.int p4), .val (.int nn), .val (.int xx), .unset, .unset, .unset, .unset, .unset, .unset, .unset] [])) _
    refine XS.iloadN X0.here hx rfl (hb hby at_27) rfl ?_
    show Steps p.tables e below (s₁.setTop (mkF m 28 #[.val (.int p0), .val (.int p1), .val (.int p2), .val (.int p3), .val (.int p4), .val (.int nn), .val (.int xx), .unset, .unset, .unset, .unset, .unset, .unset, .unset] [(.int p3)])) _
    refine X0.ldcInt hx hown (mvT hZ (hw _ (List.mem_of_getElem? (i := 0) rfl))) (g := (mkF m 28 #[.val (.int p0), .val (.int p1), .val (.int p2), .val (.int p3), .val (.int p4), .val (.int nn), .val (.int xx), .unset, .unset, .unset, .unset, .unset, .unset, .unset] [(.int p3)])) rfl (hb hby at_28) _ ?_
    show Steps p.tables e below (s₁.setTop (mkF m 30 #[.val (.int p0), .val (.int p1), .val (.int p2), .val (.int p3), .val (.int p4), .val (.int nn), .val (.int xx), .unset, .unset, .unset, .unset, .unset, .unset, .unset] [(.int (2147483647 : Int32)), (.int p3)])) _
    refine XS.iand X0.here hx rfl (hb hby at_30) rfl ?_
    show Steps p.tables e below (s₁.setTop (mkF m 31 #[.val (.int p0), .val (.int p1), .val (.int p2), .val (.int p3), .val (.int p4), .val (.int nn), .val (.int xx), .unset, .unset, .unset, .unset, .unset, .unset, .unset] [(.int (p3 &&& (2147483647 : Int32)))])) _
    refine XS.istore X0.here hx rfl (hb hby at_31) rfl (l' := #[.val (.int p0), .val (.int p1), .val (.int p2), .val (.int p3), .val (.int p4), .val (.int nn), .val (.int xx), .val (.int (p3 &&& (2147483647 : Int32))), .unset, .unset, .unset, .unset, .unset, .unset]) rfl ?_
    exact kt
  obtain ⟨co, h_co⟩ : ∃ z : Int32, z = (p4 &&& (2147483647 : Int32)) := ⟨_, rfl⟩
  refine own_go (S' := s₁.setTop (mkF m 40 #[.val (.int p0), .val (.int p1), .val (.int p2), .val (.int p3), .val (.int p4), .val (.int nn), .val (.int xx), .val (.int bo), .val (.int co), .unset, .unset, .unset, .unset, .unset] [])) (fun target kt => ?_) ?_
  · subst h_co
    show Steps p.tables e below (s₁.setTop (mkF m 33 #[.val (.int p0), .val (.int p1), .val (.int p2), .val (.int p3), .val (.int p4), .val (.int nn), .val (.int xx), .val (.int bo), .unset, .unset, .unset, .unset, .unset, .unset] [])) _
    refine XS.iload X0.here hx rfl (hb hby at_33) rfl ?_
    show Steps p.tables e below (s₁.setTop (mkF m 35 #[.val (.int p0), .val (.int p1), .val (.int p2), .val (.int p3), .val (.int p4), .val (.int nn), .val (.int xx), .val (.int bo), .unset, .unset, .unset, .unset, .unset, .unset] [(.int p4)])) _
    refine X0.ldcInt hx hown (mvT hZ (hw _ (List.mem_of_getElem? (i := 0) rfl))) (g := (mkF m 35 #[.val (.int p0), .val (.int p1), .val (.int p2), .val (.int p3), .val (.int p4), .val (.int nn), .val (.int xx), .val (.int bo), .unset, .unset, .unset, .unset, .unset, .unset] [(.int p4)])) rfl (hb hby at_35) _ ?_
    show Steps p.tables e below (s₁.setTop (mkF m 37 #[.val (.int p0), .val (.int p1), .val (.int p2), .val (.int p3), .val (.int p4), .val (.int nn), .val (.int xx), .val (.int bo), .unset, .unset, .unset, .unset, .unset, .unset] [(.int (2147483647 : Int32)), (.int p4)])) _
    refine XS.iand X0.here hx rfl (hb hby at_37) rfl ?_
    show Steps p.tables e below (s₁.setTop (mkF m 38 #[.val (.int p0), .val (.int p1), .val (.int p2), .val (.int p3), .val (.int p4), .val (.int nn), .val (.int xx), .val (.int bo), .unset, .unset, .unset, .unset, .unset, .unset] [(.int (p4 &&& (2147483647 : Int32)))])) _
    refine XS.istore X0.here hx rfl (hb hby at_38) rfl (l' := #[.val (.int p0), .val (.int p1), .val (.int p2), .val (.int p3), .val (.int p4), .val (.int nn), .val (.int xx), .val (.int bo), .val (.int (p4 &&& (2147483647 : Int32))), .unset, .unset, .unset, .unset, .unset]) rfl ?_
    exact kt
  obtain ⟨T254, h254, X254, e254, E254, A254, D254, -, st254⟩ := newO X0 hx hZ hown (hw _ (List.mem_of_getElem? (i := 1) rfl)) (hw _ (List.mem_of_getElem? (i := 2) rfl)) (hw _ (List.mem_of_getElem? (i := 3) rfl)) e0 (g := (mkF m 40 #[.val (.int p0), .val (.int p1), .val (.int p2), .val (.int p3), .val (.int p4), .val (.int nn), .val (.int xx), .val (.int bo), .val (.int co), .unset, .unset, .unset, .unset, .unset] [])) rfl (hb hby at_40) (by decide) (by decide)
  obtain ⟨b254, g254⟩ : ∃ z, z = h0.size := ⟨_, rfl⟩
  rw [← g254] at A254 D254 st254
  have g_b254 : n0 ≤ b254 := Nat.le_trans Z0 (Nat.le_of_eq g254.symm)
  have Z254 : n0 ≤ h254.size := Nat.le_trans Z0 E254.1
  have ST254 := ST0.le E254.1
  have f255 : Fld Z h254 b254 "com/example/assertline/assertline/policy/RateLimit$Limits" "maxPerSecond" "I" (.int (0 : Int32)) := D254 (Or.inr (hw _ (List.mem_of_getElem? (i := 29) rfl))) (ty := .int) (by decide)
  have f256 : Fld Z h254 b254 "com/example/assertline/assertline/policy/RateLimit$Limits" "burstSeconds" "I" (.int (0 : Int32)) := D254 (Or.inr (hw _ (List.mem_of_getElem? (i := 31) rfl))) (ty := .int) (by decide)
  have f257 : Fld Z h254 b254 "com/example/assertline/assertline/policy/RateLimit$Limits" "blackoutSeconds" "I" (.int (0 : Int32)) := D254 (Or.inr (hw _ (List.mem_of_getElem? (i := 33) rfl))) (ty := .int) (by decide)
  have f258 : Fld Z h254 b254 "com/example/assertline/assertline/policy/RateLimit$Limits" "maxConcurrency" "I" (.int (0 : Int32)) := D254 (Or.inr (hw _ (List.mem_of_getElem? (i := 35) rfl))) (ty := .int) (by decide)
  refine own_go (S' := T254.setTop (mkF m 43 #[.val (.int p0), .val (.int p1), .val (.int p2), .val (.int p3), .val (.int p4), .val (.int nn), .val (.int xx), .val (.int bo), .val (.int co), .unset, .unset, .unset, .unset, .unset] [(.ref b254)])) st254 ?_
  refine own_go (S' := T254.setTop (mkF m 52 #[.val (.int p0), .val (.int p1), .val (.int p2), .val (.int p3), .val (.int p4), .val (.int nn), .val (.int xx), .val (.int bo), .val (.int co), .unset, .unset, .unset, .unset, .unset] [(.int co), (.int bo), (.int xx), (.int nn), (.ref b254), (.ref b254)])) (fun target kt => ?_) ?_
  · skip
    show Steps p.tables e below (T254.setTop (mkF m 43 #[.val (.int p0), .val (.int p1), .val (.int p2), .val (.int p3), .val (.int p4), .val (.int nn), .val (.int xx), .val (.int bo), .val (.int co), .unset, .unset, .unset, .unset, .unset] [(.ref b254)])) _
    refine XS.dup X254.here hx rfl (hb hby at_43) rfl rfl ?_
    show Steps p.tables e below (T254.setTop (mkF m 44 #[.val (.int p0), .val (.int p1), .val (.int p2), .val (.int p3), .val (.int p4), .val (.int nn), .val (.int xx), .val (.int bo), .val (.int co), .unset, .unset, .unset, .unset, .unset] [(.ref b254), (.ref b254)])) _
    refine XS.iload X254.here hx rfl (hb hby at_44) rfl ?_
    show Steps p.tables e below (T254.setTop (mkF m 46 #[.val (.int p0), .val (.int p1), .val (.int p2), .val (.int p3), .val (.int p4), .val (.int nn), .val (.int xx), .val (.int bo), .val (.int co), .unset, .unset, .unset, .unset, .unset] [(.int nn), (.ref b254), (.ref b254)])) _
    refine XS.iload X254.here hx rfl (hb hby at_46) rfl ?_
    show Steps p.tables e below (T254.setTop (mkF m 48 #[.val (.int p0), .val (.int p1), .val (.int p2), .val (.int p3), .val (.int p4), .val (.int nn), .val (.int xx), .val (.int bo), .val (.int co), .unset, .unset, .unset, .unset, .unset] [(.int xx), (.int nn), (.ref b254), (.ref b254)])) _
    refine XS.iload X254.here hx rfl (hb hby at_48) rfl ?_
    show Steps p.tables e below (T254.setTop (mkF m 50 #[.val (.int p0), .val (.int p1), .val (.int p2), .val (.int p3), .val (.int p4), .val (.int nn), .val (.int xx), .val (.int bo), .val (.int co), .unset, .unset, .unset, .unset, .unset] [(.int bo), (.int xx), (.int nn), (.ref b254), (.ref b254)])) _
    refine XS.iload X254.here hx rfl (hb hby at_50) rfl ?_
    exact kt
  obtain ⟨_, _, ⟨T259, L259, k259, n259⟩, -, X259, hS259, hG259, ⟨Lc259, hQ259, l259, y259, z259⟩, st259⟩ := X254.specialBackS hx (y := (⟨"com/example/assertline/assertline/policy/RateLimit$Limits", "<init>", "(IIII)V"⟩ : MethodName)) rfl hown (mvT hZ (hw _ (List.mem_of_getElem? (i := 4) rfl))) (mvT hZ (hw _ (List.mem_of_getElem? (i := 5) rfl))) (mvT hZ (hw _ (List.mem_of_getElem? (i := 6) rfl))) (by decide) (backOfS (W := 1) (rm1 l Z aZ hw [] b254 nn xx bo co h254 n0 Z254 A254 f255 f256 f257 f258 g_b254 (own_n h_nn : ¬ nn < (1 : Int32)) (own_x (y := nn) h_xx : ¬ xx < (0 : Int32)) (own_msk h_bo : ¬ bo < (0 : Int32)) (own_msk h_co : ¬ co < (0 : Int32))) hZ (hw _ (List.mem_of_getElem? (i := 6) rfl)) (hw _ (List.mem_of_getElem? (i := 3) rfl)) (by decide) (by decide)) (g := (mkF m 52 #[.val (.int p0), .val (.int p1), .val (.int p2), .val (.int p3), .val (.int p4), .val (.int nn), .val (.int xx), .val (.int bo), .val (.int co), .unset, .unset, .unset, .unset, .unset] [(.int co), (.int bo), (.int xx), (.int nn), (.ref b254), (.ref b254)])) rfl (by rw [hml]; rfl) (Steps.refl _) (a := b254) (argsL := [(.int nn), (.int xx), (.int bo), (.int co)]) (rest := [(.ref b254)]) (lenOf own_pd2 rfl) rfl (by show 2 * 0 + _ ≤ _; exact Nat.le_of_eq rfl) (hb hby at_52) (fun _ _ => ⟨rfl, e254, (by decide : 1 + 8 ≤ _), (by decide : 4 + 248 ≤ _)⟩)
  dsimp only [Pt.U, Pt.locs, Pt.cells, Pt.slots] at X259 l259 y259 z259 st259 hQ259 hS259 hG259
  obtain rfl : k259 = 9 := y259
  obtain rfl : n259 = 252 := z259
  obtain ⟨s259, X259, ST259, hZ, hown⟩ := own_back X259 ST254 hS259 hG259 e254 hZ hown
  obtain ⟨rfl, N259q, K259q, f259_0, f259_1, f259_2, f259_3, f259_4⟩ := hQ259
  have N259 : Fr n0 L259 := by rw [l259]; exact Fr.app N0 N259q
  clear l259
  have f260 : Exa Z T259.heap b254 "com/example/assertline/assertline/policy/RateLimit$Limits" := A254.keep K259q
  have Z259 : n0 ≤ T259.heap.size := Nat.le_trans Z254 K259q.1
  refine own_go (S' := T259.setTop (mkF m 55 #[.val (.int p0), .val (.int p1), .val (.int p2), .val (.int p3), .val (.int p4), .val (.int nn), .val (.int xx), .val (.int bo), .val (.int co), .unset, .unset, .unset, .unset, .unset] [(.ref b254)])) (fun _ k => st259.trans k) ?_
  refine own_go (S' := T259.setTop (mkF m 59 #[.val (.int p0), .val (.int p1), .val (.int p2), .val (.int p3), .val (.int p4), .val (.int nn), .val (.int xx), .val (.int bo), .val (.int co), .val (.ref b254), .unset, .unset, .unset, .unset] [(.ref b254)])) (fun target kt => ?_) ?_
  · skip
    show Steps p.tables e below (T259.setTop (mkF m 55 #[.val (.int p0), .val (.int p1), .val (.int p2), .val (.int p3), .val (.int p4), .val (.int nn), .val (.int xx), .val (.int bo), .val (.int co), .unset, .unset, .unset, .unset, .unset] [(.ref b254)])) _
    refine XS.astore X259.here hx rfl (hb hby at_55) rfl rfl (l' := #[.val (.int p0), .val (.int p1), .val (.int p2), .val (.int p3), .val (.int p4), .val (.int nn), .val (.int xx), .val (.int bo), .val (.int co), .val (.ref b254), .unset, .unset, .unset, .unset]) rfl ?_
    show Steps p.tables e below (T259.setTop (mkF m 57 #[.val (.int p0), .val (.int p1), .val (.int p2), .val (.int p3), .val (.int p4), .val (.int nn), .val (.int xx), .val (.int bo), .val (.int co), .val (.ref b254), .unset, .unset, .unset, .unset] [])) _
    refine XS.aload X259.here hx rfl (hb hby at_57) rfl rfl ?_
    exact kt
  obtain ⟨cq261, kq261, q261a, q261b, q261c⟩ := isOf hZ rfl f259_0
  obtain ⟨_, _, ⟨T261, L261, k261, n261⟩, -, X261, ⟨Lc261, hQ261, l261, y261, z261⟩, st261⟩ := X259.virtualBack hx (y := (⟨"com/example/assertline/assertline/policy/RateLimit$Limits", "bucketSize", "()J"⟩ : MethodName)) (z := (⟨"com/example/assertline/assertline/policy/RateLimit$Limits", "bucketSize", "()J"⟩ : MethodName)) hown (mvT hZ (hw _ (List.mem_of_getElem? (i := 36) rfl))) (mvT hZ (hw _ (List.mem_of_getElem? (i := 37) rfl))) (notFace_of_selects (args := #[]) (mvT hZ (hw _ (List.mem_of_getElem? (i := 39) rfl)))) (mvT hZ (hw _ (List.mem_of_getElem? (i := 39) rfl))) (mvT hZ (hw _ (List.mem_of_getElem? (i := 38) rfl))) (by decide) (backOf (W := 0) (rm5 l Z aZ hw [] b254 nn xx T259.heap n0 Z259 f259_1 f259_2) hZ (hw _ (List.mem_of_getElem? (i := 40) rfl)) (hw _ (List.mem_of_getElem? (i := 3) rfl)) (by decide) (by decide)) q261a q261c (g := (mkF m 59 #[.val (.int p0), .val (.int p1), .val (.int p2), .val (.int p3), .val (.int p4), .val (.int nn), .val (.int xx), .val (.int bo), .val (.int co), .val (.ref b254), .unset, .unset, .unset, .unset] [(.ref b254)])) rfl (by rw [hml]; rfl) (Steps.refl _) (argsL := []) (rest := []) (lenOf own_pd3 rfl) rfl (by show 2 * 0 + _ ≤ _; exact Nat.le_of_eq rfl) (hb hby at_59) (fun _ _ => ⟨rfl, rfl, (by decide : 9 + 0 ≤ _), (by decide : 252 + 0 ≤ _)⟩)
  dsimp only [Pt.U, Pt.locs, Pt.cells, Pt.slots] at X261 l261 y261 z261 st261 hQ261
  obtain rfl : k261 = 9 := y261
  obtain rfl : n261 = 252 := z261
  obtain ⟨rfl, N261q, e261⟩ := hQ261
  have N261 : Fr n0 L261 := by rw [l261]; exact Fr.app N259 N261q
  clear l261
  refine own_go (S' := T261.setTop (mkF m 62 #[.val (.int p0), .val (.int p1), .val (.int p2), .val (.int p3), .val (.int p4), .val (.int nn), .val (.int xx), .val (.int bo), .val (.int co), .val (.ref b254), .unset, .unset, .unset, .unset] [(.long (own_bs nn xx))])) (fun _ k => st261.trans k) ?_
  refine own_go (S' := T261.setTop (mkF m 66 #[.val (.int p0), .val (.int p1), .val (.int p2), .val (.int p3), .val (.int p4), .val (.int nn), .val (.int xx), .val (.int bo), .val (.int co), .val (.ref b254), .val (.long (own_bs nn xx)), .second, .unset, .unset] [(.int xx)])) (fun target kt => ?_) ?_
  · skip
    show Steps p.tables e below (T261.setTop (mkF m 62 #[.val (.int p0), .val (.int p1), .val (.int p2), .val (.int p3), .val (.int p4), .val (.int nn), .val (.int xx), .val (.int bo), .val (.int co), .val (.ref b254), .unset, .unset, .unset, .unset] [(.long (own_bs nn xx))])) _
    refine XS.lstore X261.here hx rfl (hb hby at_62) rfl (l' := #[.val (.int p0), .val (.int p1), .val (.int p2), .val (.int p3), .val (.int p4), .val (.int nn), .val (.int xx), .val (.int bo), .val (.int co), .val (.ref b254), .val (.long (own_bs nn xx)), .second, .unset, .unset]) rfl ?_
    show Steps p.tables e below (T261.setTop (mkF m 64 #[.val (.int p0), .val (.int p1), .val (.int p2), .val (.int p3), .val (.int p4), .val (.int nn), .val (.int xx), .val (.int bo), .val (.int co), .val (.ref b254), .val (.long (own_bs nn xx)), .second, .unset, .unset] [])) _
    refine XS.iload X261.here hx rfl (hb hby at_64) rfl ?_
    exact kt
  by_cases hc66 : xx = (0 : Int32)
  · skip
    refine own_go (S' := T261.setTop (mkF m 81 #[.val (.int p0), .val (.int p1), .val (.int p2), .val (.int p3), .val (.int p4), .val (.int nn), .val (.int xx), .val (.int bo), .val (.int co), .val (.ref b254), .val (.long (own_bs nn xx)), .second, .unset, .unset] [(.int (1 : Int32))])) (fun target kt => ?_) ?_
    · skip
      show Steps p.tables e below (T261.setTop (mkF m 66 #[.val (.int p0), .val (.int p1), .val (.int p2), .val (.int p3), .val (.int p4), .val (.int nn), .val (.int xx), .val (.int bo), .val (.int co), .val (.ref b254), .val (.long (own_bs nn xx)), .second, .unset, .unset] [(.int xx)])) _
      refine XS.ifNo X261.here hx rfl (hb hby at_66) rfl ((if0 _ _).trans (teq hc66).2) ?_
      show Steps p.tables e below (T261.setTop (mkF m 69 #[.val (.int p0), .val (.int p1), .val (.int p2), .val (.int p3), .val (.int p4), .val (.int nn), .val (.int xx), .val (.int bo), .val (.int co), .val (.ref b254), .val (.long (own_bs nn xx)), .second, .unset, .unset] [])) _
      refine XS.lload X261.here hx rfl (hb hby at_69) rfl ?_
      show Steps p.tables e below (T261.setTop (mkF m 71 #[.val (.int p0), .val (.int p1), .val (.int p2), .val (.int p3), .val (.int p4), .val (.int nn), .val (.int xx), .val (.int bo), .val (.int co), .val (.ref b254), .val (.long (own_bs nn xx)), .second, .unset, .unset] [(.long (own_bs nn xx))])) _
      refine XS.lconst X261.here hx rfl (hb hby at_71) ?_
      show Steps p.tables e below (T261.setTop (mkF m 72 #[.val (.int p0), .val (.int p1), .val (.int p2), .val (.int p3), .val (.int p4), .val (.int nn), .val (.int xx), .val (.int bo), .val (.int co), .val (.ref b254), .val (.long (own_bs nn xx)), .second, .unset, .unset] [(.long (1 : Int64)), (.long (own_bs nn xx))])) _
      refine XS.lcmp X261.here hx rfl (hb hby at_72) rfl ?_
      show Steps p.tables e below (T261.setTop (mkF m 73 #[.val (.int p0), .val (.int p1), .val (.int p2), .val (.int p3), .val (.int p4), .val (.int nn), .val (.int xx), .val (.int bo), .val (.int co), .val (.ref b254), .val (.long (own_bs nn xx)), .second, .unset, .unset] [(.int (lcmpW (own_bs nn xx) (1 : Int64)))])) _
      refine XS.ifNo X261.here hx rfl (hb hby at_73) rfl (show ifCond.holds .ne (lcmpW (own_bs nn xx) (1 : Int64)) = false from Jvm.Free.XT.ll_ne_f (own_b0 hc66 : (own_bs nn xx) = (1 : Int64))) ?_
      show Steps p.tables e below (T261.setTop (mkF m 76 #[.val (.int p0), .val (.int p1), .val (.int p2), .val (.int p3), .val (.int p4), .val (.int nn), .val (.int xx), .val (.int bo), .val (.int co), .val (.ref b254), .val (.long (own_bs nn xx)), .second, .unset, .unset] [])) _
      refine XS.iconst X261.here hx rfl (hb hby at_76) ?_
      show Steps p.tables e below (T261.setTop (mkF m 77 #[.val (.int p0), .val (.int p1), .val (.int p2), .val (.int p3), .val (.int p4), .val (.int nn), .val (.int xx), .val (.int bo), .val (.int co), .val (.ref b254), .val (.long (own_bs nn xx)), .second, .unset, .unset] [(.int (1 : Int32))])) _
      refine XS.goto X261.here hx rfl (pc0 := 77) (pc' := 81) rfl (hb hby at_77) (by decide) (by decide) ?_
      exact kt
    obtain ⟨fs, hr, hrun, hended, hW, hBk, hsame⟩ := own_leave X261 e261 ST259 (v := some (.int (1 : Int32))) (fun h => by rw [Bd.returns] at h; cases h)
    refine ⟨_, _, ?_, hrun, hended, _, _, rfl, ?_, ⟨_, rfl⟩, hW, hBk, hsame.mono (by decide) (by decide)⟩
    · exact retN X261 hx (t := .boolean) Bd.returns (by simp) (hb hby at_81) hr
    · show Q0 Z p0 p1 p2 p3 p4 h0 n0 _ T261.heap _
      rw [e261]
      exact ⟨rfl, N261⟩
  · skip
    refine own_go (S' := T261.setTop (mkF m 121 #[.val (.int p0), .val (.int p1), .val (.int p2), .val (.int p3), .val (.int p4), .val (.int nn), .val (.int xx), .val (.int bo), .val (.int co), .val (.ref b254), .val (.long (own_bs nn xx)), .second, .val (.long (nn.toInt64)), .second] [(.int (1 : Int32))])) (fun target kt => ?_) ?_
    · skip
      show Steps p.tables e below (T261.setTop (mkF m 66 #[.val (.int p0), .val (.int p1), .val (.int p2), .val (.int p3), .val (.int p4), .val (.int nn), .val (.int xx), .val (.int bo), .val (.int co), .val (.ref b254), .val (.long (own_bs nn xx)), .second, .unset, .unset] [(.int xx)])) _
      refine XS.ifYes X261.here hx rfl (pc0 := 66) (pc' := 82) rfl (hb hby at_66) rfl ((if0 _ _).trans (feq hc66).2) (by decide) (by decide) ?_
      show Steps p.tables e below (T261.setTop (mkF m 82 #[.val (.int p0), .val (.int p1), .val (.int p2), .val (.int p3), .val (.int p4), .val (.int nn), .val (.int xx), .val (.int bo), .val (.int co), .val (.ref b254), .val (.long (own_bs nn xx)), .second, .unset, .unset] [])) _
      refine XS.iload X261.here hx rfl (hb hby at_82) rfl ?_
      show Steps p.tables e below (T261.setTop (mkF m 84 #[.val (.int p0), .val (.int p1), .val (.int p2), .val (.int p3), .val (.int p4), .val (.int nn), .val (.int xx), .val (.int bo), .val (.int co), .val (.ref b254), .val (.long (own_bs nn xx)), .second, .unset, .unset] [(.int nn)])) _
      refine XS.i2l X261.here hx rfl (hb hby at_84) rfl ?_
      show Steps p.tables e below (T261.setTop (mkF m 85 #[.val (.int p0), .val (.int p1), .val (.int p2), .val (.int p3), .val (.int p4), .val (.int nn), .val (.int xx), .val (.int bo), .val (.int co), .val (.ref b254), .val (.long (own_bs nn xx)), .second, .unset, .unset] [(.long (nn.toInt64))])) _
      refine XS.lstore X261.here hx rfl (hb hby at_85) rfl (l' := #[.val (.int p0), .val (.int p1), .val (.int p2), .val (.int p3), .val (.int p4), .val (.int nn), .val (.int xx), .val (.int bo), .val (.int co), .val (.ref b254), .val (.long (own_bs nn xx)), .second, .val (.long (nn.toInt64)), .second]) rfl ?_
      show Steps p.tables e below (T261.setTop (mkF m 87 #[.val (.int p0), .val (.int p1), .val (.int p2), .val (.int p3), .val (.int p4), .val (.int nn), .val (.int xx), .val (.int bo), .val (.int co), .val (.ref b254), .val (.long (own_bs nn xx)), .second, .val (.long (nn.toInt64)), .second] [])) _
      refine XS.lload X261.here hx rfl (hb hby at_87) rfl ?_
      show Steps p.tables e below (T261.setTop (mkF m 89 #[.val (.int p0), .val (.int p1), .val (.int p2), .val (.int p3), .val (.int p4), .val (.int nn), .val (.int xx), .val (.int bo), .val (.int co), .val (.ref b254), .val (.long (own_bs nn xx)), .second, .val (.long (nn.toInt64)), .second] [(.long (own_bs nn xx))])) _
      refine XS.lconst X261.here hx rfl (hb hby at_89) ?_
      show Steps p.tables e below (T261.setTop (mkF m 90 #[.val (.int p0), .val (.int p1), .val (.int p2), .val (.int p3), .val (.int p4), .val (.int nn), .val (.int xx), .val (.int bo), .val (.int co), .val (.ref b254), .val (.long (own_bs nn xx)), .second, .val (.long (nn.toInt64)), .second] [(.long (1 : Int64)), (.long (own_bs nn xx))])) _
      refine XS.lcmp X261.here hx rfl (hb hby at_90) rfl ?_
      show Steps p.tables e below (T261.setTop (mkF m 91 #[.val (.int p0), .val (.int p1), .val (.int p2), .val (.int p3), .val (.int p4), .val (.int nn), .val (.int xx), .val (.int bo), .val (.int co), .val (.ref b254), .val (.long (own_bs nn xx)), .second, .val (.long (nn.toInt64)), .second] [(.int (lcmpW (own_bs nn xx) (1 : Int64)))])) _
      refine XS.ifNo X261.here hx rfl (hb hby at_91) rfl (show ifCond.holds .lt (lcmpW (own_bs nn xx) (1 : Int64)) = false from Jvm.Free.XT.ll_lt_f (own_bpos (own_n h_nn) (own_x (y := nn) h_xx) hc66 : ¬ ((own_bs nn xx) < (1 : Int64)))) ?_
      show Steps p.tables e below (T261.setTop (mkF m 94 #[.val (.int p0), .val (.int p1), .val (.int p2), .val (.int p3), .val (.int p4), .val (.int nn), .val (.int xx), .val (.int bo), .val (.int co), .val (.ref b254), .val (.long (own_bs nn xx)), .second, .val (.long (nn.toInt64)), .second] [])) _
      refine XS.lload X261.here hx rfl (hb hby at_94) rfl ?_
      show Steps p.tables e below (T261.setTop (mkF m 96 #[.val (.int p0), .val (.int p1), .val (.int p2), .val (.int p3), .val (.int p4), .val (.int nn), .val (.int xx), .val (.int bo), .val (.int co), .val (.ref b254), .val (.long (own_bs nn xx)), .second, .val (.long (nn.toInt64)), .second] [(.long (own_bs nn xx))])) _
      refine XS.lload X261.here hx rfl (hb hby at_96) rfl ?_
      show Steps p.tables e below (T261.setTop (mkF m 98 #[.val (.int p0), .val (.int p1), .val (.int p2), .val (.int p3), .val (.int p4), .val (.int nn), .val (.int xx), .val (.int bo), .val (.int co), .val (.ref b254), .val (.long (own_bs nn xx)), .second, .val (.long (nn.toInt64)), .second] [(.long (nn.toInt64)), (.long (own_bs nn xx))])) _
      refine XS.lrem X261.here hx rfl (hb hby at_98) rfl (own_bnz (own_n h_nn)) ?_
      rw [own_lremq]
      show Steps p.tables e below (T261.setTop (mkF m 99 #[.val (.int p0), .val (.int p1), .val (.int p2), .val (.int p3), .val (.int p4), .val (.int nn), .val (.int xx), .val (.int bo), .val (.int co), .val (.ref b254), .val (.long (own_bs nn xx)), .second, .val (.long (nn.toInt64)), .second] [(.long ((own_bs nn xx) % (nn.toInt64)))])) _
      refine XS.lconst X261.here hx rfl (hb hby at_99) ?_
      show Steps p.tables e below (T261.setTop (mkF m 100 #[.val (.int p0), .val (.int p1), .val (.int p2), .val (.int p3), .val (.int p4), .val (.int nn), .val (.int xx), .val (.int bo), .val (.int co), .val (.ref b254), .val (.long (own_bs nn xx)), .second, .val (.long (nn.toInt64)), .second] [(.long (0 : Int64)), (.long ((own_bs nn xx) % (nn.toInt64)))])) _
      refine XS.lcmp X261.here hx rfl (hb hby at_100) rfl ?_
      show Steps p.tables e below (T261.setTop (mkF m 101 #[.val (.int p0), .val (.int p1), .val (.int p2), .val (.int p3), .val (.int p4), .val (.int nn), .val (.int xx), .val (.int bo), .val (.int co), .val (.ref b254), .val (.long (own_bs nn xx)), .second, .val (.long (nn.toInt64)), .second] [(.int (lcmpW ((own_bs nn xx) % (nn.toInt64)) (0 : Int64)))])) _
      refine XS.ifNo X261.here hx rfl (hb hby at_101) rfl (show ifCond.holds .ne (lcmpW ((own_bs nn xx) % (nn.toInt64)) (0 : Int64)) = false from Jvm.Free.XT.ll_ne_f (own_brem (own_n h_nn) (own_x (y := nn) h_xx) hc66 : ((own_bs nn xx) % (nn.toInt64)) = (0 : Int64))) ?_
      show Steps p.tables e below (T261.setTop (mkF m 104 #[.val (.int p0), .val (.int p1), .val (.int p2), .val (.int p3), .val (.int p4), .val (.int nn), .val (.int xx), .val (.int bo), .val (.int co), .val (.ref b254), .val (.long (own_bs nn xx)), .second, .val (.long (nn.toInt64)), .second] [])) _
      refine XS.lload X261.here hx rfl (hb hby at_104) rfl ?_
      show Steps p.tables e below (T261.setTop (mkF m 106 #[.val (.int p0), .val (.int p1), .val (.int p2), .val (.int p3), .val (.int p4), .val (.int nn), .val (.int xx), .val (.int bo), .val (.int co), .val (.ref b254), .val (.long (own_bs nn xx)), .second, .val (.long (nn.toInt64)), .second] [(.long (own_bs nn xx))])) _
      refine XS.lload X261.here hx rfl (hb hby at_106) rfl ?_
      show Steps p.tables e below (T261.setTop (mkF m 108 #[.val (.int p0), .val (.int p1), .val (.int p2), .val (.int p3), .val (.int p4), .val (.int nn), .val (.int xx), .val (.int bo), .val (.int co), .val (.ref b254), .val (.long (own_bs nn xx)), .second, .val (.long (nn.toInt64)), .second] [(.long (nn.toInt64)), (.long (own_bs nn xx))])) _
      refine XS.ldiv X261.here hx rfl (hb hby at_108) rfl (own_bnz (own_n h_nn)) ?_
      show Steps p.tables e below (T261.setTop (mkF m 109 #[.val (.int p0), .val (.int p1), .val (.int p2), .val (.int p3), .val (.int p4), .val (.int nn), .val (.int xx), .val (.int bo), .val (.int co), .val (.ref b254), .val (.long (own_bs nn xx)), .second, .val (.long (nn.toInt64)), .second] [(.long ((own_bs nn xx) / (nn.toInt64)))])) _
      refine XS.iload X261.here hx rfl (hb hby at_109) rfl ?_
      show Steps p.tables e below (T261.setTop (mkF m 111 #[.val (.int p0), .val (.int p1), .val (.int p2), .val (.int p3), .val (.int p4), .val (.int nn), .val (.int xx), .val (.int bo), .val (.int co), .val (.ref b254), .val (.long (own_bs nn xx)), .second, .val (.long (nn.toInt64)), .second] [(.int xx), (.long ((own_bs nn xx) / (nn.toInt64)))])) _
      refine XS.i2l X261.here hx rfl (hb hby at_111) rfl ?_
      show Steps p.tables e below (T261.setTop (mkF m 112 #[.val (.int p0), .val (.int p1), .val (.int p2), .val (.int p3), .val (.int p4), .val (.int nn), .val (.int xx), .val (.int bo), .val (.int co), .val (.ref b254), .val (.long (own_bs nn xx)), .second, .val (.long (nn.toInt64)), .second] [(.long (xx.toInt64)), (.long ((own_bs nn xx) / (nn.toInt64)))])) _
      refine XS.lcmp X261.here hx rfl (hb hby at_112) rfl ?_
      show Steps p.tables e below (T261.setTop (mkF m 113 #[.val (.int p0), .val (.int p1), .val (.int p2), .val (.int p3), .val (.int p4), .val (.int nn), .val (.int xx), .val (.int bo), .val (.int co), .val (.ref b254), .val (.long (own_bs nn xx)), .second, .val (.long (nn.toInt64)), .second] [(.int (lcmpW ((own_bs nn xx) / (nn.toInt64)) (xx.toInt64)))])) _
      refine XS.ifNo X261.here hx rfl (hb hby at_113) rfl (show ifCond.holds .ne (lcmpW ((own_bs nn xx) / (nn.toInt64)) (xx.toInt64)) = false from Jvm.Free.XT.ll_ne_f (own_bdiv (own_n h_nn) (own_x (y := nn) h_xx) hc66 : ((own_bs nn xx) / (nn.toInt64)) = (xx.toInt64))) ?_
      show Steps p.tables e below (T261.setTop (mkF m 116 #[.val (.int p0), .val (.int p1), .val (.int p2), .val (.int p3), .val (.int p4), .val (.int nn), .val (.int xx), .val (.int bo), .val (.int co), .val (.ref b254), .val (.long (own_bs nn xx)), .second, .val (.long (nn.toInt64)), .second] [])) _
      refine XS.iconst X261.here hx rfl (hb hby at_116) ?_
      show Steps p.tables e below (T261.setTop (mkF m 117 #[.val (.int p0), .val (.int p1), .val (.int p2), .val (.int p3), .val (.int p4), .val (.int nn), .val (.int xx), .val (.int bo), .val (.int co), .val (.ref b254), .val (.long (own_bs nn xx)), .second, .val (.long (nn.toInt64)), .second] [(.int (1 : Int32))])) _
      refine XS.goto X261.here hx rfl (pc0 := 117) (pc' := 121) rfl (hb hby at_117) (by decide) (by decide) ?_
      exact kt
    obtain ⟨fs, hr, hrun, hended, hW, hBk, hsame⟩ := own_leave X261 e261 ST259 (v := some (.int (1 : Int32))) (fun h => by rw [Bd.returns] at h; cases h)
    refine ⟨_, _, ?_, hrun, hended, _, _, rfl, ?_, ⟨_, rfl⟩, hW, hBk, hsame.mono (by decide) (by decide)⟩
    · exact retN X261 hx (t := .boolean) Bd.returns (by simp) (hb hby at_121) hr
    · show Q0 Z p0 p1 p2 p3 p4 h0 n0 _ T261.heap _
      rw [e261]
      exact ⟨rfl, N261⟩
set_option maxRecDepth 65536 in
set_option maxHeartbeats 40000000 in
theorem comes_1 {Post : Tables → Env → Array Value → State → Outcome → State → Prop} (hpost : ∀ tb e args s v u, (limb_1_1.after args s (.returned v) u = true ∧ limb_1_2.after args s (.returned v) u = true) → FramedW s (.returned v) u (Jvm.fieldLocs frame_1_writes args s ++ Jvm.arrayLocs frame_1_arrays args s ++ Jvm.staticLocs frame_1_statics s) 24 4224 → Post tb e args s (.returned v) u) :
    ArmFor flags0 classFile x code maxLocals ret World_1 tables_1 room_1 Calls_1 rest_1 Pre_1 Post := by
  intro l hfl _ _ p e ha hc hk s m args below hf hA hF happ hP
  obtain ⟨hcalls, hrest, hpre⟩ := hP
  obtain ⟨-, -, -, hnamed, -, -, -, hat⟩ := (Spec.applies_iff hf).mp happ
  obtain ⟨hg, hn⟩ := and_e (Cond.before_iff.mp (show (Jvm.Cond.and given_1 narrow_1).before args s = true from hpre))
  obtain ⟨hg1, hg2⟩ := and_e hg
  obtain ⟨hg3, hg4⟩ := and_e hg2
  obtain ⟨hg5, hg6⟩ := and_e hg4
  obtain ⟨hg7, hg8⟩ := and_e hg6
  obtain ⟨hg9, hg10⟩ := and_e hg8
  obtain ⟨w0, w1, w2, w3, w4, rfl⟩ : ∃ w0 w1 w2 w3 w4 : Value, args = #[w0, w1, w2, w3, w4] := by
    have hs : args.size = 5 := by simpa [Cond.value, given_1] using hg1
    obtain ⟨L⟩ := args
    match L, hs with
    | [w0, w1, w2, w3, w4], _ => exact ⟨w0, w1, w2, w3, w4, rfl⟩
  have hw := fun d (hd : d ∈ tables_1) => atoms_spec (ws := Jvm.Cond.code x code maxLocals ret :: tables_1) hat d (List.mem_cons_of_mem _ hd)
  obtain ⟨i0, ei0⟩ := is_v hg3
  obtain rfl : w0 = (.int i0) := Option.some.inj ei0
  obtain ⟨i1, ei1⟩ := is_v hg5
  obtain rfl : w1 = (.int i1) := Option.some.inj ei1
  obtain ⟨i2, ei2⟩ := is_v hg7
  obtain rfl : w2 = (.int i2) := Option.some.inj ei2
  obtain ⟨i3, ei3⟩ := is_v hg9
  obtain rfl : w3 = (.int i3) := Option.some.inj ei3
  obtain ⟨i4, ei4⟩ := is_v hg10
  obtain rfl : w4 = (.int i4) := Option.some.inj ei4
  obtain ⟨n, o, h1, h2, h3, _, L, rfl, ⟨rfl, N⟩, hq⟩ := rm0 l s _ hw tables_1 i0 i1 i2 i3 i4 s.heap s.heap.size (Nat.le_refl _)  p e ha hc hk s m _ below hf ((Spec.applies_iff_loose hf).mp happ).1 ⟨rfl, State.Warmed39.refl s, rfl⟩ trivial
  refine ⟨n, _, h1, h2, h3, hpost _ _ _ _ _ _ ⟨Cond.after_iff.mpr rfl, Cond.after_iff.mpr (eq_i res_at (Term.int_eval (1)) rfl)⟩ ⟨hq.1, hq.2.1, hq.2.2.1, (hq.2.2.2.sift fun y hy => Or.inr (N y hy)).mono (by decide) (by decide)⟩⟩
theorem main_1_1 : Claimed_1_1 := comes_1 fun _ _ _ _ _ _ h hF => ⟨h.1, hF⟩
theorem main_1_2 : Claimed_1_2 := comes_1 fun _ _ _ _ _ _ h hF => ⟨h.2, hF⟩
end Jvm.Pilot.@@N@@
namespace Jvm.Pilot.@@N@@
open Jvm Jvm.ClassFile Sem Op Lib Jvm.Free Jvm.Stand Jvm.Pilot.@@N@@.Jvm.D
/-! MADE BY PROGRAM (witnessworld.py) out of the Statement's table words and the real class files: 15 classes; the members and pool entries that the words name. The judged class is class 1, her method 1. -/
namespace start1
open Jvm.ClassFile
def u (s : String) : CpInfo := .utf8 (stringToUtf16 s)
/-- a pool by its gaps: so many unusable entries, then the entry; so many at the end -/
def gap : Nat → List CpInfo → List CpInfo
  | 0, r => r
  | n + 1, r => .unusable :: gap n r
def poolList (es : List (Nat × CpInfo)) (last : Nat) : List CpInfo := es.foldr (fun e r => gap e.1 (e.2 :: r)) (gap last [])
def pool (es : List (Nat × CpInfo)) (last : Nat) : Array CpInfo := ⟨poolList es last⟩
def fileOf (pool : Array CpInfo) (this : Nat) (attrs : Array Attribute := #[]) (ms : Array MethodInfo := #[]) (fl : Nat := 33) (sup : Nat := 0) (ifs : Array Nat := #[]) (fds : Array FieldInfo := #[]) : ClassFile where
  minorVersion := 0
  majorVersion := 65
  constantPool := pool
  accessFlags := fl
  thisClass := this
  superClass := sup
  interfaces := ifs
  fields := fds
  methods := ms
  attributes := attrs
def plain (name : String) (sup : Option ClassId) : Class where
  name := name
  kind := .ordinary
  loader := none
  accessFlags := 33
  super := sup
  interfaces := #[]
  cf := none
  fields := #[]
  methods := #[]
  instanceTypes := #[]
  staticTypes := #[]
  resolved := #[]
  callSites := []
  init := .initialized
  statics := none
  mirror := none

def pool0 : Array CpInfo := pool [(5, u "<init>"), (0, u "()V"), (1, .class_ 10), (1, u "java/lang/Object")] 113

def k0c0 : Code := { maxStack := 0, maxLocals := 1, code := object_method_1_code, exceptionTable := #[], attributes := #[] }
def k0m0 : Method := { name := "<init>", desc := "()V", sig := { parameters := [], returnType := none }, accessFlags := 1, code := some k0c0 }
/-- java/lang/Object -/
def k0 : Class := { plain "java/lang/Object" none with
  accessFlags := 33
  interfaces := #[]
  cf := some (fileOf pool0 8 #[] #[{ accessFlags := 1, nameIndex := 5, descriptorIndex := 6, attributes := #[] }] 33 0 #[] #[])
  fields := #[]
  methods := #[k0m0]
  instanceTypes := #[]
  staticTypes := #[]
  resolved := Array.replicate 124 none
  statics := none }

def pool1 : Array CpInfo := pool [(2, .class_ 4), (1, u "java/lang/Object"), (0, u "<init>"), (0, u "()V"), (0, .integer 2147483647), (2, .class_ 11), (0, u "com/example/assertline/assertline/policy/RateLimit$Limits"), (0, .methodref 10 13), (0, .nameAndType 5 14), (0, u "(IIII)V"), (0, .methodref 10 16), (0, .nameAndType 17 18), (0, u "bucketSize"), (0, u "()J"), (0, .class_ 20), (0, u "com/example/assertline/assertline/policy/LimitsBucketSizePinLaw"), (2, u "law"), (0, u "(IIIII)Z")] 7

def k1m0 : Method := { name := "<init>", desc := "()V", sig := { parameters := [], returnType := none }, accessFlags := 2, code := none }
def k1c1 : Code := { maxStack := 6, maxLocals := 14, code := code, exceptionTable := #[], attributes := #[] }
def k1m1 : Method := { name := "law", desc := "(IIIII)Z", sig := { parameters := [.int, .int, .int, .int, .int], returnType := some .boolean }, accessFlags := 9, code := some k1c1 }
/-- com/example/assertline/assertline/policy/LimitsBucketSizePinLaw -/
def k1 : Class := { plain "com/example/assertline/assertline/policy/LimitsBucketSizePinLaw" (some 0) with
  accessFlags := 49
  interfaces := #[]
  cf := some (fileOf pool1 19 #[] #[{ accessFlags := 2, nameIndex := 5, descriptorIndex := 6, attributes := #[] }, { accessFlags := 9, nameIndex := 23, descriptorIndex := 24, attributes := #[] }] 49 2 #[] #[])
  fields := #[]
  methods := #[k1m0, k1m1]
  instanceTypes := #[]
  staticTypes := #[]
  resolved := Array.replicate 32 none
  statics := none }

def pool2 : Array CpInfo := pool [(1, .methodref 2 3), (0, .class_ 4), (0, .nameAndType 5 6), (0, u "java/lang/Object"), (0, u "<init>"), (0, u "()V"), (0, .class_ 8), (0, u "java/lang/Record")] 13

def k2c0 : Code := { maxStack := 1, maxLocals := 1, code := jdk_30_method_1_code, exceptionTable := #[], attributes := #[] }
def k2m0 : Method := { name := "<init>", desc := "()V", sig := { parameters := [], returnType := none }, accessFlags := 4, code := some k2c0 }
/-- java/lang/Record -/
def k2 : Class := { plain "java/lang/Record" (some 0) with
  accessFlags := 1057
  interfaces := #[]
  cf := some (fileOf pool2 7 #[] #[{ accessFlags := 4, nameIndex := 5, descriptorIndex := 6, attributes := #[] }] 1057 2 #[] #[])
  fields := #[]
  methods := #[k2m0]
  instanceTypes := #[]
  staticTypes := #[]
  resolved := Array.replicate 22 none
  statics := none }

def pool3 : Array CpInfo := pool [(1, .methodref 2 3), (0, .class_ 4), (0, .nameAndType 5 6), (0, u "java/lang/Record"), (0, u "<init>"), (0, u "()V"), (0, .string 8), (0, u "max-per-second"), (0, .methodref 10 11), (0, .class_ 12), (0, .nameAndType 13 14), (0, u "com/example/assertline/assertline/policy/RateLimit$Limits"), (0, u "requireAtLeastOne"), (0, u "(Ljava/lang/String;I)V"), (0, .string 16), (0, u "burst-seconds"), (0, .string 18), (0, u "blackout-seconds"), (0, .string 20), (0, u "max-concurrency"), (0, .fieldref 10 22), (0, .nameAndType 23 24), (0, u "maxPerSecond"), (0, u "I"), (0, .fieldref 10 26), (0, .nameAndType 27 24), (0, u "burstSeconds"), (0, .fieldref 10 29), (0, .nameAndType 30 24), (0, u "blackoutSeconds"), (0, .fieldref 10 32), (0, .nameAndType 33 24), (0, u "maxConcurrency"), (21, u "NONE"), (2, u "(IIII)V"), (4, u "bucketSize"), (0, u "()J"), (6, .class_ 72), (0, u "com/example/assertline/assertline/policy/RateLimit")] 30

def k3c0 : Code := { maxStack := 2, maxLocals := 5, code := prog_52_method_1_code, exceptionTable := #[], attributes := #[] }
def k3m0 : Method := { name := "<init>", desc := "(IIII)V", sig := { parameters := [.int, .int, .int, .int], returnType := none }, accessFlags := 1, code := some k3c0 }
def k3c1 : Code := { maxStack := 4, maxLocals := 1, code := prog_52_method_2_code, exceptionTable := #[], attributes := #[] }
def k3m1 : Method := { name := "bucketSize", desc := "()J", sig := { parameters := [], returnType := some .long }, accessFlags := 1, code := some k3c1 }
def k3c2 : Code := { maxStack := 4, maxLocals := 2, code := prog_52_method_3_code, exceptionTable := #[], attributes := #[] }
def k3m2 : Method := { name := "requireAtLeastOne", desc := "(Ljava/lang/String;I)V", sig := { parameters := [(.object "java/lang/String"), .int], returnType := none }, accessFlags := 10, code := some k3c2 }
/-- com/example/assertline/assertline/policy/RateLimit$Limits -/
def k3 : Class := { plain "com/example/assertline/assertline/policy/RateLimit$Limits" (some 2) with
  accessFlags := 49
  interfaces := #[]
  cf := some (fileOf pool3 10 #[.nestHost 71] #[{ accessFlags := 1, nameIndex := 5, descriptorIndex := 58, attributes := #[] }, { accessFlags := 1, nameIndex := 63, descriptorIndex := 64, attributes := #[] }, { accessFlags := 10, nameIndex := 13, descriptorIndex := 14, attributes := #[] }] 49 2 #[] #[{ accessFlags := 18, nameIndex := 23, descriptorIndex := 24, attributes := #[] }, { accessFlags := 18, nameIndex := 27, descriptorIndex := 24, attributes := #[] }, { accessFlags := 18, nameIndex := 30, descriptorIndex := 24, attributes := #[] }, { accessFlags := 18, nameIndex := 33, descriptorIndex := 24, attributes := #[] }, { accessFlags := 25, nameIndex := 55, descriptorIndex := 24, attributes := #[] }])
  fields := #[{ name := "maxPerSecond", type := .int, accessFlags := 18, slot := 0, constantValue := 0 }, { name := "burstSeconds", type := .int, accessFlags := 18, slot := 1, constantValue := 0 }, { name := "blackoutSeconds", type := .int, accessFlags := 18, slot := 2, constantValue := 0 }, { name := "maxConcurrency", type := .int, accessFlags := 18, slot := 3, constantValue := 0 }, { name := "NONE", type := .int, accessFlags := 25, slot := 0, constantValue := 0 }]
  methods := #[k3m0, k3m1, k3m2]
  instanceTypes := #[.int, .int, .int, .int]
  staticTypes := #[.int]
  resolved := Array.replicate 103 none
  statics := none }

def pool4 : Array CpInfo := pool [(1, .class_ 2), (0, u "java/io/Serializable"), (0, .class_ 4), (0, u "java/lang/Object")] 2

/-- java/io/Serializable -/
def k4 : Class := { plain "java/io/Serializable" (some 0) with
  accessFlags := 1537
  interfaces := #[]
  cf := some (fileOf pool4 1 #[] #[] 1537 3 #[] #[])
  fields := #[]
  methods := #[]
  instanceTypes := #[]
  staticTypes := #[]
  resolved := Array.replicate 7 none
  statics := none }

def pool5 : Array CpInfo := pool [(1, .class_ 2), (0, u "java/lang/Comparable"), (0, .class_ 4), (0, u "java/lang/Object")] 7

/-- java/lang/Comparable -/
def k5 : Class := { plain "java/lang/Comparable" (some 0) with
  accessFlags := 1537
  interfaces := #[]
  cf := some (fileOf pool5 1 #[] #[] 1537 3 #[] #[])
  fields := #[]
  methods := #[]
  instanceTypes := #[]
  staticTypes := #[]
  resolved := Array.replicate 12 none
  statics := none }

def pool6 : Array CpInfo := pool [(2, .class_ 4), (1, u "java/lang/CharSequence"), (42, .class_ 48), (0, u "java/lang/CharSequence$1CodePointIterator"), (10, .class_ 60), (0, u "java/lang/CharSequence$1CharIterator"), (5, .class_ 67), (0, u "java/lang/Object")] 63

/-- java/lang/CharSequence -/
def k6 : Class := { plain "java/lang/CharSequence" (some 0) with
  accessFlags := 1537
  interfaces := #[]
  cf := some (fileOf pool6 2 #[.nestMembers #[47, 59]] #[] 1537 66 #[] #[])
  fields := #[]
  methods := #[]
  instanceTypes := #[]
  staticTypes := #[]
  resolved := Array.replicate 131 none
  statics := none }

def pool7 : Array CpInfo := pool [(1, .class_ 2), (0, u "java/lang/constant/Constable"), (0, .class_ 4), (0, u "java/lang/Object")] 6

/-- java/lang/constant/Constable -/
def k7 : Class := { plain "java/lang/constant/Constable" (some 0) with
  accessFlags := 1537
  interfaces := #[]
  cf := some (fileOf pool7 1 #[] #[] 1537 3 #[] #[])
  fields := #[]
  methods := #[]
  instanceTypes := #[]
  staticTypes := #[]
  resolved := Array.replicate 11 none
  statics := none }

def pool8 : Array CpInfo := pool [(1, .class_ 2), (0, u "java/lang/constant/ConstantDesc"), (0, .class_ 4), (0, u "java/lang/Object")] 32

/-- java/lang/constant/ConstantDesc -/
def k8 : Class := { plain "java/lang/constant/ConstantDesc" (some 0) with
  accessFlags := 1537
  interfaces := #[]
  cf := some (fileOf pool8 1 #[] #[] 1537 3 #[] #[])
  fields := #[]
  methods := #[]
  instanceTypes := #[]
  staticTypes := #[]
  resolved := Array.replicate 37 none
  statics := none }

def pool9 : Array CpInfo := pool [(2, .class_ 4), (1, u "java/lang/Object"), (0, u "<init>"), (0, u "()V"), (3, .class_ 12), (1, u "java/lang/String"), (0, u "value"), (0, u "[B"), (2, u "coder"), (0, u "B"), (2, u "hash"), (0, u "I"), (2, u "hashIsZero"), (0, u "Z"), (13, u "COMPACT_STRINGS"), (534, .class_ 576), (0, u "java/lang/CharSequence"), (22, u "CASE_INSENSITIVE_ORDER"), (0, u "Ljava/util/Comparator;"), (500, u "serialPersistentFields"), (0, u "[Ljava/io/ObjectStreamField;"), (0, .class_ 1104), (0, u "java/lang/String$CaseInsensitiveComparator"), (1, .class_ 1107), (0, u "java/io/Serializable"), (0, .class_ 1109), (0, u "java/lang/Comparable"), (0, .class_ 1111), (0, u "java/lang/constant/Constable"), (0, .class_ 1113), (0, u "java/lang/constant/ConstantDesc"), (2, u "serialVersionUID"), (0, u "J"), (3, u "REPL"), (0, u "C"), (2, u "LATIN1"), (1, u "UTF16")] 323

def k9m0 : Method := { name := "<init>", desc := "()V", sig := { parameters := [], returnType := none }, accessFlags := 1, code := none }
/-- java/lang/String -/
def k9 : Class := { plain "java/lang/String" (some 0) with
  accessFlags := 49
  interfaces := #[4, 5, 6, 7, 8]
  cf := some (fileOf pool9 10 #[.nestMembers #[1103]] #[{ accessFlags := 1, nameIndex := 5, descriptorIndex := 6, attributes := #[] }] 49 2 #[1106, 1108, 575, 1110, 1112] #[{ accessFlags := 18, nameIndex := 13, descriptorIndex := 14, attributes := #[] }, { accessFlags := 18, nameIndex := 17, descriptorIndex := 18, attributes := #[] }, { accessFlags := 2, nameIndex := 21, descriptorIndex := 22, attributes := #[] }, { accessFlags := 2, nameIndex := 25, descriptorIndex := 26, attributes := #[] }, { accessFlags := 26, nameIndex := 1116, descriptorIndex := 1117, attributes := #[] }, { accessFlags := 24, nameIndex := 40, descriptorIndex := 26, attributes := #[] }, { accessFlags := 26, nameIndex := 1101, descriptorIndex := 1102, attributes := #[] }, { accessFlags := 26, nameIndex := 1121, descriptorIndex := 1122, attributes := #[] }, { accessFlags := 25, nameIndex := 599, descriptorIndex := 600, attributes := #[] }, { accessFlags := 24, nameIndex := 1125, descriptorIndex := 18, attributes := #[] }, { accessFlags := 24, nameIndex := 1127, descriptorIndex := 18, attributes := #[] }])
  fields := #[{ name := "value", type := (.array .byte), accessFlags := 18, slot := 0, constantValue := 0 }, { name := "coder", type := .byte, accessFlags := 18, slot := 1, constantValue := 0 }, { name := "hash", type := .int, accessFlags := 2, slot := 2, constantValue := 0 }, { name := "hashIsZero", type := .boolean, accessFlags := 2, slot := 3, constantValue := 0 }, { name := "serialVersionUID", type := .long, accessFlags := 26, slot := 0, constantValue := 0 }, { name := "COMPACT_STRINGS", type := .boolean, accessFlags := 24, slot := 1, constantValue := 0 }, { name := "serialPersistentFields", type := (.array (.object "java/io/ObjectStreamField")), accessFlags := 26, slot := 2, constantValue := 0 }, { name := "REPL", type := .char, accessFlags := 26, slot := 3, constantValue := 0 }, { name := "CASE_INSENSITIVE_ORDER", type := (.object "java/util/Comparator"), accessFlags := 25, slot := 4, constantValue := 0 }, { name := "LATIN1", type := .byte, accessFlags := 24, slot := 5, constantValue := 0 }, { name := "UTF16", type := .byte, accessFlags := 24, slot := 6, constantValue := 0 }]
  methods := #[k9m0]
  instanceTypes := #[(.array .byte), .byte, .int, .boolean]
  staticTypes := #[.long, .boolean, (.array (.object "java/io/ObjectStreamField")), .char, (.object "java/util/Comparator"), .byte, .byte]
  resolved := Array.replicate 1451 none
  statics := none }

def pool10 : Array CpInfo := pool [(1, u "java/lang/Cloneable"), (0, .class_ 1), (0, u "java/lang/Object"), (0, .class_ 3)] 3

/-- java/lang/Cloneable -/
def k10 : Class := { plain "java/lang/Cloneable" (some 0) with
  accessFlags := 1537
  interfaces := #[]
  cf := some (fileOf pool10 2 #[] #[] 1537 4 #[] #[])
  fields := #[]
  methods := #[]
  instanceTypes := #[]
  staticTypes := #[]
  resolved := Array.replicate 8 none
  statics := none }

/-- the primitive byte -/
def k11 : Class := { plain "byte" none with kind := .primitive 'B', accessFlags := 0x411 }
/-- [B -/
def k12 : Class := { plain "[B" (some 0) with kind := .array 11 .byte, interfaces := #[10, 4], accessFlags := 1041 }

/-- the primitive int -/
def k13 : Class := { plain "int" none with kind := .primitive 'I', accessFlags := 0x411 }
/-- [I -/
def k14 : Class := { plain "[I" (some 0) with kind := .array 13 .int, interfaces := #[10, 4], accessFlags := 1041 }

def heap : Heap := #[]
def classes : Array Class := #[k0, k1, k2, k3, k4, k5, k6, k7, k8, k9, k10, k11, k12, k13, k14]
def interned : List (Array UInt16 × Addr) := []
def slotsUsed : Nat := 0
def theMethod : MethodId := ⟨1, 1⟩
def args0 : Array Value := #[.int 5, .int 7, .int 8, .int 9, .int 10]
def aboutOver (below : List Frame) : State where
  vm := { classes := classes, interned := interned.toArray }
  heap := heap
  slotsUsed := slotsUsed
  threads := #[{ frames := .invoking theMethod args0 :: below }]
def below0 : List Frame := [.native { method := ⟨0, 0⟩, args := #[] }]
def about1 : State := aboutOver below0
def p0 : Program := .bare "" "" ""
def e0 : Env := launch0.env 0 0 0
theorem w_frames : about1.frames = Frame.invoking theMethod args0 :: below0 := rfl
set_option maxRecDepth 65536 in
theorem w_args : argsFit about1.vm theMethod args0 = true := by decide +kernel
set_option maxRecDepth 65536 in
theorem w_heap : heapFits about1 = true := by decide +kernel
set_option maxRecDepth 65536 in
theorem w_runnable : about1.curStatus? = some .runnable := by decide +kernel
set_option maxRecDepth 65536 in
theorem w_alone : about1.alone = true := by decide +kernel
set_option maxRecDepth 65536 in
theorem w_named : about1.methodNamed? x = some theMethod := by decide +kernel
set_option maxRecDepth 65536 in
theorem w_hears : about1.hears theMethod below0 = true := by decide +kernel
set_option maxRecDepth 65536 in
theorem w_ripe : about1.ripe theMethod args0 below0 = true := by decide +kernel
theorem w_running : about1.status = .running := rfl
set_option maxRecDepth 65536 in
theorem w_room : about1.hasRoom e0.platform room_1 = true :=
  launch0.hasRoom_least _ room_1 (by decide +kernel) (by decide +kernel) (by decide +kernel) (by decide +kernel) (by decide +kernel) (by decide +kernel)
theorem allAtoms_all (ts : List Jvm.Cond) (a : Array Jvm.Value) (st : Jvm.State) : (allAtoms ts).before a st = ts.all (fun c => c.before a st) := by
  induction ts with
  | nil => rfl
  | cons c t ih =>
    show (Jvm.Cond.and c (allAtoms t)).before a st = _
    rw [Jvm.Cond.before_and, ih, List.all_cons]
def words1 : List Jvm.Cond := Jvm.Cond.code x code maxLocals ret :: tables_1
/-- a 'code' word, met by the world's own term for the bytes: nothing is compared byte by byte -/
theorem code_word {y : MethodName} {bytes : ByteArray} {mx : Nat} {rt : Option FieldType} {a : Array Value} {s : State} {m : MethodId} {meth : Method} {c : Code} (h1 : s.methodNamed? y = some m) (h2 : s.vm.method? m = some meth) (h3 : meth.code = some c) (h4 : c.code = bytes)
    (h5 : (c.maxLocals == mx && c.exceptionTable.isEmpty && decide (c.maxStack ≤ mostOperands) && decide (meth.sig.returnType = rt) && !meth.locks && decide (parseMethodDescriptor y.desc = some meth.sig)) = true) : (Jvm.Cond.code y bytes mx rt).before a s = true := by
  simp only [Bool.and_eq_true, beq_iff_eq, Bool.not_eq_true', decide_eq_true_eq] at h5
  obtain ⟨⟨⟨⟨⟨g1, g2⟩, g3⟩, g4⟩, g5⟩, g6⟩ := h5
  simp [Cond.before, Cond.holds, Cond.value, h1, h2, h3, h4, g1, g2, g3, g4, g5, g6]
def isCode : Jvm.Cond → Bool
  | .code _ _ _ _ => true
  | _ => false
theorem all_split {L : List Jvm.Cond} {P : Jvm.Cond → Bool} (h1 : L.all (fun c => isCode c || P c) = true) (h2 : ∀ c ∈ L.filter isCode, P c = true) : L.all P = true := by
  refine List.all_eq_true.mpr fun c hc => ?_
  have h := List.all_eq_true.mp h1 c hc
  rcases Bool.eq_false_or_eq_true (isCode c) with hi | hi
  · exact h2 c (List.mem_filter.mpr ⟨hc, hi⟩)
  · simpa [hi] using h
set_option maxRecDepth 65536 in
theorem w_c0 : (Jvm.Cond.code x code maxLocals ret).before args0 about1 = true := code_word (m := ⟨1, 1⟩) (meth := k1m1) (c := k1c1) (by decide +kernel) rfl rfl rfl (by decide +kernel)
set_option maxRecDepth 65536 in
theorem w_c1 : (Jvm.Cond.code ({ cls := "com/example/assertline/assertline/policy/RateLimit$Limits", name := "<init>", desc := "(IIII)V" } : Jvm.MethodName) prog_52_method_1_code (5 : Nat) (Option.none : Option Jvm.ClassFile.FieldType)).before args0 about1 = true := code_word (m := ⟨3, 0⟩) (meth := k3m0) (c := k3c0) (by decide +kernel) rfl rfl rfl (by decide +kernel)
set_option maxRecDepth 65536 in
theorem w_c2 : (Jvm.Cond.code ({ cls := "java/lang/Record", name := "<init>", desc := "()V" } : Jvm.MethodName) jdk_30_method_1_code (1 : Nat) (Option.none : Option Jvm.ClassFile.FieldType)).before args0 about1 = true := code_word (m := ⟨2, 0⟩) (meth := k2m0) (c := k2c0) (by decide +kernel) rfl rfl rfl (by decide +kernel)
set_option maxRecDepth 65536 in
theorem w_c3 : (Jvm.Cond.code ({ cls := "java/lang/Object", name := "<init>", desc := "()V" } : Jvm.MethodName) object_method_1_code (1 : Nat) (Option.none : Option Jvm.ClassFile.FieldType)).before args0 about1 = true := code_word (m := ⟨0, 0⟩) (meth := k0m0) (c := k0c0) (by decide +kernel) rfl rfl rfl (by decide +kernel)
set_option maxRecDepth 65536 in
theorem w_c4 : (Jvm.Cond.code ({ cls := "com/example/assertline/assertline/policy/RateLimit$Limits", name := "requireAtLeastOne", desc := "(Ljava/lang/String;I)V" } : Jvm.MethodName) prog_52_method_3_code (2 : Nat) (Option.none : Option Jvm.ClassFile.FieldType)).before args0 about1 = true := code_word (m := ⟨3, 2⟩) (meth := k3m2) (c := k3c2) (by decide +kernel) rfl rfl rfl (by decide +kernel)
set_option maxRecDepth 65536 in
theorem w_c5 : (Jvm.Cond.code ({ cls := "com/example/assertline/assertline/policy/RateLimit$Limits", name := "bucketSize", desc := "()J" } : Jvm.MethodName) prog_52_method_2_code (1 : Nat) (Option.some Jvm.ClassFile.FieldType.long)).before args0 about1 = true := code_word (m := ⟨3, 1⟩) (meth := k3m1) (c := k3c1) (by decide +kernel) rfl rfl rfl (by decide +kernel)
def codes1 : List Jvm.Cond := [Jvm.Cond.code x code maxLocals ret, Jvm.Cond.code ({ cls := "com/example/assertline/assertline/policy/RateLimit$Limits", name := "<init>", desc := "(IIII)V" } : Jvm.MethodName) prog_52_method_1_code (5 : Nat) (Option.none : Option Jvm.ClassFile.FieldType), Jvm.Cond.code ({ cls := "java/lang/Record", name := "<init>", desc := "()V" } : Jvm.MethodName) jdk_30_method_1_code (1 : Nat) (Option.none : Option Jvm.ClassFile.FieldType), Jvm.Cond.code ({ cls := "java/lang/Object", name := "<init>", desc := "()V" } : Jvm.MethodName) object_method_1_code (1 : Nat) (Option.none : Option Jvm.ClassFile.FieldType), Jvm.Cond.code ({ cls := "com/example/assertline/assertline/policy/RateLimit$Limits", name := "requireAtLeastOne", desc := "(Ljava/lang/String;I)V" } : Jvm.MethodName) prog_52_method_3_code (2 : Nat) (Option.none : Option Jvm.ClassFile.FieldType), Jvm.Cond.code ({ cls := "com/example/assertline/assertline/policy/RateLimit$Limits", name := "bucketSize", desc := "()J" } : Jvm.MethodName) prog_52_method_2_code (1 : Nat) (Option.some Jvm.ClassFile.FieldType.long)]
set_option maxRecDepth 65536 in
theorem codes_eq : words1.filter isCode = codes1 := rfl
theorem w_codes : ∀ c ∈ words1.filter isCode, c.before args0 about1 = true := by
  rw [codes_eq]
  intro c hc
  simp only [codes1, List.mem_cons, List.not_mem_nil, or_false] at hc
  rcases hc with rfl | rfl | rfl | rfl | rfl | rfl
  · exact w_c0
  · exact w_c1
  · exact w_c2
  · exact w_c3
  · exact w_c4
  · exact w_c5
set_option maxRecDepth 65536 in
theorem w_t1 : (words1.take 24).all (fun c => isCode c || c.before args0 about1) = true := by decide +kernel
set_option maxRecDepth 65536 in
theorem w_t2 : (words1.drop 24).all (fun c => isCode c || c.before args0 about1) = true := by decide +kernel
theorem w_tables : (allAtoms (Jvm.Cond.code x code maxLocals ret :: tables_1)).before args0 about1 = true := by
  rw [allAtoms_all]
  show words1.all (fun c => c.before args0 about1) = true
  refine all_split ?_ w_codes
  rw [← List.take_append_drop 24 words1, List.all_append, w_t1, w_t2]
  rfl
set_option maxRecDepth 65536 in
theorem w_case : (Jvm.Cond.and given_1 narrow_1).before args0 about1 = true := by decide +kernel
theorem w_applies : (headSpec (Jvm.Cond.code x code maxLocals ret :: tables_1) room_1).applies x e0.platform about1 = true :=
  (Spec.applies_iff w_frames).mpr ⟨w_running, w_runnable, w_alone, w_named, w_hears, w_ripe, w_room, w_tables⟩
theorem atStart : AtStart classFile x code maxLocals ret World_1 tables_1 room_1 Calls_1 rest_1 Pre_1 launch0 p0 e0 about1 theMethod args0 below0 :=
  ⟨lists_1, trivial, launch0.admits_env _ _ _, launch0.least_env, fairChoices_fair.cas, fairChoices_fair.clock, w_frames, w_args, w_heap, w_applies, trivial, trivial, w_case⟩
end start1
theorem witness_1 : WitnessClaimed_1 := ⟨start1.p0, start1.e0, start1.about1, start1.theMethod, start1.args0, start1.below0, start1.atStart⟩
end Jvm.Pilot.@@N@@
