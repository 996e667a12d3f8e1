import JvmDerived
import JvmDerived.Pilot.@@N@@Statement
import JvmDerived.Pilot.@@N@@Code
set_option linter.unusedVariables false
set_option linter.unusedSimpArgs false
namespace Jvm.RoadKit
open Sem ClassFile Op Lib Jvm.Stand Jvm.Free Jvm.LawKit
section New
variable {p : Program} {l : Launch} {e : Env} {R : Room} {s : State} {m : MethodId} {args : Array Value} {below : List Frame} {meth : Method} {c : Code} {T : State} {locs : List Loc} {cells slots : Nat}
theorem retI (X : Stand p l e R s m args below meth c T locs cells slots) (hx : p.tables.exec = Jvm.exec) {pc : Nat} {Ls : Array Slot} {z : Int32} {rest : List Value} (hret : meth.sig.returnType = some .int) (hd : decode c.code pc = .ok (.ireturn, 1)) {fs : List Frame}
    (hl : ∀ (f : JFrame) (acts : List Action), f.method = m → f.locked = none → f.entered = [] → (doReturn e (T.setTop f) acts (some (.int z))).1 = T.setFrames fs) : Steps p.tables e below (T.setTop (mkF m pc Ls (.int z :: rest))) (T.setFrames fs) := by
  have hm' : T.vm.method? m = some meth := X.method'
  have hn : narrow .int (.int z) = .int z := rfl
  show Steps p.tables e below (T.setTop { method := m, pc := pc, locals := Ls, stack := _ :: rest, locked := none }) _
  jvm_step X.here [X.here.top, hx, hd, hm', hret, hn]
  first | (intro acts; rw [hl _ acts rfl rfl rfl]) | rw [hl _ _ rfl rfl rfl]
  exact Steps.refl _
def own_shrL (x : Int64) (y : Int32) : Int64 := (x.toUInt64 >>> (y &&& 0x3f).toInt64.toUInt64).toInt64
def own_shrI (x y : Int32) : Int32 := (x.toUInt32 >>> (y &&& 31).toUInt32).toInt32
theorem own_go {tb : Tables} {T' : State} {f f' : JFrame} {G : State → Outcome → Prop} (k : ∀ t, Steps tb e below (T'.setTop f') t → Steps tb e below (T.setTop f) t) (h : ∃ s₂ o, Steps tb e below (T'.setTop f') s₂ ∧ G s₂ o) : ∃ s₂ o, Steps tb e below (T.setTop f) s₂ ∧ G s₂ o := by
  obtain ⟨s₂, o, a, b⟩ := h
  exact ⟨s₂, o, k _ a, b⟩
theorem own_pt {Q : Option Value → Heap → List Loc → Prop} {rc rs : Nat} {vv : Option Value} {g : JFrame} {rest : List Value} (hv : ∀ v h L, Q v h L → v = vv)
    (H : ∃ (v : Option Value) (vm₁ : Vm) (B : Pt), s.WarmedH vm₁ ∧ Stand p l e R s m args below meth c B.U B.locs B.cells B.slots ∧ (∃ L, Q v B.U.heap L ∧ B.locs = locs ++ L ∧ B.cells = cells + rc ∧ B.slots = slots + rs) ∧
      ∀ target, Steps p.tables e below (B.U.setTop { g with pc := g.pc + 3, stack := v.toList ++ rest }) target → Steps p.tables e below (T.setTop g) target) :
    ∃ (T' : State) (L : List Loc), Stand p l e R s m args below meth c T' (locs ++ L) (cells + rc) (slots + rs) ∧ Q vv T'.heap L ∧ ∀ target, Steps p.tables e below (T'.setTop { g with pc := g.pc + 3, stack := vv.toList ++ rest }) target → Steps p.tables e below (T.setTop g) target := by
  obtain ⟨v, vm₁, ⟨T', L', k', n'⟩, -, X', ⟨L, hQ, e1, e2, e3⟩, st⟩ := H
  obtain rfl := hv _ _ _ hQ
  cases e1; cases e2; cases e3
  exact ⟨T', L, X', hQ, st⟩
theorem own_pt2 {Q : Option Value → Heap → List Loc → Prop} {rc rs : Nat} {vv : Option Value} {g : JFrame} {rest : List Value} (hv : ∀ v h L, Q v h L → v = vv)
    (H : ∃ (v : Option Value) (vm₁ : Vm) (B : Pt), s.WarmedH vm₁ ∧ Stand p l e R s m args below meth c B.U B.locs B.cells B.slots ∧ (∃ L, Q v B.U.heap L ∧ B.locs = locs ++ L ∧ B.cells = cells + rc ∧ B.slots = slots + rs) ∧
      Steps p.tables e below (T.setTop g) (B.U.setTop { g with pc := g.pc + 3, stack := v.toList ++ rest })) :
    ∃ (T' : State) (L : List Loc), Stand p l e R s m args below meth c T' (locs ++ L) (cells + rc) (slots + rs) ∧ Q vv T'.heap L ∧ ∀ target, Steps p.tables e below (T'.setTop { g with pc := g.pc + 3, stack := vv.toList ++ rest }) target → Steps p.tables e below (T.setTop g) target := by
  obtain ⟨v, vm₁, ⟨T', L', k', n'⟩, -, X', ⟨L, hQ, e1, e2, e3⟩, st⟩ := H
  obtain rfl := hv _ _ _ hQ
  cases e1; cases e2; cases e3
  exact ⟨T', L, X', hQ, fun t k => st.trans k⟩
theorem own_cut {tb : Tables} {f f' : JFrame} {G : State → Outcome → Prop} {P : State → Prop} (h1 : (∀ T', P T' → ∃ s₂ o, Steps tb e below (T'.setTop f') s₂ ∧ G s₂ o) → ∃ s₂ o, Steps tb e below (T.setTop f) s₂ ∧ G s₂ o) (h2 : ∀ T', P T' → ∃ s₂ o, Steps tb e below (T'.setTop f') s₂ ∧ G s₂ o) : ∃ s₂ o, Steps tb e below (T.setTop f) s₂ ∧ G s₂ o := h1 h2
end New
abbrev own_One (o : Slot) : Prop := o = .unset ∨ ∃ w, o = .val w ∧ w.category = 1
section Arrays
variable {p : Program} {l : Launch} {e : Env} {R : Room} {s : State} {m : MethodId} {args : Array Value} {below : List Frame} {meth : Method} {c : Code} {T : State} {locs : List Loc} {cells slots : Nat} {Z : State} {h h' : Heap} {a b : Addr} {ty : FieldType} {z : Int32} {f : Nat → Int32} {fj : Nat → Int64} {ws : List Addr} {sl : Nat} {v : Value}
def own_ArI (Z : State) (h : Heap) (a : Addr) (ty : FieldType) (z : Int32) (f : Nat → Int32) : Prop := ∃ c : Cell, Arr Z h a c ty ∧ c.slots.size = z.toInt.toNat ∧ 0 ≤ z.toInt ∧ ∀ i, i < z.toInt.toNat → c.slots[i]? = some (.int (f i)) ∧ fits ty (.int (f i)) = true
def own_ArJ (Z : State) (h : Heap) (a : Addr) (ty : FieldType) (z : Int32) (f : Nat → Int64) : Prop := ∃ c : Cell, Arr Z h a c ty ∧ c.slots.size = z.toInt.toNat ∧ 0 ≤ z.toInt ∧ ∀ i, i < z.toInt.toNat → c.slots[i]? = some (.long (f i))
theorem own_ArI.lt (F : own_ArI Z h a ty z f) : a < h.size := by obtain ⟨c, A, -⟩ := F; exact A.lt
theorem own_ArJ.lt (F : own_ArJ Z h a ty z fj) : a < h.size := by obtain ⟨c, A, -⟩ := F; exact A.lt
theorem own_ArI.ext (F : own_ArI Z h a ty z f) (E : Ext h h') : own_ArI Z h' a ty z f := by obtain ⟨c, A, r⟩ := F; exact ⟨c, A.ext E, r⟩
theorem own_ArJ.ext (F : own_ArJ Z h a ty z fj) (E : Ext h h') : own_ArJ Z h' a ty z fj := by obtain ⟨c, A, r⟩ := F; exact ⟨c, A.ext E, r⟩
theorem own_ArI.other (F : own_ArI Z h b ty z f) (W : Wr h h' a sl v) (q : b ≠ a) : own_ArI Z h' b ty z f := by obtain ⟨c, A, r⟩ := F; exact ⟨c, A.other W q, r⟩
theorem own_ArJ.other (F : own_ArJ Z h b ty z fj) (W : Wr h h' a sl v) (q : b ≠ a) : own_ArJ Z h' b ty z fj := by obtain ⟨c, A, r⟩ := F; exact ⟨c, A.other W q, r⟩
theorem own_ArI.keep (F : own_ArI Z h a ty z f) (K : Keep h h' ws) (q : a ∉ ws) : own_ArI Z h' a ty z f := by obtain ⟨c, A, r⟩ := F; exact ⟨c, ⟨K.2.1 a c A.1 q, A.2⟩, r⟩
theorem own_ArJ.keep (F : own_ArJ Z h a ty z fj) (K : Keep h h' ws) (q : a ∉ ws) : own_ArJ Z h' a ty z fj := by obtain ⟨c, A, r⟩ := F; exact ⟨c, ⟨K.2.1 a c A.1 q, A.2⟩, r⟩
theorem own_nn (q : ¬ z < 0) : 0 ≤ z.toInt := by rw [Int32.lt_iff_toInt_lt] at q; have e0 : (0 : Int32).toInt = 0 := rfl; omega
theorem own_ArI.new {k : ClassId} (A : Arr Z h a (newA k ty z) ty) (q : ¬ z < 0) (hd : defaultValue ty = .int 0) (hf : fits ty (.int 0) = true := by rfl) : own_ArI Z h a ty z (fun _ => 0) :=
  ⟨_, A, sz_new _ _ _, own_nn q, fun i hi => ⟨by have hi' : i < z.toNatClampNeg := hi; simp [newA, hd, hi'], hf⟩⟩
theorem own_ArJ.new {k : ClassId} (A : Arr Z h a (newA k ty z) ty) (q : ¬ z < 0) (hd : defaultValue ty = .long 0) : own_ArJ Z h a ty z (fun _ => 0) :=
  ⟨_, A, sz_new _ _ _, own_nn q, fun i hi => by have hi' : i < z.toNatClampNeg := hi; simp [newA, hd, hi']⟩
theorem own_in {j : Int32} {n : Nat} (hn : n = z.toInt.toNat) (h1 : 0 ≤ j.toInt) (h2 : j.toInt < z.toInt) : ¬ (j < 0 ∨ n ≤ j.toNatClampNeg) := by
  have e0 : (0 : Int32).toInt = 0 := rfl
  rw [Int32.lt_iff_toInt_lt, hn]; show ¬ (_ ∨ _ ≤ j.toInt.toNat); omega
theorem own_ArI.set (F : own_ArI Z h a ty z f) {j : Nat} {x : Int32} (W : Wr h h' a j (.int x)) (hx : fits ty (.int x) = true) : own_ArI Z h' a ty z (fun i => if i = j then x else f i) := by
  obtain ⟨c, A, S, q, H⟩ := F
  refine ⟨_, A.same W, by rw [sz_set]; exact S, q, fun i hi => ?_⟩
  by_cases e : i = j
  · subst e
    have hlt : i < c.slots.size := by rw [S]; exact hi
    simp only [if_pos]
    exact ⟨by simp [Cell.setSlot, hlt], hx⟩
  · simp only [if_neg e]
    have hne : (c.setSlot j (.int x)).slots[i]? = c.slots[i]? := by simp only [Cell.setSlot]; exact Array.getElem?_setIfInBounds_ne (Ne.symm e)
    rw [hne]; exact H i hi
theorem own_ArJ.set (F : own_ArJ Z h a ty z fj) {j : Nat} {x : Int64} (W : Wr h h' a j (.long x)) : own_ArJ Z h' a ty z (fun i => if i = j then x else fj i) := by
  obtain ⟨c, A, S, q, H⟩ := F
  refine ⟨_, A.same W, by rw [sz_set]; exact S, q, fun i hi => ?_⟩
  by_cases e : i = j
  · subst e
    have hlt : i < c.slots.size := by rw [S]; exact hi
    simp only [if_pos]
    simp [Cell.setSlot, hlt]
  · simp only [if_neg e]
    have hne : (c.setSlot j (.long x)).slots[i]? = c.slots[i]? := by simp only [Cell.setSlot]; exact Array.getElem?_setIfInBounds_ne (Ne.symm e)
    rw [hne]; exact H i hi
theorem own_ldB (X : Stand p l e R s m args below meth c T locs cells slots) (hx : p.tables.exec = Jvm.exec) (hZ : Z.Warmed39 s.vm) (eT : T.heap = h) (A : own_ArI Z h a .byte z f) {j : Int32} (h1 : 0 ≤ j.toInt) (h2 : j.toInt < z.toInt) {g : JFrame} (hg : g.method = m) {rest : List Value} (hs : g.stack = .int j :: .ref a :: rest) (hd : decode c.code g.pc = .ok (.baload, 1)) (target : State)
    (k : Steps p.tables e below (T.setTop { g with pc := g.pc + 1, stack := .int (f j.toInt.toNat) :: rest }) target) : Steps p.tables e below (T.setTop g) target := by
  obtain ⟨cl, A, S, q, H⟩ := A
  exact X.baloadBytes hx (j := j) (v := .int (f j.toInt.toNat)) (by rw [eT]; exact A.1) (State.isArrayOf_alike hZ.alike A.2.1) A.2.2 (own_in S h1 h2) (H j.toInt.toNat (by omega)).1 hg hs hd target k
theorem own_ldJ (X : Stand p l e R s m args below meth c T locs cells slots) (hx : p.tables.exec = Jvm.exec) (hZ : Z.Warmed39 s.vm) (eT : T.heap = h) (A : own_ArJ Z h a .long z fj) {j : Int32} (h1 : 0 ≤ j.toInt) (h2 : j.toInt < z.toInt) {g : JFrame} (hg : g.method = m) {rest : List Value} (hs : g.stack = .int j :: .ref a :: rest) (hd : decode c.code g.pc = .ok (.laload, 1)) (target : State)
    (k : Steps p.tables e below (T.setTop { g with pc := g.pc + 1, stack := .long (fj j.toInt.toNat) :: rest }) target) : Steps p.tables e below (T.setTop g) target := by
  obtain ⟨cl, A, S, q, H⟩ := A
  exact X.laload hx (j := j) (v := .long (fj j.toInt.toNat)) (by rw [eT]; exact A.1) (State.isArrayOf_alike hZ.alike A.2.1) A.2.2 (own_in S h1 h2) (H j.toInt.toNat (by omega)) hg hs hd target k
theorem own_stB (X : Stand p l e R s m args below meth c T locs cells slots) (hx : p.tables.exec = Jvm.exec) (hZ : Z.Warmed39 s.vm) (eT : T.heap = h) (A : own_ArI Z h a .byte z f) {j x : Int32} (h1 : 0 ≤ j.toInt) (h2 : j.toInt < z.toInt) {g : JFrame} (hg : g.method = m) {rest : List Value} (hs : g.stack = .int x :: .int j :: .ref a :: rest) (hd : decode c.code g.pc = .ok (.bastore, 1)) :
    ∃ (T' : State) (h' : Heap) (f' : Nat → Int32), Stand p l e R s m args below meth c T' (locs ++ [⟨a, j.toInt.toNat⟩]) cells slots ∧ T'.heap = h' ∧ Wr h h' a j.toInt.toNat (.int (nar .byte x)) ∧ own_ArI Z h' a .byte z f' ∧ f' j.toInt.toNat = nar .byte x ∧ (∀ i, i ≠ j.toInt.toNat → f' i = f i) ∧
      ∀ target, Steps p.tables e below (T'.setTop { g with pc := g.pc + 1, stack := rest }) target → Steps p.tables e below (T.setTop g) target := by
  have A' := A
  obtain ⟨cl, B, S, q, H⟩ := A
  obtain ⟨T', h', X', e', W, st⟩ := stB X hx hZ eT B (j := j) (x := x) (own_in S h1 h2) hg hs hd
  exact ⟨T', h', _, X', e', W, A'.set W (fits_nar_byte x), if_pos rfl, fun i hi => if_neg hi, st⟩
theorem own_stC (X : Stand p l e R s m args below meth c T locs cells slots) (hx : p.tables.exec = Jvm.exec) (hZ : Z.Warmed39 s.vm) (eT : T.heap = h) (A : own_ArI Z h a .char z f) {j x : Int32} (h1 : 0 ≤ j.toInt) (h2 : j.toInt < z.toInt) {g : JFrame} (hg : g.method = m) {rest : List Value} (hs : g.stack = .int x :: .int j :: .ref a :: rest) (hd : decode c.code g.pc = .ok (.castore, 1)) :
    ∃ (T' : State) (h' : Heap) (f' : Nat → Int32), Stand p l e R s m args below meth c T' (locs ++ [⟨a, j.toInt.toNat⟩]) cells slots ∧ T'.heap = h' ∧ Wr h h' a j.toInt.toNat (.int (nar .char x)) ∧ own_ArI Z h' a .char z f' ∧ f' j.toInt.toNat = nar .char x ∧ (∀ i, i ≠ j.toInt.toNat → f' i = f i) ∧
      ∀ target, Steps p.tables e below (T'.setTop { g with pc := g.pc + 1, stack := rest }) target → Steps p.tables e below (T.setTop g) target := by
  have A' := A
  obtain ⟨cl, B, S, q, H⟩ := A
  obtain ⟨T', h', X', e', W, st⟩ := stC X hx hZ eT B (j := j) (x := x) (own_in S h1 h2) hg hs hd
  exact ⟨T', h', _, X', e', W, A'.set W (fits_nar_char x), if_pos rfl, fun i hi => if_neg hi, st⟩
theorem own_stJ (X : Stand p l e R s m args below meth c T locs cells slots) (hx : p.tables.exec = Jvm.exec) (hZ : Z.Warmed39 s.vm) (eT : T.heap = h) (A : own_ArJ Z h a .long z fj) {j : Int32} {x : Int64} (h1 : 0 ≤ j.toInt) (h2 : j.toInt < z.toInt) {g : JFrame} (hg : g.method = m) {rest : List Value} (hs : g.stack = .long x :: .int j :: .ref a :: rest) (hd : decode c.code g.pc = .ok (.lastore, 1)) :
    ∃ (T' : State) (h' : Heap) (f' : Nat → Int64), Stand p l e R s m args below meth c T' (locs ++ [⟨a, j.toInt.toNat⟩]) cells slots ∧ T'.heap = h' ∧ Wr h h' a j.toInt.toNat (.long x) ∧ own_ArJ Z h' a .long z f' ∧ f' j.toInt.toNat = x ∧ (∀ i, i ≠ j.toInt.toNat → f' i = fj i) ∧
      ∀ target, Steps p.tables e below (T'.setTop { g with pc := g.pc + 1, stack := rest }) target → Steps p.tables e below (T.setTop g) target := by
  have A' := A
  obtain ⟨cl, B, S, q, H⟩ := A
  obtain ⟨T', h', X', e', W, st⟩ := stJ X hx hZ eT B (j := j) (x := x) (own_in S h1 h2) hg hs hd
  exact ⟨T', h', _, X', e', W, A'.set W, if_pos rfl, fun i hi => if_neg hi, st⟩
theorem own_ArI.len (A : own_ArI Z h a ty z f) (X : Stand p l e R s m args below meth c T locs cells slots) (hx : p.tables.exec = Jvm.exec) (hZ : Z.Warmed39 s.vm) (eT : T.heap = h) {g : JFrame} (hg : g.method = m) {rest : List Value} (hs : g.stack = .ref a :: rest) (hd : decode c.code g.pc = .ok (.arraylength, 1)) (target : State)
    (k : Steps p.tables e below (T.setTop { g with pc := g.pc + 1, stack := .int z :: rest }) target) : Steps p.tables e below (T.setTop g) target := by
  obtain ⟨cl, B, S, q, -⟩ := A
  refine X.arraylength hx (by rw [eT]; exact B.1) (State.isArrayOf_alike hZ.alike B.2.1) hg hs hd target ?_
  rw [len_of (z := z) S (by rw [Int32.lt_iff_toInt_lt]; have e0 : (0 : Int32).toInt = 0 := rfl; omega)]; exact k
theorem own_ArJ.len (A : own_ArJ Z h a ty z fj) (X : Stand p l e R s m args below meth c T locs cells slots) (hx : p.tables.exec = Jvm.exec) (hZ : Z.Warmed39 s.vm) (eT : T.heap = h) {g : JFrame} (hg : g.method = m) {rest : List Value} (hs : g.stack = .ref a :: rest) (hd : decode c.code g.pc = .ok (.arraylength, 1)) (target : State)
    (k : Steps p.tables e below (T.setTop { g with pc := g.pc + 1, stack := .int z :: rest }) target) : Steps p.tables e below (T.setTop g) target := by
  obtain ⟨cl, B, S, q, -⟩ := A
  refine X.arraylength hx (by rw [eT]; exact B.1) (State.isArrayOf_alike hZ.alike B.2.1) hg hs hd target ?_
  rw [len_of (z := z) S (by rw [Int32.lt_iff_toInt_lt]; have e0 : (0 : Int32).toInt = 0 := rfl; omega)]; exact k
theorem own_toArv (A : own_ArI Z h a ty z f) : ∃ k, Arv Z h a k ty z ((List.range z.toInt.toNat).map fun i => Value.int (f i)) (.int 0) := by
  obtain ⟨c, B, S, q, H⟩ := A
  have g : ∀ i, i < z.toInt.toNat → ((List.range z.toInt.toNat).map fun i => Value.int (f i)).getD i (.int 0) = .int (f i) := fun i hi => by rw [List.getD_eq_getElem?_getD, List.getElem?_map, List.getElem?_range hi]; rfl
  refine ⟨_, c, B, rfl, S, by rw [Int32.lt_iff_toInt_lt]; have e0 : (0 : Int32).toInt = 0 := rfl; omega, fun i hi => ?_, fun i hi => ?_⟩
  · rw [S] at hi; rw [g i hi]; exact (H i hi).1
  · rw [S] at hi; rw [g i hi]; exact (H i hi).2
theorem own_ofArv {k : ClassId} {vs : List Value} {dv : Value} (A : Arv Z h a k ty z vs dv) (hv : ∀ i, i < z.toInt.toNat → vs.getD i dv = .int (f i)) : own_ArI Z h a ty z f := by
  obtain ⟨c, B, -, S, q, H, G⟩ := A
  have S' : c.slots.size = z.toInt.toNat := S
  exact ⟨c, B, S', own_nn q, fun i hi => ⟨by rw [← hv i hi]; exact H i (by rw [S']; exact hi), by rw [← hv i hi]; exact G i (by rw [S']; exact hi)⟩⟩
theorem own_cp (X : Stand p l e R s m args below meth c T locs cells slots) (hx : p.tables.exec = Jvm.exec) (hZ : Z.Warmed39 s.vm) {a0 : Array Value} {own : String} {index : Nat} (hown : s.vm.findClass own = some m.cls)
    (w1 : (Cond.methodLink own index Jvm.Stand.acN).before a0 Z = true) (w2 : (Cond.native Jvm.Stand.acN).before a0 Z = true) (w3 : (Cond.static Jvm.Stand.acN).before a0 Z = true) (w4 : (Cond.initialized "java/lang/System").before a0 Z = true) (eT : T.heap = h)
    {z' sp dp nn : Int32} {f2 : Nat → Int32} (A : own_ArI Z h a .byte z f) (B : own_ArI Z h b .byte z' f2) (h1 : 0 ≤ sp.toInt) (h2 : 0 ≤ dp.toInt) (h3 : 0 ≤ nn.toInt) (h4 : sp.toInt + nn.toInt ≤ z.toInt) (h5 : dp.toInt + nn.toInt ≤ z'.toInt) {n0 : Nat} (N : Fr n0 locs) (ge : n0 ≤ b)
    {g : JFrame} (hg : g.method = m) (hsize : g.locals.size = c.maxLocals) {rest : List Value} (hs : g.stack = .int nn :: .int dp :: .ref b :: .int sp :: .ref a :: rest) (hd : decode c.code g.pc = .ok (.invokestatic index, 3))
    (hf : 1 ≤ R.frames) {W : Nat} (hW : 2 * g.monitorRoom + (rest.map fun v => v.category).sum ≤ W) (hlo : W + (nativeFrameWords "java/lang/System" "arraycopy" 5 + 11) ≤ R.locals) :
    ∃ (T' : State) (h' : Heap) (L : List Loc) (f' : Nat → Int32), Stand p l e R s m args below meth c T' L cells slots ∧ T'.heap = h' ∧ Fr n0 L ∧ Keep h h' [b] ∧ own_ArI Z h' b .byte z' f' ∧ (∀ i, i < nn.toInt.toNat → f' (dp.toInt.toNat + i) = f (sp.toInt.toNat + i)) ∧ (∀ i, i < dp.toInt.toNat ∨ dp.toInt.toNat + nn.toInt.toNat ≤ i → f' i = f2 i) ∧
      ∀ target, Steps p.tables e below (T'.setTop { g with pc := g.pc + 3, stack := rest }) target → Steps p.tables e below (T.setTop g) target := by
  obtain ⟨ka, A'⟩ := own_toArv A
  obtain ⟨kb, B'⟩ := own_toArv B
  have e0 : (0 : Int32).toInt = 0 := rfl
  have nl : ∀ x : Int32, 0 ≤ x.toInt → ¬ x < 0 := fun x q => by rw [Int32.lt_iff_toInt_lt]; omega
  obtain ⟨T', h', L, X', e', N', K', V', st⟩ := cpA X hx hZ hown w1 w2 w3 w4 eT A' B' (Or.inl ⟨rfl, rfl⟩) (nl _ h1) (nl _ h2) (nl _ h3) (show sp.toInt.toNat + nn.toInt.toNat ≤ z.toInt.toNat by omega) (show dp.toInt.toNat + nn.toInt.toNat ≤ z'.toInt.toNat by omega) rfl (by show dp.toInt.toNat + nn.toInt.toNat ≤ _; simp only [List.length_map, List.length_range]; omega) N ge hg hsize hs hd hf hW hlo
  refine ⟨T', h', L, fun i => if dp.toInt.toNat ≤ i ∧ i < dp.toInt.toNat + nn.toInt.toNat then f (sp.toInt.toNat + (i - dp.toInt.toNat)) else f2 i, X', e', N', K', own_ofArv V' fun i hi => ?_, fun i hi => ?_, fun i hi => ?_, st⟩
  · have m1 : min dp.toInt.toNat z'.toInt.toNat = dp.toInt.toNat := by omega
    have gd : ∀ k, k < z'.toInt.toNat → ((List.range z'.toInt.toNat).map fun i => Value.int (f2 i))[k]? = some (.int (f2 k)) := fun k hk => by rw [List.getElem?_map, List.getElem?_range hk]; rfl
    have gs : ∀ k, k < z.toInt.toNat → ((List.range z.toInt.toNat).map fun i => Value.int (f i)).getD k (.int 0) = .int (f k) := fun k hk => by rw [List.getD_eq_getElem?_getD, List.getElem?_map, List.getElem?_range hk]; rfl
    have ll : (List.take dp.toInt.toNat ((List.range z'.toInt.toNat).map fun i => Value.int (f2 i))).length = dp.toInt.toNat := by rw [List.length_take, List.length_map, List.length_range]; exact m1
    show (List.take dp.toInt.toNat ((List.range z'.toInt.toNat).map fun i => Value.int (f2 i)) ++ (List.range nn.toInt.toNat).map (fun i => ((List.range z.toInt.toNat).map fun i => Value.int (f i)).getD (sp.toInt.toNat + i) (.int 0)) ++ List.drop (dp.toInt.toNat + nn.toInt.toNat) ((List.range z'.toInt.toNat).map fun i => Value.int (f2 i))).getD i (.int 0) = Value.int (if dp.toInt.toNat ≤ i ∧ i < dp.toInt.toNat + nn.toInt.toNat then f (sp.toInt.toNat + (i - dp.toInt.toNat)) else f2 i)
    rw [List.getD_eq_getElem?_getD, List.append_assoc]
    by_cases c1 : i < dp.toInt.toNat
    · rw [if_neg (by omega), List.getElem?_append_left (by rw [ll]; exact c1), List.getElem?_take_of_lt c1, gd i hi]; rfl
    · rw [List.getElem?_append_right (by rw [ll]; omega), ll]
      by_cases c2 : i < dp.toInt.toNat + nn.toInt.toNat
      · rw [if_pos ⟨by omega, c2⟩, List.getElem?_append_left (by rw [List.length_map, List.length_range]; omega), List.getElem?_map, List.getElem?_range (by omega)]
        exact gs _ (by omega)
      · rw [if_neg (by omega), List.getElem?_append_right (by rw [List.length_map, List.length_range]; omega), List.length_map, List.length_range, List.getElem?_drop, show dp.toInt.toNat + nn.toInt.toNat + (i - dp.toInt.toNat - nn.toInt.toNat) = i by omega, gd i hi]; rfl
  · simp only []; rw [if_pos ⟨by omega, by omega⟩, show dp.toInt.toNat + i - dp.toInt.toNat = i by omega]
  · simp only []; rw [if_neg (by omega)]
end Arrays
end Jvm.RoadKit
namespace Jvm.Pilot.@@N@@
open Jvm Jvm.ClassFile Sem Op Lib Jvm.Free Jvm.Stand Jvm.LawKit Jvm.RoadKit Bundle Jvm.Pilot.@@N@@.Jvm.D
def own_u (x : Int64) : Nat := x.toBitVec.toNat
theorem own_ui (x : Int64) : (x.toInt - own_u x) % 18446744073709551616 = 0 ∧ own_u x < 18446744073709551616 := by
  have h := x.toBitVec.isLt
  refine ⟨?_, h⟩
  show (x.toBitVec.toInt - (x.toBitVec.toNat : Int)) % _ = 0
  rw [BitVec.toInt_eq_toNat_cond]; split <;> omega
theorem own_u0 (x : Int64) : x = (0 : Int64) ↔ own_u x = 0 := by
  constructor
  · rintro rfl; rfl
  · intro h; exact Int64.toBitVec_inj.mp (BitVec.eq_of_toNat_eq h)
theorem own_ushr (x : Int64) (q : Int32) (k : Nat) (hk : q.toBitVec.toNat % 64 = k) : own_u (own_shrL x q) = own_u x / 2 ^ k := by
  have e : ((q &&& 0x3f).toInt64.toUInt64).toNat = k := by
    show (q &&& 0x3f).toInt64.toBitVec.toNat = k
    rw [(sm64 q k hk).1, BitVec.toNat_ofNat]; omega
  show (x.toUInt64 >>> (q &&& 0x3f).toInt64.toUInt64).toNat = _
  rw [UInt64.toNat_shiftRight, Nat.shiftRight_eq_div_pow, e, Nat.mod_eq_of_lt (by omega)]; rfl
theorem own_dec {j : Int32} (h : -2147483648 < j.toInt) : (j + (Int32.ofInt (-1))).toInt = j.toInt - 1 := by
  have a := c_iadd j (Int32.ofInt (-1)); have c := rng32 (j + (Int32.ofInt (-1))); have d := rng32 j
  have e1 : (Int32.ofInt (-1)).toInt = -1 := by decide
  omega
def own_oct (x : Int64) (n : Nat) : Nat := own_u x / 256 ^ n % 256
theorem own_oct_lt (x : Int64) (n : Nat) : own_oct x n < 256 := Nat.mod_lt _ (by decide)
def own_D (o : Nat) : Nat := if 100 ≤ o then 3 else if 10 ≤ o then 2 else 1
theorem own_D_rng (o : Nat) : 1 ≤ own_D o ∧ own_D o ≤ 3 := by
  unfold own_D
  by_cases h : 100 ≤ o
  · rw [if_pos h]; decide
  · rw [if_neg h]
    by_cases g : 10 ≤ o
    · rw [if_pos g]; decide
    · rw [if_neg g]; decide
def own_num (f : Nat → Int32) (b o : Nat) : Prop := ∀ t, t < own_D o → (f (b + t)).toInt = 48 + (o / 10 ^ (own_D o - 1 - t) % 10 : Nat)
/-- the text of the octets n - 1 .. 0 lies at the places b .. r - 1 -/
def own_txt (x : Int64) (f : Nat → Int32) : Nat → Nat → Nat → Prop
  | 0, b, r => r = b
  | n + 1, b, r => own_num f b (own_oct x n) ∧ (if n = 0 then r = b + own_D (own_oct x n) else (f (b + own_D (own_oct x n))).toInt = 46 ∧ own_txt x f n (b + own_D (own_oct x n) + 1) r)
theorem own_octS (x : Int64) (s : Int32) (n : Nat) (hs : s.toBitVec.toNat % 64 = 8 * n) : (((own_shrL x s).toInt32) &&& (255 : Int32)).toInt = own_oct x n := by
  have us := own_ushr x s (8 * n) hs
  rw [show (2 : Nat) ^ (8 * n) = 256 ^ n by rw [Nat.pow_mul]] at us
  have ui := own_ui (own_shrL x s)
  have l := c_l2i (own_shrL x s)
  have m := c_mask ((own_shrL x s).toInt32) 255 8 (by decide) (by decide)
  rw [us] at ui
  unfold own_oct
  generalize own_u x / 256 ^ n = w at *
  omega
theorem own_octI (x : Int64) (i : Int32) (n : Nat) (hi : i.toInt = n) (hn : n ≤ 7) : (((own_shrL x (i * (8 : Int32))).toInt32) &&& (255 : Int32)).toInt = own_oct x n := by
  refine own_octS x (i * (8 : Int32)) n ?_
  have m := c_imul i 8; have r := rng32 (i * 8)
  have e8 : (8 : Int32).toInt = 8 := rfl
  have h : (i * (8 : Int32)).toBitVec.toInt = 8 * n := by show (i * (8 : Int32)).toInt = _; rw [e8] at m; omega
  have l := (i * (8 : Int32)).toBitVec.isLt
  rw [BitVec.toInt_eq_toNat_cond] at h
  split at h <;> omega
theorem own_oct0 (x : Int64) : ((x.toInt32) &&& (255 : Int32)).toInt = own_oct x 0 := by
  have ui := own_ui x
  have l := c_l2i x
  have m := c_mask (x.toInt32) 255 8 (by decide) (by decide)
  unfold own_oct
  simp only [Nat.pow_zero, Nat.div_one]
  omega
theorem own_nb (x : Int32) : (nar .byte (x.toInt8.toInt32)).toInt = (x.toInt8.toInt32).toInt := by
  have a := c_i2b x; have b := c_i2b (x.toInt8.toInt32)
  show (x.toInt8.toInt32).toInt8.toInt32.toInt = _; omega
theorem own_v (d : Int32) (n : Nat) (h : d.toInt = n) (hn : n < 10) : (nar .byte (((48 : Int32) + d).toInt8.toInt32)).toInt = 48 + n := by
  rw [own_nb]
  have a := c_iadd 48 d; have ar := rng32 (48 + d); have b := c_i2b (48 + d)
  have e48 : (48 : Int32).toInt = 48 := rfl
  omega
theorem own_v100 (o : Int32) (O : Nat) (h : o.toInt = O) (hO : O < 256) : (nar .byte (((48 : Int32) + (o / (100 : Int32))).toInt8.toInt32)).toInt = 48 + (O / 100 : Nat) := by
  refine own_v _ _ ?_ (by omega)
  rw [(c_idiv o 100 100 rfl (by decide)).1 (by omega), h]; omega
theorem own_r10 (o : Int32) (O : Nat) (h : o.toInt = O) (hO : O < 256) : (o - (o / (10 : Int32)) * (10 : Int32)).toInt = (O % 10 : Nat) := by
  have d := (c_idiv o 10 10 rfl (by decide)).1 (by omega)
  have m := c_imul (o / 10) 10; have mr := rng32 (o / 10 * 10)
  have s := c_isub o (o / 10 * 10); have sr := rng32 (o - o / 10 * 10)
  have e10 : (10 : Int32).toInt = 10 := rfl
  rw [e10] at m
  omega
theorem own_v10 (o : Int32) (O : Nat) (h : o.toInt = O) (hO : O < 256) : (nar .byte (((48 : Int32) + ((o / (10 : Int32)) - ((o / (10 : Int32)) / (10 : Int32)) * (10 : Int32))).toInt8.toInt32)).toInt = 48 + (O / 10 % 10 : Nat) := by
  refine own_v _ _ ?_ (by omega)
  exact own_r10 (o / 10) (O / 10) (by rw [(c_idiv o 10 10 rfl (by decide)).1 (by omega), h]; omega) (by omega)
theorem own_v1 (o : Int32) (O : Nat) (h : o.toInt = O) (hO : O < 256) : (nar .byte (((48 : Int32) + (o - (o / (10 : Int32)) * (10 : Int32))).toInt8.toInt32)).toInt = 48 + (O % 10 : Nat) :=
  own_v _ _ (own_r10 o O h hO) (by omega)
theorem own_num3 {f0 f1 f2 f3 : Nat → Int32} {J o : Nat} (h : 100 ≤ o) (h2 : o < 256) (a1 : (f1 J).toInt = 48 + (o / 100 : Nat)) (b1 : ∀ i, i ≠ J → f1 i = f0 i) (a2 : (f2 (J + 1)).toInt = 48 + (o / 10 % 10 : Nat)) (b2 : ∀ i, i ≠ J + 1 → f2 i = f1 i) (a3 : (f3 (J + 2)).toInt = 48 + (o % 10 : Nat)) (b3 : ∀ i, i ≠ J + 2 → f3 i = f2 i) : own_num f3 J o ∧ own_D o = 3 ∧ ∀ k, k < J ∨ J + 3 ≤ k → f3 k = f0 k := by
  have d : own_D o = 3 := if_pos h
  refine ⟨fun t ht => ?_, d, fun k hk => ?_⟩
  · rw [d] at ht ⊢
    match t, ht with
    | 0, _ => rw [Nat.add_zero, b3 _ (by omega), b2 _ (by omega), a1] <;> (show _ = 48 + ((o / 10 ^ 2 % 10 : Nat) : Int); omega)
    | 1, _ => rw [b3 _ (by omega), a2] <;> (show _ = 48 + ((o / 10 ^ 1 % 10 : Nat) : Int); omega)
    | 2, _ => rw [a3] <;> (show _ = 48 + ((o / 10 ^ 0 % 10 : Nat) : Int); omega)
  · rw [b3 _ (by omega), b2 _ (by omega), b1 _ (by omega)]
theorem own_num2 {f0 f2 f3 : Nat → Int32} {J o : Nat} (h : 10 ≤ o) (h2 : o < 100) (a2 : (f2 J).toInt = 48 + (o / 10 % 10 : Nat)) (b2 : ∀ i, i ≠ J → f2 i = f0 i) (a3 : (f3 (J + 1)).toInt = 48 + (o % 10 : Nat)) (b3 : ∀ i, i ≠ J + 1 → f3 i = f2 i) : own_num f3 J o ∧ own_D o = 2 ∧ ∀ k, k < J ∨ J + 2 ≤ k → f3 k = f0 k := by
  have d : own_D o = 2 := by rw [own_D, if_neg (by omega), if_pos h]
  refine ⟨fun t ht => ?_, d, fun k hk => ?_⟩
  · rw [d] at ht ⊢
    match t, ht with
    | 0, _ => rw [Nat.add_zero, b3 _ (by omega), a2] <;> (show _ = 48 + ((o / 10 ^ 1 % 10 : Nat) : Int); omega)
    | 1, _ => rw [a3] <;> (show _ = 48 + ((o / 10 ^ 0 % 10 : Nat) : Int); omega)
  · rw [b3 _ (by omega), b2 _ (by omega)]
theorem own_num1 {f0 f3 : Nat → Int32} {J o : Nat} (h2 : o < 10) (a3 : (f3 J).toInt = 48 + (o % 10 : Nat)) (b3 : ∀ i, i ≠ J → f3 i = f0 i) : own_num f3 J o ∧ own_D o = 1 ∧ ∀ k, k < J ∨ J + 1 ≤ k → f3 k = f0 k := by
  have d : own_D o = 1 := by rw [own_D, if_neg (by omega), if_neg (by omega)]
  refine ⟨fun t ht => ?_, d, fun k hk => ?_⟩
  · rw [d] at ht ⊢
    match t, ht with
    | 0, _ => rw [Nat.add_zero, a3] <;> (show _ = 48 + ((o / 10 ^ 0 % 10 : Nat) : Int); omega)
  · rw [b3 _ (by omega)]
theorem own_dot {f f0 f1 : Nat → Int32} {J o d : Nat} (h : own_num f J o ∧ own_D o = d ∧ ∀ k, k < J ∨ J + d ≤ k → f k = f0 k) (b : ∀ i, i ≠ J + d → f1 i = f i) : own_num f1 J o ∧ own_D o = d ∧ ∀ k, k < J ∨ J + (d + 1) ≤ k → f1 k = f0 k := by
  obtain ⟨h1, h2, h3⟩ := h
  exact ⟨fun t ht => by rw [b _ (by omega)]; exact h1 t ht, h2, fun k hk => by rw [b _ (by omega), h3 _ (by omega)]⟩
def own_WS (n : Nat) (x : Int64) (j : Int32) (f : Nat → Int32) (j' : Int32) (f' : Nat → Int32) : Prop :=
  own_txt x f' n j.toInt.toNat j'.toInt.toNat ∧ j.toInt ≤ j'.toInt ∧ (n = 0 ∨ j'.toInt + 1 ≤ j.toInt + 4 * n) ∧ ∀ k, k < j.toInt.toNat ∨ j'.toInt.toNat ≤ k → f' k = f k
theorem own_WS.stop {x : Int64} {j : Int32} {f : Nat → Int32} : own_WS 0 x j f j f := ⟨rfl, by omega, Or.inl rfl, fun _ _ => rfl⟩
theorem own_WS.turn {n : Nat} {x : Int64} {j j1 j' : Int32} {f f1 f' : Nat → Int32} (hj : 0 ≤ j.toInt) (hn : 0 < n) (hnum : own_num f1 j.toInt.toNat (own_oct x (n - 1)))
    (hp : if n = 1 then j1.toInt = j.toInt + own_D (own_oct x (n - 1)) else j1.toInt = j.toInt + own_D (own_oct x (n - 1)) + 1 ∧ (f1 (j.toInt.toNat + own_D (own_oct x (n - 1)))).toInt = 46)
    (ho : ∀ k, k < j.toInt.toNat ∨ j1.toInt.toNat ≤ k → f1 k = f k) (h : own_WS (n - 1) x j1 f1 j' f') : own_WS n x j f j' f' := by
  obtain ⟨m, rfl⟩ : ∃ m, n = m + 1 := ⟨n - 1, by omega⟩
  simp only [Nat.add_sub_cancel] at hnum hp h
  obtain ⟨h1, h2, h3, h4⟩ := h
  have dr := own_D_rng (own_oct x m)
  by_cases hm : m = 0
  · subst hm
    rw [if_pos (show 0 + 1 = 1 from rfl)] at hp
    have e : j'.toInt.toNat = j1.toInt.toNat := h1
    refine ⟨⟨fun t ht => ?_, ?_⟩, by omega, Or.inr (by omega), fun k hk => ?_⟩
    · have ht' : t < own_D (own_oct x 0) := ht
      rw [h4 _ (Or.inl (by omega))]; exact hnum t ht
    · rw [if_pos rfl]; show j'.toInt.toNat = j.toInt.toNat + own_D (own_oct x 0); omega
    · rw [h4 k (by omega), ho k (by omega)]
  · rw [if_neg (by omega)] at hp
    obtain ⟨p1, p2⟩ := hp
    have e : j.toInt.toNat + own_D (own_oct x m) + 1 = j1.toInt.toNat := by omega
    refine ⟨⟨fun t ht => ?_, ?_⟩, by omega, Or.inr (by omega), fun k hk => ?_⟩
    · have ht' : t < own_D (own_oct x m) := ht
      rw [h4 _ (Or.inl (by omega))]; exact hnum t ht
    · rw [if_neg hm, e, h4 _ (Or.inl (by omega))]; exact ⟨p2, h1⟩
    · rw [h4 k (by omega), ho k (by omega)]
theorem own_inc {j : Int32} (h : j.toInt + 1 < 2147483648) : (j + (1 : Int32)).toInt = j.toInt + 1 := by
  have a := c_iadd j 1; have b := rng32 (j + 1); have c := rng32 j
  have e1 : (1 : Int32).toInt = 1 := rfl
  omega
theorem own_txt_ge {x : Int64} {f : Nat → Int32} {n b r : Nat} (h : own_txt x f n b r) : b ≤ r := by
  induction n generalizing b with
  | zero => exact Nat.le_of_eq (Eq.symm h)
  | succ n ih =>
    obtain ⟨-, h2⟩ := h
    split at h2
    · omega
    · have := ih h2.2; omega
/-- where the parse stands ahead of the octet n - 1: 'fuel' octets are left -/
def own_tl (x : Int64) (f : Nat → Int32) (n j e : Nat) : Prop := (n = 4 ∧ own_txt x f 4 j e) ∨ (1 ≤ n ∧ n ≤ 3 ∧ (f j).toInt = 46 ∧ own_txt x f n (j + 1) e) ∨ (n = 0 ∧ j = e)
theorem own_txt_next {x : Int64} {f : Nat → Int32} {n b e : Nat} (hn : 1 ≤ n) (hn4 : n ≤ 4) (h : own_txt x f n b e) : own_num f b (own_oct x (n - 1)) ∧ b + own_D (own_oct x (n - 1)) ≤ e ∧ (b + own_D (own_oct x (n - 1)) = e ∨ (f (b + own_D (own_oct x (n - 1)))).toInt = 46) ∧ own_tl x f (n - 1) (b + own_D (own_oct x (n - 1))) e := by
  obtain ⟨m, rfl⟩ : ∃ m, n = m + 1 := ⟨n - 1, by omega⟩
  rw [Nat.add_sub_cancel]
  obtain ⟨h1, h2⟩ := h
  split at h2
  · rename_i hm; subst hm
    exact ⟨h1, by omega, Or.inl (by omega), Or.inr (Or.inr ⟨rfl, by omega⟩)⟩
  · have g := own_txt_ge h2.2
    exact ⟨h1, by omega, Or.inr h2.1, Or.inr (Or.inl ⟨by omega, by omega, h2.1, h2.2⟩)⟩
theorem own_dig {f : Nat → Int32} {b o n : Nat} {j : Nat} (h : own_num f b o) (hn : 0 < n) (hj : j + n = b + own_D o) (hb : b ≤ j) : (f j).toInt = 48 + (o / 10 ^ (n - 1) % 10 : Nat) := by
  have q := h (j - b) (by omega)
  rw [show b + (j - b) = j by omega, show own_D o - 1 - (j - b) = n - 1 by omega] at q
  exact q
theorem own_digits_end {o : Nat} (h : o < 256) : o / 10 ^ own_D o = 0 := by
  unfold own_D; split
  · show o / 1000 = 0; omega
  · split
    · show o / 100 = 0; omega
    · show o / 10 = 0; omega
theorem own_step10 (o n : Nat) (hn : 0 < n) : o / 10 ^ (n - 1) = o / 10 ^ n * 10 + o / 10 ^ (n - 1) % 10 := by
  obtain ⟨m, rfl⟩ : ∃ m, n = m + 1 := ⟨n - 1, by omega⟩
  rw [Nat.add_sub_cancel, Nat.pow_succ, ← Nat.div_div_eq_div_mul]; omega
theorem own_acc {a : Int64} {d : Int32} {A o : Nat} (ha : a.toInt = A) (hA : A < 16777216) (hd : d.toInt = o) (ho : o < 256) : ((a <<< (((8 : Int32) &&& 0x3f).toInt64)) ||| (d.toInt64)).toInt = A * 256 + o := by
  rw [shlmL (x := a) (k := ((8 : Int32) &&& 0x3f).toInt64) (m := 256) (by decide)]
  have m := c_lmul a 256; have mr := rng64 (a * 256)
  have e : (256 : Int64).toInt = 256 := rfl
  have i := c_i2l d
  rw [e] at m
  have q := c_orL (a * 256) d.toInt64 8 (by decide) 256 rfl (by omega) (by omega) (by omega)
  have qr := rng64 (a * 256 ||| d.toInt64)
  omega
theorem own_dotlt {f : Nat → Int32} {sa j p2 : Int32} {d : Nat} (hs : 0 ≤ sa.toInt) (hend : sa.toInt + d = p2.toInt ∨ (f (sa.toInt.toNat + d)).toInt = 46) (hj : j.toInt = sa.toInt + d) (h : j < p2) : (f j.toInt.toNat) < (48 : Int32) := by
  rw [Int32.lt_iff_toInt_lt] at h ⊢
  have e48 : (48 : Int32).toInt = 48 := rfl
  rcases hend with q | q
  · omega
  · rw [show j.toInt.toNat = sa.toInt.toNat + d by omega]; omega
theorem own_d1_0 : decode method_2_code 0 = .ok (.iload_n 0, 1) := by decide +kernel
theorem own_d1_1 : decode method_2_code 1 = .ok (.bipush 100, 2) := by decide +kernel
theorem own_d1_3 : decode method_2_code 3 = .ok (.if_icmp .lt 5, 3) := by decide +kernel
theorem own_d1_6 : decode method_2_code 6 = .ok (.iconst 3, 1) := by decide +kernel
theorem own_d1_7 : decode method_2_code 7 = .ok (.ireturn, 1) := by decide +kernel
theorem own_d1_8 : decode method_2_code 8 = .ok (.iload_n 0, 1) := by decide +kernel
theorem own_d1_9 : decode method_2_code 9 = .ok (.bipush 10, 2) := by decide +kernel
theorem own_d1_11 : decode method_2_code 11 = .ok (.if_icmp .lt 5, 3) := by decide +kernel
theorem own_d1_14 : decode method_2_code 14 = .ok (.iconst 2, 1) := by decide +kernel
theorem own_d1_15 : decode method_2_code 15 = .ok (.ireturn, 1) := by decide +kernel
theorem own_d1_16 : decode method_2_code 16 = .ok (.iconst 1, 1) := by decide +kernel
theorem own_d1_17 : decode method_2_code 17 = .ok (.ireturn, 1) := by decide +kernel
theorem own_pn0 : plainName "com/example/rowcast/rowcast/identifier/IpTextWriteIpv4PinLaw" = true := by first | (simp [plainName, overriddenIn]; done) | decide +kernel
theorem own_ef1 (m : MethodId) (p0 : Int32) : entryFrame m #[(.int p0)] 1 = mkF m 0 #[.val (.int p0)] [] := by first | (simp [entryFrame, mkF, argsToLocals, Value.category]; done) | rfl
def own_F1 (p0 : Int32) : Int32 := (if p0 < (100 : Int32) then (if p0 < (10 : Int32) then (1 : Int32) else (2 : Int32)) else (3 : Int32))
def own_Q1 (Z : State) (p0 : Int32) (h0 : Heap) (n0 : Nat) (v : Option Value) (h : Heap) (L : List Loc) : Prop := (v = some (.int (own_F1 p0))) ∧ (Fr n0 L) ∧ (h = h0)
set_option maxRecDepth 65536 in
set_option maxHeartbeats 40000000 in
theorem own_rm1 (l : Launch) (Z : State) (a0 : Array Value) (hw : ∀ d ∈ tables_1, d.before a0 Z = true) (ws : List Jvm.Cond) (p0 : Int32) (h0 : Heap) (n0 : Nat) (Z0 : n0 ≤ h0.size) :
    MetFree l (⟨"com/example/rowcast/rowcast/identifier/IpTextWriteIpv4PinLaw", "digits", "(I)I"⟩ : MethodName) (head1 (Jvm.Cond.code (⟨"com/example/rowcast/rowcast/identifier/IpTextWriteIpv4PinLaw", "digits", "(I)I"⟩ : MethodName) method_2_code 1 (some .int) :: ws) ({ frames := 0, cells := 0, slots := 0, locals := 0 } : Room)) (fun a U => a = #[(.int p0)] ∧ Z.Warmed39 U.vm ∧ U.heap = h0) (fun _ _ _ _ _ => True) (fun _ U o U' => ∃ v L, o = .returned v ∧ own_Q1 Z p0 h0 n0 v U'.heap L ∧ FrameEnd U o U' L ({ frames := 0, cells := 0, slots := 0, locals := 0 } : Room).cells ({ frames := 0, cells := 0, slots := 0, locals := 0 } : Room).slots) := by
  refine MetFree.of_bodySF (plainFor_of_name own_pn0) hisR ?_
  intro p e s m args below meth c s₁ Bd hml0 hP hK
  obtain ⟨rfl, hZ, hh⟩ := hP
  have hx := Bd.exec
  have hby := Bd.bytes
  have hml : c.maxLocals = 1 := hml0
  have hown : s.vm.findClass "com/example/rowcast/rowcast/identifier/IpTextWriteIpv4PinLaw" = some m.cls := findClass_of_methodNamed Bd.named
  have hnm := (name_of_methodNamed Bd.named Bd.method).1
  have X0 : Stand p l e ({ frames := 0, cells := 0, slots := 0, locals := 0 } : Room) s m #[(.int p0)] below meth c s₁ [] 0 0 := Stand.of_body Bd
  have e0 : s₁.heap = h0 := by rw [← hh, Bd.state]; rfl
  have N0 := Fr.nil n0
  refine own_go (fun t k => castTop (own_ef1 m p0) k) ?_
  refine own_go (T' := s₁) (f' := (mkF m 3 #[.val (.int p0)] [(.int (100 : Int32)), (.int p0)])) (fun t k => ?_) ?_
  · show Steps p.tables e below (s₁.setTop (mkF m 0 #[.val (.int p0)] [])) _
    refine XS.iloadN X0.here hx rfl (hb hby own_d1_0) rfl ?_
    show Steps p.tables e below (s₁.setTop (mkF m 1 #[.val (.int p0)] [(.int p0)])) _
    refine XS.bipush X0.here hx rfl (hb hby own_d1_1) ?_
    show Steps p.tables e below (s₁.setTop (mkF m 3 #[.val (.int p0)] [(.int (100 : Int32)), (.int p0)])) _
    exact k
  by_cases hc3_1 : p0 < (100 : Int32)
  · skip
    refine own_go (T' := s₁) (f' := (mkF m 11 #[.val (.int p0)] [(.int (10 : Int32)), (.int p0)])) (fun t k => ?_) ?_
    · show Steps p.tables e below (s₁.setTop (mkF m 3 #[.val (.int p0)] [(.int (100 : Int32)), (.int p0)])) _
      refine XS.icmpYes X0.here hx rfl (pc0 := 3) (pc' := 8) rfl (hb hby own_d1_3) rfl (tlt hc3_1).1 (by decide) (by decide) ?_
      show Steps p.tables e below (s₁.setTop (mkF m 8 #[.val (.int p0)] [])) _
      refine XS.iloadN X0.here hx rfl (hb hby own_d1_8) rfl ?_
      show Steps p.tables e below (s₁.setTop (mkF m 9 #[.val (.int p0)] [(.int p0)])) _
      refine XS.bipush X0.here hx rfl (hb hby own_d1_9) ?_
      show Steps p.tables e below (s₁.setTop (mkF m 11 #[.val (.int p0)] [(.int (10 : Int32)), (.int p0)])) _
      exact k
    by_cases hc11_2 : p0 < (10 : Int32)
    · skip
      refine own_go (T' := s₁) (f' := (mkF m 17 #[.val (.int p0)] [(.int (1 : Int32))])) (fun t k => ?_) ?_
      · show Steps p.tables e below (s₁.setTop (mkF m 11 #[.val (.int p0)] [(.int (10 : Int32)), (.int p0)])) _
        refine XS.icmpYes X0.here hx rfl (pc0 := 11) (pc' := 16) rfl (hb hby own_d1_11) rfl (tlt hc11_2).1 (by decide) (by decide) ?_
        show Steps p.tables e below (s₁.setTop (mkF m 16 #[.val (.int p0)] [])) _
        refine XS.iconst X0.here hx rfl (hb hby own_d1_16) ?_
        show Steps p.tables e below (s₁.setTop (mkF m 17 #[.val (.int p0)] [(.int (1 : Int32))])) _
        exact k
      obtain ⟨fs, hr, hrun, hended, hW, hsame⟩ := X0.leave (v := some (.int (1 : Int32))) (fun h => by rw [Bd.returns] at h; cases h)
      refine ⟨_, _, ?_, hrun, hended, _, _, rfl, ?_, ⟨_, rfl⟩, hW, hsame.mono (by decide) (by decide)⟩
      · exact retI X0 hx Bd.returns (hb hby own_d1_17) hr
      · show own_Q1 Z p0 h0 n0 _ s₁.heap _
        rw [e0]
        exact ⟨(by rw [own_F1, if_pos hc3_1, if_pos hc11_2]), N0, rfl⟩
    · skip
      refine own_go (T' := s₁) (f' := (mkF m 15 #[.val (.int p0)] [(.int (2 : Int32))])) (fun t k => ?_) ?_
      · show Steps p.tables e below (s₁.setTop (mkF m 11 #[.val (.int p0)] [(.int (10 : Int32)), (.int p0)])) _
        refine XS.icmpNo X0.here hx rfl (hb hby own_d1_11) rfl (flt hc11_2).1 ?_
        show Steps p.tables e below (s₁.setTop (mkF m 14 #[.val (.int p0)] [])) _
        refine XS.iconst X0.here hx rfl (hb hby own_d1_14) ?_
        show Steps p.tables e below (s₁.setTop (mkF m 15 #[.val (.int p0)] [(.int (2 : Int32))])) _
        exact k
      obtain ⟨fs, hr, hrun, hended, hW, hsame⟩ := X0.leave (v := some (.int (2 : Int32))) (fun h => by rw [Bd.returns] at h; cases h)
      refine ⟨_, _, ?_, hrun, hended, _, _, rfl, ?_, ⟨_, rfl⟩, hW, hsame.mono (by decide) (by decide)⟩
      · exact retI X0 hx Bd.returns (hb hby own_d1_15) hr
      · show own_Q1 Z p0 h0 n0 _ s₁.heap _
        rw [e0]
        exact ⟨(by rw [own_F1, if_pos hc3_1, if_neg hc11_2]), N0, rfl⟩
  · skip
    refine own_go (T' := s₁) (f' := (mkF m 7 #[.val (.int p0)] [(.int (3 : Int32))])) (fun t k => ?_) ?_
    · show Steps p.tables e below (s₁.setTop (mkF m 3 #[.val (.int p0)] [(.int (100 : Int32)), (.int p0)])) _
      refine XS.icmpNo X0.here hx rfl (hb hby own_d1_3) rfl (flt hc3_1).1 ?_
      show Steps p.tables e below (s₁.setTop (mkF m 6 #[.val (.int p0)] [])) _
      refine XS.iconst X0.here hx rfl (hb hby own_d1_6) ?_
      show Steps p.tables e below (s₁.setTop (mkF m 7 #[.val (.int p0)] [(.int (3 : Int32))])) _
      exact k
    obtain ⟨fs, hr, hrun, hended, hW, hsame⟩ := X0.leave (v := some (.int (3 : Int32))) (fun h => by rw [Bd.returns] at h; cases h)
    refine ⟨_, _, ?_, hrun, hended, _, _, rfl, ?_, ⟨_, rfl⟩, hW, hsame.mono (by decide) (by decide)⟩
    · exact retI X0 hx Bd.returns (hb hby own_d1_7) hr
    · show own_Q1 Z p0 h0 n0 _ s₁.heap _
      rw [e0]
      exact ⟨(by rw [own_F1, if_neg hc3_1]), N0, rfl⟩
theorem own_d2_6 : decode prog_39_method_3_code 6 = .ok (.iload 5, 2) := by decide +kernel
theorem own_d2_8 : decode prog_39_method_3_code 8 = .ok (.ifCond .lt 102, 3) := by decide +kernel
theorem own_d2_11 : decode prog_39_method_3_code 11 = .ok (.lload_n 0, 1) := by decide +kernel
theorem own_d2_12 : decode prog_39_method_3_code 12 = .ok (.iload 5, 2) := by decide +kernel
theorem own_d2_14 : decode prog_39_method_3_code 14 = .ok (.bipush 8, 2) := by decide +kernel
theorem own_d2_16 : decode prog_39_method_3_code 16 = .ok (.imul, 1) := by decide +kernel
theorem own_d2_17 : decode prog_39_method_3_code 17 = .ok (.lushr, 1) := by decide +kernel
theorem own_d2_18 : decode prog_39_method_3_code 18 = .ok (.l2i, 1) := by decide +kernel
theorem own_d2_19 : decode prog_39_method_3_code 19 = .ok (.sipush 255, 3) := by decide +kernel
theorem own_d2_22 : decode prog_39_method_3_code 22 = .ok (.iand, 1) := by decide +kernel
theorem own_d2_23 : decode prog_39_method_3_code 23 = .ok (.istore 6, 2) := by decide +kernel
theorem own_d2_25 : decode prog_39_method_3_code 25 = .ok (.iload 6, 2) := by decide +kernel
theorem own_d2_27 : decode prog_39_method_3_code 27 = .ok (.bipush 100, 2) := by decide +kernel
theorem own_d2_29 : decode prog_39_method_3_code 29 = .ok (.if_icmp .lt 19, 3) := by decide +kernel
theorem own_d2_32 : decode prog_39_method_3_code 32 = .ok (.aload_n 2, 1) := by decide +kernel
theorem own_d2_33 : decode prog_39_method_3_code 33 = .ok (.iload 4, 2) := by decide +kernel
theorem own_d2_35 : decode prog_39_method_3_code 35 = .ok (.iinc 4 1, 3) := by decide +kernel
theorem own_d2_38 : decode prog_39_method_3_code 38 = .ok (.bipush 48, 2) := by decide +kernel
theorem own_d2_40 : decode prog_39_method_3_code 40 = .ok (.iload 6, 2) := by decide +kernel
theorem own_d2_42 : decode prog_39_method_3_code 42 = .ok (.bipush 100, 2) := by decide +kernel
theorem own_d2_44 : decode prog_39_method_3_code 44 = .ok (.idiv, 1) := by decide +kernel
theorem own_d2_45 : decode prog_39_method_3_code 45 = .ok (.iadd, 1) := by decide +kernel
theorem own_d2_46 : decode prog_39_method_3_code 46 = .ok (.i2b, 1) := by decide +kernel
theorem own_d2_47 : decode prog_39_method_3_code 47 = .ok (.bastore, 1) := by decide +kernel
theorem own_d2_48 : decode prog_39_method_3_code 48 = .ok (.iload 6, 2) := by decide +kernel
theorem own_d2_50 : decode prog_39_method_3_code 50 = .ok (.bipush 10, 2) := by decide +kernel
theorem own_d2_52 : decode prog_39_method_3_code 52 = .ok (.if_icmp .lt 22, 3) := by decide +kernel
theorem own_d2_55 : decode prog_39_method_3_code 55 = .ok (.aload_n 2, 1) := by decide +kernel
theorem own_d2_56 : decode prog_39_method_3_code 56 = .ok (.iload 4, 2) := by decide +kernel
theorem own_d2_58 : decode prog_39_method_3_code 58 = .ok (.iinc 4 1, 3) := by decide +kernel
theorem own_d2_61 : decode prog_39_method_3_code 61 = .ok (.bipush 48, 2) := by decide +kernel
theorem own_d2_63 : decode prog_39_method_3_code 63 = .ok (.iload 6, 2) := by decide +kernel
theorem own_d2_65 : decode prog_39_method_3_code 65 = .ok (.bipush 10, 2) := by decide +kernel
theorem own_d2_67 : decode prog_39_method_3_code 67 = .ok (.idiv, 1) := by decide +kernel
theorem own_d2_68 : decode prog_39_method_3_code 68 = .ok (.bipush 10, 2) := by decide +kernel
theorem own_d2_70 : decode prog_39_method_3_code 70 = .ok (.irem, 1) := by decide +kernel
theorem own_d2_71 : decode prog_39_method_3_code 71 = .ok (.iadd, 1) := by decide +kernel
theorem own_d2_72 : decode prog_39_method_3_code 72 = .ok (.i2b, 1) := by decide +kernel
theorem own_d2_73 : decode prog_39_method_3_code 73 = .ok (.bastore, 1) := by decide +kernel
theorem own_d2_74 : decode prog_39_method_3_code 74 = .ok (.aload_n 2, 1) := by decide +kernel
theorem own_d2_75 : decode prog_39_method_3_code 75 = .ok (.iload 4, 2) := by decide +kernel
theorem own_d2_77 : decode prog_39_method_3_code 77 = .ok (.iinc 4 1, 3) := by decide +kernel
theorem own_d2_80 : decode prog_39_method_3_code 80 = .ok (.bipush 48, 2) := by decide +kernel
theorem own_d2_82 : decode prog_39_method_3_code 82 = .ok (.iload 6, 2) := by decide +kernel
theorem own_d2_84 : decode prog_39_method_3_code 84 = .ok (.bipush 10, 2) := by decide +kernel
theorem own_d2_86 : decode prog_39_method_3_code 86 = .ok (.irem, 1) := by decide +kernel
theorem own_d2_87 : decode prog_39_method_3_code 87 = .ok (.iadd, 1) := by decide +kernel
theorem own_d2_88 : decode prog_39_method_3_code 88 = .ok (.i2b, 1) := by decide +kernel
theorem own_d2_89 : decode prog_39_method_3_code 89 = .ok (.bastore, 1) := by decide +kernel
theorem own_d2_90 : decode prog_39_method_3_code 90 = .ok (.iload 5, 2) := by decide +kernel
theorem own_d2_92 : decode prog_39_method_3_code 92 = .ok (.ifCond .le 12, 3) := by decide +kernel
theorem own_d2_95 : decode prog_39_method_3_code 95 = .ok (.aload_n 2, 1) := by decide +kernel
theorem own_d2_96 : decode prog_39_method_3_code 96 = .ok (.iload 4, 2) := by decide +kernel
theorem own_d2_98 : decode prog_39_method_3_code 98 = .ok (.iinc 4 1, 3) := by decide +kernel
theorem own_d2_101 : decode prog_39_method_3_code 101 = .ok (.bipush 46, 2) := by decide +kernel
theorem own_d2_103 : decode prog_39_method_3_code 103 = .ok (.bastore, 1) := by decide +kernel
theorem own_d2_104 : decode prog_39_method_3_code 104 = .ok (.iinc 5 (-1), 3) := by decide +kernel
theorem own_d2_107 : decode prog_39_method_3_code 107 = .ok (.goto (-101), 3) := by decide +kernel
set_option maxRecDepth 65536 in
set_option maxHeartbeats 40000000 in
theorem own_lp2 {p : Program} {l : Launch} {e : Env} {R : Room} {s : State} {m : MethodId} {args : Array Value} {below : List Frame} {meth : Method} {c : Code} {cells slots : Nat} {Z : State} {a0 : Array Value} {h0 : Heap} {n0 : Nat} {G : State → Outcome → Prop}
    (hx : p.tables.exec = Jvm.exec) (hZ : Z.Warmed39 s.vm) (hw : ∀ d ∈ tables_1, d.before a0 Z = true) (hby : c.code = prog_39_method_3_code) (hml : c.maxLocals = 7) (hown : s.vm.findClass "com/example/rowcast/rowcast/identifier/IpText" = some m.cls) (q0 : Int64) (a1 : Addr) (p2 : Int32) (z : Int32) (go_a1 : n0 ≤ a1) :
    ∀ (fuel : Nat) (T0 : State) (h : Heap) (locs : List Loc) (j : Int32) (i : Int32) (s6 : Slot) (f : Nat → Int32) (X0 : Stand p l e R s m args below meth c T0 locs cells slots) (e0 : T0.heap = h) (N0 : Fr n0 locs) (Z0 : n0 ≤ h.size) (K0 : Keep h0 h [a1]) (V0 : own_ArI Z h a1 .byte z f) (hj : 0 ≤ j.toInt) (hi : i.toInt + 1 = fuel) (hf4 : fuel ≤ 4) (hjz : j.toInt + 4 * fuel ≤ z.toInt + 1) (h6 : own_One s6),
    (∀ (T' : State) (h' : Heap) (locs' : List Loc) (j' : Int32) (i' : Int32) (s6' : Slot) (f' : Nat → Int32), Stand p l e R s m args below meth c T' locs' cells slots → T'.heap = h' → Fr n0 locs' → n0 ≤ h'.size → Keep h0 h' [a1] → own_ArI Z h' a1 .byte z f' → own_WS fuel q0 j f j' f' → ∃ s₂ o, Steps p.tables e below (T'.setTop (mkF m 110 #[.val (.long q0), .second, .val (.ref a1), .val (.int p2), .val (.int j'), .val (.int i'), s6'] [])) s₂ ∧ G s₂ o) →
    ∃ s₂ o, Steps p.tables e below (T0.setTop (mkF m 6 #[.val (.long q0), .second, .val (.ref a1), .val (.int p2), .val (.int j), .val (.int i), s6] [])) s₂ ∧ G s₂ o := by
  intro fuel
  induction fuel using Nat.strongRecOn with
  | ind fuel ih =>
  intro T0 h locs j i s6 f X0 e0 N0 Z0 K0 V0 hj hi hf4 hjz h6 kx
  refine own_go (T' := T0) (f' := (mkF m 8 #[.val (.long q0), .second, .val (.ref a1), .val (.int p2), .val (.int j), .val (.int i), s6] [(.int i)])) (fun t k => ?_) ?_
  · show Steps p.tables e below (T0.setTop (mkF m 6 #[.val (.long q0), .second, .val (.ref a1), .val (.int p2), .val (.int j), .val (.int i), s6] [])) _
    refine XS.iload X0.here hx rfl (hb hby own_d2_6) rfl ?_
    show Steps p.tables e below (T0.setTop (mkF m 8 #[.val (.long q0), .second, .val (.ref a1), .val (.int p2), .val (.int j), .val (.int i), s6] [(.int i)])) _
    exact k
  by_cases hc8_1 : i < (0 : Int32)
  · skip
    refine own_go (T' := T0) (f' := (mkF m 110 #[.val (.long q0), .second, .val (.ref a1), .val (.int p2), .val (.int j), .val (.int i), s6] [])) (fun t k => ?_) ?_
    · show Steps p.tables e below (T0.setTop (mkF m 8 #[.val (.long q0), .second, .val (.ref a1), .val (.int p2), .val (.int j), .val (.int i), s6] [(.int i)])) _
      refine XS.ifYes X0.here hx rfl (pc0 := 8) (pc' := 110) rfl (hb hby own_d2_8) rfl ((if0 _ _).trans (tlt hc8_1).1) (by decide) (by decide) ?_
      show Steps p.tables e below (T0.setTop (mkF m 110 #[.val (.long q0), .second, .val (.ref a1), .val (.int p2), .val (.int j), .val (.int i), s6] [])) _
      exact k
    have hf0 : fuel = 0 := by have q := hc8_1; rw [Int32.lt_iff_toInt_lt, show (0 : Int32).toInt = 0 from rfl] at q; omega
    subst hf0
    exact kx _ _ _ j i s6 f X0 e0 N0 Z0 K0 V0 own_WS.stop
  · skip
    refine own_go (T' := T0) (f' := (mkF m 25 #[.val (.long q0), .second, .val (.ref a1), .val (.int p2), .val (.int j), .val (.int i), .val (.int (((own_shrL q0 (i * (8 : Int32))).toInt32) &&& (255 : Int32)))] [])) (fun t k => ?_) ?_
    · show Steps p.tables e below (T0.setTop (mkF m 8 #[.val (.long q0), .second, .val (.ref a1), .val (.int p2), .val (.int j), .val (.int i), s6] [(.int i)])) _
      refine XS.ifNo X0.here hx rfl (hb hby own_d2_8) rfl ((if0 _ _).trans (flt hc8_1).1) ?_
      show Steps p.tables e below (T0.setTop (mkF m 11 #[.val (.long q0), .second, .val (.ref a1), .val (.int p2), .val (.int j), .val (.int i), s6] [])) _
      refine XS.lloadN X0.here hx rfl (hb hby own_d2_11) rfl ?_
      show Steps p.tables e below (T0.setTop (mkF m 12 #[.val (.long q0), .second, .val (.ref a1), .val (.int p2), .val (.int j), .val (.int i), s6] [(.long q0)])) _
      refine XS.iload X0.here hx rfl (hb hby own_d2_12) rfl ?_
      show Steps p.tables e below (T0.setTop (mkF m 14 #[.val (.long q0), .second, .val (.ref a1), .val (.int p2), .val (.int j), .val (.int i), s6] [(.int i), (.long q0)])) _
      refine XS.bipush X0.here hx rfl (hb hby own_d2_14) ?_
      show Steps p.tables e below (T0.setTop (mkF m 16 #[.val (.long q0), .second, .val (.ref a1), .val (.int p2), .val (.int j), .val (.int i), s6] [(.int (8 : Int32)), (.int i), (.long q0)])) _
      refine XS.imul X0.here hx rfl (hb hby own_d2_16) rfl ?_
      show Steps p.tables e below (T0.setTop (mkF m 17 #[.val (.long q0), .second, .val (.ref a1), .val (.int p2), .val (.int j), .val (.int i), s6] [(.int (i * (8 : Int32))), (.long q0)])) _
      refine XS.lushr X0.here hx rfl (hb hby own_d2_17) rfl ?_
      show Steps p.tables e below (T0.setTop (mkF m 18 #[.val (.long q0), .second, .val (.ref a1), .val (.int p2), .val (.int j), .val (.int i), s6] [(.long (own_shrL q0 (i * (8 : Int32))))])) _
      refine XS.l2i X0.here hx rfl (hb hby own_d2_18) rfl ?_
      show Steps p.tables e below (T0.setTop (mkF m 19 #[.val (.long q0), .second, .val (.ref a1), .val (.int p2), .val (.int j), .val (.int i), s6] [(.int ((own_shrL q0 (i * (8 : Int32))).toInt32))])) _
      refine XS.sipush X0.here hx rfl (hb hby own_d2_19) ?_
      show Steps p.tables e below (T0.setTop (mkF m 22 #[.val (.long q0), .second, .val (.ref a1), .val (.int p2), .val (.int j), .val (.int i), s6] [(.int (255 : Int32)), (.int ((own_shrL q0 (i * (8 : Int32))).toInt32))])) _
      refine XS.iand X0.here hx rfl (hb hby own_d2_22) rfl ?_
      show Steps p.tables e below (T0.setTop (mkF m 23 #[.val (.long q0), .second, .val (.ref a1), .val (.int p2), .val (.int j), .val (.int i), s6] [(.int (((own_shrL q0 (i * (8 : Int32))).toInt32) &&& (255 : Int32)))])) _
      refine XS.istoreS X0.here hx rfl (hb hby own_d2_23) rfl rfl h6 ?_
      show Steps p.tables e below (T0.setTop (mkF m 25 #[.val (.long q0), .second, .val (.ref a1), .val (.int p2), .val (.int j), .val (.int i), .val (.int (((own_shrL q0 (i * (8 : Int32))).toInt32) &&& (255 : Int32)))] [])) _
      exact k
    obtain ⟨o, ho⟩ : ∃ o : Int32, o = (((own_shrL q0 (i * (8 : Int32))).toInt32) &&& (255 : Int32)) := ⟨_, rfl⟩
    rw [← ho]
    have hi0 : 0 ≤ i.toInt := by have q := hc8_1; rw [Int32.lt_iff_toInt_lt, show (0 : Int32).toInt = 0 from rfl] at q; omega
    have hO : o.toInt = own_oct q0 (fuel - 1) := by rw [ho]; exact own_octI q0 i (fuel - 1) (by omega) (by omega)
    have hO2 := own_oct_lt q0 (fuel - 1)
    have zr := rng32 z
    have hj1 : (j + (1 : Int32)).toInt = j.toInt + 1 := own_inc (by omega)
    have hj2 : ((j + (1 : Int32)) + (1 : Int32)).toInt = j.toInt + 2 := by rw [own_inc (by omega), hj1]; omega
    have hj3 : (((j + (1 : Int32)) + (1 : Int32)) + (1 : Int32)).toInt = j.toInt + 3 := by rw [own_inc (by omega), hj2]; omega
    refine own_go (T' := T0) (f' := (mkF m 29 #[.val (.long q0), .second, .val (.ref a1), .val (.int p2), .val (.int j), .val (.int i), .val (.int o)] [(.int (100 : Int32)), (.int o)])) (fun t k => ?_) ?_
    · show Steps p.tables e below (T0.setTop (mkF m 25 #[.val (.long q0), .second, .val (.ref a1), .val (.int p2), .val (.int j), .val (.int i), .val (.int o)] [])) _
      refine XS.iload X0.here hx rfl (hb hby own_d2_25) rfl ?_
      show Steps p.tables e below (T0.setTop (mkF m 27 #[.val (.long q0), .second, .val (.ref a1), .val (.int p2), .val (.int j), .val (.int i), .val (.int o)] [(.int o)])) _
      refine XS.bipush X0.here hx rfl (hb hby own_d2_27) ?_
      show Steps p.tables e below (T0.setTop (mkF m 29 #[.val (.long q0), .second, .val (.ref a1), .val (.int p2), .val (.int j), .val (.int i), .val (.int o)] [(.int (100 : Int32)), (.int o)])) _
      exact k
    by_cases hc29_2 : o < (100 : Int32)
    · skip
      refine own_go (T' := T0) (f' := (mkF m 52 #[.val (.long q0), .second, .val (.ref a1), .val (.int p2), .val (.int j), .val (.int i), .val (.int o)] [(.int (10 : Int32)), (.int o)])) (fun t k => ?_) ?_
      · show Steps p.tables e below (T0.setTop (mkF m 29 #[.val (.long q0), .second, .val (.ref a1), .val (.int p2), .val (.int j), .val (.int i), .val (.int o)] [(.int (100 : Int32)), (.int o)])) _
        refine XS.icmpYes X0.here hx rfl (pc0 := 29) (pc' := 48) rfl (hb hby own_d2_29) rfl (tlt hc29_2).1 (by decide) (by decide) ?_
        show Steps p.tables e below (T0.setTop (mkF m 48 #[.val (.long q0), .second, .val (.ref a1), .val (.int p2), .val (.int j), .val (.int i), .val (.int o)] [])) _
        refine XS.iload X0.here hx rfl (hb hby own_d2_48) rfl ?_
        show Steps p.tables e below (T0.setTop (mkF m 50 #[.val (.long q0), .second, .val (.ref a1), .val (.int p2), .val (.int j), .val (.int i), .val (.int o)] [(.int o)])) _
        refine XS.bipush X0.here hx rfl (hb hby own_d2_50) ?_
        show Steps p.tables e below (T0.setTop (mkF m 52 #[.val (.long q0), .second, .val (.ref a1), .val (.int p2), .val (.int j), .val (.int i), .val (.int o)] [(.int (10 : Int32)), (.int o)])) _
        exact k
      by_cases hc52_3 : o < (10 : Int32)
      · skip
        refine own_go (T' := T0) (f' := (mkF m 89 #[.val (.long q0), .second, .val (.ref a1), .val (.int p2), .val (.int (j + (1 : Int32))), .val (.int i), .val (.int o)] [(.int (((48 : Int32) + (o - (o / (10 : Int32)) * (10 : Int32))).toInt8.toInt32)), (.int j), (.ref a1)])) (fun t k => ?_) ?_
        · show Steps p.tables e below (T0.setTop (mkF m 52 #[.val (.long q0), .second, .val (.ref a1), .val (.int p2), .val (.int j), .val (.int i), .val (.int o)] [(.int (10 : Int32)), (.int o)])) _
          refine XS.icmpYes X0.here hx rfl (pc0 := 52) (pc' := 74) rfl (hb hby own_d2_52) rfl (tlt hc52_3).1 (by decide) (by decide) ?_
          show Steps p.tables e below (T0.setTop (mkF m 74 #[.val (.long q0), .second, .val (.ref a1), .val (.int p2), .val (.int j), .val (.int i), .val (.int o)] [])) _
          refine XS.aloadN X0.here hx rfl (hb hby own_d2_74) rfl rfl ?_
          show Steps p.tables e below (T0.setTop (mkF m 75 #[.val (.long q0), .second, .val (.ref a1), .val (.int p2), .val (.int j), .val (.int i), .val (.int o)] [(.ref a1)])) _
          refine XS.iload X0.here hx rfl (hb hby own_d2_75) rfl ?_
          show Steps p.tables e below (T0.setTop (mkF m 77 #[.val (.long q0), .second, .val (.ref a1), .val (.int p2), .val (.int j), .val (.int i), .val (.int o)] [(.int j), (.ref a1)])) _
          refine XS.iinc X0.here hx rfl (hb hby own_d2_77) rfl (l' := #[.val (.long q0), .second, .val (.ref a1), .val (.int p2), .val (.int (j + (1 : Int32))), .val (.int i), .val (.int o)]) rfl ?_
          show Steps p.tables e below (T0.setTop (mkF m 80 #[.val (.long q0), .second, .val (.ref a1), .val (.int p2), .val (.int (j + (1 : Int32))), .val (.int i), .val (.int o)] [(.int j), (.ref a1)])) _
          refine XS.bipush X0.here hx rfl (hb hby own_d2_80) ?_
          show Steps p.tables e below (T0.setTop (mkF m 82 #[.val (.long q0), .second, .val (.ref a1), .val (.int p2), .val (.int (j + (1 : Int32))), .val (.int i), .val (.int o)] [(.int (48 : Int32)), (.int j), (.ref a1)])) _
          refine XS.iload X0.here hx rfl (hb hby own_d2_82) rfl ?_
          show Steps p.tables e below (T0.setTop (mkF m 84 #[.val (.long q0), .second, .val (.ref a1), .val (.int p2), .val (.int (j + (1 : Int32))), .val (.int i), .val (.int o)] [(.int o), (.int (48 : Int32)), (.int j), (.ref a1)])) _
          refine XS.bipush X0.here hx rfl (hb hby own_d2_84) ?_
          show Steps p.tables e below (T0.setTop (mkF m 86 #[.val (.long q0), .second, .val (.ref a1), .val (.int p2), .val (.int (j + (1 : Int32))), .val (.int i), .val (.int o)] [(.int (10 : Int32)), (.int o), (.int (48 : Int32)), (.int j), (.ref a1)])) _
          refine XS.irem X0.here hx rfl (hb hby own_d2_86) rfl (by decide) ?_
          show Steps p.tables e below (T0.setTop (mkF m 87 #[.val (.long q0), .second, .val (.ref a1), .val (.int p2), .val (.int (j + (1 : Int32))), .val (.int i), .val (.int o)] [(.int (o - (o / (10 : Int32)) * (10 : Int32))), (.int (48 : Int32)), (.int j), (.ref a1)])) _
          refine XS.iadd X0.here hx rfl (hb hby own_d2_87) rfl ?_
          show Steps p.tables e below (T0.setTop (mkF m 88 #[.val (.long q0), .second, .val (.ref a1), .val (.int p2), .val (.int (j + (1 : Int32))), .val (.int i), .val (.int o)] [(.int ((48 : Int32) + (o - (o / (10 : Int32)) * (10 : Int32)))), (.int j), (.ref a1)])) _
          refine XS.i2b X0.here hx rfl (hb hby own_d2_88) rfl ?_
          show Steps p.tables e below (T0.setTop (mkF m 89 #[.val (.long q0), .second, .val (.ref a1), .val (.int p2), .val (.int (j + (1 : Int32))), .val (.int i), .val (.int o)] [(.int (((48 : Int32) + (o - (o / (10 : Int32)) * (10 : Int32))).toInt8.toInt32)), (.int j), (.ref a1)])) _
          exact k
        obtain ⟨T4, h4, y4, X4, e4, W4, V4, ya4, yb4, st4⟩ := own_stB X0 hx hZ e0 V0 (j := j) (x := (((48 : Int32) + (o - (o / (10 : Int32)) * (10 : Int32))).toInt8.toInt32)) (by omega) (by omega) (g := (mkF m 89 #[.val (.long q0), .second, .val (.ref a1), .val (.int p2), .val (.int (j + (1 : Int32))), .val (.int i), .val (.int o)] [(.int (((48 : Int32) + (o - (o / (10 : Int32)) * (10 : Int32))).toInt8.toInt32)), (.int j), (.ref a1)])) rfl rfl (hb hby own_d2_89)
        refine own_go (T' := T4) (f' := (mkF m 90 #[.val (.long q0), .second, .val (.ref a1), .val (.int p2), .val (.int (j + (1 : Int32))), .val (.int i), .val (.int o)] [])) st4 ?_
        have fc5 : own_ArI Z h4 a1 .byte z y4 := V4
        have Zs4 : n0 ≤ h4.size := Nat.le_trans Z0 (Keep.of_wr W4).1
        have K4 : Keep h0 h4 [a1] := K0.wr W4 (Or.inl (List.mem_of_getElem? (i := 0) rfl))
        have N4 := Fr.snoc X4 N0 go_a1
        have ya4' : y4 j.toInt.toNat = (nar .byte (((48 : Int32) + (o - (o / (10 : Int32)) * (10 : Int32))).toInt8.toInt32)) := ya4
        have yb4' : ∀ i, i ≠ j.toInt.toNat → y4 i = f i := yb4
        refine own_go (T' := T4) (f' := (mkF m 92 #[.val (.long q0), .second, .val (.ref a1), .val (.int p2), .val (.int (j + (1 : Int32))), .val (.int i), .val (.int o)] [(.int i)])) (fun t k => ?_) ?_
        · show Steps p.tables e below (T4.setTop (mkF m 90 #[.val (.long q0), .second, .val (.ref a1), .val (.int p2), .val (.int (j + (1 : Int32))), .val (.int i), .val (.int o)] [])) _
          refine XS.iload X4.here hx rfl (hb hby own_d2_90) rfl ?_
          show Steps p.tables e below (T4.setTop (mkF m 92 #[.val (.long q0), .second, .val (.ref a1), .val (.int p2), .val (.int (j + (1 : Int32))), .val (.int i), .val (.int o)] [(.int i)])) _
          exact k
        by_cases hc92_6 : (0 : Int32) < i
        · skip
          refine own_go (T' := T4) (f' := (mkF m 103 #[.val (.long q0), .second, .val (.ref a1), .val (.int p2), .val (.int ((j + (1 : Int32)) + (1 : Int32))), .val (.int i), .val (.int o)] [(.int (46 : Int32)), (.int (j + (1 : Int32))), (.ref a1)])) (fun t k => ?_) ?_
          · show Steps p.tables e below (T4.setTop (mkF m 92 #[.val (.long q0), .second, .val (.ref a1), .val (.int p2), .val (.int (j + (1 : Int32))), .val (.int i), .val (.int o)] [(.int i)])) _
            refine XS.ifNo X4.here hx rfl (hb hby own_d2_92) rfl ((if0 _ _).trans (tlt hc92_6).2.2.2) ?_
            show Steps p.tables e below (T4.setTop (mkF m 95 #[.val (.long q0), .second, .val (.ref a1), .val (.int p2), .val (.int (j + (1 : Int32))), .val (.int i), .val (.int o)] [])) _
            refine XS.aloadN X4.here hx rfl (hb hby own_d2_95) rfl rfl ?_
            show Steps p.tables e below (T4.setTop (mkF m 96 #[.val (.long q0), .second, .val (.ref a1), .val (.int p2), .val (.int (j + (1 : Int32))), .val (.int i), .val (.int o)] [(.ref a1)])) _
            refine XS.iload X4.here hx rfl (hb hby own_d2_96) rfl ?_
            show Steps p.tables e below (T4.setTop (mkF m 98 #[.val (.long q0), .second, .val (.ref a1), .val (.int p2), .val (.int (j + (1 : Int32))), .val (.int i), .val (.int o)] [(.int (j + (1 : Int32))), (.ref a1)])) _
            refine XS.iinc X4.here hx rfl (hb hby own_d2_98) rfl (l' := #[.val (.long q0), .second, .val (.ref a1), .val (.int p2), .val (.int ((j + (1 : Int32)) + (1 : Int32))), .val (.int i), .val (.int o)]) rfl ?_
            show Steps p.tables e below (T4.setTop (mkF m 101 #[.val (.long q0), .second, .val (.ref a1), .val (.int p2), .val (.int ((j + (1 : Int32)) + (1 : Int32))), .val (.int i), .val (.int o)] [(.int (j + (1 : Int32))), (.ref a1)])) _
            refine XS.bipush X4.here hx rfl (hb hby own_d2_101) ?_
            show Steps p.tables e below (T4.setTop (mkF m 103 #[.val (.long q0), .second, .val (.ref a1), .val (.int p2), .val (.int ((j + (1 : Int32)) + (1 : Int32))), .val (.int i), .val (.int o)] [(.int (46 : Int32)), (.int (j + (1 : Int32))), (.ref a1)])) _
            exact k
          have hi1 : 0 < i.toInt := by have q := hc92_6; rw [Int32.lt_iff_toInt_lt] at q; exact q
          obtain ⟨T7, h7, y7, X7, e7, W7, V7, ya7, yb7, st7⟩ := own_stB X4 hx hZ e4 fc5 (j := (j + (1 : Int32))) (x := (46 : Int32)) (by omega) (by omega) (g := (mkF m 103 #[.val (.long q0), .second, .val (.ref a1), .val (.int p2), .val (.int ((j + (1 : Int32)) + (1 : Int32))), .val (.int i), .val (.int o)] [(.int (46 : Int32)), (.int (j + (1 : Int32))), (.ref a1)])) rfl rfl (hb hby own_d2_103)
          refine own_go (T' := T7) (f' := (mkF m 104 #[.val (.long q0), .second, .val (.ref a1), .val (.int p2), .val (.int ((j + (1 : Int32)) + (1 : Int32))), .val (.int i), .val (.int o)] [])) st7 ?_
          have fc8 : own_ArI Z h7 a1 .byte z y7 := V7
          have Zs7 : n0 ≤ h7.size := Nat.le_trans Zs4 (Keep.of_wr W7).1
          have K7 : Keep h0 h7 [a1] := K4.wr W7 (Or.inl (List.mem_of_getElem? (i := 0) rfl))
          have N7 := Fr.snoc X7 N4 go_a1
          have ya7' : y7 (j + (1 : Int32)).toInt.toNat = (nar .byte (46 : Int32)) := ya7
          have yb7' : ∀ i, i ≠ (j + (1 : Int32)).toInt.toNat → y7 i = y4 i := yb7
          refine own_go (T' := T7) (f' := (mkF m 6 #[.val (.long q0), .second, .val (.ref a1), .val (.int p2), .val (.int ((j + (1 : Int32)) + (1 : Int32))), .val (.int (i + (Int32.ofInt (-1)))), .val (.int o)] [])) (fun t k => ?_) ?_
          · show Steps p.tables e below (T7.setTop (mkF m 104 #[.val (.long q0), .second, .val (.ref a1), .val (.int p2), .val (.int ((j + (1 : Int32)) + (1 : Int32))), .val (.int i), .val (.int o)] [])) _
            refine XS.iinc X7.here hx rfl (hb hby own_d2_104) rfl (l' := #[.val (.long q0), .second, .val (.ref a1), .val (.int p2), .val (.int ((j + (1 : Int32)) + (1 : Int32))), .val (.int (i + (Int32.ofInt (-1)))), .val (.int o)]) rfl ?_
            show Steps p.tables e below (T7.setTop (mkF m 107 #[.val (.long q0), .second, .val (.ref a1), .val (.int p2), .val (.int ((j + (1 : Int32)) + (1 : Int32))), .val (.int (i + (Int32.ofInt (-1)))), .val (.int o)] [])) _
            refine XS.goto X7.here hx rfl (pc0 := 107) (pc' := 6) rfl (hb hby own_d2_107) (by decide) (by decide) ?_
            show Steps p.tables e below (T7.setTop (mkF m 6 #[.val (.long q0), .second, .val (.ref a1), .val (.int p2), .val (.int ((j + (1 : Int32)) + (1 : Int32))), .val (.int (i + (Int32.ofInt (-1)))), .val (.int o)] [])) _
            exact k
          have hn1 : (j + (1 : Int32)).toInt.toNat = j.toInt.toNat + 1 := by omega
          rw [hn1] at ya7' yb7'
          have hnum := own_num1 (J := j.toInt.toNat) (o := own_oct q0 (fuel - 1)) (by have q := hc52_3; rw [Int32.lt_iff_toInt_lt] at q; have e100 : (100 : Int32).toInt = 100 := rfl; have e10 : (10 : Int32).toInt = 10 := rfl; omega) (by rw [ya4']; exact own_v1 o _ hO hO2) yb4'
          have hdot := own_dot hnum yb7'
          have hi1 : 0 < i.toInt := by have q := hc92_6; rw [Int32.lt_iff_toInt_lt] at q; exact q
          have hp : if fuel = 1 then ((j + (1 : Int32)) + (1 : Int32)).toInt = j.toInt + own_D (own_oct q0 (fuel - 1)) else ((j + (1 : Int32)) + (1 : Int32)).toInt = j.toInt + own_D (own_oct q0 (fuel - 1)) + 1 ∧ (y7 (j.toInt.toNat + own_D (own_oct q0 (fuel - 1)))).toInt = 46 := by rw [if_neg (by omega), hdot.2.1, ya7']; exact ⟨by omega, by decide⟩
          have hdr := hdot.2.1
          have hi' : (i + (Int32.ofInt (-1))).toInt = i.toInt - 1 := own_dec (by omega)
          generalize (i + (Int32.ofInt (-1))) = i1 at *
          refine ih (fuel - 1) (by omega) _ _ _ (((j + (1 : Int32)) + (1 : Int32))) i1 (.val (.int o)) y7 X7 e7 N7 Zs7 K7 fc8 (by omega) (by omega) (by omega) (by omega) (Or.inr ⟨_, rfl, rfl⟩) (fun T' h' locs' j' i' s6' f' X' e' N' Z' K' V0' sp => ?_)
          exact kx T' h' locs' j' i' s6' f' X' e' N' Z' K' V0' (own_WS.turn hj (by omega) hdot.1 hp (fun k hk => hdot.2.2 k (by omega)) sp)
        · skip
          refine own_go (T' := T4) (f' := (mkF m 6 #[.val (.long q0), .second, .val (.ref a1), .val (.int p2), .val (.int (j + (1 : Int32))), .val (.int (i + (Int32.ofInt (-1)))), .val (.int o)] [])) (fun t k => ?_) ?_
          · show Steps p.tables e below (T4.setTop (mkF m 92 #[.val (.long q0), .second, .val (.ref a1), .val (.int p2), .val (.int (j + (1 : Int32))), .val (.int i), .val (.int o)] [(.int i)])) _
            refine XS.ifYes X4.here hx rfl (pc0 := 92) (pc' := 104) rfl (hb hby own_d2_92) rfl ((if0 _ _).trans (flt hc92_6).2.2.2) (by decide) (by decide) ?_
            show Steps p.tables e below (T4.setTop (mkF m 104 #[.val (.long q0), .second, .val (.ref a1), .val (.int p2), .val (.int (j + (1 : Int32))), .val (.int i), .val (.int o)] [])) _
            refine XS.iinc X4.here hx rfl (hb hby own_d2_104) rfl (l' := #[.val (.long q0), .second, .val (.ref a1), .val (.int p2), .val (.int (j + (1 : Int32))), .val (.int (i + (Int32.ofInt (-1)))), .val (.int o)]) rfl ?_
            show Steps p.tables e below (T4.setTop (mkF m 107 #[.val (.long q0), .second, .val (.ref a1), .val (.int p2), .val (.int (j + (1 : Int32))), .val (.int (i + (Int32.ofInt (-1)))), .val (.int o)] [])) _
            refine XS.goto X4.here hx rfl (pc0 := 107) (pc' := 6) rfl (hb hby own_d2_107) (by decide) (by decide) ?_
            show Steps p.tables e below (T4.setTop (mkF m 6 #[.val (.long q0), .second, .val (.ref a1), .val (.int p2), .val (.int (j + (1 : Int32))), .val (.int (i + (Int32.ofInt (-1)))), .val (.int o)] [])) _
            exact k
          have hn1 : (j + (1 : Int32)).toInt.toNat = j.toInt.toNat + 1 := by omega
          have hnum := own_num1 (J := j.toInt.toNat) (o := own_oct q0 (fuel - 1)) (by have q := hc52_3; rw [Int32.lt_iff_toInt_lt] at q; have e100 : (100 : Int32).toInt = 100 := rfl; have e10 : (10 : Int32).toInt = 10 := rfl; omega) (by rw [ya4']; exact own_v1 o _ hO hO2) yb4'
          have hi1 : ¬ 0 < i.toInt := by have q := hc92_6; rw [Int32.lt_iff_toInt_lt] at q; exact q
          have hp : if fuel = 1 then (j + (1 : Int32)).toInt = j.toInt + own_D (own_oct q0 (fuel - 1)) else (j + (1 : Int32)).toInt = j.toInt + own_D (own_oct q0 (fuel - 1)) + 1 ∧ (y4 (j.toInt.toNat + own_D (own_oct q0 (fuel - 1)))).toInt = 46 := by rw [if_pos (by omega), hnum.2.1]; omega
          have hdr := hnum.2.1
          have hi' : (i + (Int32.ofInt (-1))).toInt = i.toInt - 1 := own_dec (by omega)
          generalize (i + (Int32.ofInt (-1))) = i1 at *
          refine ih (fuel - 1) (by omega) _ _ _ ((j + (1 : Int32))) i1 (.val (.int o)) y4 X4 e4 N4 Zs4 K4 fc5 (by omega) (by omega) (by omega) (by omega) (Or.inr ⟨_, rfl, rfl⟩) (fun T' h' locs' j' i' s6' f' X' e' N' Z' K' V0' sp => ?_)
          exact kx T' h' locs' j' i' s6' f' X' e' N' Z' K' V0' (own_WS.turn hj (by omega) hnum.1 hp (fun k hk => hnum.2.2 k (by omega)) sp)
      · skip
        refine own_go (T' := T0) (f' := (mkF m 73 #[.val (.long q0), .second, .val (.ref a1), .val (.int p2), .val (.int (j + (1 : Int32))), .val (.int i), .val (.int o)] [(.int (((48 : Int32) + ((o / (10 : Int32)) - ((o / (10 : Int32)) / (10 : Int32)) * (10 : Int32))).toInt8.toInt32)), (.int j), (.ref a1)])) (fun t k => ?_) ?_
        · show Steps p.tables e below (T0.setTop (mkF m 52 #[.val (.long q0), .second, .val (.ref a1), .val (.int p2), .val (.int j), .val (.int i), .val (.int o)] [(.int (10 : Int32)), (.int o)])) _
          refine XS.icmpNo X0.here hx rfl (hb hby own_d2_52) rfl (flt hc52_3).1 ?_
          show Steps p.tables e below (T0.setTop (mkF m 55 #[.val (.long q0), .second, .val (.ref a1), .val (.int p2), .val (.int j), .val (.int i), .val (.int o)] [])) _
          refine XS.aloadN X0.here hx rfl (hb hby own_d2_55) rfl rfl ?_
          show Steps p.tables e below (T0.setTop (mkF m 56 #[.val (.long q0), .second, .val (.ref a1), .val (.int p2), .val (.int j), .val (.int i), .val (.int o)] [(.ref a1)])) _
          refine XS.iload X0.here hx rfl (hb hby own_d2_56) rfl ?_
          show Steps p.tables e below (T0.setTop (mkF m 58 #[.val (.long q0), .second, .val (.ref a1), .val (.int p2), .val (.int j), .val (.int i), .val (.int o)] [(.int j), (.ref a1)])) _
          refine XS.iinc X0.here hx rfl (hb hby own_d2_58) rfl (l' := #[.val (.long q0), .second, .val (.ref a1), .val (.int p2), .val (.int (j + (1 : Int32))), .val (.int i), .val (.int o)]) rfl ?_
          show Steps p.tables e below (T0.setTop (mkF m 61 #[.val (.long q0), .second, .val (.ref a1), .val (.int p2), .val (.int (j + (1 : Int32))), .val (.int i), .val (.int o)] [(.int j), (.ref a1)])) _
          refine XS.bipush X0.here hx rfl (hb hby own_d2_61) ?_
          show Steps p.tables e below (T0.setTop (mkF m 63 #[.val (.long q0), .second, .val (.ref a1), .val (.int p2), .val (.int (j + (1 : Int32))), .val (.int i), .val (.int o)] [(.int (48 : Int32)), (.int j), (.ref a1)])) _
          refine XS.iload X0.here hx rfl (hb hby own_d2_63) rfl ?_
          show Steps p.tables e below (T0.setTop (mkF m 65 #[.val (.long q0), .second, .val (.ref a1), .val (.int p2), .val (.int (j + (1 : Int32))), .val (.int i), .val (.int o)] [(.int o), (.int (48 : Int32)), (.int j), (.ref a1)])) _
          refine XS.bipush X0.here hx rfl (hb hby own_d2_65) ?_
          show Steps p.tables e below (T0.setTop (mkF m 67 #[.val (.long q0), .second, .val (.ref a1), .val (.int p2), .val (.int (j + (1 : Int32))), .val (.int i), .val (.int o)] [(.int (10 : Int32)), (.int o), (.int (48 : Int32)), (.int j), (.ref a1)])) _
          refine XS.idiv X0.here hx rfl (hb hby own_d2_67) rfl (by decide) ?_
          show Steps p.tables e below (T0.setTop (mkF m 68 #[.val (.long q0), .second, .val (.ref a1), .val (.int p2), .val (.int (j + (1 : Int32))), .val (.int i), .val (.int o)] [(.int (o / (10 : Int32))), (.int (48 : Int32)), (.int j), (.ref a1)])) _
          refine XS.bipush X0.here hx rfl (hb hby own_d2_68) ?_
          show Steps p.tables e below (T0.setTop (mkF m 70 #[.val (.long q0), .second, .val (.ref a1), .val (.int p2), .val (.int (j + (1 : Int32))), .val (.int i), .val (.int o)] [(.int (10 : Int32)), (.int (o / (10 : Int32))), (.int (48 : Int32)), (.int j), (.ref a1)])) _
          refine XS.irem X0.here hx rfl (hb hby own_d2_70) rfl (by decide) ?_
          show Steps p.tables e below (T0.setTop (mkF m 71 #[.val (.long q0), .second, .val (.ref a1), .val (.int p2), .val (.int (j + (1 : Int32))), .val (.int i), .val (.int o)] [(.int ((o / (10 : Int32)) - ((o / (10 : Int32)) / (10 : Int32)) * (10 : Int32))), (.int (48 : Int32)), (.int j), (.ref a1)])) _
          refine XS.iadd X0.here hx rfl (hb hby own_d2_71) rfl ?_
          show Steps p.tables e below (T0.setTop (mkF m 72 #[.val (.long q0), .second, .val (.ref a1), .val (.int p2), .val (.int (j + (1 : Int32))), .val (.int i), .val (.int o)] [(.int ((48 : Int32) + ((o / (10 : Int32)) - ((o / (10 : Int32)) / (10 : Int32)) * (10 : Int32)))), (.int j), (.ref a1)])) _
          refine XS.i2b X0.here hx rfl (hb hby own_d2_72) rfl ?_
          show Steps p.tables e below (T0.setTop (mkF m 73 #[.val (.long q0), .second, .val (.ref a1), .val (.int p2), .val (.int (j + (1 : Int32))), .val (.int i), .val (.int o)] [(.int (((48 : Int32) + ((o / (10 : Int32)) - ((o / (10 : Int32)) / (10 : Int32)) * (10 : Int32))).toInt8.toInt32)), (.int j), (.ref a1)])) _
          exact k
        obtain ⟨T9, h9, y9, X9, e9, W9, V9, ya9, yb9, st9⟩ := own_stB X0 hx hZ e0 V0 (j := j) (x := (((48 : Int32) + ((o / (10 : Int32)) - ((o / (10 : Int32)) / (10 : Int32)) * (10 : Int32))).toInt8.toInt32)) (by omega) (by omega) (g := (mkF m 73 #[.val (.long q0), .second, .val (.ref a1), .val (.int p2), .val (.int (j + (1 : Int32))), .val (.int i), .val (.int o)] [(.int (((48 : Int32) + ((o / (10 : Int32)) - ((o / (10 : Int32)) / (10 : Int32)) * (10 : Int32))).toInt8.toInt32)), (.int j), (.ref a1)])) rfl rfl (hb hby own_d2_73)
        refine own_go (T' := T9) (f' := (mkF m 74 #[.val (.long q0), .second, .val (.ref a1), .val (.int p2), .val (.int (j + (1 : Int32))), .val (.int i), .val (.int o)] [])) st9 ?_
        have fc10 : own_ArI Z h9 a1 .byte z y9 := V9
        have Zs9 : n0 ≤ h9.size := Nat.le_trans Z0 (Keep.of_wr W9).1
        have K9 : Keep h0 h9 [a1] := K0.wr W9 (Or.inl (List.mem_of_getElem? (i := 0) rfl))
        have N9 := Fr.snoc X9 N0 go_a1
        have ya9' : y9 j.toInt.toNat = (nar .byte (((48 : Int32) + ((o / (10 : Int32)) - ((o / (10 : Int32)) / (10 : Int32)) * (10 : Int32))).toInt8.toInt32)) := ya9
        have yb9' : ∀ i, i ≠ j.toInt.toNat → y9 i = f i := yb9
        refine own_go (T' := T9) (f' := (mkF m 89 #[.val (.long q0), .second, .val (.ref a1), .val (.int p2), .val (.int ((j + (1 : Int32)) + (1 : Int32))), .val (.int i), .val (.int o)] [(.int (((48 : Int32) + (o - (o / (10 : Int32)) * (10 : Int32))).toInt8.toInt32)), (.int (j + (1 : Int32))), (.ref a1)])) (fun t k => ?_) ?_
        · show Steps p.tables e below (T9.setTop (mkF m 74 #[.val (.long q0), .second, .val (.ref a1), .val (.int p2), .val (.int (j + (1 : Int32))), .val (.int i), .val (.int o)] [])) _
          refine XS.aloadN X9.here hx rfl (hb hby own_d2_74) rfl rfl ?_
          show Steps p.tables e below (T9.setTop (mkF m 75 #[.val (.long q0), .second, .val (.ref a1), .val (.int p2), .val (.int (j + (1 : Int32))), .val (.int i), .val (.int o)] [(.ref a1)])) _
          refine XS.iload X9.here hx rfl (hb hby own_d2_75) rfl ?_
          show Steps p.tables e below (T9.setTop (mkF m 77 #[.val (.long q0), .second, .val (.ref a1), .val (.int p2), .val (.int (j + (1 : Int32))), .val (.int i), .val (.int o)] [(.int (j + (1 : Int32))), (.ref a1)])) _
          refine XS.iinc X9.here hx rfl (hb hby own_d2_77) rfl (l' := #[.val (.long q0), .second, .val (.ref a1), .val (.int p2), .val (.int ((j + (1 : Int32)) + (1 : Int32))), .val (.int i), .val (.int o)]) rfl ?_
          show Steps p.tables e below (T9.setTop (mkF m 80 #[.val (.long q0), .second, .val (.ref a1), .val (.int p2), .val (.int ((j + (1 : Int32)) + (1 : Int32))), .val (.int i), .val (.int o)] [(.int (j + (1 : Int32))), (.ref a1)])) _
          refine XS.bipush X9.here hx rfl (hb hby own_d2_80) ?_
          show Steps p.tables e below (T9.setTop (mkF m 82 #[.val (.long q0), .second, .val (.ref a1), .val (.int p2), .val (.int ((j + (1 : Int32)) + (1 : Int32))), .val (.int i), .val (.int o)] [(.int (48 : Int32)), (.int (j + (1 : Int32))), (.ref a1)])) _
          refine XS.iload X9.here hx rfl (hb hby own_d2_82) rfl ?_
          show Steps p.tables e below (T9.setTop (mkF m 84 #[.val (.long q0), .second, .val (.ref a1), .val (.int p2), .val (.int ((j + (1 : Int32)) + (1 : Int32))), .val (.int i), .val (.int o)] [(.int o), (.int (48 : Int32)), (.int (j + (1 : Int32))), (.ref a1)])) _
          refine XS.bipush X9.here hx rfl (hb hby own_d2_84) ?_
          show Steps p.tables e below (T9.setTop (mkF m 86 #[.val (.long q0), .second, .val (.ref a1), .val (.int p2), .val (.int ((j + (1 : Int32)) + (1 : Int32))), .val (.int i), .val (.int o)] [(.int (10 : Int32)), (.int o), (.int (48 : Int32)), (.int (j + (1 : Int32))), (.ref a1)])) _
          refine XS.irem X9.here hx rfl (hb hby own_d2_86) rfl (by decide) ?_
          show Steps p.tables e below (T9.setTop (mkF m 87 #[.val (.long q0), .second, .val (.ref a1), .val (.int p2), .val (.int ((j + (1 : Int32)) + (1 : Int32))), .val (.int i), .val (.int o)] [(.int (o - (o / (10 : Int32)) * (10 : Int32))), (.int (48 : Int32)), (.int (j + (1 : Int32))), (.ref a1)])) _
          refine XS.iadd X9.here hx rfl (hb hby own_d2_87) rfl ?_
          show Steps p.tables e below (T9.setTop (mkF m 88 #[.val (.long q0), .second, .val (.ref a1), .val (.int p2), .val (.int ((j + (1 : Int32)) + (1 : Int32))), .val (.int i), .val (.int o)] [(.int ((48 : Int32) + (o - (o / (10 : Int32)) * (10 : Int32)))), (.int (j + (1 : Int32))), (.ref a1)])) _
          refine XS.i2b X9.here hx rfl (hb hby own_d2_88) rfl ?_
          show Steps p.tables e below (T9.setTop (mkF m 89 #[.val (.long q0), .second, .val (.ref a1), .val (.int p2), .val (.int ((j + (1 : Int32)) + (1 : Int32))), .val (.int i), .val (.int o)] [(.int (((48 : Int32) + (o - (o / (10 : Int32)) * (10 : Int32))).toInt8.toInt32)), (.int (j + (1 : Int32))), (.ref a1)])) _
          exact k
        obtain ⟨T11, h11, y11, X11, e11, W11, V11, ya11, yb11, st11⟩ := own_stB X9 hx hZ e9 fc10 (j := (j + (1 : Int32))) (x := (((48 : Int32) + (o - (o / (10 : Int32)) * (10 : Int32))).toInt8.toInt32)) (by omega) (by omega) (g := (mkF m 89 #[.val (.long q0), .second, .val (.ref a1), .val (.int p2), .val (.int ((j + (1 : Int32)) + (1 : Int32))), .val (.int i), .val (.int o)] [(.int (((48 : Int32) + (o - (o / (10 : Int32)) * (10 : Int32))).toInt8.toInt32)), (.int (j + (1 : Int32))), (.ref a1)])) rfl rfl (hb hby own_d2_89)
        refine own_go (T' := T11) (f' := (mkF m 90 #[.val (.long q0), .second, .val (.ref a1), .val (.int p2), .val (.int ((j + (1 : Int32)) + (1 : Int32))), .val (.int i), .val (.int o)] [])) st11 ?_
        have fc12 : own_ArI Z h11 a1 .byte z y11 := V11
        have Zs11 : n0 ≤ h11.size := Nat.le_trans Zs9 (Keep.of_wr W11).1
        have K11 : Keep h0 h11 [a1] := K9.wr W11 (Or.inl (List.mem_of_getElem? (i := 0) rfl))
        have N11 := Fr.snoc X11 N9 go_a1
        have ya11' : y11 (j + (1 : Int32)).toInt.toNat = (nar .byte (((48 : Int32) + (o - (o / (10 : Int32)) * (10 : Int32))).toInt8.toInt32)) := ya11
        have yb11' : ∀ i, i ≠ (j + (1 : Int32)).toInt.toNat → y11 i = y9 i := yb11
        refine own_go (T' := T11) (f' := (mkF m 92 #[.val (.long q0), .second, .val (.ref a1), .val (.int p2), .val (.int ((j + (1 : Int32)) + (1 : Int32))), .val (.int i), .val (.int o)] [(.int i)])) (fun t k => ?_) ?_
        · show Steps p.tables e below (T11.setTop (mkF m 90 #[.val (.long q0), .second, .val (.ref a1), .val (.int p2), .val (.int ((j + (1 : Int32)) + (1 : Int32))), .val (.int i), .val (.int o)] [])) _
          refine XS.iload X11.here hx rfl (hb hby own_d2_90) rfl ?_
          show Steps p.tables e below (T11.setTop (mkF m 92 #[.val (.long q0), .second, .val (.ref a1), .val (.int p2), .val (.int ((j + (1 : Int32)) + (1 : Int32))), .val (.int i), .val (.int o)] [(.int i)])) _
          exact k
        by_cases hc92_13 : (0 : Int32) < i
        · skip
          refine own_go (T' := T11) (f' := (mkF m 103 #[.val (.long q0), .second, .val (.ref a1), .val (.int p2), .val (.int (((j + (1 : Int32)) + (1 : Int32)) + (1 : Int32))), .val (.int i), .val (.int o)] [(.int (46 : Int32)), (.int ((j + (1 : Int32)) + (1 : Int32))), (.ref a1)])) (fun t k => ?_) ?_
          · show Steps p.tables e below (T11.setTop (mkF m 92 #[.val (.long q0), .second, .val (.ref a1), .val (.int p2), .val (.int ((j + (1 : Int32)) + (1 : Int32))), .val (.int i), .val (.int o)] [(.int i)])) _
            refine XS.ifNo X11.here hx rfl (hb hby own_d2_92) rfl ((if0 _ _).trans (tlt hc92_13).2.2.2) ?_
            show Steps p.tables e below (T11.setTop (mkF m 95 #[.val (.long q0), .second, .val (.ref a1), .val (.int p2), .val (.int ((j + (1 : Int32)) + (1 : Int32))), .val (.int i), .val (.int o)] [])) _
            refine XS.aloadN X11.here hx rfl (hb hby own_d2_95) rfl rfl ?_
            show Steps p.tables e below (T11.setTop (mkF m 96 #[.val (.long q0), .second, .val (.ref a1), .val (.int p2), .val (.int ((j + (1 : Int32)) + (1 : Int32))), .val (.int i), .val (.int o)] [(.ref a1)])) _
            refine XS.iload X11.here hx rfl (hb hby own_d2_96) rfl ?_
            show Steps p.tables e below (T11.setTop (mkF m 98 #[.val (.long q0), .second, .val (.ref a1), .val (.int p2), .val (.int ((j + (1 : Int32)) + (1 : Int32))), .val (.int i), .val (.int o)] [(.int ((j + (1 : Int32)) + (1 : Int32))), (.ref a1)])) _
            refine XS.iinc X11.here hx rfl (hb hby own_d2_98) rfl (l' := #[.val (.long q0), .second, .val (.ref a1), .val (.int p2), .val (.int (((j + (1 : Int32)) + (1 : Int32)) + (1 : Int32))), .val (.int i), .val (.int o)]) rfl ?_
            show Steps p.tables e below (T11.setTop (mkF m 101 #[.val (.long q0), .second, .val (.ref a1), .val (.int p2), .val (.int (((j + (1 : Int32)) + (1 : Int32)) + (1 : Int32))), .val (.int i), .val (.int o)] [(.int ((j + (1 : Int32)) + (1 : Int32))), (.ref a1)])) _
            refine XS.bipush X11.here hx rfl (hb hby own_d2_101) ?_
            show Steps p.tables e below (T11.setTop (mkF m 103 #[.val (.long q0), .second, .val (.ref a1), .val (.int p2), .val (.int (((j + (1 : Int32)) + (1 : Int32)) + (1 : Int32))), .val (.int i), .val (.int o)] [(.int (46 : Int32)), (.int ((j + (1 : Int32)) + (1 : Int32))), (.ref a1)])) _
            exact k
          have hi1 : 0 < i.toInt := by have q := hc92_13; rw [Int32.lt_iff_toInt_lt] at q; exact q
          obtain ⟨T14, h14, y14, X14, e14, W14, V14, ya14, yb14, st14⟩ := own_stB X11 hx hZ e11 fc12 (j := ((j + (1 : Int32)) + (1 : Int32))) (x := (46 : Int32)) (by omega) (by omega) (g := (mkF m 103 #[.val (.long q0), .second, .val (.ref a1), .val (.int p2), .val (.int (((j + (1 : Int32)) + (1 : Int32)) + (1 : Int32))), .val (.int i), .val (.int o)] [(.int (46 : Int32)), (.int ((j + (1 : Int32)) + (1 : Int32))), (.ref a1)])) rfl rfl (hb hby own_d2_103)
          refine own_go (T' := T14) (f' := (mkF m 104 #[.val (.long q0), .second, .val (.ref a1), .val (.int p2), .val (.int (((j + (1 : Int32)) + (1 : Int32)) + (1 : Int32))), .val (.int i), .val (.int o)] [])) st14 ?_
          have fc15 : own_ArI Z h14 a1 .byte z y14 := V14
          have Zs14 : n0 ≤ h14.size := Nat.le_trans Zs11 (Keep.of_wr W14).1
          have K14 : Keep h0 h14 [a1] := K11.wr W14 (Or.inl (List.mem_of_getElem? (i := 0) rfl))
          have N14 := Fr.snoc X14 N11 go_a1
          have ya14' : y14 ((j + (1 : Int32)) + (1 : Int32)).toInt.toNat = (nar .byte (46 : Int32)) := ya14
          have yb14' : ∀ i, i ≠ ((j + (1 : Int32)) + (1 : Int32)).toInt.toNat → y14 i = y11 i := yb14
          refine own_go (T' := T14) (f' := (mkF m 6 #[.val (.long q0), .second, .val (.ref a1), .val (.int p2), .val (.int (((j + (1 : Int32)) + (1 : Int32)) + (1 : Int32))), .val (.int (i + (Int32.ofInt (-1)))), .val (.int o)] [])) (fun t k => ?_) ?_
          · show Steps p.tables e below (T14.setTop (mkF m 104 #[.val (.long q0), .second, .val (.ref a1), .val (.int p2), .val (.int (((j + (1 : Int32)) + (1 : Int32)) + (1 : Int32))), .val (.int i), .val (.int o)] [])) _
            refine XS.iinc X14.here hx rfl (hb hby own_d2_104) rfl (l' := #[.val (.long q0), .second, .val (.ref a1), .val (.int p2), .val (.int (((j + (1 : Int32)) + (1 : Int32)) + (1 : Int32))), .val (.int (i + (Int32.ofInt (-1)))), .val (.int o)]) rfl ?_
            show Steps p.tables e below (T14.setTop (mkF m 107 #[.val (.long q0), .second, .val (.ref a1), .val (.int p2), .val (.int (((j + (1 : Int32)) + (1 : Int32)) + (1 : Int32))), .val (.int (i + (Int32.ofInt (-1)))), .val (.int o)] [])) _
            refine XS.goto X14.here hx rfl (pc0 := 107) (pc' := 6) rfl (hb hby own_d2_107) (by decide) (by decide) ?_
            show Steps p.tables e below (T14.setTop (mkF m 6 #[.val (.long q0), .second, .val (.ref a1), .val (.int p2), .val (.int (((j + (1 : Int32)) + (1 : Int32)) + (1 : Int32))), .val (.int (i + (Int32.ofInt (-1)))), .val (.int o)] [])) _
            exact k
          have hn1 : (j + (1 : Int32)).toInt.toNat = j.toInt.toNat + 1 := by omega
          have hn2 : ((j + (1 : Int32)) + (1 : Int32)).toInt.toNat = j.toInt.toNat + 2 := by omega
          rw [hn1] at ya11' yb11'
          rw [hn2] at ya14' yb14'
          have hnum := own_num2 (J := j.toInt.toNat) (o := own_oct q0 (fuel - 1)) (by have q := hc52_3; rw [Int32.lt_iff_toInt_lt] at q; have e100 : (100 : Int32).toInt = 100 := rfl; have e10 : (10 : Int32).toInt = 10 := rfl; omega) (by have q := hc29_2; rw [Int32.lt_iff_toInt_lt] at q; have e100 : (100 : Int32).toInt = 100 := rfl; have e10 : (10 : Int32).toInt = 10 := rfl; omega) (by rw [ya9']; exact own_v10 o _ hO hO2) yb9' (by rw [ya11']; exact own_v1 o _ hO hO2) yb11'
          have hdot := own_dot hnum yb14'
          have hi1 : 0 < i.toInt := by have q := hc92_13; rw [Int32.lt_iff_toInt_lt] at q; exact q
          have hp : if fuel = 1 then (((j + (1 : Int32)) + (1 : Int32)) + (1 : Int32)).toInt = j.toInt + own_D (own_oct q0 (fuel - 1)) else (((j + (1 : Int32)) + (1 : Int32)) + (1 : Int32)).toInt = j.toInt + own_D (own_oct q0 (fuel - 1)) + 1 ∧ (y14 (j.toInt.toNat + own_D (own_oct q0 (fuel - 1)))).toInt = 46 := by rw [if_neg (by omega), hdot.2.1, ya14']; exact ⟨by omega, by decide⟩
          have hdr := hdot.2.1
          have hi' : (i + (Int32.ofInt (-1))).toInt = i.toInt - 1 := own_dec (by omega)
          generalize (i + (Int32.ofInt (-1))) = i1 at *
          refine ih (fuel - 1) (by omega) _ _ _ ((((j + (1 : Int32)) + (1 : Int32)) + (1 : Int32))) i1 (.val (.int o)) y14 X14 e14 N14 Zs14 K14 fc15 (by omega) (by omega) (by omega) (by omega) (Or.inr ⟨_, rfl, rfl⟩) (fun T' h' locs' j' i' s6' f' X' e' N' Z' K' V0' sp => ?_)
          exact kx T' h' locs' j' i' s6' f' X' e' N' Z' K' V0' (own_WS.turn hj (by omega) hdot.1 hp (fun k hk => hdot.2.2 k (by omega)) sp)
        · skip
          refine own_go (T' := T11) (f' := (mkF m 6 #[.val (.long q0), .second, .val (.ref a1), .val (.int p2), .val (.int ((j + (1 : Int32)) + (1 : Int32))), .val (.int (i + (Int32.ofInt (-1)))), .val (.int o)] [])) (fun t k => ?_) ?_
          · show Steps p.tables e below (T11.setTop (mkF m 92 #[.val (.long q0), .second, .val (.ref a1), .val (.int p2), .val (.int ((j + (1 : Int32)) + (1 : Int32))), .val (.int i), .val (.int o)] [(.int i)])) _
            refine XS.ifYes X11.here hx rfl (pc0 := 92) (pc' := 104) rfl (hb hby own_d2_92) rfl ((if0 _ _).trans (flt hc92_13).2.2.2) (by decide) (by decide) ?_
            show Steps p.tables e below (T11.setTop (mkF m 104 #[.val (.long q0), .second, .val (.ref a1), .val (.int p2), .val (.int ((j + (1 : Int32)) + (1 : Int32))), .val (.int i), .val (.int o)] [])) _
            refine XS.iinc X11.here hx rfl (hb hby own_d2_104) rfl (l' := #[.val (.long q0), .second, .val (.ref a1), .val (.int p2), .val (.int ((j + (1 : Int32)) + (1 : Int32))), .val (.int (i + (Int32.ofInt (-1)))), .val (.int o)]) rfl ?_
            show Steps p.tables e below (T11.setTop (mkF m 107 #[.val (.long q0), .second, .val (.ref a1), .val (.int p2), .val (.int ((j + (1 : Int32)) + (1 : Int32))), .val (.int (i + (Int32.ofInt (-1)))), .val (.int o)] [])) _
            refine XS.goto X11.here hx rfl (pc0 := 107) (pc' := 6) rfl (hb hby own_d2_107) (by decide) (by decide) ?_
            show Steps p.tables e below (T11.setTop (mkF m 6 #[.val (.long q0), .second, .val (.ref a1), .val (.int p2), .val (.int ((j + (1 : Int32)) + (1 : Int32))), .val (.int (i + (Int32.ofInt (-1)))), .val (.int o)] [])) _
            exact k
          have hn1 : (j + (1 : Int32)).toInt.toNat = j.toInt.toNat + 1 := by omega
          have hn2 : ((j + (1 : Int32)) + (1 : Int32)).toInt.toNat = j.toInt.toNat + 2 := by omega
          rw [hn1] at ya11' yb11'
          have hnum := own_num2 (J := j.toInt.toNat) (o := own_oct q0 (fuel - 1)) (by have q := hc52_3; rw [Int32.lt_iff_toInt_lt] at q; have e100 : (100 : Int32).toInt = 100 := rfl; have e10 : (10 : Int32).toInt = 10 := rfl; omega) (by have q := hc29_2; rw [Int32.lt_iff_toInt_lt] at q; have e100 : (100 : Int32).toInt = 100 := rfl; have e10 : (10 : Int32).toInt = 10 := rfl; omega) (by rw [ya9']; exact own_v10 o _ hO hO2) yb9' (by rw [ya11']; exact own_v1 o _ hO hO2) yb11'
          have hi1 : ¬ 0 < i.toInt := by have q := hc92_13; rw [Int32.lt_iff_toInt_lt] at q; exact q
          have hp : if fuel = 1 then ((j + (1 : Int32)) + (1 : Int32)).toInt = j.toInt + own_D (own_oct q0 (fuel - 1)) else ((j + (1 : Int32)) + (1 : Int32)).toInt = j.toInt + own_D (own_oct q0 (fuel - 1)) + 1 ∧ (y11 (j.toInt.toNat + own_D (own_oct q0 (fuel - 1)))).toInt = 46 := by rw [if_pos (by omega), hnum.2.1]; omega
          have hdr := hnum.2.1
          have hi' : (i + (Int32.ofInt (-1))).toInt = i.toInt - 1 := own_dec (by omega)
          generalize (i + (Int32.ofInt (-1))) = i1 at *
          refine ih (fuel - 1) (by omega) _ _ _ (((j + (1 : Int32)) + (1 : Int32))) i1 (.val (.int o)) y11 X11 e11 N11 Zs11 K11 fc12 (by omega) (by omega) (by omega) (by omega) (Or.inr ⟨_, rfl, rfl⟩) (fun T' h' locs' j' i' s6' f' X' e' N' Z' K' V0' sp => ?_)
          exact kx T' h' locs' j' i' s6' f' X' e' N' Z' K' V0' (own_WS.turn hj (by omega) hnum.1 hp (fun k hk => hnum.2.2 k (by omega)) sp)
    · skip
      refine own_go (T' := T0) (f' := (mkF m 47 #[.val (.long q0), .second, .val (.ref a1), .val (.int p2), .val (.int (j + (1 : Int32))), .val (.int i), .val (.int o)] [(.int (((48 : Int32) + (o / (100 : Int32))).toInt8.toInt32)), (.int j), (.ref a1)])) (fun t k => ?_) ?_
      · show Steps p.tables e below (T0.setTop (mkF m 29 #[.val (.long q0), .second, .val (.ref a1), .val (.int p2), .val (.int j), .val (.int i), .val (.int o)] [(.int (100 : Int32)), (.int o)])) _
        refine XS.icmpNo X0.here hx rfl (hb hby own_d2_29) rfl (flt hc29_2).1 ?_
        show Steps p.tables e below (T0.setTop (mkF m 32 #[.val (.long q0), .second, .val (.ref a1), .val (.int p2), .val (.int j), .val (.int i), .val (.int o)] [])) _
        refine XS.aloadN X0.here hx rfl (hb hby own_d2_32) rfl rfl ?_
        show Steps p.tables e below (T0.setTop (mkF m 33 #[.val (.long q0), .second, .val (.ref a1), .val (.int p2), .val (.int j), .val (.int i), .val (.int o)] [(.ref a1)])) _
        refine XS.iload X0.here hx rfl (hb hby own_d2_33) rfl ?_
        show Steps p.tables e below (T0.setTop (mkF m 35 #[.val (.long q0), .second, .val (.ref a1), .val (.int p2), .val (.int j), .val (.int i), .val (.int o)] [(.int j), (.ref a1)])) _
        refine XS.iinc X0.here hx rfl (hb hby own_d2_35) rfl (l' := #[.val (.long q0), .second, .val (.ref a1), .val (.int p2), .val (.int (j + (1 : Int32))), .val (.int i), .val (.int o)]) rfl ?_
        show Steps p.tables e below (T0.setTop (mkF m 38 #[.val (.long q0), .second, .val (.ref a1), .val (.int p2), .val (.int (j + (1 : Int32))), .val (.int i), .val (.int o)] [(.int j), (.ref a1)])) _
        refine XS.bipush X0.here hx rfl (hb hby own_d2_38) ?_
        show Steps p.tables e below (T0.setTop (mkF m 40 #[.val (.long q0), .second, .val (.ref a1), .val (.int p2), .val (.int (j + (1 : Int32))), .val (.int i), .val (.int o)] [(.int (48 : Int32)), (.int j), (.ref a1)])) _
        refine XS.iload X0.here hx rfl (hb hby own_d2_40) rfl ?_
        show Steps p.tables e below (T0.setTop (mkF m 42 #[.val (.long q0), .second, .val (.ref a1), .val (.int p2), .val (.int (j + (1 : Int32))), .val (.int i), .val (.int o)] [(.int o), (.int (48 : Int32)), (.int j), (.ref a1)])) _
        refine XS.bipush X0.here hx rfl (hb hby own_d2_42) ?_
        show Steps p.tables e below (T0.setTop (mkF m 44 #[.val (.long q0), .second, .val (.ref a1), .val (.int p2), .val (.int (j + (1 : Int32))), .val (.int i), .val (.int o)] [(.int (100 : Int32)), (.int o), (.int (48 : Int32)), (.int j), (.ref a1)])) _
        refine XS.idiv X0.here hx rfl (hb hby own_d2_44) rfl (by decide) ?_
        show Steps p.tables e below (T0.setTop (mkF m 45 #[.val (.long q0), .second, .val (.ref a1), .val (.int p2), .val (.int (j + (1 : Int32))), .val (.int i), .val (.int o)] [(.int (o / (100 : Int32))), (.int (48 : Int32)), (.int j), (.ref a1)])) _
        refine XS.iadd X0.here hx rfl (hb hby own_d2_45) rfl ?_
        show Steps p.tables e below (T0.setTop (mkF m 46 #[.val (.long q0), .second, .val (.ref a1), .val (.int p2), .val (.int (j + (1 : Int32))), .val (.int i), .val (.int o)] [(.int ((48 : Int32) + (o / (100 : Int32)))), (.int j), (.ref a1)])) _
        refine XS.i2b X0.here hx rfl (hb hby own_d2_46) rfl ?_
        show Steps p.tables e below (T0.setTop (mkF m 47 #[.val (.long q0), .second, .val (.ref a1), .val (.int p2), .val (.int (j + (1 : Int32))), .val (.int i), .val (.int o)] [(.int (((48 : Int32) + (o / (100 : Int32))).toInt8.toInt32)), (.int j), (.ref a1)])) _
        exact k
      obtain ⟨T16, h16, y16, X16, e16, W16, V16, ya16, yb16, st16⟩ := own_stB X0 hx hZ e0 V0 (j := j) (x := (((48 : Int32) + (o / (100 : Int32))).toInt8.toInt32)) (by omega) (by omega) (g := (mkF m 47 #[.val (.long q0), .second, .val (.ref a1), .val (.int p2), .val (.int (j + (1 : Int32))), .val (.int i), .val (.int o)] [(.int (((48 : Int32) + (o / (100 : Int32))).toInt8.toInt32)), (.int j), (.ref a1)])) rfl rfl (hb hby own_d2_47)
      refine own_go (T' := T16) (f' := (mkF m 48 #[.val (.long q0), .second, .val (.ref a1), .val (.int p2), .val (.int (j + (1 : Int32))), .val (.int i), .val (.int o)] [])) st16 ?_
      have fc17 : own_ArI Z h16 a1 .byte z y16 := V16
      have Zs16 : n0 ≤ h16.size := Nat.le_trans Z0 (Keep.of_wr W16).1
      have K16 : Keep h0 h16 [a1] := K0.wr W16 (Or.inl (List.mem_of_getElem? (i := 0) rfl))
      have N16 := Fr.snoc X16 N0 go_a1
      have ya16' : y16 j.toInt.toNat = (nar .byte (((48 : Int32) + (o / (100 : Int32))).toInt8.toInt32)) := ya16
      have yb16' : ∀ i, i ≠ j.toInt.toNat → y16 i = f i := yb16
      refine own_go (T' := T16) (f' := (mkF m 73 #[.val (.long q0), .second, .val (.ref a1), .val (.int p2), .val (.int ((j + (1 : Int32)) + (1 : Int32))), .val (.int i), .val (.int o)] [(.int (((48 : Int32) + ((o / (10 : Int32)) - ((o / (10 : Int32)) / (10 : Int32)) * (10 : Int32))).toInt8.toInt32)), (.int (j + (1 : Int32))), (.ref a1)])) (fun t k => ?_) ?_
      · show Steps p.tables e below (T16.setTop (mkF m 48 #[.val (.long q0), .second, .val (.ref a1), .val (.int p2), .val (.int (j + (1 : Int32))), .val (.int i), .val (.int o)] [])) _
        refine XS.iload X16.here hx rfl (hb hby own_d2_48) rfl ?_
        show Steps p.tables e below (T16.setTop (mkF m 50 #[.val (.long q0), .second, .val (.ref a1), .val (.int p2), .val (.int (j + (1 : Int32))), .val (.int i), .val (.int o)] [(.int o)])) _
        refine XS.bipush X16.here hx rfl (hb hby own_d2_50) ?_
        show Steps p.tables e below (T16.setTop (mkF m 52 #[.val (.long q0), .second, .val (.ref a1), .val (.int p2), .val (.int (j + (1 : Int32))), .val (.int i), .val (.int o)] [(.int (10 : Int32)), (.int o)])) _
        refine XS.icmpNo X16.here hx rfl (hb hby own_d2_52) rfl (flt (by intro q; have q2 := hc29_2; rw [Int32.lt_iff_toInt_lt] at q q2; have e100 : (100 : Int32).toInt = 100 := rfl; have e10 : (10 : Int32).toInt = 10 := rfl; omega)).1 ?_
        show Steps p.tables e below (T16.setTop (mkF m 55 #[.val (.long q0), .second, .val (.ref a1), .val (.int p2), .val (.int (j + (1 : Int32))), .val (.int i), .val (.int o)] [])) _
        refine XS.aloadN X16.here hx rfl (hb hby own_d2_55) rfl rfl ?_
        show Steps p.tables e below (T16.setTop (mkF m 56 #[.val (.long q0), .second, .val (.ref a1), .val (.int p2), .val (.int (j + (1 : Int32))), .val (.int i), .val (.int o)] [(.ref a1)])) _
        refine XS.iload X16.here hx rfl (hb hby own_d2_56) rfl ?_
        show Steps p.tables e below (T16.setTop (mkF m 58 #[.val (.long q0), .second, .val (.ref a1), .val (.int p2), .val (.int (j + (1 : Int32))), .val (.int i), .val (.int o)] [(.int (j + (1 : Int32))), (.ref a1)])) _
        refine XS.iinc X16.here hx rfl (hb hby own_d2_58) rfl (l' := #[.val (.long q0), .second, .val (.ref a1), .val (.int p2), .val (.int ((j + (1 : Int32)) + (1 : Int32))), .val (.int i), .val (.int o)]) rfl ?_
        show Steps p.tables e below (T16.setTop (mkF m 61 #[.val (.long q0), .second, .val (.ref a1), .val (.int p2), .val (.int ((j + (1 : Int32)) + (1 : Int32))), .val (.int i), .val (.int o)] [(.int (j + (1 : Int32))), (.ref a1)])) _
        refine XS.bipush X16.here hx rfl (hb hby own_d2_61) ?_
        show Steps p.tables e below (T16.setTop (mkF m 63 #[.val (.long q0), .second, .val (.ref a1), .val (.int p2), .val (.int ((j + (1 : Int32)) + (1 : Int32))), .val (.int i), .val (.int o)] [(.int (48 : Int32)), (.int (j + (1 : Int32))), (.ref a1)])) _
        refine XS.iload X16.here hx rfl (hb hby own_d2_63) rfl ?_
        show Steps p.tables e below (T16.setTop (mkF m 65 #[.val (.long q0), .second, .val (.ref a1), .val (.int p2), .val (.int ((j + (1 : Int32)) + (1 : Int32))), .val (.int i), .val (.int o)] [(.int o), (.int (48 : Int32)), (.int (j + (1 : Int32))), (.ref a1)])) _
        refine XS.bipush X16.here hx rfl (hb hby own_d2_65) ?_
        show Steps p.tables e below (T16.setTop (mkF m 67 #[.val (.long q0), .second, .val (.ref a1), .val (.int p2), .val (.int ((j + (1 : Int32)) + (1 : Int32))), .val (.int i), .val (.int o)] [(.int (10 : Int32)), (.int o), (.int (48 : Int32)), (.int (j + (1 : Int32))), (.ref a1)])) _
        refine XS.idiv X16.here hx rfl (hb hby own_d2_67) rfl (by decide) ?_
        show Steps p.tables e below (T16.setTop (mkF m 68 #[.val (.long q0), .second, .val (.ref a1), .val (.int p2), .val (.int ((j + (1 : Int32)) + (1 : Int32))), .val (.int i), .val (.int o)] [(.int (o / (10 : Int32))), (.int (48 : Int32)), (.int (j + (1 : Int32))), (.ref a1)])) _
        refine XS.bipush X16.here hx rfl (hb hby own_d2_68) ?_
        show Steps p.tables e below (T16.setTop (mkF m 70 #[.val (.long q0), .second, .val (.ref a1), .val (.int p2), .val (.int ((j + (1 : Int32)) + (1 : Int32))), .val (.int i), .val (.int o)] [(.int (10 : Int32)), (.int (o / (10 : Int32))), (.int (48 : Int32)), (.int (j + (1 : Int32))), (.ref a1)])) _
        refine XS.irem X16.here hx rfl (hb hby own_d2_70) rfl (by decide) ?_
        show Steps p.tables e below (T16.setTop (mkF m 71 #[.val (.long q0), .second, .val (.ref a1), .val (.int p2), .val (.int ((j + (1 : Int32)) + (1 : Int32))), .val (.int i), .val (.int o)] [(.int ((o / (10 : Int32)) - ((o / (10 : Int32)) / (10 : Int32)) * (10 : Int32))), (.int (48 : Int32)), (.int (j + (1 : Int32))), (.ref a1)])) _
        refine XS.iadd X16.here hx rfl (hb hby own_d2_71) rfl ?_
        show Steps p.tables e below (T16.setTop (mkF m 72 #[.val (.long q0), .second, .val (.ref a1), .val (.int p2), .val (.int ((j + (1 : Int32)) + (1 : Int32))), .val (.int i), .val (.int o)] [(.int ((48 : Int32) + ((o / (10 : Int32)) - ((o / (10 : Int32)) / (10 : Int32)) * (10 : Int32)))), (.int (j + (1 : Int32))), (.ref a1)])) _
        refine XS.i2b X16.here hx rfl (hb hby own_d2_72) rfl ?_
        show Steps p.tables e below (T16.setTop (mkF m 73 #[.val (.long q0), .second, .val (.ref a1), .val (.int p2), .val (.int ((j + (1 : Int32)) + (1 : Int32))), .val (.int i), .val (.int o)] [(.int (((48 : Int32) + ((o / (10 : Int32)) - ((o / (10 : Int32)) / (10 : Int32)) * (10 : Int32))).toInt8.toInt32)), (.int (j + (1 : Int32))), (.ref a1)])) _
        exact k
      obtain ⟨T18, h18, y18, X18, e18, W18, V18, ya18, yb18, st18⟩ := own_stB X16 hx hZ e16 fc17 (j := (j + (1 : Int32))) (x := (((48 : Int32) + ((o / (10 : Int32)) - ((o / (10 : Int32)) / (10 : Int32)) * (10 : Int32))).toInt8.toInt32)) (by omega) (by omega) (g := (mkF m 73 #[.val (.long q0), .second, .val (.ref a1), .val (.int p2), .val (.int ((j + (1 : Int32)) + (1 : Int32))), .val (.int i), .val (.int o)] [(.int (((48 : Int32) + ((o / (10 : Int32)) - ((o / (10 : Int32)) / (10 : Int32)) * (10 : Int32))).toInt8.toInt32)), (.int (j + (1 : Int32))), (.ref a1)])) rfl rfl (hb hby own_d2_73)
      refine own_go (T' := T18) (f' := (mkF m 74 #[.val (.long q0), .second, .val (.ref a1), .val (.int p2), .val (.int ((j + (1 : Int32)) + (1 : Int32))), .val (.int i), .val (.int o)] [])) st18 ?_
      have fc19 : own_ArI Z h18 a1 .byte z y18 := V18
      have Zs18 : n0 ≤ h18.size := Nat.le_trans Zs16 (Keep.of_wr W18).1
      have K18 : Keep h0 h18 [a1] := K16.wr W18 (Or.inl (List.mem_of_getElem? (i := 0) rfl))
      have N18 := Fr.snoc X18 N16 go_a1
      have ya18' : y18 (j + (1 : Int32)).toInt.toNat = (nar .byte (((48 : Int32) + ((o / (10 : Int32)) - ((o / (10 : Int32)) / (10 : Int32)) * (10 : Int32))).toInt8.toInt32)) := ya18
      have yb18' : ∀ i, i ≠ (j + (1 : Int32)).toInt.toNat → y18 i = y16 i := yb18
      refine own_go (T' := T18) (f' := (mkF m 89 #[.val (.long q0), .second, .val (.ref a1), .val (.int p2), .val (.int (((j + (1 : Int32)) + (1 : Int32)) + (1 : Int32))), .val (.int i), .val (.int o)] [(.int (((48 : Int32) + (o - (o / (10 : Int32)) * (10 : Int32))).toInt8.toInt32)), (.int ((j + (1 : Int32)) + (1 : Int32))), (.ref a1)])) (fun t k => ?_) ?_
      · show Steps p.tables e below (T18.setTop (mkF m 74 #[.val (.long q0), .second, .val (.ref a1), .val (.int p2), .val (.int ((j + (1 : Int32)) + (1 : Int32))), .val (.int i), .val (.int o)] [])) _
        refine XS.aloadN X18.here hx rfl (hb hby own_d2_74) rfl rfl ?_
        show Steps p.tables e below (T18.setTop (mkF m 75 #[.val (.long q0), .second, .val (.ref a1), .val (.int p2), .val (.int ((j + (1 : Int32)) + (1 : Int32))), .val (.int i), .val (.int o)] [(.ref a1)])) _
        refine XS.iload X18.here hx rfl (hb hby own_d2_75) rfl ?_
        show Steps p.tables e below (T18.setTop (mkF m 77 #[.val (.long q0), .second, .val (.ref a1), .val (.int p2), .val (.int ((j + (1 : Int32)) + (1 : Int32))), .val (.int i), .val (.int o)] [(.int ((j + (1 : Int32)) + (1 : Int32))), (.ref a1)])) _
        refine XS.iinc X18.here hx rfl (hb hby own_d2_77) rfl (l' := #[.val (.long q0), .second, .val (.ref a1), .val (.int p2), .val (.int (((j + (1 : Int32)) + (1 : Int32)) + (1 : Int32))), .val (.int i), .val (.int o)]) rfl ?_
        show Steps p.tables e below (T18.setTop (mkF m 80 #[.val (.long q0), .second, .val (.ref a1), .val (.int p2), .val (.int (((j + (1 : Int32)) + (1 : Int32)) + (1 : Int32))), .val (.int i), .val (.int o)] [(.int ((j + (1 : Int32)) + (1 : Int32))), (.ref a1)])) _
        refine XS.bipush X18.here hx rfl (hb hby own_d2_80) ?_
        show Steps p.tables e below (T18.setTop (mkF m 82 #[.val (.long q0), .second, .val (.ref a1), .val (.int p2), .val (.int (((j + (1 : Int32)) + (1 : Int32)) + (1 : Int32))), .val (.int i), .val (.int o)] [(.int (48 : Int32)), (.int ((j + (1 : Int32)) + (1 : Int32))), (.ref a1)])) _
        refine XS.iload X18.here hx rfl (hb hby own_d2_82) rfl ?_
        show Steps p.tables e below (T18.setTop (mkF m 84 #[.val (.long q0), .second, .val (.ref a1), .val (.int p2), .val (.int (((j + (1 : Int32)) + (1 : Int32)) + (1 : Int32))), .val (.int i), .val (.int o)] [(.int o), (.int (48 : Int32)), (.int ((j + (1 : Int32)) + (1 : Int32))), (.ref a1)])) _
        refine XS.bipush X18.here hx rfl (hb hby own_d2_84) ?_
        show Steps p.tables e below (T18.setTop (mkF m 86 #[.val (.long q0), .second, .val (.ref a1), .val (.int p2), .val (.int (((j + (1 : Int32)) + (1 : Int32)) + (1 : Int32))), .val (.int i), .val (.int o)] [(.int (10 : Int32)), (.int o), (.int (48 : Int32)), (.int ((j + (1 : Int32)) + (1 : Int32))), (.ref a1)])) _
        refine XS.irem X18.here hx rfl (hb hby own_d2_86) rfl (by decide) ?_
        show Steps p.tables e below (T18.setTop (mkF m 87 #[.val (.long q0), .second, .val (.ref a1), .val (.int p2), .val (.int (((j + (1 : Int32)) + (1 : Int32)) + (1 : Int32))), .val (.int i), .val (.int o)] [(.int (o - (o / (10 : Int32)) * (10 : Int32))), (.int (48 : Int32)), (.int ((j + (1 : Int32)) + (1 : Int32))), (.ref a1)])) _
        refine XS.iadd X18.here hx rfl (hb hby own_d2_87) rfl ?_
        show Steps p.tables e below (T18.setTop (mkF m 88 #[.val (.long q0), .second, .val (.ref a1), .val (.int p2), .val (.int (((j + (1 : Int32)) + (1 : Int32)) + (1 : Int32))), .val (.int i), .val (.int o)] [(.int ((48 : Int32) + (o - (o / (10 : Int32)) * (10 : Int32)))), (.int ((j + (1 : Int32)) + (1 : Int32))), (.ref a1)])) _
        refine XS.i2b X18.here hx rfl (hb hby own_d2_88) rfl ?_
        show Steps p.tables e below (T18.setTop (mkF m 89 #[.val (.long q0), .second, .val (.ref a1), .val (.int p2), .val (.int (((j + (1 : Int32)) + (1 : Int32)) + (1 : Int32))), .val (.int i), .val (.int o)] [(.int (((48 : Int32) + (o - (o / (10 : Int32)) * (10 : Int32))).toInt8.toInt32)), (.int ((j + (1 : Int32)) + (1 : Int32))), (.ref a1)])) _
        exact k
      obtain ⟨T20, h20, y20, X20, e20, W20, V20, ya20, yb20, st20⟩ := own_stB X18 hx hZ e18 fc19 (j := ((j + (1 : Int32)) + (1 : Int32))) (x := (((48 : Int32) + (o - (o / (10 : Int32)) * (10 : Int32))).toInt8.toInt32)) (by omega) (by omega) (g := (mkF m 89 #[.val (.long q0), .second, .val (.ref a1), .val (.int p2), .val (.int (((j + (1 : Int32)) + (1 : Int32)) + (1 : Int32))), .val (.int i), .val (.int o)] [(.int (((48 : Int32) + (o - (o / (10 : Int32)) * (10 : Int32))).toInt8.toInt32)), (.int ((j + (1 : Int32)) + (1 : Int32))), (.ref a1)])) rfl rfl (hb hby own_d2_89)
      refine own_go (T' := T20) (f' := (mkF m 90 #[.val (.long q0), .second, .val (.ref a1), .val (.int p2), .val (.int (((j + (1 : Int32)) + (1 : Int32)) + (1 : Int32))), .val (.int i), .val (.int o)] [])) st20 ?_
      have fc21 : own_ArI Z h20 a1 .byte z y20 := V20
      have Zs20 : n0 ≤ h20.size := Nat.le_trans Zs18 (Keep.of_wr W20).1
      have K20 : Keep h0 h20 [a1] := K18.wr W20 (Or.inl (List.mem_of_getElem? (i := 0) rfl))
      have N20 := Fr.snoc X20 N18 go_a1
      have ya20' : y20 ((j + (1 : Int32)) + (1 : Int32)).toInt.toNat = (nar .byte (((48 : Int32) + (o - (o / (10 : Int32)) * (10 : Int32))).toInt8.toInt32)) := ya20
      have yb20' : ∀ i, i ≠ ((j + (1 : Int32)) + (1 : Int32)).toInt.toNat → y20 i = y18 i := yb20
      refine own_go (T' := T20) (f' := (mkF m 92 #[.val (.long q0), .second, .val (.ref a1), .val (.int p2), .val (.int (((j + (1 : Int32)) + (1 : Int32)) + (1 : Int32))), .val (.int i), .val (.int o)] [(.int i)])) (fun t k => ?_) ?_
      · show Steps p.tables e below (T20.setTop (mkF m 90 #[.val (.long q0), .second, .val (.ref a1), .val (.int p2), .val (.int (((j + (1 : Int32)) + (1 : Int32)) + (1 : Int32))), .val (.int i), .val (.int o)] [])) _
        refine XS.iload X20.here hx rfl (hb hby own_d2_90) rfl ?_
        show Steps p.tables e below (T20.setTop (mkF m 92 #[.val (.long q0), .second, .val (.ref a1), .val (.int p2), .val (.int (((j + (1 : Int32)) + (1 : Int32)) + (1 : Int32))), .val (.int i), .val (.int o)] [(.int i)])) _
        exact k
      by_cases hc92_22 : (0 : Int32) < i
      · skip
        refine own_go (T' := T20) (f' := (mkF m 103 #[.val (.long q0), .second, .val (.ref a1), .val (.int p2), .val (.int ((((j + (1 : Int32)) + (1 : Int32)) + (1 : Int32)) + (1 : Int32))), .val (.int i), .val (.int o)] [(.int (46 : Int32)), (.int (((j + (1 : Int32)) + (1 : Int32)) + (1 : Int32))), (.ref a1)])) (fun t k => ?_) ?_
        · show Steps p.tables e below (T20.setTop (mkF m 92 #[.val (.long q0), .second, .val (.ref a1), .val (.int p2), .val (.int (((j + (1 : Int32)) + (1 : Int32)) + (1 : Int32))), .val (.int i), .val (.int o)] [(.int i)])) _
          refine XS.ifNo X20.here hx rfl (hb hby own_d2_92) rfl ((if0 _ _).trans (tlt hc92_22).2.2.2) ?_
          show Steps p.tables e below (T20.setTop (mkF m 95 #[.val (.long q0), .second, .val (.ref a1), .val (.int p2), .val (.int (((j + (1 : Int32)) + (1 : Int32)) + (1 : Int32))), .val (.int i), .val (.int o)] [])) _
          refine XS.aloadN X20.here hx rfl (hb hby own_d2_95) rfl rfl ?_
          show Steps p.tables e below (T20.setTop (mkF m 96 #[.val (.long q0), .second, .val (.ref a1), .val (.int p2), .val (.int (((j + (1 : Int32)) + (1 : Int32)) + (1 : Int32))), .val (.int i), .val (.int o)] [(.ref a1)])) _
          refine XS.iload X20.here hx rfl (hb hby own_d2_96) rfl ?_
          show Steps p.tables e below (T20.setTop (mkF m 98 #[.val (.long q0), .second, .val (.ref a1), .val (.int p2), .val (.int (((j + (1 : Int32)) + (1 : Int32)) + (1 : Int32))), .val (.int i), .val (.int o)] [(.int (((j + (1 : Int32)) + (1 : Int32)) + (1 : Int32))), (.ref a1)])) _
          refine XS.iinc X20.here hx rfl (hb hby own_d2_98) rfl (l' := #[.val (.long q0), .second, .val (.ref a1), .val (.int p2), .val (.int ((((j + (1 : Int32)) + (1 : Int32)) + (1 : Int32)) + (1 : Int32))), .val (.int i), .val (.int o)]) rfl ?_
          show Steps p.tables e below (T20.setTop (mkF m 101 #[.val (.long q0), .second, .val (.ref a1), .val (.int p2), .val (.int ((((j + (1 : Int32)) + (1 : Int32)) + (1 : Int32)) + (1 : Int32))), .val (.int i), .val (.int o)] [(.int (((j + (1 : Int32)) + (1 : Int32)) + (1 : Int32))), (.ref a1)])) _
          refine XS.bipush X20.here hx rfl (hb hby own_d2_101) ?_
          show Steps p.tables e below (T20.setTop (mkF m 103 #[.val (.long q0), .second, .val (.ref a1), .val (.int p2), .val (.int ((((j + (1 : Int32)) + (1 : Int32)) + (1 : Int32)) + (1 : Int32))), .val (.int i), .val (.int o)] [(.int (46 : Int32)), (.int (((j + (1 : Int32)) + (1 : Int32)) + (1 : Int32))), (.ref a1)])) _
          exact k
        have hi1 : 0 < i.toInt := by have q := hc92_22; rw [Int32.lt_iff_toInt_lt] at q; exact q
        obtain ⟨T23, h23, y23, X23, e23, W23, V23, ya23, yb23, st23⟩ := own_stB X20 hx hZ e20 fc21 (j := (((j + (1 : Int32)) + (1 : Int32)) + (1 : Int32))) (x := (46 : Int32)) (by omega) (by omega) (g := (mkF m 103 #[.val (.long q0), .second, .val (.ref a1), .val (.int p2), .val (.int ((((j + (1 : Int32)) + (1 : Int32)) + (1 : Int32)) + (1 : Int32))), .val (.int i), .val (.int o)] [(.int (46 : Int32)), (.int (((j + (1 : Int32)) + (1 : Int32)) + (1 : Int32))), (.ref a1)])) rfl rfl (hb hby own_d2_103)
        refine own_go (T' := T23) (f' := (mkF m 104 #[.val (.long q0), .second, .val (.ref a1), .val (.int p2), .val (.int ((((j + (1 : Int32)) + (1 : Int32)) + (1 : Int32)) + (1 : Int32))), .val (.int i), .val (.int o)] [])) st23 ?_
        have fc24 : own_ArI Z h23 a1 .byte z y23 := V23
        have Zs23 : n0 ≤ h23.size := Nat.le_trans Zs20 (Keep.of_wr W23).1
        have K23 : Keep h0 h23 [a1] := K20.wr W23 (Or.inl (List.mem_of_getElem? (i := 0) rfl))
        have N23 := Fr.snoc X23 N20 go_a1
        have ya23' : y23 (((j + (1 : Int32)) + (1 : Int32)) + (1 : Int32)).toInt.toNat = (nar .byte (46 : Int32)) := ya23
        have yb23' : ∀ i, i ≠ (((j + (1 : Int32)) + (1 : Int32)) + (1 : Int32)).toInt.toNat → y23 i = y20 i := yb23
        refine own_go (T' := T23) (f' := (mkF m 6 #[.val (.long q0), .second, .val (.ref a1), .val (.int p2), .val (.int ((((j + (1 : Int32)) + (1 : Int32)) + (1 : Int32)) + (1 : Int32))), .val (.int (i + (Int32.ofInt (-1)))), .val (.int o)] [])) (fun t k => ?_) ?_
        · show Steps p.tables e below (T23.setTop (mkF m 104 #[.val (.long q0), .second, .val (.ref a1), .val (.int p2), .val (.int ((((j + (1 : Int32)) + (1 : Int32)) + (1 : Int32)) + (1 : Int32))), .val (.int i), .val (.int o)] [])) _
          refine XS.iinc X23.here hx rfl (hb hby own_d2_104) rfl (l' := #[.val (.long q0), .second, .val (.ref a1), .val (.int p2), .val (.int ((((j + (1 : Int32)) + (1 : Int32)) + (1 : Int32)) + (1 : Int32))), .val (.int (i + (Int32.ofInt (-1)))), .val (.int o)]) rfl ?_
          show Steps p.tables e below (T23.setTop (mkF m 107 #[.val (.long q0), .second, .val (.ref a1), .val (.int p2), .val (.int ((((j + (1 : Int32)) + (1 : Int32)) + (1 : Int32)) + (1 : Int32))), .val (.int (i + (Int32.ofInt (-1)))), .val (.int o)] [])) _
          refine XS.goto X23.here hx rfl (pc0 := 107) (pc' := 6) rfl (hb hby own_d2_107) (by decide) (by decide) ?_
          show Steps p.tables e below (T23.setTop (mkF m 6 #[.val (.long q0), .second, .val (.ref a1), .val (.int p2), .val (.int ((((j + (1 : Int32)) + (1 : Int32)) + (1 : Int32)) + (1 : Int32))), .val (.int (i + (Int32.ofInt (-1)))), .val (.int o)] [])) _
          exact k
        have hn1 : (j + (1 : Int32)).toInt.toNat = j.toInt.toNat + 1 := by omega
        have hn2 : ((j + (1 : Int32)) + (1 : Int32)).toInt.toNat = j.toInt.toNat + 2 := by omega
        have hn3 : (((j + (1 : Int32)) + (1 : Int32)) + (1 : Int32)).toInt.toNat = j.toInt.toNat + 3 := by omega
        rw [hn1] at ya18' yb18'
        rw [hn2] at ya20' yb20'
        rw [hn3] at ya23' yb23'
        have hnum := own_num3 (J := j.toInt.toNat) (o := own_oct q0 (fuel - 1)) (by have q := hc29_2; rw [Int32.lt_iff_toInt_lt] at q; have e100 : (100 : Int32).toInt = 100 := rfl; have e10 : (10 : Int32).toInt = 10 := rfl; omega) hO2 (by rw [ya16']; exact own_v100 o _ hO hO2) yb16' (by rw [ya18']; exact own_v10 o _ hO hO2) yb18' (by rw [ya20']; exact own_v1 o _ hO hO2) yb20'
        have hdot := own_dot hnum yb23'
        have hi1 : 0 < i.toInt := by have q := hc92_22; rw [Int32.lt_iff_toInt_lt] at q; exact q
        have hj4 : ((((j + (1 : Int32)) + (1 : Int32)) + (1 : Int32)) + (1 : Int32)).toInt = j.toInt + 4 := by rw [own_inc (by omega), hj3]; omega
        have hp : if fuel = 1 then ((((j + (1 : Int32)) + (1 : Int32)) + (1 : Int32)) + (1 : Int32)).toInt = j.toInt + own_D (own_oct q0 (fuel - 1)) else ((((j + (1 : Int32)) + (1 : Int32)) + (1 : Int32)) + (1 : Int32)).toInt = j.toInt + own_D (own_oct q0 (fuel - 1)) + 1 ∧ (y23 (j.toInt.toNat + own_D (own_oct q0 (fuel - 1)))).toInt = 46 := by rw [if_neg (by omega), hdot.2.1, ya23']; exact ⟨by omega, by decide⟩
        have hdr := hdot.2.1
        have hi' : (i + (Int32.ofInt (-1))).toInt = i.toInt - 1 := own_dec (by omega)
        generalize (i + (Int32.ofInt (-1))) = i1 at *
        refine ih (fuel - 1) (by omega) _ _ _ (((((j + (1 : Int32)) + (1 : Int32)) + (1 : Int32)) + (1 : Int32))) i1 (.val (.int o)) y23 X23 e23 N23 Zs23 K23 fc24 (by omega) (by omega) (by omega) (by omega) (Or.inr ⟨_, rfl, rfl⟩) (fun T' h' locs' j' i' s6' f' X' e' N' Z' K' V0' sp => ?_)
        exact kx T' h' locs' j' i' s6' f' X' e' N' Z' K' V0' (own_WS.turn hj (by omega) hdot.1 hp (fun k hk => hdot.2.2 k (by omega)) sp)
      · skip
        refine own_go (T' := T20) (f' := (mkF m 6 #[.val (.long q0), .second, .val (.ref a1), .val (.int p2), .val (.int (((j + (1 : Int32)) + (1 : Int32)) + (1 : Int32))), .val (.int (i + (Int32.ofInt (-1)))), .val (.int o)] [])) (fun t k => ?_) ?_
        · show Steps p.tables e below (T20.setTop (mkF m 92 #[.val (.long q0), .second, .val (.ref a1), .val (.int p2), .val (.int (((j + (1 : Int32)) + (1 : Int32)) + (1 : Int32))), .val (.int i), .val (.int o)] [(.int i)])) _
          refine XS.ifYes X20.here hx rfl (pc0 := 92) (pc' := 104) rfl (hb hby own_d2_92) rfl ((if0 _ _).trans (flt hc92_22).2.2.2) (by decide) (by decide) ?_
          show Steps p.tables e below (T20.setTop (mkF m 104 #[.val (.long q0), .second, .val (.ref a1), .val (.int p2), .val (.int (((j + (1 : Int32)) + (1 : Int32)) + (1 : Int32))), .val (.int i), .val (.int o)] [])) _
          refine XS.iinc X20.here hx rfl (hb hby own_d2_104) rfl (l' := #[.val (.long q0), .second, .val (.ref a1), .val (.int p2), .val (.int (((j + (1 : Int32)) + (1 : Int32)) + (1 : Int32))), .val (.int (i + (Int32.ofInt (-1)))), .val (.int o)]) rfl ?_
          show Steps p.tables e below (T20.setTop (mkF m 107 #[.val (.long q0), .second, .val (.ref a1), .val (.int p2), .val (.int (((j + (1 : Int32)) + (1 : Int32)) + (1 : Int32))), .val (.int (i + (Int32.ofInt (-1)))), .val (.int o)] [])) _
          refine XS.goto X20.here hx rfl (pc0 := 107) (pc' := 6) rfl (hb hby own_d2_107) (by decide) (by decide) ?_
          show Steps p.tables e below (T20.setTop (mkF m 6 #[.val (.long q0), .second, .val (.ref a1), .val (.int p2), .val (.int (((j + (1 : Int32)) + (1 : Int32)) + (1 : Int32))), .val (.int (i + (Int32.ofInt (-1)))), .val (.int o)] [])) _
          exact k
        have hn1 : (j + (1 : Int32)).toInt.toNat = j.toInt.toNat + 1 := by omega
        have hn2 : ((j + (1 : Int32)) + (1 : Int32)).toInt.toNat = j.toInt.toNat + 2 := by omega
        have hn3 : (((j + (1 : Int32)) + (1 : Int32)) + (1 : Int32)).toInt.toNat = j.toInt.toNat + 3 := by omega
        rw [hn1] at ya18' yb18'
        rw [hn2] at ya20' yb20'
        have hnum := own_num3 (J := j.toInt.toNat) (o := own_oct q0 (fuel - 1)) (by have q := hc29_2; rw [Int32.lt_iff_toInt_lt] at q; have e100 : (100 : Int32).toInt = 100 := rfl; have e10 : (10 : Int32).toInt = 10 := rfl; omega) hO2 (by rw [ya16']; exact own_v100 o _ hO hO2) yb16' (by rw [ya18']; exact own_v10 o _ hO hO2) yb18' (by rw [ya20']; exact own_v1 o _ hO hO2) yb20'
        have hi1 : ¬ 0 < i.toInt := by have q := hc92_22; rw [Int32.lt_iff_toInt_lt] at q; exact q
        have hp : if fuel = 1 then (((j + (1 : Int32)) + (1 : Int32)) + (1 : Int32)).toInt = j.toInt + own_D (own_oct q0 (fuel - 1)) else (((j + (1 : Int32)) + (1 : Int32)) + (1 : Int32)).toInt = j.toInt + own_D (own_oct q0 (fuel - 1)) + 1 ∧ (y20 (j.toInt.toNat + own_D (own_oct q0 (fuel - 1)))).toInt = 46 := by rw [if_pos (by omega), hnum.2.1]; omega
        have hdr := hnum.2.1
        have hi' : (i + (Int32.ofInt (-1))).toInt = i.toInt - 1 := own_dec (by omega)
        generalize (i + (Int32.ofInt (-1))) = i1 at *
        refine ih (fuel - 1) (by omega) _ _ _ ((((j + (1 : Int32)) + (1 : Int32)) + (1 : Int32))) i1 (.val (.int o)) y20 X20 e20 N20 Zs20 K20 fc21 (by omega) (by omega) (by omega) (by omega) (Or.inr ⟨_, rfl, rfl⟩) (fun T' h' locs' j' i' s6' f' X' e' N' Z' K' V0' sp => ?_)
        exact kx T' h' locs' j' i' s6' f' X' e' N' Z' K' V0' (own_WS.turn hj (by omega) hnum.1 hp (fun k hk => hnum.2.2 k (by omega)) sp)
theorem own_d2_0 : decode prog_39_method_3_code 0 = .ok (.iload_n 3, 1) := by decide +kernel
theorem own_d2_1 : decode prog_39_method_3_code 1 = .ok (.istore 4, 2) := by decide +kernel
theorem own_d2_3 : decode prog_39_method_3_code 3 = .ok (.iconst 3, 1) := by decide +kernel
theorem own_d2_4 : decode prog_39_method_3_code 4 = .ok (.istore 5, 2) := by decide +kernel
theorem own_d2_110 : decode prog_39_method_3_code 110 = .ok (.iload 4, 2) := by decide +kernel
theorem own_d2_112 : decode prog_39_method_3_code 112 = .ok (.ireturn, 1) := by decide +kernel
theorem own_pn1 : plainName "com/example/rowcast/rowcast/identifier/IpText" = true := by first | (simp [plainName, overriddenIn]; done) | decide +kernel
theorem own_ef2 (m : MethodId) (q0 : Int64) (a1 : Addr) (p2 : Int32) : entryFrame m #[(.long q0), (.ref a1), (.int p2)] 7 = mkF m 0 #[.val (.long q0), .second, .val (.ref a1), .val (.int p2), .unset, .unset, .unset] [] := by first | (simp [entryFrame, mkF, argsToLocals, Value.category]; done) | rfl
def own_Q2 (Z : State) (q0 : Int64) (a1 : Addr) (p2 : Int32) (z : Int32) (f : Nat → Int32) (h0 : Heap) (n0 : Nat) (v : Option Value) (h : Heap) (L : List Loc) : Prop := ∃ (f' : Nat → Int32), ∃ (r : Int32), (v = some (.int r)) ∧ (Fr n0 L) ∧ (Keep h0 h [a1]) ∧ (own_ArI Z h a1 .byte z f') ∧ (own_WS 4 q0 p2 f r f')
set_option maxRecDepth 65536 in
set_option maxHeartbeats 40000000 in
theorem own_rm2 (l : Launch) (Z : State) (a0 : Array Value) (hw : ∀ d ∈ tables_1, d.before a0 Z = true) (ws : List Jvm.Cond) (q0 : Int64) (a1 : Addr) (p2 : Int32) (z : Int32) (f : Nat → Int32) (h0 : Heap) (n0 : Nat) (Z0 : n0 ≤ h0.size) (P0 : own_ArI Z h0 a1 .byte z f) (go_a1 : n0 ≤ a1) (hp : 0 ≤ p2.toInt) (hz : p2.toInt + 15 ≤ z.toInt) :
    MetFree l (⟨"com/example/rowcast/rowcast/identifier/IpText", "writeIpv4", "(J[BI)I"⟩ : MethodName) (head1 (Jvm.Cond.code (⟨"com/example/rowcast/rowcast/identifier/IpText", "writeIpv4", "(J[BI)I"⟩ : MethodName) prog_39_method_3_code 7 (some .int) :: ws) ({ frames := 0, cells := 0, slots := 0, locals := 0 } : Room)) (fun a U => a = #[(.long q0), (.ref a1), (.int p2)] ∧ Z.Warmed39 U.vm ∧ U.heap = h0) (fun _ _ _ _ _ => True) (fun _ U o U' => ∃ v L, o = .returned v ∧ own_Q2 Z q0 a1 p2 z f h0 n0 v U'.heap L ∧ FrameEnd U o U' L ({ frames := 0, cells := 0, slots := 0, locals := 0 } : Room).cells ({ frames := 0, cells := 0, slots := 0, locals := 0 } : Room).slots) := by
  refine MetFree.of_bodySF (plainFor_of_name own_pn1) hisR ?_
  intro p e s m args below meth c s₁ Bd hml0 hP hK
  obtain ⟨rfl, hZ, hh⟩ := hP
  have hx := Bd.exec
  have hby := Bd.bytes
  have hml : c.maxLocals = 7 := hml0
  have hown : s.vm.findClass "com/example/rowcast/rowcast/identifier/IpText" = some m.cls := findClass_of_methodNamed Bd.named
  have hnm := (name_of_methodNamed Bd.named Bd.method).1
  have X0 : Stand p l e ({ frames := 0, cells := 0, slots := 0, locals := 0 } : Room) s m #[(.long q0), (.ref a1), (.int p2)] below meth c s₁ [] 0 0 := Stand.of_body Bd
  have e0 : s₁.heap = h0 := by rw [← hh, Bd.state]; rfl
  have N0 := Fr.nil n0
  have K0 : Keep h0 h0 [a1] := Keep.refl h0 _
  refine own_go (fun t k => castTop (own_ef2 m q0 a1 p2) k) ?_
  refine own_go (T' := s₁) (f' := (mkF m 6 #[.val (.long q0), .second, .val (.ref a1), .val (.int p2), .val (.int p2), .val (.int (3 : Int32)), .unset] [])) (fun t k => ?_) ?_
  · show Steps p.tables e below (s₁.setTop (mkF m 0 #[.val (.long q0), .second, .val (.ref a1), .val (.int p2), .unset, .unset, .unset] [])) _
    refine XS.iloadN X0.here hx rfl (hb hby own_d2_0) rfl ?_
    show Steps p.tables e below (s₁.setTop (mkF m 1 #[.val (.long q0), .second, .val (.ref a1), .val (.int p2), .unset, .unset, .unset] [(.int p2)])) _
    refine XS.istore X0.here hx rfl (hb hby own_d2_1) rfl (l' := #[.val (.long q0), .second, .val (.ref a1), .val (.int p2), .val (.int p2), .unset, .unset]) rfl ?_
    show Steps p.tables e below (s₁.setTop (mkF m 3 #[.val (.long q0), .second, .val (.ref a1), .val (.int p2), .val (.int p2), .unset, .unset] [])) _
    refine XS.iconst X0.here hx rfl (hb hby own_d2_3) ?_
    show Steps p.tables e below (s₁.setTop (mkF m 4 #[.val (.long q0), .second, .val (.ref a1), .val (.int p2), .val (.int p2), .unset, .unset] [(.int (3 : Int32))])) _
    refine XS.istore X0.here hx rfl (hb hby own_d2_4) rfl (l' := #[.val (.long q0), .second, .val (.ref a1), .val (.int p2), .val (.int p2), .val (.int (3 : Int32)), .unset]) rfl ?_
    show Steps p.tables e below (s₁.setTop (mkF m 6 #[.val (.long q0), .second, .val (.ref a1), .val (.int p2), .val (.int p2), .val (.int (3 : Int32)), .unset] [])) _
    exact k
  refine own_lp2 hx hZ hw hby hml hown q0 a1 p2 z go_a1  4 _ _ _ p2 ((3 : Int32)) (.unset) f X0 e0 N0 Z0 K0 P0 hp (by decide) (by decide) (by have : ((4 : Nat) : Int) = 4 := rfl; omega) (Or.inl rfl) ?_
  intro T1 h1 lo1 j'_1 i'_1 s6'_1 f'_1 X1 e1 N1 Zs1 K1 V1_0 sp1
  refine own_go (T' := T1) (f' := (mkF m 112 #[.val (.long q0), .second, .val (.ref a1), .val (.int p2), .val (.int j'_1), .val (.int i'_1), s6'_1] [(.int j'_1)])) (fun t k => ?_) ?_
  · show Steps p.tables e below (T1.setTop (mkF m 110 #[.val (.long q0), .second, .val (.ref a1), .val (.int p2), .val (.int j'_1), .val (.int i'_1), s6'_1] [])) _
    refine XS.iload X1.here hx rfl (hb hby own_d2_110) rfl ?_
    show Steps p.tables e below (T1.setTop (mkF m 112 #[.val (.long q0), .second, .val (.ref a1), .val (.int p2), .val (.int j'_1), .val (.int i'_1), s6'_1] [(.int j'_1)])) _
    exact k
  obtain ⟨fs, hr, hrun, hended, hW, hsame⟩ := X1.leave (v := some (.int j'_1)) (fun h => by rw [Bd.returns] at h; cases h)
  refine ⟨_, _, ?_, hrun, hended, _, _, rfl, ?_, ⟨_, rfl⟩, hW, hsame.mono (by decide) (by decide)⟩
  · exact retI X1 hx Bd.returns (hb hby own_d2_112) hr
  · show own_Q2 Z q0 a1 p2 z f h0 n0 _ T1.heap _
    rw [e1]
    exact ⟨f'_1, j'_1, rfl, N1, K1, V1_0, sp1⟩
theorem own_d3_0 : decode method_3_code 0 = .ok (.iload_n 1, 1) := by decide +kernel
theorem own_d3_1 : decode method_3_code 1 = .ok (.iload_n 2, 1) := by decide +kernel
theorem own_d3_2 : decode method_3_code 2 = .ok (.if_icmp .ge 9, 3) := by decide +kernel
theorem own_d3_5 : decode method_3_code 5 = .ok (.aload_n 0, 1) := by decide +kernel
theorem own_d3_6 : decode method_3_code 6 = .ok (.iload_n 1, 1) := by decide +kernel
theorem own_d3_7 : decode method_3_code 7 = .ok (.baload, 1) := by decide +kernel
theorem own_d3_8 : decode method_3_code 8 = .ok (.ifCond .ne 7, 3) := by decide +kernel
theorem own_d3_11 : decode method_3_code 11 = .ok (.iconst 1, 1) := by decide +kernel
theorem own_d3_12 : decode method_3_code 12 = .ok (.goto 4, 3) := by decide +kernel
theorem own_d3_15 : decode method_3_code 15 = .ok (.iconst 0, 1) := by decide +kernel
theorem own_d3_16 : decode method_3_code 16 = .ok (.ireturn, 1) := by decide +kernel
theorem own_ef3 (m : MethodId) (a0r : Addr) (p1 : Int32) (p2 : Int32) : entryFrame m #[(.ref a0r), (.int p1), (.int p2)] 3 = mkF m 0 #[.val (.ref a0r), .val (.int p1), .val (.int p2)] [] := by first | (simp [entryFrame, mkF, argsToLocals, Value.category]; done) | rfl
def own_F3 (p1 : Int32) (p2 : Int32) (z : Int32) (f : Nat → Int32) : Int32 := (if p1 < p2 then (if (f p1.toInt.toNat) = (0 : Int32) then (1 : Int32) else (0 : Int32)) else (1 : Int32))
def own_Q3 (Z : State) (a0r : Addr) (p1 : Int32) (p2 : Int32) (z : Int32) (f : Nat → Int32) (h0 : Heap) (n0 : Nat) (v : Option Value) (h : Heap) (L : List Loc) : Prop := (v = some (.int (own_F3 p1 p2 z f))) ∧ (Fr n0 L) ∧ (h = h0)
set_option maxRecDepth 65536 in
set_option maxHeartbeats 40000000 in
theorem own_rm3 (l : Launch) (Z : State) (a0 : Array Value) (hw : ∀ d ∈ tables_1, d.before a0 Z = true) (ws : List Jvm.Cond) (a0r : Addr) (p1 : Int32) (p2 : Int32) (z : Int32) (f : Nat → Int32) (h0 : Heap) (n0 : Nat) (Z0 : n0 ≤ h0.size) (P0 : own_ArI Z h0 a0r .byte z f) (hi : 0 ≤ p1.toInt) (hz : p1.toInt < z.toInt) :
    MetFree l (⟨"com/example/rowcast/rowcast/identifier/IpTextWriteIpv4PinLaw", "untouchedBefore", "([BII)Z"⟩ : MethodName) (head1 (Jvm.Cond.code (⟨"com/example/rowcast/rowcast/identifier/IpTextWriteIpv4PinLaw", "untouchedBefore", "([BII)Z"⟩ : MethodName) method_3_code 3 (some .boolean) :: ws) ({ frames := 0, cells := 0, slots := 0, locals := 0 } : Room)) (fun a U => a = #[(.ref a0r), (.int p1), (.int p2)] ∧ Z.Warmed39 U.vm ∧ U.heap = h0) (fun _ _ _ _ _ => True) (fun _ U o U' => ∃ v L, o = .returned v ∧ own_Q3 Z a0r p1 p2 z f h0 n0 v U'.heap L ∧ FrameEnd U o U' L ({ frames := 0, cells := 0, slots := 0, locals := 0 } : Room).cells ({ frames := 0, cells := 0, slots := 0, locals := 0 } : Room).slots) := by
  refine MetFree.of_bodySF (plainFor_of_name own_pn0) hisR ?_
  intro p e s m args below meth c s₁ Bd hml0 hP hK
  obtain ⟨rfl, hZ, hh⟩ := hP
  have hx := Bd.exec
  have hby := Bd.bytes
  have hml : c.maxLocals = 3 := hml0
  have hown : s.vm.findClass "com/example/rowcast/rowcast/identifier/IpTextWriteIpv4PinLaw" = some m.cls := findClass_of_methodNamed Bd.named
  have hnm := (name_of_methodNamed Bd.named Bd.method).1
  have X0 : Stand p l e ({ frames := 0, cells := 0, slots := 0, locals := 0 } : Room) s m #[(.ref a0r), (.int p1), (.int p2)] below meth c s₁ [] 0 0 := Stand.of_body Bd
  have e0 : s₁.heap = h0 := by rw [← hh, Bd.state]; rfl
  have N0 := Fr.nil n0
  refine own_go (fun t k => castTop (own_ef3 m a0r p1 p2) k) ?_
  refine own_go (T' := s₁) (f' := (mkF m 2 #[.val (.ref a0r), .val (.int p1), .val (.int p2)] [(.int p2), (.int p1)])) (fun t k => ?_) ?_
  · show Steps p.tables e below (s₁.setTop (mkF m 0 #[.val (.ref a0r), .val (.int p1), .val (.int p2)] [])) _
    refine XS.iloadN X0.here hx rfl (hb hby own_d3_0) rfl ?_
    show Steps p.tables e below (s₁.setTop (mkF m 1 #[.val (.ref a0r), .val (.int p1), .val (.int p2)] [(.int p1)])) _
    refine XS.iloadN X0.here hx rfl (hb hby own_d3_1) rfl ?_
    show Steps p.tables e below (s₁.setTop (mkF m 2 #[.val (.ref a0r), .val (.int p1), .val (.int p2)] [(.int p2), (.int p1)])) _
    exact k
  by_cases hc2_1 : p1 < p2
  · skip
    refine own_go (T' := s₁) (f' := (mkF m 8 #[.val (.ref a0r), .val (.int p1), .val (.int p2)] [(.int (f p1.toInt.toNat))])) (fun t k => ?_) ?_
    · show Steps p.tables e below (s₁.setTop (mkF m 2 #[.val (.ref a0r), .val (.int p1), .val (.int p2)] [(.int p2), (.int p1)])) _
      refine XS.icmpNo X0.here hx rfl (hb hby own_d3_2) rfl (tlt hc2_1).2.1 ?_
      show Steps p.tables e below (s₁.setTop (mkF m 5 #[.val (.ref a0r), .val (.int p1), .val (.int p2)] [])) _
      refine XS.aloadN X0.here hx rfl (hb hby own_d3_5) rfl rfl ?_
      show Steps p.tables e below (s₁.setTop (mkF m 6 #[.val (.ref a0r), .val (.int p1), .val (.int p2)] [(.ref a0r)])) _
      refine XS.iloadN X0.here hx rfl (hb hby own_d3_6) rfl ?_
      show Steps p.tables e below (s₁.setTop (mkF m 7 #[.val (.ref a0r), .val (.int p1), .val (.int p2)] [(.int p1), (.ref a0r)])) _
      refine own_ldB X0 hx hZ e0 P0 (j := p1) hi hz (g := (mkF m 7 #[.val (.ref a0r), .val (.int p1), .val (.int p2)] [(.int p1), (.ref a0r)])) rfl rfl (hb hby own_d3_7) _ ?_
      show Steps p.tables e below (s₁.setTop (mkF m 8 #[.val (.ref a0r), .val (.int p1), .val (.int p2)] [(.int (f p1.toInt.toNat))])) _
      exact k
    by_cases hc8_2 : (f p1.toInt.toNat) = (0 : Int32)
    · skip
      refine own_go (T' := s₁) (f' := (mkF m 16 #[.val (.ref a0r), .val (.int p1), .val (.int p2)] [(.int (1 : Int32))])) (fun t k => ?_) ?_
      · show Steps p.tables e below (s₁.setTop (mkF m 8 #[.val (.ref a0r), .val (.int p1), .val (.int p2)] [(.int (f p1.toInt.toNat))])) _
        refine XS.ifNo X0.here hx rfl (hb hby own_d3_8) rfl ((if0 _ _).trans (teq hc8_2).2) ?_
        show Steps p.tables e below (s₁.setTop (mkF m 11 #[.val (.ref a0r), .val (.int p1), .val (.int p2)] [])) _
        refine XS.iconst X0.here hx rfl (hb hby own_d3_11) ?_
        show Steps p.tables e below (s₁.setTop (mkF m 12 #[.val (.ref a0r), .val (.int p1), .val (.int p2)] [(.int (1 : Int32))])) _
        refine XS.goto X0.here hx rfl (pc0 := 12) (pc' := 16) rfl (hb hby own_d3_12) (by decide) (by decide) ?_
        show Steps p.tables e below (s₁.setTop (mkF m 16 #[.val (.ref a0r), .val (.int p1), .val (.int p2)] [(.int (1 : Int32))])) _
        exact k
      obtain ⟨fs, hr, hrun, hended, hW, hsame⟩ := X0.leave (v := some (.int (1 : Int32))) (fun h => by rw [Bd.returns] at h; cases h)
      refine ⟨_, _, ?_, hrun, hended, _, _, rfl, ?_, ⟨_, rfl⟩, hW, hsame.mono (by decide) (by decide)⟩
      · exact retN X0 hx (t := .boolean) Bd.returns (by simp) (hb hby own_d3_16) hr
      · show own_Q3 Z a0r p1 p2 z f h0 n0 _ s₁.heap _
        rw [e0]
        exact ⟨(by rw [own_F3, if_pos hc2_1, if_pos hc8_2]), N0, rfl⟩
    · skip
      refine own_go (T' := s₁) (f' := (mkF m 16 #[.val (.ref a0r), .val (.int p1), .val (.int p2)] [(.int (0 : Int32))])) (fun t k => ?_) ?_
      · show Steps p.tables e below (s₁.setTop (mkF m 8 #[.val (.ref a0r), .val (.int p1), .val (.int p2)] [(.int (f p1.toInt.toNat))])) _
        refine XS.ifYes X0.here hx rfl (pc0 := 8) (pc' := 15) rfl (hb hby own_d3_8) rfl ((if0 _ _).trans (feq hc8_2).2) (by decide) (by decide) ?_
        show Steps p.tables e below (s₁.setTop (mkF m 15 #[.val (.ref a0r), .val (.int p1), .val (.int p2)] [])) _
        refine XS.iconst X0.here hx rfl (hb hby own_d3_15) ?_
        show Steps p.tables e below (s₁.setTop (mkF m 16 #[.val (.ref a0r), .val (.int p1), .val (.int p2)] [(.int (0 : Int32))])) _
        exact k
      obtain ⟨fs, hr, hrun, hended, hW, hsame⟩ := X0.leave (v := some (.int (0 : Int32))) (fun h => by rw [Bd.returns] at h; cases h)
      refine ⟨_, _, ?_, hrun, hended, _, _, rfl, ?_, ⟨_, rfl⟩, hW, hsame.mono (by decide) (by decide)⟩
      · exact retN X0 hx (t := .boolean) Bd.returns (by simp) (hb hby own_d3_16) hr
      · show own_Q3 Z a0r p1 p2 z f h0 n0 _ s₁.heap _
        rw [e0]
        exact ⟨(by rw [own_F3, if_pos hc2_1, if_neg hc8_2]), N0, rfl⟩
  · skip
    refine own_go (T' := s₁) (f' := (mkF m 16 #[.val (.ref a0r), .val (.int p1), .val (.int p2)] [(.int (1 : Int32))])) (fun t k => ?_) ?_
    · show Steps p.tables e below (s₁.setTop (mkF m 2 #[.val (.ref a0r), .val (.int p1), .val (.int p2)] [(.int p2), (.int p1)])) _
      refine XS.icmpYes X0.here hx rfl (pc0 := 2) (pc' := 11) rfl (hb hby own_d3_2) rfl (flt hc2_1).2.1 (by decide) (by decide) ?_
      show Steps p.tables e below (s₁.setTop (mkF m 11 #[.val (.ref a0r), .val (.int p1), .val (.int p2)] [])) _
      refine XS.iconst X0.here hx rfl (hb hby own_d3_11) ?_
      show Steps p.tables e below (s₁.setTop (mkF m 12 #[.val (.ref a0r), .val (.int p1), .val (.int p2)] [(.int (1 : Int32))])) _
      refine XS.goto X0.here hx rfl (pc0 := 12) (pc' := 16) rfl (hb hby own_d3_12) (by decide) (by decide) ?_
      show Steps p.tables e below (s₁.setTop (mkF m 16 #[.val (.ref a0r), .val (.int p1), .val (.int p2)] [(.int (1 : Int32))])) _
      exact k
    obtain ⟨fs, hr, hrun, hended, hW, hsame⟩ := X0.leave (v := some (.int (1 : Int32))) (fun h => by rw [Bd.returns] at h; cases h)
    refine ⟨_, _, ?_, hrun, hended, _, _, rfl, ?_, ⟨_, rfl⟩, hW, hsame.mono (by decide) (by decide)⟩
    · exact retN X0 hx (t := .boolean) Bd.returns (by simp) (hb hby own_d3_16) hr
    · show own_Q3 Z a0r p1 p2 z f h0 n0 _ s₁.heap _
      rw [e0]
      exact ⟨(by rw [own_F3, if_neg hc2_1]), N0, rfl⟩
theorem own_d4_48 : decode prog_39_method_2_code 48 = .ok (.iload 5, 2) := by decide +kernel
theorem own_d4_50 : decode prog_39_method_2_code 50 = .ok (.iload_n 2, 1) := by decide +kernel
theorem own_d4_51 : decode prog_39_method_2_code 51 = .ok (.if_icmp .ge 51, 3) := by decide +kernel
theorem own_d4_54 : decode prog_39_method_2_code 54 = .ok (.iload 5, 2) := by decide +kernel
theorem own_d4_56 : decode prog_39_method_2_code 56 = .ok (.iload 7, 2) := by decide +kernel
theorem own_d4_58 : decode prog_39_method_2_code 58 = .ok (.isub, 1) := by decide +kernel
theorem own_d4_59 : decode prog_39_method_2_code 59 = .ok (.iconst 3, 1) := by decide +kernel
theorem own_d4_60 : decode prog_39_method_2_code 60 = .ok (.if_icmp .ge 42, 3) := by decide +kernel
theorem own_d4_63 : decode prog_39_method_2_code 63 = .ok (.aload_n 0, 1) := by decide +kernel
theorem own_d4_64 : decode prog_39_method_2_code 64 = .ok (.iload 5, 2) := by decide +kernel
theorem own_d4_66 : decode prog_39_method_2_code 66 = .ok (.baload, 1) := by decide +kernel
theorem own_d4_67 : decode prog_39_method_2_code 67 = .ok (.bipush 48, 2) := by decide +kernel
theorem own_d4_69 : decode prog_39_method_2_code 69 = .ok (.if_icmp .lt 33, 3) := by decide +kernel
theorem own_d4_72 : decode prog_39_method_2_code 72 = .ok (.aload_n 0, 1) := by decide +kernel
theorem own_d4_73 : decode prog_39_method_2_code 73 = .ok (.iload 5, 2) := by decide +kernel
theorem own_d4_75 : decode prog_39_method_2_code 75 = .ok (.baload, 1) := by decide +kernel
theorem own_d4_76 : decode prog_39_method_2_code 76 = .ok (.bipush 57, 2) := by decide +kernel
theorem own_d4_78 : decode prog_39_method_2_code 78 = .ok (.if_icmp .gt 24, 3) := by decide +kernel
theorem own_d4_81 : decode prog_39_method_2_code 81 = .ok (.iload 8, 2) := by decide +kernel
theorem own_d4_83 : decode prog_39_method_2_code 83 = .ok (.bipush 10, 2) := by decide +kernel
theorem own_d4_85 : decode prog_39_method_2_code 85 = .ok (.imul, 1) := by decide +kernel
theorem own_d4_86 : decode prog_39_method_2_code 86 = .ok (.aload_n 0, 1) := by decide +kernel
theorem own_d4_87 : decode prog_39_method_2_code 87 = .ok (.iload 5, 2) := by decide +kernel
theorem own_d4_89 : decode prog_39_method_2_code 89 = .ok (.baload, 1) := by decide +kernel
theorem own_d4_90 : decode prog_39_method_2_code 90 = .ok (.iadd, 1) := by decide +kernel
theorem own_d4_91 : decode prog_39_method_2_code 91 = .ok (.bipush 48, 2) := by decide +kernel
theorem own_d4_93 : decode prog_39_method_2_code 93 = .ok (.isub, 1) := by decide +kernel
theorem own_d4_94 : decode prog_39_method_2_code 94 = .ok (.istore 8, 2) := by decide +kernel
theorem own_d4_96 : decode prog_39_method_2_code 96 = .ok (.iinc 5 1, 3) := by decide +kernel
theorem own_d4_99 : decode prog_39_method_2_code 99 = .ok (.goto (-51), 3) := by decide +kernel
set_option maxRecDepth 65536 in
set_option maxHeartbeats 40000000 in
theorem own_lp4i {p : Program} {l : Launch} {e : Env} {R : Room} {s : State} {m : MethodId} {args : Array Value} {below : List Frame} {meth : Method} {c : Code} {cells slots : Nat} {Z : State} {a0 : Array Value} {n0 : Nat} {G : State → Outcome → Prop}
    (hx : p.tables.exec = Jvm.exec) (hZ : Z.Warmed39 s.vm) (hw : ∀ d ∈ tables_1, d.before a0 Z = true) (hby : c.code = prog_39_method_2_code) (hml : c.maxLocals = 9) (hown : s.vm.findClass "com/example/rowcast/rowcast/identifier/IpText" = some m.cls) (a0r : Addr) (p1 : Int32) (p2 : Int32) (z : Int32) (f : Nat → Int32) (ac : Int64) (i : Int32) (sa : Int32) (o : Nat) (hs : 0 ≤ sa.toInt) (hpz : p2.toInt ≤ z.toInt) (hnum : own_num f sa.toInt.toNat o) (ho : o < 256) (hle : sa.toInt + own_D o ≤ p2.toInt) (hend : sa.toInt + own_D o = p2.toInt ∨ (f (sa.toInt.toNat + own_D o)).toInt = 46) :
    ∀ (fuel : Nat) (T0 : State) (h : Heap) (locs : List Loc) (j : Int32) (nu : Int32) (X0 : Stand p l e R s m args below meth c T0 locs cells slots) (e0 : T0.heap = h) (N0 : Fr n0 locs) (Z0 : n0 ≤ h.size) (V0 : own_ArI Z h a0r .byte z f) (hfd : fuel ≤ own_D o) (hj : j.toInt + fuel = sa.toInt + own_D o) (hjs0 : sa.toInt ≤ j.toInt) (hnu : nu.toInt = (o / 10 ^ fuel : Nat)),
    (∀ (T' : State) (h' : Heap) (locs' : List Loc) (j' : Int32) (nu' : Int32), Stand p l e R s m args below meth c T' locs' cells slots → T'.heap = h' → Fr n0 locs' → n0 ≤ h'.size → h' = h → own_ArI Z h' a0r .byte z f → (j'.toInt = sa.toInt + own_D o ∧ nu'.toInt = o) → ∃ s₂ o, Steps p.tables e below (T'.setTop (mkF m 102 #[.val (.ref a0r), .val (.int p1), .val (.int p2), .val (.long ac), .second, .val (.int j'), .val (.int i), .val (.int sa), .val (.int nu')] [])) s₂ ∧ G s₂ o) →
    ∃ s₂ o, Steps p.tables e below (T0.setTop (mkF m 48 #[.val (.ref a0r), .val (.int p1), .val (.int p2), .val (.long ac), .second, .val (.int j), .val (.int i), .val (.int sa), .val (.int nu)] [])) s₂ ∧ G s₂ o := by
  intro fuel
  induction fuel using Nat.strongRecOn with
  | ind fuel ih =>
  intro T0 h locs j nu X0 e0 N0 Z0 V0 hfd hj hjs0 hnu kx
  have dr := own_D_rng o
  have zr := rng32 z
  by_cases hz0 : fuel = 0
  · skip
    subst hz0
    refine own_go (T' := T0) (f' := (mkF m 51 #[.val (.ref a0r), .val (.int p1), .val (.int p2), .val (.long ac), .second, .val (.int j), .val (.int i), .val (.int sa), .val (.int nu)] [(.int p2), (.int j)])) (fun t k => ?_) ?_
    · show Steps p.tables e below (T0.setTop (mkF m 48 #[.val (.ref a0r), .val (.int p1), .val (.int p2), .val (.long ac), .second, .val (.int j), .val (.int i), .val (.int sa), .val (.int nu)] [])) _
      refine XS.iload X0.here hx rfl (hb hby own_d4_48) rfl ?_
      show Steps p.tables e below (T0.setTop (mkF m 50 #[.val (.ref a0r), .val (.int p1), .val (.int p2), .val (.long ac), .second, .val (.int j), .val (.int i), .val (.int sa), .val (.int nu)] [(.int j)])) _
      refine XS.iloadN X0.here hx rfl (hb hby own_d4_50) rfl ?_
      show Steps p.tables e below (T0.setTop (mkF m 51 #[.val (.ref a0r), .val (.int p1), .val (.int p2), .val (.long ac), .second, .val (.int j), .val (.int i), .val (.int sa), .val (.int nu)] [(.int p2), (.int j)])) _
      exact k
    by_cases hc51_1 : j < p2
    · skip
      refine own_go (T' := T0) (f' := (mkF m 60 #[.val (.ref a0r), .val (.int p1), .val (.int p2), .val (.long ac), .second, .val (.int j), .val (.int i), .val (.int sa), .val (.int nu)] [(.int (3 : Int32)), (.int (j - sa))])) (fun t k => ?_) ?_
      · show Steps p.tables e below (T0.setTop (mkF m 51 #[.val (.ref a0r), .val (.int p1), .val (.int p2), .val (.long ac), .second, .val (.int j), .val (.int i), .val (.int sa), .val (.int nu)] [(.int p2), (.int j)])) _
        refine XS.icmpNo X0.here hx rfl (hb hby own_d4_51) rfl (tlt hc51_1).2.1 ?_
        show Steps p.tables e below (T0.setTop (mkF m 54 #[.val (.ref a0r), .val (.int p1), .val (.int p2), .val (.long ac), .second, .val (.int j), .val (.int i), .val (.int sa), .val (.int nu)] [])) _
        refine XS.iload X0.here hx rfl (hb hby own_d4_54) rfl ?_
        show Steps p.tables e below (T0.setTop (mkF m 56 #[.val (.ref a0r), .val (.int p1), .val (.int p2), .val (.long ac), .second, .val (.int j), .val (.int i), .val (.int sa), .val (.int nu)] [(.int j)])) _
        refine XS.iload X0.here hx rfl (hb hby own_d4_56) rfl ?_
        show Steps p.tables e below (T0.setTop (mkF m 58 #[.val (.ref a0r), .val (.int p1), .val (.int p2), .val (.long ac), .second, .val (.int j), .val (.int i), .val (.int sa), .val (.int nu)] [(.int sa), (.int j)])) _
        refine XS.isub X0.here hx rfl (hb hby own_d4_58) rfl ?_
        show Steps p.tables e below (T0.setTop (mkF m 59 #[.val (.ref a0r), .val (.int p1), .val (.int p2), .val (.long ac), .second, .val (.int j), .val (.int i), .val (.int sa), .val (.int nu)] [(.int (j - sa))])) _
        refine XS.iconst X0.here hx rfl (hb hby own_d4_59) ?_
        show Steps p.tables e below (T0.setTop (mkF m 60 #[.val (.ref a0r), .val (.int p1), .val (.int p2), .val (.long ac), .second, .val (.int j), .val (.int i), .val (.int sa), .val (.int nu)] [(.int (3 : Int32)), (.int (j - sa))])) _
        exact k
      by_cases hc60_2 : (j - sa) < (3 : Int32)
      · skip
        refine own_go (T' := T0) (f' := (mkF m 102 #[.val (.ref a0r), .val (.int p1), .val (.int p2), .val (.long ac), .second, .val (.int j), .val (.int i), .val (.int sa), .val (.int nu)] [])) (fun t k => ?_) ?_
        · show Steps p.tables e below (T0.setTop (mkF m 60 #[.val (.ref a0r), .val (.int p1), .val (.int p2), .val (.long ac), .second, .val (.int j), .val (.int i), .val (.int sa), .val (.int nu)] [(.int (3 : Int32)), (.int (j - sa))])) _
          refine XS.icmpNo X0.here hx rfl (hb hby own_d4_60) rfl (tlt hc60_2).2.1 ?_
          show Steps p.tables e below (T0.setTop (mkF m 63 #[.val (.ref a0r), .val (.int p1), .val (.int p2), .val (.long ac), .second, .val (.int j), .val (.int i), .val (.int sa), .val (.int nu)] [])) _
          refine XS.aloadN X0.here hx rfl (hb hby own_d4_63) rfl rfl ?_
          show Steps p.tables e below (T0.setTop (mkF m 64 #[.val (.ref a0r), .val (.int p1), .val (.int p2), .val (.long ac), .second, .val (.int j), .val (.int i), .val (.int sa), .val (.int nu)] [(.ref a0r)])) _
          refine XS.iload X0.here hx rfl (hb hby own_d4_64) rfl ?_
          show Steps p.tables e below (T0.setTop (mkF m 66 #[.val (.ref a0r), .val (.int p1), .val (.int p2), .val (.long ac), .second, .val (.int j), .val (.int i), .val (.int sa), .val (.int nu)] [(.int j), (.ref a0r)])) _
          refine own_ldB X0 hx hZ e0 V0 (j := j) (by omega) (by have q := hc51_1; rw [Int32.lt_iff_toInt_lt] at q; omega) (g := (mkF m 66 #[.val (.ref a0r), .val (.int p1), .val (.int p2), .val (.long ac), .second, .val (.int j), .val (.int i), .val (.int sa), .val (.int nu)] [(.int j), (.ref a0r)])) rfl rfl (hb hby own_d4_66) _ ?_
          show Steps p.tables e below (T0.setTop (mkF m 67 #[.val (.ref a0r), .val (.int p1), .val (.int p2), .val (.long ac), .second, .val (.int j), .val (.int i), .val (.int sa), .val (.int nu)] [(.int (f j.toInt.toNat))])) _
          refine XS.bipush X0.here hx rfl (hb hby own_d4_67) ?_
          show Steps p.tables e below (T0.setTop (mkF m 69 #[.val (.ref a0r), .val (.int p1), .val (.int p2), .val (.long ac), .second, .val (.int j), .val (.int i), .val (.int sa), .val (.int nu)] [(.int (48 : Int32)), (.int (f j.toInt.toNat))])) _
          refine XS.icmpYes X0.here hx rfl (pc0 := 69) (pc' := 102) rfl (hb hby own_d4_69) rfl (tlt (own_dotlt hs hend (by omega) hc51_1)).1 (by decide) (by decide) ?_
          show Steps p.tables e below (T0.setTop (mkF m 102 #[.val (.ref a0r), .val (.int p1), .val (.int p2), .val (.long ac), .second, .val (.int j), .val (.int i), .val (.int sa), .val (.int nu)] [])) _
          exact k
        exact kx _ _ _ j nu X0 e0 N0 Z0 rfl V0 ⟨by omega, by simpa using hnu⟩
      · skip
        refine own_go (T' := T0) (f' := (mkF m 102 #[.val (.ref a0r), .val (.int p1), .val (.int p2), .val (.long ac), .second, .val (.int j), .val (.int i), .val (.int sa), .val (.int nu)] [])) (fun t k => ?_) ?_
        · show Steps p.tables e below (T0.setTop (mkF m 60 #[.val (.ref a0r), .val (.int p1), .val (.int p2), .val (.long ac), .second, .val (.int j), .val (.int i), .val (.int sa), .val (.int nu)] [(.int (3 : Int32)), (.int (j - sa))])) _
          refine XS.icmpYes X0.here hx rfl (pc0 := 60) (pc' := 102) rfl (hb hby own_d4_60) rfl (flt hc60_2).2.1 (by decide) (by decide) ?_
          show Steps p.tables e below (T0.setTop (mkF m 102 #[.val (.ref a0r), .val (.int p1), .val (.int p2), .val (.long ac), .second, .val (.int j), .val (.int i), .val (.int sa), .val (.int nu)] [])) _
          exact k
        exact kx _ _ _ j nu X0 e0 N0 Z0 rfl V0 ⟨by omega, by simpa using hnu⟩
    · skip
      refine own_go (T' := T0) (f' := (mkF m 102 #[.val (.ref a0r), .val (.int p1), .val (.int p2), .val (.long ac), .second, .val (.int j), .val (.int i), .val (.int sa), .val (.int nu)] [])) (fun t k => ?_) ?_
      · show Steps p.tables e below (T0.setTop (mkF m 51 #[.val (.ref a0r), .val (.int p1), .val (.int p2), .val (.long ac), .second, .val (.int j), .val (.int i), .val (.int sa), .val (.int nu)] [(.int p2), (.int j)])) _
        refine XS.icmpYes X0.here hx rfl (pc0 := 51) (pc' := 102) rfl (hb hby own_d4_51) rfl (flt hc51_1).2.1 (by decide) (by decide) ?_
        show Steps p.tables e below (T0.setTop (mkF m 102 #[.val (.ref a0r), .val (.int p1), .val (.int p2), .val (.long ac), .second, .val (.int j), .val (.int i), .val (.int sa), .val (.int nu)] [])) _
        exact k
      exact kx _ _ _ j nu X0 e0 N0 Z0 rfl V0 ⟨by omega, by simpa using hnu⟩
  · skip
    have hd := own_dig hnum (n := fuel) (j := j.toInt.toNat) (by omega) (by omega) (by omega)
    have e48 : (48 : Int32).toInt = 48 := rfl
    have e57 : (57 : Int32).toInt = 57 := rfl
    have e3 : (3 : Int32).toInt = 3 := rfl
    have hjs : (j - sa).toInt = j.toInt - sa.toInt := by have a := c_isub j sa; have b := rng32 (j - sa); have c := rng32 j; have d := rng32 sa; omega
    refine own_go (T' := T0) (f' := (mkF m 48 #[.val (.ref a0r), .val (.int p1), .val (.int p2), .val (.long ac), .second, .val (.int (j + (1 : Int32))), .val (.int i), .val (.int sa), .val (.int (((nu * (10 : Int32)) + (f j.toInt.toNat)) - (48 : Int32)))] [])) (fun t k => ?_) ?_
    · show Steps p.tables e below (T0.setTop (mkF m 48 #[.val (.ref a0r), .val (.int p1), .val (.int p2), .val (.long ac), .second, .val (.int j), .val (.int i), .val (.int sa), .val (.int nu)] [])) _
      refine XS.iload X0.here hx rfl (hb hby own_d4_48) rfl ?_
      show Steps p.tables e below (T0.setTop (mkF m 50 #[.val (.ref a0r), .val (.int p1), .val (.int p2), .val (.long ac), .second, .val (.int j), .val (.int i), .val (.int sa), .val (.int nu)] [(.int j)])) _
      refine XS.iloadN X0.here hx rfl (hb hby own_d4_50) rfl ?_
      show Steps p.tables e below (T0.setTop (mkF m 51 #[.val (.ref a0r), .val (.int p1), .val (.int p2), .val (.long ac), .second, .val (.int j), .val (.int i), .val (.int sa), .val (.int nu)] [(.int p2), (.int j)])) _
      refine XS.icmpNo X0.here hx rfl (hb hby own_d4_51) rfl (tlt (by rw [Int32.lt_iff_toInt_lt]; omega)).2.1 ?_
      show Steps p.tables e below (T0.setTop (mkF m 54 #[.val (.ref a0r), .val (.int p1), .val (.int p2), .val (.long ac), .second, .val (.int j), .val (.int i), .val (.int sa), .val (.int nu)] [])) _
      refine XS.iload X0.here hx rfl (hb hby own_d4_54) rfl ?_
      show Steps p.tables e below (T0.setTop (mkF m 56 #[.val (.ref a0r), .val (.int p1), .val (.int p2), .val (.long ac), .second, .val (.int j), .val (.int i), .val (.int sa), .val (.int nu)] [(.int j)])) _
      refine XS.iload X0.here hx rfl (hb hby own_d4_56) rfl ?_
      show Steps p.tables e below (T0.setTop (mkF m 58 #[.val (.ref a0r), .val (.int p1), .val (.int p2), .val (.long ac), .second, .val (.int j), .val (.int i), .val (.int sa), .val (.int nu)] [(.int sa), (.int j)])) _
      refine XS.isub X0.here hx rfl (hb hby own_d4_58) rfl ?_
      show Steps p.tables e below (T0.setTop (mkF m 59 #[.val (.ref a0r), .val (.int p1), .val (.int p2), .val (.long ac), .second, .val (.int j), .val (.int i), .val (.int sa), .val (.int nu)] [(.int (j - sa))])) _
      refine XS.iconst X0.here hx rfl (hb hby own_d4_59) ?_
      show Steps p.tables e below (T0.setTop (mkF m 60 #[.val (.ref a0r), .val (.int p1), .val (.int p2), .val (.long ac), .second, .val (.int j), .val (.int i), .val (.int sa), .val (.int nu)] [(.int (3 : Int32)), (.int (j - sa))])) _
      refine XS.icmpNo X0.here hx rfl (hb hby own_d4_60) rfl (tlt (by rw [Int32.lt_iff_toInt_lt]; omega)).2.1 ?_
      show Steps p.tables e below (T0.setTop (mkF m 63 #[.val (.ref a0r), .val (.int p1), .val (.int p2), .val (.long ac), .second, .val (.int j), .val (.int i), .val (.int sa), .val (.int nu)] [])) _
      refine XS.aloadN X0.here hx rfl (hb hby own_d4_63) rfl rfl ?_
      show Steps p.tables e below (T0.setTop (mkF m 64 #[.val (.ref a0r), .val (.int p1), .val (.int p2), .val (.long ac), .second, .val (.int j), .val (.int i), .val (.int sa), .val (.int nu)] [(.ref a0r)])) _
      refine XS.iload X0.here hx rfl (hb hby own_d4_64) rfl ?_
      show Steps p.tables e below (T0.setTop (mkF m 66 #[.val (.ref a0r), .val (.int p1), .val (.int p2), .val (.long ac), .second, .val (.int j), .val (.int i), .val (.int sa), .val (.int nu)] [(.int j), (.ref a0r)])) _
      refine own_ldB X0 hx hZ e0 V0 (j := j) (by omega) (by omega) (g := (mkF m 66 #[.val (.ref a0r), .val (.int p1), .val (.int p2), .val (.long ac), .second, .val (.int j), .val (.int i), .val (.int sa), .val (.int nu)] [(.int j), (.ref a0r)])) rfl rfl (hb hby own_d4_66) _ ?_
      show Steps p.tables e below (T0.setTop (mkF m 67 #[.val (.ref a0r), .val (.int p1), .val (.int p2), .val (.long ac), .second, .val (.int j), .val (.int i), .val (.int sa), .val (.int nu)] [(.int (f j.toInt.toNat))])) _
      refine XS.bipush X0.here hx rfl (hb hby own_d4_67) ?_
      show Steps p.tables e below (T0.setTop (mkF m 69 #[.val (.ref a0r), .val (.int p1), .val (.int p2), .val (.long ac), .second, .val (.int j), .val (.int i), .val (.int sa), .val (.int nu)] [(.int (48 : Int32)), (.int (f j.toInt.toNat))])) _
      refine XS.icmpNo X0.here hx rfl (hb hby own_d4_69) rfl (flt (by rw [Int32.lt_iff_toInt_lt]; omega)).1 ?_
      show Steps p.tables e below (T0.setTop (mkF m 72 #[.val (.ref a0r), .val (.int p1), .val (.int p2), .val (.long ac), .second, .val (.int j), .val (.int i), .val (.int sa), .val (.int nu)] [])) _
      refine XS.aloadN X0.here hx rfl (hb hby own_d4_72) rfl rfl ?_
      show Steps p.tables e below (T0.setTop (mkF m 73 #[.val (.ref a0r), .val (.int p1), .val (.int p2), .val (.long ac), .second, .val (.int j), .val (.int i), .val (.int sa), .val (.int nu)] [(.ref a0r)])) _
      refine XS.iload X0.here hx rfl (hb hby own_d4_73) rfl ?_
      show Steps p.tables e below (T0.setTop (mkF m 75 #[.val (.ref a0r), .val (.int p1), .val (.int p2), .val (.long ac), .second, .val (.int j), .val (.int i), .val (.int sa), .val (.int nu)] [(.int j), (.ref a0r)])) _
      refine own_ldB X0 hx hZ e0 V0 (j := j) (by omega) (by omega) (g := (mkF m 75 #[.val (.ref a0r), .val (.int p1), .val (.int p2), .val (.long ac), .second, .val (.int j), .val (.int i), .val (.int sa), .val (.int nu)] [(.int j), (.ref a0r)])) rfl rfl (hb hby own_d4_75) _ ?_
      show Steps p.tables e below (T0.setTop (mkF m 76 #[.val (.ref a0r), .val (.int p1), .val (.int p2), .val (.long ac), .second, .val (.int j), .val (.int i), .val (.int sa), .val (.int nu)] [(.int (f j.toInt.toNat))])) _
      refine XS.bipush X0.here hx rfl (hb hby own_d4_76) ?_
      show Steps p.tables e below (T0.setTop (mkF m 78 #[.val (.ref a0r), .val (.int p1), .val (.int p2), .val (.long ac), .second, .val (.int j), .val (.int i), .val (.int sa), .val (.int nu)] [(.int (57 : Int32)), (.int (f j.toInt.toNat))])) _
      refine XS.icmpNo X0.here hx rfl (hb hby own_d4_78) rfl (flt (by rw [Int32.lt_iff_toInt_lt]; omega)).2.2.1 ?_
      show Steps p.tables e below (T0.setTop (mkF m 81 #[.val (.ref a0r), .val (.int p1), .val (.int p2), .val (.long ac), .second, .val (.int j), .val (.int i), .val (.int sa), .val (.int nu)] [])) _
      refine XS.iload X0.here hx rfl (hb hby own_d4_81) rfl ?_
      show Steps p.tables e below (T0.setTop (mkF m 83 #[.val (.ref a0r), .val (.int p1), .val (.int p2), .val (.long ac), .second, .val (.int j), .val (.int i), .val (.int sa), .val (.int nu)] [(.int nu)])) _
      refine XS.bipush X0.here hx rfl (hb hby own_d4_83) ?_
      show Steps p.tables e below (T0.setTop (mkF m 85 #[.val (.ref a0r), .val (.int p1), .val (.int p2), .val (.long ac), .second, .val (.int j), .val (.int i), .val (.int sa), .val (.int nu)] [(.int (10 : Int32)), (.int nu)])) _
      refine XS.imul X0.here hx rfl (hb hby own_d4_85) rfl ?_
      show Steps p.tables e below (T0.setTop (mkF m 86 #[.val (.ref a0r), .val (.int p1), .val (.int p2), .val (.long ac), .second, .val (.int j), .val (.int i), .val (.int sa), .val (.int nu)] [(.int (nu * (10 : Int32)))])) _
      refine XS.aloadN X0.here hx rfl (hb hby own_d4_86) rfl rfl ?_
      show Steps p.tables e below (T0.setTop (mkF m 87 #[.val (.ref a0r), .val (.int p1), .val (.int p2), .val (.long ac), .second, .val (.int j), .val (.int i), .val (.int sa), .val (.int nu)] [(.ref a0r), (.int (nu * (10 : Int32)))])) _
      refine XS.iload X0.here hx rfl (hb hby own_d4_87) rfl ?_
      show Steps p.tables e below (T0.setTop (mkF m 89 #[.val (.ref a0r), .val (.int p1), .val (.int p2), .val (.long ac), .second, .val (.int j), .val (.int i), .val (.int sa), .val (.int nu)] [(.int j), (.ref a0r), (.int (nu * (10 : Int32)))])) _
      refine own_ldB X0 hx hZ e0 V0 (j := j) (by omega) (by omega) (g := (mkF m 89 #[.val (.ref a0r), .val (.int p1), .val (.int p2), .val (.long ac), .second, .val (.int j), .val (.int i), .val (.int sa), .val (.int nu)] [(.int j), (.ref a0r), (.int (nu * (10 : Int32)))])) rfl rfl (hb hby own_d4_89) _ ?_
      show Steps p.tables e below (T0.setTop (mkF m 90 #[.val (.ref a0r), .val (.int p1), .val (.int p2), .val (.long ac), .second, .val (.int j), .val (.int i), .val (.int sa), .val (.int nu)] [(.int (f j.toInt.toNat)), (.int (nu * (10 : Int32)))])) _
      refine XS.iadd X0.here hx rfl (hb hby own_d4_90) rfl ?_
      show Steps p.tables e below (T0.setTop (mkF m 91 #[.val (.ref a0r), .val (.int p1), .val (.int p2), .val (.long ac), .second, .val (.int j), .val (.int i), .val (.int sa), .val (.int nu)] [(.int ((nu * (10 : Int32)) + (f j.toInt.toNat)))])) _
      refine XS.bipush X0.here hx rfl (hb hby own_d4_91) ?_
      show Steps p.tables e below (T0.setTop (mkF m 93 #[.val (.ref a0r), .val (.int p1), .val (.int p2), .val (.long ac), .second, .val (.int j), .val (.int i), .val (.int sa), .val (.int nu)] [(.int (48 : Int32)), (.int ((nu * (10 : Int32)) + (f j.toInt.toNat)))])) _
      refine XS.isub X0.here hx rfl (hb hby own_d4_93) rfl ?_
      show Steps p.tables e below (T0.setTop (mkF m 94 #[.val (.ref a0r), .val (.int p1), .val (.int p2), .val (.long ac), .second, .val (.int j), .val (.int i), .val (.int sa), .val (.int nu)] [(.int (((nu * (10 : Int32)) + (f j.toInt.toNat)) - (48 : Int32)))])) _
      refine XS.istore X0.here hx rfl (hb hby own_d4_94) rfl (l' := #[.val (.ref a0r), .val (.int p1), .val (.int p2), .val (.long ac), .second, .val (.int j), .val (.int i), .val (.int sa), .val (.int (((nu * (10 : Int32)) + (f j.toInt.toNat)) - (48 : Int32)))]) rfl ?_
      show Steps p.tables e below (T0.setTop (mkF m 96 #[.val (.ref a0r), .val (.int p1), .val (.int p2), .val (.long ac), .second, .val (.int j), .val (.int i), .val (.int sa), .val (.int (((nu * (10 : Int32)) + (f j.toInt.toNat)) - (48 : Int32)))] [])) _
      refine XS.iinc X0.here hx rfl (hb hby own_d4_96) rfl (l' := #[.val (.ref a0r), .val (.int p1), .val (.int p2), .val (.long ac), .second, .val (.int (j + (1 : Int32))), .val (.int i), .val (.int sa), .val (.int (((nu * (10 : Int32)) + (f j.toInt.toNat)) - (48 : Int32)))]) rfl ?_
      show Steps p.tables e below (T0.setTop (mkF m 99 #[.val (.ref a0r), .val (.int p1), .val (.int p2), .val (.long ac), .second, .val (.int (j + (1 : Int32))), .val (.int i), .val (.int sa), .val (.int (((nu * (10 : Int32)) + (f j.toInt.toNat)) - (48 : Int32)))] [])) _
      refine XS.goto X0.here hx rfl (pc0 := 99) (pc' := 48) rfl (hb hby own_d4_99) (by decide) (by decide) ?_
      show Steps p.tables e below (T0.setTop (mkF m 48 #[.val (.ref a0r), .val (.int p1), .val (.int p2), .val (.long ac), .second, .val (.int (j + (1 : Int32))), .val (.int i), .val (.int sa), .val (.int (((nu * (10 : Int32)) + (f j.toInt.toNat)) - (48 : Int32)))] [])) _
      exact k
    have hj1 : (j + (1 : Int32)).toInt = j.toInt + 1 := own_inc (by omega)
    have hs10 := own_step10 o fuel (by omega)
    have hz10 : o / 10 ^ (fuel - 1) ≤ o := Nat.div_le_self _ _
    have hnu' : (((nu * (10 : Int32)) + (f j.toInt.toNat)) - (48 : Int32)).toInt = (o / 10 ^ (fuel - 1) : Nat) := by
      have a := c_imul nu 10; have b := rng32 (nu * 10); have c := c_iadd (nu * 10) (f j.toInt.toNat); have d := rng32 (nu * 10 + f j.toInt.toNat); have g := c_isub (nu * 10 + f j.toInt.toNat) 48; have k := rng32 (nu * 10 + f j.toInt.toNat - 48)
      have e10 : (10 : Int32).toInt = 10 := rfl
      rw [e10] at a
      generalize o / 10 ^ (fuel - 1) = w1 at *
      generalize o / 10 ^ fuel = w0 at *
      omega
    refine ih (fuel - 1) (by omega) _ _ _ ((j + (1 : Int32))) ((((nu * (10 : Int32)) + (f j.toInt.toNat)) - (48 : Int32))) X0 e0 N0 Z0 V0 (by omega) (by omega) (by omega) hnu' (fun T' h' locs' j' nu' X' e' N' Z' hh' V0' sp => ?_)
    exact kx T' h' locs' j' nu' X' e' N' Z' hh' V0' (id sp)
theorem own_d4_8 : decode prog_39_method_2_code 8 = .ok (.iload 6, 2) := by decide +kernel
theorem own_d4_10 : decode prog_39_method_2_code 10 = .ok (.iconst 4, 1) := by decide +kernel
theorem own_d4_11 : decode prog_39_method_2_code 11 = .ok (.if_icmp .ge 125, 3) := by decide +kernel
theorem own_d4_14 : decode prog_39_method_2_code 14 = .ok (.iload 6, 2) := by decide +kernel
theorem own_d4_16 : decode prog_39_method_2_code 16 = .ok (.ifCond .le 25, 3) := by decide +kernel
theorem own_d4_19 : decode prog_39_method_2_code 19 = .ok (.iload 5, 2) := by decide +kernel
theorem own_d4_21 : decode prog_39_method_2_code 21 = .ok (.iload_n 2, 1) := by decide +kernel
theorem own_d4_22 : decode prog_39_method_2_code 22 = .ok (.if_icmp .eq 12, 3) := by decide +kernel
theorem own_d4_25 : decode prog_39_method_2_code 25 = .ok (.aload_n 0, 1) := by decide +kernel
theorem own_d4_26 : decode prog_39_method_2_code 26 = .ok (.iload 5, 2) := by decide +kernel
theorem own_d4_28 : decode prog_39_method_2_code 28 = .ok (.baload, 1) := by decide +kernel
theorem own_d4_29 : decode prog_39_method_2_code 29 = .ok (.bipush 46, 2) := by decide +kernel
theorem own_d4_31 : decode prog_39_method_2_code 31 = .ok (.if_icmp .eq 7, 3) := by decide +kernel
theorem own_d4_38 : decode prog_39_method_2_code 38 = .ok (.iinc 5 1, 3) := by decide +kernel
theorem own_d4_41 : decode prog_39_method_2_code 41 = .ok (.iload 5, 2) := by decide +kernel
theorem own_d4_43 : decode prog_39_method_2_code 43 = .ok (.istore 7, 2) := by decide +kernel
theorem own_d4_45 : decode prog_39_method_2_code 45 = .ok (.iconst 0, 1) := by decide +kernel
theorem own_d4_46 : decode prog_39_method_2_code 46 = .ok (.istore 8, 2) := by decide +kernel
theorem own_d4_102 : decode prog_39_method_2_code 102 = .ok (.iload 5, 2) := by decide +kernel
theorem own_d4_104 : decode prog_39_method_2_code 104 = .ok (.iload 7, 2) := by decide +kernel
theorem own_d4_106 : decode prog_39_method_2_code 106 = .ok (.if_icmp .eq 11, 3) := by decide +kernel
theorem own_d4_109 : decode prog_39_method_2_code 109 = .ok (.iload 8, 2) := by decide +kernel
theorem own_d4_111 : decode prog_39_method_2_code 111 = .ok (.sipush 255, 3) := by decide +kernel
theorem own_d4_114 : decode prog_39_method_2_code 114 = .ok (.if_icmp .le 7, 3) := by decide +kernel
theorem own_d4_121 : decode prog_39_method_2_code 121 = .ok (.lload_n 3, 1) := by decide +kernel
theorem own_d4_122 : decode prog_39_method_2_code 122 = .ok (.bipush 8, 2) := by decide +kernel
theorem own_d4_124 : decode prog_39_method_2_code 124 = .ok (.lshl, 1) := by decide +kernel
theorem own_d4_125 : decode prog_39_method_2_code 125 = .ok (.iload 8, 2) := by decide +kernel
theorem own_d4_127 : decode prog_39_method_2_code 127 = .ok (.i2l, 1) := by decide +kernel
theorem own_d4_128 : decode prog_39_method_2_code 128 = .ok (.lor, 1) := by decide +kernel
theorem own_d4_129 : decode prog_39_method_2_code 129 = .ok (.lstore_n 3, 1) := by decide +kernel
theorem own_d4_130 : decode prog_39_method_2_code 130 = .ok (.iinc 6 1, 3) := by decide +kernel
theorem own_d4_133 : decode prog_39_method_2_code 133 = .ok (.goto (-125), 3) := by decide +kernel
set_option maxRecDepth 65536 in
set_option maxHeartbeats 40000000 in
theorem own_lp4 {p : Program} {l : Launch} {e : Env} {R : Room} {s : State} {m : MethodId} {args : Array Value} {below : List Frame} {meth : Method} {c : Code} {cells slots : Nat} {Z : State} {a0 : Array Value} {n0 : Nat} {G : State → Outcome → Prop}
    (hx : p.tables.exec = Jvm.exec) (hZ : Z.Warmed39 s.vm) (hw : ∀ d ∈ tables_1, d.before a0 Z = true) (hby : c.code = prog_39_method_2_code) (hml : c.maxLocals = 9) (hown : s.vm.findClass "com/example/rowcast/rowcast/identifier/IpText" = some m.cls) (a0r : Addr) (p1 : Int32) (p2 : Int32) (z : Int32) (f : Nat → Int32) (x : Int64) (hz : p2.toInt ≤ z.toInt) :
    ∀ (fuel : Nat) (T0 : State) (h : Heap) (locs : List Loc) (ac : Int64) (j : Int32) (i : Int32) (s7 : Slot) (s8 : Slot) (X0 : Stand p l e R s m args below meth c T0 locs cells slots) (e0 : T0.heap = h) (N0 : Fr n0 locs) (Z0 : n0 ≤ h.size) (V0 : own_ArI Z h a0r .byte z f) (hj : 0 ≤ j.toInt) (hi : i.toInt + fuel = 4) (hf4 : fuel ≤ 4) (hac : ac.toInt = (own_u x % 4294967296 / 256 ^ fuel : Nat)) (htl : own_tl x f fuel j.toInt.toNat p2.toInt.toNat) (h7 : own_One s7) (h8 : own_One s8),
    (∀ (T' : State) (h' : Heap) (locs' : List Loc) (ac' : Int64) (j' : Int32) (i' : Int32) (s7' : Slot) (s8' : Slot), Stand p l e R s m args below meth c T' locs' cells slots → T'.heap = h' → Fr n0 locs' → n0 ≤ h'.size → h' = h → own_ArI Z h' a0r .byte z f → (j'.toInt.toNat = p2.toInt.toNat ∧ ac'.toInt = (own_u x % 4294967296 : Nat) ∧ 0 ≤ j'.toInt) → ∃ s₂ o, Steps p.tables e below (T'.setTop (mkF m 136 #[.val (.ref a0r), .val (.int p1), .val (.int p2), .val (.long ac'), .second, .val (.int j'), .val (.int i'), s7', s8'] [])) s₂ ∧ G s₂ o) →
    ∃ s₂ o, Steps p.tables e below (T0.setTop (mkF m 8 #[.val (.ref a0r), .val (.int p1), .val (.int p2), .val (.long ac), .second, .val (.int j), .val (.int i), s7, s8] [])) s₂ ∧ G s₂ o := by
  intro fuel
  induction fuel using Nat.strongRecOn with
  | ind fuel ih =>
  intro T0 h locs ac j i s7 s8 X0 e0 N0 Z0 V0 hj hi hf4 hac htl h7 h8 kx
  refine own_go (T' := T0) (f' := (mkF m 11 #[.val (.ref a0r), .val (.int p1), .val (.int p2), .val (.long ac), .second, .val (.int j), .val (.int i), s7, s8] [(.int (4 : Int32)), (.int i)])) (fun t k => ?_) ?_
  · show Steps p.tables e below (T0.setTop (mkF m 8 #[.val (.ref a0r), .val (.int p1), .val (.int p2), .val (.long ac), .second, .val (.int j), .val (.int i), s7, s8] [])) _
    refine XS.iload X0.here hx rfl (hb hby own_d4_8) rfl ?_
    show Steps p.tables e below (T0.setTop (mkF m 10 #[.val (.ref a0r), .val (.int p1), .val (.int p2), .val (.long ac), .second, .val (.int j), .val (.int i), s7, s8] [(.int i)])) _
    refine XS.iconst X0.here hx rfl (hb hby own_d4_10) ?_
    show Steps p.tables e below (T0.setTop (mkF m 11 #[.val (.ref a0r), .val (.int p1), .val (.int p2), .val (.long ac), .second, .val (.int j), .val (.int i), s7, s8] [(.int (4 : Int32)), (.int i)])) _
    exact k
  by_cases hc11_1 : i < (4 : Int32)
  · skip
    refine own_go (T' := T0) (f' := (mkF m 14 #[.val (.ref a0r), .val (.int p1), .val (.int p2), .val (.long ac), .second, .val (.int j), .val (.int i), s7, s8] [])) (fun t k => ?_) ?_
    · show Steps p.tables e below (T0.setTop (mkF m 11 #[.val (.ref a0r), .val (.int p1), .val (.int p2), .val (.long ac), .second, .val (.int j), .val (.int i), s7, s8] [(.int (4 : Int32)), (.int i)])) _
      refine XS.icmpNo X0.here hx rfl (hb hby own_d4_11) rfl (tlt hc11_1).2.1 ?_
      show Steps p.tables e below (T0.setTop (mkF m 14 #[.val (.ref a0r), .val (.int p1), .val (.int p2), .val (.long ac), .second, .val (.int j), .val (.int i), s7, s8] [])) _
      exact k
    have hi4 : i.toInt < 4 := by have q := hc11_1; rw [Int32.lt_iff_toInt_lt] at q; exact q
    have zr := rng32 z
    refine own_go (T' := T0) (f' := (mkF m 16 #[.val (.ref a0r), .val (.int p1), .val (.int p2), .val (.long ac), .second, .val (.int j), .val (.int i), s7, s8] [(.int i)])) (fun t k => ?_) ?_
    · show Steps p.tables e below (T0.setTop (mkF m 14 #[.val (.ref a0r), .val (.int p1), .val (.int p2), .val (.long ac), .second, .val (.int j), .val (.int i), s7, s8] [])) _
      refine XS.iload X0.here hx rfl (hb hby own_d4_14) rfl ?_
      show Steps p.tables e below (T0.setTop (mkF m 16 #[.val (.ref a0r), .val (.int p1), .val (.int p2), .val (.long ac), .second, .val (.int j), .val (.int i), s7, s8] [(.int i)])) _
      exact k
    by_cases hc16_2 : (0 : Int32) < i
    · skip
      refine own_go (T' := T0) (f' := (mkF m 22 #[.val (.ref a0r), .val (.int p1), .val (.int p2), .val (.long ac), .second, .val (.int j), .val (.int i), s7, s8] [(.int p2), (.int j)])) (fun t k => ?_) ?_
      · show Steps p.tables e below (T0.setTop (mkF m 16 #[.val (.ref a0r), .val (.int p1), .val (.int p2), .val (.long ac), .second, .val (.int j), .val (.int i), s7, s8] [(.int i)])) _
        refine XS.ifNo X0.here hx rfl (hb hby own_d4_16) rfl ((if0 _ _).trans (tlt hc16_2).2.2.2) ?_
        show Steps p.tables e below (T0.setTop (mkF m 19 #[.val (.ref a0r), .val (.int p1), .val (.int p2), .val (.long ac), .second, .val (.int j), .val (.int i), s7, s8] [])) _
        refine XS.iload X0.here hx rfl (hb hby own_d4_19) rfl ?_
        show Steps p.tables e below (T0.setTop (mkF m 21 #[.val (.ref a0r), .val (.int p1), .val (.int p2), .val (.long ac), .second, .val (.int j), .val (.int i), s7, s8] [(.int j)])) _
        refine XS.iloadN X0.here hx rfl (hb hby own_d4_21) rfl ?_
        show Steps p.tables e below (T0.setTop (mkF m 22 #[.val (.ref a0r), .val (.int p1), .val (.int p2), .val (.long ac), .second, .val (.int j), .val (.int i), s7, s8] [(.int p2), (.int j)])) _
        exact k
      have hi1 : 0 < i.toInt := by have q := hc16_2; rw [Int32.lt_iff_toInt_lt] at q; exact q
      obtain ⟨hdot, htx⟩ : (f j.toInt.toNat).toInt = 46 ∧ own_txt x f fuel (j.toInt.toNat + 1) p2.toInt.toNat := by
        rcases htl with q | q | q
        · omega
        · exact ⟨q.2.2.1, q.2.2.2⟩
        · omega
      have hge := own_txt_ge htx
      have hj1 : (j + (1 : Int32)).toInt = j.toInt + 1 := own_inc (by omega)
      refine own_go (T' := T0) (f' := (mkF m 41 #[.val (.ref a0r), .val (.int p1), .val (.int p2), .val (.long ac), .second, .val (.int (j + (1 : Int32))), .val (.int i), s7, s8] [])) (fun t k => ?_) ?_
      · show Steps p.tables e below (T0.setTop (mkF m 22 #[.val (.ref a0r), .val (.int p1), .val (.int p2), .val (.long ac), .second, .val (.int j), .val (.int i), s7, s8] [(.int p2), (.int j)])) _
        refine XS.icmpNo X0.here hx rfl (hb hby own_d4_22) rfl (feq (by intro q; rw [q] at hge; omega)).1 ?_
        show Steps p.tables e below (T0.setTop (mkF m 25 #[.val (.ref a0r), .val (.int p1), .val (.int p2), .val (.long ac), .second, .val (.int j), .val (.int i), s7, s8] [])) _
        refine XS.aloadN X0.here hx rfl (hb hby own_d4_25) rfl rfl ?_
        show Steps p.tables e below (T0.setTop (mkF m 26 #[.val (.ref a0r), .val (.int p1), .val (.int p2), .val (.long ac), .second, .val (.int j), .val (.int i), s7, s8] [(.ref a0r)])) _
        refine XS.iload X0.here hx rfl (hb hby own_d4_26) rfl ?_
        show Steps p.tables e below (T0.setTop (mkF m 28 #[.val (.ref a0r), .val (.int p1), .val (.int p2), .val (.long ac), .second, .val (.int j), .val (.int i), s7, s8] [(.int j), (.ref a0r)])) _
        refine own_ldB X0 hx hZ e0 V0 (j := j) hj (by omega) (g := (mkF m 28 #[.val (.ref a0r), .val (.int p1), .val (.int p2), .val (.long ac), .second, .val (.int j), .val (.int i), s7, s8] [(.int j), (.ref a0r)])) rfl rfl (hb hby own_d4_28) _ ?_
        show Steps p.tables e below (T0.setTop (mkF m 29 #[.val (.ref a0r), .val (.int p1), .val (.int p2), .val (.long ac), .second, .val (.int j), .val (.int i), s7, s8] [(.int (f j.toInt.toNat))])) _
        refine XS.bipush X0.here hx rfl (hb hby own_d4_29) ?_
        show Steps p.tables e below (T0.setTop (mkF m 31 #[.val (.ref a0r), .val (.int p1), .val (.int p2), .val (.long ac), .second, .val (.int j), .val (.int i), s7, s8] [(.int (46 : Int32)), (.int (f j.toInt.toNat))])) _
        refine XS.icmpYes X0.here hx rfl (pc0 := 31) (pc' := 38) rfl (hb hby own_d4_31) rfl (teq (Int32.toInt_inj.mp (by rw [hdot]; rfl))).1 (by decide) (by decide) ?_
        show Steps p.tables e below (T0.setTop (mkF m 38 #[.val (.ref a0r), .val (.int p1), .val (.int p2), .val (.long ac), .second, .val (.int j), .val (.int i), s7, s8] [])) _
        refine XS.iinc X0.here hx rfl (hb hby own_d4_38) rfl (l' := #[.val (.ref a0r), .val (.int p1), .val (.int p2), .val (.long ac), .second, .val (.int (j + (1 : Int32))), .val (.int i), s7, s8]) rfl ?_
        show Steps p.tables e below (T0.setTop (mkF m 41 #[.val (.ref a0r), .val (.int p1), .val (.int p2), .val (.long ac), .second, .val (.int (j + (1 : Int32))), .val (.int i), s7, s8] [])) _
        exact k
      have hs0 : 0 ≤ (j + (1 : Int32)).toInt := by omega
      rw [show j.toInt.toNat + 1 = (j + (1 : Int32)).toInt.toNat by omega] at htx
      obtain ⟨hnum, hle, hend, htl'⟩ := own_txt_next (by omega) hf4 htx
      have hO2 := own_oct_lt x (fuel - 1)
      have dr := own_D_rng (own_oct x (fuel - 1))
      refine own_go (T' := T0) (f' := (mkF m 48 #[.val (.ref a0r), .val (.int p1), .val (.int p2), .val (.long ac), .second, .val (.int (j + (1 : Int32))), .val (.int i), .val (.int (j + (1 : Int32))), .val (.int (0 : Int32))] [])) (fun t k => ?_) ?_
      · show Steps p.tables e below (T0.setTop (mkF m 41 #[.val (.ref a0r), .val (.int p1), .val (.int p2), .val (.long ac), .second, .val (.int (j + (1 : Int32))), .val (.int i), s7, s8] [])) _
        refine XS.iload X0.here hx rfl (hb hby own_d4_41) rfl ?_
        show Steps p.tables e below (T0.setTop (mkF m 43 #[.val (.ref a0r), .val (.int p1), .val (.int p2), .val (.long ac), .second, .val (.int (j + (1 : Int32))), .val (.int i), s7, s8] [(.int (j + (1 : Int32)))])) _
        refine XS.istoreS X0.here hx rfl (hb hby own_d4_43) rfl rfl h7 ?_
        show Steps p.tables e below (T0.setTop (mkF m 45 #[.val (.ref a0r), .val (.int p1), .val (.int p2), .val (.long ac), .second, .val (.int (j + (1 : Int32))), .val (.int i), .val (.int (j + (1 : Int32))), s8] [])) _
        refine XS.iconst X0.here hx rfl (hb hby own_d4_45) ?_
        show Steps p.tables e below (T0.setTop (mkF m 46 #[.val (.ref a0r), .val (.int p1), .val (.int p2), .val (.long ac), .second, .val (.int (j + (1 : Int32))), .val (.int i), .val (.int (j + (1 : Int32))), s8] [(.int (0 : Int32))])) _
        refine XS.istoreS X0.here hx rfl (hb hby own_d4_46) rfl rfl h8 ?_
        show Steps p.tables e below (T0.setTop (mkF m 48 #[.val (.ref a0r), .val (.int p1), .val (.int p2), .val (.long ac), .second, .val (.int (j + (1 : Int32))), .val (.int i), .val (.int (j + (1 : Int32))), .val (.int (0 : Int32))] [])) _
        exact k
      refine own_lp4i hx hZ hw hby hml hown a0r p1 p2 z f ac i ((j + (1 : Int32))) (own_oct x (fuel - 1))  hs0 hz hnum hO2 (by omega) (hend.imp (fun q => by omega) id) (own_D (own_oct x (fuel - 1))) _ _ _ ((j + (1 : Int32))) ((0 : Int32)) X0 e0 N0 Z0 V0 (Nat.le_refl _) rfl (Int.le_refl _) (by rw [own_digits_end hO2]; rfl) ?_
      intro T3 h3 lo3 j'_3 nu'_3 X3 e3 N3 Zs3 hh3 V3_0 sp3
      have hh3' := hh3.symm
      subst hh3'
      obtain ⟨hjx, hnx⟩ := sp3
      refine own_go (T' := T3) (f' := (mkF m 8 #[.val (.ref a0r), .val (.int p1), .val (.int p2), .val (.long ((ac <<< ((8 : Int32) &&& 0x3f).toInt64) ||| (nu'_3.toInt64))), .second, .val (.int j'_3), .val (.int (i + (1 : Int32))), .val (.int (j + (1 : Int32))), .val (.int nu'_3)] [])) (fun t k => ?_) ?_
      · show Steps p.tables e below (T3.setTop (mkF m 102 #[.val (.ref a0r), .val (.int p1), .val (.int p2), .val (.long ac), .second, .val (.int j'_3), .val (.int i), .val (.int (j + (1 : Int32))), .val (.int nu'_3)] [])) _
        refine XS.iload X3.here hx rfl (hb hby own_d4_102) rfl ?_
        show Steps p.tables e below (T3.setTop (mkF m 104 #[.val (.ref a0r), .val (.int p1), .val (.int p2), .val (.long ac), .second, .val (.int j'_3), .val (.int i), .val (.int (j + (1 : Int32))), .val (.int nu'_3)] [(.int j'_3)])) _
        refine XS.iload X3.here hx rfl (hb hby own_d4_104) rfl ?_
        show Steps p.tables e below (T3.setTop (mkF m 106 #[.val (.ref a0r), .val (.int p1), .val (.int p2), .val (.long ac), .second, .val (.int j'_3), .val (.int i), .val (.int (j + (1 : Int32))), .val (.int nu'_3)] [(.int (j + (1 : Int32))), (.int j'_3)])) _
        refine XS.icmpNo X3.here hx rfl (hb hby own_d4_106) rfl (feq (by intro q; rw [q] at hjx; omega)).1 ?_
        show Steps p.tables e below (T3.setTop (mkF m 109 #[.val (.ref a0r), .val (.int p1), .val (.int p2), .val (.long ac), .second, .val (.int j'_3), .val (.int i), .val (.int (j + (1 : Int32))), .val (.int nu'_3)] [])) _
        refine XS.iload X3.here hx rfl (hb hby own_d4_109) rfl ?_
        show Steps p.tables e below (T3.setTop (mkF m 111 #[.val (.ref a0r), .val (.int p1), .val (.int p2), .val (.long ac), .second, .val (.int j'_3), .val (.int i), .val (.int (j + (1 : Int32))), .val (.int nu'_3)] [(.int nu'_3)])) _
        refine XS.sipush X3.here hx rfl (hb hby own_d4_111) ?_
        show Steps p.tables e below (T3.setTop (mkF m 114 #[.val (.ref a0r), .val (.int p1), .val (.int p2), .val (.long ac), .second, .val (.int j'_3), .val (.int i), .val (.int (j + (1 : Int32))), .val (.int nu'_3)] [(.int (255 : Int32)), (.int nu'_3)])) _
        refine XS.icmpYes X3.here hx rfl (pc0 := 114) (pc' := 121) rfl (hb hby own_d4_114) rfl (flt (by rw [Int32.lt_iff_toInt_lt]; have e : (255 : Int32).toInt = 255 := rfl; omega)).2.2.2 (by decide) (by decide) ?_
        show Steps p.tables e below (T3.setTop (mkF m 121 #[.val (.ref a0r), .val (.int p1), .val (.int p2), .val (.long ac), .second, .val (.int j'_3), .val (.int i), .val (.int (j + (1 : Int32))), .val (.int nu'_3)] [])) _
        refine XS.lloadN X3.here hx rfl (hb hby own_d4_121) rfl ?_
        show Steps p.tables e below (T3.setTop (mkF m 122 #[.val (.ref a0r), .val (.int p1), .val (.int p2), .val (.long ac), .second, .val (.int j'_3), .val (.int i), .val (.int (j + (1 : Int32))), .val (.int nu'_3)] [(.long ac)])) _
        refine XS.bipush X3.here hx rfl (hb hby own_d4_122) ?_
        show Steps p.tables e below (T3.setTop (mkF m 124 #[.val (.ref a0r), .val (.int p1), .val (.int p2), .val (.long ac), .second, .val (.int j'_3), .val (.int i), .val (.int (j + (1 : Int32))), .val (.int nu'_3)] [(.int (8 : Int32)), (.long ac)])) _
        refine XS.lshl X3.here hx rfl (hb hby own_d4_124) rfl ?_
        show Steps p.tables e below (T3.setTop (mkF m 125 #[.val (.ref a0r), .val (.int p1), .val (.int p2), .val (.long ac), .second, .val (.int j'_3), .val (.int i), .val (.int (j + (1 : Int32))), .val (.int nu'_3)] [(.long (ac <<< ((8 : Int32) &&& 0x3f).toInt64))])) _
        refine XS.iload X3.here hx rfl (hb hby own_d4_125) rfl ?_
        show Steps p.tables e below (T3.setTop (mkF m 127 #[.val (.ref a0r), .val (.int p1), .val (.int p2), .val (.long ac), .second, .val (.int j'_3), .val (.int i), .val (.int (j + (1 : Int32))), .val (.int nu'_3)] [(.int nu'_3), (.long (ac <<< ((8 : Int32) &&& 0x3f).toInt64))])) _
        refine XS.i2l X3.here hx rfl (hb hby own_d4_127) rfl ?_
        show Steps p.tables e below (T3.setTop (mkF m 128 #[.val (.ref a0r), .val (.int p1), .val (.int p2), .val (.long ac), .second, .val (.int j'_3), .val (.int i), .val (.int (j + (1 : Int32))), .val (.int nu'_3)] [(.long (nu'_3.toInt64)), (.long (ac <<< ((8 : Int32) &&& 0x3f).toInt64))])) _
        refine XS.lor X3.here hx rfl (hb hby own_d4_128) rfl ?_
        show Steps p.tables e below (T3.setTop (mkF m 129 #[.val (.ref a0r), .val (.int p1), .val (.int p2), .val (.long ac), .second, .val (.int j'_3), .val (.int i), .val (.int (j + (1 : Int32))), .val (.int nu'_3)] [(.long ((ac <<< ((8 : Int32) &&& 0x3f).toInt64) ||| (nu'_3.toInt64)))])) _
        refine XS.lstoreN X3.here hx rfl (hb hby own_d4_129) rfl (l' := #[.val (.ref a0r), .val (.int p1), .val (.int p2), .val (.long ((ac <<< ((8 : Int32) &&& 0x3f).toInt64) ||| (nu'_3.toInt64))), .second, .val (.int j'_3), .val (.int i), .val (.int (j + (1 : Int32))), .val (.int nu'_3)]) rfl ?_
        show Steps p.tables e below (T3.setTop (mkF m 130 #[.val (.ref a0r), .val (.int p1), .val (.int p2), .val (.long ((ac <<< ((8 : Int32) &&& 0x3f).toInt64) ||| (nu'_3.toInt64))), .second, .val (.int j'_3), .val (.int i), .val (.int (j + (1 : Int32))), .val (.int nu'_3)] [])) _
        refine XS.iinc X3.here hx rfl (hb hby own_d4_130) rfl (l' := #[.val (.ref a0r), .val (.int p1), .val (.int p2), .val (.long ((ac <<< ((8 : Int32) &&& 0x3f).toInt64) ||| (nu'_3.toInt64))), .second, .val (.int j'_3), .val (.int (i + (1 : Int32))), .val (.int (j + (1 : Int32))), .val (.int nu'_3)]) rfl ?_
        show Steps p.tables e below (T3.setTop (mkF m 133 #[.val (.ref a0r), .val (.int p1), .val (.int p2), .val (.long ((ac <<< ((8 : Int32) &&& 0x3f).toInt64) ||| (nu'_3.toInt64))), .second, .val (.int j'_3), .val (.int (i + (1 : Int32))), .val (.int (j + (1 : Int32))), .val (.int nu'_3)] [])) _
        refine XS.goto X3.here hx rfl (pc0 := 133) (pc' := 8) rfl (hb hby own_d4_133) (by decide) (by decide) ?_
        show Steps p.tables e below (T3.setTop (mkF m 8 #[.val (.ref a0r), .val (.int p1), .val (.int p2), .val (.long ((ac <<< ((8 : Int32) &&& 0x3f).toInt64) ||| (nu'_3.toInt64))), .second, .val (.int j'_3), .val (.int (i + (1 : Int32))), .val (.int (j + (1 : Int32))), .val (.int nu'_3)] [])) _
        exact k
      have hi' : (i + (1 : Int32)).toInt = i.toInt + 1 := own_inc (by omega)
      have hA : own_u x % 4294967296 / 256 ^ fuel < 16777216 := by
        have q : fuel = 1 ∨ fuel = 2 ∨ fuel = 3 ∨ fuel = 4 := by omega
        rcases q with rfl | rfl | rfl | rfl <;> omega
      have hacc := own_acc hac hA hnx hO2
      have hacc' : own_u x % 4294967296 / 256 ^ (fuel - 1) = own_u x % 4294967296 / 256 ^ fuel * 256 + own_oct x (fuel - 1) := by
        unfold own_oct
        have q : fuel = 1 ∨ fuel = 2 ∨ fuel = 3 ∨ fuel = 4 := by omega
        rcases q with rfl | rfl | rfl | rfl <;> simp <;> omega
      refine ih (fuel - 1) (by omega) _ _ _ (((ac <<< ((8 : Int32) &&& 0x3f).toInt64) ||| (nu'_3.toInt64))) j'_3 ((i + (1 : Int32))) (.val (.int (j + (1 : Int32)))) (.val (.int nu'_3)) X3 e3 N3 Zs3 V3_0 (by omega) (by omega) (by omega) (by rw [hacc, hacc']; rfl) (by rw [show j'_3.toInt.toNat = (j + (1 : Int32)).toInt.toNat + own_D (own_oct x (fuel - 1)) by omega]; exact htl') (Or.inr ⟨_, rfl, rfl⟩) (Or.inr ⟨_, rfl, rfl⟩) (fun T' h' locs' ac' j' i' s7' s8' X' e' N' Z' hh' V0' sp => ?_)
      exact kx T' h' locs' ac' j' i' s7' s8' X' e' N' Z' hh' V0' (id sp)
    · skip
      refine own_go (T' := T0) (f' := (mkF m 41 #[.val (.ref a0r), .val (.int p1), .val (.int p2), .val (.long ac), .second, .val (.int j), .val (.int i), s7, s8] [])) (fun t k => ?_) ?_
      · show Steps p.tables e below (T0.setTop (mkF m 16 #[.val (.ref a0r), .val (.int p1), .val (.int p2), .val (.long ac), .second, .val (.int j), .val (.int i), s7, s8] [(.int i)])) _
        refine XS.ifYes X0.here hx rfl (pc0 := 16) (pc' := 41) rfl (hb hby own_d4_16) rfl ((if0 _ _).trans (flt hc16_2).2.2.2) (by decide) (by decide) ?_
        show Steps p.tables e below (T0.setTop (mkF m 41 #[.val (.ref a0r), .val (.int p1), .val (.int p2), .val (.long ac), .second, .val (.int j), .val (.int i), s7, s8] [])) _
        exact k
      have hi1 : ¬ 0 < i.toInt := by have q := hc16_2; rw [Int32.lt_iff_toInt_lt] at q; exact q
      have hs0 : 0 ≤ j.toInt := hj
      have hf4' : fuel = 4 := by omega
      have htx : own_txt x f fuel j.toInt.toNat p2.toInt.toNat := by
        rcases htl with q | q | q
        · rw [hf4']; exact q.2
        · omega
        · omega
      obtain ⟨hnum, hle, hend, htl'⟩ := own_txt_next (by omega) hf4 htx
      have hO2 := own_oct_lt x (fuel - 1)
      have dr := own_D_rng (own_oct x (fuel - 1))
      refine own_go (T' := T0) (f' := (mkF m 48 #[.val (.ref a0r), .val (.int p1), .val (.int p2), .val (.long ac), .second, .val (.int j), .val (.int i), .val (.int j), .val (.int (0 : Int32))] [])) (fun t k => ?_) ?_
      · show Steps p.tables e below (T0.setTop (mkF m 41 #[.val (.ref a0r), .val (.int p1), .val (.int p2), .val (.long ac), .second, .val (.int j), .val (.int i), s7, s8] [])) _
        refine XS.iload X0.here hx rfl (hb hby own_d4_41) rfl ?_
        show Steps p.tables e below (T0.setTop (mkF m 43 #[.val (.ref a0r), .val (.int p1), .val (.int p2), .val (.long ac), .second, .val (.int j), .val (.int i), s7, s8] [(.int j)])) _
        refine XS.istoreS X0.here hx rfl (hb hby own_d4_43) rfl rfl h7 ?_
        show Steps p.tables e below (T0.setTop (mkF m 45 #[.val (.ref a0r), .val (.int p1), .val (.int p2), .val (.long ac), .second, .val (.int j), .val (.int i), .val (.int j), s8] [])) _
        refine XS.iconst X0.here hx rfl (hb hby own_d4_45) ?_
        show Steps p.tables e below (T0.setTop (mkF m 46 #[.val (.ref a0r), .val (.int p1), .val (.int p2), .val (.long ac), .second, .val (.int j), .val (.int i), .val (.int j), s8] [(.int (0 : Int32))])) _
        refine XS.istoreS X0.here hx rfl (hb hby own_d4_46) rfl rfl h8 ?_
        show Steps p.tables e below (T0.setTop (mkF m 48 #[.val (.ref a0r), .val (.int p1), .val (.int p2), .val (.long ac), .second, .val (.int j), .val (.int i), .val (.int j), .val (.int (0 : Int32))] [])) _
        exact k
      refine own_lp4i hx hZ hw hby hml hown a0r p1 p2 z f ac i j (own_oct x (fuel - 1))  hs0 hz hnum hO2 (by omega) (hend.imp (fun q => by omega) id) (own_D (own_oct x (fuel - 1))) _ _ _ j ((0 : Int32)) X0 e0 N0 Z0 V0 (Nat.le_refl _) rfl (Int.le_refl _) (by rw [own_digits_end hO2]; rfl) ?_
      intro T4 h4 lo4 j'_4 nu'_4 X4 e4 N4 Zs4 hh4 V4_0 sp4
      have hh4' := hh4.symm
      subst hh4'
      obtain ⟨hjx, hnx⟩ := sp4
      refine own_go (T' := T4) (f' := (mkF m 8 #[.val (.ref a0r), .val (.int p1), .val (.int p2), .val (.long ((ac <<< ((8 : Int32) &&& 0x3f).toInt64) ||| (nu'_4.toInt64))), .second, .val (.int j'_4), .val (.int (i + (1 : Int32))), .val (.int j), .val (.int nu'_4)] [])) (fun t k => ?_) ?_
      · show Steps p.tables e below (T4.setTop (mkF m 102 #[.val (.ref a0r), .val (.int p1), .val (.int p2), .val (.long ac), .second, .val (.int j'_4), .val (.int i), .val (.int j), .val (.int nu'_4)] [])) _
        refine XS.iload X4.here hx rfl (hb hby own_d4_102) rfl ?_
        show Steps p.tables e below (T4.setTop (mkF m 104 #[.val (.ref a0r), .val (.int p1), .val (.int p2), .val (.long ac), .second, .val (.int j'_4), .val (.int i), .val (.int j), .val (.int nu'_4)] [(.int j'_4)])) _
        refine XS.iload X4.here hx rfl (hb hby own_d4_104) rfl ?_
        show Steps p.tables e below (T4.setTop (mkF m 106 #[.val (.ref a0r), .val (.int p1), .val (.int p2), .val (.long ac), .second, .val (.int j'_4), .val (.int i), .val (.int j), .val (.int nu'_4)] [(.int j), (.int j'_4)])) _
        refine XS.icmpNo X4.here hx rfl (hb hby own_d4_106) rfl (feq (by intro q; rw [q] at hjx; omega)).1 ?_
        show Steps p.tables e below (T4.setTop (mkF m 109 #[.val (.ref a0r), .val (.int p1), .val (.int p2), .val (.long ac), .second, .val (.int j'_4), .val (.int i), .val (.int j), .val (.int nu'_4)] [])) _
        refine XS.iload X4.here hx rfl (hb hby own_d4_109) rfl ?_
        show Steps p.tables e below (T4.setTop (mkF m 111 #[.val (.ref a0r), .val (.int p1), .val (.int p2), .val (.long ac), .second, .val (.int j'_4), .val (.int i), .val (.int j), .val (.int nu'_4)] [(.int nu'_4)])) _
        refine XS.sipush X4.here hx rfl (hb hby own_d4_111) ?_
        show Steps p.tables e below (T4.setTop (mkF m 114 #[.val (.ref a0r), .val (.int p1), .val (.int p2), .val (.long ac), .second, .val (.int j'_4), .val (.int i), .val (.int j), .val (.int nu'_4)] [(.int (255 : Int32)), (.int nu'_4)])) _
        refine XS.icmpYes X4.here hx rfl (pc0 := 114) (pc' := 121) rfl (hb hby own_d4_114) rfl (flt (by rw [Int32.lt_iff_toInt_lt]; have e : (255 : Int32).toInt = 255 := rfl; omega)).2.2.2 (by decide) (by decide) ?_
        show Steps p.tables e below (T4.setTop (mkF m 121 #[.val (.ref a0r), .val (.int p1), .val (.int p2), .val (.long ac), .second, .val (.int j'_4), .val (.int i), .val (.int j), .val (.int nu'_4)] [])) _
        refine XS.lloadN X4.here hx rfl (hb hby own_d4_121) rfl ?_
        show Steps p.tables e below (T4.setTop (mkF m 122 #[.val (.ref a0r), .val (.int p1), .val (.int p2), .val (.long ac), .second, .val (.int j'_4), .val (.int i), .val (.int j), .val (.int nu'_4)] [(.long ac)])) _
        refine XS.bipush X4.here hx rfl (hb hby own_d4_122) ?_
        show Steps p.tables e below (T4.setTop (mkF m 124 #[.val (.ref a0r), .val (.int p1), .val (.int p2), .val (.long ac), .second, .val (.int j'_4), .val (.int i), .val (.int j), .val (.int nu'_4)] [(.int (8 : Int32)), (.long ac)])) _
        refine XS.lshl X4.here hx rfl (hb hby own_d4_124) rfl ?_
        show Steps p.tables e below (T4.setTop (mkF m 125 #[.val (.ref a0r), .val (.int p1), .val (.int p2), .val (.long ac), .second, .val (.int j'_4), .val (.int i), .val (.int j), .val (.int nu'_4)] [(.long (ac <<< ((8 : Int32) &&& 0x3f).toInt64))])) _
        refine XS.iload X4.here hx rfl (hb hby own_d4_125) rfl ?_
        show Steps p.tables e below (T4.setTop (mkF m 127 #[.val (.ref a0r), .val (.int p1), .val (.int p2), .val (.long ac), .second, .val (.int j'_4), .val (.int i), .val (.int j), .val (.int nu'_4)] [(.int nu'_4), (.long (ac <<< ((8 : Int32) &&& 0x3f).toInt64))])) _
        refine XS.i2l X4.here hx rfl (hb hby own_d4_127) rfl ?_
        show Steps p.tables e below (T4.setTop (mkF m 128 #[.val (.ref a0r), .val (.int p1), .val (.int p2), .val (.long ac), .second, .val (.int j'_4), .val (.int i), .val (.int j), .val (.int nu'_4)] [(.long (nu'_4.toInt64)), (.long (ac <<< ((8 : Int32) &&& 0x3f).toInt64))])) _
        refine XS.lor X4.here hx rfl (hb hby own_d4_128) rfl ?_
        show Steps p.tables e below (T4.setTop (mkF m 129 #[.val (.ref a0r), .val (.int p1), .val (.int p2), .val (.long ac), .second, .val (.int j'_4), .val (.int i), .val (.int j), .val (.int nu'_4)] [(.long ((ac <<< ((8 : Int32) &&& 0x3f).toInt64) ||| (nu'_4.toInt64)))])) _
        refine XS.lstoreN X4.here hx rfl (hb hby own_d4_129) rfl (l' := #[.val (.ref a0r), .val (.int p1), .val (.int p2), .val (.long ((ac <<< ((8 : Int32) &&& 0x3f).toInt64) ||| (nu'_4.toInt64))), .second, .val (.int j'_4), .val (.int i), .val (.int j), .val (.int nu'_4)]) rfl ?_
        show Steps p.tables e below (T4.setTop (mkF m 130 #[.val (.ref a0r), .val (.int p1), .val (.int p2), .val (.long ((ac <<< ((8 : Int32) &&& 0x3f).toInt64) ||| (nu'_4.toInt64))), .second, .val (.int j'_4), .val (.int i), .val (.int j), .val (.int nu'_4)] [])) _
        refine XS.iinc X4.here hx rfl (hb hby own_d4_130) rfl (l' := #[.val (.ref a0r), .val (.int p1), .val (.int p2), .val (.long ((ac <<< ((8 : Int32) &&& 0x3f).toInt64) ||| (nu'_4.toInt64))), .second, .val (.int j'_4), .val (.int (i + (1 : Int32))), .val (.int j), .val (.int nu'_4)]) rfl ?_
        show Steps p.tables e below (T4.setTop (mkF m 133 #[.val (.ref a0r), .val (.int p1), .val (.int p2), .val (.long ((ac <<< ((8 : Int32) &&& 0x3f).toInt64) ||| (nu'_4.toInt64))), .second, .val (.int j'_4), .val (.int (i + (1 : Int32))), .val (.int j), .val (.int nu'_4)] [])) _
        refine XS.goto X4.here hx rfl (pc0 := 133) (pc' := 8) rfl (hb hby own_d4_133) (by decide) (by decide) ?_
        show Steps p.tables e below (T4.setTop (mkF m 8 #[.val (.ref a0r), .val (.int p1), .val (.int p2), .val (.long ((ac <<< ((8 : Int32) &&& 0x3f).toInt64) ||| (nu'_4.toInt64))), .second, .val (.int j'_4), .val (.int (i + (1 : Int32))), .val (.int j), .val (.int nu'_4)] [])) _
        exact k
      have hi' : (i + (1 : Int32)).toInt = i.toInt + 1 := own_inc (by omega)
      have hA : own_u x % 4294967296 / 256 ^ fuel < 16777216 := by
        have q : fuel = 1 ∨ fuel = 2 ∨ fuel = 3 ∨ fuel = 4 := by omega
        rcases q with rfl | rfl | rfl | rfl <;> omega
      have hacc := own_acc hac hA hnx hO2
      have hacc' : own_u x % 4294967296 / 256 ^ (fuel - 1) = own_u x % 4294967296 / 256 ^ fuel * 256 + own_oct x (fuel - 1) := by
        unfold own_oct
        have q : fuel = 1 ∨ fuel = 2 ∨ fuel = 3 ∨ fuel = 4 := by omega
        rcases q with rfl | rfl | rfl | rfl <;> simp <;> omega
      refine ih (fuel - 1) (by omega) _ _ _ (((ac <<< ((8 : Int32) &&& 0x3f).toInt64) ||| (nu'_4.toInt64))) j'_4 ((i + (1 : Int32))) (.val (.int j)) (.val (.int nu'_4)) X4 e4 N4 Zs4 V4_0 (by omega) (by omega) (by omega) (by rw [hacc, hacc']; rfl) (by rw [show j'_4.toInt.toNat = j.toInt.toNat + own_D (own_oct x (fuel - 1)) by omega]; exact htl') (Or.inr ⟨_, rfl, rfl⟩) (Or.inr ⟨_, rfl, rfl⟩) (fun T' h' locs' ac' j' i' s7' s8' X' e' N' Z' hh' V0' sp => ?_)
      exact kx T' h' locs' ac' j' i' s7' s8' X' e' N' Z' hh' V0' (id sp)
  · skip
    refine own_go (T' := T0) (f' := (mkF m 136 #[.val (.ref a0r), .val (.int p1), .val (.int p2), .val (.long ac), .second, .val (.int j), .val (.int i), s7, s8] [])) (fun t k => ?_) ?_
    · show Steps p.tables e below (T0.setTop (mkF m 11 #[.val (.ref a0r), .val (.int p1), .val (.int p2), .val (.long ac), .second, .val (.int j), .val (.int i), s7, s8] [(.int (4 : Int32)), (.int i)])) _
      refine XS.icmpYes X0.here hx rfl (pc0 := 11) (pc' := 136) rfl (hb hby own_d4_11) rfl (flt hc11_1).2.1 (by decide) (by decide) ?_
      show Steps p.tables e below (T0.setTop (mkF m 136 #[.val (.ref a0r), .val (.int p1), .val (.int p2), .val (.long ac), .second, .val (.int j), .val (.int i), s7, s8] [])) _
      exact k
    have hf0 : fuel = 0 := by have q := hc11_1; rw [Int32.lt_iff_toInt_lt] at q; have e4 : (4 : Int32).toInt = 4 := rfl; omega
    subst hf0
    exact kx _ _ _ ac j i s7 s8 X0 e0 N0 Z0 rfl V0 ⟨by rcases htl with q | q | q <;> omega, by simpa using hac, hj⟩
theorem own_d4_0 : decode prog_39_method_2_code 0 = .ok (.lconst 0, 1) := by decide +kernel
theorem own_d4_1 : decode prog_39_method_2_code 1 = .ok (.lstore_n 3, 1) := by decide +kernel
theorem own_d4_2 : decode prog_39_method_2_code 2 = .ok (.iload_n 1, 1) := by decide +kernel
theorem own_d4_3 : decode prog_39_method_2_code 3 = .ok (.istore 5, 2) := by decide +kernel
theorem own_d4_5 : decode prog_39_method_2_code 5 = .ok (.iconst 0, 1) := by decide +kernel
theorem own_d4_6 : decode prog_39_method_2_code 6 = .ok (.istore 6, 2) := by decide +kernel
theorem own_d4_136 : decode prog_39_method_2_code 136 = .ok (.iload 5, 2) := by decide +kernel
theorem own_d4_138 : decode prog_39_method_2_code 138 = .ok (.iload_n 2, 1) := by decide +kernel
theorem own_d4_139 : decode prog_39_method_2_code 139 = .ok (.if_icmp .eq 7, 3) := by decide +kernel
theorem own_d4_146 : decode prog_39_method_2_code 146 = .ok (.lload_n 3, 1) := by decide +kernel
theorem own_d4_147 : decode prog_39_method_2_code 147 = .ok (.lreturn, 1) := by decide +kernel
theorem own_ef4 (m : MethodId) (a0r : Addr) (p1 : Int32) (p2 : Int32) : entryFrame m #[(.ref a0r), (.int p1), (.int p2)] 9 = mkF m 0 #[.val (.ref a0r), .val (.int p1), .val (.int p2), .unset, .unset, .unset, .unset, .unset, .unset] [] := by first | (simp [entryFrame, mkF, argsToLocals, Value.category]; done) | rfl
def own_Q4 (Z : State) (a0r : Addr) (p1 : Int32) (p2 : Int32) (z : Int32) (f : Nat → Int32) (x : Int64) (h0 : Heap) (n0 : Nat) (v : Option Value) (h : Heap) (L : List Loc) : Prop := ∃ (r : Int64), (v = some (.long r)) ∧ (Fr n0 L) ∧ (h = h0) ∧ (r.toInt = (own_u x % 4294967296 : Nat))
set_option maxRecDepth 65536 in
set_option maxHeartbeats 40000000 in
theorem own_rm4 (l : Launch) (Z : State) (a0 : Array Value) (hw : ∀ d ∈ tables_1, d.before a0 Z = true) (ws : List Jvm.Cond) (a0r : Addr) (p1 : Int32) (p2 : Int32) (z : Int32) (f : Nat → Int32) (x : Int64) (h0 : Heap) (n0 : Nat) (Z0 : n0 ≤ h0.size) (P0 : own_ArI Z h0 a0r .byte z f) (hp : 0 ≤ p1.toInt) (hz : p2.toInt ≤ z.toInt) (hp2 : 0 ≤ p2.toInt) (ht : own_txt x f 4 p1.toInt.toNat p2.toInt.toNat) :
    MetFree l (⟨"com/example/rowcast/rowcast/identifier/IpText", "parseIpv4", "([BII)J"⟩ : MethodName) (head1 (Jvm.Cond.code (⟨"com/example/rowcast/rowcast/identifier/IpText", "parseIpv4", "([BII)J"⟩ : MethodName) prog_39_method_2_code 9 (some .long) :: ws) ({ frames := 0, cells := 0, slots := 0, locals := 0 } : Room)) (fun a U => a = #[(.ref a0r), (.int p1), (.int p2)] ∧ Z.Warmed39 U.vm ∧ U.heap = h0) (fun _ _ _ _ _ => True) (fun _ U o U' => ∃ v L, o = .returned v ∧ own_Q4 Z a0r p1 p2 z f x h0 n0 v U'.heap L ∧ FrameEnd U o U' L ({ frames := 0, cells := 0, slots := 0, locals := 0 } : Room).cells ({ frames := 0, cells := 0, slots := 0, locals := 0 } : Room).slots) := by
  refine MetFree.of_bodySF (plainFor_of_name own_pn1) hisR ?_
  intro p e s m args below meth c s₁ Bd hml0 hP hK
  obtain ⟨rfl, hZ, hh⟩ := hP
  have hx := Bd.exec
  have hby := Bd.bytes
  have hml : c.maxLocals = 9 := hml0
  have hown : s.vm.findClass "com/example/rowcast/rowcast/identifier/IpText" = some m.cls := findClass_of_methodNamed Bd.named
  have hnm := (name_of_methodNamed Bd.named Bd.method).1
  have X0 : Stand p l e ({ frames := 0, cells := 0, slots := 0, locals := 0 } : Room) s m #[(.ref a0r), (.int p1), (.int p2)] below meth c s₁ [] 0 0 := Stand.of_body Bd
  have e0 : s₁.heap = h0 := by rw [← hh, Bd.state]; rfl
  have N0 := Fr.nil n0
  refine own_go (fun t k => castTop (own_ef4 m a0r p1 p2) k) ?_
  refine own_go (T' := s₁) (f' := (mkF m 8 #[.val (.ref a0r), .val (.int p1), .val (.int p2), .val (.long (0 : Int64)), .second, .val (.int p1), .val (.int (0 : Int32)), .unset, .unset] [])) (fun t k => ?_) ?_
  · show Steps p.tables e below (s₁.setTop (mkF m 0 #[.val (.ref a0r), .val (.int p1), .val (.int p2), .unset, .unset, .unset, .unset, .unset, .unset] [])) _
    refine XS.lconst X0.here hx rfl (hb hby own_d4_0) ?_
    show Steps p.tables e below (s₁.setTop (mkF m 1 #[.val (.ref a0r), .val (.int p1), .val (.int p2), .unset, .unset, .unset, .unset, .unset, .unset] [(.long (0 : Int64))])) _
    refine XS.lstoreN X0.here hx rfl (hb hby own_d4_1) rfl (l' := #[.val (.ref a0r), .val (.int p1), .val (.int p2), .val (.long (0 : Int64)), .second, .unset, .unset, .unset, .unset]) rfl ?_
    show Steps p.tables e below (s₁.setTop (mkF m 2 #[.val (.ref a0r), .val (.int p1), .val (.int p2), .val (.long (0 : Int64)), .second, .unset, .unset, .unset, .unset] [])) _
    refine XS.iloadN X0.here hx rfl (hb hby own_d4_2) rfl ?_
    show Steps p.tables e below (s₁.setTop (mkF m 3 #[.val (.ref a0r), .val (.int p1), .val (.int p2), .val (.long (0 : Int64)), .second, .unset, .unset, .unset, .unset] [(.int p1)])) _
    refine XS.istore X0.here hx rfl (hb hby own_d4_3) rfl (l' := #[.val (.ref a0r), .val (.int p1), .val (.int p2), .val (.long (0 : Int64)), .second, .val (.int p1), .unset, .unset, .unset]) rfl ?_
    show Steps p.tables e below (s₁.setTop (mkF m 5 #[.val (.ref a0r), .val (.int p1), .val (.int p2), .val (.long (0 : Int64)), .second, .val (.int p1), .unset, .unset, .unset] [])) _
    refine XS.iconst X0.here hx rfl (hb hby own_d4_5) ?_
    show Steps p.tables e below (s₁.setTop (mkF m 6 #[.val (.ref a0r), .val (.int p1), .val (.int p2), .val (.long (0 : Int64)), .second, .val (.int p1), .unset, .unset, .unset] [(.int (0 : Int32))])) _
    refine XS.istore X0.here hx rfl (hb hby own_d4_6) rfl (l' := #[.val (.ref a0r), .val (.int p1), .val (.int p2), .val (.long (0 : Int64)), .second, .val (.int p1), .val (.int (0 : Int32)), .unset, .unset]) rfl ?_
    show Steps p.tables e below (s₁.setTop (mkF m 8 #[.val (.ref a0r), .val (.int p1), .val (.int p2), .val (.long (0 : Int64)), .second, .val (.int p1), .val (.int (0 : Int32)), .unset, .unset] [])) _
    exact k
  refine own_lp4 hx hZ hw hby hml hown a0r p1 p2 z f x  hz 4 _ _ _ ((0 : Int64)) p1 ((0 : Int32)) (.unset) (.unset) X0 e0 N0 Z0 P0 hp (by decide) (by decide) (by have := (own_ui x).2; rw [Nat.div_eq_of_lt (by omega)]; rfl) (Or.inl ⟨rfl, ht⟩) (Or.inl rfl) (Or.inl rfl) ?_
  intro T1 h1 lo1 ac'_1 j'_1 i'_1 s7'_1 s8'_1 X1 e1 N1 Zs1 hh1 V1_0 sp1
  have hh1' := hh1.symm
  subst hh1'
  have hge := own_txt_ge ht
  refine own_go (T' := T1) (f' := (mkF m 147 #[.val (.ref a0r), .val (.int p1), .val (.int p2), .val (.long ac'_1), .second, .val (.int j'_1), .val (.int i'_1), s7'_1, s8'_1] [(.long ac'_1)])) (fun t k => ?_) ?_
  · show Steps p.tables e below (T1.setTop (mkF m 136 #[.val (.ref a0r), .val (.int p1), .val (.int p2), .val (.long ac'_1), .second, .val (.int j'_1), .val (.int i'_1), s7'_1, s8'_1] [])) _
    refine XS.iload X1.here hx rfl (hb hby own_d4_136) rfl ?_
    show Steps p.tables e below (T1.setTop (mkF m 138 #[.val (.ref a0r), .val (.int p1), .val (.int p2), .val (.long ac'_1), .second, .val (.int j'_1), .val (.int i'_1), s7'_1, s8'_1] [(.int j'_1)])) _
    refine XS.iloadN X1.here hx rfl (hb hby own_d4_138) rfl ?_
    show Steps p.tables e below (T1.setTop (mkF m 139 #[.val (.ref a0r), .val (.int p1), .val (.int p2), .val (.long ac'_1), .second, .val (.int j'_1), .val (.int i'_1), s7'_1, s8'_1] [(.int p2), (.int j'_1)])) _
    refine XS.icmpYes X1.here hx rfl (pc0 := 139) (pc' := 146) rfl (hb hby own_d4_139) rfl (teq (Int32.toInt_inj.mp (by have q := sp1; omega))).1 (by decide) (by decide) ?_
    show Steps p.tables e below (T1.setTop (mkF m 146 #[.val (.ref a0r), .val (.int p1), .val (.int p2), .val (.long ac'_1), .second, .val (.int j'_1), .val (.int i'_1), s7'_1, s8'_1] [])) _
    refine XS.lloadN X1.here hx rfl (hb hby own_d4_146) rfl ?_
    show Steps p.tables e below (T1.setTop (mkF m 147 #[.val (.ref a0r), .val (.int p1), .val (.int p2), .val (.long ac'_1), .second, .val (.int j'_1), .val (.int i'_1), s7'_1, s8'_1] [(.long ac'_1)])) _
    exact k
  obtain ⟨fs, hr, hrun, hended, hW, hsame⟩ := X1.leave (v := some (.long ac'_1)) (fun h => by rw [Bd.returns] at h; cases h)
  refine ⟨_, _, ?_, hrun, hended, _, _, rfl, ?_, ⟨_, rfl⟩, hW, hsame.mono (by decide) (by decide)⟩
  · exact X1.lreturnOut hx Bd.returns (hb hby own_d4_147) hr
  · show own_Q4 Z a0r p1 p2 z f x h0 n0 _ T1.heap _
    rw [e1]
    exact ⟨ac'_1, rfl, N1, rfl, sp1.2.1⟩
theorem own_pd0 : parseMethodDescriptor "(I)I" = some ⟨[.int], some .int⟩ := by decide +kernel
theorem own_pd1 : parseMethodDescriptor "(J[BI)I" = some ⟨[.long, (.array .byte), .int], some .int⟩ := by decide +kernel
theorem own_pd2 : parseMethodDescriptor "([BII)Z" = some ⟨[(.array .byte), .int, .int], some .boolean⟩ := by decide +kernel
theorem own_pd3 : parseMethodDescriptor "([BII)J" = some ⟨[(.array .byte), .int, .int], some .long⟩ := by decide +kernel
theorem own_ef0 (m : MethodId) (q0 : Int64) (p1 : Int32) : entryFrame m #[(.long q0), (.int p1)] maxLocals = mkF m 0 #[.val (.long q0), .second, .val (.int p1), .unset, .unset, .unset, .unset, .unset, .unset, .unset, .unset, .unset, .unset] [] := by first | (simp [entryFrame, mkF, argsToLocals, Value.category, maxLocals]; done) | rfl
def own_AT (q0 : Int64) (p1 : Int32) : Int32 := ((p1 &&& (2147483647 : Int32)) - ((p1 &&& (2147483647 : Int32)) / (6 : Int32)) * (6 : Int32))
def own_O3 (q0 : Int64) (p1 : Int32) : Int32 := (((own_shrL q0 (24 : Int32)).toInt32) &&& (255 : Int32))
def own_O2 (q0 : Int64) (p1 : Int32) : Int32 := (((own_shrL q0 (16 : Int32)).toInt32) &&& (255 : Int32))
def own_O1 (q0 : Int64) (p1 : Int32) : Int32 := (((own_shrL q0 (8 : Int32)).toInt32) &&& (255 : Int32))
def own_O0 (q0 : Int64) (p1 : Int32) : Int32 := ((q0.toInt32) &&& (255 : Int32))
theorem own_AT_rng (q0 : Int64) (p1 : Int32) : 0 ≤ (own_AT q0 p1).toInt ∧ (own_AT q0 p1).toInt ≤ 5 := by
  have m := c_mask p1 2147483647 31 (by decide) (by decide)
  have d := (c_idiv (p1 &&& (2147483647 : Int32)) 6 6 rfl (by decide)).1 (by omega)
  have k := c_imul ((p1 &&& (2147483647 : Int32)) / 6) 6; have kr := rng32 ((p1 &&& (2147483647 : Int32)) / 6 * 6)
  have s := c_isub (p1 &&& (2147483647 : Int32)) ((p1 &&& (2147483647 : Int32)) / 6 * 6); have sr := rng32 ((p1 &&& (2147483647 : Int32)) - (p1 &&& (2147483647 : Int32)) / 6 * 6)
  have e6 : (6 : Int32).toInt = 6 := rfl
  rw [e6] at k
  show 0 ≤ ((p1 &&& (2147483647 : Int32)) - ((p1 &&& (2147483647 : Int32)) / (6 : Int32)) * (6 : Int32)).toInt ∧ ((p1 &&& (2147483647 : Int32)) - ((p1 &&& (2147483647 : Int32)) / (6 : Int32)) * (6 : Int32)).toInt ≤ 5
  omega
theorem own_F1_D (o : Int32) (O : Nat) (h : o.toInt = O) : (own_F1 o).toInt = own_D O := by
  have e100 : (100 : Int32).toInt = 100 := rfl
  have e10 : (10 : Int32).toInt = 10 := rfl
  rw [own_F1, own_D]
  by_cases c1 : o < (100 : Int32)
  · have c1' := c1
    rw [Int32.lt_iff_toInt_lt] at c1'
    rw [if_pos c1, if_neg (show ¬ 100 ≤ O by omega)]
    by_cases c2 : o < (10 : Int32)
    · have c2' := c2
      rw [Int32.lt_iff_toInt_lt] at c2'
      rw [if_pos c2, if_neg (show ¬ 10 ≤ O by omega)]; rfl
    · have c2' := c2
      rw [Int32.lt_iff_toInt_lt] at c2'
      rw [if_neg c2, if_pos (show 10 ≤ O by omega)]; rfl
  · have c1' := c1
    rw [Int32.lt_iff_toInt_lt] at c1'
    rw [if_neg c1, if_pos (show 100 ≤ O by omega)]; rfl
theorem own_len4 {x : Int64} {f : Nat → Int32} {b r : Nat} (h : own_txt x f 4 b r) : r = b + own_D (own_oct x 3) + 1 + own_D (own_oct x 2) + 1 + own_D (own_oct x 1) + 1 + own_D (own_oct x 0) := by
  obtain ⟨-, h⟩ := h
  rw [if_neg (by decide)] at h
  obtain ⟨-, -, h⟩ := h
  rw [if_neg (by decide)] at h
  obtain ⟨-, -, h⟩ := h
  rw [if_neg (by decide)] at h
  obtain ⟨-, -, h⟩ := h
  rw [if_pos rfl] at h
  exact h
theorem own_ok (q0 : Int64) (p1 : Int32) {r : Int32} {f' : Nat → Int32} (h : own_WS 4 q0 (own_AT q0 p1) (fun _ => 0) r f') :
    r = ((((((own_AT q0 p1) + (3 : Int32)) + (own_F1 (own_O3 q0 p1))) + (own_F1 (own_O2 q0 p1))) + (own_F1 (own_O1 q0 p1))) + (own_F1 (own_O0 q0 p1))) ∧ 0 ≤ r.toInt ∧ r.toInt ≤ (20 : Int32).toInt := by
  obtain ⟨h1, h2, h3, -⟩ := h
  have l := own_len4 h1
  have a := own_AT_rng q0 p1
  have d3 := own_D_rng (own_oct q0 3); have d2 := own_D_rng (own_oct q0 2); have d1 := own_D_rng (own_oct q0 1); have d0 := own_D_rng (own_oct q0 0)
  have f3 := own_F1_D (own_O3 q0 p1) _ (own_octS q0 24 3 rfl); have f2 := own_F1_D (own_O2 q0 p1) _ (own_octS q0 16 2 rfl); have f1 := own_F1_D (own_O1 q0 p1) _ (own_octS q0 8 1 rfl); have f0 := own_F1_D (own_O0 q0 p1) _ (own_oct0 q0)
  have e3 : (3 : Int32).toInt = 3 := rfl
  have e20 : (20 : Int32).toInt = 20 := rfl
  generalize own_F1 (own_O3 q0 p1) = g3 at *
  generalize own_F1 (own_O2 q0 p1) = g2 at *
  generalize own_F1 (own_O1 q0 p1) = g1 at *
  generalize own_F1 (own_O0 q0 p1) = g0 at *
  generalize own_AT q0 p1 = t at *
  have s0 := c_iadd t 3; have r0 := rng32 (t + 3)
  have s1 := c_iadd (t + 3) g3; have r1 := rng32 (t + 3 + g3)
  have s2 := c_iadd (t + 3 + g3) g2; have r2 := rng32 (t + 3 + g3 + g2)
  have s3 := c_iadd (t + 3 + g3 + g2) g1; have r3 := rng32 (t + 3 + g3 + g2 + g1)
  have s4 := c_iadd (t + 3 + g3 + g2 + g1) g0; have r4 := rng32 (t + 3 + g3 + g2 + g1 + g0)
  exact ⟨Int32.toInt_inj.mp (by omega), by omega, by omega⟩
theorem own_unt (q0 : Int64) (p1 : Int32) {r : Int32} {f' : Nat → Int32} (h : own_WS 4 q0 (own_AT q0 p1) (fun _ => 0) r f') (i : Int32) (hi : 0 ≤ i.toInt) : ¬ own_F3 i (own_AT q0 p1) (20 : Int32) f' = 0 := by
  rw [own_F3]
  by_cases c : i < own_AT q0 p1
  · rw [if_pos c]; rw [Int32.lt_iff_toInt_lt] at c
    rw [if_pos (h.2.2.2 _ (Or.inl (by omega)))]; decide
  · rw [if_neg c]; decide
theorem own_lt20 {r : Int32} (h : r < (20 : Int32)) : r.toInt < (20 : Int32).toInt := Int32.lt_iff_toInt_lt.mp h
theorem own_end (q0 : Int64) (p1 : Int32) {r : Int32} {f' : Nat → Int32} (h : own_WS 4 q0 (own_AT q0 p1) (fun _ => 0) r f') : f' r.toInt.toNat = (0 : Int32) := h.2.2.2 _ (Or.inr (Nat.le_refl _))
theorem own_back {q0 r : Int64} (h : r.toInt = (own_u q0 % 4294967296 : Nat)) : r = (q0 &&& (4294967295 : Int64)) := by
  have m := c_maskL q0 4294967295 32 (by decide) (by decide)
  have u := own_ui q0
  exact Int64.toInt_inj.mp (by omega)
def own_Q0 (Z : State) (q0 : Int64) (p1 : Int32) (h0 : Heap) (n0 : Nat) (v : Option Value) (h : Heap) (L : List Loc) : Prop := (v = some (.int (1 : Int32))) ∧ (Fr n0 L)
set_option maxRecDepth 65536 in
set_option maxHeartbeats 40000000 in
theorem own_rm0 (l : Launch) (Z : State) (a0 : Array Value) (hw : ∀ d ∈ tables_1, d.before a0 Z = true) (ws : List Jvm.Cond) (q0 : Int64) (p1 : Int32) (h0 : Heap) (n0 : Nat) (Z0 : n0 ≤ h0.size) :
    MetFree l x (head1 (Jvm.Cond.code x code maxLocals ret :: ws) room_1) (fun a U => a = #[(.long q0), (.int p1)] ∧ Z.Warmed39 U.vm ∧ U.heap = h0) (fun _ _ _ _ _ => True) (fun _ U o U' => ∃ v L, o = .returned v ∧ own_Q0 Z q0 p1 h0 n0 v U'.heap L ∧ FrameEnd U o U' L 16 128) := by
  refine MetFree.of_bodySF (plainFor_of_name own_pn0) hisR ?_
  intro p e s m args below meth c s₁ Bd hml0 hP hK
  obtain ⟨rfl, hZ, hh⟩ := hP
  have hx := Bd.exec
  have hby := Bd.bytes
  have hml : c.maxLocals = 13 := hml0
  have hown : s.vm.findClass "com/example/rowcast/rowcast/identifier/IpTextWriteIpv4PinLaw" = some m.cls := findClass_of_methodNamed Bd.named
  have hnm := (name_of_methodNamed Bd.named Bd.method).1
  have X0 : Stand p l e room_1 s m #[(.long q0), (.int p1)] below meth c s₁ [] 0 0 := Stand.of_body Bd
  have e0 : s₁.heap = h0 := by rw [← hh, Bd.state]; rfl
  have N0 := Fr.nil n0
  refine own_go (fun t k => castTop (own_ef0 m q0 p1) k) ?_
  refine own_go (T' := s₁) (f' := (mkF m 2 #[.val (.long q0), .second, .val (.int p1), .unset, .unset, .unset, .unset, .unset, .unset, .unset, .unset, .unset, .unset] [(.int (20 : Int32))])) (fun t k => ?_) ?_
  · show Steps p.tables e below (s₁.setTop (mkF m 0 #[.val (.long q0), .second, .val (.int p1), .unset, .unset, .unset, .unset, .unset, .unset, .unset, .unset, .unset, .unset] [])) _
    refine XS.bipush X0.here hx rfl (hb hby at_0) ?_
    show Steps p.tables e below (s₁.setTop (mkF m 2 #[.val (.long q0), .second, .val (.int p1), .unset, .unset, .unset, .unset, .unset, .unset, .unset, .unset, .unset, .unset] [(.int (20 : Int32))])) _
    exact k
  obtain ⟨T1, h1, k1, X1, e1, E1, A1, st1⟩ := newP X0 hx hZ (hw _ (List.mem_of_getElem? (i := 0) rfl)) e0 (g := (mkF m 2 #[.val (.long q0), .second, .val (.int p1), .unset, .unset, .unset, .unset, .unset, .unset, .unset, .unset, .unset, .unset] [(.int (20 : Int32))])) rfl (hb hby at_2) rfl (by decide) (cap := 20) (by decide) (by decide) (by decide) (by decide)
  obtain ⟨b1, g1⟩ : ∃ z, z = h0.size := ⟨_, rfl⟩
  rw [← g1] at A1 st1
  have g_b1 : n0 ≤ b1 := Nat.le_trans Z0 (Nat.le_of_eq g1.symm)
  refine own_go (T' := T1) (f' := (mkF m 4 #[.val (.long q0), .second, .val (.int p1), .unset, .unset, .unset, .unset, .unset, .unset, .unset, .unset, .unset, .unset] [(.ref b1)])) st1 ?_
  have Zs1 : n0 ≤ h1.size := Nat.le_trans Z0 E1.1
  have V1 : own_ArI Z h1 b1 .byte (20 : Int32) (fun _ => 0) := own_ArI.new A1 (by decide) rfl
  refine own_go (T' := T1) (f' := (mkF m 12 #[.val (.long q0), .second, .val (.int p1), .val (.ref b1), .unset, .unset, .unset, .unset, .unset, .unset, .unset, .unset, .unset] [(.int ((p1 &&& (2147483647 : Int32)) - ((p1 &&& (2147483647 : Int32)) / (6 : Int32)) * (6 : Int32)))])) (fun t k => ?_) ?_
  · show Steps p.tables e below (T1.setTop (mkF m 4 #[.val (.long q0), .second, .val (.int p1), .unset, .unset, .unset, .unset, .unset, .unset, .unset, .unset, .unset, .unset] [(.ref b1)])) _
    refine XS.astoreN X1.here hx rfl (hb hby at_4) rfl rfl (l' := #[.val (.long q0), .second, .val (.int p1), .val (.ref b1), .unset, .unset, .unset, .unset, .unset, .unset, .unset, .unset, .unset]) rfl ?_
    show Steps p.tables e below (T1.setTop (mkF m 5 #[.val (.long q0), .second, .val (.int p1), .val (.ref b1), .unset, .unset, .unset, .unset, .unset, .unset, .unset, .unset, .unset] [])) _
    refine XS.iloadN X1.here hx rfl (hb hby at_5) rfl ?_
    show Steps p.tables e below (T1.setTop (mkF m 6 #[.val (.long q0), .second, .val (.int p1), .val (.ref b1), .unset, .unset, .unset, .unset, .unset, .unset, .unset, .unset, .unset] [(.int p1)])) _
    refine X1.ldcInt hx hown (mvT hZ (hw _ (List.mem_of_getElem? (i := 1) rfl))) (g := (mkF m 6 #[.val (.long q0), .second, .val (.int p1), .val (.ref b1), .unset, .unset, .unset, .unset, .unset, .unset, .unset, .unset, .unset] [(.int p1)])) rfl (hb hby at_6) _ ?_
    show Steps p.tables e below (T1.setTop (mkF m 8 #[.val (.long q0), .second, .val (.int p1), .val (.ref b1), .unset, .unset, .unset, .unset, .unset, .unset, .unset, .unset, .unset] [(.int (2147483647 : Int32)), (.int p1)])) _
    refine XS.iand X1.here hx rfl (hb hby at_8) rfl ?_
    show Steps p.tables e below (T1.setTop (mkF m 9 #[.val (.long q0), .second, .val (.int p1), .val (.ref b1), .unset, .unset, .unset, .unset, .unset, .unset, .unset, .unset, .unset] [(.int (p1 &&& (2147483647 : Int32)))])) _
    refine XS.bipush X1.here hx rfl (hb hby at_9) ?_
    show Steps p.tables e below (T1.setTop (mkF m 11 #[.val (.long q0), .second, .val (.int p1), .val (.ref b1), .unset, .unset, .unset, .unset, .unset, .unset, .unset, .unset, .unset] [(.int (6 : Int32)), (.int (p1 &&& (2147483647 : Int32)))])) _
    refine XS.irem X1.here hx rfl (hb hby at_11) rfl (by decide) ?_
    show Steps p.tables e below (T1.setTop (mkF m 12 #[.val (.long q0), .second, .val (.int p1), .val (.ref b1), .unset, .unset, .unset, .unset, .unset, .unset, .unset, .unset, .unset] [(.int ((p1 &&& (2147483647 : Int32)) - ((p1 &&& (2147483647 : Int32)) / (6 : Int32)) * (6 : Int32)))])) _
    exact k
  refine own_go (T' := T1) (f' := (mkF m 12 #[.val (.long q0), .second, .val (.int p1), .val (.ref b1), .unset, .unset, .unset, .unset, .unset, .unset, .unset, .unset, .unset] [(.int (own_AT q0 p1))])) (fun t k => k) ?_
  refine own_go (T' := T1) (f' := (mkF m 23 #[.val (.long q0), .second, .val (.int p1), .val (.ref b1), .val (.int (own_AT q0 p1)), .unset, .unset, .unset, .unset, .unset, .unset, .unset, .unset] [(.int (((own_shrL q0 (24 : Int32)).toInt32) &&& (255 : Int32)))])) (fun t k => ?_) ?_
  · show Steps p.tables e below (T1.setTop (mkF m 12 #[.val (.long q0), .second, .val (.int p1), .val (.ref b1), .unset, .unset, .unset, .unset, .unset, .unset, .unset, .unset, .unset] [(.int (own_AT q0 p1))])) _
    refine XS.istore X1.here hx rfl (hb hby at_12) rfl (l' := #[.val (.long q0), .second, .val (.int p1), .val (.ref b1), .val (.int (own_AT q0 p1)), .unset, .unset, .unset, .unset, .unset, .unset, .unset, .unset]) rfl ?_
    show Steps p.tables e below (T1.setTop (mkF m 14 #[.val (.long q0), .second, .val (.int p1), .val (.ref b1), .val (.int (own_AT q0 p1)), .unset, .unset, .unset, .unset, .unset, .unset, .unset, .unset] [])) _
    refine XS.lloadN X1.here hx rfl (hb hby at_14) rfl ?_
    show Steps p.tables e below (T1.setTop (mkF m 15 #[.val (.long q0), .second, .val (.int p1), .val (.ref b1), .val (.int (own_AT q0 p1)), .unset, .unset, .unset, .unset, .unset, .unset, .unset, .unset] [(.long q0)])) _
    refine XS.bipush X1.here hx rfl (hb hby at_15) ?_
    show Steps p.tables e below (T1.setTop (mkF m 17 #[.val (.long q0), .second, .val (.int p1), .val (.ref b1), .val (.int (own_AT q0 p1)), .unset, .unset, .unset, .unset, .unset, .unset, .unset, .unset] [(.int (24 : Int32)), (.long q0)])) _
    refine XS.lushr X1.here hx rfl (hb hby at_17) rfl ?_
    show Steps p.tables e below (T1.setTop (mkF m 18 #[.val (.long q0), .second, .val (.int p1), .val (.ref b1), .val (.int (own_AT q0 p1)), .unset, .unset, .unset, .unset, .unset, .unset, .unset, .unset] [(.long (own_shrL q0 (24 : Int32)))])) _
    refine XS.l2i X1.here hx rfl (hb hby at_18) rfl ?_
    show Steps p.tables e below (T1.setTop (mkF m 19 #[.val (.long q0), .second, .val (.int p1), .val (.ref b1), .val (.int (own_AT q0 p1)), .unset, .unset, .unset, .unset, .unset, .unset, .unset, .unset] [(.int ((own_shrL q0 (24 : Int32)).toInt32))])) _
    refine XS.sipush X1.here hx rfl (hb hby at_19) ?_
    show Steps p.tables e below (T1.setTop (mkF m 22 #[.val (.long q0), .second, .val (.int p1), .val (.ref b1), .val (.int (own_AT q0 p1)), .unset, .unset, .unset, .unset, .unset, .unset, .unset, .unset] [(.int (255 : Int32)), (.int ((own_shrL q0 (24 : Int32)).toInt32))])) _
    refine XS.iand X1.here hx rfl (hb hby at_22) rfl ?_
    show Steps p.tables e below (T1.setTop (mkF m 23 #[.val (.long q0), .second, .val (.int p1), .val (.ref b1), .val (.int (own_AT q0 p1)), .unset, .unset, .unset, .unset, .unset, .unset, .unset, .unset] [(.int (((own_shrL q0 (24 : Int32)).toInt32) &&& (255 : Int32)))])) _
    exact k
  refine own_go (T' := T1) (f' := (mkF m 23 #[.val (.long q0), .second, .val (.int p1), .val (.ref b1), .val (.int (own_AT q0 p1)), .unset, .unset, .unset, .unset, .unset, .unset, .unset, .unset] [(.int (own_O3 q0 p1))])) (fun t k => k) ?_
  refine own_go (T' := T1) (f' := (mkF m 34 #[.val (.long q0), .second, .val (.int p1), .val (.ref b1), .val (.int (own_AT q0 p1)), .val (.int (own_O3 q0 p1)), .unset, .unset, .unset, .unset, .unset, .unset, .unset] [(.int (((own_shrL q0 (16 : Int32)).toInt32) &&& (255 : Int32)))])) (fun t k => ?_) ?_
  · show Steps p.tables e below (T1.setTop (mkF m 23 #[.val (.long q0), .second, .val (.int p1), .val (.ref b1), .val (.int (own_AT q0 p1)), .unset, .unset, .unset, .unset, .unset, .unset, .unset, .unset] [(.int (own_O3 q0 p1))])) _
    refine XS.istore X1.here hx rfl (hb hby at_23) rfl (l' := #[.val (.long q0), .second, .val (.int p1), .val (.ref b1), .val (.int (own_AT q0 p1)), .val (.int (own_O3 q0 p1)), .unset, .unset, .unset, .unset, .unset, .unset, .unset]) rfl ?_
    show Steps p.tables e below (T1.setTop (mkF m 25 #[.val (.long q0), .second, .val (.int p1), .val (.ref b1), .val (.int (own_AT q0 p1)), .val (.int (own_O3 q0 p1)), .unset, .unset, .unset, .unset, .unset, .unset, .unset] [])) _
    refine XS.lloadN X1.here hx rfl (hb hby at_25) rfl ?_
    show Steps p.tables e below (T1.setTop (mkF m 26 #[.val (.long q0), .second, .val (.int p1), .val (.ref b1), .val (.int (own_AT q0 p1)), .val (.int (own_O3 q0 p1)), .unset, .unset, .unset, .unset, .unset, .unset, .unset] [(.long q0)])) _
    refine XS.bipush X1.here hx rfl (hb hby at_26) ?_
    show Steps p.tables e below (T1.setTop (mkF m 28 #[.val (.long q0), .second, .val (.int p1), .val (.ref b1), .val (.int (own_AT q0 p1)), .val (.int (own_O3 q0 p1)), .unset, .unset, .unset, .unset, .unset, .unset, .unset] [(.int (16 : Int32)), (.long q0)])) _
    refine XS.lushr X1.here hx rfl (hb hby at_28) rfl ?_
    show Steps p.tables e below (T1.setTop (mkF m 29 #[.val (.long q0), .second, .val (.int p1), .val (.ref b1), .val (.int (own_AT q0 p1)), .val (.int (own_O3 q0 p1)), .unset, .unset, .unset, .unset, .unset, .unset, .unset] [(.long (own_shrL q0 (16 : Int32)))])) _
    refine XS.l2i X1.here hx rfl (hb hby at_29) rfl ?_
    show Steps p.tables e below (T1.setTop (mkF m 30 #[.val (.long q0), .second, .val (.int p1), .val (.ref b1), .val (.int (own_AT q0 p1)), .val (.int (own_O3 q0 p1)), .unset, .unset, .unset, .unset, .unset, .unset, .unset] [(.int ((own_shrL q0 (16 : Int32)).toInt32))])) _
    refine XS.sipush X1.here hx rfl (hb hby at_30) ?_
    show Steps p.tables e below (T1.setTop (mkF m 33 #[.val (.long q0), .second, .val (.int p1), .val (.ref b1), .val (.int (own_AT q0 p1)), .val (.int (own_O3 q0 p1)), .unset, .unset, .unset, .unset, .unset, .unset, .unset] [(.int (255 : Int32)), (.int ((own_shrL q0 (16 : Int32)).toInt32))])) _
    refine XS.iand X1.here hx rfl (hb hby at_33) rfl ?_
    show Steps p.tables e below (T1.setTop (mkF m 34 #[.val (.long q0), .second, .val (.int p1), .val (.ref b1), .val (.int (own_AT q0 p1)), .val (.int (own_O3 q0 p1)), .unset, .unset, .unset, .unset, .unset, .unset, .unset] [(.int (((own_shrL q0 (16 : Int32)).toInt32) &&& (255 : Int32)))])) _
    exact k
  refine own_go (T' := T1) (f' := (mkF m 34 #[.val (.long q0), .second, .val (.int p1), .val (.ref b1), .val (.int (own_AT q0 p1)), .val (.int (own_O3 q0 p1)), .unset, .unset, .unset, .unset, .unset, .unset, .unset] [(.int (own_O2 q0 p1))])) (fun t k => k) ?_
  refine own_go (T' := T1) (f' := (mkF m 45 #[.val (.long q0), .second, .val (.int p1), .val (.ref b1), .val (.int (own_AT q0 p1)), .val (.int (own_O3 q0 p1)), .val (.int (own_O2 q0 p1)), .unset, .unset, .unset, .unset, .unset, .unset] [(.int (((own_shrL q0 (8 : Int32)).toInt32) &&& (255 : Int32)))])) (fun t k => ?_) ?_
  · show Steps p.tables e below (T1.setTop (mkF m 34 #[.val (.long q0), .second, .val (.int p1), .val (.ref b1), .val (.int (own_AT q0 p1)), .val (.int (own_O3 q0 p1)), .unset, .unset, .unset, .unset, .unset, .unset, .unset] [(.int (own_O2 q0 p1))])) _
    refine XS.istore X1.here hx rfl (hb hby at_34) rfl (l' := #[.val (.long q0), .second, .val (.int p1), .val (.ref b1), .val (.int (own_AT q0 p1)), .val (.int (own_O3 q0 p1)), .val (.int (own_O2 q0 p1)), .unset, .unset, .unset, .unset, .unset, .unset]) rfl ?_
    show Steps p.tables e below (T1.setTop (mkF m 36 #[.val (.long q0), .second, .val (.int p1), .val (.ref b1), .val (.int (own_AT q0 p1)), .val (.int (own_O3 q0 p1)), .val (.int (own_O2 q0 p1)), .unset, .unset, .unset, .unset, .unset, .unset] [])) _
    refine XS.lloadN X1.here hx rfl (hb hby at_36) rfl ?_
    show Steps p.tables e below (T1.setTop (mkF m 37 #[.val (.long q0), .second, .val (.int p1), .val (.ref b1), .val (.int (own_AT q0 p1)), .val (.int (own_O3 q0 p1)), .val (.int (own_O2 q0 p1)), .unset, .unset, .unset, .unset, .unset, .unset] [(.long q0)])) _
    refine XS.bipush X1.here hx rfl (hb hby at_37) ?_
    show Steps p.tables e below (T1.setTop (mkF m 39 #[.val (.long q0), .second, .val (.int p1), .val (.ref b1), .val (.int (own_AT q0 p1)), .val (.int (own_O3 q0 p1)), .val (.int (own_O2 q0 p1)), .unset, .unset, .unset, .unset, .unset, .unset] [(.int (8 : Int32)), (.long q0)])) _
    refine XS.lushr X1.here hx rfl (hb hby at_39) rfl ?_
    show Steps p.tables e below (T1.setTop (mkF m 40 #[.val (.long q0), .second, .val (.int p1), .val (.ref b1), .val (.int (own_AT q0 p1)), .val (.int (own_O3 q0 p1)), .val (.int (own_O2 q0 p1)), .unset, .unset, .unset, .unset, .unset, .unset] [(.long (own_shrL q0 (8 : Int32)))])) _
    refine XS.l2i X1.here hx rfl (hb hby at_40) rfl ?_
    show Steps p.tables e below (T1.setTop (mkF m 41 #[.val (.long q0), .second, .val (.int p1), .val (.ref b1), .val (.int (own_AT q0 p1)), .val (.int (own_O3 q0 p1)), .val (.int (own_O2 q0 p1)), .unset, .unset, .unset, .unset, .unset, .unset] [(.int ((own_shrL q0 (8 : Int32)).toInt32))])) _
    refine XS.sipush X1.here hx rfl (hb hby at_41) ?_
    show Steps p.tables e below (T1.setTop (mkF m 44 #[.val (.long q0), .second, .val (.int p1), .val (.ref b1), .val (.int (own_AT q0 p1)), .val (.int (own_O3 q0 p1)), .val (.int (own_O2 q0 p1)), .unset, .unset, .unset, .unset, .unset, .unset] [(.int (255 : Int32)), (.int ((own_shrL q0 (8 : Int32)).toInt32))])) _
    refine XS.iand X1.here hx rfl (hb hby at_44) rfl ?_
    show Steps p.tables e below (T1.setTop (mkF m 45 #[.val (.long q0), .second, .val (.int p1), .val (.ref b1), .val (.int (own_AT q0 p1)), .val (.int (own_O3 q0 p1)), .val (.int (own_O2 q0 p1)), .unset, .unset, .unset, .unset, .unset, .unset] [(.int (((own_shrL q0 (8 : Int32)).toInt32) &&& (255 : Int32)))])) _
    exact k
  refine own_go (T' := T1) (f' := (mkF m 45 #[.val (.long q0), .second, .val (.int p1), .val (.ref b1), .val (.int (own_AT q0 p1)), .val (.int (own_O3 q0 p1)), .val (.int (own_O2 q0 p1)), .unset, .unset, .unset, .unset, .unset, .unset] [(.int (own_O1 q0 p1))])) (fun t k => k) ?_
  refine own_go (T' := T1) (f' := (mkF m 53 #[.val (.long q0), .second, .val (.int p1), .val (.ref b1), .val (.int (own_AT q0 p1)), .val (.int (own_O3 q0 p1)), .val (.int (own_O2 q0 p1)), .val (.int (own_O1 q0 p1)), .unset, .unset, .unset, .unset, .unset] [(.int ((q0.toInt32) &&& (255 : Int32)))])) (fun t k => ?_) ?_
  · show Steps p.tables e below (T1.setTop (mkF m 45 #[.val (.long q0), .second, .val (.int p1), .val (.ref b1), .val (.int (own_AT q0 p1)), .val (.int (own_O3 q0 p1)), .val (.int (own_O2 q0 p1)), .unset, .unset, .unset, .unset, .unset, .unset] [(.int (own_O1 q0 p1))])) _
    refine XS.istore X1.here hx rfl (hb hby at_45) rfl (l' := #[.val (.long q0), .second, .val (.int p1), .val (.ref b1), .val (.int (own_AT q0 p1)), .val (.int (own_O3 q0 p1)), .val (.int (own_O2 q0 p1)), .val (.int (own_O1 q0 p1)), .unset, .unset, .unset, .unset, .unset]) rfl ?_
    show Steps p.tables e below (T1.setTop (mkF m 47 #[.val (.long q0), .second, .val (.int p1), .val (.ref b1), .val (.int (own_AT q0 p1)), .val (.int (own_O3 q0 p1)), .val (.int (own_O2 q0 p1)), .val (.int (own_O1 q0 p1)), .unset, .unset, .unset, .unset, .unset] [])) _
    refine XS.lloadN X1.here hx rfl (hb hby at_47) rfl ?_
    show Steps p.tables e below (T1.setTop (mkF m 48 #[.val (.long q0), .second, .val (.int p1), .val (.ref b1), .val (.int (own_AT q0 p1)), .val (.int (own_O3 q0 p1)), .val (.int (own_O2 q0 p1)), .val (.int (own_O1 q0 p1)), .unset, .unset, .unset, .unset, .unset] [(.long q0)])) _
    refine XS.l2i X1.here hx rfl (hb hby at_48) rfl ?_
    show Steps p.tables e below (T1.setTop (mkF m 49 #[.val (.long q0), .second, .val (.int p1), .val (.ref b1), .val (.int (own_AT q0 p1)), .val (.int (own_O3 q0 p1)), .val (.int (own_O2 q0 p1)), .val (.int (own_O1 q0 p1)), .unset, .unset, .unset, .unset, .unset] [(.int (q0.toInt32))])) _
    refine XS.sipush X1.here hx rfl (hb hby at_49) ?_
    show Steps p.tables e below (T1.setTop (mkF m 52 #[.val (.long q0), .second, .val (.int p1), .val (.ref b1), .val (.int (own_AT q0 p1)), .val (.int (own_O3 q0 p1)), .val (.int (own_O2 q0 p1)), .val (.int (own_O1 q0 p1)), .unset, .unset, .unset, .unset, .unset] [(.int (255 : Int32)), (.int (q0.toInt32))])) _
    refine XS.iand X1.here hx rfl (hb hby at_52) rfl ?_
    show Steps p.tables e below (T1.setTop (mkF m 53 #[.val (.long q0), .second, .val (.int p1), .val (.ref b1), .val (.int (own_AT q0 p1)), .val (.int (own_O3 q0 p1)), .val (.int (own_O2 q0 p1)), .val (.int (own_O1 q0 p1)), .unset, .unset, .unset, .unset, .unset] [(.int ((q0.toInt32) &&& (255 : Int32)))])) _
    exact k
  refine own_go (T' := T1) (f' := (mkF m 53 #[.val (.long q0), .second, .val (.int p1), .val (.ref b1), .val (.int (own_AT q0 p1)), .val (.int (own_O3 q0 p1)), .val (.int (own_O2 q0 p1)), .val (.int (own_O1 q0 p1)), .unset, .unset, .unset, .unset, .unset] [(.int (own_O0 q0 p1))])) (fun t k => k) ?_
  refine own_go (T' := T1) (f' := (mkF m 61 #[.val (.long q0), .second, .val (.int p1), .val (.ref b1), .val (.int (own_AT q0 p1)), .val (.int (own_O3 q0 p1)), .val (.int (own_O2 q0 p1)), .val (.int (own_O1 q0 p1)), .val (.int (own_O0 q0 p1)), .unset, .unset, .unset, .unset] [(.int (own_O3 q0 p1)), (.int ((own_AT q0 p1) + (3 : Int32)))])) (fun t k => ?_) ?_
  · show Steps p.tables e below (T1.setTop (mkF m 53 #[.val (.long q0), .second, .val (.int p1), .val (.ref b1), .val (.int (own_AT q0 p1)), .val (.int (own_O3 q0 p1)), .val (.int (own_O2 q0 p1)), .val (.int (own_O1 q0 p1)), .unset, .unset, .unset, .unset, .unset] [(.int (own_O0 q0 p1))])) _
    refine XS.istore X1.here hx rfl (hb hby at_53) rfl (l' := #[.val (.long q0), .second, .val (.int p1), .val (.ref b1), .val (.int (own_AT q0 p1)), .val (.int (own_O3 q0 p1)), .val (.int (own_O2 q0 p1)), .val (.int (own_O1 q0 p1)), .val (.int (own_O0 q0 p1)), .unset, .unset, .unset, .unset]) rfl ?_
    show Steps p.tables e below (T1.setTop (mkF m 55 #[.val (.long q0), .second, .val (.int p1), .val (.ref b1), .val (.int (own_AT q0 p1)), .val (.int (own_O3 q0 p1)), .val (.int (own_O2 q0 p1)), .val (.int (own_O1 q0 p1)), .val (.int (own_O0 q0 p1)), .unset, .unset, .unset, .unset] [])) _
    refine XS.iload X1.here hx rfl (hb hby at_55) rfl ?_
    show Steps p.tables e below (T1.setTop (mkF m 57 #[.val (.long q0), .second, .val (.int p1), .val (.ref b1), .val (.int (own_AT q0 p1)), .val (.int (own_O3 q0 p1)), .val (.int (own_O2 q0 p1)), .val (.int (own_O1 q0 p1)), .val (.int (own_O0 q0 p1)), .unset, .unset, .unset, .unset] [(.int (own_AT q0 p1))])) _
    refine XS.iconst X1.here hx rfl (hb hby at_57) ?_
    show Steps p.tables e below (T1.setTop (mkF m 58 #[.val (.long q0), .second, .val (.int p1), .val (.ref b1), .val (.int (own_AT q0 p1)), .val (.int (own_O3 q0 p1)), .val (.int (own_O2 q0 p1)), .val (.int (own_O1 q0 p1)), .val (.int (own_O0 q0 p1)), .unset, .unset, .unset, .unset] [(.int (3 : Int32)), (.int (own_AT q0 p1))])) _
    refine XS.iadd X1.here hx rfl (hb hby at_58) rfl ?_
    show Steps p.tables e below (T1.setTop (mkF m 59 #[.val (.long q0), .second, .val (.int p1), .val (.ref b1), .val (.int (own_AT q0 p1)), .val (.int (own_O3 q0 p1)), .val (.int (own_O2 q0 p1)), .val (.int (own_O1 q0 p1)), .val (.int (own_O0 q0 p1)), .unset, .unset, .unset, .unset] [(.int ((own_AT q0 p1) + (3 : Int32)))])) _
    refine XS.iload X1.here hx rfl (hb hby at_59) rfl ?_
    show Steps p.tables e below (T1.setTop (mkF m 61 #[.val (.long q0), .second, .val (.int p1), .val (.ref b1), .val (.int (own_AT q0 p1)), .val (.int (own_O3 q0 p1)), .val (.int (own_O2 q0 p1)), .val (.int (own_O1 q0 p1)), .val (.int (own_O0 q0 p1)), .unset, .unset, .unset, .unset] [(.int (own_O3 q0 p1)), (.int ((own_AT q0 p1) + (3 : Int32)))])) _
    exact k
  obtain ⟨T2, Lq2, X2, hQ2, st2⟩ := own_pt (vv := some (.int (own_F1 (own_O3 q0 p1)))) (fun _ _ _ q => q.1) <| Jvm.LawKit.callS X1 hx (y := (⟨"com/example/rowcast/rowcast/identifier/IpTextWriteIpv4PinLaw", "digits", "(I)I"⟩ : MethodName)) hown (mvT hZ (hw _ (List.mem_of_getElem? (i := 2) rfl))) (mvT hZ (hw _ (List.mem_of_getElem? (i := 3) rfl))) (mvT hZ (hw _ (List.mem_of_getElem? (i := 4) rfl))) (mvT hZ (hw _ (List.mem_of_getElem? (i := 5) rfl))) (by decide) (backOf (W := 1) (own_rm1 l Z a0 hw [] ((own_O3 q0 p1))  h1 n0 Zs1 ) hZ (hw _ (List.mem_of_getElem? (i := 5) rfl)) (hw _ (List.mem_of_getElem? (i := 4) rfl)) (by decide) (by decide)) (g := (mkF m 61 #[.val (.long q0), .second, .val (.int p1), .val (.ref b1), .val (.int (own_AT q0 p1)), .val (.int (own_O3 q0 p1)), .val (.int (own_O2 q0 p1)), .val (.int (own_O1 q0 p1)), .val (.int (own_O0 q0 p1)), .unset, .unset, .unset, .unset] [(.int (own_O3 q0 p1)), (.int ((own_AT q0 p1) + (3 : Int32)))])) rfl (by rw [hml]; rfl) (argsL := [(.int (own_O3 q0 p1))]) (rest := [(.int ((own_AT q0 p1) + (3 : Int32)))]) (lenOf own_pd0 rfl) rfl (by show 2 * 0 + _ ≤ _; exact Nat.le_of_eq rfl) (hb hby at_61) (fun _ _ => ⟨rfl, e1, (by decide : 1 + 0 ≤ _), (by decide : 20 + 0 ≤ _)⟩)
  obtain ⟨-, N2q, h2q⟩ := hQ2
  have N2 := Fr.app N0 N2q
  refine own_go (T' := T2) (f' := (mkF m 64 #[.val (.long q0), .second, .val (.int p1), .val (.ref b1), .val (.int (own_AT q0 p1)), .val (.int (own_O3 q0 p1)), .val (.int (own_O2 q0 p1)), .val (.int (own_O1 q0 p1)), .val (.int (own_O0 q0 p1)), .unset, .unset, .unset, .unset] [(.int (own_F1 (own_O3 q0 p1))), (.int ((own_AT q0 p1) + (3 : Int32)))])) (fun t k => st2 _ k) ?_
  refine own_go (T' := T2) (f' := (mkF m 67 #[.val (.long q0), .second, .val (.int p1), .val (.ref b1), .val (.int (own_AT q0 p1)), .val (.int (own_O3 q0 p1)), .val (.int (own_O2 q0 p1)), .val (.int (own_O1 q0 p1)), .val (.int (own_O0 q0 p1)), .unset, .unset, .unset, .unset] [(.int (own_O2 q0 p1)), (.int (((own_AT q0 p1) + (3 : Int32)) + (own_F1 (own_O3 q0 p1))))])) (fun t k => ?_) ?_
  · show Steps p.tables e below (T2.setTop (mkF m 64 #[.val (.long q0), .second, .val (.int p1), .val (.ref b1), .val (.int (own_AT q0 p1)), .val (.int (own_O3 q0 p1)), .val (.int (own_O2 q0 p1)), .val (.int (own_O1 q0 p1)), .val (.int (own_O0 q0 p1)), .unset, .unset, .unset, .unset] [(.int (own_F1 (own_O3 q0 p1))), (.int ((own_AT q0 p1) + (3 : Int32)))])) _
    refine XS.iadd X2.here hx rfl (hb hby at_64) rfl ?_
    show Steps p.tables e below (T2.setTop (mkF m 65 #[.val (.long q0), .second, .val (.int p1), .val (.ref b1), .val (.int (own_AT q0 p1)), .val (.int (own_O3 q0 p1)), .val (.int (own_O2 q0 p1)), .val (.int (own_O1 q0 p1)), .val (.int (own_O0 q0 p1)), .unset, .unset, .unset, .unset] [(.int (((own_AT q0 p1) + (3 : Int32)) + (own_F1 (own_O3 q0 p1))))])) _
    refine XS.iload X2.here hx rfl (hb hby at_65) rfl ?_
    show Steps p.tables e below (T2.setTop (mkF m 67 #[.val (.long q0), .second, .val (.int p1), .val (.ref b1), .val (.int (own_AT q0 p1)), .val (.int (own_O3 q0 p1)), .val (.int (own_O2 q0 p1)), .val (.int (own_O1 q0 p1)), .val (.int (own_O0 q0 p1)), .unset, .unset, .unset, .unset] [(.int (own_O2 q0 p1)), (.int (((own_AT q0 p1) + (3 : Int32)) + (own_F1 (own_O3 q0 p1))))])) _
    exact k
  obtain ⟨T3, Lq3, X3, hQ3, st3⟩ := own_pt (vv := some (.int (own_F1 (own_O2 q0 p1)))) (fun _ _ _ q => q.1) <| Jvm.LawKit.callS X2 hx (y := (⟨"com/example/rowcast/rowcast/identifier/IpTextWriteIpv4PinLaw", "digits", "(I)I"⟩ : MethodName)) hown (mvT hZ (hw _ (List.mem_of_getElem? (i := 2) rfl))) (mvT hZ (hw _ (List.mem_of_getElem? (i := 3) rfl))) (mvT hZ (hw _ (List.mem_of_getElem? (i := 4) rfl))) (mvT hZ (hw _ (List.mem_of_getElem? (i := 5) rfl))) (by decide) (backOf (W := 1) (own_rm1 l Z a0 hw [] ((own_O2 q0 p1))  h1 n0 Zs1 ) hZ (hw _ (List.mem_of_getElem? (i := 5) rfl)) (hw _ (List.mem_of_getElem? (i := 4) rfl)) (by decide) (by decide)) (g := (mkF m 67 #[.val (.long q0), .second, .val (.int p1), .val (.ref b1), .val (.int (own_AT q0 p1)), .val (.int (own_O3 q0 p1)), .val (.int (own_O2 q0 p1)), .val (.int (own_O1 q0 p1)), .val (.int (own_O0 q0 p1)), .unset, .unset, .unset, .unset] [(.int (own_O2 q0 p1)), (.int (((own_AT q0 p1) + (3 : Int32)) + (own_F1 (own_O3 q0 p1))))])) rfl (by rw [hml]; rfl) (argsL := [(.int (own_O2 q0 p1))]) (rest := [(.int (((own_AT q0 p1) + (3 : Int32)) + (own_F1 (own_O3 q0 p1))))]) (lenOf own_pd0 rfl) rfl (by show 2 * 0 + _ ≤ _; exact Nat.le_of_eq rfl) (hb hby at_67) (fun _ _ => ⟨rfl, h2q, (by decide : 1 + 0 ≤ _), (by decide : 20 + 0 ≤ _)⟩)
  obtain ⟨-, N3q, h3q⟩ := hQ3
  have N3 := Fr.app N2 N3q
  refine own_go (T' := T3) (f' := (mkF m 70 #[.val (.long q0), .second, .val (.int p1), .val (.ref b1), .val (.int (own_AT q0 p1)), .val (.int (own_O3 q0 p1)), .val (.int (own_O2 q0 p1)), .val (.int (own_O1 q0 p1)), .val (.int (own_O0 q0 p1)), .unset, .unset, .unset, .unset] [(.int (own_F1 (own_O2 q0 p1))), (.int (((own_AT q0 p1) + (3 : Int32)) + (own_F1 (own_O3 q0 p1))))])) (fun t k => st3 _ k) ?_
  refine own_go (T' := T3) (f' := (mkF m 73 #[.val (.long q0), .second, .val (.int p1), .val (.ref b1), .val (.int (own_AT q0 p1)), .val (.int (own_O3 q0 p1)), .val (.int (own_O2 q0 p1)), .val (.int (own_O1 q0 p1)), .val (.int (own_O0 q0 p1)), .unset, .unset, .unset, .unset] [(.int (own_O1 q0 p1)), (.int ((((own_AT q0 p1) + (3 : Int32)) + (own_F1 (own_O3 q0 p1))) + (own_F1 (own_O2 q0 p1))))])) (fun t k => ?_) ?_
  · show Steps p.tables e below (T3.setTop (mkF m 70 #[.val (.long q0), .second, .val (.int p1), .val (.ref b1), .val (.int (own_AT q0 p1)), .val (.int (own_O3 q0 p1)), .val (.int (own_O2 q0 p1)), .val (.int (own_O1 q0 p1)), .val (.int (own_O0 q0 p1)), .unset, .unset, .unset, .unset] [(.int (own_F1 (own_O2 q0 p1))), (.int (((own_AT q0 p1) + (3 : Int32)) + (own_F1 (own_O3 q0 p1))))])) _
    refine XS.iadd X3.here hx rfl (hb hby at_70) rfl ?_
    show Steps p.tables e below (T3.setTop (mkF m 71 #[.val (.long q0), .second, .val (.int p1), .val (.ref b1), .val (.int (own_AT q0 p1)), .val (.int (own_O3 q0 p1)), .val (.int (own_O2 q0 p1)), .val (.int (own_O1 q0 p1)), .val (.int (own_O0 q0 p1)), .unset, .unset, .unset, .unset] [(.int ((((own_AT q0 p1) + (3 : Int32)) + (own_F1 (own_O3 q0 p1))) + (own_F1 (own_O2 q0 p1))))])) _
    refine XS.iload X3.here hx rfl (hb hby at_71) rfl ?_
    show Steps p.tables e below (T3.setTop (mkF m 73 #[.val (.long q0), .second, .val (.int p1), .val (.ref b1), .val (.int (own_AT q0 p1)), .val (.int (own_O3 q0 p1)), .val (.int (own_O2 q0 p1)), .val (.int (own_O1 q0 p1)), .val (.int (own_O0 q0 p1)), .unset, .unset, .unset, .unset] [(.int (own_O1 q0 p1)), (.int ((((own_AT q0 p1) + (3 : Int32)) + (own_F1 (own_O3 q0 p1))) + (own_F1 (own_O2 q0 p1))))])) _
    exact k
  obtain ⟨T4, Lq4, X4, hQ4, st4⟩ := own_pt (vv := some (.int (own_F1 (own_O1 q0 p1)))) (fun _ _ _ q => q.1) <| Jvm.LawKit.callS X3 hx (y := (⟨"com/example/rowcast/rowcast/identifier/IpTextWriteIpv4PinLaw", "digits", "(I)I"⟩ : MethodName)) hown (mvT hZ (hw _ (List.mem_of_getElem? (i := 2) rfl))) (mvT hZ (hw _ (List.mem_of_getElem? (i := 3) rfl))) (mvT hZ (hw _ (List.mem_of_getElem? (i := 4) rfl))) (mvT hZ (hw _ (List.mem_of_getElem? (i := 5) rfl))) (by decide) (backOf (W := 1) (own_rm1 l Z a0 hw [] ((own_O1 q0 p1))  h1 n0 Zs1 ) hZ (hw _ (List.mem_of_getElem? (i := 5) rfl)) (hw _ (List.mem_of_getElem? (i := 4) rfl)) (by decide) (by decide)) (g := (mkF m 73 #[.val (.long q0), .second, .val (.int p1), .val (.ref b1), .val (.int (own_AT q0 p1)), .val (.int (own_O3 q0 p1)), .val (.int (own_O2 q0 p1)), .val (.int (own_O1 q0 p1)), .val (.int (own_O0 q0 p1)), .unset, .unset, .unset, .unset] [(.int (own_O1 q0 p1)), (.int ((((own_AT q0 p1) + (3 : Int32)) + (own_F1 (own_O3 q0 p1))) + (own_F1 (own_O2 q0 p1))))])) rfl (by rw [hml]; rfl) (argsL := [(.int (own_O1 q0 p1))]) (rest := [(.int ((((own_AT q0 p1) + (3 : Int32)) + (own_F1 (own_O3 q0 p1))) + (own_F1 (own_O2 q0 p1))))]) (lenOf own_pd0 rfl) rfl (by show 2 * 0 + _ ≤ _; exact Nat.le_of_eq rfl) (hb hby at_73) (fun _ _ => ⟨rfl, h3q, (by decide : 1 + 0 ≤ _), (by decide : 20 + 0 ≤ _)⟩)
  obtain ⟨-, N4q, h4q⟩ := hQ4
  have N4 := Fr.app N3 N4q
  refine own_go (T' := T4) (f' := (mkF m 76 #[.val (.long q0), .second, .val (.int p1), .val (.ref b1), .val (.int (own_AT q0 p1)), .val (.int (own_O3 q0 p1)), .val (.int (own_O2 q0 p1)), .val (.int (own_O1 q0 p1)), .val (.int (own_O0 q0 p1)), .unset, .unset, .unset, .unset] [(.int (own_F1 (own_O1 q0 p1))), (.int ((((own_AT q0 p1) + (3 : Int32)) + (own_F1 (own_O3 q0 p1))) + (own_F1 (own_O2 q0 p1))))])) (fun t k => st4 _ k) ?_
  refine own_go (T' := T4) (f' := (mkF m 79 #[.val (.long q0), .second, .val (.int p1), .val (.ref b1), .val (.int (own_AT q0 p1)), .val (.int (own_O3 q0 p1)), .val (.int (own_O2 q0 p1)), .val (.int (own_O1 q0 p1)), .val (.int (own_O0 q0 p1)), .unset, .unset, .unset, .unset] [(.int (own_O0 q0 p1)), (.int (((((own_AT q0 p1) + (3 : Int32)) + (own_F1 (own_O3 q0 p1))) + (own_F1 (own_O2 q0 p1))) + (own_F1 (own_O1 q0 p1))))])) (fun t k => ?_) ?_
  · show Steps p.tables e below (T4.setTop (mkF m 76 #[.val (.long q0), .second, .val (.int p1), .val (.ref b1), .val (.int (own_AT q0 p1)), .val (.int (own_O3 q0 p1)), .val (.int (own_O2 q0 p1)), .val (.int (own_O1 q0 p1)), .val (.int (own_O0 q0 p1)), .unset, .unset, .unset, .unset] [(.int (own_F1 (own_O1 q0 p1))), (.int ((((own_AT q0 p1) + (3 : Int32)) + (own_F1 (own_O3 q0 p1))) + (own_F1 (own_O2 q0 p1))))])) _
    refine XS.iadd X4.here hx rfl (hb hby at_76) rfl ?_
    show Steps p.tables e below (T4.setTop (mkF m 77 #[.val (.long q0), .second, .val (.int p1), .val (.ref b1), .val (.int (own_AT q0 p1)), .val (.int (own_O3 q0 p1)), .val (.int (own_O2 q0 p1)), .val (.int (own_O1 q0 p1)), .val (.int (own_O0 q0 p1)), .unset, .unset, .unset, .unset] [(.int (((((own_AT q0 p1) + (3 : Int32)) + (own_F1 (own_O3 q0 p1))) + (own_F1 (own_O2 q0 p1))) + (own_F1 (own_O1 q0 p1))))])) _
    refine XS.iload X4.here hx rfl (hb hby at_77) rfl ?_
    show Steps p.tables e below (T4.setTop (mkF m 79 #[.val (.long q0), .second, .val (.int p1), .val (.ref b1), .val (.int (own_AT q0 p1)), .val (.int (own_O3 q0 p1)), .val (.int (own_O2 q0 p1)), .val (.int (own_O1 q0 p1)), .val (.int (own_O0 q0 p1)), .unset, .unset, .unset, .unset] [(.int (own_O0 q0 p1)), (.int (((((own_AT q0 p1) + (3 : Int32)) + (own_F1 (own_O3 q0 p1))) + (own_F1 (own_O2 q0 p1))) + (own_F1 (own_O1 q0 p1))))])) _
    exact k
  obtain ⟨T5, Lq5, X5, hQ5, st5⟩ := own_pt (vv := some (.int (own_F1 (own_O0 q0 p1)))) (fun _ _ _ q => q.1) <| Jvm.LawKit.callS X4 hx (y := (⟨"com/example/rowcast/rowcast/identifier/IpTextWriteIpv4PinLaw", "digits", "(I)I"⟩ : MethodName)) hown (mvT hZ (hw _ (List.mem_of_getElem? (i := 2) rfl))) (mvT hZ (hw _ (List.mem_of_getElem? (i := 3) rfl))) (mvT hZ (hw _ (List.mem_of_getElem? (i := 4) rfl))) (mvT hZ (hw _ (List.mem_of_getElem? (i := 5) rfl))) (by decide) (backOf (W := 1) (own_rm1 l Z a0 hw [] ((own_O0 q0 p1))  h1 n0 Zs1 ) hZ (hw _ (List.mem_of_getElem? (i := 5) rfl)) (hw _ (List.mem_of_getElem? (i := 4) rfl)) (by decide) (by decide)) (g := (mkF m 79 #[.val (.long q0), .second, .val (.int p1), .val (.ref b1), .val (.int (own_AT q0 p1)), .val (.int (own_O3 q0 p1)), .val (.int (own_O2 q0 p1)), .val (.int (own_O1 q0 p1)), .val (.int (own_O0 q0 p1)), .unset, .unset, .unset, .unset] [(.int (own_O0 q0 p1)), (.int (((((own_AT q0 p1) + (3 : Int32)) + (own_F1 (own_O3 q0 p1))) + (own_F1 (own_O2 q0 p1))) + (own_F1 (own_O1 q0 p1))))])) rfl (by rw [hml]; rfl) (argsL := [(.int (own_O0 q0 p1))]) (rest := [(.int (((((own_AT q0 p1) + (3 : Int32)) + (own_F1 (own_O3 q0 p1))) + (own_F1 (own_O2 q0 p1))) + (own_F1 (own_O1 q0 p1))))]) (lenOf own_pd0 rfl) rfl (by show 2 * 0 + _ ≤ _; exact Nat.le_of_eq rfl) (hb hby at_79) (fun _ _ => ⟨rfl, h4q, (by decide : 1 + 0 ≤ _), (by decide : 20 + 0 ≤ _)⟩)
  obtain ⟨-, N5q, h5q⟩ := hQ5
  have N5 := Fr.app N4 N5q
  refine own_go (T' := T5) (f' := (mkF m 82 #[.val (.long q0), .second, .val (.int p1), .val (.ref b1), .val (.int (own_AT q0 p1)), .val (.int (own_O3 q0 p1)), .val (.int (own_O2 q0 p1)), .val (.int (own_O1 q0 p1)), .val (.int (own_O0 q0 p1)), .unset, .unset, .unset, .unset] [(.int (own_F1 (own_O0 q0 p1))), (.int (((((own_AT q0 p1) + (3 : Int32)) + (own_F1 (own_O3 q0 p1))) + (own_F1 (own_O2 q0 p1))) + (own_F1 (own_O1 q0 p1))))])) (fun t k => st5 _ k) ?_
  refine own_go (T' := T5) (f' := (mkF m 89 #[.val (.long q0), .second, .val (.int p1), .val (.ref b1), .val (.int (own_AT q0 p1)), .val (.int (own_O3 q0 p1)), .val (.int (own_O2 q0 p1)), .val (.int (own_O1 q0 p1)), .val (.int (own_O0 q0 p1)), .val (.int ((((((own_AT q0 p1) + (3 : Int32)) + (own_F1 (own_O3 q0 p1))) + (own_F1 (own_O2 q0 p1))) + (own_F1 (own_O1 q0 p1))) + (own_F1 (own_O0 q0 p1)))), .unset, .unset, .unset] [(.int (own_AT q0 p1)), (.ref b1), (.long q0)])) (fun t k => ?_) ?_
  · show Steps p.tables e below (T5.setTop (mkF m 82 #[.val (.long q0), .second, .val (.int p1), .val (.ref b1), .val (.int (own_AT q0 p1)), .val (.int (own_O3 q0 p1)), .val (.int (own_O2 q0 p1)), .val (.int (own_O1 q0 p1)), .val (.int (own_O0 q0 p1)), .unset, .unset, .unset, .unset] [(.int (own_F1 (own_O0 q0 p1))), (.int (((((own_AT q0 p1) + (3 : Int32)) + (own_F1 (own_O3 q0 p1))) + (own_F1 (own_O2 q0 p1))) + (own_F1 (own_O1 q0 p1))))])) _
    refine XS.iadd X5.here hx rfl (hb hby at_82) rfl ?_
    show Steps p.tables e below (T5.setTop (mkF m 83 #[.val (.long q0), .second, .val (.int p1), .val (.ref b1), .val (.int (own_AT q0 p1)), .val (.int (own_O3 q0 p1)), .val (.int (own_O2 q0 p1)), .val (.int (own_O1 q0 p1)), .val (.int (own_O0 q0 p1)), .unset, .unset, .unset, .unset] [(.int ((((((own_AT q0 p1) + (3 : Int32)) + (own_F1 (own_O3 q0 p1))) + (own_F1 (own_O2 q0 p1))) + (own_F1 (own_O1 q0 p1))) + (own_F1 (own_O0 q0 p1))))])) _
    refine XS.istore X5.here hx rfl (hb hby at_83) rfl (l' := #[.val (.long q0), .second, .val (.int p1), .val (.ref b1), .val (.int (own_AT q0 p1)), .val (.int (own_O3 q0 p1)), .val (.int (own_O2 q0 p1)), .val (.int (own_O1 q0 p1)), .val (.int (own_O0 q0 p1)), .val (.int ((((((own_AT q0 p1) + (3 : Int32)) + (own_F1 (own_O3 q0 p1))) + (own_F1 (own_O2 q0 p1))) + (own_F1 (own_O1 q0 p1))) + (own_F1 (own_O0 q0 p1)))), .unset, .unset, .unset]) rfl ?_
    show Steps p.tables e below (T5.setTop (mkF m 85 #[.val (.long q0), .second, .val (.int p1), .val (.ref b1), .val (.int (own_AT q0 p1)), .val (.int (own_O3 q0 p1)), .val (.int (own_O2 q0 p1)), .val (.int (own_O1 q0 p1)), .val (.int (own_O0 q0 p1)), .val (.int ((((((own_AT q0 p1) + (3 : Int32)) + (own_F1 (own_O3 q0 p1))) + (own_F1 (own_O2 q0 p1))) + (own_F1 (own_O1 q0 p1))) + (own_F1 (own_O0 q0 p1)))), .unset, .unset, .unset] [])) _
    refine XS.lloadN X5.here hx rfl (hb hby at_85) rfl ?_
    show Steps p.tables e below (T5.setTop (mkF m 86 #[.val (.long q0), .second, .val (.int p1), .val (.ref b1), .val (.int (own_AT q0 p1)), .val (.int (own_O3 q0 p1)), .val (.int (own_O2 q0 p1)), .val (.int (own_O1 q0 p1)), .val (.int (own_O0 q0 p1)), .val (.int ((((((own_AT q0 p1) + (3 : Int32)) + (own_F1 (own_O3 q0 p1))) + (own_F1 (own_O2 q0 p1))) + (own_F1 (own_O1 q0 p1))) + (own_F1 (own_O0 q0 p1)))), .unset, .unset, .unset] [(.long q0)])) _
    refine XS.aloadN X5.here hx rfl (hb hby at_86) rfl rfl ?_
    show Steps p.tables e below (T5.setTop (mkF m 87 #[.val (.long q0), .second, .val (.int p1), .val (.ref b1), .val (.int (own_AT q0 p1)), .val (.int (own_O3 q0 p1)), .val (.int (own_O2 q0 p1)), .val (.int (own_O1 q0 p1)), .val (.int (own_O0 q0 p1)), .val (.int ((((((own_AT q0 p1) + (3 : Int32)) + (own_F1 (own_O3 q0 p1))) + (own_F1 (own_O2 q0 p1))) + (own_F1 (own_O1 q0 p1))) + (own_F1 (own_O0 q0 p1)))), .unset, .unset, .unset] [(.ref b1), (.long q0)])) _
    refine XS.iload X5.here hx rfl (hb hby at_87) rfl ?_
    show Steps p.tables e below (T5.setTop (mkF m 89 #[.val (.long q0), .second, .val (.int p1), .val (.ref b1), .val (.int (own_AT q0 p1)), .val (.int (own_O3 q0 p1)), .val (.int (own_O2 q0 p1)), .val (.int (own_O1 q0 p1)), .val (.int (own_O0 q0 p1)), .val (.int ((((((own_AT q0 p1) + (3 : Int32)) + (own_F1 (own_O3 q0 p1))) + (own_F1 (own_O2 q0 p1))) + (own_F1 (own_O1 q0 p1))) + (own_F1 (own_O0 q0 p1)))), .unset, .unset, .unset] [(.int (own_AT q0 p1)), (.ref b1), (.long q0)])) _
    exact k
  obtain ⟨_, _, ⟨T6, Lq6, kq6, nq6⟩, -, X6, ⟨Lc6, hQ6, lq6, yq6, zq6⟩, st6⟩ := Jvm.LawKit.callS X5 hx (y := (⟨"com/example/rowcast/rowcast/identifier/IpText", "writeIpv4", "(J[BI)I"⟩ : MethodName)) hown (mvT hZ (hw _ (List.mem_of_getElem? (i := 6) rfl))) (mvT hZ (hw _ (List.mem_of_getElem? (i := 7) rfl))) (mvT hZ (hw _ (List.mem_of_getElem? (i := 8) rfl))) (mvT hZ (hw _ (List.mem_of_getElem? (i := 9) rfl))) (by decide) (backOf (W := 0) (own_rm2 l Z a0 hw [] q0 b1 ((own_AT q0 p1)) ((20 : Int32)) ((fun _ => 0)) h1 n0 Zs1 V1 g_b1 (own_AT_rng q0 p1).1 (by have a := (own_AT_rng q0 p1).2; have e : (20 : Int32).toInt = 20 := rfl; omega)) hZ (hw _ (List.mem_of_getElem? (i := 9) rfl)) (hw _ (List.mem_of_getElem? (i := 8) rfl)) (by decide) (by decide)) (g := (mkF m 89 #[.val (.long q0), .second, .val (.int p1), .val (.ref b1), .val (.int (own_AT q0 p1)), .val (.int (own_O3 q0 p1)), .val (.int (own_O2 q0 p1)), .val (.int (own_O1 q0 p1)), .val (.int (own_O0 q0 p1)), .val (.int ((((((own_AT q0 p1) + (3 : Int32)) + (own_F1 (own_O3 q0 p1))) + (own_F1 (own_O2 q0 p1))) + (own_F1 (own_O1 q0 p1))) + (own_F1 (own_O0 q0 p1)))), .unset, .unset, .unset] [(.int (own_AT q0 p1)), (.ref b1), (.long q0)])) rfl (by rw [hml]; rfl) (argsL := [(.long q0), (.ref b1), (.int (own_AT q0 p1))]) (rest := []) (lenOf own_pd1 rfl) rfl (by show 2 * 0 + _ ≤ _; exact Nat.le_of_eq rfl) (hb hby at_89) (fun _ _ => ⟨rfl, h5q, (by decide : 1 + 0 ≤ _), (by decide : 20 + 0 ≤ _)⟩)
  dsimp only [Pt.U, Pt.locs, Pt.cells, Pt.slots] at X6 lq6 yq6 zq6 st6 hQ6
  subst lq6 yq6 zq6
  obtain ⟨f'_6, r_6, rfl, N6q, h6q, p6_0, r6_ws⟩ := hQ6
  have N6 := Fr.app N5 N6q
  have Zs6 : n0 ≤ T6.heap.size := Nat.le_trans Zs1 h6q.1
  refine own_go (T' := T6) (f' := (mkF m 92 #[.val (.long q0), .second, .val (.int p1), .val (.ref b1), .val (.int (own_AT q0 p1)), .val (.int (own_O3 q0 p1)), .val (.int (own_O2 q0 p1)), .val (.int (own_O1 q0 p1)), .val (.int (own_O0 q0 p1)), .val (.int ((((((own_AT q0 p1) + (3 : Int32)) + (own_F1 (own_O3 q0 p1))) + (own_F1 (own_O2 q0 p1))) + (own_F1 (own_O1 q0 p1))) + (own_F1 (own_O0 q0 p1)))), .unset, .unset, .unset] [(.int r_6)])) (fun t k => st6 _ k) ?_
  have hok := own_ok q0 p1 r6_ws
  refine own_go (T' := T6) (f' := (mkF m 107 #[.val (.long q0), .second, .val (.int p1), .val (.ref b1), .val (.int (own_AT q0 p1)), .val (.int (own_O3 q0 p1)), .val (.int (own_O2 q0 p1)), .val (.int (own_O1 q0 p1)), .val (.int (own_O0 q0 p1)), .val (.int ((((((own_AT q0 p1) + (3 : Int32)) + (own_F1 (own_O3 q0 p1))) + (own_F1 (own_O2 q0 p1))) + (own_F1 (own_O1 q0 p1))) + (own_F1 (own_O0 q0 p1)))), .val (.int r_6), .unset, .unset] [(.int (own_AT q0 p1)), (.int (0 : Int32)), (.ref b1)])) (fun t k => ?_) ?_
  · show Steps p.tables e below (T6.setTop (mkF m 92 #[.val (.long q0), .second, .val (.int p1), .val (.ref b1), .val (.int (own_AT q0 p1)), .val (.int (own_O3 q0 p1)), .val (.int (own_O2 q0 p1)), .val (.int (own_O1 q0 p1)), .val (.int (own_O0 q0 p1)), .val (.int ((((((own_AT q0 p1) + (3 : Int32)) + (own_F1 (own_O3 q0 p1))) + (own_F1 (own_O2 q0 p1))) + (own_F1 (own_O1 q0 p1))) + (own_F1 (own_O0 q0 p1)))), .unset, .unset, .unset] [(.int r_6)])) _
    refine XS.istore X6.here hx rfl (hb hby at_92) rfl (l' := #[.val (.long q0), .second, .val (.int p1), .val (.ref b1), .val (.int (own_AT q0 p1)), .val (.int (own_O3 q0 p1)), .val (.int (own_O2 q0 p1)), .val (.int (own_O1 q0 p1)), .val (.int (own_O0 q0 p1)), .val (.int ((((((own_AT q0 p1) + (3 : Int32)) + (own_F1 (own_O3 q0 p1))) + (own_F1 (own_O2 q0 p1))) + (own_F1 (own_O1 q0 p1))) + (own_F1 (own_O0 q0 p1)))), .val (.int r_6), .unset, .unset]) rfl ?_
    show Steps p.tables e below (T6.setTop (mkF m 94 #[.val (.long q0), .second, .val (.int p1), .val (.ref b1), .val (.int (own_AT q0 p1)), .val (.int (own_O3 q0 p1)), .val (.int (own_O2 q0 p1)), .val (.int (own_O1 q0 p1)), .val (.int (own_O0 q0 p1)), .val (.int ((((((own_AT q0 p1) + (3 : Int32)) + (own_F1 (own_O3 q0 p1))) + (own_F1 (own_O2 q0 p1))) + (own_F1 (own_O1 q0 p1))) + (own_F1 (own_O0 q0 p1)))), .val (.int r_6), .unset, .unset] [])) _
    refine XS.iload X6.here hx rfl (hb hby at_94) rfl ?_
    show Steps p.tables e below (T6.setTop (mkF m 96 #[.val (.long q0), .second, .val (.int p1), .val (.ref b1), .val (.int (own_AT q0 p1)), .val (.int (own_O3 q0 p1)), .val (.int (own_O2 q0 p1)), .val (.int (own_O1 q0 p1)), .val (.int (own_O0 q0 p1)), .val (.int ((((((own_AT q0 p1) + (3 : Int32)) + (own_F1 (own_O3 q0 p1))) + (own_F1 (own_O2 q0 p1))) + (own_F1 (own_O1 q0 p1))) + (own_F1 (own_O0 q0 p1)))), .val (.int r_6), .unset, .unset] [(.int r_6)])) _
    refine XS.iload X6.here hx rfl (hb hby at_96) rfl ?_
    show Steps p.tables e below (T6.setTop (mkF m 98 #[.val (.long q0), .second, .val (.int p1), .val (.ref b1), .val (.int (own_AT q0 p1)), .val (.int (own_O3 q0 p1)), .val (.int (own_O2 q0 p1)), .val (.int (own_O1 q0 p1)), .val (.int (own_O0 q0 p1)), .val (.int ((((((own_AT q0 p1) + (3 : Int32)) + (own_F1 (own_O3 q0 p1))) + (own_F1 (own_O2 q0 p1))) + (own_F1 (own_O1 q0 p1))) + (own_F1 (own_O0 q0 p1)))), .val (.int r_6), .unset, .unset] [(.int ((((((own_AT q0 p1) + (3 : Int32)) + (own_F1 (own_O3 q0 p1))) + (own_F1 (own_O2 q0 p1))) + (own_F1 (own_O1 q0 p1))) + (own_F1 (own_O0 q0 p1)))), (.int r_6)])) _
    refine XS.icmpYes X6.here hx rfl (pc0 := 98) (pc' := 103) rfl (hb hby at_98) rfl (teq hok.1).1 (by decide) (by decide) ?_
    show Steps p.tables e below (T6.setTop (mkF m 103 #[.val (.long q0), .second, .val (.int p1), .val (.ref b1), .val (.int (own_AT q0 p1)), .val (.int (own_O3 q0 p1)), .val (.int (own_O2 q0 p1)), .val (.int (own_O1 q0 p1)), .val (.int (own_O0 q0 p1)), .val (.int ((((((own_AT q0 p1) + (3 : Int32)) + (own_F1 (own_O3 q0 p1))) + (own_F1 (own_O2 q0 p1))) + (own_F1 (own_O1 q0 p1))) + (own_F1 (own_O0 q0 p1)))), .val (.int r_6), .unset, .unset] [])) _
    refine XS.aloadN X6.here hx rfl (hb hby at_103) rfl rfl ?_
    show Steps p.tables e below (T6.setTop (mkF m 104 #[.val (.long q0), .second, .val (.int p1), .val (.ref b1), .val (.int (own_AT q0 p1)), .val (.int (own_O3 q0 p1)), .val (.int (own_O2 q0 p1)), .val (.int (own_O1 q0 p1)), .val (.int (own_O0 q0 p1)), .val (.int ((((((own_AT q0 p1) + (3 : Int32)) + (own_F1 (own_O3 q0 p1))) + (own_F1 (own_O2 q0 p1))) + (own_F1 (own_O1 q0 p1))) + (own_F1 (own_O0 q0 p1)))), .val (.int r_6), .unset, .unset] [(.ref b1)])) _
    refine XS.iconst X6.here hx rfl (hb hby at_104) ?_
    show Steps p.tables e below (T6.setTop (mkF m 105 #[.val (.long q0), .second, .val (.int p1), .val (.ref b1), .val (.int (own_AT q0 p1)), .val (.int (own_O3 q0 p1)), .val (.int (own_O2 q0 p1)), .val (.int (own_O1 q0 p1)), .val (.int (own_O0 q0 p1)), .val (.int ((((((own_AT q0 p1) + (3 : Int32)) + (own_F1 (own_O3 q0 p1))) + (own_F1 (own_O2 q0 p1))) + (own_F1 (own_O1 q0 p1))) + (own_F1 (own_O0 q0 p1)))), .val (.int r_6), .unset, .unset] [(.int (0 : Int32)), (.ref b1)])) _
    refine XS.iload X6.here hx rfl (hb hby at_105) rfl ?_
    show Steps p.tables e below (T6.setTop (mkF m 107 #[.val (.long q0), .second, .val (.int p1), .val (.ref b1), .val (.int (own_AT q0 p1)), .val (.int (own_O3 q0 p1)), .val (.int (own_O2 q0 p1)), .val (.int (own_O1 q0 p1)), .val (.int (own_O0 q0 p1)), .val (.int ((((((own_AT q0 p1) + (3 : Int32)) + (own_F1 (own_O3 q0 p1))) + (own_F1 (own_O2 q0 p1))) + (own_F1 (own_O1 q0 p1))) + (own_F1 (own_O0 q0 p1)))), .val (.int r_6), .unset, .unset] [(.int (own_AT q0 p1)), (.int (0 : Int32)), (.ref b1)])) _
    exact k
  obtain ⟨T7, Lq7, X7, hQ7, st7⟩ := own_pt (vv := some (.int (own_F3 (0 : Int32) (own_AT q0 p1) (20 : Int32) f'_6))) (fun _ _ _ q => q.1) <| Jvm.LawKit.callS X6 hx (y := (⟨"com/example/rowcast/rowcast/identifier/IpTextWriteIpv4PinLaw", "untouchedBefore", "([BII)Z"⟩ : MethodName)) hown (mvT hZ (hw _ (List.mem_of_getElem? (i := 10) rfl))) (mvT hZ (hw _ (List.mem_of_getElem? (i := 11) rfl))) (mvT hZ (hw _ (List.mem_of_getElem? (i := 4) rfl))) (mvT hZ (hw _ (List.mem_of_getElem? (i := 12) rfl))) (by decide) (backOf (W := 0) (own_rm3 l Z a0 hw [] b1 ((0 : Int32)) ((own_AT q0 p1)) ((20 : Int32)) (f'_6) T6.heap n0 Zs6 p6_0 (by decide) (by decide)) hZ (hw _ (List.mem_of_getElem? (i := 12) rfl)) (hw _ (List.mem_of_getElem? (i := 4) rfl)) (by decide) (by decide)) (g := (mkF m 107 #[.val (.long q0), .second, .val (.int p1), .val (.ref b1), .val (.int (own_AT q0 p1)), .val (.int (own_O3 q0 p1)), .val (.int (own_O2 q0 p1)), .val (.int (own_O1 q0 p1)), .val (.int (own_O0 q0 p1)), .val (.int ((((((own_AT q0 p1) + (3 : Int32)) + (own_F1 (own_O3 q0 p1))) + (own_F1 (own_O2 q0 p1))) + (own_F1 (own_O1 q0 p1))) + (own_F1 (own_O0 q0 p1)))), .val (.int r_6), .unset, .unset] [(.int (own_AT q0 p1)), (.int (0 : Int32)), (.ref b1)])) rfl (by rw [hml]; rfl) (argsL := [(.ref b1), (.int (0 : Int32)), (.int (own_AT q0 p1))]) (rest := []) (lenOf own_pd2 rfl) rfl (by show 2 * 0 + _ ≤ _; exact Nat.le_of_eq rfl) (hb hby at_107) (fun _ _ => ⟨rfl, rfl, (by decide : 1 + 0 ≤ _), (by decide : 20 + 0 ≤ _)⟩)
  obtain ⟨-, N7q, h7q⟩ := hQ7
  have N7 := Fr.app N6 N7q
  refine own_go (T' := T7) (f' := (mkF m 110 #[.val (.long q0), .second, .val (.int p1), .val (.ref b1), .val (.int (own_AT q0 p1)), .val (.int (own_O3 q0 p1)), .val (.int (own_O2 q0 p1)), .val (.int (own_O1 q0 p1)), .val (.int (own_O0 q0 p1)), .val (.int ((((((own_AT q0 p1) + (3 : Int32)) + (own_F1 (own_O3 q0 p1))) + (own_F1 (own_O2 q0 p1))) + (own_F1 (own_O1 q0 p1))) + (own_F1 (own_O0 q0 p1)))), .val (.int r_6), .unset, .unset] [(.int (own_F3 (0 : Int32) (own_AT q0 p1) (20 : Int32) f'_6))])) (fun t k => st7 _ k) ?_
  refine own_go (T' := T7) (f' := (mkF m 117 #[.val (.long q0), .second, .val (.int p1), .val (.ref b1), .val (.int (own_AT q0 p1)), .val (.int (own_O3 q0 p1)), .val (.int (own_O2 q0 p1)), .val (.int (own_O1 q0 p1)), .val (.int (own_O0 q0 p1)), .val (.int ((((((own_AT q0 p1) + (3 : Int32)) + (own_F1 (own_O3 q0 p1))) + (own_F1 (own_O2 q0 p1))) + (own_F1 (own_O1 q0 p1))) + (own_F1 (own_O0 q0 p1)))), .val (.int r_6), .unset, .unset] [(.int (own_AT q0 p1)), (.int (1 : Int32)), (.ref b1)])) (fun t k => ?_) ?_
  · show Steps p.tables e below (T7.setTop (mkF m 110 #[.val (.long q0), .second, .val (.int p1), .val (.ref b1), .val (.int (own_AT q0 p1)), .val (.int (own_O3 q0 p1)), .val (.int (own_O2 q0 p1)), .val (.int (own_O1 q0 p1)), .val (.int (own_O0 q0 p1)), .val (.int ((((((own_AT q0 p1) + (3 : Int32)) + (own_F1 (own_O3 q0 p1))) + (own_F1 (own_O2 q0 p1))) + (own_F1 (own_O1 q0 p1))) + (own_F1 (own_O0 q0 p1)))), .val (.int r_6), .unset, .unset] [(.int (own_F3 (0 : Int32) (own_AT q0 p1) (20 : Int32) f'_6))])) _
    refine XS.ifNo X7.here hx rfl (hb hby at_110) rfl ((if0 _ _).trans (feq (own_unt q0 p1 r6_ws (0 : Int32) (by decide))).1) ?_
    show Steps p.tables e below (T7.setTop (mkF m 113 #[.val (.long q0), .second, .val (.int p1), .val (.ref b1), .val (.int (own_AT q0 p1)), .val (.int (own_O3 q0 p1)), .val (.int (own_O2 q0 p1)), .val (.int (own_O1 q0 p1)), .val (.int (own_O0 q0 p1)), .val (.int ((((((own_AT q0 p1) + (3 : Int32)) + (own_F1 (own_O3 q0 p1))) + (own_F1 (own_O2 q0 p1))) + (own_F1 (own_O1 q0 p1))) + (own_F1 (own_O0 q0 p1)))), .val (.int r_6), .unset, .unset] [])) _
    refine XS.aloadN X7.here hx rfl (hb hby at_113) rfl rfl ?_
    show Steps p.tables e below (T7.setTop (mkF m 114 #[.val (.long q0), .second, .val (.int p1), .val (.ref b1), .val (.int (own_AT q0 p1)), .val (.int (own_O3 q0 p1)), .val (.int (own_O2 q0 p1)), .val (.int (own_O1 q0 p1)), .val (.int (own_O0 q0 p1)), .val (.int ((((((own_AT q0 p1) + (3 : Int32)) + (own_F1 (own_O3 q0 p1))) + (own_F1 (own_O2 q0 p1))) + (own_F1 (own_O1 q0 p1))) + (own_F1 (own_O0 q0 p1)))), .val (.int r_6), .unset, .unset] [(.ref b1)])) _
    refine XS.iconst X7.here hx rfl (hb hby at_114) ?_
    show Steps p.tables e below (T7.setTop (mkF m 115 #[.val (.long q0), .second, .val (.int p1), .val (.ref b1), .val (.int (own_AT q0 p1)), .val (.int (own_O3 q0 p1)), .val (.int (own_O2 q0 p1)), .val (.int (own_O1 q0 p1)), .val (.int (own_O0 q0 p1)), .val (.int ((((((own_AT q0 p1) + (3 : Int32)) + (own_F1 (own_O3 q0 p1))) + (own_F1 (own_O2 q0 p1))) + (own_F1 (own_O1 q0 p1))) + (own_F1 (own_O0 q0 p1)))), .val (.int r_6), .unset, .unset] [(.int (1 : Int32)), (.ref b1)])) _
    refine XS.iload X7.here hx rfl (hb hby at_115) rfl ?_
    show Steps p.tables e below (T7.setTop (mkF m 117 #[.val (.long q0), .second, .val (.int p1), .val (.ref b1), .val (.int (own_AT q0 p1)), .val (.int (own_O3 q0 p1)), .val (.int (own_O2 q0 p1)), .val (.int (own_O1 q0 p1)), .val (.int (own_O0 q0 p1)), .val (.int ((((((own_AT q0 p1) + (3 : Int32)) + (own_F1 (own_O3 q0 p1))) + (own_F1 (own_O2 q0 p1))) + (own_F1 (own_O1 q0 p1))) + (own_F1 (own_O0 q0 p1)))), .val (.int r_6), .unset, .unset] [(.int (own_AT q0 p1)), (.int (1 : Int32)), (.ref b1)])) _
    exact k
  obtain ⟨T8, Lq8, X8, hQ8, st8⟩ := own_pt (vv := some (.int (own_F3 (1 : Int32) (own_AT q0 p1) (20 : Int32) f'_6))) (fun _ _ _ q => q.1) <| Jvm.LawKit.callS X7 hx (y := (⟨"com/example/rowcast/rowcast/identifier/IpTextWriteIpv4PinLaw", "untouchedBefore", "([BII)Z"⟩ : MethodName)) hown (mvT hZ (hw _ (List.mem_of_getElem? (i := 10) rfl))) (mvT hZ (hw _ (List.mem_of_getElem? (i := 11) rfl))) (mvT hZ (hw _ (List.mem_of_getElem? (i := 4) rfl))) (mvT hZ (hw _ (List.mem_of_getElem? (i := 12) rfl))) (by decide) (backOf (W := 0) (own_rm3 l Z a0 hw [] b1 ((1 : Int32)) ((own_AT q0 p1)) ((20 : Int32)) (f'_6) T6.heap n0 Zs6 p6_0 (by decide) (by decide)) hZ (hw _ (List.mem_of_getElem? (i := 12) rfl)) (hw _ (List.mem_of_getElem? (i := 4) rfl)) (by decide) (by decide)) (g := (mkF m 117 #[.val (.long q0), .second, .val (.int p1), .val (.ref b1), .val (.int (own_AT q0 p1)), .val (.int (own_O3 q0 p1)), .val (.int (own_O2 q0 p1)), .val (.int (own_O1 q0 p1)), .val (.int (own_O0 q0 p1)), .val (.int ((((((own_AT q0 p1) + (3 : Int32)) + (own_F1 (own_O3 q0 p1))) + (own_F1 (own_O2 q0 p1))) + (own_F1 (own_O1 q0 p1))) + (own_F1 (own_O0 q0 p1)))), .val (.int r_6), .unset, .unset] [(.int (own_AT q0 p1)), (.int (1 : Int32)), (.ref b1)])) rfl (by rw [hml]; rfl) (argsL := [(.ref b1), (.int (1 : Int32)), (.int (own_AT q0 p1))]) (rest := []) (lenOf own_pd2 rfl) rfl (by show 2 * 0 + _ ≤ _; exact Nat.le_of_eq rfl) (hb hby at_117) (fun _ _ => ⟨rfl, h7q, (by decide : 1 + 0 ≤ _), (by decide : 20 + 0 ≤ _)⟩)
  obtain ⟨-, N8q, h8q⟩ := hQ8
  have N8 := Fr.app N7 N8q
  refine own_go (T' := T8) (f' := (mkF m 120 #[.val (.long q0), .second, .val (.int p1), .val (.ref b1), .val (.int (own_AT q0 p1)), .val (.int (own_O3 q0 p1)), .val (.int (own_O2 q0 p1)), .val (.int (own_O1 q0 p1)), .val (.int (own_O0 q0 p1)), .val (.int ((((((own_AT q0 p1) + (3 : Int32)) + (own_F1 (own_O3 q0 p1))) + (own_F1 (own_O2 q0 p1))) + (own_F1 (own_O1 q0 p1))) + (own_F1 (own_O0 q0 p1)))), .val (.int r_6), .unset, .unset] [(.int (own_F3 (1 : Int32) (own_AT q0 p1) (20 : Int32) f'_6))])) (fun t k => st8 _ k) ?_
  refine own_go (T' := T8) (f' := (mkF m 127 #[.val (.long q0), .second, .val (.int p1), .val (.ref b1), .val (.int (own_AT q0 p1)), .val (.int (own_O3 q0 p1)), .val (.int (own_O2 q0 p1)), .val (.int (own_O1 q0 p1)), .val (.int (own_O0 q0 p1)), .val (.int ((((((own_AT q0 p1) + (3 : Int32)) + (own_F1 (own_O3 q0 p1))) + (own_F1 (own_O2 q0 p1))) + (own_F1 (own_O1 q0 p1))) + (own_F1 (own_O0 q0 p1)))), .val (.int r_6), .unset, .unset] [(.int (own_AT q0 p1)), (.int (2 : Int32)), (.ref b1)])) (fun t k => ?_) ?_
  · show Steps p.tables e below (T8.setTop (mkF m 120 #[.val (.long q0), .second, .val (.int p1), .val (.ref b1), .val (.int (own_AT q0 p1)), .val (.int (own_O3 q0 p1)), .val (.int (own_O2 q0 p1)), .val (.int (own_O1 q0 p1)), .val (.int (own_O0 q0 p1)), .val (.int ((((((own_AT q0 p1) + (3 : Int32)) + (own_F1 (own_O3 q0 p1))) + (own_F1 (own_O2 q0 p1))) + (own_F1 (own_O1 q0 p1))) + (own_F1 (own_O0 q0 p1)))), .val (.int r_6), .unset, .unset] [(.int (own_F3 (1 : Int32) (own_AT q0 p1) (20 : Int32) f'_6))])) _
    refine XS.ifNo X8.here hx rfl (hb hby at_120) rfl ((if0 _ _).trans (feq (own_unt q0 p1 r6_ws (1 : Int32) (by decide))).1) ?_
    show Steps p.tables e below (T8.setTop (mkF m 123 #[.val (.long q0), .second, .val (.int p1), .val (.ref b1), .val (.int (own_AT q0 p1)), .val (.int (own_O3 q0 p1)), .val (.int (own_O2 q0 p1)), .val (.int (own_O1 q0 p1)), .val (.int (own_O0 q0 p1)), .val (.int ((((((own_AT q0 p1) + (3 : Int32)) + (own_F1 (own_O3 q0 p1))) + (own_F1 (own_O2 q0 p1))) + (own_F1 (own_O1 q0 p1))) + (own_F1 (own_O0 q0 p1)))), .val (.int r_6), .unset, .unset] [])) _
    refine XS.aloadN X8.here hx rfl (hb hby at_123) rfl rfl ?_
    show Steps p.tables e below (T8.setTop (mkF m 124 #[.val (.long q0), .second, .val (.int p1), .val (.ref b1), .val (.int (own_AT q0 p1)), .val (.int (own_O3 q0 p1)), .val (.int (own_O2 q0 p1)), .val (.int (own_O1 q0 p1)), .val (.int (own_O0 q0 p1)), .val (.int ((((((own_AT q0 p1) + (3 : Int32)) + (own_F1 (own_O3 q0 p1))) + (own_F1 (own_O2 q0 p1))) + (own_F1 (own_O1 q0 p1))) + (own_F1 (own_O0 q0 p1)))), .val (.int r_6), .unset, .unset] [(.ref b1)])) _
    refine XS.iconst X8.here hx rfl (hb hby at_124) ?_
    show Steps p.tables e below (T8.setTop (mkF m 125 #[.val (.long q0), .second, .val (.int p1), .val (.ref b1), .val (.int (own_AT q0 p1)), .val (.int (own_O3 q0 p1)), .val (.int (own_O2 q0 p1)), .val (.int (own_O1 q0 p1)), .val (.int (own_O0 q0 p1)), .val (.int ((((((own_AT q0 p1) + (3 : Int32)) + (own_F1 (own_O3 q0 p1))) + (own_F1 (own_O2 q0 p1))) + (own_F1 (own_O1 q0 p1))) + (own_F1 (own_O0 q0 p1)))), .val (.int r_6), .unset, .unset] [(.int (2 : Int32)), (.ref b1)])) _
    refine XS.iload X8.here hx rfl (hb hby at_125) rfl ?_
    show Steps p.tables e below (T8.setTop (mkF m 127 #[.val (.long q0), .second, .val (.int p1), .val (.ref b1), .val (.int (own_AT q0 p1)), .val (.int (own_O3 q0 p1)), .val (.int (own_O2 q0 p1)), .val (.int (own_O1 q0 p1)), .val (.int (own_O0 q0 p1)), .val (.int ((((((own_AT q0 p1) + (3 : Int32)) + (own_F1 (own_O3 q0 p1))) + (own_F1 (own_O2 q0 p1))) + (own_F1 (own_O1 q0 p1))) + (own_F1 (own_O0 q0 p1)))), .val (.int r_6), .unset, .unset] [(.int (own_AT q0 p1)), (.int (2 : Int32)), (.ref b1)])) _
    exact k
  obtain ⟨T9, Lq9, X9, hQ9, st9⟩ := own_pt (vv := some (.int (own_F3 (2 : Int32) (own_AT q0 p1) (20 : Int32) f'_6))) (fun _ _ _ q => q.1) <| Jvm.LawKit.callS X8 hx (y := (⟨"com/example/rowcast/rowcast/identifier/IpTextWriteIpv4PinLaw", "untouchedBefore", "([BII)Z"⟩ : MethodName)) hown (mvT hZ (hw _ (List.mem_of_getElem? (i := 10) rfl))) (mvT hZ (hw _ (List.mem_of_getElem? (i := 11) rfl))) (mvT hZ (hw _ (List.mem_of_getElem? (i := 4) rfl))) (mvT hZ (hw _ (List.mem_of_getElem? (i := 12) rfl))) (by decide) (backOf (W := 0) (own_rm3 l Z a0 hw [] b1 ((2 : Int32)) ((own_AT q0 p1)) ((20 : Int32)) (f'_6) T6.heap n0 Zs6 p6_0 (by decide) (by decide)) hZ (hw _ (List.mem_of_getElem? (i := 12) rfl)) (hw _ (List.mem_of_getElem? (i := 4) rfl)) (by decide) (by decide)) (g := (mkF m 127 #[.val (.long q0), .second, .val (.int p1), .val (.ref b1), .val (.int (own_AT q0 p1)), .val (.int (own_O3 q0 p1)), .val (.int (own_O2 q0 p1)), .val (.int (own_O1 q0 p1)), .val (.int (own_O0 q0 p1)), .val (.int ((((((own_AT q0 p1) + (3 : Int32)) + (own_F1 (own_O3 q0 p1))) + (own_F1 (own_O2 q0 p1))) + (own_F1 (own_O1 q0 p1))) + (own_F1 (own_O0 q0 p1)))), .val (.int r_6), .unset, .unset] [(.int (own_AT q0 p1)), (.int (2 : Int32)), (.ref b1)])) rfl (by rw [hml]; rfl) (argsL := [(.ref b1), (.int (2 : Int32)), (.int (own_AT q0 p1))]) (rest := []) (lenOf own_pd2 rfl) rfl (by show 2 * 0 + _ ≤ _; exact Nat.le_of_eq rfl) (hb hby at_127) (fun _ _ => ⟨rfl, h8q, (by decide : 1 + 0 ≤ _), (by decide : 20 + 0 ≤ _)⟩)
  obtain ⟨-, N9q, h9q⟩ := hQ9
  have N9 := Fr.app N8 N9q
  refine own_go (T' := T9) (f' := (mkF m 130 #[.val (.long q0), .second, .val (.int p1), .val (.ref b1), .val (.int (own_AT q0 p1)), .val (.int (own_O3 q0 p1)), .val (.int (own_O2 q0 p1)), .val (.int (own_O1 q0 p1)), .val (.int (own_O0 q0 p1)), .val (.int ((((((own_AT q0 p1) + (3 : Int32)) + (own_F1 (own_O3 q0 p1))) + (own_F1 (own_O2 q0 p1))) + (own_F1 (own_O1 q0 p1))) + (own_F1 (own_O0 q0 p1)))), .val (.int r_6), .unset, .unset] [(.int (own_F3 (2 : Int32) (own_AT q0 p1) (20 : Int32) f'_6))])) (fun t k => st9 _ k) ?_
  refine own_go (T' := T9) (f' := (mkF m 137 #[.val (.long q0), .second, .val (.int p1), .val (.ref b1), .val (.int (own_AT q0 p1)), .val (.int (own_O3 q0 p1)), .val (.int (own_O2 q0 p1)), .val (.int (own_O1 q0 p1)), .val (.int (own_O0 q0 p1)), .val (.int ((((((own_AT q0 p1) + (3 : Int32)) + (own_F1 (own_O3 q0 p1))) + (own_F1 (own_O2 q0 p1))) + (own_F1 (own_O1 q0 p1))) + (own_F1 (own_O0 q0 p1)))), .val (.int r_6), .unset, .unset] [(.int (own_AT q0 p1)), (.int (3 : Int32)), (.ref b1)])) (fun t k => ?_) ?_
  · show Steps p.tables e below (T9.setTop (mkF m 130 #[.val (.long q0), .second, .val (.int p1), .val (.ref b1), .val (.int (own_AT q0 p1)), .val (.int (own_O3 q0 p1)), .val (.int (own_O2 q0 p1)), .val (.int (own_O1 q0 p1)), .val (.int (own_O0 q0 p1)), .val (.int ((((((own_AT q0 p1) + (3 : Int32)) + (own_F1 (own_O3 q0 p1))) + (own_F1 (own_O2 q0 p1))) + (own_F1 (own_O1 q0 p1))) + (own_F1 (own_O0 q0 p1)))), .val (.int r_6), .unset, .unset] [(.int (own_F3 (2 : Int32) (own_AT q0 p1) (20 : Int32) f'_6))])) _
    refine XS.ifNo X9.here hx rfl (hb hby at_130) rfl ((if0 _ _).trans (feq (own_unt q0 p1 r6_ws (2 : Int32) (by decide))).1) ?_
    show Steps p.tables e below (T9.setTop (mkF m 133 #[.val (.long q0), .second, .val (.int p1), .val (.ref b1), .val (.int (own_AT q0 p1)), .val (.int (own_O3 q0 p1)), .val (.int (own_O2 q0 p1)), .val (.int (own_O1 q0 p1)), .val (.int (own_O0 q0 p1)), .val (.int ((((((own_AT q0 p1) + (3 : Int32)) + (own_F1 (own_O3 q0 p1))) + (own_F1 (own_O2 q0 p1))) + (own_F1 (own_O1 q0 p1))) + (own_F1 (own_O0 q0 p1)))), .val (.int r_6), .unset, .unset] [])) _
    refine XS.aloadN X9.here hx rfl (hb hby at_133) rfl rfl ?_
    show Steps p.tables e below (T9.setTop (mkF m 134 #[.val (.long q0), .second, .val (.int p1), .val (.ref b1), .val (.int (own_AT q0 p1)), .val (.int (own_O3 q0 p1)), .val (.int (own_O2 q0 p1)), .val (.int (own_O1 q0 p1)), .val (.int (own_O0 q0 p1)), .val (.int ((((((own_AT q0 p1) + (3 : Int32)) + (own_F1 (own_O3 q0 p1))) + (own_F1 (own_O2 q0 p1))) + (own_F1 (own_O1 q0 p1))) + (own_F1 (own_O0 q0 p1)))), .val (.int r_6), .unset, .unset] [(.ref b1)])) _
    refine XS.iconst X9.here hx rfl (hb hby at_134) ?_
    show Steps p.tables e below (T9.setTop (mkF m 135 #[.val (.long q0), .second, .val (.int p1), .val (.ref b1), .val (.int (own_AT q0 p1)), .val (.int (own_O3 q0 p1)), .val (.int (own_O2 q0 p1)), .val (.int (own_O1 q0 p1)), .val (.int (own_O0 q0 p1)), .val (.int ((((((own_AT q0 p1) + (3 : Int32)) + (own_F1 (own_O3 q0 p1))) + (own_F1 (own_O2 q0 p1))) + (own_F1 (own_O1 q0 p1))) + (own_F1 (own_O0 q0 p1)))), .val (.int r_6), .unset, .unset] [(.int (3 : Int32)), (.ref b1)])) _
    refine XS.iload X9.here hx rfl (hb hby at_135) rfl ?_
    show Steps p.tables e below (T9.setTop (mkF m 137 #[.val (.long q0), .second, .val (.int p1), .val (.ref b1), .val (.int (own_AT q0 p1)), .val (.int (own_O3 q0 p1)), .val (.int (own_O2 q0 p1)), .val (.int (own_O1 q0 p1)), .val (.int (own_O0 q0 p1)), .val (.int ((((((own_AT q0 p1) + (3 : Int32)) + (own_F1 (own_O3 q0 p1))) + (own_F1 (own_O2 q0 p1))) + (own_F1 (own_O1 q0 p1))) + (own_F1 (own_O0 q0 p1)))), .val (.int r_6), .unset, .unset] [(.int (own_AT q0 p1)), (.int (3 : Int32)), (.ref b1)])) _
    exact k
  obtain ⟨T10, Lq10, X10, hQ10, st10⟩ := own_pt (vv := some (.int (own_F3 (3 : Int32) (own_AT q0 p1) (20 : Int32) f'_6))) (fun _ _ _ q => q.1) <| Jvm.LawKit.callS X9 hx (y := (⟨"com/example/rowcast/rowcast/identifier/IpTextWriteIpv4PinLaw", "untouchedBefore", "([BII)Z"⟩ : MethodName)) hown (mvT hZ (hw _ (List.mem_of_getElem? (i := 10) rfl))) (mvT hZ (hw _ (List.mem_of_getElem? (i := 11) rfl))) (mvT hZ (hw _ (List.mem_of_getElem? (i := 4) rfl))) (mvT hZ (hw _ (List.mem_of_getElem? (i := 12) rfl))) (by decide) (backOf (W := 0) (own_rm3 l Z a0 hw [] b1 ((3 : Int32)) ((own_AT q0 p1)) ((20 : Int32)) (f'_6) T6.heap n0 Zs6 p6_0 (by decide) (by decide)) hZ (hw _ (List.mem_of_getElem? (i := 12) rfl)) (hw _ (List.mem_of_getElem? (i := 4) rfl)) (by decide) (by decide)) (g := (mkF m 137 #[.val (.long q0), .second, .val (.int p1), .val (.ref b1), .val (.int (own_AT q0 p1)), .val (.int (own_O3 q0 p1)), .val (.int (own_O2 q0 p1)), .val (.int (own_O1 q0 p1)), .val (.int (own_O0 q0 p1)), .val (.int ((((((own_AT q0 p1) + (3 : Int32)) + (own_F1 (own_O3 q0 p1))) + (own_F1 (own_O2 q0 p1))) + (own_F1 (own_O1 q0 p1))) + (own_F1 (own_O0 q0 p1)))), .val (.int r_6), .unset, .unset] [(.int (own_AT q0 p1)), (.int (3 : Int32)), (.ref b1)])) rfl (by rw [hml]; rfl) (argsL := [(.ref b1), (.int (3 : Int32)), (.int (own_AT q0 p1))]) (rest := []) (lenOf own_pd2 rfl) rfl (by show 2 * 0 + _ ≤ _; exact Nat.le_of_eq rfl) (hb hby at_137) (fun _ _ => ⟨rfl, h9q, (by decide : 1 + 0 ≤ _), (by decide : 20 + 0 ≤ _)⟩)
  obtain ⟨-, N10q, h10q⟩ := hQ10
  have N10 := Fr.app N9 N10q
  refine own_go (T' := T10) (f' := (mkF m 140 #[.val (.long q0), .second, .val (.int p1), .val (.ref b1), .val (.int (own_AT q0 p1)), .val (.int (own_O3 q0 p1)), .val (.int (own_O2 q0 p1)), .val (.int (own_O1 q0 p1)), .val (.int (own_O0 q0 p1)), .val (.int ((((((own_AT q0 p1) + (3 : Int32)) + (own_F1 (own_O3 q0 p1))) + (own_F1 (own_O2 q0 p1))) + (own_F1 (own_O1 q0 p1))) + (own_F1 (own_O0 q0 p1)))), .val (.int r_6), .unset, .unset] [(.int (own_F3 (3 : Int32) (own_AT q0 p1) (20 : Int32) f'_6))])) (fun t k => st10 _ k) ?_
  refine own_go (T' := T10) (f' := (mkF m 147 #[.val (.long q0), .second, .val (.int p1), .val (.ref b1), .val (.int (own_AT q0 p1)), .val (.int (own_O3 q0 p1)), .val (.int (own_O2 q0 p1)), .val (.int (own_O1 q0 p1)), .val (.int (own_O0 q0 p1)), .val (.int ((((((own_AT q0 p1) + (3 : Int32)) + (own_F1 (own_O3 q0 p1))) + (own_F1 (own_O2 q0 p1))) + (own_F1 (own_O1 q0 p1))) + (own_F1 (own_O0 q0 p1)))), .val (.int r_6), .unset, .unset] [(.int (own_AT q0 p1)), (.int (4 : Int32)), (.ref b1)])) (fun t k => ?_) ?_
  · show Steps p.tables e below (T10.setTop (mkF m 140 #[.val (.long q0), .second, .val (.int p1), .val (.ref b1), .val (.int (own_AT q0 p1)), .val (.int (own_O3 q0 p1)), .val (.int (own_O2 q0 p1)), .val (.int (own_O1 q0 p1)), .val (.int (own_O0 q0 p1)), .val (.int ((((((own_AT q0 p1) + (3 : Int32)) + (own_F1 (own_O3 q0 p1))) + (own_F1 (own_O2 q0 p1))) + (own_F1 (own_O1 q0 p1))) + (own_F1 (own_O0 q0 p1)))), .val (.int r_6), .unset, .unset] [(.int (own_F3 (3 : Int32) (own_AT q0 p1) (20 : Int32) f'_6))])) _
    refine XS.ifNo X10.here hx rfl (hb hby at_140) rfl ((if0 _ _).trans (feq (own_unt q0 p1 r6_ws (3 : Int32) (by decide))).1) ?_
    show Steps p.tables e below (T10.setTop (mkF m 143 #[.val (.long q0), .second, .val (.int p1), .val (.ref b1), .val (.int (own_AT q0 p1)), .val (.int (own_O3 q0 p1)), .val (.int (own_O2 q0 p1)), .val (.int (own_O1 q0 p1)), .val (.int (own_O0 q0 p1)), .val (.int ((((((own_AT q0 p1) + (3 : Int32)) + (own_F1 (own_O3 q0 p1))) + (own_F1 (own_O2 q0 p1))) + (own_F1 (own_O1 q0 p1))) + (own_F1 (own_O0 q0 p1)))), .val (.int r_6), .unset, .unset] [])) _
    refine XS.aloadN X10.here hx rfl (hb hby at_143) rfl rfl ?_
    show Steps p.tables e below (T10.setTop (mkF m 144 #[.val (.long q0), .second, .val (.int p1), .val (.ref b1), .val (.int (own_AT q0 p1)), .val (.int (own_O3 q0 p1)), .val (.int (own_O2 q0 p1)), .val (.int (own_O1 q0 p1)), .val (.int (own_O0 q0 p1)), .val (.int ((((((own_AT q0 p1) + (3 : Int32)) + (own_F1 (own_O3 q0 p1))) + (own_F1 (own_O2 q0 p1))) + (own_F1 (own_O1 q0 p1))) + (own_F1 (own_O0 q0 p1)))), .val (.int r_6), .unset, .unset] [(.ref b1)])) _
    refine XS.iconst X10.here hx rfl (hb hby at_144) ?_
    show Steps p.tables e below (T10.setTop (mkF m 145 #[.val (.long q0), .second, .val (.int p1), .val (.ref b1), .val (.int (own_AT q0 p1)), .val (.int (own_O3 q0 p1)), .val (.int (own_O2 q0 p1)), .val (.int (own_O1 q0 p1)), .val (.int (own_O0 q0 p1)), .val (.int ((((((own_AT q0 p1) + (3 : Int32)) + (own_F1 (own_O3 q0 p1))) + (own_F1 (own_O2 q0 p1))) + (own_F1 (own_O1 q0 p1))) + (own_F1 (own_O0 q0 p1)))), .val (.int r_6), .unset, .unset] [(.int (4 : Int32)), (.ref b1)])) _
    refine XS.iload X10.here hx rfl (hb hby at_145) rfl ?_
    show Steps p.tables e below (T10.setTop (mkF m 147 #[.val (.long q0), .second, .val (.int p1), .val (.ref b1), .val (.int (own_AT q0 p1)), .val (.int (own_O3 q0 p1)), .val (.int (own_O2 q0 p1)), .val (.int (own_O1 q0 p1)), .val (.int (own_O0 q0 p1)), .val (.int ((((((own_AT q0 p1) + (3 : Int32)) + (own_F1 (own_O3 q0 p1))) + (own_F1 (own_O2 q0 p1))) + (own_F1 (own_O1 q0 p1))) + (own_F1 (own_O0 q0 p1)))), .val (.int r_6), .unset, .unset] [(.int (own_AT q0 p1)), (.int (4 : Int32)), (.ref b1)])) _
    exact k
  obtain ⟨T11, Lq11, X11, hQ11, st11⟩ := own_pt (vv := some (.int (own_F3 (4 : Int32) (own_AT q0 p1) (20 : Int32) f'_6))) (fun _ _ _ q => q.1) <| Jvm.LawKit.callS X10 hx (y := (⟨"com/example/rowcast/rowcast/identifier/IpTextWriteIpv4PinLaw", "untouchedBefore", "([BII)Z"⟩ : MethodName)) hown (mvT hZ (hw _ (List.mem_of_getElem? (i := 10) rfl))) (mvT hZ (hw _ (List.mem_of_getElem? (i := 11) rfl))) (mvT hZ (hw _ (List.mem_of_getElem? (i := 4) rfl))) (mvT hZ (hw _ (List.mem_of_getElem? (i := 12) rfl))) (by decide) (backOf (W := 0) (own_rm3 l Z a0 hw [] b1 ((4 : Int32)) ((own_AT q0 p1)) ((20 : Int32)) (f'_6) T6.heap n0 Zs6 p6_0 (by decide) (by decide)) hZ (hw _ (List.mem_of_getElem? (i := 12) rfl)) (hw _ (List.mem_of_getElem? (i := 4) rfl)) (by decide) (by decide)) (g := (mkF m 147 #[.val (.long q0), .second, .val (.int p1), .val (.ref b1), .val (.int (own_AT q0 p1)), .val (.int (own_O3 q0 p1)), .val (.int (own_O2 q0 p1)), .val (.int (own_O1 q0 p1)), .val (.int (own_O0 q0 p1)), .val (.int ((((((own_AT q0 p1) + (3 : Int32)) + (own_F1 (own_O3 q0 p1))) + (own_F1 (own_O2 q0 p1))) + (own_F1 (own_O1 q0 p1))) + (own_F1 (own_O0 q0 p1)))), .val (.int r_6), .unset, .unset] [(.int (own_AT q0 p1)), (.int (4 : Int32)), (.ref b1)])) rfl (by rw [hml]; rfl) (argsL := [(.ref b1), (.int (4 : Int32)), (.int (own_AT q0 p1))]) (rest := []) (lenOf own_pd2 rfl) rfl (by show 2 * 0 + _ ≤ _; exact Nat.le_of_eq rfl) (hb hby at_147) (fun _ _ => ⟨rfl, h10q, (by decide : 1 + 0 ≤ _), (by decide : 20 + 0 ≤ _)⟩)
  obtain ⟨-, N11q, h11q⟩ := hQ11
  have N11 := Fr.app N10 N11q
  refine own_go (T' := T11) (f' := (mkF m 150 #[.val (.long q0), .second, .val (.int p1), .val (.ref b1), .val (.int (own_AT q0 p1)), .val (.int (own_O3 q0 p1)), .val (.int (own_O2 q0 p1)), .val (.int (own_O1 q0 p1)), .val (.int (own_O0 q0 p1)), .val (.int ((((((own_AT q0 p1) + (3 : Int32)) + (own_F1 (own_O3 q0 p1))) + (own_F1 (own_O2 q0 p1))) + (own_F1 (own_O1 q0 p1))) + (own_F1 (own_O0 q0 p1)))), .val (.int r_6), .unset, .unset] [(.int (own_F3 (4 : Int32) (own_AT q0 p1) (20 : Int32) f'_6))])) (fun t k => st11 _ k) ?_
  refine own_go (T' := T11) (f' := (mkF m 159 #[.val (.long q0), .second, .val (.int p1), .val (.ref b1), .val (.int (own_AT q0 p1)), .val (.int (own_O3 q0 p1)), .val (.int (own_O2 q0 p1)), .val (.int (own_O1 q0 p1)), .val (.int (own_O0 q0 p1)), .val (.int ((((((own_AT q0 p1) + (3 : Int32)) + (own_F1 (own_O3 q0 p1))) + (own_F1 (own_O2 q0 p1))) + (own_F1 (own_O1 q0 p1))) + (own_F1 (own_O0 q0 p1)))), .val (.int r_6), .unset, .unset] [(.int (20 : Int32)), (.int r_6)])) (fun t k => ?_) ?_
  · show Steps p.tables e below (T11.setTop (mkF m 150 #[.val (.long q0), .second, .val (.int p1), .val (.ref b1), .val (.int (own_AT q0 p1)), .val (.int (own_O3 q0 p1)), .val (.int (own_O2 q0 p1)), .val (.int (own_O1 q0 p1)), .val (.int (own_O0 q0 p1)), .val (.int ((((((own_AT q0 p1) + (3 : Int32)) + (own_F1 (own_O3 q0 p1))) + (own_F1 (own_O2 q0 p1))) + (own_F1 (own_O1 q0 p1))) + (own_F1 (own_O0 q0 p1)))), .val (.int r_6), .unset, .unset] [(.int (own_F3 (4 : Int32) (own_AT q0 p1) (20 : Int32) f'_6))])) _
    refine XS.ifYes X11.here hx rfl (pc0 := 150) (pc' := 155) rfl (hb hby at_150) rfl ((if0 _ _).trans (feq (own_unt q0 p1 r6_ws (4 : Int32) (by decide))).2) (by decide) (by decide) ?_
    show Steps p.tables e below (T11.setTop (mkF m 155 #[.val (.long q0), .second, .val (.int p1), .val (.ref b1), .val (.int (own_AT q0 p1)), .val (.int (own_O3 q0 p1)), .val (.int (own_O2 q0 p1)), .val (.int (own_O1 q0 p1)), .val (.int (own_O0 q0 p1)), .val (.int ((((((own_AT q0 p1) + (3 : Int32)) + (own_F1 (own_O3 q0 p1))) + (own_F1 (own_O2 q0 p1))) + (own_F1 (own_O1 q0 p1))) + (own_F1 (own_O0 q0 p1)))), .val (.int r_6), .unset, .unset] [])) _
    refine XS.iload X11.here hx rfl (hb hby at_155) rfl ?_
    show Steps p.tables e below (T11.setTop (mkF m 157 #[.val (.long q0), .second, .val (.int p1), .val (.ref b1), .val (.int (own_AT q0 p1)), .val (.int (own_O3 q0 p1)), .val (.int (own_O2 q0 p1)), .val (.int (own_O1 q0 p1)), .val (.int (own_O0 q0 p1)), .val (.int ((((((own_AT q0 p1) + (3 : Int32)) + (own_F1 (own_O3 q0 p1))) + (own_F1 (own_O2 q0 p1))) + (own_F1 (own_O1 q0 p1))) + (own_F1 (own_O0 q0 p1)))), .val (.int r_6), .unset, .unset] [(.int r_6)])) _
    refine XS.aloadN X11.here hx rfl (hb hby at_157) rfl rfl ?_
    show Steps p.tables e below (T11.setTop (mkF m 158 #[.val (.long q0), .second, .val (.int p1), .val (.ref b1), .val (.int (own_AT q0 p1)), .val (.int (own_O3 q0 p1)), .val (.int (own_O2 q0 p1)), .val (.int (own_O1 q0 p1)), .val (.int (own_O0 q0 p1)), .val (.int ((((((own_AT q0 p1) + (3 : Int32)) + (own_F1 (own_O3 q0 p1))) + (own_F1 (own_O2 q0 p1))) + (own_F1 (own_O1 q0 p1))) + (own_F1 (own_O0 q0 p1)))), .val (.int r_6), .unset, .unset] [(.ref b1), (.int r_6)])) _
    refine p6_0.len X11 hx hZ h11q (g := (mkF m 158 #[.val (.long q0), .second, .val (.int p1), .val (.ref b1), .val (.int (own_AT q0 p1)), .val (.int (own_O3 q0 p1)), .val (.int (own_O2 q0 p1)), .val (.int (own_O1 q0 p1)), .val (.int (own_O0 q0 p1)), .val (.int ((((((own_AT q0 p1) + (3 : Int32)) + (own_F1 (own_O3 q0 p1))) + (own_F1 (own_O2 q0 p1))) + (own_F1 (own_O1 q0 p1))) + (own_F1 (own_O0 q0 p1)))), .val (.int r_6), .unset, .unset] [(.ref b1), (.int r_6)])) rfl rfl (hb hby at_158) _ ?_
    show Steps p.tables e below (T11.setTop (mkF m 159 #[.val (.long q0), .second, .val (.int p1), .val (.ref b1), .val (.int (own_AT q0 p1)), .val (.int (own_O3 q0 p1)), .val (.int (own_O2 q0 p1)), .val (.int (own_O1 q0 p1)), .val (.int (own_O0 q0 p1)), .val (.int ((((((own_AT q0 p1) + (3 : Int32)) + (own_F1 (own_O3 q0 p1))) + (own_F1 (own_O2 q0 p1))) + (own_F1 (own_O1 q0 p1))) + (own_F1 (own_O0 q0 p1)))), .val (.int r_6), .unset, .unset] [(.int (20 : Int32)), (.int r_6)])) _
    exact k
  by_cases hc159_12 : r_6 < (20 : Int32)
  · skip
    refine own_go (T' := T11) (f' := (mkF m 176 #[.val (.long q0), .second, .val (.int p1), .val (.ref b1), .val (.int (own_AT q0 p1)), .val (.int (own_O3 q0 p1)), .val (.int (own_O2 q0 p1)), .val (.int (own_O1 q0 p1)), .val (.int (own_O0 q0 p1)), .val (.int ((((((own_AT q0 p1) + (3 : Int32)) + (own_F1 (own_O3 q0 p1))) + (own_F1 (own_O2 q0 p1))) + (own_F1 (own_O1 q0 p1))) + (own_F1 (own_O0 q0 p1)))), .val (.int r_6), .unset, .unset] [(.int r_6), (.int (own_AT q0 p1)), (.ref b1)])) (fun t k => ?_) ?_
    · show Steps p.tables e below (T11.setTop (mkF m 159 #[.val (.long q0), .second, .val (.int p1), .val (.ref b1), .val (.int (own_AT q0 p1)), .val (.int (own_O3 q0 p1)), .val (.int (own_O2 q0 p1)), .val (.int (own_O1 q0 p1)), .val (.int (own_O0 q0 p1)), .val (.int ((((((own_AT q0 p1) + (3 : Int32)) + (own_F1 (own_O3 q0 p1))) + (own_F1 (own_O2 q0 p1))) + (own_F1 (own_O1 q0 p1))) + (own_F1 (own_O0 q0 p1)))), .val (.int r_6), .unset, .unset] [(.int (20 : Int32)), (.int r_6)])) _
      refine XS.icmpNo X11.here hx rfl (hb hby at_159) rfl (tlt hc159_12).2.1 ?_
      show Steps p.tables e below (T11.setTop (mkF m 162 #[.val (.long q0), .second, .val (.int p1), .val (.ref b1), .val (.int (own_AT q0 p1)), .val (.int (own_O3 q0 p1)), .val (.int (own_O2 q0 p1)), .val (.int (own_O1 q0 p1)), .val (.int (own_O0 q0 p1)), .val (.int ((((((own_AT q0 p1) + (3 : Int32)) + (own_F1 (own_O3 q0 p1))) + (own_F1 (own_O2 q0 p1))) + (own_F1 (own_O1 q0 p1))) + (own_F1 (own_O0 q0 p1)))), .val (.int r_6), .unset, .unset] [])) _
      refine XS.aloadN X11.here hx rfl (hb hby at_162) rfl rfl ?_
      show Steps p.tables e below (T11.setTop (mkF m 163 #[.val (.long q0), .second, .val (.int p1), .val (.ref b1), .val (.int (own_AT q0 p1)), .val (.int (own_O3 q0 p1)), .val (.int (own_O2 q0 p1)), .val (.int (own_O1 q0 p1)), .val (.int (own_O0 q0 p1)), .val (.int ((((((own_AT q0 p1) + (3 : Int32)) + (own_F1 (own_O3 q0 p1))) + (own_F1 (own_O2 q0 p1))) + (own_F1 (own_O1 q0 p1))) + (own_F1 (own_O0 q0 p1)))), .val (.int r_6), .unset, .unset] [(.ref b1)])) _
      refine XS.iload X11.here hx rfl (hb hby at_163) rfl ?_
      show Steps p.tables e below (T11.setTop (mkF m 165 #[.val (.long q0), .second, .val (.int p1), .val (.ref b1), .val (.int (own_AT q0 p1)), .val (.int (own_O3 q0 p1)), .val (.int (own_O2 q0 p1)), .val (.int (own_O1 q0 p1)), .val (.int (own_O0 q0 p1)), .val (.int ((((((own_AT q0 p1) + (3 : Int32)) + (own_F1 (own_O3 q0 p1))) + (own_F1 (own_O2 q0 p1))) + (own_F1 (own_O1 q0 p1))) + (own_F1 (own_O0 q0 p1)))), .val (.int r_6), .unset, .unset] [(.int r_6), (.ref b1)])) _
      refine own_ldB X11 hx hZ h11q p6_0 (j := r_6) hok.2.1 (own_lt20 hc159_12) (g := (mkF m 165 #[.val (.long q0), .second, .val (.int p1), .val (.ref b1), .val (.int (own_AT q0 p1)), .val (.int (own_O3 q0 p1)), .val (.int (own_O2 q0 p1)), .val (.int (own_O1 q0 p1)), .val (.int (own_O0 q0 p1)), .val (.int ((((((own_AT q0 p1) + (3 : Int32)) + (own_F1 (own_O3 q0 p1))) + (own_F1 (own_O2 q0 p1))) + (own_F1 (own_O1 q0 p1))) + (own_F1 (own_O0 q0 p1)))), .val (.int r_6), .unset, .unset] [(.int r_6), (.ref b1)])) rfl rfl (hb hby at_165) _ ?_
      show Steps p.tables e below (T11.setTop (mkF m 166 #[.val (.long q0), .second, .val (.int p1), .val (.ref b1), .val (.int (own_AT q0 p1)), .val (.int (own_O3 q0 p1)), .val (.int (own_O2 q0 p1)), .val (.int (own_O1 q0 p1)), .val (.int (own_O0 q0 p1)), .val (.int ((((((own_AT q0 p1) + (3 : Int32)) + (own_F1 (own_O3 q0 p1))) + (own_F1 (own_O2 q0 p1))) + (own_F1 (own_O1 q0 p1))) + (own_F1 (own_O0 q0 p1)))), .val (.int r_6), .unset, .unset] [(.int (f'_6 r_6.toInt.toNat))])) _
      refine XS.ifYes X11.here hx rfl (pc0 := 166) (pc' := 171) rfl (hb hby at_166) rfl ((if0 _ _).trans (teq (own_end q0 p1 r6_ws)).1) (by decide) (by decide) ?_
      show Steps p.tables e below (T11.setTop (mkF m 171 #[.val (.long q0), .second, .val (.int p1), .val (.ref b1), .val (.int (own_AT q0 p1)), .val (.int (own_O3 q0 p1)), .val (.int (own_O2 q0 p1)), .val (.int (own_O1 q0 p1)), .val (.int (own_O0 q0 p1)), .val (.int ((((((own_AT q0 p1) + (3 : Int32)) + (own_F1 (own_O3 q0 p1))) + (own_F1 (own_O2 q0 p1))) + (own_F1 (own_O1 q0 p1))) + (own_F1 (own_O0 q0 p1)))), .val (.int r_6), .unset, .unset] [])) _
      refine XS.aloadN X11.here hx rfl (hb hby at_171) rfl rfl ?_
      show Steps p.tables e below (T11.setTop (mkF m 172 #[.val (.long q0), .second, .val (.int p1), .val (.ref b1), .val (.int (own_AT q0 p1)), .val (.int (own_O3 q0 p1)), .val (.int (own_O2 q0 p1)), .val (.int (own_O1 q0 p1)), .val (.int (own_O0 q0 p1)), .val (.int ((((((own_AT q0 p1) + (3 : Int32)) + (own_F1 (own_O3 q0 p1))) + (own_F1 (own_O2 q0 p1))) + (own_F1 (own_O1 q0 p1))) + (own_F1 (own_O0 q0 p1)))), .val (.int r_6), .unset, .unset] [(.ref b1)])) _
      refine XS.iload X11.here hx rfl (hb hby at_172) rfl ?_
      show Steps p.tables e below (T11.setTop (mkF m 174 #[.val (.long q0), .second, .val (.int p1), .val (.ref b1), .val (.int (own_AT q0 p1)), .val (.int (own_O3 q0 p1)), .val (.int (own_O2 q0 p1)), .val (.int (own_O1 q0 p1)), .val (.int (own_O0 q0 p1)), .val (.int ((((((own_AT q0 p1) + (3 : Int32)) + (own_F1 (own_O3 q0 p1))) + (own_F1 (own_O2 q0 p1))) + (own_F1 (own_O1 q0 p1))) + (own_F1 (own_O0 q0 p1)))), .val (.int r_6), .unset, .unset] [(.int (own_AT q0 p1)), (.ref b1)])) _
      refine XS.iload X11.here hx rfl (hb hby at_174) rfl ?_
      show Steps p.tables e below (T11.setTop (mkF m 176 #[.val (.long q0), .second, .val (.int p1), .val (.ref b1), .val (.int (own_AT q0 p1)), .val (.int (own_O3 q0 p1)), .val (.int (own_O2 q0 p1)), .val (.int (own_O1 q0 p1)), .val (.int (own_O0 q0 p1)), .val (.int ((((((own_AT q0 p1) + (3 : Int32)) + (own_F1 (own_O3 q0 p1))) + (own_F1 (own_O2 q0 p1))) + (own_F1 (own_O1 q0 p1))) + (own_F1 (own_O0 q0 p1)))), .val (.int r_6), .unset, .unset] [(.int r_6), (.int (own_AT q0 p1)), (.ref b1)])) _
      exact k
    obtain ⟨_, _, ⟨T13, Lq13, kq13, nq13⟩, -, X13, ⟨Lc13, hQ13, lq13, yq13, zq13⟩, st13⟩ := Jvm.LawKit.callS X11 hx (y := (⟨"com/example/rowcast/rowcast/identifier/IpText", "parseIpv4", "([BII)J"⟩ : MethodName)) hown (mvT hZ (hw _ (List.mem_of_getElem? (i := 13) rfl))) (mvT hZ (hw _ (List.mem_of_getElem? (i := 14) rfl))) (mvT hZ (hw _ (List.mem_of_getElem? (i := 8) rfl))) (mvT hZ (hw _ (List.mem_of_getElem? (i := 15) rfl))) (by decide) (backOf (W := 0) (own_rm4 l Z a0 hw [] b1 ((own_AT q0 p1)) r_6 ((20 : Int32)) (f'_6) q0 T6.heap n0 Zs6 p6_0 (own_AT_rng q0 p1).1 hok.2.2 hok.2.1 r6_ws.1) hZ (hw _ (List.mem_of_getElem? (i := 15) rfl)) (hw _ (List.mem_of_getElem? (i := 8) rfl)) (by decide) (by decide)) (g := (mkF m 176 #[.val (.long q0), .second, .val (.int p1), .val (.ref b1), .val (.int (own_AT q0 p1)), .val (.int (own_O3 q0 p1)), .val (.int (own_O2 q0 p1)), .val (.int (own_O1 q0 p1)), .val (.int (own_O0 q0 p1)), .val (.int ((((((own_AT q0 p1) + (3 : Int32)) + (own_F1 (own_O3 q0 p1))) + (own_F1 (own_O2 q0 p1))) + (own_F1 (own_O1 q0 p1))) + (own_F1 (own_O0 q0 p1)))), .val (.int r_6), .unset, .unset] [(.int r_6), (.int (own_AT q0 p1)), (.ref b1)])) rfl (by rw [hml]; rfl) (argsL := [(.ref b1), (.int (own_AT q0 p1)), (.int r_6)]) (rest := []) (lenOf own_pd3 rfl) rfl (by show 2 * 0 + _ ≤ _; exact Nat.le_of_eq rfl) (hb hby at_176) (fun _ _ => ⟨rfl, h11q, (by decide : 1 + 0 ≤ _), (by decide : 20 + 0 ≤ _)⟩)
    dsimp only [Pt.U, Pt.locs, Pt.cells, Pt.slots] at X13 lq13 yq13 zq13 st13 hQ13
    subst lq13 yq13 zq13
    obtain ⟨r_13, rfl, N13q, h13q, r13_pr⟩ := hQ13
    have N13 := Fr.app N11 N13q
    refine own_go (T' := T13) (f' := (mkF m 179 #[.val (.long q0), .second, .val (.int p1), .val (.ref b1), .val (.int (own_AT q0 p1)), .val (.int (own_O3 q0 p1)), .val (.int (own_O2 q0 p1)), .val (.int (own_O1 q0 p1)), .val (.int (own_O0 q0 p1)), .val (.int ((((((own_AT q0 p1) + (3 : Int32)) + (own_F1 (own_O3 q0 p1))) + (own_F1 (own_O2 q0 p1))) + (own_F1 (own_O1 q0 p1))) + (own_F1 (own_O0 q0 p1)))), .val (.int r_6), .unset, .unset] [(.long r_13)])) (fun t k => st13 _ k) ?_
    refine own_go (T' := T13) (f' := (mkF m 197 #[.val (.long q0), .second, .val (.int p1), .val (.ref b1), .val (.int (own_AT q0 p1)), .val (.int (own_O3 q0 p1)), .val (.int (own_O2 q0 p1)), .val (.int (own_O1 q0 p1)), .val (.int (own_O0 q0 p1)), .val (.int ((((((own_AT q0 p1) + (3 : Int32)) + (own_F1 (own_O3 q0 p1))) + (own_F1 (own_O2 q0 p1))) + (own_F1 (own_O1 q0 p1))) + (own_F1 (own_O0 q0 p1)))), .val (.int r_6), .val (.long r_13), .second] [(.int (1 : Int32))])) (fun t k => ?_) ?_
    · show Steps p.tables e below (T13.setTop (mkF m 179 #[.val (.long q0), .second, .val (.int p1), .val (.ref b1), .val (.int (own_AT q0 p1)), .val (.int (own_O3 q0 p1)), .val (.int (own_O2 q0 p1)), .val (.int (own_O1 q0 p1)), .val (.int (own_O0 q0 p1)), .val (.int ((((((own_AT q0 p1) + (3 : Int32)) + (own_F1 (own_O3 q0 p1))) + (own_F1 (own_O2 q0 p1))) + (own_F1 (own_O1 q0 p1))) + (own_F1 (own_O0 q0 p1)))), .val (.int r_6), .unset, .unset] [(.long r_13)])) _
      refine XS.lstore X13.here hx rfl (hb hby at_179) rfl (l' := #[.val (.long q0), .second, .val (.int p1), .val (.ref b1), .val (.int (own_AT q0 p1)), .val (.int (own_O3 q0 p1)), .val (.int (own_O2 q0 p1)), .val (.int (own_O1 q0 p1)), .val (.int (own_O0 q0 p1)), .val (.int ((((((own_AT q0 p1) + (3 : Int32)) + (own_F1 (own_O3 q0 p1))) + (own_F1 (own_O2 q0 p1))) + (own_F1 (own_O1 q0 p1))) + (own_F1 (own_O0 q0 p1)))), .val (.int r_6), .val (.long r_13), .second]) rfl ?_
      show Steps p.tables e below (T13.setTop (mkF m 181 #[.val (.long q0), .second, .val (.int p1), .val (.ref b1), .val (.int (own_AT q0 p1)), .val (.int (own_O3 q0 p1)), .val (.int (own_O2 q0 p1)), .val (.int (own_O1 q0 p1)), .val (.int (own_O0 q0 p1)), .val (.int ((((((own_AT q0 p1) + (3 : Int32)) + (own_F1 (own_O3 q0 p1))) + (own_F1 (own_O2 q0 p1))) + (own_F1 (own_O1 q0 p1))) + (own_F1 (own_O0 q0 p1)))), .val (.int r_6), .val (.long r_13), .second] [])) _
      refine XS.lload X13.here hx rfl (hb hby at_181) rfl ?_
      show Steps p.tables e below (T13.setTop (mkF m 183 #[.val (.long q0), .second, .val (.int p1), .val (.ref b1), .val (.int (own_AT q0 p1)), .val (.int (own_O3 q0 p1)), .val (.int (own_O2 q0 p1)), .val (.int (own_O1 q0 p1)), .val (.int (own_O0 q0 p1)), .val (.int ((((((own_AT q0 p1) + (3 : Int32)) + (own_F1 (own_O3 q0 p1))) + (own_F1 (own_O2 q0 p1))) + (own_F1 (own_O1 q0 p1))) + (own_F1 (own_O0 q0 p1)))), .val (.int r_6), .val (.long r_13), .second] [(.long r_13)])) _
      refine XS.lloadN X13.here hx rfl (hb hby at_183) rfl ?_
      show Steps p.tables e below (T13.setTop (mkF m 184 #[.val (.long q0), .second, .val (.int p1), .val (.ref b1), .val (.int (own_AT q0 p1)), .val (.int (own_O3 q0 p1)), .val (.int (own_O2 q0 p1)), .val (.int (own_O1 q0 p1)), .val (.int (own_O0 q0 p1)), .val (.int ((((((own_AT q0 p1) + (3 : Int32)) + (own_F1 (own_O3 q0 p1))) + (own_F1 (own_O2 q0 p1))) + (own_F1 (own_O1 q0 p1))) + (own_F1 (own_O0 q0 p1)))), .val (.int r_6), .val (.long r_13), .second] [(.long q0), (.long r_13)])) _
      refine X13.ldc2Long hx hown (mvT hZ (hw _ (List.mem_of_getElem? (i := 16) rfl))) (g := (mkF m 184 #[.val (.long q0), .second, .val (.int p1), .val (.ref b1), .val (.int (own_AT q0 p1)), .val (.int (own_O3 q0 p1)), .val (.int (own_O2 q0 p1)), .val (.int (own_O1 q0 p1)), .val (.int (own_O0 q0 p1)), .val (.int ((((((own_AT q0 p1) + (3 : Int32)) + (own_F1 (own_O3 q0 p1))) + (own_F1 (own_O2 q0 p1))) + (own_F1 (own_O1 q0 p1))) + (own_F1 (own_O0 q0 p1)))), .val (.int r_6), .val (.long r_13), .second] [(.long q0), (.long r_13)])) rfl (hb hby at_184) _ ?_
      show Steps p.tables e below (T13.setTop (mkF m 187 #[.val (.long q0), .second, .val (.int p1), .val (.ref b1), .val (.int (own_AT q0 p1)), .val (.int (own_O3 q0 p1)), .val (.int (own_O2 q0 p1)), .val (.int (own_O1 q0 p1)), .val (.int (own_O0 q0 p1)), .val (.int ((((((own_AT q0 p1) + (3 : Int32)) + (own_F1 (own_O3 q0 p1))) + (own_F1 (own_O2 q0 p1))) + (own_F1 (own_O1 q0 p1))) + (own_F1 (own_O0 q0 p1)))), .val (.int r_6), .val (.long r_13), .second] [(.long (4294967295 : Int64)), (.long q0), (.long r_13)])) _
      refine XS.land X13.here hx rfl (hb hby at_187) rfl ?_
      show Steps p.tables e below (T13.setTop (mkF m 188 #[.val (.long q0), .second, .val (.int p1), .val (.ref b1), .val (.int (own_AT q0 p1)), .val (.int (own_O3 q0 p1)), .val (.int (own_O2 q0 p1)), .val (.int (own_O1 q0 p1)), .val (.int (own_O0 q0 p1)), .val (.int ((((((own_AT q0 p1) + (3 : Int32)) + (own_F1 (own_O3 q0 p1))) + (own_F1 (own_O2 q0 p1))) + (own_F1 (own_O1 q0 p1))) + (own_F1 (own_O0 q0 p1)))), .val (.int r_6), .val (.long r_13), .second] [(.long (q0 &&& (4294967295 : Int64))), (.long r_13)])) _
      refine XS.lcmp X13.here hx rfl (hb hby at_188) rfl ?_
      show Steps p.tables e below (T13.setTop (mkF m 189 #[.val (.long q0), .second, .val (.int p1), .val (.ref b1), .val (.int (own_AT q0 p1)), .val (.int (own_O3 q0 p1)), .val (.int (own_O2 q0 p1)), .val (.int (own_O1 q0 p1)), .val (.int (own_O0 q0 p1)), .val (.int ((((((own_AT q0 p1) + (3 : Int32)) + (own_F1 (own_O3 q0 p1))) + (own_F1 (own_O2 q0 p1))) + (own_F1 (own_O1 q0 p1))) + (own_F1 (own_O0 q0 p1)))), .val (.int r_6), .val (.long r_13), .second] [(.int (lcmpW r_13 (q0 &&& (4294967295 : Int64))))])) _
      refine XS.ifNo X13.here hx rfl (hb hby at_189) rfl ((if0 _ _).trans (teq ((lw_eq r_13 (q0 &&& (4294967295 : Int64))).mpr (own_back r13_pr))).2) ?_
      show Steps p.tables e below (T13.setTop (mkF m 192 #[.val (.long q0), .second, .val (.int p1), .val (.ref b1), .val (.int (own_AT q0 p1)), .val (.int (own_O3 q0 p1)), .val (.int (own_O2 q0 p1)), .val (.int (own_O1 q0 p1)), .val (.int (own_O0 q0 p1)), .val (.int ((((((own_AT q0 p1) + (3 : Int32)) + (own_F1 (own_O3 q0 p1))) + (own_F1 (own_O2 q0 p1))) + (own_F1 (own_O1 q0 p1))) + (own_F1 (own_O0 q0 p1)))), .val (.int r_6), .val (.long r_13), .second] [])) _
      refine XS.iconst X13.here hx rfl (hb hby at_192) ?_
      show Steps p.tables e below (T13.setTop (mkF m 193 #[.val (.long q0), .second, .val (.int p1), .val (.ref b1), .val (.int (own_AT q0 p1)), .val (.int (own_O3 q0 p1)), .val (.int (own_O2 q0 p1)), .val (.int (own_O1 q0 p1)), .val (.int (own_O0 q0 p1)), .val (.int ((((((own_AT q0 p1) + (3 : Int32)) + (own_F1 (own_O3 q0 p1))) + (own_F1 (own_O2 q0 p1))) + (own_F1 (own_O1 q0 p1))) + (own_F1 (own_O0 q0 p1)))), .val (.int r_6), .val (.long r_13), .second] [(.int (1 : Int32))])) _
      refine XS.goto X13.here hx rfl (pc0 := 193) (pc' := 197) rfl (hb hby at_193) (by decide) (by decide) ?_
      show Steps p.tables e below (T13.setTop (mkF m 197 #[.val (.long q0), .second, .val (.int p1), .val (.ref b1), .val (.int (own_AT q0 p1)), .val (.int (own_O3 q0 p1)), .val (.int (own_O2 q0 p1)), .val (.int (own_O1 q0 p1)), .val (.int (own_O0 q0 p1)), .val (.int ((((((own_AT q0 p1) + (3 : Int32)) + (own_F1 (own_O3 q0 p1))) + (own_F1 (own_O2 q0 p1))) + (own_F1 (own_O1 q0 p1))) + (own_F1 (own_O0 q0 p1)))), .val (.int r_6), .val (.long r_13), .second] [(.int (1 : Int32))])) _
      exact k
    obtain ⟨fs, hr, hrun, hended, hW, hsame⟩ := X13.leave (v := some (.int (1 : Int32))) (fun h => by rw [Bd.returns] at h; cases h)
    refine ⟨_, _, ?_, hrun, hended, _, _, rfl, ?_, ⟨_, rfl⟩, hW, hsame.mono (by decide) (by decide)⟩
    · exact retN X13 hx (t := .boolean) Bd.returns (by simp) (hb hby at_197) hr
    · show own_Q0 Z q0 p1 h0 n0 _ T13.heap _
      rw [h13q]
      exact ⟨rfl, N13⟩
  · skip
    refine own_go (T' := T11) (f' := (mkF m 176 #[.val (.long q0), .second, .val (.int p1), .val (.ref b1), .val (.int (own_AT q0 p1)), .val (.int (own_O3 q0 p1)), .val (.int (own_O2 q0 p1)), .val (.int (own_O1 q0 p1)), .val (.int (own_O0 q0 p1)), .val (.int ((((((own_AT q0 p1) + (3 : Int32)) + (own_F1 (own_O3 q0 p1))) + (own_F1 (own_O2 q0 p1))) + (own_F1 (own_O1 q0 p1))) + (own_F1 (own_O0 q0 p1)))), .val (.int r_6), .unset, .unset] [(.int r_6), (.int (own_AT q0 p1)), (.ref b1)])) (fun t k => ?_) ?_
    · show Steps p.tables e below (T11.setTop (mkF m 159 #[.val (.long q0), .second, .val (.int p1), .val (.ref b1), .val (.int (own_AT q0 p1)), .val (.int (own_O3 q0 p1)), .val (.int (own_O2 q0 p1)), .val (.int (own_O1 q0 p1)), .val (.int (own_O0 q0 p1)), .val (.int ((((((own_AT q0 p1) + (3 : Int32)) + (own_F1 (own_O3 q0 p1))) + (own_F1 (own_O2 q0 p1))) + (own_F1 (own_O1 q0 p1))) + (own_F1 (own_O0 q0 p1)))), .val (.int r_6), .unset, .unset] [(.int (20 : Int32)), (.int r_6)])) _
      refine XS.icmpYes X11.here hx rfl (pc0 := 159) (pc' := 171) rfl (hb hby at_159) rfl (flt hc159_12).2.1 (by decide) (by decide) ?_
      show Steps p.tables e below (T11.setTop (mkF m 171 #[.val (.long q0), .second, .val (.int p1), .val (.ref b1), .val (.int (own_AT q0 p1)), .val (.int (own_O3 q0 p1)), .val (.int (own_O2 q0 p1)), .val (.int (own_O1 q0 p1)), .val (.int (own_O0 q0 p1)), .val (.int ((((((own_AT q0 p1) + (3 : Int32)) + (own_F1 (own_O3 q0 p1))) + (own_F1 (own_O2 q0 p1))) + (own_F1 (own_O1 q0 p1))) + (own_F1 (own_O0 q0 p1)))), .val (.int r_6), .unset, .unset] [])) _
      refine XS.aloadN X11.here hx rfl (hb hby at_171) rfl rfl ?_
      show Steps p.tables e below (T11.setTop (mkF m 172 #[.val (.long q0), .second, .val (.int p1), .val (.ref b1), .val (.int (own_AT q0 p1)), .val (.int (own_O3 q0 p1)), .val (.int (own_O2 q0 p1)), .val (.int (own_O1 q0 p1)), .val (.int (own_O0 q0 p1)), .val (.int ((((((own_AT q0 p1) + (3 : Int32)) + (own_F1 (own_O3 q0 p1))) + (own_F1 (own_O2 q0 p1))) + (own_F1 (own_O1 q0 p1))) + (own_F1 (own_O0 q0 p1)))), .val (.int r_6), .unset, .unset] [(.ref b1)])) _
      refine XS.iload X11.here hx rfl (hb hby at_172) rfl ?_
      show Steps p.tables e below (T11.setTop (mkF m 174 #[.val (.long q0), .second, .val (.int p1), .val (.ref b1), .val (.int (own_AT q0 p1)), .val (.int (own_O3 q0 p1)), .val (.int (own_O2 q0 p1)), .val (.int (own_O1 q0 p1)), .val (.int (own_O0 q0 p1)), .val (.int ((((((own_AT q0 p1) + (3 : Int32)) + (own_F1 (own_O3 q0 p1))) + (own_F1 (own_O2 q0 p1))) + (own_F1 (own_O1 q0 p1))) + (own_F1 (own_O0 q0 p1)))), .val (.int r_6), .unset, .unset] [(.int (own_AT q0 p1)), (.ref b1)])) _
      refine XS.iload X11.here hx rfl (hb hby at_174) rfl ?_
      show Steps p.tables e below (T11.setTop (mkF m 176 #[.val (.long q0), .second, .val (.int p1), .val (.ref b1), .val (.int (own_AT q0 p1)), .val (.int (own_O3 q0 p1)), .val (.int (own_O2 q0 p1)), .val (.int (own_O1 q0 p1)), .val (.int (own_O0 q0 p1)), .val (.int ((((((own_AT q0 p1) + (3 : Int32)) + (own_F1 (own_O3 q0 p1))) + (own_F1 (own_O2 q0 p1))) + (own_F1 (own_O1 q0 p1))) + (own_F1 (own_O0 q0 p1)))), .val (.int r_6), .unset, .unset] [(.int r_6), (.int (own_AT q0 p1)), (.ref b1)])) _
      exact k
    obtain ⟨_, _, ⟨T14, Lq14, kq14, nq14⟩, -, X14, ⟨Lc14, hQ14, lq14, yq14, zq14⟩, st14⟩ := Jvm.LawKit.callS X11 hx (y := (⟨"com/example/rowcast/rowcast/identifier/IpText", "parseIpv4", "([BII)J"⟩ : MethodName)) hown (mvT hZ (hw _ (List.mem_of_getElem? (i := 13) rfl))) (mvT hZ (hw _ (List.mem_of_getElem? (i := 14) rfl))) (mvT hZ (hw _ (List.mem_of_getElem? (i := 8) rfl))) (mvT hZ (hw _ (List.mem_of_getElem? (i := 15) rfl))) (by decide) (backOf (W := 0) (own_rm4 l Z a0 hw [] b1 ((own_AT q0 p1)) r_6 ((20 : Int32)) (f'_6) q0 T6.heap n0 Zs6 p6_0 (own_AT_rng q0 p1).1 hok.2.2 hok.2.1 r6_ws.1) hZ (hw _ (List.mem_of_getElem? (i := 15) rfl)) (hw _ (List.mem_of_getElem? (i := 8) rfl)) (by decide) (by decide)) (g := (mkF m 176 #[.val (.long q0), .second, .val (.int p1), .val (.ref b1), .val (.int (own_AT q0 p1)), .val (.int (own_O3 q0 p1)), .val (.int (own_O2 q0 p1)), .val (.int (own_O1 q0 p1)), .val (.int (own_O0 q0 p1)), .val (.int ((((((own_AT q0 p1) + (3 : Int32)) + (own_F1 (own_O3 q0 p1))) + (own_F1 (own_O2 q0 p1))) + (own_F1 (own_O1 q0 p1))) + (own_F1 (own_O0 q0 p1)))), .val (.int r_6), .unset, .unset] [(.int r_6), (.int (own_AT q0 p1)), (.ref b1)])) rfl (by rw [hml]; rfl) (argsL := [(.ref b1), (.int (own_AT q0 p1)), (.int r_6)]) (rest := []) (lenOf own_pd3 rfl) rfl (by show 2 * 0 + _ ≤ _; exact Nat.le_of_eq rfl) (hb hby at_176) (fun _ _ => ⟨rfl, h11q, (by decide : 1 + 0 ≤ _), (by decide : 20 + 0 ≤ _)⟩)
    dsimp only [Pt.U, Pt.locs, Pt.cells, Pt.slots] at X14 lq14 yq14 zq14 st14 hQ14
    subst lq14 yq14 zq14
    obtain ⟨r_14, rfl, N14q, h14q, r14_pr⟩ := hQ14
    have N14 := Fr.app N11 N14q
    refine own_go (T' := T14) (f' := (mkF m 179 #[.val (.long q0), .second, .val (.int p1), .val (.ref b1), .val (.int (own_AT q0 p1)), .val (.int (own_O3 q0 p1)), .val (.int (own_O2 q0 p1)), .val (.int (own_O1 q0 p1)), .val (.int (own_O0 q0 p1)), .val (.int ((((((own_AT q0 p1) + (3 : Int32)) + (own_F1 (own_O3 q0 p1))) + (own_F1 (own_O2 q0 p1))) + (own_F1 (own_O1 q0 p1))) + (own_F1 (own_O0 q0 p1)))), .val (.int r_6), .unset, .unset] [(.long r_14)])) (fun t k => st14 _ k) ?_
    refine own_go (T' := T14) (f' := (mkF m 197 #[.val (.long q0), .second, .val (.int p1), .val (.ref b1), .val (.int (own_AT q0 p1)), .val (.int (own_O3 q0 p1)), .val (.int (own_O2 q0 p1)), .val (.int (own_O1 q0 p1)), .val (.int (own_O0 q0 p1)), .val (.int ((((((own_AT q0 p1) + (3 : Int32)) + (own_F1 (own_O3 q0 p1))) + (own_F1 (own_O2 q0 p1))) + (own_F1 (own_O1 q0 p1))) + (own_F1 (own_O0 q0 p1)))), .val (.int r_6), .val (.long r_14), .second] [(.int (1 : Int32))])) (fun t k => ?_) ?_
    · show Steps p.tables e below (T14.setTop (mkF m 179 #[.val (.long q0), .second, .val (.int p1), .val (.ref b1), .val (.int (own_AT q0 p1)), .val (.int (own_O3 q0 p1)), .val (.int (own_O2 q0 p1)), .val (.int (own_O1 q0 p1)), .val (.int (own_O0 q0 p1)), .val (.int ((((((own_AT q0 p1) + (3 : Int32)) + (own_F1 (own_O3 q0 p1))) + (own_F1 (own_O2 q0 p1))) + (own_F1 (own_O1 q0 p1))) + (own_F1 (own_O0 q0 p1)))), .val (.int r_6), .unset, .unset] [(.long r_14)])) _
      refine XS.lstore X14.here hx rfl (hb hby at_179) rfl (l' := #[.val (.long q0), .second, .val (.int p1), .val (.ref b1), .val (.int (own_AT q0 p1)), .val (.int (own_O3 q0 p1)), .val (.int (own_O2 q0 p1)), .val (.int (own_O1 q0 p1)), .val (.int (own_O0 q0 p1)), .val (.int ((((((own_AT q0 p1) + (3 : Int32)) + (own_F1 (own_O3 q0 p1))) + (own_F1 (own_O2 q0 p1))) + (own_F1 (own_O1 q0 p1))) + (own_F1 (own_O0 q0 p1)))), .val (.int r_6), .val (.long r_14), .second]) rfl ?_
      show Steps p.tables e below (T14.setTop (mkF m 181 #[.val (.long q0), .second, .val (.int p1), .val (.ref b1), .val (.int (own_AT q0 p1)), .val (.int (own_O3 q0 p1)), .val (.int (own_O2 q0 p1)), .val (.int (own_O1 q0 p1)), .val (.int (own_O0 q0 p1)), .val (.int ((((((own_AT q0 p1) + (3 : Int32)) + (own_F1 (own_O3 q0 p1))) + (own_F1 (own_O2 q0 p1))) + (own_F1 (own_O1 q0 p1))) + (own_F1 (own_O0 q0 p1)))), .val (.int r_6), .val (.long r_14), .second] [])) _
      refine XS.lload X14.here hx rfl (hb hby at_181) rfl ?_
      show Steps p.tables e below (T14.setTop (mkF m 183 #[.val (.long q0), .second, .val (.int p1), .val (.ref b1), .val (.int (own_AT q0 p1)), .val (.int (own_O3 q0 p1)), .val (.int (own_O2 q0 p1)), .val (.int (own_O1 q0 p1)), .val (.int (own_O0 q0 p1)), .val (.int ((((((own_AT q0 p1) + (3 : Int32)) + (own_F1 (own_O3 q0 p1))) + (own_F1 (own_O2 q0 p1))) + (own_F1 (own_O1 q0 p1))) + (own_F1 (own_O0 q0 p1)))), .val (.int r_6), .val (.long r_14), .second] [(.long r_14)])) _
      refine XS.lloadN X14.here hx rfl (hb hby at_183) rfl ?_
      show Steps p.tables e below (T14.setTop (mkF m 184 #[.val (.long q0), .second, .val (.int p1), .val (.ref b1), .val (.int (own_AT q0 p1)), .val (.int (own_O3 q0 p1)), .val (.int (own_O2 q0 p1)), .val (.int (own_O1 q0 p1)), .val (.int (own_O0 q0 p1)), .val (.int ((((((own_AT q0 p1) + (3 : Int32)) + (own_F1 (own_O3 q0 p1))) + (own_F1 (own_O2 q0 p1))) + (own_F1 (own_O1 q0 p1))) + (own_F1 (own_O0 q0 p1)))), .val (.int r_6), .val (.long r_14), .second] [(.long q0), (.long r_14)])) _
      refine X14.ldc2Long hx hown (mvT hZ (hw _ (List.mem_of_getElem? (i := 16) rfl))) (g := (mkF m 184 #[.val (.long q0), .second, .val (.int p1), .val (.ref b1), .val (.int (own_AT q0 p1)), .val (.int (own_O3 q0 p1)), .val (.int (own_O2 q0 p1)), .val (.int (own_O1 q0 p1)), .val (.int (own_O0 q0 p1)), .val (.int ((((((own_AT q0 p1) + (3 : Int32)) + (own_F1 (own_O3 q0 p1))) + (own_F1 (own_O2 q0 p1))) + (own_F1 (own_O1 q0 p1))) + (own_F1 (own_O0 q0 p1)))), .val (.int r_6), .val (.long r_14), .second] [(.long q0), (.long r_14)])) rfl (hb hby at_184) _ ?_
      show Steps p.tables e below (T14.setTop (mkF m 187 #[.val (.long q0), .second, .val (.int p1), .val (.ref b1), .val (.int (own_AT q0 p1)), .val (.int (own_O3 q0 p1)), .val (.int (own_O2 q0 p1)), .val (.int (own_O1 q0 p1)), .val (.int (own_O0 q0 p1)), .val (.int ((((((own_AT q0 p1) + (3 : Int32)) + (own_F1 (own_O3 q0 p1))) + (own_F1 (own_O2 q0 p1))) + (own_F1 (own_O1 q0 p1))) + (own_F1 (own_O0 q0 p1)))), .val (.int r_6), .val (.long r_14), .second] [(.long (4294967295 : Int64)), (.long q0), (.long r_14)])) _
      refine XS.land X14.here hx rfl (hb hby at_187) rfl ?_
      show Steps p.tables e below (T14.setTop (mkF m 188 #[.val (.long q0), .second, .val (.int p1), .val (.ref b1), .val (.int (own_AT q0 p1)), .val (.int (own_O3 q0 p1)), .val (.int (own_O2 q0 p1)), .val (.int (own_O1 q0 p1)), .val (.int (own_O0 q0 p1)), .val (.int ((((((own_AT q0 p1) + (3 : Int32)) + (own_F1 (own_O3 q0 p1))) + (own_F1 (own_O2 q0 p1))) + (own_F1 (own_O1 q0 p1))) + (own_F1 (own_O0 q0 p1)))), .val (.int r_6), .val (.long r_14), .second] [(.long (q0 &&& (4294967295 : Int64))), (.long r_14)])) _
      refine XS.lcmp X14.here hx rfl (hb hby at_188) rfl ?_
      show Steps p.tables e below (T14.setTop (mkF m 189 #[.val (.long q0), .second, .val (.int p1), .val (.ref b1), .val (.int (own_AT q0 p1)), .val (.int (own_O3 q0 p1)), .val (.int (own_O2 q0 p1)), .val (.int (own_O1 q0 p1)), .val (.int (own_O0 q0 p1)), .val (.int ((((((own_AT q0 p1) + (3 : Int32)) + (own_F1 (own_O3 q0 p1))) + (own_F1 (own_O2 q0 p1))) + (own_F1 (own_O1 q0 p1))) + (own_F1 (own_O0 q0 p1)))), .val (.int r_6), .val (.long r_14), .second] [(.int (lcmpW r_14 (q0 &&& (4294967295 : Int64))))])) _
      refine XS.ifNo X14.here hx rfl (hb hby at_189) rfl ((if0 _ _).trans (teq ((lw_eq r_14 (q0 &&& (4294967295 : Int64))).mpr (own_back r14_pr))).2) ?_
      show Steps p.tables e below (T14.setTop (mkF m 192 #[.val (.long q0), .second, .val (.int p1), .val (.ref b1), .val (.int (own_AT q0 p1)), .val (.int (own_O3 q0 p1)), .val (.int (own_O2 q0 p1)), .val (.int (own_O1 q0 p1)), .val (.int (own_O0 q0 p1)), .val (.int ((((((own_AT q0 p1) + (3 : Int32)) + (own_F1 (own_O3 q0 p1))) + (own_F1 (own_O2 q0 p1))) + (own_F1 (own_O1 q0 p1))) + (own_F1 (own_O0 q0 p1)))), .val (.int r_6), .val (.long r_14), .second] [])) _
      refine XS.iconst X14.here hx rfl (hb hby at_192) ?_
      show Steps p.tables e below (T14.setTop (mkF m 193 #[.val (.long q0), .second, .val (.int p1), .val (.ref b1), .val (.int (own_AT q0 p1)), .val (.int (own_O3 q0 p1)), .val (.int (own_O2 q0 p1)), .val (.int (own_O1 q0 p1)), .val (.int (own_O0 q0 p1)), .val (.int ((((((own_AT q0 p1) + (3 : Int32)) + (own_F1 (own_O3 q0 p1))) + (own_F1 (own_O2 q0 p1))) + (own_F1 (own_O1 q0 p1))) + (own_F1 (own_O0 q0 p1)))), .val (.int r_6), .val (.long r_14), .second] [(.int (1 : Int32))])) _
      refine XS.goto X14.here hx rfl (pc0 := 193) (pc' := 197) rfl (hb hby at_193) (by decide) (by decide) ?_
      show Steps p.tables e below (T14.setTop (mkF m 197 #[.val (.long q0), .second, .val (.int p1), .val (.ref b1), .val (.int (own_AT q0 p1)), .val (.int (own_O3 q0 p1)), .val (.int (own_O2 q0 p1)), .val (.int (own_O1 q0 p1)), .val (.int (own_O0 q0 p1)), .val (.int ((((((own_AT q0 p1) + (3 : Int32)) + (own_F1 (own_O3 q0 p1))) + (own_F1 (own_O2 q0 p1))) + (own_F1 (own_O1 q0 p1))) + (own_F1 (own_O0 q0 p1)))), .val (.int r_6), .val (.long r_14), .second] [(.int (1 : Int32))])) _
      exact k
    obtain ⟨fs, hr, hrun, hended, hW, hsame⟩ := X14.leave (v := some (.int (1 : Int32))) (fun h => by rw [Bd.returns] at h; cases h)
    refine ⟨_, _, ?_, hrun, hended, _, _, rfl, ?_, ⟨_, rfl⟩, hW, hsame.mono (by decide) (by decide)⟩
    · exact retN X14 hx (t := .boolean) Bd.returns (by simp) (hb hby at_197) hr
    · show own_Q0 Z q0 p1 h0 n0 _ T14.heap _
      rw [h14q]
      exact ⟨rfl, N14⟩
set_option maxRecDepth 65536 in
set_option maxHeartbeats 40000000 in
theorem comes_1 {Post : Tables → Env → Array Value → State → Outcome → State → Prop} (hpost : ∀ tb e args s v u, (limb_1_1.after args s (.returned v) u = true ∧ limb_1_2.after args s (.returned v) u = true ∧ True) → FrameEnd s (.returned v) u (Jvm.fieldLocs frame_1_writes args s ++ Jvm.arrayLocs frame_1_arrays args s ++ Jvm.staticLocs frame_1_statics s) 16 128 → Post tb e args s (.returned v) u) :
    ArmFor flags0 classFile x code maxLocals ret World_1 tables_1 room_1 Calls_1 rest_1 Pre_1 Post := by
  intro l hfl _ _ p e ha hc hk s m args below hf hA hF happ hP
  obtain ⟨hcalls, hrest, hpre⟩ := hP
  obtain ⟨-, -, -, hnamed, -, -, -, hat⟩ := (Spec.applies_iff hf).mp happ
  obtain ⟨hg, hn⟩ := and_e (Cond.before_iff.mp (show (Jvm.Cond.and given_1 narrow_1).before args s = true from hpre))
  obtain ⟨hcnt, g0⟩ := and_e hg
  obtain ⟨k0, g1⟩ := and_e g0
  have k1 := g1
  obtain ⟨w0, w1, rfl⟩ : ∃ w0 w1 : Value, args = #[w0, w1] := by
    have hs : args.size = 2 := by simpa [Cond.value, given_1] using hcnt
    obtain ⟨L⟩ := args
    match L, hs with
    | [w0, w1], _ => exact ⟨w0, w1, rfl⟩
  have hw := fun d (hd : d ∈ tables_1) => atoms_spec (ws := Jvm.Cond.code x code maxLocals ret :: tables_1) hat d (List.mem_cons_of_mem _ hd)
  obtain ⟨i0, e0⟩ := isL_v k0
  obtain rfl : w0 = (.long i0) := Option.some.inj e0
  obtain ⟨i1, e1⟩ := is_v k1
  obtain rfl : w1 = (.int i1) := Option.some.inj e1
  obtain ⟨n, o, h1, h2, h3, _, L, rfl, ⟨hv, N⟩, hq⟩ := own_rm0 l s _ hw tables_1 i0 i1 s.heap s.heap.size (Nat.le_refl _)  p e ha hc hk s m _ below hf ((Spec.applies_iff_loose hf).mp happ).1 ⟨rfl, State.Warmed39.refl s, rfl⟩ trivial
  subst hv
  refine ⟨n, _, h1, h2, h3, hpost _ _ _ _ _ _ ⟨Cond.after_iff.mpr rfl, Cond.after_iff.mpr (eq_i res_at (Term.int_eval (1)) rfl), trivial⟩ ⟨hq.1, hq.2.1, (hq.2.2.sift fun y hy => Or.inr (N y hy)).mono (by decide) (by decide)⟩⟩
theorem main_1_1 : Claimed_1_1 := comes_1 fun _ _ _ _ _ _ h hF => ⟨h.1, hF⟩
theorem main_1_2 : Claimed_1_2 := comes_1 fun _ _ _ _ _ _ h hF => ⟨h.2.1, hF⟩
end Jvm.Pilot.@@N@@
namespace Jvm.Pilot.@@N@@
open Jvm Jvm.ClassFile Sem Op Lib Jvm.Free Jvm.Stand Jvm.Pilot.@@N@@.Jvm.D
/-! MADE BY PROGRAM (witnessworld.py) out of the Statement's table words and the real class files: 9 classes; the members and pool entries that the words name. The judged class is class 1, her method 3. -/
namespace start1
open Jvm.ClassFile
def u (s : String) : CpInfo := .utf8 (stringToUtf16 s)
/-- a pool by its gaps: so many unusable entries, then the entry; so many at the end -/
def gap : Nat → List CpInfo → List CpInfo
  | 0, r => r
  | n + 1, r => .unusable :: gap n r
def poolList (es : List (Nat × CpInfo)) (last : Nat) : List CpInfo := es.foldr (fun e r => gap e.1 (e.2 :: r)) (gap last [])
def pool (es : List (Nat × CpInfo)) (last : Nat) : Array CpInfo := ⟨poolList es last⟩
def fileOf (pool : Array CpInfo) (this : Nat) (attrs : Array Attribute := #[]) (ms : Array MethodInfo := #[]) (fl : Nat := 33) (sup : Nat := 0) (ifs : Array Nat := #[]) (fds : Array FieldInfo := #[]) : ClassFile where
  minorVersion := 0
  majorVersion := 65
  constantPool := pool
  accessFlags := fl
  thisClass := this
  superClass := sup
  interfaces := ifs
  fields := fds
  methods := ms
  attributes := attrs
def plain (name : String) (sup : Option ClassId) : Class where
  name := name
  kind := .ordinary
  loader := none
  accessFlags := 33
  super := sup
  interfaces := #[]
  cf := none
  fields := #[]
  methods := #[]
  instanceTypes := #[]
  staticTypes := #[]
  resolved := #[]
  callSites := []
  init := .initialized
  statics := none
  mirror := none

def pool0 : Array CpInfo := pool [(5, u "<init>"), (0, u "()V"), (1, .class_ 10), (1, u "java/lang/Object")] 113

def k0m0 : Method := { name := "<init>", desc := "()V", sig := { parameters := [], returnType := none }, accessFlags := 1, code := none }
/-- java/lang/Object -/
def k0 : Class := { plain "java/lang/Object" none with
  accessFlags := 33
  interfaces := #[]
  cf := some (fileOf pool0 8 #[] #[{ accessFlags := 1, nameIndex := 5, descriptorIndex := 6, attributes := #[] }] 33 0 #[] #[])
  fields := #[]
  methods := #[k0m0]
  instanceTypes := #[]
  staticTypes := #[]
  resolved := Array.replicate 124 none
  statics := none }

def pool1 : Array CpInfo := pool [(2, .class_ 4), (1, u "java/lang/Object"), (0, u "<init>"), (0, u "()V"), (0, .integer 2147483647), (0, .methodref 9 10), (0, .class_ 11), (0, .nameAndType 12 13), (0, u "com/example/rowcast/rowcast/identifier/IpTextWriteIpv4PinLaw"), (0, u "digits"), (0, u "(I)I"), (0, .methodref 15 16), (0, .class_ 17), (0, .nameAndType 18 19), (0, u "com/example/rowcast/rowcast/identifier/IpText"), (0, u "writeIpv4"), (0, u "(J[BI)I"), (0, .methodref 9 21), (0, .nameAndType 22 23), (0, u "untouchedBefore"), (0, u "([BII)Z"), (0, .methodref 15 25), (0, .nameAndType 26 27), (0, u "parseIpv4"), (0, u "([BII)J"), (0, .long 4294967295), (4, u "law"), (0, u "(JI)Z")] 4

def k1m0 : Method := { name := "<init>", desc := "()V", sig := { parameters := [], returnType := none }, accessFlags := 2, code := none }
def k1c1 : Code := { maxStack := 2, maxLocals := 1, code := method_2_code, exceptionTable := #[], attributes := #[] }
def k1m1 : Method := { name := "digits", desc := "(I)I", sig := { parameters := [.int], returnType := some .int }, accessFlags := 10, code := some k1c1 }
def k1c2 : Code := { maxStack := 2, maxLocals := 3, code := method_3_code, exceptionTable := #[], attributes := #[] }
def k1m2 : Method := { name := "untouchedBefore", desc := "([BII)Z", sig := { parameters := [(.array .byte), .int, .int], returnType := some .boolean }, accessFlags := 10, code := some k1c2 }
def k1c3 : Code := { maxStack := 6, maxLocals := 13, code := code, exceptionTable := #[], attributes := #[] }
def k1m3 : Method := { name := "law", desc := "(JI)Z", sig := { parameters := [.long, .int], returnType := some .boolean }, accessFlags := 9, code := some k1c3 }
/-- com/example/rowcast/rowcast/identifier/IpTextWriteIpv4PinLaw -/
def k1 : Class := { plain "com/example/rowcast/rowcast/identifier/IpTextWriteIpv4PinLaw" (some 0) with
  accessFlags := 49
  interfaces := #[]
  cf := some (fileOf pool1 9 #[] #[{ accessFlags := 2, nameIndex := 5, descriptorIndex := 6, attributes := #[] }, { accessFlags := 10, nameIndex := 12, descriptorIndex := 13, attributes := #[] }, { accessFlags := 10, nameIndex := 22, descriptorIndex := 23, attributes := #[] }, { accessFlags := 9, nameIndex := 33, descriptorIndex := 34, attributes := #[] }] 49 2 #[] #[])
  fields := #[]
  methods := #[k1m0, k1m1, k1m2, k1m3]
  instanceTypes := #[]
  staticTypes := #[]
  resolved := Array.replicate 39 none
  statics := none }

def pool2 : Array CpInfo := pool [(2, .class_ 4), (1, u "java/lang/Object"), (0, u "<init>"), (0, u "()V"), (1, .class_ 10), (1, u "com/example/rowcast/rowcast/identifier/IpText"), (4, u "parseIpv4"), (0, u "([BII)J"), (21, u "writeIpv4"), (0, u "(J[BI)I"), (11, u "HEX_DIGITS"), (0, u "[B"), (0, u "IPV6_BYTES"), (0, u "I"), (2, u "MAX_LENGTH"), (1, u "GROUPS")] 14

def k2m0 : Method := { name := "<init>", desc := "()V", sig := { parameters := [], returnType := none }, accessFlags := 2, code := none }
def k2c1 : Code := { maxStack := 4, maxLocals := 9, code := prog_39_method_2_code, exceptionTable := #[], attributes := #[] }
def k2m1 : Method := { name := "parseIpv4", desc := "([BII)J", sig := { parameters := [(.array .byte), .int, .int], returnType := some .long }, accessFlags := 9, code := some k2c1 }
def k2c2 : Code := { maxStack := 5, maxLocals := 7, code := prog_39_method_3_code, exceptionTable := #[], attributes := #[] }
def k2m2 : Method := { name := "writeIpv4", desc := "(J[BI)I", sig := { parameters := [.long, (.array .byte), .int], returnType := some .int }, accessFlags := 9, code := some k2c2 }
/-- com/example/rowcast/rowcast/identifier/IpText -/
def k2 : Class := { plain "com/example/rowcast/rowcast/identifier/IpText" (some 0) with
  accessFlags := 33
  interfaces := #[]
  cf := some (fileOf pool2 8 #[] #[{ accessFlags := 2, nameIndex := 5, descriptorIndex := 6, attributes := #[] }, { accessFlags := 9, nameIndex := 15, descriptorIndex := 16, attributes := #[] }, { accessFlags := 9, nameIndex := 38, descriptorIndex := 39, attributes := #[] }] 33 2 #[] #[{ accessFlags := 25, nameIndex := 53, descriptorIndex := 54, attributes := #[] }, { accessFlags := 25, nameIndex := 57, descriptorIndex := 54, attributes := #[] }, { accessFlags := 26, nameIndex := 59, descriptorIndex := 54, attributes := #[] }, { accessFlags := 26, nameIndex := 51, descriptorIndex := 52, attributes := #[] }])
  fields := #[{ name := "IPV6_BYTES", type := .int, accessFlags := 25, slot := 0, constantValue := 0 }, { name := "MAX_LENGTH", type := .int, accessFlags := 25, slot := 1, constantValue := 0 }, { name := "GROUPS", type := .int, accessFlags := 26, slot := 2, constantValue := 0 }, { name := "HEX_DIGITS", type := (.array .byte), accessFlags := 26, slot := 3, constantValue := 0 }]
  methods := #[k2m0, k2m1, k2m2]
  instanceTypes := #[]
  staticTypes := #[.int, .int, .int, (.array .byte)]
  resolved := Array.replicate 74 none
  statics := none }

def pool3 : Array CpInfo := pool [(1, u "java/lang/Cloneable"), (0, .class_ 1), (0, u "java/lang/Object"), (0, .class_ 3)] 3

/-- java/lang/Cloneable -/
def k3 : Class := { plain "java/lang/Cloneable" (some 0) with
  accessFlags := 1537
  interfaces := #[]
  cf := some (fileOf pool3 2 #[] #[] 1537 4 #[] #[])
  fields := #[]
  methods := #[]
  instanceTypes := #[]
  staticTypes := #[]
  resolved := Array.replicate 8 none
  statics := none }

def pool4 : Array CpInfo := pool [(1, u "java/io/Serializable"), (0, .class_ 1), (0, u "java/lang/Object"), (0, .class_ 3)] 3

/-- java/io/Serializable -/
def k4 : Class := { plain "java/io/Serializable" (some 0) with
  accessFlags := 1537
  interfaces := #[]
  cf := some (fileOf pool4 2 #[] #[] 1537 4 #[] #[])
  fields := #[]
  methods := #[]
  instanceTypes := #[]
  staticTypes := #[]
  resolved := Array.replicate 8 none
  statics := none }

/-- the primitive byte -/
def k5 : Class := { plain "byte" none with kind := .primitive 'B', accessFlags := 0x411 }
/-- [B -/
def k6 : Class := { plain "[B" (some 0) with kind := .array 5 .byte, interfaces := #[3, 4], accessFlags := 1041 }

/-- the primitive int -/
def k7 : Class := { plain "int" none with kind := .primitive 'I', accessFlags := 0x411 }
/-- [I -/
def k8 : Class := { plain "[I" (some 0) with kind := .array 7 .int, interfaces := #[3, 4], accessFlags := 1041 }

def heap : Heap := #[]
def classes : Array Class := #[k0, k1, k2, k3, k4, k5, k6, k7, k8]
def interned : List (Array UInt16 × Addr) := []
def slotsUsed : Nat := 0
def theMethod : MethodId := ⟨1, 3⟩
def args0 : Array Value := #[.long 5, .int 5]
def aboutOver (below : List Frame) : State where
  vm := { classes := classes, interned := interned.toArray }
  heap := heap
  slotsUsed := slotsUsed
  threads := #[{ frames := .invoking theMethod args0 :: below }]
def below0 : List Frame := [.native { method := ⟨0, 0⟩, args := #[] }]
def about1 : State := aboutOver below0
def p0 : Program := .bare "" "" ""
def e0 : Env := launch0.env 0 0 0
theorem w_frames : about1.frames = Frame.invoking theMethod args0 :: below0 := rfl
set_option maxRecDepth 65536 in
theorem w_args : argsFit about1.vm theMethod args0 = true := by decide +kernel
set_option maxRecDepth 65536 in
theorem w_heap : heapFits about1 = true := by decide +kernel
set_option maxRecDepth 65536 in
theorem w_runnable : about1.curStatus? = some .runnable := by decide +kernel
set_option maxRecDepth 65536 in
theorem w_alone : about1.alone = true := by decide +kernel
set_option maxRecDepth 65536 in
theorem w_named : about1.methodNamed? x = some theMethod := by decide +kernel
set_option maxRecDepth 65536 in
theorem w_hears : about1.hears theMethod below0 = true := by decide +kernel
set_option maxRecDepth 65536 in
theorem w_ripe : about1.ripe theMethod args0 below0 = true := by decide +kernel
theorem w_running : about1.status = .running := rfl
set_option maxRecDepth 65536 in
theorem w_room : about1.hasRoom e0.platform room_1 = true :=
  launch0.hasRoom_least _ room_1 (by decide +kernel) (by decide +kernel) (by decide +kernel) (by decide +kernel) (by decide +kernel) (by decide +kernel)
theorem allAtoms_all (ts : List Jvm.Cond) (a : Array Jvm.Value) (st : Jvm.State) : (allAtoms ts).before a st = ts.all (fun c => c.before a st) := by
  induction ts with
  | nil => rfl
  | cons c t ih =>
    show (Jvm.Cond.and c (allAtoms t)).before a st = _
    rw [Jvm.Cond.before_and, ih, List.all_cons]
def words1 : List Jvm.Cond := Jvm.Cond.code x code maxLocals ret :: tables_1
/-- a 'code' word, met by the world's own term for the bytes: nothing is compared byte by byte -/
theorem code_word {y : MethodName} {bytes : ByteArray} {mx : Nat} {rt : Option FieldType} {a : Array Value} {s : State} {m : MethodId} {meth : Method} {c : Code} (h1 : s.methodNamed? y = some m) (h2 : s.vm.method? m = some meth) (h3 : meth.code = some c) (h4 : c.code = bytes)
    (h5 : (c.maxLocals == mx && c.exceptionTable.isEmpty && decide (c.maxStack ≤ mostOperands) && decide (meth.sig.returnType = rt) && !meth.locks && decide (parseMethodDescriptor y.desc = some meth.sig)) = true) : (Jvm.Cond.code y bytes mx rt).before a s = true := by
  simp only [Bool.and_eq_true, beq_iff_eq, Bool.not_eq_true', decide_eq_true_eq] at h5
  obtain ⟨⟨⟨⟨⟨g1, g2⟩, g3⟩, g4⟩, g5⟩, g6⟩ := h5
  simp [Cond.before, Cond.holds, Cond.value, h1, h2, h3, h4, g1, g2, g3, g4, g5, g6]
def isCode : Jvm.Cond → Bool
  | .code _ _ _ _ => true
  | _ => false
theorem all_split {L : List Jvm.Cond} {P : Jvm.Cond → Bool} (h1 : L.all (fun c => isCode c || P c) = true) (h2 : ∀ c ∈ L.filter isCode, P c = true) : L.all P = true := by
  refine List.all_eq_true.mpr fun c hc => ?_
  have h := List.all_eq_true.mp h1 c hc
  rcases Bool.eq_false_or_eq_true (isCode c) with hi | hi
  · exact h2 c (List.mem_filter.mpr ⟨hc, hi⟩)
  · simpa [hi] using h
set_option maxRecDepth 65536 in
theorem w_c0 : (Jvm.Cond.code x code maxLocals ret).before args0 about1 = true := code_word (m := ⟨1, 3⟩) (meth := k1m3) (c := k1c3) (by decide +kernel) rfl rfl rfl (by decide +kernel)
set_option maxRecDepth 65536 in
theorem w_c1 : (Jvm.Cond.code ({ cls := "com/example/rowcast/rowcast/identifier/IpTextWriteIpv4PinLaw", name := "digits", desc := "(I)I" } : Jvm.MethodName) method_2_code (1 : Nat) (Option.some Jvm.ClassFile.FieldType.int)).before args0 about1 = true := code_word (m := ⟨1, 1⟩) (meth := k1m1) (c := k1c1) (by decide +kernel) rfl rfl rfl (by decide +kernel)
set_option maxRecDepth 65536 in
theorem w_c2 : (Jvm.Cond.code ({ cls := "com/example/rowcast/rowcast/identifier/IpText", name := "writeIpv4", desc := "(J[BI)I" } : Jvm.MethodName) prog_39_method_3_code (7 : Nat) (Option.some Jvm.ClassFile.FieldType.int)).before args0 about1 = true := code_word (m := ⟨2, 2⟩) (meth := k2m2) (c := k2c2) (by decide +kernel) rfl rfl rfl (by decide +kernel)
set_option maxRecDepth 65536 in
theorem w_c3 : (Jvm.Cond.code ({ cls := "com/example/rowcast/rowcast/identifier/IpTextWriteIpv4PinLaw", name := "untouchedBefore", desc := "([BII)Z" } : Jvm.MethodName) method_3_code (3 : Nat) (Option.some Jvm.ClassFile.FieldType.boolean)).before args0 about1 = true := code_word (m := ⟨1, 2⟩) (meth := k1m2) (c := k1c2) (by decide +kernel) rfl rfl rfl (by decide +kernel)
set_option maxRecDepth 65536 in
theorem w_c4 : (Jvm.Cond.code ({ cls := "com/example/rowcast/rowcast/identifier/IpText", name := "parseIpv4", desc := "([BII)J" } : Jvm.MethodName) prog_39_method_2_code (9 : Nat) (Option.some Jvm.ClassFile.FieldType.long)).before args0 about1 = true := code_word (m := ⟨2, 1⟩) (meth := k2m1) (c := k2c1) (by decide +kernel) rfl rfl rfl (by decide +kernel)
def codes1 : List Jvm.Cond := [Jvm.Cond.code x code maxLocals ret, Jvm.Cond.code ({ cls := "com/example/rowcast/rowcast/identifier/IpTextWriteIpv4PinLaw", name := "digits", desc := "(I)I" } : Jvm.MethodName) method_2_code (1 : Nat) (Option.some Jvm.ClassFile.FieldType.int), Jvm.Cond.code ({ cls := "com/example/rowcast/rowcast/identifier/IpText", name := "writeIpv4", desc := "(J[BI)I" } : Jvm.MethodName) prog_39_method_3_code (7 : Nat) (Option.some Jvm.ClassFile.FieldType.int), Jvm.Cond.code ({ cls := "com/example/rowcast/rowcast/identifier/IpTextWriteIpv4PinLaw", name := "untouchedBefore", desc := "([BII)Z" } : Jvm.MethodName) method_3_code (3 : Nat) (Option.some Jvm.ClassFile.FieldType.boolean), Jvm.Cond.code ({ cls := "com/example/rowcast/rowcast/identifier/IpText", name := "parseIpv4", desc := "([BII)J" } : Jvm.MethodName) prog_39_method_2_code (9 : Nat) (Option.some Jvm.ClassFile.FieldType.long)]
set_option maxRecDepth 65536 in
theorem codes_eq : words1.filter isCode = codes1 := rfl
theorem w_codes : ∀ c ∈ words1.filter isCode, c.before args0 about1 = true := by
  rw [codes_eq]
  intro c hc
  simp only [codes1, List.mem_cons, List.not_mem_nil, or_false] at hc
  rcases hc with rfl | rfl | rfl | rfl | rfl
  · exact w_c0
  · exact w_c1
  · exact w_c2
  · exact w_c3
  · exact w_c4
set_option maxRecDepth 65536 in
theorem w_t1 : words1.all (fun c => isCode c || c.before args0 about1) = true := by decide +kernel
theorem w_tables : (allAtoms (Jvm.Cond.code x code maxLocals ret :: tables_1)).before args0 about1 = true := by
  rw [allAtoms_all]
  show words1.all (fun c => c.before args0 about1) = true
  refine all_split ?_ w_codes
  rw [w_t1]
set_option maxRecDepth 65536 in
theorem w_case : (Jvm.Cond.and given_1 narrow_1).before args0 about1 = true := by decide +kernel
theorem w_applies : (headSpec (Jvm.Cond.code x code maxLocals ret :: tables_1) room_1).applies x e0.platform about1 = true :=
  (Spec.applies_iff w_frames).mpr ⟨w_running, w_runnable, w_alone, w_named, w_hears, w_ripe, w_room, w_tables⟩
theorem atStart : AtStart classFile x code maxLocals ret World_1 tables_1 room_1 Calls_1 rest_1 Pre_1 launch0 p0 e0 about1 theMethod args0 below0 :=
  ⟨lists_1, trivial, launch0.admits_env _ _ _, launch0.least_env, fairChoices_fair.cas, fairChoices_fair.clock, w_frames, w_args, w_heap, w_applies, trivial, trivial, w_case⟩
end start1
theorem witness_1 : WitnessClaimed_1 := ⟨start1.p0, start1.e0, start1.about1, start1.theMethod, start1.args0, start1.below0, start1.atStart⟩
end Jvm.Pilot.@@N@@
