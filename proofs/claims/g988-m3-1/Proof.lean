import JvmDerived
import JvmDerived.Pilot.@@N@@Statement
import JvmDerived.Pilot.@@N@@Code
set_option linter.unusedVariables false
set_option linter.unusedSimpArgs false
namespace Jvm.RoadKit
open Sem ClassFile Op Lib Jvm.Stand Jvm.Free Jvm.LawKit
section New
variable {p : Program} {l : Launch} {e : Env} {R : Room} {s : State} {m : MethodId} {args : Array Value} {below : List Frame} {meth : Method} {c : Code} {T : State} {locs : List Loc} {cells slots : Nat}
theorem retI (X : Stand p l e R s m args below meth c T locs cells slots) (hx : p.tables.exec = Jvm.exec) {pc : Nat} {Ls : Array Slot} {z : Int32} {rest : List Value} (hret : meth.sig.returnType = some .int) (hd : decode c.code pc = .ok (.ireturn, 1)) {fs : List Frame}
    (hl : ∀ (f : JFrame) (acts : List Action), f.method = m → f.locked = none → f.entered = [] → (doReturn e (T.setTop f) acts (some (.int z))).1 = T.setFrames fs) : Steps p.tables e below (T.setTop (mkF m pc Ls (.int z :: rest))) (T.setFrames fs) := by
  have hm' : T.vm.method? m = some meth := X.method'
  have hn : narrow .int (.int z) = .int z := rfl
  show Steps p.tables e below (T.setTop { method := m, pc := pc, locals := Ls, stack := _ :: rest, locked := none }) _
  jvm_step X.here [X.here.top, hx, hd, hm', hret, hn]
  first | (intro acts; rw [hl _ acts rfl rfl rfl]) | rw [hl _ _ rfl rfl rfl]
  exact Steps.refl _
def own_shrL (x : Int64) (y : Int32) : Int64 := (x.toUInt64 >>> (y &&& 0x3f).toInt64.toUInt64).toInt64
def own_shrI (x y : Int32) : Int32 := (x.toUInt32 >>> (y &&& 31).toUInt32).toInt32
theorem own_go {tb : Tables} {T' : State} {f f' : JFrame} {G : State → Outcome → Prop} (k : ∀ t, Steps tb e below (T'.setTop f') t → Steps tb e below (T.setTop f) t) (h : ∃ s₂ o, Steps tb e below (T'.setTop f') s₂ ∧ G s₂ o) : ∃ s₂ o, Steps tb e below (T.setTop f) s₂ ∧ G s₂ o := by
  obtain ⟨s₂, o, a, b⟩ := h
  exact ⟨s₂, o, k _ a, b⟩
theorem own_pt {Q : Option Value → Heap → List Loc → Prop} {rc rs : Nat} {vv : Option Value} {g : JFrame} {rest : List Value} (hv : ∀ v h L, Q v h L → v = vv)
    (H : ∃ (v : Option Value) (vm₁ : Vm) (B : Pt), s.WarmedH vm₁ ∧ Stand p l e R s m args below meth c B.U B.locs B.cells B.slots ∧ (∃ L, Q v B.U.heap L ∧ B.locs = locs ++ L ∧ B.cells = cells + rc ∧ B.slots = slots + rs) ∧
      ∀ target, Steps p.tables e below (B.U.setTop { g with pc := g.pc + 3, stack := v.toList ++ rest }) target → Steps p.tables e below (T.setTop g) target) :
    ∃ (T' : State) (L : List Loc), Stand p l e R s m args below meth c T' (locs ++ L) (cells + rc) (slots + rs) ∧ Q vv T'.heap L ∧ ∀ target, Steps p.tables e below (T'.setTop { g with pc := g.pc + 3, stack := vv.toList ++ rest }) target → Steps p.tables e below (T.setTop g) target := by
  obtain ⟨v, vm₁, ⟨T', L', k', n'⟩, -, X', ⟨L, hQ, e1, e2, e3⟩, st⟩ := H
  obtain rfl := hv _ _ _ hQ
  cases e1; cases e2; cases e3
  exact ⟨T', L, X', hQ, st⟩
theorem own_pt2 {Q : Option Value → Heap → List Loc → Prop} {rc rs : Nat} {vv : Option Value} {g : JFrame} {rest : List Value} (hv : ∀ v h L, Q v h L → v = vv)
    (H : ∃ (v : Option Value) (vm₁ : Vm) (B : Pt), s.WarmedH vm₁ ∧ Stand p l e R s m args below meth c B.U B.locs B.cells B.slots ∧ (∃ L, Q v B.U.heap L ∧ B.locs = locs ++ L ∧ B.cells = cells + rc ∧ B.slots = slots + rs) ∧
      Steps p.tables e below (T.setTop g) (B.U.setTop { g with pc := g.pc + 3, stack := v.toList ++ rest })) :
    ∃ (T' : State) (L : List Loc), Stand p l e R s m args below meth c T' (locs ++ L) (cells + rc) (slots + rs) ∧ Q vv T'.heap L ∧ ∀ target, Steps p.tables e below (T'.setTop { g with pc := g.pc + 3, stack := vv.toList ++ rest }) target → Steps p.tables e below (T.setTop g) target := by
  obtain ⟨v, vm₁, ⟨T', L', k', n'⟩, -, X', ⟨L, hQ, e1, e2, e3⟩, st⟩ := H
  obtain rfl := hv _ _ _ hQ
  cases e1; cases e2; cases e3
  exact ⟨T', L, X', hQ, fun t k => st.trans k⟩
theorem own_cut {tb : Tables} {f f' : JFrame} {G : State → Outcome → Prop} {P : State → Prop} (h1 : (∀ T', P T' → ∃ s₂ o, Steps tb e below (T'.setTop f') s₂ ∧ G s₂ o) → ∃ s₂ o, Steps tb e below (T.setTop f) s₂ ∧ G s₂ o) (h2 : ∀ T', P T' → ∃ s₂ o, Steps tb e below (T'.setTop f') s₂ ∧ G s₂ o) : ∃ s₂ o, Steps tb e below (T.setTop f) s₂ ∧ G s₂ o := h1 h2
end New
abbrev own_One (o : Slot) : Prop := o = .unset ∨ ∃ w, o = .val w ∧ w.category = 1
section Arrays
variable {p : Program} {l : Launch} {e : Env} {R : Room} {s : State} {m : MethodId} {args : Array Value} {below : List Frame} {meth : Method} {c : Code} {T : State} {locs : List Loc} {cells slots : Nat} {Z : State} {h h' : Heap} {a b : Addr} {ty : FieldType} {z : Int32} {f : Nat → Int32} {fj : Nat → Int64} {ws : List Addr} {sl : Nat} {v : Value}
def own_ArI (Z : State) (h : Heap) (a : Addr) (ty : FieldType) (z : Int32) (f : Nat → Int32) : Prop := ∃ c : Cell, Arr Z h a c ty ∧ c.slots.size = z.toInt.toNat ∧ 0 ≤ z.toInt ∧ ∀ i, i < z.toInt.toNat → c.slots[i]? = some (.int (f i)) ∧ fits ty (.int (f i)) = true
def own_ArJ (Z : State) (h : Heap) (a : Addr) (ty : FieldType) (z : Int32) (f : Nat → Int64) : Prop := ∃ c : Cell, Arr Z h a c ty ∧ c.slots.size = z.toInt.toNat ∧ 0 ≤ z.toInt ∧ ∀ i, i < z.toInt.toNat → c.slots[i]? = some (.long (f i))
theorem own_ArI.lt (F : own_ArI Z h a ty z f) : a < h.size := by obtain ⟨c, A, -⟩ := F; exact A.lt
theorem own_ArJ.lt (F : own_ArJ Z h a ty z fj) : a < h.size := by obtain ⟨c, A, -⟩ := F; exact A.lt
theorem own_ArI.ext (F : own_ArI Z h a ty z f) (E : Ext h h') : own_ArI Z h' a ty z f := by obtain ⟨c, A, r⟩ := F; exact ⟨c, A.ext E, r⟩
theorem own_ArJ.ext (F : own_ArJ Z h a ty z fj) (E : Ext h h') : own_ArJ Z h' a ty z fj := by obtain ⟨c, A, r⟩ := F; exact ⟨c, A.ext E, r⟩
theorem own_ArI.other (F : own_ArI Z h b ty z f) (W : Wr h h' a sl v) (q : b ≠ a) : own_ArI Z h' b ty z f := by obtain ⟨c, A, r⟩ := F; exact ⟨c, A.other W q, r⟩
theorem own_ArJ.other (F : own_ArJ Z h b ty z fj) (W : Wr h h' a sl v) (q : b ≠ a) : own_ArJ Z h' b ty z fj := by obtain ⟨c, A, r⟩ := F; exact ⟨c, A.other W q, r⟩
theorem own_ArI.keep (F : own_ArI Z h a ty z f) (K : Keep h h' ws) (q : a ∉ ws) : own_ArI Z h' a ty z f := by obtain ⟨c, A, r⟩ := F; exact ⟨c, ⟨K.2.1 a c A.1 q, A.2⟩, r⟩
theorem own_ArJ.keep (F : own_ArJ Z h a ty z fj) (K : Keep h h' ws) (q : a ∉ ws) : own_ArJ Z h' a ty z fj := by obtain ⟨c, A, r⟩ := F; exact ⟨c, ⟨K.2.1 a c A.1 q, A.2⟩, r⟩
theorem own_nn (q : ¬ z < 0) : 0 ≤ z.toInt := by rw [Int32.lt_iff_toInt_lt] at q; have e0 : (0 : Int32).toInt = 0 := rfl; omega
theorem own_ArI.new {k : ClassId} (A : Arr Z h a (newA k ty z) ty) (q : ¬ z < 0) (hd : defaultValue ty = .int 0) (hf : fits ty (.int 0) = true := by rfl) : own_ArI Z h a ty z (fun _ => 0) :=
  ⟨_, A, sz_new _ _ _, own_nn q, fun i hi => ⟨by have hi' : i < z.toNatClampNeg := hi; simp [newA, hd, hi'], hf⟩⟩
theorem own_ArJ.new {k : ClassId} (A : Arr Z h a (newA k ty z) ty) (q : ¬ z < 0) (hd : defaultValue ty = .long 0) : own_ArJ Z h a ty z (fun _ => 0) :=
  ⟨_, A, sz_new _ _ _, own_nn q, fun i hi => by have hi' : i < z.toNatClampNeg := hi; simp [newA, hd, hi']⟩
theorem own_in {j : Int32} {n : Nat} (hn : n = z.toInt.toNat) (h1 : 0 ≤ j.toInt) (h2 : j.toInt < z.toInt) : ¬ (j < 0 ∨ n ≤ j.toNatClampNeg) := by
  have e0 : (0 : Int32).toInt = 0 := rfl
  rw [Int32.lt_iff_toInt_lt, hn]; show ¬ (_ ∨ _ ≤ j.toInt.toNat); omega
theorem own_ArI.set (F : own_ArI Z h a ty z f) {j : Nat} {x : Int32} (W : Wr h h' a j (.int x)) (hx : fits ty (.int x) = true) : own_ArI Z h' a ty z (fun i => if i = j then x else f i) := by
  obtain ⟨c, A, S, q, H⟩ := F
  refine ⟨_, A.same W, by rw [sz_set]; exact S, q, fun i hi => ?_⟩
  by_cases e : i = j
  · subst e
    have hlt : i < c.slots.size := by rw [S]; exact hi
    simp only [if_pos]
    exact ⟨by simp [Cell.setSlot, hlt], hx⟩
  · simp only [if_neg e]
    have hne : (c.setSlot j (.int x)).slots[i]? = c.slots[i]? := by simp only [Cell.setSlot]; exact Array.getElem?_setIfInBounds_ne (Ne.symm e)
    rw [hne]; exact H i hi
theorem own_ArJ.set (F : own_ArJ Z h a ty z fj) {j : Nat} {x : Int64} (W : Wr h h' a j (.long x)) : own_ArJ Z h' a ty z (fun i => if i = j then x else fj i) := by
  obtain ⟨c, A, S, q, H⟩ := F
  refine ⟨_, A.same W, by rw [sz_set]; exact S, q, fun i hi => ?_⟩
  by_cases e : i = j
  · subst e
    have hlt : i < c.slots.size := by rw [S]; exact hi
    simp only [if_pos]
    simp [Cell.setSlot, hlt]
  · simp only [if_neg e]
    have hne : (c.setSlot j (.long x)).slots[i]? = c.slots[i]? := by simp only [Cell.setSlot]; exact Array.getElem?_setIfInBounds_ne (Ne.symm e)
    rw [hne]; exact H i hi
theorem own_ldB (X : Stand p l e R s m args below meth c T locs cells slots) (hx : p.tables.exec = Jvm.exec) (hZ : Z.Warmed39 s.vm) (eT : T.heap = h) (A : own_ArI Z h a .byte z f) {j : Int32} (h1 : 0 ≤ j.toInt) (h2 : j.toInt < z.toInt) {g : JFrame} (hg : g.method = m) {rest : List Value} (hs : g.stack = .int j :: .ref a :: rest) (hd : decode c.code g.pc = .ok (.baload, 1)) (target : State)
    (k : Steps p.tables e below (T.setTop { g with pc := g.pc + 1, stack := .int (f j.toInt.toNat) :: rest }) target) : Steps p.tables e below (T.setTop g) target := by
  obtain ⟨cl, A, S, q, H⟩ := A
  exact X.baloadBytes hx (j := j) (v := .int (f j.toInt.toNat)) (by rw [eT]; exact A.1) (State.isArrayOf_alike hZ.alike A.2.1) A.2.2 (own_in S h1 h2) (H j.toInt.toNat (by omega)).1 hg hs hd target k
theorem own_ldJ (X : Stand p l e R s m args below meth c T locs cells slots) (hx : p.tables.exec = Jvm.exec) (hZ : Z.Warmed39 s.vm) (eT : T.heap = h) (A : own_ArJ Z h a .long z fj) {j : Int32} (h1 : 0 ≤ j.toInt) (h2 : j.toInt < z.toInt) {g : JFrame} (hg : g.method = m) {rest : List Value} (hs : g.stack = .int j :: .ref a :: rest) (hd : decode c.code g.pc = .ok (.laload, 1)) (target : State)
    (k : Steps p.tables e below (T.setTop { g with pc := g.pc + 1, stack := .long (fj j.toInt.toNat) :: rest }) target) : Steps p.tables e below (T.setTop g) target := by
  obtain ⟨cl, A, S, q, H⟩ := A
  exact X.laload hx (j := j) (v := .long (fj j.toInt.toNat)) (by rw [eT]; exact A.1) (State.isArrayOf_alike hZ.alike A.2.1) A.2.2 (own_in S h1 h2) (H j.toInt.toNat (by omega)) hg hs hd target k
theorem own_stB (X : Stand p l e R s m args below meth c T locs cells slots) (hx : p.tables.exec = Jvm.exec) (hZ : Z.Warmed39 s.vm) (eT : T.heap = h) (A : own_ArI Z h a .byte z f) {j x : Int32} (h1 : 0 ≤ j.toInt) (h2 : j.toInt < z.toInt) {g : JFrame} (hg : g.method = m) {rest : List Value} (hs : g.stack = .int x :: .int j :: .ref a :: rest) (hd : decode c.code g.pc = .ok (.bastore, 1)) :
    ∃ (T' : State) (h' : Heap) (f' : Nat → Int32), Stand p l e R s m args below meth c T' (locs ++ [⟨a, j.toInt.toNat⟩]) cells slots ∧ T'.heap = h' ∧ Wr h h' a j.toInt.toNat (.int (nar .byte x)) ∧ own_ArI Z h' a .byte z f' ∧ f' j.toInt.toNat = nar .byte x ∧ (∀ i, i ≠ j.toInt.toNat → f' i = f i) ∧
      ∀ target, Steps p.tables e below (T'.setTop { g with pc := g.pc + 1, stack := rest }) target → Steps p.tables e below (T.setTop g) target := by
  have A' := A
  obtain ⟨cl, B, S, q, H⟩ := A
  obtain ⟨T', h', X', e', W, st⟩ := stB X hx hZ eT B (j := j) (x := x) (own_in S h1 h2) hg hs hd
  exact ⟨T', h', _, X', e', W, A'.set W (fits_nar_byte x), if_pos rfl, fun i hi => if_neg hi, st⟩
theorem own_stC (X : Stand p l e R s m args below meth c T locs cells slots) (hx : p.tables.exec = Jvm.exec) (hZ : Z.Warmed39 s.vm) (eT : T.heap = h) (A : own_ArI Z h a .char z f) {j x : Int32} (h1 : 0 ≤ j.toInt) (h2 : j.toInt < z.toInt) {g : JFrame} (hg : g.method = m) {rest : List Value} (hs : g.stack = .int x :: .int j :: .ref a :: rest) (hd : decode c.code g.pc = .ok (.castore, 1)) :
    ∃ (T' : State) (h' : Heap) (f' : Nat → Int32), Stand p l e R s m args below meth c T' (locs ++ [⟨a, j.toInt.toNat⟩]) cells slots ∧ T'.heap = h' ∧ Wr h h' a j.toInt.toNat (.int (nar .char x)) ∧ own_ArI Z h' a .char z f' ∧ f' j.toInt.toNat = nar .char x ∧ (∀ i, i ≠ j.toInt.toNat → f' i = f i) ∧
      ∀ target, Steps p.tables e below (T'.setTop { g with pc := g.pc + 1, stack := rest }) target → Steps p.tables e below (T.setTop g) target := by
  have A' := A
  obtain ⟨cl, B, S, q, H⟩ := A
  obtain ⟨T', h', X', e', W, st⟩ := stC X hx hZ eT B (j := j) (x := x) (own_in S h1 h2) hg hs hd
  exact ⟨T', h', _, X', e', W, A'.set W (fits_nar_char x), if_pos rfl, fun i hi => if_neg hi, st⟩
theorem own_stJ (X : Stand p l e R s m args below meth c T locs cells slots) (hx : p.tables.exec = Jvm.exec) (hZ : Z.Warmed39 s.vm) (eT : T.heap = h) (A : own_ArJ Z h a .long z fj) {j : Int32} {x : Int64} (h1 : 0 ≤ j.toInt) (h2 : j.toInt < z.toInt) {g : JFrame} (hg : g.method = m) {rest : List Value} (hs : g.stack = .long x :: .int j :: .ref a :: rest) (hd : decode c.code g.pc = .ok (.lastore, 1)) :
    ∃ (T' : State) (h' : Heap) (f' : Nat → Int64), Stand p l e R s m args below meth c T' (locs ++ [⟨a, j.toInt.toNat⟩]) cells slots ∧ T'.heap = h' ∧ Wr h h' a j.toInt.toNat (.long x) ∧ own_ArJ Z h' a .long z f' ∧ f' j.toInt.toNat = x ∧ (∀ i, i ≠ j.toInt.toNat → f' i = fj i) ∧
      ∀ target, Steps p.tables e below (T'.setTop { g with pc := g.pc + 1, stack := rest }) target → Steps p.tables e below (T.setTop g) target := by
  have A' := A
  obtain ⟨cl, B, S, q, H⟩ := A
  obtain ⟨T', h', X', e', W, st⟩ := stJ X hx hZ eT B (j := j) (x := x) (own_in S h1 h2) hg hs hd
  exact ⟨T', h', _, X', e', W, A'.set W, if_pos rfl, fun i hi => if_neg hi, st⟩
theorem own_ArI.len (A : own_ArI Z h a ty z f) (X : Stand p l e R s m args below meth c T locs cells slots) (hx : p.tables.exec = Jvm.exec) (hZ : Z.Warmed39 s.vm) (eT : T.heap = h) {g : JFrame} (hg : g.method = m) {rest : List Value} (hs : g.stack = .ref a :: rest) (hd : decode c.code g.pc = .ok (.arraylength, 1)) (target : State)
    (k : Steps p.tables e below (T.setTop { g with pc := g.pc + 1, stack := .int z :: rest }) target) : Steps p.tables e below (T.setTop g) target := by
  obtain ⟨cl, B, S, q, -⟩ := A
  refine X.arraylength hx (by rw [eT]; exact B.1) (State.isArrayOf_alike hZ.alike B.2.1) hg hs hd target ?_
  rw [len_of (z := z) S (by rw [Int32.lt_iff_toInt_lt]; have e0 : (0 : Int32).toInt = 0 := rfl; omega)]; exact k
theorem own_ArJ.len (A : own_ArJ Z h a ty z fj) (X : Stand p l e R s m args below meth c T locs cells slots) (hx : p.tables.exec = Jvm.exec) (hZ : Z.Warmed39 s.vm) (eT : T.heap = h) {g : JFrame} (hg : g.method = m) {rest : List Value} (hs : g.stack = .ref a :: rest) (hd : decode c.code g.pc = .ok (.arraylength, 1)) (target : State)
    (k : Steps p.tables e below (T.setTop { g with pc := g.pc + 1, stack := .int z :: rest }) target) : Steps p.tables e below (T.setTop g) target := by
  obtain ⟨cl, B, S, q, -⟩ := A
  refine X.arraylength hx (by rw [eT]; exact B.1) (State.isArrayOf_alike hZ.alike B.2.1) hg hs hd target ?_
  rw [len_of (z := z) S (by rw [Int32.lt_iff_toInt_lt]; have e0 : (0 : Int32).toInt = 0 := rfl; omega)]; exact k
theorem own_toArv (A : own_ArI Z h a ty z f) : ∃ k, Arv Z h a k ty z ((List.range z.toInt.toNat).map fun i => Value.int (f i)) (.int 0) := by
  obtain ⟨c, B, S, q, H⟩ := A
  have g : ∀ i, i < z.toInt.toNat → ((List.range z.toInt.toNat).map fun i => Value.int (f i)).getD i (.int 0) = .int (f i) := fun i hi => by rw [List.getD_eq_getElem?_getD, List.getElem?_map, List.getElem?_range hi]; rfl
  refine ⟨_, c, B, rfl, S, by rw [Int32.lt_iff_toInt_lt]; have e0 : (0 : Int32).toInt = 0 := rfl; omega, fun i hi => ?_, fun i hi => ?_⟩
  · rw [S] at hi; rw [g i hi]; exact (H i hi).1
  · rw [S] at hi; rw [g i hi]; exact (H i hi).2
theorem own_ofArv {k : ClassId} {vs : List Value} {dv : Value} (A : Arv Z h a k ty z vs dv) (hv : ∀ i, i < z.toInt.toNat → vs.getD i dv = .int (f i)) : own_ArI Z h a ty z f := by
  obtain ⟨c, B, -, S, q, H, G⟩ := A
  have S' : c.slots.size = z.toInt.toNat := S
  exact ⟨c, B, S', own_nn q, fun i hi => ⟨by rw [← hv i hi]; exact H i (by rw [S']; exact hi), by rw [← hv i hi]; exact G i (by rw [S']; exact hi)⟩⟩
theorem own_cp (X : Stand p l e R s m args below meth c T locs cells slots) (hx : p.tables.exec = Jvm.exec) (hZ : Z.Warmed39 s.vm) {a0 : Array Value} {own : String} {index : Nat} (hown : s.vm.findClass own = some m.cls)
    (w1 : (Cond.methodLink own index Jvm.Stand.acN).before a0 Z = true) (w2 : (Cond.native Jvm.Stand.acN).before a0 Z = true) (w3 : (Cond.static Jvm.Stand.acN).before a0 Z = true) (w4 : (Cond.initialized "java/lang/System").before a0 Z = true) (eT : T.heap = h)
    {z' sp dp nn : Int32} {f2 : Nat → Int32} (A : own_ArI Z h a .byte z f) (B : own_ArI Z h b .byte z' f2) (h1 : 0 ≤ sp.toInt) (h2 : 0 ≤ dp.toInt) (h3 : 0 ≤ nn.toInt) (h4 : sp.toInt + nn.toInt ≤ z.toInt) (h5 : dp.toInt + nn.toInt ≤ z'.toInt) {n0 : Nat} (N : Fr n0 locs) (ge : n0 ≤ b)
    {g : JFrame} (hg : g.method = m) (hsize : g.locals.size = c.maxLocals) {rest : List Value} (hs : g.stack = .int nn :: .int dp :: .ref b :: .int sp :: .ref a :: rest) (hd : decode c.code g.pc = .ok (.invokestatic index, 3))
    (hf : 1 ≤ R.frames) {W : Nat} (hW : 2 * g.monitorRoom + (rest.map fun v => v.category).sum ≤ W) (hlo : W + (nativeFrameWords "java/lang/System" "arraycopy" 5 + 11) ≤ R.locals) :
    ∃ (T' : State) (h' : Heap) (L : List Loc) (f' : Nat → Int32), Stand p l e R s m args below meth c T' L cells slots ∧ T'.heap = h' ∧ Fr n0 L ∧ Keep h h' [b] ∧ own_ArI Z h' b .byte z' f' ∧ (∀ i, i < nn.toInt.toNat → f' (dp.toInt.toNat + i) = f (sp.toInt.toNat + i)) ∧ (∀ i, i < dp.toInt.toNat ∨ dp.toInt.toNat + nn.toInt.toNat ≤ i → f' i = f2 i) ∧
      ∀ target, Steps p.tables e below (T'.setTop { g with pc := g.pc + 3, stack := rest }) target → Steps p.tables e below (T.setTop g) target := by
  obtain ⟨ka, A'⟩ := own_toArv A
  obtain ⟨kb, B'⟩ := own_toArv B
  have e0 : (0 : Int32).toInt = 0 := rfl
  have nl : ∀ x : Int32, 0 ≤ x.toInt → ¬ x < 0 := fun x q => by rw [Int32.lt_iff_toInt_lt]; omega
  obtain ⟨T', h', L, X', e', N', K', V', st⟩ := cpA X hx hZ hown w1 w2 w3 w4 eT A' B' (Or.inl ⟨rfl, rfl⟩) (nl _ h1) (nl _ h2) (nl _ h3) (show sp.toInt.toNat + nn.toInt.toNat ≤ z.toInt.toNat by omega) (show dp.toInt.toNat + nn.toInt.toNat ≤ z'.toInt.toNat by omega) rfl (by show dp.toInt.toNat + nn.toInt.toNat ≤ _; simp only [List.length_map, List.length_range]; omega) N ge hg hsize hs hd hf hW hlo
  refine ⟨T', h', L, fun i => if dp.toInt.toNat ≤ i ∧ i < dp.toInt.toNat + nn.toInt.toNat then f (sp.toInt.toNat + (i - dp.toInt.toNat)) else f2 i, X', e', N', K', own_ofArv V' fun i hi => ?_, fun i hi => ?_, fun i hi => ?_, st⟩
  · have m1 : min dp.toInt.toNat z'.toInt.toNat = dp.toInt.toNat := by omega
    have gd : ∀ k, k < z'.toInt.toNat → ((List.range z'.toInt.toNat).map fun i => Value.int (f2 i))[k]? = some (.int (f2 k)) := fun k hk => by rw [List.getElem?_map, List.getElem?_range hk]; rfl
    have gs : ∀ k, k < z.toInt.toNat → ((List.range z.toInt.toNat).map fun i => Value.int (f i)).getD k (.int 0) = .int (f k) := fun k hk => by rw [List.getD_eq_getElem?_getD, List.getElem?_map, List.getElem?_range hk]; rfl
    have ll : (List.take dp.toInt.toNat ((List.range z'.toInt.toNat).map fun i => Value.int (f2 i))).length = dp.toInt.toNat := by rw [List.length_take, List.length_map, List.length_range]; exact m1
    show (List.take dp.toInt.toNat ((List.range z'.toInt.toNat).map fun i => Value.int (f2 i)) ++ (List.range nn.toInt.toNat).map (fun i => ((List.range z.toInt.toNat).map fun i => Value.int (f i)).getD (sp.toInt.toNat + i) (.int 0)) ++ List.drop (dp.toInt.toNat + nn.toInt.toNat) ((List.range z'.toInt.toNat).map fun i => Value.int (f2 i))).getD i (.int 0) = Value.int (if dp.toInt.toNat ≤ i ∧ i < dp.toInt.toNat + nn.toInt.toNat then f (sp.toInt.toNat + (i - dp.toInt.toNat)) else f2 i)
    rw [List.getD_eq_getElem?_getD, List.append_assoc]
    by_cases c1 : i < dp.toInt.toNat
    · rw [if_neg (by omega), List.getElem?_append_left (by rw [ll]; exact c1), List.getElem?_take_of_lt c1, gd i hi]; rfl
    · rw [List.getElem?_append_right (by rw [ll]; omega), ll]
      by_cases c2 : i < dp.toInt.toNat + nn.toInt.toNat
      · rw [if_pos ⟨by omega, c2⟩, List.getElem?_append_left (by rw [List.length_map, List.length_range]; omega), List.getElem?_map, List.getElem?_range (by omega)]
        exact gs _ (by omega)
      · rw [if_neg (by omega), List.getElem?_append_right (by rw [List.length_map, List.length_range]; omega), List.length_map, List.length_range, List.getElem?_drop, show dp.toInt.toNat + nn.toInt.toNat + (i - dp.toInt.toNat - nn.toInt.toNat) = i by omega, gd i hi]; rfl
  · simp only []; rw [if_pos ⟨by omega, by omega⟩, show dp.toInt.toNat + i - dp.toInt.toNat = i by omega]
  · simp only []; rw [if_neg (by omega)]
end Arrays
end Jvm.RoadKit
namespace Jvm.Pilot.@@N@@
open Jvm Jvm.ClassFile Sem Op Lib Jvm.Free Jvm.Stand Jvm.LawKit Jvm.RoadKit Bundle Jvm.Pilot.@@N@@.Jvm.D
def own_u (x : Int64) : Nat := x.toBitVec.toNat
theorem own_ui (x : Int64) : (x.toInt - own_u x) % 18446744073709551616 = 0 ∧ own_u x < 18446744073709551616 := by
  have h := x.toBitVec.isLt
  refine ⟨?_, h⟩
  show (x.toBitVec.toInt - (x.toBitVec.toNat : Int)) % _ = 0
  rw [BitVec.toInt_eq_toNat_cond]; split <;> omega
theorem own_u0 (x : Int64) : x = (0 : Int64) ↔ own_u x = 0 := by
  constructor
  · rintro rfl; rfl
  · intro h; exact Int64.toBitVec_inj.mp (BitVec.eq_of_toNat_eq h)
theorem own_ushr (x : Int64) (q : Int32) (k : Nat) (hk : q.toBitVec.toNat % 64 = k) : own_u (own_shrL x q) = own_u x / 2 ^ k := by
  have e : ((q &&& 0x3f).toInt64.toUInt64).toNat = k := by
    show (q &&& 0x3f).toInt64.toBitVec.toNat = k
    rw [(sm64 q k hk).1, BitVec.toNat_ofNat]; omega
  show (x.toUInt64 >>> (q &&& 0x3f).toInt64.toUInt64).toNat = _
  rw [UInt64.toNat_shiftRight, Nat.shiftRight_eq_div_pow, e, Nat.mod_eq_of_lt (by omega)]; rfl
theorem own_dec {j : Int32} (h : -2147483648 < j.toInt) : (j + (Int32.ofInt (-1))).toInt = j.toInt - 1 := by
  have a := c_iadd j (Int32.ofInt (-1)); have c := rng32 (j + (Int32.ofInt (-1))); have d := rng32 j
  have e1 : (Int32.ofInt (-1)).toInt = -1 := by decide
  omega
def own_LS (n : Nat) (x : Int64) (b : Nat) (f f' : Nat → Int32) : Prop :=
  (∀ e, e < n → (f' (b + n - 1 - e)).toInt = 48 + (x.toInt.toNat / 10 ^ e % 10 : Nat)) ∧ ∀ i, i < b ∨ b + n ≤ i → f' i = f i
theorem own_dig (x : Int64) (h : 0 ≤ x.toInt) : (nar .byte ((((48 : Int64) + (x - (x / (10 : Int64)) * (10 : Int64))).toInt32).toInt8.toInt32)).toInt = 48 + x.toInt % 10 := by
  have r := (c_lrem x 10 10 rfl).1 h
  have a := c_ladd 48 (x - (x / (10 : Int64)) * (10 : Int64)); have ar := rng64 ((48 : Int64) + (x - (x / (10 : Int64)) * (10 : Int64)))
  have l := c_l2i ((48 : Int64) + (x - (x / (10 : Int64)) * (10 : Int64))); have lr := rng32 ((48 : Int64) + (x - (x / (10 : Int64)) * (10 : Int64))).toInt32
  have b := c_i2b ((48 : Int64) + (x - (x / (10 : Int64)) * (10 : Int64))).toInt32
  have b2 := c_i2b (((48 : Int64) + (x - (x / (10 : Int64)) * (10 : Int64))).toInt32.toInt8.toInt32)
  have e48 : (48 : Int64).toInt = 48 := rfl
  show (((((48 : Int64) + (x - (x / (10 : Int64)) * (10 : Int64))).toInt32).toInt8.toInt32).toInt8.toInt32).toInt = _
  rw [r, e48] at a
  omega
theorem own_div10 (x : Int64) (h : 0 ≤ x.toInt) : (x / (10 : Int64)).toInt = x.toInt / 10 := (c_ldiv x 10 10 rfl (by decide)).1 h
theorem own_LS.stop {x : Int64} {b : Nat} {f : Nat → Int32} : own_LS 0 x b f f := ⟨fun _ h => absurd h (Nat.not_lt_zero _), fun _ _ => rfl⟩
theorem own_LS.turn {n : Nat} {x : Int64} {b : Nat} {f f1 f' : Nat → Int32} (hn : 0 < n) (hx : 0 ≤ x.toInt) (ha : (f1 (b + n - 1)).toInt = 48 + x.toInt % 10) (hb : ∀ i, i ≠ b + n - 1 → f1 i = f i)
    (h : own_LS (n - 1) (x / (10 : Int64)) b f1 f') : own_LS n x b f f' := by
  obtain ⟨h1, h2⟩ := h
  have d := own_div10 x hx
  have dn : (x / (10 : Int64)).toInt.toNat = x.toInt.toNat / 10 := by rw [d]; omega
  refine ⟨fun e he => ?_, fun i hi => ?_⟩
  · cases e with
    | zero =>
      rw [Nat.sub_zero, h2 _ (Or.inr (by omega)), ha]
      simp only [Nat.pow_zero, Nat.div_one]; omega
    | succ e =>
      have q := h1 e (by omega)
      rw [dn, Nat.div_div_eq_div_mul, show 10 * 10 ^ e = 10 ^ (e + 1) by rw [Nat.pow_succ, Nat.mul_comm], show b + (n - 1) - 1 - e = b + n - 1 - (e + 1) by omega] at q
      exact q
  · rw [h2 i (by omega), hb i (by omega)]
theorem own_d1_11 : decode prog_65_method_10_code 11 = .ok (.iload 7, 2) := by decide +kernel
theorem own_d1_13 : decode prog_65_method_10_code 13 = .ok (.iload 4, 2) := by decide +kernel
theorem own_d1_15 : decode prog_65_method_10_code 15 = .ok (.if_icmp .lt 33, 3) := by decide +kernel
theorem own_d1_18 : decode prog_65_method_10_code 18 = .ok (.aload_n 3, 1) := by decide +kernel
theorem own_d1_19 : decode prog_65_method_10_code 19 = .ok (.iload 7, 2) := by decide +kernel
theorem own_d1_21 : decode prog_65_method_10_code 21 = .ok (.ldc2_w 45, 3) := by decide +kernel
theorem own_d1_24 : decode prog_65_method_10_code 24 = .ok (.lload 5, 2) := by decide +kernel
theorem own_d1_26 : decode prog_65_method_10_code 26 = .ok (.ldc2_w 29, 3) := by decide +kernel
theorem own_d1_29 : decode prog_65_method_10_code 29 = .ok (.lrem, 1) := by decide +kernel
theorem own_d1_30 : decode prog_65_method_10_code 30 = .ok (.ladd, 1) := by decide +kernel
theorem own_d1_31 : decode prog_65_method_10_code 31 = .ok (.l2i, 1) := by decide +kernel
theorem own_d1_32 : decode prog_65_method_10_code 32 = .ok (.i2b, 1) := by decide +kernel
theorem own_d1_33 : decode prog_65_method_10_code 33 = .ok (.bastore, 1) := by decide +kernel
theorem own_d1_34 : decode prog_65_method_10_code 34 = .ok (.lload 5, 2) := by decide +kernel
theorem own_d1_36 : decode prog_65_method_10_code 36 = .ok (.ldc2_w 29, 3) := by decide +kernel
theorem own_d1_39 : decode prog_65_method_10_code 39 = .ok (.ldiv, 1) := by decide +kernel
theorem own_d1_40 : decode prog_65_method_10_code 40 = .ok (.lstore 5, 2) := by decide +kernel
theorem own_d1_42 : decode prog_65_method_10_code 42 = .ok (.iinc 7 (-1), 3) := by decide +kernel
theorem own_d1_45 : decode prog_65_method_10_code 45 = .ok (.goto (-34), 3) := by decide +kernel
set_option maxRecDepth 65536 in
set_option maxHeartbeats 40000000 in
theorem own_lp1 {p : Program} {l : Launch} {e : Env} {R : Room} {s : State} {m : MethodId} {args : Array Value} {below : List Frame} {meth : Method} {c : Code} {cells slots : Nat} {Z : State} {a0 : Array Value} {h0 : Heap} {n0 : Nat} {G : State → Outcome → Prop}
    (hx : p.tables.exec = Jvm.exec) (hZ : Z.Warmed39 s.vm) (hw : ∀ d ∈ tables_1, d.before a0 Z = true) (hby : c.code = prog_65_method_10_code) (hml : c.maxLocals = 8) (hown : s.vm.findClass "com/example/rowcast/rowcast/number/IntText" = some m.cls) (q0 : Int64) (p1 : Int32) (a2 : Addr) (p3 : Int32) (z : Int32) (go_a2 : n0 ≤ a2) (hp : 0 ≤ p3.toInt) :
    ∀ (fuel : Nat) (T0 : State) (h : Heap) (locs : List Loc) (j : Int32) (x : Int64) (f : Nat → Int32) (X0 : Stand p l e R s m args below meth c T0 locs cells slots) (e0 : T0.heap = h) (N0 : Fr n0 locs) (Z0 : n0 ≤ h.size) (K0 : Keep h0 h [a2]) (V0 : own_ArI Z h a2 .byte z f) (hx0 : 0 ≤ x.toInt) (hj : j.toInt + 1 = p3.toInt + fuel) (hjz : j.toInt < z.toInt),
    (∀ (T' : State) (h' : Heap) (locs' : List Loc) (j' : Int32) (x' : Int64) (f' : Nat → Int32), Stand p l e R s m args below meth c T' locs' cells slots → T'.heap = h' → Fr n0 locs' → n0 ≤ h'.size → Keep h0 h' [a2] → own_ArI Z h' a2 .byte z f' → own_LS fuel x p3.toInt.toNat f f' → ∃ s₂ o, Steps p.tables e below (T'.setTop (mkF m 48 #[.val (.long q0), .second, .val (.int p1), .val (.ref a2), .val (.int p3), .val (.long x'), .second, .val (.int j')] [])) s₂ ∧ G s₂ o) →
    ∃ s₂ o, Steps p.tables e below (T0.setTop (mkF m 11 #[.val (.long q0), .second, .val (.int p1), .val (.ref a2), .val (.int p3), .val (.long x), .second, .val (.int j)] [])) s₂ ∧ G s₂ o := by
  intro fuel
  induction fuel using Nat.strongRecOn with
  | ind fuel ih =>
  intro T0 h locs j x f X0 e0 N0 Z0 K0 V0 hx0 hj hjz kx
  refine own_go (T' := T0) (f' := (mkF m 15 #[.val (.long q0), .second, .val (.int p1), .val (.ref a2), .val (.int p3), .val (.long x), .second, .val (.int j)] [(.int p3), (.int j)])) (fun t k => ?_) ?_
  · show Steps p.tables e below (T0.setTop (mkF m 11 #[.val (.long q0), .second, .val (.int p1), .val (.ref a2), .val (.int p3), .val (.long x), .second, .val (.int j)] [])) _
    refine XS.iload X0.here hx rfl (hb hby own_d1_11) rfl ?_
    show Steps p.tables e below (T0.setTop (mkF m 13 #[.val (.long q0), .second, .val (.int p1), .val (.ref a2), .val (.int p3), .val (.long x), .second, .val (.int j)] [(.int j)])) _
    refine XS.iload X0.here hx rfl (hb hby own_d1_13) rfl ?_
    show Steps p.tables e below (T0.setTop (mkF m 15 #[.val (.long q0), .second, .val (.int p1), .val (.ref a2), .val (.int p3), .val (.long x), .second, .val (.int j)] [(.int p3), (.int j)])) _
    exact k
  by_cases hc15_1 : j < p3
  · skip
    refine own_go (T' := T0) (f' := (mkF m 48 #[.val (.long q0), .second, .val (.int p1), .val (.ref a2), .val (.int p3), .val (.long x), .second, .val (.int j)] [])) (fun t k => ?_) ?_
    · show Steps p.tables e below (T0.setTop (mkF m 15 #[.val (.long q0), .second, .val (.int p1), .val (.ref a2), .val (.int p3), .val (.long x), .second, .val (.int j)] [(.int p3), (.int j)])) _
      refine XS.icmpYes X0.here hx rfl (pc0 := 15) (pc' := 48) rfl (hb hby own_d1_15) rfl (tlt hc15_1).1 (by decide) (by decide) ?_
      show Steps p.tables e below (T0.setTop (mkF m 48 #[.val (.long q0), .second, .val (.int p1), .val (.ref a2), .val (.int p3), .val (.long x), .second, .val (.int j)] [])) _
      exact k
    have hf0 : fuel = 0 := by have q := hc15_1; rw [Int32.lt_iff_toInt_lt] at q; omega
    subst hf0
    exact kx _ _ _ j x f X0 e0 N0 Z0 K0 V0 own_LS.stop
  · skip
    refine own_go (T' := T0) (f' := (mkF m 33 #[.val (.long q0), .second, .val (.int p1), .val (.ref a2), .val (.int p3), .val (.long x), .second, .val (.int j)] [(.int ((((48 : Int64) + (x - (x / (10 : Int64)) * (10 : Int64))).toInt32).toInt8.toInt32)), (.int j), (.ref a2)])) (fun t k => ?_) ?_
    · show Steps p.tables e below (T0.setTop (mkF m 15 #[.val (.long q0), .second, .val (.int p1), .val (.ref a2), .val (.int p3), .val (.long x), .second, .val (.int j)] [(.int p3), (.int j)])) _
      refine XS.icmpNo X0.here hx rfl (hb hby own_d1_15) rfl (flt hc15_1).1 ?_
      show Steps p.tables e below (T0.setTop (mkF m 18 #[.val (.long q0), .second, .val (.int p1), .val (.ref a2), .val (.int p3), .val (.long x), .second, .val (.int j)] [])) _
      refine XS.aloadN X0.here hx rfl (hb hby own_d1_18) rfl rfl ?_
      show Steps p.tables e below (T0.setTop (mkF m 19 #[.val (.long q0), .second, .val (.int p1), .val (.ref a2), .val (.int p3), .val (.long x), .second, .val (.int j)] [(.ref a2)])) _
      refine XS.iload X0.here hx rfl (hb hby own_d1_19) rfl ?_
      show Steps p.tables e below (T0.setTop (mkF m 21 #[.val (.long q0), .second, .val (.int p1), .val (.ref a2), .val (.int p3), .val (.long x), .second, .val (.int j)] [(.int j), (.ref a2)])) _
      refine X0.ldc2Long hx hown (mvT hZ (hw _ (List.mem_of_getElem? (i := 7) rfl))) (g := (mkF m 21 #[.val (.long q0), .second, .val (.int p1), .val (.ref a2), .val (.int p3), .val (.long x), .second, .val (.int j)] [(.int j), (.ref a2)])) rfl (hb hby own_d1_21) _ ?_
      show Steps p.tables e below (T0.setTop (mkF m 24 #[.val (.long q0), .second, .val (.int p1), .val (.ref a2), .val (.int p3), .val (.long x), .second, .val (.int j)] [(.long (48 : Int64)), (.int j), (.ref a2)])) _
      refine XS.lload X0.here hx rfl (hb hby own_d1_24) rfl ?_
      show Steps p.tables e below (T0.setTop (mkF m 26 #[.val (.long q0), .second, .val (.int p1), .val (.ref a2), .val (.int p3), .val (.long x), .second, .val (.int j)] [(.long x), (.long (48 : Int64)), (.int j), (.ref a2)])) _
      refine X0.ldc2Long hx hown (mvT hZ (hw _ (List.mem_of_getElem? (i := 8) rfl))) (g := (mkF m 26 #[.val (.long q0), .second, .val (.int p1), .val (.ref a2), .val (.int p3), .val (.long x), .second, .val (.int j)] [(.long x), (.long (48 : Int64)), (.int j), (.ref a2)])) rfl (hb hby own_d1_26) _ ?_
      show Steps p.tables e below (T0.setTop (mkF m 29 #[.val (.long q0), .second, .val (.int p1), .val (.ref a2), .val (.int p3), .val (.long x), .second, .val (.int j)] [(.long (10 : Int64)), (.long x), (.long (48 : Int64)), (.int j), (.ref a2)])) _
      refine XS.lrem X0.here hx rfl (hb hby own_d1_29) rfl (by decide) ?_
      show Steps p.tables e below (T0.setTop (mkF m 30 #[.val (.long q0), .second, .val (.int p1), .val (.ref a2), .val (.int p3), .val (.long x), .second, .val (.int j)] [(.long (x - (x / (10 : Int64)) * (10 : Int64))), (.long (48 : Int64)), (.int j), (.ref a2)])) _
      refine XS.ladd X0.here hx rfl (hb hby own_d1_30) rfl ?_
      show Steps p.tables e below (T0.setTop (mkF m 31 #[.val (.long q0), .second, .val (.int p1), .val (.ref a2), .val (.int p3), .val (.long x), .second, .val (.int j)] [(.long ((48 : Int64) + (x - (x / (10 : Int64)) * (10 : Int64)))), (.int j), (.ref a2)])) _
      refine XS.l2i X0.here hx rfl (hb hby own_d1_31) rfl ?_
      show Steps p.tables e below (T0.setTop (mkF m 32 #[.val (.long q0), .second, .val (.int p1), .val (.ref a2), .val (.int p3), .val (.long x), .second, .val (.int j)] [(.int (((48 : Int64) + (x - (x / (10 : Int64)) * (10 : Int64))).toInt32)), (.int j), (.ref a2)])) _
      refine XS.i2b X0.here hx rfl (hb hby own_d1_32) rfl ?_
      show Steps p.tables e below (T0.setTop (mkF m 33 #[.val (.long q0), .second, .val (.int p1), .val (.ref a2), .val (.int p3), .val (.long x), .second, .val (.int j)] [(.int ((((48 : Int64) + (x - (x / (10 : Int64)) * (10 : Int64))).toInt32).toInt8.toInt32)), (.int j), (.ref a2)])) _
      exact k
    have hjp : p3.toInt ≤ j.toInt := by have q := hc15_1; rw [Int32.lt_iff_toInt_lt] at q; omega
    obtain ⟨T2, h2, y2, X2, e2, W2, V2, ya2, yb2, st2⟩ := own_stB X0 hx hZ e0 V0 (j := j) (x := ((((48 : Int64) + (x - (x / (10 : Int64)) * (10 : Int64))).toInt32).toInt8.toInt32)) (by omega) hjz (g := (mkF m 33 #[.val (.long q0), .second, .val (.int p1), .val (.ref a2), .val (.int p3), .val (.long x), .second, .val (.int j)] [(.int ((((48 : Int64) + (x - (x / (10 : Int64)) * (10 : Int64))).toInt32).toInt8.toInt32)), (.int j), (.ref a2)])) rfl rfl (hb hby own_d1_33)
    refine own_go (T' := T2) (f' := (mkF m 34 #[.val (.long q0), .second, .val (.int p1), .val (.ref a2), .val (.int p3), .val (.long x), .second, .val (.int j)] [])) st2 ?_
    have fc3 : own_ArI Z h2 a2 .byte z y2 := V2
    have Zs2 : n0 ≤ h2.size := Nat.le_trans Z0 (Keep.of_wr W2).1
    have K2 : Keep h0 h2 [a2] := K0.wr W2 (Or.inl (List.mem_of_getElem? (i := 0) rfl))
    have N2 := Fr.snoc X2 N0 go_a2
    have ya2' : y2 j.toInt.toNat = (nar .byte ((((48 : Int64) + (x - (x / (10 : Int64)) * (10 : Int64))).toInt32).toInt8.toInt32)) := ya2
    have yb2' : ∀ i, i ≠ j.toInt.toNat → y2 i = f i := yb2
    refine own_go (T' := T2) (f' := (mkF m 11 #[.val (.long q0), .second, .val (.int p1), .val (.ref a2), .val (.int p3), .val (.long (x / (10 : Int64))), .second, .val (.int (j + (Int32.ofInt (-1))))] [])) (fun t k => ?_) ?_
    · show Steps p.tables e below (T2.setTop (mkF m 34 #[.val (.long q0), .second, .val (.int p1), .val (.ref a2), .val (.int p3), .val (.long x), .second, .val (.int j)] [])) _
      refine XS.lload X2.here hx rfl (hb hby own_d1_34) rfl ?_
      show Steps p.tables e below (T2.setTop (mkF m 36 #[.val (.long q0), .second, .val (.int p1), .val (.ref a2), .val (.int p3), .val (.long x), .second, .val (.int j)] [(.long x)])) _
      refine X2.ldc2Long hx hown (mvT hZ (hw _ (List.mem_of_getElem? (i := 8) rfl))) (g := (mkF m 36 #[.val (.long q0), .second, .val (.int p1), .val (.ref a2), .val (.int p3), .val (.long x), .second, .val (.int j)] [(.long x)])) rfl (hb hby own_d1_36) _ ?_
      show Steps p.tables e below (T2.setTop (mkF m 39 #[.val (.long q0), .second, .val (.int p1), .val (.ref a2), .val (.int p3), .val (.long x), .second, .val (.int j)] [(.long (10 : Int64)), (.long x)])) _
      refine XS.ldiv X2.here hx rfl (hb hby own_d1_39) rfl (by decide) ?_
      show Steps p.tables e below (T2.setTop (mkF m 40 #[.val (.long q0), .second, .val (.int p1), .val (.ref a2), .val (.int p3), .val (.long x), .second, .val (.int j)] [(.long (x / (10 : Int64)))])) _
      refine XS.lstore X2.here hx rfl (hb hby own_d1_40) rfl (l' := #[.val (.long q0), .second, .val (.int p1), .val (.ref a2), .val (.int p3), .val (.long (x / (10 : Int64))), .second, .val (.int j)]) rfl ?_
      show Steps p.tables e below (T2.setTop (mkF m 42 #[.val (.long q0), .second, .val (.int p1), .val (.ref a2), .val (.int p3), .val (.long (x / (10 : Int64))), .second, .val (.int j)] [])) _
      refine XS.iinc X2.here hx rfl (hb hby own_d1_42) rfl (l' := #[.val (.long q0), .second, .val (.int p1), .val (.ref a2), .val (.int p3), .val (.long (x / (10 : Int64))), .second, .val (.int (j + (Int32.ofInt (-1))))]) rfl ?_
      show Steps p.tables e below (T2.setTop (mkF m 45 #[.val (.long q0), .second, .val (.int p1), .val (.ref a2), .val (.int p3), .val (.long (x / (10 : Int64))), .second, .val (.int (j + (Int32.ofInt (-1))))] [])) _
      refine XS.goto X2.here hx rfl (pc0 := 45) (pc' := 11) rfl (hb hby own_d1_45) (by decide) (by decide) ?_
      show Steps p.tables e below (T2.setTop (mkF m 11 #[.val (.long q0), .second, .val (.int p1), .val (.ref a2), .val (.int p3), .val (.long (x / (10 : Int64))), .second, .val (.int (j + (Int32.ofInt (-1))))] [])) _
      exact k
    have hj1 : (j + (Int32.ofInt (-1))).toInt = j.toInt - 1 := own_dec (by omega)
    generalize (j + (Int32.ofInt (-1))) = j1 at *
    have hjn : j.toInt.toNat = p3.toInt.toNat + fuel - 1 := by omega
    have hd := own_div10 x hx0
    refine ih (fuel - 1) (by omega) _ _ _ j1 ((x / (10 : Int64))) y2 X2 e2 N2 Zs2 K2 fc3 (by omega) (by omega) (by omega) (fun T' h' locs' j' x' f' X' e' N' Z' K' V0' sp => ?_)
    exact kx T' h' locs' j' x' f' X' e' N' Z' K' V0' (own_LS.turn (by omega) hx0 (by rw [← hjn, ya2']; exact own_dig x hx0) (by rw [← hjn]; exact yb2') sp)
theorem own_d1_0 : decode prog_65_method_10_code 0 = .ok (.lload_n 0, 1) := by decide +kernel
theorem own_d1_1 : decode prog_65_method_10_code 1 = .ok (.lstore 5, 2) := by decide +kernel
theorem own_d1_3 : decode prog_65_method_10_code 3 = .ok (.iload 4, 2) := by decide +kernel
theorem own_d1_5 : decode prog_65_method_10_code 5 = .ok (.iload_n 2, 1) := by decide +kernel
theorem own_d1_6 : decode prog_65_method_10_code 6 = .ok (.iadd, 1) := by decide +kernel
theorem own_d1_7 : decode prog_65_method_10_code 7 = .ok (.iconst 1, 1) := by decide +kernel
theorem own_d1_8 : decode prog_65_method_10_code 8 = .ok (.isub, 1) := by decide +kernel
theorem own_d1_9 : decode prog_65_method_10_code 9 = .ok (.istore 7, 2) := by decide +kernel
theorem own_d1_48 : decode prog_65_method_10_code 48 = .ok (.iload 4, 2) := by decide +kernel
theorem own_d1_50 : decode prog_65_method_10_code 50 = .ok (.iload_n 2, 1) := by decide +kernel
theorem own_d1_51 : decode prog_65_method_10_code 51 = .ok (.iadd, 1) := by decide +kernel
theorem own_d1_52 : decode prog_65_method_10_code 52 = .ok (.ireturn, 1) := by decide +kernel
theorem own_pn0 : plainName "com/example/rowcast/rowcast/number/IntText" = true := by first | (simp [plainName, overriddenIn]; done) | decide +kernel
theorem own_ef1 (m : MethodId) (q0 : Int64) (p1 : Int32) (a2 : Addr) (p3 : Int32) : entryFrame m #[(.long q0), (.int p1), (.ref a2), (.int p3)] 8 = mkF m 0 #[.val (.long q0), .second, .val (.int p1), .val (.ref a2), .val (.int p3), .unset, .unset, .unset] [] := by first | (simp [entryFrame, mkF, argsToLocals, Value.category]; done) | rfl
def own_Q1 (Z : State) (q0 : Int64) (p1 : Int32) (a2 : Addr) (p3 : Int32) (z : Int32) (f : Nat → Int32) (h0 : Heap) (n0 : Nat) (v : Option Value) (h : Heap) (L : List Loc) : Prop := ∃ (f' : Nat → Int32), (v = some (.int (p3 + p1))) ∧ (Fr n0 L) ∧ (Keep h0 h [a2]) ∧ (own_ArI Z h a2 .byte z f') ∧ (own_LS p1.toInt.toNat q0 p3.toInt.toNat f f')
set_option maxRecDepth 65536 in
set_option maxHeartbeats 40000000 in
theorem own_rm1 (l : Launch) (Z : State) (a0 : Array Value) (hw : ∀ d ∈ tables_1, d.before a0 Z = true) (ws : List Jvm.Cond) (q0 : Int64) (p1 : Int32) (a2 : Addr) (p3 : Int32) (z : Int32) (f : Nat → Int32) (h0 : Heap) (n0 : Nat) (Z0 : n0 ≤ h0.size) (P0 : own_ArI Z h0 a2 .byte z f) (go_a2 : n0 ≤ a2) (hv : 0 ≤ q0.toInt) (hl : 0 ≤ p1.toInt) (hp : 0 ≤ p3.toInt) (hz : p3.toInt + p1.toInt ≤ z.toInt) :
    MetFree l (⟨"com/example/rowcast/rowcast/number/IntText", "writeDigits", "(JI[BI)I"⟩ : MethodName) (head1 (Jvm.Cond.code (⟨"com/example/rowcast/rowcast/number/IntText", "writeDigits", "(JI[BI)I"⟩ : MethodName) prog_65_method_10_code 8 (some .int) :: ws) ({ frames := 0, cells := 0, slots := 0, locals := 0 } : Room)) (fun a U => a = #[(.long q0), (.int p1), (.ref a2), (.int p3)] ∧ Z.Warmed39 U.vm ∧ U.heap = h0) (fun _ _ _ _ _ => True) (fun _ U o U' => ∃ v L, o = .returned v ∧ own_Q1 Z q0 p1 a2 p3 z f h0 n0 v U'.heap L ∧ FrameEnd U o U' L ({ frames := 0, cells := 0, slots := 0, locals := 0 } : Room).cells ({ frames := 0, cells := 0, slots := 0, locals := 0 } : Room).slots) := by
  refine MetFree.of_bodySF (plainFor_of_name own_pn0) hisR ?_
  intro p e s m args below meth c s₁ Bd hml0 hP hK
  obtain ⟨rfl, hZ, hh⟩ := hP
  have hx := Bd.exec
  have hby := Bd.bytes
  have hml : c.maxLocals = 8 := hml0
  have hown : s.vm.findClass "com/example/rowcast/rowcast/number/IntText" = some m.cls := findClass_of_methodNamed Bd.named
  have hnm := (name_of_methodNamed Bd.named Bd.method).1
  have X0 : Stand p l e ({ frames := 0, cells := 0, slots := 0, locals := 0 } : Room) s m #[(.long q0), (.int p1), (.ref a2), (.int p3)] below meth c s₁ [] 0 0 := Stand.of_body Bd
  have e0 : s₁.heap = h0 := by rw [← hh, Bd.state]; rfl
  have N0 := Fr.nil n0
  have K0 : Keep h0 h0 [a2] := Keep.refl h0 _
  refine own_go (fun t k => castTop (own_ef1 m q0 p1 a2 p3) k) ?_
  refine own_go (T' := s₁) (f' := (mkF m 11 #[.val (.long q0), .second, .val (.int p1), .val (.ref a2), .val (.int p3), .val (.long q0), .second, .val (.int ((p3 + p1) - (1 : Int32)))] [])) (fun t k => ?_) ?_
  · show Steps p.tables e below (s₁.setTop (mkF m 0 #[.val (.long q0), .second, .val (.int p1), .val (.ref a2), .val (.int p3), .unset, .unset, .unset] [])) _
    refine XS.lloadN X0.here hx rfl (hb hby own_d1_0) rfl ?_
    show Steps p.tables e below (s₁.setTop (mkF m 1 #[.val (.long q0), .second, .val (.int p1), .val (.ref a2), .val (.int p3), .unset, .unset, .unset] [(.long q0)])) _
    refine XS.lstore X0.here hx rfl (hb hby own_d1_1) rfl (l' := #[.val (.long q0), .second, .val (.int p1), .val (.ref a2), .val (.int p3), .val (.long q0), .second, .unset]) rfl ?_
    show Steps p.tables e below (s₁.setTop (mkF m 3 #[.val (.long q0), .second, .val (.int p1), .val (.ref a2), .val (.int p3), .val (.long q0), .second, .unset] [])) _
    refine XS.iload X0.here hx rfl (hb hby own_d1_3) rfl ?_
    show Steps p.tables e below (s₁.setTop (mkF m 5 #[.val (.long q0), .second, .val (.int p1), .val (.ref a2), .val (.int p3), .val (.long q0), .second, .unset] [(.int p3)])) _
    refine XS.iloadN X0.here hx rfl (hb hby own_d1_5) rfl ?_
    show Steps p.tables e below (s₁.setTop (mkF m 6 #[.val (.long q0), .second, .val (.int p1), .val (.ref a2), .val (.int p3), .val (.long q0), .second, .unset] [(.int p1), (.int p3)])) _
    refine XS.iadd X0.here hx rfl (hb hby own_d1_6) rfl ?_
    show Steps p.tables e below (s₁.setTop (mkF m 7 #[.val (.long q0), .second, .val (.int p1), .val (.ref a2), .val (.int p3), .val (.long q0), .second, .unset] [(.int (p3 + p1))])) _
    refine XS.iconst X0.here hx rfl (hb hby own_d1_7) ?_
    show Steps p.tables e below (s₁.setTop (mkF m 8 #[.val (.long q0), .second, .val (.int p1), .val (.ref a2), .val (.int p3), .val (.long q0), .second, .unset] [(.int (1 : Int32)), (.int (p3 + p1))])) _
    refine XS.isub X0.here hx rfl (hb hby own_d1_8) rfl ?_
    show Steps p.tables e below (s₁.setTop (mkF m 9 #[.val (.long q0), .second, .val (.int p1), .val (.ref a2), .val (.int p3), .val (.long q0), .second, .unset] [(.int ((p3 + p1) - (1 : Int32)))])) _
    refine XS.istore X0.here hx rfl (hb hby own_d1_9) rfl (l' := #[.val (.long q0), .second, .val (.int p1), .val (.ref a2), .val (.int p3), .val (.long q0), .second, .val (.int ((p3 + p1) - (1 : Int32)))]) rfl ?_
    show Steps p.tables e below (s₁.setTop (mkF m 11 #[.val (.long q0), .second, .val (.int p1), .val (.ref a2), .val (.int p3), .val (.long q0), .second, .val (.int ((p3 + p1) - (1 : Int32)))] [])) _
    exact k
  have hj0 : ((p3 + p1) - (1 : Int32)).toInt = p3.toInt + p1.toInt - 1 := by have a := c_iadd p3 p1; have b := rng32 z; have c := rng32 (p3 + p1); have d := c_isub (p3 + p1) 1; have g := rng32 ((p3 + p1) - 1); have e1 : (1 : Int32).toInt = 1 := rfl; omega
  refine own_lp1 hx hZ hw hby hml hown q0 p1 a2 p3 z go_a2 hp (p1.toInt.toNat) _ _ _ (((p3 + p1) - (1 : Int32))) q0 f X0 e0 N0 Z0 K0 P0 hv (by omega) (by omega) ?_
  intro T1 h1 lo1 j'_1 x'_1 f'_1 X1 e1 N1 Zs1 K1 V1_0 sp1
  refine own_go (T' := T1) (f' := (mkF m 52 #[.val (.long q0), .second, .val (.int p1), .val (.ref a2), .val (.int p3), .val (.long x'_1), .second, .val (.int j'_1)] [(.int (p3 + p1))])) (fun t k => ?_) ?_
  · show Steps p.tables e below (T1.setTop (mkF m 48 #[.val (.long q0), .second, .val (.int p1), .val (.ref a2), .val (.int p3), .val (.long x'_1), .second, .val (.int j'_1)] [])) _
    refine XS.iload X1.here hx rfl (hb hby own_d1_48) rfl ?_
    show Steps p.tables e below (T1.setTop (mkF m 50 #[.val (.long q0), .second, .val (.int p1), .val (.ref a2), .val (.int p3), .val (.long x'_1), .second, .val (.int j'_1)] [(.int p3)])) _
    refine XS.iloadN X1.here hx rfl (hb hby own_d1_50) rfl ?_
    show Steps p.tables e below (T1.setTop (mkF m 51 #[.val (.long q0), .second, .val (.int p1), .val (.ref a2), .val (.int p3), .val (.long x'_1), .second, .val (.int j'_1)] [(.int p1), (.int p3)])) _
    refine XS.iadd X1.here hx rfl (hb hby own_d1_51) rfl ?_
    show Steps p.tables e below (T1.setTop (mkF m 52 #[.val (.long q0), .second, .val (.int p1), .val (.ref a2), .val (.int p3), .val (.long x'_1), .second, .val (.int j'_1)] [(.int (p3 + p1))])) _
    exact k
  obtain ⟨fs, hr, hrun, hended, hW, hsame⟩ := X1.leave (v := some (.int (p3 + p1))) (fun h => by rw [Bd.returns] at h; cases h)
  refine ⟨_, _, ?_, hrun, hended, _, _, rfl, ?_, ⟨_, rfl⟩, hW, hsame.mono (by decide) (by decide)⟩
  · exact retI X1 hx Bd.returns (hb hby own_d1_52) hr
  · show own_Q1 Z q0 p1 a2 p3 z f h0 n0 _ T1.heap _
    rw [e1]
    exact ⟨f'_1, rfl, N1, K1, V1_0, sp1⟩
theorem own_d2_0 : decode method_3_code 0 = .ok (.bipush 19, 2) := by decide +kernel
theorem own_d2_2 : decode method_3_code 2 = .ok (.newarray .long, 2) := by decide +kernel
theorem own_d2_4 : decode method_3_code 4 = .ok (.dup, 1) := by decide +kernel
theorem own_d2_5 : decode method_3_code 5 = .ok (.iconst 0, 1) := by decide +kernel
theorem own_d2_6 : decode method_3_code 6 = .ok (.lconst 1, 1) := by decide +kernel
theorem own_d2_7 : decode method_3_code 7 = .ok (.lastore, 1) := by decide +kernel
theorem own_d2_8 : decode method_3_code 8 = .ok (.dup, 1) := by decide +kernel
theorem own_d2_9 : decode method_3_code 9 = .ok (.iconst 1, 1) := by decide +kernel
theorem own_d2_10 : decode method_3_code 10 = .ok (.ldc2_w 24, 3) := by decide +kernel
theorem own_d2_13 : decode method_3_code 13 = .ok (.lastore, 1) := by decide +kernel
theorem own_d2_14 : decode method_3_code 14 = .ok (.dup, 1) := by decide +kernel
theorem own_d2_15 : decode method_3_code 15 = .ok (.iconst 2, 1) := by decide +kernel
theorem own_d2_16 : decode method_3_code 16 = .ok (.ldc2_w 26, 3) := by decide +kernel
theorem own_d2_19 : decode method_3_code 19 = .ok (.lastore, 1) := by decide +kernel
theorem own_d2_20 : decode method_3_code 20 = .ok (.dup, 1) := by decide +kernel
theorem own_d2_21 : decode method_3_code 21 = .ok (.iconst 3, 1) := by decide +kernel
theorem own_d2_22 : decode method_3_code 22 = .ok (.ldc2_w 28, 3) := by decide +kernel
theorem own_d2_25 : decode method_3_code 25 = .ok (.lastore, 1) := by decide +kernel
theorem own_d2_26 : decode method_3_code 26 = .ok (.dup, 1) := by decide +kernel
theorem own_d2_27 : decode method_3_code 27 = .ok (.iconst 4, 1) := by decide +kernel
theorem own_d2_28 : decode method_3_code 28 = .ok (.ldc2_w 30, 3) := by decide +kernel
theorem own_d2_31 : decode method_3_code 31 = .ok (.lastore, 1) := by decide +kernel
theorem own_d2_32 : decode method_3_code 32 = .ok (.dup, 1) := by decide +kernel
theorem own_d2_33 : decode method_3_code 33 = .ok (.iconst 5, 1) := by decide +kernel
theorem own_d2_34 : decode method_3_code 34 = .ok (.ldc2_w 32, 3) := by decide +kernel
theorem own_d2_37 : decode method_3_code 37 = .ok (.lastore, 1) := by decide +kernel
theorem own_d2_38 : decode method_3_code 38 = .ok (.dup, 1) := by decide +kernel
theorem own_d2_39 : decode method_3_code 39 = .ok (.bipush 6, 2) := by decide +kernel
theorem own_d2_41 : decode method_3_code 41 = .ok (.ldc2_w 34, 3) := by decide +kernel
theorem own_d2_44 : decode method_3_code 44 = .ok (.lastore, 1) := by decide +kernel
theorem own_d2_45 : decode method_3_code 45 = .ok (.dup, 1) := by decide +kernel
theorem own_d2_46 : decode method_3_code 46 = .ok (.bipush 7, 2) := by decide +kernel
theorem own_d2_48 : decode method_3_code 48 = .ok (.ldc2_w 36, 3) := by decide +kernel
theorem own_d2_51 : decode method_3_code 51 = .ok (.lastore, 1) := by decide +kernel
theorem own_d2_52 : decode method_3_code 52 = .ok (.dup, 1) := by decide +kernel
theorem own_d2_53 : decode method_3_code 53 = .ok (.bipush 8, 2) := by decide +kernel
theorem own_d2_55 : decode method_3_code 55 = .ok (.ldc2_w 38, 3) := by decide +kernel
theorem own_d2_58 : decode method_3_code 58 = .ok (.lastore, 1) := by decide +kernel
theorem own_d2_59 : decode method_3_code 59 = .ok (.dup, 1) := by decide +kernel
theorem own_d2_60 : decode method_3_code 60 = .ok (.bipush 9, 2) := by decide +kernel
theorem own_d2_62 : decode method_3_code 62 = .ok (.ldc2_w 40, 3) := by decide +kernel
theorem own_d2_65 : decode method_3_code 65 = .ok (.lastore, 1) := by decide +kernel
theorem own_d2_66 : decode method_3_code 66 = .ok (.dup, 1) := by decide +kernel
theorem own_d2_67 : decode method_3_code 67 = .ok (.bipush 10, 2) := by decide +kernel
theorem own_d2_69 : decode method_3_code 69 = .ok (.ldc2_w 42, 3) := by decide +kernel
theorem own_d2_72 : decode method_3_code 72 = .ok (.lastore, 1) := by decide +kernel
theorem own_d2_73 : decode method_3_code 73 = .ok (.dup, 1) := by decide +kernel
theorem own_d2_74 : decode method_3_code 74 = .ok (.bipush 11, 2) := by decide +kernel
theorem own_d2_76 : decode method_3_code 76 = .ok (.ldc2_w 44, 3) := by decide +kernel
theorem own_d2_79 : decode method_3_code 79 = .ok (.lastore, 1) := by decide +kernel
theorem own_d2_80 : decode method_3_code 80 = .ok (.dup, 1) := by decide +kernel
theorem own_d2_81 : decode method_3_code 81 = .ok (.bipush 12, 2) := by decide +kernel
theorem own_d2_83 : decode method_3_code 83 = .ok (.ldc2_w 46, 3) := by decide +kernel
theorem own_d2_86 : decode method_3_code 86 = .ok (.lastore, 1) := by decide +kernel
theorem own_d2_87 : decode method_3_code 87 = .ok (.dup, 1) := by decide +kernel
theorem own_d2_88 : decode method_3_code 88 = .ok (.bipush 13, 2) := by decide +kernel
theorem own_d2_90 : decode method_3_code 90 = .ok (.ldc2_w 48, 3) := by decide +kernel
theorem own_d2_93 : decode method_3_code 93 = .ok (.lastore, 1) := by decide +kernel
theorem own_d2_94 : decode method_3_code 94 = .ok (.dup, 1) := by decide +kernel
theorem own_d2_95 : decode method_3_code 95 = .ok (.bipush 14, 2) := by decide +kernel
theorem own_d2_97 : decode method_3_code 97 = .ok (.ldc2_w 50, 3) := by decide +kernel
theorem own_d2_100 : decode method_3_code 100 = .ok (.lastore, 1) := by decide +kernel
theorem own_d2_101 : decode method_3_code 101 = .ok (.dup, 1) := by decide +kernel
theorem own_d2_102 : decode method_3_code 102 = .ok (.bipush 15, 2) := by decide +kernel
theorem own_d2_104 : decode method_3_code 104 = .ok (.ldc2_w 52, 3) := by decide +kernel
theorem own_d2_107 : decode method_3_code 107 = .ok (.lastore, 1) := by decide +kernel
theorem own_d2_108 : decode method_3_code 108 = .ok (.dup, 1) := by decide +kernel
theorem own_d2_109 : decode method_3_code 109 = .ok (.bipush 16, 2) := by decide +kernel
theorem own_d2_111 : decode method_3_code 111 = .ok (.ldc2_w 54, 3) := by decide +kernel
theorem own_d2_114 : decode method_3_code 114 = .ok (.lastore, 1) := by decide +kernel
theorem own_d2_115 : decode method_3_code 115 = .ok (.dup, 1) := by decide +kernel
theorem own_d2_116 : decode method_3_code 116 = .ok (.bipush 17, 2) := by decide +kernel
theorem own_d2_118 : decode method_3_code 118 = .ok (.ldc2_w 56, 3) := by decide +kernel
theorem own_d2_121 : decode method_3_code 121 = .ok (.lastore, 1) := by decide +kernel
theorem own_d2_122 : decode method_3_code 122 = .ok (.dup, 1) := by decide +kernel
theorem own_d2_123 : decode method_3_code 123 = .ok (.bipush 18, 2) := by decide +kernel
theorem own_d2_125 : decode method_3_code 125 = .ok (.ldc2_w 58, 3) := by decide +kernel
theorem own_d2_128 : decode method_3_code 128 = .ok (.lastore, 1) := by decide +kernel
theorem own_d2_129 : decode method_3_code 129 = .ok (.astore_n 1, 1) := by decide +kernel
theorem own_d2_130 : decode method_3_code 130 = .ok (.aload_n 1, 1) := by decide +kernel
theorem own_d2_131 : decode method_3_code 131 = .ok (.iload_n 0, 1) := by decide +kernel
theorem own_d2_132 : decode method_3_code 132 = .ok (.laload, 1) := by decide +kernel
theorem own_d2_133 : decode method_3_code 133 = .ok (.lreturn, 1) := by decide +kernel
theorem own_pn1 : plainName "com/example/rowcast/rowcast/number/IntTextWriteDigitsPinLaw" = true := by first | (simp [plainName, overriddenIn]; done) | decide +kernel
theorem own_ef2 (m : MethodId) (p0 : Int32) : entryFrame m #[(.int p0)] 2 = mkF m 0 #[.val (.int p0), .unset] [] := by first | (simp [entryFrame, mkF, argsToLocals, Value.category]; done) | rfl
def own_Q2 (Z : State) (p0 : Int32) (h0 : Heap) (n0 : Nat) (v : Option Value) (h : Heap) (L : List Loc) : Prop := ∃ (r : Int64), (v = some (.long r)) ∧ (Fr n0 L) ∧ (Keep h0 h []) ∧ (r.toInt = 10 ^ p0.toInt.toNat)
set_option maxRecDepth 65536 in
set_option maxHeartbeats 40000000 in
theorem own_rm2 (l : Launch) (Z : State) (a0 : Array Value) (hw : ∀ d ∈ tables_1, d.before a0 Z = true) (ws : List Jvm.Cond) (p0 : Int32) (h0 : Heap) (n0 : Nat) (Z0 : n0 ≤ h0.size) (h0p : 0 ≤ p0.toInt) (h19 : p0.toInt < 19) :
    MetFree l (⟨"com/example/rowcast/rowcast/number/IntTextWriteDigitsPinLaw", "pow10", "(I)J"⟩ : MethodName) (head1 (Jvm.Cond.code (⟨"com/example/rowcast/rowcast/number/IntTextWriteDigitsPinLaw", "pow10", "(I)J"⟩ : MethodName) method_3_code 2 (some .long) :: ws) ({ frames := 0, cells := 1, slots := 19, locals := 0 } : Room)) (fun a U => a = #[(.int p0)] ∧ Z.Warmed39 U.vm ∧ U.heap = h0) (fun _ _ _ _ _ => True) (fun _ U o U' => ∃ v L, o = .returned v ∧ own_Q2 Z p0 h0 n0 v U'.heap L ∧ FrameEnd U o U' L ({ frames := 0, cells := 1, slots := 19, locals := 0 } : Room).cells ({ frames := 0, cells := 1, slots := 19, locals := 0 } : Room).slots) := by
  refine MetFree.of_bodySF (plainFor_of_name own_pn1) hisR ?_
  intro p e s m args below meth c s₁ Bd hml0 hP hK
  obtain ⟨rfl, hZ, hh⟩ := hP
  have hx := Bd.exec
  have hby := Bd.bytes
  have hml : c.maxLocals = 2 := hml0
  have hown : s.vm.findClass "com/example/rowcast/rowcast/number/IntTextWriteDigitsPinLaw" = some m.cls := findClass_of_methodNamed Bd.named
  have hnm := (name_of_methodNamed Bd.named Bd.method).1
  have X0 : Stand p l e ({ frames := 0, cells := 1, slots := 19, locals := 0 } : Room) s m #[(.int p0)] below meth c s₁ [] 0 0 := Stand.of_body Bd
  have e0 : s₁.heap = h0 := by rw [← hh, Bd.state]; rfl
  have N0 := Fr.nil n0
  have K0 : Keep h0 h0 [] := Keep.refl h0 _
  refine own_go (fun t k => castTop (own_ef2 m p0) k) ?_
  refine own_go (T' := s₁) (f' := (mkF m 2 #[.val (.int p0), .unset] [(.int (19 : Int32))])) (fun t k => ?_) ?_
  · show Steps p.tables e below (s₁.setTop (mkF m 0 #[.val (.int p0), .unset] [])) _
    refine XS.bipush X0.here hx rfl (hb hby own_d2_0) ?_
    show Steps p.tables e below (s₁.setTop (mkF m 2 #[.val (.int p0), .unset] [(.int (19 : Int32))])) _
    exact k
  obtain ⟨T1, h1, k1, X1, e1, E1, A1, st1⟩ := newP X0 hx hZ (hw _ (List.mem_of_getElem? (i := 13) rfl)) e0 (g := (mkF m 2 #[.val (.int p0), .unset] [(.int (19 : Int32))])) rfl (hb hby own_d2_2) rfl (by decide) (cap := 19) (by decide) (by decide) (by decide) (by decide)
  obtain ⟨b1, g1⟩ : ∃ z, z = h0.size := ⟨_, rfl⟩
  rw [← g1] at A1 st1
  have g_b1 : n0 ≤ b1 := Nat.le_trans Z0 (Nat.le_of_eq g1.symm)
  have sz_b1 : h0.size ≤ b1 := Nat.le_trans K0.1 (Nat.le_of_eq g1.symm)
  refine own_go (T' := T1) (f' := (mkF m 4 #[.val (.int p0), .unset] [(.ref b1)])) st1 ?_
  have Zs1 : n0 ≤ h1.size := Nat.le_trans Z0 E1.1
  have K1 : Keep h0 h1 [] := K0.ext E1
  have V1 : own_ArJ Z h1 b1 .long (19 : Int32) (fun _ => 0) := own_ArJ.new A1 (by decide) rfl
  refine own_go (T' := T1) (f' := (mkF m 7 #[.val (.int p0), .unset] [(.long (1 : Int64)), (.int (0 : Int32)), (.ref b1), (.ref b1)])) (fun t k => ?_) ?_
  · show Steps p.tables e below (T1.setTop (mkF m 4 #[.val (.int p0), .unset] [(.ref b1)])) _
    refine XS.dup X1.here hx rfl (hb hby own_d2_4) rfl rfl ?_
    show Steps p.tables e below (T1.setTop (mkF m 5 #[.val (.int p0), .unset] [(.ref b1), (.ref b1)])) _
    refine XS.iconst X1.here hx rfl (hb hby own_d2_5) ?_
    show Steps p.tables e below (T1.setTop (mkF m 6 #[.val (.int p0), .unset] [(.int (0 : Int32)), (.ref b1), (.ref b1)])) _
    refine XS.lconst X1.here hx rfl (hb hby own_d2_6) ?_
    show Steps p.tables e below (T1.setTop (mkF m 7 #[.val (.int p0), .unset] [(.long (1 : Int64)), (.int (0 : Int32)), (.ref b1), (.ref b1)])) _
    exact k
  obtain ⟨T2, h2, y2, X2, e2, W2, V2, ya2, yb2, st2⟩ := own_stJ X1 hx hZ e1 V1 (j := (0 : Int32)) (x := (1 : Int64)) (by decide) (by decide) (g := (mkF m 7 #[.val (.int p0), .unset] [(.long (1 : Int64)), (.int (0 : Int32)), (.ref b1), (.ref b1)])) rfl rfl (hb hby own_d2_7)
  refine own_go (T' := T2) (f' := (mkF m 8 #[.val (.int p0), .unset] [(.ref b1)])) st2 ?_
  have fc3 : own_ArJ Z h2 b1 .long (19 : Int32) y2 := V2
  have Zs2 : n0 ≤ h2.size := Nat.le_trans Zs1 (Keep.of_wr W2).1
  have K2 : Keep h0 h2 [] := K1.wr W2 (Or.inr sz_b1)
  have N2 := Fr.snoc X2 N0 g_b1
  have ya2' : y2 0 = (1 : Int64) := ya2
  have yb2' : ∀ i, i ≠ 0 → y2 i = (fun _ => 0) i := yb2
  refine own_go (T' := T2) (f' := (mkF m 13 #[.val (.int p0), .unset] [(.long (10 : Int64)), (.int (1 : Int32)), (.ref b1), (.ref b1)])) (fun t k => ?_) ?_
  · show Steps p.tables e below (T2.setTop (mkF m 8 #[.val (.int p0), .unset] [(.ref b1)])) _
    refine XS.dup X2.here hx rfl (hb hby own_d2_8) rfl rfl ?_
    show Steps p.tables e below (T2.setTop (mkF m 9 #[.val (.int p0), .unset] [(.ref b1), (.ref b1)])) _
    refine XS.iconst X2.here hx rfl (hb hby own_d2_9) ?_
    show Steps p.tables e below (T2.setTop (mkF m 10 #[.val (.int p0), .unset] [(.int (1 : Int32)), (.ref b1), (.ref b1)])) _
    refine X2.ldc2Long hx hown (mvT hZ (hw _ (List.mem_of_getElem? (i := 14) rfl))) (g := (mkF m 10 #[.val (.int p0), .unset] [(.int (1 : Int32)), (.ref b1), (.ref b1)])) rfl (hb hby own_d2_10) _ ?_
    show Steps p.tables e below (T2.setTop (mkF m 13 #[.val (.int p0), .unset] [(.long (10 : Int64)), (.int (1 : Int32)), (.ref b1), (.ref b1)])) _
    exact k
  obtain ⟨T4, h4, y4, X4, e4, W4, V4, ya4, yb4, st4⟩ := own_stJ X2 hx hZ e2 fc3 (j := (1 : Int32)) (x := (10 : Int64)) (by decide) (by decide) (g := (mkF m 13 #[.val (.int p0), .unset] [(.long (10 : Int64)), (.int (1 : Int32)), (.ref b1), (.ref b1)])) rfl rfl (hb hby own_d2_13)
  refine own_go (T' := T4) (f' := (mkF m 14 #[.val (.int p0), .unset] [(.ref b1)])) st4 ?_
  have fc5 : own_ArJ Z h4 b1 .long (19 : Int32) y4 := V4
  have Zs4 : n0 ≤ h4.size := Nat.le_trans Zs2 (Keep.of_wr W4).1
  have K4 : Keep h0 h4 [] := K2.wr W4 (Or.inr sz_b1)
  have N4 := Fr.snoc X4 N2 g_b1
  have ya4' : y4 1 = (10 : Int64) := ya4
  have yb4' : ∀ i, i ≠ 1 → y4 i = y2 i := yb4
  refine own_go (T' := T4) (f' := (mkF m 19 #[.val (.int p0), .unset] [(.long (100 : Int64)), (.int (2 : Int32)), (.ref b1), (.ref b1)])) (fun t k => ?_) ?_
  · show Steps p.tables e below (T4.setTop (mkF m 14 #[.val (.int p0), .unset] [(.ref b1)])) _
    refine XS.dup X4.here hx rfl (hb hby own_d2_14) rfl rfl ?_
    show Steps p.tables e below (T4.setTop (mkF m 15 #[.val (.int p0), .unset] [(.ref b1), (.ref b1)])) _
    refine XS.iconst X4.here hx rfl (hb hby own_d2_15) ?_
    show Steps p.tables e below (T4.setTop (mkF m 16 #[.val (.int p0), .unset] [(.int (2 : Int32)), (.ref b1), (.ref b1)])) _
    refine X4.ldc2Long hx hown (mvT hZ (hw _ (List.mem_of_getElem? (i := 15) rfl))) (g := (mkF m 16 #[.val (.int p0), .unset] [(.int (2 : Int32)), (.ref b1), (.ref b1)])) rfl (hb hby own_d2_16) _ ?_
    show Steps p.tables e below (T4.setTop (mkF m 19 #[.val (.int p0), .unset] [(.long (100 : Int64)), (.int (2 : Int32)), (.ref b1), (.ref b1)])) _
    exact k
  obtain ⟨T6, h6, y6, X6, e6, W6, V6, ya6, yb6, st6⟩ := own_stJ X4 hx hZ e4 fc5 (j := (2 : Int32)) (x := (100 : Int64)) (by decide) (by decide) (g := (mkF m 19 #[.val (.int p0), .unset] [(.long (100 : Int64)), (.int (2 : Int32)), (.ref b1), (.ref b1)])) rfl rfl (hb hby own_d2_19)
  refine own_go (T' := T6) (f' := (mkF m 20 #[.val (.int p0), .unset] [(.ref b1)])) st6 ?_
  have fc7 : own_ArJ Z h6 b1 .long (19 : Int32) y6 := V6
  have Zs6 : n0 ≤ h6.size := Nat.le_trans Zs4 (Keep.of_wr W6).1
  have K6 : Keep h0 h6 [] := K4.wr W6 (Or.inr sz_b1)
  have N6 := Fr.snoc X6 N4 g_b1
  have ya6' : y6 2 = (100 : Int64) := ya6
  have yb6' : ∀ i, i ≠ 2 → y6 i = y4 i := yb6
  refine own_go (T' := T6) (f' := (mkF m 25 #[.val (.int p0), .unset] [(.long (1000 : Int64)), (.int (3 : Int32)), (.ref b1), (.ref b1)])) (fun t k => ?_) ?_
  · show Steps p.tables e below (T6.setTop (mkF m 20 #[.val (.int p0), .unset] [(.ref b1)])) _
    refine XS.dup X6.here hx rfl (hb hby own_d2_20) rfl rfl ?_
    show Steps p.tables e below (T6.setTop (mkF m 21 #[.val (.int p0), .unset] [(.ref b1), (.ref b1)])) _
    refine XS.iconst X6.here hx rfl (hb hby own_d2_21) ?_
    show Steps p.tables e below (T6.setTop (mkF m 22 #[.val (.int p0), .unset] [(.int (3 : Int32)), (.ref b1), (.ref b1)])) _
    refine X6.ldc2Long hx hown (mvT hZ (hw _ (List.mem_of_getElem? (i := 16) rfl))) (g := (mkF m 22 #[.val (.int p0), .unset] [(.int (3 : Int32)), (.ref b1), (.ref b1)])) rfl (hb hby own_d2_22) _ ?_
    show Steps p.tables e below (T6.setTop (mkF m 25 #[.val (.int p0), .unset] [(.long (1000 : Int64)), (.int (3 : Int32)), (.ref b1), (.ref b1)])) _
    exact k
  obtain ⟨T8, h8, y8, X8, e8, W8, V8, ya8, yb8, st8⟩ := own_stJ X6 hx hZ e6 fc7 (j := (3 : Int32)) (x := (1000 : Int64)) (by decide) (by decide) (g := (mkF m 25 #[.val (.int p0), .unset] [(.long (1000 : Int64)), (.int (3 : Int32)), (.ref b1), (.ref b1)])) rfl rfl (hb hby own_d2_25)
  refine own_go (T' := T8) (f' := (mkF m 26 #[.val (.int p0), .unset] [(.ref b1)])) st8 ?_
  have fc9 : own_ArJ Z h8 b1 .long (19 : Int32) y8 := V8
  have Zs8 : n0 ≤ h8.size := Nat.le_trans Zs6 (Keep.of_wr W8).1
  have K8 : Keep h0 h8 [] := K6.wr W8 (Or.inr sz_b1)
  have N8 := Fr.snoc X8 N6 g_b1
  have ya8' : y8 3 = (1000 : Int64) := ya8
  have yb8' : ∀ i, i ≠ 3 → y8 i = y6 i := yb8
  refine own_go (T' := T8) (f' := (mkF m 31 #[.val (.int p0), .unset] [(.long (10000 : Int64)), (.int (4 : Int32)), (.ref b1), (.ref b1)])) (fun t k => ?_) ?_
  · show Steps p.tables e below (T8.setTop (mkF m 26 #[.val (.int p0), .unset] [(.ref b1)])) _
    refine XS.dup X8.here hx rfl (hb hby own_d2_26) rfl rfl ?_
    show Steps p.tables e below (T8.setTop (mkF m 27 #[.val (.int p0), .unset] [(.ref b1), (.ref b1)])) _
    refine XS.iconst X8.here hx rfl (hb hby own_d2_27) ?_
    show Steps p.tables e below (T8.setTop (mkF m 28 #[.val (.int p0), .unset] [(.int (4 : Int32)), (.ref b1), (.ref b1)])) _
    refine X8.ldc2Long hx hown (mvT hZ (hw _ (List.mem_of_getElem? (i := 17) rfl))) (g := (mkF m 28 #[.val (.int p0), .unset] [(.int (4 : Int32)), (.ref b1), (.ref b1)])) rfl (hb hby own_d2_28) _ ?_
    show Steps p.tables e below (T8.setTop (mkF m 31 #[.val (.int p0), .unset] [(.long (10000 : Int64)), (.int (4 : Int32)), (.ref b1), (.ref b1)])) _
    exact k
  obtain ⟨T10, h10, y10, X10, e10, W10, V10, ya10, yb10, st10⟩ := own_stJ X8 hx hZ e8 fc9 (j := (4 : Int32)) (x := (10000 : Int64)) (by decide) (by decide) (g := (mkF m 31 #[.val (.int p0), .unset] [(.long (10000 : Int64)), (.int (4 : Int32)), (.ref b1), (.ref b1)])) rfl rfl (hb hby own_d2_31)
  refine own_go (T' := T10) (f' := (mkF m 32 #[.val (.int p0), .unset] [(.ref b1)])) st10 ?_
  have fc11 : own_ArJ Z h10 b1 .long (19 : Int32) y10 := V10
  have Zs10 : n0 ≤ h10.size := Nat.le_trans Zs8 (Keep.of_wr W10).1
  have K10 : Keep h0 h10 [] := K8.wr W10 (Or.inr sz_b1)
  have N10 := Fr.snoc X10 N8 g_b1
  have ya10' : y10 4 = (10000 : Int64) := ya10
  have yb10' : ∀ i, i ≠ 4 → y10 i = y8 i := yb10
  refine own_go (T' := T10) (f' := (mkF m 37 #[.val (.int p0), .unset] [(.long (100000 : Int64)), (.int (5 : Int32)), (.ref b1), (.ref b1)])) (fun t k => ?_) ?_
  · show Steps p.tables e below (T10.setTop (mkF m 32 #[.val (.int p0), .unset] [(.ref b1)])) _
    refine XS.dup X10.here hx rfl (hb hby own_d2_32) rfl rfl ?_
    show Steps p.tables e below (T10.setTop (mkF m 33 #[.val (.int p0), .unset] [(.ref b1), (.ref b1)])) _
    refine XS.iconst X10.here hx rfl (hb hby own_d2_33) ?_
    show Steps p.tables e below (T10.setTop (mkF m 34 #[.val (.int p0), .unset] [(.int (5 : Int32)), (.ref b1), (.ref b1)])) _
    refine X10.ldc2Long hx hown (mvT hZ (hw _ (List.mem_of_getElem? (i := 18) rfl))) (g := (mkF m 34 #[.val (.int p0), .unset] [(.int (5 : Int32)), (.ref b1), (.ref b1)])) rfl (hb hby own_d2_34) _ ?_
    show Steps p.tables e below (T10.setTop (mkF m 37 #[.val (.int p0), .unset] [(.long (100000 : Int64)), (.int (5 : Int32)), (.ref b1), (.ref b1)])) _
    exact k
  obtain ⟨T12, h12, y12, X12, e12, W12, V12, ya12, yb12, st12⟩ := own_stJ X10 hx hZ e10 fc11 (j := (5 : Int32)) (x := (100000 : Int64)) (by decide) (by decide) (g := (mkF m 37 #[.val (.int p0), .unset] [(.long (100000 : Int64)), (.int (5 : Int32)), (.ref b1), (.ref b1)])) rfl rfl (hb hby own_d2_37)
  refine own_go (T' := T12) (f' := (mkF m 38 #[.val (.int p0), .unset] [(.ref b1)])) st12 ?_
  have fc13 : own_ArJ Z h12 b1 .long (19 : Int32) y12 := V12
  have Zs12 : n0 ≤ h12.size := Nat.le_trans Zs10 (Keep.of_wr W12).1
  have K12 : Keep h0 h12 [] := K10.wr W12 (Or.inr sz_b1)
  have N12 := Fr.snoc X12 N10 g_b1
  have ya12' : y12 5 = (100000 : Int64) := ya12
  have yb12' : ∀ i, i ≠ 5 → y12 i = y10 i := yb12
  refine own_go (T' := T12) (f' := (mkF m 44 #[.val (.int p0), .unset] [(.long (1000000 : Int64)), (.int (6 : Int32)), (.ref b1), (.ref b1)])) (fun t k => ?_) ?_
  · show Steps p.tables e below (T12.setTop (mkF m 38 #[.val (.int p0), .unset] [(.ref b1)])) _
    refine XS.dup X12.here hx rfl (hb hby own_d2_38) rfl rfl ?_
    show Steps p.tables e below (T12.setTop (mkF m 39 #[.val (.int p0), .unset] [(.ref b1), (.ref b1)])) _
    refine XS.bipush X12.here hx rfl (hb hby own_d2_39) ?_
    show Steps p.tables e below (T12.setTop (mkF m 41 #[.val (.int p0), .unset] [(.int (6 : Int32)), (.ref b1), (.ref b1)])) _
    refine X12.ldc2Long hx hown (mvT hZ (hw _ (List.mem_of_getElem? (i := 19) rfl))) (g := (mkF m 41 #[.val (.int p0), .unset] [(.int (6 : Int32)), (.ref b1), (.ref b1)])) rfl (hb hby own_d2_41) _ ?_
    show Steps p.tables e below (T12.setTop (mkF m 44 #[.val (.int p0), .unset] [(.long (1000000 : Int64)), (.int (6 : Int32)), (.ref b1), (.ref b1)])) _
    exact k
  obtain ⟨T14, h14, y14, X14, e14, W14, V14, ya14, yb14, st14⟩ := own_stJ X12 hx hZ e12 fc13 (j := (6 : Int32)) (x := (1000000 : Int64)) (by decide) (by decide) (g := (mkF m 44 #[.val (.int p0), .unset] [(.long (1000000 : Int64)), (.int (6 : Int32)), (.ref b1), (.ref b1)])) rfl rfl (hb hby own_d2_44)
  refine own_go (T' := T14) (f' := (mkF m 45 #[.val (.int p0), .unset] [(.ref b1)])) st14 ?_
  have fc15 : own_ArJ Z h14 b1 .long (19 : Int32) y14 := V14
  have Zs14 : n0 ≤ h14.size := Nat.le_trans Zs12 (Keep.of_wr W14).1
  have K14 : Keep h0 h14 [] := K12.wr W14 (Or.inr sz_b1)
  have N14 := Fr.snoc X14 N12 g_b1
  have ya14' : y14 6 = (1000000 : Int64) := ya14
  have yb14' : ∀ i, i ≠ 6 → y14 i = y12 i := yb14
  refine own_go (T' := T14) (f' := (mkF m 51 #[.val (.int p0), .unset] [(.long (10000000 : Int64)), (.int (7 : Int32)), (.ref b1), (.ref b1)])) (fun t k => ?_) ?_
  · show Steps p.tables e below (T14.setTop (mkF m 45 #[.val (.int p0), .unset] [(.ref b1)])) _
    refine XS.dup X14.here hx rfl (hb hby own_d2_45) rfl rfl ?_
    show Steps p.tables e below (T14.setTop (mkF m 46 #[.val (.int p0), .unset] [(.ref b1), (.ref b1)])) _
    refine XS.bipush X14.here hx rfl (hb hby own_d2_46) ?_
    show Steps p.tables e below (T14.setTop (mkF m 48 #[.val (.int p0), .unset] [(.int (7 : Int32)), (.ref b1), (.ref b1)])) _
    refine X14.ldc2Long hx hown (mvT hZ (hw _ (List.mem_of_getElem? (i := 20) rfl))) (g := (mkF m 48 #[.val (.int p0), .unset] [(.int (7 : Int32)), (.ref b1), (.ref b1)])) rfl (hb hby own_d2_48) _ ?_
    show Steps p.tables e below (T14.setTop (mkF m 51 #[.val (.int p0), .unset] [(.long (10000000 : Int64)), (.int (7 : Int32)), (.ref b1), (.ref b1)])) _
    exact k
  obtain ⟨T16, h16, y16, X16, e16, W16, V16, ya16, yb16, st16⟩ := own_stJ X14 hx hZ e14 fc15 (j := (7 : Int32)) (x := (10000000 : Int64)) (by decide) (by decide) (g := (mkF m 51 #[.val (.int p0), .unset] [(.long (10000000 : Int64)), (.int (7 : Int32)), (.ref b1), (.ref b1)])) rfl rfl (hb hby own_d2_51)
  refine own_go (T' := T16) (f' := (mkF m 52 #[.val (.int p0), .unset] [(.ref b1)])) st16 ?_
  have fc17 : own_ArJ Z h16 b1 .long (19 : Int32) y16 := V16
  have Zs16 : n0 ≤ h16.size := Nat.le_trans Zs14 (Keep.of_wr W16).1
  have K16 : Keep h0 h16 [] := K14.wr W16 (Or.inr sz_b1)
  have N16 := Fr.snoc X16 N14 g_b1
  have ya16' : y16 7 = (10000000 : Int64) := ya16
  have yb16' : ∀ i, i ≠ 7 → y16 i = y14 i := yb16
  refine own_go (T' := T16) (f' := (mkF m 58 #[.val (.int p0), .unset] [(.long (100000000 : Int64)), (.int (8 : Int32)), (.ref b1), (.ref b1)])) (fun t k => ?_) ?_
  · show Steps p.tables e below (T16.setTop (mkF m 52 #[.val (.int p0), .unset] [(.ref b1)])) _
    refine XS.dup X16.here hx rfl (hb hby own_d2_52) rfl rfl ?_
    show Steps p.tables e below (T16.setTop (mkF m 53 #[.val (.int p0), .unset] [(.ref b1), (.ref b1)])) _
    refine XS.bipush X16.here hx rfl (hb hby own_d2_53) ?_
    show Steps p.tables e below (T16.setTop (mkF m 55 #[.val (.int p0), .unset] [(.int (8 : Int32)), (.ref b1), (.ref b1)])) _
    refine X16.ldc2Long hx hown (mvT hZ (hw _ (List.mem_of_getElem? (i := 21) rfl))) (g := (mkF m 55 #[.val (.int p0), .unset] [(.int (8 : Int32)), (.ref b1), (.ref b1)])) rfl (hb hby own_d2_55) _ ?_
    show Steps p.tables e below (T16.setTop (mkF m 58 #[.val (.int p0), .unset] [(.long (100000000 : Int64)), (.int (8 : Int32)), (.ref b1), (.ref b1)])) _
    exact k
  obtain ⟨T18, h18, y18, X18, e18, W18, V18, ya18, yb18, st18⟩ := own_stJ X16 hx hZ e16 fc17 (j := (8 : Int32)) (x := (100000000 : Int64)) (by decide) (by decide) (g := (mkF m 58 #[.val (.int p0), .unset] [(.long (100000000 : Int64)), (.int (8 : Int32)), (.ref b1), (.ref b1)])) rfl rfl (hb hby own_d2_58)
  refine own_go (T' := T18) (f' := (mkF m 59 #[.val (.int p0), .unset] [(.ref b1)])) st18 ?_
  have fc19 : own_ArJ Z h18 b1 .long (19 : Int32) y18 := V18
  have Zs18 : n0 ≤ h18.size := Nat.le_trans Zs16 (Keep.of_wr W18).1
  have K18 : Keep h0 h18 [] := K16.wr W18 (Or.inr sz_b1)
  have N18 := Fr.snoc X18 N16 g_b1
  have ya18' : y18 8 = (100000000 : Int64) := ya18
  have yb18' : ∀ i, i ≠ 8 → y18 i = y16 i := yb18
  refine own_go (T' := T18) (f' := (mkF m 65 #[.val (.int p0), .unset] [(.long (1000000000 : Int64)), (.int (9 : Int32)), (.ref b1), (.ref b1)])) (fun t k => ?_) ?_
  · show Steps p.tables e below (T18.setTop (mkF m 59 #[.val (.int p0), .unset] [(.ref b1)])) _
    refine XS.dup X18.here hx rfl (hb hby own_d2_59) rfl rfl ?_
    show Steps p.tables e below (T18.setTop (mkF m 60 #[.val (.int p0), .unset] [(.ref b1), (.ref b1)])) _
    refine XS.bipush X18.here hx rfl (hb hby own_d2_60) ?_
    show Steps p.tables e below (T18.setTop (mkF m 62 #[.val (.int p0), .unset] [(.int (9 : Int32)), (.ref b1), (.ref b1)])) _
    refine X18.ldc2Long hx hown (mvT hZ (hw _ (List.mem_of_getElem? (i := 22) rfl))) (g := (mkF m 62 #[.val (.int p0), .unset] [(.int (9 : Int32)), (.ref b1), (.ref b1)])) rfl (hb hby own_d2_62) _ ?_
    show Steps p.tables e below (T18.setTop (mkF m 65 #[.val (.int p0), .unset] [(.long (1000000000 : Int64)), (.int (9 : Int32)), (.ref b1), (.ref b1)])) _
    exact k
  obtain ⟨T20, h20, y20, X20, e20, W20, V20, ya20, yb20, st20⟩ := own_stJ X18 hx hZ e18 fc19 (j := (9 : Int32)) (x := (1000000000 : Int64)) (by decide) (by decide) (g := (mkF m 65 #[.val (.int p0), .unset] [(.long (1000000000 : Int64)), (.int (9 : Int32)), (.ref b1), (.ref b1)])) rfl rfl (hb hby own_d2_65)
  refine own_go (T' := T20) (f' := (mkF m 66 #[.val (.int p0), .unset] [(.ref b1)])) st20 ?_
  have fc21 : own_ArJ Z h20 b1 .long (19 : Int32) y20 := V20
  have Zs20 : n0 ≤ h20.size := Nat.le_trans Zs18 (Keep.of_wr W20).1
  have K20 : Keep h0 h20 [] := K18.wr W20 (Or.inr sz_b1)
  have N20 := Fr.snoc X20 N18 g_b1
  have ya20' : y20 9 = (1000000000 : Int64) := ya20
  have yb20' : ∀ i, i ≠ 9 → y20 i = y18 i := yb20
  refine own_go (T' := T20) (f' := (mkF m 72 #[.val (.int p0), .unset] [(.long (10000000000 : Int64)), (.int (10 : Int32)), (.ref b1), (.ref b1)])) (fun t k => ?_) ?_
  · show Steps p.tables e below (T20.setTop (mkF m 66 #[.val (.int p0), .unset] [(.ref b1)])) _
    refine XS.dup X20.here hx rfl (hb hby own_d2_66) rfl rfl ?_
    show Steps p.tables e below (T20.setTop (mkF m 67 #[.val (.int p0), .unset] [(.ref b1), (.ref b1)])) _
    refine XS.bipush X20.here hx rfl (hb hby own_d2_67) ?_
    show Steps p.tables e below (T20.setTop (mkF m 69 #[.val (.int p0), .unset] [(.int (10 : Int32)), (.ref b1), (.ref b1)])) _
    refine X20.ldc2Long hx hown (mvT hZ (hw _ (List.mem_of_getElem? (i := 23) rfl))) (g := (mkF m 69 #[.val (.int p0), .unset] [(.int (10 : Int32)), (.ref b1), (.ref b1)])) rfl (hb hby own_d2_69) _ ?_
    show Steps p.tables e below (T20.setTop (mkF m 72 #[.val (.int p0), .unset] [(.long (10000000000 : Int64)), (.int (10 : Int32)), (.ref b1), (.ref b1)])) _
    exact k
  obtain ⟨T22, h22, y22, X22, e22, W22, V22, ya22, yb22, st22⟩ := own_stJ X20 hx hZ e20 fc21 (j := (10 : Int32)) (x := (10000000000 : Int64)) (by decide) (by decide) (g := (mkF m 72 #[.val (.int p0), .unset] [(.long (10000000000 : Int64)), (.int (10 : Int32)), (.ref b1), (.ref b1)])) rfl rfl (hb hby own_d2_72)
  refine own_go (T' := T22) (f' := (mkF m 73 #[.val (.int p0), .unset] [(.ref b1)])) st22 ?_
  have fc23 : own_ArJ Z h22 b1 .long (19 : Int32) y22 := V22
  have Zs22 : n0 ≤ h22.size := Nat.le_trans Zs20 (Keep.of_wr W22).1
  have K22 : Keep h0 h22 [] := K20.wr W22 (Or.inr sz_b1)
  have N22 := Fr.snoc X22 N20 g_b1
  have ya22' : y22 10 = (10000000000 : Int64) := ya22
  have yb22' : ∀ i, i ≠ 10 → y22 i = y20 i := yb22
  refine own_go (T' := T22) (f' := (mkF m 79 #[.val (.int p0), .unset] [(.long (100000000000 : Int64)), (.int (11 : Int32)), (.ref b1), (.ref b1)])) (fun t k => ?_) ?_
  · show Steps p.tables e below (T22.setTop (mkF m 73 #[.val (.int p0), .unset] [(.ref b1)])) _
    refine XS.dup X22.here hx rfl (hb hby own_d2_73) rfl rfl ?_
    show Steps p.tables e below (T22.setTop (mkF m 74 #[.val (.int p0), .unset] [(.ref b1), (.ref b1)])) _
    refine XS.bipush X22.here hx rfl (hb hby own_d2_74) ?_
    show Steps p.tables e below (T22.setTop (mkF m 76 #[.val (.int p0), .unset] [(.int (11 : Int32)), (.ref b1), (.ref b1)])) _
    refine X22.ldc2Long hx hown (mvT hZ (hw _ (List.mem_of_getElem? (i := 24) rfl))) (g := (mkF m 76 #[.val (.int p0), .unset] [(.int (11 : Int32)), (.ref b1), (.ref b1)])) rfl (hb hby own_d2_76) _ ?_
    show Steps p.tables e below (T22.setTop (mkF m 79 #[.val (.int p0), .unset] [(.long (100000000000 : Int64)), (.int (11 : Int32)), (.ref b1), (.ref b1)])) _
    exact k
  obtain ⟨T24, h24, y24, X24, e24, W24, V24, ya24, yb24, st24⟩ := own_stJ X22 hx hZ e22 fc23 (j := (11 : Int32)) (x := (100000000000 : Int64)) (by decide) (by decide) (g := (mkF m 79 #[.val (.int p0), .unset] [(.long (100000000000 : Int64)), (.int (11 : Int32)), (.ref b1), (.ref b1)])) rfl rfl (hb hby own_d2_79)
  refine own_go (T' := T24) (f' := (mkF m 80 #[.val (.int p0), .unset] [(.ref b1)])) st24 ?_
  have fc25 : own_ArJ Z h24 b1 .long (19 : Int32) y24 := V24
  have Zs24 : n0 ≤ h24.size := Nat.le_trans Zs22 (Keep.of_wr W24).1
  have K24 : Keep h0 h24 [] := K22.wr W24 (Or.inr sz_b1)
  have N24 := Fr.snoc X24 N22 g_b1
  have ya24' : y24 11 = (100000000000 : Int64) := ya24
  have yb24' : ∀ i, i ≠ 11 → y24 i = y22 i := yb24
  refine own_go (T' := T24) (f' := (mkF m 86 #[.val (.int p0), .unset] [(.long (1000000000000 : Int64)), (.int (12 : Int32)), (.ref b1), (.ref b1)])) (fun t k => ?_) ?_
  · show Steps p.tables e below (T24.setTop (mkF m 80 #[.val (.int p0), .unset] [(.ref b1)])) _
    refine XS.dup X24.here hx rfl (hb hby own_d2_80) rfl rfl ?_
    show Steps p.tables e below (T24.setTop (mkF m 81 #[.val (.int p0), .unset] [(.ref b1), (.ref b1)])) _
    refine XS.bipush X24.here hx rfl (hb hby own_d2_81) ?_
    show Steps p.tables e below (T24.setTop (mkF m 83 #[.val (.int p0), .unset] [(.int (12 : Int32)), (.ref b1), (.ref b1)])) _
    refine X24.ldc2Long hx hown (mvT hZ (hw _ (List.mem_of_getElem? (i := 25) rfl))) (g := (mkF m 83 #[.val (.int p0), .unset] [(.int (12 : Int32)), (.ref b1), (.ref b1)])) rfl (hb hby own_d2_83) _ ?_
    show Steps p.tables e below (T24.setTop (mkF m 86 #[.val (.int p0), .unset] [(.long (1000000000000 : Int64)), (.int (12 : Int32)), (.ref b1), (.ref b1)])) _
    exact k
  obtain ⟨T26, h26, y26, X26, e26, W26, V26, ya26, yb26, st26⟩ := own_stJ X24 hx hZ e24 fc25 (j := (12 : Int32)) (x := (1000000000000 : Int64)) (by decide) (by decide) (g := (mkF m 86 #[.val (.int p0), .unset] [(.long (1000000000000 : Int64)), (.int (12 : Int32)), (.ref b1), (.ref b1)])) rfl rfl (hb hby own_d2_86)
  refine own_go (T' := T26) (f' := (mkF m 87 #[.val (.int p0), .unset] [(.ref b1)])) st26 ?_
  have fc27 : own_ArJ Z h26 b1 .long (19 : Int32) y26 := V26
  have Zs26 : n0 ≤ h26.size := Nat.le_trans Zs24 (Keep.of_wr W26).1
  have K26 : Keep h0 h26 [] := K24.wr W26 (Or.inr sz_b1)
  have N26 := Fr.snoc X26 N24 g_b1
  have ya26' : y26 12 = (1000000000000 : Int64) := ya26
  have yb26' : ∀ i, i ≠ 12 → y26 i = y24 i := yb26
  refine own_go (T' := T26) (f' := (mkF m 93 #[.val (.int p0), .unset] [(.long (10000000000000 : Int64)), (.int (13 : Int32)), (.ref b1), (.ref b1)])) (fun t k => ?_) ?_
  · show Steps p.tables e below (T26.setTop (mkF m 87 #[.val (.int p0), .unset] [(.ref b1)])) _
    refine XS.dup X26.here hx rfl (hb hby own_d2_87) rfl rfl ?_
    show Steps p.tables e below (T26.setTop (mkF m 88 #[.val (.int p0), .unset] [(.ref b1), (.ref b1)])) _
    refine XS.bipush X26.here hx rfl (hb hby own_d2_88) ?_
    show Steps p.tables e below (T26.setTop (mkF m 90 #[.val (.int p0), .unset] [(.int (13 : Int32)), (.ref b1), (.ref b1)])) _
    refine X26.ldc2Long hx hown (mvT hZ (hw _ (List.mem_of_getElem? (i := 26) rfl))) (g := (mkF m 90 #[.val (.int p0), .unset] [(.int (13 : Int32)), (.ref b1), (.ref b1)])) rfl (hb hby own_d2_90) _ ?_
    show Steps p.tables e below (T26.setTop (mkF m 93 #[.val (.int p0), .unset] [(.long (10000000000000 : Int64)), (.int (13 : Int32)), (.ref b1), (.ref b1)])) _
    exact k
  obtain ⟨T28, h28, y28, X28, e28, W28, V28, ya28, yb28, st28⟩ := own_stJ X26 hx hZ e26 fc27 (j := (13 : Int32)) (x := (10000000000000 : Int64)) (by decide) (by decide) (g := (mkF m 93 #[.val (.int p0), .unset] [(.long (10000000000000 : Int64)), (.int (13 : Int32)), (.ref b1), (.ref b1)])) rfl rfl (hb hby own_d2_93)
  refine own_go (T' := T28) (f' := (mkF m 94 #[.val (.int p0), .unset] [(.ref b1)])) st28 ?_
  have fc29 : own_ArJ Z h28 b1 .long (19 : Int32) y28 := V28
  have Zs28 : n0 ≤ h28.size := Nat.le_trans Zs26 (Keep.of_wr W28).1
  have K28 : Keep h0 h28 [] := K26.wr W28 (Or.inr sz_b1)
  have N28 := Fr.snoc X28 N26 g_b1
  have ya28' : y28 13 = (10000000000000 : Int64) := ya28
  have yb28' : ∀ i, i ≠ 13 → y28 i = y26 i := yb28
  refine own_go (T' := T28) (f' := (mkF m 100 #[.val (.int p0), .unset] [(.long (100000000000000 : Int64)), (.int (14 : Int32)), (.ref b1), (.ref b1)])) (fun t k => ?_) ?_
  · show Steps p.tables e below (T28.setTop (mkF m 94 #[.val (.int p0), .unset] [(.ref b1)])) _
    refine XS.dup X28.here hx rfl (hb hby own_d2_94) rfl rfl ?_
    show Steps p.tables e below (T28.setTop (mkF m 95 #[.val (.int p0), .unset] [(.ref b1), (.ref b1)])) _
    refine XS.bipush X28.here hx rfl (hb hby own_d2_95) ?_
    show Steps p.tables e below (T28.setTop (mkF m 97 #[.val (.int p0), .unset] [(.int (14 : Int32)), (.ref b1), (.ref b1)])) _
    refine X28.ldc2Long hx hown (mvT hZ (hw _ (List.mem_of_getElem? (i := 27) rfl))) (g := (mkF m 97 #[.val (.int p0), .unset] [(.int (14 : Int32)), (.ref b1), (.ref b1)])) rfl (hb hby own_d2_97) _ ?_
    show Steps p.tables e below (T28.setTop (mkF m 100 #[.val (.int p0), .unset] [(.long (100000000000000 : Int64)), (.int (14 : Int32)), (.ref b1), (.ref b1)])) _
    exact k
  obtain ⟨T30, h30, y30, X30, e30, W30, V30, ya30, yb30, st30⟩ := own_stJ X28 hx hZ e28 fc29 (j := (14 : Int32)) (x := (100000000000000 : Int64)) (by decide) (by decide) (g := (mkF m 100 #[.val (.int p0), .unset] [(.long (100000000000000 : Int64)), (.int (14 : Int32)), (.ref b1), (.ref b1)])) rfl rfl (hb hby own_d2_100)
  refine own_go (T' := T30) (f' := (mkF m 101 #[.val (.int p0), .unset] [(.ref b1)])) st30 ?_
  have fc31 : own_ArJ Z h30 b1 .long (19 : Int32) y30 := V30
  have Zs30 : n0 ≤ h30.size := Nat.le_trans Zs28 (Keep.of_wr W30).1
  have K30 : Keep h0 h30 [] := K28.wr W30 (Or.inr sz_b1)
  have N30 := Fr.snoc X30 N28 g_b1
  have ya30' : y30 14 = (100000000000000 : Int64) := ya30
  have yb30' : ∀ i, i ≠ 14 → y30 i = y28 i := yb30
  refine own_go (T' := T30) (f' := (mkF m 107 #[.val (.int p0), .unset] [(.long (1000000000000000 : Int64)), (.int (15 : Int32)), (.ref b1), (.ref b1)])) (fun t k => ?_) ?_
  · show Steps p.tables e below (T30.setTop (mkF m 101 #[.val (.int p0), .unset] [(.ref b1)])) _
    refine XS.dup X30.here hx rfl (hb hby own_d2_101) rfl rfl ?_
    show Steps p.tables e below (T30.setTop (mkF m 102 #[.val (.int p0), .unset] [(.ref b1), (.ref b1)])) _
    refine XS.bipush X30.here hx rfl (hb hby own_d2_102) ?_
    show Steps p.tables e below (T30.setTop (mkF m 104 #[.val (.int p0), .unset] [(.int (15 : Int32)), (.ref b1), (.ref b1)])) _
    refine X30.ldc2Long hx hown (mvT hZ (hw _ (List.mem_of_getElem? (i := 28) rfl))) (g := (mkF m 104 #[.val (.int p0), .unset] [(.int (15 : Int32)), (.ref b1), (.ref b1)])) rfl (hb hby own_d2_104) _ ?_
    show Steps p.tables e below (T30.setTop (mkF m 107 #[.val (.int p0), .unset] [(.long (1000000000000000 : Int64)), (.int (15 : Int32)), (.ref b1), (.ref b1)])) _
    exact k
  obtain ⟨T32, h32, y32, X32, e32, W32, V32, ya32, yb32, st32⟩ := own_stJ X30 hx hZ e30 fc31 (j := (15 : Int32)) (x := (1000000000000000 : Int64)) (by decide) (by decide) (g := (mkF m 107 #[.val (.int p0), .unset] [(.long (1000000000000000 : Int64)), (.int (15 : Int32)), (.ref b1), (.ref b1)])) rfl rfl (hb hby own_d2_107)
  refine own_go (T' := T32) (f' := (mkF m 108 #[.val (.int p0), .unset] [(.ref b1)])) st32 ?_
  have fc33 : own_ArJ Z h32 b1 .long (19 : Int32) y32 := V32
  have Zs32 : n0 ≤ h32.size := Nat.le_trans Zs30 (Keep.of_wr W32).1
  have K32 : Keep h0 h32 [] := K30.wr W32 (Or.inr sz_b1)
  have N32 := Fr.snoc X32 N30 g_b1
  have ya32' : y32 15 = (1000000000000000 : Int64) := ya32
  have yb32' : ∀ i, i ≠ 15 → y32 i = y30 i := yb32
  refine own_go (T' := T32) (f' := (mkF m 114 #[.val (.int p0), .unset] [(.long (10000000000000000 : Int64)), (.int (16 : Int32)), (.ref b1), (.ref b1)])) (fun t k => ?_) ?_
  · show Steps p.tables e below (T32.setTop (mkF m 108 #[.val (.int p0), .unset] [(.ref b1)])) _
    refine XS.dup X32.here hx rfl (hb hby own_d2_108) rfl rfl ?_
    show Steps p.tables e below (T32.setTop (mkF m 109 #[.val (.int p0), .unset] [(.ref b1), (.ref b1)])) _
    refine XS.bipush X32.here hx rfl (hb hby own_d2_109) ?_
    show Steps p.tables e below (T32.setTop (mkF m 111 #[.val (.int p0), .unset] [(.int (16 : Int32)), (.ref b1), (.ref b1)])) _
    refine X32.ldc2Long hx hown (mvT hZ (hw _ (List.mem_of_getElem? (i := 29) rfl))) (g := (mkF m 111 #[.val (.int p0), .unset] [(.int (16 : Int32)), (.ref b1), (.ref b1)])) rfl (hb hby own_d2_111) _ ?_
    show Steps p.tables e below (T32.setTop (mkF m 114 #[.val (.int p0), .unset] [(.long (10000000000000000 : Int64)), (.int (16 : Int32)), (.ref b1), (.ref b1)])) _
    exact k
  obtain ⟨T34, h34, y34, X34, e34, W34, V34, ya34, yb34, st34⟩ := own_stJ X32 hx hZ e32 fc33 (j := (16 : Int32)) (x := (10000000000000000 : Int64)) (by decide) (by decide) (g := (mkF m 114 #[.val (.int p0), .unset] [(.long (10000000000000000 : Int64)), (.int (16 : Int32)), (.ref b1), (.ref b1)])) rfl rfl (hb hby own_d2_114)
  refine own_go (T' := T34) (f' := (mkF m 115 #[.val (.int p0), .unset] [(.ref b1)])) st34 ?_
  have fc35 : own_ArJ Z h34 b1 .long (19 : Int32) y34 := V34
  have Zs34 : n0 ≤ h34.size := Nat.le_trans Zs32 (Keep.of_wr W34).1
  have K34 : Keep h0 h34 [] := K32.wr W34 (Or.inr sz_b1)
  have N34 := Fr.snoc X34 N32 g_b1
  have ya34' : y34 16 = (10000000000000000 : Int64) := ya34
  have yb34' : ∀ i, i ≠ 16 → y34 i = y32 i := yb34
  refine own_go (T' := T34) (f' := (mkF m 121 #[.val (.int p0), .unset] [(.long (100000000000000000 : Int64)), (.int (17 : Int32)), (.ref b1), (.ref b1)])) (fun t k => ?_) ?_
  · show Steps p.tables e below (T34.setTop (mkF m 115 #[.val (.int p0), .unset] [(.ref b1)])) _
    refine XS.dup X34.here hx rfl (hb hby own_d2_115) rfl rfl ?_
    show Steps p.tables e below (T34.setTop (mkF m 116 #[.val (.int p0), .unset] [(.ref b1), (.ref b1)])) _
    refine XS.bipush X34.here hx rfl (hb hby own_d2_116) ?_
    show Steps p.tables e below (T34.setTop (mkF m 118 #[.val (.int p0), .unset] [(.int (17 : Int32)), (.ref b1), (.ref b1)])) _
    refine X34.ldc2Long hx hown (mvT hZ (hw _ (List.mem_of_getElem? (i := 30) rfl))) (g := (mkF m 118 #[.val (.int p0), .unset] [(.int (17 : Int32)), (.ref b1), (.ref b1)])) rfl (hb hby own_d2_118) _ ?_
    show Steps p.tables e below (T34.setTop (mkF m 121 #[.val (.int p0), .unset] [(.long (100000000000000000 : Int64)), (.int (17 : Int32)), (.ref b1), (.ref b1)])) _
    exact k
  obtain ⟨T36, h36, y36, X36, e36, W36, V36, ya36, yb36, st36⟩ := own_stJ X34 hx hZ e34 fc35 (j := (17 : Int32)) (x := (100000000000000000 : Int64)) (by decide) (by decide) (g := (mkF m 121 #[.val (.int p0), .unset] [(.long (100000000000000000 : Int64)), (.int (17 : Int32)), (.ref b1), (.ref b1)])) rfl rfl (hb hby own_d2_121)
  refine own_go (T' := T36) (f' := (mkF m 122 #[.val (.int p0), .unset] [(.ref b1)])) st36 ?_
  have fc37 : own_ArJ Z h36 b1 .long (19 : Int32) y36 := V36
  have Zs36 : n0 ≤ h36.size := Nat.le_trans Zs34 (Keep.of_wr W36).1
  have K36 : Keep h0 h36 [] := K34.wr W36 (Or.inr sz_b1)
  have N36 := Fr.snoc X36 N34 g_b1
  have ya36' : y36 17 = (100000000000000000 : Int64) := ya36
  have yb36' : ∀ i, i ≠ 17 → y36 i = y34 i := yb36
  refine own_go (T' := T36) (f' := (mkF m 128 #[.val (.int p0), .unset] [(.long (1000000000000000000 : Int64)), (.int (18 : Int32)), (.ref b1), (.ref b1)])) (fun t k => ?_) ?_
  · show Steps p.tables e below (T36.setTop (mkF m 122 #[.val (.int p0), .unset] [(.ref b1)])) _
    refine XS.dup X36.here hx rfl (hb hby own_d2_122) rfl rfl ?_
    show Steps p.tables e below (T36.setTop (mkF m 123 #[.val (.int p0), .unset] [(.ref b1), (.ref b1)])) _
    refine XS.bipush X36.here hx rfl (hb hby own_d2_123) ?_
    show Steps p.tables e below (T36.setTop (mkF m 125 #[.val (.int p0), .unset] [(.int (18 : Int32)), (.ref b1), (.ref b1)])) _
    refine X36.ldc2Long hx hown (mvT hZ (hw _ (List.mem_of_getElem? (i := 31) rfl))) (g := (mkF m 125 #[.val (.int p0), .unset] [(.int (18 : Int32)), (.ref b1), (.ref b1)])) rfl (hb hby own_d2_125) _ ?_
    show Steps p.tables e below (T36.setTop (mkF m 128 #[.val (.int p0), .unset] [(.long (1000000000000000000 : Int64)), (.int (18 : Int32)), (.ref b1), (.ref b1)])) _
    exact k
  obtain ⟨T38, h38, y38, X38, e38, W38, V38, ya38, yb38, st38⟩ := own_stJ X36 hx hZ e36 fc37 (j := (18 : Int32)) (x := (1000000000000000000 : Int64)) (by decide) (by decide) (g := (mkF m 128 #[.val (.int p0), .unset] [(.long (1000000000000000000 : Int64)), (.int (18 : Int32)), (.ref b1), (.ref b1)])) rfl rfl (hb hby own_d2_128)
  refine own_go (T' := T38) (f' := (mkF m 129 #[.val (.int p0), .unset] [(.ref b1)])) st38 ?_
  have fc39 : own_ArJ Z h38 b1 .long (19 : Int32) y38 := V38
  have Zs38 : n0 ≤ h38.size := Nat.le_trans Zs36 (Keep.of_wr W38).1
  have K38 : Keep h0 h38 [] := K36.wr W38 (Or.inr sz_b1)
  have N38 := Fr.snoc X38 N36 g_b1
  have ya38' : y38 18 = (1000000000000000000 : Int64) := ya38
  have yb38' : ∀ i, i ≠ 18 → y38 i = y36 i := yb38
  have hpw : ∀ i, i < 19 → (y38 i).toInt = 10 ^ i := by
    intro i hi
    by_cases c18 : i = 18
    · rw [c18, ya38']; decide +kernel
    rw [yb38' i c18]
    by_cases c17 : i = 17
    · rw [c17, ya36']; decide +kernel
    rw [yb36' i c17]
    by_cases c16 : i = 16
    · rw [c16, ya34']; decide +kernel
    rw [yb34' i c16]
    by_cases c15 : i = 15
    · rw [c15, ya32']; decide +kernel
    rw [yb32' i c15]
    by_cases c14 : i = 14
    · rw [c14, ya30']; decide +kernel
    rw [yb30' i c14]
    by_cases c13 : i = 13
    · rw [c13, ya28']; decide +kernel
    rw [yb28' i c13]
    by_cases c12 : i = 12
    · rw [c12, ya26']; decide +kernel
    rw [yb26' i c12]
    by_cases c11 : i = 11
    · rw [c11, ya24']; decide +kernel
    rw [yb24' i c11]
    by_cases c10 : i = 10
    · rw [c10, ya22']; decide +kernel
    rw [yb22' i c10]
    by_cases c9 : i = 9
    · rw [c9, ya20']; decide +kernel
    rw [yb20' i c9]
    by_cases c8 : i = 8
    · rw [c8, ya18']; decide +kernel
    rw [yb18' i c8]
    by_cases c7 : i = 7
    · rw [c7, ya16']; decide +kernel
    rw [yb16' i c7]
    by_cases c6 : i = 6
    · rw [c6, ya14']; decide +kernel
    rw [yb14' i c6]
    by_cases c5 : i = 5
    · rw [c5, ya12']; decide +kernel
    rw [yb12' i c5]
    by_cases c4 : i = 4
    · rw [c4, ya10']; decide +kernel
    rw [yb10' i c4]
    by_cases c3 : i = 3
    · rw [c3, ya8']; decide +kernel
    rw [yb8' i c3]
    by_cases c2 : i = 2
    · rw [c2, ya6']; decide +kernel
    rw [yb6' i c2]
    by_cases c1 : i = 1
    · rw [c1, ya4']; decide +kernel
    rw [yb4' i c1]
    by_cases c0 : i = 0
    · rw [c0, ya2']; decide +kernel
    rw [yb2' i c0]
    omega
  refine own_go (T' := T38) (f' := (mkF m 133 #[.val (.int p0), .val (.ref b1)] [(.long (y38 p0.toInt.toNat))])) (fun t k => ?_) ?_
  · show Steps p.tables e below (T38.setTop (mkF m 129 #[.val (.int p0), .unset] [(.ref b1)])) _
    refine XS.astoreN X38.here hx rfl (hb hby own_d2_129) rfl rfl (l' := #[.val (.int p0), .val (.ref b1)]) rfl ?_
    show Steps p.tables e below (T38.setTop (mkF m 130 #[.val (.int p0), .val (.ref b1)] [])) _
    refine XS.aloadN X38.here hx rfl (hb hby own_d2_130) rfl rfl ?_
    show Steps p.tables e below (T38.setTop (mkF m 131 #[.val (.int p0), .val (.ref b1)] [(.ref b1)])) _
    refine XS.iloadN X38.here hx rfl (hb hby own_d2_131) rfl ?_
    show Steps p.tables e below (T38.setTop (mkF m 132 #[.val (.int p0), .val (.ref b1)] [(.int p0), (.ref b1)])) _
    refine own_ldJ X38 hx hZ e38 fc39 (j := p0) h0p h19 (g := (mkF m 132 #[.val (.int p0), .val (.ref b1)] [(.int p0), (.ref b1)])) rfl rfl (hb hby own_d2_132) _ ?_
    show Steps p.tables e below (T38.setTop (mkF m 133 #[.val (.int p0), .val (.ref b1)] [(.long (y38 p0.toInt.toNat))])) _
    exact k
  obtain ⟨fs, hr, hrun, hended, hW, hsame⟩ := X38.leave (v := some (.long (y38 p0.toInt.toNat))) (fun h => by rw [Bd.returns] at h; cases h)
  refine ⟨_, _, ?_, hrun, hended, _, _, rfl, ?_, ⟨_, rfl⟩, hW, hsame.mono (by decide) (by decide)⟩
  · exact X38.lreturnOut hx Bd.returns (hb hby own_d2_133) hr
  · show own_Q2 Z p0 h0 n0 _ T38.heap _
    rw [e38]
    exact ⟨(y38 p0.toInt.toNat), rfl, N38, K38, (hpw _ (by omega))⟩
theorem own_pd0 : parseMethodDescriptor "(JI[BI)I" = some ⟨[.long, .int, (.array .byte), .int], some .int⟩ := by decide +kernel
theorem own_pd1 : parseMethodDescriptor "(I)J" = some ⟨[.int], some .long⟩ := by decide +kernel
theorem own_ef0 (m : MethodId) (q0 : Int64) (p1 : Int32) (p2 : Int32) (p3 : Int32) (p4 : Int32) : entryFrame m #[(.long q0), (.int p1), (.int p2), (.int p3), (.int p4)] maxLocals = mkF m 0 #[.val (.long q0), .second, .val (.int p1), .val (.int p2), .val (.int p3), .val (.int p4), .unset, .unset, .unset, .unset, .unset, .unset, .unset, .unset, .unset] [] := by first | (simp [entryFrame, mkF, argsToLocals, Value.category, maxLocals]; done) | rfl
def own_VAL (q0 : Int64) (p1 : Int32) (p2 : Int32) (p3 : Int32) (p4 : Int32) : Int64 := (own_shrL (q0 &&& (9223372036854775807 : Int64)) (p1 &&& (63 : Int32)))
def own_LEN (q0 : Int64) (p1 : Int32) (p2 : Int32) (p3 : Int32) (p4 : Int32) : Int32 := ((p2 &&& (2147483647 : Int32)) - ((p2 &&& (2147483647 : Int32)) / (23 : Int32)) * (23 : Int32))
def own_AT (q0 : Int64) (p1 : Int32) (p2 : Int32) (p3 : Int32) (p4 : Int32) : Int32 := (p3 &&& (7 : Int32))
def own_KK (q0 : Int64) (p1 : Int32) (p2 : Int32) (p3 : Int32) (p4 : Int32) : Int32 := ((p4 &&& (2147483647 : Int32)) - ((p4 &&& (2147483647 : Int32)) / (32 : Int32)) * (32 : Int32))
theorem own_unn (x : Int64) (h : own_u x < 9223372036854775808) : x.toInt = own_u x := by
  have a := own_ui x; have b := rng64 x; omega
theorem own_VAL_rng (q0 : Int64) (p1 p2 p3 p4 : Int32) : 0 ≤ (own_VAL q0 p1 p2 p3 p4).toInt := by
  have m := c_maskL q0 9223372036854775807 63 (by decide) (by decide)
  have u := own_ui (q0 &&& (9223372036854775807 : Int64))
  have s := own_ushr (q0 &&& (9223372036854775807 : Int64)) (p1 &&& (63 : Int32)) _ rfl
  have le : own_u (q0 &&& (9223372036854775807 : Int64)) / 2 ^ ((p1 &&& (63 : Int32)).toBitVec.toNat % 64) ≤ own_u (q0 &&& (9223372036854775807 : Int64)) := Nat.div_le_self _ _
  rw [own_VAL, own_unn _ (by rw [s]; omega)]; omega
theorem own_m31 (p : Int32) : 0 ≤ (p &&& (2147483647 : Int32)).toInt := by
  rw [c_mask p 2147483647 31 (by decide) (by decide)]; omega
theorem own_rem (x d : Int32) (D : Int) (hd : d.toInt = D) (hD : 0 < D) (h : 0 ≤ x.toInt) : (x - (x / d) * d).toInt = x.toInt % D := by
  have q := (c_idiv x d D hd (by rintro rfl; have : (-1 : Int32).toInt = -1 := rfl; omega)).1 h
  have m := c_imul (x / d) d; have mr := rng32 (x / d * d)
  have s := c_isub x (x / d * d); have sr := rng32 (x - x / d * d)
  have xr := rng32 x
  have a1 := Int.emod_add_mul_ediv x.toInt D
  have a2 := Int.emod_nonneg x.toInt (show D ≠ 0 by omega)
  have a3 := Int.emod_lt_of_pos x.toInt hD
  have a4 : 0 ≤ D * (x.toInt / D) := Int.mul_nonneg (by omega) (Int.ediv_nonneg h (by omega))
  rw [q, hd, Int.mul_comm] at m
  generalize D * (x.toInt / D) = w at *
  omega
theorem own_LEN_rng (q0 : Int64) (p1 p2 p3 p4 : Int32) : 0 ≤ (own_LEN q0 p1 p2 p3 p4).toInt ∧ (own_LEN q0 p1 p2 p3 p4).toInt ≤ 22 := by
  rw [own_LEN, own_rem _ 23 23 rfl (by decide) (own_m31 p2)]; omega
theorem own_KK_rng (q0 : Int64) (p1 p2 p3 p4 : Int32) : 0 ≤ (own_KK q0 p1 p2 p3 p4).toInt ∧ (own_KK q0 p1 p2 p3 p4).toInt < (32 : Int32).toInt := by
  rw [own_KK, own_rem _ 32 32 rfl (by decide) (own_m31 p4), show (32 : Int32).toInt = 32 from rfl]; omega
theorem own_AT_rng (q0 : Int64) (p1 p2 p3 p4 : Int32) : 0 ≤ (own_AT q0 p1 p2 p3 p4).toInt ∧ (own_AT q0 p1 p2 p3 p4).toInt ≤ 7 := by
  rw [own_AT, c_mask p3 7 3 (by decide) (by decide)]; omega
theorem own_sum (q0 : Int64) (p1 p2 p3 p4 : Int32) : ((own_AT q0 p1 p2 p3 p4) + (own_LEN q0 p1 p2 p3 p4)).toInt = (own_AT q0 p1 p2 p3 p4).toInt + (own_LEN q0 p1 p2 p3 p4).toInt := by
  have a := own_AT_rng q0 p1 p2 p3 p4; have b := own_LEN_rng q0 p1 p2 p3 p4
  have s := c_iadd (own_AT q0 p1 p2 p3 p4) (own_LEN q0 p1 p2 p3 p4); have r := rng32 ((own_AT q0 p1 p2 p3 p4) + (own_LEN q0 p1 p2 p3 p4))
  omega
theorem own_out (q0 : Int64) (p1 p2 p3 p4 : Int32) {f' : Nat → Int32} (h : own_LS (own_LEN q0 p1 p2 p3 p4).toInt.toNat (own_VAL q0 p1 p2 p3 p4) (own_AT q0 p1 p2 p3 p4).toInt.toNat (fun _ => 0) f') (c : (own_KK q0 p1 p2 p3 p4) < (own_AT q0 p1 p2 p3 p4) ∨ ¬ (own_KK q0 p1 p2 p3 p4) < ((own_AT q0 p1 p2 p3 p4) + (own_LEN q0 p1 p2 p3 p4))) : f' (own_KK q0 p1 p2 p3 p4).toInt.toNat = (0 : Int32) := by
  have a := own_AT_rng q0 p1 p2 p3 p4; have b := own_LEN_rng q0 p1 p2 p3 p4; have k := own_KK_rng q0 p1 p2 p3 p4; have s := own_sum q0 p1 p2 p3 p4
  rw [Int32.lt_iff_toInt_lt, Int32.lt_iff_toInt_lt, s] at c
  exact h.2 _ (by omega)
theorem own_E (q0 : Int64) (p1 p2 p3 p4 : Int32) (c1 : ¬ (own_KK q0 p1 p2 p3 p4) < (own_AT q0 p1 p2 p3 p4)) (c2 : (own_KK q0 p1 p2 p3 p4) < ((own_AT q0 p1 p2 p3 p4) + (own_LEN q0 p1 p2 p3 p4))) :
    0 ≤ ((((own_AT q0 p1 p2 p3 p4) + (own_LEN q0 p1 p2 p3 p4)) - (1 : Int32)) - (own_KK q0 p1 p2 p3 p4)).toInt ∧ ((((own_AT q0 p1 p2 p3 p4) + (own_LEN q0 p1 p2 p3 p4)) - (1 : Int32)) - (own_KK q0 p1 p2 p3 p4)).toInt = (own_AT q0 p1 p2 p3 p4).toInt + (own_LEN q0 p1 p2 p3 p4).toInt - 1 - (own_KK q0 p1 p2 p3 p4).toInt := by
  have a := own_AT_rng q0 p1 p2 p3 p4; have b := own_LEN_rng q0 p1 p2 p3 p4; have k := own_KK_rng q0 p1 p2 p3 p4; have s := own_sum q0 p1 p2 p3 p4
  rw [Int32.lt_iff_toInt_lt] at c1
  rw [Int32.lt_iff_toInt_lt, s] at c2
  have d := c_isub ((own_AT q0 p1 p2 p3 p4) + (own_LEN q0 p1 p2 p3 p4)) 1; have dr := rng32 (((own_AT q0 p1 p2 p3 p4) + (own_LEN q0 p1 p2 p3 p4)) - 1)
  have g := c_isub (((own_AT q0 p1 p2 p3 p4) + (own_LEN q0 p1 p2 p3 p4)) - 1) (own_KK q0 p1 p2 p3 p4); have gr := rng32 ((((own_AT q0 p1 p2 p3 p4) + (own_LEN q0 p1 p2 p3 p4)) - 1) - (own_KK q0 p1 p2 p3 p4))
  have e1 : (1 : Int32).toInt = 1 := rfl
  have e32 : (32 : Int32).toInt = 32 := rfl
  omega
theorem own_lt19 {x : Int32} (h : x < (19 : Int32)) : x.toInt < 19 := by rw [Int32.lt_iff_toInt_lt] at h; exact h
theorem own_pow_ne {r : Int64} {n : Nat} (h : r.toInt = 10 ^ n) : ¬ r = (0 : Int64) := by
  rintro rfl
  have p : (0 : Int) < 10 ^ n := Int.pow_pos (by decide)
  have e0 : (0 : Int64).toInt = 0 := rfl
  omega
theorem own_at (q0 : Int64) (p1 p2 p3 p4 : Int32) {f' : Nat → Int32} (h : own_LS (own_LEN q0 p1 p2 p3 p4).toInt.toNat (own_VAL q0 p1 p2 p3 p4) (own_AT q0 p1 p2 p3 p4).toInt.toNat (fun _ => 0) f') (c1 : ¬ (own_KK q0 p1 p2 p3 p4) < (own_AT q0 p1 p2 p3 p4)) (c2 : (own_KK q0 p1 p2 p3 p4) < ((own_AT q0 p1 p2 p3 p4) + (own_LEN q0 p1 p2 p3 p4))) :
    (f' (own_KK q0 p1 p2 p3 p4).toInt.toNat).toInt = 48 + ((own_VAL q0 p1 p2 p3 p4).toInt.toNat / 10 ^ ((((own_AT q0 p1 p2 p3 p4) + (own_LEN q0 p1 p2 p3 p4)) - (1 : Int32)) - (own_KK q0 p1 p2 p3 p4)).toInt.toNat % 10 : Nat) := by
  have a := own_AT_rng q0 p1 p2 p3 p4; have b := own_LEN_rng q0 p1 p2 p3 p4; have k := own_KK_rng q0 p1 p2 p3 p4; have s := own_sum q0 p1 p2 p3 p4
  have g := own_E q0 p1 p2 p3 p4 c1 c2
  have q := h.1 ((((own_AT q0 p1 p2 p3 p4) + (own_LEN q0 p1 p2 p3 p4)) - (1 : Int32)) - (own_KK q0 p1 p2 p3 p4)).toInt.toNat (by rw [Int32.lt_iff_toInt_lt] at c1; omega)
  rw [show (own_AT q0 p1 p2 p3 p4).toInt.toNat + (own_LEN q0 p1 p2 p3 p4).toInt.toNat - 1 - ((((own_AT q0 p1 p2 p3 p4) + (own_LEN q0 p1 p2 p3 p4)) - (1 : Int32)) - (own_KK q0 p1 p2 p3 p4)).toInt.toNat = (own_KK q0 p1 p2 p3 p4).toInt.toNat by rw [Int32.lt_iff_toInt_lt] at c1; omega] at q
  exact q
theorem own_put (d : Int32) (D : Nat) (h : d.toInt = D) (hD : D < 10) : (((48 : Int32) + d).toInt8.toInt32).toInt = 48 + D := by
  have a := c_iadd 48 d; have ar := rng32 (48 + d); have b := c_i2b (48 + d)
  have e48 : (48 : Int32).toInt = 48 := rfl
  omega
theorem own_in1 (q0 : Int64) (p1 p2 p3 p4 : Int32) {f' : Nat → Int32} {r : Int64} (h : own_LS (own_LEN q0 p1 p2 p3 p4).toInt.toNat (own_VAL q0 p1 p2 p3 p4) (own_AT q0 p1 p2 p3 p4).toInt.toNat (fun _ => 0) f') (c1 : ¬ (own_KK q0 p1 p2 p3 p4) < (own_AT q0 p1 p2 p3 p4)) (c2 : (own_KK q0 p1 p2 p3 p4) < ((own_AT q0 p1 p2 p3 p4) + (own_LEN q0 p1 p2 p3 p4)))
    (hr : r.toInt = 10 ^ ((((own_AT q0 p1 p2 p3 p4) + (own_LEN q0 p1 p2 p3 p4)) - (1 : Int32)) - (own_KK q0 p1 p2 p3 p4)).toInt.toNat) :
    f' (own_KK q0 p1 p2 p3 p4).toInt.toNat = (((48 : Int32) + ((((own_VAL q0 p1 p2 p3 p4) / r) - (((own_VAL q0 p1 p2 p3 p4) / r) / (10 : Int64)) * (10 : Int64)).toInt32)).toInt8.toInt32) := by
  have g := own_at q0 p1 p2 p3 p4 h c1 c2
  have v := own_VAL_rng q0 p1 p2 p3 p4
  generalize own_VAL q0 p1 p2 p3 p4 = V at *
  generalize ((((own_AT q0 p1 p2 p3 p4) + (own_LEN q0 p1 p2 p3 p4)) - (1 : Int32)) - (own_KK q0 p1 p2 p3 p4)).toInt.toNat = n at *
  have p : (0 : Int) < 10 ^ n := Int.pow_pos (by decide)
  have d := (c_ldiv V r _ hr (by rintro rfl; have e : (-1 : Int64).toInt = -1 := rfl; omega)).1 v
  have dn : 0 ≤ (V / r).toInt := by rw [d]; exact Int.ediv_nonneg v (by omega)
  have m := (c_lrem (V / r) 10 10 rfl).1 dn
  have cast : (V.toInt / 10 ^ n) = ((V.toInt.toNat / 10 ^ n : Nat) : Int) := by
    rw [Int.natCast_ediv, Int.toNat_of_nonneg v]; congr 1
  rw [d, cast] at m
  have l := c_l2i ((V / r) - ((V / r) / (10 : Int64)) * (10 : Int64)); have lr := rng32 ((V / r) - ((V / r) / (10 : Int64)) * (10 : Int64)).toInt32
  generalize V.toInt.toNat / 10 ^ n = w at *
  have pt := own_put ((V / r) - ((V / r) / (10 : Int64)) * (10 : Int64)).toInt32 (w % 10) (by omega) (by omega)
  exact Int32.toInt_inj.mp (by rw [g, pt])
theorem own_in2 (q0 : Int64) (p1 p2 p3 p4 : Int32) {f' : Nat → Int32} (h : own_LS (own_LEN q0 p1 p2 p3 p4).toInt.toNat (own_VAL q0 p1 p2 p3 p4) (own_AT q0 p1 p2 p3 p4).toInt.toNat (fun _ => 0) f') (c1 : ¬ (own_KK q0 p1 p2 p3 p4) < (own_AT q0 p1 p2 p3 p4)) (c2 : (own_KK q0 p1 p2 p3 p4) < ((own_AT q0 p1 p2 p3 p4) + (own_LEN q0 p1 p2 p3 p4)))
    (c3 : ¬ ((((own_AT q0 p1 p2 p3 p4) + (own_LEN q0 p1 p2 p3 p4)) - (1 : Int32)) - (own_KK q0 p1 p2 p3 p4)) < (19 : Int32)) :
    f' (own_KK q0 p1 p2 p3 p4).toInt.toNat = (((48 : Int32) + (0 : Int32)).toInt8.toInt32) := by
  have g := own_at q0 p1 p2 p3 p4 h c1 c2
  have b := rng64 (own_VAL q0 p1 p2 p3 p4)
  rw [Int32.lt_iff_toInt_lt] at c3
  have e19 : (19 : Int32).toInt = 19 := rfl
  generalize own_VAL q0 p1 p2 p3 p4 = V at *
  have pw := Nat.pow_le_pow_right (show 0 < 10 by decide) (show 19 ≤ ((((own_AT q0 p1 p2 p3 p4) + (own_LEN q0 p1 p2 p3 p4)) - (1 : Int32)) - (own_KK q0 p1 p2 p3 p4)).toInt.toNat by omega)
  rw [Nat.div_eq_of_lt (by omega)] at g
  exact Int32.toInt_inj.mp (by rw [g]; rfl)
def own_Q0 (Z : State) (q0 : Int64) (p1 : Int32) (p2 : Int32) (p3 : Int32) (p4 : Int32) (h0 : Heap) (n0 : Nat) (v : Option Value) (h : Heap) (L : List Loc) : Prop := (v = some (.int (1 : Int32))) ∧ (Fr n0 L)
set_option maxRecDepth 65536 in
set_option maxHeartbeats 40000000 in
theorem own_rm0 (l : Launch) (Z : State) (a0 : Array Value) (hw : ∀ d ∈ tables_1, d.before a0 Z = true) (ws : List Jvm.Cond) (q0 : Int64) (p1 : Int32) (p2 : Int32) (p3 : Int32) (p4 : Int32) (h0 : Heap) (n0 : Nat) (Z0 : n0 ≤ h0.size) :
    MetFree l x (head1 (Jvm.Cond.code x code maxLocals ret :: ws) room_1) (fun a U => a = #[(.long q0), (.int p1), (.int p2), (.int p3), (.int p4)] ∧ Z.Warmed39 U.vm ∧ U.heap = h0) (fun _ _ _ _ _ => True) (fun _ U o U' => ∃ v L, o = .returned v ∧ own_Q0 Z q0 p1 p2 p3 p4 h0 n0 v U'.heap L ∧ FrameEnd U o U' L 16 192) := by
  refine MetFree.of_bodySF (plainFor_of_name own_pn1) hisR ?_
  intro p e s m args below meth c s₁ Bd hml0 hP hK
  obtain ⟨rfl, hZ, hh⟩ := hP
  have hx := Bd.exec
  have hby := Bd.bytes
  have hml : c.maxLocals = 15 := hml0
  have hown : s.vm.findClass "com/example/rowcast/rowcast/number/IntTextWriteDigitsPinLaw" = some m.cls := findClass_of_methodNamed Bd.named
  have hnm := (name_of_methodNamed Bd.named Bd.method).1
  have X0 : Stand p l e room_1 s m #[(.long q0), (.int p1), (.int p2), (.int p3), (.int p4)] below meth c s₁ [] 0 0 := Stand.of_body Bd
  have e0 : s₁.heap = h0 := by rw [← hh, Bd.state]; rfl
  have N0 := Fr.nil n0
  refine own_go (fun t k => castTop (own_ef0 m q0 p1 p2 p3 p4) k) ?_
  refine own_go (T' := s₁) (f' := (mkF m 10 #[.val (.long q0), .second, .val (.int p1), .val (.int p2), .val (.int p3), .val (.int p4), .unset, .unset, .unset, .unset, .unset, .unset, .unset, .unset, .unset] [(.long (own_shrL (q0 &&& (9223372036854775807 : Int64)) (p1 &&& (63 : Int32))))])) (fun t k => ?_) ?_
  · show Steps p.tables e below (s₁.setTop (mkF m 0 #[.val (.long q0), .second, .val (.int p1), .val (.int p2), .val (.int p3), .val (.int p4), .unset, .unset, .unset, .unset, .unset, .unset, .unset, .unset, .unset] [])) _
    refine XS.lloadN X0.here hx rfl (hb hby at_0) rfl ?_
    show Steps p.tables e below (s₁.setTop (mkF m 1 #[.val (.long q0), .second, .val (.int p1), .val (.int p2), .val (.int p3), .val (.int p4), .unset, .unset, .unset, .unset, .unset, .unset, .unset, .unset, .unset] [(.long q0)])) _
    refine X0.ldc2Long hx hown (mvT hZ (hw _ (List.mem_of_getElem? (i := 0) rfl))) (g := (mkF m 1 #[.val (.long q0), .second, .val (.int p1), .val (.int p2), .val (.int p3), .val (.int p4), .unset, .unset, .unset, .unset, .unset, .unset, .unset, .unset, .unset] [(.long q0)])) rfl (hb hby at_1) _ ?_
    show Steps p.tables e below (s₁.setTop (mkF m 4 #[.val (.long q0), .second, .val (.int p1), .val (.int p2), .val (.int p3), .val (.int p4), .unset, .unset, .unset, .unset, .unset, .unset, .unset, .unset, .unset] [(.long (9223372036854775807 : Int64)), (.long q0)])) _
    refine XS.land X0.here hx rfl (hb hby at_4) rfl ?_
    show Steps p.tables e below (s₁.setTop (mkF m 5 #[.val (.long q0), .second, .val (.int p1), .val (.int p2), .val (.int p3), .val (.int p4), .unset, .unset, .unset, .unset, .unset, .unset, .unset, .unset, .unset] [(.long (q0 &&& (9223372036854775807 : Int64)))])) _
    refine XS.iloadN X0.here hx rfl (hb hby at_5) rfl ?_
    show Steps p.tables e below (s₁.setTop (mkF m 6 #[.val (.long q0), .second, .val (.int p1), .val (.int p2), .val (.int p3), .val (.int p4), .unset, .unset, .unset, .unset, .unset, .unset, .unset, .unset, .unset] [(.int p1), (.long (q0 &&& (9223372036854775807 : Int64)))])) _
    refine XS.bipush X0.here hx rfl (hb hby at_6) ?_
    show Steps p.tables e below (s₁.setTop (mkF m 8 #[.val (.long q0), .second, .val (.int p1), .val (.int p2), .val (.int p3), .val (.int p4), .unset, .unset, .unset, .unset, .unset, .unset, .unset, .unset, .unset] [(.int (63 : Int32)), (.int p1), (.long (q0 &&& (9223372036854775807 : Int64)))])) _
    refine XS.iand X0.here hx rfl (hb hby at_8) rfl ?_
    show Steps p.tables e below (s₁.setTop (mkF m 9 #[.val (.long q0), .second, .val (.int p1), .val (.int p2), .val (.int p3), .val (.int p4), .unset, .unset, .unset, .unset, .unset, .unset, .unset, .unset, .unset] [(.int (p1 &&& (63 : Int32))), (.long (q0 &&& (9223372036854775807 : Int64)))])) _
    refine XS.lushr X0.here hx rfl (hb hby at_9) rfl ?_
    show Steps p.tables e below (s₁.setTop (mkF m 10 #[.val (.long q0), .second, .val (.int p1), .val (.int p2), .val (.int p3), .val (.int p4), .unset, .unset, .unset, .unset, .unset, .unset, .unset, .unset, .unset] [(.long (own_shrL (q0 &&& (9223372036854775807 : Int64)) (p1 &&& (63 : Int32))))])) _
    exact k
  refine own_go (T' := s₁) (f' := (mkF m 10 #[.val (.long q0), .second, .val (.int p1), .val (.int p2), .val (.int p3), .val (.int p4), .unset, .unset, .unset, .unset, .unset, .unset, .unset, .unset, .unset] [(.long (own_VAL q0 p1 p2 p3 p4))])) (fun t k => k) ?_
  refine own_go (T' := s₁) (f' := (mkF m 19 #[.val (.long q0), .second, .val (.int p1), .val (.int p2), .val (.int p3), .val (.int p4), .val (.long (own_VAL q0 p1 p2 p3 p4)), .second, .unset, .unset, .unset, .unset, .unset, .unset, .unset] [(.int ((p2 &&& (2147483647 : Int32)) - ((p2 &&& (2147483647 : Int32)) / (23 : Int32)) * (23 : Int32)))])) (fun t k => ?_) ?_
  · show Steps p.tables e below (s₁.setTop (mkF m 10 #[.val (.long q0), .second, .val (.int p1), .val (.int p2), .val (.int p3), .val (.int p4), .unset, .unset, .unset, .unset, .unset, .unset, .unset, .unset, .unset] [(.long (own_VAL q0 p1 p2 p3 p4))])) _
    refine XS.lstore X0.here hx rfl (hb hby at_10) rfl (l' := #[.val (.long q0), .second, .val (.int p1), .val (.int p2), .val (.int p3), .val (.int p4), .val (.long (own_VAL q0 p1 p2 p3 p4)), .second, .unset, .unset, .unset, .unset, .unset, .unset, .unset]) rfl ?_
    show Steps p.tables e below (s₁.setTop (mkF m 12 #[.val (.long q0), .second, .val (.int p1), .val (.int p2), .val (.int p3), .val (.int p4), .val (.long (own_VAL q0 p1 p2 p3 p4)), .second, .unset, .unset, .unset, .unset, .unset, .unset, .unset] [])) _
    refine XS.iloadN X0.here hx rfl (hb hby at_12) rfl ?_
    show Steps p.tables e below (s₁.setTop (mkF m 13 #[.val (.long q0), .second, .val (.int p1), .val (.int p2), .val (.int p3), .val (.int p4), .val (.long (own_VAL q0 p1 p2 p3 p4)), .second, .unset, .unset, .unset, .unset, .unset, .unset, .unset] [(.int p2)])) _
    refine X0.ldcInt hx hown (mvT hZ (hw _ (List.mem_of_getElem? (i := 1) rfl))) (g := (mkF m 13 #[.val (.long q0), .second, .val (.int p1), .val (.int p2), .val (.int p3), .val (.int p4), .val (.long (own_VAL q0 p1 p2 p3 p4)), .second, .unset, .unset, .unset, .unset, .unset, .unset, .unset] [(.int p2)])) rfl (hb hby at_13) _ ?_
    show Steps p.tables e below (s₁.setTop (mkF m 15 #[.val (.long q0), .second, .val (.int p1), .val (.int p2), .val (.int p3), .val (.int p4), .val (.long (own_VAL q0 p1 p2 p3 p4)), .second, .unset, .unset, .unset, .unset, .unset, .unset, .unset] [(.int (2147483647 : Int32)), (.int p2)])) _
    refine XS.iand X0.here hx rfl (hb hby at_15) rfl ?_
    show Steps p.tables e below (s₁.setTop (mkF m 16 #[.val (.long q0), .second, .val (.int p1), .val (.int p2), .val (.int p3), .val (.int p4), .val (.long (own_VAL q0 p1 p2 p3 p4)), .second, .unset, .unset, .unset, .unset, .unset, .unset, .unset] [(.int (p2 &&& (2147483647 : Int32)))])) _
    refine XS.bipush X0.here hx rfl (hb hby at_16) ?_
    show Steps p.tables e below (s₁.setTop (mkF m 18 #[.val (.long q0), .second, .val (.int p1), .val (.int p2), .val (.int p3), .val (.int p4), .val (.long (own_VAL q0 p1 p2 p3 p4)), .second, .unset, .unset, .unset, .unset, .unset, .unset, .unset] [(.int (23 : Int32)), (.int (p2 &&& (2147483647 : Int32)))])) _
    refine XS.irem X0.here hx rfl (hb hby at_18) rfl (by decide) ?_
    show Steps p.tables e below (s₁.setTop (mkF m 19 #[.val (.long q0), .second, .val (.int p1), .val (.int p2), .val (.int p3), .val (.int p4), .val (.long (own_VAL q0 p1 p2 p3 p4)), .second, .unset, .unset, .unset, .unset, .unset, .unset, .unset] [(.int ((p2 &&& (2147483647 : Int32)) - ((p2 &&& (2147483647 : Int32)) / (23 : Int32)) * (23 : Int32)))])) _
    exact k
  refine own_go (T' := s₁) (f' := (mkF m 19 #[.val (.long q0), .second, .val (.int p1), .val (.int p2), .val (.int p3), .val (.int p4), .val (.long (own_VAL q0 p1 p2 p3 p4)), .second, .unset, .unset, .unset, .unset, .unset, .unset, .unset] [(.int (own_LEN q0 p1 p2 p3 p4))])) (fun t k => k) ?_
  refine own_go (T' := s₁) (f' := (mkF m 26 #[.val (.long q0), .second, .val (.int p1), .val (.int p2), .val (.int p3), .val (.int p4), .val (.long (own_VAL q0 p1 p2 p3 p4)), .second, .val (.int (own_LEN q0 p1 p2 p3 p4)), .unset, .unset, .unset, .unset, .unset, .unset] [(.int (p3 &&& (7 : Int32)))])) (fun t k => ?_) ?_
  · show Steps p.tables e below (s₁.setTop (mkF m 19 #[.val (.long q0), .second, .val (.int p1), .val (.int p2), .val (.int p3), .val (.int p4), .val (.long (own_VAL q0 p1 p2 p3 p4)), .second, .unset, .unset, .unset, .unset, .unset, .unset, .unset] [(.int (own_LEN q0 p1 p2 p3 p4))])) _
    refine XS.istore X0.here hx rfl (hb hby at_19) rfl (l' := #[.val (.long q0), .second, .val (.int p1), .val (.int p2), .val (.int p3), .val (.int p4), .val (.long (own_VAL q0 p1 p2 p3 p4)), .second, .val (.int (own_LEN q0 p1 p2 p3 p4)), .unset, .unset, .unset, .unset, .unset, .unset]) rfl ?_
    show Steps p.tables e below (s₁.setTop (mkF m 21 #[.val (.long q0), .second, .val (.int p1), .val (.int p2), .val (.int p3), .val (.int p4), .val (.long (own_VAL q0 p1 p2 p3 p4)), .second, .val (.int (own_LEN q0 p1 p2 p3 p4)), .unset, .unset, .unset, .unset, .unset, .unset] [])) _
    refine XS.iload X0.here hx rfl (hb hby at_21) rfl ?_
    show Steps p.tables e below (s₁.setTop (mkF m 23 #[.val (.long q0), .second, .val (.int p1), .val (.int p2), .val (.int p3), .val (.int p4), .val (.long (own_VAL q0 p1 p2 p3 p4)), .second, .val (.int (own_LEN q0 p1 p2 p3 p4)), .unset, .unset, .unset, .unset, .unset, .unset] [(.int p3)])) _
    refine XS.bipush X0.here hx rfl (hb hby at_23) ?_
    show Steps p.tables e below (s₁.setTop (mkF m 25 #[.val (.long q0), .second, .val (.int p1), .val (.int p2), .val (.int p3), .val (.int p4), .val (.long (own_VAL q0 p1 p2 p3 p4)), .second, .val (.int (own_LEN q0 p1 p2 p3 p4)), .unset, .unset, .unset, .unset, .unset, .unset] [(.int (7 : Int32)), (.int p3)])) _
    refine XS.iand X0.here hx rfl (hb hby at_25) rfl ?_
    show Steps p.tables e below (s₁.setTop (mkF m 26 #[.val (.long q0), .second, .val (.int p1), .val (.int p2), .val (.int p3), .val (.int p4), .val (.long (own_VAL q0 p1 p2 p3 p4)), .second, .val (.int (own_LEN q0 p1 p2 p3 p4)), .unset, .unset, .unset, .unset, .unset, .unset] [(.int (p3 &&& (7 : Int32)))])) _
    exact k
  refine own_go (T' := s₁) (f' := (mkF m 26 #[.val (.long q0), .second, .val (.int p1), .val (.int p2), .val (.int p3), .val (.int p4), .val (.long (own_VAL q0 p1 p2 p3 p4)), .second, .val (.int (own_LEN q0 p1 p2 p3 p4)), .unset, .unset, .unset, .unset, .unset, .unset] [(.int (own_AT q0 p1 p2 p3 p4))])) (fun t k => k) ?_
  refine own_go (T' := s₁) (f' := (mkF m 36 #[.val (.long q0), .second, .val (.int p1), .val (.int p2), .val (.int p3), .val (.int p4), .val (.long (own_VAL q0 p1 p2 p3 p4)), .second, .val (.int (own_LEN q0 p1 p2 p3 p4)), .val (.int (own_AT q0 p1 p2 p3 p4)), .unset, .unset, .unset, .unset, .unset] [(.int ((p4 &&& (2147483647 : Int32)) - ((p4 &&& (2147483647 : Int32)) / (32 : Int32)) * (32 : Int32)))])) (fun t k => ?_) ?_
  · show Steps p.tables e below (s₁.setTop (mkF m 26 #[.val (.long q0), .second, .val (.int p1), .val (.int p2), .val (.int p3), .val (.int p4), .val (.long (own_VAL q0 p1 p2 p3 p4)), .second, .val (.int (own_LEN q0 p1 p2 p3 p4)), .unset, .unset, .unset, .unset, .unset, .unset] [(.int (own_AT q0 p1 p2 p3 p4))])) _
    refine XS.istore X0.here hx rfl (hb hby at_26) rfl (l' := #[.val (.long q0), .second, .val (.int p1), .val (.int p2), .val (.int p3), .val (.int p4), .val (.long (own_VAL q0 p1 p2 p3 p4)), .second, .val (.int (own_LEN q0 p1 p2 p3 p4)), .val (.int (own_AT q0 p1 p2 p3 p4)), .unset, .unset, .unset, .unset, .unset]) rfl ?_
    show Steps p.tables e below (s₁.setTop (mkF m 28 #[.val (.long q0), .second, .val (.int p1), .val (.int p2), .val (.int p3), .val (.int p4), .val (.long (own_VAL q0 p1 p2 p3 p4)), .second, .val (.int (own_LEN q0 p1 p2 p3 p4)), .val (.int (own_AT q0 p1 p2 p3 p4)), .unset, .unset, .unset, .unset, .unset] [])) _
    refine XS.iload X0.here hx rfl (hb hby at_28) rfl ?_
    show Steps p.tables e below (s₁.setTop (mkF m 30 #[.val (.long q0), .second, .val (.int p1), .val (.int p2), .val (.int p3), .val (.int p4), .val (.long (own_VAL q0 p1 p2 p3 p4)), .second, .val (.int (own_LEN q0 p1 p2 p3 p4)), .val (.int (own_AT q0 p1 p2 p3 p4)), .unset, .unset, .unset, .unset, .unset] [(.int p4)])) _
    refine X0.ldcInt hx hown (mvT hZ (hw _ (List.mem_of_getElem? (i := 1) rfl))) (g := (mkF m 30 #[.val (.long q0), .second, .val (.int p1), .val (.int p2), .val (.int p3), .val (.int p4), .val (.long (own_VAL q0 p1 p2 p3 p4)), .second, .val (.int (own_LEN q0 p1 p2 p3 p4)), .val (.int (own_AT q0 p1 p2 p3 p4)), .unset, .unset, .unset, .unset, .unset] [(.int p4)])) rfl (hb hby at_30) _ ?_
    show Steps p.tables e below (s₁.setTop (mkF m 32 #[.val (.long q0), .second, .val (.int p1), .val (.int p2), .val (.int p3), .val (.int p4), .val (.long (own_VAL q0 p1 p2 p3 p4)), .second, .val (.int (own_LEN q0 p1 p2 p3 p4)), .val (.int (own_AT q0 p1 p2 p3 p4)), .unset, .unset, .unset, .unset, .unset] [(.int (2147483647 : Int32)), (.int p4)])) _
    refine XS.iand X0.here hx rfl (hb hby at_32) rfl ?_
    show Steps p.tables e below (s₁.setTop (mkF m 33 #[.val (.long q0), .second, .val (.int p1), .val (.int p2), .val (.int p3), .val (.int p4), .val (.long (own_VAL q0 p1 p2 p3 p4)), .second, .val (.int (own_LEN q0 p1 p2 p3 p4)), .val (.int (own_AT q0 p1 p2 p3 p4)), .unset, .unset, .unset, .unset, .unset] [(.int (p4 &&& (2147483647 : Int32)))])) _
    refine XS.bipush X0.here hx rfl (hb hby at_33) ?_
    show Steps p.tables e below (s₁.setTop (mkF m 35 #[.val (.long q0), .second, .val (.int p1), .val (.int p2), .val (.int p3), .val (.int p4), .val (.long (own_VAL q0 p1 p2 p3 p4)), .second, .val (.int (own_LEN q0 p1 p2 p3 p4)), .val (.int (own_AT q0 p1 p2 p3 p4)), .unset, .unset, .unset, .unset, .unset] [(.int (32 : Int32)), (.int (p4 &&& (2147483647 : Int32)))])) _
    refine XS.irem X0.here hx rfl (hb hby at_35) rfl (by decide) ?_
    show Steps p.tables e below (s₁.setTop (mkF m 36 #[.val (.long q0), .second, .val (.int p1), .val (.int p2), .val (.int p3), .val (.int p4), .val (.long (own_VAL q0 p1 p2 p3 p4)), .second, .val (.int (own_LEN q0 p1 p2 p3 p4)), .val (.int (own_AT q0 p1 p2 p3 p4)), .unset, .unset, .unset, .unset, .unset] [(.int ((p4 &&& (2147483647 : Int32)) - ((p4 &&& (2147483647 : Int32)) / (32 : Int32)) * (32 : Int32)))])) _
    exact k
  refine own_go (T' := s₁) (f' := (mkF m 36 #[.val (.long q0), .second, .val (.int p1), .val (.int p2), .val (.int p3), .val (.int p4), .val (.long (own_VAL q0 p1 p2 p3 p4)), .second, .val (.int (own_LEN q0 p1 p2 p3 p4)), .val (.int (own_AT q0 p1 p2 p3 p4)), .unset, .unset, .unset, .unset, .unset] [(.int (own_KK q0 p1 p2 p3 p4))])) (fun t k => k) ?_
  refine own_go (T' := s₁) (f' := (mkF m 40 #[.val (.long q0), .second, .val (.int p1), .val (.int p2), .val (.int p3), .val (.int p4), .val (.long (own_VAL q0 p1 p2 p3 p4)), .second, .val (.int (own_LEN q0 p1 p2 p3 p4)), .val (.int (own_AT q0 p1 p2 p3 p4)), .val (.int (own_KK q0 p1 p2 p3 p4)), .unset, .unset, .unset, .unset] [(.int (32 : Int32))])) (fun t k => ?_) ?_
  · show Steps p.tables e below (s₁.setTop (mkF m 36 #[.val (.long q0), .second, .val (.int p1), .val (.int p2), .val (.int p3), .val (.int p4), .val (.long (own_VAL q0 p1 p2 p3 p4)), .second, .val (.int (own_LEN q0 p1 p2 p3 p4)), .val (.int (own_AT q0 p1 p2 p3 p4)), .unset, .unset, .unset, .unset, .unset] [(.int (own_KK q0 p1 p2 p3 p4))])) _
    refine XS.istore X0.here hx rfl (hb hby at_36) rfl (l' := #[.val (.long q0), .second, .val (.int p1), .val (.int p2), .val (.int p3), .val (.int p4), .val (.long (own_VAL q0 p1 p2 p3 p4)), .second, .val (.int (own_LEN q0 p1 p2 p3 p4)), .val (.int (own_AT q0 p1 p2 p3 p4)), .val (.int (own_KK q0 p1 p2 p3 p4)), .unset, .unset, .unset, .unset]) rfl ?_
    show Steps p.tables e below (s₁.setTop (mkF m 38 #[.val (.long q0), .second, .val (.int p1), .val (.int p2), .val (.int p3), .val (.int p4), .val (.long (own_VAL q0 p1 p2 p3 p4)), .second, .val (.int (own_LEN q0 p1 p2 p3 p4)), .val (.int (own_AT q0 p1 p2 p3 p4)), .val (.int (own_KK q0 p1 p2 p3 p4)), .unset, .unset, .unset, .unset] [])) _
    refine XS.bipush X0.here hx rfl (hb hby at_38) ?_
    show Steps p.tables e below (s₁.setTop (mkF m 40 #[.val (.long q0), .second, .val (.int p1), .val (.int p2), .val (.int p3), .val (.int p4), .val (.long (own_VAL q0 p1 p2 p3 p4)), .second, .val (.int (own_LEN q0 p1 p2 p3 p4)), .val (.int (own_AT q0 p1 p2 p3 p4)), .val (.int (own_KK q0 p1 p2 p3 p4)), .unset, .unset, .unset, .unset] [(.int (32 : Int32))])) _
    exact k
  obtain ⟨T1, h1, k1, X1, e1, E1, A1, st1⟩ := newP X0 hx hZ (hw _ (List.mem_of_getElem? (i := 2) rfl)) e0 (g := (mkF m 40 #[.val (.long q0), .second, .val (.int p1), .val (.int p2), .val (.int p3), .val (.int p4), .val (.long (own_VAL q0 p1 p2 p3 p4)), .second, .val (.int (own_LEN q0 p1 p2 p3 p4)), .val (.int (own_AT q0 p1 p2 p3 p4)), .val (.int (own_KK q0 p1 p2 p3 p4)), .unset, .unset, .unset, .unset] [(.int (32 : Int32))])) rfl (hb hby at_40) rfl (by decide) (cap := 32) (by decide) (by decide) (by decide) (by decide)
  obtain ⟨b1, g1⟩ : ∃ z, z = h0.size := ⟨_, rfl⟩
  rw [← g1] at A1 st1
  have g_b1 : n0 ≤ b1 := Nat.le_trans Z0 (Nat.le_of_eq g1.symm)
  refine own_go (T' := T1) (f' := (mkF m 42 #[.val (.long q0), .second, .val (.int p1), .val (.int p2), .val (.int p3), .val (.int p4), .val (.long (own_VAL q0 p1 p2 p3 p4)), .second, .val (.int (own_LEN q0 p1 p2 p3 p4)), .val (.int (own_AT q0 p1 p2 p3 p4)), .val (.int (own_KK q0 p1 p2 p3 p4)), .unset, .unset, .unset, .unset] [(.ref b1)])) st1 ?_
  have Zs1 : n0 ≤ h1.size := Nat.le_trans Z0 E1.1
  have V1 : own_ArI Z h1 b1 .byte (32 : Int32) (fun _ => 0) := own_ArI.new A1 (by decide) rfl
  refine own_go (T' := T1) (f' := (mkF m 52 #[.val (.long q0), .second, .val (.int p1), .val (.int p2), .val (.int p3), .val (.int p4), .val (.long (own_VAL q0 p1 p2 p3 p4)), .second, .val (.int (own_LEN q0 p1 p2 p3 p4)), .val (.int (own_AT q0 p1 p2 p3 p4)), .val (.int (own_KK q0 p1 p2 p3 p4)), .val (.ref b1), .unset, .unset, .unset] [(.int (own_AT q0 p1 p2 p3 p4)), (.ref b1), (.int (own_LEN q0 p1 p2 p3 p4)), (.long (own_VAL q0 p1 p2 p3 p4))])) (fun t k => ?_) ?_
  · show Steps p.tables e below (T1.setTop (mkF m 42 #[.val (.long q0), .second, .val (.int p1), .val (.int p2), .val (.int p3), .val (.int p4), .val (.long (own_VAL q0 p1 p2 p3 p4)), .second, .val (.int (own_LEN q0 p1 p2 p3 p4)), .val (.int (own_AT q0 p1 p2 p3 p4)), .val (.int (own_KK q0 p1 p2 p3 p4)), .unset, .unset, .unset, .unset] [(.ref b1)])) _
    refine XS.astore X1.here hx rfl (hb hby at_42) rfl rfl (l' := #[.val (.long q0), .second, .val (.int p1), .val (.int p2), .val (.int p3), .val (.int p4), .val (.long (own_VAL q0 p1 p2 p3 p4)), .second, .val (.int (own_LEN q0 p1 p2 p3 p4)), .val (.int (own_AT q0 p1 p2 p3 p4)), .val (.int (own_KK q0 p1 p2 p3 p4)), .val (.ref b1), .unset, .unset, .unset]) rfl ?_
    show Steps p.tables e below (T1.setTop (mkF m 44 #[.val (.long q0), .second, .val (.int p1), .val (.int p2), .val (.int p3), .val (.int p4), .val (.long (own_VAL q0 p1 p2 p3 p4)), .second, .val (.int (own_LEN q0 p1 p2 p3 p4)), .val (.int (own_AT q0 p1 p2 p3 p4)), .val (.int (own_KK q0 p1 p2 p3 p4)), .val (.ref b1), .unset, .unset, .unset] [])) _
    refine XS.lload X1.here hx rfl (hb hby at_44) rfl ?_
    show Steps p.tables e below (T1.setTop (mkF m 46 #[.val (.long q0), .second, .val (.int p1), .val (.int p2), .val (.int p3), .val (.int p4), .val (.long (own_VAL q0 p1 p2 p3 p4)), .second, .val (.int (own_LEN q0 p1 p2 p3 p4)), .val (.int (own_AT q0 p1 p2 p3 p4)), .val (.int (own_KK q0 p1 p2 p3 p4)), .val (.ref b1), .unset, .unset, .unset] [(.long (own_VAL q0 p1 p2 p3 p4))])) _
    refine XS.iload X1.here hx rfl (hb hby at_46) rfl ?_
    show Steps p.tables e below (T1.setTop (mkF m 48 #[.val (.long q0), .second, .val (.int p1), .val (.int p2), .val (.int p3), .val (.int p4), .val (.long (own_VAL q0 p1 p2 p3 p4)), .second, .val (.int (own_LEN q0 p1 p2 p3 p4)), .val (.int (own_AT q0 p1 p2 p3 p4)), .val (.int (own_KK q0 p1 p2 p3 p4)), .val (.ref b1), .unset, .unset, .unset] [(.int (own_LEN q0 p1 p2 p3 p4)), (.long (own_VAL q0 p1 p2 p3 p4))])) _
    refine XS.aload X1.here hx rfl (hb hby at_48) rfl rfl ?_
    show Steps p.tables e below (T1.setTop (mkF m 50 #[.val (.long q0), .second, .val (.int p1), .val (.int p2), .val (.int p3), .val (.int p4), .val (.long (own_VAL q0 p1 p2 p3 p4)), .second, .val (.int (own_LEN q0 p1 p2 p3 p4)), .val (.int (own_AT q0 p1 p2 p3 p4)), .val (.int (own_KK q0 p1 p2 p3 p4)), .val (.ref b1), .unset, .unset, .unset] [(.ref b1), (.int (own_LEN q0 p1 p2 p3 p4)), (.long (own_VAL q0 p1 p2 p3 p4))])) _
    refine XS.iload X1.here hx rfl (hb hby at_50) rfl ?_
    show Steps p.tables e below (T1.setTop (mkF m 52 #[.val (.long q0), .second, .val (.int p1), .val (.int p2), .val (.int p3), .val (.int p4), .val (.long (own_VAL q0 p1 p2 p3 p4)), .second, .val (.int (own_LEN q0 p1 p2 p3 p4)), .val (.int (own_AT q0 p1 p2 p3 p4)), .val (.int (own_KK q0 p1 p2 p3 p4)), .val (.ref b1), .unset, .unset, .unset] [(.int (own_AT q0 p1 p2 p3 p4)), (.ref b1), (.int (own_LEN q0 p1 p2 p3 p4)), (.long (own_VAL q0 p1 p2 p3 p4))])) _
    exact k
  obtain ⟨_, _, ⟨T2, Lq2, kq2, nq2⟩, -, X2, ⟨Lc2, hQ2, lq2, yq2, zq2⟩, st2⟩ := Jvm.LawKit.callS X1 hx (y := (⟨"com/example/rowcast/rowcast/number/IntText", "writeDigits", "(JI[BI)I"⟩ : MethodName)) hown (mvT hZ (hw _ (List.mem_of_getElem? (i := 3) rfl))) (mvT hZ (hw _ (List.mem_of_getElem? (i := 4) rfl))) (mvT hZ (hw _ (List.mem_of_getElem? (i := 5) rfl))) (mvT hZ (hw _ (List.mem_of_getElem? (i := 6) rfl))) (by decide) (backOf (W := 0) (own_rm1 l Z a0 hw [] ((own_VAL q0 p1 p2 p3 p4)) ((own_LEN q0 p1 p2 p3 p4)) b1 ((own_AT q0 p1 p2 p3 p4)) ((32 : Int32)) ((fun _ => 0)) h1 n0 Zs1 V1 g_b1 (own_VAL_rng q0 p1 p2 p3 p4) (own_LEN_rng q0 p1 p2 p3 p4).1 (own_AT_rng q0 p1 p2 p3 p4).1 (by have a := (own_AT_rng q0 p1 p2 p3 p4).2; have b := (own_LEN_rng q0 p1 p2 p3 p4).2; have e : (32 : Int32).toInt = 32 := rfl; omega)) hZ (hw _ (List.mem_of_getElem? (i := 6) rfl)) (hw _ (List.mem_of_getElem? (i := 5) rfl)) (by decide) (by decide)) (g := (mkF m 52 #[.val (.long q0), .second, .val (.int p1), .val (.int p2), .val (.int p3), .val (.int p4), .val (.long (own_VAL q0 p1 p2 p3 p4)), .second, .val (.int (own_LEN q0 p1 p2 p3 p4)), .val (.int (own_AT q0 p1 p2 p3 p4)), .val (.int (own_KK q0 p1 p2 p3 p4)), .val (.ref b1), .unset, .unset, .unset] [(.int (own_AT q0 p1 p2 p3 p4)), (.ref b1), (.int (own_LEN q0 p1 p2 p3 p4)), (.long (own_VAL q0 p1 p2 p3 p4))])) rfl (by rw [hml]; rfl) (argsL := [(.long (own_VAL q0 p1 p2 p3 p4)), (.int (own_LEN q0 p1 p2 p3 p4)), (.ref b1), (.int (own_AT q0 p1 p2 p3 p4))]) (rest := []) (lenOf own_pd0 rfl) rfl (by show 2 * 0 + _ ≤ _; exact Nat.le_of_eq rfl) (hb hby at_52) (fun _ _ => ⟨rfl, e1, (by decide : 1 + 0 ≤ _), (by decide : 32 + 0 ≤ _)⟩)
  dsimp only [Pt.U, Pt.locs, Pt.cells, Pt.slots] at X2 lq2 yq2 zq2 st2 hQ2
  subst lq2 yq2 zq2
  obtain ⟨f'_2, rfl, N2q, h2q, p2_0, r2_wd⟩ := hQ2
  have N2 := Fr.app N0 N2q
  have Zs2 : n0 ≤ T2.heap.size := Nat.le_trans Zs1 h2q.1
  refine own_go (T' := T2) (f' := (mkF m 55 #[.val (.long q0), .second, .val (.int p1), .val (.int p2), .val (.int p3), .val (.int p4), .val (.long (own_VAL q0 p1 p2 p3 p4)), .second, .val (.int (own_LEN q0 p1 p2 p3 p4)), .val (.int (own_AT q0 p1 p2 p3 p4)), .val (.int (own_KK q0 p1 p2 p3 p4)), .val (.ref b1), .unset, .unset, .unset] [(.int ((own_AT q0 p1 p2 p3 p4) + (own_LEN q0 p1 p2 p3 p4)))])) (fun t k => st2 _ k) ?_
  refine own_go (T' := T2) (f' := (mkF m 73 #[.val (.long q0), .second, .val (.int p1), .val (.int p2), .val (.int p3), .val (.int p4), .val (.long (own_VAL q0 p1 p2 p3 p4)), .second, .val (.int (own_LEN q0 p1 p2 p3 p4)), .val (.int (own_AT q0 p1 p2 p3 p4)), .val (.int (own_KK q0 p1 p2 p3 p4)), .val (.ref b1), .val (.int ((own_AT q0 p1 p2 p3 p4) + (own_LEN q0 p1 p2 p3 p4))), .unset, .unset] [(.int (own_AT q0 p1 p2 p3 p4)), (.int (own_KK q0 p1 p2 p3 p4))])) (fun t k => ?_) ?_
  · show Steps p.tables e below (T2.setTop (mkF m 55 #[.val (.long q0), .second, .val (.int p1), .val (.int p2), .val (.int p3), .val (.int p4), .val (.long (own_VAL q0 p1 p2 p3 p4)), .second, .val (.int (own_LEN q0 p1 p2 p3 p4)), .val (.int (own_AT q0 p1 p2 p3 p4)), .val (.int (own_KK q0 p1 p2 p3 p4)), .val (.ref b1), .unset, .unset, .unset] [(.int ((own_AT q0 p1 p2 p3 p4) + (own_LEN q0 p1 p2 p3 p4)))])) _
    refine XS.istore X2.here hx rfl (hb hby at_55) rfl (l' := #[.val (.long q0), .second, .val (.int p1), .val (.int p2), .val (.int p3), .val (.int p4), .val (.long (own_VAL q0 p1 p2 p3 p4)), .second, .val (.int (own_LEN q0 p1 p2 p3 p4)), .val (.int (own_AT q0 p1 p2 p3 p4)), .val (.int (own_KK q0 p1 p2 p3 p4)), .val (.ref b1), .val (.int ((own_AT q0 p1 p2 p3 p4) + (own_LEN q0 p1 p2 p3 p4))), .unset, .unset]) rfl ?_
    show Steps p.tables e below (T2.setTop (mkF m 57 #[.val (.long q0), .second, .val (.int p1), .val (.int p2), .val (.int p3), .val (.int p4), .val (.long (own_VAL q0 p1 p2 p3 p4)), .second, .val (.int (own_LEN q0 p1 p2 p3 p4)), .val (.int (own_AT q0 p1 p2 p3 p4)), .val (.int (own_KK q0 p1 p2 p3 p4)), .val (.ref b1), .val (.int ((own_AT q0 p1 p2 p3 p4) + (own_LEN q0 p1 p2 p3 p4))), .unset, .unset] [])) _
    refine XS.iload X2.here hx rfl (hb hby at_57) rfl ?_
    show Steps p.tables e below (T2.setTop (mkF m 59 #[.val (.long q0), .second, .val (.int p1), .val (.int p2), .val (.int p3), .val (.int p4), .val (.long (own_VAL q0 p1 p2 p3 p4)), .second, .val (.int (own_LEN q0 p1 p2 p3 p4)), .val (.int (own_AT q0 p1 p2 p3 p4)), .val (.int (own_KK q0 p1 p2 p3 p4)), .val (.ref b1), .val (.int ((own_AT q0 p1 p2 p3 p4) + (own_LEN q0 p1 p2 p3 p4))), .unset, .unset] [(.int ((own_AT q0 p1 p2 p3 p4) + (own_LEN q0 p1 p2 p3 p4)))])) _
    refine XS.iload X2.here hx rfl (hb hby at_59) rfl ?_
    show Steps p.tables e below (T2.setTop (mkF m 61 #[.val (.long q0), .second, .val (.int p1), .val (.int p2), .val (.int p3), .val (.int p4), .val (.long (own_VAL q0 p1 p2 p3 p4)), .second, .val (.int (own_LEN q0 p1 p2 p3 p4)), .val (.int (own_AT q0 p1 p2 p3 p4)), .val (.int (own_KK q0 p1 p2 p3 p4)), .val (.ref b1), .val (.int ((own_AT q0 p1 p2 p3 p4) + (own_LEN q0 p1 p2 p3 p4))), .unset, .unset] [(.int (own_AT q0 p1 p2 p3 p4)), (.int ((own_AT q0 p1 p2 p3 p4) + (own_LEN q0 p1 p2 p3 p4)))])) _
    refine XS.iload X2.here hx rfl (hb hby at_61) rfl ?_
    show Steps p.tables e below (T2.setTop (mkF m 63 #[.val (.long q0), .second, .val (.int p1), .val (.int p2), .val (.int p3), .val (.int p4), .val (.long (own_VAL q0 p1 p2 p3 p4)), .second, .val (.int (own_LEN q0 p1 p2 p3 p4)), .val (.int (own_AT q0 p1 p2 p3 p4)), .val (.int (own_KK q0 p1 p2 p3 p4)), .val (.ref b1), .val (.int ((own_AT q0 p1 p2 p3 p4) + (own_LEN q0 p1 p2 p3 p4))), .unset, .unset] [(.int (own_LEN q0 p1 p2 p3 p4)), (.int (own_AT q0 p1 p2 p3 p4)), (.int ((own_AT q0 p1 p2 p3 p4) + (own_LEN q0 p1 p2 p3 p4)))])) _
    refine XS.iadd X2.here hx rfl (hb hby at_63) rfl ?_
    show Steps p.tables e below (T2.setTop (mkF m 64 #[.val (.long q0), .second, .val (.int p1), .val (.int p2), .val (.int p3), .val (.int p4), .val (.long (own_VAL q0 p1 p2 p3 p4)), .second, .val (.int (own_LEN q0 p1 p2 p3 p4)), .val (.int (own_AT q0 p1 p2 p3 p4)), .val (.int (own_KK q0 p1 p2 p3 p4)), .val (.ref b1), .val (.int ((own_AT q0 p1 p2 p3 p4) + (own_LEN q0 p1 p2 p3 p4))), .unset, .unset] [(.int ((own_AT q0 p1 p2 p3 p4) + (own_LEN q0 p1 p2 p3 p4))), (.int ((own_AT q0 p1 p2 p3 p4) + (own_LEN q0 p1 p2 p3 p4)))])) _
    refine XS.icmpYes X2.here hx rfl (pc0 := 64) (pc' := 69) rfl (hb hby at_64) rfl (teq (rfl : ((own_AT q0 p1 p2 p3 p4) + (own_LEN q0 p1 p2 p3 p4)) = ((own_AT q0 p1 p2 p3 p4) + (own_LEN q0 p1 p2 p3 p4)))).1 (by decide) (by decide) ?_
    show Steps p.tables e below (T2.setTop (mkF m 69 #[.val (.long q0), .second, .val (.int p1), .val (.int p2), .val (.int p3), .val (.int p4), .val (.long (own_VAL q0 p1 p2 p3 p4)), .second, .val (.int (own_LEN q0 p1 p2 p3 p4)), .val (.int (own_AT q0 p1 p2 p3 p4)), .val (.int (own_KK q0 p1 p2 p3 p4)), .val (.ref b1), .val (.int ((own_AT q0 p1 p2 p3 p4) + (own_LEN q0 p1 p2 p3 p4))), .unset, .unset] [])) _
    refine XS.iload X2.here hx rfl (hb hby at_69) rfl ?_
    show Steps p.tables e below (T2.setTop (mkF m 71 #[.val (.long q0), .second, .val (.int p1), .val (.int p2), .val (.int p3), .val (.int p4), .val (.long (own_VAL q0 p1 p2 p3 p4)), .second, .val (.int (own_LEN q0 p1 p2 p3 p4)), .val (.int (own_AT q0 p1 p2 p3 p4)), .val (.int (own_KK q0 p1 p2 p3 p4)), .val (.ref b1), .val (.int ((own_AT q0 p1 p2 p3 p4) + (own_LEN q0 p1 p2 p3 p4))), .unset, .unset] [(.int (own_KK q0 p1 p2 p3 p4))])) _
    refine XS.iload X2.here hx rfl (hb hby at_71) rfl ?_
    show Steps p.tables e below (T2.setTop (mkF m 73 #[.val (.long q0), .second, .val (.int p1), .val (.int p2), .val (.int p3), .val (.int p4), .val (.long (own_VAL q0 p1 p2 p3 p4)), .second, .val (.int (own_LEN q0 p1 p2 p3 p4)), .val (.int (own_AT q0 p1 p2 p3 p4)), .val (.int (own_KK q0 p1 p2 p3 p4)), .val (.ref b1), .val (.int ((own_AT q0 p1 p2 p3 p4) + (own_LEN q0 p1 p2 p3 p4))), .unset, .unset] [(.int (own_AT q0 p1 p2 p3 p4)), (.int (own_KK q0 p1 p2 p3 p4))])) _
    exact k
  by_cases hc73_3 : (own_KK q0 p1 p2 p3 p4) < (own_AT q0 p1 p2 p3 p4)
  · skip
    refine own_go (T' := T2) (f' := (mkF m 99 #[.val (.long q0), .second, .val (.int p1), .val (.int p2), .val (.int p3), .val (.int p4), .val (.long (own_VAL q0 p1 p2 p3 p4)), .second, .val (.int (own_LEN q0 p1 p2 p3 p4)), .val (.int (own_AT q0 p1 p2 p3 p4)), .val (.int (own_KK q0 p1 p2 p3 p4)), .val (.ref b1), .val (.int ((own_AT q0 p1 p2 p3 p4) + (own_LEN q0 p1 p2 p3 p4))), .unset, .unset] [(.int (1 : Int32))])) (fun t k => ?_) ?_
    · show Steps p.tables e below (T2.setTop (mkF m 73 #[.val (.long q0), .second, .val (.int p1), .val (.int p2), .val (.int p3), .val (.int p4), .val (.long (own_VAL q0 p1 p2 p3 p4)), .second, .val (.int (own_LEN q0 p1 p2 p3 p4)), .val (.int (own_AT q0 p1 p2 p3 p4)), .val (.int (own_KK q0 p1 p2 p3 p4)), .val (.ref b1), .val (.int ((own_AT q0 p1 p2 p3 p4) + (own_LEN q0 p1 p2 p3 p4))), .unset, .unset] [(.int (own_AT q0 p1 p2 p3 p4)), (.int (own_KK q0 p1 p2 p3 p4))])) _
      refine XS.icmpYes X2.here hx rfl (pc0 := 73) (pc' := 86) rfl (hb hby at_73) rfl (tlt hc73_3).1 (by decide) (by decide) ?_
      show Steps p.tables e below (T2.setTop (mkF m 86 #[.val (.long q0), .second, .val (.int p1), .val (.int p2), .val (.int p3), .val (.int p4), .val (.long (own_VAL q0 p1 p2 p3 p4)), .second, .val (.int (own_LEN q0 p1 p2 p3 p4)), .val (.int (own_AT q0 p1 p2 p3 p4)), .val (.int (own_KK q0 p1 p2 p3 p4)), .val (.ref b1), .val (.int ((own_AT q0 p1 p2 p3 p4) + (own_LEN q0 p1 p2 p3 p4))), .unset, .unset] [])) _
      refine XS.aload X2.here hx rfl (hb hby at_86) rfl rfl ?_
      show Steps p.tables e below (T2.setTop (mkF m 88 #[.val (.long q0), .second, .val (.int p1), .val (.int p2), .val (.int p3), .val (.int p4), .val (.long (own_VAL q0 p1 p2 p3 p4)), .second, .val (.int (own_LEN q0 p1 p2 p3 p4)), .val (.int (own_AT q0 p1 p2 p3 p4)), .val (.int (own_KK q0 p1 p2 p3 p4)), .val (.ref b1), .val (.int ((own_AT q0 p1 p2 p3 p4) + (own_LEN q0 p1 p2 p3 p4))), .unset, .unset] [(.ref b1)])) _
      refine XS.iload X2.here hx rfl (hb hby at_88) rfl ?_
      show Steps p.tables e below (T2.setTop (mkF m 90 #[.val (.long q0), .second, .val (.int p1), .val (.int p2), .val (.int p3), .val (.int p4), .val (.long (own_VAL q0 p1 p2 p3 p4)), .second, .val (.int (own_LEN q0 p1 p2 p3 p4)), .val (.int (own_AT q0 p1 p2 p3 p4)), .val (.int (own_KK q0 p1 p2 p3 p4)), .val (.ref b1), .val (.int ((own_AT q0 p1 p2 p3 p4) + (own_LEN q0 p1 p2 p3 p4))), .unset, .unset] [(.int (own_KK q0 p1 p2 p3 p4)), (.ref b1)])) _
      refine own_ldB X2 hx hZ rfl p2_0 (j := (own_KK q0 p1 p2 p3 p4)) (own_KK_rng q0 p1 p2 p3 p4).1 (own_KK_rng q0 p1 p2 p3 p4).2 (g := (mkF m 90 #[.val (.long q0), .second, .val (.int p1), .val (.int p2), .val (.int p3), .val (.int p4), .val (.long (own_VAL q0 p1 p2 p3 p4)), .second, .val (.int (own_LEN q0 p1 p2 p3 p4)), .val (.int (own_AT q0 p1 p2 p3 p4)), .val (.int (own_KK q0 p1 p2 p3 p4)), .val (.ref b1), .val (.int ((own_AT q0 p1 p2 p3 p4) + (own_LEN q0 p1 p2 p3 p4))), .unset, .unset] [(.int (own_KK q0 p1 p2 p3 p4)), (.ref b1)])) rfl rfl (hb hby at_90) _ ?_
      show Steps p.tables e below (T2.setTop (mkF m 91 #[.val (.long q0), .second, .val (.int p1), .val (.int p2), .val (.int p3), .val (.int p4), .val (.long (own_VAL q0 p1 p2 p3 p4)), .second, .val (.int (own_LEN q0 p1 p2 p3 p4)), .val (.int (own_AT q0 p1 p2 p3 p4)), .val (.int (own_KK q0 p1 p2 p3 p4)), .val (.ref b1), .val (.int ((own_AT q0 p1 p2 p3 p4) + (own_LEN q0 p1 p2 p3 p4))), .unset, .unset] [(.int (f'_2 (own_KK q0 p1 p2 p3 p4).toInt.toNat))])) _
      refine XS.ifNo X2.here hx rfl (hb hby at_91) rfl ((if0 _ _).trans (teq (own_out q0 p1 p2 p3 p4 r2_wd (Or.inl hc73_3))).2) ?_
      show Steps p.tables e below (T2.setTop (mkF m 94 #[.val (.long q0), .second, .val (.int p1), .val (.int p2), .val (.int p3), .val (.int p4), .val (.long (own_VAL q0 p1 p2 p3 p4)), .second, .val (.int (own_LEN q0 p1 p2 p3 p4)), .val (.int (own_AT q0 p1 p2 p3 p4)), .val (.int (own_KK q0 p1 p2 p3 p4)), .val (.ref b1), .val (.int ((own_AT q0 p1 p2 p3 p4) + (own_LEN q0 p1 p2 p3 p4))), .unset, .unset] [])) _
      refine XS.iconst X2.here hx rfl (hb hby at_94) ?_
      show Steps p.tables e below (T2.setTop (mkF m 95 #[.val (.long q0), .second, .val (.int p1), .val (.int p2), .val (.int p3), .val (.int p4), .val (.long (own_VAL q0 p1 p2 p3 p4)), .second, .val (.int (own_LEN q0 p1 p2 p3 p4)), .val (.int (own_AT q0 p1 p2 p3 p4)), .val (.int (own_KK q0 p1 p2 p3 p4)), .val (.ref b1), .val (.int ((own_AT q0 p1 p2 p3 p4) + (own_LEN q0 p1 p2 p3 p4))), .unset, .unset] [(.int (1 : Int32))])) _
      refine XS.goto X2.here hx rfl (pc0 := 95) (pc' := 99) rfl (hb hby at_95) (by decide) (by decide) ?_
      show Steps p.tables e below (T2.setTop (mkF m 99 #[.val (.long q0), .second, .val (.int p1), .val (.int p2), .val (.int p3), .val (.int p4), .val (.long (own_VAL q0 p1 p2 p3 p4)), .second, .val (.int (own_LEN q0 p1 p2 p3 p4)), .val (.int (own_AT q0 p1 p2 p3 p4)), .val (.int (own_KK q0 p1 p2 p3 p4)), .val (.ref b1), .val (.int ((own_AT q0 p1 p2 p3 p4) + (own_LEN q0 p1 p2 p3 p4))), .unset, .unset] [(.int (1 : Int32))])) _
      exact k
    obtain ⟨fs, hr, hrun, hended, hW, hsame⟩ := X2.leave (v := some (.int (1 : Int32))) (fun h => by rw [Bd.returns] at h; cases h)
    refine ⟨_, _, ?_, hrun, hended, _, _, rfl, ?_, ⟨_, rfl⟩, hW, hsame.mono (by decide) (by decide)⟩
    · exact retN X2 hx (t := .boolean) Bd.returns (by simp) (hb hby at_99) hr
    · show own_Q0 Z q0 p1 p2 p3 p4 h0 n0 _ T2.heap _
      exact ⟨rfl, N2⟩
  · skip
    refine own_go (T' := T2) (f' := (mkF m 83 #[.val (.long q0), .second, .val (.int p1), .val (.int p2), .val (.int p3), .val (.int p4), .val (.long (own_VAL q0 p1 p2 p3 p4)), .second, .val (.int (own_LEN q0 p1 p2 p3 p4)), .val (.int (own_AT q0 p1 p2 p3 p4)), .val (.int (own_KK q0 p1 p2 p3 p4)), .val (.ref b1), .val (.int ((own_AT q0 p1 p2 p3 p4) + (own_LEN q0 p1 p2 p3 p4))), .unset, .unset] [(.int ((own_AT q0 p1 p2 p3 p4) + (own_LEN q0 p1 p2 p3 p4))), (.int (own_KK q0 p1 p2 p3 p4))])) (fun t k => ?_) ?_
    · show Steps p.tables e below (T2.setTop (mkF m 73 #[.val (.long q0), .second, .val (.int p1), .val (.int p2), .val (.int p3), .val (.int p4), .val (.long (own_VAL q0 p1 p2 p3 p4)), .second, .val (.int (own_LEN q0 p1 p2 p3 p4)), .val (.int (own_AT q0 p1 p2 p3 p4)), .val (.int (own_KK q0 p1 p2 p3 p4)), .val (.ref b1), .val (.int ((own_AT q0 p1 p2 p3 p4) + (own_LEN q0 p1 p2 p3 p4))), .unset, .unset] [(.int (own_AT q0 p1 p2 p3 p4)), (.int (own_KK q0 p1 p2 p3 p4))])) _
      refine XS.icmpNo X2.here hx rfl (hb hby at_73) rfl (flt hc73_3).1 ?_
      show Steps p.tables e below (T2.setTop (mkF m 76 #[.val (.long q0), .second, .val (.int p1), .val (.int p2), .val (.int p3), .val (.int p4), .val (.long (own_VAL q0 p1 p2 p3 p4)), .second, .val (.int (own_LEN q0 p1 p2 p3 p4)), .val (.int (own_AT q0 p1 p2 p3 p4)), .val (.int (own_KK q0 p1 p2 p3 p4)), .val (.ref b1), .val (.int ((own_AT q0 p1 p2 p3 p4) + (own_LEN q0 p1 p2 p3 p4))), .unset, .unset] [])) _
      refine XS.iload X2.here hx rfl (hb hby at_76) rfl ?_
      show Steps p.tables e below (T2.setTop (mkF m 78 #[.val (.long q0), .second, .val (.int p1), .val (.int p2), .val (.int p3), .val (.int p4), .val (.long (own_VAL q0 p1 p2 p3 p4)), .second, .val (.int (own_LEN q0 p1 p2 p3 p4)), .val (.int (own_AT q0 p1 p2 p3 p4)), .val (.int (own_KK q0 p1 p2 p3 p4)), .val (.ref b1), .val (.int ((own_AT q0 p1 p2 p3 p4) + (own_LEN q0 p1 p2 p3 p4))), .unset, .unset] [(.int (own_KK q0 p1 p2 p3 p4))])) _
      refine XS.iload X2.here hx rfl (hb hby at_78) rfl ?_
      show Steps p.tables e below (T2.setTop (mkF m 80 #[.val (.long q0), .second, .val (.int p1), .val (.int p2), .val (.int p3), .val (.int p4), .val (.long (own_VAL q0 p1 p2 p3 p4)), .second, .val (.int (own_LEN q0 p1 p2 p3 p4)), .val (.int (own_AT q0 p1 p2 p3 p4)), .val (.int (own_KK q0 p1 p2 p3 p4)), .val (.ref b1), .val (.int ((own_AT q0 p1 p2 p3 p4) + (own_LEN q0 p1 p2 p3 p4))), .unset, .unset] [(.int (own_AT q0 p1 p2 p3 p4)), (.int (own_KK q0 p1 p2 p3 p4))])) _
      refine XS.iload X2.here hx rfl (hb hby at_80) rfl ?_
      show Steps p.tables e below (T2.setTop (mkF m 82 #[.val (.long q0), .second, .val (.int p1), .val (.int p2), .val (.int p3), .val (.int p4), .val (.long (own_VAL q0 p1 p2 p3 p4)), .second, .val (.int (own_LEN q0 p1 p2 p3 p4)), .val (.int (own_AT q0 p1 p2 p3 p4)), .val (.int (own_KK q0 p1 p2 p3 p4)), .val (.ref b1), .val (.int ((own_AT q0 p1 p2 p3 p4) + (own_LEN q0 p1 p2 p3 p4))), .unset, .unset] [(.int (own_LEN q0 p1 p2 p3 p4)), (.int (own_AT q0 p1 p2 p3 p4)), (.int (own_KK q0 p1 p2 p3 p4))])) _
      refine XS.iadd X2.here hx rfl (hb hby at_82) rfl ?_
      show Steps p.tables e below (T2.setTop (mkF m 83 #[.val (.long q0), .second, .val (.int p1), .val (.int p2), .val (.int p3), .val (.int p4), .val (.long (own_VAL q0 p1 p2 p3 p4)), .second, .val (.int (own_LEN q0 p1 p2 p3 p4)), .val (.int (own_AT q0 p1 p2 p3 p4)), .val (.int (own_KK q0 p1 p2 p3 p4)), .val (.ref b1), .val (.int ((own_AT q0 p1 p2 p3 p4) + (own_LEN q0 p1 p2 p3 p4))), .unset, .unset] [(.int ((own_AT q0 p1 p2 p3 p4) + (own_LEN q0 p1 p2 p3 p4))), (.int (own_KK q0 p1 p2 p3 p4))])) _
      exact k
    by_cases hc83_4 : (own_KK q0 p1 p2 p3 p4) < ((own_AT q0 p1 p2 p3 p4) + (own_LEN q0 p1 p2 p3 p4))
    · skip
      refine own_go (T' := T2) (f' := (mkF m 112 #[.val (.long q0), .second, .val (.int p1), .val (.int p2), .val (.int p3), .val (.int p4), .val (.long (own_VAL q0 p1 p2 p3 p4)), .second, .val (.int (own_LEN q0 p1 p2 p3 p4)), .val (.int (own_AT q0 p1 p2 p3 p4)), .val (.int (own_KK q0 p1 p2 p3 p4)), .val (.ref b1), .val (.int ((own_AT q0 p1 p2 p3 p4) + (own_LEN q0 p1 p2 p3 p4))), .val (.int ((((own_AT q0 p1 p2 p3 p4) + (own_LEN q0 p1 p2 p3 p4)) - (1 : Int32)) - (own_KK q0 p1 p2 p3 p4))), .unset] [])) (fun t k => ?_) ?_
      · show Steps p.tables e below (T2.setTop (mkF m 83 #[.val (.long q0), .second, .val (.int p1), .val (.int p2), .val (.int p3), .val (.int p4), .val (.long (own_VAL q0 p1 p2 p3 p4)), .second, .val (.int (own_LEN q0 p1 p2 p3 p4)), .val (.int (own_AT q0 p1 p2 p3 p4)), .val (.int (own_KK q0 p1 p2 p3 p4)), .val (.ref b1), .val (.int ((own_AT q0 p1 p2 p3 p4) + (own_LEN q0 p1 p2 p3 p4))), .unset, .unset] [(.int ((own_AT q0 p1 p2 p3 p4) + (own_LEN q0 p1 p2 p3 p4))), (.int (own_KK q0 p1 p2 p3 p4))])) _
        refine XS.icmpYes X2.here hx rfl (pc0 := 83) (pc' := 100) rfl (hb hby at_83) rfl (tlt hc83_4).1 (by decide) (by decide) ?_
        show Steps p.tables e below (T2.setTop (mkF m 100 #[.val (.long q0), .second, .val (.int p1), .val (.int p2), .val (.int p3), .val (.int p4), .val (.long (own_VAL q0 p1 p2 p3 p4)), .second, .val (.int (own_LEN q0 p1 p2 p3 p4)), .val (.int (own_AT q0 p1 p2 p3 p4)), .val (.int (own_KK q0 p1 p2 p3 p4)), .val (.ref b1), .val (.int ((own_AT q0 p1 p2 p3 p4) + (own_LEN q0 p1 p2 p3 p4))), .unset, .unset] [])) _
        refine XS.iload X2.here hx rfl (hb hby at_100) rfl ?_
        show Steps p.tables e below (T2.setTop (mkF m 102 #[.val (.long q0), .second, .val (.int p1), .val (.int p2), .val (.int p3), .val (.int p4), .val (.long (own_VAL q0 p1 p2 p3 p4)), .second, .val (.int (own_LEN q0 p1 p2 p3 p4)), .val (.int (own_AT q0 p1 p2 p3 p4)), .val (.int (own_KK q0 p1 p2 p3 p4)), .val (.ref b1), .val (.int ((own_AT q0 p1 p2 p3 p4) + (own_LEN q0 p1 p2 p3 p4))), .unset, .unset] [(.int (own_AT q0 p1 p2 p3 p4))])) _
        refine XS.iload X2.here hx rfl (hb hby at_102) rfl ?_
        show Steps p.tables e below (T2.setTop (mkF m 104 #[.val (.long q0), .second, .val (.int p1), .val (.int p2), .val (.int p3), .val (.int p4), .val (.long (own_VAL q0 p1 p2 p3 p4)), .second, .val (.int (own_LEN q0 p1 p2 p3 p4)), .val (.int (own_AT q0 p1 p2 p3 p4)), .val (.int (own_KK q0 p1 p2 p3 p4)), .val (.ref b1), .val (.int ((own_AT q0 p1 p2 p3 p4) + (own_LEN q0 p1 p2 p3 p4))), .unset, .unset] [(.int (own_LEN q0 p1 p2 p3 p4)), (.int (own_AT q0 p1 p2 p3 p4))])) _
        refine XS.iadd X2.here hx rfl (hb hby at_104) rfl ?_
        show Steps p.tables e below (T2.setTop (mkF m 105 #[.val (.long q0), .second, .val (.int p1), .val (.int p2), .val (.int p3), .val (.int p4), .val (.long (own_VAL q0 p1 p2 p3 p4)), .second, .val (.int (own_LEN q0 p1 p2 p3 p4)), .val (.int (own_AT q0 p1 p2 p3 p4)), .val (.int (own_KK q0 p1 p2 p3 p4)), .val (.ref b1), .val (.int ((own_AT q0 p1 p2 p3 p4) + (own_LEN q0 p1 p2 p3 p4))), .unset, .unset] [(.int ((own_AT q0 p1 p2 p3 p4) + (own_LEN q0 p1 p2 p3 p4)))])) _
        refine XS.iconst X2.here hx rfl (hb hby at_105) ?_
        show Steps p.tables e below (T2.setTop (mkF m 106 #[.val (.long q0), .second, .val (.int p1), .val (.int p2), .val (.int p3), .val (.int p4), .val (.long (own_VAL q0 p1 p2 p3 p4)), .second, .val (.int (own_LEN q0 p1 p2 p3 p4)), .val (.int (own_AT q0 p1 p2 p3 p4)), .val (.int (own_KK q0 p1 p2 p3 p4)), .val (.ref b1), .val (.int ((own_AT q0 p1 p2 p3 p4) + (own_LEN q0 p1 p2 p3 p4))), .unset, .unset] [(.int (1 : Int32)), (.int ((own_AT q0 p1 p2 p3 p4) + (own_LEN q0 p1 p2 p3 p4)))])) _
        refine XS.isub X2.here hx rfl (hb hby at_106) rfl ?_
        show Steps p.tables e below (T2.setTop (mkF m 107 #[.val (.long q0), .second, .val (.int p1), .val (.int p2), .val (.int p3), .val (.int p4), .val (.long (own_VAL q0 p1 p2 p3 p4)), .second, .val (.int (own_LEN q0 p1 p2 p3 p4)), .val (.int (own_AT q0 p1 p2 p3 p4)), .val (.int (own_KK q0 p1 p2 p3 p4)), .val (.ref b1), .val (.int ((own_AT q0 p1 p2 p3 p4) + (own_LEN q0 p1 p2 p3 p4))), .unset, .unset] [(.int (((own_AT q0 p1 p2 p3 p4) + (own_LEN q0 p1 p2 p3 p4)) - (1 : Int32)))])) _
        refine XS.iload X2.here hx rfl (hb hby at_107) rfl ?_
        show Steps p.tables e below (T2.setTop (mkF m 109 #[.val (.long q0), .second, .val (.int p1), .val (.int p2), .val (.int p3), .val (.int p4), .val (.long (own_VAL q0 p1 p2 p3 p4)), .second, .val (.int (own_LEN q0 p1 p2 p3 p4)), .val (.int (own_AT q0 p1 p2 p3 p4)), .val (.int (own_KK q0 p1 p2 p3 p4)), .val (.ref b1), .val (.int ((own_AT q0 p1 p2 p3 p4) + (own_LEN q0 p1 p2 p3 p4))), .unset, .unset] [(.int (own_KK q0 p1 p2 p3 p4)), (.int (((own_AT q0 p1 p2 p3 p4) + (own_LEN q0 p1 p2 p3 p4)) - (1 : Int32)))])) _
        refine XS.isub X2.here hx rfl (hb hby at_109) rfl ?_
        show Steps p.tables e below (T2.setTop (mkF m 110 #[.val (.long q0), .second, .val (.int p1), .val (.int p2), .val (.int p3), .val (.int p4), .val (.long (own_VAL q0 p1 p2 p3 p4)), .second, .val (.int (own_LEN q0 p1 p2 p3 p4)), .val (.int (own_AT q0 p1 p2 p3 p4)), .val (.int (own_KK q0 p1 p2 p3 p4)), .val (.ref b1), .val (.int ((own_AT q0 p1 p2 p3 p4) + (own_LEN q0 p1 p2 p3 p4))), .unset, .unset] [(.int ((((own_AT q0 p1 p2 p3 p4) + (own_LEN q0 p1 p2 p3 p4)) - (1 : Int32)) - (own_KK q0 p1 p2 p3 p4)))])) _
        refine XS.istore X2.here hx rfl (hb hby at_110) rfl (l' := #[.val (.long q0), .second, .val (.int p1), .val (.int p2), .val (.int p3), .val (.int p4), .val (.long (own_VAL q0 p1 p2 p3 p4)), .second, .val (.int (own_LEN q0 p1 p2 p3 p4)), .val (.int (own_AT q0 p1 p2 p3 p4)), .val (.int (own_KK q0 p1 p2 p3 p4)), .val (.ref b1), .val (.int ((own_AT q0 p1 p2 p3 p4) + (own_LEN q0 p1 p2 p3 p4))), .val (.int ((((own_AT q0 p1 p2 p3 p4) + (own_LEN q0 p1 p2 p3 p4)) - (1 : Int32)) - (own_KK q0 p1 p2 p3 p4))), .unset]) rfl ?_
        show Steps p.tables e below (T2.setTop (mkF m 112 #[.val (.long q0), .second, .val (.int p1), .val (.int p2), .val (.int p3), .val (.int p4), .val (.long (own_VAL q0 p1 p2 p3 p4)), .second, .val (.int (own_LEN q0 p1 p2 p3 p4)), .val (.int (own_AT q0 p1 p2 p3 p4)), .val (.int (own_KK q0 p1 p2 p3 p4)), .val (.ref b1), .val (.int ((own_AT q0 p1 p2 p3 p4) + (own_LEN q0 p1 p2 p3 p4))), .val (.int ((((own_AT q0 p1 p2 p3 p4) + (own_LEN q0 p1 p2 p3 p4)) - (1 : Int32)) - (own_KK q0 p1 p2 p3 p4))), .unset] [])) _
        exact k
      have hE := own_E q0 p1 p2 p3 p4 hc73_3 hc83_4
      refine own_go (T' := T2) (f' := (mkF m 116 #[.val (.long q0), .second, .val (.int p1), .val (.int p2), .val (.int p3), .val (.int p4), .val (.long (own_VAL q0 p1 p2 p3 p4)), .second, .val (.int (own_LEN q0 p1 p2 p3 p4)), .val (.int (own_AT q0 p1 p2 p3 p4)), .val (.int (own_KK q0 p1 p2 p3 p4)), .val (.ref b1), .val (.int ((own_AT q0 p1 p2 p3 p4) + (own_LEN q0 p1 p2 p3 p4))), .val (.int ((((own_AT q0 p1 p2 p3 p4) + (own_LEN q0 p1 p2 p3 p4)) - (1 : Int32)) - (own_KK q0 p1 p2 p3 p4))), .unset] [(.int (19 : Int32)), (.int ((((own_AT q0 p1 p2 p3 p4) + (own_LEN q0 p1 p2 p3 p4)) - (1 : Int32)) - (own_KK q0 p1 p2 p3 p4)))])) (fun t k => ?_) ?_
      · show Steps p.tables e below (T2.setTop (mkF m 112 #[.val (.long q0), .second, .val (.int p1), .val (.int p2), .val (.int p3), .val (.int p4), .val (.long (own_VAL q0 p1 p2 p3 p4)), .second, .val (.int (own_LEN q0 p1 p2 p3 p4)), .val (.int (own_AT q0 p1 p2 p3 p4)), .val (.int (own_KK q0 p1 p2 p3 p4)), .val (.ref b1), .val (.int ((own_AT q0 p1 p2 p3 p4) + (own_LEN q0 p1 p2 p3 p4))), .val (.int ((((own_AT q0 p1 p2 p3 p4) + (own_LEN q0 p1 p2 p3 p4)) - (1 : Int32)) - (own_KK q0 p1 p2 p3 p4))), .unset] [])) _
        refine XS.iload X2.here hx rfl (hb hby at_112) rfl ?_
        show Steps p.tables e below (T2.setTop (mkF m 114 #[.val (.long q0), .second, .val (.int p1), .val (.int p2), .val (.int p3), .val (.int p4), .val (.long (own_VAL q0 p1 p2 p3 p4)), .second, .val (.int (own_LEN q0 p1 p2 p3 p4)), .val (.int (own_AT q0 p1 p2 p3 p4)), .val (.int (own_KK q0 p1 p2 p3 p4)), .val (.ref b1), .val (.int ((own_AT q0 p1 p2 p3 p4) + (own_LEN q0 p1 p2 p3 p4))), .val (.int ((((own_AT q0 p1 p2 p3 p4) + (own_LEN q0 p1 p2 p3 p4)) - (1 : Int32)) - (own_KK q0 p1 p2 p3 p4))), .unset] [(.int ((((own_AT q0 p1 p2 p3 p4) + (own_LEN q0 p1 p2 p3 p4)) - (1 : Int32)) - (own_KK q0 p1 p2 p3 p4)))])) _
        refine XS.bipush X2.here hx rfl (hb hby at_114) ?_
        show Steps p.tables e below (T2.setTop (mkF m 116 #[.val (.long q0), .second, .val (.int p1), .val (.int p2), .val (.int p3), .val (.int p4), .val (.long (own_VAL q0 p1 p2 p3 p4)), .second, .val (.int (own_LEN q0 p1 p2 p3 p4)), .val (.int (own_AT q0 p1 p2 p3 p4)), .val (.int (own_KK q0 p1 p2 p3 p4)), .val (.ref b1), .val (.int ((own_AT q0 p1 p2 p3 p4) + (own_LEN q0 p1 p2 p3 p4))), .val (.int ((((own_AT q0 p1 p2 p3 p4) + (own_LEN q0 p1 p2 p3 p4)) - (1 : Int32)) - (own_KK q0 p1 p2 p3 p4))), .unset] [(.int (19 : Int32)), (.int ((((own_AT q0 p1 p2 p3 p4) + (own_LEN q0 p1 p2 p3 p4)) - (1 : Int32)) - (own_KK q0 p1 p2 p3 p4)))])) _
        exact k
      by_cases hc116_5 : ((((own_AT q0 p1 p2 p3 p4) + (own_LEN q0 p1 p2 p3 p4)) - (1 : Int32)) - (own_KK q0 p1 p2 p3 p4)) < (19 : Int32)
      · skip
        refine own_go (T' := T2) (f' := (mkF m 129 #[.val (.long q0), .second, .val (.int p1), .val (.int p2), .val (.int p3), .val (.int p4), .val (.long (own_VAL q0 p1 p2 p3 p4)), .second, .val (.int (own_LEN q0 p1 p2 p3 p4)), .val (.int (own_AT q0 p1 p2 p3 p4)), .val (.int (own_KK q0 p1 p2 p3 p4)), .val (.ref b1), .val (.int ((own_AT q0 p1 p2 p3 p4) + (own_LEN q0 p1 p2 p3 p4))), .val (.int ((((own_AT q0 p1 p2 p3 p4) + (own_LEN q0 p1 p2 p3 p4)) - (1 : Int32)) - (own_KK q0 p1 p2 p3 p4))), .unset] [(.int ((((own_AT q0 p1 p2 p3 p4) + (own_LEN q0 p1 p2 p3 p4)) - (1 : Int32)) - (own_KK q0 p1 p2 p3 p4))), (.long (own_VAL q0 p1 p2 p3 p4))])) (fun t k => ?_) ?_
        · show Steps p.tables e below (T2.setTop (mkF m 116 #[.val (.long q0), .second, .val (.int p1), .val (.int p2), .val (.int p3), .val (.int p4), .val (.long (own_VAL q0 p1 p2 p3 p4)), .second, .val (.int (own_LEN q0 p1 p2 p3 p4)), .val (.int (own_AT q0 p1 p2 p3 p4)), .val (.int (own_KK q0 p1 p2 p3 p4)), .val (.ref b1), .val (.int ((own_AT q0 p1 p2 p3 p4) + (own_LEN q0 p1 p2 p3 p4))), .val (.int ((((own_AT q0 p1 p2 p3 p4) + (own_LEN q0 p1 p2 p3 p4)) - (1 : Int32)) - (own_KK q0 p1 p2 p3 p4))), .unset] [(.int (19 : Int32)), (.int ((((own_AT q0 p1 p2 p3 p4) + (own_LEN q0 p1 p2 p3 p4)) - (1 : Int32)) - (own_KK q0 p1 p2 p3 p4)))])) _
          refine XS.icmpYes X2.here hx rfl (pc0 := 116) (pc' := 125) rfl (hb hby at_116) rfl (tlt hc116_5).1 (by decide) (by decide) ?_
          show Steps p.tables e below (T2.setTop (mkF m 125 #[.val (.long q0), .second, .val (.int p1), .val (.int p2), .val (.int p3), .val (.int p4), .val (.long (own_VAL q0 p1 p2 p3 p4)), .second, .val (.int (own_LEN q0 p1 p2 p3 p4)), .val (.int (own_AT q0 p1 p2 p3 p4)), .val (.int (own_KK q0 p1 p2 p3 p4)), .val (.ref b1), .val (.int ((own_AT q0 p1 p2 p3 p4) + (own_LEN q0 p1 p2 p3 p4))), .val (.int ((((own_AT q0 p1 p2 p3 p4) + (own_LEN q0 p1 p2 p3 p4)) - (1 : Int32)) - (own_KK q0 p1 p2 p3 p4))), .unset] [])) _
          refine XS.lload X2.here hx rfl (hb hby at_125) rfl ?_
          show Steps p.tables e below (T2.setTop (mkF m 127 #[.val (.long q0), .second, .val (.int p1), .val (.int p2), .val (.int p3), .val (.int p4), .val (.long (own_VAL q0 p1 p2 p3 p4)), .second, .val (.int (own_LEN q0 p1 p2 p3 p4)), .val (.int (own_AT q0 p1 p2 p3 p4)), .val (.int (own_KK q0 p1 p2 p3 p4)), .val (.ref b1), .val (.int ((own_AT q0 p1 p2 p3 p4) + (own_LEN q0 p1 p2 p3 p4))), .val (.int ((((own_AT q0 p1 p2 p3 p4) + (own_LEN q0 p1 p2 p3 p4)) - (1 : Int32)) - (own_KK q0 p1 p2 p3 p4))), .unset] [(.long (own_VAL q0 p1 p2 p3 p4))])) _
          refine XS.iload X2.here hx rfl (hb hby at_127) rfl ?_
          show Steps p.tables e below (T2.setTop (mkF m 129 #[.val (.long q0), .second, .val (.int p1), .val (.int p2), .val (.int p3), .val (.int p4), .val (.long (own_VAL q0 p1 p2 p3 p4)), .second, .val (.int (own_LEN q0 p1 p2 p3 p4)), .val (.int (own_AT q0 p1 p2 p3 p4)), .val (.int (own_KK q0 p1 p2 p3 p4)), .val (.ref b1), .val (.int ((own_AT q0 p1 p2 p3 p4) + (own_LEN q0 p1 p2 p3 p4))), .val (.int ((((own_AT q0 p1 p2 p3 p4) + (own_LEN q0 p1 p2 p3 p4)) - (1 : Int32)) - (own_KK q0 p1 p2 p3 p4))), .unset] [(.int ((((own_AT q0 p1 p2 p3 p4) + (own_LEN q0 p1 p2 p3 p4)) - (1 : Int32)) - (own_KK q0 p1 p2 p3 p4))), (.long (own_VAL q0 p1 p2 p3 p4))])) _
          exact k
        obtain ⟨_, _, ⟨T6, Lq6, kq6, nq6⟩, -, X6, ⟨Lc6, hQ6, lq6, yq6, zq6⟩, st6⟩ := Jvm.LawKit.callS X2 hx (y := (⟨"com/example/rowcast/rowcast/number/IntTextWriteDigitsPinLaw", "pow10", "(I)J"⟩ : MethodName)) hown (mvT hZ (hw _ (List.mem_of_getElem? (i := 9) rfl))) (mvT hZ (hw _ (List.mem_of_getElem? (i := 10) rfl))) (mvT hZ (hw _ (List.mem_of_getElem? (i := 11) rfl))) (mvT hZ (hw _ (List.mem_of_getElem? (i := 12) rfl))) (by decide) (backOf (W := 2) (own_rm2 l Z a0 hw [] (((((own_AT q0 p1 p2 p3 p4) + (own_LEN q0 p1 p2 p3 p4)) - (1 : Int32)) - (own_KK q0 p1 p2 p3 p4)))  T2.heap n0 Zs2 hE.1 (own_lt19 hc116_5)) hZ (hw _ (List.mem_of_getElem? (i := 12) rfl)) (hw _ (List.mem_of_getElem? (i := 11) rfl)) (by decide) (by decide)) (g := (mkF m 129 #[.val (.long q0), .second, .val (.int p1), .val (.int p2), .val (.int p3), .val (.int p4), .val (.long (own_VAL q0 p1 p2 p3 p4)), .second, .val (.int (own_LEN q0 p1 p2 p3 p4)), .val (.int (own_AT q0 p1 p2 p3 p4)), .val (.int (own_KK q0 p1 p2 p3 p4)), .val (.ref b1), .val (.int ((own_AT q0 p1 p2 p3 p4) + (own_LEN q0 p1 p2 p3 p4))), .val (.int ((((own_AT q0 p1 p2 p3 p4) + (own_LEN q0 p1 p2 p3 p4)) - (1 : Int32)) - (own_KK q0 p1 p2 p3 p4))), .unset] [(.int ((((own_AT q0 p1 p2 p3 p4) + (own_LEN q0 p1 p2 p3 p4)) - (1 : Int32)) - (own_KK q0 p1 p2 p3 p4))), (.long (own_VAL q0 p1 p2 p3 p4))])) rfl (by rw [hml]; rfl) (argsL := [(.int ((((own_AT q0 p1 p2 p3 p4) + (own_LEN q0 p1 p2 p3 p4)) - (1 : Int32)) - (own_KK q0 p1 p2 p3 p4)))]) (rest := [(.long (own_VAL q0 p1 p2 p3 p4))]) (lenOf own_pd1 rfl) rfl (by show 2 * 0 + _ ≤ _; exact Nat.le_of_eq rfl) (hb hby at_129) (fun _ _ => ⟨rfl, rfl, (by decide : 1 + 1 ≤ _), (by decide : 32 + 19 ≤ _)⟩)
        dsimp only [Pt.U, Pt.locs, Pt.cells, Pt.slots] at X6 lq6 yq6 zq6 st6 hQ6
        subst lq6 yq6 zq6
        obtain ⟨r_6, rfl, N6q, h6q, r6_pw⟩ := hQ6
        have N6 := Fr.app N2 N6q
        have fc7 : own_ArI Z T6.heap b1 .byte (32 : Int32) f'_2 := p2_0.keep h6q nin0
        have Zs6 : n0 ≤ T6.heap.size := Nat.le_trans Zs2 h6q.1
        refine own_go (T' := T6) (f' := (mkF m 132 #[.val (.long q0), .second, .val (.int p1), .val (.int p2), .val (.int p3), .val (.int p4), .val (.long (own_VAL q0 p1 p2 p3 p4)), .second, .val (.int (own_LEN q0 p1 p2 p3 p4)), .val (.int (own_AT q0 p1 p2 p3 p4)), .val (.int (own_KK q0 p1 p2 p3 p4)), .val (.ref b1), .val (.int ((own_AT q0 p1 p2 p3 p4) + (own_LEN q0 p1 p2 p3 p4))), .val (.int ((((own_AT q0 p1 p2 p3 p4) + (own_LEN q0 p1 p2 p3 p4)) - (1 : Int32)) - (own_KK q0 p1 p2 p3 p4))), .unset] [(.long r_6), (.long (own_VAL q0 p1 p2 p3 p4))])) (fun t k => st6 _ k) ?_
        refine own_go (T' := T6) (f' := (mkF m 159 #[.val (.long q0), .second, .val (.int p1), .val (.int p2), .val (.int p3), .val (.int p4), .val (.long (own_VAL q0 p1 p2 p3 p4)), .second, .val (.int (own_LEN q0 p1 p2 p3 p4)), .val (.int (own_AT q0 p1 p2 p3 p4)), .val (.int (own_KK q0 p1 p2 p3 p4)), .val (.ref b1), .val (.int ((own_AT q0 p1 p2 p3 p4) + (own_LEN q0 p1 p2 p3 p4))), .val (.int ((((own_AT q0 p1 p2 p3 p4) + (own_LEN q0 p1 p2 p3 p4)) - (1 : Int32)) - (own_KK q0 p1 p2 p3 p4))), .val (.int ((((own_VAL q0 p1 p2 p3 p4) / r_6) - (((own_VAL q0 p1 p2 p3 p4) / r_6) / (10 : Int64)) * (10 : Int64)).toInt32))] [(.int (1 : Int32))])) (fun t k => ?_) ?_
        · show Steps p.tables e below (T6.setTop (mkF m 132 #[.val (.long q0), .second, .val (.int p1), .val (.int p2), .val (.int p3), .val (.int p4), .val (.long (own_VAL q0 p1 p2 p3 p4)), .second, .val (.int (own_LEN q0 p1 p2 p3 p4)), .val (.int (own_AT q0 p1 p2 p3 p4)), .val (.int (own_KK q0 p1 p2 p3 p4)), .val (.ref b1), .val (.int ((own_AT q0 p1 p2 p3 p4) + (own_LEN q0 p1 p2 p3 p4))), .val (.int ((((own_AT q0 p1 p2 p3 p4) + (own_LEN q0 p1 p2 p3 p4)) - (1 : Int32)) - (own_KK q0 p1 p2 p3 p4))), .unset] [(.long r_6), (.long (own_VAL q0 p1 p2 p3 p4))])) _
          refine XS.ldiv X6.here hx rfl (hb hby at_132) rfl (own_pow_ne r6_pw) ?_
          show Steps p.tables e below (T6.setTop (mkF m 133 #[.val (.long q0), .second, .val (.int p1), .val (.int p2), .val (.int p3), .val (.int p4), .val (.long (own_VAL q0 p1 p2 p3 p4)), .second, .val (.int (own_LEN q0 p1 p2 p3 p4)), .val (.int (own_AT q0 p1 p2 p3 p4)), .val (.int (own_KK q0 p1 p2 p3 p4)), .val (.ref b1), .val (.int ((own_AT q0 p1 p2 p3 p4) + (own_LEN q0 p1 p2 p3 p4))), .val (.int ((((own_AT q0 p1 p2 p3 p4) + (own_LEN q0 p1 p2 p3 p4)) - (1 : Int32)) - (own_KK q0 p1 p2 p3 p4))), .unset] [(.long ((own_VAL q0 p1 p2 p3 p4) / r_6))])) _
          refine X6.ldc2Long hx hown (mvT hZ (hw _ (List.mem_of_getElem? (i := 14) rfl))) (g := (mkF m 133 #[.val (.long q0), .second, .val (.int p1), .val (.int p2), .val (.int p3), .val (.int p4), .val (.long (own_VAL q0 p1 p2 p3 p4)), .second, .val (.int (own_LEN q0 p1 p2 p3 p4)), .val (.int (own_AT q0 p1 p2 p3 p4)), .val (.int (own_KK q0 p1 p2 p3 p4)), .val (.ref b1), .val (.int ((own_AT q0 p1 p2 p3 p4) + (own_LEN q0 p1 p2 p3 p4))), .val (.int ((((own_AT q0 p1 p2 p3 p4) + (own_LEN q0 p1 p2 p3 p4)) - (1 : Int32)) - (own_KK q0 p1 p2 p3 p4))), .unset] [(.long ((own_VAL q0 p1 p2 p3 p4) / r_6))])) rfl (hb hby at_133) _ ?_
          show Steps p.tables e below (T6.setTop (mkF m 136 #[.val (.long q0), .second, .val (.int p1), .val (.int p2), .val (.int p3), .val (.int p4), .val (.long (own_VAL q0 p1 p2 p3 p4)), .second, .val (.int (own_LEN q0 p1 p2 p3 p4)), .val (.int (own_AT q0 p1 p2 p3 p4)), .val (.int (own_KK q0 p1 p2 p3 p4)), .val (.ref b1), .val (.int ((own_AT q0 p1 p2 p3 p4) + (own_LEN q0 p1 p2 p3 p4))), .val (.int ((((own_AT q0 p1 p2 p3 p4) + (own_LEN q0 p1 p2 p3 p4)) - (1 : Int32)) - (own_KK q0 p1 p2 p3 p4))), .unset] [(.long (10 : Int64)), (.long ((own_VAL q0 p1 p2 p3 p4) / r_6))])) _
          refine XS.lrem X6.here hx rfl (hb hby at_136) rfl (by decide) ?_
          show Steps p.tables e below (T6.setTop (mkF m 137 #[.val (.long q0), .second, .val (.int p1), .val (.int p2), .val (.int p3), .val (.int p4), .val (.long (own_VAL q0 p1 p2 p3 p4)), .second, .val (.int (own_LEN q0 p1 p2 p3 p4)), .val (.int (own_AT q0 p1 p2 p3 p4)), .val (.int (own_KK q0 p1 p2 p3 p4)), .val (.ref b1), .val (.int ((own_AT q0 p1 p2 p3 p4) + (own_LEN q0 p1 p2 p3 p4))), .val (.int ((((own_AT q0 p1 p2 p3 p4) + (own_LEN q0 p1 p2 p3 p4)) - (1 : Int32)) - (own_KK q0 p1 p2 p3 p4))), .unset] [(.long (((own_VAL q0 p1 p2 p3 p4) / r_6) - (((own_VAL q0 p1 p2 p3 p4) / r_6) / (10 : Int64)) * (10 : Int64)))])) _
          refine XS.l2i X6.here hx rfl (hb hby at_137) rfl ?_
          show Steps p.tables e below (T6.setTop (mkF m 138 #[.val (.long q0), .second, .val (.int p1), .val (.int p2), .val (.int p3), .val (.int p4), .val (.long (own_VAL q0 p1 p2 p3 p4)), .second, .val (.int (own_LEN q0 p1 p2 p3 p4)), .val (.int (own_AT q0 p1 p2 p3 p4)), .val (.int (own_KK q0 p1 p2 p3 p4)), .val (.ref b1), .val (.int ((own_AT q0 p1 p2 p3 p4) + (own_LEN q0 p1 p2 p3 p4))), .val (.int ((((own_AT q0 p1 p2 p3 p4) + (own_LEN q0 p1 p2 p3 p4)) - (1 : Int32)) - (own_KK q0 p1 p2 p3 p4))), .unset] [(.int ((((own_VAL q0 p1 p2 p3 p4) / r_6) - (((own_VAL q0 p1 p2 p3 p4) / r_6) / (10 : Int64)) * (10 : Int64)).toInt32))])) _
          refine XS.istore X6.here hx rfl (hb hby at_138) rfl (l' := #[.val (.long q0), .second, .val (.int p1), .val (.int p2), .val (.int p3), .val (.int p4), .val (.long (own_VAL q0 p1 p2 p3 p4)), .second, .val (.int (own_LEN q0 p1 p2 p3 p4)), .val (.int (own_AT q0 p1 p2 p3 p4)), .val (.int (own_KK q0 p1 p2 p3 p4)), .val (.ref b1), .val (.int ((own_AT q0 p1 p2 p3 p4) + (own_LEN q0 p1 p2 p3 p4))), .val (.int ((((own_AT q0 p1 p2 p3 p4) + (own_LEN q0 p1 p2 p3 p4)) - (1 : Int32)) - (own_KK q0 p1 p2 p3 p4))), .val (.int ((((own_VAL q0 p1 p2 p3 p4) / r_6) - (((own_VAL q0 p1 p2 p3 p4) / r_6) / (10 : Int64)) * (10 : Int64)).toInt32))]) rfl ?_
          show Steps p.tables e below (T6.setTop (mkF m 140 #[.val (.long q0), .second, .val (.int p1), .val (.int p2), .val (.int p3), .val (.int p4), .val (.long (own_VAL q0 p1 p2 p3 p4)), .second, .val (.int (own_LEN q0 p1 p2 p3 p4)), .val (.int (own_AT q0 p1 p2 p3 p4)), .val (.int (own_KK q0 p1 p2 p3 p4)), .val (.ref b1), .val (.int ((own_AT q0 p1 p2 p3 p4) + (own_LEN q0 p1 p2 p3 p4))), .val (.int ((((own_AT q0 p1 p2 p3 p4) + (own_LEN q0 p1 p2 p3 p4)) - (1 : Int32)) - (own_KK q0 p1 p2 p3 p4))), .val (.int ((((own_VAL q0 p1 p2 p3 p4) / r_6) - (((own_VAL q0 p1 p2 p3 p4) / r_6) / (10 : Int64)) * (10 : Int64)).toInt32))] [])) _
          refine XS.aload X6.here hx rfl (hb hby at_140) rfl rfl ?_
          show Steps p.tables e below (T6.setTop (mkF m 142 #[.val (.long q0), .second, .val (.int p1), .val (.int p2), .val (.int p3), .val (.int p4), .val (.long (own_VAL q0 p1 p2 p3 p4)), .second, .val (.int (own_LEN q0 p1 p2 p3 p4)), .val (.int (own_AT q0 p1 p2 p3 p4)), .val (.int (own_KK q0 p1 p2 p3 p4)), .val (.ref b1), .val (.int ((own_AT q0 p1 p2 p3 p4) + (own_LEN q0 p1 p2 p3 p4))), .val (.int ((((own_AT q0 p1 p2 p3 p4) + (own_LEN q0 p1 p2 p3 p4)) - (1 : Int32)) - (own_KK q0 p1 p2 p3 p4))), .val (.int ((((own_VAL q0 p1 p2 p3 p4) / r_6) - (((own_VAL q0 p1 p2 p3 p4) / r_6) / (10 : Int64)) * (10 : Int64)).toInt32))] [(.ref b1)])) _
          refine XS.iload X6.here hx rfl (hb hby at_142) rfl ?_
          show Steps p.tables e below (T6.setTop (mkF m 144 #[.val (.long q0), .second, .val (.int p1), .val (.int p2), .val (.int p3), .val (.int p4), .val (.long (own_VAL q0 p1 p2 p3 p4)), .second, .val (.int (own_LEN q0 p1 p2 p3 p4)), .val (.int (own_AT q0 p1 p2 p3 p4)), .val (.int (own_KK q0 p1 p2 p3 p4)), .val (.ref b1), .val (.int ((own_AT q0 p1 p2 p3 p4) + (own_LEN q0 p1 p2 p3 p4))), .val (.int ((((own_AT q0 p1 p2 p3 p4) + (own_LEN q0 p1 p2 p3 p4)) - (1 : Int32)) - (own_KK q0 p1 p2 p3 p4))), .val (.int ((((own_VAL q0 p1 p2 p3 p4) / r_6) - (((own_VAL q0 p1 p2 p3 p4) / r_6) / (10 : Int64)) * (10 : Int64)).toInt32))] [(.int (own_KK q0 p1 p2 p3 p4)), (.ref b1)])) _
          refine own_ldB X6 hx hZ rfl fc7 (j := (own_KK q0 p1 p2 p3 p4)) (own_KK_rng q0 p1 p2 p3 p4).1 (own_KK_rng q0 p1 p2 p3 p4).2 (g := (mkF m 144 #[.val (.long q0), .second, .val (.int p1), .val (.int p2), .val (.int p3), .val (.int p4), .val (.long (own_VAL q0 p1 p2 p3 p4)), .second, .val (.int (own_LEN q0 p1 p2 p3 p4)), .val (.int (own_AT q0 p1 p2 p3 p4)), .val (.int (own_KK q0 p1 p2 p3 p4)), .val (.ref b1), .val (.int ((own_AT q0 p1 p2 p3 p4) + (own_LEN q0 p1 p2 p3 p4))), .val (.int ((((own_AT q0 p1 p2 p3 p4) + (own_LEN q0 p1 p2 p3 p4)) - (1 : Int32)) - (own_KK q0 p1 p2 p3 p4))), .val (.int ((((own_VAL q0 p1 p2 p3 p4) / r_6) - (((own_VAL q0 p1 p2 p3 p4) / r_6) / (10 : Int64)) * (10 : Int64)).toInt32))] [(.int (own_KK q0 p1 p2 p3 p4)), (.ref b1)])) rfl rfl (hb hby at_144) _ ?_
          show Steps p.tables e below (T6.setTop (mkF m 145 #[.val (.long q0), .second, .val (.int p1), .val (.int p2), .val (.int p3), .val (.int p4), .val (.long (own_VAL q0 p1 p2 p3 p4)), .second, .val (.int (own_LEN q0 p1 p2 p3 p4)), .val (.int (own_AT q0 p1 p2 p3 p4)), .val (.int (own_KK q0 p1 p2 p3 p4)), .val (.ref b1), .val (.int ((own_AT q0 p1 p2 p3 p4) + (own_LEN q0 p1 p2 p3 p4))), .val (.int ((((own_AT q0 p1 p2 p3 p4) + (own_LEN q0 p1 p2 p3 p4)) - (1 : Int32)) - (own_KK q0 p1 p2 p3 p4))), .val (.int ((((own_VAL q0 p1 p2 p3 p4) / r_6) - (((own_VAL q0 p1 p2 p3 p4) / r_6) / (10 : Int64)) * (10 : Int64)).toInt32))] [(.int (f'_2 (own_KK q0 p1 p2 p3 p4).toInt.toNat))])) _
          refine XS.bipush X6.here hx rfl (hb hby at_145) ?_
          show Steps p.tables e below (T6.setTop (mkF m 147 #[.val (.long q0), .second, .val (.int p1), .val (.int p2), .val (.int p3), .val (.int p4), .val (.long (own_VAL q0 p1 p2 p3 p4)), .second, .val (.int (own_LEN q0 p1 p2 p3 p4)), .val (.int (own_AT q0 p1 p2 p3 p4)), .val (.int (own_KK q0 p1 p2 p3 p4)), .val (.ref b1), .val (.int ((own_AT q0 p1 p2 p3 p4) + (own_LEN q0 p1 p2 p3 p4))), .val (.int ((((own_AT q0 p1 p2 p3 p4) + (own_LEN q0 p1 p2 p3 p4)) - (1 : Int32)) - (own_KK q0 p1 p2 p3 p4))), .val (.int ((((own_VAL q0 p1 p2 p3 p4) / r_6) - (((own_VAL q0 p1 p2 p3 p4) / r_6) / (10 : Int64)) * (10 : Int64)).toInt32))] [(.int (48 : Int32)), (.int (f'_2 (own_KK q0 p1 p2 p3 p4).toInt.toNat))])) _
          refine XS.iload X6.here hx rfl (hb hby at_147) rfl ?_
          show Steps p.tables e below (T6.setTop (mkF m 149 #[.val (.long q0), .second, .val (.int p1), .val (.int p2), .val (.int p3), .val (.int p4), .val (.long (own_VAL q0 p1 p2 p3 p4)), .second, .val (.int (own_LEN q0 p1 p2 p3 p4)), .val (.int (own_AT q0 p1 p2 p3 p4)), .val (.int (own_KK q0 p1 p2 p3 p4)), .val (.ref b1), .val (.int ((own_AT q0 p1 p2 p3 p4) + (own_LEN q0 p1 p2 p3 p4))), .val (.int ((((own_AT q0 p1 p2 p3 p4) + (own_LEN q0 p1 p2 p3 p4)) - (1 : Int32)) - (own_KK q0 p1 p2 p3 p4))), .val (.int ((((own_VAL q0 p1 p2 p3 p4) / r_6) - (((own_VAL q0 p1 p2 p3 p4) / r_6) / (10 : Int64)) * (10 : Int64)).toInt32))] [(.int ((((own_VAL q0 p1 p2 p3 p4) / r_6) - (((own_VAL q0 p1 p2 p3 p4) / r_6) / (10 : Int64)) * (10 : Int64)).toInt32)), (.int (48 : Int32)), (.int (f'_2 (own_KK q0 p1 p2 p3 p4).toInt.toNat))])) _
          refine XS.iadd X6.here hx rfl (hb hby at_149) rfl ?_
          show Steps p.tables e below (T6.setTop (mkF m 150 #[.val (.long q0), .second, .val (.int p1), .val (.int p2), .val (.int p3), .val (.int p4), .val (.long (own_VAL q0 p1 p2 p3 p4)), .second, .val (.int (own_LEN q0 p1 p2 p3 p4)), .val (.int (own_AT q0 p1 p2 p3 p4)), .val (.int (own_KK q0 p1 p2 p3 p4)), .val (.ref b1), .val (.int ((own_AT q0 p1 p2 p3 p4) + (own_LEN q0 p1 p2 p3 p4))), .val (.int ((((own_AT q0 p1 p2 p3 p4) + (own_LEN q0 p1 p2 p3 p4)) - (1 : Int32)) - (own_KK q0 p1 p2 p3 p4))), .val (.int ((((own_VAL q0 p1 p2 p3 p4) / r_6) - (((own_VAL q0 p1 p2 p3 p4) / r_6) / (10 : Int64)) * (10 : Int64)).toInt32))] [(.int ((48 : Int32) + ((((own_VAL q0 p1 p2 p3 p4) / r_6) - (((own_VAL q0 p1 p2 p3 p4) / r_6) / (10 : Int64)) * (10 : Int64)).toInt32))), (.int (f'_2 (own_KK q0 p1 p2 p3 p4).toInt.toNat))])) _
          refine XS.i2b X6.here hx rfl (hb hby at_150) rfl ?_
          show Steps p.tables e below (T6.setTop (mkF m 151 #[.val (.long q0), .second, .val (.int p1), .val (.int p2), .val (.int p3), .val (.int p4), .val (.long (own_VAL q0 p1 p2 p3 p4)), .second, .val (.int (own_LEN q0 p1 p2 p3 p4)), .val (.int (own_AT q0 p1 p2 p3 p4)), .val (.int (own_KK q0 p1 p2 p3 p4)), .val (.ref b1), .val (.int ((own_AT q0 p1 p2 p3 p4) + (own_LEN q0 p1 p2 p3 p4))), .val (.int ((((own_AT q0 p1 p2 p3 p4) + (own_LEN q0 p1 p2 p3 p4)) - (1 : Int32)) - (own_KK q0 p1 p2 p3 p4))), .val (.int ((((own_VAL q0 p1 p2 p3 p4) / r_6) - (((own_VAL q0 p1 p2 p3 p4) / r_6) / (10 : Int64)) * (10 : Int64)).toInt32))] [(.int (((48 : Int32) + ((((own_VAL q0 p1 p2 p3 p4) / r_6) - (((own_VAL q0 p1 p2 p3 p4) / r_6) / (10 : Int64)) * (10 : Int64)).toInt32)).toInt8.toInt32)), (.int (f'_2 (own_KK q0 p1 p2 p3 p4).toInt.toNat))])) _
          refine XS.icmpNo X6.here hx rfl (hb hby at_151) rfl (teq (own_in1 q0 p1 p2 p3 p4 r2_wd hc73_3 hc83_4 r6_pw)).2 ?_
          show Steps p.tables e below (T6.setTop (mkF m 154 #[.val (.long q0), .second, .val (.int p1), .val (.int p2), .val (.int p3), .val (.int p4), .val (.long (own_VAL q0 p1 p2 p3 p4)), .second, .val (.int (own_LEN q0 p1 p2 p3 p4)), .val (.int (own_AT q0 p1 p2 p3 p4)), .val (.int (own_KK q0 p1 p2 p3 p4)), .val (.ref b1), .val (.int ((own_AT q0 p1 p2 p3 p4) + (own_LEN q0 p1 p2 p3 p4))), .val (.int ((((own_AT q0 p1 p2 p3 p4) + (own_LEN q0 p1 p2 p3 p4)) - (1 : Int32)) - (own_KK q0 p1 p2 p3 p4))), .val (.int ((((own_VAL q0 p1 p2 p3 p4) / r_6) - (((own_VAL q0 p1 p2 p3 p4) / r_6) / (10 : Int64)) * (10 : Int64)).toInt32))] [])) _
          refine XS.iconst X6.here hx rfl (hb hby at_154) ?_
          show Steps p.tables e below (T6.setTop (mkF m 155 #[.val (.long q0), .second, .val (.int p1), .val (.int p2), .val (.int p3), .val (.int p4), .val (.long (own_VAL q0 p1 p2 p3 p4)), .second, .val (.int (own_LEN q0 p1 p2 p3 p4)), .val (.int (own_AT q0 p1 p2 p3 p4)), .val (.int (own_KK q0 p1 p2 p3 p4)), .val (.ref b1), .val (.int ((own_AT q0 p1 p2 p3 p4) + (own_LEN q0 p1 p2 p3 p4))), .val (.int ((((own_AT q0 p1 p2 p3 p4) + (own_LEN q0 p1 p2 p3 p4)) - (1 : Int32)) - (own_KK q0 p1 p2 p3 p4))), .val (.int ((((own_VAL q0 p1 p2 p3 p4) / r_6) - (((own_VAL q0 p1 p2 p3 p4) / r_6) / (10 : Int64)) * (10 : Int64)).toInt32))] [(.int (1 : Int32))])) _
          refine XS.goto X6.here hx rfl (pc0 := 155) (pc' := 159) rfl (hb hby at_155) (by decide) (by decide) ?_
          show Steps p.tables e below (T6.setTop (mkF m 159 #[.val (.long q0), .second, .val (.int p1), .val (.int p2), .val (.int p3), .val (.int p4), .val (.long (own_VAL q0 p1 p2 p3 p4)), .second, .val (.int (own_LEN q0 p1 p2 p3 p4)), .val (.int (own_AT q0 p1 p2 p3 p4)), .val (.int (own_KK q0 p1 p2 p3 p4)), .val (.ref b1), .val (.int ((own_AT q0 p1 p2 p3 p4) + (own_LEN q0 p1 p2 p3 p4))), .val (.int ((((own_AT q0 p1 p2 p3 p4) + (own_LEN q0 p1 p2 p3 p4)) - (1 : Int32)) - (own_KK q0 p1 p2 p3 p4))), .val (.int ((((own_VAL q0 p1 p2 p3 p4) / r_6) - (((own_VAL q0 p1 p2 p3 p4) / r_6) / (10 : Int64)) * (10 : Int64)).toInt32))] [(.int (1 : Int32))])) _
          exact k
        obtain ⟨fs, hr, hrun, hended, hW, hsame⟩ := X6.leave (v := some (.int (1 : Int32))) (fun h => by rw [Bd.returns] at h; cases h)
        refine ⟨_, _, ?_, hrun, hended, _, _, rfl, ?_, ⟨_, rfl⟩, hW, hsame.mono (by decide) (by decide)⟩
        · exact retN X6 hx (t := .boolean) Bd.returns (by simp) (hb hby at_159) hr
        · show own_Q0 Z q0 p1 p2 p3 p4 h0 n0 _ T6.heap _
          exact ⟨rfl, N6⟩
      · skip
        refine own_go (T' := T2) (f' := (mkF m 159 #[.val (.long q0), .second, .val (.int p1), .val (.int p2), .val (.int p3), .val (.int p4), .val (.long (own_VAL q0 p1 p2 p3 p4)), .second, .val (.int (own_LEN q0 p1 p2 p3 p4)), .val (.int (own_AT q0 p1 p2 p3 p4)), .val (.int (own_KK q0 p1 p2 p3 p4)), .val (.ref b1), .val (.int ((own_AT q0 p1 p2 p3 p4) + (own_LEN q0 p1 p2 p3 p4))), .val (.int ((((own_AT q0 p1 p2 p3 p4) + (own_LEN q0 p1 p2 p3 p4)) - (1 : Int32)) - (own_KK q0 p1 p2 p3 p4))), .val (.int (0 : Int32))] [(.int (1 : Int32))])) (fun t k => ?_) ?_
        · show Steps p.tables e below (T2.setTop (mkF m 116 #[.val (.long q0), .second, .val (.int p1), .val (.int p2), .val (.int p3), .val (.int p4), .val (.long (own_VAL q0 p1 p2 p3 p4)), .second, .val (.int (own_LEN q0 p1 p2 p3 p4)), .val (.int (own_AT q0 p1 p2 p3 p4)), .val (.int (own_KK q0 p1 p2 p3 p4)), .val (.ref b1), .val (.int ((own_AT q0 p1 p2 p3 p4) + (own_LEN q0 p1 p2 p3 p4))), .val (.int ((((own_AT q0 p1 p2 p3 p4) + (own_LEN q0 p1 p2 p3 p4)) - (1 : Int32)) - (own_KK q0 p1 p2 p3 p4))), .unset] [(.int (19 : Int32)), (.int ((((own_AT q0 p1 p2 p3 p4) + (own_LEN q0 p1 p2 p3 p4)) - (1 : Int32)) - (own_KK q0 p1 p2 p3 p4)))])) _
          refine XS.icmpNo X2.here hx rfl (hb hby at_116) rfl (flt hc116_5).1 ?_
          show Steps p.tables e below (T2.setTop (mkF m 119 #[.val (.long q0), .second, .val (.int p1), .val (.int p2), .val (.int p3), .val (.int p4), .val (.long (own_VAL q0 p1 p2 p3 p4)), .second, .val (.int (own_LEN q0 p1 p2 p3 p4)), .val (.int (own_AT q0 p1 p2 p3 p4)), .val (.int (own_KK q0 p1 p2 p3 p4)), .val (.ref b1), .val (.int ((own_AT q0 p1 p2 p3 p4) + (own_LEN q0 p1 p2 p3 p4))), .val (.int ((((own_AT q0 p1 p2 p3 p4) + (own_LEN q0 p1 p2 p3 p4)) - (1 : Int32)) - (own_KK q0 p1 p2 p3 p4))), .unset] [])) _
          refine XS.iconst X2.here hx rfl (hb hby at_119) ?_
          show Steps p.tables e below (T2.setTop (mkF m 120 #[.val (.long q0), .second, .val (.int p1), .val (.int p2), .val (.int p3), .val (.int p4), .val (.long (own_VAL q0 p1 p2 p3 p4)), .second, .val (.int (own_LEN q0 p1 p2 p3 p4)), .val (.int (own_AT q0 p1 p2 p3 p4)), .val (.int (own_KK q0 p1 p2 p3 p4)), .val (.ref b1), .val (.int ((own_AT q0 p1 p2 p3 p4) + (own_LEN q0 p1 p2 p3 p4))), .val (.int ((((own_AT q0 p1 p2 p3 p4) + (own_LEN q0 p1 p2 p3 p4)) - (1 : Int32)) - (own_KK q0 p1 p2 p3 p4))), .unset] [(.int (0 : Int32))])) _
          refine XS.istore X2.here hx rfl (hb hby at_120) rfl (l' := #[.val (.long q0), .second, .val (.int p1), .val (.int p2), .val (.int p3), .val (.int p4), .val (.long (own_VAL q0 p1 p2 p3 p4)), .second, .val (.int (own_LEN q0 p1 p2 p3 p4)), .val (.int (own_AT q0 p1 p2 p3 p4)), .val (.int (own_KK q0 p1 p2 p3 p4)), .val (.ref b1), .val (.int ((own_AT q0 p1 p2 p3 p4) + (own_LEN q0 p1 p2 p3 p4))), .val (.int ((((own_AT q0 p1 p2 p3 p4) + (own_LEN q0 p1 p2 p3 p4)) - (1 : Int32)) - (own_KK q0 p1 p2 p3 p4))), .val (.int (0 : Int32))]) rfl ?_
          show Steps p.tables e below (T2.setTop (mkF m 122 #[.val (.long q0), .second, .val (.int p1), .val (.int p2), .val (.int p3), .val (.int p4), .val (.long (own_VAL q0 p1 p2 p3 p4)), .second, .val (.int (own_LEN q0 p1 p2 p3 p4)), .val (.int (own_AT q0 p1 p2 p3 p4)), .val (.int (own_KK q0 p1 p2 p3 p4)), .val (.ref b1), .val (.int ((own_AT q0 p1 p2 p3 p4) + (own_LEN q0 p1 p2 p3 p4))), .val (.int ((((own_AT q0 p1 p2 p3 p4) + (own_LEN q0 p1 p2 p3 p4)) - (1 : Int32)) - (own_KK q0 p1 p2 p3 p4))), .val (.int (0 : Int32))] [])) _
          refine XS.goto X2.here hx rfl (pc0 := 122) (pc' := 140) rfl (hb hby at_122) (by decide) (by decide) ?_
          show Steps p.tables e below (T2.setTop (mkF m 140 #[.val (.long q0), .second, .val (.int p1), .val (.int p2), .val (.int p3), .val (.int p4), .val (.long (own_VAL q0 p1 p2 p3 p4)), .second, .val (.int (own_LEN q0 p1 p2 p3 p4)), .val (.int (own_AT q0 p1 p2 p3 p4)), .val (.int (own_KK q0 p1 p2 p3 p4)), .val (.ref b1), .val (.int ((own_AT q0 p1 p2 p3 p4) + (own_LEN q0 p1 p2 p3 p4))), .val (.int ((((own_AT q0 p1 p2 p3 p4) + (own_LEN q0 p1 p2 p3 p4)) - (1 : Int32)) - (own_KK q0 p1 p2 p3 p4))), .val (.int (0 : Int32))] [])) _
          refine XS.aload X2.here hx rfl (hb hby at_140) rfl rfl ?_
          show Steps p.tables e below (T2.setTop (mkF m 142 #[.val (.long q0), .second, .val (.int p1), .val (.int p2), .val (.int p3), .val (.int p4), .val (.long (own_VAL q0 p1 p2 p3 p4)), .second, .val (.int (own_LEN q0 p1 p2 p3 p4)), .val (.int (own_AT q0 p1 p2 p3 p4)), .val (.int (own_KK q0 p1 p2 p3 p4)), .val (.ref b1), .val (.int ((own_AT q0 p1 p2 p3 p4) + (own_LEN q0 p1 p2 p3 p4))), .val (.int ((((own_AT q0 p1 p2 p3 p4) + (own_LEN q0 p1 p2 p3 p4)) - (1 : Int32)) - (own_KK q0 p1 p2 p3 p4))), .val (.int (0 : Int32))] [(.ref b1)])) _
          refine XS.iload X2.here hx rfl (hb hby at_142) rfl ?_
          show Steps p.tables e below (T2.setTop (mkF m 144 #[.val (.long q0), .second, .val (.int p1), .val (.int p2), .val (.int p3), .val (.int p4), .val (.long (own_VAL q0 p1 p2 p3 p4)), .second, .val (.int (own_LEN q0 p1 p2 p3 p4)), .val (.int (own_AT q0 p1 p2 p3 p4)), .val (.int (own_KK q0 p1 p2 p3 p4)), .val (.ref b1), .val (.int ((own_AT q0 p1 p2 p3 p4) + (own_LEN q0 p1 p2 p3 p4))), .val (.int ((((own_AT q0 p1 p2 p3 p4) + (own_LEN q0 p1 p2 p3 p4)) - (1 : Int32)) - (own_KK q0 p1 p2 p3 p4))), .val (.int (0 : Int32))] [(.int (own_KK q0 p1 p2 p3 p4)), (.ref b1)])) _
          refine own_ldB X2 hx hZ rfl p2_0 (j := (own_KK q0 p1 p2 p3 p4)) (own_KK_rng q0 p1 p2 p3 p4).1 (own_KK_rng q0 p1 p2 p3 p4).2 (g := (mkF m 144 #[.val (.long q0), .second, .val (.int p1), .val (.int p2), .val (.int p3), .val (.int p4), .val (.long (own_VAL q0 p1 p2 p3 p4)), .second, .val (.int (own_LEN q0 p1 p2 p3 p4)), .val (.int (own_AT q0 p1 p2 p3 p4)), .val (.int (own_KK q0 p1 p2 p3 p4)), .val (.ref b1), .val (.int ((own_AT q0 p1 p2 p3 p4) + (own_LEN q0 p1 p2 p3 p4))), .val (.int ((((own_AT q0 p1 p2 p3 p4) + (own_LEN q0 p1 p2 p3 p4)) - (1 : Int32)) - (own_KK q0 p1 p2 p3 p4))), .val (.int (0 : Int32))] [(.int (own_KK q0 p1 p2 p3 p4)), (.ref b1)])) rfl rfl (hb hby at_144) _ ?_
          show Steps p.tables e below (T2.setTop (mkF m 145 #[.val (.long q0), .second, .val (.int p1), .val (.int p2), .val (.int p3), .val (.int p4), .val (.long (own_VAL q0 p1 p2 p3 p4)), .second, .val (.int (own_LEN q0 p1 p2 p3 p4)), .val (.int (own_AT q0 p1 p2 p3 p4)), .val (.int (own_KK q0 p1 p2 p3 p4)), .val (.ref b1), .val (.int ((own_AT q0 p1 p2 p3 p4) + (own_LEN q0 p1 p2 p3 p4))), .val (.int ((((own_AT q0 p1 p2 p3 p4) + (own_LEN q0 p1 p2 p3 p4)) - (1 : Int32)) - (own_KK q0 p1 p2 p3 p4))), .val (.int (0 : Int32))] [(.int (f'_2 (own_KK q0 p1 p2 p3 p4).toInt.toNat))])) _
          refine XS.bipush X2.here hx rfl (hb hby at_145) ?_
          show Steps p.tables e below (T2.setTop (mkF m 147 #[.val (.long q0), .second, .val (.int p1), .val (.int p2), .val (.int p3), .val (.int p4), .val (.long (own_VAL q0 p1 p2 p3 p4)), .second, .val (.int (own_LEN q0 p1 p2 p3 p4)), .val (.int (own_AT q0 p1 p2 p3 p4)), .val (.int (own_KK q0 p1 p2 p3 p4)), .val (.ref b1), .val (.int ((own_AT q0 p1 p2 p3 p4) + (own_LEN q0 p1 p2 p3 p4))), .val (.int ((((own_AT q0 p1 p2 p3 p4) + (own_LEN q0 p1 p2 p3 p4)) - (1 : Int32)) - (own_KK q0 p1 p2 p3 p4))), .val (.int (0 : Int32))] [(.int (48 : Int32)), (.int (f'_2 (own_KK q0 p1 p2 p3 p4).toInt.toNat))])) _
          refine XS.iload X2.here hx rfl (hb hby at_147) rfl ?_
          show Steps p.tables e below (T2.setTop (mkF m 149 #[.val (.long q0), .second, .val (.int p1), .val (.int p2), .val (.int p3), .val (.int p4), .val (.long (own_VAL q0 p1 p2 p3 p4)), .second, .val (.int (own_LEN q0 p1 p2 p3 p4)), .val (.int (own_AT q0 p1 p2 p3 p4)), .val (.int (own_KK q0 p1 p2 p3 p4)), .val (.ref b1), .val (.int ((own_AT q0 p1 p2 p3 p4) + (own_LEN q0 p1 p2 p3 p4))), .val (.int ((((own_AT q0 p1 p2 p3 p4) + (own_LEN q0 p1 p2 p3 p4)) - (1 : Int32)) - (own_KK q0 p1 p2 p3 p4))), .val (.int (0 : Int32))] [(.int (0 : Int32)), (.int (48 : Int32)), (.int (f'_2 (own_KK q0 p1 p2 p3 p4).toInt.toNat))])) _
          refine XS.iadd X2.here hx rfl (hb hby at_149) rfl ?_
          show Steps p.tables e below (T2.setTop (mkF m 150 #[.val (.long q0), .second, .val (.int p1), .val (.int p2), .val (.int p3), .val (.int p4), .val (.long (own_VAL q0 p1 p2 p3 p4)), .second, .val (.int (own_LEN q0 p1 p2 p3 p4)), .val (.int (own_AT q0 p1 p2 p3 p4)), .val (.int (own_KK q0 p1 p2 p3 p4)), .val (.ref b1), .val (.int ((own_AT q0 p1 p2 p3 p4) + (own_LEN q0 p1 p2 p3 p4))), .val (.int ((((own_AT q0 p1 p2 p3 p4) + (own_LEN q0 p1 p2 p3 p4)) - (1 : Int32)) - (own_KK q0 p1 p2 p3 p4))), .val (.int (0 : Int32))] [(.int ((48 : Int32) + (0 : Int32))), (.int (f'_2 (own_KK q0 p1 p2 p3 p4).toInt.toNat))])) _
          refine XS.i2b X2.here hx rfl (hb hby at_150) rfl ?_
          show Steps p.tables e below (T2.setTop (mkF m 151 #[.val (.long q0), .second, .val (.int p1), .val (.int p2), .val (.int p3), .val (.int p4), .val (.long (own_VAL q0 p1 p2 p3 p4)), .second, .val (.int (own_LEN q0 p1 p2 p3 p4)), .val (.int (own_AT q0 p1 p2 p3 p4)), .val (.int (own_KK q0 p1 p2 p3 p4)), .val (.ref b1), .val (.int ((own_AT q0 p1 p2 p3 p4) + (own_LEN q0 p1 p2 p3 p4))), .val (.int ((((own_AT q0 p1 p2 p3 p4) + (own_LEN q0 p1 p2 p3 p4)) - (1 : Int32)) - (own_KK q0 p1 p2 p3 p4))), .val (.int (0 : Int32))] [(.int (((48 : Int32) + (0 : Int32)).toInt8.toInt32)), (.int (f'_2 (own_KK q0 p1 p2 p3 p4).toInt.toNat))])) _
          refine XS.icmpNo X2.here hx rfl (hb hby at_151) rfl (teq (own_in2 q0 p1 p2 p3 p4 r2_wd hc73_3 hc83_4 hc116_5)).2 ?_
          show Steps p.tables e below (T2.setTop (mkF m 154 #[.val (.long q0), .second, .val (.int p1), .val (.int p2), .val (.int p3), .val (.int p4), .val (.long (own_VAL q0 p1 p2 p3 p4)), .second, .val (.int (own_LEN q0 p1 p2 p3 p4)), .val (.int (own_AT q0 p1 p2 p3 p4)), .val (.int (own_KK q0 p1 p2 p3 p4)), .val (.ref b1), .val (.int ((own_AT q0 p1 p2 p3 p4) + (own_LEN q0 p1 p2 p3 p4))), .val (.int ((((own_AT q0 p1 p2 p3 p4) + (own_LEN q0 p1 p2 p3 p4)) - (1 : Int32)) - (own_KK q0 p1 p2 p3 p4))), .val (.int (0 : Int32))] [])) _
          refine XS.iconst X2.here hx rfl (hb hby at_154) ?_
          show Steps p.tables e below (T2.setTop (mkF m 155 #[.val (.long q0), .second, .val (.int p1), .val (.int p2), .val (.int p3), .val (.int p4), .val (.long (own_VAL q0 p1 p2 p3 p4)), .second, .val (.int (own_LEN q0 p1 p2 p3 p4)), .val (.int (own_AT q0 p1 p2 p3 p4)), .val (.int (own_KK q0 p1 p2 p3 p4)), .val (.ref b1), .val (.int ((own_AT q0 p1 p2 p3 p4) + (own_LEN q0 p1 p2 p3 p4))), .val (.int ((((own_AT q0 p1 p2 p3 p4) + (own_LEN q0 p1 p2 p3 p4)) - (1 : Int32)) - (own_KK q0 p1 p2 p3 p4))), .val (.int (0 : Int32))] [(.int (1 : Int32))])) _
          refine XS.goto X2.here hx rfl (pc0 := 155) (pc' := 159) rfl (hb hby at_155) (by decide) (by decide) ?_
          show Steps p.tables e below (T2.setTop (mkF m 159 #[.val (.long q0), .second, .val (.int p1), .val (.int p2), .val (.int p3), .val (.int p4), .val (.long (own_VAL q0 p1 p2 p3 p4)), .second, .val (.int (own_LEN q0 p1 p2 p3 p4)), .val (.int (own_AT q0 p1 p2 p3 p4)), .val (.int (own_KK q0 p1 p2 p3 p4)), .val (.ref b1), .val (.int ((own_AT q0 p1 p2 p3 p4) + (own_LEN q0 p1 p2 p3 p4))), .val (.int ((((own_AT q0 p1 p2 p3 p4) + (own_LEN q0 p1 p2 p3 p4)) - (1 : Int32)) - (own_KK q0 p1 p2 p3 p4))), .val (.int (0 : Int32))] [(.int (1 : Int32))])) _
          exact k
        obtain ⟨fs, hr, hrun, hended, hW, hsame⟩ := X2.leave (v := some (.int (1 : Int32))) (fun h => by rw [Bd.returns] at h; cases h)
        refine ⟨_, _, ?_, hrun, hended, _, _, rfl, ?_, ⟨_, rfl⟩, hW, hsame.mono (by decide) (by decide)⟩
        · exact retN X2 hx (t := .boolean) Bd.returns (by simp) (hb hby at_159) hr
        · show own_Q0 Z q0 p1 p2 p3 p4 h0 n0 _ T2.heap _
          exact ⟨rfl, N2⟩
    · skip
      refine own_go (T' := T2) (f' := (mkF m 99 #[.val (.long q0), .second, .val (.int p1), .val (.int p2), .val (.int p3), .val (.int p4), .val (.long (own_VAL q0 p1 p2 p3 p4)), .second, .val (.int (own_LEN q0 p1 p2 p3 p4)), .val (.int (own_AT q0 p1 p2 p3 p4)), .val (.int (own_KK q0 p1 p2 p3 p4)), .val (.ref b1), .val (.int ((own_AT q0 p1 p2 p3 p4) + (own_LEN q0 p1 p2 p3 p4))), .unset, .unset] [(.int (1 : Int32))])) (fun t k => ?_) ?_
      · show Steps p.tables e below (T2.setTop (mkF m 83 #[.val (.long q0), .second, .val (.int p1), .val (.int p2), .val (.int p3), .val (.int p4), .val (.long (own_VAL q0 p1 p2 p3 p4)), .second, .val (.int (own_LEN q0 p1 p2 p3 p4)), .val (.int (own_AT q0 p1 p2 p3 p4)), .val (.int (own_KK q0 p1 p2 p3 p4)), .val (.ref b1), .val (.int ((own_AT q0 p1 p2 p3 p4) + (own_LEN q0 p1 p2 p3 p4))), .unset, .unset] [(.int ((own_AT q0 p1 p2 p3 p4) + (own_LEN q0 p1 p2 p3 p4))), (.int (own_KK q0 p1 p2 p3 p4))])) _
        refine XS.icmpNo X2.here hx rfl (hb hby at_83) rfl (flt hc83_4).1 ?_
        show Steps p.tables e below (T2.setTop (mkF m 86 #[.val (.long q0), .second, .val (.int p1), .val (.int p2), .val (.int p3), .val (.int p4), .val (.long (own_VAL q0 p1 p2 p3 p4)), .second, .val (.int (own_LEN q0 p1 p2 p3 p4)), .val (.int (own_AT q0 p1 p2 p3 p4)), .val (.int (own_KK q0 p1 p2 p3 p4)), .val (.ref b1), .val (.int ((own_AT q0 p1 p2 p3 p4) + (own_LEN q0 p1 p2 p3 p4))), .unset, .unset] [])) _
        refine XS.aload X2.here hx rfl (hb hby at_86) rfl rfl ?_
        show Steps p.tables e below (T2.setTop (mkF m 88 #[.val (.long q0), .second, .val (.int p1), .val (.int p2), .val (.int p3), .val (.int p4), .val (.long (own_VAL q0 p1 p2 p3 p4)), .second, .val (.int (own_LEN q0 p1 p2 p3 p4)), .val (.int (own_AT q0 p1 p2 p3 p4)), .val (.int (own_KK q0 p1 p2 p3 p4)), .val (.ref b1), .val (.int ((own_AT q0 p1 p2 p3 p4) + (own_LEN q0 p1 p2 p3 p4))), .unset, .unset] [(.ref b1)])) _
        refine XS.iload X2.here hx rfl (hb hby at_88) rfl ?_
        show Steps p.tables e below (T2.setTop (mkF m 90 #[.val (.long q0), .second, .val (.int p1), .val (.int p2), .val (.int p3), .val (.int p4), .val (.long (own_VAL q0 p1 p2 p3 p4)), .second, .val (.int (own_LEN q0 p1 p2 p3 p4)), .val (.int (own_AT q0 p1 p2 p3 p4)), .val (.int (own_KK q0 p1 p2 p3 p4)), .val (.ref b1), .val (.int ((own_AT q0 p1 p2 p3 p4) + (own_LEN q0 p1 p2 p3 p4))), .unset, .unset] [(.int (own_KK q0 p1 p2 p3 p4)), (.ref b1)])) _
        refine own_ldB X2 hx hZ rfl p2_0 (j := (own_KK q0 p1 p2 p3 p4)) (own_KK_rng q0 p1 p2 p3 p4).1 (own_KK_rng q0 p1 p2 p3 p4).2 (g := (mkF m 90 #[.val (.long q0), .second, .val (.int p1), .val (.int p2), .val (.int p3), .val (.int p4), .val (.long (own_VAL q0 p1 p2 p3 p4)), .second, .val (.int (own_LEN q0 p1 p2 p3 p4)), .val (.int (own_AT q0 p1 p2 p3 p4)), .val (.int (own_KK q0 p1 p2 p3 p4)), .val (.ref b1), .val (.int ((own_AT q0 p1 p2 p3 p4) + (own_LEN q0 p1 p2 p3 p4))), .unset, .unset] [(.int (own_KK q0 p1 p2 p3 p4)), (.ref b1)])) rfl rfl (hb hby at_90) _ ?_
        show Steps p.tables e below (T2.setTop (mkF m 91 #[.val (.long q0), .second, .val (.int p1), .val (.int p2), .val (.int p3), .val (.int p4), .val (.long (own_VAL q0 p1 p2 p3 p4)), .second, .val (.int (own_LEN q0 p1 p2 p3 p4)), .val (.int (own_AT q0 p1 p2 p3 p4)), .val (.int (own_KK q0 p1 p2 p3 p4)), .val (.ref b1), .val (.int ((own_AT q0 p1 p2 p3 p4) + (own_LEN q0 p1 p2 p3 p4))), .unset, .unset] [(.int (f'_2 (own_KK q0 p1 p2 p3 p4).toInt.toNat))])) _
        refine XS.ifNo X2.here hx rfl (hb hby at_91) rfl ((if0 _ _).trans (teq (own_out q0 p1 p2 p3 p4 r2_wd (Or.inr hc83_4))).2) ?_
        show Steps p.tables e below (T2.setTop (mkF m 94 #[.val (.long q0), .second, .val (.int p1), .val (.int p2), .val (.int p3), .val (.int p4), .val (.long (own_VAL q0 p1 p2 p3 p4)), .second, .val (.int (own_LEN q0 p1 p2 p3 p4)), .val (.int (own_AT q0 p1 p2 p3 p4)), .val (.int (own_KK q0 p1 p2 p3 p4)), .val (.ref b1), .val (.int ((own_AT q0 p1 p2 p3 p4) + (own_LEN q0 p1 p2 p3 p4))), .unset, .unset] [])) _
        refine XS.iconst X2.here hx rfl (hb hby at_94) ?_
        show Steps p.tables e below (T2.setTop (mkF m 95 #[.val (.long q0), .second, .val (.int p1), .val (.int p2), .val (.int p3), .val (.int p4), .val (.long (own_VAL q0 p1 p2 p3 p4)), .second, .val (.int (own_LEN q0 p1 p2 p3 p4)), .val (.int (own_AT q0 p1 p2 p3 p4)), .val (.int (own_KK q0 p1 p2 p3 p4)), .val (.ref b1), .val (.int ((own_AT q0 p1 p2 p3 p4) + (own_LEN q0 p1 p2 p3 p4))), .unset, .unset] [(.int (1 : Int32))])) _
        refine XS.goto X2.here hx rfl (pc0 := 95) (pc' := 99) rfl (hb hby at_95) (by decide) (by decide) ?_
        show Steps p.tables e below (T2.setTop (mkF m 99 #[.val (.long q0), .second, .val (.int p1), .val (.int p2), .val (.int p3), .val (.int p4), .val (.long (own_VAL q0 p1 p2 p3 p4)), .second, .val (.int (own_LEN q0 p1 p2 p3 p4)), .val (.int (own_AT q0 p1 p2 p3 p4)), .val (.int (own_KK q0 p1 p2 p3 p4)), .val (.ref b1), .val (.int ((own_AT q0 p1 p2 p3 p4) + (own_LEN q0 p1 p2 p3 p4))), .unset, .unset] [(.int (1 : Int32))])) _
        exact k
      obtain ⟨fs, hr, hrun, hended, hW, hsame⟩ := X2.leave (v := some (.int (1 : Int32))) (fun h => by rw [Bd.returns] at h; cases h)
      refine ⟨_, _, ?_, hrun, hended, _, _, rfl, ?_, ⟨_, rfl⟩, hW, hsame.mono (by decide) (by decide)⟩
      · exact retN X2 hx (t := .boolean) Bd.returns (by simp) (hb hby at_99) hr
      · show own_Q0 Z q0 p1 p2 p3 p4 h0 n0 _ T2.heap _
        exact ⟨rfl, N2⟩
set_option maxRecDepth 65536 in
set_option maxHeartbeats 40000000 in
theorem comes_1 {Post : Tables → Env → Array Value → State → Outcome → State → Prop} (hpost : ∀ tb e args s v u, (limb_1_1.after args s (.returned v) u = true ∧ limb_1_2.after args s (.returned v) u = true ∧ True) → FrameEnd s (.returned v) u (Jvm.fieldLocs frame_1_writes args s ++ Jvm.arrayLocs frame_1_arrays args s ++ Jvm.staticLocs frame_1_statics s) 16 192 → Post tb e args s (.returned v) u) :
    ArmFor flags0 classFile x code maxLocals ret World_1 tables_1 room_1 Calls_1 rest_1 Pre_1 Post := by
  intro l hfl _ _ p e ha hc hk s m args below hf hA hF happ hP
  obtain ⟨hcalls, hrest, hpre⟩ := hP
  obtain ⟨-, -, -, hnamed, -, -, -, hat⟩ := (Spec.applies_iff hf).mp happ
  obtain ⟨hg, hn⟩ := and_e (Cond.before_iff.mp (show (Jvm.Cond.and given_1 narrow_1).before args s = true from hpre))
  obtain ⟨hcnt, g0⟩ := and_e hg
  obtain ⟨k0, g1⟩ := and_e g0
  obtain ⟨k1, g2⟩ := and_e g1
  obtain ⟨k2, g3⟩ := and_e g2
  obtain ⟨k3, g4⟩ := and_e g3
  have k4 := g4
  obtain ⟨w0, w1, w2, w3, w4, rfl⟩ : ∃ w0 w1 w2 w3 w4 : Value, args = #[w0, w1, w2, w3, w4] := by
    have hs : args.size = 5 := by simpa [Cond.value, given_1] using hcnt
    obtain ⟨L⟩ := args
    match L, hs with
    | [w0, w1, w2, w3, w4], _ => exact ⟨w0, w1, w2, w3, w4, rfl⟩
  have hw := fun d (hd : d ∈ tables_1) => atoms_spec (ws := Jvm.Cond.code x code maxLocals ret :: tables_1) hat d (List.mem_cons_of_mem _ hd)
  obtain ⟨i0, e0⟩ := isL_v k0
  obtain rfl : w0 = (.long i0) := Option.some.inj e0
  obtain ⟨i1, e1⟩ := is_v k1
  obtain rfl : w1 = (.int i1) := Option.some.inj e1
  obtain ⟨i2, e2⟩ := is_v k2
  obtain rfl : w2 = (.int i2) := Option.some.inj e2
  obtain ⟨i3, e3⟩ := is_v k3
  obtain rfl : w3 = (.int i3) := Option.some.inj e3
  obtain ⟨i4, e4⟩ := is_v k4
  obtain rfl : w4 = (.int i4) := Option.some.inj e4
  obtain ⟨n, o, h1, h2, h3, _, L, rfl, ⟨hv, N⟩, hq⟩ := own_rm0 l s _ hw tables_1 i0 i1 i2 i3 i4 s.heap s.heap.size (Nat.le_refl _)  p e ha hc hk s m _ below hf ((Spec.applies_iff_loose hf).mp happ).1 ⟨rfl, State.Warmed39.refl s, rfl⟩ trivial
  subst hv
  refine ⟨n, _, h1, h2, h3, hpost _ _ _ _ _ _ ⟨Cond.after_iff.mpr rfl, Cond.after_iff.mpr (eq_i res_at (Term.int_eval (1)) rfl), trivial⟩ ⟨hq.1, hq.2.1, (hq.2.2.sift fun y hy => Or.inr (N y hy)).mono (by decide) (by decide)⟩⟩
theorem main_1_1 : Claimed_1_1 := comes_1 fun _ _ _ _ _ _ h hF => ⟨h.1, hF⟩
theorem main_1_2 : Claimed_1_2 := comes_1 fun _ _ _ _ _ _ h hF => ⟨h.2.1, hF⟩
end Jvm.Pilot.@@N@@
namespace Jvm.Pilot.@@N@@
open Jvm Jvm.ClassFile Sem Op Lib Jvm.Free Jvm.Stand Jvm.Pilot.@@N@@.Jvm.D
/-! MADE BY PROGRAM (witnessworld.py) out of the Statement's table words and the real class files: 11 classes; the members and pool entries that the words name. The judged class is class 1, her method 1. -/
namespace start1
open Jvm.ClassFile
def u (s : String) : CpInfo := .utf8 (stringToUtf16 s)
/-- a pool by its gaps: so many unusable entries, then the entry; so many at the end -/
def gap : Nat → List CpInfo → List CpInfo
  | 0, r => r
  | n + 1, r => .unusable :: gap n r
def poolList (es : List (Nat × CpInfo)) (last : Nat) : List CpInfo := es.foldr (fun e r => gap e.1 (e.2 :: r)) (gap last [])
def pool (es : List (Nat × CpInfo)) (last : Nat) : Array CpInfo := ⟨poolList es last⟩
def fileOf (pool : Array CpInfo) (this : Nat) (attrs : Array Attribute := #[]) (ms : Array MethodInfo := #[]) (fl : Nat := 33) (sup : Nat := 0) (ifs : Array Nat := #[]) (fds : Array FieldInfo := #[]) : ClassFile where
  minorVersion := 0
  majorVersion := 65
  constantPool := pool
  accessFlags := fl
  thisClass := this
  superClass := sup
  interfaces := ifs
  fields := fds
  methods := ms
  attributes := attrs
def plain (name : String) (sup : Option ClassId) : Class where
  name := name
  kind := .ordinary
  loader := none
  accessFlags := 33
  super := sup
  interfaces := #[]
  cf := none
  fields := #[]
  methods := #[]
  instanceTypes := #[]
  staticTypes := #[]
  resolved := #[]
  callSites := []
  init := .initialized
  statics := none
  mirror := none

def pool0 : Array CpInfo := pool [(5, u "<init>"), (0, u "()V"), (1, .class_ 10), (1, u "java/lang/Object")] 113

def k0m0 : Method := { name := "<init>", desc := "()V", sig := { parameters := [], returnType := none }, accessFlags := 1, code := none }
/-- java/lang/Object -/
def k0 : Class := { plain "java/lang/Object" none with
  accessFlags := 33
  interfaces := #[]
  cf := some (fileOf pool0 8 #[] #[{ accessFlags := 1, nameIndex := 5, descriptorIndex := 6, attributes := #[] }] 33 0 #[] #[])
  fields := #[]
  methods := #[k0m0]
  instanceTypes := #[]
  staticTypes := #[]
  resolved := Array.replicate 124 none
  statics := none }

def pool1 : Array CpInfo := pool [(2, .class_ 4), (1, u "java/lang/Object"), (0, u "<init>"), (0, u "()V"), (2, .long 9223372036854775807), (1, .integer 2147483647), (0, .methodref 13 14), (0, .class_ 15), (0, .nameAndType 16 17), (0, u "com/example/rowcast/rowcast/number/IntText"), (0, u "writeDigits"), (0, u "(JI[BI)I"), (0, .methodref 19 20), (0, .class_ 21), (0, .nameAndType 22 23), (0, u "com/example/rowcast/rowcast/number/IntTextWriteDigitsPinLaw"), (0, u "pow10"), (0, u "(I)J"), (0, .long 10), (1, .long 100), (1, .long 1000), (1, .long 10000), (1, .long 100000), (1, .long 1000000), (1, .long 10000000), (1, .long 100000000), (1, .long 1000000000), (1, .long 10000000000), (1, .long 100000000000), (1, .long 1000000000000), (1, .long 10000000000000), (1, .long 100000000000000), (1, .long 1000000000000000), (1, .long 10000000000000000), (1, .long 100000000000000000), (1, .long 1000000000000000000), (3, u "law"), (0, u "(JIIII)Z")] 5

def k1m0 : Method := { name := "<init>", desc := "()V", sig := { parameters := [], returnType := none }, accessFlags := 1, code := none }
def k1c1 : Code := { maxStack := 5, maxLocals := 15, code := code, exceptionTable := #[], attributes := #[] }
def k1m1 : Method := { name := "law", desc := "(JIIII)Z", sig := { parameters := [.long, .int, .int, .int, .int], returnType := some .boolean }, accessFlags := 9, code := some k1c1 }
def k1c2 : Code := { maxStack := 5, maxLocals := 2, code := method_3_code, exceptionTable := #[], attributes := #[] }
def k1m2 : Method := { name := "pow10", desc := "(I)J", sig := { parameters := [.int], returnType := some .long }, accessFlags := 10, code := some k1c2 }
/-- com/example/rowcast/rowcast/number/IntTextWriteDigitsPinLaw -/
def k1 : Class := { plain "com/example/rowcast/rowcast/number/IntTextWriteDigitsPinLaw" (some 0) with
  accessFlags := 49
  interfaces := #[]
  cf := some (fileOf pool1 19 #[] #[{ accessFlags := 1, nameIndex := 5, descriptorIndex := 6, attributes := #[] }, { accessFlags := 9, nameIndex := 62, descriptorIndex := 63, attributes := #[] }, { accessFlags := 10, nameIndex := 22, descriptorIndex := 23, attributes := #[] }] 49 2 #[] #[])
  fields := #[]
  methods := #[k1m0, k1m1, k1m2]
  instanceTypes := #[]
  staticTypes := #[]
  resolved := Array.replicate 69 none
  statics := none }

def pool2 : Array CpInfo := pool [(2, .class_ 4), (1, u "java/lang/Object"), (0, u "<init>"), (0, u "()V"), (1, .class_ 10), (1, u "com/example/rowcast/rowcast/number/IntText"), (7, u "LAST_SAFE_MAGNITUDE"), (0, u "J"), (9, .long 10), (13, u "writeDigits"), (0, u "(JI[BI)I"), (0, .long 48), (22, u "POWERS_OF_TEN"), (0, u "[J"), (43, u "MAX_LENGTH"), (0, u "I"), (2, u "MAX_WIDE_LENGTH"), (1, u "LIMB_MASK"), (0, u "GROUP_DIGITS"), (1, u "GROUP")] 21

def k2m0 : Method := { name := "<init>", desc := "()V", sig := { parameters := [], returnType := none }, accessFlags := 2, code := none }
def k2c1 : Code := { maxStack := 8, maxLocals := 8, code := prog_65_method_10_code, exceptionTable := #[], attributes := #[] }
def k2m1 : Method := { name := "writeDigits", desc := "(JI[BI)I", sig := { parameters := [.long, .int, (.array .byte), .int], returnType := some .int }, accessFlags := 9, code := some k2c1 }
/-- com/example/rowcast/rowcast/number/IntText -/
def k2 : Class := { plain "com/example/rowcast/rowcast/number/IntText" (some 0) with
  accessFlags := 33
  interfaces := #[]
  cf := some (fileOf pool2 8 #[] #[{ accessFlags := 2, nameIndex := 5, descriptorIndex := 6, attributes := #[] }, { accessFlags := 9, nameIndex := 43, descriptorIndex := 44, attributes := #[] }] 33 2 #[] #[{ accessFlags := 25, nameIndex := 113, descriptorIndex := 114, attributes := #[] }, { accessFlags := 25, nameIndex := 117, descriptorIndex := 114, attributes := #[] }, { accessFlags := 26, nameIndex := 119, descriptorIndex := 19, attributes := #[] }, { accessFlags := 26, nameIndex := 120, descriptorIndex := 114, attributes := #[] }, { accessFlags := 26, nameIndex := 122, descriptorIndex := 19, attributes := #[] }, { accessFlags := 26, nameIndex := 18, descriptorIndex := 19, attributes := #[] }, { accessFlags := 26, nameIndex := 68, descriptorIndex := 69, attributes := #[] }])
  fields := #[{ name := "MAX_LENGTH", type := .int, accessFlags := 25, slot := 0, constantValue := 0 }, { name := "MAX_WIDE_LENGTH", type := .int, accessFlags := 25, slot := 1, constantValue := 0 }, { name := "LIMB_MASK", type := .long, accessFlags := 26, slot := 2, constantValue := 0 }, { name := "GROUP_DIGITS", type := .int, accessFlags := 26, slot := 3, constantValue := 0 }, { name := "GROUP", type := .long, accessFlags := 26, slot := 4, constantValue := 0 }, { name := "LAST_SAFE_MAGNITUDE", type := .long, accessFlags := 26, slot := 5, constantValue := 0 }, { name := "POWERS_OF_TEN", type := (.array .long), accessFlags := 26, slot := 6, constantValue := 0 }]
  methods := #[k2m0, k2m1]
  instanceTypes := #[]
  staticTypes := #[.int, .int, .long, .int, .long, .long, (.array .long)]
  resolved := Array.replicate 144 none
  statics := none }

def pool3 : Array CpInfo := pool [(1, u "java/lang/Cloneable"), (0, .class_ 1), (0, u "java/lang/Object"), (0, .class_ 3)] 3

/-- java/lang/Cloneable -/
def k3 : Class := { plain "java/lang/Cloneable" (some 0) with
  accessFlags := 1537
  interfaces := #[]
  cf := some (fileOf pool3 2 #[] #[] 1537 4 #[] #[])
  fields := #[]
  methods := #[]
  instanceTypes := #[]
  staticTypes := #[]
  resolved := Array.replicate 8 none
  statics := none }

def pool4 : Array CpInfo := pool [(1, u "java/io/Serializable"), (0, .class_ 1), (0, u "java/lang/Object"), (0, .class_ 3)] 3

/-- java/io/Serializable -/
def k4 : Class := { plain "java/io/Serializable" (some 0) with
  accessFlags := 1537
  interfaces := #[]
  cf := some (fileOf pool4 2 #[] #[] 1537 4 #[] #[])
  fields := #[]
  methods := #[]
  instanceTypes := #[]
  staticTypes := #[]
  resolved := Array.replicate 8 none
  statics := none }

/-- the primitive byte -/
def k5 : Class := { plain "byte" none with kind := .primitive 'B', accessFlags := 0x411 }
/-- [B -/
def k6 : Class := { plain "[B" (some 0) with kind := .array 5 .byte, interfaces := #[3, 4], accessFlags := 1041 }

/-- the primitive int -/
def k7 : Class := { plain "int" none with kind := .primitive 'I', accessFlags := 0x411 }
/-- [I -/
def k8 : Class := { plain "[I" (some 0) with kind := .array 7 .int, interfaces := #[3, 4], accessFlags := 1041 }

/-- the primitive long -/
def k9 : Class := { plain "long" none with kind := .primitive 'J', accessFlags := 0x411 }
/-- [J -/
def k10 : Class := { plain "[J" (some 0) with kind := .array 9 .long, interfaces := #[3, 4], accessFlags := 1041 }

def heap : Heap := #[]
def classes : Array Class := #[k0, k1, k2, k3, k4, k5, k6, k7, k8, k9, k10]
def interned : List (Array UInt16 × Addr) := []
def slotsUsed : Nat := 0
def theMethod : MethodId := ⟨1, 1⟩
def args0 : Array Value := #[.long 5, .int 5, .int 5, .int 5, .int 5]
def aboutOver (below : List Frame) : State where
  vm := { classes := classes, interned := interned.toArray }
  heap := heap
  slotsUsed := slotsUsed
  threads := #[{ frames := .invoking theMethod args0 :: below }]
def below0 : List Frame := [.native { method := ⟨0, 0⟩, args := #[] }]
def about1 : State := aboutOver below0
def p0 : Program := .bare "" "" ""
def e0 : Env := launch0.env 0 0 0
theorem w_frames : about1.frames = Frame.invoking theMethod args0 :: below0 := rfl
set_option maxRecDepth 65536 in
theorem w_args : argsFit about1.vm theMethod args0 = true := by decide +kernel
set_option maxRecDepth 65536 in
theorem w_heap : heapFits about1 = true := by decide +kernel
set_option maxRecDepth 65536 in
theorem w_runnable : about1.curStatus? = some .runnable := by decide +kernel
set_option maxRecDepth 65536 in
theorem w_alone : about1.alone = true := by decide +kernel
set_option maxRecDepth 65536 in
theorem w_named : about1.methodNamed? x = some theMethod := by decide +kernel
set_option maxRecDepth 65536 in
theorem w_hears : about1.hears theMethod below0 = true := by decide +kernel
set_option maxRecDepth 65536 in
theorem w_ripe : about1.ripe theMethod args0 below0 = true := by decide +kernel
theorem w_running : about1.status = .running := rfl
set_option maxRecDepth 65536 in
theorem w_room : about1.hasRoom e0.platform room_1 = true :=
  launch0.hasRoom_least _ room_1 (by decide +kernel) (by decide +kernel) (by decide +kernel) (by decide +kernel) (by decide +kernel) (by decide +kernel)
theorem allAtoms_all (ts : List Jvm.Cond) (a : Array Jvm.Value) (st : Jvm.State) : (allAtoms ts).before a st = ts.all (fun c => c.before a st) := by
  induction ts with
  | nil => rfl
  | cons c t ih =>
    show (Jvm.Cond.and c (allAtoms t)).before a st = _
    rw [Jvm.Cond.before_and, ih, List.all_cons]
def words1 : List Jvm.Cond := Jvm.Cond.code x code maxLocals ret :: tables_1
/-- a 'code' word, met by the world's own term for the bytes: nothing is compared byte by byte -/
theorem code_word {y : MethodName} {bytes : ByteArray} {mx : Nat} {rt : Option FieldType} {a : Array Value} {s : State} {m : MethodId} {meth : Method} {c : Code} (h1 : s.methodNamed? y = some m) (h2 : s.vm.method? m = some meth) (h3 : meth.code = some c) (h4 : c.code = bytes)
    (h5 : (c.maxLocals == mx && c.exceptionTable.isEmpty && decide (c.maxStack ≤ mostOperands) && decide (meth.sig.returnType = rt) && !meth.locks && decide (parseMethodDescriptor y.desc = some meth.sig)) = true) : (Jvm.Cond.code y bytes mx rt).before a s = true := by
  simp only [Bool.and_eq_true, beq_iff_eq, Bool.not_eq_true', decide_eq_true_eq] at h5
  obtain ⟨⟨⟨⟨⟨g1, g2⟩, g3⟩, g4⟩, g5⟩, g6⟩ := h5
  simp [Cond.before, Cond.holds, Cond.value, h1, h2, h3, h4, g1, g2, g3, g4, g5, g6]
def isCode : Jvm.Cond → Bool
  | .code _ _ _ _ => true
  | _ => false
theorem all_split {L : List Jvm.Cond} {P : Jvm.Cond → Bool} (h1 : L.all (fun c => isCode c || P c) = true) (h2 : ∀ c ∈ L.filter isCode, P c = true) : L.all P = true := by
  refine List.all_eq_true.mpr fun c hc => ?_
  have h := List.all_eq_true.mp h1 c hc
  rcases Bool.eq_false_or_eq_true (isCode c) with hi | hi
  · exact h2 c (List.mem_filter.mpr ⟨hc, hi⟩)
  · simpa [hi] using h
set_option maxRecDepth 65536 in
theorem w_c0 : (Jvm.Cond.code x code maxLocals ret).before args0 about1 = true := code_word (m := ⟨1, 1⟩) (meth := k1m1) (c := k1c1) (by decide +kernel) rfl rfl rfl (by decide +kernel)
set_option maxRecDepth 65536 in
theorem w_c1 : (Jvm.Cond.code ({ cls := "com/example/rowcast/rowcast/number/IntText", name := "writeDigits", desc := "(JI[BI)I" } : Jvm.MethodName) prog_65_method_10_code (8 : Nat) (Option.some Jvm.ClassFile.FieldType.int)).before args0 about1 = true := code_word (m := ⟨2, 1⟩) (meth := k2m1) (c := k2c1) (by decide +kernel) rfl rfl rfl (by decide +kernel)
set_option maxRecDepth 65536 in
theorem w_c2 : (Jvm.Cond.code ({ cls := "com/example/rowcast/rowcast/number/IntTextWriteDigitsPinLaw", name := "pow10", desc := "(I)J" } : Jvm.MethodName) method_3_code (2 : Nat) (Option.some Jvm.ClassFile.FieldType.long)).before args0 about1 = true := code_word (m := ⟨1, 2⟩) (meth := k1m2) (c := k1c2) (by decide +kernel) rfl rfl rfl (by decide +kernel)
def codes1 : List Jvm.Cond := [Jvm.Cond.code x code maxLocals ret, Jvm.Cond.code ({ cls := "com/example/rowcast/rowcast/number/IntText", name := "writeDigits", desc := "(JI[BI)I" } : Jvm.MethodName) prog_65_method_10_code (8 : Nat) (Option.some Jvm.ClassFile.FieldType.int), Jvm.Cond.code ({ cls := "com/example/rowcast/rowcast/number/IntTextWriteDigitsPinLaw", name := "pow10", desc := "(I)J" } : Jvm.MethodName) method_3_code (2 : Nat) (Option.some Jvm.ClassFile.FieldType.long)]
set_option maxRecDepth 65536 in
theorem codes_eq : words1.filter isCode = codes1 := rfl
theorem w_codes : ∀ c ∈ words1.filter isCode, c.before args0 about1 = true := by
  rw [codes_eq]
  intro c hc
  simp only [codes1, List.mem_cons, List.not_mem_nil, or_false] at hc
  rcases hc with rfl | rfl | rfl
  · exact w_c0
  · exact w_c1
  · exact w_c2
set_option maxRecDepth 65536 in
theorem w_t1 : (words1.take 24).all (fun c => isCode c || c.before args0 about1) = true := by decide +kernel
set_option maxRecDepth 65536 in
theorem w_t2 : (words1.drop 24).all (fun c => isCode c || c.before args0 about1) = true := by decide +kernel
theorem w_tables : (allAtoms (Jvm.Cond.code x code maxLocals ret :: tables_1)).before args0 about1 = true := by
  rw [allAtoms_all]
  show words1.all (fun c => c.before args0 about1) = true
  refine all_split ?_ w_codes
  rw [← List.take_append_drop 24 words1, List.all_append, w_t1, w_t2]
  rfl
set_option maxRecDepth 65536 in
theorem w_case : (Jvm.Cond.and given_1 narrow_1).before args0 about1 = true := by decide +kernel
theorem w_applies : (headSpec (Jvm.Cond.code x code maxLocals ret :: tables_1) room_1).applies x e0.platform about1 = true :=
  (Spec.applies_iff w_frames).mpr ⟨w_running, w_runnable, w_alone, w_named, w_hears, w_ripe, w_room, w_tables⟩
theorem atStart : AtStart classFile x code maxLocals ret World_1 tables_1 room_1 Calls_1 rest_1 Pre_1 launch0 p0 e0 about1 theMethod args0 below0 :=
  ⟨lists_1, trivial, launch0.admits_env _ _ _, launch0.least_env, fairChoices_fair.cas, fairChoices_fair.clock, w_frames, w_args, w_heap, w_applies, trivial, trivial, w_case⟩
end start1
theorem witness_1 : WitnessClaimed_1 := ⟨start1.p0, start1.e0, start1.about1, start1.theMethod, start1.args0, start1.below0, start1.atStart⟩
end Jvm.Pilot.@@N@@
