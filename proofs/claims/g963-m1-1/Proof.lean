import JvmDerived
import JvmDerived.Pilot.@@N@@Statement
import JvmDerived.Pilot.@@N@@Code
set_option linter.unusedVariables false
set_option linter.unusedSimpArgs false
namespace Jvm.RoadKit
open Sem ClassFile Op Lib Jvm.Stand Jvm.Free Jvm.LawKit
section New
variable {p : Program} {l : Launch} {e : Env} {R : Room} {s : State} {m : MethodId} {args : Array Value} {below : List Frame} {meth : Method} {c : Code} {T : State} {locs : List Loc} {cells slots : Nat}
theorem retI (X : Stand p l e R s m args below meth c T locs cells slots) (hx : p.tables.exec = Jvm.exec) {pc : Nat} {Ls : Array Slot} {z : Int32} {rest : List Value} (hret : meth.sig.returnType = some .int) (hd : decode c.code pc = .ok (.ireturn, 1)) {fs : List Frame}
    (hl : ∀ (f : JFrame) (acts : List Action), f.method = m → f.locked = none → f.entered = [] → (doReturn e (T.setTop f) acts (some (.int z))).1 = T.setFrames fs) : Steps p.tables e below (T.setTop (mkF m pc Ls (.int z :: rest))) (T.setFrames fs) := by
  have hm' : T.vm.method? m = some meth := X.method'
  have hn : narrow .int (.int z) = .int z := rfl
  show Steps p.tables e below (T.setTop { method := m, pc := pc, locals := Ls, stack := _ :: rest, locked := none }) _
  jvm_step X.here [X.here.top, hx, hd, hm', hret, hn]
  first | (intro acts; rw [hl _ acts rfl rfl rfl]) | rw [hl _ _ rfl rfl rfl]
  exact Steps.refl _
def own_shrL (x : Int64) (y : Int32) : Int64 := (x.toUInt64 >>> (y &&& 0x3f).toInt64.toUInt64).toInt64
def own_shrI (x y : Int32) : Int32 := (x.toUInt32 >>> (y &&& 31).toUInt32).toInt32
theorem own_go {tb : Tables} {T' : State} {f f' : JFrame} {G : State → Outcome → Prop} (k : ∀ t, Steps tb e below (T'.setTop f') t → Steps tb e below (T.setTop f) t) (h : ∃ s₂ o, Steps tb e below (T'.setTop f') s₂ ∧ G s₂ o) : ∃ s₂ o, Steps tb e below (T.setTop f) s₂ ∧ G s₂ o := by
  obtain ⟨s₂, o, a, b⟩ := h
  exact ⟨s₂, o, k _ a, b⟩
theorem own_vs {Q : Option Value → Heap → List Loc → Prop} {rc rs : Nat} {g : JFrame} {rest : List Value} (H : ∃ (v : Option Value) (vm₁ : Vm) (B : Pt), s.WarmedH vm₁ ∧ Stand p l e R s m args below meth c B.U B.locs B.cells B.slots ∧ (∃ L, Q v B.U.heap L ∧ B.locs = locs ++ L ∧ B.cells = cells + rc ∧ B.slots = slots + rs) ∧
      Steps p.tables e below (T.setTop g) (B.U.setTop { g with pc := g.pc + 3, stack := v.toList ++ rest })) :
    ∃ (v : Option Value) (vm₁ : Vm) (B : Pt), s.WarmedH vm₁ ∧ Stand p l e R s m args below meth c B.U B.locs B.cells B.slots ∧ (∃ L, Q v B.U.heap L ∧ B.locs = locs ++ L ∧ B.cells = cells + rc ∧ B.slots = slots + rs) ∧
      ∀ target, Steps p.tables e below (B.U.setTop { g with pc := g.pc + 3, stack := v.toList ++ rest }) target → Steps p.tables e below (T.setTop g) target := by
  obtain ⟨v, vm₁, B, w, X', q, st⟩ := H
  exact ⟨v, vm₁, B, w, X', q, fun t k => st.trans k⟩
theorem own_pf0 {Q : Option Value → Heap → List Loc → Prop} {Q2 : Heap → Prop} {rc rs k1 k2 n0 : Nat} {vv : Option Value} {g : JFrame} {rest : List Value} (N : Fr n0 locs) (H : ∃ (v : Option Value) (vm₁ : Vm) (B : Pt), s.WarmedH vm₁ ∧ Stand p l e R s m args below meth c B.U B.locs B.cells B.slots ∧ (∃ L, Q v B.U.heap L ∧ B.locs = locs ++ L ∧ B.cells = cells + rc ∧ B.slots = slots + rs) ∧
      ∀ target, Steps p.tables e below (B.U.setTop { g with pc := g.pc + 3, stack := v.toList ++ rest }) target → Steps p.tables e below (T.setTop g) target) (hv : ∀ v h L, Q v h L → v = vv ∧ Fr n0 L ∧ Q2 h) (hk : cells + rc = k1) (hn : slots + rs = k2) :
    ∃ (T' : State) (L : List Loc), Stand p l e R s m args below meth c T' L k1 k2 ∧ Fr n0 L ∧ Q2 T'.heap ∧ ∀ target, Steps p.tables e below (T'.setTop { g with pc := g.pc + 3, stack := (vv).toList ++ rest }) target → Steps p.tables e below (T.setTop g) target := by
  obtain ⟨v, vm₁, ⟨T', L', k', n'⟩, -, X', ⟨L, hQ, e1, e2, e3⟩, st⟩ := H
  obtain ⟨rfl, hN, hQ⟩ := hv _ _ _ hQ
  cases e1; cases e2; cases e3; cases hk; cases hn
  exact ⟨T', _, X', N.app hN, hQ, st⟩
theorem own_pf1 {α : Type} {Q : Option Value → Heap → List Loc → Prop} {Q2 : α → Heap → Prop} {rc rs k1 k2 n0 : Nat} {vv : α → Option Value} {g : JFrame} {rest : List Value} (N : Fr n0 locs) (H : ∃ (v : Option Value) (vm₁ : Vm) (B : Pt), s.WarmedH vm₁ ∧ Stand p l e R s m args below meth c B.U B.locs B.cells B.slots ∧ (∃ L, Q v B.U.heap L ∧ B.locs = locs ++ L ∧ B.cells = cells + rc ∧ B.slots = slots + rs) ∧
      ∀ target, Steps p.tables e below (B.U.setTop { g with pc := g.pc + 3, stack := v.toList ++ rest }) target → Steps p.tables e below (T.setTop g) target) (hv : ∀ v h L, Q v h L → ∃ (x0 : α), v = vv x0 ∧ Fr n0 L ∧ Q2 x0 h) (hk : cells + rc = k1) (hn : slots + rs = k2) :
    ∃ (T' : State) (L : List Loc) (x0 : α), Stand p l e R s m args below meth c T' L k1 k2 ∧ Fr n0 L ∧ Q2 x0 T'.heap ∧ ∀ target, Steps p.tables e below (T'.setTop { g with pc := g.pc + 3, stack := (vv x0).toList ++ rest }) target → Steps p.tables e below (T.setTop g) target := by
  obtain ⟨v, vm₁, ⟨T', L', k', n'⟩, -, X', ⟨L, hQ, e1, e2, e3⟩, st⟩ := H
  obtain ⟨x0, rfl, hN, hQ⟩ := hv _ _ _ hQ
  cases e1; cases e2; cases e3; cases hk; cases hn
  exact ⟨T', _, x0, X', N.app hN, hQ, st⟩
theorem own_pf2 {α β : Type} {Q : Option Value → Heap → List Loc → Prop} {Q2 : α → β → Heap → Prop} {rc rs k1 k2 n0 : Nat} {vv : α → β → Option Value} {g : JFrame} {rest : List Value} (N : Fr n0 locs) (H : ∃ (v : Option Value) (vm₁ : Vm) (B : Pt), s.WarmedH vm₁ ∧ Stand p l e R s m args below meth c B.U B.locs B.cells B.slots ∧ (∃ L, Q v B.U.heap L ∧ B.locs = locs ++ L ∧ B.cells = cells + rc ∧ B.slots = slots + rs) ∧
      ∀ target, Steps p.tables e below (B.U.setTop { g with pc := g.pc + 3, stack := v.toList ++ rest }) target → Steps p.tables e below (T.setTop g) target) (hv : ∀ v h L, Q v h L → ∃ (x0 : α) (x1 : β), v = vv x0 x1 ∧ Fr n0 L ∧ Q2 x0 x1 h) (hk : cells + rc = k1) (hn : slots + rs = k2) :
    ∃ (T' : State) (L : List Loc) (x0 : α) (x1 : β), Stand p l e R s m args below meth c T' L k1 k2 ∧ Fr n0 L ∧ Q2 x0 x1 T'.heap ∧ ∀ target, Steps p.tables e below (T'.setTop { g with pc := g.pc + 3, stack := (vv x0 x1).toList ++ rest }) target → Steps p.tables e below (T.setTop g) target := by
  obtain ⟨v, vm₁, ⟨T', L', k', n'⟩, -, X', ⟨L, hQ, e1, e2, e3⟩, st⟩ := H
  obtain ⟨x0, x1, rfl, hN, hQ⟩ := hv _ _ _ hQ
  cases e1; cases e2; cases e3; cases hk; cases hn
  exact ⟨T', _, x0, x1, X', N.app hN, hQ, st⟩
theorem own_cut {tb : Tables} {f f' : JFrame} {G : State → Outcome → Prop} {P : State → Prop} (h1 : (∀ T', P T' → ∃ s₂ o, Steps tb e below (T'.setTop f') s₂ ∧ G s₂ o) → ∃ s₂ o, Steps tb e below (T.setTop f) s₂ ∧ G s₂ o) (h2 : ∀ T', P T' → ∃ s₂ o, Steps tb e below (T'.setTop f') s₂ ∧ G s₂ o) : ∃ s₂ o, Steps tb e below (T.setTop f) s₂ ∧ G s₂ o := h1 h2
end New
abbrev own_One (o : Slot) : Prop := o = .unset ∨ ∃ w, o = .val w ∧ w.category = 1
section Arrays
variable {p : Program} {l : Launch} {e : Env} {R : Room} {s : State} {m : MethodId} {args : Array Value} {below : List Frame} {meth : Method} {c : Code} {T : State} {locs : List Loc} {cells slots : Nat} {Z : State} {h h' : Heap} {a b : Addr} {ty : FieldType} {z : Int32} {f : Nat → Int32} {fj : Nat → Int64} {ws : List Addr} {sl : Nat} {v : Value}
def own_ArI (Z : State) (h : Heap) (a : Addr) (ty : FieldType) (z : Int32) (f : Nat → Int32) : Prop := ∃ c : Cell, Arr Z h a c ty ∧ c.slots.size = z.toInt.toNat ∧ 0 ≤ z.toInt ∧ ∀ i, i < z.toInt.toNat → c.slots[i]? = some (.int (f i)) ∧ fits ty (.int (f i)) = true
def own_ArJ (Z : State) (h : Heap) (a : Addr) (ty : FieldType) (z : Int32) (f : Nat → Int64) : Prop := ∃ c : Cell, Arr Z h a c ty ∧ c.slots.size = z.toInt.toNat ∧ 0 ≤ z.toInt ∧ ∀ i, i < z.toInt.toNat → c.slots[i]? = some (.long (f i))
theorem own_ArI.lt (F : own_ArI Z h a ty z f) : a < h.size := by obtain ⟨c, A, -⟩ := F; exact A.lt
theorem own_ArJ.lt (F : own_ArJ Z h a ty z fj) : a < h.size := by obtain ⟨c, A, -⟩ := F; exact A.lt
theorem own_ArI.ext (F : own_ArI Z h a ty z f) (E : Ext h h') : own_ArI Z h' a ty z f := by obtain ⟨c, A, r⟩ := F; exact ⟨c, A.ext E, r⟩
theorem own_ArJ.ext (F : own_ArJ Z h a ty z fj) (E : Ext h h') : own_ArJ Z h' a ty z fj := by obtain ⟨c, A, r⟩ := F; exact ⟨c, A.ext E, r⟩
theorem own_ArI.other (F : own_ArI Z h b ty z f) (W : Wr h h' a sl v) (q : b ≠ a) : own_ArI Z h' b ty z f := by obtain ⟨c, A, r⟩ := F; exact ⟨c, A.other W q, r⟩
theorem own_ArJ.other (F : own_ArJ Z h b ty z fj) (W : Wr h h' a sl v) (q : b ≠ a) : own_ArJ Z h' b ty z fj := by obtain ⟨c, A, r⟩ := F; exact ⟨c, A.other W q, r⟩
theorem own_ArI.keep (F : own_ArI Z h a ty z f) (K : Keep h h' ws) (q : a ∉ ws) : own_ArI Z h' a ty z f := by obtain ⟨c, A, r⟩ := F; exact ⟨c, ⟨K.2.1 a c A.1 q, A.2⟩, r⟩
theorem own_ArJ.keep (F : own_ArJ Z h a ty z fj) (K : Keep h h' ws) (q : a ∉ ws) : own_ArJ Z h' a ty z fj := by obtain ⟨c, A, r⟩ := F; exact ⟨c, ⟨K.2.1 a c A.1 q, A.2⟩, r⟩
theorem own_nn (q : ¬ z < 0) : 0 ≤ z.toInt := by rw [Int32.lt_iff_toInt_lt] at q; have e0 : (0 : Int32).toInt = 0 := rfl; omega
theorem own_ArI.new {k : ClassId} (A : Arr Z h a (newA k ty z) ty) (q : ¬ z < 0) (hd : defaultValue ty = .int 0) (hf : fits ty (.int 0) = true := by rfl) : own_ArI Z h a ty z (fun _ => 0) :=
  ⟨_, A, sz_new _ _ _, own_nn q, fun i hi => ⟨by have hi' : i < z.toNatClampNeg := hi; simp [newA, hd, hi'], hf⟩⟩
theorem own_ArJ.new {k : ClassId} (A : Arr Z h a (newA k ty z) ty) (q : ¬ z < 0) (hd : defaultValue ty = .long 0) : own_ArJ Z h a ty z (fun _ => 0) :=
  ⟨_, A, sz_new _ _ _, own_nn q, fun i hi => by have hi' : i < z.toNatClampNeg := hi; simp [newA, hd, hi']⟩
theorem own_in {j : Int32} {n : Nat} (hn : n = z.toInt.toNat) (h1 : 0 ≤ j.toInt) (h2 : j.toInt < z.toInt) : ¬ (j < 0 ∨ n ≤ j.toNatClampNeg) := by
  have e0 : (0 : Int32).toInt = 0 := rfl
  rw [Int32.lt_iff_toInt_lt, hn]; show ¬ (_ ∨ _ ≤ j.toInt.toNat); omega
theorem own_ArI.set (F : own_ArI Z h a ty z f) {j : Nat} {x : Int32} (W : Wr h h' a j (.int x)) (hx : fits ty (.int x) = true) : own_ArI Z h' a ty z (fun i => if i = j then x else f i) := by
  obtain ⟨c, A, S, q, H⟩ := F
  refine ⟨_, A.same W, by rw [sz_set]; exact S, q, fun i hi => ?_⟩
  by_cases e : i = j
  · subst e
    have hlt : i < c.slots.size := by rw [S]; exact hi
    simp only [if_pos]
    exact ⟨by simp [Cell.setSlot, hlt], hx⟩
  · simp only [if_neg e]
    have hne : (c.setSlot j (.int x)).slots[i]? = c.slots[i]? := by simp only [Cell.setSlot]; exact Array.getElem?_setIfInBounds_ne (Ne.symm e)
    rw [hne]; exact H i hi
theorem own_ArJ.set (F : own_ArJ Z h a ty z fj) {j : Nat} {x : Int64} (W : Wr h h' a j (.long x)) : own_ArJ Z h' a ty z (fun i => if i = j then x else fj i) := by
  obtain ⟨c, A, S, q, H⟩ := F
  refine ⟨_, A.same W, by rw [sz_set]; exact S, q, fun i hi => ?_⟩
  by_cases e : i = j
  · subst e
    have hlt : i < c.slots.size := by rw [S]; exact hi
    simp only [if_pos]
    simp [Cell.setSlot, hlt]
  · simp only [if_neg e]
    have hne : (c.setSlot j (.long x)).slots[i]? = c.slots[i]? := by simp only [Cell.setSlot]; exact Array.getElem?_setIfInBounds_ne (Ne.symm e)
    rw [hne]; exact H i hi
theorem own_ldB (X : Stand p l e R s m args below meth c T locs cells slots) (hx : p.tables.exec = Jvm.exec) (hZ : Z.Warmed39 s.vm) (eT : T.heap = h) (A : own_ArI Z h a .byte z f) {j : Int32} (h1 : 0 ≤ j.toInt) (h2 : j.toInt < z.toInt) {g : JFrame} (hg : g.method = m) {rest : List Value} (hs : g.stack = .int j :: .ref a :: rest) (hd : decode c.code g.pc = .ok (.baload, 1)) (target : State)
    (k : Steps p.tables e below (T.setTop { g with pc := g.pc + 1, stack := .int (f j.toInt.toNat) :: rest }) target) : Steps p.tables e below (T.setTop g) target := by
  obtain ⟨cl, A, S, q, H⟩ := A
  exact X.baloadBytes hx (j := j) (v := .int (f j.toInt.toNat)) (by rw [eT]; exact A.1) (State.isArrayOf_alike hZ.alike A.2.1) A.2.2 (own_in S h1 h2) (H j.toInt.toNat (by omega)).1 hg hs hd target k
theorem own_ldJ (X : Stand p l e R s m args below meth c T locs cells slots) (hx : p.tables.exec = Jvm.exec) (hZ : Z.Warmed39 s.vm) (eT : T.heap = h) (A : own_ArJ Z h a .long z fj) {j : Int32} (h1 : 0 ≤ j.toInt) (h2 : j.toInt < z.toInt) {g : JFrame} (hg : g.method = m) {rest : List Value} (hs : g.stack = .int j :: .ref a :: rest) (hd : decode c.code g.pc = .ok (.laload, 1)) (target : State)
    (k : Steps p.tables e below (T.setTop { g with pc := g.pc + 1, stack := .long (fj j.toInt.toNat) :: rest }) target) : Steps p.tables e below (T.setTop g) target := by
  obtain ⟨cl, A, S, q, H⟩ := A
  exact X.laload hx (j := j) (v := .long (fj j.toInt.toNat)) (by rw [eT]; exact A.1) (State.isArrayOf_alike hZ.alike A.2.1) A.2.2 (own_in S h1 h2) (H j.toInt.toNat (by omega)) hg hs hd target k
theorem own_stB (X : Stand p l e R s m args below meth c T locs cells slots) (hx : p.tables.exec = Jvm.exec) (hZ : Z.Warmed39 s.vm) (eT : T.heap = h) (A : own_ArI Z h a .byte z f) {j x : Int32} (h1 : 0 ≤ j.toInt) (h2 : j.toInt < z.toInt) {g : JFrame} (hg : g.method = m) {rest : List Value} (hs : g.stack = .int x :: .int j :: .ref a :: rest) (hd : decode c.code g.pc = .ok (.bastore, 1)) :
    ∃ (T' : State) (h' : Heap) (f' : Nat → Int32), Stand p l e R s m args below meth c T' (locs ++ [⟨a, j.toInt.toNat⟩]) cells slots ∧ T'.heap = h' ∧ Wr h h' a j.toInt.toNat (.int (nar .byte x)) ∧ own_ArI Z h' a .byte z f' ∧ f' j.toInt.toNat = nar .byte x ∧ (∀ i, i ≠ j.toInt.toNat → f' i = f i) ∧
      ∀ target, Steps p.tables e below (T'.setTop { g with pc := g.pc + 1, stack := rest }) target → Steps p.tables e below (T.setTop g) target := by
  have A' := A
  obtain ⟨cl, B, S, q, H⟩ := A
  obtain ⟨T', h', X', e', W, st⟩ := stB X hx hZ eT B (j := j) (x := x) (own_in S h1 h2) hg hs hd
  exact ⟨T', h', _, X', e', W, A'.set W (fits_nar_byte x), if_pos rfl, fun i hi => if_neg hi, st⟩
theorem own_stC (X : Stand p l e R s m args below meth c T locs cells slots) (hx : p.tables.exec = Jvm.exec) (hZ : Z.Warmed39 s.vm) (eT : T.heap = h) (A : own_ArI Z h a .char z f) {j x : Int32} (h1 : 0 ≤ j.toInt) (h2 : j.toInt < z.toInt) {g : JFrame} (hg : g.method = m) {rest : List Value} (hs : g.stack = .int x :: .int j :: .ref a :: rest) (hd : decode c.code g.pc = .ok (.castore, 1)) :
    ∃ (T' : State) (h' : Heap) (f' : Nat → Int32), Stand p l e R s m args below meth c T' (locs ++ [⟨a, j.toInt.toNat⟩]) cells slots ∧ T'.heap = h' ∧ Wr h h' a j.toInt.toNat (.int (nar .char x)) ∧ own_ArI Z h' a .char z f' ∧ f' j.toInt.toNat = nar .char x ∧ (∀ i, i ≠ j.toInt.toNat → f' i = f i) ∧
      ∀ target, Steps p.tables e below (T'.setTop { g with pc := g.pc + 1, stack := rest }) target → Steps p.tables e below (T.setTop g) target := by
  have A' := A
  obtain ⟨cl, B, S, q, H⟩ := A
  obtain ⟨T', h', X', e', W, st⟩ := stC X hx hZ eT B (j := j) (x := x) (own_in S h1 h2) hg hs hd
  exact ⟨T', h', _, X', e', W, A'.set W (fits_nar_char x), if_pos rfl, fun i hi => if_neg hi, st⟩
theorem own_stJ (X : Stand p l e R s m args below meth c T locs cells slots) (hx : p.tables.exec = Jvm.exec) (hZ : Z.Warmed39 s.vm) (eT : T.heap = h) (A : own_ArJ Z h a .long z fj) {j : Int32} {x : Int64} (h1 : 0 ≤ j.toInt) (h2 : j.toInt < z.toInt) {g : JFrame} (hg : g.method = m) {rest : List Value} (hs : g.stack = .long x :: .int j :: .ref a :: rest) (hd : decode c.code g.pc = .ok (.lastore, 1)) :
    ∃ (T' : State) (h' : Heap) (f' : Nat → Int64), Stand p l e R s m args below meth c T' (locs ++ [⟨a, j.toInt.toNat⟩]) cells slots ∧ T'.heap = h' ∧ Wr h h' a j.toInt.toNat (.long x) ∧ own_ArJ Z h' a .long z f' ∧ f' j.toInt.toNat = x ∧ (∀ i, i ≠ j.toInt.toNat → f' i = fj i) ∧
      ∀ target, Steps p.tables e below (T'.setTop { g with pc := g.pc + 1, stack := rest }) target → Steps p.tables e below (T.setTop g) target := by
  have A' := A
  obtain ⟨cl, B, S, q, H⟩ := A
  obtain ⟨T', h', X', e', W, st⟩ := stJ X hx hZ eT B (j := j) (x := x) (own_in S h1 h2) hg hs hd
  exact ⟨T', h', _, X', e', W, A'.set W, if_pos rfl, fun i hi => if_neg hi, st⟩
theorem own_ArI.len (A : own_ArI Z h a ty z f) (X : Stand p l e R s m args below meth c T locs cells slots) (hx : p.tables.exec = Jvm.exec) (hZ : Z.Warmed39 s.vm) (eT : T.heap = h) {g : JFrame} (hg : g.method = m) {rest : List Value} (hs : g.stack = .ref a :: rest) (hd : decode c.code g.pc = .ok (.arraylength, 1)) (target : State)
    (k : Steps p.tables e below (T.setTop { g with pc := g.pc + 1, stack := .int z :: rest }) target) : Steps p.tables e below (T.setTop g) target := by
  obtain ⟨cl, B, S, q, -⟩ := A
  refine X.arraylength hx (by rw [eT]; exact B.1) (State.isArrayOf_alike hZ.alike B.2.1) hg hs hd target ?_
  rw [len_of (z := z) S (by rw [Int32.lt_iff_toInt_lt]; have e0 : (0 : Int32).toInt = 0 := rfl; omega)]; exact k
theorem own_ArJ.len (A : own_ArJ Z h a ty z fj) (X : Stand p l e R s m args below meth c T locs cells slots) (hx : p.tables.exec = Jvm.exec) (hZ : Z.Warmed39 s.vm) (eT : T.heap = h) {g : JFrame} (hg : g.method = m) {rest : List Value} (hs : g.stack = .ref a :: rest) (hd : decode c.code g.pc = .ok (.arraylength, 1)) (target : State)
    (k : Steps p.tables e below (T.setTop { g with pc := g.pc + 1, stack := .int z :: rest }) target) : Steps p.tables e below (T.setTop g) target := by
  obtain ⟨cl, B, S, q, -⟩ := A
  refine X.arraylength hx (by rw [eT]; exact B.1) (State.isArrayOf_alike hZ.alike B.2.1) hg hs hd target ?_
  rw [len_of (z := z) S (by rw [Int32.lt_iff_toInt_lt]; have e0 : (0 : Int32).toInt = 0 := rfl; omega)]; exact k
theorem own_toArv (A : own_ArI Z h a ty z f) : ∃ k, Arv Z h a k ty z ((List.range z.toInt.toNat).map fun i => Value.int (f i)) (.int 0) := by
  obtain ⟨c, B, S, q, H⟩ := A
  have g : ∀ i, i < z.toInt.toNat → ((List.range z.toInt.toNat).map fun i => Value.int (f i)).getD i (.int 0) = .int (f i) := fun i hi => by rw [List.getD_eq_getElem?_getD, List.getElem?_map, List.getElem?_range hi]; rfl
  refine ⟨_, c, B, rfl, S, by rw [Int32.lt_iff_toInt_lt]; have e0 : (0 : Int32).toInt = 0 := rfl; omega, fun i hi => ?_, fun i hi => ?_⟩
  · rw [S] at hi; rw [g i hi]; exact (H i hi).1
  · rw [S] at hi; rw [g i hi]; exact (H i hi).2
theorem own_ofArv {k : ClassId} {vs : List Value} {dv : Value} (A : Arv Z h a k ty z vs dv) (hv : ∀ i, i < z.toInt.toNat → vs.getD i dv = .int (f i)) : own_ArI Z h a ty z f := by
  obtain ⟨c, B, -, S, q, H, G⟩ := A
  have S' : c.slots.size = z.toInt.toNat := S
  exact ⟨c, B, S', own_nn q, fun i hi => ⟨by rw [← hv i hi]; exact H i (by rw [S']; exact hi), by rw [← hv i hi]; exact G i (by rw [S']; exact hi)⟩⟩
theorem own_cp (X : Stand p l e R s m args below meth c T locs cells slots) (hx : p.tables.exec = Jvm.exec) (hZ : Z.Warmed39 s.vm) {a0 : Array Value} {own : String} {index : Nat} (hown : s.vm.findClass own = some m.cls)
    (w1 : (Cond.methodLink own index Jvm.Stand.acN).before a0 Z = true) (w2 : (Cond.native Jvm.Stand.acN).before a0 Z = true) (w3 : (Cond.static Jvm.Stand.acN).before a0 Z = true) (w4 : (Cond.initialized "java/lang/System").before a0 Z = true) (eT : T.heap = h)
    {z' sp dp nn : Int32} {f2 : Nat → Int32} (A : own_ArI Z h a .byte z f) (B : own_ArI Z h b .byte z' f2) (h1 : 0 ≤ sp.toInt) (h2 : 0 ≤ dp.toInt) (h3 : 0 ≤ nn.toInt) (h4 : sp.toInt + nn.toInt ≤ z.toInt) (h5 : dp.toInt + nn.toInt ≤ z'.toInt) {n0 : Nat} (N : Fr n0 locs) (ge : n0 ≤ b)
    {g : JFrame} (hg : g.method = m) (hsize : g.locals.size = c.maxLocals) {rest : List Value} (hs : g.stack = .int nn :: .int dp :: .ref b :: .int sp :: .ref a :: rest) (hd : decode c.code g.pc = .ok (.invokestatic index, 3))
    (hf : 1 ≤ R.frames) {W : Nat} (hW : 2 * g.monitorRoom + (rest.map fun v => v.category).sum ≤ W) (hlo : W + (nativeFrameWords "java/lang/System" "arraycopy" 5 + 11) ≤ R.locals) :
    ∃ (T' : State) (h' : Heap) (L : List Loc) (f' : Nat → Int32), Stand p l e R s m args below meth c T' L cells slots ∧ T'.heap = h' ∧ Fr n0 L ∧ Keep h h' [b] ∧ own_ArI Z h' b .byte z' f' ∧ (∀ i, i < nn.toInt.toNat → f' (dp.toInt.toNat + i) = f (sp.toInt.toNat + i)) ∧ (∀ i, i < dp.toInt.toNat ∨ dp.toInt.toNat + nn.toInt.toNat ≤ i → f' i = f2 i) ∧
      ∀ target, Steps p.tables e below (T'.setTop { g with pc := g.pc + 3, stack := rest }) target → Steps p.tables e below (T.setTop g) target := by
  obtain ⟨ka, A'⟩ := own_toArv A
  obtain ⟨kb, B'⟩ := own_toArv B
  have e0 : (0 : Int32).toInt = 0 := rfl
  have nl : ∀ x : Int32, 0 ≤ x.toInt → ¬ x < 0 := fun x q => by rw [Int32.lt_iff_toInt_lt]; omega
  obtain ⟨T', h', L, X', e', N', K', V', st⟩ := cpA X hx hZ hown w1 w2 w3 w4 eT A' B' (Or.inl ⟨rfl, rfl⟩) (nl _ h1) (nl _ h2) (nl _ h3) (show sp.toInt.toNat + nn.toInt.toNat ≤ z.toInt.toNat by omega) (show dp.toInt.toNat + nn.toInt.toNat ≤ z'.toInt.toNat by omega) rfl (by show dp.toInt.toNat + nn.toInt.toNat ≤ _; simp only [List.length_map, List.length_range]; omega) N ge hg hsize hs hd hf hW hlo
  refine ⟨T', h', L, fun i => if dp.toInt.toNat ≤ i ∧ i < dp.toInt.toNat + nn.toInt.toNat then f (sp.toInt.toNat + (i - dp.toInt.toNat)) else f2 i, X', e', N', K', own_ofArv V' fun i hi => ?_, fun i hi => ?_, fun i hi => ?_, st⟩
  · have m1 : min dp.toInt.toNat z'.toInt.toNat = dp.toInt.toNat := by omega
    have gd : ∀ k, k < z'.toInt.toNat → ((List.range z'.toInt.toNat).map fun i => Value.int (f2 i))[k]? = some (.int (f2 k)) := fun k hk => by rw [List.getElem?_map, List.getElem?_range hk]; rfl
    have gs : ∀ k, k < z.toInt.toNat → ((List.range z.toInt.toNat).map fun i => Value.int (f i)).getD k (.int 0) = .int (f k) := fun k hk => by rw [List.getD_eq_getElem?_getD, List.getElem?_map, List.getElem?_range hk]; rfl
    have ll : (List.take dp.toInt.toNat ((List.range z'.toInt.toNat).map fun i => Value.int (f2 i))).length = dp.toInt.toNat := by rw [List.length_take, List.length_map, List.length_range]; exact m1
    show (List.take dp.toInt.toNat ((List.range z'.toInt.toNat).map fun i => Value.int (f2 i)) ++ (List.range nn.toInt.toNat).map (fun i => ((List.range z.toInt.toNat).map fun i => Value.int (f i)).getD (sp.toInt.toNat + i) (.int 0)) ++ List.drop (dp.toInt.toNat + nn.toInt.toNat) ((List.range z'.toInt.toNat).map fun i => Value.int (f2 i))).getD i (.int 0) = Value.int (if dp.toInt.toNat ≤ i ∧ i < dp.toInt.toNat + nn.toInt.toNat then f (sp.toInt.toNat + (i - dp.toInt.toNat)) else f2 i)
    rw [List.getD_eq_getElem?_getD, List.append_assoc]
    by_cases c1 : i < dp.toInt.toNat
    · rw [if_neg (by omega), List.getElem?_append_left (by rw [ll]; exact c1), List.getElem?_take_of_lt c1, gd i hi]; rfl
    · rw [List.getElem?_append_right (by rw [ll]; omega), ll]
      by_cases c2 : i < dp.toInt.toNat + nn.toInt.toNat
      · rw [if_pos ⟨by omega, c2⟩, List.getElem?_append_left (by rw [List.length_map, List.length_range]; omega), List.getElem?_map, List.getElem?_range (by omega)]
        exact gs _ (by omega)
      · rw [if_neg (by omega), List.getElem?_append_right (by rw [List.length_map, List.length_range]; omega), List.length_map, List.length_range, List.getElem?_drop, show dp.toInt.toNat + nn.toInt.toNat + (i - dp.toInt.toNat - nn.toInt.toNat) = i by omega, gd i hi]; rfl
  · simp only []; rw [if_pos ⟨by omega, by omega⟩, show dp.toInt.toNat + i - dp.toInt.toNat = i by omega]
  · simp only []; rw [if_neg (by omega)]
end Arrays
end Jvm.RoadKit
namespace Jvm.Pilot.@@N@@
open Jvm Jvm.ClassFile Sem Op Lib Jvm.Free Jvm.Stand Jvm.LawKit Jvm.RoadKit Bundle Jvm.Pilot.@@N@@.Jvm.D
def own_u (x : Int64) : Nat := x.toBitVec.toNat
theorem own_ui (x : Int64) : (x.toInt - own_u x) % 18446744073709551616 = 0 ∧ own_u x < 18446744073709551616 := by
  have h := x.toBitVec.isLt
  refine ⟨?_, h⟩
  show (x.toBitVec.toInt - (x.toBitVec.toNat : Int)) % _ = 0
  rw [BitVec.toInt_eq_toNat_cond]; split <;> omega
theorem own_u0 (x : Int64) : x = (0 : Int64) ↔ own_u x = 0 := by
  constructor
  · rintro rfl; rfl
  · intro h; exact Int64.toBitVec_inj.mp (BitVec.eq_of_toNat_eq h)
theorem own_ushr (x : Int64) (q : Int32) (k : Nat) (hk : q.toBitVec.toNat % 64 = k) : own_u (own_shrL x q) = own_u x / 2 ^ k := by
  have e : ((q &&& 0x3f).toInt64.toUInt64).toNat = k := by
    show (q &&& 0x3f).toInt64.toBitVec.toNat = k
    rw [(sm64 q k hk).1, BitVec.toNat_ofNat]; omega
  show (x.toUInt64 >>> (q &&& 0x3f).toInt64.toUInt64).toNat = _
  rw [UInt64.toNat_shiftRight, Nat.shiftRight_eq_div_pow, e, Nat.mod_eq_of_lt (by omega)]; rfl
theorem own_dec {j : Int32} (h : -2147483648 < j.toInt) : (j + (Int32.ofInt (-1))).toInt = j.toInt - 1 := by
  have a := c_iadd j (Int32.ofInt (-1)); have c := rng32 (j + (Int32.ofInt (-1))); have d := rng32 j
  have e1 : (Int32.ofInt (-1)).toInt = -1 := by decide
  omega
theorem own_addk (p k : Int32) (n : Nat) (hk : k.toInt = n) (h : p.toInt + n < 2147483648) : (p + k).toInt = p.toInt + n := by
  have a := c_iadd p k; have b := rng32 (p + k); have c := rng32 p
  omega
/-- what writeIntAt leaves -/
def own_WI (p v : Int32) (f f' : Nat → Int32) : Prop :=
  f' p.toInt.toNat = nar .byte ((own_shrI v (24 : Int32)).toInt8.toInt32) ∧ f' (p.toInt.toNat + 1) = nar .byte ((own_shrI v (16 : Int32)).toInt8.toInt32) ∧ f' (p.toInt.toNat + 2) = nar .byte ((own_shrI v (8 : Int32)).toInt8.toInt32) ∧ f' (p.toInt.toNat + 3) = nar .byte (v.toInt8.toInt32) ∧
  ∀ i, i < p.toInt.toNat ∨ p.toInt.toNat + 4 ≤ i → f' i = f i
theorem own_WI.mk {p v : Int32} {f f1 f2 f3 f4 : Nat → Int32} (hp : 0 ≤ p.toInt) (h1 : (p + (1 : Int32)).toInt = p.toInt + (1 : Nat)) (h2 : (p + (2 : Int32)).toInt = p.toInt + (2 : Nat)) (h3 : (p + (3 : Int32)).toInt = p.toInt + (3 : Nat))
    (a1 : f1 p.toInt.toNat = nar .byte ((own_shrI v (24 : Int32)).toInt8.toInt32)) (b1 : ∀ i, i ≠ p.toInt.toNat → f1 i = f i)
    (a2 : f2 (p + (1 : Int32)).toInt.toNat = nar .byte ((own_shrI v (16 : Int32)).toInt8.toInt32)) (b2 : ∀ i, i ≠ (p + (1 : Int32)).toInt.toNat → f2 i = f1 i)
    (a3 : f3 (p + (2 : Int32)).toInt.toNat = nar .byte ((own_shrI v (8 : Int32)).toInt8.toInt32)) (b3 : ∀ i, i ≠ (p + (2 : Int32)).toInt.toNat → f3 i = f2 i)
    (a4 : f4 (p + (3 : Int32)).toInt.toNat = nar .byte (v.toInt8.toInt32)) (b4 : ∀ i, i ≠ (p + (3 : Int32)).toInt.toNat → f4 i = f3 i) : own_WI p v f f4 := by
  rw [show (p + (1 : Int32)).toInt.toNat = p.toInt.toNat + 1 by omega] at a2 b2
  rw [show (p + (2 : Int32)).toInt.toNat = p.toInt.toNat + 2 by omega] at a3 b3
  rw [show (p + (3 : Int32)).toInt.toNat = p.toInt.toNat + 3 by omega] at a4 b4
  refine ⟨?_, ?_, ?_, a4, fun i hi => ?_⟩
  · rw [b4 _ (by omega), b3 _ (by omega), b2 _ (by omega), a1]
  · rw [b4 _ (by omega), b3 _ (by omega), a2]
  · rw [b4 _ (by omega), a3]
  · rw [b4 _ (by omega), b3 _ (by omega), b2 _ (by omega), b1 _ (by omega)]
theorem own_d1_0 : decode jdk_29_method_65_code 0 = .ok (.iload_n 0, 1) := by decide +kernel
theorem own_d1_1 : decode jdk_29_method_65_code 1 = .ok (.iload_n 1, 1) := by decide +kernel
theorem own_d1_2 : decode jdk_29_method_65_code 2 = .ok (.if_icmp .lt 7, 3) := by decide +kernel
theorem own_d1_5 : decode jdk_29_method_65_code 5 = .ok (.iload_n 0, 1) := by decide +kernel
theorem own_d1_6 : decode jdk_29_method_65_code 6 = .ok (.goto 4, 3) := by decide +kernel
theorem own_d1_9 : decode jdk_29_method_65_code 9 = .ok (.iload_n 1, 1) := by decide +kernel
theorem own_d1_10 : decode jdk_29_method_65_code 10 = .ok (.ireturn, 1) := by decide +kernel
theorem own_ef1 (m : MethodId) (p0 : Int32) (p1 : Int32) : entryFrame m #[(.int p0), (.int p1)] 2 = mkF m 0 #[.val (.int p0), .val (.int p1)] [] := by first | (simp [entryFrame, mkF, argsToLocals, Value.category]; done) | rfl
def own_F1 (p0 : Int32) (p1 : Int32) : Int32 := (if p0 < p1 then p1 else p0)
def own_Q1 (Z : State) (p0 : Int32) (p1 : Int32) (h0 : Heap) (n0 : Nat) (v : Option Value) (h : Heap) (L : List Loc) : Prop := (v = some (.int (own_F1 p0 p1))) ∧ (Fr n0 L) ∧ (h = h0)
set_option maxRecDepth 65536 in
set_option maxHeartbeats 40000000 in
theorem own_rm1 (l : Launch) (Z : State) (a0 : Array Value) (hw : ∀ d ∈ tables_1, d.before a0 Z = true) (ws : List Jvm.Cond) (p0 : Int32) (p1 : Int32) (h0 : Heap) (n0 : Nat) (Z0 : n0 ≤ h0.size) :
    MetFree l (⟨"java/lang/Math", "max", "(II)I"⟩ : MethodName) (head1 (Jvm.Cond.code (⟨"java/lang/Math", "max", "(II)I"⟩ : MethodName) jdk_29_method_65_code 2 (some .int) :: ws) ({ frames := 0, cells := 0, slots := 0, locals := 0 } : Room)) (fun a U => a = #[(.int p0), (.int p1)] ∧ Z.Warmed39 U.vm ∧ U.heap = h0) (fun _ _ _ _ _ => True) (fun _ U o U' => ∃ v L, o = .returned v ∧ own_Q1 Z p0 p1 h0 n0 v U'.heap L ∧ FrameEnd U o U' L ({ frames := 0, cells := 0, slots := 0, locals := 0 } : Room).cells ({ frames := 0, cells := 0, slots := 0, locals := 0 } : Room).slots) := by
  refine MetFree.of_bodySF (Jvm.Free.JP.mathPlain rfl (by decide +kernel)) hisR ?_
  intro p e s m args below meth c s₁ Bd hml0 hP hK
  obtain ⟨rfl, hZ, hh⟩ := hP
  have hx := Bd.exec
  have hby := Bd.bytes
  have hml : c.maxLocals = 2 := hml0
  have hown : s.vm.findClass "java/lang/Math" = some m.cls := findClass_of_methodNamed Bd.named
  have hnm := (name_of_methodNamed Bd.named Bd.method).1
  have X0 : Stand p l e ({ frames := 0, cells := 0, slots := 0, locals := 0 } : Room) s m #[(.int p0), (.int p1)] below meth c s₁ [] 0 0 := Stand.of_body Bd
  have e0 : s₁.heap = h0 := by rw [← hh, Bd.state]; rfl
  have N0 := Fr.nil n0
  refine own_go (fun t k => castTop (own_ef1 m p0 p1) k) ?_
  refine own_go (T' := s₁) (f' := (mkF m 2 #[.val (.int p0), .val (.int p1)] [(.int p1), (.int p0)])) (fun t k => ?_) ?_
  · show Steps p.tables e below (s₁.setTop (mkF m 0 #[.val (.int p0), .val (.int p1)] [])) _
    refine XS.iloadN X0.here hx rfl (hb hby own_d1_0) rfl ?_
    show Steps p.tables e below (s₁.setTop (mkF m 1 #[.val (.int p0), .val (.int p1)] [(.int p0)])) _
    refine XS.iloadN X0.here hx rfl (hb hby own_d1_1) rfl ?_
    show Steps p.tables e below (s₁.setTop (mkF m 2 #[.val (.int p0), .val (.int p1)] [(.int p1), (.int p0)])) _
    exact k
  by_cases hc2_1 : p0 < p1
  · skip
    refine own_go (T' := s₁) (f' := (mkF m 10 #[.val (.int p0), .val (.int p1)] [(.int p1)])) (fun t k => ?_) ?_
    · show Steps p.tables e below (s₁.setTop (mkF m 2 #[.val (.int p0), .val (.int p1)] [(.int p1), (.int p0)])) _
      refine XS.icmpYes X0.here hx rfl (pc0 := 2) (pc' := 9) rfl (hb hby own_d1_2) rfl (tlt hc2_1).1 (by decide) (by decide) ?_
      show Steps p.tables e below (s₁.setTop (mkF m 9 #[.val (.int p0), .val (.int p1)] [])) _
      refine XS.iloadN X0.here hx rfl (hb hby own_d1_9) rfl ?_
      show Steps p.tables e below (s₁.setTop (mkF m 10 #[.val (.int p0), .val (.int p1)] [(.int p1)])) _
      exact k
    obtain ⟨fs, hr, hrun, hended, hW, hsame⟩ := X0.leave (v := some (.int p1)) (fun h => by rw [Bd.returns] at h; cases h)
    refine ⟨_, _, ?_, hrun, hended, _, _, rfl, ?_, ⟨_, rfl⟩, hW, hsame.mono (by decide) (by decide)⟩
    · exact retI X0 hx Bd.returns (hb hby own_d1_10) hr
    · show own_Q1 Z p0 p1 h0 n0 _ s₁.heap _
      rw [e0]
      exact ⟨(by rw [own_F1, if_pos hc2_1]), N0, rfl⟩
  · skip
    refine own_go (T' := s₁) (f' := (mkF m 10 #[.val (.int p0), .val (.int p1)] [(.int p0)])) (fun t k => ?_) ?_
    · show Steps p.tables e below (s₁.setTop (mkF m 2 #[.val (.int p0), .val (.int p1)] [(.int p1), (.int p0)])) _
      refine XS.icmpNo X0.here hx rfl (hb hby own_d1_2) rfl (flt hc2_1).1 ?_
      show Steps p.tables e below (s₁.setTop (mkF m 5 #[.val (.int p0), .val (.int p1)] [])) _
      refine XS.iloadN X0.here hx rfl (hb hby own_d1_5) rfl ?_
      show Steps p.tables e below (s₁.setTop (mkF m 6 #[.val (.int p0), .val (.int p1)] [(.int p0)])) _
      refine XS.goto X0.here hx rfl (pc0 := 6) (pc' := 10) rfl (hb hby own_d1_6) (by decide) (by decide) ?_
      show Steps p.tables e below (s₁.setTop (mkF m 10 #[.val (.int p0), .val (.int p1)] [(.int p0)])) _
      exact k
    obtain ⟨fs, hr, hrun, hended, hW, hsame⟩ := X0.leave (v := some (.int p0)) (fun h => by rw [Bd.returns] at h; cases h)
    refine ⟨_, _, ?_, hrun, hended, _, _, rfl, ?_, ⟨_, rfl⟩, hW, hsame.mono (by decide) (by decide)⟩
    · exact retI X0 hx Bd.returns (hb hby own_d1_10) hr
    · show own_Q1 Z p0 p1 h0 n0 _ s₁.heap _
      rw [e0]
      exact ⟨(by rw [own_F1, if_neg hc2_1]), N0, rfl⟩
theorem own_d2_0 : decode jdk_29_method_69_code 0 = .ok (.iload_n 0, 1) := by decide +kernel
theorem own_d2_1 : decode jdk_29_method_69_code 1 = .ok (.iload_n 1, 1) := by decide +kernel
theorem own_d2_2 : decode jdk_29_method_69_code 2 = .ok (.if_icmp .gt 7, 3) := by decide +kernel
theorem own_d2_5 : decode jdk_29_method_69_code 5 = .ok (.iload_n 0, 1) := by decide +kernel
theorem own_d2_6 : decode jdk_29_method_69_code 6 = .ok (.goto 4, 3) := by decide +kernel
theorem own_d2_9 : decode jdk_29_method_69_code 9 = .ok (.iload_n 1, 1) := by decide +kernel
theorem own_d2_10 : decode jdk_29_method_69_code 10 = .ok (.ireturn, 1) := by decide +kernel
theorem own_ef2 (m : MethodId) (p0 : Int32) (p1 : Int32) : entryFrame m #[(.int p0), (.int p1)] 2 = mkF m 0 #[.val (.int p0), .val (.int p1)] [] := by first | (simp [entryFrame, mkF, argsToLocals, Value.category]; done) | rfl
def own_F2 (p0 : Int32) (p1 : Int32) : Int32 := (if p1 < p0 then p1 else p0)
def own_Q2 (Z : State) (p0 : Int32) (p1 : Int32) (h0 : Heap) (n0 : Nat) (v : Option Value) (h : Heap) (L : List Loc) : Prop := (v = some (.int (own_F2 p0 p1))) ∧ (Fr n0 L) ∧ (h = h0)
set_option maxRecDepth 65536 in
set_option maxHeartbeats 40000000 in
theorem own_rm2 (l : Launch) (Z : State) (a0 : Array Value) (hw : ∀ d ∈ tables_1, d.before a0 Z = true) (ws : List Jvm.Cond) (p0 : Int32) (p1 : Int32) (h0 : Heap) (n0 : Nat) (Z0 : n0 ≤ h0.size) :
    MetFree l (⟨"java/lang/Math", "min", "(II)I"⟩ : MethodName) (head1 (Jvm.Cond.code (⟨"java/lang/Math", "min", "(II)I"⟩ : MethodName) jdk_29_method_69_code 2 (some .int) :: ws) ({ frames := 0, cells := 0, slots := 0, locals := 0 } : Room)) (fun a U => a = #[(.int p0), (.int p1)] ∧ Z.Warmed39 U.vm ∧ U.heap = h0) (fun _ _ _ _ _ => True) (fun _ U o U' => ∃ v L, o = .returned v ∧ own_Q2 Z p0 p1 h0 n0 v U'.heap L ∧ FrameEnd U o U' L ({ frames := 0, cells := 0, slots := 0, locals := 0 } : Room).cells ({ frames := 0, cells := 0, slots := 0, locals := 0 } : Room).slots) := by
  refine MetFree.of_bodySF (Jvm.Free.JP.mathPlain rfl (by decide +kernel)) hisR ?_
  intro p e s m args below meth c s₁ Bd hml0 hP hK
  obtain ⟨rfl, hZ, hh⟩ := hP
  have hx := Bd.exec
  have hby := Bd.bytes
  have hml : c.maxLocals = 2 := hml0
  have hown : s.vm.findClass "java/lang/Math" = some m.cls := findClass_of_methodNamed Bd.named
  have hnm := (name_of_methodNamed Bd.named Bd.method).1
  have X0 : Stand p l e ({ frames := 0, cells := 0, slots := 0, locals := 0 } : Room) s m #[(.int p0), (.int p1)] below meth c s₁ [] 0 0 := Stand.of_body Bd
  have e0 : s₁.heap = h0 := by rw [← hh, Bd.state]; rfl
  have N0 := Fr.nil n0
  refine own_go (fun t k => castTop (own_ef2 m p0 p1) k) ?_
  refine own_go (T' := s₁) (f' := (mkF m 2 #[.val (.int p0), .val (.int p1)] [(.int p1), (.int p0)])) (fun t k => ?_) ?_
  · show Steps p.tables e below (s₁.setTop (mkF m 0 #[.val (.int p0), .val (.int p1)] [])) _
    refine XS.iloadN X0.here hx rfl (hb hby own_d2_0) rfl ?_
    show Steps p.tables e below (s₁.setTop (mkF m 1 #[.val (.int p0), .val (.int p1)] [(.int p0)])) _
    refine XS.iloadN X0.here hx rfl (hb hby own_d2_1) rfl ?_
    show Steps p.tables e below (s₁.setTop (mkF m 2 #[.val (.int p0), .val (.int p1)] [(.int p1), (.int p0)])) _
    exact k
  by_cases hc2_1 : p1 < p0
  · skip
    refine own_go (T' := s₁) (f' := (mkF m 10 #[.val (.int p0), .val (.int p1)] [(.int p1)])) (fun t k => ?_) ?_
    · show Steps p.tables e below (s₁.setTop (mkF m 2 #[.val (.int p0), .val (.int p1)] [(.int p1), (.int p0)])) _
      refine XS.icmpYes X0.here hx rfl (pc0 := 2) (pc' := 9) rfl (hb hby own_d2_2) rfl (tlt hc2_1).2.2.1 (by decide) (by decide) ?_
      show Steps p.tables e below (s₁.setTop (mkF m 9 #[.val (.int p0), .val (.int p1)] [])) _
      refine XS.iloadN X0.here hx rfl (hb hby own_d2_9) rfl ?_
      show Steps p.tables e below (s₁.setTop (mkF m 10 #[.val (.int p0), .val (.int p1)] [(.int p1)])) _
      exact k
    obtain ⟨fs, hr, hrun, hended, hW, hsame⟩ := X0.leave (v := some (.int p1)) (fun h => by rw [Bd.returns] at h; cases h)
    refine ⟨_, _, ?_, hrun, hended, _, _, rfl, ?_, ⟨_, rfl⟩, hW, hsame.mono (by decide) (by decide)⟩
    · exact retI X0 hx Bd.returns (hb hby own_d2_10) hr
    · show own_Q2 Z p0 p1 h0 n0 _ s₁.heap _
      rw [e0]
      exact ⟨(by rw [own_F2, if_pos hc2_1]), N0, rfl⟩
  · skip
    refine own_go (T' := s₁) (f' := (mkF m 10 #[.val (.int p0), .val (.int p1)] [(.int p0)])) (fun t k => ?_) ?_
    · show Steps p.tables e below (s₁.setTop (mkF m 2 #[.val (.int p0), .val (.int p1)] [(.int p1), (.int p0)])) _
      refine XS.icmpNo X0.here hx rfl (hb hby own_d2_2) rfl (flt hc2_1).2.2.1 ?_
      show Steps p.tables e below (s₁.setTop (mkF m 5 #[.val (.int p0), .val (.int p1)] [])) _
      refine XS.iloadN X0.here hx rfl (hb hby own_d2_5) rfl ?_
      show Steps p.tables e below (s₁.setTop (mkF m 6 #[.val (.int p0), .val (.int p1)] [(.int p0)])) _
      refine XS.goto X0.here hx rfl (pc0 := 6) (pc' := 10) rfl (hb hby own_d2_6) (by decide) (by decide) ?_
      show Steps p.tables e below (s₁.setTop (mkF m 10 #[.val (.int p0), .val (.int p1)] [(.int p0)])) _
      exact k
    obtain ⟨fs, hr, hrun, hended, hW, hsame⟩ := X0.leave (v := some (.int p0)) (fun h => by rw [Bd.returns] at h; cases h)
    refine ⟨_, _, ?_, hrun, hended, _, _, rfl, ?_, ⟨_, rfl⟩, hW, hsame.mono (by decide) (by decide)⟩
    · exact retI X0 hx Bd.returns (hb hby own_d2_10) hr
    · show own_Q2 Z p0 p1 h0 n0 _ s₁.heap _
      rw [e0]
      exact ⟨(by rw [own_F2, if_neg hc2_1]), N0, rfl⟩
theorem own_max16 (p : Int32) : 16 ≤ (own_F1 p (16 : Int32)).toInt ∧ (p.toInt ≤ 63 → (own_F1 p (16 : Int32)).toInt ≤ 63) := by
  have e : (16 : Int32).toInt = 16 := rfl
  rw [own_F1]
  by_cases c : p < (16 : Int32)
  · rw [if_pos c]; omega
  · rw [if_neg c]; rw [Int32.lt_iff_toInt_lt] at c; omega
theorem own_nonneg {p : Int32} (h : 0 ≤ p.toInt) : ¬ p < 0 := by
  rw [Int32.lt_iff_toInt_lt]; have e : (0 : Int32).toInt = 0 := rfl; omega
theorem own_max_nn (p : Int32) : ¬ own_F1 p (16 : Int32) < 0 := own_nonneg (by have := (own_max16 p).1; omega)
theorem own_max_cap {p : Int32} (h : p.toInt ≤ 63) : (own_F1 p (16 : Int32)).toNatClampNeg ≤ 63 := by
  have := (own_max16 p).2 h; show (own_F1 p (16 : Int32)).toInt.toNat ≤ 63; omega
theorem own_room {u p z : Int32} (hu : 0 ≤ u.toInt) (hp : 0 ≤ p.toInt) (hc : u.toInt + p.toInt ≤ z.toInt) : ¬ (z - u) < p := by
  have a := c_isub z u; have b := rng32 (z - u); have c := rng32 z
  rw [Int32.lt_iff_toInt_lt]; omega
theorem own_min_eq {z p : Int32} (h : p.toInt < z.toInt) : own_F2 z p = p := by
  rw [own_F2, if_pos (Int32.lt_iff_toInt_lt.mpr h)]
theorem own_ne_of_lt {p z : Int32} (h : p.toInt < z.toInt) : ¬ p = z := by rintro rfl; omega
theorem own_pd0 : parseMethodDescriptor "(II)I" = some ⟨[.int, .int], some .int⟩ := by decide +kernel
theorem own_d3_0 : decode prog_225_method_1_code 0 = .ok (.aload_n 0, 1) := by decide +kernel
theorem own_d3_1 : decode prog_225_method_1_code 1 = .ok (.invokespecial 1, 3) := by decide +kernel
theorem own_d3_4 : decode prog_225_method_1_code 4 = .ok (.aload_n 0, 1) := by decide +kernel
theorem own_d3_5 : decode prog_225_method_1_code 5 = .ok (.iload_n 1, 1) := by decide +kernel
theorem own_d3_6 : decode prog_225_method_1_code 6 = .ok (.bipush 16, 2) := by decide +kernel
theorem own_d3_8 : decode prog_225_method_1_code 8 = .ok (.invokestatic 7, 3) := by decide +kernel
theorem own_d3_11 : decode prog_225_method_1_code 11 = .ok (.newarray .byte, 2) := by decide +kernel
theorem own_d3_13 : decode prog_225_method_1_code 13 = .ok (.putfield 13, 3) := by decide +kernel
theorem own_d3_16 : decode prog_225_method_1_code 16 = .ok (.return_, 1) := by decide +kernel
theorem own_pn0 : plainName "com/example/tracecourt/tracecourt/trace/Bytes$Out" = true := by first | (simp [plainName, overriddenIn]; done) | decide +kernel
theorem own_ef3 (m : MethodId) (a0r : Addr) (p1 : Int32) : entryFrame m #[(.ref a0r), (.int p1)] 2 = mkF m 0 #[.val (.ref a0r), .val (.int p1)] [] := by first | (simp [entryFrame, mkF, argsToLocals, Value.category]; done) | rfl
def own_Q3 (Z : State) (a0r : Addr) (p1 : Int32) (h0 : Heap) (n0 : Nat) (v : Option Value) (h : Heap) (L : List Loc) : Prop := ∃ (br : Addr), (v = none) ∧ (Fr n0 L) ∧ (Keep h0 h [a0r]) ∧ (h0.size ≤ br) ∧ (Fld Z h a0r "com/example/tracecourt/tracecourt/trace/Bytes$Out" "bytes" "[B" (.ref br)) ∧ (Fld Z h a0r "com/example/tracecourt/tracecourt/trace/Bytes$Out" "size" "I" (.int (0 : Int32))) ∧ (own_ArI Z h br .byte (own_F1 p1 (16 : Int32)) (fun _ => 0))
set_option maxRecDepth 65536 in
set_option maxHeartbeats 40000000 in
theorem own_rm3 (l : Launch) (Z : State) (a0 : Array Value) (hw : ∀ d ∈ tables_1, d.before a0 Z = true) (ws : List Jvm.Cond) (a0r : Addr) (p1 : Int32) (h0 : Heap) (n0 : Nat) (Z0 : n0 ≤ h0.size) (P0 : Exa Z h0 a0r "com/example/tracecourt/tracecourt/trace/Bytes$Out") (P1 : Fld Z h0 a0r "com/example/tracecourt/tracecourt/trace/Bytes$Out" "bytes" "[B" .null) (P2 : Fld Z h0 a0r "com/example/tracecourt/tracecourt/trace/Bytes$Out" "size" "I" (.int (0 : Int32))) (go_a0r : n0 ≤ a0r) (hp2 : p1.toInt ≤ 63) :
    MetFree l (⟨"com/example/tracecourt/tracecourt/trace/Bytes$Out", "<init>", "(I)V"⟩ : MethodName) (head1 (Jvm.Cond.code (⟨"com/example/tracecourt/tracecourt/trace/Bytes$Out", "<init>", "(I)V"⟩ : MethodName) prog_225_method_1_code 2 none :: ws) ({ frames := 1, cells := 1, slots := 63, locals := 14 } : Room)) (fun a U => a = #[(.ref a0r), (.int p1)] ∧ Z.Warmed39 U.vm ∧ U.heap = h0) (fun _ _ _ _ _ => True) (fun _ U o U' => ∃ v L, o = .returned v ∧ own_Q3 Z a0r p1 h0 n0 v U'.heap L ∧ FrameEnd U o U' L ({ frames := 1, cells := 1, slots := 63, locals := 14 } : Room).cells ({ frames := 1, cells := 1, slots := 63, locals := 14 } : Room).slots) := by
  refine MetFree.of_bodySF (plainFor_of_name own_pn0) hisR ?_
  intro p e s m args below meth c s₁ Bd hml0 hP hK
  obtain ⟨rfl, hZ, hh⟩ := hP
  have hx := Bd.exec
  have hby := Bd.bytes
  have hml : c.maxLocals = 2 := hml0
  have hown : s.vm.findClass "com/example/tracecourt/tracecourt/trace/Bytes$Out" = some m.cls := findClass_of_methodNamed Bd.named
  have hnm := (name_of_methodNamed Bd.named Bd.method).1
  have X0 : Stand p l e ({ frames := 1, cells := 1, slots := 63, locals := 14 } : Room) s m #[(.ref a0r), (.int p1)] below meth c s₁ [] 0 0 := Stand.of_body Bd
  have e0 : s₁.heap = h0 := by rw [← hh, Bd.state]; rfl
  have N0 := Fr.nil n0
  have K0 : Keep h0 h0 [a0r] := Keep.refl h0 _
  refine own_go (fun t k => castTop (own_ef3 m a0r p1) k) ?_
  refine own_go (T' := s₁) (f' := (mkF m 1 #[.val (.ref a0r), .val (.int p1)] [(.ref a0r)])) (fun t k => ?_) ?_
  · show Steps p.tables e below (s₁.setTop (mkF m 0 #[.val (.ref a0r), .val (.int p1)] [])) _
    refine XS.aloadN X0.here hx rfl (hb hby own_d3_0) rfl rfl ?_
    show Steps p.tables e below (s₁.setTop (mkF m 1 #[.val (.ref a0r), .val (.int p1)] [(.ref a0r)])) _
    exact k
  obtain ⟨T1, X1, e1, st1⟩ := initO X0 hx hZ hown (hw _ (List.mem_of_getElem? (i := 8) rfl)) (hw _ (List.mem_of_getElem? (i := 9) rfl)) (hw _ (List.mem_of_getElem? (i := 10) rfl)) e0 (g := (mkF m 1 #[.val (.ref a0r), .val (.int p1)] [(.ref a0r)])) rfl (by rw [hml]; rfl) rfl (hb hby own_d3_1) (by decide) (W := 0) (by show 2 * 0 + _ ≤ _; exact Nat.le_of_eq rfl) (by decide)
  refine own_go (T' := T1) (f' := (mkF m 4 #[.val (.ref a0r), .val (.int p1)] [])) st1 ?_
  refine own_go (T' := T1) (f' := (mkF m 8 #[.val (.ref a0r), .val (.int p1)] [(.int (16 : Int32)), (.int p1), (.ref a0r)])) (fun t k => ?_) ?_
  · show Steps p.tables e below (T1.setTop (mkF m 4 #[.val (.ref a0r), .val (.int p1)] [])) _
    refine XS.aloadN X1.here hx rfl (hb hby own_d3_4) rfl rfl ?_
    show Steps p.tables e below (T1.setTop (mkF m 5 #[.val (.ref a0r), .val (.int p1)] [(.ref a0r)])) _
    refine XS.iloadN X1.here hx rfl (hb hby own_d3_5) rfl ?_
    show Steps p.tables e below (T1.setTop (mkF m 6 #[.val (.ref a0r), .val (.int p1)] [(.int p1), (.ref a0r)])) _
    refine XS.bipush X1.here hx rfl (hb hby own_d3_6) ?_
    show Steps p.tables e below (T1.setTop (mkF m 8 #[.val (.ref a0r), .val (.int p1)] [(.int (16 : Int32)), (.int p1), (.ref a0r)])) _
    exact k
  obtain ⟨T2, Lq2, X2, N2, hQ2, st2⟩ := own_pf0 (vv := some (.int (own_F1 p1 (16 : Int32)))) N0 (Jvm.LawKit.callS X1 hx (y := (⟨"java/lang/Math", "max", "(II)I"⟩ : MethodName)) hown (mvT hZ (hw _ (List.mem_of_getElem? (i := 11) rfl))) (mvT hZ (hw _ (List.mem_of_getElem? (i := 12) rfl))) (mvT hZ (hw _ (List.mem_of_getElem? (i := 13) rfl))) (mvT hZ (hw _ (List.mem_of_getElem? (i := 14) rfl))) (by decide) (backOf (W := 1) (own_rm1 l Z a0 hw [] p1 ((16 : Int32))  h0 n0 Z0 ) hZ (hw _ (List.mem_of_getElem? (i := 14) rfl)) (hw _ (List.mem_of_getElem? (i := 13) rfl)) (by decide) (by decide)) (g := (mkF m 8 #[.val (.ref a0r), .val (.int p1)] [(.int (16 : Int32)), (.int p1), (.ref a0r)])) rfl (by rw [hml]; rfl) (argsL := [(.int p1), (.int (16 : Int32))]) (rest := [(.ref a0r)]) (lenOf own_pd0 rfl) rfl (by show 2 * 0 + _ ≤ _; exact Nat.le_of_eq rfl) (hb hby own_d3_8) (fun _ _ => ⟨rfl, e1, (by decide : 0 + 0 ≤ _), (by decide : 0 + 0 ≤ _)⟩)) (fun _ _ _ q => q) (k1 := 0) (k2 := 0) rfl rfl
  have h2q : T2.heap = h0 := hQ2
  refine own_go (T' := T2) (f' := (mkF m 11 #[.val (.ref a0r), .val (.int p1)] [(.int (own_F1 p1 (16 : Int32))), (.ref a0r)])) (fun t k => st2 _ k) ?_
  obtain ⟨T3, h3, k3, X3, e3, E3, A3, st3⟩ := newP X2 hx hZ (hw _ (List.mem_of_getElem? (i := 0) rfl)) h2q (g := (mkF m 11 #[.val (.ref a0r), .val (.int p1)] [(.int (own_F1 p1 (16 : Int32))), (.ref a0r)])) rfl (hb hby own_d3_11) rfl (own_max_nn p1) (cap := 63) (own_max_cap hp2) (by decide) (by decide) (by decide)
  obtain ⟨b3, g3⟩ : ∃ z, z = h0.size := ⟨_, rfl⟩
  rw [← g3] at A3 st3
  have ne_a0r_b3 : a0r ≠ b3 := Nat.ne_of_lt (Nat.lt_of_lt_of_le P0.lt (Nat.le_of_eq g3.symm))
  have g_b3 : n0 ≤ b3 := Nat.le_trans Z0 (Nat.le_of_eq g3.symm)
  have sz_b3 : h0.size ≤ b3 := Nat.le_trans K0.1 (Nat.le_of_eq g3.symm)
  refine own_go (T' := T3) (f' := (mkF m 13 #[.val (.ref a0r), .val (.int p1)] [(.ref b3), (.ref a0r)])) st3 ?_
  have fc4 : Exa Z h3 a0r "com/example/tracecourt/tracecourt/trace/Bytes$Out" := P0.ext E3
  have fc5 : Fld Z h3 a0r "com/example/tracecourt/tracecourt/trace/Bytes$Out" "bytes" "[B" .null := P1.ext E3
  have fc6 : Fld Z h3 a0r "com/example/tracecourt/tracecourt/trace/Bytes$Out" "size" "I" (.int (0 : Int32)) := P2.ext E3
  have Zs3 : n0 ≤ h3.size := Nat.le_trans Z0 E3.1
  have K3 : Keep h0 h3 [a0r] := K0.ext E3
  have V3 : own_ArI Z h3 b3 .byte (own_F1 p1 (16 : Int32)) (fun _ => 0) := own_ArI.new A3 (own_max_nn p1) rfl
  obtain ⟨T7, h7, X7, e7, W7, st7⟩ := putF X3 hx hZ hown (host := "") (Or.inl (hw _ (List.mem_of_getElem? (i := 15) rfl))) Via.refl e3 fc5 fc4 (Or.inl (hw _ (List.mem_of_getElem? (i := 16) rfl))) (hw _ (List.mem_of_getElem? (i := 3) rfl)) (ty := (.array .byte)) (by decide) rfl rfl (g := (mkF m 13 #[.val (.ref a0r), .val (.int p1)] [(.ref b3), (.ref a0r)])) rfl rfl (hb hby own_d3_13)
  refine own_go (T' := T7) (f' := (mkF m 16 #[.val (.ref a0r), .val (.int p1)] [])) st7 ?_
  have fc8 : Exa Z h7 a0r "com/example/tracecourt/tracecourt/trace/Bytes$Out" := fc4.wr W7
  have fc9 : Fld Z h7 a0r "com/example/tracecourt/tracecourt/trace/Bytes$Out" "bytes" "[B" (.ref b3) := fc5.same W7
  have fc10 : Fld Z h7 a0r "com/example/tracecourt/tracecourt/trace/Bytes$Out" "size" "I" (.int (0 : Int32)) := fc6.other W7 (Or.inr (slot_ne (Or.inl (hw _ (List.mem_of_getElem? (i := 32) rfl))) (Or.inl (hw _ (List.mem_of_getElem? (i := 16) rfl))) (by decide) (t := .int) (t' := (.array .byte)) (by decide) (by decide)))
  have fc11 : own_ArI Z h7 b3 .byte (own_F1 p1 (16 : Int32)) (fun _ => 0) := V3.other W7 (Ne.symm ne_a0r_b3)
  have Zs7 : n0 ≤ h7.size := Nat.le_trans Zs3 (Keep.of_wr W7).1
  have K7 : Keep h0 h7 [a0r] := K3.wr W7 (Or.inl (List.mem_of_getElem? (i := 0) rfl))
  have N7 := Fr.snoc X7 N2 go_a0r
  obtain ⟨fs, hr, hrun, hended, hW, hsame⟩ := X7.leave (v := none) (fun _ => rfl)
  refine ⟨_, _, ?_, hrun, hended, _, _, rfl, ?_, ⟨_, rfl⟩, hW, hsame.mono (by decide) (by decide)⟩
  · exact X7.returnOut hx Bd.returns (hb hby own_d3_16) hr
  · show own_Q3 Z a0r p1 h0 n0 _ T7.heap _
    rw [e7]
    exact ⟨b3, rfl, N7, K7, sz_b3, fc9, fc10, fc11⟩
theorem own_d4_0 : decode prog_225_method_7_code 0 = .ok (.iload_n 1, 1) := by decide +kernel
theorem own_d4_1 : decode prog_225_method_7_code 1 = .ok (.aload_n 0, 1) := by decide +kernel
theorem own_d4_2 : decode prog_225_method_7_code 2 = .ok (.getfield 13, 3) := by decide +kernel
theorem own_d4_5 : decode prog_225_method_7_code 5 = .ok (.arraylength, 1) := by decide +kernel
theorem own_d4_6 : decode prog_225_method_7_code 6 = .ok (.aload_n 0, 1) := by decide +kernel
theorem own_d4_7 : decode prog_225_method_7_code 7 = .ok (.getfield 19, 3) := by decide +kernel
theorem own_d4_10 : decode prog_225_method_7_code 10 = .ok (.isub, 1) := by decide +kernel
theorem own_d4_11 : decode prog_225_method_7_code 11 = .ok (.if_icmp .le 30, 3) := by decide +kernel
theorem own_d4_41 : decode prog_225_method_7_code 41 = .ok (.aload_n 0, 1) := by decide +kernel
theorem own_d4_42 : decode prog_225_method_7_code 42 = .ok (.getfield 19, 3) := by decide +kernel
theorem own_d4_45 : decode prog_225_method_7_code 45 = .ok (.istore_n 2, 1) := by decide +kernel
theorem own_d4_46 : decode prog_225_method_7_code 46 = .ok (.aload_n 0, 1) := by decide +kernel
theorem own_d4_47 : decode prog_225_method_7_code 47 = .ok (.dup, 1) := by decide +kernel
theorem own_d4_48 : decode prog_225_method_7_code 48 = .ok (.getfield 19, 3) := by decide +kernel
theorem own_d4_51 : decode prog_225_method_7_code 51 = .ok (.iload_n 1, 1) := by decide +kernel
theorem own_d4_52 : decode prog_225_method_7_code 52 = .ok (.iadd, 1) := by decide +kernel
theorem own_d4_53 : decode prog_225_method_7_code 53 = .ok (.putfield 19, 3) := by decide +kernel
theorem own_d4_56 : decode prog_225_method_7_code 56 = .ok (.iload_n 2, 1) := by decide +kernel
theorem own_d4_57 : decode prog_225_method_7_code 57 = .ok (.ireturn, 1) := by decide +kernel
theorem own_ef4 (m : MethodId) (a0r : Addr) (p1 : Int32) : entryFrame m #[(.ref a0r), (.int p1)] 3 = mkF m 0 #[.val (.ref a0r), .val (.int p1), .unset] [] := by first | (simp [entryFrame, mkF, argsToLocals, Value.category]; done) | rfl
def own_Q4 (Z : State) (a0r : Addr) (p1 : Int32) (ba : Addr) (u0 : Int32) (z : Int32) (f : Nat → Int32) (h0 : Heap) (n0 : Nat) (v : Option Value) (h : Heap) (L : List Loc) : Prop := (v = some (.int u0)) ∧ (Fr n0 L) ∧ (Keep h0 h [a0r]) ∧ (Fld Z h a0r "com/example/tracecourt/tracecourt/trace/Bytes$Out" "bytes" "[B" (.ref ba)) ∧ (Fld Z h a0r "com/example/tracecourt/tracecourt/trace/Bytes$Out" "size" "I" (.int (u0 + p1)))
set_option maxRecDepth 65536 in
set_option maxHeartbeats 40000000 in
theorem own_rm4 (l : Launch) (Z : State) (a0 : Array Value) (hw : ∀ d ∈ tables_1, d.before a0 Z = true) (ws : List Jvm.Cond) (a0r : Addr) (p1 : Int32) (ba : Addr) (u0 : Int32) (z : Int32) (f : Nat → Int32) (h0 : Heap) (n0 : Nat) (Z0 : n0 ≤ h0.size) (P0 : Exa Z h0 a0r "com/example/tracecourt/tracecourt/trace/Bytes$Out") (P1 : Fld Z h0 a0r "com/example/tracecourt/tracecourt/trace/Bytes$Out" "bytes" "[B" (.ref ba)) (P2 : Fld Z h0 a0r "com/example/tracecourt/tracecourt/trace/Bytes$Out" "size" "I" (.int u0)) (P3 : own_ArI Z h0 ba .byte z f) (go_a0r : n0 ≤ a0r) (hu : 0 ≤ u0.toInt) (hp : 0 ≤ p1.toInt) (hc : u0.toInt + p1.toInt ≤ z.toInt) (hne : ba ≠ a0r) :
    MetFree l (⟨"com/example/tracecourt/tracecourt/trace/Bytes$Out", "take", "(I)I"⟩ : MethodName) (head1 (Jvm.Cond.code (⟨"com/example/tracecourt/tracecourt/trace/Bytes$Out", "take", "(I)I"⟩ : MethodName) prog_225_method_7_code 3 (some .int) :: ws) ({ frames := 0, cells := 0, slots := 0, locals := 0 } : Room)) (fun a U => a = #[(.ref a0r), (.int p1)] ∧ Z.Warmed39 U.vm ∧ U.heap = h0) (fun _ _ _ _ _ => True) (fun _ U o U' => ∃ v L, o = .returned v ∧ own_Q4 Z a0r p1 ba u0 z f h0 n0 v U'.heap L ∧ FrameEnd U o U' L ({ frames := 0, cells := 0, slots := 0, locals := 0 } : Room).cells ({ frames := 0, cells := 0, slots := 0, locals := 0 } : Room).slots) := by
  refine MetFree.of_bodySF (plainFor_of_name own_pn0) hisR ?_
  intro p e s m args below meth c s₁ Bd hml0 hP hK
  obtain ⟨rfl, hZ, hh⟩ := hP
  have hx := Bd.exec
  have hby := Bd.bytes
  have hml : c.maxLocals = 3 := hml0
  have hown : s.vm.findClass "com/example/tracecourt/tracecourt/trace/Bytes$Out" = some m.cls := findClass_of_methodNamed Bd.named
  have hnm := (name_of_methodNamed Bd.named Bd.method).1
  have X0 : Stand p l e ({ frames := 0, cells := 0, slots := 0, locals := 0 } : Room) s m #[(.ref a0r), (.int p1)] below meth c s₁ [] 0 0 := Stand.of_body Bd
  have e0 : s₁.heap = h0 := by rw [← hh, Bd.state]; rfl
  have N0 := Fr.nil n0
  have K0 : Keep h0 h0 [a0r] := Keep.refl h0 _
  refine own_go (fun t k => castTop (own_ef4 m a0r p1) k) ?_
  refine own_go (T' := s₁) (f' := (mkF m 2 #[.val (.ref a0r), .val (.int p1), .unset] [(.ref a0r), (.int p1)])) (fun t k => ?_) ?_
  · show Steps p.tables e below (s₁.setTop (mkF m 0 #[.val (.ref a0r), .val (.int p1), .unset] [])) _
    refine XS.iloadN X0.here hx rfl (hb hby own_d4_0) rfl ?_
    show Steps p.tables e below (s₁.setTop (mkF m 1 #[.val (.ref a0r), .val (.int p1), .unset] [(.int p1)])) _
    refine XS.aloadN X0.here hx rfl (hb hby own_d4_1) rfl rfl ?_
    show Steps p.tables e below (s₁.setTop (mkF m 2 #[.val (.ref a0r), .val (.int p1), .unset] [(.ref a0r), (.int p1)])) _
    exact k
  obtain ⟨T1, X1, e1, st1⟩ := getF X0 hx hZ hown (host := "") (Or.inl (hw _ (List.mem_of_getElem? (i := 15) rfl))) Via.refl e0 P1 (g := (mkF m 2 #[.val (.ref a0r), .val (.int p1), .unset] [(.ref a0r), (.int p1)])) rfl rfl (hb hby own_d4_2)
  refine own_go (T' := T1) (f' := (mkF m 5 #[.val (.ref a0r), .val (.int p1), .unset] [(.ref ba), (.int p1)])) st1 ?_
  refine own_go (T' := T1) (f' := (mkF m 7 #[.val (.ref a0r), .val (.int p1), .unset] [(.ref a0r), (.int z), (.int p1)])) (fun t k => ?_) ?_
  · show Steps p.tables e below (T1.setTop (mkF m 5 #[.val (.ref a0r), .val (.int p1), .unset] [(.ref ba), (.int p1)])) _
    refine P3.len X1 hx hZ e1 (g := (mkF m 5 #[.val (.ref a0r), .val (.int p1), .unset] [(.ref ba), (.int p1)])) rfl rfl (hb hby own_d4_5) _ ?_
    show Steps p.tables e below (T1.setTop (mkF m 6 #[.val (.ref a0r), .val (.int p1), .unset] [(.int z), (.int p1)])) _
    refine XS.aloadN X1.here hx rfl (hb hby own_d4_6) rfl rfl ?_
    show Steps p.tables e below (T1.setTop (mkF m 7 #[.val (.ref a0r), .val (.int p1), .unset] [(.ref a0r), (.int z), (.int p1)])) _
    exact k
  obtain ⟨T2, X2, e2, st2⟩ := getF X1 hx hZ hown (host := "") (Or.inl (hw _ (List.mem_of_getElem? (i := 31) rfl))) Via.refl e1 P2 (g := (mkF m 7 #[.val (.ref a0r), .val (.int p1), .unset] [(.ref a0r), (.int z), (.int p1)])) rfl rfl (hb hby own_d4_7)
  refine own_go (T' := T2) (f' := (mkF m 10 #[.val (.ref a0r), .val (.int p1), .unset] [(.int u0), (.int z), (.int p1)])) st2 ?_
  refine own_go (T' := T2) (f' := (mkF m 42 #[.val (.ref a0r), .val (.int p1), .unset] [(.ref a0r)])) (fun t k => ?_) ?_
  · show Steps p.tables e below (T2.setTop (mkF m 10 #[.val (.ref a0r), .val (.int p1), .unset] [(.int u0), (.int z), (.int p1)])) _
    refine XS.isub X2.here hx rfl (hb hby own_d4_10) rfl ?_
    show Steps p.tables e below (T2.setTop (mkF m 11 #[.val (.ref a0r), .val (.int p1), .unset] [(.int (z - u0)), (.int p1)])) _
    refine XS.icmpYes X2.here hx rfl (pc0 := 11) (pc' := 41) rfl (hb hby own_d4_11) rfl (flt (own_room hu hp hc)).2.2.2 (by decide) (by decide) ?_
    show Steps p.tables e below (T2.setTop (mkF m 41 #[.val (.ref a0r), .val (.int p1), .unset] [])) _
    refine XS.aloadN X2.here hx rfl (hb hby own_d4_41) rfl rfl ?_
    show Steps p.tables e below (T2.setTop (mkF m 42 #[.val (.ref a0r), .val (.int p1), .unset] [(.ref a0r)])) _
    exact k
  obtain ⟨T3, X3, e3, st3⟩ := getF X2 hx hZ hown (host := "") (Or.inl (hw _ (List.mem_of_getElem? (i := 31) rfl))) Via.refl e2 P2 (g := (mkF m 42 #[.val (.ref a0r), .val (.int p1), .unset] [(.ref a0r)])) rfl rfl (hb hby own_d4_42)
  refine own_go (T' := T3) (f' := (mkF m 45 #[.val (.ref a0r), .val (.int p1), .unset] [(.int u0)])) st3 ?_
  refine own_go (T' := T3) (f' := (mkF m 48 #[.val (.ref a0r), .val (.int p1), .val (.int u0)] [(.ref a0r), (.ref a0r)])) (fun t k => ?_) ?_
  · show Steps p.tables e below (T3.setTop (mkF m 45 #[.val (.ref a0r), .val (.int p1), .unset] [(.int u0)])) _
    refine XS.istoreN X3.here hx rfl (hb hby own_d4_45) rfl (l' := #[.val (.ref a0r), .val (.int p1), .val (.int u0)]) rfl ?_
    show Steps p.tables e below (T3.setTop (mkF m 46 #[.val (.ref a0r), .val (.int p1), .val (.int u0)] [])) _
    refine XS.aloadN X3.here hx rfl (hb hby own_d4_46) rfl rfl ?_
    show Steps p.tables e below (T3.setTop (mkF m 47 #[.val (.ref a0r), .val (.int p1), .val (.int u0)] [(.ref a0r)])) _
    refine XS.dup X3.here hx rfl (hb hby own_d4_47) rfl rfl ?_
    show Steps p.tables e below (T3.setTop (mkF m 48 #[.val (.ref a0r), .val (.int p1), .val (.int u0)] [(.ref a0r), (.ref a0r)])) _
    exact k
  obtain ⟨T4, X4, e4, st4⟩ := getF X3 hx hZ hown (host := "") (Or.inl (hw _ (List.mem_of_getElem? (i := 31) rfl))) Via.refl e3 P2 (g := (mkF m 48 #[.val (.ref a0r), .val (.int p1), .val (.int u0)] [(.ref a0r), (.ref a0r)])) rfl rfl (hb hby own_d4_48)
  refine own_go (T' := T4) (f' := (mkF m 51 #[.val (.ref a0r), .val (.int p1), .val (.int u0)] [(.int u0), (.ref a0r)])) st4 ?_
  refine own_go (T' := T4) (f' := (mkF m 53 #[.val (.ref a0r), .val (.int p1), .val (.int u0)] [(.int (u0 + p1)), (.ref a0r)])) (fun t k => ?_) ?_
  · show Steps p.tables e below (T4.setTop (mkF m 51 #[.val (.ref a0r), .val (.int p1), .val (.int u0)] [(.int u0), (.ref a0r)])) _
    refine XS.iloadN X4.here hx rfl (hb hby own_d4_51) rfl ?_
    show Steps p.tables e below (T4.setTop (mkF m 52 #[.val (.ref a0r), .val (.int p1), .val (.int u0)] [(.int p1), (.int u0), (.ref a0r)])) _
    refine XS.iadd X4.here hx rfl (hb hby own_d4_52) rfl ?_
    show Steps p.tables e below (T4.setTop (mkF m 53 #[.val (.ref a0r), .val (.int p1), .val (.int u0)] [(.int (u0 + p1)), (.ref a0r)])) _
    exact k
  obtain ⟨T5, h5, X5, e5, W5, st5⟩ := putF X4 hx hZ hown (host := "") (Or.inl (hw _ (List.mem_of_getElem? (i := 31) rfl))) Via.refl e4 P2 P0 (Or.inl (hw _ (List.mem_of_getElem? (i := 32) rfl))) (hw _ (List.mem_of_getElem? (i := 3) rfl)) (ty := .int) (by decide) rfl rfl (g := (mkF m 53 #[.val (.ref a0r), .val (.int p1), .val (.int u0)] [(.int (u0 + p1)), (.ref a0r)])) rfl rfl (hb hby own_d4_53)
  refine own_go (T' := T5) (f' := (mkF m 56 #[.val (.ref a0r), .val (.int p1), .val (.int u0)] [])) st5 ?_
  have fc6 : Exa Z h5 a0r "com/example/tracecourt/tracecourt/trace/Bytes$Out" := P0.wr W5
  have fc7 : Fld Z h5 a0r "com/example/tracecourt/tracecourt/trace/Bytes$Out" "bytes" "[B" (.ref ba) := P1.other W5 (Or.inr (slot_ne (Or.inl (hw _ (List.mem_of_getElem? (i := 16) rfl))) (Or.inl (hw _ (List.mem_of_getElem? (i := 32) rfl))) (by decide) (t := (.array .byte)) (t' := .int) (by decide) (by decide)))
  have fc8 : Fld Z h5 a0r "com/example/tracecourt/tracecourt/trace/Bytes$Out" "size" "I" (.int (u0 + p1)) := P2.same W5
  have fc9 : own_ArI Z h5 ba .byte z f := P3.other W5 hne
  have Zs5 : n0 ≤ h5.size := Nat.le_trans Z0 (Keep.of_wr W5).1
  have K5 : Keep h0 h5 [a0r] := K0.wr W5 (Or.inl (List.mem_of_getElem? (i := 0) rfl))
  have N5 := Fr.snoc X5 N0 go_a0r
  refine own_go (T' := T5) (f' := (mkF m 57 #[.val (.ref a0r), .val (.int p1), .val (.int u0)] [(.int u0)])) (fun t k => ?_) ?_
  · show Steps p.tables e below (T5.setTop (mkF m 56 #[.val (.ref a0r), .val (.int p1), .val (.int u0)] [])) _
    refine XS.iloadN X5.here hx rfl (hb hby own_d4_56) rfl ?_
    show Steps p.tables e below (T5.setTop (mkF m 57 #[.val (.ref a0r), .val (.int p1), .val (.int u0)] [(.int u0)])) _
    exact k
  obtain ⟨fs, hr, hrun, hended, hW, hsame⟩ := X5.leave (v := some (.int u0)) (fun h => by rw [Bd.returns] at h; cases h)
  refine ⟨_, _, ?_, hrun, hended, _, _, rfl, ?_, ⟨_, rfl⟩, hW, hsame.mono (by decide) (by decide)⟩
  · exact retI X5 hx Bd.returns (hb hby own_d4_57) hr
  · show own_Q4 Z a0r p1 ba u0 z f h0 n0 _ T5.heap _
    rw [e5]
    exact ⟨rfl, N5, K5, fc7, fc8⟩
theorem own_pd1 : parseMethodDescriptor "(I)I" = some ⟨[.int], some .int⟩ := by decide +kernel
theorem own_d5_0 : decode prog_225_method_10_code 0 = .ok (.aload_n 0, 1) := by decide +kernel
theorem own_d5_1 : decode prog_225_method_10_code 1 = .ok (.iload_n 3, 1) := by decide +kernel
theorem own_d5_2 : decode prog_225_method_10_code 2 = .ok (.invokevirtual 29, 3) := by decide +kernel
theorem own_d5_5 : decode prog_225_method_10_code 5 = .ok (.istore 4, 2) := by decide +kernel
theorem own_d5_7 : decode prog_225_method_10_code 7 = .ok (.aload_n 1, 1) := by decide +kernel
theorem own_d5_8 : decode prog_225_method_10_code 8 = .ok (.iload_n 2, 1) := by decide +kernel
theorem own_d5_9 : decode prog_225_method_10_code 9 = .ok (.aload_n 0, 1) := by decide +kernel
theorem own_d5_10 : decode prog_225_method_10_code 10 = .ok (.getfield 13, 3) := by decide +kernel
theorem own_d5_13 : decode prog_225_method_10_code 13 = .ok (.iload 4, 2) := by decide +kernel
theorem own_d5_15 : decode prog_225_method_10_code 15 = .ok (.iload_n 3, 1) := by decide +kernel
theorem own_d5_16 : decode prog_225_method_10_code 16 = .ok (.invokestatic 37, 3) := by decide +kernel
theorem own_d5_19 : decode prog_225_method_10_code 19 = .ok (.return_, 1) := by decide +kernel
theorem own_ef5 (m : MethodId) (a0r : Addr) (a1 : Addr) (p2 : Int32) (p3 : Int32) : entryFrame m #[(.ref a0r), (.ref a1), (.int p2), (.int p3)] 5 = mkF m 0 #[.val (.ref a0r), .val (.ref a1), .val (.int p2), .val (.int p3), .unset] [] := by first | (simp [entryFrame, mkF, argsToLocals, Value.category]; done) | rfl
def own_Q5 (Z : State) (a0r : Addr) (a1 : Addr) (p2 : Int32) (p3 : Int32) (ba : Addr) (u0 : Int32) (z : Int32) (f : Nat → Int32) (z1 : Int32) (f1 : Nat → Int32) (h0 : Heap) (n0 : Nat) (v : Option Value) (h : Heap) (L : List Loc) : Prop := ∃ (f' : Nat → Int32), (v = none) ∧ (Fr n0 L) ∧ (Keep h0 h [a0r, ba]) ∧ (Fld Z h a0r "com/example/tracecourt/tracecourt/trace/Bytes$Out" "bytes" "[B" (.ref ba)) ∧ (Fld Z h a0r "com/example/tracecourt/tracecourt/trace/Bytes$Out" "size" "I" (.int (u0 + p3))) ∧ (own_ArI Z h ba .byte z f') ∧ ((∀ i, i < p3.toInt.toNat → f' (u0.toInt.toNat + i) = f1 (p2.toInt.toNat + i)) ∧ (∀ i, i < u0.toInt.toNat ∨ u0.toInt.toNat + p3.toInt.toNat ≤ i → f' i = f i))
set_option maxRecDepth 65536 in
set_option maxHeartbeats 40000000 in
theorem own_rm5 (l : Launch) (Z : State) (a0 : Array Value) (hw : ∀ d ∈ tables_1, d.before a0 Z = true) (ws : List Jvm.Cond) (a0r : Addr) (a1 : Addr) (p2 : Int32) (p3 : Int32) (ba : Addr) (u0 : Int32) (z : Int32) (f : Nat → Int32) (z1 : Int32) (f1 : Nat → Int32) (h0 : Heap) (n0 : Nat) (Z0 : n0 ≤ h0.size) (P0 : Exa Z h0 a0r "com/example/tracecourt/tracecourt/trace/Bytes$Out") (P1 : Fld Z h0 a0r "com/example/tracecourt/tracecourt/trace/Bytes$Out" "bytes" "[B" (.ref ba)) (P2 : Fld Z h0 a0r "com/example/tracecourt/tracecourt/trace/Bytes$Out" "size" "I" (.int u0)) (P3 : own_ArI Z h0 ba .byte z f) (P4 : own_ArI Z h0 a1 .byte z1 f1) (go_a0r : n0 ≤ a0r) (go_ba : n0 ≤ ba) (hu : 0 ≤ u0.toInt) (hp2 : 0 ≤ p2.toInt) (hp3 : 0 ≤ p3.toInt) (h23 : p2.toInt + p3.toInt ≤ z1.toInt) (hc : u0.toInt + p3.toInt ≤ z.toInt) (hne : ba ≠ a0r) (hne1 : a1 ≠ a0r) (hne2 : a1 ≠ ba) :
    MetFree l (⟨"com/example/tracecourt/tracecourt/trace/Bytes$Out", "write", "([BII)V"⟩ : MethodName) (head1 (Jvm.Cond.code (⟨"com/example/tracecourt/tracecourt/trace/Bytes$Out", "write", "([BII)V"⟩ : MethodName) prog_225_method_10_code 5 none :: ws) ({ frames := 1, cells := 0, slots := 0, locals := 18 } : Room)) (fun a U => a = #[(.ref a0r), (.ref a1), (.int p2), (.int p3)] ∧ Z.Warmed39 U.vm ∧ U.heap = h0) (fun _ _ _ _ _ => True) (fun _ U o U' => ∃ v L, o = .returned v ∧ own_Q5 Z a0r a1 p2 p3 ba u0 z f z1 f1 h0 n0 v U'.heap L ∧ FrameEnd U o U' L ({ frames := 1, cells := 0, slots := 0, locals := 18 } : Room).cells ({ frames := 1, cells := 0, slots := 0, locals := 18 } : Room).slots) := by
  refine MetFree.of_bodySF (plainFor_of_name own_pn0) hisR ?_
  intro p e s m args below meth c s₁ Bd hml0 hP hK
  obtain ⟨rfl, hZ, hh⟩ := hP
  have hx := Bd.exec
  have hby := Bd.bytes
  have hml : c.maxLocals = 5 := hml0
  have hown : s.vm.findClass "com/example/tracecourt/tracecourt/trace/Bytes$Out" = some m.cls := findClass_of_methodNamed Bd.named
  have hnm := (name_of_methodNamed Bd.named Bd.method).1
  have X0 : Stand p l e ({ frames := 1, cells := 0, slots := 0, locals := 18 } : Room) s m #[(.ref a0r), (.ref a1), (.int p2), (.int p3)] below meth c s₁ [] 0 0 := Stand.of_body Bd
  have e0 : s₁.heap = h0 := by rw [← hh, Bd.state]; rfl
  have N0 := Fr.nil n0
  have K0 : Keep h0 h0 [a0r, ba] := Keep.refl h0 _
  refine own_go (fun t k => castTop (own_ef5 m a0r a1 p2 p3) k) ?_
  refine own_go (T' := s₁) (f' := (mkF m 2 #[.val (.ref a0r), .val (.ref a1), .val (.int p2), .val (.int p3), .unset] [(.int p3), (.ref a0r)])) (fun t k => ?_) ?_
  · show Steps p.tables e below (s₁.setTop (mkF m 0 #[.val (.ref a0r), .val (.ref a1), .val (.int p2), .val (.int p3), .unset] [])) _
    refine XS.aloadN X0.here hx rfl (hb hby own_d5_0) rfl rfl ?_
    show Steps p.tables e below (s₁.setTop (mkF m 1 #[.val (.ref a0r), .val (.ref a1), .val (.int p2), .val (.int p3), .unset] [(.ref a0r)])) _
    refine XS.iloadN X0.here hx rfl (hb hby own_d5_1) rfl ?_
    show Steps p.tables e below (s₁.setTop (mkF m 2 #[.val (.ref a0r), .val (.ref a1), .val (.int p2), .val (.int p3), .unset] [(.int p3), (.ref a0r)])) _
    exact k
  obtain ⟨cq1, q1, q1'⟩ := P0.cell
  have hpr1 : s.PrivateAt (⟨"com/example/tracecourt/tracecourt/trace/Bytes$Out", "take", "(I)I"⟩ : MethodName) := Cond.privateMethod_at (mvP hZ (hw _ (List.mem_of_getElem? (i := 29) rfl)) (args := #[]))
  have hse1 : (Jvm.Cond.selects "com/example/tracecourt/tracecourt/trace/Bytes$Out" (⟨"com/example/tracecourt/tracecourt/trace/Bytes$Out", "take", "(I)I"⟩ : MethodName) (⟨"com/example/tracecourt/tracecourt/trace/Bytes$Out", "take", "(I)I"⟩ : MethodName)).before #[(.ref a0r), (.ref a1), (.int p2), (.int p3)] s = true := by
    obtain ⟨c2, r2, m2, q1, q2, q3, q4, kP, hkP, hkPi⟩ := Cond.selects_spec (s := s) (args := #[(.ref a0r), (.ref a1), (.int p2), (.int p3)]) (mvT hZ (hw _ (List.mem_of_getElem? (i := 20) rfl)))
    have q5 := findClass_of_methodNamed q3
    exact selects_self_of_private (y := (⟨"com/example/tracecourt/tracecourt/trace/Bytes$Out", "take", "(I)I"⟩ : MethodName)) q5 hkP hkPi hpr1 (mvT hZ (hw _ (List.mem_of_getElem? (i := 28) rfl))) (by decide)
  obtain ⟨T1, Lq1, X1, N1, hQ1, st1⟩ := own_pf0 (vv := some (.int u0)) N0 (own_vs (X0.privateBack hx (y := (⟨"com/example/tracecourt/tracecourt/trace/Bytes$Out", "take", "(I)I"⟩ : MethodName)) hown (mvT hZ (hw _ (List.mem_of_getElem? (i := 27) rfl))) (mvT hZ (hw _ (List.mem_of_getElem? (i := 28) rfl))) hse1 hpr1 (mvT hZ (hw _ (List.mem_of_getElem? (i := 30) rfl))) (by decide) (backOf (W := 0) (own_rm4 l Z a0 hw [] a0r p3 ba u0 z f h0 n0 Z0 P0 P1 P2 P3 go_a0r hu hp3 hc hne) hZ (hw _ (List.mem_of_getElem? (i := 30) rfl)) (hw _ (List.mem_of_getElem? (i := 4) rfl)) (by decide) (by decide)) (g := (mkF m 2 #[.val (.ref a0r), .val (.ref a1), .val (.int p2), .val (.int p3), .unset] [(.int p3), (.ref a0r)])) rfl (by rw [hml]; rfl) (Steps.refl _) (a := a0r) (by rw [e0]; exact q1) q1' (argsL := [(.int p3)]) (rest := []) (lenOf own_pd1 rfl) rfl (by show 2 * 0 + _ ≤ _; exact Nat.le_of_eq rfl) (hb hby own_d5_2) (fun _ _ => ⟨rfl, e0, (by decide : 0 + 0 ≤ _), (by decide : 0 + 0 ≤ _)⟩))) (fun _ _ _ q => q) (k1 := 0) (k2 := 0) rfl rfl
  obtain ⟨h1q, p1_0, p1_1⟩ := hQ1
  have fc2 : Exa Z T1.heap a0r "com/example/tracecourt/tracecourt/trace/Bytes$Out" := P0.keep h1q
  have fc3 : own_ArI Z T1.heap ba .byte z f := P3.keep h1q (ninS hne nin0)
  have fc4 : own_ArI Z T1.heap a1 .byte z1 f1 := P4.keep h1q (ninS hne1 nin0)
  have Zs1 : n0 ≤ T1.heap.size := Nat.le_trans Z0 h1q.1
  have K1 : Keep h0 T1.heap [a0r, ba] := K0.trans h1q (allS (Or.inl (List.mem_of_getElem? (i := 0) rfl)) all0)
  refine own_go (T' := T1) (f' := (mkF m 5 #[.val (.ref a0r), .val (.ref a1), .val (.int p2), .val (.int p3), .unset] [(.int u0)])) (fun t k => st1 _ k) ?_
  refine own_go (T' := T1) (f' := (mkF m 10 #[.val (.ref a0r), .val (.ref a1), .val (.int p2), .val (.int p3), .val (.int u0)] [(.ref a0r), (.int p2), (.ref a1)])) (fun t k => ?_) ?_
  · show Steps p.tables e below (T1.setTop (mkF m 5 #[.val (.ref a0r), .val (.ref a1), .val (.int p2), .val (.int p3), .unset] [(.int u0)])) _
    refine XS.istore X1.here hx rfl (hb hby own_d5_5) rfl (l' := #[.val (.ref a0r), .val (.ref a1), .val (.int p2), .val (.int p3), .val (.int u0)]) rfl ?_
    show Steps p.tables e below (T1.setTop (mkF m 7 #[.val (.ref a0r), .val (.ref a1), .val (.int p2), .val (.int p3), .val (.int u0)] [])) _
    refine XS.aloadN X1.here hx rfl (hb hby own_d5_7) rfl rfl ?_
    show Steps p.tables e below (T1.setTop (mkF m 8 #[.val (.ref a0r), .val (.ref a1), .val (.int p2), .val (.int p3), .val (.int u0)] [(.ref a1)])) _
    refine XS.iloadN X1.here hx rfl (hb hby own_d5_8) rfl ?_
    show Steps p.tables e below (T1.setTop (mkF m 9 #[.val (.ref a0r), .val (.ref a1), .val (.int p2), .val (.int p3), .val (.int u0)] [(.int p2), (.ref a1)])) _
    refine XS.aloadN X1.here hx rfl (hb hby own_d5_9) rfl rfl ?_
    show Steps p.tables e below (T1.setTop (mkF m 10 #[.val (.ref a0r), .val (.ref a1), .val (.int p2), .val (.int p3), .val (.int u0)] [(.ref a0r), (.int p2), (.ref a1)])) _
    exact k
  obtain ⟨T5, X5, e5, st5⟩ := getF X1 hx hZ hown (host := "") (Or.inl (hw _ (List.mem_of_getElem? (i := 15) rfl))) Via.refl rfl p1_0 (g := (mkF m 10 #[.val (.ref a0r), .val (.ref a1), .val (.int p2), .val (.int p3), .val (.int u0)] [(.ref a0r), (.int p2), (.ref a1)])) rfl rfl (hb hby own_d5_10)
  refine own_go (T' := T5) (f' := (mkF m 13 #[.val (.ref a0r), .val (.ref a1), .val (.int p2), .val (.int p3), .val (.int u0)] [(.ref ba), (.int p2), (.ref a1)])) st5 ?_
  refine own_go (T' := T5) (f' := (mkF m 16 #[.val (.ref a0r), .val (.ref a1), .val (.int p2), .val (.int p3), .val (.int u0)] [(.int p3), (.int u0), (.ref ba), (.int p2), (.ref a1)])) (fun t k => ?_) ?_
  · show Steps p.tables e below (T5.setTop (mkF m 13 #[.val (.ref a0r), .val (.ref a1), .val (.int p2), .val (.int p3), .val (.int u0)] [(.ref ba), (.int p2), (.ref a1)])) _
    refine XS.iload X5.here hx rfl (hb hby own_d5_13) rfl ?_
    show Steps p.tables e below (T5.setTop (mkF m 15 #[.val (.ref a0r), .val (.ref a1), .val (.int p2), .val (.int p3), .val (.int u0)] [(.int u0), (.ref ba), (.int p2), (.ref a1)])) _
    refine XS.iloadN X5.here hx rfl (hb hby own_d5_15) rfl ?_
    show Steps p.tables e below (T5.setTop (mkF m 16 #[.val (.ref a0r), .val (.ref a1), .val (.int p2), .val (.int p3), .val (.int u0)] [(.int p3), (.int u0), (.ref ba), (.int p2), (.ref a1)])) _
    exact k
  obtain ⟨T6, h6, lo6, y6, X6, e6, N6, K6q, V6, ya6, yb6, st6⟩ := own_cp X5 hx hZ hown (hw _ (List.mem_of_getElem? (i := 33) rfl)) (hw _ (List.mem_of_getElem? (i := 36) rfl)) (hw _ (List.mem_of_getElem? (i := 34) rfl)) (hw _ (List.mem_of_getElem? (i := 35) rfl)) e5 fc4 fc3 hp2 hu hp3 h23 hc N1 go_ba (g := (mkF m 16 #[.val (.ref a0r), .val (.ref a1), .val (.int p2), .val (.int p3), .val (.int u0)] [(.int p3), (.int u0), (.ref ba), (.int p2), (.ref a1)])) rfl (by rw [hml]; rfl) rfl (hb hby own_d5_16) (by decide) (W := 0) (by show 2 * 0 + _ ≤ _; exact Nat.le_of_eq rfl) (by decide)
  have fc7 : Exa Z h6 a0r "com/example/tracecourt/tracecourt/trace/Bytes$Out" := fc2.keep K6q
  have fc8 : own_ArI Z h6 a1 .byte z1 f1 := fc4.keep K6q (ninS hne2 nin0)
  have fc9 : Fld Z h6 a0r "com/example/tracecourt/tracecourt/trace/Bytes$Out" "bytes" "[B" (.ref ba) := p1_0.keep K6q (ninS (Ne.symm hne) nin0)
  have fc10 : Fld Z h6 a0r "com/example/tracecourt/tracecourt/trace/Bytes$Out" "size" "I" (.int (u0 + p3)) := p1_1.keep K6q (ninS (Ne.symm hne) nin0)
  have Zs6 : n0 ≤ h6.size := Nat.le_trans Zs1 K6q.1
  have K6 : Keep h0 h6 [a0r, ba] := K1.trans K6q (allS (Or.inl (List.mem_of_getElem? (i := 1) rfl)) all0)
  refine own_go (T' := T6) (f' := (mkF m 19 #[.val (.ref a0r), .val (.ref a1), .val (.int p2), .val (.int p3), .val (.int u0)] [])) st6 ?_
  obtain ⟨fs, hr, hrun, hended, hW, hsame⟩ := X6.leave (v := none) (fun _ => rfl)
  refine ⟨_, _, ?_, hrun, hended, _, _, rfl, ?_, ⟨_, rfl⟩, hW, hsame.mono (by decide) (by decide)⟩
  · exact X6.returnOut hx Bd.returns (hb hby own_d5_19) hr
  · show own_Q5 Z a0r a1 p2 p3 ba u0 z f z1 f1 h0 n0 _ T6.heap _
    rw [e6]
    exact ⟨y6, rfl, N6, K6, fc9, fc10, V6, ⟨ya6, yb6⟩⟩
theorem own_pd2 : parseMethodDescriptor "([BII)V" = some ⟨[(.array .byte), .int, .int], none⟩ := by decide +kernel
theorem own_d6_0 : decode prog_225_method_9_code 0 = .ok (.aload_n 0, 1) := by decide +kernel
theorem own_d6_1 : decode prog_225_method_9_code 1 = .ok (.aload_n 1, 1) := by decide +kernel
theorem own_d6_2 : decode prog_225_method_9_code 2 = .ok (.iconst 0, 1) := by decide +kernel
theorem own_d6_3 : decode prog_225_method_9_code 3 = .ok (.aload_n 1, 1) := by decide +kernel
theorem own_d6_4 : decode prog_225_method_9_code 4 = .ok (.arraylength, 1) := by decide +kernel
theorem own_d6_5 : decode prog_225_method_9_code 5 = .ok (.invokevirtual 33, 3) := by decide +kernel
theorem own_d6_8 : decode prog_225_method_9_code 8 = .ok (.return_, 1) := by decide +kernel
theorem own_ef6 (m : MethodId) (a0r : Addr) (a1 : Addr) : entryFrame m #[(.ref a0r), (.ref a1)] 2 = mkF m 0 #[.val (.ref a0r), .val (.ref a1)] [] := by first | (simp [entryFrame, mkF, argsToLocals, Value.category]; done) | rfl
def own_Q6 (Z : State) (a0r : Addr) (a1 : Addr) (ba : Addr) (u0 : Int32) (z : Int32) (f : Nat → Int32) (z1 : Int32) (f1 : Nat → Int32) (h0 : Heap) (n0 : Nat) (v : Option Value) (h : Heap) (L : List Loc) : Prop := ∃ (f' : Nat → Int32), (v = none) ∧ (Fr n0 L) ∧ (Keep h0 h [a0r, ba]) ∧ (Fld Z h a0r "com/example/tracecourt/tracecourt/trace/Bytes$Out" "bytes" "[B" (.ref ba)) ∧ (Fld Z h a0r "com/example/tracecourt/tracecourt/trace/Bytes$Out" "size" "I" (.int (u0 + z1))) ∧ (own_ArI Z h ba .byte z f') ∧ ((∀ i, i < z1.toInt.toNat → f' (u0.toInt.toNat + i) = f1 ((0 : Int32).toInt.toNat + i)) ∧ (∀ i, i < u0.toInt.toNat ∨ u0.toInt.toNat + z1.toInt.toNat ≤ i → f' i = f i))
set_option maxRecDepth 65536 in
set_option maxHeartbeats 40000000 in
theorem own_rm6 (l : Launch) (Z : State) (a0 : Array Value) (hw : ∀ d ∈ tables_1, d.before a0 Z = true) (ws : List Jvm.Cond) (a0r : Addr) (a1 : Addr) (ba : Addr) (u0 : Int32) (z : Int32) (f : Nat → Int32) (z1 : Int32) (f1 : Nat → Int32) (h0 : Heap) (n0 : Nat) (Z0 : n0 ≤ h0.size) (P0 : Exa Z h0 a0r "com/example/tracecourt/tracecourt/trace/Bytes$Out") (P1 : Fld Z h0 a0r "com/example/tracecourt/tracecourt/trace/Bytes$Out" "bytes" "[B" (.ref ba)) (P2 : Fld Z h0 a0r "com/example/tracecourt/tracecourt/trace/Bytes$Out" "size" "I" (.int u0)) (P3 : own_ArI Z h0 ba .byte z f) (P4 : own_ArI Z h0 a1 .byte z1 f1) (go_a0r : n0 ≤ a0r) (go_ba : n0 ≤ ba) (hu : 0 ≤ u0.toInt) (hz1 : 0 ≤ z1.toInt) (hc : u0.toInt + z1.toInt ≤ z.toInt) (hne : ba ≠ a0r) (hne1 : a1 ≠ a0r) (hne2 : a1 ≠ ba) :
    MetFree l (⟨"com/example/tracecourt/tracecourt/trace/Bytes$Out", "write", "([B)V"⟩ : MethodName) (head1 (Jvm.Cond.code (⟨"com/example/tracecourt/tracecourt/trace/Bytes$Out", "write", "([B)V"⟩ : MethodName) prog_225_method_9_code 2 none :: ws) ({ frames := 2, cells := 0, slots := 0, locals := 34 } : Room)) (fun a U => a = #[(.ref a0r), (.ref a1)] ∧ Z.Warmed39 U.vm ∧ U.heap = h0) (fun _ _ _ _ _ => True) (fun _ U o U' => ∃ v L, o = .returned v ∧ own_Q6 Z a0r a1 ba u0 z f z1 f1 h0 n0 v U'.heap L ∧ FrameEnd U o U' L ({ frames := 2, cells := 0, slots := 0, locals := 34 } : Room).cells ({ frames := 2, cells := 0, slots := 0, locals := 34 } : Room).slots) := by
  refine MetFree.of_bodySF (plainFor_of_name own_pn0) hisR ?_
  intro p e s m args below meth c s₁ Bd hml0 hP hK
  obtain ⟨rfl, hZ, hh⟩ := hP
  have hx := Bd.exec
  have hby := Bd.bytes
  have hml : c.maxLocals = 2 := hml0
  have hown : s.vm.findClass "com/example/tracecourt/tracecourt/trace/Bytes$Out" = some m.cls := findClass_of_methodNamed Bd.named
  have hnm := (name_of_methodNamed Bd.named Bd.method).1
  have X0 : Stand p l e ({ frames := 2, cells := 0, slots := 0, locals := 34 } : Room) s m #[(.ref a0r), (.ref a1)] below meth c s₁ [] 0 0 := Stand.of_body Bd
  have e0 : s₁.heap = h0 := by rw [← hh, Bd.state]; rfl
  have N0 := Fr.nil n0
  have K0 : Keep h0 h0 [a0r, ba] := Keep.refl h0 _
  refine own_go (fun t k => castTop (own_ef6 m a0r a1) k) ?_
  refine own_go (T' := s₁) (f' := (mkF m 5 #[.val (.ref a0r), .val (.ref a1)] [(.int z1), (.int (0 : Int32)), (.ref a1), (.ref a0r)])) (fun t k => ?_) ?_
  · show Steps p.tables e below (s₁.setTop (mkF m 0 #[.val (.ref a0r), .val (.ref a1)] [])) _
    refine XS.aloadN X0.here hx rfl (hb hby own_d6_0) rfl rfl ?_
    show Steps p.tables e below (s₁.setTop (mkF m 1 #[.val (.ref a0r), .val (.ref a1)] [(.ref a0r)])) _
    refine XS.aloadN X0.here hx rfl (hb hby own_d6_1) rfl rfl ?_
    show Steps p.tables e below (s₁.setTop (mkF m 2 #[.val (.ref a0r), .val (.ref a1)] [(.ref a1), (.ref a0r)])) _
    refine XS.iconst X0.here hx rfl (hb hby own_d6_2) ?_
    show Steps p.tables e below (s₁.setTop (mkF m 3 #[.val (.ref a0r), .val (.ref a1)] [(.int (0 : Int32)), (.ref a1), (.ref a0r)])) _
    refine XS.aloadN X0.here hx rfl (hb hby own_d6_3) rfl rfl ?_
    show Steps p.tables e below (s₁.setTop (mkF m 4 #[.val (.ref a0r), .val (.ref a1)] [(.ref a1), (.int (0 : Int32)), (.ref a1), (.ref a0r)])) _
    refine P4.len X0 hx hZ e0 (g := (mkF m 4 #[.val (.ref a0r), .val (.ref a1)] [(.ref a1), (.int (0 : Int32)), (.ref a1), (.ref a0r)])) rfl rfl (hb hby own_d6_4) _ ?_
    show Steps p.tables e below (s₁.setTop (mkF m 5 #[.val (.ref a0r), .val (.ref a1)] [(.int z1), (.int (0 : Int32)), (.ref a1), (.ref a0r)])) _
    exact k
  obtain ⟨cq1, kq1, q1a, q1b, q1c⟩ := isOf hZ e0 P0
  obtain ⟨T1, Lq1, f'_1, X1, N1, hQ1, st1⟩ := own_pf1 (vv := fun (f'_1 : Nat → Int32) => none) N0 (own_vs (X0.virtualBack hx (y := (⟨"com/example/tracecourt/tracecourt/trace/Bytes$Out", "write", "([BII)V"⟩ : MethodName)) (z := (⟨"com/example/tracecourt/tracecourt/trace/Bytes$Out", "write", "([BII)V"⟩ : MethodName)) hown (mvT hZ (hw _ (List.mem_of_getElem? (i := 22) rfl))) (mvT hZ (hw _ (List.mem_of_getElem? (i := 23) rfl))) (notFace_of_selects (args := #[]) (mvT hZ (hw _ (List.mem_of_getElem? (i := 25) rfl)))) (mvT hZ (hw _ (List.mem_of_getElem? (i := 25) rfl))) (mvT hZ (hw _ (List.mem_of_getElem? (i := 24) rfl))) (by decide) (backOf (W := 0) (own_rm5 l Z a0 hw [] a0r a1 ((0 : Int32)) z1 ba u0 z f z1 f1 h0 n0 Z0 P0 P1 P2 P3 P4 go_a0r go_ba hu (by decide) hz1 (by rw [show (0 : Int32).toInt = 0 from rfl]; omega) hc hne hne1 hne2) hZ (hw _ (List.mem_of_getElem? (i := 26) rfl)) (hw _ (List.mem_of_getElem? (i := 4) rfl)) (by decide) (by decide)) q1a q1c (g := (mkF m 5 #[.val (.ref a0r), .val (.ref a1)] [(.int z1), (.int (0 : Int32)), (.ref a1), (.ref a0r)])) rfl (by rw [hml]; rfl) (Steps.refl _) (argsL := [(.ref a1), (.int (0 : Int32)), (.int z1)]) (rest := []) (lenOf own_pd2 rfl) rfl (by show 2 * 0 + _ ≤ _; exact Nat.le_of_eq rfl) (hb hby own_d6_5) (fun _ _ => ⟨rfl, e0, (by decide : 0 + 0 ≤ _), (by decide : 0 + 0 ≤ _)⟩))) (fun _ _ _ q => q) (k1 := 0) (k2 := 0) rfl rfl
  obtain ⟨h1q, p1_0, p1_1, p1_2, r1_cp⟩ := hQ1
  have fc2 : Exa Z T1.heap a0r "com/example/tracecourt/tracecourt/trace/Bytes$Out" := P0.keep h1q
  have fc3 : own_ArI Z T1.heap a1 .byte z1 f1 := P4.keep h1q (ninS hne1 (ninS hne2 nin0))
  have Zs1 : n0 ≤ T1.heap.size := Nat.le_trans Z0 h1q.1
  have K1 : Keep h0 T1.heap [a0r, ba] := K0.trans h1q (allS (Or.inl (List.mem_of_getElem? (i := 0) rfl)) (allS (Or.inl (List.mem_of_getElem? (i := 1) rfl)) all0))
  refine own_go (T' := T1) (f' := (mkF m 8 #[.val (.ref a0r), .val (.ref a1)] [])) (fun t k => st1 _ k) ?_
  obtain ⟨fs, hr, hrun, hended, hW, hsame⟩ := X1.leave (v := none) (fun _ => rfl)
  refine ⟨_, _, ?_, hrun, hended, _, _, rfl, ?_, ⟨_, rfl⟩, hW, hsame.mono (by decide) (by decide)⟩
  · exact X1.returnOut hx Bd.returns (hb hby own_d6_8) hr
  · show own_Q6 Z a0r a1 ba u0 z f z1 f1 h0 n0 _ T1.heap _
    exact ⟨f'_1, rfl, N1, K1, p1_0, p1_1, p1_2, r1_cp⟩
theorem own_d7_0 : decode prog_225_method_6_code 0 = .ok (.aload_n 0, 1) := by decide +kernel
theorem own_d7_1 : decode prog_225_method_6_code 1 = .ok (.getfield 13, 3) := by decide +kernel
theorem own_d7_4 : decode prog_225_method_6_code 4 = .ok (.iload_n 1, 1) := by decide +kernel
theorem own_d7_5 : decode prog_225_method_6_code 5 = .ok (.iload_n 2, 1) := by decide +kernel
theorem own_d7_6 : decode prog_225_method_6_code 6 = .ok (.bipush 24, 2) := by decide +kernel
theorem own_d7_8 : decode prog_225_method_6_code 8 = .ok (.iushr, 1) := by decide +kernel
theorem own_d7_9 : decode prog_225_method_6_code 9 = .ok (.i2b, 1) := by decide +kernel
theorem own_d7_10 : decode prog_225_method_6_code 10 = .ok (.bastore, 1) := by decide +kernel
theorem own_d7_11 : decode prog_225_method_6_code 11 = .ok (.aload_n 0, 1) := by decide +kernel
theorem own_d7_12 : decode prog_225_method_6_code 12 = .ok (.getfield 13, 3) := by decide +kernel
theorem own_d7_15 : decode prog_225_method_6_code 15 = .ok (.iload_n 1, 1) := by decide +kernel
theorem own_d7_16 : decode prog_225_method_6_code 16 = .ok (.iconst 1, 1) := by decide +kernel
theorem own_d7_17 : decode prog_225_method_6_code 17 = .ok (.iadd, 1) := by decide +kernel
theorem own_d7_18 : decode prog_225_method_6_code 18 = .ok (.iload_n 2, 1) := by decide +kernel
theorem own_d7_19 : decode prog_225_method_6_code 19 = .ok (.bipush 16, 2) := by decide +kernel
theorem own_d7_21 : decode prog_225_method_6_code 21 = .ok (.iushr, 1) := by decide +kernel
theorem own_d7_22 : decode prog_225_method_6_code 22 = .ok (.i2b, 1) := by decide +kernel
theorem own_d7_23 : decode prog_225_method_6_code 23 = .ok (.bastore, 1) := by decide +kernel
theorem own_d7_24 : decode prog_225_method_6_code 24 = .ok (.aload_n 0, 1) := by decide +kernel
theorem own_d7_25 : decode prog_225_method_6_code 25 = .ok (.getfield 13, 3) := by decide +kernel
theorem own_d7_28 : decode prog_225_method_6_code 28 = .ok (.iload_n 1, 1) := by decide +kernel
theorem own_d7_29 : decode prog_225_method_6_code 29 = .ok (.iconst 2, 1) := by decide +kernel
theorem own_d7_30 : decode prog_225_method_6_code 30 = .ok (.iadd, 1) := by decide +kernel
theorem own_d7_31 : decode prog_225_method_6_code 31 = .ok (.iload_n 2, 1) := by decide +kernel
theorem own_d7_32 : decode prog_225_method_6_code 32 = .ok (.bipush 8, 2) := by decide +kernel
theorem own_d7_34 : decode prog_225_method_6_code 34 = .ok (.iushr, 1) := by decide +kernel
theorem own_d7_35 : decode prog_225_method_6_code 35 = .ok (.i2b, 1) := by decide +kernel
theorem own_d7_36 : decode prog_225_method_6_code 36 = .ok (.bastore, 1) := by decide +kernel
theorem own_d7_37 : decode prog_225_method_6_code 37 = .ok (.aload_n 0, 1) := by decide +kernel
theorem own_d7_38 : decode prog_225_method_6_code 38 = .ok (.getfield 13, 3) := by decide +kernel
theorem own_d7_41 : decode prog_225_method_6_code 41 = .ok (.iload_n 1, 1) := by decide +kernel
theorem own_d7_42 : decode prog_225_method_6_code 42 = .ok (.iconst 3, 1) := by decide +kernel
theorem own_d7_43 : decode prog_225_method_6_code 43 = .ok (.iadd, 1) := by decide +kernel
theorem own_d7_44 : decode prog_225_method_6_code 44 = .ok (.iload_n 2, 1) := by decide +kernel
theorem own_d7_45 : decode prog_225_method_6_code 45 = .ok (.i2b, 1) := by decide +kernel
theorem own_d7_46 : decode prog_225_method_6_code 46 = .ok (.bastore, 1) := by decide +kernel
theorem own_d7_47 : decode prog_225_method_6_code 47 = .ok (.return_, 1) := by decide +kernel
theorem own_ef7 (m : MethodId) (a0r : Addr) (p1 : Int32) (p2 : Int32) : entryFrame m #[(.ref a0r), (.int p1), (.int p2)] 3 = mkF m 0 #[.val (.ref a0r), .val (.int p1), .val (.int p2)] [] := by first | (simp [entryFrame, mkF, argsToLocals, Value.category]; done) | rfl
def own_Q7 (Z : State) (a0r : Addr) (p1 : Int32) (p2 : Int32) (ba : Addr) (z : Int32) (f : Nat → Int32) (h0 : Heap) (n0 : Nat) (v : Option Value) (h : Heap) (L : List Loc) : Prop := ∃ (f' : Nat → Int32), (v = none) ∧ (Fr n0 L) ∧ (Keep h0 h [ba]) ∧ (own_ArI Z h ba .byte z f') ∧ (own_WI p1 p2 f f')
set_option maxRecDepth 65536 in
set_option maxHeartbeats 40000000 in
theorem own_rm7 (l : Launch) (Z : State) (a0 : Array Value) (hw : ∀ d ∈ tables_1, d.before a0 Z = true) (ws : List Jvm.Cond) (a0r : Addr) (p1 : Int32) (p2 : Int32) (ba : Addr) (z : Int32) (f : Nat → Int32) (h0 : Heap) (n0 : Nat) (Z0 : n0 ≤ h0.size) (P0 : Fld Z h0 a0r "com/example/tracecourt/tracecourt/trace/Bytes$Out" "bytes" "[B" (.ref ba)) (P1 : own_ArI Z h0 ba .byte z f) (go_ba : n0 ≤ ba) (hp : 0 ≤ p1.toInt) (hz : p1.toInt + 4 ≤ z.toInt) (hne : a0r ≠ ba) :
    MetFree l (⟨"com/example/tracecourt/tracecourt/trace/Bytes$Out", "writeIntAt", "(II)V"⟩ : MethodName) (head1 (Jvm.Cond.code (⟨"com/example/tracecourt/tracecourt/trace/Bytes$Out", "writeIntAt", "(II)V"⟩ : MethodName) prog_225_method_6_code 3 none :: ws) ({ frames := 0, cells := 0, slots := 0, locals := 0 } : Room)) (fun a U => a = #[(.ref a0r), (.int p1), (.int p2)] ∧ Z.Warmed39 U.vm ∧ U.heap = h0) (fun _ _ _ _ _ => True) (fun _ U o U' => ∃ v L, o = .returned v ∧ own_Q7 Z a0r p1 p2 ba z f h0 n0 v U'.heap L ∧ FrameEnd U o U' L ({ frames := 0, cells := 0, slots := 0, locals := 0 } : Room).cells ({ frames := 0, cells := 0, slots := 0, locals := 0 } : Room).slots) := by
  refine MetFree.of_bodySF (plainFor_of_name own_pn0) hisR ?_
  intro p e s m args below meth c s₁ Bd hml0 hP hK
  obtain ⟨rfl, hZ, hh⟩ := hP
  have hx := Bd.exec
  have hby := Bd.bytes
  have hml : c.maxLocals = 3 := hml0
  have hown : s.vm.findClass "com/example/tracecourt/tracecourt/trace/Bytes$Out" = some m.cls := findClass_of_methodNamed Bd.named
  have hnm := (name_of_methodNamed Bd.named Bd.method).1
  have X0 : Stand p l e ({ frames := 0, cells := 0, slots := 0, locals := 0 } : Room) s m #[(.ref a0r), (.int p1), (.int p2)] below meth c s₁ [] 0 0 := Stand.of_body Bd
  have e0 : s₁.heap = h0 := by rw [← hh, Bd.state]; rfl
  have N0 := Fr.nil n0
  have K0 : Keep h0 h0 [ba] := Keep.refl h0 _
  refine own_go (fun t k => castTop (own_ef7 m a0r p1 p2) k) ?_
  have zr := rng32 z
  have hk1 := own_addk p1 1 1 rfl (by omega)
  have hk2 := own_addk p1 2 2 rfl (by omega)
  have hk3 := own_addk p1 3 3 rfl (by omega)
  refine own_go (T' := s₁) (f' := (mkF m 1 #[.val (.ref a0r), .val (.int p1), .val (.int p2)] [(.ref a0r)])) (fun t k => ?_) ?_
  · show Steps p.tables e below (s₁.setTop (mkF m 0 #[.val (.ref a0r), .val (.int p1), .val (.int p2)] [])) _
    refine XS.aloadN X0.here hx rfl (hb hby own_d7_0) rfl rfl ?_
    show Steps p.tables e below (s₁.setTop (mkF m 1 #[.val (.ref a0r), .val (.int p1), .val (.int p2)] [(.ref a0r)])) _
    exact k
  obtain ⟨T1, X1, e1, st1⟩ := getF X0 hx hZ hown (host := "") (Or.inl (hw _ (List.mem_of_getElem? (i := 15) rfl))) Via.refl e0 P0 (g := (mkF m 1 #[.val (.ref a0r), .val (.int p1), .val (.int p2)] [(.ref a0r)])) rfl rfl (hb hby own_d7_1)
  refine own_go (T' := T1) (f' := (mkF m 4 #[.val (.ref a0r), .val (.int p1), .val (.int p2)] [(.ref ba)])) st1 ?_
  refine own_go (T' := T1) (f' := (mkF m 10 #[.val (.ref a0r), .val (.int p1), .val (.int p2)] [(.int ((own_shrI p2 (24 : Int32)).toInt8.toInt32)), (.int p1), (.ref ba)])) (fun t k => ?_) ?_
  · show Steps p.tables e below (T1.setTop (mkF m 4 #[.val (.ref a0r), .val (.int p1), .val (.int p2)] [(.ref ba)])) _
    refine XS.iloadN X1.here hx rfl (hb hby own_d7_4) rfl ?_
    show Steps p.tables e below (T1.setTop (mkF m 5 #[.val (.ref a0r), .val (.int p1), .val (.int p2)] [(.int p1), (.ref ba)])) _
    refine XS.iloadN X1.here hx rfl (hb hby own_d7_5) rfl ?_
    show Steps p.tables e below (T1.setTop (mkF m 6 #[.val (.ref a0r), .val (.int p1), .val (.int p2)] [(.int p2), (.int p1), (.ref ba)])) _
    refine XS.bipush X1.here hx rfl (hb hby own_d7_6) ?_
    show Steps p.tables e below (T1.setTop (mkF m 8 #[.val (.ref a0r), .val (.int p1), .val (.int p2)] [(.int (24 : Int32)), (.int p2), (.int p1), (.ref ba)])) _
    refine XS.iushr X1.here hx rfl (hb hby own_d7_8) rfl ?_
    show Steps p.tables e below (T1.setTop (mkF m 9 #[.val (.ref a0r), .val (.int p1), .val (.int p2)] [(.int (own_shrI p2 (24 : Int32))), (.int p1), (.ref ba)])) _
    refine XS.i2b X1.here hx rfl (hb hby own_d7_9) rfl ?_
    show Steps p.tables e below (T1.setTop (mkF m 10 #[.val (.ref a0r), .val (.int p1), .val (.int p2)] [(.int ((own_shrI p2 (24 : Int32)).toInt8.toInt32)), (.int p1), (.ref ba)])) _
    exact k
  obtain ⟨T2, h2, y2, X2, e2, W2, V2, ya2, yb2, st2⟩ := own_stB X1 hx hZ e1 P1 (j := p1) (x := ((own_shrI p2 (24 : Int32)).toInt8.toInt32)) (by omega) (by omega) (g := (mkF m 10 #[.val (.ref a0r), .val (.int p1), .val (.int p2)] [(.int ((own_shrI p2 (24 : Int32)).toInt8.toInt32)), (.int p1), (.ref ba)])) rfl rfl (hb hby own_d7_10)
  refine own_go (T' := T2) (f' := (mkF m 11 #[.val (.ref a0r), .val (.int p1), .val (.int p2)] [])) st2 ?_
  have fc3 : Fld Z h2 a0r "com/example/tracecourt/tracecourt/trace/Bytes$Out" "bytes" "[B" (.ref ba) := P0.other W2 (Or.inl hne)
  have fc4 : own_ArI Z h2 ba .byte z y2 := V2
  have Zs2 : n0 ≤ h2.size := Nat.le_trans Z0 (Keep.of_wr W2).1
  have K2 : Keep h0 h2 [ba] := K0.wr W2 (Or.inl (List.mem_of_getElem? (i := 0) rfl))
  have N2 := Fr.snoc X2 N0 go_ba
  have ya2' : y2 p1.toInt.toNat = (nar .byte ((own_shrI p2 (24 : Int32)).toInt8.toInt32)) := ya2
  have yb2' : ∀ i, i ≠ p1.toInt.toNat → y2 i = f i := yb2
  refine own_go (T' := T2) (f' := (mkF m 12 #[.val (.ref a0r), .val (.int p1), .val (.int p2)] [(.ref a0r)])) (fun t k => ?_) ?_
  · show Steps p.tables e below (T2.setTop (mkF m 11 #[.val (.ref a0r), .val (.int p1), .val (.int p2)] [])) _
    refine XS.aloadN X2.here hx rfl (hb hby own_d7_11) rfl rfl ?_
    show Steps p.tables e below (T2.setTop (mkF m 12 #[.val (.ref a0r), .val (.int p1), .val (.int p2)] [(.ref a0r)])) _
    exact k
  obtain ⟨T5, X5, e5, st5⟩ := getF X2 hx hZ hown (host := "") (Or.inl (hw _ (List.mem_of_getElem? (i := 15) rfl))) Via.refl e2 fc3 (g := (mkF m 12 #[.val (.ref a0r), .val (.int p1), .val (.int p2)] [(.ref a0r)])) rfl rfl (hb hby own_d7_12)
  refine own_go (T' := T5) (f' := (mkF m 15 #[.val (.ref a0r), .val (.int p1), .val (.int p2)] [(.ref ba)])) st5 ?_
  refine own_go (T' := T5) (f' := (mkF m 23 #[.val (.ref a0r), .val (.int p1), .val (.int p2)] [(.int ((own_shrI p2 (16 : Int32)).toInt8.toInt32)), (.int (p1 + (1 : Int32))), (.ref ba)])) (fun t k => ?_) ?_
  · show Steps p.tables e below (T5.setTop (mkF m 15 #[.val (.ref a0r), .val (.int p1), .val (.int p2)] [(.ref ba)])) _
    refine XS.iloadN X5.here hx rfl (hb hby own_d7_15) rfl ?_
    show Steps p.tables e below (T5.setTop (mkF m 16 #[.val (.ref a0r), .val (.int p1), .val (.int p2)] [(.int p1), (.ref ba)])) _
    refine XS.iconst X5.here hx rfl (hb hby own_d7_16) ?_
    show Steps p.tables e below (T5.setTop (mkF m 17 #[.val (.ref a0r), .val (.int p1), .val (.int p2)] [(.int (1 : Int32)), (.int p1), (.ref ba)])) _
    refine XS.iadd X5.here hx rfl (hb hby own_d7_17) rfl ?_
    show Steps p.tables e below (T5.setTop (mkF m 18 #[.val (.ref a0r), .val (.int p1), .val (.int p2)] [(.int (p1 + (1 : Int32))), (.ref ba)])) _
    refine XS.iloadN X5.here hx rfl (hb hby own_d7_18) rfl ?_
    show Steps p.tables e below (T5.setTop (mkF m 19 #[.val (.ref a0r), .val (.int p1), .val (.int p2)] [(.int p2), (.int (p1 + (1 : Int32))), (.ref ba)])) _
    refine XS.bipush X5.here hx rfl (hb hby own_d7_19) ?_
    show Steps p.tables e below (T5.setTop (mkF m 21 #[.val (.ref a0r), .val (.int p1), .val (.int p2)] [(.int (16 : Int32)), (.int p2), (.int (p1 + (1 : Int32))), (.ref ba)])) _
    refine XS.iushr X5.here hx rfl (hb hby own_d7_21) rfl ?_
    show Steps p.tables e below (T5.setTop (mkF m 22 #[.val (.ref a0r), .val (.int p1), .val (.int p2)] [(.int (own_shrI p2 (16 : Int32))), (.int (p1 + (1 : Int32))), (.ref ba)])) _
    refine XS.i2b X5.here hx rfl (hb hby own_d7_22) rfl ?_
    show Steps p.tables e below (T5.setTop (mkF m 23 #[.val (.ref a0r), .val (.int p1), .val (.int p2)] [(.int ((own_shrI p2 (16 : Int32)).toInt8.toInt32)), (.int (p1 + (1 : Int32))), (.ref ba)])) _
    exact k
  obtain ⟨T6, h6, y6, X6, e6, W6, V6, ya6, yb6, st6⟩ := own_stB X5 hx hZ e5 fc4 (j := (p1 + (1 : Int32))) (x := ((own_shrI p2 (16 : Int32)).toInt8.toInt32)) (by omega) (by omega) (g := (mkF m 23 #[.val (.ref a0r), .val (.int p1), .val (.int p2)] [(.int ((own_shrI p2 (16 : Int32)).toInt8.toInt32)), (.int (p1 + (1 : Int32))), (.ref ba)])) rfl rfl (hb hby own_d7_23)
  refine own_go (T' := T6) (f' := (mkF m 24 #[.val (.ref a0r), .val (.int p1), .val (.int p2)] [])) st6 ?_
  have fc7 : Fld Z h6 a0r "com/example/tracecourt/tracecourt/trace/Bytes$Out" "bytes" "[B" (.ref ba) := fc3.other W6 (Or.inl hne)
  have fc8 : own_ArI Z h6 ba .byte z y6 := V6
  have Zs6 : n0 ≤ h6.size := Nat.le_trans Zs2 (Keep.of_wr W6).1
  have K6 : Keep h0 h6 [ba] := K2.wr W6 (Or.inl (List.mem_of_getElem? (i := 0) rfl))
  have N6 := Fr.snoc X6 N2 go_ba
  have ya6' : y6 (p1 + (1 : Int32)).toInt.toNat = (nar .byte ((own_shrI p2 (16 : Int32)).toInt8.toInt32)) := ya6
  have yb6' : ∀ i, i ≠ (p1 + (1 : Int32)).toInt.toNat → y6 i = y2 i := yb6
  refine own_go (T' := T6) (f' := (mkF m 25 #[.val (.ref a0r), .val (.int p1), .val (.int p2)] [(.ref a0r)])) (fun t k => ?_) ?_
  · show Steps p.tables e below (T6.setTop (mkF m 24 #[.val (.ref a0r), .val (.int p1), .val (.int p2)] [])) _
    refine XS.aloadN X6.here hx rfl (hb hby own_d7_24) rfl rfl ?_
    show Steps p.tables e below (T6.setTop (mkF m 25 #[.val (.ref a0r), .val (.int p1), .val (.int p2)] [(.ref a0r)])) _
    exact k
  obtain ⟨T9, X9, e9, st9⟩ := getF X6 hx hZ hown (host := "") (Or.inl (hw _ (List.mem_of_getElem? (i := 15) rfl))) Via.refl e6 fc7 (g := (mkF m 25 #[.val (.ref a0r), .val (.int p1), .val (.int p2)] [(.ref a0r)])) rfl rfl (hb hby own_d7_25)
  refine own_go (T' := T9) (f' := (mkF m 28 #[.val (.ref a0r), .val (.int p1), .val (.int p2)] [(.ref ba)])) st9 ?_
  refine own_go (T' := T9) (f' := (mkF m 36 #[.val (.ref a0r), .val (.int p1), .val (.int p2)] [(.int ((own_shrI p2 (8 : Int32)).toInt8.toInt32)), (.int (p1 + (2 : Int32))), (.ref ba)])) (fun t k => ?_) ?_
  · show Steps p.tables e below (T9.setTop (mkF m 28 #[.val (.ref a0r), .val (.int p1), .val (.int p2)] [(.ref ba)])) _
    refine XS.iloadN X9.here hx rfl (hb hby own_d7_28) rfl ?_
    show Steps p.tables e below (T9.setTop (mkF m 29 #[.val (.ref a0r), .val (.int p1), .val (.int p2)] [(.int p1), (.ref ba)])) _
    refine XS.iconst X9.here hx rfl (hb hby own_d7_29) ?_
    show Steps p.tables e below (T9.setTop (mkF m 30 #[.val (.ref a0r), .val (.int p1), .val (.int p2)] [(.int (2 : Int32)), (.int p1), (.ref ba)])) _
    refine XS.iadd X9.here hx rfl (hb hby own_d7_30) rfl ?_
    show Steps p.tables e below (T9.setTop (mkF m 31 #[.val (.ref a0r), .val (.int p1), .val (.int p2)] [(.int (p1 + (2 : Int32))), (.ref ba)])) _
    refine XS.iloadN X9.here hx rfl (hb hby own_d7_31) rfl ?_
    show Steps p.tables e below (T9.setTop (mkF m 32 #[.val (.ref a0r), .val (.int p1), .val (.int p2)] [(.int p2), (.int (p1 + (2 : Int32))), (.ref ba)])) _
    refine XS.bipush X9.here hx rfl (hb hby own_d7_32) ?_
    show Steps p.tables e below (T9.setTop (mkF m 34 #[.val (.ref a0r), .val (.int p1), .val (.int p2)] [(.int (8 : Int32)), (.int p2), (.int (p1 + (2 : Int32))), (.ref ba)])) _
    refine XS.iushr X9.here hx rfl (hb hby own_d7_34) rfl ?_
    show Steps p.tables e below (T9.setTop (mkF m 35 #[.val (.ref a0r), .val (.int p1), .val (.int p2)] [(.int (own_shrI p2 (8 : Int32))), (.int (p1 + (2 : Int32))), (.ref ba)])) _
    refine XS.i2b X9.here hx rfl (hb hby own_d7_35) rfl ?_
    show Steps p.tables e below (T9.setTop (mkF m 36 #[.val (.ref a0r), .val (.int p1), .val (.int p2)] [(.int ((own_shrI p2 (8 : Int32)).toInt8.toInt32)), (.int (p1 + (2 : Int32))), (.ref ba)])) _
    exact k
  obtain ⟨T10, h10, y10, X10, e10, W10, V10, ya10, yb10, st10⟩ := own_stB X9 hx hZ e9 fc8 (j := (p1 + (2 : Int32))) (x := ((own_shrI p2 (8 : Int32)).toInt8.toInt32)) (by omega) (by omega) (g := (mkF m 36 #[.val (.ref a0r), .val (.int p1), .val (.int p2)] [(.int ((own_shrI p2 (8 : Int32)).toInt8.toInt32)), (.int (p1 + (2 : Int32))), (.ref ba)])) rfl rfl (hb hby own_d7_36)
  refine own_go (T' := T10) (f' := (mkF m 37 #[.val (.ref a0r), .val (.int p1), .val (.int p2)] [])) st10 ?_
  have fc11 : Fld Z h10 a0r "com/example/tracecourt/tracecourt/trace/Bytes$Out" "bytes" "[B" (.ref ba) := fc7.other W10 (Or.inl hne)
  have fc12 : own_ArI Z h10 ba .byte z y10 := V10
  have Zs10 : n0 ≤ h10.size := Nat.le_trans Zs6 (Keep.of_wr W10).1
  have K10 : Keep h0 h10 [ba] := K6.wr W10 (Or.inl (List.mem_of_getElem? (i := 0) rfl))
  have N10 := Fr.snoc X10 N6 go_ba
  have ya10' : y10 (p1 + (2 : Int32)).toInt.toNat = (nar .byte ((own_shrI p2 (8 : Int32)).toInt8.toInt32)) := ya10
  have yb10' : ∀ i, i ≠ (p1 + (2 : Int32)).toInt.toNat → y10 i = y6 i := yb10
  refine own_go (T' := T10) (f' := (mkF m 38 #[.val (.ref a0r), .val (.int p1), .val (.int p2)] [(.ref a0r)])) (fun t k => ?_) ?_
  · show Steps p.tables e below (T10.setTop (mkF m 37 #[.val (.ref a0r), .val (.int p1), .val (.int p2)] [])) _
    refine XS.aloadN X10.here hx rfl (hb hby own_d7_37) rfl rfl ?_
    show Steps p.tables e below (T10.setTop (mkF m 38 #[.val (.ref a0r), .val (.int p1), .val (.int p2)] [(.ref a0r)])) _
    exact k
  obtain ⟨T13, X13, e13, st13⟩ := getF X10 hx hZ hown (host := "") (Or.inl (hw _ (List.mem_of_getElem? (i := 15) rfl))) Via.refl e10 fc11 (g := (mkF m 38 #[.val (.ref a0r), .val (.int p1), .val (.int p2)] [(.ref a0r)])) rfl rfl (hb hby own_d7_38)
  refine own_go (T' := T13) (f' := (mkF m 41 #[.val (.ref a0r), .val (.int p1), .val (.int p2)] [(.ref ba)])) st13 ?_
  refine own_go (T' := T13) (f' := (mkF m 46 #[.val (.ref a0r), .val (.int p1), .val (.int p2)] [(.int (p2.toInt8.toInt32)), (.int (p1 + (3 : Int32))), (.ref ba)])) (fun t k => ?_) ?_
  · show Steps p.tables e below (T13.setTop (mkF m 41 #[.val (.ref a0r), .val (.int p1), .val (.int p2)] [(.ref ba)])) _
    refine XS.iloadN X13.here hx rfl (hb hby own_d7_41) rfl ?_
    show Steps p.tables e below (T13.setTop (mkF m 42 #[.val (.ref a0r), .val (.int p1), .val (.int p2)] [(.int p1), (.ref ba)])) _
    refine XS.iconst X13.here hx rfl (hb hby own_d7_42) ?_
    show Steps p.tables e below (T13.setTop (mkF m 43 #[.val (.ref a0r), .val (.int p1), .val (.int p2)] [(.int (3 : Int32)), (.int p1), (.ref ba)])) _
    refine XS.iadd X13.here hx rfl (hb hby own_d7_43) rfl ?_
    show Steps p.tables e below (T13.setTop (mkF m 44 #[.val (.ref a0r), .val (.int p1), .val (.int p2)] [(.int (p1 + (3 : Int32))), (.ref ba)])) _
    refine XS.iloadN X13.here hx rfl (hb hby own_d7_44) rfl ?_
    show Steps p.tables e below (T13.setTop (mkF m 45 #[.val (.ref a0r), .val (.int p1), .val (.int p2)] [(.int p2), (.int (p1 + (3 : Int32))), (.ref ba)])) _
    refine XS.i2b X13.here hx rfl (hb hby own_d7_45) rfl ?_
    show Steps p.tables e below (T13.setTop (mkF m 46 #[.val (.ref a0r), .val (.int p1), .val (.int p2)] [(.int (p2.toInt8.toInt32)), (.int (p1 + (3 : Int32))), (.ref ba)])) _
    exact k
  obtain ⟨T14, h14, y14, X14, e14, W14, V14, ya14, yb14, st14⟩ := own_stB X13 hx hZ e13 fc12 (j := (p1 + (3 : Int32))) (x := (p2.toInt8.toInt32)) (by omega) (by omega) (g := (mkF m 46 #[.val (.ref a0r), .val (.int p1), .val (.int p2)] [(.int (p2.toInt8.toInt32)), (.int (p1 + (3 : Int32))), (.ref ba)])) rfl rfl (hb hby own_d7_46)
  refine own_go (T' := T14) (f' := (mkF m 47 #[.val (.ref a0r), .val (.int p1), .val (.int p2)] [])) st14 ?_
  have fc15 : Fld Z h14 a0r "com/example/tracecourt/tracecourt/trace/Bytes$Out" "bytes" "[B" (.ref ba) := fc11.other W14 (Or.inl hne)
  have fc16 : own_ArI Z h14 ba .byte z y14 := V14
  have Zs14 : n0 ≤ h14.size := Nat.le_trans Zs10 (Keep.of_wr W14).1
  have K14 : Keep h0 h14 [ba] := K10.wr W14 (Or.inl (List.mem_of_getElem? (i := 0) rfl))
  have N14 := Fr.snoc X14 N10 go_ba
  have ya14' : y14 (p1 + (3 : Int32)).toInt.toNat = (nar .byte (p2.toInt8.toInt32)) := ya14
  have yb14' : ∀ i, i ≠ (p1 + (3 : Int32)).toInt.toNat → y14 i = y10 i := yb14
  obtain ⟨fs, hr, hrun, hended, hW, hsame⟩ := X14.leave (v := none) (fun _ => rfl)
  refine ⟨_, _, ?_, hrun, hended, _, _, rfl, ?_, ⟨_, rfl⟩, hW, hsame.mono (by decide) (by decide)⟩
  · exact X14.returnOut hx Bd.returns (hb hby own_d7_47) hr
  · show own_Q7 Z a0r p1 p2 ba z f h0 n0 _ T14.heap _
    rw [e14]
    exact ⟨y14, rfl, N14, K14, fc16, (own_WI.mk hp hk1 hk2 hk3 ya2' yb2' ya6' yb6' ya10' yb10' ya14' yb14')⟩
theorem own_d8_0 : decode jdk_65_method_121_code 0 = .ok (.iload_n 1, 1) := by decide +kernel
theorem own_d8_1 : decode jdk_65_method_121_code 1 = .ok (.aload_n 0, 1) := by decide +kernel
theorem own_d8_2 : decode jdk_65_method_121_code 2 = .ok (.arraylength, 1) := by decide +kernel
theorem own_d8_3 : decode jdk_65_method_121_code 3 = .ok (.if_icmp .ne 11, 3) := by decide +kernel
theorem own_d8_14 : decode jdk_65_method_121_code 14 = .ok (.iload_n 1, 1) := by decide +kernel
theorem own_d8_15 : decode jdk_65_method_121_code 15 = .ok (.newarray .byte, 2) := by decide +kernel
theorem own_d8_17 : decode jdk_65_method_121_code 17 = .ok (.astore_n 2, 1) := by decide +kernel
theorem own_d8_18 : decode jdk_65_method_121_code 18 = .ok (.aload_n 0, 1) := by decide +kernel
theorem own_d8_19 : decode jdk_65_method_121_code 19 = .ok (.iconst 0, 1) := by decide +kernel
theorem own_d8_20 : decode jdk_65_method_121_code 20 = .ok (.aload_n 2, 1) := by decide +kernel
theorem own_d8_21 : decode jdk_65_method_121_code 21 = .ok (.iconst 0, 1) := by decide +kernel
theorem own_d8_22 : decode jdk_65_method_121_code 22 = .ok (.aload_n 0, 1) := by decide +kernel
theorem own_d8_23 : decode jdk_65_method_121_code 23 = .ok (.arraylength, 1) := by decide +kernel
theorem own_d8_24 : decode jdk_65_method_121_code 24 = .ok (.iload_n 1, 1) := by decide +kernel
theorem own_d8_25 : decode jdk_65_method_121_code 25 = .ok (.invokestatic 304, 3) := by decide +kernel
theorem own_d8_28 : decode jdk_65_method_121_code 28 = .ok (.invokestatic 150, 3) := by decide +kernel
theorem own_d8_31 : decode jdk_65_method_121_code 31 = .ok (.aload_n 2, 1) := by decide +kernel
theorem own_d8_32 : decode jdk_65_method_121_code 32 = .ok (.areturn, 1) := by decide +kernel
theorem own_pn1 : plainName "java/util/Arrays" = true := by first | (simp [plainName, overriddenIn]; done) | decide +kernel
theorem own_ef8 (m : MethodId) (a0r : Addr) (p1 : Int32) : entryFrame m #[(.ref a0r), (.int p1)] 3 = mkF m 0 #[.val (.ref a0r), .val (.int p1), .unset] [] := by first | (simp [entryFrame, mkF, argsToLocals, Value.category]; done) | rfl
def own_Q8 (Z : State) (a0r : Addr) (p1 : Int32) (z : Int32) (f : Nat → Int32) (h0 : Heap) (n0 : Nat) (v : Option Value) (h : Heap) (L : List Loc) : Prop := ∃ (br : Addr), ∃ (f' : Nat → Int32), (v = some (.ref br)) ∧ (Fr n0 L) ∧ (Keep h0 h []) ∧ (h0.size ≤ br) ∧ (own_ArI Z h br .byte p1 f') ∧ (∀ i, i < p1.toInt.toNat → f' i = f i)
set_option maxRecDepth 65536 in
set_option maxHeartbeats 40000000 in
theorem own_rm8 (l : Launch) (Z : State) (a0 : Array Value) (hw : ∀ d ∈ tables_1, d.before a0 Z = true) (ws : List Jvm.Cond) (a0r : Addr) (p1 : Int32) (z : Int32) (f : Nat → Int32) (h0 : Heap) (n0 : Nat) (Z0 : n0 ≤ h0.size) (P0 : own_ArI Z h0 a0r .byte z f) (hp : 0 ≤ p1.toInt) (hp12 : p1.toInt ≤ 12) (hz : p1.toInt < z.toInt) :
    MetFree l (⟨"java/util/Arrays", "copyOf", "([BI)[B"⟩ : MethodName) (head1 (Jvm.Cond.code (⟨"java/util/Arrays", "copyOf", "([BI)[B"⟩ : MethodName) jdk_65_method_121_code 3 (some (.array .byte)) :: ws) ({ frames := 1, cells := 1, slots := 12, locals := 18 } : Room)) (fun a U => a = #[(.ref a0r), (.int p1)] ∧ Z.Warmed39 U.vm ∧ U.heap = h0) (fun _ _ _ _ _ => True) (fun _ U o U' => ∃ v L, o = .returned v ∧ own_Q8 Z a0r p1 z f h0 n0 v U'.heap L ∧ FrameEnd U o U' L ({ frames := 1, cells := 1, slots := 12, locals := 18 } : Room).cells ({ frames := 1, cells := 1, slots := 12, locals := 18 } : Room).slots) := by
  refine MetFree.of_bodySF (plainFor_of_name own_pn1) hisR ?_
  intro p e s m args below meth c s₁ Bd hml0 hP hK
  obtain ⟨rfl, hZ, hh⟩ := hP
  have hx := Bd.exec
  have hby := Bd.bytes
  have hml : c.maxLocals = 3 := hml0
  have hown : s.vm.findClass "java/util/Arrays" = some m.cls := findClass_of_methodNamed Bd.named
  have hnm := (name_of_methodNamed Bd.named Bd.method).1
  have X0 : Stand p l e ({ frames := 1, cells := 1, slots := 12, locals := 18 } : Room) s m #[(.ref a0r), (.int p1)] below meth c s₁ [] 0 0 := Stand.of_body Bd
  have e0 : s₁.heap = h0 := by rw [← hh, Bd.state]; rfl
  have N0 := Fr.nil n0
  have K0 : Keep h0 h0 [] := Keep.refl h0 _
  refine own_go (fun t k => castTop (own_ef8 m a0r p1) k) ?_
  refine own_go (T' := s₁) (f' := (mkF m 15 #[.val (.ref a0r), .val (.int p1), .unset] [(.int p1)])) (fun t k => ?_) ?_
  · show Steps p.tables e below (s₁.setTop (mkF m 0 #[.val (.ref a0r), .val (.int p1), .unset] [])) _
    refine XS.iloadN X0.here hx rfl (hb hby own_d8_0) rfl ?_
    show Steps p.tables e below (s₁.setTop (mkF m 1 #[.val (.ref a0r), .val (.int p1), .unset] [(.int p1)])) _
    refine XS.aloadN X0.here hx rfl (hb hby own_d8_1) rfl rfl ?_
    show Steps p.tables e below (s₁.setTop (mkF m 2 #[.val (.ref a0r), .val (.int p1), .unset] [(.ref a0r), (.int p1)])) _
    refine P0.len X0 hx hZ e0 (g := (mkF m 2 #[.val (.ref a0r), .val (.int p1), .unset] [(.ref a0r), (.int p1)])) rfl rfl (hb hby own_d8_2) _ ?_
    show Steps p.tables e below (s₁.setTop (mkF m 3 #[.val (.ref a0r), .val (.int p1), .unset] [(.int z), (.int p1)])) _
    refine XS.icmpYes X0.here hx rfl (pc0 := 3) (pc' := 14) rfl (hb hby own_d8_3) rfl (feq (own_ne_of_lt hz)).2 (by decide) (by decide) ?_
    show Steps p.tables e below (s₁.setTop (mkF m 14 #[.val (.ref a0r), .val (.int p1), .unset] [])) _
    refine XS.iloadN X0.here hx rfl (hb hby own_d8_14) rfl ?_
    show Steps p.tables e below (s₁.setTop (mkF m 15 #[.val (.ref a0r), .val (.int p1), .unset] [(.int p1)])) _
    exact k
  obtain ⟨T1, h1, k1, X1, e1, E1, A1, st1⟩ := newP X0 hx hZ (hw _ (List.mem_of_getElem? (i := 0) rfl)) e0 (g := (mkF m 15 #[.val (.ref a0r), .val (.int p1), .unset] [(.int p1)])) rfl (hb hby own_d8_15) rfl (own_nonneg hp) (cap := 12) (by show p1.toInt.toNat ≤ 12; omega) (by decide) (by decide) (by decide)
  obtain ⟨b1, g1⟩ : ∃ z, z = h0.size := ⟨_, rfl⟩
  rw [← g1] at A1 st1
  have ne_a0r_b1 : a0r ≠ b1 := Nat.ne_of_lt (Nat.lt_of_lt_of_le P0.lt (Nat.le_of_eq g1.symm))
  have g_b1 : n0 ≤ b1 := Nat.le_trans Z0 (Nat.le_of_eq g1.symm)
  have sz_b1 : h0.size ≤ b1 := Nat.le_trans K0.1 (Nat.le_of_eq g1.symm)
  refine own_go (T' := T1) (f' := (mkF m 17 #[.val (.ref a0r), .val (.int p1), .unset] [(.ref b1)])) st1 ?_
  have fc2 : own_ArI Z h1 a0r .byte z f := P0.ext E1
  have Zs1 : n0 ≤ h1.size := Nat.le_trans Z0 E1.1
  have K1 : Keep h0 h1 [] := K0.ext E1
  have V1 : own_ArI Z h1 b1 .byte p1 (fun _ => 0) := own_ArI.new A1 (own_nonneg hp) rfl
  refine own_go (T' := T1) (f' := (mkF m 25 #[.val (.ref a0r), .val (.int p1), .val (.ref b1)] [(.int p1), (.int z), (.int (0 : Int32)), (.ref b1), (.int (0 : Int32)), (.ref a0r)])) (fun t k => ?_) ?_
  · show Steps p.tables e below (T1.setTop (mkF m 17 #[.val (.ref a0r), .val (.int p1), .unset] [(.ref b1)])) _
    refine XS.astoreN X1.here hx rfl (hb hby own_d8_17) rfl rfl (l' := #[.val (.ref a0r), .val (.int p1), .val (.ref b1)]) rfl ?_
    show Steps p.tables e below (T1.setTop (mkF m 18 #[.val (.ref a0r), .val (.int p1), .val (.ref b1)] [])) _
    refine XS.aloadN X1.here hx rfl (hb hby own_d8_18) rfl rfl ?_
    show Steps p.tables e below (T1.setTop (mkF m 19 #[.val (.ref a0r), .val (.int p1), .val (.ref b1)] [(.ref a0r)])) _
    refine XS.iconst X1.here hx rfl (hb hby own_d8_19) ?_
    show Steps p.tables e below (T1.setTop (mkF m 20 #[.val (.ref a0r), .val (.int p1), .val (.ref b1)] [(.int (0 : Int32)), (.ref a0r)])) _
    refine XS.aloadN X1.here hx rfl (hb hby own_d8_20) rfl rfl ?_
    show Steps p.tables e below (T1.setTop (mkF m 21 #[.val (.ref a0r), .val (.int p1), .val (.ref b1)] [(.ref b1), (.int (0 : Int32)), (.ref a0r)])) _
    refine XS.iconst X1.here hx rfl (hb hby own_d8_21) ?_
    show Steps p.tables e below (T1.setTop (mkF m 22 #[.val (.ref a0r), .val (.int p1), .val (.ref b1)] [(.int (0 : Int32)), (.ref b1), (.int (0 : Int32)), (.ref a0r)])) _
    refine XS.aloadN X1.here hx rfl (hb hby own_d8_22) rfl rfl ?_
    show Steps p.tables e below (T1.setTop (mkF m 23 #[.val (.ref a0r), .val (.int p1), .val (.ref b1)] [(.ref a0r), (.int (0 : Int32)), (.ref b1), (.int (0 : Int32)), (.ref a0r)])) _
    refine fc2.len X1 hx hZ e1 (g := (mkF m 23 #[.val (.ref a0r), .val (.int p1), .val (.ref b1)] [(.ref a0r), (.int (0 : Int32)), (.ref b1), (.int (0 : Int32)), (.ref a0r)])) rfl rfl (hb hby own_d8_23) _ ?_
    show Steps p.tables e below (T1.setTop (mkF m 24 #[.val (.ref a0r), .val (.int p1), .val (.ref b1)] [(.int z), (.int (0 : Int32)), (.ref b1), (.int (0 : Int32)), (.ref a0r)])) _
    refine XS.iloadN X1.here hx rfl (hb hby own_d8_24) rfl ?_
    show Steps p.tables e below (T1.setTop (mkF m 25 #[.val (.ref a0r), .val (.int p1), .val (.ref b1)] [(.int p1), (.int z), (.int (0 : Int32)), (.ref b1), (.int (0 : Int32)), (.ref a0r)])) _
    exact k
  obtain ⟨T3, Lq3, X3, N3, hQ3, st3⟩ := own_pf0 (vv := some (.int (own_F2 z p1))) N0 (Jvm.LawKit.callS X1 hx (y := (⟨"java/lang/Math", "min", "(II)I"⟩ : MethodName)) hown (mvT hZ (hw _ (List.mem_of_getElem? (i := 51) rfl))) (mvT hZ (hw _ (List.mem_of_getElem? (i := 52) rfl))) (mvT hZ (hw _ (List.mem_of_getElem? (i := 13) rfl))) (mvT hZ (hw _ (List.mem_of_getElem? (i := 53) rfl))) (by decide) (backOf (W := 4) (own_rm2 l Z a0 hw [] z p1  h1 n0 Zs1 ) hZ (hw _ (List.mem_of_getElem? (i := 53) rfl)) (hw _ (List.mem_of_getElem? (i := 13) rfl)) (by decide) (by decide)) (g := (mkF m 25 #[.val (.ref a0r), .val (.int p1), .val (.ref b1)] [(.int p1), (.int z), (.int (0 : Int32)), (.ref b1), (.int (0 : Int32)), (.ref a0r)])) rfl (by rw [hml]; rfl) (argsL := [(.int z), (.int p1)]) (rest := [(.int (0 : Int32)), (.ref b1), (.int (0 : Int32)), (.ref a0r)]) (lenOf own_pd0 rfl) rfl (by show 2 * 0 + _ ≤ _; exact Nat.le_of_eq rfl) (hb hby own_d8_25) (fun _ _ => ⟨rfl, e1, (by decide : 1 + 0 ≤ _), (by decide : 12 + 0 ≤ _)⟩)) (fun _ _ _ q => q) (k1 := 1) (k2 := 12) rfl rfl
  have h3q : T3.heap = h1 := hQ3
  refine own_go (T' := T3) (f' := (mkF m 28 #[.val (.ref a0r), .val (.int p1), .val (.ref b1)] [(.int (own_F2 z p1)), (.int (0 : Int32)), (.ref b1), (.int (0 : Int32)), (.ref a0r)])) (fun t k => st3 _ k) ?_
  obtain ⟨T4, h4, lo4, y4, X4, e4, N4, K4q, V4, ya4, yb4, st4⟩ := own_cp X3 hx hZ hown (hw _ (List.mem_of_getElem? (i := 54) rfl)) (hw _ (List.mem_of_getElem? (i := 36) rfl)) (hw _ (List.mem_of_getElem? (i := 34) rfl)) (hw _ (List.mem_of_getElem? (i := 35) rfl)) h3q fc2 V1 (by decide) (by decide) (by rw [own_min_eq hz]; exact hp) (by rw [own_min_eq hz, show (0 : Int32).toInt = 0 from rfl]; omega) (by rw [own_min_eq hz, show (0 : Int32).toInt = 0 from rfl]; omega) N3 g_b1 (g := (mkF m 28 #[.val (.ref a0r), .val (.int p1), .val (.ref b1)] [(.int (own_F2 z p1)), (.int (0 : Int32)), (.ref b1), (.int (0 : Int32)), (.ref a0r)])) rfl (by rw [hml]; rfl) rfl (hb hby own_d8_28) (by decide) (W := 0) (by show 2 * 0 + _ ≤ _; exact Nat.le_of_eq rfl) (by decide)
  have fc5 : own_ArI Z h4 a0r .byte z f := fc2.keep K4q (ninS ne_a0r_b1 nin0)
  have Zs4 : n0 ≤ h4.size := Nat.le_trans Zs1 K4q.1
  have K4 : Keep h0 h4 [] := K1.trans K4q (allS (Or.inr sz_b1) all0)
  refine own_go (T' := T4) (f' := (mkF m 31 #[.val (.ref a0r), .val (.int p1), .val (.ref b1)] [])) st4 ?_
  refine own_go (T' := T4) (f' := (mkF m 32 #[.val (.ref a0r), .val (.int p1), .val (.ref b1)] [(.ref b1)])) (fun t k => ?_) ?_
  · show Steps p.tables e below (T4.setTop (mkF m 31 #[.val (.ref a0r), .val (.int p1), .val (.ref b1)] [])) _
    refine XS.aloadN X4.here hx rfl (hb hby own_d8_31) rfl rfl ?_
    show Steps p.tables e below (T4.setTop (mkF m 32 #[.val (.ref a0r), .val (.int p1), .val (.ref b1)] [(.ref b1)])) _
    exact k
  obtain ⟨fs, hr, hrun, hended, hW, hsame⟩ := X4.leave (v := some (.ref b1)) (fun h => by rw [Bd.returns] at h; cases h)
  refine ⟨_, _, ?_, hrun, hended, _, _, rfl, ?_, ⟨_, rfl⟩, hW, hsame.mono (by decide) (by decide)⟩
  · jvm_step X4.here [X4.here.top, hx, (hb hby own_d8_32), X4.method', Bd.returns, Value.isRef, FieldType.isReference]
    first | (intro acts; rw [hr _ acts rfl rfl rfl]) | rw [hr _ _ rfl rfl rfl]
    exact Steps.refl _
  · show own_Q8 Z a0r p1 z f h0 n0 _ T4.heap _
    rw [e4]
    exact ⟨b1, y4, rfl, N4, K4, sz_b1, V4, (fun i hi => by have q := ya4 i (by rw [own_min_eq hz]; exact hi); simpa using q)⟩
theorem own_pd3 : parseMethodDescriptor "([BI)[B" = some ⟨[(.array .byte), .int], some (.array .byte)⟩ := by decide +kernel
theorem own_d9_0 : decode prog_225_method_4_code 0 = .ok (.aload_n 0, 1) := by decide +kernel
theorem own_d9_1 : decode prog_225_method_4_code 1 = .ok (.getfield 13, 3) := by decide +kernel
theorem own_d9_4 : decode prog_225_method_4_code 4 = .ok (.aload_n 0, 1) := by decide +kernel
theorem own_d9_5 : decode prog_225_method_4_code 5 = .ok (.getfield 19, 3) := by decide +kernel
theorem own_d9_8 : decode prog_225_method_4_code 8 = .ok (.invokestatic 23, 3) := by decide +kernel
theorem own_d9_11 : decode prog_225_method_4_code 11 = .ok (.areturn, 1) := by decide +kernel
theorem own_ef9 (m : MethodId) (a0r : Addr) : entryFrame m #[(.ref a0r)] 1 = mkF m 0 #[.val (.ref a0r)] [] := by first | (simp [entryFrame, mkF, argsToLocals, Value.category]; done) | rfl
def own_Q9 (Z : State) (a0r : Addr) (ba : Addr) (u0 : Int32) (z : Int32) (f : Nat → Int32) (h0 : Heap) (n0 : Nat) (v : Option Value) (h : Heap) (L : List Loc) : Prop := ∃ (br : Addr), ∃ (f' : Nat → Int32), (v = some (.ref br)) ∧ (Fr n0 L) ∧ (Keep h0 h []) ∧ (h0.size ≤ br) ∧ (own_ArI Z h br .byte u0 f') ∧ (∀ i, i < u0.toInt.toNat → f' i = f i)
set_option maxRecDepth 65536 in
set_option maxHeartbeats 40000000 in
theorem own_rm9 (l : Launch) (Z : State) (a0 : Array Value) (hw : ∀ d ∈ tables_1, d.before a0 Z = true) (ws : List Jvm.Cond) (a0r : Addr) (ba : Addr) (u0 : Int32) (z : Int32) (f : Nat → Int32) (h0 : Heap) (n0 : Nat) (Z0 : n0 ≤ h0.size) (P0 : Fld Z h0 a0r "com/example/tracecourt/tracecourt/trace/Bytes$Out" "bytes" "[B" (.ref ba)) (P1 : Fld Z h0 a0r "com/example/tracecourt/tracecourt/trace/Bytes$Out" "size" "I" (.int u0)) (P2 : own_ArI Z h0 ba .byte z f) (hp : 0 ≤ u0.toInt) (hp12 : u0.toInt ≤ 12) (hz : u0.toInt < z.toInt) :
    MetFree l (⟨"com/example/tracecourt/tracecourt/trace/Bytes$Out", "toByteArray", "()[B"⟩ : MethodName) (head1 (Jvm.Cond.code (⟨"com/example/tracecourt/tracecourt/trace/Bytes$Out", "toByteArray", "()[B"⟩ : MethodName) prog_225_method_4_code 1 (some (.array .byte)) :: ws) ({ frames := 2, cells := 1, slots := 12, locals := 32 } : Room)) (fun a U => a = #[(.ref a0r)] ∧ Z.Warmed39 U.vm ∧ U.heap = h0) (fun _ _ _ _ _ => True) (fun _ U o U' => ∃ v L, o = .returned v ∧ own_Q9 Z a0r ba u0 z f h0 n0 v U'.heap L ∧ FrameEnd U o U' L ({ frames := 2, cells := 1, slots := 12, locals := 32 } : Room).cells ({ frames := 2, cells := 1, slots := 12, locals := 32 } : Room).slots) := by
  refine MetFree.of_bodySF (plainFor_of_name own_pn0) hisR ?_
  intro p e s m args below meth c s₁ Bd hml0 hP hK
  obtain ⟨rfl, hZ, hh⟩ := hP
  have hx := Bd.exec
  have hby := Bd.bytes
  have hml : c.maxLocals = 1 := hml0
  have hown : s.vm.findClass "com/example/tracecourt/tracecourt/trace/Bytes$Out" = some m.cls := findClass_of_methodNamed Bd.named
  have hnm := (name_of_methodNamed Bd.named Bd.method).1
  have X0 : Stand p l e ({ frames := 2, cells := 1, slots := 12, locals := 32 } : Room) s m #[(.ref a0r)] below meth c s₁ [] 0 0 := Stand.of_body Bd
  have e0 : s₁.heap = h0 := by rw [← hh, Bd.state]; rfl
  have N0 := Fr.nil n0
  have K0 : Keep h0 h0 [] := Keep.refl h0 _
  refine own_go (fun t k => castTop (own_ef9 m a0r) k) ?_
  refine own_go (T' := s₁) (f' := (mkF m 1 #[.val (.ref a0r)] [(.ref a0r)])) (fun t k => ?_) ?_
  · show Steps p.tables e below (s₁.setTop (mkF m 0 #[.val (.ref a0r)] [])) _
    refine XS.aloadN X0.here hx rfl (hb hby own_d9_0) rfl rfl ?_
    show Steps p.tables e below (s₁.setTop (mkF m 1 #[.val (.ref a0r)] [(.ref a0r)])) _
    exact k
  obtain ⟨T1, X1, e1, st1⟩ := getF X0 hx hZ hown (host := "") (Or.inl (hw _ (List.mem_of_getElem? (i := 15) rfl))) Via.refl e0 P0 (g := (mkF m 1 #[.val (.ref a0r)] [(.ref a0r)])) rfl rfl (hb hby own_d9_1)
  refine own_go (T' := T1) (f' := (mkF m 4 #[.val (.ref a0r)] [(.ref ba)])) st1 ?_
  refine own_go (T' := T1) (f' := (mkF m 5 #[.val (.ref a0r)] [(.ref a0r), (.ref ba)])) (fun t k => ?_) ?_
  · show Steps p.tables e below (T1.setTop (mkF m 4 #[.val (.ref a0r)] [(.ref ba)])) _
    refine XS.aloadN X1.here hx rfl (hb hby own_d9_4) rfl rfl ?_
    show Steps p.tables e below (T1.setTop (mkF m 5 #[.val (.ref a0r)] [(.ref a0r), (.ref ba)])) _
    exact k
  obtain ⟨T2, X2, e2, st2⟩ := getF X1 hx hZ hown (host := "") (Or.inl (hw _ (List.mem_of_getElem? (i := 31) rfl))) Via.refl e1 P1 (g := (mkF m 5 #[.val (.ref a0r)] [(.ref a0r), (.ref ba)])) rfl rfl (hb hby own_d9_5)
  refine own_go (T' := T2) (f' := (mkF m 8 #[.val (.ref a0r)] [(.int u0), (.ref ba)])) st2 ?_
  obtain ⟨T3, Lq3, br_3, f'_3, X3, N3, hQ3, st3⟩ := own_pf2 (vv := fun (br_3 : Addr) (f'_3 : Nat → Int32) => some (.ref br_3)) N0 (Jvm.LawKit.callS X2 hx (y := (⟨"java/util/Arrays", "copyOf", "([BI)[B"⟩ : MethodName)) hown (mvT hZ (hw _ (List.mem_of_getElem? (i := 47) rfl))) (mvT hZ (hw _ (List.mem_of_getElem? (i := 48) rfl))) (mvT hZ (hw _ (List.mem_of_getElem? (i := 49) rfl))) (mvT hZ (hw _ (List.mem_of_getElem? (i := 50) rfl))) (by decide) (backOf (W := 0) (own_rm8 l Z a0 hw [] ba u0 z f h0 n0 Z0 P2 hp hp12 hz) hZ (hw _ (List.mem_of_getElem? (i := 50) rfl)) (hw _ (List.mem_of_getElem? (i := 49) rfl)) (by decide) (by decide)) (g := (mkF m 8 #[.val (.ref a0r)] [(.int u0), (.ref ba)])) rfl (by rw [hml]; rfl) (argsL := [(.ref ba), (.int u0)]) (rest := []) (lenOf own_pd3 rfl) rfl (by show 2 * 0 + _ ≤ _; exact Nat.le_of_eq rfl) (hb hby own_d9_8) (fun _ _ => ⟨rfl, e2, (by decide : 0 + 1 ≤ _), (by decide : 0 + 12 ≤ _)⟩)) (fun _ _ _ q => q) (k1 := 1) (k2 := 12) rfl rfl
  obtain ⟨h3q, szr_br_3, p3_0, r3_cp⟩ := hQ3
  have ne_a0r_br_3 : a0r ≠ br_3 := Nat.ne_of_lt (Nat.lt_of_lt_of_le P0.lt szr_br_3)
  have ne_ba_br_3 : ba ≠ br_3 := Nat.ne_of_lt (Nat.lt_of_lt_of_le P2.lt szr_br_3)
  have g_br_3 : n0 ≤ br_3 := Nat.le_trans Z0 szr_br_3
  have sz_br_3 : h0.size ≤ br_3 := Nat.le_trans K0.1 szr_br_3
  have fc4 : Fld Z T3.heap a0r "com/example/tracecourt/tracecourt/trace/Bytes$Out" "bytes" "[B" (.ref ba) := P0.keep h3q nin0
  have fc5 : Fld Z T3.heap a0r "com/example/tracecourt/tracecourt/trace/Bytes$Out" "size" "I" (.int u0) := P1.keep h3q nin0
  have fc6 : own_ArI Z T3.heap ba .byte z f := P2.keep h3q nin0
  have Zs3 : n0 ≤ T3.heap.size := Nat.le_trans Z0 h3q.1
  have K3 : Keep h0 T3.heap [] := K0.trans h3q all0
  refine own_go (T' := T3) (f' := (mkF m 11 #[.val (.ref a0r)] [(.ref br_3)])) (fun t k => st3 _ k) ?_
  obtain ⟨fs, hr, hrun, hended, hW, hsame⟩ := X3.leave (v := some (.ref br_3)) (fun h => by rw [Bd.returns] at h; cases h)
  refine ⟨_, _, ?_, hrun, hended, _, _, rfl, ?_, ⟨_, rfl⟩, hW, hsame.mono (by decide) (by decide)⟩
  · jvm_step X3.here [X3.here.top, hx, (hb hby own_d9_11), X3.method', Bd.returns, Value.isRef, FieldType.isReference]
    first | (intro acts; rw [hr _ acts rfl rfl rfl]) | rw [hr _ _ rfl rfl rfl]
    exact Steps.refl _
  · show own_Q9 Z a0r ba u0 z f h0 n0 _ T3.heap _
    exact ⟨br_3, f'_3, rfl, N3, K3, sz_br_3, p3_0, r3_cp⟩
theorem own_d10_0 : decode prog_225_method_2_code 0 = .ok (.aload_n 0, 1) := by decide +kernel
theorem own_d10_1 : decode prog_225_method_2_code 1 = .ok (.getfield 19, 3) := by decide +kernel
theorem own_d10_4 : decode prog_225_method_2_code 4 = .ok (.ireturn, 1) := by decide +kernel
theorem own_ef10 (m : MethodId) (a0r : Addr) : entryFrame m #[(.ref a0r)] 1 = mkF m 0 #[.val (.ref a0r)] [] := by first | (simp [entryFrame, mkF, argsToLocals, Value.category]; done) | rfl
def own_Q10 (Z : State) (a0r : Addr) (u0 : Int32) (h0 : Heap) (n0 : Nat) (v : Option Value) (h : Heap) (L : List Loc) : Prop := (v = some (.int u0)) ∧ (Fr n0 L) ∧ (h = h0)
set_option maxRecDepth 65536 in
set_option maxHeartbeats 40000000 in
theorem own_rm10 (l : Launch) (Z : State) (a0 : Array Value) (hw : ∀ d ∈ tables_1, d.before a0 Z = true) (ws : List Jvm.Cond) (a0r : Addr) (u0 : Int32) (h0 : Heap) (n0 : Nat) (Z0 : n0 ≤ h0.size) (P0 : Fld Z h0 a0r "com/example/tracecourt/tracecourt/trace/Bytes$Out" "size" "I" (.int u0)) :
    MetFree l (⟨"com/example/tracecourt/tracecourt/trace/Bytes$Out", "size", "()I"⟩ : MethodName) (head1 (Jvm.Cond.code (⟨"com/example/tracecourt/tracecourt/trace/Bytes$Out", "size", "()I"⟩ : MethodName) prog_225_method_2_code 1 (some .int) :: ws) ({ frames := 0, cells := 0, slots := 0, locals := 0 } : Room)) (fun a U => a = #[(.ref a0r)] ∧ Z.Warmed39 U.vm ∧ U.heap = h0) (fun _ _ _ _ _ => True) (fun _ U o U' => ∃ v L, o = .returned v ∧ own_Q10 Z a0r u0 h0 n0 v U'.heap L ∧ FrameEnd U o U' L ({ frames := 0, cells := 0, slots := 0, locals := 0 } : Room).cells ({ frames := 0, cells := 0, slots := 0, locals := 0 } : Room).slots) := by
  refine MetFree.of_bodySF (plainFor_of_name own_pn0) hisR ?_
  intro p e s m args below meth c s₁ Bd hml0 hP hK
  obtain ⟨rfl, hZ, hh⟩ := hP
  have hx := Bd.exec
  have hby := Bd.bytes
  have hml : c.maxLocals = 1 := hml0
  have hown : s.vm.findClass "com/example/tracecourt/tracecourt/trace/Bytes$Out" = some m.cls := findClass_of_methodNamed Bd.named
  have hnm := (name_of_methodNamed Bd.named Bd.method).1
  have X0 : Stand p l e ({ frames := 0, cells := 0, slots := 0, locals := 0 } : Room) s m #[(.ref a0r)] below meth c s₁ [] 0 0 := Stand.of_body Bd
  have e0 : s₁.heap = h0 := by rw [← hh, Bd.state]; rfl
  have N0 := Fr.nil n0
  refine own_go (fun t k => castTop (own_ef10 m a0r) k) ?_
  refine own_go (T' := s₁) (f' := (mkF m 1 #[.val (.ref a0r)] [(.ref a0r)])) (fun t k => ?_) ?_
  · show Steps p.tables e below (s₁.setTop (mkF m 0 #[.val (.ref a0r)] [])) _
    refine XS.aloadN X0.here hx rfl (hb hby own_d10_0) rfl rfl ?_
    show Steps p.tables e below (s₁.setTop (mkF m 1 #[.val (.ref a0r)] [(.ref a0r)])) _
    exact k
  obtain ⟨T1, X1, e1, st1⟩ := getF X0 hx hZ hown (host := "") (Or.inl (hw _ (List.mem_of_getElem? (i := 31) rfl))) Via.refl e0 P0 (g := (mkF m 1 #[.val (.ref a0r)] [(.ref a0r)])) rfl rfl (hb hby own_d10_1)
  refine own_go (T' := T1) (f' := (mkF m 4 #[.val (.ref a0r)] [(.int u0)])) st1 ?_
  obtain ⟨fs, hr, hrun, hended, hW, hsame⟩ := X1.leave (v := some (.int u0)) (fun h => by rw [Bd.returns] at h; cases h)
  refine ⟨_, _, ?_, hrun, hended, _, _, rfl, ?_, ⟨_, rfl⟩, hW, hsame.mono (by decide) (by decide)⟩
  · exact retI X1 hx Bd.returns (hb hby own_d10_4) hr
  · show own_Q10 Z a0r u0 h0 n0 _ T1.heap _
    rw [e1]
    exact ⟨rfl, N0, rfl⟩
theorem own_d11_0 : decode method_3_code 0 = .ok (.iload_n 2, 1) := by decide +kernel
theorem own_d11_1 : decode method_3_code 1 = .ok (.iload_n 3, 1) := by decide +kernel
theorem own_d11_2 : decode method_3_code 2 = .ok (.if_icmp .lt 10, 3) := by decide +kernel
theorem own_d11_5 : decode method_3_code 5 = .ok (.iload_n 2, 1) := by decide +kernel
theorem own_d11_6 : decode method_3_code 6 = .ok (.iload_n 3, 1) := by decide +kernel
theorem own_d11_7 : decode method_3_code 7 = .ok (.iconst 4, 1) := by decide +kernel
theorem own_d11_8 : decode method_3_code 8 = .ok (.iadd, 1) := by decide +kernel
theorem own_d11_9 : decode method_3_code 9 = .ok (.if_icmp .lt 12, 3) := by decide +kernel
theorem own_d11_12 : decode method_3_code 12 = .ok (.aload_n 0, 1) := by decide +kernel
theorem own_d11_13 : decode method_3_code 13 = .ok (.iload_n 2, 1) := by decide +kernel
theorem own_d11_14 : decode method_3_code 14 = .ok (.baload, 1) := by decide +kernel
theorem own_d11_15 : decode method_3_code 15 = .ok (.aload_n 1, 1) := by decide +kernel
theorem own_d11_16 : decode method_3_code 16 = .ok (.iload_n 2, 1) := by decide +kernel
theorem own_d11_17 : decode method_3_code 17 = .ok (.baload, 1) := by decide +kernel
theorem own_d11_18 : decode method_3_code 18 = .ok (.if_icmp .ne 7, 3) := by decide +kernel
theorem own_d11_21 : decode method_3_code 21 = .ok (.iconst 1, 1) := by decide +kernel
theorem own_d11_22 : decode method_3_code 22 = .ok (.goto 4, 3) := by decide +kernel
theorem own_d11_25 : decode method_3_code 25 = .ok (.iconst 0, 1) := by decide +kernel
theorem own_d11_26 : decode method_3_code 26 = .ok (.ireturn, 1) := by decide +kernel
theorem own_pn2 : plainName "com/example/tracecourt/tracecourt/trace/OutWriteIntAtPinLaw" = true := by first | (simp [plainName, overriddenIn]; done) | decide +kernel
theorem own_ef11 (m : MethodId) (a0r : Addr) (a1r : Addr) (p2 : Int32) (p3 : Int32) : entryFrame m #[(.ref a0r), (.ref a1r), (.int p2), (.int p3)] 4 = mkF m 0 #[.val (.ref a0r), .val (.ref a1r), .val (.int p2), .val (.int p3)] [] := by first | (simp [entryFrame, mkF, argsToLocals, Value.category]; done) | rfl
def own_F11 (p2 : Int32) (p3 : Int32) (z : Int32) (f : Nat → Int32) (z1 : Int32) (f1 : Nat → Int32) : Int32 := (if p2 < p3 then (if (f p2.toInt.toNat) = (f1 p2.toInt.toNat) then (1 : Int32) else (0 : Int32)) else (if p2 < (p3 + (4 : Int32)) then (1 : Int32) else (if (f p2.toInt.toNat) = (f1 p2.toInt.toNat) then (1 : Int32) else (0 : Int32))))
def own_Q11 (Z : State) (a0r : Addr) (a1r : Addr) (p2 : Int32) (p3 : Int32) (z : Int32) (f : Nat → Int32) (z1 : Int32) (f1 : Nat → Int32) (h0 : Heap) (n0 : Nat) (v : Option Value) (h : Heap) (L : List Loc) : Prop := (v = some (.int (own_F11 p2 p3 z f z1 f1))) ∧ (Fr n0 L) ∧ (h = h0)
set_option maxRecDepth 65536 in
set_option maxHeartbeats 40000000 in
theorem own_rm11 (l : Launch) (Z : State) (a0 : Array Value) (hw : ∀ d ∈ tables_1, d.before a0 Z = true) (ws : List Jvm.Cond) (a0r : Addr) (a1r : Addr) (p2 : Int32) (p3 : Int32) (z : Int32) (f : Nat → Int32) (z1 : Int32) (f1 : Nat → Int32) (h0 : Heap) (n0 : Nat) (Z0 : n0 ≤ h0.size) (P0 : own_ArI Z h0 a0r .byte z f) (P1 : own_ArI Z h0 a1r .byte z1 f1) (hi : 0 ≤ p2.toInt) (hz : p2.toInt < z.toInt) (hz1 : p2.toInt < z1.toInt) :
    MetFree l (⟨"com/example/tracecourt/tracecourt/trace/OutWriteIntAtPinLaw", "kept", "([B[BII)Z"⟩ : MethodName) (head1 (Jvm.Cond.code (⟨"com/example/tracecourt/tracecourt/trace/OutWriteIntAtPinLaw", "kept", "([B[BII)Z"⟩ : MethodName) method_3_code 4 (some .boolean) :: ws) ({ frames := 0, cells := 0, slots := 0, locals := 0 } : Room)) (fun a U => a = #[(.ref a0r), (.ref a1r), (.int p2), (.int p3)] ∧ Z.Warmed39 U.vm ∧ U.heap = h0) (fun _ _ _ _ _ => True) (fun _ U o U' => ∃ v L, o = .returned v ∧ own_Q11 Z a0r a1r p2 p3 z f z1 f1 h0 n0 v U'.heap L ∧ FrameEnd U o U' L ({ frames := 0, cells := 0, slots := 0, locals := 0 } : Room).cells ({ frames := 0, cells := 0, slots := 0, locals := 0 } : Room).slots) := by
  refine MetFree.of_bodySF (plainFor_of_name own_pn2) hisR ?_
  intro p e s m args below meth c s₁ Bd hml0 hP hK
  obtain ⟨rfl, hZ, hh⟩ := hP
  have hx := Bd.exec
  have hby := Bd.bytes
  have hml : c.maxLocals = 4 := hml0
  have hown : s.vm.findClass "com/example/tracecourt/tracecourt/trace/OutWriteIntAtPinLaw" = some m.cls := findClass_of_methodNamed Bd.named
  have hnm := (name_of_methodNamed Bd.named Bd.method).1
  have X0 : Stand p l e ({ frames := 0, cells := 0, slots := 0, locals := 0 } : Room) s m #[(.ref a0r), (.ref a1r), (.int p2), (.int p3)] below meth c s₁ [] 0 0 := Stand.of_body Bd
  have e0 : s₁.heap = h0 := by rw [← hh, Bd.state]; rfl
  have N0 := Fr.nil n0
  refine own_go (fun t k => castTop (own_ef11 m a0r a1r p2 p3) k) ?_
  refine own_go (T' := s₁) (f' := (mkF m 2 #[.val (.ref a0r), .val (.ref a1r), .val (.int p2), .val (.int p3)] [(.int p3), (.int p2)])) (fun t k => ?_) ?_
  · show Steps p.tables e below (s₁.setTop (mkF m 0 #[.val (.ref a0r), .val (.ref a1r), .val (.int p2), .val (.int p3)] [])) _
    refine XS.iloadN X0.here hx rfl (hb hby own_d11_0) rfl ?_
    show Steps p.tables e below (s₁.setTop (mkF m 1 #[.val (.ref a0r), .val (.ref a1r), .val (.int p2), .val (.int p3)] [(.int p2)])) _
    refine XS.iloadN X0.here hx rfl (hb hby own_d11_1) rfl ?_
    show Steps p.tables e below (s₁.setTop (mkF m 2 #[.val (.ref a0r), .val (.ref a1r), .val (.int p2), .val (.int p3)] [(.int p3), (.int p2)])) _
    exact k
  by_cases hc2_1 : p2 < p3
  · skip
    refine own_go (T' := s₁) (f' := (mkF m 18 #[.val (.ref a0r), .val (.ref a1r), .val (.int p2), .val (.int p3)] [(.int (f1 p2.toInt.toNat)), (.int (f p2.toInt.toNat))])) (fun t k => ?_) ?_
    · show Steps p.tables e below (s₁.setTop (mkF m 2 #[.val (.ref a0r), .val (.ref a1r), .val (.int p2), .val (.int p3)] [(.int p3), (.int p2)])) _
      refine XS.icmpYes X0.here hx rfl (pc0 := 2) (pc' := 12) rfl (hb hby own_d11_2) rfl (tlt hc2_1).1 (by decide) (by decide) ?_
      show Steps p.tables e below (s₁.setTop (mkF m 12 #[.val (.ref a0r), .val (.ref a1r), .val (.int p2), .val (.int p3)] [])) _
      refine XS.aloadN X0.here hx rfl (hb hby own_d11_12) rfl rfl ?_
      show Steps p.tables e below (s₁.setTop (mkF m 13 #[.val (.ref a0r), .val (.ref a1r), .val (.int p2), .val (.int p3)] [(.ref a0r)])) _
      refine XS.iloadN X0.here hx rfl (hb hby own_d11_13) rfl ?_
      show Steps p.tables e below (s₁.setTop (mkF m 14 #[.val (.ref a0r), .val (.ref a1r), .val (.int p2), .val (.int p3)] [(.int p2), (.ref a0r)])) _
      refine own_ldB X0 hx hZ e0 P0 (j := p2) hi hz (g := (mkF m 14 #[.val (.ref a0r), .val (.ref a1r), .val (.int p2), .val (.int p3)] [(.int p2), (.ref a0r)])) rfl rfl (hb hby own_d11_14) _ ?_
      show Steps p.tables e below (s₁.setTop (mkF m 15 #[.val (.ref a0r), .val (.ref a1r), .val (.int p2), .val (.int p3)] [(.int (f p2.toInt.toNat))])) _
      refine XS.aloadN X0.here hx rfl (hb hby own_d11_15) rfl rfl ?_
      show Steps p.tables e below (s₁.setTop (mkF m 16 #[.val (.ref a0r), .val (.ref a1r), .val (.int p2), .val (.int p3)] [(.ref a1r), (.int (f p2.toInt.toNat))])) _
      refine XS.iloadN X0.here hx rfl (hb hby own_d11_16) rfl ?_
      show Steps p.tables e below (s₁.setTop (mkF m 17 #[.val (.ref a0r), .val (.ref a1r), .val (.int p2), .val (.int p3)] [(.int p2), (.ref a1r), (.int (f p2.toInt.toNat))])) _
      refine own_ldB X0 hx hZ e0 P1 (j := p2) hi hz1 (g := (mkF m 17 #[.val (.ref a0r), .val (.ref a1r), .val (.int p2), .val (.int p3)] [(.int p2), (.ref a1r), (.int (f p2.toInt.toNat))])) rfl rfl (hb hby own_d11_17) _ ?_
      show Steps p.tables e below (s₁.setTop (mkF m 18 #[.val (.ref a0r), .val (.ref a1r), .val (.int p2), .val (.int p3)] [(.int (f1 p2.toInt.toNat)), (.int (f p2.toInt.toNat))])) _
      exact k
    by_cases hc18_2 : (f p2.toInt.toNat) = (f1 p2.toInt.toNat)
    · skip
      refine own_go (T' := s₁) (f' := (mkF m 26 #[.val (.ref a0r), .val (.ref a1r), .val (.int p2), .val (.int p3)] [(.int (1 : Int32))])) (fun t k => ?_) ?_
      · show Steps p.tables e below (s₁.setTop (mkF m 18 #[.val (.ref a0r), .val (.ref a1r), .val (.int p2), .val (.int p3)] [(.int (f1 p2.toInt.toNat)), (.int (f p2.toInt.toNat))])) _
        refine XS.icmpNo X0.here hx rfl (hb hby own_d11_18) rfl (teq hc18_2).2 ?_
        show Steps p.tables e below (s₁.setTop (mkF m 21 #[.val (.ref a0r), .val (.ref a1r), .val (.int p2), .val (.int p3)] [])) _
        refine XS.iconst X0.here hx rfl (hb hby own_d11_21) ?_
        show Steps p.tables e below (s₁.setTop (mkF m 22 #[.val (.ref a0r), .val (.ref a1r), .val (.int p2), .val (.int p3)] [(.int (1 : Int32))])) _
        refine XS.goto X0.here hx rfl (pc0 := 22) (pc' := 26) rfl (hb hby own_d11_22) (by decide) (by decide) ?_
        show Steps p.tables e below (s₁.setTop (mkF m 26 #[.val (.ref a0r), .val (.ref a1r), .val (.int p2), .val (.int p3)] [(.int (1 : Int32))])) _
        exact k
      obtain ⟨fs, hr, hrun, hended, hW, hsame⟩ := X0.leave (v := some (.int (1 : Int32))) (fun h => by rw [Bd.returns] at h; cases h)
      refine ⟨_, _, ?_, hrun, hended, _, _, rfl, ?_, ⟨_, rfl⟩, hW, hsame.mono (by decide) (by decide)⟩
      · exact retN X0 hx (t := .boolean) Bd.returns (by simp) (hb hby own_d11_26) hr
      · show own_Q11 Z a0r a1r p2 p3 z f z1 f1 h0 n0 _ s₁.heap _
        rw [e0]
        exact ⟨(by rw [own_F11, if_pos hc2_1, if_pos hc18_2]), N0, rfl⟩
    · skip
      refine own_go (T' := s₁) (f' := (mkF m 26 #[.val (.ref a0r), .val (.ref a1r), .val (.int p2), .val (.int p3)] [(.int (0 : Int32))])) (fun t k => ?_) ?_
      · show Steps p.tables e below (s₁.setTop (mkF m 18 #[.val (.ref a0r), .val (.ref a1r), .val (.int p2), .val (.int p3)] [(.int (f1 p2.toInt.toNat)), (.int (f p2.toInt.toNat))])) _
        refine XS.icmpYes X0.here hx rfl (pc0 := 18) (pc' := 25) rfl (hb hby own_d11_18) rfl (feq hc18_2).2 (by decide) (by decide) ?_
        show Steps p.tables e below (s₁.setTop (mkF m 25 #[.val (.ref a0r), .val (.ref a1r), .val (.int p2), .val (.int p3)] [])) _
        refine XS.iconst X0.here hx rfl (hb hby own_d11_25) ?_
        show Steps p.tables e below (s₁.setTop (mkF m 26 #[.val (.ref a0r), .val (.ref a1r), .val (.int p2), .val (.int p3)] [(.int (0 : Int32))])) _
        exact k
      obtain ⟨fs, hr, hrun, hended, hW, hsame⟩ := X0.leave (v := some (.int (0 : Int32))) (fun h => by rw [Bd.returns] at h; cases h)
      refine ⟨_, _, ?_, hrun, hended, _, _, rfl, ?_, ⟨_, rfl⟩, hW, hsame.mono (by decide) (by decide)⟩
      · exact retN X0 hx (t := .boolean) Bd.returns (by simp) (hb hby own_d11_26) hr
      · show own_Q11 Z a0r a1r p2 p3 z f z1 f1 h0 n0 _ s₁.heap _
        rw [e0]
        exact ⟨(by rw [own_F11, if_pos hc2_1, if_neg hc18_2]), N0, rfl⟩
  · skip
    refine own_go (T' := s₁) (f' := (mkF m 9 #[.val (.ref a0r), .val (.ref a1r), .val (.int p2), .val (.int p3)] [(.int (p3 + (4 : Int32))), (.int p2)])) (fun t k => ?_) ?_
    · show Steps p.tables e below (s₁.setTop (mkF m 2 #[.val (.ref a0r), .val (.ref a1r), .val (.int p2), .val (.int p3)] [(.int p3), (.int p2)])) _
      refine XS.icmpNo X0.here hx rfl (hb hby own_d11_2) rfl (flt hc2_1).1 ?_
      show Steps p.tables e below (s₁.setTop (mkF m 5 #[.val (.ref a0r), .val (.ref a1r), .val (.int p2), .val (.int p3)] [])) _
      refine XS.iloadN X0.here hx rfl (hb hby own_d11_5) rfl ?_
      show Steps p.tables e below (s₁.setTop (mkF m 6 #[.val (.ref a0r), .val (.ref a1r), .val (.int p2), .val (.int p3)] [(.int p2)])) _
      refine XS.iloadN X0.here hx rfl (hb hby own_d11_6) rfl ?_
      show Steps p.tables e below (s₁.setTop (mkF m 7 #[.val (.ref a0r), .val (.ref a1r), .val (.int p2), .val (.int p3)] [(.int p3), (.int p2)])) _
      refine XS.iconst X0.here hx rfl (hb hby own_d11_7) ?_
      show Steps p.tables e below (s₁.setTop (mkF m 8 #[.val (.ref a0r), .val (.ref a1r), .val (.int p2), .val (.int p3)] [(.int (4 : Int32)), (.int p3), (.int p2)])) _
      refine XS.iadd X0.here hx rfl (hb hby own_d11_8) rfl ?_
      show Steps p.tables e below (s₁.setTop (mkF m 9 #[.val (.ref a0r), .val (.ref a1r), .val (.int p2), .val (.int p3)] [(.int (p3 + (4 : Int32))), (.int p2)])) _
      exact k
    by_cases hc9_3 : p2 < (p3 + (4 : Int32))
    · skip
      refine own_go (T' := s₁) (f' := (mkF m 26 #[.val (.ref a0r), .val (.ref a1r), .val (.int p2), .val (.int p3)] [(.int (1 : Int32))])) (fun t k => ?_) ?_
      · show Steps p.tables e below (s₁.setTop (mkF m 9 #[.val (.ref a0r), .val (.ref a1r), .val (.int p2), .val (.int p3)] [(.int (p3 + (4 : Int32))), (.int p2)])) _
        refine XS.icmpYes X0.here hx rfl (pc0 := 9) (pc' := 21) rfl (hb hby own_d11_9) rfl (tlt hc9_3).1 (by decide) (by decide) ?_
        show Steps p.tables e below (s₁.setTop (mkF m 21 #[.val (.ref a0r), .val (.ref a1r), .val (.int p2), .val (.int p3)] [])) _
        refine XS.iconst X0.here hx rfl (hb hby own_d11_21) ?_
        show Steps p.tables e below (s₁.setTop (mkF m 22 #[.val (.ref a0r), .val (.ref a1r), .val (.int p2), .val (.int p3)] [(.int (1 : Int32))])) _
        refine XS.goto X0.here hx rfl (pc0 := 22) (pc' := 26) rfl (hb hby own_d11_22) (by decide) (by decide) ?_
        show Steps p.tables e below (s₁.setTop (mkF m 26 #[.val (.ref a0r), .val (.ref a1r), .val (.int p2), .val (.int p3)] [(.int (1 : Int32))])) _
        exact k
      obtain ⟨fs, hr, hrun, hended, hW, hsame⟩ := X0.leave (v := some (.int (1 : Int32))) (fun h => by rw [Bd.returns] at h; cases h)
      refine ⟨_, _, ?_, hrun, hended, _, _, rfl, ?_, ⟨_, rfl⟩, hW, hsame.mono (by decide) (by decide)⟩
      · exact retN X0 hx (t := .boolean) Bd.returns (by simp) (hb hby own_d11_26) hr
      · show own_Q11 Z a0r a1r p2 p3 z f z1 f1 h0 n0 _ s₁.heap _
        rw [e0]
        exact ⟨(by rw [own_F11, if_neg hc2_1, if_pos hc9_3]), N0, rfl⟩
    · skip
      refine own_go (T' := s₁) (f' := (mkF m 18 #[.val (.ref a0r), .val (.ref a1r), .val (.int p2), .val (.int p3)] [(.int (f1 p2.toInt.toNat)), (.int (f p2.toInt.toNat))])) (fun t k => ?_) ?_
      · show Steps p.tables e below (s₁.setTop (mkF m 9 #[.val (.ref a0r), .val (.ref a1r), .val (.int p2), .val (.int p3)] [(.int (p3 + (4 : Int32))), (.int p2)])) _
        refine XS.icmpNo X0.here hx rfl (hb hby own_d11_9) rfl (flt hc9_3).1 ?_
        show Steps p.tables e below (s₁.setTop (mkF m 12 #[.val (.ref a0r), .val (.ref a1r), .val (.int p2), .val (.int p3)] [])) _
        refine XS.aloadN X0.here hx rfl (hb hby own_d11_12) rfl rfl ?_
        show Steps p.tables e below (s₁.setTop (mkF m 13 #[.val (.ref a0r), .val (.ref a1r), .val (.int p2), .val (.int p3)] [(.ref a0r)])) _
        refine XS.iloadN X0.here hx rfl (hb hby own_d11_13) rfl ?_
        show Steps p.tables e below (s₁.setTop (mkF m 14 #[.val (.ref a0r), .val (.ref a1r), .val (.int p2), .val (.int p3)] [(.int p2), (.ref a0r)])) _
        refine own_ldB X0 hx hZ e0 P0 (j := p2) hi hz (g := (mkF m 14 #[.val (.ref a0r), .val (.ref a1r), .val (.int p2), .val (.int p3)] [(.int p2), (.ref a0r)])) rfl rfl (hb hby own_d11_14) _ ?_
        show Steps p.tables e below (s₁.setTop (mkF m 15 #[.val (.ref a0r), .val (.ref a1r), .val (.int p2), .val (.int p3)] [(.int (f p2.toInt.toNat))])) _
        refine XS.aloadN X0.here hx rfl (hb hby own_d11_15) rfl rfl ?_
        show Steps p.tables e below (s₁.setTop (mkF m 16 #[.val (.ref a0r), .val (.ref a1r), .val (.int p2), .val (.int p3)] [(.ref a1r), (.int (f p2.toInt.toNat))])) _
        refine XS.iloadN X0.here hx rfl (hb hby own_d11_16) rfl ?_
        show Steps p.tables e below (s₁.setTop (mkF m 17 #[.val (.ref a0r), .val (.ref a1r), .val (.int p2), .val (.int p3)] [(.int p2), (.ref a1r), (.int (f p2.toInt.toNat))])) _
        refine own_ldB X0 hx hZ e0 P1 (j := p2) hi hz1 (g := (mkF m 17 #[.val (.ref a0r), .val (.ref a1r), .val (.int p2), .val (.int p3)] [(.int p2), (.ref a1r), (.int (f p2.toInt.toNat))])) rfl rfl (hb hby own_d11_17) _ ?_
        show Steps p.tables e below (s₁.setTop (mkF m 18 #[.val (.ref a0r), .val (.ref a1r), .val (.int p2), .val (.int p3)] [(.int (f1 p2.toInt.toNat)), (.int (f p2.toInt.toNat))])) _
        exact k
      by_cases hc18_4 : (f p2.toInt.toNat) = (f1 p2.toInt.toNat)
      · skip
        refine own_go (T' := s₁) (f' := (mkF m 26 #[.val (.ref a0r), .val (.ref a1r), .val (.int p2), .val (.int p3)] [(.int (1 : Int32))])) (fun t k => ?_) ?_
        · show Steps p.tables e below (s₁.setTop (mkF m 18 #[.val (.ref a0r), .val (.ref a1r), .val (.int p2), .val (.int p3)] [(.int (f1 p2.toInt.toNat)), (.int (f p2.toInt.toNat))])) _
          refine XS.icmpNo X0.here hx rfl (hb hby own_d11_18) rfl (teq hc18_4).2 ?_
          show Steps p.tables e below (s₁.setTop (mkF m 21 #[.val (.ref a0r), .val (.ref a1r), .val (.int p2), .val (.int p3)] [])) _
          refine XS.iconst X0.here hx rfl (hb hby own_d11_21) ?_
          show Steps p.tables e below (s₁.setTop (mkF m 22 #[.val (.ref a0r), .val (.ref a1r), .val (.int p2), .val (.int p3)] [(.int (1 : Int32))])) _
          refine XS.goto X0.here hx rfl (pc0 := 22) (pc' := 26) rfl (hb hby own_d11_22) (by decide) (by decide) ?_
          show Steps p.tables e below (s₁.setTop (mkF m 26 #[.val (.ref a0r), .val (.ref a1r), .val (.int p2), .val (.int p3)] [(.int (1 : Int32))])) _
          exact k
        obtain ⟨fs, hr, hrun, hended, hW, hsame⟩ := X0.leave (v := some (.int (1 : Int32))) (fun h => by rw [Bd.returns] at h; cases h)
        refine ⟨_, _, ?_, hrun, hended, _, _, rfl, ?_, ⟨_, rfl⟩, hW, hsame.mono (by decide) (by decide)⟩
        · exact retN X0 hx (t := .boolean) Bd.returns (by simp) (hb hby own_d11_26) hr
        · show own_Q11 Z a0r a1r p2 p3 z f z1 f1 h0 n0 _ s₁.heap _
          rw [e0]
          exact ⟨(by rw [own_F11, if_neg hc2_1, if_neg hc9_3, if_pos hc18_4]), N0, rfl⟩
      · skip
        refine own_go (T' := s₁) (f' := (mkF m 26 #[.val (.ref a0r), .val (.ref a1r), .val (.int p2), .val (.int p3)] [(.int (0 : Int32))])) (fun t k => ?_) ?_
        · show Steps p.tables e below (s₁.setTop (mkF m 18 #[.val (.ref a0r), .val (.ref a1r), .val (.int p2), .val (.int p3)] [(.int (f1 p2.toInt.toNat)), (.int (f p2.toInt.toNat))])) _
          refine XS.icmpYes X0.here hx rfl (pc0 := 18) (pc' := 25) rfl (hb hby own_d11_18) rfl (feq hc18_4).2 (by decide) (by decide) ?_
          show Steps p.tables e below (s₁.setTop (mkF m 25 #[.val (.ref a0r), .val (.ref a1r), .val (.int p2), .val (.int p3)] [])) _
          refine XS.iconst X0.here hx rfl (hb hby own_d11_25) ?_
          show Steps p.tables e below (s₁.setTop (mkF m 26 #[.val (.ref a0r), .val (.ref a1r), .val (.int p2), .val (.int p3)] [(.int (0 : Int32))])) _
          exact k
        obtain ⟨fs, hr, hrun, hended, hW, hsame⟩ := X0.leave (v := some (.int (0 : Int32))) (fun h => by rw [Bd.returns] at h; cases h)
        refine ⟨_, _, ?_, hrun, hended, _, _, rfl, ?_, ⟨_, rfl⟩, hW, hsame.mono (by decide) (by decide)⟩
        · exact retN X0 hx (t := .boolean) Bd.returns (by simp) (hb hby own_d11_26) hr
        · show own_Q11 Z a0r a1r p2 p3 z f z1 f1 h0 n0 _ s₁.heap _
          rw [e0]
          exact ⟨(by rw [own_F11, if_neg hc2_1, if_neg hc9_3, if_neg hc18_4]), N0, rfl⟩
theorem own_pd4 : parseMethodDescriptor "(I)V" = some ⟨[.int], none⟩ := by decide +kernel
theorem own_pd5 : parseMethodDescriptor "([B)V" = some ⟨[(.array .byte)], none⟩ := by decide +kernel
theorem own_pd6 : parseMethodDescriptor "(II)V" = some ⟨[.int, .int], none⟩ := by decide +kernel
theorem own_pd7 : parseMethodDescriptor "()[B" = some ⟨[], some (.array .byte)⟩ := by decide +kernel
theorem own_pd8 : parseMethodDescriptor "()I" = some ⟨[], some .int⟩ := by decide +kernel
theorem own_pd9 : parseMethodDescriptor "([B[BII)Z" = some ⟨[(.array .byte), (.array .byte), .int, .int], some .boolean⟩ := by decide +kernel
theorem own_ef0 (m : MethodId) (p0 : Int32) (p1 : Int32) (q2 : Int64) (p3 : Int32) (p4 : Int32) : entryFrame m #[(.int p0), (.int p1), (.long q2), (.int p3), (.int p4)] maxLocals = mkF m 0 #[.val (.int p0), .val (.int p1), .val (.long q2), .second, .val (.int p3), .val (.int p4), .unset, .unset, .unset, .unset, .unset] [] := by first | (simp [entryFrame, mkF, argsToLocals, Value.category, maxLocals]; done) | rfl
def own_P (p0 : Int32) (p1 : Int32) (q2 : Int64) (p3 : Int32) (p4 : Int32) : Int32 := ((p0 &&& (2147483647 : Int32)) - ((p0 &&& (2147483647 : Int32)) / (9 : Int32)) * (9 : Int32))
theorem own_cap63 (p : Int32) : (p &&& (63 : Int32)).toInt ≤ 63 := by rw [c_mask p 63 6 (by decide) (by decide)]; omega
theorem own_fit12 (p : Int32) : (0 : Int32).toInt + (12 : Int32).toInt ≤ (own_F1 p (16 : Int32)).toInt := by
  have := (own_max16 p).1; rw [show (0 : Int32).toInt = 0 from rfl, show (12 : Int32).toInt = 12 from rfl]; omega
theorem own_P_rng (p0 p1 : Int32) (q2 : Int64) (p3 p4 : Int32) : 0 ≤ (own_P p0 p1 q2 p3 p4).toInt ∧ (own_P p0 p1 q2 p3 p4).toInt ≤ 8 := by
  have m := c_mask p0 2147483647 31 (by decide) (by decide)
  have d := (c_idiv (p0 &&& (2147483647 : Int32)) 9 9 rfl (by decide)).1 (by omega)
  have k := c_imul ((p0 &&& (2147483647 : Int32)) / 9) 9; have kr := rng32 ((p0 &&& (2147483647 : Int32)) / 9 * 9)
  have s := c_isub (p0 &&& (2147483647 : Int32)) ((p0 &&& (2147483647 : Int32)) / 9 * 9); have sr := rng32 ((p0 &&& (2147483647 : Int32)) - (p0 &&& (2147483647 : Int32)) / 9 * 9)
  have e9 : (9 : Int32).toInt = 9 := rfl
  rw [e9] at k
  show 0 ≤ ((p0 &&& (2147483647 : Int32)) - ((p0 &&& (2147483647 : Int32)) / (9 : Int32)) * (9 : Int32)).toInt ∧ ((p0 &&& (2147483647 : Int32)) - ((p0 &&& (2147483647 : Int32)) / (9 : Int32)) * (9 : Int32)).toInt ≤ 8
  omega
theorem own_fit4 (p0 p1 : Int32) (q2 : Int64) (p3 p4 : Int32) (p : Int32) : (own_P p0 p1 q2 p3 p4).toInt + 4 ≤ (own_F1 p (16 : Int32)).toInt := by
  have := (own_max16 p).1; have := own_P_rng p0 p1 q2 p3 p4; omega
theorem own_fit16 (p : Int32) : ((0 : Int32) + (12 : Int32)).toInt < (own_F1 p (16 : Int32)).toInt := by
  have := (own_max16 p).1; rw [show ((0 : Int32) + (12 : Int32)).toInt = 12 from rfl]; omega
theorem own_Pk0 (p0 p1 : Int32) (q2 : Int64) (p3 p4 : Int32) : 0 ≤ (own_P p0 p1 q2 p3 p4).toInt ∧ (own_P p0 p1 q2 p3 p4).toInt < ((0 : Int32) + (12 : Int32)).toInt := by
  have := own_P_rng p0 p1 q2 p3 p4; rw [show ((0 : Int32) + (12 : Int32)).toInt = 12 from rfl]; omega
theorem own_Pk1 (p0 p1 : Int32) (q2 : Int64) (p3 p4 : Int32) : 0 ≤ ((own_P p0 p1 q2 p3 p4) + (1 : Int32)).toInt ∧ ((own_P p0 p1 q2 p3 p4) + (1 : Int32)).toInt < ((0 : Int32) + (12 : Int32)).toInt := by
  have := own_P_rng p0 p1 q2 p3 p4; rw [show ((0 : Int32) + (12 : Int32)).toInt = 12 from rfl, own_addk _ 1 1 rfl (by omega)]; omega
theorem own_Pk2 (p0 p1 : Int32) (q2 : Int64) (p3 p4 : Int32) : 0 ≤ ((own_P p0 p1 q2 p3 p4) + (2 : Int32)).toInt ∧ ((own_P p0 p1 q2 p3 p4) + (2 : Int32)).toInt < ((0 : Int32) + (12 : Int32)).toInt := by
  have := own_P_rng p0 p1 q2 p3 p4; rw [show ((0 : Int32) + (12 : Int32)).toInt = 12 from rfl, own_addk _ 2 2 rfl (by omega)]; omega
theorem own_Pk3 (p0 p1 : Int32) (q2 : Int64) (p3 p4 : Int32) : 0 ≤ ((own_P p0 p1 q2 p3 p4) + (3 : Int32)).toInt ∧ ((own_P p0 p1 q2 p3 p4) + (3 : Int32)).toInt < ((0 : Int32) + (12 : Int32)).toInt := by
  have := own_P_rng p0 p1 q2 p3 p4; rw [show ((0 : Int32) + (12 : Int32)).toInt = 12 from rfl, own_addk _ 3 3 rfl (by omega)]; omega
theorem own_bt (x : Int32) (n : Int) (h : (x.toInt - n) % 256 = 0) (hn : 0 ≤ n) (hn2 : n < 256) : ((nar .byte (x.toInt8.toInt32)) &&& (255 : Int32)).toInt = n := by
  have m := c_mask (nar .byte (x.toInt8.toInt32)) 255 8 (by decide) (by decide)
  have b := c_i2b x; have b2 := c_i2b (x.toInt8.toInt32)
  have e : (nar .byte (x.toInt8.toInt32)) = (x.toInt8.toInt32).toInt8.toInt32 := rfl
  rw [e] at m ⊢
  omega
theorem own_ush (v q : Int32) (k : Nat) (hk : q.toBitVec.toNat % 32 = k) (h0 : 0 < k) (he : own_shrI v q = ((v.toUInt32 >>> (q &&& 31).toUInt32).toInt32) := by rfl) : (own_shrI v q).toInt = (v.toInt % 4294967296) / (2 ^ k : Nat) := by
  rw [he]; exact c_iushr v q k hk h0
theorem own_or24 (a b : Int32) (A : Int) (ha : (a.toInt - A) % 4294967296 = 0) (hA : A % 16777216 = 0) (hb : 0 ≤ b.toInt) (hb2 : b.toInt < 16777216) : ((a ||| b).toInt - (A + b.toInt)) % 4294967296 = 0 := by
  have o := c_or a b 24 (by decide) 16777216 rfl (by omega) hb hb2
  omega
theorem own_or16 (a b : Int32) (A : Int) (ha : (a.toInt - A) % 4294967296 = 0) (hA : A % 65536 = 0) (hb : 0 ≤ b.toInt) (hb2 : b.toInt < 65536) : ((a ||| b).toInt - (A + b.toInt)) % 4294967296 = 0 := by
  have o := c_or a b 16 (by decide) 65536 rfl (by omega) hb hb2
  omega
theorem own_or8 (a b : Int32) (A : Int) (ha : (a.toInt - A) % 4294967296 = 0) (hA : A % 256 = 0) (hb : 0 ≤ b.toInt) (hb2 : b.toInt < 256) : ((a ||| b).toInt - (A + b.toInt)) % 4294967296 = 0 := by
  have o := c_or a b 8 (by decide) 256 rfl (by omega) hb hb2
  omega
theorem own_mulx (c m : Int32) (M : Int) (hm : m.toInt = M) (h0 : 0 ≤ c.toInt * M) (h1 : c.toInt * M < 2147483648) : (c * m).toInt = c.toInt * M := by
  have a := c_imul c m; have r := rng32 (c * m)
  rw [hm] at a
  omega
theorem own_sum4 (V x0 x1 x2 x3 : Int) (h : 0 ≤ V) (h0 : x0 = V / 16777216) (h1 : x1 = V / 65536 % 256) (h2 : x2 = V / 256 % 256) (h3 : x3 = V % 256) : x0 * 16777216 + x1 * 65536 + x2 * 256 + x3 = V := by omega
theorem own_join4 (v c0 c1 c2 c3 : Int32) (h0 : c0.toInt = v.toInt % 4294967296 / 16777216) (h1 : c1.toInt = v.toInt % 4294967296 / 65536 % 256) (h2 : c2.toInt = v.toInt % 4294967296 / 256 % 256) (h3 : c3.toInt = v.toInt % 4294967296 % 256) :
    (((c0 * 16777216) ||| (c1 * 65536)) ||| (c2 * 256)) ||| c3 = v := by
  have sv := rng32 v
  have s := own_sum4 _ _ _ _ _ (by omega) h0 h1 h2 h3
  have b1 : 0 ≤ c1.toInt ∧ c1.toInt < 256 := by omega
  have b2 : 0 ≤ c2.toInt ∧ c2.toInt < 256 := by omega
  have b3 : 0 ≤ c3.toInt ∧ c3.toInt < 256 := by omega
  clear h0 h1 h2 h3
  have x1 := own_mulx c1 65536 65536 rfl (by omega) (by omega)
  have x2 := own_mulx c2 256 256 rfl (by omega) (by omega)
  have m0 := c_imul c0 16777216
  rw [show (16777216 : Int32).toInt = 16777216 from rfl] at m0
  have o1 := own_or24 (c0 * 16777216) (c1 * 65536) (c0.toInt * 16777216) m0 (by omega) (by omega) (by omega)
  clear m0
  have o2 := own_or16 _ (c2 * 256) _ o1 (by omega) (by omega) (by omega)
  clear o1
  have o3 := own_or8 _ c3 _ o2 (by omega) (by omega) (by omega)
  clear o2
  rw [x1, x2, s] at o3
  have r := rng32 ((((c0 * 16777216) ||| (c1 * 65536)) ||| (c2 * 256)) ||| c3)
  exact Int32.toInt_inj.mp (by omega)
theorem own_join (v b0 b1 b2 b3 : Int32) (h0 : (b0 &&& (255 : Int32)).toInt = v.toInt % 4294967296 / 16777216) (h1 : (b1 &&& (255 : Int32)).toInt = v.toInt % 4294967296 / 65536 % 256) (h2 : (b2 &&& (255 : Int32)).toInt = v.toInt % 4294967296 / 256 % 256) (h3 : (b3 &&& (255 : Int32)).toInt = v.toInt % 4294967296 % 256) :
    ((((((b0 &&& (255 : Int32)) <<< ((24 : Int32) &&& 31)) ||| ((b1 &&& (255 : Int32)) <<< ((16 : Int32) &&& 31))) ||| ((b2 &&& (255 : Int32)) <<< ((8 : Int32) &&& 31))) ||| (b3 &&& (255 : Int32)))) = v := by
  rw [shlm (x := b0 &&& (255 : Int32)) (k := 24) (m := 16777216) (by decide), shlm (x := b1 &&& (255 : Int32)) (k := 16) (m := 65536) (by decide), shlm (x := b2 &&& (255 : Int32)) (k := 8) (m := 256) (by decide)]
  exact own_join4 v _ _ _ _ h0 h1 h2 h3
theorem own_ok (p0 p1 : Int32) (q2 : Int64) (p3 p4 : Int32) {f f1 f2 f3 y : Nat → Int32}
    (h1 : (∀ i, i < (12 : Int32).toInt.toNat → f1 ((0 : Int32).toInt.toNat + i) = y ((0 : Int32).toInt.toNat + i)) ∧ (∀ i, i < (0 : Int32).toInt.toNat ∨ (0 : Int32).toInt.toNat + (12 : Int32).toInt.toNat ≤ i → f1 i = f i))
    (h2 : own_WI (own_P p0 p1 q2 p3 p4) p1 f1 f2) (h3 : ∀ i, i < ((0 : Int32) + (12 : Int32)).toInt.toNat → f3 i = f2 i) :
    ((((((f3 (own_P p0 p1 q2 p3 p4).toInt.toNat) &&& (255 : Int32)) <<< ((24 : Int32) &&& 31)) ||| (((f3 ((own_P p0 p1 q2 p3 p4) + (1 : Int32)).toInt.toNat) &&& (255 : Int32)) <<< ((16 : Int32) &&& 31))) ||| (((f3 ((own_P p0 p1 q2 p3 p4) + (2 : Int32)).toInt.toNat) &&& (255 : Int32)) <<< ((8 : Int32) &&& 31))) ||| ((f3 ((own_P p0 p1 q2 p3 p4) + (3 : Int32)).toInt.toNat) &&& (255 : Int32))) = p1 ∧
    ∀ i : Int32, 0 ≤ i.toInt → i.toInt < 12 → ¬ own_F11 i (own_P p0 p1 q2 p3 p4) ((0 : Int32) + (12 : Int32)) f3 (12 : Int32) y = 0 := by
  have P := own_P_rng p0 p1 q2 p3 p4
  have k1 := own_addk (own_P p0 p1 q2 p3 p4) 1 1 rfl (by omega); have k2 := own_addk (own_P p0 p1 q2 p3 p4) 2 2 rfl (by omega); have k3 := own_addk (own_P p0 p1 q2 p3 p4) 3 3 rfl (by omega); have k4 := own_addk (own_P p0 p1 q2 p3 p4) 4 4 rfl (by omega)
  obtain ⟨w0, w1, w2, w3, w4⟩ := h2
  have g3 : ∀ i, i < 12 → f3 i = f2 i := h3
  have g1 : ∀ i, i < 12 → f1 i = y i := fun i hi => by have q := h1.1 i hi; simpa using q
  generalize own_P p0 p1 q2 p3 p4 = p at *
  refine ⟨?_, fun i hi hi2 => ?_⟩
  · rw [show (p + (1 : Int32)).toInt.toNat = p.toInt.toNat + 1 by omega, show (p + (2 : Int32)).toInt.toNat = p.toInt.toNat + 2 by omega, show (p + (3 : Int32)).toInt.toNat = p.toInt.toNat + 3 by omega, g3 _ (by omega), g3 _ (by omega), g3 _ (by omega), g3 _ (by omega), w0, w1, w2, w3]
    have u0 := own_ush p1 24 24 rfl (by decide); have u1 := own_ush p1 16 16 rfl (by decide); have u2 := own_ush p1 8 8 rfl (by decide)
    have pr := rng32 p1
    refine own_join p1 _ _ _ _ ?_ ?_ ?_ ?_
    · exact own_bt _ _ (by rw [u0]; omega) (by omega) (by omega)
    · exact own_bt _ _ (by rw [u1]; omega) (by omega) (by omega)
    · exact own_bt _ _ (by rw [u2]; omega) (by omega) (by omega)
    · exact own_bt _ _ (by omega) (by omega) (by omega)
  · rw [own_F11]
    by_cases c1 : i < p
    · rw [if_pos c1]; rw [Int32.lt_iff_toInt_lt] at c1
      rw [if_pos (by rw [g3 _ (by omega), w4 _ (Or.inl (by omega)), g1 _ (by omega)])]; decide
    · rw [if_neg c1]; rw [Int32.lt_iff_toInt_lt] at c1
      by_cases c2 : i < (p + (4 : Int32))
      · rw [if_pos c2]; decide
      · rw [if_neg c2]; rw [Int32.lt_iff_toInt_lt, k4] at c2
        rw [if_pos (by rw [g3 _ (by omega), w4 _ (Or.inr (by omega)), g1 _ (by omega)])]; decide
def own_Q0 (Z : State) (p0 : Int32) (p1 : Int32) (q2 : Int64) (p3 : Int32) (p4 : Int32) (h0 : Heap) (n0 : Nat) (v : Option Value) (h : Heap) (L : List Loc) : Prop := (v = some (.int (1 : Int32))) ∧ (Fr n0 L)
set_option maxRecDepth 65536 in
set_option maxHeartbeats 40000000 in
theorem own_rm0 (l : Launch) (Z : State) (a0 : Array Value) (hw : ∀ d ∈ tables_1, d.before a0 Z = true) (ws : List Jvm.Cond) (p0 : Int32) (p1 : Int32) (q2 : Int64) (p3 : Int32) (p4 : Int32) (h0 : Heap) (n0 : Nat) (Z0 : n0 ≤ h0.size) :
    MetFree l x (head1 (Jvm.Cond.code x code maxLocals ret :: ws) room_1) (fun a U => a = #[(.int p0), (.int p1), (.long q2), (.int p3), (.int p4)] ∧ Z.Warmed39 U.vm ∧ U.heap = h0) (fun _ _ _ _ _ => True) (fun _ U o U' => ∃ v L, o = .returned v ∧ own_Q0 Z p0 p1 q2 p3 p4 h0 n0 v U'.heap L ∧ FrameEnd U o U' L 16 256) := by
  refine MetFree.of_bodySF (plainFor_of_name own_pn2) hisR ?_
  intro p e s m args below meth c s₁ Bd hml0 hP hK
  obtain ⟨rfl, hZ, hh⟩ := hP
  have hx := Bd.exec
  have hby := Bd.bytes
  have hml : c.maxLocals = 11 := hml0
  have hown : s.vm.findClass "com/example/tracecourt/tracecourt/trace/OutWriteIntAtPinLaw" = some m.cls := findClass_of_methodNamed Bd.named
  have hnm := (name_of_methodNamed Bd.named Bd.method).1
  have X0 : Stand p l e room_1 s m #[(.int p0), (.int p1), (.long q2), (.int p3), (.int p4)] below meth c s₁ [] 0 0 := Stand.of_body Bd
  have e0 : s₁.heap = h0 := by rw [← hh, Bd.state]; rfl
  have N0 := Fr.nil n0
  refine own_go (fun t k => castTop (own_ef0 m p0 p1 q2 p3 p4) k) ?_
  refine own_go (T' := s₁) (f' := (mkF m 2 #[.val (.int p0), .val (.int p1), .val (.long q2), .second, .val (.int p3), .val (.int p4), .unset, .unset, .unset, .unset, .unset] [(.int (12 : Int32))])) (fun t k => ?_) ?_
  · show Steps p.tables e below (s₁.setTop (mkF m 0 #[.val (.int p0), .val (.int p1), .val (.long q2), .second, .val (.int p3), .val (.int p4), .unset, .unset, .unset, .unset, .unset] [])) _
    refine XS.bipush X0.here hx rfl (hb hby at_0) ?_
    show Steps p.tables e below (s₁.setTop (mkF m 2 #[.val (.int p0), .val (.int p1), .val (.long q2), .second, .val (.int p3), .val (.int p4), .unset, .unset, .unset, .unset, .unset] [(.int (12 : Int32))])) _
    exact k
  obtain ⟨T1, h1, k1, X1, e1, E1, A1, st1⟩ := newP X0 hx hZ (hw _ (List.mem_of_getElem? (i := 0) rfl)) e0 (g := (mkF m 2 #[.val (.int p0), .val (.int p1), .val (.long q2), .second, .val (.int p3), .val (.int p4), .unset, .unset, .unset, .unset, .unset] [(.int (12 : Int32))])) rfl (hb hby at_2) rfl (by decide) (cap := 12) (by decide) (by decide) (by decide) (by decide)
  obtain ⟨b1, g1⟩ : ∃ z, z = h0.size := ⟨_, rfl⟩
  rw [← g1] at A1 st1
  have g_b1 : n0 ≤ b1 := Nat.le_trans Z0 (Nat.le_of_eq g1.symm)
  refine own_go (T' := T1) (f' := (mkF m 4 #[.val (.int p0), .val (.int p1), .val (.long q2), .second, .val (.int p3), .val (.int p4), .unset, .unset, .unset, .unset, .unset] [(.ref b1)])) st1 ?_
  have Zs1 : n0 ≤ h1.size := Nat.le_trans Z0 E1.1
  have V1 : own_ArI Z h1 b1 .byte (12 : Int32) (fun _ => 0) := own_ArI.new A1 (by decide) rfl
  refine own_go (T' := T1) (f' := (mkF m 12 #[.val (.int p0), .val (.int p1), .val (.long q2), .second, .val (.int p3), .val (.int p4), .val (.ref b1), .unset, .unset, .unset, .unset] [(.int ((q2.toInt32).toInt8.toInt32)), (.int (0 : Int32)), (.ref b1)])) (fun t k => ?_) ?_
  · show Steps p.tables e below (T1.setTop (mkF m 4 #[.val (.int p0), .val (.int p1), .val (.long q2), .second, .val (.int p3), .val (.int p4), .unset, .unset, .unset, .unset, .unset] [(.ref b1)])) _
    refine XS.astore X1.here hx rfl (hb hby at_4) rfl rfl (l' := #[.val (.int p0), .val (.int p1), .val (.long q2), .second, .val (.int p3), .val (.int p4), .val (.ref b1), .unset, .unset, .unset, .unset]) rfl ?_
    show Steps p.tables e below (T1.setTop (mkF m 6 #[.val (.int p0), .val (.int p1), .val (.long q2), .second, .val (.int p3), .val (.int p4), .val (.ref b1), .unset, .unset, .unset, .unset] [])) _
    refine XS.aload X1.here hx rfl (hb hby at_6) rfl rfl ?_
    show Steps p.tables e below (T1.setTop (mkF m 8 #[.val (.int p0), .val (.int p1), .val (.long q2), .second, .val (.int p3), .val (.int p4), .val (.ref b1), .unset, .unset, .unset, .unset] [(.ref b1)])) _
    refine XS.iconst X1.here hx rfl (hb hby at_8) ?_
    show Steps p.tables e below (T1.setTop (mkF m 9 #[.val (.int p0), .val (.int p1), .val (.long q2), .second, .val (.int p3), .val (.int p4), .val (.ref b1), .unset, .unset, .unset, .unset] [(.int (0 : Int32)), (.ref b1)])) _
    refine XS.lloadN X1.here hx rfl (hb hby at_9) rfl ?_
    show Steps p.tables e below (T1.setTop (mkF m 10 #[.val (.int p0), .val (.int p1), .val (.long q2), .second, .val (.int p3), .val (.int p4), .val (.ref b1), .unset, .unset, .unset, .unset] [(.long q2), (.int (0 : Int32)), (.ref b1)])) _
    refine XS.l2i X1.here hx rfl (hb hby at_10) rfl ?_
    show Steps p.tables e below (T1.setTop (mkF m 11 #[.val (.int p0), .val (.int p1), .val (.long q2), .second, .val (.int p3), .val (.int p4), .val (.ref b1), .unset, .unset, .unset, .unset] [(.int (q2.toInt32)), (.int (0 : Int32)), (.ref b1)])) _
    refine XS.i2b X1.here hx rfl (hb hby at_11) rfl ?_
    show Steps p.tables e below (T1.setTop (mkF m 12 #[.val (.int p0), .val (.int p1), .val (.long q2), .second, .val (.int p3), .val (.int p4), .val (.ref b1), .unset, .unset, .unset, .unset] [(.int ((q2.toInt32).toInt8.toInt32)), (.int (0 : Int32)), (.ref b1)])) _
    exact k
  obtain ⟨T2, h2, y2, X2, e2, W2, V2, ya2, yb2, st2⟩ := own_stB X1 hx hZ e1 V1 (j := (0 : Int32)) (x := ((q2.toInt32).toInt8.toInt32)) (by decide) (by decide) (g := (mkF m 12 #[.val (.int p0), .val (.int p1), .val (.long q2), .second, .val (.int p3), .val (.int p4), .val (.ref b1), .unset, .unset, .unset, .unset] [(.int ((q2.toInt32).toInt8.toInt32)), (.int (0 : Int32)), (.ref b1)])) rfl rfl (hb hby at_12)
  refine own_go (T' := T2) (f' := (mkF m 13 #[.val (.int p0), .val (.int p1), .val (.long q2), .second, .val (.int p3), .val (.int p4), .val (.ref b1), .unset, .unset, .unset, .unset] [])) st2 ?_
  have fc3 : own_ArI Z h2 b1 .byte (12 : Int32) y2 := V2
  have Zs2 : n0 ≤ h2.size := Nat.le_trans Zs1 (Keep.of_wr W2).1
  have N2 := Fr.snoc X2 N0 g_b1
  have ya2' : y2 0 = (nar .byte ((q2.toInt32).toInt8.toInt32)) := ya2
  have yb2' : ∀ i, i ≠ 0 → y2 i = (fun _ => 0) i := yb2
  refine own_go (T' := T2) (f' := (mkF m 22 #[.val (.int p0), .val (.int p1), .val (.long q2), .second, .val (.int p3), .val (.int p4), .val (.ref b1), .unset, .unset, .unset, .unset] [(.int (((own_shrL q2 (8 : Int32)).toInt32).toInt8.toInt32)), (.int (1 : Int32)), (.ref b1)])) (fun t k => ?_) ?_
  · show Steps p.tables e below (T2.setTop (mkF m 13 #[.val (.int p0), .val (.int p1), .val (.long q2), .second, .val (.int p3), .val (.int p4), .val (.ref b1), .unset, .unset, .unset, .unset] [])) _
    refine XS.aload X2.here hx rfl (hb hby at_13) rfl rfl ?_
    show Steps p.tables e below (T2.setTop (mkF m 15 #[.val (.int p0), .val (.int p1), .val (.long q2), .second, .val (.int p3), .val (.int p4), .val (.ref b1), .unset, .unset, .unset, .unset] [(.ref b1)])) _
    refine XS.iconst X2.here hx rfl (hb hby at_15) ?_
    show Steps p.tables e below (T2.setTop (mkF m 16 #[.val (.int p0), .val (.int p1), .val (.long q2), .second, .val (.int p3), .val (.int p4), .val (.ref b1), .unset, .unset, .unset, .unset] [(.int (1 : Int32)), (.ref b1)])) _
    refine XS.lloadN X2.here hx rfl (hb hby at_16) rfl ?_
    show Steps p.tables e below (T2.setTop (mkF m 17 #[.val (.int p0), .val (.int p1), .val (.long q2), .second, .val (.int p3), .val (.int p4), .val (.ref b1), .unset, .unset, .unset, .unset] [(.long q2), (.int (1 : Int32)), (.ref b1)])) _
    refine XS.bipush X2.here hx rfl (hb hby at_17) ?_
    show Steps p.tables e below (T2.setTop (mkF m 19 #[.val (.int p0), .val (.int p1), .val (.long q2), .second, .val (.int p3), .val (.int p4), .val (.ref b1), .unset, .unset, .unset, .unset] [(.int (8 : Int32)), (.long q2), (.int (1 : Int32)), (.ref b1)])) _
    refine XS.lushr X2.here hx rfl (hb hby at_19) rfl ?_
    show Steps p.tables e below (T2.setTop (mkF m 20 #[.val (.int p0), .val (.int p1), .val (.long q2), .second, .val (.int p3), .val (.int p4), .val (.ref b1), .unset, .unset, .unset, .unset] [(.long (own_shrL q2 (8 : Int32))), (.int (1 : Int32)), (.ref b1)])) _
    refine XS.l2i X2.here hx rfl (hb hby at_20) rfl ?_
    show Steps p.tables e below (T2.setTop (mkF m 21 #[.val (.int p0), .val (.int p1), .val (.long q2), .second, .val (.int p3), .val (.int p4), .val (.ref b1), .unset, .unset, .unset, .unset] [(.int ((own_shrL q2 (8 : Int32)).toInt32)), (.int (1 : Int32)), (.ref b1)])) _
    refine XS.i2b X2.here hx rfl (hb hby at_21) rfl ?_
    show Steps p.tables e below (T2.setTop (mkF m 22 #[.val (.int p0), .val (.int p1), .val (.long q2), .second, .val (.int p3), .val (.int p4), .val (.ref b1), .unset, .unset, .unset, .unset] [(.int (((own_shrL q2 (8 : Int32)).toInt32).toInt8.toInt32)), (.int (1 : Int32)), (.ref b1)])) _
    exact k
  obtain ⟨T4, h4, y4, X4, e4, W4, V4, ya4, yb4, st4⟩ := own_stB X2 hx hZ e2 fc3 (j := (1 : Int32)) (x := (((own_shrL q2 (8 : Int32)).toInt32).toInt8.toInt32)) (by decide) (by decide) (g := (mkF m 22 #[.val (.int p0), .val (.int p1), .val (.long q2), .second, .val (.int p3), .val (.int p4), .val (.ref b1), .unset, .unset, .unset, .unset] [(.int (((own_shrL q2 (8 : Int32)).toInt32).toInt8.toInt32)), (.int (1 : Int32)), (.ref b1)])) rfl rfl (hb hby at_22)
  refine own_go (T' := T4) (f' := (mkF m 23 #[.val (.int p0), .val (.int p1), .val (.long q2), .second, .val (.int p3), .val (.int p4), .val (.ref b1), .unset, .unset, .unset, .unset] [])) st4 ?_
  have fc5 : own_ArI Z h4 b1 .byte (12 : Int32) y4 := V4
  have Zs4 : n0 ≤ h4.size := Nat.le_trans Zs2 (Keep.of_wr W4).1
  have N4 := Fr.snoc X4 N2 g_b1
  have ya4' : y4 1 = (nar .byte (((own_shrL q2 (8 : Int32)).toInt32).toInt8.toInt32)) := ya4
  have yb4' : ∀ i, i ≠ 1 → y4 i = y2 i := yb4
  refine own_go (T' := T4) (f' := (mkF m 32 #[.val (.int p0), .val (.int p1), .val (.long q2), .second, .val (.int p3), .val (.int p4), .val (.ref b1), .unset, .unset, .unset, .unset] [(.int (((own_shrL q2 (16 : Int32)).toInt32).toInt8.toInt32)), (.int (2 : Int32)), (.ref b1)])) (fun t k => ?_) ?_
  · show Steps p.tables e below (T4.setTop (mkF m 23 #[.val (.int p0), .val (.int p1), .val (.long q2), .second, .val (.int p3), .val (.int p4), .val (.ref b1), .unset, .unset, .unset, .unset] [])) _
    refine XS.aload X4.here hx rfl (hb hby at_23) rfl rfl ?_
    show Steps p.tables e below (T4.setTop (mkF m 25 #[.val (.int p0), .val (.int p1), .val (.long q2), .second, .val (.int p3), .val (.int p4), .val (.ref b1), .unset, .unset, .unset, .unset] [(.ref b1)])) _
    refine XS.iconst X4.here hx rfl (hb hby at_25) ?_
    show Steps p.tables e below (T4.setTop (mkF m 26 #[.val (.int p0), .val (.int p1), .val (.long q2), .second, .val (.int p3), .val (.int p4), .val (.ref b1), .unset, .unset, .unset, .unset] [(.int (2 : Int32)), (.ref b1)])) _
    refine XS.lloadN X4.here hx rfl (hb hby at_26) rfl ?_
    show Steps p.tables e below (T4.setTop (mkF m 27 #[.val (.int p0), .val (.int p1), .val (.long q2), .second, .val (.int p3), .val (.int p4), .val (.ref b1), .unset, .unset, .unset, .unset] [(.long q2), (.int (2 : Int32)), (.ref b1)])) _
    refine XS.bipush X4.here hx rfl (hb hby at_27) ?_
    show Steps p.tables e below (T4.setTop (mkF m 29 #[.val (.int p0), .val (.int p1), .val (.long q2), .second, .val (.int p3), .val (.int p4), .val (.ref b1), .unset, .unset, .unset, .unset] [(.int (16 : Int32)), (.long q2), (.int (2 : Int32)), (.ref b1)])) _
    refine XS.lushr X4.here hx rfl (hb hby at_29) rfl ?_
    show Steps p.tables e below (T4.setTop (mkF m 30 #[.val (.int p0), .val (.int p1), .val (.long q2), .second, .val (.int p3), .val (.int p4), .val (.ref b1), .unset, .unset, .unset, .unset] [(.long (own_shrL q2 (16 : Int32))), (.int (2 : Int32)), (.ref b1)])) _
    refine XS.l2i X4.here hx rfl (hb hby at_30) rfl ?_
    show Steps p.tables e below (T4.setTop (mkF m 31 #[.val (.int p0), .val (.int p1), .val (.long q2), .second, .val (.int p3), .val (.int p4), .val (.ref b1), .unset, .unset, .unset, .unset] [(.int ((own_shrL q2 (16 : Int32)).toInt32)), (.int (2 : Int32)), (.ref b1)])) _
    refine XS.i2b X4.here hx rfl (hb hby at_31) rfl ?_
    show Steps p.tables e below (T4.setTop (mkF m 32 #[.val (.int p0), .val (.int p1), .val (.long q2), .second, .val (.int p3), .val (.int p4), .val (.ref b1), .unset, .unset, .unset, .unset] [(.int (((own_shrL q2 (16 : Int32)).toInt32).toInt8.toInt32)), (.int (2 : Int32)), (.ref b1)])) _
    exact k
  obtain ⟨T6, h6, y6, X6, e6, W6, V6, ya6, yb6, st6⟩ := own_stB X4 hx hZ e4 fc5 (j := (2 : Int32)) (x := (((own_shrL q2 (16 : Int32)).toInt32).toInt8.toInt32)) (by decide) (by decide) (g := (mkF m 32 #[.val (.int p0), .val (.int p1), .val (.long q2), .second, .val (.int p3), .val (.int p4), .val (.ref b1), .unset, .unset, .unset, .unset] [(.int (((own_shrL q2 (16 : Int32)).toInt32).toInt8.toInt32)), (.int (2 : Int32)), (.ref b1)])) rfl rfl (hb hby at_32)
  refine own_go (T' := T6) (f' := (mkF m 33 #[.val (.int p0), .val (.int p1), .val (.long q2), .second, .val (.int p3), .val (.int p4), .val (.ref b1), .unset, .unset, .unset, .unset] [])) st6 ?_
  have fc7 : own_ArI Z h6 b1 .byte (12 : Int32) y6 := V6
  have Zs6 : n0 ≤ h6.size := Nat.le_trans Zs4 (Keep.of_wr W6).1
  have N6 := Fr.snoc X6 N4 g_b1
  have ya6' : y6 2 = (nar .byte (((own_shrL q2 (16 : Int32)).toInt32).toInt8.toInt32)) := ya6
  have yb6' : ∀ i, i ≠ 2 → y6 i = y4 i := yb6
  refine own_go (T' := T6) (f' := (mkF m 42 #[.val (.int p0), .val (.int p1), .val (.long q2), .second, .val (.int p3), .val (.int p4), .val (.ref b1), .unset, .unset, .unset, .unset] [(.int (((own_shrL q2 (24 : Int32)).toInt32).toInt8.toInt32)), (.int (3 : Int32)), (.ref b1)])) (fun t k => ?_) ?_
  · show Steps p.tables e below (T6.setTop (mkF m 33 #[.val (.int p0), .val (.int p1), .val (.long q2), .second, .val (.int p3), .val (.int p4), .val (.ref b1), .unset, .unset, .unset, .unset] [])) _
    refine XS.aload X6.here hx rfl (hb hby at_33) rfl rfl ?_
    show Steps p.tables e below (T6.setTop (mkF m 35 #[.val (.int p0), .val (.int p1), .val (.long q2), .second, .val (.int p3), .val (.int p4), .val (.ref b1), .unset, .unset, .unset, .unset] [(.ref b1)])) _
    refine XS.iconst X6.here hx rfl (hb hby at_35) ?_
    show Steps p.tables e below (T6.setTop (mkF m 36 #[.val (.int p0), .val (.int p1), .val (.long q2), .second, .val (.int p3), .val (.int p4), .val (.ref b1), .unset, .unset, .unset, .unset] [(.int (3 : Int32)), (.ref b1)])) _
    refine XS.lloadN X6.here hx rfl (hb hby at_36) rfl ?_
    show Steps p.tables e below (T6.setTop (mkF m 37 #[.val (.int p0), .val (.int p1), .val (.long q2), .second, .val (.int p3), .val (.int p4), .val (.ref b1), .unset, .unset, .unset, .unset] [(.long q2), (.int (3 : Int32)), (.ref b1)])) _
    refine XS.bipush X6.here hx rfl (hb hby at_37) ?_
    show Steps p.tables e below (T6.setTop (mkF m 39 #[.val (.int p0), .val (.int p1), .val (.long q2), .second, .val (.int p3), .val (.int p4), .val (.ref b1), .unset, .unset, .unset, .unset] [(.int (24 : Int32)), (.long q2), (.int (3 : Int32)), (.ref b1)])) _
    refine XS.lushr X6.here hx rfl (hb hby at_39) rfl ?_
    show Steps p.tables e below (T6.setTop (mkF m 40 #[.val (.int p0), .val (.int p1), .val (.long q2), .second, .val (.int p3), .val (.int p4), .val (.ref b1), .unset, .unset, .unset, .unset] [(.long (own_shrL q2 (24 : Int32))), (.int (3 : Int32)), (.ref b1)])) _
    refine XS.l2i X6.here hx rfl (hb hby at_40) rfl ?_
    show Steps p.tables e below (T6.setTop (mkF m 41 #[.val (.int p0), .val (.int p1), .val (.long q2), .second, .val (.int p3), .val (.int p4), .val (.ref b1), .unset, .unset, .unset, .unset] [(.int ((own_shrL q2 (24 : Int32)).toInt32)), (.int (3 : Int32)), (.ref b1)])) _
    refine XS.i2b X6.here hx rfl (hb hby at_41) rfl ?_
    show Steps p.tables e below (T6.setTop (mkF m 42 #[.val (.int p0), .val (.int p1), .val (.long q2), .second, .val (.int p3), .val (.int p4), .val (.ref b1), .unset, .unset, .unset, .unset] [(.int (((own_shrL q2 (24 : Int32)).toInt32).toInt8.toInt32)), (.int (3 : Int32)), (.ref b1)])) _
    exact k
  obtain ⟨T8, h8, y8, X8, e8, W8, V8, ya8, yb8, st8⟩ := own_stB X6 hx hZ e6 fc7 (j := (3 : Int32)) (x := (((own_shrL q2 (24 : Int32)).toInt32).toInt8.toInt32)) (by decide) (by decide) (g := (mkF m 42 #[.val (.int p0), .val (.int p1), .val (.long q2), .second, .val (.int p3), .val (.int p4), .val (.ref b1), .unset, .unset, .unset, .unset] [(.int (((own_shrL q2 (24 : Int32)).toInt32).toInt8.toInt32)), (.int (3 : Int32)), (.ref b1)])) rfl rfl (hb hby at_42)
  refine own_go (T' := T8) (f' := (mkF m 43 #[.val (.int p0), .val (.int p1), .val (.long q2), .second, .val (.int p3), .val (.int p4), .val (.ref b1), .unset, .unset, .unset, .unset] [])) st8 ?_
  have fc9 : own_ArI Z h8 b1 .byte (12 : Int32) y8 := V8
  have Zs8 : n0 ≤ h8.size := Nat.le_trans Zs6 (Keep.of_wr W8).1
  have N8 := Fr.snoc X8 N6 g_b1
  have ya8' : y8 3 = (nar .byte (((own_shrL q2 (24 : Int32)).toInt32).toInt8.toInt32)) := ya8
  have yb8' : ∀ i, i ≠ 3 → y8 i = y6 i := yb8
  refine own_go (T' := T8) (f' := (mkF m 52 #[.val (.int p0), .val (.int p1), .val (.long q2), .second, .val (.int p3), .val (.int p4), .val (.ref b1), .unset, .unset, .unset, .unset] [(.int (((own_shrL q2 (32 : Int32)).toInt32).toInt8.toInt32)), (.int (4 : Int32)), (.ref b1)])) (fun t k => ?_) ?_
  · show Steps p.tables e below (T8.setTop (mkF m 43 #[.val (.int p0), .val (.int p1), .val (.long q2), .second, .val (.int p3), .val (.int p4), .val (.ref b1), .unset, .unset, .unset, .unset] [])) _
    refine XS.aload X8.here hx rfl (hb hby at_43) rfl rfl ?_
    show Steps p.tables e below (T8.setTop (mkF m 45 #[.val (.int p0), .val (.int p1), .val (.long q2), .second, .val (.int p3), .val (.int p4), .val (.ref b1), .unset, .unset, .unset, .unset] [(.ref b1)])) _
    refine XS.iconst X8.here hx rfl (hb hby at_45) ?_
    show Steps p.tables e below (T8.setTop (mkF m 46 #[.val (.int p0), .val (.int p1), .val (.long q2), .second, .val (.int p3), .val (.int p4), .val (.ref b1), .unset, .unset, .unset, .unset] [(.int (4 : Int32)), (.ref b1)])) _
    refine XS.lloadN X8.here hx rfl (hb hby at_46) rfl ?_
    show Steps p.tables e below (T8.setTop (mkF m 47 #[.val (.int p0), .val (.int p1), .val (.long q2), .second, .val (.int p3), .val (.int p4), .val (.ref b1), .unset, .unset, .unset, .unset] [(.long q2), (.int (4 : Int32)), (.ref b1)])) _
    refine XS.bipush X8.here hx rfl (hb hby at_47) ?_
    show Steps p.tables e below (T8.setTop (mkF m 49 #[.val (.int p0), .val (.int p1), .val (.long q2), .second, .val (.int p3), .val (.int p4), .val (.ref b1), .unset, .unset, .unset, .unset] [(.int (32 : Int32)), (.long q2), (.int (4 : Int32)), (.ref b1)])) _
    refine XS.lushr X8.here hx rfl (hb hby at_49) rfl ?_
    show Steps p.tables e below (T8.setTop (mkF m 50 #[.val (.int p0), .val (.int p1), .val (.long q2), .second, .val (.int p3), .val (.int p4), .val (.ref b1), .unset, .unset, .unset, .unset] [(.long (own_shrL q2 (32 : Int32))), (.int (4 : Int32)), (.ref b1)])) _
    refine XS.l2i X8.here hx rfl (hb hby at_50) rfl ?_
    show Steps p.tables e below (T8.setTop (mkF m 51 #[.val (.int p0), .val (.int p1), .val (.long q2), .second, .val (.int p3), .val (.int p4), .val (.ref b1), .unset, .unset, .unset, .unset] [(.int ((own_shrL q2 (32 : Int32)).toInt32)), (.int (4 : Int32)), (.ref b1)])) _
    refine XS.i2b X8.here hx rfl (hb hby at_51) rfl ?_
    show Steps p.tables e below (T8.setTop (mkF m 52 #[.val (.int p0), .val (.int p1), .val (.long q2), .second, .val (.int p3), .val (.int p4), .val (.ref b1), .unset, .unset, .unset, .unset] [(.int (((own_shrL q2 (32 : Int32)).toInt32).toInt8.toInt32)), (.int (4 : Int32)), (.ref b1)])) _
    exact k
  obtain ⟨T10, h10, y10, X10, e10, W10, V10, ya10, yb10, st10⟩ := own_stB X8 hx hZ e8 fc9 (j := (4 : Int32)) (x := (((own_shrL q2 (32 : Int32)).toInt32).toInt8.toInt32)) (by decide) (by decide) (g := (mkF m 52 #[.val (.int p0), .val (.int p1), .val (.long q2), .second, .val (.int p3), .val (.int p4), .val (.ref b1), .unset, .unset, .unset, .unset] [(.int (((own_shrL q2 (32 : Int32)).toInt32).toInt8.toInt32)), (.int (4 : Int32)), (.ref b1)])) rfl rfl (hb hby at_52)
  refine own_go (T' := T10) (f' := (mkF m 53 #[.val (.int p0), .val (.int p1), .val (.long q2), .second, .val (.int p3), .val (.int p4), .val (.ref b1), .unset, .unset, .unset, .unset] [])) st10 ?_
  have fc11 : own_ArI Z h10 b1 .byte (12 : Int32) y10 := V10
  have Zs10 : n0 ≤ h10.size := Nat.le_trans Zs8 (Keep.of_wr W10).1
  have N10 := Fr.snoc X10 N8 g_b1
  have ya10' : y10 4 = (nar .byte (((own_shrL q2 (32 : Int32)).toInt32).toInt8.toInt32)) := ya10
  have yb10' : ∀ i, i ≠ 4 → y10 i = y8 i := yb10
  refine own_go (T' := T10) (f' := (mkF m 62 #[.val (.int p0), .val (.int p1), .val (.long q2), .second, .val (.int p3), .val (.int p4), .val (.ref b1), .unset, .unset, .unset, .unset] [(.int (((own_shrL q2 (40 : Int32)).toInt32).toInt8.toInt32)), (.int (5 : Int32)), (.ref b1)])) (fun t k => ?_) ?_
  · show Steps p.tables e below (T10.setTop (mkF m 53 #[.val (.int p0), .val (.int p1), .val (.long q2), .second, .val (.int p3), .val (.int p4), .val (.ref b1), .unset, .unset, .unset, .unset] [])) _
    refine XS.aload X10.here hx rfl (hb hby at_53) rfl rfl ?_
    show Steps p.tables e below (T10.setTop (mkF m 55 #[.val (.int p0), .val (.int p1), .val (.long q2), .second, .val (.int p3), .val (.int p4), .val (.ref b1), .unset, .unset, .unset, .unset] [(.ref b1)])) _
    refine XS.iconst X10.here hx rfl (hb hby at_55) ?_
    show Steps p.tables e below (T10.setTop (mkF m 56 #[.val (.int p0), .val (.int p1), .val (.long q2), .second, .val (.int p3), .val (.int p4), .val (.ref b1), .unset, .unset, .unset, .unset] [(.int (5 : Int32)), (.ref b1)])) _
    refine XS.lloadN X10.here hx rfl (hb hby at_56) rfl ?_
    show Steps p.tables e below (T10.setTop (mkF m 57 #[.val (.int p0), .val (.int p1), .val (.long q2), .second, .val (.int p3), .val (.int p4), .val (.ref b1), .unset, .unset, .unset, .unset] [(.long q2), (.int (5 : Int32)), (.ref b1)])) _
    refine XS.bipush X10.here hx rfl (hb hby at_57) ?_
    show Steps p.tables e below (T10.setTop (mkF m 59 #[.val (.int p0), .val (.int p1), .val (.long q2), .second, .val (.int p3), .val (.int p4), .val (.ref b1), .unset, .unset, .unset, .unset] [(.int (40 : Int32)), (.long q2), (.int (5 : Int32)), (.ref b1)])) _
    refine XS.lushr X10.here hx rfl (hb hby at_59) rfl ?_
    show Steps p.tables e below (T10.setTop (mkF m 60 #[.val (.int p0), .val (.int p1), .val (.long q2), .second, .val (.int p3), .val (.int p4), .val (.ref b1), .unset, .unset, .unset, .unset] [(.long (own_shrL q2 (40 : Int32))), (.int (5 : Int32)), (.ref b1)])) _
    refine XS.l2i X10.here hx rfl (hb hby at_60) rfl ?_
    show Steps p.tables e below (T10.setTop (mkF m 61 #[.val (.int p0), .val (.int p1), .val (.long q2), .second, .val (.int p3), .val (.int p4), .val (.ref b1), .unset, .unset, .unset, .unset] [(.int ((own_shrL q2 (40 : Int32)).toInt32)), (.int (5 : Int32)), (.ref b1)])) _
    refine XS.i2b X10.here hx rfl (hb hby at_61) rfl ?_
    show Steps p.tables e below (T10.setTop (mkF m 62 #[.val (.int p0), .val (.int p1), .val (.long q2), .second, .val (.int p3), .val (.int p4), .val (.ref b1), .unset, .unset, .unset, .unset] [(.int (((own_shrL q2 (40 : Int32)).toInt32).toInt8.toInt32)), (.int (5 : Int32)), (.ref b1)])) _
    exact k
  obtain ⟨T12, h12, y12, X12, e12, W12, V12, ya12, yb12, st12⟩ := own_stB X10 hx hZ e10 fc11 (j := (5 : Int32)) (x := (((own_shrL q2 (40 : Int32)).toInt32).toInt8.toInt32)) (by decide) (by decide) (g := (mkF m 62 #[.val (.int p0), .val (.int p1), .val (.long q2), .second, .val (.int p3), .val (.int p4), .val (.ref b1), .unset, .unset, .unset, .unset] [(.int (((own_shrL q2 (40 : Int32)).toInt32).toInt8.toInt32)), (.int (5 : Int32)), (.ref b1)])) rfl rfl (hb hby at_62)
  refine own_go (T' := T12) (f' := (mkF m 63 #[.val (.int p0), .val (.int p1), .val (.long q2), .second, .val (.int p3), .val (.int p4), .val (.ref b1), .unset, .unset, .unset, .unset] [])) st12 ?_
  have fc13 : own_ArI Z h12 b1 .byte (12 : Int32) y12 := V12
  have Zs12 : n0 ≤ h12.size := Nat.le_trans Zs10 (Keep.of_wr W12).1
  have N12 := Fr.snoc X12 N10 g_b1
  have ya12' : y12 5 = (nar .byte (((own_shrL q2 (40 : Int32)).toInt32).toInt8.toInt32)) := ya12
  have yb12' : ∀ i, i ≠ 5 → y12 i = y10 i := yb12
  refine own_go (T' := T12) (f' := (mkF m 73 #[.val (.int p0), .val (.int p1), .val (.long q2), .second, .val (.int p3), .val (.int p4), .val (.ref b1), .unset, .unset, .unset, .unset] [(.int (((own_shrL q2 (48 : Int32)).toInt32).toInt8.toInt32)), (.int (6 : Int32)), (.ref b1)])) (fun t k => ?_) ?_
  · show Steps p.tables e below (T12.setTop (mkF m 63 #[.val (.int p0), .val (.int p1), .val (.long q2), .second, .val (.int p3), .val (.int p4), .val (.ref b1), .unset, .unset, .unset, .unset] [])) _
    refine XS.aload X12.here hx rfl (hb hby at_63) rfl rfl ?_
    show Steps p.tables e below (T12.setTop (mkF m 65 #[.val (.int p0), .val (.int p1), .val (.long q2), .second, .val (.int p3), .val (.int p4), .val (.ref b1), .unset, .unset, .unset, .unset] [(.ref b1)])) _
    refine XS.bipush X12.here hx rfl (hb hby at_65) ?_
    show Steps p.tables e below (T12.setTop (mkF m 67 #[.val (.int p0), .val (.int p1), .val (.long q2), .second, .val (.int p3), .val (.int p4), .val (.ref b1), .unset, .unset, .unset, .unset] [(.int (6 : Int32)), (.ref b1)])) _
    refine XS.lloadN X12.here hx rfl (hb hby at_67) rfl ?_
    show Steps p.tables e below (T12.setTop (mkF m 68 #[.val (.int p0), .val (.int p1), .val (.long q2), .second, .val (.int p3), .val (.int p4), .val (.ref b1), .unset, .unset, .unset, .unset] [(.long q2), (.int (6 : Int32)), (.ref b1)])) _
    refine XS.bipush X12.here hx rfl (hb hby at_68) ?_
    show Steps p.tables e below (T12.setTop (mkF m 70 #[.val (.int p0), .val (.int p1), .val (.long q2), .second, .val (.int p3), .val (.int p4), .val (.ref b1), .unset, .unset, .unset, .unset] [(.int (48 : Int32)), (.long q2), (.int (6 : Int32)), (.ref b1)])) _
    refine XS.lushr X12.here hx rfl (hb hby at_70) rfl ?_
    show Steps p.tables e below (T12.setTop (mkF m 71 #[.val (.int p0), .val (.int p1), .val (.long q2), .second, .val (.int p3), .val (.int p4), .val (.ref b1), .unset, .unset, .unset, .unset] [(.long (own_shrL q2 (48 : Int32))), (.int (6 : Int32)), (.ref b1)])) _
    refine XS.l2i X12.here hx rfl (hb hby at_71) rfl ?_
    show Steps p.tables e below (T12.setTop (mkF m 72 #[.val (.int p0), .val (.int p1), .val (.long q2), .second, .val (.int p3), .val (.int p4), .val (.ref b1), .unset, .unset, .unset, .unset] [(.int ((own_shrL q2 (48 : Int32)).toInt32)), (.int (6 : Int32)), (.ref b1)])) _
    refine XS.i2b X12.here hx rfl (hb hby at_72) rfl ?_
    show Steps p.tables e below (T12.setTop (mkF m 73 #[.val (.int p0), .val (.int p1), .val (.long q2), .second, .val (.int p3), .val (.int p4), .val (.ref b1), .unset, .unset, .unset, .unset] [(.int (((own_shrL q2 (48 : Int32)).toInt32).toInt8.toInt32)), (.int (6 : Int32)), (.ref b1)])) _
    exact k
  obtain ⟨T14, h14, y14, X14, e14, W14, V14, ya14, yb14, st14⟩ := own_stB X12 hx hZ e12 fc13 (j := (6 : Int32)) (x := (((own_shrL q2 (48 : Int32)).toInt32).toInt8.toInt32)) (by decide) (by decide) (g := (mkF m 73 #[.val (.int p0), .val (.int p1), .val (.long q2), .second, .val (.int p3), .val (.int p4), .val (.ref b1), .unset, .unset, .unset, .unset] [(.int (((own_shrL q2 (48 : Int32)).toInt32).toInt8.toInt32)), (.int (6 : Int32)), (.ref b1)])) rfl rfl (hb hby at_73)
  refine own_go (T' := T14) (f' := (mkF m 74 #[.val (.int p0), .val (.int p1), .val (.long q2), .second, .val (.int p3), .val (.int p4), .val (.ref b1), .unset, .unset, .unset, .unset] [])) st14 ?_
  have fc15 : own_ArI Z h14 b1 .byte (12 : Int32) y14 := V14
  have Zs14 : n0 ≤ h14.size := Nat.le_trans Zs12 (Keep.of_wr W14).1
  have N14 := Fr.snoc X14 N12 g_b1
  have ya14' : y14 6 = (nar .byte (((own_shrL q2 (48 : Int32)).toInt32).toInt8.toInt32)) := ya14
  have yb14' : ∀ i, i ≠ 6 → y14 i = y12 i := yb14
  refine own_go (T' := T14) (f' := (mkF m 84 #[.val (.int p0), .val (.int p1), .val (.long q2), .second, .val (.int p3), .val (.int p4), .val (.ref b1), .unset, .unset, .unset, .unset] [(.int (((own_shrL q2 (56 : Int32)).toInt32).toInt8.toInt32)), (.int (7 : Int32)), (.ref b1)])) (fun t k => ?_) ?_
  · show Steps p.tables e below (T14.setTop (mkF m 74 #[.val (.int p0), .val (.int p1), .val (.long q2), .second, .val (.int p3), .val (.int p4), .val (.ref b1), .unset, .unset, .unset, .unset] [])) _
    refine XS.aload X14.here hx rfl (hb hby at_74) rfl rfl ?_
    show Steps p.tables e below (T14.setTop (mkF m 76 #[.val (.int p0), .val (.int p1), .val (.long q2), .second, .val (.int p3), .val (.int p4), .val (.ref b1), .unset, .unset, .unset, .unset] [(.ref b1)])) _
    refine XS.bipush X14.here hx rfl (hb hby at_76) ?_
    show Steps p.tables e below (T14.setTop (mkF m 78 #[.val (.int p0), .val (.int p1), .val (.long q2), .second, .val (.int p3), .val (.int p4), .val (.ref b1), .unset, .unset, .unset, .unset] [(.int (7 : Int32)), (.ref b1)])) _
    refine XS.lloadN X14.here hx rfl (hb hby at_78) rfl ?_
    show Steps p.tables e below (T14.setTop (mkF m 79 #[.val (.int p0), .val (.int p1), .val (.long q2), .second, .val (.int p3), .val (.int p4), .val (.ref b1), .unset, .unset, .unset, .unset] [(.long q2), (.int (7 : Int32)), (.ref b1)])) _
    refine XS.bipush X14.here hx rfl (hb hby at_79) ?_
    show Steps p.tables e below (T14.setTop (mkF m 81 #[.val (.int p0), .val (.int p1), .val (.long q2), .second, .val (.int p3), .val (.int p4), .val (.ref b1), .unset, .unset, .unset, .unset] [(.int (56 : Int32)), (.long q2), (.int (7 : Int32)), (.ref b1)])) _
    refine XS.lushr X14.here hx rfl (hb hby at_81) rfl ?_
    show Steps p.tables e below (T14.setTop (mkF m 82 #[.val (.int p0), .val (.int p1), .val (.long q2), .second, .val (.int p3), .val (.int p4), .val (.ref b1), .unset, .unset, .unset, .unset] [(.long (own_shrL q2 (56 : Int32))), (.int (7 : Int32)), (.ref b1)])) _
    refine XS.l2i X14.here hx rfl (hb hby at_82) rfl ?_
    show Steps p.tables e below (T14.setTop (mkF m 83 #[.val (.int p0), .val (.int p1), .val (.long q2), .second, .val (.int p3), .val (.int p4), .val (.ref b1), .unset, .unset, .unset, .unset] [(.int ((own_shrL q2 (56 : Int32)).toInt32)), (.int (7 : Int32)), (.ref b1)])) _
    refine XS.i2b X14.here hx rfl (hb hby at_83) rfl ?_
    show Steps p.tables e below (T14.setTop (mkF m 84 #[.val (.int p0), .val (.int p1), .val (.long q2), .second, .val (.int p3), .val (.int p4), .val (.ref b1), .unset, .unset, .unset, .unset] [(.int (((own_shrL q2 (56 : Int32)).toInt32).toInt8.toInt32)), (.int (7 : Int32)), (.ref b1)])) _
    exact k
  obtain ⟨T16, h16, y16, X16, e16, W16, V16, ya16, yb16, st16⟩ := own_stB X14 hx hZ e14 fc15 (j := (7 : Int32)) (x := (((own_shrL q2 (56 : Int32)).toInt32).toInt8.toInt32)) (by decide) (by decide) (g := (mkF m 84 #[.val (.int p0), .val (.int p1), .val (.long q2), .second, .val (.int p3), .val (.int p4), .val (.ref b1), .unset, .unset, .unset, .unset] [(.int (((own_shrL q2 (56 : Int32)).toInt32).toInt8.toInt32)), (.int (7 : Int32)), (.ref b1)])) rfl rfl (hb hby at_84)
  refine own_go (T' := T16) (f' := (mkF m 85 #[.val (.int p0), .val (.int p1), .val (.long q2), .second, .val (.int p3), .val (.int p4), .val (.ref b1), .unset, .unset, .unset, .unset] [])) st16 ?_
  have fc17 : own_ArI Z h16 b1 .byte (12 : Int32) y16 := V16
  have Zs16 : n0 ≤ h16.size := Nat.le_trans Zs14 (Keep.of_wr W16).1
  have N16 := Fr.snoc X16 N14 g_b1
  have ya16' : y16 7 = (nar .byte (((own_shrL q2 (56 : Int32)).toInt32).toInt8.toInt32)) := ya16
  have yb16' : ∀ i, i ≠ 7 → y16 i = y14 i := yb16
  refine own_go (T' := T16) (f' := (mkF m 92 #[.val (.int p0), .val (.int p1), .val (.long q2), .second, .val (.int p3), .val (.int p4), .val (.ref b1), .unset, .unset, .unset, .unset] [(.int (p3.toInt8.toInt32)), (.int (8 : Int32)), (.ref b1)])) (fun t k => ?_) ?_
  · show Steps p.tables e below (T16.setTop (mkF m 85 #[.val (.int p0), .val (.int p1), .val (.long q2), .second, .val (.int p3), .val (.int p4), .val (.ref b1), .unset, .unset, .unset, .unset] [])) _
    refine XS.aload X16.here hx rfl (hb hby at_85) rfl rfl ?_
    show Steps p.tables e below (T16.setTop (mkF m 87 #[.val (.int p0), .val (.int p1), .val (.long q2), .second, .val (.int p3), .val (.int p4), .val (.ref b1), .unset, .unset, .unset, .unset] [(.ref b1)])) _
    refine XS.bipush X16.here hx rfl (hb hby at_87) ?_
    show Steps p.tables e below (T16.setTop (mkF m 89 #[.val (.int p0), .val (.int p1), .val (.long q2), .second, .val (.int p3), .val (.int p4), .val (.ref b1), .unset, .unset, .unset, .unset] [(.int (8 : Int32)), (.ref b1)])) _
    refine XS.iload X16.here hx rfl (hb hby at_89) rfl ?_
    show Steps p.tables e below (T16.setTop (mkF m 91 #[.val (.int p0), .val (.int p1), .val (.long q2), .second, .val (.int p3), .val (.int p4), .val (.ref b1), .unset, .unset, .unset, .unset] [(.int p3), (.int (8 : Int32)), (.ref b1)])) _
    refine XS.i2b X16.here hx rfl (hb hby at_91) rfl ?_
    show Steps p.tables e below (T16.setTop (mkF m 92 #[.val (.int p0), .val (.int p1), .val (.long q2), .second, .val (.int p3), .val (.int p4), .val (.ref b1), .unset, .unset, .unset, .unset] [(.int (p3.toInt8.toInt32)), (.int (8 : Int32)), (.ref b1)])) _
    exact k
  obtain ⟨T18, h18, y18, X18, e18, W18, V18, ya18, yb18, st18⟩ := own_stB X16 hx hZ e16 fc17 (j := (8 : Int32)) (x := (p3.toInt8.toInt32)) (by decide) (by decide) (g := (mkF m 92 #[.val (.int p0), .val (.int p1), .val (.long q2), .second, .val (.int p3), .val (.int p4), .val (.ref b1), .unset, .unset, .unset, .unset] [(.int (p3.toInt8.toInt32)), (.int (8 : Int32)), (.ref b1)])) rfl rfl (hb hby at_92)
  refine own_go (T' := T18) (f' := (mkF m 93 #[.val (.int p0), .val (.int p1), .val (.long q2), .second, .val (.int p3), .val (.int p4), .val (.ref b1), .unset, .unset, .unset, .unset] [])) st18 ?_
  have fc19 : own_ArI Z h18 b1 .byte (12 : Int32) y18 := V18
  have Zs18 : n0 ≤ h18.size := Nat.le_trans Zs16 (Keep.of_wr W18).1
  have N18 := Fr.snoc X18 N16 g_b1
  have ya18' : y18 8 = (nar .byte (p3.toInt8.toInt32)) := ya18
  have yb18' : ∀ i, i ≠ 8 → y18 i = y16 i := yb18
  refine own_go (T' := T18) (f' := (mkF m 103 #[.val (.int p0), .val (.int p1), .val (.long q2), .second, .val (.int p3), .val (.int p4), .val (.ref b1), .unset, .unset, .unset, .unset] [(.int ((own_shrI p3 (8 : Int32)).toInt8.toInt32)), (.int (9 : Int32)), (.ref b1)])) (fun t k => ?_) ?_
  · show Steps p.tables e below (T18.setTop (mkF m 93 #[.val (.int p0), .val (.int p1), .val (.long q2), .second, .val (.int p3), .val (.int p4), .val (.ref b1), .unset, .unset, .unset, .unset] [])) _
    refine XS.aload X18.here hx rfl (hb hby at_93) rfl rfl ?_
    show Steps p.tables e below (T18.setTop (mkF m 95 #[.val (.int p0), .val (.int p1), .val (.long q2), .second, .val (.int p3), .val (.int p4), .val (.ref b1), .unset, .unset, .unset, .unset] [(.ref b1)])) _
    refine XS.bipush X18.here hx rfl (hb hby at_95) ?_
    show Steps p.tables e below (T18.setTop (mkF m 97 #[.val (.int p0), .val (.int p1), .val (.long q2), .second, .val (.int p3), .val (.int p4), .val (.ref b1), .unset, .unset, .unset, .unset] [(.int (9 : Int32)), (.ref b1)])) _
    refine XS.iload X18.here hx rfl (hb hby at_97) rfl ?_
    show Steps p.tables e below (T18.setTop (mkF m 99 #[.val (.int p0), .val (.int p1), .val (.long q2), .second, .val (.int p3), .val (.int p4), .val (.ref b1), .unset, .unset, .unset, .unset] [(.int p3), (.int (9 : Int32)), (.ref b1)])) _
    refine XS.bipush X18.here hx rfl (hb hby at_99) ?_
    show Steps p.tables e below (T18.setTop (mkF m 101 #[.val (.int p0), .val (.int p1), .val (.long q2), .second, .val (.int p3), .val (.int p4), .val (.ref b1), .unset, .unset, .unset, .unset] [(.int (8 : Int32)), (.int p3), (.int (9 : Int32)), (.ref b1)])) _
    refine XS.iushr X18.here hx rfl (hb hby at_101) rfl ?_
    show Steps p.tables e below (T18.setTop (mkF m 102 #[.val (.int p0), .val (.int p1), .val (.long q2), .second, .val (.int p3), .val (.int p4), .val (.ref b1), .unset, .unset, .unset, .unset] [(.int (own_shrI p3 (8 : Int32))), (.int (9 : Int32)), (.ref b1)])) _
    refine XS.i2b X18.here hx rfl (hb hby at_102) rfl ?_
    show Steps p.tables e below (T18.setTop (mkF m 103 #[.val (.int p0), .val (.int p1), .val (.long q2), .second, .val (.int p3), .val (.int p4), .val (.ref b1), .unset, .unset, .unset, .unset] [(.int ((own_shrI p3 (8 : Int32)).toInt8.toInt32)), (.int (9 : Int32)), (.ref b1)])) _
    exact k
  obtain ⟨T20, h20, y20, X20, e20, W20, V20, ya20, yb20, st20⟩ := own_stB X18 hx hZ e18 fc19 (j := (9 : Int32)) (x := ((own_shrI p3 (8 : Int32)).toInt8.toInt32)) (by decide) (by decide) (g := (mkF m 103 #[.val (.int p0), .val (.int p1), .val (.long q2), .second, .val (.int p3), .val (.int p4), .val (.ref b1), .unset, .unset, .unset, .unset] [(.int ((own_shrI p3 (8 : Int32)).toInt8.toInt32)), (.int (9 : Int32)), (.ref b1)])) rfl rfl (hb hby at_103)
  refine own_go (T' := T20) (f' := (mkF m 104 #[.val (.int p0), .val (.int p1), .val (.long q2), .second, .val (.int p3), .val (.int p4), .val (.ref b1), .unset, .unset, .unset, .unset] [])) st20 ?_
  have fc21 : own_ArI Z h20 b1 .byte (12 : Int32) y20 := V20
  have Zs20 : n0 ≤ h20.size := Nat.le_trans Zs18 (Keep.of_wr W20).1
  have N20 := Fr.snoc X20 N18 g_b1
  have ya20' : y20 9 = (nar .byte ((own_shrI p3 (8 : Int32)).toInt8.toInt32)) := ya20
  have yb20' : ∀ i, i ≠ 9 → y20 i = y18 i := yb20
  refine own_go (T' := T20) (f' := (mkF m 114 #[.val (.int p0), .val (.int p1), .val (.long q2), .second, .val (.int p3), .val (.int p4), .val (.ref b1), .unset, .unset, .unset, .unset] [(.int ((own_shrI p3 (16 : Int32)).toInt8.toInt32)), (.int (10 : Int32)), (.ref b1)])) (fun t k => ?_) ?_
  · show Steps p.tables e below (T20.setTop (mkF m 104 #[.val (.int p0), .val (.int p1), .val (.long q2), .second, .val (.int p3), .val (.int p4), .val (.ref b1), .unset, .unset, .unset, .unset] [])) _
    refine XS.aload X20.here hx rfl (hb hby at_104) rfl rfl ?_
    show Steps p.tables e below (T20.setTop (mkF m 106 #[.val (.int p0), .val (.int p1), .val (.long q2), .second, .val (.int p3), .val (.int p4), .val (.ref b1), .unset, .unset, .unset, .unset] [(.ref b1)])) _
    refine XS.bipush X20.here hx rfl (hb hby at_106) ?_
    show Steps p.tables e below (T20.setTop (mkF m 108 #[.val (.int p0), .val (.int p1), .val (.long q2), .second, .val (.int p3), .val (.int p4), .val (.ref b1), .unset, .unset, .unset, .unset] [(.int (10 : Int32)), (.ref b1)])) _
    refine XS.iload X20.here hx rfl (hb hby at_108) rfl ?_
    show Steps p.tables e below (T20.setTop (mkF m 110 #[.val (.int p0), .val (.int p1), .val (.long q2), .second, .val (.int p3), .val (.int p4), .val (.ref b1), .unset, .unset, .unset, .unset] [(.int p3), (.int (10 : Int32)), (.ref b1)])) _
    refine XS.bipush X20.here hx rfl (hb hby at_110) ?_
    show Steps p.tables e below (T20.setTop (mkF m 112 #[.val (.int p0), .val (.int p1), .val (.long q2), .second, .val (.int p3), .val (.int p4), .val (.ref b1), .unset, .unset, .unset, .unset] [(.int (16 : Int32)), (.int p3), (.int (10 : Int32)), (.ref b1)])) _
    refine XS.iushr X20.here hx rfl (hb hby at_112) rfl ?_
    show Steps p.tables e below (T20.setTop (mkF m 113 #[.val (.int p0), .val (.int p1), .val (.long q2), .second, .val (.int p3), .val (.int p4), .val (.ref b1), .unset, .unset, .unset, .unset] [(.int (own_shrI p3 (16 : Int32))), (.int (10 : Int32)), (.ref b1)])) _
    refine XS.i2b X20.here hx rfl (hb hby at_113) rfl ?_
    show Steps p.tables e below (T20.setTop (mkF m 114 #[.val (.int p0), .val (.int p1), .val (.long q2), .second, .val (.int p3), .val (.int p4), .val (.ref b1), .unset, .unset, .unset, .unset] [(.int ((own_shrI p3 (16 : Int32)).toInt8.toInt32)), (.int (10 : Int32)), (.ref b1)])) _
    exact k
  obtain ⟨T22, h22, y22, X22, e22, W22, V22, ya22, yb22, st22⟩ := own_stB X20 hx hZ e20 fc21 (j := (10 : Int32)) (x := ((own_shrI p3 (16 : Int32)).toInt8.toInt32)) (by decide) (by decide) (g := (mkF m 114 #[.val (.int p0), .val (.int p1), .val (.long q2), .second, .val (.int p3), .val (.int p4), .val (.ref b1), .unset, .unset, .unset, .unset] [(.int ((own_shrI p3 (16 : Int32)).toInt8.toInt32)), (.int (10 : Int32)), (.ref b1)])) rfl rfl (hb hby at_114)
  refine own_go (T' := T22) (f' := (mkF m 115 #[.val (.int p0), .val (.int p1), .val (.long q2), .second, .val (.int p3), .val (.int p4), .val (.ref b1), .unset, .unset, .unset, .unset] [])) st22 ?_
  have fc23 : own_ArI Z h22 b1 .byte (12 : Int32) y22 := V22
  have Zs22 : n0 ≤ h22.size := Nat.le_trans Zs20 (Keep.of_wr W22).1
  have N22 := Fr.snoc X22 N20 g_b1
  have ya22' : y22 10 = (nar .byte ((own_shrI p3 (16 : Int32)).toInt8.toInt32)) := ya22
  have yb22' : ∀ i, i ≠ 10 → y22 i = y20 i := yb22
  refine own_go (T' := T22) (f' := (mkF m 125 #[.val (.int p0), .val (.int p1), .val (.long q2), .second, .val (.int p3), .val (.int p4), .val (.ref b1), .unset, .unset, .unset, .unset] [(.int ((own_shrI p3 (24 : Int32)).toInt8.toInt32)), (.int (11 : Int32)), (.ref b1)])) (fun t k => ?_) ?_
  · show Steps p.tables e below (T22.setTop (mkF m 115 #[.val (.int p0), .val (.int p1), .val (.long q2), .second, .val (.int p3), .val (.int p4), .val (.ref b1), .unset, .unset, .unset, .unset] [])) _
    refine XS.aload X22.here hx rfl (hb hby at_115) rfl rfl ?_
    show Steps p.tables e below (T22.setTop (mkF m 117 #[.val (.int p0), .val (.int p1), .val (.long q2), .second, .val (.int p3), .val (.int p4), .val (.ref b1), .unset, .unset, .unset, .unset] [(.ref b1)])) _
    refine XS.bipush X22.here hx rfl (hb hby at_117) ?_
    show Steps p.tables e below (T22.setTop (mkF m 119 #[.val (.int p0), .val (.int p1), .val (.long q2), .second, .val (.int p3), .val (.int p4), .val (.ref b1), .unset, .unset, .unset, .unset] [(.int (11 : Int32)), (.ref b1)])) _
    refine XS.iload X22.here hx rfl (hb hby at_119) rfl ?_
    show Steps p.tables e below (T22.setTop (mkF m 121 #[.val (.int p0), .val (.int p1), .val (.long q2), .second, .val (.int p3), .val (.int p4), .val (.ref b1), .unset, .unset, .unset, .unset] [(.int p3), (.int (11 : Int32)), (.ref b1)])) _
    refine XS.bipush X22.here hx rfl (hb hby at_121) ?_
    show Steps p.tables e below (T22.setTop (mkF m 123 #[.val (.int p0), .val (.int p1), .val (.long q2), .second, .val (.int p3), .val (.int p4), .val (.ref b1), .unset, .unset, .unset, .unset] [(.int (24 : Int32)), (.int p3), (.int (11 : Int32)), (.ref b1)])) _
    refine XS.iushr X22.here hx rfl (hb hby at_123) rfl ?_
    show Steps p.tables e below (T22.setTop (mkF m 124 #[.val (.int p0), .val (.int p1), .val (.long q2), .second, .val (.int p3), .val (.int p4), .val (.ref b1), .unset, .unset, .unset, .unset] [(.int (own_shrI p3 (24 : Int32))), (.int (11 : Int32)), (.ref b1)])) _
    refine XS.i2b X22.here hx rfl (hb hby at_124) rfl ?_
    show Steps p.tables e below (T22.setTop (mkF m 125 #[.val (.int p0), .val (.int p1), .val (.long q2), .second, .val (.int p3), .val (.int p4), .val (.ref b1), .unset, .unset, .unset, .unset] [(.int ((own_shrI p3 (24 : Int32)).toInt8.toInt32)), (.int (11 : Int32)), (.ref b1)])) _
    exact k
  obtain ⟨T24, h24, y24, X24, e24, W24, V24, ya24, yb24, st24⟩ := own_stB X22 hx hZ e22 fc23 (j := (11 : Int32)) (x := ((own_shrI p3 (24 : Int32)).toInt8.toInt32)) (by decide) (by decide) (g := (mkF m 125 #[.val (.int p0), .val (.int p1), .val (.long q2), .second, .val (.int p3), .val (.int p4), .val (.ref b1), .unset, .unset, .unset, .unset] [(.int ((own_shrI p3 (24 : Int32)).toInt8.toInt32)), (.int (11 : Int32)), (.ref b1)])) rfl rfl (hb hby at_125)
  refine own_go (T' := T24) (f' := (mkF m 126 #[.val (.int p0), .val (.int p1), .val (.long q2), .second, .val (.int p3), .val (.int p4), .val (.ref b1), .unset, .unset, .unset, .unset] [])) st24 ?_
  have fc25 : own_ArI Z h24 b1 .byte (12 : Int32) y24 := V24
  have Zs24 : n0 ≤ h24.size := Nat.le_trans Zs22 (Keep.of_wr W24).1
  have N24 := Fr.snoc X24 N22 g_b1
  have ya24' : y24 11 = (nar .byte ((own_shrI p3 (24 : Int32)).toInt8.toInt32)) := ya24
  have yb24' : ∀ i, i ≠ 11 → y24 i = y22 i := yb24
  refine own_go (T' := T24) (f' := (mkF m 133 #[.val (.int p0), .val (.int p1), .val (.long q2), .second, .val (.int p3), .val (.int p4), .val (.ref b1), .unset, .unset, .unset, .unset] [(.int ((p0 &&& (2147483647 : Int32)) - ((p0 &&& (2147483647 : Int32)) / (9 : Int32)) * (9 : Int32)))])) (fun t k => ?_) ?_
  · show Steps p.tables e below (T24.setTop (mkF m 126 #[.val (.int p0), .val (.int p1), .val (.long q2), .second, .val (.int p3), .val (.int p4), .val (.ref b1), .unset, .unset, .unset, .unset] [])) _
    refine XS.iloadN X24.here hx rfl (hb hby at_126) rfl ?_
    show Steps p.tables e below (T24.setTop (mkF m 127 #[.val (.int p0), .val (.int p1), .val (.long q2), .second, .val (.int p3), .val (.int p4), .val (.ref b1), .unset, .unset, .unset, .unset] [(.int p0)])) _
    refine X24.ldcInt hx hown (mvT hZ (hw _ (List.mem_of_getElem? (i := 1) rfl))) (g := (mkF m 127 #[.val (.int p0), .val (.int p1), .val (.long q2), .second, .val (.int p3), .val (.int p4), .val (.ref b1), .unset, .unset, .unset, .unset] [(.int p0)])) rfl (hb hby at_127) _ ?_
    show Steps p.tables e below (T24.setTop (mkF m 129 #[.val (.int p0), .val (.int p1), .val (.long q2), .second, .val (.int p3), .val (.int p4), .val (.ref b1), .unset, .unset, .unset, .unset] [(.int (2147483647 : Int32)), (.int p0)])) _
    refine XS.iand X24.here hx rfl (hb hby at_129) rfl ?_
    show Steps p.tables e below (T24.setTop (mkF m 130 #[.val (.int p0), .val (.int p1), .val (.long q2), .second, .val (.int p3), .val (.int p4), .val (.ref b1), .unset, .unset, .unset, .unset] [(.int (p0 &&& (2147483647 : Int32)))])) _
    refine XS.bipush X24.here hx rfl (hb hby at_130) ?_
    show Steps p.tables e below (T24.setTop (mkF m 132 #[.val (.int p0), .val (.int p1), .val (.long q2), .second, .val (.int p3), .val (.int p4), .val (.ref b1), .unset, .unset, .unset, .unset] [(.int (9 : Int32)), (.int (p0 &&& (2147483647 : Int32)))])) _
    refine XS.irem X24.here hx rfl (hb hby at_132) rfl (by decide) ?_
    show Steps p.tables e below (T24.setTop (mkF m 133 #[.val (.int p0), .val (.int p1), .val (.long q2), .second, .val (.int p3), .val (.int p4), .val (.ref b1), .unset, .unset, .unset, .unset] [(.int ((p0 &&& (2147483647 : Int32)) - ((p0 &&& (2147483647 : Int32)) / (9 : Int32)) * (9 : Int32)))])) _
    exact k
  refine own_go (T' := T24) (f' := (mkF m 133 #[.val (.int p0), .val (.int p1), .val (.long q2), .second, .val (.int p3), .val (.int p4), .val (.ref b1), .unset, .unset, .unset, .unset] [(.int (own_P p0 p1 q2 p3 p4))])) (fun t k => k) ?_
  refine own_go (T' := T24) (f' := (mkF m 135 #[.val (.int p0), .val (.int p1), .val (.long q2), .second, .val (.int p3), .val (.int p4), .val (.ref b1), .val (.int (own_P p0 p1 q2 p3 p4)), .unset, .unset, .unset] [])) (fun t k => ?_) ?_
  · show Steps p.tables e below (T24.setTop (mkF m 133 #[.val (.int p0), .val (.int p1), .val (.long q2), .second, .val (.int p3), .val (.int p4), .val (.ref b1), .unset, .unset, .unset, .unset] [(.int (own_P p0 p1 q2 p3 p4))])) _
    refine XS.istore X24.here hx rfl (hb hby at_133) rfl (l' := #[.val (.int p0), .val (.int p1), .val (.long q2), .second, .val (.int p3), .val (.int p4), .val (.ref b1), .val (.int (own_P p0 p1 q2 p3 p4)), .unset, .unset, .unset]) rfl ?_
    show Steps p.tables e below (T24.setTop (mkF m 135 #[.val (.int p0), .val (.int p1), .val (.long q2), .second, .val (.int p3), .val (.int p4), .val (.ref b1), .val (.int (own_P p0 p1 q2 p3 p4)), .unset, .unset, .unset] [])) _
    exact k
  obtain ⟨T26, h26, X26, e26, E26, A26, D26, -, st26⟩ := newO X24 hx hZ hown (hw _ (List.mem_of_getElem? (i := 2) rfl)) (hw _ (List.mem_of_getElem? (i := 3) rfl)) (hw _ (List.mem_of_getElem? (i := 4) rfl)) e24 (g := (mkF m 135 #[.val (.int p0), .val (.int p1), .val (.long q2), .second, .val (.int p3), .val (.int p4), .val (.ref b1), .val (.int (own_P p0 p1 q2 p3 p4)), .unset, .unset, .unset] [])) rfl (hb hby at_135) (by decide) (by decide)
  obtain ⟨b26, g26⟩ : ∃ z, z = h24.size := ⟨_, rfl⟩
  rw [← g26] at A26 D26 st26
  have ne_b1_b26 : b1 ≠ b26 := Nat.ne_of_lt (Nat.lt_of_lt_of_le fc25.lt (Nat.le_of_eq g26.symm))
  have g_b26 : n0 ≤ b26 := Nat.le_trans Zs24 (Nat.le_of_eq g26.symm)
  refine own_go (T' := T26) (f' := (mkF m 138 #[.val (.int p0), .val (.int p1), .val (.long q2), .second, .val (.int p3), .val (.int p4), .val (.ref b1), .val (.int (own_P p0 p1 q2 p3 p4)), .unset, .unset, .unset] [(.ref b26)])) st26 ?_
  have fc27 : own_ArI Z h26 b1 .byte (12 : Int32) y24 := fc25.ext E26
  have Zs26 : n0 ≤ h26.size := Nat.le_trans Zs24 E26.1
  have fc28 : Fld Z h26 b26 "com/example/tracecourt/tracecourt/trace/Bytes$Out" "bytes" "[B" .null := D26 (Or.inl (hw _ (List.mem_of_getElem? (i := 16) rfl))) (ty := (.array .byte)) (by decide)
  have fc29 : Fld Z h26 b26 "com/example/tracecourt/tracecourt/trace/Bytes$Out" "size" "I" (.int (0 : Int32)) := D26 (Or.inl (hw _ (List.mem_of_getElem? (i := 32) rfl))) (ty := .int) (by decide)
  refine own_go (T' := T26) (f' := (mkF m 144 #[.val (.int p0), .val (.int p1), .val (.long q2), .second, .val (.int p3), .val (.int p4), .val (.ref b1), .val (.int (own_P p0 p1 q2 p3 p4)), .unset, .unset, .unset] [(.int (p4 &&& (63 : Int32))), (.ref b26), (.ref b26)])) (fun t k => ?_) ?_
  · show Steps p.tables e below (T26.setTop (mkF m 138 #[.val (.int p0), .val (.int p1), .val (.long q2), .second, .val (.int p3), .val (.int p4), .val (.ref b1), .val (.int (own_P p0 p1 q2 p3 p4)), .unset, .unset, .unset] [(.ref b26)])) _
    refine XS.dup X26.here hx rfl (hb hby at_138) rfl rfl ?_
    show Steps p.tables e below (T26.setTop (mkF m 139 #[.val (.int p0), .val (.int p1), .val (.long q2), .second, .val (.int p3), .val (.int p4), .val (.ref b1), .val (.int (own_P p0 p1 q2 p3 p4)), .unset, .unset, .unset] [(.ref b26), (.ref b26)])) _
    refine XS.iload X26.here hx rfl (hb hby at_139) rfl ?_
    show Steps p.tables e below (T26.setTop (mkF m 141 #[.val (.int p0), .val (.int p1), .val (.long q2), .second, .val (.int p3), .val (.int p4), .val (.ref b1), .val (.int (own_P p0 p1 q2 p3 p4)), .unset, .unset, .unset] [(.int p4), (.ref b26), (.ref b26)])) _
    refine XS.bipush X26.here hx rfl (hb hby at_141) ?_
    show Steps p.tables e below (T26.setTop (mkF m 143 #[.val (.int p0), .val (.int p1), .val (.long q2), .second, .val (.int p3), .val (.int p4), .val (.ref b1), .val (.int (own_P p0 p1 q2 p3 p4)), .unset, .unset, .unset] [(.int (63 : Int32)), (.int p4), (.ref b26), (.ref b26)])) _
    refine XS.iand X26.here hx rfl (hb hby at_143) rfl ?_
    show Steps p.tables e below (T26.setTop (mkF m 144 #[.val (.int p0), .val (.int p1), .val (.long q2), .second, .val (.int p3), .val (.int p4), .val (.ref b1), .val (.int (own_P p0 p1 q2 p3 p4)), .unset, .unset, .unset] [(.int (p4 &&& (63 : Int32))), (.ref b26), (.ref b26)])) _
    exact k
  obtain ⟨T30, Lq30, br_30, X30, N30, hQ30, st30⟩ := own_pf1 (vv := fun (br_30 : Addr) => none) N24 (own_vs (X26.specialBack hx (y := (⟨"com/example/tracecourt/tracecourt/trace/Bytes$Out", "<init>", "(I)V"⟩ : MethodName)) rfl hown (mvT hZ (hw _ (List.mem_of_getElem? (i := 5) rfl))) (mvT hZ (hw _ (List.mem_of_getElem? (i := 6) rfl))) (mvT hZ (hw _ (List.mem_of_getElem? (i := 7) rfl))) (by decide) (backOf (W := 1) (own_rm3 l Z a0 hw [] b26 ((p4 &&& (63 : Int32)))  h26 n0 Zs26 A26 fc28 fc29 g_b26 (own_cap63 _)) hZ (hw _ (List.mem_of_getElem? (i := 7) rfl)) (hw _ (List.mem_of_getElem? (i := 4) rfl)) (by decide) (by decide)) (g := (mkF m 144 #[.val (.int p0), .val (.int p1), .val (.long q2), .second, .val (.int p3), .val (.int p4), .val (.ref b1), .val (.int (own_P p0 p1 q2 p3 p4)), .unset, .unset, .unset] [(.int (p4 &&& (63 : Int32))), (.ref b26), (.ref b26)])) rfl (by rw [hml]; rfl) (Steps.refl _) (a := b26) (argsL := [(.int (p4 &&& (63 : Int32)))]) (rest := [(.ref b26)]) (lenOf own_pd4 rfl) rfl (by show 2 * 0 + _ ≤ _; exact Nat.le_of_eq rfl) (hb hby at_144) (fun _ _ => ⟨rfl, e26, (by decide : 2 + 1 ≤ _), (by decide : 14 + 63 ≤ _)⟩))) (fun _ _ _ q => q) (k1 := 3) (k2 := 77) rfl rfl
  obtain ⟨h30q, szr_br_30, p30_0, p30_1, p30_2⟩ := hQ30
  have ne_b1_br_30 : b1 ≠ br_30 := Nat.ne_of_lt (Nat.lt_of_lt_of_le fc27.lt szr_br_30)
  have ne_b26_br_30 : b26 ≠ br_30 := Nat.ne_of_lt (Nat.lt_of_lt_of_le A26.lt szr_br_30)
  have g_br_30 : n0 ≤ br_30 := Nat.le_trans Zs26 szr_br_30
  have fc31 : own_ArI Z T30.heap b1 .byte (12 : Int32) y24 := fc27.keep h30q (ninS ne_b1_b26 nin0)
  have fc32 : Exa Z T30.heap b26 "com/example/tracecourt/tracecourt/trace/Bytes$Out" := A26.keep h30q
  have Zs30 : n0 ≤ T30.heap.size := Nat.le_trans Zs26 h30q.1
  refine own_go (T' := T30) (f' := (mkF m 147 #[.val (.int p0), .val (.int p1), .val (.long q2), .second, .val (.int p3), .val (.int p4), .val (.ref b1), .val (.int (own_P p0 p1 q2 p3 p4)), .unset, .unset, .unset] [(.ref b26)])) (fun t k => st30 _ k) ?_
  refine own_go (T' := T30) (f' := (mkF m 153 #[.val (.int p0), .val (.int p1), .val (.long q2), .second, .val (.int p3), .val (.int p4), .val (.ref b1), .val (.int (own_P p0 p1 q2 p3 p4)), .val (.ref b26), .unset, .unset] [(.ref b1), (.ref b26)])) (fun t k => ?_) ?_
  · show Steps p.tables e below (T30.setTop (mkF m 147 #[.val (.int p0), .val (.int p1), .val (.long q2), .second, .val (.int p3), .val (.int p4), .val (.ref b1), .val (.int (own_P p0 p1 q2 p3 p4)), .unset, .unset, .unset] [(.ref b26)])) _
    refine XS.astore X30.here hx rfl (hb hby at_147) rfl rfl (l' := #[.val (.int p0), .val (.int p1), .val (.long q2), .second, .val (.int p3), .val (.int p4), .val (.ref b1), .val (.int (own_P p0 p1 q2 p3 p4)), .val (.ref b26), .unset, .unset]) rfl ?_
    show Steps p.tables e below (T30.setTop (mkF m 149 #[.val (.int p0), .val (.int p1), .val (.long q2), .second, .val (.int p3), .val (.int p4), .val (.ref b1), .val (.int (own_P p0 p1 q2 p3 p4)), .val (.ref b26), .unset, .unset] [])) _
    refine XS.aload X30.here hx rfl (hb hby at_149) rfl rfl ?_
    show Steps p.tables e below (T30.setTop (mkF m 151 #[.val (.int p0), .val (.int p1), .val (.long q2), .second, .val (.int p3), .val (.int p4), .val (.ref b1), .val (.int (own_P p0 p1 q2 p3 p4)), .val (.ref b26), .unset, .unset] [(.ref b26)])) _
    refine XS.aload X30.here hx rfl (hb hby at_151) rfl rfl ?_
    show Steps p.tables e below (T30.setTop (mkF m 153 #[.val (.int p0), .val (.int p1), .val (.long q2), .second, .val (.int p3), .val (.int p4), .val (.ref b1), .val (.int (own_P p0 p1 q2 p3 p4)), .val (.ref b26), .unset, .unset] [(.ref b1), (.ref b26)])) _
    exact k
  obtain ⟨cq33, kq33, q33a, q33b, q33c⟩ := isOf hZ rfl fc32
  obtain ⟨T33, Lq33, f'_33, X33, N33, hQ33, st33⟩ := own_pf1 (vv := fun (f'_33 : Nat → Int32) => none) N30 (own_vs (X30.virtualBack hx (y := (⟨"com/example/tracecourt/tracecourt/trace/Bytes$Out", "write", "([B)V"⟩ : MethodName)) (z := (⟨"com/example/tracecourt/tracecourt/trace/Bytes$Out", "write", "([B)V"⟩ : MethodName)) hown (mvT hZ (hw _ (List.mem_of_getElem? (i := 17) rfl))) (mvT hZ (hw _ (List.mem_of_getElem? (i := 18) rfl))) (notFace_of_selects (args := #[]) (mvT hZ (hw _ (List.mem_of_getElem? (i := 20) rfl)))) (mvT hZ (hw _ (List.mem_of_getElem? (i := 20) rfl))) (mvT hZ (hw _ (List.mem_of_getElem? (i := 19) rfl))) (by decide) (backOf (W := 0) (own_rm6 l Z a0 hw [] b26 b1 br_30 ((0 : Int32)) ((own_F1 (p4 &&& (63 : Int32)) (16 : Int32))) ((fun _ => 0)) ((12 : Int32)) y24 T30.heap n0 Zs30 fc32 p30_0 p30_1 p30_2 fc31 g_b26 g_br_30 (by decide) (by decide) (own_fit12 _) (Ne.symm ne_b26_br_30) ne_b1_b26 ne_b1_br_30) hZ (hw _ (List.mem_of_getElem? (i := 21) rfl)) (hw _ (List.mem_of_getElem? (i := 4) rfl)) (by decide) (by decide)) q33a q33c (g := (mkF m 153 #[.val (.int p0), .val (.int p1), .val (.long q2), .second, .val (.int p3), .val (.int p4), .val (.ref b1), .val (.int (own_P p0 p1 q2 p3 p4)), .val (.ref b26), .unset, .unset] [(.ref b1), (.ref b26)])) rfl (by rw [hml]; rfl) (Steps.refl _) (argsL := [(.ref b1)]) (rest := []) (lenOf own_pd5 rfl) rfl (by show 2 * 0 + _ ≤ _; exact Nat.le_of_eq rfl) (hb hby at_153) (fun _ _ => ⟨rfl, rfl, (by decide : 3 + 0 ≤ _), (by decide : 77 + 0 ≤ _)⟩))) (fun _ _ _ q => q) (k1 := 3) (k2 := 77) rfl rfl
  obtain ⟨h33q, p33_0, p33_1, p33_2, r33_cp⟩ := hQ33
  have fc34 : own_ArI Z T33.heap b1 .byte (12 : Int32) y24 := fc31.keep h33q (ninS ne_b1_b26 (ninS ne_b1_br_30 nin0))
  have fc35 : Exa Z T33.heap b26 "com/example/tracecourt/tracecourt/trace/Bytes$Out" := fc32.keep h33q
  have Zs33 : n0 ≤ T33.heap.size := Nat.le_trans Zs30 h33q.1
  refine own_go (T' := T33) (f' := (mkF m 156 #[.val (.int p0), .val (.int p1), .val (.long q2), .second, .val (.int p3), .val (.int p4), .val (.ref b1), .val (.int (own_P p0 p1 q2 p3 p4)), .val (.ref b26), .unset, .unset] [])) (fun t k => st33 _ k) ?_
  refine own_go (T' := T33) (f' := (mkF m 161 #[.val (.int p0), .val (.int p1), .val (.long q2), .second, .val (.int p3), .val (.int p4), .val (.ref b1), .val (.int (own_P p0 p1 q2 p3 p4)), .val (.ref b26), .unset, .unset] [(.int p1), (.int (own_P p0 p1 q2 p3 p4)), (.ref b26)])) (fun t k => ?_) ?_
  · show Steps p.tables e below (T33.setTop (mkF m 156 #[.val (.int p0), .val (.int p1), .val (.long q2), .second, .val (.int p3), .val (.int p4), .val (.ref b1), .val (.int (own_P p0 p1 q2 p3 p4)), .val (.ref b26), .unset, .unset] [])) _
    refine XS.aload X33.here hx rfl (hb hby at_156) rfl rfl ?_
    show Steps p.tables e below (T33.setTop (mkF m 158 #[.val (.int p0), .val (.int p1), .val (.long q2), .second, .val (.int p3), .val (.int p4), .val (.ref b1), .val (.int (own_P p0 p1 q2 p3 p4)), .val (.ref b26), .unset, .unset] [(.ref b26)])) _
    refine XS.iload X33.here hx rfl (hb hby at_158) rfl ?_
    show Steps p.tables e below (T33.setTop (mkF m 160 #[.val (.int p0), .val (.int p1), .val (.long q2), .second, .val (.int p3), .val (.int p4), .val (.ref b1), .val (.int (own_P p0 p1 q2 p3 p4)), .val (.ref b26), .unset, .unset] [(.int (own_P p0 p1 q2 p3 p4)), (.ref b26)])) _
    refine XS.iloadN X33.here hx rfl (hb hby at_160) rfl ?_
    show Steps p.tables e below (T33.setTop (mkF m 161 #[.val (.int p0), .val (.int p1), .val (.long q2), .second, .val (.int p3), .val (.int p4), .val (.ref b1), .val (.int (own_P p0 p1 q2 p3 p4)), .val (.ref b26), .unset, .unset] [(.int p1), (.int (own_P p0 p1 q2 p3 p4)), (.ref b26)])) _
    exact k
  obtain ⟨cq36, kq36, q36a, q36b, q36c⟩ := isOf hZ rfl fc35
  obtain ⟨T36, Lq36, f'_36, X36, N36, hQ36, st36⟩ := own_pf1 (vv := fun (f'_36 : Nat → Int32) => none) N33 (own_vs (X33.virtualBack hx (y := (⟨"com/example/tracecourt/tracecourt/trace/Bytes$Out", "writeIntAt", "(II)V"⟩ : MethodName)) (z := (⟨"com/example/tracecourt/tracecourt/trace/Bytes$Out", "writeIntAt", "(II)V"⟩ : MethodName)) hown (mvT hZ (hw _ (List.mem_of_getElem? (i := 37) rfl))) (mvT hZ (hw _ (List.mem_of_getElem? (i := 38) rfl))) (notFace_of_selects (args := #[]) (mvT hZ (hw _ (List.mem_of_getElem? (i := 40) rfl)))) (mvT hZ (hw _ (List.mem_of_getElem? (i := 40) rfl))) (mvT hZ (hw _ (List.mem_of_getElem? (i := 39) rfl))) (by decide) (backOf (W := 0) (own_rm7 l Z a0 hw [] b26 ((own_P p0 p1 q2 p3 p4)) p1 br_30 ((own_F1 (p4 &&& (63 : Int32)) (16 : Int32))) (f'_33) T33.heap n0 Zs33 p33_0 p33_2 g_br_30 (own_P_rng p0 p1 q2 p3 p4).1 (own_fit4 p0 p1 q2 p3 p4 _) ne_b26_br_30) hZ (hw _ (List.mem_of_getElem? (i := 41) rfl)) (hw _ (List.mem_of_getElem? (i := 4) rfl)) (by decide) (by decide)) q36a q36c (g := (mkF m 161 #[.val (.int p0), .val (.int p1), .val (.long q2), .second, .val (.int p3), .val (.int p4), .val (.ref b1), .val (.int (own_P p0 p1 q2 p3 p4)), .val (.ref b26), .unset, .unset] [(.int p1), (.int (own_P p0 p1 q2 p3 p4)), (.ref b26)])) rfl (by rw [hml]; rfl) (Steps.refl _) (argsL := [(.int (own_P p0 p1 q2 p3 p4)), (.int p1)]) (rest := []) (lenOf own_pd6 rfl) rfl (by show 2 * 0 + _ ≤ _; exact Nat.le_of_eq rfl) (hb hby at_161) (fun _ _ => ⟨rfl, rfl, (by decide : 3 + 0 ≤ _), (by decide : 77 + 0 ≤ _)⟩))) (fun _ _ _ q => q) (k1 := 3) (k2 := 77) rfl rfl
  obtain ⟨h36q, p36_0, r36_wi⟩ := hQ36
  have fc37 : own_ArI Z T36.heap b1 .byte (12 : Int32) y24 := fc34.keep h36q (ninS ne_b1_br_30 nin0)
  have fc38 : Exa Z T36.heap b26 "com/example/tracecourt/tracecourt/trace/Bytes$Out" := fc35.keep h36q
  have fc39 : Fld Z T36.heap b26 "com/example/tracecourt/tracecourt/trace/Bytes$Out" "bytes" "[B" (.ref br_30) := p33_0.keep h36q (ninS ne_b26_br_30 nin0)
  have fc40 : Fld Z T36.heap b26 "com/example/tracecourt/tracecourt/trace/Bytes$Out" "size" "I" (.int ((0 : Int32) + (12 : Int32))) := p33_1.keep h36q (ninS ne_b26_br_30 nin0)
  have Zs36 : n0 ≤ T36.heap.size := Nat.le_trans Zs33 h36q.1
  refine own_go (T' := T36) (f' := (mkF m 164 #[.val (.int p0), .val (.int p1), .val (.long q2), .second, .val (.int p3), .val (.int p4), .val (.ref b1), .val (.int (own_P p0 p1 q2 p3 p4)), .val (.ref b26), .unset, .unset] [])) (fun t k => st36 _ k) ?_
  refine own_go (T' := T36) (f' := (mkF m 166 #[.val (.int p0), .val (.int p1), .val (.long q2), .second, .val (.int p3), .val (.int p4), .val (.ref b1), .val (.int (own_P p0 p1 q2 p3 p4)), .val (.ref b26), .unset, .unset] [(.ref b26)])) (fun t k => ?_) ?_
  · show Steps p.tables e below (T36.setTop (mkF m 164 #[.val (.int p0), .val (.int p1), .val (.long q2), .second, .val (.int p3), .val (.int p4), .val (.ref b1), .val (.int (own_P p0 p1 q2 p3 p4)), .val (.ref b26), .unset, .unset] [])) _
    refine XS.aload X36.here hx rfl (hb hby at_164) rfl rfl ?_
    show Steps p.tables e below (T36.setTop (mkF m 166 #[.val (.int p0), .val (.int p1), .val (.long q2), .second, .val (.int p3), .val (.int p4), .val (.ref b1), .val (.int (own_P p0 p1 q2 p3 p4)), .val (.ref b26), .unset, .unset] [(.ref b26)])) _
    exact k
  obtain ⟨cq41, kq41, q41a, q41b, q41c⟩ := isOf hZ rfl fc38
  obtain ⟨T41, Lq41, br_41, f'_41, X41, N41, hQ41, st41⟩ := own_pf2 (vv := fun (br_41 : Addr) (f'_41 : Nat → Int32) => some (.ref br_41)) N36 (own_vs (X36.virtualBack hx (y := (⟨"com/example/tracecourt/tracecourt/trace/Bytes$Out", "toByteArray", "()[B"⟩ : MethodName)) (z := (⟨"com/example/tracecourt/tracecourt/trace/Bytes$Out", "toByteArray", "()[B"⟩ : MethodName)) hown (mvT hZ (hw _ (List.mem_of_getElem? (i := 42) rfl))) (mvT hZ (hw _ (List.mem_of_getElem? (i := 43) rfl))) (notFace_of_selects (args := #[]) (mvT hZ (hw _ (List.mem_of_getElem? (i := 45) rfl)))) (mvT hZ (hw _ (List.mem_of_getElem? (i := 45) rfl))) (mvT hZ (hw _ (List.mem_of_getElem? (i := 44) rfl))) (by decide) (backOf (W := 0) (own_rm9 l Z a0 hw [] b26 br_30 (((0 : Int32) + (12 : Int32))) ((own_F1 (p4 &&& (63 : Int32)) (16 : Int32))) (f'_36) T36.heap n0 Zs36 fc39 fc40 p36_0 (by decide) (by decide) (own_fit16 _)) hZ (hw _ (List.mem_of_getElem? (i := 46) rfl)) (hw _ (List.mem_of_getElem? (i := 4) rfl)) (by decide) (by decide)) q41a q41c (g := (mkF m 166 #[.val (.int p0), .val (.int p1), .val (.long q2), .second, .val (.int p3), .val (.int p4), .val (.ref b1), .val (.int (own_P p0 p1 q2 p3 p4)), .val (.ref b26), .unset, .unset] [(.ref b26)])) rfl (by rw [hml]; rfl) (Steps.refl _) (argsL := []) (rest := []) (lenOf own_pd7 rfl) rfl (by show 2 * 0 + _ ≤ _; exact Nat.le_of_eq rfl) (hb hby at_166) (fun _ _ => ⟨rfl, rfl, (by decide : 3 + 1 ≤ _), (by decide : 77 + 12 ≤ _)⟩))) (fun _ _ _ q => q) (k1 := 4) (k2 := 89) rfl rfl
  obtain ⟨h41q, szr_br_41, p41_0, r41_cp⟩ := hQ41
  have ne_b1_br_41 : b1 ≠ br_41 := Nat.ne_of_lt (Nat.lt_of_lt_of_le fc37.lt szr_br_41)
  have ne_b26_br_41 : b26 ≠ br_41 := Nat.ne_of_lt (Nat.lt_of_lt_of_le fc38.lt szr_br_41)
  have ne_br_30_br_41 : br_30 ≠ br_41 := Nat.ne_of_lt (Nat.lt_of_lt_of_le p36_0.lt szr_br_41)
  have g_br_41 : n0 ≤ br_41 := Nat.le_trans Zs36 szr_br_41
  have fc42 : own_ArI Z T41.heap b1 .byte (12 : Int32) y24 := fc37.keep h41q nin0
  have fc43 : Exa Z T41.heap b26 "com/example/tracecourt/tracecourt/trace/Bytes$Out" := fc38.keep h41q
  have fc44 : Fld Z T41.heap b26 "com/example/tracecourt/tracecourt/trace/Bytes$Out" "bytes" "[B" (.ref br_30) := fc39.keep h41q nin0
  have fc45 : Fld Z T41.heap b26 "com/example/tracecourt/tracecourt/trace/Bytes$Out" "size" "I" (.int ((0 : Int32) + (12 : Int32))) := fc40.keep h41q nin0
  have fc46 : own_ArI Z T41.heap br_30 .byte (own_F1 (p4 &&& (63 : Int32)) (16 : Int32)) f'_36 := p36_0.keep h41q nin0
  have Zs41 : n0 ≤ T41.heap.size := Nat.le_trans Zs36 h41q.1
  refine own_go (T' := T41) (f' := (mkF m 169 #[.val (.int p0), .val (.int p1), .val (.long q2), .second, .val (.int p3), .val (.int p4), .val (.ref b1), .val (.int (own_P p0 p1 q2 p3 p4)), .val (.ref b26), .unset, .unset] [(.ref br_41)])) (fun t k => st41 _ k) ?_
  have hok := own_ok p0 p1 q2 p3 p4 r33_cp r36_wi r41_cp
  refine own_go (T' := T41) (f' := (mkF m 173 #[.val (.int p0), .val (.int p1), .val (.long q2), .second, .val (.int p3), .val (.int p4), .val (.ref b1), .val (.int (own_P p0 p1 q2 p3 p4)), .val (.ref b26), .val (.ref br_41), .unset] [(.ref b26)])) (fun t k => ?_) ?_
  · show Steps p.tables e below (T41.setTop (mkF m 169 #[.val (.int p0), .val (.int p1), .val (.long q2), .second, .val (.int p3), .val (.int p4), .val (.ref b1), .val (.int (own_P p0 p1 q2 p3 p4)), .val (.ref b26), .unset, .unset] [(.ref br_41)])) _
    refine XS.astore X41.here hx rfl (hb hby at_169) rfl rfl (l' := #[.val (.int p0), .val (.int p1), .val (.long q2), .second, .val (.int p3), .val (.int p4), .val (.ref b1), .val (.int (own_P p0 p1 q2 p3 p4)), .val (.ref b26), .val (.ref br_41), .unset]) rfl ?_
    show Steps p.tables e below (T41.setTop (mkF m 171 #[.val (.int p0), .val (.int p1), .val (.long q2), .second, .val (.int p3), .val (.int p4), .val (.ref b1), .val (.int (own_P p0 p1 q2 p3 p4)), .val (.ref b26), .val (.ref br_41), .unset] [])) _
    refine XS.aload X41.here hx rfl (hb hby at_171) rfl rfl ?_
    show Steps p.tables e below (T41.setTop (mkF m 173 #[.val (.int p0), .val (.int p1), .val (.long q2), .second, .val (.int p3), .val (.int p4), .val (.ref b1), .val (.int (own_P p0 p1 q2 p3 p4)), .val (.ref b26), .val (.ref br_41), .unset] [(.ref b26)])) _
    exact k
  obtain ⟨cq47, kq47, q47a, q47b, q47c⟩ := isOf hZ rfl fc43
  obtain ⟨T47, Lq47, X47, N47, hQ47, st47⟩ := own_pf0 (vv := some (.int ((0 : Int32) + (12 : Int32)))) N41 (own_vs (X41.virtualBack hx (y := (⟨"com/example/tracecourt/tracecourt/trace/Bytes$Out", "size", "()I"⟩ : MethodName)) (z := (⟨"com/example/tracecourt/tracecourt/trace/Bytes$Out", "size", "()I"⟩ : MethodName)) hown (mvT hZ (hw _ (List.mem_of_getElem? (i := 55) rfl))) (mvT hZ (hw _ (List.mem_of_getElem? (i := 56) rfl))) (notFace_of_selects (args := #[]) (mvT hZ (hw _ (List.mem_of_getElem? (i := 58) rfl)))) (mvT hZ (hw _ (List.mem_of_getElem? (i := 58) rfl))) (mvT hZ (hw _ (List.mem_of_getElem? (i := 57) rfl))) (by decide) (backOf (W := 0) (own_rm10 l Z a0 hw [] b26 (((0 : Int32) + (12 : Int32))) T41.heap n0 Zs41 fc45) hZ (hw _ (List.mem_of_getElem? (i := 59) rfl)) (hw _ (List.mem_of_getElem? (i := 4) rfl)) (by decide) (by decide)) q47a q47c (g := (mkF m 173 #[.val (.int p0), .val (.int p1), .val (.long q2), .second, .val (.int p3), .val (.int p4), .val (.ref b1), .val (.int (own_P p0 p1 q2 p3 p4)), .val (.ref b26), .val (.ref br_41), .unset] [(.ref b26)])) rfl (by rw [hml]; rfl) (Steps.refl _) (argsL := []) (rest := []) (lenOf own_pd8 rfl) rfl (by show 2 * 0 + _ ≤ _; exact Nat.le_of_eq rfl) (hb hby at_173) (fun _ _ => ⟨rfl, rfl, (by decide : 4 + 0 ≤ _), (by decide : 89 + 0 ≤ _)⟩))) (fun _ _ _ q => q) (k1 := 4) (k2 := 89) rfl rfl
  have h47q : T47.heap = T41.heap := hQ47
  refine own_go (T' := T47) (f' := (mkF m 176 #[.val (.int p0), .val (.int p1), .val (.long q2), .second, .val (.int p3), .val (.int p4), .val (.ref b1), .val (.int (own_P p0 p1 q2 p3 p4)), .val (.ref b26), .val (.ref br_41), .unset] [(.int ((0 : Int32) + (12 : Int32)))])) (fun t k => st47 _ k) ?_
  refine own_go (T' := T47) (f' := (mkF m 253 #[.val (.int p0), .val (.int p1), .val (.long q2), .second, .val (.int p3), .val (.int p4), .val (.ref b1), .val (.int (own_P p0 p1 q2 p3 p4)), .val (.ref b26), .val (.ref br_41), .val (.int ((((((f'_41 (own_P p0 p1 q2 p3 p4).toInt.toNat) &&& (255 : Int32)) <<< ((24 : Int32) &&& 31)) ||| (((f'_41 ((own_P p0 p1 q2 p3 p4) + (1 : Int32)).toInt.toNat) &&& (255 : Int32)) <<< ((16 : Int32) &&& 31))) ||| (((f'_41 ((own_P p0 p1 q2 p3 p4) + (2 : Int32)).toInt.toNat) &&& (255 : Int32)) <<< ((8 : Int32) &&& 31))) ||| ((f'_41 ((own_P p0 p1 q2 p3 p4) + (3 : Int32)).toInt.toNat) &&& (255 : Int32))))] [])) (fun t k => ?_) ?_
  · show Steps p.tables e below (T47.setTop (mkF m 176 #[.val (.int p0), .val (.int p1), .val (.long q2), .second, .val (.int p3), .val (.int p4), .val (.ref b1), .val (.int (own_P p0 p1 q2 p3 p4)), .val (.ref b26), .val (.ref br_41), .unset] [(.int ((0 : Int32) + (12 : Int32)))])) _
    refine XS.bipush X47.here hx rfl (hb hby at_176) ?_
    show Steps p.tables e below (T47.setTop (mkF m 178 #[.val (.int p0), .val (.int p1), .val (.long q2), .second, .val (.int p3), .val (.int p4), .val (.ref b1), .val (.int (own_P p0 p1 q2 p3 p4)), .val (.ref b26), .val (.ref br_41), .unset] [(.int (12 : Int32)), (.int ((0 : Int32) + (12 : Int32)))])) _
    refine XS.icmpNo X47.here hx rfl (hb hby at_178) rfl (teq (by decide)).2 ?_
    show Steps p.tables e below (T47.setTop (mkF m 181 #[.val (.int p0), .val (.int p1), .val (.long q2), .second, .val (.int p3), .val (.int p4), .val (.ref b1), .val (.int (own_P p0 p1 q2 p3 p4)), .val (.ref b26), .val (.ref br_41), .unset] [])) _
    refine XS.aload X47.here hx rfl (hb hby at_181) rfl rfl ?_
    show Steps p.tables e below (T47.setTop (mkF m 183 #[.val (.int p0), .val (.int p1), .val (.long q2), .second, .val (.int p3), .val (.int p4), .val (.ref b1), .val (.int (own_P p0 p1 q2 p3 p4)), .val (.ref b26), .val (.ref br_41), .unset] [(.ref br_41)])) _
    refine p41_0.len X47 hx hZ h47q (g := (mkF m 183 #[.val (.int p0), .val (.int p1), .val (.long q2), .second, .val (.int p3), .val (.int p4), .val (.ref b1), .val (.int (own_P p0 p1 q2 p3 p4)), .val (.ref b26), .val (.ref br_41), .unset] [(.ref br_41)])) rfl rfl (hb hby at_183) _ ?_
    show Steps p.tables e below (T47.setTop (mkF m 184 #[.val (.int p0), .val (.int p1), .val (.long q2), .second, .val (.int p3), .val (.int p4), .val (.ref b1), .val (.int (own_P p0 p1 q2 p3 p4)), .val (.ref b26), .val (.ref br_41), .unset] [(.int ((0 : Int32) + (12 : Int32)))])) _
    refine XS.bipush X47.here hx rfl (hb hby at_184) ?_
    show Steps p.tables e below (T47.setTop (mkF m 186 #[.val (.int p0), .val (.int p1), .val (.long q2), .second, .val (.int p3), .val (.int p4), .val (.ref b1), .val (.int (own_P p0 p1 q2 p3 p4)), .val (.ref b26), .val (.ref br_41), .unset] [(.int (12 : Int32)), (.int ((0 : Int32) + (12 : Int32)))])) _
    refine XS.icmpYes X47.here hx rfl (pc0 := 186) (pc' := 191) rfl (hb hby at_186) rfl (teq (by decide)).1 (by decide) (by decide) ?_
    show Steps p.tables e below (T47.setTop (mkF m 191 #[.val (.int p0), .val (.int p1), .val (.long q2), .second, .val (.int p3), .val (.int p4), .val (.ref b1), .val (.int (own_P p0 p1 q2 p3 p4)), .val (.ref b26), .val (.ref br_41), .unset] [])) _
    refine XS.aload X47.here hx rfl (hb hby at_191) rfl rfl ?_
    show Steps p.tables e below (T47.setTop (mkF m 193 #[.val (.int p0), .val (.int p1), .val (.long q2), .second, .val (.int p3), .val (.int p4), .val (.ref b1), .val (.int (own_P p0 p1 q2 p3 p4)), .val (.ref b26), .val (.ref br_41), .unset] [(.ref br_41)])) _
    refine XS.iload X47.here hx rfl (hb hby at_193) rfl ?_
    show Steps p.tables e below (T47.setTop (mkF m 195 #[.val (.int p0), .val (.int p1), .val (.long q2), .second, .val (.int p3), .val (.int p4), .val (.ref b1), .val (.int (own_P p0 p1 q2 p3 p4)), .val (.ref b26), .val (.ref br_41), .unset] [(.int (own_P p0 p1 q2 p3 p4)), (.ref br_41)])) _
    refine own_ldB X47 hx hZ h47q p41_0 (j := (own_P p0 p1 q2 p3 p4)) (own_Pk0 p0 p1 q2 p3 p4).1 (own_Pk0 p0 p1 q2 p3 p4).2 (g := (mkF m 195 #[.val (.int p0), .val (.int p1), .val (.long q2), .second, .val (.int p3), .val (.int p4), .val (.ref b1), .val (.int (own_P p0 p1 q2 p3 p4)), .val (.ref b26), .val (.ref br_41), .unset] [(.int (own_P p0 p1 q2 p3 p4)), (.ref br_41)])) rfl rfl (hb hby at_195) _ ?_
    show Steps p.tables e below (T47.setTop (mkF m 196 #[.val (.int p0), .val (.int p1), .val (.long q2), .second, .val (.int p3), .val (.int p4), .val (.ref b1), .val (.int (own_P p0 p1 q2 p3 p4)), .val (.ref b26), .val (.ref br_41), .unset] [(.int (f'_41 (own_P p0 p1 q2 p3 p4).toInt.toNat))])) _
    refine XS.sipush X47.here hx rfl (hb hby at_196) ?_
    show Steps p.tables e below (T47.setTop (mkF m 199 #[.val (.int p0), .val (.int p1), .val (.long q2), .second, .val (.int p3), .val (.int p4), .val (.ref b1), .val (.int (own_P p0 p1 q2 p3 p4)), .val (.ref b26), .val (.ref br_41), .unset] [(.int (255 : Int32)), (.int (f'_41 (own_P p0 p1 q2 p3 p4).toInt.toNat))])) _
    refine XS.iand X47.here hx rfl (hb hby at_199) rfl ?_
    show Steps p.tables e below (T47.setTop (mkF m 200 #[.val (.int p0), .val (.int p1), .val (.long q2), .second, .val (.int p3), .val (.int p4), .val (.ref b1), .val (.int (own_P p0 p1 q2 p3 p4)), .val (.ref b26), .val (.ref br_41), .unset] [(.int ((f'_41 (own_P p0 p1 q2 p3 p4).toInt.toNat) &&& (255 : Int32)))])) _
    refine XS.bipush X47.here hx rfl (hb hby at_200) ?_
    show Steps p.tables e below (T47.setTop (mkF m 202 #[.val (.int p0), .val (.int p1), .val (.long q2), .second, .val (.int p3), .val (.int p4), .val (.ref b1), .val (.int (own_P p0 p1 q2 p3 p4)), .val (.ref b26), .val (.ref br_41), .unset] [(.int (24 : Int32)), (.int ((f'_41 (own_P p0 p1 q2 p3 p4).toInt.toNat) &&& (255 : Int32)))])) _
    refine XS.ishl X47.here hx rfl (hb hby at_202) rfl ?_
    show Steps p.tables e below (T47.setTop (mkF m 203 #[.val (.int p0), .val (.int p1), .val (.long q2), .second, .val (.int p3), .val (.int p4), .val (.ref b1), .val (.int (own_P p0 p1 q2 p3 p4)), .val (.ref b26), .val (.ref br_41), .unset] [(.int (((f'_41 (own_P p0 p1 q2 p3 p4).toInt.toNat) &&& (255 : Int32)) <<< ((24 : Int32) &&& 31)))])) _
    refine XS.aload X47.here hx rfl (hb hby at_203) rfl rfl ?_
    show Steps p.tables e below (T47.setTop (mkF m 205 #[.val (.int p0), .val (.int p1), .val (.long q2), .second, .val (.int p3), .val (.int p4), .val (.ref b1), .val (.int (own_P p0 p1 q2 p3 p4)), .val (.ref b26), .val (.ref br_41), .unset] [(.ref br_41), (.int (((f'_41 (own_P p0 p1 q2 p3 p4).toInt.toNat) &&& (255 : Int32)) <<< ((24 : Int32) &&& 31)))])) _
    refine XS.iload X47.here hx rfl (hb hby at_205) rfl ?_
    show Steps p.tables e below (T47.setTop (mkF m 207 #[.val (.int p0), .val (.int p1), .val (.long q2), .second, .val (.int p3), .val (.int p4), .val (.ref b1), .val (.int (own_P p0 p1 q2 p3 p4)), .val (.ref b26), .val (.ref br_41), .unset] [(.int (own_P p0 p1 q2 p3 p4)), (.ref br_41), (.int (((f'_41 (own_P p0 p1 q2 p3 p4).toInt.toNat) &&& (255 : Int32)) <<< ((24 : Int32) &&& 31)))])) _
    refine XS.iconst X47.here hx rfl (hb hby at_207) ?_
    show Steps p.tables e below (T47.setTop (mkF m 208 #[.val (.int p0), .val (.int p1), .val (.long q2), .second, .val (.int p3), .val (.int p4), .val (.ref b1), .val (.int (own_P p0 p1 q2 p3 p4)), .val (.ref b26), .val (.ref br_41), .unset] [(.int (1 : Int32)), (.int (own_P p0 p1 q2 p3 p4)), (.ref br_41), (.int (((f'_41 (own_P p0 p1 q2 p3 p4).toInt.toNat) &&& (255 : Int32)) <<< ((24 : Int32) &&& 31)))])) _
    refine XS.iadd X47.here hx rfl (hb hby at_208) rfl ?_
    show Steps p.tables e below (T47.setTop (mkF m 209 #[.val (.int p0), .val (.int p1), .val (.long q2), .second, .val (.int p3), .val (.int p4), .val (.ref b1), .val (.int (own_P p0 p1 q2 p3 p4)), .val (.ref b26), .val (.ref br_41), .unset] [(.int ((own_P p0 p1 q2 p3 p4) + (1 : Int32))), (.ref br_41), (.int (((f'_41 (own_P p0 p1 q2 p3 p4).toInt.toNat) &&& (255 : Int32)) <<< ((24 : Int32) &&& 31)))])) _
    refine own_ldB X47 hx hZ h47q p41_0 (j := ((own_P p0 p1 q2 p3 p4) + (1 : Int32))) (own_Pk1 p0 p1 q2 p3 p4).1 (own_Pk1 p0 p1 q2 p3 p4).2 (g := (mkF m 209 #[.val (.int p0), .val (.int p1), .val (.long q2), .second, .val (.int p3), .val (.int p4), .val (.ref b1), .val (.int (own_P p0 p1 q2 p3 p4)), .val (.ref b26), .val (.ref br_41), .unset] [(.int ((own_P p0 p1 q2 p3 p4) + (1 : Int32))), (.ref br_41), (.int (((f'_41 (own_P p0 p1 q2 p3 p4).toInt.toNat) &&& (255 : Int32)) <<< ((24 : Int32) &&& 31)))])) rfl rfl (hb hby at_209) _ ?_
    show Steps p.tables e below (T47.setTop (mkF m 210 #[.val (.int p0), .val (.int p1), .val (.long q2), .second, .val (.int p3), .val (.int p4), .val (.ref b1), .val (.int (own_P p0 p1 q2 p3 p4)), .val (.ref b26), .val (.ref br_41), .unset] [(.int (f'_41 ((own_P p0 p1 q2 p3 p4) + (1 : Int32)).toInt.toNat)), (.int (((f'_41 (own_P p0 p1 q2 p3 p4).toInt.toNat) &&& (255 : Int32)) <<< ((24 : Int32) &&& 31)))])) _
    refine XS.sipush X47.here hx rfl (hb hby at_210) ?_
    show Steps p.tables e below (T47.setTop (mkF m 213 #[.val (.int p0), .val (.int p1), .val (.long q2), .second, .val (.int p3), .val (.int p4), .val (.ref b1), .val (.int (own_P p0 p1 q2 p3 p4)), .val (.ref b26), .val (.ref br_41), .unset] [(.int (255 : Int32)), (.int (f'_41 ((own_P p0 p1 q2 p3 p4) + (1 : Int32)).toInt.toNat)), (.int (((f'_41 (own_P p0 p1 q2 p3 p4).toInt.toNat) &&& (255 : Int32)) <<< ((24 : Int32) &&& 31)))])) _
    refine XS.iand X47.here hx rfl (hb hby at_213) rfl ?_
    show Steps p.tables e below (T47.setTop (mkF m 214 #[.val (.int p0), .val (.int p1), .val (.long q2), .second, .val (.int p3), .val (.int p4), .val (.ref b1), .val (.int (own_P p0 p1 q2 p3 p4)), .val (.ref b26), .val (.ref br_41), .unset] [(.int ((f'_41 ((own_P p0 p1 q2 p3 p4) + (1 : Int32)).toInt.toNat) &&& (255 : Int32))), (.int (((f'_41 (own_P p0 p1 q2 p3 p4).toInt.toNat) &&& (255 : Int32)) <<< ((24 : Int32) &&& 31)))])) _
    refine XS.bipush X47.here hx rfl (hb hby at_214) ?_
    show Steps p.tables e below (T47.setTop (mkF m 216 #[.val (.int p0), .val (.int p1), .val (.long q2), .second, .val (.int p3), .val (.int p4), .val (.ref b1), .val (.int (own_P p0 p1 q2 p3 p4)), .val (.ref b26), .val (.ref br_41), .unset] [(.int (16 : Int32)), (.int ((f'_41 ((own_P p0 p1 q2 p3 p4) + (1 : Int32)).toInt.toNat) &&& (255 : Int32))), (.int (((f'_41 (own_P p0 p1 q2 p3 p4).toInt.toNat) &&& (255 : Int32)) <<< ((24 : Int32) &&& 31)))])) _
    refine XS.ishl X47.here hx rfl (hb hby at_216) rfl ?_
    show Steps p.tables e below (T47.setTop (mkF m 217 #[.val (.int p0), .val (.int p1), .val (.long q2), .second, .val (.int p3), .val (.int p4), .val (.ref b1), .val (.int (own_P p0 p1 q2 p3 p4)), .val (.ref b26), .val (.ref br_41), .unset] [(.int (((f'_41 ((own_P p0 p1 q2 p3 p4) + (1 : Int32)).toInt.toNat) &&& (255 : Int32)) <<< ((16 : Int32) &&& 31))), (.int (((f'_41 (own_P p0 p1 q2 p3 p4).toInt.toNat) &&& (255 : Int32)) <<< ((24 : Int32) &&& 31)))])) _
    refine XS.ior X47.here hx rfl (hb hby at_217) rfl ?_
    show Steps p.tables e below (T47.setTop (mkF m 218 #[.val (.int p0), .val (.int p1), .val (.long q2), .second, .val (.int p3), .val (.int p4), .val (.ref b1), .val (.int (own_P p0 p1 q2 p3 p4)), .val (.ref b26), .val (.ref br_41), .unset] [(.int ((((f'_41 (own_P p0 p1 q2 p3 p4).toInt.toNat) &&& (255 : Int32)) <<< ((24 : Int32) &&& 31)) ||| (((f'_41 ((own_P p0 p1 q2 p3 p4) + (1 : Int32)).toInt.toNat) &&& (255 : Int32)) <<< ((16 : Int32) &&& 31))))])) _
    refine XS.aload X47.here hx rfl (hb hby at_218) rfl rfl ?_
    show Steps p.tables e below (T47.setTop (mkF m 220 #[.val (.int p0), .val (.int p1), .val (.long q2), .second, .val (.int p3), .val (.int p4), .val (.ref b1), .val (.int (own_P p0 p1 q2 p3 p4)), .val (.ref b26), .val (.ref br_41), .unset] [(.ref br_41), (.int ((((f'_41 (own_P p0 p1 q2 p3 p4).toInt.toNat) &&& (255 : Int32)) <<< ((24 : Int32) &&& 31)) ||| (((f'_41 ((own_P p0 p1 q2 p3 p4) + (1 : Int32)).toInt.toNat) &&& (255 : Int32)) <<< ((16 : Int32) &&& 31))))])) _
    refine XS.iload X47.here hx rfl (hb hby at_220) rfl ?_
    show Steps p.tables e below (T47.setTop (mkF m 222 #[.val (.int p0), .val (.int p1), .val (.long q2), .second, .val (.int p3), .val (.int p4), .val (.ref b1), .val (.int (own_P p0 p1 q2 p3 p4)), .val (.ref b26), .val (.ref br_41), .unset] [(.int (own_P p0 p1 q2 p3 p4)), (.ref br_41), (.int ((((f'_41 (own_P p0 p1 q2 p3 p4).toInt.toNat) &&& (255 : Int32)) <<< ((24 : Int32) &&& 31)) ||| (((f'_41 ((own_P p0 p1 q2 p3 p4) + (1 : Int32)).toInt.toNat) &&& (255 : Int32)) <<< ((16 : Int32) &&& 31))))])) _
    refine XS.iconst X47.here hx rfl (hb hby at_222) ?_
    show Steps p.tables e below (T47.setTop (mkF m 223 #[.val (.int p0), .val (.int p1), .val (.long q2), .second, .val (.int p3), .val (.int p4), .val (.ref b1), .val (.int (own_P p0 p1 q2 p3 p4)), .val (.ref b26), .val (.ref br_41), .unset] [(.int (2 : Int32)), (.int (own_P p0 p1 q2 p3 p4)), (.ref br_41), (.int ((((f'_41 (own_P p0 p1 q2 p3 p4).toInt.toNat) &&& (255 : Int32)) <<< ((24 : Int32) &&& 31)) ||| (((f'_41 ((own_P p0 p1 q2 p3 p4) + (1 : Int32)).toInt.toNat) &&& (255 : Int32)) <<< ((16 : Int32) &&& 31))))])) _
    refine XS.iadd X47.here hx rfl (hb hby at_223) rfl ?_
    show Steps p.tables e below (T47.setTop (mkF m 224 #[.val (.int p0), .val (.int p1), .val (.long q2), .second, .val (.int p3), .val (.int p4), .val (.ref b1), .val (.int (own_P p0 p1 q2 p3 p4)), .val (.ref b26), .val (.ref br_41), .unset] [(.int ((own_P p0 p1 q2 p3 p4) + (2 : Int32))), (.ref br_41), (.int ((((f'_41 (own_P p0 p1 q2 p3 p4).toInt.toNat) &&& (255 : Int32)) <<< ((24 : Int32) &&& 31)) ||| (((f'_41 ((own_P p0 p1 q2 p3 p4) + (1 : Int32)).toInt.toNat) &&& (255 : Int32)) <<< ((16 : Int32) &&& 31))))])) _
    refine own_ldB X47 hx hZ h47q p41_0 (j := ((own_P p0 p1 q2 p3 p4) + (2 : Int32))) (own_Pk2 p0 p1 q2 p3 p4).1 (own_Pk2 p0 p1 q2 p3 p4).2 (g := (mkF m 224 #[.val (.int p0), .val (.int p1), .val (.long q2), .second, .val (.int p3), .val (.int p4), .val (.ref b1), .val (.int (own_P p0 p1 q2 p3 p4)), .val (.ref b26), .val (.ref br_41), .unset] [(.int ((own_P p0 p1 q2 p3 p4) + (2 : Int32))), (.ref br_41), (.int ((((f'_41 (own_P p0 p1 q2 p3 p4).toInt.toNat) &&& (255 : Int32)) <<< ((24 : Int32) &&& 31)) ||| (((f'_41 ((own_P p0 p1 q2 p3 p4) + (1 : Int32)).toInt.toNat) &&& (255 : Int32)) <<< ((16 : Int32) &&& 31))))])) rfl rfl (hb hby at_224) _ ?_
    show Steps p.tables e below (T47.setTop (mkF m 225 #[.val (.int p0), .val (.int p1), .val (.long q2), .second, .val (.int p3), .val (.int p4), .val (.ref b1), .val (.int (own_P p0 p1 q2 p3 p4)), .val (.ref b26), .val (.ref br_41), .unset] [(.int (f'_41 ((own_P p0 p1 q2 p3 p4) + (2 : Int32)).toInt.toNat)), (.int ((((f'_41 (own_P p0 p1 q2 p3 p4).toInt.toNat) &&& (255 : Int32)) <<< ((24 : Int32) &&& 31)) ||| (((f'_41 ((own_P p0 p1 q2 p3 p4) + (1 : Int32)).toInt.toNat) &&& (255 : Int32)) <<< ((16 : Int32) &&& 31))))])) _
    refine XS.sipush X47.here hx rfl (hb hby at_225) ?_
    show Steps p.tables e below (T47.setTop (mkF m 228 #[.val (.int p0), .val (.int p1), .val (.long q2), .second, .val (.int p3), .val (.int p4), .val (.ref b1), .val (.int (own_P p0 p1 q2 p3 p4)), .val (.ref b26), .val (.ref br_41), .unset] [(.int (255 : Int32)), (.int (f'_41 ((own_P p0 p1 q2 p3 p4) + (2 : Int32)).toInt.toNat)), (.int ((((f'_41 (own_P p0 p1 q2 p3 p4).toInt.toNat) &&& (255 : Int32)) <<< ((24 : Int32) &&& 31)) ||| (((f'_41 ((own_P p0 p1 q2 p3 p4) + (1 : Int32)).toInt.toNat) &&& (255 : Int32)) <<< ((16 : Int32) &&& 31))))])) _
    refine XS.iand X47.here hx rfl (hb hby at_228) rfl ?_
    show Steps p.tables e below (T47.setTop (mkF m 229 #[.val (.int p0), .val (.int p1), .val (.long q2), .second, .val (.int p3), .val (.int p4), .val (.ref b1), .val (.int (own_P p0 p1 q2 p3 p4)), .val (.ref b26), .val (.ref br_41), .unset] [(.int ((f'_41 ((own_P p0 p1 q2 p3 p4) + (2 : Int32)).toInt.toNat) &&& (255 : Int32))), (.int ((((f'_41 (own_P p0 p1 q2 p3 p4).toInt.toNat) &&& (255 : Int32)) <<< ((24 : Int32) &&& 31)) ||| (((f'_41 ((own_P p0 p1 q2 p3 p4) + (1 : Int32)).toInt.toNat) &&& (255 : Int32)) <<< ((16 : Int32) &&& 31))))])) _
    refine XS.bipush X47.here hx rfl (hb hby at_229) ?_
    show Steps p.tables e below (T47.setTop (mkF m 231 #[.val (.int p0), .val (.int p1), .val (.long q2), .second, .val (.int p3), .val (.int p4), .val (.ref b1), .val (.int (own_P p0 p1 q2 p3 p4)), .val (.ref b26), .val (.ref br_41), .unset] [(.int (8 : Int32)), (.int ((f'_41 ((own_P p0 p1 q2 p3 p4) + (2 : Int32)).toInt.toNat) &&& (255 : Int32))), (.int ((((f'_41 (own_P p0 p1 q2 p3 p4).toInt.toNat) &&& (255 : Int32)) <<< ((24 : Int32) &&& 31)) ||| (((f'_41 ((own_P p0 p1 q2 p3 p4) + (1 : Int32)).toInt.toNat) &&& (255 : Int32)) <<< ((16 : Int32) &&& 31))))])) _
    refine XS.ishl X47.here hx rfl (hb hby at_231) rfl ?_
    show Steps p.tables e below (T47.setTop (mkF m 232 #[.val (.int p0), .val (.int p1), .val (.long q2), .second, .val (.int p3), .val (.int p4), .val (.ref b1), .val (.int (own_P p0 p1 q2 p3 p4)), .val (.ref b26), .val (.ref br_41), .unset] [(.int (((f'_41 ((own_P p0 p1 q2 p3 p4) + (2 : Int32)).toInt.toNat) &&& (255 : Int32)) <<< ((8 : Int32) &&& 31))), (.int ((((f'_41 (own_P p0 p1 q2 p3 p4).toInt.toNat) &&& (255 : Int32)) <<< ((24 : Int32) &&& 31)) ||| (((f'_41 ((own_P p0 p1 q2 p3 p4) + (1 : Int32)).toInt.toNat) &&& (255 : Int32)) <<< ((16 : Int32) &&& 31))))])) _
    refine XS.ior X47.here hx rfl (hb hby at_232) rfl ?_
    show Steps p.tables e below (T47.setTop (mkF m 233 #[.val (.int p0), .val (.int p1), .val (.long q2), .second, .val (.int p3), .val (.int p4), .val (.ref b1), .val (.int (own_P p0 p1 q2 p3 p4)), .val (.ref b26), .val (.ref br_41), .unset] [(.int (((((f'_41 (own_P p0 p1 q2 p3 p4).toInt.toNat) &&& (255 : Int32)) <<< ((24 : Int32) &&& 31)) ||| (((f'_41 ((own_P p0 p1 q2 p3 p4) + (1 : Int32)).toInt.toNat) &&& (255 : Int32)) <<< ((16 : Int32) &&& 31))) ||| (((f'_41 ((own_P p0 p1 q2 p3 p4) + (2 : Int32)).toInt.toNat) &&& (255 : Int32)) <<< ((8 : Int32) &&& 31))))])) _
    refine XS.aload X47.here hx rfl (hb hby at_233) rfl rfl ?_
    show Steps p.tables e below (T47.setTop (mkF m 235 #[.val (.int p0), .val (.int p1), .val (.long q2), .second, .val (.int p3), .val (.int p4), .val (.ref b1), .val (.int (own_P p0 p1 q2 p3 p4)), .val (.ref b26), .val (.ref br_41), .unset] [(.ref br_41), (.int (((((f'_41 (own_P p0 p1 q2 p3 p4).toInt.toNat) &&& (255 : Int32)) <<< ((24 : Int32) &&& 31)) ||| (((f'_41 ((own_P p0 p1 q2 p3 p4) + (1 : Int32)).toInt.toNat) &&& (255 : Int32)) <<< ((16 : Int32) &&& 31))) ||| (((f'_41 ((own_P p0 p1 q2 p3 p4) + (2 : Int32)).toInt.toNat) &&& (255 : Int32)) <<< ((8 : Int32) &&& 31))))])) _
    refine XS.iload X47.here hx rfl (hb hby at_235) rfl ?_
    show Steps p.tables e below (T47.setTop (mkF m 237 #[.val (.int p0), .val (.int p1), .val (.long q2), .second, .val (.int p3), .val (.int p4), .val (.ref b1), .val (.int (own_P p0 p1 q2 p3 p4)), .val (.ref b26), .val (.ref br_41), .unset] [(.int (own_P p0 p1 q2 p3 p4)), (.ref br_41), (.int (((((f'_41 (own_P p0 p1 q2 p3 p4).toInt.toNat) &&& (255 : Int32)) <<< ((24 : Int32) &&& 31)) ||| (((f'_41 ((own_P p0 p1 q2 p3 p4) + (1 : Int32)).toInt.toNat) &&& (255 : Int32)) <<< ((16 : Int32) &&& 31))) ||| (((f'_41 ((own_P p0 p1 q2 p3 p4) + (2 : Int32)).toInt.toNat) &&& (255 : Int32)) <<< ((8 : Int32) &&& 31))))])) _
    refine XS.iconst X47.here hx rfl (hb hby at_237) ?_
    show Steps p.tables e below (T47.setTop (mkF m 238 #[.val (.int p0), .val (.int p1), .val (.long q2), .second, .val (.int p3), .val (.int p4), .val (.ref b1), .val (.int (own_P p0 p1 q2 p3 p4)), .val (.ref b26), .val (.ref br_41), .unset] [(.int (3 : Int32)), (.int (own_P p0 p1 q2 p3 p4)), (.ref br_41), (.int (((((f'_41 (own_P p0 p1 q2 p3 p4).toInt.toNat) &&& (255 : Int32)) <<< ((24 : Int32) &&& 31)) ||| (((f'_41 ((own_P p0 p1 q2 p3 p4) + (1 : Int32)).toInt.toNat) &&& (255 : Int32)) <<< ((16 : Int32) &&& 31))) ||| (((f'_41 ((own_P p0 p1 q2 p3 p4) + (2 : Int32)).toInt.toNat) &&& (255 : Int32)) <<< ((8 : Int32) &&& 31))))])) _
    refine XS.iadd X47.here hx rfl (hb hby at_238) rfl ?_
    show Steps p.tables e below (T47.setTop (mkF m 239 #[.val (.int p0), .val (.int p1), .val (.long q2), .second, .val (.int p3), .val (.int p4), .val (.ref b1), .val (.int (own_P p0 p1 q2 p3 p4)), .val (.ref b26), .val (.ref br_41), .unset] [(.int ((own_P p0 p1 q2 p3 p4) + (3 : Int32))), (.ref br_41), (.int (((((f'_41 (own_P p0 p1 q2 p3 p4).toInt.toNat) &&& (255 : Int32)) <<< ((24 : Int32) &&& 31)) ||| (((f'_41 ((own_P p0 p1 q2 p3 p4) + (1 : Int32)).toInt.toNat) &&& (255 : Int32)) <<< ((16 : Int32) &&& 31))) ||| (((f'_41 ((own_P p0 p1 q2 p3 p4) + (2 : Int32)).toInt.toNat) &&& (255 : Int32)) <<< ((8 : Int32) &&& 31))))])) _
    refine own_ldB X47 hx hZ h47q p41_0 (j := ((own_P p0 p1 q2 p3 p4) + (3 : Int32))) (own_Pk3 p0 p1 q2 p3 p4).1 (own_Pk3 p0 p1 q2 p3 p4).2 (g := (mkF m 239 #[.val (.int p0), .val (.int p1), .val (.long q2), .second, .val (.int p3), .val (.int p4), .val (.ref b1), .val (.int (own_P p0 p1 q2 p3 p4)), .val (.ref b26), .val (.ref br_41), .unset] [(.int ((own_P p0 p1 q2 p3 p4) + (3 : Int32))), (.ref br_41), (.int (((((f'_41 (own_P p0 p1 q2 p3 p4).toInt.toNat) &&& (255 : Int32)) <<< ((24 : Int32) &&& 31)) ||| (((f'_41 ((own_P p0 p1 q2 p3 p4) + (1 : Int32)).toInt.toNat) &&& (255 : Int32)) <<< ((16 : Int32) &&& 31))) ||| (((f'_41 ((own_P p0 p1 q2 p3 p4) + (2 : Int32)).toInt.toNat) &&& (255 : Int32)) <<< ((8 : Int32) &&& 31))))])) rfl rfl (hb hby at_239) _ ?_
    show Steps p.tables e below (T47.setTop (mkF m 240 #[.val (.int p0), .val (.int p1), .val (.long q2), .second, .val (.int p3), .val (.int p4), .val (.ref b1), .val (.int (own_P p0 p1 q2 p3 p4)), .val (.ref b26), .val (.ref br_41), .unset] [(.int (f'_41 ((own_P p0 p1 q2 p3 p4) + (3 : Int32)).toInt.toNat)), (.int (((((f'_41 (own_P p0 p1 q2 p3 p4).toInt.toNat) &&& (255 : Int32)) <<< ((24 : Int32) &&& 31)) ||| (((f'_41 ((own_P p0 p1 q2 p3 p4) + (1 : Int32)).toInt.toNat) &&& (255 : Int32)) <<< ((16 : Int32) &&& 31))) ||| (((f'_41 ((own_P p0 p1 q2 p3 p4) + (2 : Int32)).toInt.toNat) &&& (255 : Int32)) <<< ((8 : Int32) &&& 31))))])) _
    refine XS.sipush X47.here hx rfl (hb hby at_240) ?_
    show Steps p.tables e below (T47.setTop (mkF m 243 #[.val (.int p0), .val (.int p1), .val (.long q2), .second, .val (.int p3), .val (.int p4), .val (.ref b1), .val (.int (own_P p0 p1 q2 p3 p4)), .val (.ref b26), .val (.ref br_41), .unset] [(.int (255 : Int32)), (.int (f'_41 ((own_P p0 p1 q2 p3 p4) + (3 : Int32)).toInt.toNat)), (.int (((((f'_41 (own_P p0 p1 q2 p3 p4).toInt.toNat) &&& (255 : Int32)) <<< ((24 : Int32) &&& 31)) ||| (((f'_41 ((own_P p0 p1 q2 p3 p4) + (1 : Int32)).toInt.toNat) &&& (255 : Int32)) <<< ((16 : Int32) &&& 31))) ||| (((f'_41 ((own_P p0 p1 q2 p3 p4) + (2 : Int32)).toInt.toNat) &&& (255 : Int32)) <<< ((8 : Int32) &&& 31))))])) _
    refine XS.iand X47.here hx rfl (hb hby at_243) rfl ?_
    show Steps p.tables e below (T47.setTop (mkF m 244 #[.val (.int p0), .val (.int p1), .val (.long q2), .second, .val (.int p3), .val (.int p4), .val (.ref b1), .val (.int (own_P p0 p1 q2 p3 p4)), .val (.ref b26), .val (.ref br_41), .unset] [(.int ((f'_41 ((own_P p0 p1 q2 p3 p4) + (3 : Int32)).toInt.toNat) &&& (255 : Int32))), (.int (((((f'_41 (own_P p0 p1 q2 p3 p4).toInt.toNat) &&& (255 : Int32)) <<< ((24 : Int32) &&& 31)) ||| (((f'_41 ((own_P p0 p1 q2 p3 p4) + (1 : Int32)).toInt.toNat) &&& (255 : Int32)) <<< ((16 : Int32) &&& 31))) ||| (((f'_41 ((own_P p0 p1 q2 p3 p4) + (2 : Int32)).toInt.toNat) &&& (255 : Int32)) <<< ((8 : Int32) &&& 31))))])) _
    refine XS.ior X47.here hx rfl (hb hby at_244) rfl ?_
    show Steps p.tables e below (T47.setTop (mkF m 245 #[.val (.int p0), .val (.int p1), .val (.long q2), .second, .val (.int p3), .val (.int p4), .val (.ref b1), .val (.int (own_P p0 p1 q2 p3 p4)), .val (.ref b26), .val (.ref br_41), .unset] [(.int ((((((f'_41 (own_P p0 p1 q2 p3 p4).toInt.toNat) &&& (255 : Int32)) <<< ((24 : Int32) &&& 31)) ||| (((f'_41 ((own_P p0 p1 q2 p3 p4) + (1 : Int32)).toInt.toNat) &&& (255 : Int32)) <<< ((16 : Int32) &&& 31))) ||| (((f'_41 ((own_P p0 p1 q2 p3 p4) + (2 : Int32)).toInt.toNat) &&& (255 : Int32)) <<< ((8 : Int32) &&& 31))) ||| ((f'_41 ((own_P p0 p1 q2 p3 p4) + (3 : Int32)).toInt.toNat) &&& (255 : Int32))))])) _
    refine XS.istore X47.here hx rfl (hb hby at_245) rfl (l' := #[.val (.int p0), .val (.int p1), .val (.long q2), .second, .val (.int p3), .val (.int p4), .val (.ref b1), .val (.int (own_P p0 p1 q2 p3 p4)), .val (.ref b26), .val (.ref br_41), .val (.int ((((((f'_41 (own_P p0 p1 q2 p3 p4).toInt.toNat) &&& (255 : Int32)) <<< ((24 : Int32) &&& 31)) ||| (((f'_41 ((own_P p0 p1 q2 p3 p4) + (1 : Int32)).toInt.toNat) &&& (255 : Int32)) <<< ((16 : Int32) &&& 31))) ||| (((f'_41 ((own_P p0 p1 q2 p3 p4) + (2 : Int32)).toInt.toNat) &&& (255 : Int32)) <<< ((8 : Int32) &&& 31))) ||| ((f'_41 ((own_P p0 p1 q2 p3 p4) + (3 : Int32)).toInt.toNat) &&& (255 : Int32))))]) rfl ?_
    show Steps p.tables e below (T47.setTop (mkF m 247 #[.val (.int p0), .val (.int p1), .val (.long q2), .second, .val (.int p3), .val (.int p4), .val (.ref b1), .val (.int (own_P p0 p1 q2 p3 p4)), .val (.ref b26), .val (.ref br_41), .val (.int ((((((f'_41 (own_P p0 p1 q2 p3 p4).toInt.toNat) &&& (255 : Int32)) <<< ((24 : Int32) &&& 31)) ||| (((f'_41 ((own_P p0 p1 q2 p3 p4) + (1 : Int32)).toInt.toNat) &&& (255 : Int32)) <<< ((16 : Int32) &&& 31))) ||| (((f'_41 ((own_P p0 p1 q2 p3 p4) + (2 : Int32)).toInt.toNat) &&& (255 : Int32)) <<< ((8 : Int32) &&& 31))) ||| ((f'_41 ((own_P p0 p1 q2 p3 p4) + (3 : Int32)).toInt.toNat) &&& (255 : Int32))))] [])) _
    refine XS.iload X47.here hx rfl (hb hby at_247) rfl ?_
    show Steps p.tables e below (T47.setTop (mkF m 249 #[.val (.int p0), .val (.int p1), .val (.long q2), .second, .val (.int p3), .val (.int p4), .val (.ref b1), .val (.int (own_P p0 p1 q2 p3 p4)), .val (.ref b26), .val (.ref br_41), .val (.int ((((((f'_41 (own_P p0 p1 q2 p3 p4).toInt.toNat) &&& (255 : Int32)) <<< ((24 : Int32) &&& 31)) ||| (((f'_41 ((own_P p0 p1 q2 p3 p4) + (1 : Int32)).toInt.toNat) &&& (255 : Int32)) <<< ((16 : Int32) &&& 31))) ||| (((f'_41 ((own_P p0 p1 q2 p3 p4) + (2 : Int32)).toInt.toNat) &&& (255 : Int32)) <<< ((8 : Int32) &&& 31))) ||| ((f'_41 ((own_P p0 p1 q2 p3 p4) + (3 : Int32)).toInt.toNat) &&& (255 : Int32))))] [(.int ((((((f'_41 (own_P p0 p1 q2 p3 p4).toInt.toNat) &&& (255 : Int32)) <<< ((24 : Int32) &&& 31)) ||| (((f'_41 ((own_P p0 p1 q2 p3 p4) + (1 : Int32)).toInt.toNat) &&& (255 : Int32)) <<< ((16 : Int32) &&& 31))) ||| (((f'_41 ((own_P p0 p1 q2 p3 p4) + (2 : Int32)).toInt.toNat) &&& (255 : Int32)) <<< ((8 : Int32) &&& 31))) ||| ((f'_41 ((own_P p0 p1 q2 p3 p4) + (3 : Int32)).toInt.toNat) &&& (255 : Int32))))])) _
    refine XS.iloadN X47.here hx rfl (hb hby at_249) rfl ?_
    show Steps p.tables e below (T47.setTop (mkF m 250 #[.val (.int p0), .val (.int p1), .val (.long q2), .second, .val (.int p3), .val (.int p4), .val (.ref b1), .val (.int (own_P p0 p1 q2 p3 p4)), .val (.ref b26), .val (.ref br_41), .val (.int ((((((f'_41 (own_P p0 p1 q2 p3 p4).toInt.toNat) &&& (255 : Int32)) <<< ((24 : Int32) &&& 31)) ||| (((f'_41 ((own_P p0 p1 q2 p3 p4) + (1 : Int32)).toInt.toNat) &&& (255 : Int32)) <<< ((16 : Int32) &&& 31))) ||| (((f'_41 ((own_P p0 p1 q2 p3 p4) + (2 : Int32)).toInt.toNat) &&& (255 : Int32)) <<< ((8 : Int32) &&& 31))) ||| ((f'_41 ((own_P p0 p1 q2 p3 p4) + (3 : Int32)).toInt.toNat) &&& (255 : Int32))))] [(.int p1), (.int ((((((f'_41 (own_P p0 p1 q2 p3 p4).toInt.toNat) &&& (255 : Int32)) <<< ((24 : Int32) &&& 31)) ||| (((f'_41 ((own_P p0 p1 q2 p3 p4) + (1 : Int32)).toInt.toNat) &&& (255 : Int32)) <<< ((16 : Int32) &&& 31))) ||| (((f'_41 ((own_P p0 p1 q2 p3 p4) + (2 : Int32)).toInt.toNat) &&& (255 : Int32)) <<< ((8 : Int32) &&& 31))) ||| ((f'_41 ((own_P p0 p1 q2 p3 p4) + (3 : Int32)).toInt.toNat) &&& (255 : Int32))))])) _
    refine XS.icmpNo X47.here hx rfl (hb hby at_250) rfl (teq hok.1).2 ?_
    show Steps p.tables e below (T47.setTop (mkF m 253 #[.val (.int p0), .val (.int p1), .val (.long q2), .second, .val (.int p3), .val (.int p4), .val (.ref b1), .val (.int (own_P p0 p1 q2 p3 p4)), .val (.ref b26), .val (.ref br_41), .val (.int ((((((f'_41 (own_P p0 p1 q2 p3 p4).toInt.toNat) &&& (255 : Int32)) <<< ((24 : Int32) &&& 31)) ||| (((f'_41 ((own_P p0 p1 q2 p3 p4) + (1 : Int32)).toInt.toNat) &&& (255 : Int32)) <<< ((16 : Int32) &&& 31))) ||| (((f'_41 ((own_P p0 p1 q2 p3 p4) + (2 : Int32)).toInt.toNat) &&& (255 : Int32)) <<< ((8 : Int32) &&& 31))) ||| ((f'_41 ((own_P p0 p1 q2 p3 p4) + (3 : Int32)).toInt.toNat) &&& (255 : Int32))))] [])) _
    exact k
  obtain ⟨gv, hgv⟩ : ∃ z, z = ((((((f'_41 (own_P p0 p1 q2 p3 p4).toInt.toNat) &&& (255 : Int32)) <<< ((24 : Int32) &&& 31)) ||| (((f'_41 ((own_P p0 p1 q2 p3 p4) + (1 : Int32)).toInt.toNat) &&& (255 : Int32)) <<< ((16 : Int32) &&& 31))) ||| (((f'_41 ((own_P p0 p1 q2 p3 p4) + (2 : Int32)).toInt.toNat) &&& (255 : Int32)) <<< ((8 : Int32) &&& 31))) ||| ((f'_41 ((own_P p0 p1 q2 p3 p4) + (3 : Int32)).toInt.toNat) &&& (255 : Int32))) := ⟨_, rfl⟩
  refine own_go (T' := T47) (f' := (mkF m 253 #[.val (.int p0), .val (.int p1), .val (.long q2), .second, .val (.int p3), .val (.int p4), .val (.ref b1), .val (.int (own_P p0 p1 q2 p3 p4)), .val (.ref b26), .val (.ref br_41), .val (.int gv)] [])) (fun t k => by rw [hgv] at k; exact k) ?_
  refine own_go (T' := T47) (f' := (mkF m 260 #[.val (.int p0), .val (.int p1), .val (.long q2), .second, .val (.int p3), .val (.int p4), .val (.ref b1), .val (.int (own_P p0 p1 q2 p3 p4)), .val (.ref b26), .val (.ref br_41), .val (.int gv)] [(.int (own_P p0 p1 q2 p3 p4)), (.int (0 : Int32)), (.ref b1), (.ref br_41)])) (fun t k => ?_) ?_
  · show Steps p.tables e below (T47.setTop (mkF m 253 #[.val (.int p0), .val (.int p1), .val (.long q2), .second, .val (.int p3), .val (.int p4), .val (.ref b1), .val (.int (own_P p0 p1 q2 p3 p4)), .val (.ref b26), .val (.ref br_41), .val (.int gv)] [])) _
    refine XS.aload X47.here hx rfl (hb hby at_253) rfl rfl ?_
    show Steps p.tables e below (T47.setTop (mkF m 255 #[.val (.int p0), .val (.int p1), .val (.long q2), .second, .val (.int p3), .val (.int p4), .val (.ref b1), .val (.int (own_P p0 p1 q2 p3 p4)), .val (.ref b26), .val (.ref br_41), .val (.int gv)] [(.ref br_41)])) _
    refine XS.aload X47.here hx rfl (hb hby at_255) rfl rfl ?_
    show Steps p.tables e below (T47.setTop (mkF m 257 #[.val (.int p0), .val (.int p1), .val (.long q2), .second, .val (.int p3), .val (.int p4), .val (.ref b1), .val (.int (own_P p0 p1 q2 p3 p4)), .val (.ref b26), .val (.ref br_41), .val (.int gv)] [(.ref b1), (.ref br_41)])) _
    refine XS.iconst X47.here hx rfl (hb hby at_257) ?_
    show Steps p.tables e below (T47.setTop (mkF m 258 #[.val (.int p0), .val (.int p1), .val (.long q2), .second, .val (.int p3), .val (.int p4), .val (.ref b1), .val (.int (own_P p0 p1 q2 p3 p4)), .val (.ref b26), .val (.ref br_41), .val (.int gv)] [(.int (0 : Int32)), (.ref b1), (.ref br_41)])) _
    refine XS.iload X47.here hx rfl (hb hby at_258) rfl ?_
    show Steps p.tables e below (T47.setTop (mkF m 260 #[.val (.int p0), .val (.int p1), .val (.long q2), .second, .val (.int p3), .val (.int p4), .val (.ref b1), .val (.int (own_P p0 p1 q2 p3 p4)), .val (.ref b26), .val (.ref br_41), .val (.int gv)] [(.int (own_P p0 p1 q2 p3 p4)), (.int (0 : Int32)), (.ref b1), (.ref br_41)])) _
    exact k
  obtain ⟨T48, Lq48, X48, N48, hQ48, st48⟩ := own_pf0 (vv := some (.int (own_F11 (0 : Int32) (own_P p0 p1 q2 p3 p4) ((0 : Int32) + (12 : Int32)) f'_41 (12 : Int32) y24))) N47 (Jvm.LawKit.callS X47 hx (y := (⟨"com/example/tracecourt/tracecourt/trace/OutWriteIntAtPinLaw", "kept", "([B[BII)Z"⟩ : MethodName)) hown (mvT hZ (hw _ (List.mem_of_getElem? (i := 60) rfl))) (mvT hZ (hw _ (List.mem_of_getElem? (i := 61) rfl))) (mvT hZ (hw _ (List.mem_of_getElem? (i := 62) rfl))) (mvT hZ (hw _ (List.mem_of_getElem? (i := 63) rfl))) (by decide) (backOf (W := 0) (own_rm11 l Z a0 hw [] br_41 b1 ((0 : Int32)) ((own_P p0 p1 q2 p3 p4)) (((0 : Int32) + (12 : Int32))) (f'_41) ((12 : Int32)) y24 T41.heap n0 Zs41 p41_0 fc42 (by decide) (by decide) (by decide)) hZ (hw _ (List.mem_of_getElem? (i := 63) rfl)) (hw _ (List.mem_of_getElem? (i := 62) rfl)) (by decide) (by decide)) (g := (mkF m 260 #[.val (.int p0), .val (.int p1), .val (.long q2), .second, .val (.int p3), .val (.int p4), .val (.ref b1), .val (.int (own_P p0 p1 q2 p3 p4)), .val (.ref b26), .val (.ref br_41), .val (.int gv)] [(.int (own_P p0 p1 q2 p3 p4)), (.int (0 : Int32)), (.ref b1), (.ref br_41)])) rfl (by rw [hml]; rfl) (argsL := [(.ref br_41), (.ref b1), (.int (0 : Int32)), (.int (own_P p0 p1 q2 p3 p4))]) (rest := []) (lenOf own_pd9 rfl) rfl (by show 2 * 0 + _ ≤ _; exact Nat.le_of_eq rfl) (hb hby at_260) (fun _ _ => ⟨rfl, h47q, (by decide : 4 + 0 ≤ _), (by decide : 89 + 0 ≤ _)⟩)) (fun _ _ _ q => q) (k1 := 4) (k2 := 89) rfl rfl
  have h48q : T48.heap = T41.heap := hQ48
  refine own_go (T' := T48) (f' := (mkF m 263 #[.val (.int p0), .val (.int p1), .val (.long q2), .second, .val (.int p3), .val (.int p4), .val (.ref b1), .val (.int (own_P p0 p1 q2 p3 p4)), .val (.ref b26), .val (.ref br_41), .val (.int gv)] [(.int (own_F11 (0 : Int32) (own_P p0 p1 q2 p3 p4) ((0 : Int32) + (12 : Int32)) f'_41 (12 : Int32) y24))])) (fun t k => st48 _ k) ?_
  refine own_go (T' := T48) (f' := (mkF m 273 #[.val (.int p0), .val (.int p1), .val (.long q2), .second, .val (.int p3), .val (.int p4), .val (.ref b1), .val (.int (own_P p0 p1 q2 p3 p4)), .val (.ref b26), .val (.ref br_41), .val (.int gv)] [(.int (own_P p0 p1 q2 p3 p4)), (.int (1 : Int32)), (.ref b1), (.ref br_41)])) (fun t k => ?_) ?_
  · show Steps p.tables e below (T48.setTop (mkF m 263 #[.val (.int p0), .val (.int p1), .val (.long q2), .second, .val (.int p3), .val (.int p4), .val (.ref b1), .val (.int (own_P p0 p1 q2 p3 p4)), .val (.ref b26), .val (.ref br_41), .val (.int gv)] [(.int (own_F11 (0 : Int32) (own_P p0 p1 q2 p3 p4) ((0 : Int32) + (12 : Int32)) f'_41 (12 : Int32) y24))])) _
    refine XS.ifNo X48.here hx rfl (hb hby at_263) rfl ((if0 _ _).trans (feq (hok.2 (0 : Int32) (by decide) (by decide))).1) ?_
    show Steps p.tables e below (T48.setTop (mkF m 266 #[.val (.int p0), .val (.int p1), .val (.long q2), .second, .val (.int p3), .val (.int p4), .val (.ref b1), .val (.int (own_P p0 p1 q2 p3 p4)), .val (.ref b26), .val (.ref br_41), .val (.int gv)] [])) _
    refine XS.aload X48.here hx rfl (hb hby at_266) rfl rfl ?_
    show Steps p.tables e below (T48.setTop (mkF m 268 #[.val (.int p0), .val (.int p1), .val (.long q2), .second, .val (.int p3), .val (.int p4), .val (.ref b1), .val (.int (own_P p0 p1 q2 p3 p4)), .val (.ref b26), .val (.ref br_41), .val (.int gv)] [(.ref br_41)])) _
    refine XS.aload X48.here hx rfl (hb hby at_268) rfl rfl ?_
    show Steps p.tables e below (T48.setTop (mkF m 270 #[.val (.int p0), .val (.int p1), .val (.long q2), .second, .val (.int p3), .val (.int p4), .val (.ref b1), .val (.int (own_P p0 p1 q2 p3 p4)), .val (.ref b26), .val (.ref br_41), .val (.int gv)] [(.ref b1), (.ref br_41)])) _
    refine XS.iconst X48.here hx rfl (hb hby at_270) ?_
    show Steps p.tables e below (T48.setTop (mkF m 271 #[.val (.int p0), .val (.int p1), .val (.long q2), .second, .val (.int p3), .val (.int p4), .val (.ref b1), .val (.int (own_P p0 p1 q2 p3 p4)), .val (.ref b26), .val (.ref br_41), .val (.int gv)] [(.int (1 : Int32)), (.ref b1), (.ref br_41)])) _
    refine XS.iload X48.here hx rfl (hb hby at_271) rfl ?_
    show Steps p.tables e below (T48.setTop (mkF m 273 #[.val (.int p0), .val (.int p1), .val (.long q2), .second, .val (.int p3), .val (.int p4), .val (.ref b1), .val (.int (own_P p0 p1 q2 p3 p4)), .val (.ref b26), .val (.ref br_41), .val (.int gv)] [(.int (own_P p0 p1 q2 p3 p4)), (.int (1 : Int32)), (.ref b1), (.ref br_41)])) _
    exact k
  obtain ⟨T49, Lq49, X49, N49, hQ49, st49⟩ := own_pf0 (vv := some (.int (own_F11 (1 : Int32) (own_P p0 p1 q2 p3 p4) ((0 : Int32) + (12 : Int32)) f'_41 (12 : Int32) y24))) N48 (Jvm.LawKit.callS X48 hx (y := (⟨"com/example/tracecourt/tracecourt/trace/OutWriteIntAtPinLaw", "kept", "([B[BII)Z"⟩ : MethodName)) hown (mvT hZ (hw _ (List.mem_of_getElem? (i := 60) rfl))) (mvT hZ (hw _ (List.mem_of_getElem? (i := 61) rfl))) (mvT hZ (hw _ (List.mem_of_getElem? (i := 62) rfl))) (mvT hZ (hw _ (List.mem_of_getElem? (i := 63) rfl))) (by decide) (backOf (W := 0) (own_rm11 l Z a0 hw [] br_41 b1 ((1 : Int32)) ((own_P p0 p1 q2 p3 p4)) (((0 : Int32) + (12 : Int32))) (f'_41) ((12 : Int32)) y24 T41.heap n0 Zs41 p41_0 fc42 (by decide) (by decide) (by decide)) hZ (hw _ (List.mem_of_getElem? (i := 63) rfl)) (hw _ (List.mem_of_getElem? (i := 62) rfl)) (by decide) (by decide)) (g := (mkF m 273 #[.val (.int p0), .val (.int p1), .val (.long q2), .second, .val (.int p3), .val (.int p4), .val (.ref b1), .val (.int (own_P p0 p1 q2 p3 p4)), .val (.ref b26), .val (.ref br_41), .val (.int gv)] [(.int (own_P p0 p1 q2 p3 p4)), (.int (1 : Int32)), (.ref b1), (.ref br_41)])) rfl (by rw [hml]; rfl) (argsL := [(.ref br_41), (.ref b1), (.int (1 : Int32)), (.int (own_P p0 p1 q2 p3 p4))]) (rest := []) (lenOf own_pd9 rfl) rfl (by show 2 * 0 + _ ≤ _; exact Nat.le_of_eq rfl) (hb hby at_273) (fun _ _ => ⟨rfl, h48q, (by decide : 4 + 0 ≤ _), (by decide : 89 + 0 ≤ _)⟩)) (fun _ _ _ q => q) (k1 := 4) (k2 := 89) rfl rfl
  have h49q : T49.heap = T41.heap := hQ49
  refine own_go (T' := T49) (f' := (mkF m 276 #[.val (.int p0), .val (.int p1), .val (.long q2), .second, .val (.int p3), .val (.int p4), .val (.ref b1), .val (.int (own_P p0 p1 q2 p3 p4)), .val (.ref b26), .val (.ref br_41), .val (.int gv)] [(.int (own_F11 (1 : Int32) (own_P p0 p1 q2 p3 p4) ((0 : Int32) + (12 : Int32)) f'_41 (12 : Int32) y24))])) (fun t k => st49 _ k) ?_
  refine own_go (T' := T49) (f' := (mkF m 286 #[.val (.int p0), .val (.int p1), .val (.long q2), .second, .val (.int p3), .val (.int p4), .val (.ref b1), .val (.int (own_P p0 p1 q2 p3 p4)), .val (.ref b26), .val (.ref br_41), .val (.int gv)] [(.int (own_P p0 p1 q2 p3 p4)), (.int (2 : Int32)), (.ref b1), (.ref br_41)])) (fun t k => ?_) ?_
  · show Steps p.tables e below (T49.setTop (mkF m 276 #[.val (.int p0), .val (.int p1), .val (.long q2), .second, .val (.int p3), .val (.int p4), .val (.ref b1), .val (.int (own_P p0 p1 q2 p3 p4)), .val (.ref b26), .val (.ref br_41), .val (.int gv)] [(.int (own_F11 (1 : Int32) (own_P p0 p1 q2 p3 p4) ((0 : Int32) + (12 : Int32)) f'_41 (12 : Int32) y24))])) _
    refine XS.ifNo X49.here hx rfl (hb hby at_276) rfl ((if0 _ _).trans (feq (hok.2 (1 : Int32) (by decide) (by decide))).1) ?_
    show Steps p.tables e below (T49.setTop (mkF m 279 #[.val (.int p0), .val (.int p1), .val (.long q2), .second, .val (.int p3), .val (.int p4), .val (.ref b1), .val (.int (own_P p0 p1 q2 p3 p4)), .val (.ref b26), .val (.ref br_41), .val (.int gv)] [])) _
    refine XS.aload X49.here hx rfl (hb hby at_279) rfl rfl ?_
    show Steps p.tables e below (T49.setTop (mkF m 281 #[.val (.int p0), .val (.int p1), .val (.long q2), .second, .val (.int p3), .val (.int p4), .val (.ref b1), .val (.int (own_P p0 p1 q2 p3 p4)), .val (.ref b26), .val (.ref br_41), .val (.int gv)] [(.ref br_41)])) _
    refine XS.aload X49.here hx rfl (hb hby at_281) rfl rfl ?_
    show Steps p.tables e below (T49.setTop (mkF m 283 #[.val (.int p0), .val (.int p1), .val (.long q2), .second, .val (.int p3), .val (.int p4), .val (.ref b1), .val (.int (own_P p0 p1 q2 p3 p4)), .val (.ref b26), .val (.ref br_41), .val (.int gv)] [(.ref b1), (.ref br_41)])) _
    refine XS.iconst X49.here hx rfl (hb hby at_283) ?_
    show Steps p.tables e below (T49.setTop (mkF m 284 #[.val (.int p0), .val (.int p1), .val (.long q2), .second, .val (.int p3), .val (.int p4), .val (.ref b1), .val (.int (own_P p0 p1 q2 p3 p4)), .val (.ref b26), .val (.ref br_41), .val (.int gv)] [(.int (2 : Int32)), (.ref b1), (.ref br_41)])) _
    refine XS.iload X49.here hx rfl (hb hby at_284) rfl ?_
    show Steps p.tables e below (T49.setTop (mkF m 286 #[.val (.int p0), .val (.int p1), .val (.long q2), .second, .val (.int p3), .val (.int p4), .val (.ref b1), .val (.int (own_P p0 p1 q2 p3 p4)), .val (.ref b26), .val (.ref br_41), .val (.int gv)] [(.int (own_P p0 p1 q2 p3 p4)), (.int (2 : Int32)), (.ref b1), (.ref br_41)])) _
    exact k
  obtain ⟨T50, Lq50, X50, N50, hQ50, st50⟩ := own_pf0 (vv := some (.int (own_F11 (2 : Int32) (own_P p0 p1 q2 p3 p4) ((0 : Int32) + (12 : Int32)) f'_41 (12 : Int32) y24))) N49 (Jvm.LawKit.callS X49 hx (y := (⟨"com/example/tracecourt/tracecourt/trace/OutWriteIntAtPinLaw", "kept", "([B[BII)Z"⟩ : MethodName)) hown (mvT hZ (hw _ (List.mem_of_getElem? (i := 60) rfl))) (mvT hZ (hw _ (List.mem_of_getElem? (i := 61) rfl))) (mvT hZ (hw _ (List.mem_of_getElem? (i := 62) rfl))) (mvT hZ (hw _ (List.mem_of_getElem? (i := 63) rfl))) (by decide) (backOf (W := 0) (own_rm11 l Z a0 hw [] br_41 b1 ((2 : Int32)) ((own_P p0 p1 q2 p3 p4)) (((0 : Int32) + (12 : Int32))) (f'_41) ((12 : Int32)) y24 T41.heap n0 Zs41 p41_0 fc42 (by decide) (by decide) (by decide)) hZ (hw _ (List.mem_of_getElem? (i := 63) rfl)) (hw _ (List.mem_of_getElem? (i := 62) rfl)) (by decide) (by decide)) (g := (mkF m 286 #[.val (.int p0), .val (.int p1), .val (.long q2), .second, .val (.int p3), .val (.int p4), .val (.ref b1), .val (.int (own_P p0 p1 q2 p3 p4)), .val (.ref b26), .val (.ref br_41), .val (.int gv)] [(.int (own_P p0 p1 q2 p3 p4)), (.int (2 : Int32)), (.ref b1), (.ref br_41)])) rfl (by rw [hml]; rfl) (argsL := [(.ref br_41), (.ref b1), (.int (2 : Int32)), (.int (own_P p0 p1 q2 p3 p4))]) (rest := []) (lenOf own_pd9 rfl) rfl (by show 2 * 0 + _ ≤ _; exact Nat.le_of_eq rfl) (hb hby at_286) (fun _ _ => ⟨rfl, h49q, (by decide : 4 + 0 ≤ _), (by decide : 89 + 0 ≤ _)⟩)) (fun _ _ _ q => q) (k1 := 4) (k2 := 89) rfl rfl
  have h50q : T50.heap = T41.heap := hQ50
  refine own_go (T' := T50) (f' := (mkF m 289 #[.val (.int p0), .val (.int p1), .val (.long q2), .second, .val (.int p3), .val (.int p4), .val (.ref b1), .val (.int (own_P p0 p1 q2 p3 p4)), .val (.ref b26), .val (.ref br_41), .val (.int gv)] [(.int (own_F11 (2 : Int32) (own_P p0 p1 q2 p3 p4) ((0 : Int32) + (12 : Int32)) f'_41 (12 : Int32) y24))])) (fun t k => st50 _ k) ?_
  refine own_go (T' := T50) (f' := (mkF m 299 #[.val (.int p0), .val (.int p1), .val (.long q2), .second, .val (.int p3), .val (.int p4), .val (.ref b1), .val (.int (own_P p0 p1 q2 p3 p4)), .val (.ref b26), .val (.ref br_41), .val (.int gv)] [(.int (own_P p0 p1 q2 p3 p4)), (.int (3 : Int32)), (.ref b1), (.ref br_41)])) (fun t k => ?_) ?_
  · show Steps p.tables e below (T50.setTop (mkF m 289 #[.val (.int p0), .val (.int p1), .val (.long q2), .second, .val (.int p3), .val (.int p4), .val (.ref b1), .val (.int (own_P p0 p1 q2 p3 p4)), .val (.ref b26), .val (.ref br_41), .val (.int gv)] [(.int (own_F11 (2 : Int32) (own_P p0 p1 q2 p3 p4) ((0 : Int32) + (12 : Int32)) f'_41 (12 : Int32) y24))])) _
    refine XS.ifNo X50.here hx rfl (hb hby at_289) rfl ((if0 _ _).trans (feq (hok.2 (2 : Int32) (by decide) (by decide))).1) ?_
    show Steps p.tables e below (T50.setTop (mkF m 292 #[.val (.int p0), .val (.int p1), .val (.long q2), .second, .val (.int p3), .val (.int p4), .val (.ref b1), .val (.int (own_P p0 p1 q2 p3 p4)), .val (.ref b26), .val (.ref br_41), .val (.int gv)] [])) _
    refine XS.aload X50.here hx rfl (hb hby at_292) rfl rfl ?_
    show Steps p.tables e below (T50.setTop (mkF m 294 #[.val (.int p0), .val (.int p1), .val (.long q2), .second, .val (.int p3), .val (.int p4), .val (.ref b1), .val (.int (own_P p0 p1 q2 p3 p4)), .val (.ref b26), .val (.ref br_41), .val (.int gv)] [(.ref br_41)])) _
    refine XS.aload X50.here hx rfl (hb hby at_294) rfl rfl ?_
    show Steps p.tables e below (T50.setTop (mkF m 296 #[.val (.int p0), .val (.int p1), .val (.long q2), .second, .val (.int p3), .val (.int p4), .val (.ref b1), .val (.int (own_P p0 p1 q2 p3 p4)), .val (.ref b26), .val (.ref br_41), .val (.int gv)] [(.ref b1), (.ref br_41)])) _
    refine XS.iconst X50.here hx rfl (hb hby at_296) ?_
    show Steps p.tables e below (T50.setTop (mkF m 297 #[.val (.int p0), .val (.int p1), .val (.long q2), .second, .val (.int p3), .val (.int p4), .val (.ref b1), .val (.int (own_P p0 p1 q2 p3 p4)), .val (.ref b26), .val (.ref br_41), .val (.int gv)] [(.int (3 : Int32)), (.ref b1), (.ref br_41)])) _
    refine XS.iload X50.here hx rfl (hb hby at_297) rfl ?_
    show Steps p.tables e below (T50.setTop (mkF m 299 #[.val (.int p0), .val (.int p1), .val (.long q2), .second, .val (.int p3), .val (.int p4), .val (.ref b1), .val (.int (own_P p0 p1 q2 p3 p4)), .val (.ref b26), .val (.ref br_41), .val (.int gv)] [(.int (own_P p0 p1 q2 p3 p4)), (.int (3 : Int32)), (.ref b1), (.ref br_41)])) _
    exact k
  obtain ⟨T51, Lq51, X51, N51, hQ51, st51⟩ := own_pf0 (vv := some (.int (own_F11 (3 : Int32) (own_P p0 p1 q2 p3 p4) ((0 : Int32) + (12 : Int32)) f'_41 (12 : Int32) y24))) N50 (Jvm.LawKit.callS X50 hx (y := (⟨"com/example/tracecourt/tracecourt/trace/OutWriteIntAtPinLaw", "kept", "([B[BII)Z"⟩ : MethodName)) hown (mvT hZ (hw _ (List.mem_of_getElem? (i := 60) rfl))) (mvT hZ (hw _ (List.mem_of_getElem? (i := 61) rfl))) (mvT hZ (hw _ (List.mem_of_getElem? (i := 62) rfl))) (mvT hZ (hw _ (List.mem_of_getElem? (i := 63) rfl))) (by decide) (backOf (W := 0) (own_rm11 l Z a0 hw [] br_41 b1 ((3 : Int32)) ((own_P p0 p1 q2 p3 p4)) (((0 : Int32) + (12 : Int32))) (f'_41) ((12 : Int32)) y24 T41.heap n0 Zs41 p41_0 fc42 (by decide) (by decide) (by decide)) hZ (hw _ (List.mem_of_getElem? (i := 63) rfl)) (hw _ (List.mem_of_getElem? (i := 62) rfl)) (by decide) (by decide)) (g := (mkF m 299 #[.val (.int p0), .val (.int p1), .val (.long q2), .second, .val (.int p3), .val (.int p4), .val (.ref b1), .val (.int (own_P p0 p1 q2 p3 p4)), .val (.ref b26), .val (.ref br_41), .val (.int gv)] [(.int (own_P p0 p1 q2 p3 p4)), (.int (3 : Int32)), (.ref b1), (.ref br_41)])) rfl (by rw [hml]; rfl) (argsL := [(.ref br_41), (.ref b1), (.int (3 : Int32)), (.int (own_P p0 p1 q2 p3 p4))]) (rest := []) (lenOf own_pd9 rfl) rfl (by show 2 * 0 + _ ≤ _; exact Nat.le_of_eq rfl) (hb hby at_299) (fun _ _ => ⟨rfl, h50q, (by decide : 4 + 0 ≤ _), (by decide : 89 + 0 ≤ _)⟩)) (fun _ _ _ q => q) (k1 := 4) (k2 := 89) rfl rfl
  have h51q : T51.heap = T41.heap := hQ51
  refine own_go (T' := T51) (f' := (mkF m 302 #[.val (.int p0), .val (.int p1), .val (.long q2), .second, .val (.int p3), .val (.int p4), .val (.ref b1), .val (.int (own_P p0 p1 q2 p3 p4)), .val (.ref b26), .val (.ref br_41), .val (.int gv)] [(.int (own_F11 (3 : Int32) (own_P p0 p1 q2 p3 p4) ((0 : Int32) + (12 : Int32)) f'_41 (12 : Int32) y24))])) (fun t k => st51 _ k) ?_
  refine own_go (T' := T51) (f' := (mkF m 312 #[.val (.int p0), .val (.int p1), .val (.long q2), .second, .val (.int p3), .val (.int p4), .val (.ref b1), .val (.int (own_P p0 p1 q2 p3 p4)), .val (.ref b26), .val (.ref br_41), .val (.int gv)] [(.int (own_P p0 p1 q2 p3 p4)), (.int (4 : Int32)), (.ref b1), (.ref br_41)])) (fun t k => ?_) ?_
  · show Steps p.tables e below (T51.setTop (mkF m 302 #[.val (.int p0), .val (.int p1), .val (.long q2), .second, .val (.int p3), .val (.int p4), .val (.ref b1), .val (.int (own_P p0 p1 q2 p3 p4)), .val (.ref b26), .val (.ref br_41), .val (.int gv)] [(.int (own_F11 (3 : Int32) (own_P p0 p1 q2 p3 p4) ((0 : Int32) + (12 : Int32)) f'_41 (12 : Int32) y24))])) _
    refine XS.ifNo X51.here hx rfl (hb hby at_302) rfl ((if0 _ _).trans (feq (hok.2 (3 : Int32) (by decide) (by decide))).1) ?_
    show Steps p.tables e below (T51.setTop (mkF m 305 #[.val (.int p0), .val (.int p1), .val (.long q2), .second, .val (.int p3), .val (.int p4), .val (.ref b1), .val (.int (own_P p0 p1 q2 p3 p4)), .val (.ref b26), .val (.ref br_41), .val (.int gv)] [])) _
    refine XS.aload X51.here hx rfl (hb hby at_305) rfl rfl ?_
    show Steps p.tables e below (T51.setTop (mkF m 307 #[.val (.int p0), .val (.int p1), .val (.long q2), .second, .val (.int p3), .val (.int p4), .val (.ref b1), .val (.int (own_P p0 p1 q2 p3 p4)), .val (.ref b26), .val (.ref br_41), .val (.int gv)] [(.ref br_41)])) _
    refine XS.aload X51.here hx rfl (hb hby at_307) rfl rfl ?_
    show Steps p.tables e below (T51.setTop (mkF m 309 #[.val (.int p0), .val (.int p1), .val (.long q2), .second, .val (.int p3), .val (.int p4), .val (.ref b1), .val (.int (own_P p0 p1 q2 p3 p4)), .val (.ref b26), .val (.ref br_41), .val (.int gv)] [(.ref b1), (.ref br_41)])) _
    refine XS.iconst X51.here hx rfl (hb hby at_309) ?_
    show Steps p.tables e below (T51.setTop (mkF m 310 #[.val (.int p0), .val (.int p1), .val (.long q2), .second, .val (.int p3), .val (.int p4), .val (.ref b1), .val (.int (own_P p0 p1 q2 p3 p4)), .val (.ref b26), .val (.ref br_41), .val (.int gv)] [(.int (4 : Int32)), (.ref b1), (.ref br_41)])) _
    refine XS.iload X51.here hx rfl (hb hby at_310) rfl ?_
    show Steps p.tables e below (T51.setTop (mkF m 312 #[.val (.int p0), .val (.int p1), .val (.long q2), .second, .val (.int p3), .val (.int p4), .val (.ref b1), .val (.int (own_P p0 p1 q2 p3 p4)), .val (.ref b26), .val (.ref br_41), .val (.int gv)] [(.int (own_P p0 p1 q2 p3 p4)), (.int (4 : Int32)), (.ref b1), (.ref br_41)])) _
    exact k
  obtain ⟨T52, Lq52, X52, N52, hQ52, st52⟩ := own_pf0 (vv := some (.int (own_F11 (4 : Int32) (own_P p0 p1 q2 p3 p4) ((0 : Int32) + (12 : Int32)) f'_41 (12 : Int32) y24))) N51 (Jvm.LawKit.callS X51 hx (y := (⟨"com/example/tracecourt/tracecourt/trace/OutWriteIntAtPinLaw", "kept", "([B[BII)Z"⟩ : MethodName)) hown (mvT hZ (hw _ (List.mem_of_getElem? (i := 60) rfl))) (mvT hZ (hw _ (List.mem_of_getElem? (i := 61) rfl))) (mvT hZ (hw _ (List.mem_of_getElem? (i := 62) rfl))) (mvT hZ (hw _ (List.mem_of_getElem? (i := 63) rfl))) (by decide) (backOf (W := 0) (own_rm11 l Z a0 hw [] br_41 b1 ((4 : Int32)) ((own_P p0 p1 q2 p3 p4)) (((0 : Int32) + (12 : Int32))) (f'_41) ((12 : Int32)) y24 T41.heap n0 Zs41 p41_0 fc42 (by decide) (by decide) (by decide)) hZ (hw _ (List.mem_of_getElem? (i := 63) rfl)) (hw _ (List.mem_of_getElem? (i := 62) rfl)) (by decide) (by decide)) (g := (mkF m 312 #[.val (.int p0), .val (.int p1), .val (.long q2), .second, .val (.int p3), .val (.int p4), .val (.ref b1), .val (.int (own_P p0 p1 q2 p3 p4)), .val (.ref b26), .val (.ref br_41), .val (.int gv)] [(.int (own_P p0 p1 q2 p3 p4)), (.int (4 : Int32)), (.ref b1), (.ref br_41)])) rfl (by rw [hml]; rfl) (argsL := [(.ref br_41), (.ref b1), (.int (4 : Int32)), (.int (own_P p0 p1 q2 p3 p4))]) (rest := []) (lenOf own_pd9 rfl) rfl (by show 2 * 0 + _ ≤ _; exact Nat.le_of_eq rfl) (hb hby at_312) (fun _ _ => ⟨rfl, h51q, (by decide : 4 + 0 ≤ _), (by decide : 89 + 0 ≤ _)⟩)) (fun _ _ _ q => q) (k1 := 4) (k2 := 89) rfl rfl
  have h52q : T52.heap = T41.heap := hQ52
  refine own_go (T' := T52) (f' := (mkF m 315 #[.val (.int p0), .val (.int p1), .val (.long q2), .second, .val (.int p3), .val (.int p4), .val (.ref b1), .val (.int (own_P p0 p1 q2 p3 p4)), .val (.ref b26), .val (.ref br_41), .val (.int gv)] [(.int (own_F11 (4 : Int32) (own_P p0 p1 q2 p3 p4) ((0 : Int32) + (12 : Int32)) f'_41 (12 : Int32) y24))])) (fun t k => st52 _ k) ?_
  refine own_go (T' := T52) (f' := (mkF m 325 #[.val (.int p0), .val (.int p1), .val (.long q2), .second, .val (.int p3), .val (.int p4), .val (.ref b1), .val (.int (own_P p0 p1 q2 p3 p4)), .val (.ref b26), .val (.ref br_41), .val (.int gv)] [(.int (own_P p0 p1 q2 p3 p4)), (.int (5 : Int32)), (.ref b1), (.ref br_41)])) (fun t k => ?_) ?_
  · show Steps p.tables e below (T52.setTop (mkF m 315 #[.val (.int p0), .val (.int p1), .val (.long q2), .second, .val (.int p3), .val (.int p4), .val (.ref b1), .val (.int (own_P p0 p1 q2 p3 p4)), .val (.ref b26), .val (.ref br_41), .val (.int gv)] [(.int (own_F11 (4 : Int32) (own_P p0 p1 q2 p3 p4) ((0 : Int32) + (12 : Int32)) f'_41 (12 : Int32) y24))])) _
    refine XS.ifNo X52.here hx rfl (hb hby at_315) rfl ((if0 _ _).trans (feq (hok.2 (4 : Int32) (by decide) (by decide))).1) ?_
    show Steps p.tables e below (T52.setTop (mkF m 318 #[.val (.int p0), .val (.int p1), .val (.long q2), .second, .val (.int p3), .val (.int p4), .val (.ref b1), .val (.int (own_P p0 p1 q2 p3 p4)), .val (.ref b26), .val (.ref br_41), .val (.int gv)] [])) _
    refine XS.aload X52.here hx rfl (hb hby at_318) rfl rfl ?_
    show Steps p.tables e below (T52.setTop (mkF m 320 #[.val (.int p0), .val (.int p1), .val (.long q2), .second, .val (.int p3), .val (.int p4), .val (.ref b1), .val (.int (own_P p0 p1 q2 p3 p4)), .val (.ref b26), .val (.ref br_41), .val (.int gv)] [(.ref br_41)])) _
    refine XS.aload X52.here hx rfl (hb hby at_320) rfl rfl ?_
    show Steps p.tables e below (T52.setTop (mkF m 322 #[.val (.int p0), .val (.int p1), .val (.long q2), .second, .val (.int p3), .val (.int p4), .val (.ref b1), .val (.int (own_P p0 p1 q2 p3 p4)), .val (.ref b26), .val (.ref br_41), .val (.int gv)] [(.ref b1), (.ref br_41)])) _
    refine XS.iconst X52.here hx rfl (hb hby at_322) ?_
    show Steps p.tables e below (T52.setTop (mkF m 323 #[.val (.int p0), .val (.int p1), .val (.long q2), .second, .val (.int p3), .val (.int p4), .val (.ref b1), .val (.int (own_P p0 p1 q2 p3 p4)), .val (.ref b26), .val (.ref br_41), .val (.int gv)] [(.int (5 : Int32)), (.ref b1), (.ref br_41)])) _
    refine XS.iload X52.here hx rfl (hb hby at_323) rfl ?_
    show Steps p.tables e below (T52.setTop (mkF m 325 #[.val (.int p0), .val (.int p1), .val (.long q2), .second, .val (.int p3), .val (.int p4), .val (.ref b1), .val (.int (own_P p0 p1 q2 p3 p4)), .val (.ref b26), .val (.ref br_41), .val (.int gv)] [(.int (own_P p0 p1 q2 p3 p4)), (.int (5 : Int32)), (.ref b1), (.ref br_41)])) _
    exact k
  obtain ⟨T53, Lq53, X53, N53, hQ53, st53⟩ := own_pf0 (vv := some (.int (own_F11 (5 : Int32) (own_P p0 p1 q2 p3 p4) ((0 : Int32) + (12 : Int32)) f'_41 (12 : Int32) y24))) N52 (Jvm.LawKit.callS X52 hx (y := (⟨"com/example/tracecourt/tracecourt/trace/OutWriteIntAtPinLaw", "kept", "([B[BII)Z"⟩ : MethodName)) hown (mvT hZ (hw _ (List.mem_of_getElem? (i := 60) rfl))) (mvT hZ (hw _ (List.mem_of_getElem? (i := 61) rfl))) (mvT hZ (hw _ (List.mem_of_getElem? (i := 62) rfl))) (mvT hZ (hw _ (List.mem_of_getElem? (i := 63) rfl))) (by decide) (backOf (W := 0) (own_rm11 l Z a0 hw [] br_41 b1 ((5 : Int32)) ((own_P p0 p1 q2 p3 p4)) (((0 : Int32) + (12 : Int32))) (f'_41) ((12 : Int32)) y24 T41.heap n0 Zs41 p41_0 fc42 (by decide) (by decide) (by decide)) hZ (hw _ (List.mem_of_getElem? (i := 63) rfl)) (hw _ (List.mem_of_getElem? (i := 62) rfl)) (by decide) (by decide)) (g := (mkF m 325 #[.val (.int p0), .val (.int p1), .val (.long q2), .second, .val (.int p3), .val (.int p4), .val (.ref b1), .val (.int (own_P p0 p1 q2 p3 p4)), .val (.ref b26), .val (.ref br_41), .val (.int gv)] [(.int (own_P p0 p1 q2 p3 p4)), (.int (5 : Int32)), (.ref b1), (.ref br_41)])) rfl (by rw [hml]; rfl) (argsL := [(.ref br_41), (.ref b1), (.int (5 : Int32)), (.int (own_P p0 p1 q2 p3 p4))]) (rest := []) (lenOf own_pd9 rfl) rfl (by show 2 * 0 + _ ≤ _; exact Nat.le_of_eq rfl) (hb hby at_325) (fun _ _ => ⟨rfl, h52q, (by decide : 4 + 0 ≤ _), (by decide : 89 + 0 ≤ _)⟩)) (fun _ _ _ q => q) (k1 := 4) (k2 := 89) rfl rfl
  have h53q : T53.heap = T41.heap := hQ53
  refine own_go (T' := T53) (f' := (mkF m 328 #[.val (.int p0), .val (.int p1), .val (.long q2), .second, .val (.int p3), .val (.int p4), .val (.ref b1), .val (.int (own_P p0 p1 q2 p3 p4)), .val (.ref b26), .val (.ref br_41), .val (.int gv)] [(.int (own_F11 (5 : Int32) (own_P p0 p1 q2 p3 p4) ((0 : Int32) + (12 : Int32)) f'_41 (12 : Int32) y24))])) (fun t k => st53 _ k) ?_
  refine own_go (T' := T53) (f' := (mkF m 339 #[.val (.int p0), .val (.int p1), .val (.long q2), .second, .val (.int p3), .val (.int p4), .val (.ref b1), .val (.int (own_P p0 p1 q2 p3 p4)), .val (.ref b26), .val (.ref br_41), .val (.int gv)] [(.int (own_P p0 p1 q2 p3 p4)), (.int (6 : Int32)), (.ref b1), (.ref br_41)])) (fun t k => ?_) ?_
  · show Steps p.tables e below (T53.setTop (mkF m 328 #[.val (.int p0), .val (.int p1), .val (.long q2), .second, .val (.int p3), .val (.int p4), .val (.ref b1), .val (.int (own_P p0 p1 q2 p3 p4)), .val (.ref b26), .val (.ref br_41), .val (.int gv)] [(.int (own_F11 (5 : Int32) (own_P p0 p1 q2 p3 p4) ((0 : Int32) + (12 : Int32)) f'_41 (12 : Int32) y24))])) _
    refine XS.ifNo X53.here hx rfl (hb hby at_328) rfl ((if0 _ _).trans (feq (hok.2 (5 : Int32) (by decide) (by decide))).1) ?_
    show Steps p.tables e below (T53.setTop (mkF m 331 #[.val (.int p0), .val (.int p1), .val (.long q2), .second, .val (.int p3), .val (.int p4), .val (.ref b1), .val (.int (own_P p0 p1 q2 p3 p4)), .val (.ref b26), .val (.ref br_41), .val (.int gv)] [])) _
    refine XS.aload X53.here hx rfl (hb hby at_331) rfl rfl ?_
    show Steps p.tables e below (T53.setTop (mkF m 333 #[.val (.int p0), .val (.int p1), .val (.long q2), .second, .val (.int p3), .val (.int p4), .val (.ref b1), .val (.int (own_P p0 p1 q2 p3 p4)), .val (.ref b26), .val (.ref br_41), .val (.int gv)] [(.ref br_41)])) _
    refine XS.aload X53.here hx rfl (hb hby at_333) rfl rfl ?_
    show Steps p.tables e below (T53.setTop (mkF m 335 #[.val (.int p0), .val (.int p1), .val (.long q2), .second, .val (.int p3), .val (.int p4), .val (.ref b1), .val (.int (own_P p0 p1 q2 p3 p4)), .val (.ref b26), .val (.ref br_41), .val (.int gv)] [(.ref b1), (.ref br_41)])) _
    refine XS.bipush X53.here hx rfl (hb hby at_335) ?_
    show Steps p.tables e below (T53.setTop (mkF m 337 #[.val (.int p0), .val (.int p1), .val (.long q2), .second, .val (.int p3), .val (.int p4), .val (.ref b1), .val (.int (own_P p0 p1 q2 p3 p4)), .val (.ref b26), .val (.ref br_41), .val (.int gv)] [(.int (6 : Int32)), (.ref b1), (.ref br_41)])) _
    refine XS.iload X53.here hx rfl (hb hby at_337) rfl ?_
    show Steps p.tables e below (T53.setTop (mkF m 339 #[.val (.int p0), .val (.int p1), .val (.long q2), .second, .val (.int p3), .val (.int p4), .val (.ref b1), .val (.int (own_P p0 p1 q2 p3 p4)), .val (.ref b26), .val (.ref br_41), .val (.int gv)] [(.int (own_P p0 p1 q2 p3 p4)), (.int (6 : Int32)), (.ref b1), (.ref br_41)])) _
    exact k
  obtain ⟨T54, Lq54, X54, N54, hQ54, st54⟩ := own_pf0 (vv := some (.int (own_F11 (6 : Int32) (own_P p0 p1 q2 p3 p4) ((0 : Int32) + (12 : Int32)) f'_41 (12 : Int32) y24))) N53 (Jvm.LawKit.callS X53 hx (y := (⟨"com/example/tracecourt/tracecourt/trace/OutWriteIntAtPinLaw", "kept", "([B[BII)Z"⟩ : MethodName)) hown (mvT hZ (hw _ (List.mem_of_getElem? (i := 60) rfl))) (mvT hZ (hw _ (List.mem_of_getElem? (i := 61) rfl))) (mvT hZ (hw _ (List.mem_of_getElem? (i := 62) rfl))) (mvT hZ (hw _ (List.mem_of_getElem? (i := 63) rfl))) (by decide) (backOf (W := 0) (own_rm11 l Z a0 hw [] br_41 b1 ((6 : Int32)) ((own_P p0 p1 q2 p3 p4)) (((0 : Int32) + (12 : Int32))) (f'_41) ((12 : Int32)) y24 T41.heap n0 Zs41 p41_0 fc42 (by decide) (by decide) (by decide)) hZ (hw _ (List.mem_of_getElem? (i := 63) rfl)) (hw _ (List.mem_of_getElem? (i := 62) rfl)) (by decide) (by decide)) (g := (mkF m 339 #[.val (.int p0), .val (.int p1), .val (.long q2), .second, .val (.int p3), .val (.int p4), .val (.ref b1), .val (.int (own_P p0 p1 q2 p3 p4)), .val (.ref b26), .val (.ref br_41), .val (.int gv)] [(.int (own_P p0 p1 q2 p3 p4)), (.int (6 : Int32)), (.ref b1), (.ref br_41)])) rfl (by rw [hml]; rfl) (argsL := [(.ref br_41), (.ref b1), (.int (6 : Int32)), (.int (own_P p0 p1 q2 p3 p4))]) (rest := []) (lenOf own_pd9 rfl) rfl (by show 2 * 0 + _ ≤ _; exact Nat.le_of_eq rfl) (hb hby at_339) (fun _ _ => ⟨rfl, h53q, (by decide : 4 + 0 ≤ _), (by decide : 89 + 0 ≤ _)⟩)) (fun _ _ _ q => q) (k1 := 4) (k2 := 89) rfl rfl
  have h54q : T54.heap = T41.heap := hQ54
  refine own_go (T' := T54) (f' := (mkF m 342 #[.val (.int p0), .val (.int p1), .val (.long q2), .second, .val (.int p3), .val (.int p4), .val (.ref b1), .val (.int (own_P p0 p1 q2 p3 p4)), .val (.ref b26), .val (.ref br_41), .val (.int gv)] [(.int (own_F11 (6 : Int32) (own_P p0 p1 q2 p3 p4) ((0 : Int32) + (12 : Int32)) f'_41 (12 : Int32) y24))])) (fun t k => st54 _ k) ?_
  refine own_go (T' := T54) (f' := (mkF m 353 #[.val (.int p0), .val (.int p1), .val (.long q2), .second, .val (.int p3), .val (.int p4), .val (.ref b1), .val (.int (own_P p0 p1 q2 p3 p4)), .val (.ref b26), .val (.ref br_41), .val (.int gv)] [(.int (own_P p0 p1 q2 p3 p4)), (.int (7 : Int32)), (.ref b1), (.ref br_41)])) (fun t k => ?_) ?_
  · show Steps p.tables e below (T54.setTop (mkF m 342 #[.val (.int p0), .val (.int p1), .val (.long q2), .second, .val (.int p3), .val (.int p4), .val (.ref b1), .val (.int (own_P p0 p1 q2 p3 p4)), .val (.ref b26), .val (.ref br_41), .val (.int gv)] [(.int (own_F11 (6 : Int32) (own_P p0 p1 q2 p3 p4) ((0 : Int32) + (12 : Int32)) f'_41 (12 : Int32) y24))])) _
    refine XS.ifNo X54.here hx rfl (hb hby at_342) rfl ((if0 _ _).trans (feq (hok.2 (6 : Int32) (by decide) (by decide))).1) ?_
    show Steps p.tables e below (T54.setTop (mkF m 345 #[.val (.int p0), .val (.int p1), .val (.long q2), .second, .val (.int p3), .val (.int p4), .val (.ref b1), .val (.int (own_P p0 p1 q2 p3 p4)), .val (.ref b26), .val (.ref br_41), .val (.int gv)] [])) _
    refine XS.aload X54.here hx rfl (hb hby at_345) rfl rfl ?_
    show Steps p.tables e below (T54.setTop (mkF m 347 #[.val (.int p0), .val (.int p1), .val (.long q2), .second, .val (.int p3), .val (.int p4), .val (.ref b1), .val (.int (own_P p0 p1 q2 p3 p4)), .val (.ref b26), .val (.ref br_41), .val (.int gv)] [(.ref br_41)])) _
    refine XS.aload X54.here hx rfl (hb hby at_347) rfl rfl ?_
    show Steps p.tables e below (T54.setTop (mkF m 349 #[.val (.int p0), .val (.int p1), .val (.long q2), .second, .val (.int p3), .val (.int p4), .val (.ref b1), .val (.int (own_P p0 p1 q2 p3 p4)), .val (.ref b26), .val (.ref br_41), .val (.int gv)] [(.ref b1), (.ref br_41)])) _
    refine XS.bipush X54.here hx rfl (hb hby at_349) ?_
    show Steps p.tables e below (T54.setTop (mkF m 351 #[.val (.int p0), .val (.int p1), .val (.long q2), .second, .val (.int p3), .val (.int p4), .val (.ref b1), .val (.int (own_P p0 p1 q2 p3 p4)), .val (.ref b26), .val (.ref br_41), .val (.int gv)] [(.int (7 : Int32)), (.ref b1), (.ref br_41)])) _
    refine XS.iload X54.here hx rfl (hb hby at_351) rfl ?_
    show Steps p.tables e below (T54.setTop (mkF m 353 #[.val (.int p0), .val (.int p1), .val (.long q2), .second, .val (.int p3), .val (.int p4), .val (.ref b1), .val (.int (own_P p0 p1 q2 p3 p4)), .val (.ref b26), .val (.ref br_41), .val (.int gv)] [(.int (own_P p0 p1 q2 p3 p4)), (.int (7 : Int32)), (.ref b1), (.ref br_41)])) _
    exact k
  obtain ⟨T55, Lq55, X55, N55, hQ55, st55⟩ := own_pf0 (vv := some (.int (own_F11 (7 : Int32) (own_P p0 p1 q2 p3 p4) ((0 : Int32) + (12 : Int32)) f'_41 (12 : Int32) y24))) N54 (Jvm.LawKit.callS X54 hx (y := (⟨"com/example/tracecourt/tracecourt/trace/OutWriteIntAtPinLaw", "kept", "([B[BII)Z"⟩ : MethodName)) hown (mvT hZ (hw _ (List.mem_of_getElem? (i := 60) rfl))) (mvT hZ (hw _ (List.mem_of_getElem? (i := 61) rfl))) (mvT hZ (hw _ (List.mem_of_getElem? (i := 62) rfl))) (mvT hZ (hw _ (List.mem_of_getElem? (i := 63) rfl))) (by decide) (backOf (W := 0) (own_rm11 l Z a0 hw [] br_41 b1 ((7 : Int32)) ((own_P p0 p1 q2 p3 p4)) (((0 : Int32) + (12 : Int32))) (f'_41) ((12 : Int32)) y24 T41.heap n0 Zs41 p41_0 fc42 (by decide) (by decide) (by decide)) hZ (hw _ (List.mem_of_getElem? (i := 63) rfl)) (hw _ (List.mem_of_getElem? (i := 62) rfl)) (by decide) (by decide)) (g := (mkF m 353 #[.val (.int p0), .val (.int p1), .val (.long q2), .second, .val (.int p3), .val (.int p4), .val (.ref b1), .val (.int (own_P p0 p1 q2 p3 p4)), .val (.ref b26), .val (.ref br_41), .val (.int gv)] [(.int (own_P p0 p1 q2 p3 p4)), (.int (7 : Int32)), (.ref b1), (.ref br_41)])) rfl (by rw [hml]; rfl) (argsL := [(.ref br_41), (.ref b1), (.int (7 : Int32)), (.int (own_P p0 p1 q2 p3 p4))]) (rest := []) (lenOf own_pd9 rfl) rfl (by show 2 * 0 + _ ≤ _; exact Nat.le_of_eq rfl) (hb hby at_353) (fun _ _ => ⟨rfl, h54q, (by decide : 4 + 0 ≤ _), (by decide : 89 + 0 ≤ _)⟩)) (fun _ _ _ q => q) (k1 := 4) (k2 := 89) rfl rfl
  have h55q : T55.heap = T41.heap := hQ55
  refine own_go (T' := T55) (f' := (mkF m 356 #[.val (.int p0), .val (.int p1), .val (.long q2), .second, .val (.int p3), .val (.int p4), .val (.ref b1), .val (.int (own_P p0 p1 q2 p3 p4)), .val (.ref b26), .val (.ref br_41), .val (.int gv)] [(.int (own_F11 (7 : Int32) (own_P p0 p1 q2 p3 p4) ((0 : Int32) + (12 : Int32)) f'_41 (12 : Int32) y24))])) (fun t k => st55 _ k) ?_
  refine own_go (T' := T55) (f' := (mkF m 367 #[.val (.int p0), .val (.int p1), .val (.long q2), .second, .val (.int p3), .val (.int p4), .val (.ref b1), .val (.int (own_P p0 p1 q2 p3 p4)), .val (.ref b26), .val (.ref br_41), .val (.int gv)] [(.int (own_P p0 p1 q2 p3 p4)), (.int (8 : Int32)), (.ref b1), (.ref br_41)])) (fun t k => ?_) ?_
  · show Steps p.tables e below (T55.setTop (mkF m 356 #[.val (.int p0), .val (.int p1), .val (.long q2), .second, .val (.int p3), .val (.int p4), .val (.ref b1), .val (.int (own_P p0 p1 q2 p3 p4)), .val (.ref b26), .val (.ref br_41), .val (.int gv)] [(.int (own_F11 (7 : Int32) (own_P p0 p1 q2 p3 p4) ((0 : Int32) + (12 : Int32)) f'_41 (12 : Int32) y24))])) _
    refine XS.ifNo X55.here hx rfl (hb hby at_356) rfl ((if0 _ _).trans (feq (hok.2 (7 : Int32) (by decide) (by decide))).1) ?_
    show Steps p.tables e below (T55.setTop (mkF m 359 #[.val (.int p0), .val (.int p1), .val (.long q2), .second, .val (.int p3), .val (.int p4), .val (.ref b1), .val (.int (own_P p0 p1 q2 p3 p4)), .val (.ref b26), .val (.ref br_41), .val (.int gv)] [])) _
    refine XS.aload X55.here hx rfl (hb hby at_359) rfl rfl ?_
    show Steps p.tables e below (T55.setTop (mkF m 361 #[.val (.int p0), .val (.int p1), .val (.long q2), .second, .val (.int p3), .val (.int p4), .val (.ref b1), .val (.int (own_P p0 p1 q2 p3 p4)), .val (.ref b26), .val (.ref br_41), .val (.int gv)] [(.ref br_41)])) _
    refine XS.aload X55.here hx rfl (hb hby at_361) rfl rfl ?_
    show Steps p.tables e below (T55.setTop (mkF m 363 #[.val (.int p0), .val (.int p1), .val (.long q2), .second, .val (.int p3), .val (.int p4), .val (.ref b1), .val (.int (own_P p0 p1 q2 p3 p4)), .val (.ref b26), .val (.ref br_41), .val (.int gv)] [(.ref b1), (.ref br_41)])) _
    refine XS.bipush X55.here hx rfl (hb hby at_363) ?_
    show Steps p.tables e below (T55.setTop (mkF m 365 #[.val (.int p0), .val (.int p1), .val (.long q2), .second, .val (.int p3), .val (.int p4), .val (.ref b1), .val (.int (own_P p0 p1 q2 p3 p4)), .val (.ref b26), .val (.ref br_41), .val (.int gv)] [(.int (8 : Int32)), (.ref b1), (.ref br_41)])) _
    refine XS.iload X55.here hx rfl (hb hby at_365) rfl ?_
    show Steps p.tables e below (T55.setTop (mkF m 367 #[.val (.int p0), .val (.int p1), .val (.long q2), .second, .val (.int p3), .val (.int p4), .val (.ref b1), .val (.int (own_P p0 p1 q2 p3 p4)), .val (.ref b26), .val (.ref br_41), .val (.int gv)] [(.int (own_P p0 p1 q2 p3 p4)), (.int (8 : Int32)), (.ref b1), (.ref br_41)])) _
    exact k
  obtain ⟨T56, Lq56, X56, N56, hQ56, st56⟩ := own_pf0 (vv := some (.int (own_F11 (8 : Int32) (own_P p0 p1 q2 p3 p4) ((0 : Int32) + (12 : Int32)) f'_41 (12 : Int32) y24))) N55 (Jvm.LawKit.callS X55 hx (y := (⟨"com/example/tracecourt/tracecourt/trace/OutWriteIntAtPinLaw", "kept", "([B[BII)Z"⟩ : MethodName)) hown (mvT hZ (hw _ (List.mem_of_getElem? (i := 60) rfl))) (mvT hZ (hw _ (List.mem_of_getElem? (i := 61) rfl))) (mvT hZ (hw _ (List.mem_of_getElem? (i := 62) rfl))) (mvT hZ (hw _ (List.mem_of_getElem? (i := 63) rfl))) (by decide) (backOf (W := 0) (own_rm11 l Z a0 hw [] br_41 b1 ((8 : Int32)) ((own_P p0 p1 q2 p3 p4)) (((0 : Int32) + (12 : Int32))) (f'_41) ((12 : Int32)) y24 T41.heap n0 Zs41 p41_0 fc42 (by decide) (by decide) (by decide)) hZ (hw _ (List.mem_of_getElem? (i := 63) rfl)) (hw _ (List.mem_of_getElem? (i := 62) rfl)) (by decide) (by decide)) (g := (mkF m 367 #[.val (.int p0), .val (.int p1), .val (.long q2), .second, .val (.int p3), .val (.int p4), .val (.ref b1), .val (.int (own_P p0 p1 q2 p3 p4)), .val (.ref b26), .val (.ref br_41), .val (.int gv)] [(.int (own_P p0 p1 q2 p3 p4)), (.int (8 : Int32)), (.ref b1), (.ref br_41)])) rfl (by rw [hml]; rfl) (argsL := [(.ref br_41), (.ref b1), (.int (8 : Int32)), (.int (own_P p0 p1 q2 p3 p4))]) (rest := []) (lenOf own_pd9 rfl) rfl (by show 2 * 0 + _ ≤ _; exact Nat.le_of_eq rfl) (hb hby at_367) (fun _ _ => ⟨rfl, h55q, (by decide : 4 + 0 ≤ _), (by decide : 89 + 0 ≤ _)⟩)) (fun _ _ _ q => q) (k1 := 4) (k2 := 89) rfl rfl
  have h56q : T56.heap = T41.heap := hQ56
  refine own_go (T' := T56) (f' := (mkF m 370 #[.val (.int p0), .val (.int p1), .val (.long q2), .second, .val (.int p3), .val (.int p4), .val (.ref b1), .val (.int (own_P p0 p1 q2 p3 p4)), .val (.ref b26), .val (.ref br_41), .val (.int gv)] [(.int (own_F11 (8 : Int32) (own_P p0 p1 q2 p3 p4) ((0 : Int32) + (12 : Int32)) f'_41 (12 : Int32) y24))])) (fun t k => st56 _ k) ?_
  refine own_go (T' := T56) (f' := (mkF m 381 #[.val (.int p0), .val (.int p1), .val (.long q2), .second, .val (.int p3), .val (.int p4), .val (.ref b1), .val (.int (own_P p0 p1 q2 p3 p4)), .val (.ref b26), .val (.ref br_41), .val (.int gv)] [(.int (own_P p0 p1 q2 p3 p4)), (.int (9 : Int32)), (.ref b1), (.ref br_41)])) (fun t k => ?_) ?_
  · show Steps p.tables e below (T56.setTop (mkF m 370 #[.val (.int p0), .val (.int p1), .val (.long q2), .second, .val (.int p3), .val (.int p4), .val (.ref b1), .val (.int (own_P p0 p1 q2 p3 p4)), .val (.ref b26), .val (.ref br_41), .val (.int gv)] [(.int (own_F11 (8 : Int32) (own_P p0 p1 q2 p3 p4) ((0 : Int32) + (12 : Int32)) f'_41 (12 : Int32) y24))])) _
    refine XS.ifNo X56.here hx rfl (hb hby at_370) rfl ((if0 _ _).trans (feq (hok.2 (8 : Int32) (by decide) (by decide))).1) ?_
    show Steps p.tables e below (T56.setTop (mkF m 373 #[.val (.int p0), .val (.int p1), .val (.long q2), .second, .val (.int p3), .val (.int p4), .val (.ref b1), .val (.int (own_P p0 p1 q2 p3 p4)), .val (.ref b26), .val (.ref br_41), .val (.int gv)] [])) _
    refine XS.aload X56.here hx rfl (hb hby at_373) rfl rfl ?_
    show Steps p.tables e below (T56.setTop (mkF m 375 #[.val (.int p0), .val (.int p1), .val (.long q2), .second, .val (.int p3), .val (.int p4), .val (.ref b1), .val (.int (own_P p0 p1 q2 p3 p4)), .val (.ref b26), .val (.ref br_41), .val (.int gv)] [(.ref br_41)])) _
    refine XS.aload X56.here hx rfl (hb hby at_375) rfl rfl ?_
    show Steps p.tables e below (T56.setTop (mkF m 377 #[.val (.int p0), .val (.int p1), .val (.long q2), .second, .val (.int p3), .val (.int p4), .val (.ref b1), .val (.int (own_P p0 p1 q2 p3 p4)), .val (.ref b26), .val (.ref br_41), .val (.int gv)] [(.ref b1), (.ref br_41)])) _
    refine XS.bipush X56.here hx rfl (hb hby at_377) ?_
    show Steps p.tables e below (T56.setTop (mkF m 379 #[.val (.int p0), .val (.int p1), .val (.long q2), .second, .val (.int p3), .val (.int p4), .val (.ref b1), .val (.int (own_P p0 p1 q2 p3 p4)), .val (.ref b26), .val (.ref br_41), .val (.int gv)] [(.int (9 : Int32)), (.ref b1), (.ref br_41)])) _
    refine XS.iload X56.here hx rfl (hb hby at_379) rfl ?_
    show Steps p.tables e below (T56.setTop (mkF m 381 #[.val (.int p0), .val (.int p1), .val (.long q2), .second, .val (.int p3), .val (.int p4), .val (.ref b1), .val (.int (own_P p0 p1 q2 p3 p4)), .val (.ref b26), .val (.ref br_41), .val (.int gv)] [(.int (own_P p0 p1 q2 p3 p4)), (.int (9 : Int32)), (.ref b1), (.ref br_41)])) _
    exact k
  obtain ⟨T57, Lq57, X57, N57, hQ57, st57⟩ := own_pf0 (vv := some (.int (own_F11 (9 : Int32) (own_P p0 p1 q2 p3 p4) ((0 : Int32) + (12 : Int32)) f'_41 (12 : Int32) y24))) N56 (Jvm.LawKit.callS X56 hx (y := (⟨"com/example/tracecourt/tracecourt/trace/OutWriteIntAtPinLaw", "kept", "([B[BII)Z"⟩ : MethodName)) hown (mvT hZ (hw _ (List.mem_of_getElem? (i := 60) rfl))) (mvT hZ (hw _ (List.mem_of_getElem? (i := 61) rfl))) (mvT hZ (hw _ (List.mem_of_getElem? (i := 62) rfl))) (mvT hZ (hw _ (List.mem_of_getElem? (i := 63) rfl))) (by decide) (backOf (W := 0) (own_rm11 l Z a0 hw [] br_41 b1 ((9 : Int32)) ((own_P p0 p1 q2 p3 p4)) (((0 : Int32) + (12 : Int32))) (f'_41) ((12 : Int32)) y24 T41.heap n0 Zs41 p41_0 fc42 (by decide) (by decide) (by decide)) hZ (hw _ (List.mem_of_getElem? (i := 63) rfl)) (hw _ (List.mem_of_getElem? (i := 62) rfl)) (by decide) (by decide)) (g := (mkF m 381 #[.val (.int p0), .val (.int p1), .val (.long q2), .second, .val (.int p3), .val (.int p4), .val (.ref b1), .val (.int (own_P p0 p1 q2 p3 p4)), .val (.ref b26), .val (.ref br_41), .val (.int gv)] [(.int (own_P p0 p1 q2 p3 p4)), (.int (9 : Int32)), (.ref b1), (.ref br_41)])) rfl (by rw [hml]; rfl) (argsL := [(.ref br_41), (.ref b1), (.int (9 : Int32)), (.int (own_P p0 p1 q2 p3 p4))]) (rest := []) (lenOf own_pd9 rfl) rfl (by show 2 * 0 + _ ≤ _; exact Nat.le_of_eq rfl) (hb hby at_381) (fun _ _ => ⟨rfl, h56q, (by decide : 4 + 0 ≤ _), (by decide : 89 + 0 ≤ _)⟩)) (fun _ _ _ q => q) (k1 := 4) (k2 := 89) rfl rfl
  have h57q : T57.heap = T41.heap := hQ57
  refine own_go (T' := T57) (f' := (mkF m 384 #[.val (.int p0), .val (.int p1), .val (.long q2), .second, .val (.int p3), .val (.int p4), .val (.ref b1), .val (.int (own_P p0 p1 q2 p3 p4)), .val (.ref b26), .val (.ref br_41), .val (.int gv)] [(.int (own_F11 (9 : Int32) (own_P p0 p1 q2 p3 p4) ((0 : Int32) + (12 : Int32)) f'_41 (12 : Int32) y24))])) (fun t k => st57 _ k) ?_
  refine own_go (T' := T57) (f' := (mkF m 395 #[.val (.int p0), .val (.int p1), .val (.long q2), .second, .val (.int p3), .val (.int p4), .val (.ref b1), .val (.int (own_P p0 p1 q2 p3 p4)), .val (.ref b26), .val (.ref br_41), .val (.int gv)] [(.int (own_P p0 p1 q2 p3 p4)), (.int (10 : Int32)), (.ref b1), (.ref br_41)])) (fun t k => ?_) ?_
  · show Steps p.tables e below (T57.setTop (mkF m 384 #[.val (.int p0), .val (.int p1), .val (.long q2), .second, .val (.int p3), .val (.int p4), .val (.ref b1), .val (.int (own_P p0 p1 q2 p3 p4)), .val (.ref b26), .val (.ref br_41), .val (.int gv)] [(.int (own_F11 (9 : Int32) (own_P p0 p1 q2 p3 p4) ((0 : Int32) + (12 : Int32)) f'_41 (12 : Int32) y24))])) _
    refine XS.ifNo X57.here hx rfl (hb hby at_384) rfl ((if0 _ _).trans (feq (hok.2 (9 : Int32) (by decide) (by decide))).1) ?_
    show Steps p.tables e below (T57.setTop (mkF m 387 #[.val (.int p0), .val (.int p1), .val (.long q2), .second, .val (.int p3), .val (.int p4), .val (.ref b1), .val (.int (own_P p0 p1 q2 p3 p4)), .val (.ref b26), .val (.ref br_41), .val (.int gv)] [])) _
    refine XS.aload X57.here hx rfl (hb hby at_387) rfl rfl ?_
    show Steps p.tables e below (T57.setTop (mkF m 389 #[.val (.int p0), .val (.int p1), .val (.long q2), .second, .val (.int p3), .val (.int p4), .val (.ref b1), .val (.int (own_P p0 p1 q2 p3 p4)), .val (.ref b26), .val (.ref br_41), .val (.int gv)] [(.ref br_41)])) _
    refine XS.aload X57.here hx rfl (hb hby at_389) rfl rfl ?_
    show Steps p.tables e below (T57.setTop (mkF m 391 #[.val (.int p0), .val (.int p1), .val (.long q2), .second, .val (.int p3), .val (.int p4), .val (.ref b1), .val (.int (own_P p0 p1 q2 p3 p4)), .val (.ref b26), .val (.ref br_41), .val (.int gv)] [(.ref b1), (.ref br_41)])) _
    refine XS.bipush X57.here hx rfl (hb hby at_391) ?_
    show Steps p.tables e below (T57.setTop (mkF m 393 #[.val (.int p0), .val (.int p1), .val (.long q2), .second, .val (.int p3), .val (.int p4), .val (.ref b1), .val (.int (own_P p0 p1 q2 p3 p4)), .val (.ref b26), .val (.ref br_41), .val (.int gv)] [(.int (10 : Int32)), (.ref b1), (.ref br_41)])) _
    refine XS.iload X57.here hx rfl (hb hby at_393) rfl ?_
    show Steps p.tables e below (T57.setTop (mkF m 395 #[.val (.int p0), .val (.int p1), .val (.long q2), .second, .val (.int p3), .val (.int p4), .val (.ref b1), .val (.int (own_P p0 p1 q2 p3 p4)), .val (.ref b26), .val (.ref br_41), .val (.int gv)] [(.int (own_P p0 p1 q2 p3 p4)), (.int (10 : Int32)), (.ref b1), (.ref br_41)])) _
    exact k
  obtain ⟨T58, Lq58, X58, N58, hQ58, st58⟩ := own_pf0 (vv := some (.int (own_F11 (10 : Int32) (own_P p0 p1 q2 p3 p4) ((0 : Int32) + (12 : Int32)) f'_41 (12 : Int32) y24))) N57 (Jvm.LawKit.callS X57 hx (y := (⟨"com/example/tracecourt/tracecourt/trace/OutWriteIntAtPinLaw", "kept", "([B[BII)Z"⟩ : MethodName)) hown (mvT hZ (hw _ (List.mem_of_getElem? (i := 60) rfl))) (mvT hZ (hw _ (List.mem_of_getElem? (i := 61) rfl))) (mvT hZ (hw _ (List.mem_of_getElem? (i := 62) rfl))) (mvT hZ (hw _ (List.mem_of_getElem? (i := 63) rfl))) (by decide) (backOf (W := 0) (own_rm11 l Z a0 hw [] br_41 b1 ((10 : Int32)) ((own_P p0 p1 q2 p3 p4)) (((0 : Int32) + (12 : Int32))) (f'_41) ((12 : Int32)) y24 T41.heap n0 Zs41 p41_0 fc42 (by decide) (by decide) (by decide)) hZ (hw _ (List.mem_of_getElem? (i := 63) rfl)) (hw _ (List.mem_of_getElem? (i := 62) rfl)) (by decide) (by decide)) (g := (mkF m 395 #[.val (.int p0), .val (.int p1), .val (.long q2), .second, .val (.int p3), .val (.int p4), .val (.ref b1), .val (.int (own_P p0 p1 q2 p3 p4)), .val (.ref b26), .val (.ref br_41), .val (.int gv)] [(.int (own_P p0 p1 q2 p3 p4)), (.int (10 : Int32)), (.ref b1), (.ref br_41)])) rfl (by rw [hml]; rfl) (argsL := [(.ref br_41), (.ref b1), (.int (10 : Int32)), (.int (own_P p0 p1 q2 p3 p4))]) (rest := []) (lenOf own_pd9 rfl) rfl (by show 2 * 0 + _ ≤ _; exact Nat.le_of_eq rfl) (hb hby at_395) (fun _ _ => ⟨rfl, h57q, (by decide : 4 + 0 ≤ _), (by decide : 89 + 0 ≤ _)⟩)) (fun _ _ _ q => q) (k1 := 4) (k2 := 89) rfl rfl
  have h58q : T58.heap = T41.heap := hQ58
  refine own_go (T' := T58) (f' := (mkF m 398 #[.val (.int p0), .val (.int p1), .val (.long q2), .second, .val (.int p3), .val (.int p4), .val (.ref b1), .val (.int (own_P p0 p1 q2 p3 p4)), .val (.ref b26), .val (.ref br_41), .val (.int gv)] [(.int (own_F11 (10 : Int32) (own_P p0 p1 q2 p3 p4) ((0 : Int32) + (12 : Int32)) f'_41 (12 : Int32) y24))])) (fun t k => st58 _ k) ?_
  refine own_go (T' := T58) (f' := (mkF m 409 #[.val (.int p0), .val (.int p1), .val (.long q2), .second, .val (.int p3), .val (.int p4), .val (.ref b1), .val (.int (own_P p0 p1 q2 p3 p4)), .val (.ref b26), .val (.ref br_41), .val (.int gv)] [(.int (own_P p0 p1 q2 p3 p4)), (.int (11 : Int32)), (.ref b1), (.ref br_41)])) (fun t k => ?_) ?_
  · show Steps p.tables e below (T58.setTop (mkF m 398 #[.val (.int p0), .val (.int p1), .val (.long q2), .second, .val (.int p3), .val (.int p4), .val (.ref b1), .val (.int (own_P p0 p1 q2 p3 p4)), .val (.ref b26), .val (.ref br_41), .val (.int gv)] [(.int (own_F11 (10 : Int32) (own_P p0 p1 q2 p3 p4) ((0 : Int32) + (12 : Int32)) f'_41 (12 : Int32) y24))])) _
    refine XS.ifNo X58.here hx rfl (hb hby at_398) rfl ((if0 _ _).trans (feq (hok.2 (10 : Int32) (by decide) (by decide))).1) ?_
    show Steps p.tables e below (T58.setTop (mkF m 401 #[.val (.int p0), .val (.int p1), .val (.long q2), .second, .val (.int p3), .val (.int p4), .val (.ref b1), .val (.int (own_P p0 p1 q2 p3 p4)), .val (.ref b26), .val (.ref br_41), .val (.int gv)] [])) _
    refine XS.aload X58.here hx rfl (hb hby at_401) rfl rfl ?_
    show Steps p.tables e below (T58.setTop (mkF m 403 #[.val (.int p0), .val (.int p1), .val (.long q2), .second, .val (.int p3), .val (.int p4), .val (.ref b1), .val (.int (own_P p0 p1 q2 p3 p4)), .val (.ref b26), .val (.ref br_41), .val (.int gv)] [(.ref br_41)])) _
    refine XS.aload X58.here hx rfl (hb hby at_403) rfl rfl ?_
    show Steps p.tables e below (T58.setTop (mkF m 405 #[.val (.int p0), .val (.int p1), .val (.long q2), .second, .val (.int p3), .val (.int p4), .val (.ref b1), .val (.int (own_P p0 p1 q2 p3 p4)), .val (.ref b26), .val (.ref br_41), .val (.int gv)] [(.ref b1), (.ref br_41)])) _
    refine XS.bipush X58.here hx rfl (hb hby at_405) ?_
    show Steps p.tables e below (T58.setTop (mkF m 407 #[.val (.int p0), .val (.int p1), .val (.long q2), .second, .val (.int p3), .val (.int p4), .val (.ref b1), .val (.int (own_P p0 p1 q2 p3 p4)), .val (.ref b26), .val (.ref br_41), .val (.int gv)] [(.int (11 : Int32)), (.ref b1), (.ref br_41)])) _
    refine XS.iload X58.here hx rfl (hb hby at_407) rfl ?_
    show Steps p.tables e below (T58.setTop (mkF m 409 #[.val (.int p0), .val (.int p1), .val (.long q2), .second, .val (.int p3), .val (.int p4), .val (.ref b1), .val (.int (own_P p0 p1 q2 p3 p4)), .val (.ref b26), .val (.ref br_41), .val (.int gv)] [(.int (own_P p0 p1 q2 p3 p4)), (.int (11 : Int32)), (.ref b1), (.ref br_41)])) _
    exact k
  obtain ⟨T59, Lq59, X59, N59, hQ59, st59⟩ := own_pf0 (vv := some (.int (own_F11 (11 : Int32) (own_P p0 p1 q2 p3 p4) ((0 : Int32) + (12 : Int32)) f'_41 (12 : Int32) y24))) N58 (Jvm.LawKit.callS X58 hx (y := (⟨"com/example/tracecourt/tracecourt/trace/OutWriteIntAtPinLaw", "kept", "([B[BII)Z"⟩ : MethodName)) hown (mvT hZ (hw _ (List.mem_of_getElem? (i := 60) rfl))) (mvT hZ (hw _ (List.mem_of_getElem? (i := 61) rfl))) (mvT hZ (hw _ (List.mem_of_getElem? (i := 62) rfl))) (mvT hZ (hw _ (List.mem_of_getElem? (i := 63) rfl))) (by decide) (backOf (W := 0) (own_rm11 l Z a0 hw [] br_41 b1 ((11 : Int32)) ((own_P p0 p1 q2 p3 p4)) (((0 : Int32) + (12 : Int32))) (f'_41) ((12 : Int32)) y24 T41.heap n0 Zs41 p41_0 fc42 (by decide) (by decide) (by decide)) hZ (hw _ (List.mem_of_getElem? (i := 63) rfl)) (hw _ (List.mem_of_getElem? (i := 62) rfl)) (by decide) (by decide)) (g := (mkF m 409 #[.val (.int p0), .val (.int p1), .val (.long q2), .second, .val (.int p3), .val (.int p4), .val (.ref b1), .val (.int (own_P p0 p1 q2 p3 p4)), .val (.ref b26), .val (.ref br_41), .val (.int gv)] [(.int (own_P p0 p1 q2 p3 p4)), (.int (11 : Int32)), (.ref b1), (.ref br_41)])) rfl (by rw [hml]; rfl) (argsL := [(.ref br_41), (.ref b1), (.int (11 : Int32)), (.int (own_P p0 p1 q2 p3 p4))]) (rest := []) (lenOf own_pd9 rfl) rfl (by show 2 * 0 + _ ≤ _; exact Nat.le_of_eq rfl) (hb hby at_409) (fun _ _ => ⟨rfl, h58q, (by decide : 4 + 0 ≤ _), (by decide : 89 + 0 ≤ _)⟩)) (fun _ _ _ q => q) (k1 := 4) (k2 := 89) rfl rfl
  have h59q : T59.heap = T41.heap := hQ59
  refine own_go (T' := T59) (f' := (mkF m 412 #[.val (.int p0), .val (.int p1), .val (.long q2), .second, .val (.int p3), .val (.int p4), .val (.ref b1), .val (.int (own_P p0 p1 q2 p3 p4)), .val (.ref b26), .val (.ref br_41), .val (.int gv)] [(.int (own_F11 (11 : Int32) (own_P p0 p1 q2 p3 p4) ((0 : Int32) + (12 : Int32)) f'_41 (12 : Int32) y24))])) (fun t k => st59 _ k) ?_
  refine own_go (T' := T59) (f' := (mkF m 420 #[.val (.int p0), .val (.int p1), .val (.long q2), .second, .val (.int p3), .val (.int p4), .val (.ref b1), .val (.int (own_P p0 p1 q2 p3 p4)), .val (.ref b26), .val (.ref br_41), .val (.int gv)] [(.int (1 : Int32))])) (fun t k => ?_) ?_
  · show Steps p.tables e below (T59.setTop (mkF m 412 #[.val (.int p0), .val (.int p1), .val (.long q2), .second, .val (.int p3), .val (.int p4), .val (.ref b1), .val (.int (own_P p0 p1 q2 p3 p4)), .val (.ref b26), .val (.ref br_41), .val (.int gv)] [(.int (own_F11 (11 : Int32) (own_P p0 p1 q2 p3 p4) ((0 : Int32) + (12 : Int32)) f'_41 (12 : Int32) y24))])) _
    refine XS.ifNo X59.here hx rfl (hb hby at_412) rfl ((if0 _ _).trans (feq (hok.2 (11 : Int32) (by decide) (by decide))).1) ?_
    show Steps p.tables e below (T59.setTop (mkF m 415 #[.val (.int p0), .val (.int p1), .val (.long q2), .second, .val (.int p3), .val (.int p4), .val (.ref b1), .val (.int (own_P p0 p1 q2 p3 p4)), .val (.ref b26), .val (.ref br_41), .val (.int gv)] [])) _
    refine XS.iconst X59.here hx rfl (hb hby at_415) ?_
    show Steps p.tables e below (T59.setTop (mkF m 416 #[.val (.int p0), .val (.int p1), .val (.long q2), .second, .val (.int p3), .val (.int p4), .val (.ref b1), .val (.int (own_P p0 p1 q2 p3 p4)), .val (.ref b26), .val (.ref br_41), .val (.int gv)] [(.int (1 : Int32))])) _
    refine XS.goto X59.here hx rfl (pc0 := 416) (pc' := 420) rfl (hb hby at_416) (by decide) (by decide) ?_
    show Steps p.tables e below (T59.setTop (mkF m 420 #[.val (.int p0), .val (.int p1), .val (.long q2), .second, .val (.int p3), .val (.int p4), .val (.ref b1), .val (.int (own_P p0 p1 q2 p3 p4)), .val (.ref b26), .val (.ref br_41), .val (.int gv)] [(.int (1 : Int32))])) _
    exact k
  obtain ⟨fs, hr, hrun, hended, hW, hsame⟩ := X59.leave (v := some (.int (1 : Int32))) (fun h => by rw [Bd.returns] at h; cases h)
  refine ⟨_, _, ?_, hrun, hended, _, _, rfl, ?_, ⟨_, rfl⟩, hW, hsame.mono (by decide) (by decide)⟩
  · exact retN X59 hx (t := .boolean) Bd.returns (by simp) (hb hby at_420) hr
  · show own_Q0 Z p0 p1 q2 p3 p4 h0 n0 _ T59.heap _
    rw [h59q]
    exact ⟨rfl, N59⟩
set_option maxRecDepth 65536 in
set_option maxHeartbeats 40000000 in
theorem comes_1 {Post : Tables → Env → Array Value → State → Outcome → State → Prop} (hpost : ∀ tb e args s v u, (limb_1_1.after args s (.returned v) u = true ∧ limb_1_2.after args s (.returned v) u = true ∧ True) → FrameEnd s (.returned v) u (Jvm.fieldLocs frame_1_writes args s ++ Jvm.arrayLocs frame_1_arrays args s ++ Jvm.staticLocs frame_1_statics s) 16 256 → Post tb e args s (.returned v) u) :
    ArmFor flags0 classFile x code maxLocals ret World_1 tables_1 room_1 Calls_1 rest_1 Pre_1 Post := by
  intro l hfl _ _ p e ha hc hk s m args below hf hA hF happ hP
  obtain ⟨hcalls, hrest, hpre⟩ := hP
  obtain ⟨-, -, -, hnamed, -, -, -, hat⟩ := (Spec.applies_iff hf).mp happ
  obtain ⟨hg, hn⟩ := and_e (Cond.before_iff.mp (show (Jvm.Cond.and given_1 narrow_1).before args s = true from hpre))
  obtain ⟨hcnt, g0⟩ := and_e hg
  obtain ⟨k0, g1⟩ := and_e g0
  obtain ⟨k1, g2⟩ := and_e g1
  obtain ⟨k2, g3⟩ := and_e g2
  obtain ⟨k3, g4⟩ := and_e g3
  have k4 := g4
  obtain ⟨w0, w1, w2, w3, w4, rfl⟩ : ∃ w0 w1 w2 w3 w4 : Value, args = #[w0, w1, w2, w3, w4] := by
    have hs : args.size = 5 := by simpa [Cond.value, given_1] using hcnt
    obtain ⟨L⟩ := args
    match L, hs with
    | [w0, w1, w2, w3, w4], _ => exact ⟨w0, w1, w2, w3, w4, rfl⟩
  have hw := fun d (hd : d ∈ tables_1) => atoms_spec (ws := Jvm.Cond.code x code maxLocals ret :: tables_1) hat d (List.mem_cons_of_mem _ hd)
  obtain ⟨i0, e0⟩ := is_v k0
  obtain rfl : w0 = (.int i0) := Option.some.inj e0
  obtain ⟨i1, e1⟩ := is_v k1
  obtain rfl : w1 = (.int i1) := Option.some.inj e1
  obtain ⟨i2, e2⟩ := isL_v k2
  obtain rfl : w2 = (.long i2) := Option.some.inj e2
  obtain ⟨i3, e3⟩ := is_v k3
  obtain rfl : w3 = (.int i3) := Option.some.inj e3
  obtain ⟨i4, e4⟩ := is_v k4
  obtain rfl : w4 = (.int i4) := Option.some.inj e4
  obtain ⟨n, o, h1, h2, h3, _, L, rfl, ⟨hv, N⟩, hq⟩ := own_rm0 l s _ hw tables_1 i0 i1 i2 i3 i4 s.heap s.heap.size (Nat.le_refl _)  p e ha hc hk s m _ below hf ((Spec.applies_iff_loose hf).mp happ).1 ⟨rfl, State.Warmed39.refl s, rfl⟩ trivial
  subst hv
  refine ⟨n, _, h1, h2, h3, hpost _ _ _ _ _ _ ⟨Cond.after_iff.mpr rfl, Cond.after_iff.mpr (eq_i res_at (Term.int_eval (1)) rfl), trivial⟩ ⟨hq.1, hq.2.1, (hq.2.2.sift fun y hy => Or.inr (N y hy)).mono (by decide) (by decide)⟩⟩
theorem main_1_1 : Claimed_1_1 := comes_1 fun _ _ _ _ _ _ h hF => ⟨h.1, hF⟩
theorem main_1_2 : Claimed_1_2 := comes_1 fun _ _ _ _ _ _ h hF => ⟨h.2.1, hF⟩
end Jvm.Pilot.@@N@@
namespace Jvm.Pilot.@@N@@
open Jvm Jvm.ClassFile Sem Op Lib Jvm.Free Jvm.Stand Jvm.Pilot.@@N@@.Jvm.D
/-! MADE BY PROGRAM (witnessworld.py) out of the Statement's table words and the real class files: 13 classes; the members and pool entries that the words name. The judged class is class 1, her method 1. -/
namespace start1
open Jvm.ClassFile
def u (s : String) : CpInfo := .utf8 (stringToUtf16 s)
/-- a pool by its gaps: so many unusable entries, then the entry; so many at the end -/
def gap : Nat → List CpInfo → List CpInfo
  | 0, r => r
  | n + 1, r => .unusable :: gap n r
def poolList (es : List (Nat × CpInfo)) (last : Nat) : List CpInfo := es.foldr (fun e r => gap e.1 (e.2 :: r)) (gap last [])
def pool (es : List (Nat × CpInfo)) (last : Nat) : Array CpInfo := ⟨poolList es last⟩
def fileOf (pool : Array CpInfo) (this : Nat) (attrs : Array Attribute := #[]) (ms : Array MethodInfo := #[]) (fl : Nat := 33) (sup : Nat := 0) (ifs : Array Nat := #[]) (fds : Array FieldInfo := #[]) : ClassFile where
  minorVersion := 0
  majorVersion := 65
  constantPool := pool
  accessFlags := fl
  thisClass := this
  superClass := sup
  interfaces := ifs
  fields := fds
  methods := ms
  attributes := attrs
def plain (name : String) (sup : Option ClassId) : Class where
  name := name
  kind := .ordinary
  loader := none
  accessFlags := 33
  super := sup
  interfaces := #[]
  cf := none
  fields := #[]
  methods := #[]
  instanceTypes := #[]
  staticTypes := #[]
  resolved := #[]
  callSites := []
  init := .initialized
  statics := none
  mirror := none

def pool0 : Array CpInfo := pool [(5, u "<init>"), (0, u "()V"), (1, .class_ 10), (1, u "java/lang/Object")] 113

def k0c0 : Code := { maxStack := 0, maxLocals := 1, code := object_method_1_code, exceptionTable := #[], attributes := #[] }
def k0m0 : Method := { name := "<init>", desc := "()V", sig := { parameters := [], returnType := none }, accessFlags := 1, code := some k0c0 }
/-- java/lang/Object -/
def k0 : Class := { plain "java/lang/Object" none with
  accessFlags := 33
  interfaces := #[]
  cf := some (fileOf pool0 8 #[] #[{ accessFlags := 1, nameIndex := 5, descriptorIndex := 6, attributes := #[] }] 33 0 #[] #[])
  fields := #[]
  methods := #[k0m0]
  instanceTypes := #[]
  staticTypes := #[]
  resolved := Array.replicate 124 none
  statics := none }

def pool1 : Array CpInfo := pool [(2, .class_ 4), (1, u "java/lang/Object"), (0, u "<init>"), (0, u "()V"), (0, .integer 2147483647), (0, .class_ 9), (0, u "com/example/tracecourt/tracecourt/trace/Bytes$Out"), (0, .methodref 8 11), (0, .nameAndType 5 12), (0, u "(I)V"), (0, .methodref 8 14), (0, .nameAndType 15 16), (0, u "write"), (0, u "([B)V"), (0, .methodref 8 18), (0, .nameAndType 19 20), (0, u "writeIntAt"), (0, u "(II)V"), (0, .methodref 8 22), (0, .nameAndType 23 24), (0, u "toByteArray"), (0, u "()[B"), (0, .methodref 8 26), (0, .nameAndType 27 28), (0, u "size"), (0, u "()I"), (0, .methodref 30 31), (0, .class_ 32), (0, .nameAndType 33 34), (0, u "com/example/tracecourt/tracecourt/trace/OutWriteIntAtPinLaw"), (0, u "kept"), (0, u "([B[BII)Z"), (2, u "law"), (0, u "(IIJII)Z")] 9

def k1m0 : Method := { name := "<init>", desc := "()V", sig := { parameters := [], returnType := none }, accessFlags := 2, code := none }
def k1c1 : Code := { maxStack := 5, maxLocals := 11, code := code, exceptionTable := #[], attributes := #[] }
def k1m1 : Method := { name := "law", desc := "(IIJII)Z", sig := { parameters := [.int, .int, .long, .int, .int], returnType := some .boolean }, accessFlags := 9, code := some k1c1 }
def k1c2 : Code := { maxStack := 3, maxLocals := 4, code := method_3_code, exceptionTable := #[], attributes := #[] }
def k1m2 : Method := { name := "kept", desc := "([B[BII)Z", sig := { parameters := [(.array .byte), (.array .byte), .int, .int], returnType := some .boolean }, accessFlags := 10, code := some k1c2 }
/-- com/example/tracecourt/tracecourt/trace/OutWriteIntAtPinLaw -/
def k1 : Class := { plain "com/example/tracecourt/tracecourt/trace/OutWriteIntAtPinLaw" (some 0) with
  accessFlags := 49
  interfaces := #[]
  cf := some (fileOf pool1 30 #[] #[{ accessFlags := 2, nameIndex := 5, descriptorIndex := 6, attributes := #[] }, { accessFlags := 9, nameIndex := 37, descriptorIndex := 38, attributes := #[] }, { accessFlags := 10, nameIndex := 33, descriptorIndex := 34, attributes := #[] }] 49 2 #[] #[])
  fields := #[]
  methods := #[k1m0, k1m1, k1m2]
  instanceTypes := #[]
  staticTypes := #[]
  resolved := Array.replicate 48 none
  statics := none }

def pool2 : Array CpInfo := pool [(1, .class_ 2), (0, u "java/io/DataOutput"), (0, .class_ 4), (0, u "java/lang/Object")] 25

/-- java/io/DataOutput -/
def k2 : Class := { plain "java/io/DataOutput" (some 0) with
  accessFlags := 1537
  interfaces := #[]
  cf := some (fileOf pool2 1 #[] #[] 1537 3 #[] #[])
  fields := #[]
  methods := #[]
  instanceTypes := #[]
  staticTypes := #[]
  resolved := Array.replicate 30 none
  statics := none }

def pool3 : Array CpInfo := pool [(1, .methodref 2 3), (0, .class_ 4), (0, .nameAndType 5 6), (0, u "java/lang/Object"), (0, u "<init>"), (0, u "()V"), (0, .methodref 8 9), (0, .class_ 10), (0, .nameAndType 11 12), (0, u "java/lang/Math"), (0, u "max"), (0, u "(II)I"), (0, .fieldref 14 15), (0, .class_ 16), (0, .nameAndType 17 18), (0, u "com/example/tracecourt/tracecourt/trace/Bytes$Out"), (0, u "bytes"), (0, u "[B"), (0, .fieldref 14 20), (0, .nameAndType 21 22), (0, u "size"), (0, u "I"), (0, .methodref 24 25), (0, .class_ 26), (0, .nameAndType 27 28), (0, u "java/util/Arrays"), (0, u "copyOf"), (0, u "([BI)[B"), (0, .methodref 14 30), (0, .nameAndType 31 32), (0, u "take"), (0, u "(I)I"), (0, .methodref 14 34), (0, .nameAndType 35 36), (0, u "write"), (0, u "([BII)V"), (0, .methodref 38 39), (0, .class_ 40), (0, .nameAndType 41 42), (0, u "java/lang/System"), (0, u "arraycopy"), (0, u "(Ljava/lang/Object;ILjava/lang/Object;II)V"), (2, u "(I)V"), (7, u "writeIntAt"), (0, u "(II)V"), (24, u "()I"), (17, .class_ 98), (0, u "java/io/DataOutput"), (3, u "toByteArray"), (0, u "()[B"), (2, u "([B)V"), (14, .class_ 122), (0, u "com/example/tracecourt/tracecourt/trace/Bytes")] 16

def k3c0 : Code := { maxStack := 3, maxLocals := 2, code := prog_225_method_1_code, exceptionTable := #[], attributes := #[] }
def k3m0 : Method := { name := "<init>", desc := "(I)V", sig := { parameters := [.int], returnType := none }, accessFlags := 0, code := some k3c0 }
def k3c1 : Code := { maxStack := 1, maxLocals := 1, code := prog_225_method_2_code, exceptionTable := #[], attributes := #[] }
def k3m1 : Method := { name := "size", desc := "()I", sig := { parameters := [], returnType := some .int }, accessFlags := 0, code := some k3c1 }
def k3c2 : Code := { maxStack := 2, maxLocals := 1, code := prog_225_method_4_code, exceptionTable := #[], attributes := #[] }
def k3m2 : Method := { name := "toByteArray", desc := "()[B", sig := { parameters := [], returnType := some (.array .byte) }, accessFlags := 0, code := some k3c2 }
def k3c3 : Code := { maxStack := 4, maxLocals := 3, code := prog_225_method_6_code, exceptionTable := #[], attributes := #[] }
def k3m3 : Method := { name := "writeIntAt", desc := "(II)V", sig := { parameters := [.int, .int], returnType := none }, accessFlags := 0, code := some k3c3 }
def k3c4 : Code := { maxStack := 5, maxLocals := 3, code := prog_225_method_7_code, exceptionTable := #[], attributes := #[] }
def k3m4 : Method := { name := "take", desc := "(I)I", sig := { parameters := [.int], returnType := some .int }, accessFlags := 2, code := some k3c4 }
def k3c5 : Code := { maxStack := 4, maxLocals := 2, code := prog_225_method_9_code, exceptionTable := #[], attributes := #[] }
def k3m5 : Method := { name := "write", desc := "([B)V", sig := { parameters := [(.array .byte)], returnType := none }, accessFlags := 1, code := some k3c5 }
def k3c6 : Code := { maxStack := 5, maxLocals := 5, code := prog_225_method_10_code, exceptionTable := #[], attributes := #[] }
def k3m6 : Method := { name := "write", desc := "([BII)V", sig := { parameters := [(.array .byte), .int, .int], returnType := none }, accessFlags := 1, code := some k3c6 }
/-- com/example/tracecourt/tracecourt/trace/Bytes$Out -/
def k3 : Class := { plain "com/example/tracecourt/tracecourt/trace/Bytes$Out" (some 0) with
  accessFlags := 48
  interfaces := #[2]
  cf := some (fileOf pool3 14 #[.nestHost 121] #[{ accessFlags := 0, nameIndex := 5, descriptorIndex := 45, attributes := #[] }, { accessFlags := 0, nameIndex := 21, descriptorIndex := 79, attributes := #[] }, { accessFlags := 0, nameIndex := 102, descriptorIndex := 103, attributes := #[] }, { accessFlags := 0, nameIndex := 53, descriptorIndex := 54, attributes := #[] }, { accessFlags := 2, nameIndex := 31, descriptorIndex := 32, attributes := #[] }, { accessFlags := 1, nameIndex := 35, descriptorIndex := 106, attributes := #[] }, { accessFlags := 1, nameIndex := 35, descriptorIndex := 36, attributes := #[] }] 48 2 #[97] #[{ accessFlags := 2, nameIndex := 17, descriptorIndex := 18, attributes := #[] }, { accessFlags := 2, nameIndex := 21, descriptorIndex := 22, attributes := #[] }])
  fields := #[{ name := "bytes", type := (.array .byte), accessFlags := 2, slot := 0, constantValue := 0 }, { name := "size", type := .int, accessFlags := 2, slot := 1, constantValue := 0 }]
  methods := #[k3m0, k3m1, k3m2, k3m3, k3m4, k3m5, k3m6]
  instanceTypes := #[(.array .byte), .int]
  staticTypes := #[]
  resolved := Array.replicate 139 none
  statics := none }

def pool4 : Array CpInfo := pool [(1, .class_ 2), (0, u "java/lang/Math"), (1, .class_ 6), (1, u "java/lang/Object"), (0, u "<init>"), (0, u "()V"), (89, .class_ 100), (1, u "java/lang/Math$RandomNumberGeneratorHolder"), (71, u "negativeZeroFloatBits"), (0, u "J"), (2, u "negativeZeroDoubleBits"), (21, u "max"), (2, u "min"), (43, u "$assertionsDisabled"), (0, u "Z"), (88, u "(II)I"), (2, u "twoToTheDoubleScaleDown"), (0, u "D"), (4, u "twoToTheDoubleScaleUp"), (9, u "E"), (3, u "PI"), (2, u "TAU"), (2, u "DEGREES_TO_RADIANS"), (0, u "RADIANS_TO_DEGREES")] 94

def k4m0 : Method := { name := "<init>", desc := "()V", sig := { parameters := [], returnType := none }, accessFlags := 2, code := none }
def k4c1 : Code := { maxStack := 2, maxLocals := 2, code := jdk_29_method_65_code, exceptionTable := #[], attributes := #[] }
def k4m1 : Method := { name := "max", desc := "(II)I", sig := { parameters := [.int, .int], returnType := some .int }, accessFlags := 9, code := some k4c1 }
def k4c2 : Code := { maxStack := 2, maxLocals := 2, code := jdk_29_method_69_code, exceptionTable := #[], attributes := #[] }
def k4m2 : Method := { name := "min", desc := "(II)I", sig := { parameters := [.int, .int], returnType := some .int }, accessFlags := 9, code := some k4c2 }
/-- java/lang/Math -/
def k4 : Class := { plain "java/lang/Math" (some 0) with
  accessFlags := 49
  interfaces := #[]
  cf := some (fileOf pool4 1 #[.nestMembers #[98]] #[{ accessFlags := 2, nameIndex := 7, descriptorIndex := 8, attributes := #[] }, { accessFlags := 9, nameIndex := 198, descriptorIndex := 335, attributes := #[] }, { accessFlags := 9, nameIndex := 201, descriptorIndex := 335, attributes := #[] }] 49 4 #[] #[{ accessFlags := 25, nameIndex := 354, descriptorIndex := 339, attributes := #[] }, { accessFlags := 25, nameIndex := 358, descriptorIndex := 339, attributes := #[] }, { accessFlags := 25, nameIndex := 361, descriptorIndex := 339, attributes := #[] }, { accessFlags := 26, nameIndex := 364, descriptorIndex := 339, attributes := #[] }, { accessFlags := 26, nameIndex := 365, descriptorIndex := 339, attributes := #[] }, { accessFlags := 26, nameIndex := 172, descriptorIndex := 173, attributes := #[] }, { accessFlags := 26, nameIndex := 176, descriptorIndex := 173, attributes := #[] }, { accessFlags := 8, nameIndex := 344, descriptorIndex := 339, attributes := #[] }, { accessFlags := 8, nameIndex := 338, descriptorIndex := 339, attributes := #[] }, { accessFlags := 4120, nameIndex := 245, descriptorIndex := 246, attributes := #[] }])
  fields := #[{ name := "E", type := .double, accessFlags := 25, slot := 0, constantValue := 0 }, { name := "PI", type := .double, accessFlags := 25, slot := 1, constantValue := 0 }, { name := "TAU", type := .double, accessFlags := 25, slot := 2, constantValue := 0 }, { name := "DEGREES_TO_RADIANS", type := .double, accessFlags := 26, slot := 3, constantValue := 0 }, { name := "RADIANS_TO_DEGREES", type := .double, accessFlags := 26, slot := 4, constantValue := 0 }, { name := "negativeZeroFloatBits", type := .long, accessFlags := 26, slot := 5, constantValue := 0 }, { name := "negativeZeroDoubleBits", type := .long, accessFlags := 26, slot := 6, constantValue := 0 }, { name := "twoToTheDoubleScaleUp", type := .double, accessFlags := 8, slot := 7, constantValue := 0 }, { name := "twoToTheDoubleScaleDown", type := .double, accessFlags := 8, slot := 8, constantValue := 0 }, { name := "$assertionsDisabled", type := .boolean, accessFlags := 4120, slot := 9, constantValue := 0 }]
  methods := #[k4m0, k4m1, k4m2]
  instanceTypes := #[]
  staticTypes := #[.double, .double, .double, .double, .double, .long, .long, .double, .double, .boolean]
  resolved := Array.replicate 460 none
  statics := none }

def pool5 : Array CpInfo := pool [(2, .class_ 4), (1, u "java/lang/Object"), (0, u "<init>"), (0, u "()V"), (1, .class_ 10), (1, u "java/lang/System"), (0, u "allowSecurityManager"), (0, u "I"), (16, u "cons"), (0, u "Ljava/io/Console;"), (77, .class_ 110), (1, u "java/lang/System$CallersHolder"), (43, u "initialErrStream"), (0, u "Ljava/io/PrintStream;"), (19, u "security"), (0, u "Ljava/lang/SecurityManager;"), (31, .class_ 209), (0, u "java/lang/System$1"), (7, u "props"), (0, u "Ljava/util/Properties;"), (2, u "lineSeparator"), (0, u "Ljava/lang/String;"), (96, .class_ 321), (1, u "java/lang/System$LoggerFinder"), (5, .class_ 328), (0, u "java/lang/System$Logger"), (67, u "err"), (2, u "out"), (91, u "notSupportedJnuEncoding"), (15, u "in"), (17, u "initialIn"), (0, u "Ljava/io/InputStream;"), (35, u "bootLayer"), (0, u "Ljava/lang/ModuleLayer;"), (99, .class_ 664), (0, u "java/lang/System$2"), (9, u "NEVER"), (2, u "MAYBE"), (49, u "arraycopy"), (0, u "(Ljava/lang/Object;ILjava/lang/Object;II)V"), (72, .class_ 802), (0, u "java/lang/System$Logger$Level")] 31

def k5m0 : Method := { name := "<init>", desc := "()V", sig := { parameters := [], returnType := none }, accessFlags := 2, code := none }
def k5m1 : Method := { name := "arraycopy", desc := "(Ljava/lang/Object;ILjava/lang/Object;II)V", sig := { parameters := [(.object "java/lang/Object"), .int, (.object "java/lang/Object"), .int, .int], returnType := none }, accessFlags := 265, code := none }
/-- java/lang/System -/
def k5 : Class := { plain "java/lang/System" (some 0) with
  accessFlags := 49
  interfaces := #[]
  cf := some (fileOf pool5 8 #[.nestMembers #[319, 327, 801, 108, 663, 208]] #[{ accessFlags := 2, nameIndex := 5, descriptorIndex := 6, attributes := #[] }, { accessFlags := 265, nameIndex := 727, descriptorIndex := 728, attributes := #[] }] 49 2 #[] #[{ accessFlags := 25, nameIndex := 507, descriptorIndex := 526, attributes := #[] }, { accessFlags := 25, nameIndex := 399, descriptorIndex := 155, attributes := #[] }, { accessFlags := 25, nameIndex := 396, descriptorIndex := 155, attributes := #[] }, { accessFlags := 10, nameIndex := 525, descriptorIndex := 526, attributes := #[] }, { accessFlags := 26, nameIndex := 674, descriptorIndex := 12, attributes := #[] }, { accessFlags := 26, nameIndex := 677, descriptorIndex := 12, attributes := #[] }, { accessFlags := 10, nameIndex := 11, descriptorIndex := 12, attributes := #[] }, { accessFlags := 74, nameIndex := 175, descriptorIndex := 176, attributes := #[] }, { accessFlags := 10, nameIndex := 491, descriptorIndex := 222, attributes := #[] }, { accessFlags := 74, nameIndex := 29, descriptorIndex := 30, attributes := #[] }, { accessFlags := 74, nameIndex := 154, descriptorIndex := 155, attributes := #[] }, { accessFlags := 10, nameIndex := 217, descriptorIndex := 218, attributes := #[] }, { accessFlags := 10, nameIndex := 221, descriptorIndex := 222, attributes := #[] }, { accessFlags := 8, nameIndex := 562, descriptorIndex := 563, attributes := #[] }])
  fields := #[{ name := "in", type := (.object "java/io/InputStream"), accessFlags := 25, slot := 0, constantValue := 0 }, { name := "out", type := (.object "java/io/PrintStream"), accessFlags := 25, slot := 1, constantValue := 0 }, { name := "err", type := (.object "java/io/PrintStream"), accessFlags := 25, slot := 2, constantValue := 0 }, { name := "initialIn", type := (.object "java/io/InputStream"), accessFlags := 10, slot := 3, constantValue := 0 }, { name := "NEVER", type := .int, accessFlags := 26, slot := 4, constantValue := 0 }, { name := "MAYBE", type := .int, accessFlags := 26, slot := 5, constantValue := 0 }, { name := "allowSecurityManager", type := .int, accessFlags := 10, slot := 6, constantValue := 0 }, { name := "security", type := (.object "java/lang/SecurityManager"), accessFlags := 74, slot := 7, constantValue := 0 }, { name := "notSupportedJnuEncoding", type := (.object "java/lang/String"), accessFlags := 10, slot := 8, constantValue := 0 }, { name := "cons", type := (.object "java/io/Console"), accessFlags := 74, slot := 9, constantValue := 0 }, { name := "initialErrStream", type := (.object "java/io/PrintStream"), accessFlags := 74, slot := 10, constantValue := 0 }, { name := "props", type := (.object "java/util/Properties"), accessFlags := 10, slot := 11, constantValue := 0 }, { name := "lineSeparator", type := (.object "java/lang/String"), accessFlags := 10, slot := 12, constantValue := 0 }, { name := "bootLayer", type := (.object "java/lang/ModuleLayer"), accessFlags := 8, slot := 13, constantValue := 0 }]
  methods := #[k5m0, k5m1]
  instanceTypes := #[]
  staticTypes := #[(.object "java/io/InputStream"), (.object "java/io/PrintStream"), (.object "java/io/PrintStream"), (.object "java/io/InputStream"), .int, .int, .int, (.object "java/lang/SecurityManager"), (.object "java/lang/String"), (.object "java/io/Console"), (.object "java/io/PrintStream"), (.object "java/util/Properties"), (.object "java/lang/String"), (.object "java/lang/ModuleLayer")]
  resolved := Array.replicate 834 none
  statics := none }

def pool6 : Array CpInfo := pool [(2, .class_ 4), (1, u "java/lang/Object"), (0, u "<init>"), (0, u "()V"), (7, .class_ 16), (1, u "java/util/Arrays"), (57, .class_ 76), (1, u "java/util/Arrays$NaturalOrder"), (36, .class_ 115), (1, u "java/util/Arrays$LegacyMergeSort"), (1, u "Z"), (32, .methodref 151 152), (0, .class_ 153), (0, .nameAndType 154 155), (0, u "java/lang/System"), (0, u "arraycopy"), (0, u "(Ljava/lang/Object;ILjava/lang/Object;II)V"), (146, u "copyOf"), (1, .methodref 305 306), (0, .class_ 307), (0, .nameAndType 308 309), (0, u "java/lang/Math"), (0, u "min"), (0, u "(II)I"), (65, .class_ 376), (0, u "java/util/Arrays$ArrayList"), (68, u "$assertionsDisabled"), (269, u "MIN_ARRAY_SORT_GRAN"), (0, u "I"), (2, u "INSERTIONSORT_THRESHOLD"), (149, u "([BI)[B"), (105, .class_ 976), (0, u "java/util/Arrays$ArrayItr")] 52

def k6m0 : Method := { name := "<init>", desc := "()V", sig := { parameters := [], returnType := none }, accessFlags := 2, code := none }
def k6c1 : Code := { maxStack := 6, maxLocals := 3, code := jdk_65_method_121_code, exceptionTable := #[], attributes := #[] }
def k6m1 : Method := { name := "copyOf", desc := "([BI)[B", sig := { parameters := [(.array .byte), .int], returnType := some (.array .byte) }, accessFlags := 9, code := some k6c1 }
/-- java/util/Arrays -/
def k6 : Class := { plain "java/util/Arrays" (some 0) with
  accessFlags := 49
  interfaces := #[]
  cf := some (fileOf pool6 14 #[.nestMembers #[975, 375, 113, 74]] #[{ accessFlags := 2, nameIndex := 5, descriptorIndex := 6, attributes := #[] }, { accessFlags := 9, nameIndex := 302, descriptorIndex := 869, attributes := #[] }] 49 2 #[] #[{ accessFlags := 26, nameIndex := 715, descriptorIndex := 716, attributes := #[] }, { accessFlags := 26, nameIndex := 719, descriptorIndex := 716, attributes := #[] }, { accessFlags := 4120, nameIndex := 445, descriptorIndex := 117, attributes := #[] }])
  fields := #[{ name := "MIN_ARRAY_SORT_GRAN", type := .int, accessFlags := 26, slot := 0, constantValue := 0 }, { name := "INSERTIONSORT_THRESHOLD", type := .int, accessFlags := 26, slot := 1, constantValue := 0 }, { name := "$assertionsDisabled", type := .boolean, accessFlags := 4120, slot := 2, constantValue := 0 }]
  methods := #[k6m0, k6m1]
  instanceTypes := #[]
  staticTypes := #[.int, .int, .boolean]
  resolved := Array.replicate 1029 none
  statics := none }

def pool7 : Array CpInfo := pool [(1, u "java/lang/Cloneable"), (0, .class_ 1), (0, u "java/lang/Object"), (0, .class_ 3)] 3

/-- java/lang/Cloneable -/
def k7 : Class := { plain "java/lang/Cloneable" (some 0) with
  accessFlags := 1537
  interfaces := #[]
  cf := some (fileOf pool7 2 #[] #[] 1537 4 #[] #[])
  fields := #[]
  methods := #[]
  instanceTypes := #[]
  staticTypes := #[]
  resolved := Array.replicate 8 none
  statics := none }

def pool8 : Array CpInfo := pool [(1, u "java/io/Serializable"), (0, .class_ 1), (0, u "java/lang/Object"), (0, .class_ 3)] 3

/-- java/io/Serializable -/
def k8 : Class := { plain "java/io/Serializable" (some 0) with
  accessFlags := 1537
  interfaces := #[]
  cf := some (fileOf pool8 2 #[] #[] 1537 4 #[] #[])
  fields := #[]
  methods := #[]
  instanceTypes := #[]
  staticTypes := #[]
  resolved := Array.replicate 8 none
  statics := none }

/-- the primitive byte -/
def k9 : Class := { plain "byte" none with kind := .primitive 'B', accessFlags := 0x411 }
/-- [B -/
def k10 : Class := { plain "[B" (some 0) with kind := .array 9 .byte, interfaces := #[7, 8], accessFlags := 1041 }

/-- the primitive int -/
def k11 : Class := { plain "int" none with kind := .primitive 'I', accessFlags := 0x411 }
/-- [I -/
def k12 : Class := { plain "[I" (some 0) with kind := .array 11 .int, interfaces := #[7, 8], accessFlags := 1041 }

def heap : Heap := #[]
def classes : Array Class := #[k0, k1, k2, k3, k4, k5, k6, k7, k8, k9, k10, k11, k12]
def interned : List (Array UInt16 × Addr) := []
def slotsUsed : Nat := 0
def theMethod : MethodId := ⟨1, 1⟩
def args0 : Array Value := #[.int 5, .int 5, .long 5, .int 5, .int 5]
def aboutOver (below : List Frame) : State where
  vm := { classes := classes, interned := interned.toArray }
  heap := heap
  slotsUsed := slotsUsed
  threads := #[{ frames := .invoking theMethod args0 :: below }]
def below0 : List Frame := [.native { method := ⟨0, 0⟩, args := #[] }]
def about1 : State := aboutOver below0
def p0 : Program := .bare "" "" ""
def e0 : Env := launch0.env 0 0 0
theorem w_frames : about1.frames = Frame.invoking theMethod args0 :: below0 := rfl
set_option maxRecDepth 65536 in
theorem w_args : argsFit about1.vm theMethod args0 = true := by decide +kernel
set_option maxRecDepth 65536 in
theorem w_heap : heapFits about1 = true := by decide +kernel
set_option maxRecDepth 65536 in
theorem w_runnable : about1.curStatus? = some .runnable := by decide +kernel
set_option maxRecDepth 65536 in
theorem w_alone : about1.alone = true := by decide +kernel
set_option maxRecDepth 65536 in
theorem w_named : about1.methodNamed? x = some theMethod := by decide +kernel
set_option maxRecDepth 65536 in
theorem w_hears : about1.hears theMethod below0 = true := by decide +kernel
set_option maxRecDepth 65536 in
theorem w_ripe : about1.ripe theMethod args0 below0 = true := by decide +kernel
theorem w_running : about1.status = .running := rfl
set_option maxRecDepth 65536 in
theorem w_room : about1.hasRoom e0.platform room_1 = true :=
  launch0.hasRoom_least _ room_1 (by decide +kernel) (by decide +kernel) (by decide +kernel) (by decide +kernel) (by decide +kernel) (by decide +kernel)
theorem allAtoms_all (ts : List Jvm.Cond) (a : Array Jvm.Value) (st : Jvm.State) : (allAtoms ts).before a st = ts.all (fun c => c.before a st) := by
  induction ts with
  | nil => rfl
  | cons c t ih =>
    show (Jvm.Cond.and c (allAtoms t)).before a st = _
    rw [Jvm.Cond.before_and, ih, List.all_cons]
def words1 : List Jvm.Cond := Jvm.Cond.code x code maxLocals ret :: tables_1
/-- a 'code' word, met by the world's own term for the bytes: nothing is compared byte by byte -/
theorem code_word {y : MethodName} {bytes : ByteArray} {mx : Nat} {rt : Option FieldType} {a : Array Value} {s : State} {m : MethodId} {meth : Method} {c : Code} (h1 : s.methodNamed? y = some m) (h2 : s.vm.method? m = some meth) (h3 : meth.code = some c) (h4 : c.code = bytes)
    (h5 : (c.maxLocals == mx && c.exceptionTable.isEmpty && decide (c.maxStack ≤ mostOperands) && decide (meth.sig.returnType = rt) && !meth.locks && decide (parseMethodDescriptor y.desc = some meth.sig)) = true) : (Jvm.Cond.code y bytes mx rt).before a s = true := by
  simp only [Bool.and_eq_true, beq_iff_eq, Bool.not_eq_true', decide_eq_true_eq] at h5
  obtain ⟨⟨⟨⟨⟨g1, g2⟩, g3⟩, g4⟩, g5⟩, g6⟩ := h5
  simp [Cond.before, Cond.holds, Cond.value, h1, h2, h3, h4, g1, g2, g3, g4, g5, g6]
def isCode : Jvm.Cond → Bool
  | .code _ _ _ _ => true
  | _ => false
theorem all_split {L : List Jvm.Cond} {P : Jvm.Cond → Bool} (h1 : L.all (fun c => isCode c || P c) = true) (h2 : ∀ c ∈ L.filter isCode, P c = true) : L.all P = true := by
  refine List.all_eq_true.mpr fun c hc => ?_
  have h := List.all_eq_true.mp h1 c hc
  rcases Bool.eq_false_or_eq_true (isCode c) with hi | hi
  · exact h2 c (List.mem_filter.mpr ⟨hc, hi⟩)
  · simpa [hi] using h
set_option maxRecDepth 65536 in
theorem w_c0 : (Jvm.Cond.code x code maxLocals ret).before args0 about1 = true := code_word (m := ⟨1, 1⟩) (meth := k1m1) (c := k1c1) (by decide +kernel) rfl rfl rfl (by decide +kernel)
set_option maxRecDepth 65536 in
theorem w_c1 : (Jvm.Cond.code ({ cls := "com/example/tracecourt/tracecourt/trace/Bytes$Out", name := "<init>", desc := "(I)V" } : Jvm.MethodName) prog_225_method_1_code (2 : Nat) (Option.none : Option Jvm.ClassFile.FieldType)).before args0 about1 = true := code_word (m := ⟨3, 0⟩) (meth := k3m0) (c := k3c0) (by decide +kernel) rfl rfl rfl (by decide +kernel)
set_option maxRecDepth 65536 in
theorem w_c2 : (Jvm.Cond.code ({ cls := "java/lang/Object", name := "<init>", desc := "()V" } : Jvm.MethodName) object_method_1_code (1 : Nat) (Option.none : Option Jvm.ClassFile.FieldType)).before args0 about1 = true := code_word (m := ⟨0, 0⟩) (meth := k0m0) (c := k0c0) (by decide +kernel) rfl rfl rfl (by decide +kernel)
set_option maxRecDepth 65536 in
theorem w_c3 : (Jvm.Cond.code ({ cls := "java/lang/Math", name := "max", desc := "(II)I" } : Jvm.MethodName) jdk_29_method_65_code (2 : Nat) (Option.some Jvm.ClassFile.FieldType.int)).before args0 about1 = true := code_word (m := ⟨4, 1⟩) (meth := k4m1) (c := k4c1) (by decide +kernel) rfl rfl rfl (by decide +kernel)
set_option maxRecDepth 65536 in
theorem w_c4 : (Jvm.Cond.code ({ cls := "com/example/tracecourt/tracecourt/trace/Bytes$Out", name := "write", desc := "([B)V" } : Jvm.MethodName) prog_225_method_9_code (2 : Nat) (Option.none : Option Jvm.ClassFile.FieldType)).before args0 about1 = true := code_word (m := ⟨3, 5⟩) (meth := k3m5) (c := k3c5) (by decide +kernel) rfl rfl rfl (by decide +kernel)
set_option maxRecDepth 65536 in
theorem w_c5 : (Jvm.Cond.code ({ cls := "com/example/tracecourt/tracecourt/trace/Bytes$Out", name := "write", desc := "([BII)V" } : Jvm.MethodName) prog_225_method_10_code (5 : Nat) (Option.none : Option Jvm.ClassFile.FieldType)).before args0 about1 = true := code_word (m := ⟨3, 6⟩) (meth := k3m6) (c := k3c6) (by decide +kernel) rfl rfl rfl (by decide +kernel)
set_option maxRecDepth 65536 in
theorem w_c6 : (Jvm.Cond.code ({ cls := "com/example/tracecourt/tracecourt/trace/Bytes$Out", name := "take", desc := "(I)I" } : Jvm.MethodName) prog_225_method_7_code (3 : Nat) (Option.some Jvm.ClassFile.FieldType.int)).before args0 about1 = true := code_word (m := ⟨3, 4⟩) (meth := k3m4) (c := k3c4) (by decide +kernel) rfl rfl rfl (by decide +kernel)
set_option maxRecDepth 65536 in
theorem w_c7 : (Jvm.Cond.code ({ cls := "com/example/tracecourt/tracecourt/trace/Bytes$Out", name := "writeIntAt", desc := "(II)V" } : Jvm.MethodName) prog_225_method_6_code (3 : Nat) (Option.none : Option Jvm.ClassFile.FieldType)).before args0 about1 = true := code_word (m := ⟨3, 3⟩) (meth := k3m3) (c := k3c3) (by decide +kernel) rfl rfl rfl (by decide +kernel)
set_option maxRecDepth 65536 in
theorem w_c8 : (Jvm.Cond.code ({ cls := "com/example/tracecourt/tracecourt/trace/Bytes$Out", name := "toByteArray", desc := "()[B" } : Jvm.MethodName) prog_225_method_4_code (1 : Nat) (Option.some (Jvm.ClassFile.FieldType.array Jvm.ClassFile.FieldType.byte))).before args0 about1 = true := code_word (m := ⟨3, 2⟩) (meth := k3m2) (c := k3c2) (by decide +kernel) rfl rfl rfl (by decide +kernel)
set_option maxRecDepth 65536 in
theorem w_c9 : (Jvm.Cond.code ({ cls := "java/util/Arrays", name := "copyOf", desc := "([BI)[B" } : Jvm.MethodName) jdk_65_method_121_code (3 : Nat) (Option.some (Jvm.ClassFile.FieldType.array Jvm.ClassFile.FieldType.byte))).before args0 about1 = true := code_word (m := ⟨6, 1⟩) (meth := k6m1) (c := k6c1) (by decide +kernel) rfl rfl rfl (by decide +kernel)
set_option maxRecDepth 65536 in
theorem w_c10 : (Jvm.Cond.code ({ cls := "java/lang/Math", name := "min", desc := "(II)I" } : Jvm.MethodName) jdk_29_method_69_code (2 : Nat) (Option.some Jvm.ClassFile.FieldType.int)).before args0 about1 = true := code_word (m := ⟨4, 2⟩) (meth := k4m2) (c := k4c2) (by decide +kernel) rfl rfl rfl (by decide +kernel)
set_option maxRecDepth 65536 in
theorem w_c11 : (Jvm.Cond.code ({ cls := "com/example/tracecourt/tracecourt/trace/Bytes$Out", name := "size", desc := "()I" } : Jvm.MethodName) prog_225_method_2_code (1 : Nat) (Option.some Jvm.ClassFile.FieldType.int)).before args0 about1 = true := code_word (m := ⟨3, 1⟩) (meth := k3m1) (c := k3c1) (by decide +kernel) rfl rfl rfl (by decide +kernel)
set_option maxRecDepth 65536 in
theorem w_c12 : (Jvm.Cond.code ({ cls := "com/example/tracecourt/tracecourt/trace/OutWriteIntAtPinLaw", name := "kept", desc := "([B[BII)Z" } : Jvm.MethodName) method_3_code (4 : Nat) (Option.some Jvm.ClassFile.FieldType.boolean)).before args0 about1 = true := code_word (m := ⟨1, 2⟩) (meth := k1m2) (c := k1c2) (by decide +kernel) rfl rfl rfl (by decide +kernel)
def codes1 : List Jvm.Cond := [Jvm.Cond.code x code maxLocals ret, Jvm.Cond.code ({ cls := "com/example/tracecourt/tracecourt/trace/Bytes$Out", name := "<init>", desc := "(I)V" } : Jvm.MethodName) prog_225_method_1_code (2 : Nat) (Option.none : Option Jvm.ClassFile.FieldType), Jvm.Cond.code ({ cls := "java/lang/Object", name := "<init>", desc := "()V" } : Jvm.MethodName) object_method_1_code (1 : Nat) (Option.none : Option Jvm.ClassFile.FieldType), Jvm.Cond.code ({ cls := "java/lang/Math", name := "max", desc := "(II)I" } : Jvm.MethodName) jdk_29_method_65_code (2 : Nat) (Option.some Jvm.ClassFile.FieldType.int), Jvm.Cond.code ({ cls := "com/example/tracecourt/tracecourt/trace/Bytes$Out", name := "write", desc := "([B)V" } : Jvm.MethodName) prog_225_method_9_code (2 : Nat) (Option.none : Option Jvm.ClassFile.FieldType), Jvm.Cond.code ({ cls := "com/example/tracecourt/tracecourt/trace/Bytes$Out", name := "write", desc := "([BII)V" } : Jvm.MethodName) prog_225_method_10_code (5 : Nat) (Option.none : Option Jvm.ClassFile.FieldType), Jvm.Cond.code ({ cls := "com/example/tracecourt/tracecourt/trace/Bytes$Out", name := "take", desc := "(I)I" } : Jvm.MethodName) prog_225_method_7_code (3 : Nat) (Option.some Jvm.ClassFile.FieldType.int), Jvm.Cond.code ({ cls := "com/example/tracecourt/tracecourt/trace/Bytes$Out", name := "writeIntAt", desc := "(II)V" } : Jvm.MethodName) prog_225_method_6_code (3 : Nat) (Option.none : Option Jvm.ClassFile.FieldType), Jvm.Cond.code ({ cls := "com/example/tracecourt/tracecourt/trace/Bytes$Out", name := "toByteArray", desc := "()[B" } : Jvm.MethodName) prog_225_method_4_code (1 : Nat) (Option.some (Jvm.ClassFile.FieldType.array Jvm.ClassFile.FieldType.byte)), Jvm.Cond.code ({ cls := "java/util/Arrays", name := "copyOf", desc := "([BI)[B" } : Jvm.MethodName) jdk_65_method_121_code (3 : Nat) (Option.some (Jvm.ClassFile.FieldType.array Jvm.ClassFile.FieldType.byte)), Jvm.Cond.code ({ cls := "java/lang/Math", name := "min", desc := "(II)I" } : Jvm.MethodName) jdk_29_method_69_code (2 : Nat) (Option.some Jvm.ClassFile.FieldType.int), Jvm.Cond.code ({ cls := "com/example/tracecourt/tracecourt/trace/Bytes$Out", name := "size", desc := "()I" } : Jvm.MethodName) prog_225_method_2_code (1 : Nat) (Option.some Jvm.ClassFile.FieldType.int), Jvm.Cond.code ({ cls := "com/example/tracecourt/tracecourt/trace/OutWriteIntAtPinLaw", name := "kept", desc := "([B[BII)Z" } : Jvm.MethodName) method_3_code (4 : Nat) (Option.some Jvm.ClassFile.FieldType.boolean)]
set_option maxRecDepth 65536 in
theorem codes_eq : words1.filter isCode = codes1 := rfl
theorem w_codes : ∀ c ∈ words1.filter isCode, c.before args0 about1 = true := by
  rw [codes_eq]
  intro c hc
  simp only [codes1, List.mem_cons, List.not_mem_nil, or_false] at hc
  rcases hc with rfl | rfl | rfl | rfl | rfl | rfl | rfl | rfl | rfl | rfl | rfl | rfl | rfl
  · exact w_c0
  · exact w_c1
  · exact w_c2
  · exact w_c3
  · exact w_c4
  · exact w_c5
  · exact w_c6
  · exact w_c7
  · exact w_c8
  · exact w_c9
  · exact w_c10
  · exact w_c11
  · exact w_c12
set_option maxRecDepth 65536 in
theorem w_t1 : (words1.take 24).all (fun c => isCode c || c.before args0 about1) = true := by decide +kernel
set_option maxRecDepth 65536 in
theorem w_t2 : ((words1.drop 24).take 24).all (fun c => isCode c || c.before args0 about1) = true := by decide +kernel
set_option maxRecDepth 65536 in
theorem w_t3 : ((words1.drop 24).drop 24).all (fun c => isCode c || c.before args0 about1) = true := by decide +kernel
theorem w_tables : (allAtoms (Jvm.Cond.code x code maxLocals ret :: tables_1)).before args0 about1 = true := by
  rw [allAtoms_all]
  show words1.all (fun c => c.before args0 about1) = true
  refine all_split ?_ w_codes
  rw [← List.take_append_drop 24 words1, List.all_append, w_t1, ← List.take_append_drop 24 (words1.drop 24), List.all_append, w_t2, w_t3]
  rfl
set_option maxRecDepth 65536 in
theorem w_case : (Jvm.Cond.and given_1 narrow_1).before args0 about1 = true := by decide +kernel
theorem w_applies : (headSpec (Jvm.Cond.code x code maxLocals ret :: tables_1) room_1).applies x e0.platform about1 = true :=
  (Spec.applies_iff w_frames).mpr ⟨w_running, w_runnable, w_alone, w_named, w_hears, w_ripe, w_room, w_tables⟩
theorem atStart : AtStart classFile x code maxLocals ret World_1 tables_1 room_1 Calls_1 rest_1 Pre_1 launch0 p0 e0 about1 theMethod args0 below0 :=
  ⟨lists_1, trivial, launch0.admits_env _ _ _, launch0.least_env, fairChoices_fair.cas, fairChoices_fair.clock, w_frames, w_args, w_heap, w_applies, trivial, trivial, w_case⟩
end start1
theorem witness_1 : WitnessClaimed_1 := ⟨start1.p0, start1.e0, start1.about1, start1.theMethod, start1.args0, start1.below0, start1.atStart⟩
end Jvm.Pilot.@@N@@
