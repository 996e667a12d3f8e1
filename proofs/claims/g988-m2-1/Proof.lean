import JvmDerived
import JvmDerived.Pilot.@@N@@Statement
import JvmDerived.Pilot.@@N@@Code
set_option linter.unusedVariables false
set_option linter.unusedSimpArgs false
namespace Jvm.RoadKit
open Sem ClassFile Op Lib Jvm.Stand Jvm.Free Jvm.LawKit
section New
variable {p : Program} {l : Launch} {e : Env} {R : Room} {s : State} {m : MethodId} {args : Array Value} {below : List Frame} {meth : Method} {c : Code} {T : State} {locs : List Loc} {cells slots : Nat}
theorem retI (X : Stand p l e R s m args below meth c T locs cells slots) (hx : p.tables.exec = Jvm.exec) {pc : Nat} {Ls : Array Slot} {z : Int32} {rest : List Value} (hret : meth.sig.returnType = some .int) (hd : decode c.code pc = .ok (.ireturn, 1)) {fs : List Frame}
    (hl : ∀ (f : JFrame) (acts : List Action), f.method = m → f.locked = none → f.entered = [] → (doReturn e (T.setTop f) acts (some (.int z))).1 = T.setFrames fs) : Steps p.tables e below (T.setTop (mkF m pc Ls (.int z :: rest))) (T.setFrames fs) := by
  have hm' : T.vm.method? m = some meth := X.method'
  have hn : narrow .int (.int z) = .int z := rfl
  show Steps p.tables e below (T.setTop { method := m, pc := pc, locals := Ls, stack := _ :: rest, locked := none }) _
  jvm_step X.here [X.here.top, hx, hd, hm', hret, hn]
  first | (intro acts; rw [hl _ acts rfl rfl rfl]) | rw [hl _ _ rfl rfl rfl]
  exact Steps.refl _
def own_shrL (x : Int64) (y : Int32) : Int64 := (x.toUInt64 >>> (y &&& 0x3f).toInt64.toUInt64).toInt64
def own_shrI (x y : Int32) : Int32 := (x.toUInt32 >>> (y &&& 31).toUInt32).toInt32
theorem own_go {tb : Tables} {T' : State} {f f' : JFrame} {G : State → Outcome → Prop} (k : ∀ t, Steps tb e below (T'.setTop f') t → Steps tb e below (T.setTop f) t) (h : ∃ s₂ o, Steps tb e below (T'.setTop f') s₂ ∧ G s₂ o) : ∃ s₂ o, Steps tb e below (T.setTop f) s₂ ∧ G s₂ o := by
  obtain ⟨s₂, o, a, b⟩ := h
  exact ⟨s₂, o, k _ a, b⟩
theorem own_vs {Q : Option Value → Heap → List Loc → Prop} {rc rs : Nat} {g : JFrame} {rest : List Value} (H : ∃ (v : Option Value) (vm₁ : Vm) (B : Pt), s.WarmedH vm₁ ∧ Stand p l e R s m args below meth c B.U B.locs B.cells B.slots ∧ (∃ L, Q v B.U.heap L ∧ B.locs = locs ++ L ∧ B.cells = cells + rc ∧ B.slots = slots + rs) ∧
      Steps p.tables e below (T.setTop g) (B.U.setTop { g with pc := g.pc + 3, stack := v.toList ++ rest })) :
    ∃ (v : Option Value) (vm₁ : Vm) (B : Pt), s.WarmedH vm₁ ∧ Stand p l e R s m args below meth c B.U B.locs B.cells B.slots ∧ (∃ L, Q v B.U.heap L ∧ B.locs = locs ++ L ∧ B.cells = cells + rc ∧ B.slots = slots + rs) ∧
      ∀ target, Steps p.tables e below (B.U.setTop { g with pc := g.pc + 3, stack := v.toList ++ rest }) target → Steps p.tables e below (T.setTop g) target := by
  obtain ⟨v, vm₁, B, w, X', q, st⟩ := H
  exact ⟨v, vm₁, B, w, X', q, fun t k => st.trans k⟩
theorem own_pf0 {Q : Option Value → Heap → List Loc → Prop} {Q2 : Heap → Prop} {rc rs k1 k2 n0 : Nat} {vv : Option Value} {g : JFrame} {rest : List Value} (N : Fr n0 locs) (H : ∃ (v : Option Value) (vm₁ : Vm) (B : Pt), s.WarmedH vm₁ ∧ Stand p l e R s m args below meth c B.U B.locs B.cells B.slots ∧ (∃ L, Q v B.U.heap L ∧ B.locs = locs ++ L ∧ B.cells = cells + rc ∧ B.slots = slots + rs) ∧
      ∀ target, Steps p.tables e below (B.U.setTop { g with pc := g.pc + 3, stack := v.toList ++ rest }) target → Steps p.tables e below (T.setTop g) target) (hv : ∀ v h L, Q v h L → v = vv ∧ Fr n0 L ∧ Q2 h) (hk : cells + rc = k1) (hn : slots + rs = k2) :
    ∃ (T' : State) (L : List Loc), Stand p l e R s m args below meth c T' L k1 k2 ∧ Fr n0 L ∧ Q2 T'.heap ∧ ∀ target, Steps p.tables e below (T'.setTop { g with pc := g.pc + 3, stack := (vv).toList ++ rest }) target → Steps p.tables e below (T.setTop g) target := by
  obtain ⟨v, vm₁, ⟨T', L', k', n'⟩, -, X', ⟨L, hQ, e1, e2, e3⟩, st⟩ := H
  obtain ⟨rfl, hN, hQ⟩ := hv _ _ _ hQ
  cases e1; cases e2; cases e3; cases hk; cases hn
  exact ⟨T', _, X', N.app hN, hQ, st⟩
theorem own_pf1 {α : Type} {Q : Option Value → Heap → List Loc → Prop} {Q2 : α → Heap → Prop} {rc rs k1 k2 n0 : Nat} {vv : α → Option Value} {g : JFrame} {rest : List Value} (N : Fr n0 locs) (H : ∃ (v : Option Value) (vm₁ : Vm) (B : Pt), s.WarmedH vm₁ ∧ Stand p l e R s m args below meth c B.U B.locs B.cells B.slots ∧ (∃ L, Q v B.U.heap L ∧ B.locs = locs ++ L ∧ B.cells = cells + rc ∧ B.slots = slots + rs) ∧
      ∀ target, Steps p.tables e below (B.U.setTop { g with pc := g.pc + 3, stack := v.toList ++ rest }) target → Steps p.tables e below (T.setTop g) target) (hv : ∀ v h L, Q v h L → ∃ (x0 : α), v = vv x0 ∧ Fr n0 L ∧ Q2 x0 h) (hk : cells + rc = k1) (hn : slots + rs = k2) :
    ∃ (T' : State) (L : List Loc) (x0 : α), Stand p l e R s m args below meth c T' L k1 k2 ∧ Fr n0 L ∧ Q2 x0 T'.heap ∧ ∀ target, Steps p.tables e below (T'.setTop { g with pc := g.pc + 3, stack := (vv x0).toList ++ rest }) target → Steps p.tables e below (T.setTop g) target := by
  obtain ⟨v, vm₁, ⟨T', L', k', n'⟩, -, X', ⟨L, hQ, e1, e2, e3⟩, st⟩ := H
  obtain ⟨x0, rfl, hN, hQ⟩ := hv _ _ _ hQ
  cases e1; cases e2; cases e3; cases hk; cases hn
  exact ⟨T', _, x0, X', N.app hN, hQ, st⟩
theorem own_pf2 {α β : Type} {Q : Option Value → Heap → List Loc → Prop} {Q2 : α → β → Heap → Prop} {rc rs k1 k2 n0 : Nat} {vv : α → β → Option Value} {g : JFrame} {rest : List Value} (N : Fr n0 locs) (H : ∃ (v : Option Value) (vm₁ : Vm) (B : Pt), s.WarmedH vm₁ ∧ Stand p l e R s m args below meth c B.U B.locs B.cells B.slots ∧ (∃ L, Q v B.U.heap L ∧ B.locs = locs ++ L ∧ B.cells = cells + rc ∧ B.slots = slots + rs) ∧
      ∀ target, Steps p.tables e below (B.U.setTop { g with pc := g.pc + 3, stack := v.toList ++ rest }) target → Steps p.tables e below (T.setTop g) target) (hv : ∀ v h L, Q v h L → ∃ (x0 : α) (x1 : β), v = vv x0 x1 ∧ Fr n0 L ∧ Q2 x0 x1 h) (hk : cells + rc = k1) (hn : slots + rs = k2) :
    ∃ (T' : State) (L : List Loc) (x0 : α) (x1 : β), Stand p l e R s m args below meth c T' L k1 k2 ∧ Fr n0 L ∧ Q2 x0 x1 T'.heap ∧ ∀ target, Steps p.tables e below (T'.setTop { g with pc := g.pc + 3, stack := (vv x0 x1).toList ++ rest }) target → Steps p.tables e below (T.setTop g) target := by
  obtain ⟨v, vm₁, ⟨T', L', k', n'⟩, -, X', ⟨L, hQ, e1, e2, e3⟩, st⟩ := H
  obtain ⟨x0, x1, rfl, hN, hQ⟩ := hv _ _ _ hQ
  cases e1; cases e2; cases e3; cases hk; cases hn
  exact ⟨T', _, x0, x1, X', N.app hN, hQ, st⟩
theorem own_cut {tb : Tables} {f f' : JFrame} {G : State → Outcome → Prop} {P : State → Prop} (h1 : (∀ T', P T' → ∃ s₂ o, Steps tb e below (T'.setTop f') s₂ ∧ G s₂ o) → ∃ s₂ o, Steps tb e below (T.setTop f) s₂ ∧ G s₂ o) (h2 : ∀ T', P T' → ∃ s₂ o, Steps tb e below (T'.setTop f') s₂ ∧ G s₂ o) : ∃ s₂ o, Steps tb e below (T.setTop f) s₂ ∧ G s₂ o := h1 h2
end New
abbrev own_One (o : Slot) : Prop := o = .unset ∨ ∃ w, o = .val w ∧ w.category = 1
section Arrays
variable {p : Program} {l : Launch} {e : Env} {R : Room} {s : State} {m : MethodId} {args : Array Value} {below : List Frame} {meth : Method} {c : Code} {T : State} {locs : List Loc} {cells slots : Nat} {Z : State} {h h' : Heap} {a b : Addr} {ty : FieldType} {z : Int32} {f : Nat → Int32} {fj : Nat → Int64} {ws : List Addr} {sl : Nat} {v : Value}
def own_ArI (Z : State) (h : Heap) (a : Addr) (ty : FieldType) (z : Int32) (f : Nat → Int32) : Prop := ∃ c : Cell, Arr Z h a c ty ∧ c.slots.size = z.toInt.toNat ∧ 0 ≤ z.toInt ∧ ∀ i, i < z.toInt.toNat → c.slots[i]? = some (.int (f i)) ∧ fits ty (.int (f i)) = true
def own_ArJ (Z : State) (h : Heap) (a : Addr) (ty : FieldType) (z : Int32) (f : Nat → Int64) : Prop := ∃ c : Cell, Arr Z h a c ty ∧ c.slots.size = z.toInt.toNat ∧ 0 ≤ z.toInt ∧ ∀ i, i < z.toInt.toNat → c.slots[i]? = some (.long (f i))
theorem own_ArI.lt (F : own_ArI Z h a ty z f) : a < h.size := by obtain ⟨c, A, -⟩ := F; exact A.lt
theorem own_ArJ.lt (F : own_ArJ Z h a ty z fj) : a < h.size := by obtain ⟨c, A, -⟩ := F; exact A.lt
theorem own_ArI.ext (F : own_ArI Z h a ty z f) (E : Ext h h') : own_ArI Z h' a ty z f := by obtain ⟨c, A, r⟩ := F; exact ⟨c, A.ext E, r⟩
theorem own_ArJ.ext (F : own_ArJ Z h a ty z fj) (E : Ext h h') : own_ArJ Z h' a ty z fj := by obtain ⟨c, A, r⟩ := F; exact ⟨c, A.ext E, r⟩
theorem own_ArI.other (F : own_ArI Z h b ty z f) (W : Wr h h' a sl v) (q : b ≠ a) : own_ArI Z h' b ty z f := by obtain ⟨c, A, r⟩ := F; exact ⟨c, A.other W q, r⟩
theorem own_ArJ.other (F : own_ArJ Z h b ty z fj) (W : Wr h h' a sl v) (q : b ≠ a) : own_ArJ Z h' b ty z fj := by obtain ⟨c, A, r⟩ := F; exact ⟨c, A.other W q, r⟩
theorem own_ArI.keep (F : own_ArI Z h a ty z f) (K : Keep h h' ws) (q : a ∉ ws) : own_ArI Z h' a ty z f := by obtain ⟨c, A, r⟩ := F; exact ⟨c, ⟨K.2.1 a c A.1 q, A.2⟩, r⟩
theorem own_ArJ.keep (F : own_ArJ Z h a ty z fj) (K : Keep h h' ws) (q : a ∉ ws) : own_ArJ Z h' a ty z fj := by obtain ⟨c, A, r⟩ := F; exact ⟨c, ⟨K.2.1 a c A.1 q, A.2⟩, r⟩
theorem own_nn (q : ¬ z < 0) : 0 ≤ z.toInt := by rw [Int32.lt_iff_toInt_lt] at q; have e0 : (0 : Int32).toInt = 0 := rfl; omega
theorem own_ArI.new {k : ClassId} (A : Arr Z h a (newA k ty z) ty) (q : ¬ z < 0) (hd : defaultValue ty = .int 0) (hf : fits ty (.int 0) = true := by rfl) : own_ArI Z h a ty z (fun _ => 0) :=
  ⟨_, A, sz_new _ _ _, own_nn q, fun i hi => ⟨by have hi' : i < z.toNatClampNeg := hi; simp [newA, hd, hi'], hf⟩⟩
theorem own_ArJ.new {k : ClassId} (A : Arr Z h a (newA k ty z) ty) (q : ¬ z < 0) (hd : defaultValue ty = .long 0) : own_ArJ Z h a ty z (fun _ => 0) :=
  ⟨_, A, sz_new _ _ _, own_nn q, fun i hi => by have hi' : i < z.toNatClampNeg := hi; simp [newA, hd, hi']⟩
theorem own_in {j : Int32} {n : Nat} (hn : n = z.toInt.toNat) (h1 : 0 ≤ j.toInt) (h2 : j.toInt < z.toInt) : ¬ (j < 0 ∨ n ≤ j.toNatClampNeg) := by
  have e0 : (0 : Int32).toInt = 0 := rfl
  rw [Int32.lt_iff_toInt_lt, hn]; show ¬ (_ ∨ _ ≤ j.toInt.toNat); omega
theorem own_ArI.set (F : own_ArI Z h a ty z f) {j : Nat} {x : Int32} (W : Wr h h' a j (.int x)) (hx : fits ty (.int x) = true) : own_ArI Z h' a ty z (fun i => if i = j then x else f i) := by
  obtain ⟨c, A, S, q, H⟩ := F
  refine ⟨_, A.same W, by rw [sz_set]; exact S, q, fun i hi => ?_⟩
  by_cases e : i = j
  · subst e
    have hlt : i < c.slots.size := by rw [S]; exact hi
    simp only [if_pos]
    exact ⟨by simp [Cell.setSlot, hlt], hx⟩
  · simp only [if_neg e]
    have hne : (c.setSlot j (.int x)).slots[i]? = c.slots[i]? := by simp only [Cell.setSlot]; exact Array.getElem?_setIfInBounds_ne (Ne.symm e)
    rw [hne]; exact H i hi
theorem own_ArJ.set (F : own_ArJ Z h a ty z fj) {j : Nat} {x : Int64} (W : Wr h h' a j (.long x)) : own_ArJ Z h' a ty z (fun i => if i = j then x else fj i) := by
  obtain ⟨c, A, S, q, H⟩ := F
  refine ⟨_, A.same W, by rw [sz_set]; exact S, q, fun i hi => ?_⟩
  by_cases e : i = j
  · subst e
    have hlt : i < c.slots.size := by rw [S]; exact hi
    simp only [if_pos]
    simp [Cell.setSlot, hlt]
  · simp only [if_neg e]
    have hne : (c.setSlot j (.long x)).slots[i]? = c.slots[i]? := by simp only [Cell.setSlot]; exact Array.getElem?_setIfInBounds_ne (Ne.symm e)
    rw [hne]; exact H i hi
theorem own_ldB (X : Stand p l e R s m args below meth c T locs cells slots) (hx : p.tables.exec = Jvm.exec) (hZ : Z.Warmed39 s.vm) (eT : T.heap = h) (A : own_ArI Z h a .byte z f) {j : Int32} (h1 : 0 ≤ j.toInt) (h2 : j.toInt < z.toInt) {g : JFrame} (hg : g.method = m) {rest : List Value} (hs : g.stack = .int j :: .ref a :: rest) (hd : decode c.code g.pc = .ok (.baload, 1)) (target : State)
    (k : Steps p.tables e below (T.setTop { g with pc := g.pc + 1, stack := .int (f j.toInt.toNat) :: rest }) target) : Steps p.tables e below (T.setTop g) target := by
  obtain ⟨cl, A, S, q, H⟩ := A
  exact X.baloadBytes hx (j := j) (v := .int (f j.toInt.toNat)) (by rw [eT]; exact A.1) (State.isArrayOf_alike hZ.alike A.2.1) A.2.2 (own_in S h1 h2) (H j.toInt.toNat (by omega)).1 hg hs hd target k
theorem own_ldJ (X : Stand p l e R s m args below meth c T locs cells slots) (hx : p.tables.exec = Jvm.exec) (hZ : Z.Warmed39 s.vm) (eT : T.heap = h) (A : own_ArJ Z h a .long z fj) {j : Int32} (h1 : 0 ≤ j.toInt) (h2 : j.toInt < z.toInt) {g : JFrame} (hg : g.method = m) {rest : List Value} (hs : g.stack = .int j :: .ref a :: rest) (hd : decode c.code g.pc = .ok (.laload, 1)) (target : State)
    (k : Steps p.tables e below (T.setTop { g with pc := g.pc + 1, stack := .long (fj j.toInt.toNat) :: rest }) target) : Steps p.tables e below (T.setTop g) target := by
  obtain ⟨cl, A, S, q, H⟩ := A
  exact X.laload hx (j := j) (v := .long (fj j.toInt.toNat)) (by rw [eT]; exact A.1) (State.isArrayOf_alike hZ.alike A.2.1) A.2.2 (own_in S h1 h2) (H j.toInt.toNat (by omega)) hg hs hd target k
theorem own_stB (X : Stand p l e R s m args below meth c T locs cells slots) (hx : p.tables.exec = Jvm.exec) (hZ : Z.Warmed39 s.vm) (eT : T.heap = h) (A : own_ArI Z h a .byte z f) {j x : Int32} (h1 : 0 ≤ j.toInt) (h2 : j.toInt < z.toInt) {g : JFrame} (hg : g.method = m) {rest : List Value} (hs : g.stack = .int x :: .int j :: .ref a :: rest) (hd : decode c.code g.pc = .ok (.bastore, 1)) :
    ∃ (T' : State) (h' : Heap) (f' : Nat → Int32), Stand p l e R s m args below meth c T' (locs ++ [⟨a, j.toInt.toNat⟩]) cells slots ∧ T'.heap = h' ∧ Wr h h' a j.toInt.toNat (.int (nar .byte x)) ∧ own_ArI Z h' a .byte z f' ∧ f' j.toInt.toNat = nar .byte x ∧ (∀ i, i ≠ j.toInt.toNat → f' i = f i) ∧
      ∀ target, Steps p.tables e below (T'.setTop { g with pc := g.pc + 1, stack := rest }) target → Steps p.tables e below (T.setTop g) target := by
  have A' := A
  obtain ⟨cl, B, S, q, H⟩ := A
  obtain ⟨T', h', X', e', W, st⟩ := stB X hx hZ eT B (j := j) (x := x) (own_in S h1 h2) hg hs hd
  exact ⟨T', h', _, X', e', W, A'.set W (fits_nar_byte x), if_pos rfl, fun i hi => if_neg hi, st⟩
theorem own_stC (X : Stand p l e R s m args below meth c T locs cells slots) (hx : p.tables.exec = Jvm.exec) (hZ : Z.Warmed39 s.vm) (eT : T.heap = h) (A : own_ArI Z h a .char z f) {j x : Int32} (h1 : 0 ≤ j.toInt) (h2 : j.toInt < z.toInt) {g : JFrame} (hg : g.method = m) {rest : List Value} (hs : g.stack = .int x :: .int j :: .ref a :: rest) (hd : decode c.code g.pc = .ok (.castore, 1)) :
    ∃ (T' : State) (h' : Heap) (f' : Nat → Int32), Stand p l e R s m args below meth c T' (locs ++ [⟨a, j.toInt.toNat⟩]) cells slots ∧ T'.heap = h' ∧ Wr h h' a j.toInt.toNat (.int (nar .char x)) ∧ own_ArI Z h' a .char z f' ∧ f' j.toInt.toNat = nar .char x ∧ (∀ i, i ≠ j.toInt.toNat → f' i = f i) ∧
      ∀ target, Steps p.tables e below (T'.setTop { g with pc := g.pc + 1, stack := rest }) target → Steps p.tables e below (T.setTop g) target := by
  have A' := A
  obtain ⟨cl, B, S, q, H⟩ := A
  obtain ⟨T', h', X', e', W, st⟩ := stC X hx hZ eT B (j := j) (x := x) (own_in S h1 h2) hg hs hd
  exact ⟨T', h', _, X', e', W, A'.set W (fits_nar_char x), if_pos rfl, fun i hi => if_neg hi, st⟩
theorem own_stJ (X : Stand p l e R s m args below meth c T locs cells slots) (hx : p.tables.exec = Jvm.exec) (hZ : Z.Warmed39 s.vm) (eT : T.heap = h) (A : own_ArJ Z h a .long z fj) {j : Int32} {x : Int64} (h1 : 0 ≤ j.toInt) (h2 : j.toInt < z.toInt) {g : JFrame} (hg : g.method = m) {rest : List Value} (hs : g.stack = .long x :: .int j :: .ref a :: rest) (hd : decode c.code g.pc = .ok (.lastore, 1)) :
    ∃ (T' : State) (h' : Heap) (f' : Nat → Int64), Stand p l e R s m args below meth c T' (locs ++ [⟨a, j.toInt.toNat⟩]) cells slots ∧ T'.heap = h' ∧ Wr h h' a j.toInt.toNat (.long x) ∧ own_ArJ Z h' a .long z f' ∧ f' j.toInt.toNat = x ∧ (∀ i, i ≠ j.toInt.toNat → f' i = fj i) ∧
      ∀ target, Steps p.tables e below (T'.setTop { g with pc := g.pc + 1, stack := rest }) target → Steps p.tables e below (T.setTop g) target := by
  have A' := A
  obtain ⟨cl, B, S, q, H⟩ := A
  obtain ⟨T', h', X', e', W, st⟩ := stJ X hx hZ eT B (j := j) (x := x) (own_in S h1 h2) hg hs hd
  exact ⟨T', h', _, X', e', W, A'.set W, if_pos rfl, fun i hi => if_neg hi, st⟩
theorem own_ArI.len (A : own_ArI Z h a ty z f) (X : Stand p l e R s m args below meth c T locs cells slots) (hx : p.tables.exec = Jvm.exec) (hZ : Z.Warmed39 s.vm) (eT : T.heap = h) {g : JFrame} (hg : g.method = m) {rest : List Value} (hs : g.stack = .ref a :: rest) (hd : decode c.code g.pc = .ok (.arraylength, 1)) (target : State)
    (k : Steps p.tables e below (T.setTop { g with pc := g.pc + 1, stack := .int z :: rest }) target) : Steps p.tables e below (T.setTop g) target := by
  obtain ⟨cl, B, S, q, -⟩ := A
  refine X.arraylength hx (by rw [eT]; exact B.1) (State.isArrayOf_alike hZ.alike B.2.1) hg hs hd target ?_
  rw [len_of (z := z) S (by rw [Int32.lt_iff_toInt_lt]; have e0 : (0 : Int32).toInt = 0 := rfl; omega)]; exact k
theorem own_ArJ.len (A : own_ArJ Z h a ty z fj) (X : Stand p l e R s m args below meth c T locs cells slots) (hx : p.tables.exec = Jvm.exec) (hZ : Z.Warmed39 s.vm) (eT : T.heap = h) {g : JFrame} (hg : g.method = m) {rest : List Value} (hs : g.stack = .ref a :: rest) (hd : decode c.code g.pc = .ok (.arraylength, 1)) (target : State)
    (k : Steps p.tables e below (T.setTop { g with pc := g.pc + 1, stack := .int z :: rest }) target) : Steps p.tables e below (T.setTop g) target := by
  obtain ⟨cl, B, S, q, -⟩ := A
  refine X.arraylength hx (by rw [eT]; exact B.1) (State.isArrayOf_alike hZ.alike B.2.1) hg hs hd target ?_
  rw [len_of (z := z) S (by rw [Int32.lt_iff_toInt_lt]; have e0 : (0 : Int32).toInt = 0 := rfl; omega)]; exact k
theorem own_toArv (A : own_ArI Z h a ty z f) : ∃ k, Arv Z h a k ty z ((List.range z.toInt.toNat).map fun i => Value.int (f i)) (.int 0) := by
  obtain ⟨c, B, S, q, H⟩ := A
  have g : ∀ i, i < z.toInt.toNat → ((List.range z.toInt.toNat).map fun i => Value.int (f i)).getD i (.int 0) = .int (f i) := fun i hi => by rw [List.getD_eq_getElem?_getD, List.getElem?_map, List.getElem?_range hi]; rfl
  refine ⟨_, c, B, rfl, S, by rw [Int32.lt_iff_toInt_lt]; have e0 : (0 : Int32).toInt = 0 := rfl; omega, fun i hi => ?_, fun i hi => ?_⟩
  · rw [S] at hi; rw [g i hi]; exact (H i hi).1
  · rw [S] at hi; rw [g i hi]; exact (H i hi).2
theorem own_ofArv {k : ClassId} {vs : List Value} {dv : Value} (A : Arv Z h a k ty z vs dv) (hv : ∀ i, i < z.toInt.toNat → vs.getD i dv = .int (f i)) : own_ArI Z h a ty z f := by
  obtain ⟨c, B, -, S, q, H, G⟩ := A
  have S' : c.slots.size = z.toInt.toNat := S
  exact ⟨c, B, S', own_nn q, fun i hi => ⟨by rw [← hv i hi]; exact H i (by rw [S']; exact hi), by rw [← hv i hi]; exact G i (by rw [S']; exact hi)⟩⟩
theorem own_cp (X : Stand p l e R s m args below meth c T locs cells slots) (hx : p.tables.exec = Jvm.exec) (hZ : Z.Warmed39 s.vm) {a0 : Array Value} {own : String} {index : Nat} (hown : s.vm.findClass own = some m.cls)
    (w1 : (Cond.methodLink own index Jvm.Stand.acN).before a0 Z = true) (w2 : (Cond.native Jvm.Stand.acN).before a0 Z = true) (w3 : (Cond.static Jvm.Stand.acN).before a0 Z = true) (w4 : (Cond.initialized "java/lang/System").before a0 Z = true) (eT : T.heap = h)
    {z' sp dp nn : Int32} {f2 : Nat → Int32} (A : own_ArI Z h a .byte z f) (B : own_ArI Z h b .byte z' f2) (h1 : 0 ≤ sp.toInt) (h2 : 0 ≤ dp.toInt) (h3 : 0 ≤ nn.toInt) (h4 : sp.toInt + nn.toInt ≤ z.toInt) (h5 : dp.toInt + nn.toInt ≤ z'.toInt) {n0 : Nat} (N : Fr n0 locs) (ge : n0 ≤ b)
    {g : JFrame} (hg : g.method = m) (hsize : g.locals.size = c.maxLocals) {rest : List Value} (hs : g.stack = .int nn :: .int dp :: .ref b :: .int sp :: .ref a :: rest) (hd : decode c.code g.pc = .ok (.invokestatic index, 3))
    (hf : 1 ≤ R.frames) {W : Nat} (hW : 2 * g.monitorRoom + (rest.map fun v => v.category).sum ≤ W) (hlo : W + (nativeFrameWords "java/lang/System" "arraycopy" 5 + 11) ≤ R.locals) :
    ∃ (T' : State) (h' : Heap) (L : List Loc) (f' : Nat → Int32), Stand p l e R s m args below meth c T' L cells slots ∧ T'.heap = h' ∧ Fr n0 L ∧ Keep h h' [b] ∧ own_ArI Z h' b .byte z' f' ∧ (∀ i, i < nn.toInt.toNat → f' (dp.toInt.toNat + i) = f (sp.toInt.toNat + i)) ∧ (∀ i, i < dp.toInt.toNat ∨ dp.toInt.toNat + nn.toInt.toNat ≤ i → f' i = f2 i) ∧
      ∀ target, Steps p.tables e below (T'.setTop { g with pc := g.pc + 3, stack := rest }) target → Steps p.tables e below (T.setTop g) target := by
  obtain ⟨ka, A'⟩ := own_toArv A
  obtain ⟨kb, B'⟩ := own_toArv B
  have e0 : (0 : Int32).toInt = 0 := rfl
  have nl : ∀ x : Int32, 0 ≤ x.toInt → ¬ x < 0 := fun x q => by rw [Int32.lt_iff_toInt_lt]; omega
  obtain ⟨T', h', L, X', e', N', K', V', st⟩ := cpA X hx hZ hown w1 w2 w3 w4 eT A' B' (Or.inl ⟨rfl, rfl⟩) (nl _ h1) (nl _ h2) (nl _ h3) (show sp.toInt.toNat + nn.toInt.toNat ≤ z.toInt.toNat by omega) (show dp.toInt.toNat + nn.toInt.toNat ≤ z'.toInt.toNat by omega) rfl (by show dp.toInt.toNat + nn.toInt.toNat ≤ _; simp only [List.length_map, List.length_range]; omega) N ge hg hsize hs hd hf hW hlo
  refine ⟨T', h', L, fun i => if dp.toInt.toNat ≤ i ∧ i < dp.toInt.toNat + nn.toInt.toNat then f (sp.toInt.toNat + (i - dp.toInt.toNat)) else f2 i, X', e', N', K', own_ofArv V' fun i hi => ?_, fun i hi => ?_, fun i hi => ?_, st⟩
  · have m1 : min dp.toInt.toNat z'.toInt.toNat = dp.toInt.toNat := by omega
    have gd : ∀ k, k < z'.toInt.toNat → ((List.range z'.toInt.toNat).map fun i => Value.int (f2 i))[k]? = some (.int (f2 k)) := fun k hk => by rw [List.getElem?_map, List.getElem?_range hk]; rfl
    have gs : ∀ k, k < z.toInt.toNat → ((List.range z.toInt.toNat).map fun i => Value.int (f i)).getD k (.int 0) = .int (f k) := fun k hk => by rw [List.getD_eq_getElem?_getD, List.getElem?_map, List.getElem?_range hk]; rfl
    have ll : (List.take dp.toInt.toNat ((List.range z'.toInt.toNat).map fun i => Value.int (f2 i))).length = dp.toInt.toNat := by rw [List.length_take, List.length_map, List.length_range]; exact m1
    show (List.take dp.toInt.toNat ((List.range z'.toInt.toNat).map fun i => Value.int (f2 i)) ++ (List.range nn.toInt.toNat).map (fun i => ((List.range z.toInt.toNat).map fun i => Value.int (f i)).getD (sp.toInt.toNat + i) (.int 0)) ++ List.drop (dp.toInt.toNat + nn.toInt.toNat) ((List.range z'.toInt.toNat).map fun i => Value.int (f2 i))).getD i (.int 0) = Value.int (if dp.toInt.toNat ≤ i ∧ i < dp.toInt.toNat + nn.toInt.toNat then f (sp.toInt.toNat + (i - dp.toInt.toNat)) else f2 i)
    rw [List.getD_eq_getElem?_getD, List.append_assoc]
    by_cases c1 : i < dp.toInt.toNat
    · rw [if_neg (by omega), List.getElem?_append_left (by rw [ll]; exact c1), List.getElem?_take_of_lt c1, gd i hi]; rfl
    · rw [List.getElem?_append_right (by rw [ll]; omega), ll]
      by_cases c2 : i < dp.toInt.toNat + nn.toInt.toNat
      · rw [if_pos ⟨by omega, c2⟩, List.getElem?_append_left (by rw [List.length_map, List.length_range]; omega), List.getElem?_map, List.getElem?_range (by omega)]
        exact gs _ (by omega)
      · rw [if_neg (by omega), List.getElem?_append_right (by rw [List.length_map, List.length_range]; omega), List.length_map, List.length_range, List.getElem?_drop, show dp.toInt.toNat + nn.toInt.toNat + (i - dp.toInt.toNat - nn.toInt.toNat) = i by omega, gd i hi]; rfl
  · simp only []; rw [if_pos ⟨by omega, by omega⟩, show dp.toInt.toNat + i - dp.toInt.toNat = i by omega]
  · simp only []; rw [if_neg (by omega)]
end Arrays
end Jvm.RoadKit
namespace Jvm.Pilot.@@N@@
open Jvm Jvm.ClassFile Sem Op Lib Jvm.Free Jvm.Stand Jvm.LawKit Jvm.RoadKit Bundle Jvm.Pilot.@@N@@.Jvm.D
def own_u (x : Int64) : Nat := x.toBitVec.toNat
theorem own_ui (x : Int64) : (x.toInt - own_u x) % 18446744073709551616 = 0 ∧ own_u x < 18446744073709551616 := by
  have h := x.toBitVec.isLt
  refine ⟨?_, h⟩
  show (x.toBitVec.toInt - (x.toBitVec.toNat : Int)) % _ = 0
  rw [BitVec.toInt_eq_toNat_cond]; split <;> omega
theorem own_u0 (x : Int64) : x = (0 : Int64) ↔ own_u x = 0 := by
  constructor
  · rintro rfl; rfl
  · intro h; exact Int64.toBitVec_inj.mp (BitVec.eq_of_toNat_eq h)
theorem own_ushr (x : Int64) (q : Int32) (k : Nat) (hk : q.toBitVec.toNat % 64 = k) : own_u (own_shrL x q) = own_u x / 2 ^ k := by
  have e : ((q &&& 0x3f).toInt64.toUInt64).toNat = k := by
    show (q &&& 0x3f).toInt64.toBitVec.toNat = k
    rw [(sm64 q k hk).1, BitVec.toNat_ofNat]; omega
  show (x.toUInt64 >>> (q &&& 0x3f).toInt64.toUInt64).toNat = _
  rw [UInt64.toNat_shiftRight, Nat.shiftRight_eq_div_pow, e, Nat.mod_eq_of_lt (by omega)]; rfl
theorem own_dec {j : Int32} (h : -2147483648 < j.toInt) : (j + (Int32.ofInt (-1))).toInt = j.toInt - 1 := by
  have a := c_iadd j (Int32.ofInt (-1)); have c := rng32 (j + (Int32.ofInt (-1))); have d := rng32 j
  have e1 : (Int32.ofInt (-1)).toInt = -1 := by decide
  omega
def own_byte (b : Int32) (y : Nat) : Prop := (b.toInt - y) % 256 = 0 ∧ -128 ≤ b.toInt ∧ b.toInt < 128
theorem own_byte_inj {b c : Int32} {y : Nat} (h1 : own_byte b y) (h2 : own_byte c y) : b = c := by
  obtain ⟨a1, a2, a3⟩ := h1; obtain ⟨b1, b2, b3⟩ := h2
  exact Int32.toInt_inj.mp (by omega)
theorem own_nb (x : Int32) : nar .byte (x.toInt8.toInt32) = x.toInt8.toInt32 := by
  have a := c_i2b x; have b := c_i2b (x.toInt8.toInt32)
  exact Int32.toInt_inj.mp (by show (x.toInt8.toInt32).toInt8.toInt32.toInt = _; omega)
theorem own_cond (x : Int64) : (x &&& (-128 : Int64)) = (0 : Int64) ↔ own_u x < 128 := by
  rw [own_u0]
  show (x.toBitVec &&& (-128 : Int64).toBitVec).toNat = 0 ↔ x.toBitVec.toNat < 128
  have e : (x.toBitVec &&& (-128 : Int64).toBitVec) = (x.toBitVec >>> 7) <<< 7 := by
    apply BitVec.eq_of_getLsbD_eq
    intro i hi
    have q : ∀ i : Fin 64, (-128 : Int64).toBitVec.getLsbD i.1 = decide (7 ≤ i.1) := by decide +kernel
    rw [BitVec.getLsbD_and, q ⟨i, hi⟩, BitVec.getLsbD_shiftLeft, BitVec.getLsbD_ushiftRight]
    by_cases c : i < 7
    · simp [c, show ¬ 7 ≤ i by omega]
    · simp [c, hi, show 7 ≤ i by omega, show 7 + (i - 7) = i by omega]
  rw [e, BitVec.toNat_shiftLeft, BitVec.toNat_ushiftRight, Nat.shiftLeft_eq, Nat.shiftRight_eq_div_pow]
  have := x.toBitVec.isLt
  omega
theorem own_b1 (x : Int64) : own_byte (nar .byte ((((x &&& (127 : Int64)) ||| (128 : Int64)).toInt32).toInt8.toInt32)) (own_u x % 128 + 128) := by
  rw [own_nb]
  have m := c_maskL x 127 7 (by decide) (by decide)
  have u := own_ui x
  have o := c_orL' (x &&& 127) 128 7 (by decide) 128 rfl (by decide) (by rw [m]; exact Int.emod_nonneg _ (by decide)) (by rw [m]; exact Int.emod_lt_of_pos _ (by decide))
  have e128 : (128 : Int64).toInt = 128 := rfl
  have l := c_l2i ((x &&& (127 : Int64)) ||| (128 : Int64))
  have b := c_i2b (((x &&& (127 : Int64)) ||| (128 : Int64)).toInt32)
  rw [m, e128] at o
  refine ⟨?_, b.2⟩
  omega
theorem own_b2 (x : Int64) : own_byte (nar .byte ((x.toInt32).toInt8.toInt32)) (own_u x) := by
  rw [own_nb]
  have u := own_ui x
  have l := c_l2i x
  have b := c_i2b x.toInt32
  refine ⟨?_, b.2⟩
  omega
/-- what the loop of writeUnsigned does: k whole groups of 7 bits are written from the place j on -/
def own_LS (fuel : Nat) (x : Int64) (j : Int32) (f : Nat → Int32) (x' : Int64) (j' : Int32) (f' : Nat → Int32) : Prop :=
  ∃ k : Nat, k ≤ fuel ∧ j'.toInt = j.toInt + k ∧ own_u x' = own_u x / 128 ^ k ∧ own_u x' < 128 ∧ (k = 0 ∨ 0 < own_u x') ∧ (∀ i, i < k → own_byte (f' (j.toInt.toNat + i)) (own_u x / 128 ^ i % 128 + 128)) ∧ ∀ i, i < j.toInt.toNat ∨ j.toInt.toNat + k ≤ i → f' i = f i
theorem own_LS.stop {fuel : Nat} {x : Int64} {j : Int32} {f : Nat → Int32} (h : own_u x < 128) : own_LS fuel x j f x j f :=
  ⟨0, Nat.zero_le _, by omega, by simp, h, Or.inl rfl, fun i hi => absurd hi (Nat.not_lt_zero _), fun _ _ => rfl⟩
theorem own_LS.turn {fuel : Nat} {x x' : Int64} {j j' : Int32} {f f1 f' : Nat → Int32} (hf : 0 < fuel) (hj : 0 ≤ j.toInt) (hj1 : (j + 1).toInt = j.toInt + 1) (hx : 128 ≤ own_u x) (ha : own_byte (f1 j.toInt.toNat) (own_u x % 128 + 128)) (hb : ∀ i, i ≠ j.toInt.toNat → f1 i = f i)
    (h : own_LS (fuel - 1) (own_shrL x 7) (j + 1) f1 x' j' f') : own_LS fuel x j f x' j' f' := by
  obtain ⟨k, h1, h2, h3, h4, h5, h6, h7⟩ := h
  have s : own_u (own_shrL x 7) = own_u x / 128 := own_ushr x 7 7 rfl
  have n1 : (j + 1).toInt.toNat = j.toInt.toNat + 1 := by omega
  rw [s] at h3 h6
  rw [n1] at h6 h7
  have dp : ∀ i, own_u x / 128 / 128 ^ i = own_u x / 128 ^ (i + 1) := fun i => by rw [Nat.div_div_eq_div_mul, Nat.pow_succ, Nat.mul_comm]
  refine ⟨k + 1, by omega, by omega, by rw [h3, dp], h4, Or.inr ?_, fun i hi => ?_, fun i hi => ?_⟩
  · rcases h5 with rfl | h5
    · rw [h3]; simp only [Nat.pow_zero, Nat.div_one]; omega
    · exact h5
  · cases i with
    | zero =>
      rw [h7 _ (Or.inl (by omega))]
      simpa using ha
    | succ i =>
      have q := h6 i (by omega)
      rw [dp, show j.toInt.toNat + 1 + i = j.toInt.toNat + (i + 1) by omega] at q
      exact q
  · rw [h7 i (by omega), hb i (by omega)]
theorem own_LS.pos {x : Int64} {fuel : Nat} (h : ¬ own_u x < 128) (hf : own_u x < 128 ^ (fuel + 1)) : 0 < fuel :=
  Nat.pos_of_ne_zero fun q => by subst q; exact h hf
theorem own_LS.fuel {x : Int64} {fuel : Nat} (h0 : 0 < fuel) (hf : own_u x < 128 ^ (fuel + 1)) : own_u (own_shrL x (7 : Int32)) < 128 ^ (fuel - 1 + 1) := by
  rw [own_ushr x 7 7 rfl, show fuel - 1 + 1 = fuel by omega]
  rw [Nat.pow_succ, Nat.mul_comm] at hf
  exact Nat.div_lt_of_lt_mul hf
theorem own_d1_0 : decode method_2_code 0 = .ok (.lload_n 0, 1) := by decide +kernel
theorem own_d1_1 : decode method_2_code 1 = .ok (.bipush 7, 2) := by decide +kernel
theorem own_d1_3 : decode method_2_code 3 = .ok (.lushr, 1) := by decide +kernel
theorem own_d1_4 : decode method_2_code 4 = .ok (.lconst 0, 1) := by decide +kernel
theorem own_d1_5 : decode method_2_code 5 = .ok (.lcmp, 1) := by decide +kernel
theorem own_d1_6 : decode method_2_code 6 = .ok (.ifCond .ne 5, 3) := by decide +kernel
theorem own_d1_9 : decode method_2_code 9 = .ok (.iconst 1, 1) := by decide +kernel
theorem own_d1_10 : decode method_2_code 10 = .ok (.ireturn, 1) := by decide +kernel
theorem own_d1_11 : decode method_2_code 11 = .ok (.lload_n 0, 1) := by decide +kernel
theorem own_d1_12 : decode method_2_code 12 = .ok (.bipush 14, 2) := by decide +kernel
theorem own_d1_14 : decode method_2_code 14 = .ok (.lushr, 1) := by decide +kernel
theorem own_d1_15 : decode method_2_code 15 = .ok (.lconst 0, 1) := by decide +kernel
theorem own_d1_16 : decode method_2_code 16 = .ok (.lcmp, 1) := by decide +kernel
theorem own_d1_17 : decode method_2_code 17 = .ok (.ifCond .ne 5, 3) := by decide +kernel
theorem own_d1_20 : decode method_2_code 20 = .ok (.iconst 2, 1) := by decide +kernel
theorem own_d1_21 : decode method_2_code 21 = .ok (.ireturn, 1) := by decide +kernel
theorem own_d1_22 : decode method_2_code 22 = .ok (.lload_n 0, 1) := by decide +kernel
theorem own_d1_23 : decode method_2_code 23 = .ok (.bipush 21, 2) := by decide +kernel
theorem own_d1_25 : decode method_2_code 25 = .ok (.lushr, 1) := by decide +kernel
theorem own_d1_26 : decode method_2_code 26 = .ok (.lconst 0, 1) := by decide +kernel
theorem own_d1_27 : decode method_2_code 27 = .ok (.lcmp, 1) := by decide +kernel
theorem own_d1_28 : decode method_2_code 28 = .ok (.ifCond .ne 5, 3) := by decide +kernel
theorem own_d1_31 : decode method_2_code 31 = .ok (.iconst 3, 1) := by decide +kernel
theorem own_d1_32 : decode method_2_code 32 = .ok (.ireturn, 1) := by decide +kernel
theorem own_d1_33 : decode method_2_code 33 = .ok (.lload_n 0, 1) := by decide +kernel
theorem own_d1_34 : decode method_2_code 34 = .ok (.bipush 28, 2) := by decide +kernel
theorem own_d1_36 : decode method_2_code 36 = .ok (.lushr, 1) := by decide +kernel
theorem own_d1_37 : decode method_2_code 37 = .ok (.lconst 0, 1) := by decide +kernel
theorem own_d1_38 : decode method_2_code 38 = .ok (.lcmp, 1) := by decide +kernel
theorem own_d1_39 : decode method_2_code 39 = .ok (.ifCond .ne 5, 3) := by decide +kernel
theorem own_d1_42 : decode method_2_code 42 = .ok (.iconst 4, 1) := by decide +kernel
theorem own_d1_43 : decode method_2_code 43 = .ok (.ireturn, 1) := by decide +kernel
theorem own_d1_44 : decode method_2_code 44 = .ok (.lload_n 0, 1) := by decide +kernel
theorem own_d1_45 : decode method_2_code 45 = .ok (.bipush 35, 2) := by decide +kernel
theorem own_d1_47 : decode method_2_code 47 = .ok (.lushr, 1) := by decide +kernel
theorem own_d1_48 : decode method_2_code 48 = .ok (.lconst 0, 1) := by decide +kernel
theorem own_d1_49 : decode method_2_code 49 = .ok (.lcmp, 1) := by decide +kernel
theorem own_d1_50 : decode method_2_code 50 = .ok (.ifCond .ne 5, 3) := by decide +kernel
theorem own_d1_53 : decode method_2_code 53 = .ok (.iconst 5, 1) := by decide +kernel
theorem own_d1_54 : decode method_2_code 54 = .ok (.ireturn, 1) := by decide +kernel
theorem own_d1_55 : decode method_2_code 55 = .ok (.lload_n 0, 1) := by decide +kernel
theorem own_d1_56 : decode method_2_code 56 = .ok (.bipush 42, 2) := by decide +kernel
theorem own_d1_58 : decode method_2_code 58 = .ok (.lushr, 1) := by decide +kernel
theorem own_d1_59 : decode method_2_code 59 = .ok (.lconst 0, 1) := by decide +kernel
theorem own_d1_60 : decode method_2_code 60 = .ok (.lcmp, 1) := by decide +kernel
theorem own_d1_61 : decode method_2_code 61 = .ok (.ifCond .ne 6, 3) := by decide +kernel
theorem own_d1_64 : decode method_2_code 64 = .ok (.bipush 6, 2) := by decide +kernel
theorem own_d1_66 : decode method_2_code 66 = .ok (.ireturn, 1) := by decide +kernel
theorem own_d1_67 : decode method_2_code 67 = .ok (.lload_n 0, 1) := by decide +kernel
theorem own_d1_68 : decode method_2_code 68 = .ok (.bipush 49, 2) := by decide +kernel
theorem own_d1_70 : decode method_2_code 70 = .ok (.lushr, 1) := by decide +kernel
theorem own_d1_71 : decode method_2_code 71 = .ok (.lconst 0, 1) := by decide +kernel
theorem own_d1_72 : decode method_2_code 72 = .ok (.lcmp, 1) := by decide +kernel
theorem own_d1_73 : decode method_2_code 73 = .ok (.ifCond .ne 6, 3) := by decide +kernel
theorem own_d1_76 : decode method_2_code 76 = .ok (.bipush 7, 2) := by decide +kernel
theorem own_d1_78 : decode method_2_code 78 = .ok (.ireturn, 1) := by decide +kernel
theorem own_d1_79 : decode method_2_code 79 = .ok (.lload_n 0, 1) := by decide +kernel
theorem own_d1_80 : decode method_2_code 80 = .ok (.bipush 56, 2) := by decide +kernel
theorem own_d1_82 : decode method_2_code 82 = .ok (.lushr, 1) := by decide +kernel
theorem own_d1_83 : decode method_2_code 83 = .ok (.lconst 0, 1) := by decide +kernel
theorem own_d1_84 : decode method_2_code 84 = .ok (.lcmp, 1) := by decide +kernel
theorem own_d1_85 : decode method_2_code 85 = .ok (.ifCond .ne 6, 3) := by decide +kernel
theorem own_d1_88 : decode method_2_code 88 = .ok (.bipush 8, 2) := by decide +kernel
theorem own_d1_90 : decode method_2_code 90 = .ok (.ireturn, 1) := by decide +kernel
theorem own_d1_91 : decode method_2_code 91 = .ok (.lload_n 0, 1) := by decide +kernel
theorem own_d1_92 : decode method_2_code 92 = .ok (.bipush 63, 2) := by decide +kernel
theorem own_d1_94 : decode method_2_code 94 = .ok (.lushr, 1) := by decide +kernel
theorem own_d1_95 : decode method_2_code 95 = .ok (.lconst 0, 1) := by decide +kernel
theorem own_d1_96 : decode method_2_code 96 = .ok (.lcmp, 1) := by decide +kernel
theorem own_d1_97 : decode method_2_code 97 = .ok (.ifCond .ne 6, 3) := by decide +kernel
theorem own_d1_100 : decode method_2_code 100 = .ok (.bipush 9, 2) := by decide +kernel
theorem own_d1_102 : decode method_2_code 102 = .ok (.ireturn, 1) := by decide +kernel
theorem own_d1_103 : decode method_2_code 103 = .ok (.bipush 10, 2) := by decide +kernel
theorem own_d1_105 : decode method_2_code 105 = .ok (.ireturn, 1) := by decide +kernel
theorem own_pn0 : plainName "com/example/rowcast/rowcast/binary/Leb128WriteUnsignedPinLaw" = true := by first | (simp [plainName, overriddenIn]; done) | decide +kernel
theorem own_ef1 (m : MethodId) (q0 : Int64) : entryFrame m #[(.long q0)] 2 = mkF m 0 #[.val (.long q0), .second] [] := by first | (simp [entryFrame, mkF, argsToLocals, Value.category]; done) | rfl
def own_F1 (q0 : Int64) : Int32 := (if (own_shrL q0 (7 : Int32)) = (0 : Int64) then (1 : Int32) else (if (own_shrL q0 (14 : Int32)) = (0 : Int64) then (2 : Int32) else (if (own_shrL q0 (21 : Int32)) = (0 : Int64) then (3 : Int32) else (if (own_shrL q0 (28 : Int32)) = (0 : Int64) then (4 : Int32) else (if (own_shrL q0 (35 : Int32)) = (0 : Int64) then (5 : Int32) else (if (own_shrL q0 (42 : Int32)) = (0 : Int64) then (6 : Int32) else (if (own_shrL q0 (49 : Int32)) = (0 : Int64) then (7 : Int32) else (if (own_shrL q0 (56 : Int32)) = (0 : Int64) then (8 : Int32) else (if (own_shrL q0 (63 : Int32)) = (0 : Int64) then (9 : Int32) else (10 : Int32))))))))))
def own_Q1 (Z : State) (q0 : Int64) (h0 : Heap) (n0 : Nat) (v : Option Value) (h : Heap) (L : List Loc) : Prop := (v = some (.int (own_F1 q0))) ∧ (Fr n0 L) ∧ (h = h0)
set_option maxRecDepth 65536 in
set_option maxHeartbeats 40000000 in
theorem own_rm1 (l : Launch) (Z : State) (a0 : Array Value) (hw : ∀ d ∈ tables_1, d.before a0 Z = true) (ws : List Jvm.Cond) (q0 : Int64) (h0 : Heap) (n0 : Nat) (Z0 : n0 ≤ h0.size) :
    MetFree l (⟨"com/example/rowcast/rowcast/binary/Leb128WriteUnsignedPinLaw", "len", "(J)I"⟩ : MethodName) (head1 (Jvm.Cond.code (⟨"com/example/rowcast/rowcast/binary/Leb128WriteUnsignedPinLaw", "len", "(J)I"⟩ : MethodName) method_2_code 2 (some .int) :: ws) ({ frames := 0, cells := 0, slots := 0, locals := 0 } : Room)) (fun a U => a = #[(.long q0)] ∧ Z.Warmed39 U.vm ∧ U.heap = h0) (fun _ _ _ _ _ => True) (fun _ U o U' => ∃ v L, o = .returned v ∧ own_Q1 Z q0 h0 n0 v U'.heap L ∧ FrameEnd U o U' L ({ frames := 0, cells := 0, slots := 0, locals := 0 } : Room).cells ({ frames := 0, cells := 0, slots := 0, locals := 0 } : Room).slots) := by
  refine MetFree.of_bodySF (plainFor_of_name own_pn0) hisR ?_
  intro p e s m args below meth c s₁ Bd hml0 hP hK
  obtain ⟨rfl, hZ, hh⟩ := hP
  have hx := Bd.exec
  have hby := Bd.bytes
  have hml : c.maxLocals = 2 := hml0
  have hown : s.vm.findClass "com/example/rowcast/rowcast/binary/Leb128WriteUnsignedPinLaw" = some m.cls := findClass_of_methodNamed Bd.named
  have hnm := (name_of_methodNamed Bd.named Bd.method).1
  have X0 : Stand p l e ({ frames := 0, cells := 0, slots := 0, locals := 0 } : Room) s m #[(.long q0)] below meth c s₁ [] 0 0 := Stand.of_body Bd
  have e0 : s₁.heap = h0 := by rw [← hh, Bd.state]; rfl
  have N0 := Fr.nil n0
  refine own_go (fun t k => castTop (own_ef1 m q0) k) ?_
  refine own_go (T' := s₁) (f' := (mkF m 6 #[.val (.long q0), .second] [(.int (lcmpW (own_shrL q0 (7 : Int32)) (0 : Int64)))])) (fun t k => ?_) ?_
  · show Steps p.tables e below (s₁.setTop (mkF m 0 #[.val (.long q0), .second] [])) _
    refine XS.lloadN X0.here hx rfl (hb hby own_d1_0) rfl ?_
    show Steps p.tables e below (s₁.setTop (mkF m 1 #[.val (.long q0), .second] [(.long q0)])) _
    refine XS.bipush X0.here hx rfl (hb hby own_d1_1) ?_
    show Steps p.tables e below (s₁.setTop (mkF m 3 #[.val (.long q0), .second] [(.int (7 : Int32)), (.long q0)])) _
    refine XS.lushr X0.here hx rfl (hb hby own_d1_3) rfl ?_
    show Steps p.tables e below (s₁.setTop (mkF m 4 #[.val (.long q0), .second] [(.long (own_shrL q0 (7 : Int32)))])) _
    refine XS.lconst X0.here hx rfl (hb hby own_d1_4) ?_
    show Steps p.tables e below (s₁.setTop (mkF m 5 #[.val (.long q0), .second] [(.long (0 : Int64)), (.long (own_shrL q0 (7 : Int32)))])) _
    refine XS.lcmp X0.here hx rfl (hb hby own_d1_5) rfl ?_
    show Steps p.tables e below (s₁.setTop (mkF m 6 #[.val (.long q0), .second] [(.int (lcmpW (own_shrL q0 (7 : Int32)) (0 : Int64)))])) _
    exact k
  by_cases hc6_1 : (own_shrL q0 (7 : Int32)) = (0 : Int64)
  · skip
    refine own_go (T' := s₁) (f' := (mkF m 10 #[.val (.long q0), .second] [(.int (1 : Int32))])) (fun t k => ?_) ?_
    · show Steps p.tables e below (s₁.setTop (mkF m 6 #[.val (.long q0), .second] [(.int (lcmpW (own_shrL q0 (7 : Int32)) (0 : Int64)))])) _
      refine XS.ifNo X0.here hx rfl (hb hby own_d1_6) rfl ((if0 _ _).trans (teq ((lw_eq (own_shrL q0 (7 : Int32)) (0 : Int64)).mpr hc6_1)).2) ?_
      show Steps p.tables e below (s₁.setTop (mkF m 9 #[.val (.long q0), .second] [])) _
      refine XS.iconst X0.here hx rfl (hb hby own_d1_9) ?_
      show Steps p.tables e below (s₁.setTop (mkF m 10 #[.val (.long q0), .second] [(.int (1 : Int32))])) _
      exact k
    obtain ⟨fs, hr, hrun, hended, hW, hsame⟩ := X0.leave (v := some (.int (1 : Int32))) (fun h => by rw [Bd.returns] at h; cases h)
    refine ⟨_, _, ?_, hrun, hended, _, _, rfl, ?_, ⟨_, rfl⟩, hW, hsame.mono (by decide) (by decide)⟩
    · exact retI X0 hx Bd.returns (hb hby own_d1_10) hr
    · show own_Q1 Z q0 h0 n0 _ s₁.heap _
      rw [e0]
      exact ⟨(by rw [own_F1, if_pos hc6_1]), N0, rfl⟩
  · skip
    refine own_go (T' := s₁) (f' := (mkF m 17 #[.val (.long q0), .second] [(.int (lcmpW (own_shrL q0 (14 : Int32)) (0 : Int64)))])) (fun t k => ?_) ?_
    · show Steps p.tables e below (s₁.setTop (mkF m 6 #[.val (.long q0), .second] [(.int (lcmpW (own_shrL q0 (7 : Int32)) (0 : Int64)))])) _
      refine XS.ifYes X0.here hx rfl (pc0 := 6) (pc' := 11) rfl (hb hby own_d1_6) rfl ((if0 _ _).trans (feq (fun q => hc6_1 ((lw_eq (own_shrL q0 (7 : Int32)) (0 : Int64)).mp q))).2) (by decide) (by decide) ?_
      show Steps p.tables e below (s₁.setTop (mkF m 11 #[.val (.long q0), .second] [])) _
      refine XS.lloadN X0.here hx rfl (hb hby own_d1_11) rfl ?_
      show Steps p.tables e below (s₁.setTop (mkF m 12 #[.val (.long q0), .second] [(.long q0)])) _
      refine XS.bipush X0.here hx rfl (hb hby own_d1_12) ?_
      show Steps p.tables e below (s₁.setTop (mkF m 14 #[.val (.long q0), .second] [(.int (14 : Int32)), (.long q0)])) _
      refine XS.lushr X0.here hx rfl (hb hby own_d1_14) rfl ?_
      show Steps p.tables e below (s₁.setTop (mkF m 15 #[.val (.long q0), .second] [(.long (own_shrL q0 (14 : Int32)))])) _
      refine XS.lconst X0.here hx rfl (hb hby own_d1_15) ?_
      show Steps p.tables e below (s₁.setTop (mkF m 16 #[.val (.long q0), .second] [(.long (0 : Int64)), (.long (own_shrL q0 (14 : Int32)))])) _
      refine XS.lcmp X0.here hx rfl (hb hby own_d1_16) rfl ?_
      show Steps p.tables e below (s₁.setTop (mkF m 17 #[.val (.long q0), .second] [(.int (lcmpW (own_shrL q0 (14 : Int32)) (0 : Int64)))])) _
      exact k
    by_cases hc17_2 : (own_shrL q0 (14 : Int32)) = (0 : Int64)
    · skip
      refine own_go (T' := s₁) (f' := (mkF m 21 #[.val (.long q0), .second] [(.int (2 : Int32))])) (fun t k => ?_) ?_
      · show Steps p.tables e below (s₁.setTop (mkF m 17 #[.val (.long q0), .second] [(.int (lcmpW (own_shrL q0 (14 : Int32)) (0 : Int64)))])) _
        refine XS.ifNo X0.here hx rfl (hb hby own_d1_17) rfl ((if0 _ _).trans (teq ((lw_eq (own_shrL q0 (14 : Int32)) (0 : Int64)).mpr hc17_2)).2) ?_
        show Steps p.tables e below (s₁.setTop (mkF m 20 #[.val (.long q0), .second] [])) _
        refine XS.iconst X0.here hx rfl (hb hby own_d1_20) ?_
        show Steps p.tables e below (s₁.setTop (mkF m 21 #[.val (.long q0), .second] [(.int (2 : Int32))])) _
        exact k
      obtain ⟨fs, hr, hrun, hended, hW, hsame⟩ := X0.leave (v := some (.int (2 : Int32))) (fun h => by rw [Bd.returns] at h; cases h)
      refine ⟨_, _, ?_, hrun, hended, _, _, rfl, ?_, ⟨_, rfl⟩, hW, hsame.mono (by decide) (by decide)⟩
      · exact retI X0 hx Bd.returns (hb hby own_d1_21) hr
      · show own_Q1 Z q0 h0 n0 _ s₁.heap _
        rw [e0]
        exact ⟨(by rw [own_F1, if_neg hc6_1, if_pos hc17_2]), N0, rfl⟩
    · skip
      refine own_go (T' := s₁) (f' := (mkF m 28 #[.val (.long q0), .second] [(.int (lcmpW (own_shrL q0 (21 : Int32)) (0 : Int64)))])) (fun t k => ?_) ?_
      · show Steps p.tables e below (s₁.setTop (mkF m 17 #[.val (.long q0), .second] [(.int (lcmpW (own_shrL q0 (14 : Int32)) (0 : Int64)))])) _
        refine XS.ifYes X0.here hx rfl (pc0 := 17) (pc' := 22) rfl (hb hby own_d1_17) rfl ((if0 _ _).trans (feq (fun q => hc17_2 ((lw_eq (own_shrL q0 (14 : Int32)) (0 : Int64)).mp q))).2) (by decide) (by decide) ?_
        show Steps p.tables e below (s₁.setTop (mkF m 22 #[.val (.long q0), .second] [])) _
        refine XS.lloadN X0.here hx rfl (hb hby own_d1_22) rfl ?_
        show Steps p.tables e below (s₁.setTop (mkF m 23 #[.val (.long q0), .second] [(.long q0)])) _
        refine XS.bipush X0.here hx rfl (hb hby own_d1_23) ?_
        show Steps p.tables e below (s₁.setTop (mkF m 25 #[.val (.long q0), .second] [(.int (21 : Int32)), (.long q0)])) _
        refine XS.lushr X0.here hx rfl (hb hby own_d1_25) rfl ?_
        show Steps p.tables e below (s₁.setTop (mkF m 26 #[.val (.long q0), .second] [(.long (own_shrL q0 (21 : Int32)))])) _
        refine XS.lconst X0.here hx rfl (hb hby own_d1_26) ?_
        show Steps p.tables e below (s₁.setTop (mkF m 27 #[.val (.long q0), .second] [(.long (0 : Int64)), (.long (own_shrL q0 (21 : Int32)))])) _
        refine XS.lcmp X0.here hx rfl (hb hby own_d1_27) rfl ?_
        show Steps p.tables e below (s₁.setTop (mkF m 28 #[.val (.long q0), .second] [(.int (lcmpW (own_shrL q0 (21 : Int32)) (0 : Int64)))])) _
        exact k
      by_cases hc28_3 : (own_shrL q0 (21 : Int32)) = (0 : Int64)
      · skip
        refine own_go (T' := s₁) (f' := (mkF m 32 #[.val (.long q0), .second] [(.int (3 : Int32))])) (fun t k => ?_) ?_
        · show Steps p.tables e below (s₁.setTop (mkF m 28 #[.val (.long q0), .second] [(.int (lcmpW (own_shrL q0 (21 : Int32)) (0 : Int64)))])) _
          refine XS.ifNo X0.here hx rfl (hb hby own_d1_28) rfl ((if0 _ _).trans (teq ((lw_eq (own_shrL q0 (21 : Int32)) (0 : Int64)).mpr hc28_3)).2) ?_
          show Steps p.tables e below (s₁.setTop (mkF m 31 #[.val (.long q0), .second] [])) _
          refine XS.iconst X0.here hx rfl (hb hby own_d1_31) ?_
          show Steps p.tables e below (s₁.setTop (mkF m 32 #[.val (.long q0), .second] [(.int (3 : Int32))])) _
          exact k
        obtain ⟨fs, hr, hrun, hended, hW, hsame⟩ := X0.leave (v := some (.int (3 : Int32))) (fun h => by rw [Bd.returns] at h; cases h)
        refine ⟨_, _, ?_, hrun, hended, _, _, rfl, ?_, ⟨_, rfl⟩, hW, hsame.mono (by decide) (by decide)⟩
        · exact retI X0 hx Bd.returns (hb hby own_d1_32) hr
        · show own_Q1 Z q0 h0 n0 _ s₁.heap _
          rw [e0]
          exact ⟨(by rw [own_F1, if_neg hc6_1, if_neg hc17_2, if_pos hc28_3]), N0, rfl⟩
      · skip
        refine own_go (T' := s₁) (f' := (mkF m 39 #[.val (.long q0), .second] [(.int (lcmpW (own_shrL q0 (28 : Int32)) (0 : Int64)))])) (fun t k => ?_) ?_
        · show Steps p.tables e below (s₁.setTop (mkF m 28 #[.val (.long q0), .second] [(.int (lcmpW (own_shrL q0 (21 : Int32)) (0 : Int64)))])) _
          refine XS.ifYes X0.here hx rfl (pc0 := 28) (pc' := 33) rfl (hb hby own_d1_28) rfl ((if0 _ _).trans (feq (fun q => hc28_3 ((lw_eq (own_shrL q0 (21 : Int32)) (0 : Int64)).mp q))).2) (by decide) (by decide) ?_
          show Steps p.tables e below (s₁.setTop (mkF m 33 #[.val (.long q0), .second] [])) _
          refine XS.lloadN X0.here hx rfl (hb hby own_d1_33) rfl ?_
          show Steps p.tables e below (s₁.setTop (mkF m 34 #[.val (.long q0), .second] [(.long q0)])) _
          refine XS.bipush X0.here hx rfl (hb hby own_d1_34) ?_
          show Steps p.tables e below (s₁.setTop (mkF m 36 #[.val (.long q0), .second] [(.int (28 : Int32)), (.long q0)])) _
          refine XS.lushr X0.here hx rfl (hb hby own_d1_36) rfl ?_
          show Steps p.tables e below (s₁.setTop (mkF m 37 #[.val (.long q0), .second] [(.long (own_shrL q0 (28 : Int32)))])) _
          refine XS.lconst X0.here hx rfl (hb hby own_d1_37) ?_
          show Steps p.tables e below (s₁.setTop (mkF m 38 #[.val (.long q0), .second] [(.long (0 : Int64)), (.long (own_shrL q0 (28 : Int32)))])) _
          refine XS.lcmp X0.here hx rfl (hb hby own_d1_38) rfl ?_
          show Steps p.tables e below (s₁.setTop (mkF m 39 #[.val (.long q0), .second] [(.int (lcmpW (own_shrL q0 (28 : Int32)) (0 : Int64)))])) _
          exact k
        by_cases hc39_4 : (own_shrL q0 (28 : Int32)) = (0 : Int64)
        · skip
          refine own_go (T' := s₁) (f' := (mkF m 43 #[.val (.long q0), .second] [(.int (4 : Int32))])) (fun t k => ?_) ?_
          · show Steps p.tables e below (s₁.setTop (mkF m 39 #[.val (.long q0), .second] [(.int (lcmpW (own_shrL q0 (28 : Int32)) (0 : Int64)))])) _
            refine XS.ifNo X0.here hx rfl (hb hby own_d1_39) rfl ((if0 _ _).trans (teq ((lw_eq (own_shrL q0 (28 : Int32)) (0 : Int64)).mpr hc39_4)).2) ?_
            show Steps p.tables e below (s₁.setTop (mkF m 42 #[.val (.long q0), .second] [])) _
            refine XS.iconst X0.here hx rfl (hb hby own_d1_42) ?_
            show Steps p.tables e below (s₁.setTop (mkF m 43 #[.val (.long q0), .second] [(.int (4 : Int32))])) _
            exact k
          obtain ⟨fs, hr, hrun, hended, hW, hsame⟩ := X0.leave (v := some (.int (4 : Int32))) (fun h => by rw [Bd.returns] at h; cases h)
          refine ⟨_, _, ?_, hrun, hended, _, _, rfl, ?_, ⟨_, rfl⟩, hW, hsame.mono (by decide) (by decide)⟩
          · exact retI X0 hx Bd.returns (hb hby own_d1_43) hr
          · show own_Q1 Z q0 h0 n0 _ s₁.heap _
            rw [e0]
            exact ⟨(by rw [own_F1, if_neg hc6_1, if_neg hc17_2, if_neg hc28_3, if_pos hc39_4]), N0, rfl⟩
        · skip
          refine own_go (T' := s₁) (f' := (mkF m 50 #[.val (.long q0), .second] [(.int (lcmpW (own_shrL q0 (35 : Int32)) (0 : Int64)))])) (fun t k => ?_) ?_
          · show Steps p.tables e below (s₁.setTop (mkF m 39 #[.val (.long q0), .second] [(.int (lcmpW (own_shrL q0 (28 : Int32)) (0 : Int64)))])) _
            refine XS.ifYes X0.here hx rfl (pc0 := 39) (pc' := 44) rfl (hb hby own_d1_39) rfl ((if0 _ _).trans (feq (fun q => hc39_4 ((lw_eq (own_shrL q0 (28 : Int32)) (0 : Int64)).mp q))).2) (by decide) (by decide) ?_
            show Steps p.tables e below (s₁.setTop (mkF m 44 #[.val (.long q0), .second] [])) _
            refine XS.lloadN X0.here hx rfl (hb hby own_d1_44) rfl ?_
            show Steps p.tables e below (s₁.setTop (mkF m 45 #[.val (.long q0), .second] [(.long q0)])) _
            refine XS.bipush X0.here hx rfl (hb hby own_d1_45) ?_
            show Steps p.tables e below (s₁.setTop (mkF m 47 #[.val (.long q0), .second] [(.int (35 : Int32)), (.long q0)])) _
            refine XS.lushr X0.here hx rfl (hb hby own_d1_47) rfl ?_
            show Steps p.tables e below (s₁.setTop (mkF m 48 #[.val (.long q0), .second] [(.long (own_shrL q0 (35 : Int32)))])) _
            refine XS.lconst X0.here hx rfl (hb hby own_d1_48) ?_
            show Steps p.tables e below (s₁.setTop (mkF m 49 #[.val (.long q0), .second] [(.long (0 : Int64)), (.long (own_shrL q0 (35 : Int32)))])) _
            refine XS.lcmp X0.here hx rfl (hb hby own_d1_49) rfl ?_
            show Steps p.tables e below (s₁.setTop (mkF m 50 #[.val (.long q0), .second] [(.int (lcmpW (own_shrL q0 (35 : Int32)) (0 : Int64)))])) _
            exact k
          by_cases hc50_5 : (own_shrL q0 (35 : Int32)) = (0 : Int64)
          · skip
            refine own_go (T' := s₁) (f' := (mkF m 54 #[.val (.long q0), .second] [(.int (5 : Int32))])) (fun t k => ?_) ?_
            · show Steps p.tables e below (s₁.setTop (mkF m 50 #[.val (.long q0), .second] [(.int (lcmpW (own_shrL q0 (35 : Int32)) (0 : Int64)))])) _
              refine XS.ifNo X0.here hx rfl (hb hby own_d1_50) rfl ((if0 _ _).trans (teq ((lw_eq (own_shrL q0 (35 : Int32)) (0 : Int64)).mpr hc50_5)).2) ?_
              show Steps p.tables e below (s₁.setTop (mkF m 53 #[.val (.long q0), .second] [])) _
              refine XS.iconst X0.here hx rfl (hb hby own_d1_53) ?_
              show Steps p.tables e below (s₁.setTop (mkF m 54 #[.val (.long q0), .second] [(.int (5 : Int32))])) _
              exact k
            obtain ⟨fs, hr, hrun, hended, hW, hsame⟩ := X0.leave (v := some (.int (5 : Int32))) (fun h => by rw [Bd.returns] at h; cases h)
            refine ⟨_, _, ?_, hrun, hended, _, _, rfl, ?_, ⟨_, rfl⟩, hW, hsame.mono (by decide) (by decide)⟩
            · exact retI X0 hx Bd.returns (hb hby own_d1_54) hr
            · show own_Q1 Z q0 h0 n0 _ s₁.heap _
              rw [e0]
              exact ⟨(by rw [own_F1, if_neg hc6_1, if_neg hc17_2, if_neg hc28_3, if_neg hc39_4, if_pos hc50_5]), N0, rfl⟩
          · skip
            refine own_go (T' := s₁) (f' := (mkF m 61 #[.val (.long q0), .second] [(.int (lcmpW (own_shrL q0 (42 : Int32)) (0 : Int64)))])) (fun t k => ?_) ?_
            · show Steps p.tables e below (s₁.setTop (mkF m 50 #[.val (.long q0), .second] [(.int (lcmpW (own_shrL q0 (35 : Int32)) (0 : Int64)))])) _
              refine XS.ifYes X0.here hx rfl (pc0 := 50) (pc' := 55) rfl (hb hby own_d1_50) rfl ((if0 _ _).trans (feq (fun q => hc50_5 ((lw_eq (own_shrL q0 (35 : Int32)) (0 : Int64)).mp q))).2) (by decide) (by decide) ?_
              show Steps p.tables e below (s₁.setTop (mkF m 55 #[.val (.long q0), .second] [])) _
              refine XS.lloadN X0.here hx rfl (hb hby own_d1_55) rfl ?_
              show Steps p.tables e below (s₁.setTop (mkF m 56 #[.val (.long q0), .second] [(.long q0)])) _
              refine XS.bipush X0.here hx rfl (hb hby own_d1_56) ?_
              show Steps p.tables e below (s₁.setTop (mkF m 58 #[.val (.long q0), .second] [(.int (42 : Int32)), (.long q0)])) _
              refine XS.lushr X0.here hx rfl (hb hby own_d1_58) rfl ?_
              show Steps p.tables e below (s₁.setTop (mkF m 59 #[.val (.long q0), .second] [(.long (own_shrL q0 (42 : Int32)))])) _
              refine XS.lconst X0.here hx rfl (hb hby own_d1_59) ?_
              show Steps p.tables e below (s₁.setTop (mkF m 60 #[.val (.long q0), .second] [(.long (0 : Int64)), (.long (own_shrL q0 (42 : Int32)))])) _
              refine XS.lcmp X0.here hx rfl (hb hby own_d1_60) rfl ?_
              show Steps p.tables e below (s₁.setTop (mkF m 61 #[.val (.long q0), .second] [(.int (lcmpW (own_shrL q0 (42 : Int32)) (0 : Int64)))])) _
              exact k
            by_cases hc61_6 : (own_shrL q0 (42 : Int32)) = (0 : Int64)
            · skip
              refine own_go (T' := s₁) (f' := (mkF m 66 #[.val (.long q0), .second] [(.int (6 : Int32))])) (fun t k => ?_) ?_
              · show Steps p.tables e below (s₁.setTop (mkF m 61 #[.val (.long q0), .second] [(.int (lcmpW (own_shrL q0 (42 : Int32)) (0 : Int64)))])) _
                refine XS.ifNo X0.here hx rfl (hb hby own_d1_61) rfl ((if0 _ _).trans (teq ((lw_eq (own_shrL q0 (42 : Int32)) (0 : Int64)).mpr hc61_6)).2) ?_
                show Steps p.tables e below (s₁.setTop (mkF m 64 #[.val (.long q0), .second] [])) _
                refine XS.bipush X0.here hx rfl (hb hby own_d1_64) ?_
                show Steps p.tables e below (s₁.setTop (mkF m 66 #[.val (.long q0), .second] [(.int (6 : Int32))])) _
                exact k
              obtain ⟨fs, hr, hrun, hended, hW, hsame⟩ := X0.leave (v := some (.int (6 : Int32))) (fun h => by rw [Bd.returns] at h; cases h)
              refine ⟨_, _, ?_, hrun, hended, _, _, rfl, ?_, ⟨_, rfl⟩, hW, hsame.mono (by decide) (by decide)⟩
              · exact retI X0 hx Bd.returns (hb hby own_d1_66) hr
              · show own_Q1 Z q0 h0 n0 _ s₁.heap _
                rw [e0]
                exact ⟨(by rw [own_F1, if_neg hc6_1, if_neg hc17_2, if_neg hc28_3, if_neg hc39_4, if_neg hc50_5, if_pos hc61_6]), N0, rfl⟩
            · skip
              refine own_go (T' := s₁) (f' := (mkF m 73 #[.val (.long q0), .second] [(.int (lcmpW (own_shrL q0 (49 : Int32)) (0 : Int64)))])) (fun t k => ?_) ?_
              · show Steps p.tables e below (s₁.setTop (mkF m 61 #[.val (.long q0), .second] [(.int (lcmpW (own_shrL q0 (42 : Int32)) (0 : Int64)))])) _
                refine XS.ifYes X0.here hx rfl (pc0 := 61) (pc' := 67) rfl (hb hby own_d1_61) rfl ((if0 _ _).trans (feq (fun q => hc61_6 ((lw_eq (own_shrL q0 (42 : Int32)) (0 : Int64)).mp q))).2) (by decide) (by decide) ?_
                show Steps p.tables e below (s₁.setTop (mkF m 67 #[.val (.long q0), .second] [])) _
                refine XS.lloadN X0.here hx rfl (hb hby own_d1_67) rfl ?_
                show Steps p.tables e below (s₁.setTop (mkF m 68 #[.val (.long q0), .second] [(.long q0)])) _
                refine XS.bipush X0.here hx rfl (hb hby own_d1_68) ?_
                show Steps p.tables e below (s₁.setTop (mkF m 70 #[.val (.long q0), .second] [(.int (49 : Int32)), (.long q0)])) _
                refine XS.lushr X0.here hx rfl (hb hby own_d1_70) rfl ?_
                show Steps p.tables e below (s₁.setTop (mkF m 71 #[.val (.long q0), .second] [(.long (own_shrL q0 (49 : Int32)))])) _
                refine XS.lconst X0.here hx rfl (hb hby own_d1_71) ?_
                show Steps p.tables e below (s₁.setTop (mkF m 72 #[.val (.long q0), .second] [(.long (0 : Int64)), (.long (own_shrL q0 (49 : Int32)))])) _
                refine XS.lcmp X0.here hx rfl (hb hby own_d1_72) rfl ?_
                show Steps p.tables e below (s₁.setTop (mkF m 73 #[.val (.long q0), .second] [(.int (lcmpW (own_shrL q0 (49 : Int32)) (0 : Int64)))])) _
                exact k
              by_cases hc73_7 : (own_shrL q0 (49 : Int32)) = (0 : Int64)
              · skip
                refine own_go (T' := s₁) (f' := (mkF m 78 #[.val (.long q0), .second] [(.int (7 : Int32))])) (fun t k => ?_) ?_
                · show Steps p.tables e below (s₁.setTop (mkF m 73 #[.val (.long q0), .second] [(.int (lcmpW (own_shrL q0 (49 : Int32)) (0 : Int64)))])) _
                  refine XS.ifNo X0.here hx rfl (hb hby own_d1_73) rfl ((if0 _ _).trans (teq ((lw_eq (own_shrL q0 (49 : Int32)) (0 : Int64)).mpr hc73_7)).2) ?_
                  show Steps p.tables e below (s₁.setTop (mkF m 76 #[.val (.long q0), .second] [])) _
                  refine XS.bipush X0.here hx rfl (hb hby own_d1_76) ?_
                  show Steps p.tables e below (s₁.setTop (mkF m 78 #[.val (.long q0), .second] [(.int (7 : Int32))])) _
                  exact k
                obtain ⟨fs, hr, hrun, hended, hW, hsame⟩ := X0.leave (v := some (.int (7 : Int32))) (fun h => by rw [Bd.returns] at h; cases h)
                refine ⟨_, _, ?_, hrun, hended, _, _, rfl, ?_, ⟨_, rfl⟩, hW, hsame.mono (by decide) (by decide)⟩
                · exact retI X0 hx Bd.returns (hb hby own_d1_78) hr
                · show own_Q1 Z q0 h0 n0 _ s₁.heap _
                  rw [e0]
                  exact ⟨(by rw [own_F1, if_neg hc6_1, if_neg hc17_2, if_neg hc28_3, if_neg hc39_4, if_neg hc50_5, if_neg hc61_6, if_pos hc73_7]), N0, rfl⟩
              · skip
                refine own_go (T' := s₁) (f' := (mkF m 85 #[.val (.long q0), .second] [(.int (lcmpW (own_shrL q0 (56 : Int32)) (0 : Int64)))])) (fun t k => ?_) ?_
                · show Steps p.tables e below (s₁.setTop (mkF m 73 #[.val (.long q0), .second] [(.int (lcmpW (own_shrL q0 (49 : Int32)) (0 : Int64)))])) _
                  refine XS.ifYes X0.here hx rfl (pc0 := 73) (pc' := 79) rfl (hb hby own_d1_73) rfl ((if0 _ _).trans (feq (fun q => hc73_7 ((lw_eq (own_shrL q0 (49 : Int32)) (0 : Int64)).mp q))).2) (by decide) (by decide) ?_
                  show Steps p.tables e below (s₁.setTop (mkF m 79 #[.val (.long q0), .second] [])) _
                  refine XS.lloadN X0.here hx rfl (hb hby own_d1_79) rfl ?_
                  show Steps p.tables e below (s₁.setTop (mkF m 80 #[.val (.long q0), .second] [(.long q0)])) _
                  refine XS.bipush X0.here hx rfl (hb hby own_d1_80) ?_
                  show Steps p.tables e below (s₁.setTop (mkF m 82 #[.val (.long q0), .second] [(.int (56 : Int32)), (.long q0)])) _
                  refine XS.lushr X0.here hx rfl (hb hby own_d1_82) rfl ?_
                  show Steps p.tables e below (s₁.setTop (mkF m 83 #[.val (.long q0), .second] [(.long (own_shrL q0 (56 : Int32)))])) _
                  refine XS.lconst X0.here hx rfl (hb hby own_d1_83) ?_
                  show Steps p.tables e below (s₁.setTop (mkF m 84 #[.val (.long q0), .second] [(.long (0 : Int64)), (.long (own_shrL q0 (56 : Int32)))])) _
                  refine XS.lcmp X0.here hx rfl (hb hby own_d1_84) rfl ?_
                  show Steps p.tables e below (s₁.setTop (mkF m 85 #[.val (.long q0), .second] [(.int (lcmpW (own_shrL q0 (56 : Int32)) (0 : Int64)))])) _
                  exact k
                by_cases hc85_8 : (own_shrL q0 (56 : Int32)) = (0 : Int64)
                · skip
                  refine own_go (T' := s₁) (f' := (mkF m 90 #[.val (.long q0), .second] [(.int (8 : Int32))])) (fun t k => ?_) ?_
                  · show Steps p.tables e below (s₁.setTop (mkF m 85 #[.val (.long q0), .second] [(.int (lcmpW (own_shrL q0 (56 : Int32)) (0 : Int64)))])) _
                    refine XS.ifNo X0.here hx rfl (hb hby own_d1_85) rfl ((if0 _ _).trans (teq ((lw_eq (own_shrL q0 (56 : Int32)) (0 : Int64)).mpr hc85_8)).2) ?_
                    show Steps p.tables e below (s₁.setTop (mkF m 88 #[.val (.long q0), .second] [])) _
                    refine XS.bipush X0.here hx rfl (hb hby own_d1_88) ?_
                    show Steps p.tables e below (s₁.setTop (mkF m 90 #[.val (.long q0), .second] [(.int (8 : Int32))])) _
                    exact k
                  obtain ⟨fs, hr, hrun, hended, hW, hsame⟩ := X0.leave (v := some (.int (8 : Int32))) (fun h => by rw [Bd.returns] at h; cases h)
                  refine ⟨_, _, ?_, hrun, hended, _, _, rfl, ?_, ⟨_, rfl⟩, hW, hsame.mono (by decide) (by decide)⟩
                  · exact retI X0 hx Bd.returns (hb hby own_d1_90) hr
                  · show own_Q1 Z q0 h0 n0 _ s₁.heap _
                    rw [e0]
                    exact ⟨(by rw [own_F1, if_neg hc6_1, if_neg hc17_2, if_neg hc28_3, if_neg hc39_4, if_neg hc50_5, if_neg hc61_6, if_neg hc73_7, if_pos hc85_8]), N0, rfl⟩
                · skip
                  refine own_go (T' := s₁) (f' := (mkF m 97 #[.val (.long q0), .second] [(.int (lcmpW (own_shrL q0 (63 : Int32)) (0 : Int64)))])) (fun t k => ?_) ?_
                  · show Steps p.tables e below (s₁.setTop (mkF m 85 #[.val (.long q0), .second] [(.int (lcmpW (own_shrL q0 (56 : Int32)) (0 : Int64)))])) _
                    refine XS.ifYes X0.here hx rfl (pc0 := 85) (pc' := 91) rfl (hb hby own_d1_85) rfl ((if0 _ _).trans (feq (fun q => hc85_8 ((lw_eq (own_shrL q0 (56 : Int32)) (0 : Int64)).mp q))).2) (by decide) (by decide) ?_
                    show Steps p.tables e below (s₁.setTop (mkF m 91 #[.val (.long q0), .second] [])) _
                    refine XS.lloadN X0.here hx rfl (hb hby own_d1_91) rfl ?_
                    show Steps p.tables e below (s₁.setTop (mkF m 92 #[.val (.long q0), .second] [(.long q0)])) _
                    refine XS.bipush X0.here hx rfl (hb hby own_d1_92) ?_
                    show Steps p.tables e below (s₁.setTop (mkF m 94 #[.val (.long q0), .second] [(.int (63 : Int32)), (.long q0)])) _
                    refine XS.lushr X0.here hx rfl (hb hby own_d1_94) rfl ?_
                    show Steps p.tables e below (s₁.setTop (mkF m 95 #[.val (.long q0), .second] [(.long (own_shrL q0 (63 : Int32)))])) _
                    refine XS.lconst X0.here hx rfl (hb hby own_d1_95) ?_
                    show Steps p.tables e below (s₁.setTop (mkF m 96 #[.val (.long q0), .second] [(.long (0 : Int64)), (.long (own_shrL q0 (63 : Int32)))])) _
                    refine XS.lcmp X0.here hx rfl (hb hby own_d1_96) rfl ?_
                    show Steps p.tables e below (s₁.setTop (mkF m 97 #[.val (.long q0), .second] [(.int (lcmpW (own_shrL q0 (63 : Int32)) (0 : Int64)))])) _
                    exact k
                  by_cases hc97_9 : (own_shrL q0 (63 : Int32)) = (0 : Int64)
                  · skip
                    refine own_go (T' := s₁) (f' := (mkF m 102 #[.val (.long q0), .second] [(.int (9 : Int32))])) (fun t k => ?_) ?_
                    · show Steps p.tables e below (s₁.setTop (mkF m 97 #[.val (.long q0), .second] [(.int (lcmpW (own_shrL q0 (63 : Int32)) (0 : Int64)))])) _
                      refine XS.ifNo X0.here hx rfl (hb hby own_d1_97) rfl ((if0 _ _).trans (teq ((lw_eq (own_shrL q0 (63 : Int32)) (0 : Int64)).mpr hc97_9)).2) ?_
                      show Steps p.tables e below (s₁.setTop (mkF m 100 #[.val (.long q0), .second] [])) _
                      refine XS.bipush X0.here hx rfl (hb hby own_d1_100) ?_
                      show Steps p.tables e below (s₁.setTop (mkF m 102 #[.val (.long q0), .second] [(.int (9 : Int32))])) _
                      exact k
                    obtain ⟨fs, hr, hrun, hended, hW, hsame⟩ := X0.leave (v := some (.int (9 : Int32))) (fun h => by rw [Bd.returns] at h; cases h)
                    refine ⟨_, _, ?_, hrun, hended, _, _, rfl, ?_, ⟨_, rfl⟩, hW, hsame.mono (by decide) (by decide)⟩
                    · exact retI X0 hx Bd.returns (hb hby own_d1_102) hr
                    · show own_Q1 Z q0 h0 n0 _ s₁.heap _
                      rw [e0]
                      exact ⟨(by rw [own_F1, if_neg hc6_1, if_neg hc17_2, if_neg hc28_3, if_neg hc39_4, if_neg hc50_5, if_neg hc61_6, if_neg hc73_7, if_neg hc85_8, if_pos hc97_9]), N0, rfl⟩
                  · skip
                    refine own_go (T' := s₁) (f' := (mkF m 105 #[.val (.long q0), .second] [(.int (10 : Int32))])) (fun t k => ?_) ?_
                    · show Steps p.tables e below (s₁.setTop (mkF m 97 #[.val (.long q0), .second] [(.int (lcmpW (own_shrL q0 (63 : Int32)) (0 : Int64)))])) _
                      refine XS.ifYes X0.here hx rfl (pc0 := 97) (pc' := 103) rfl (hb hby own_d1_97) rfl ((if0 _ _).trans (feq (fun q => hc97_9 ((lw_eq (own_shrL q0 (63 : Int32)) (0 : Int64)).mp q))).2) (by decide) (by decide) ?_
                      show Steps p.tables e below (s₁.setTop (mkF m 103 #[.val (.long q0), .second] [])) _
                      refine XS.bipush X0.here hx rfl (hb hby own_d1_103) ?_
                      show Steps p.tables e below (s₁.setTop (mkF m 105 #[.val (.long q0), .second] [(.int (10 : Int32))])) _
                      exact k
                    obtain ⟨fs, hr, hrun, hended, hW, hsame⟩ := X0.leave (v := some (.int (10 : Int32))) (fun h => by rw [Bd.returns] at h; cases h)
                    refine ⟨_, _, ?_, hrun, hended, _, _, rfl, ?_, ⟨_, rfl⟩, hW, hsame.mono (by decide) (by decide)⟩
                    · exact retI X0 hx Bd.returns (hb hby own_d1_105) hr
                    · show own_Q1 Z q0 h0 n0 _ s₁.heap _
                      rw [e0]
                      exact ⟨(by rw [own_F1, if_neg hc6_1, if_neg hc17_2, if_neg hc28_3, if_neg hc39_4, if_neg hc50_5, if_neg hc61_6, if_neg hc73_7, if_neg hc85_8, if_neg hc97_9]), N0, rfl⟩
theorem own_d2_6 : decode prog_3_method_3_code 6 = .ok (.lload 5, 2) := by decide +kernel
theorem own_d2_8 : decode prog_3_method_3_code 8 = .ok (.ldc2_w 19, 3) := by decide +kernel
theorem own_d2_11 : decode prog_3_method_3_code 11 = .ok (.land, 1) := by decide +kernel
theorem own_d2_12 : decode prog_3_method_3_code 12 = .ok (.lconst 0, 1) := by decide +kernel
theorem own_d2_13 : decode prog_3_method_3_code 13 = .ok (.lcmp, 1) := by decide +kernel
theorem own_d2_14 : decode prog_3_method_3_code 14 = .ok (.ifCond .eq 32, 3) := by decide +kernel
theorem own_d2_17 : decode prog_3_method_3_code 17 = .ok (.aload_n 2, 1) := by decide +kernel
theorem own_d2_18 : decode prog_3_method_3_code 18 = .ok (.iload 4, 2) := by decide +kernel
theorem own_d2_20 : decode prog_3_method_3_code 20 = .ok (.iinc 4 1, 3) := by decide +kernel
theorem own_d2_23 : decode prog_3_method_3_code 23 = .ok (.lload 5, 2) := by decide +kernel
theorem own_d2_25 : decode prog_3_method_3_code 25 = .ok (.ldc2_w 21, 3) := by decide +kernel
theorem own_d2_28 : decode prog_3_method_3_code 28 = .ok (.land, 1) := by decide +kernel
theorem own_d2_29 : decode prog_3_method_3_code 29 = .ok (.ldc2_w 23, 3) := by decide +kernel
theorem own_d2_32 : decode prog_3_method_3_code 32 = .ok (.lor, 1) := by decide +kernel
theorem own_d2_33 : decode prog_3_method_3_code 33 = .ok (.l2i, 1) := by decide +kernel
theorem own_d2_34 : decode prog_3_method_3_code 34 = .ok (.i2b, 1) := by decide +kernel
theorem own_d2_35 : decode prog_3_method_3_code 35 = .ok (.bastore, 1) := by decide +kernel
theorem own_d2_36 : decode prog_3_method_3_code 36 = .ok (.lload 5, 2) := by decide +kernel
theorem own_d2_38 : decode prog_3_method_3_code 38 = .ok (.bipush 7, 2) := by decide +kernel
theorem own_d2_40 : decode prog_3_method_3_code 40 = .ok (.lushr, 1) := by decide +kernel
theorem own_d2_41 : decode prog_3_method_3_code 41 = .ok (.lstore 5, 2) := by decide +kernel
theorem own_d2_43 : decode prog_3_method_3_code 43 = .ok (.goto (-37), 3) := by decide +kernel
set_option maxRecDepth 65536 in
set_option maxHeartbeats 40000000 in
theorem own_lp2 {p : Program} {l : Launch} {e : Env} {R : Room} {s : State} {m : MethodId} {args : Array Value} {below : List Frame} {meth : Method} {c : Code} {cells slots : Nat} {Z : State} {a0 : Array Value} {h0 : Heap} {n0 : Nat} {G : State → Outcome → Prop}
    (hx : p.tables.exec = Jvm.exec) (hZ : Z.Warmed39 s.vm) (hw : ∀ d ∈ tables_1, d.before a0 Z = true) (hby : c.code = prog_3_method_3_code) (hml : c.maxLocals = 7) (hown : s.vm.findClass "com/example/rowcast/rowcast/binary/Leb128" = some m.cls) (q0 : Int64) (a1 : Addr) (p2 : Int32) (z : Int32) (go_a1 : n0 ≤ a1) :
    ∀ (fuel : Nat) (T0 : State) (h : Heap) (locs : List Loc) (j : Int32) (x : Int64) (f : Nat → Int32) (X0 : Stand p l e R s m args below meth c T0 locs cells slots) (e0 : T0.heap = h) (N0 : Fr n0 locs) (Z0 : n0 ≤ h.size) (K0 : Keep h0 h [a1]) (V0 : own_ArI Z h a1 .byte z f) (hj : 0 ≤ j.toInt) (hjz : j.toInt + fuel < z.toInt) (hfu : own_u x < 128 ^ (fuel + 1)),
    (∀ (T' : State) (h' : Heap) (locs' : List Loc) (j' : Int32) (x' : Int64) (f' : Nat → Int32), Stand p l e R s m args below meth c T' locs' cells slots → T'.heap = h' → Fr n0 locs' → n0 ≤ h'.size → Keep h0 h' [a1] → own_ArI Z h' a1 .byte z f' → own_LS fuel x j f x' j' f' → ∃ s₂ o, Steps p.tables e below (T'.setTop (mkF m 46 #[.val (.long q0), .second, .val (.ref a1), .val (.int p2), .val (.int j'), .val (.long x'), .second] [])) s₂ ∧ G s₂ o) →
    ∃ s₂ o, Steps p.tables e below (T0.setTop (mkF m 6 #[.val (.long q0), .second, .val (.ref a1), .val (.int p2), .val (.int j), .val (.long x), .second] [])) s₂ ∧ G s₂ o := by
  intro fuel
  induction fuel using Nat.strongRecOn with
  | ind fuel ih =>
  intro T0 h locs j x f X0 e0 N0 Z0 K0 V0 hj hjz hfu kx
  refine own_go (T' := T0) (f' := (mkF m 14 #[.val (.long q0), .second, .val (.ref a1), .val (.int p2), .val (.int j), .val (.long x), .second] [(.int (lcmpW (x &&& (-128 : Int64)) (0 : Int64)))])) (fun t k => ?_) ?_
  · show Steps p.tables e below (T0.setTop (mkF m 6 #[.val (.long q0), .second, .val (.ref a1), .val (.int p2), .val (.int j), .val (.long x), .second] [])) _
    refine XS.lload X0.here hx rfl (hb hby own_d2_6) rfl ?_
    show Steps p.tables e below (T0.setTop (mkF m 8 #[.val (.long q0), .second, .val (.ref a1), .val (.int p2), .val (.int j), .val (.long x), .second] [(.long x)])) _
    refine X0.ldc2Long hx hown (mvT hZ (hw _ (List.mem_of_getElem? (i := 9) rfl))) (g := (mkF m 8 #[.val (.long q0), .second, .val (.ref a1), .val (.int p2), .val (.int j), .val (.long x), .second] [(.long x)])) rfl (hb hby own_d2_8) _ ?_
    show Steps p.tables e below (T0.setTop (mkF m 11 #[.val (.long q0), .second, .val (.ref a1), .val (.int p2), .val (.int j), .val (.long x), .second] [(.long (-128 : Int64)), (.long x)])) _
    refine XS.land X0.here hx rfl (hb hby own_d2_11) rfl ?_
    show Steps p.tables e below (T0.setTop (mkF m 12 #[.val (.long q0), .second, .val (.ref a1), .val (.int p2), .val (.int j), .val (.long x), .second] [(.long (x &&& (-128 : Int64)))])) _
    refine XS.lconst X0.here hx rfl (hb hby own_d2_12) ?_
    show Steps p.tables e below (T0.setTop (mkF m 13 #[.val (.long q0), .second, .val (.ref a1), .val (.int p2), .val (.int j), .val (.long x), .second] [(.long (0 : Int64)), (.long (x &&& (-128 : Int64)))])) _
    refine XS.lcmp X0.here hx rfl (hb hby own_d2_13) rfl ?_
    show Steps p.tables e below (T0.setTop (mkF m 14 #[.val (.long q0), .second, .val (.ref a1), .val (.int p2), .val (.int j), .val (.long x), .second] [(.int (lcmpW (x &&& (-128 : Int64)) (0 : Int64)))])) _
    exact k
  by_cases hc14_1 : (x &&& (-128 : Int64)) = (0 : Int64)
  · skip
    refine own_go (T' := T0) (f' := (mkF m 46 #[.val (.long q0), .second, .val (.ref a1), .val (.int p2), .val (.int j), .val (.long x), .second] [])) (fun t k => ?_) ?_
    · show Steps p.tables e below (T0.setTop (mkF m 14 #[.val (.long q0), .second, .val (.ref a1), .val (.int p2), .val (.int j), .val (.long x), .second] [(.int (lcmpW (x &&& (-128 : Int64)) (0 : Int64)))])) _
      refine XS.ifYes X0.here hx rfl (pc0 := 14) (pc' := 46) rfl (hb hby own_d2_14) rfl ((if0 _ _).trans (teq ((lw_eq (x &&& (-128 : Int64)) (0 : Int64)).mpr hc14_1)).1) (by decide) (by decide) ?_
      show Steps p.tables e below (T0.setTop (mkF m 46 #[.val (.long q0), .second, .val (.ref a1), .val (.int p2), .val (.int j), .val (.long x), .second] [])) _
      exact k
    exact kx _ _ _ j x f X0 e0 N0 Z0 K0 V0 (own_LS.stop ((own_cond x).mp hc14_1))
  · skip
    refine own_go (T' := T0) (f' := (mkF m 35 #[.val (.long q0), .second, .val (.ref a1), .val (.int p2), .val (.int (j + (1 : Int32))), .val (.long x), .second] [(.int ((((x &&& (127 : Int64)) ||| (128 : Int64)).toInt32).toInt8.toInt32)), (.int j), (.ref a1)])) (fun t k => ?_) ?_
    · show Steps p.tables e below (T0.setTop (mkF m 14 #[.val (.long q0), .second, .val (.ref a1), .val (.int p2), .val (.int j), .val (.long x), .second] [(.int (lcmpW (x &&& (-128 : Int64)) (0 : Int64)))])) _
      refine XS.ifNo X0.here hx rfl (hb hby own_d2_14) rfl ((if0 _ _).trans (feq (fun q => hc14_1 ((lw_eq (x &&& (-128 : Int64)) (0 : Int64)).mp q))).1) ?_
      show Steps p.tables e below (T0.setTop (mkF m 17 #[.val (.long q0), .second, .val (.ref a1), .val (.int p2), .val (.int j), .val (.long x), .second] [])) _
      refine XS.aloadN X0.here hx rfl (hb hby own_d2_17) rfl rfl ?_
      show Steps p.tables e below (T0.setTop (mkF m 18 #[.val (.long q0), .second, .val (.ref a1), .val (.int p2), .val (.int j), .val (.long x), .second] [(.ref a1)])) _
      refine XS.iload X0.here hx rfl (hb hby own_d2_18) rfl ?_
      show Steps p.tables e below (T0.setTop (mkF m 20 #[.val (.long q0), .second, .val (.ref a1), .val (.int p2), .val (.int j), .val (.long x), .second] [(.int j), (.ref a1)])) _
      refine XS.iinc X0.here hx rfl (hb hby own_d2_20) rfl (l' := #[.val (.long q0), .second, .val (.ref a1), .val (.int p2), .val (.int (j + (1 : Int32))), .val (.long x), .second]) rfl ?_
      show Steps p.tables e below (T0.setTop (mkF m 23 #[.val (.long q0), .second, .val (.ref a1), .val (.int p2), .val (.int (j + (1 : Int32))), .val (.long x), .second] [(.int j), (.ref a1)])) _
      refine XS.lload X0.here hx rfl (hb hby own_d2_23) rfl ?_
      show Steps p.tables e below (T0.setTop (mkF m 25 #[.val (.long q0), .second, .val (.ref a1), .val (.int p2), .val (.int (j + (1 : Int32))), .val (.long x), .second] [(.long x), (.int j), (.ref a1)])) _
      refine X0.ldc2Long hx hown (mvT hZ (hw _ (List.mem_of_getElem? (i := 14) rfl))) (g := (mkF m 25 #[.val (.long q0), .second, .val (.ref a1), .val (.int p2), .val (.int (j + (1 : Int32))), .val (.long x), .second] [(.long x), (.int j), (.ref a1)])) rfl (hb hby own_d2_25) _ ?_
      show Steps p.tables e below (T0.setTop (mkF m 28 #[.val (.long q0), .second, .val (.ref a1), .val (.int p2), .val (.int (j + (1 : Int32))), .val (.long x), .second] [(.long (127 : Int64)), (.long x), (.int j), (.ref a1)])) _
      refine XS.land X0.here hx rfl (hb hby own_d2_28) rfl ?_
      show Steps p.tables e below (T0.setTop (mkF m 29 #[.val (.long q0), .second, .val (.ref a1), .val (.int p2), .val (.int (j + (1 : Int32))), .val (.long x), .second] [(.long (x &&& (127 : Int64))), (.int j), (.ref a1)])) _
      refine X0.ldc2Long hx hown (mvT hZ (hw _ (List.mem_of_getElem? (i := 15) rfl))) (g := (mkF m 29 #[.val (.long q0), .second, .val (.ref a1), .val (.int p2), .val (.int (j + (1 : Int32))), .val (.long x), .second] [(.long (x &&& (127 : Int64))), (.int j), (.ref a1)])) rfl (hb hby own_d2_29) _ ?_
      show Steps p.tables e below (T0.setTop (mkF m 32 #[.val (.long q0), .second, .val (.ref a1), .val (.int p2), .val (.int (j + (1 : Int32))), .val (.long x), .second] [(.long (128 : Int64)), (.long (x &&& (127 : Int64))), (.int j), (.ref a1)])) _
      refine XS.lor X0.here hx rfl (hb hby own_d2_32) rfl ?_
      show Steps p.tables e below (T0.setTop (mkF m 33 #[.val (.long q0), .second, .val (.ref a1), .val (.int p2), .val (.int (j + (1 : Int32))), .val (.long x), .second] [(.long ((x &&& (127 : Int64)) ||| (128 : Int64))), (.int j), (.ref a1)])) _
      refine XS.l2i X0.here hx rfl (hb hby own_d2_33) rfl ?_
      show Steps p.tables e below (T0.setTop (mkF m 34 #[.val (.long q0), .second, .val (.ref a1), .val (.int p2), .val (.int (j + (1 : Int32))), .val (.long x), .second] [(.int (((x &&& (127 : Int64)) ||| (128 : Int64)).toInt32)), (.int j), (.ref a1)])) _
      refine XS.i2b X0.here hx rfl (hb hby own_d2_34) rfl ?_
      show Steps p.tables e below (T0.setTop (mkF m 35 #[.val (.long q0), .second, .val (.ref a1), .val (.int p2), .val (.int (j + (1 : Int32))), .val (.long x), .second] [(.int ((((x &&& (127 : Int64)) ||| (128 : Int64)).toInt32).toInt8.toInt32)), (.int j), (.ref a1)])) _
      exact k
    obtain ⟨T2, h2, y2, X2, e2, W2, V2, ya2, yb2, st2⟩ := own_stB X0 hx hZ e0 V0 (j := j) (x := ((((x &&& (127 : Int64)) ||| (128 : Int64)).toInt32).toInt8.toInt32)) hj (by omega) (g := (mkF m 35 #[.val (.long q0), .second, .val (.ref a1), .val (.int p2), .val (.int (j + (1 : Int32))), .val (.long x), .second] [(.int ((((x &&& (127 : Int64)) ||| (128 : Int64)).toInt32).toInt8.toInt32)), (.int j), (.ref a1)])) rfl rfl (hb hby own_d2_35)
    refine own_go (T' := T2) (f' := (mkF m 36 #[.val (.long q0), .second, .val (.ref a1), .val (.int p2), .val (.int (j + (1 : Int32))), .val (.long x), .second] [])) st2 ?_
    have fc3 : own_ArI Z h2 a1 .byte z y2 := V2
    have Zs2 : n0 ≤ h2.size := Nat.le_trans Z0 (Keep.of_wr W2).1
    have K2 : Keep h0 h2 [a1] := K0.wr W2 (Or.inl (List.mem_of_getElem? (i := 0) rfl))
    have N2 := Fr.snoc X2 N0 go_a1
    have ya2' : y2 j.toInt.toNat = (nar .byte ((((x &&& (127 : Int64)) ||| (128 : Int64)).toInt32).toInt8.toInt32)) := ya2
    have yb2' : ∀ i, i ≠ j.toInt.toNat → y2 i = f i := yb2
    refine own_go (T' := T2) (f' := (mkF m 6 #[.val (.long q0), .second, .val (.ref a1), .val (.int p2), .val (.int (j + (1 : Int32))), .val (.long (own_shrL x (7 : Int32))), .second] [])) (fun t k => ?_) ?_
    · show Steps p.tables e below (T2.setTop (mkF m 36 #[.val (.long q0), .second, .val (.ref a1), .val (.int p2), .val (.int (j + (1 : Int32))), .val (.long x), .second] [])) _
      refine XS.lload X2.here hx rfl (hb hby own_d2_36) rfl ?_
      show Steps p.tables e below (T2.setTop (mkF m 38 #[.val (.long q0), .second, .val (.ref a1), .val (.int p2), .val (.int (j + (1 : Int32))), .val (.long x), .second] [(.long x)])) _
      refine XS.bipush X2.here hx rfl (hb hby own_d2_38) ?_
      show Steps p.tables e below (T2.setTop (mkF m 40 #[.val (.long q0), .second, .val (.ref a1), .val (.int p2), .val (.int (j + (1 : Int32))), .val (.long x), .second] [(.int (7 : Int32)), (.long x)])) _
      refine XS.lushr X2.here hx rfl (hb hby own_d2_40) rfl ?_
      show Steps p.tables e below (T2.setTop (mkF m 41 #[.val (.long q0), .second, .val (.ref a1), .val (.int p2), .val (.int (j + (1 : Int32))), .val (.long x), .second] [(.long (own_shrL x (7 : Int32)))])) _
      refine XS.lstore X2.here hx rfl (hb hby own_d2_41) rfl (l' := #[.val (.long q0), .second, .val (.ref a1), .val (.int p2), .val (.int (j + (1 : Int32))), .val (.long (own_shrL x (7 : Int32))), .second]) rfl ?_
      show Steps p.tables e below (T2.setTop (mkF m 43 #[.val (.long q0), .second, .val (.ref a1), .val (.int p2), .val (.int (j + (1 : Int32))), .val (.long (own_shrL x (7 : Int32))), .second] [])) _
      refine XS.goto X2.here hx rfl (pc0 := 43) (pc' := 6) rfl (hb hby own_d2_43) (by decide) (by decide) ?_
      show Steps p.tables e below (T2.setTop (mkF m 6 #[.val (.long q0), .second, .val (.ref a1), .val (.int p2), .val (.int (j + (1 : Int32))), .val (.long (own_shrL x (7 : Int32))), .second] [])) _
      exact k
    have hu : ¬ own_u x < 128 := fun q => hc14_1 ((own_cond x).mpr q)
    have hf0 : 0 < fuel := own_LS.pos hu hfu
    have hj1 : (j + (1 : Int32)).toInt = j.toInt + 1 := by have a := c_iadd j 1; have b := rng32 z; have c := rng32 (j + 1); have e1 : (1 : Int32).toInt = 1 := rfl; omega
    have hs := own_LS.fuel hf0 hfu
    refine ih (fuel - 1) (by omega) _ _ _ ((j + (1 : Int32))) ((own_shrL x (7 : Int32))) y2 X2 e2 N2 Zs2 K2 fc3 (by omega) (by omega) hs (fun T' h' locs' j' x' f' X' e' N' Z' K' V0' sp => ?_)
    exact kx T' h' locs' j' x' f' X' e' N' Z' K' V0' (own_LS.turn hf0 hj hj1 (by omega) (by rw [ya2']; exact own_b1 x) yb2' sp)
/-- what writeUnsigned leaves: G bytes from the place p2 on -/
def own_WU (q0 : Int64) (p2 : Int32) (f : Nat → Int32) (r : Int32) (f' : Nat → Int32) : Prop :=
  ∃ G : Nat, 1 ≤ G ∧ G ≤ 10 ∧ r.toInt = p2.toInt + G ∧ own_u q0 < 128 ^ G ∧ (G = 1 ∨ 128 ^ (G - 1) ≤ own_u q0) ∧ (∀ i, i < G → own_byte (f' (p2.toInt.toNat + i)) (own_u q0 / 128 ^ i % 128 + if i + 1 < G then 128 else 0)) ∧ ∀ i, i < p2.toInt.toNat ∨ p2.toInt.toNat + G ≤ i → f' i = f i
theorem own_LS.bound {q0 x' : Int64} {p2 j' z : Int32} {f f' : Nat → Int32} (h : own_LS 9 q0 p2 f x' j' f') (hp : 0 ≤ p2.toInt) (hz : p2.toInt + 10 ≤ z.toInt) : 0 ≤ j'.toInt ∧ j'.toInt < z.toInt ∧ True := by
  obtain ⟨k, h1, h2, -⟩ := h
  exact ⟨by omega, by omega, trivial⟩
theorem own_WU.mk {q0 x' : Int64} {p2 j' z : Int32} {f f1 f2 : Nat → Int32} (h : own_LS 9 q0 p2 f x' j' f1) (hk : 0 ≤ j'.toInt ∧ j'.toInt < z.toInt ∧ True) (hp : 0 ≤ p2.toInt) (ha : own_byte (f2 j'.toInt.toNat) (own_u x')) (hb : ∀ i, i ≠ j'.toInt.toNat → f2 i = f1 i) : own_WU q0 p2 f (j' + (1 : Int32)) f2 := by
  obtain ⟨k, h1, h2, h3, h4, h5, h6, h7⟩ := h
  have a := c_iadd j' 1
  have b := rng32 z
  have c := rng32 (j' + 1)
  have e1 : (1 : Int32).toInt = 1 := rfl
  have n : j'.toInt.toNat = p2.toInt.toNat + k := by omega
  have pk : 0 < 128 ^ k := Nat.pow_pos (by decide)
  refine ⟨k + 1, by omega, by omega, by omega, ?_, ?_, fun i hi => ?_, fun i hi => ?_⟩
  · rw [h3] at h4
    rw [Nat.pow_succ]
    have := (Nat.div_lt_iff_lt_mul pk).mp h4
    rw [Nat.mul_comm]; exact this
  · rcases h5 with rfl | h5
    · exact Or.inl rfl
    · rw [h3] at h5
      exact Or.inr ((Nat.div_pos_iff.mp h5).2)
  · by_cases q : i = k
    · subst q
      rw [if_neg (by omega), Nat.add_zero, ← n, ← h3, Nat.mod_eq_of_lt h4]; exact ha
    · rw [if_pos (by omega), hb _ (by omega)]; exact h6 i (by omega)
  · rw [hb i (by omega), h7 i (by omega)]
theorem own_d2_0 : decode prog_3_method_3_code 0 = .ok (.iload_n 3, 1) := by decide +kernel
theorem own_d2_1 : decode prog_3_method_3_code 1 = .ok (.istore 4, 2) := by decide +kernel
theorem own_d2_3 : decode prog_3_method_3_code 3 = .ok (.lload_n 0, 1) := by decide +kernel
theorem own_d2_4 : decode prog_3_method_3_code 4 = .ok (.lstore 5, 2) := by decide +kernel
theorem own_d2_46 : decode prog_3_method_3_code 46 = .ok (.aload_n 2, 1) := by decide +kernel
theorem own_d2_47 : decode prog_3_method_3_code 47 = .ok (.iload 4, 2) := by decide +kernel
theorem own_d2_49 : decode prog_3_method_3_code 49 = .ok (.iinc 4 1, 3) := by decide +kernel
theorem own_d2_52 : decode prog_3_method_3_code 52 = .ok (.lload 5, 2) := by decide +kernel
theorem own_d2_54 : decode prog_3_method_3_code 54 = .ok (.l2i, 1) := by decide +kernel
theorem own_d2_55 : decode prog_3_method_3_code 55 = .ok (.i2b, 1) := by decide +kernel
theorem own_d2_56 : decode prog_3_method_3_code 56 = .ok (.bastore, 1) := by decide +kernel
theorem own_d2_57 : decode prog_3_method_3_code 57 = .ok (.iload 4, 2) := by decide +kernel
theorem own_d2_59 : decode prog_3_method_3_code 59 = .ok (.ireturn, 1) := by decide +kernel
theorem own_pn1 : plainName "com/example/rowcast/rowcast/binary/Leb128" = true := by first | (simp [plainName, overriddenIn]; done) | decide +kernel
theorem own_ef2 (m : MethodId) (q0 : Int64) (a1 : Addr) (p2 : Int32) : entryFrame m #[(.long q0), (.ref a1), (.int p2)] 7 = mkF m 0 #[.val (.long q0), .second, .val (.ref a1), .val (.int p2), .unset, .unset, .unset] [] := by first | (simp [entryFrame, mkF, argsToLocals, Value.category]; done) | rfl
def own_Q2 (Z : State) (q0 : Int64) (a1 : Addr) (p2 : Int32) (z : Int32) (f : Nat → Int32) (h0 : Heap) (n0 : Nat) (v : Option Value) (h : Heap) (L : List Loc) : Prop := ∃ (f' : Nat → Int32), ∃ (r : Int32), (v = some (.int r)) ∧ (Fr n0 L) ∧ (Keep h0 h [a1]) ∧ (own_ArI Z h a1 .byte z f') ∧ (own_WU q0 p2 f r f')
set_option maxRecDepth 65536 in
set_option maxHeartbeats 40000000 in
theorem own_rm2 (l : Launch) (Z : State) (a0 : Array Value) (hw : ∀ d ∈ tables_1, d.before a0 Z = true) (ws : List Jvm.Cond) (q0 : Int64) (a1 : Addr) (p2 : Int32) (z : Int32) (f : Nat → Int32) (h0 : Heap) (n0 : Nat) (Z0 : n0 ≤ h0.size) (P0 : own_ArI Z h0 a1 .byte z f) (go_a1 : n0 ≤ a1) (hp : 0 ≤ p2.toInt) (hz : p2.toInt + 10 ≤ z.toInt) :
    MetFree l (⟨"com/example/rowcast/rowcast/binary/Leb128", "writeUnsigned", "(J[BI)I"⟩ : MethodName) (head1 (Jvm.Cond.code (⟨"com/example/rowcast/rowcast/binary/Leb128", "writeUnsigned", "(J[BI)I"⟩ : MethodName) prog_3_method_3_code 7 (some .int) :: ws) ({ frames := 0, cells := 0, slots := 0, locals := 0 } : Room)) (fun a U => a = #[(.long q0), (.ref a1), (.int p2)] ∧ Z.Warmed39 U.vm ∧ U.heap = h0) (fun _ _ _ _ _ => True) (fun _ U o U' => ∃ v L, o = .returned v ∧ own_Q2 Z q0 a1 p2 z f h0 n0 v U'.heap L ∧ FrameEnd U o U' L ({ frames := 0, cells := 0, slots := 0, locals := 0 } : Room).cells ({ frames := 0, cells := 0, slots := 0, locals := 0 } : Room).slots) := by
  refine MetFree.of_bodySF (plainFor_of_name own_pn1) hisR ?_
  intro p e s m args below meth c s₁ Bd hml0 hP hK
  obtain ⟨rfl, hZ, hh⟩ := hP
  have hx := Bd.exec
  have hby := Bd.bytes
  have hml : c.maxLocals = 7 := hml0
  have hown : s.vm.findClass "com/example/rowcast/rowcast/binary/Leb128" = some m.cls := findClass_of_methodNamed Bd.named
  have hnm := (name_of_methodNamed Bd.named Bd.method).1
  have X0 : Stand p l e ({ frames := 0, cells := 0, slots := 0, locals := 0 } : Room) s m #[(.long q0), (.ref a1), (.int p2)] below meth c s₁ [] 0 0 := Stand.of_body Bd
  have e0 : s₁.heap = h0 := by rw [← hh, Bd.state]; rfl
  have N0 := Fr.nil n0
  have K0 : Keep h0 h0 [a1] := Keep.refl h0 _
  refine own_go (fun t k => castTop (own_ef2 m q0 a1 p2) k) ?_
  refine own_go (T' := s₁) (f' := (mkF m 6 #[.val (.long q0), .second, .val (.ref a1), .val (.int p2), .val (.int p2), .val (.long q0), .second] [])) (fun t k => ?_) ?_
  · show Steps p.tables e below (s₁.setTop (mkF m 0 #[.val (.long q0), .second, .val (.ref a1), .val (.int p2), .unset, .unset, .unset] [])) _
    refine XS.iloadN X0.here hx rfl (hb hby own_d2_0) rfl ?_
    show Steps p.tables e below (s₁.setTop (mkF m 1 #[.val (.long q0), .second, .val (.ref a1), .val (.int p2), .unset, .unset, .unset] [(.int p2)])) _
    refine XS.istore X0.here hx rfl (hb hby own_d2_1) rfl (l' := #[.val (.long q0), .second, .val (.ref a1), .val (.int p2), .val (.int p2), .unset, .unset]) rfl ?_
    show Steps p.tables e below (s₁.setTop (mkF m 3 #[.val (.long q0), .second, .val (.ref a1), .val (.int p2), .val (.int p2), .unset, .unset] [])) _
    refine XS.lloadN X0.here hx rfl (hb hby own_d2_3) rfl ?_
    show Steps p.tables e below (s₁.setTop (mkF m 4 #[.val (.long q0), .second, .val (.ref a1), .val (.int p2), .val (.int p2), .unset, .unset] [(.long q0)])) _
    refine XS.lstore X0.here hx rfl (hb hby own_d2_4) rfl (l' := #[.val (.long q0), .second, .val (.ref a1), .val (.int p2), .val (.int p2), .val (.long q0), .second]) rfl ?_
    show Steps p.tables e below (s₁.setTop (mkF m 6 #[.val (.long q0), .second, .val (.ref a1), .val (.int p2), .val (.int p2), .val (.long q0), .second] [])) _
    exact k
  refine own_lp2 hx hZ hw hby hml hown q0 a1 p2 z go_a1  9 _ _ _ p2 q0 f X0 e0 N0 Z0 K0 P0 hp (by have : ((9 : Nat) : Int) = 9 := rfl; omega) (Nat.lt_of_lt_of_le (own_ui q0).2 (by decide)) ?_
  intro T1 h1 lo1 j'_1 x'_1 f'_1 X1 e1 N1 Zs1 K1 V1_0 sp1
  have hk1 := own_LS.bound sp1 hp hz
  refine own_go (T' := T1) (f' := (mkF m 56 #[.val (.long q0), .second, .val (.ref a1), .val (.int p2), .val (.int (j'_1 + (1 : Int32))), .val (.long x'_1), .second] [(.int ((x'_1.toInt32).toInt8.toInt32)), (.int j'_1), (.ref a1)])) (fun t k => ?_) ?_
  · show Steps p.tables e below (T1.setTop (mkF m 46 #[.val (.long q0), .second, .val (.ref a1), .val (.int p2), .val (.int j'_1), .val (.long x'_1), .second] [])) _
    refine XS.aloadN X1.here hx rfl (hb hby own_d2_46) rfl rfl ?_
    show Steps p.tables e below (T1.setTop (mkF m 47 #[.val (.long q0), .second, .val (.ref a1), .val (.int p2), .val (.int j'_1), .val (.long x'_1), .second] [(.ref a1)])) _
    refine XS.iload X1.here hx rfl (hb hby own_d2_47) rfl ?_
    show Steps p.tables e below (T1.setTop (mkF m 49 #[.val (.long q0), .second, .val (.ref a1), .val (.int p2), .val (.int j'_1), .val (.long x'_1), .second] [(.int j'_1), (.ref a1)])) _
    refine XS.iinc X1.here hx rfl (hb hby own_d2_49) rfl (l' := #[.val (.long q0), .second, .val (.ref a1), .val (.int p2), .val (.int (j'_1 + (1 : Int32))), .val (.long x'_1), .second]) rfl ?_
    show Steps p.tables e below (T1.setTop (mkF m 52 #[.val (.long q0), .second, .val (.ref a1), .val (.int p2), .val (.int (j'_1 + (1 : Int32))), .val (.long x'_1), .second] [(.int j'_1), (.ref a1)])) _
    refine XS.lload X1.here hx rfl (hb hby own_d2_52) rfl ?_
    show Steps p.tables e below (T1.setTop (mkF m 54 #[.val (.long q0), .second, .val (.ref a1), .val (.int p2), .val (.int (j'_1 + (1 : Int32))), .val (.long x'_1), .second] [(.long x'_1), (.int j'_1), (.ref a1)])) _
    refine XS.l2i X1.here hx rfl (hb hby own_d2_54) rfl ?_
    show Steps p.tables e below (T1.setTop (mkF m 55 #[.val (.long q0), .second, .val (.ref a1), .val (.int p2), .val (.int (j'_1 + (1 : Int32))), .val (.long x'_1), .second] [(.int (x'_1.toInt32)), (.int j'_1), (.ref a1)])) _
    refine XS.i2b X1.here hx rfl (hb hby own_d2_55) rfl ?_
    show Steps p.tables e below (T1.setTop (mkF m 56 #[.val (.long q0), .second, .val (.ref a1), .val (.int p2), .val (.int (j'_1 + (1 : Int32))), .val (.long x'_1), .second] [(.int ((x'_1.toInt32).toInt8.toInt32)), (.int j'_1), (.ref a1)])) _
    exact k
  obtain ⟨T2, h2, y2, X2, e2, W2, V2, ya2, yb2, st2⟩ := own_stB X1 hx hZ e1 V1_0 (j := j'_1) (x := ((x'_1.toInt32).toInt8.toInt32)) hk1.1 hk1.2.1 (g := (mkF m 56 #[.val (.long q0), .second, .val (.ref a1), .val (.int p2), .val (.int (j'_1 + (1 : Int32))), .val (.long x'_1), .second] [(.int ((x'_1.toInt32).toInt8.toInt32)), (.int j'_1), (.ref a1)])) rfl rfl (hb hby own_d2_56)
  refine own_go (T' := T2) (f' := (mkF m 57 #[.val (.long q0), .second, .val (.ref a1), .val (.int p2), .val (.int (j'_1 + (1 : Int32))), .val (.long x'_1), .second] [])) st2 ?_
  have fc3 : own_ArI Z h2 a1 .byte z y2 := V2
  have Zs2 : n0 ≤ h2.size := Nat.le_trans Zs1 (Keep.of_wr W2).1
  have K2 : Keep h0 h2 [a1] := K1.wr W2 (Or.inl (List.mem_of_getElem? (i := 0) rfl))
  have N2 := Fr.snoc X2 N1 go_a1
  have ya2' : y2 j'_1.toInt.toNat = (nar .byte ((x'_1.toInt32).toInt8.toInt32)) := ya2
  have yb2' : ∀ i, i ≠ j'_1.toInt.toNat → y2 i = f'_1 i := yb2
  refine own_go (T' := T2) (f' := (mkF m 59 #[.val (.long q0), .second, .val (.ref a1), .val (.int p2), .val (.int (j'_1 + (1 : Int32))), .val (.long x'_1), .second] [(.int (j'_1 + (1 : Int32)))])) (fun t k => ?_) ?_
  · show Steps p.tables e below (T2.setTop (mkF m 57 #[.val (.long q0), .second, .val (.ref a1), .val (.int p2), .val (.int (j'_1 + (1 : Int32))), .val (.long x'_1), .second] [])) _
    refine XS.iload X2.here hx rfl (hb hby own_d2_57) rfl ?_
    show Steps p.tables e below (T2.setTop (mkF m 59 #[.val (.long q0), .second, .val (.ref a1), .val (.int p2), .val (.int (j'_1 + (1 : Int32))), .val (.long x'_1), .second] [(.int (j'_1 + (1 : Int32)))])) _
    exact k
  obtain ⟨fs, hr, hrun, hended, hW, hsame⟩ := X2.leave (v := some (.int (j'_1 + (1 : Int32)))) (fun h => by rw [Bd.returns] at h; cases h)
  refine ⟨_, _, ?_, hrun, hended, _, _, rfl, ?_, ⟨_, rfl⟩, hW, hsame.mono (by decide) (by decide)⟩
  · exact retI X2 hx Bd.returns (hb hby own_d2_59) hr
  · show own_Q2 Z q0 a1 p2 z f h0 n0 _ T2.heap _
    rw [e2]
    exact ⟨y2, (j'_1 + (1 : Int32)), rfl, N2, K2, fc3, (own_WU.mk sp1 hk1 hp (by rw [ya2']; exact own_b2 _) yb2')⟩
theorem own_d3_0 : decode method_3_code 0 = .ok (.iload_n 1, 1) := by decide +kernel
theorem own_d3_1 : decode method_3_code 1 = .ok (.iload 4, 2) := by decide +kernel
theorem own_d3_3 : decode method_3_code 3 = .ok (.if_icmp .lt 12, 3) := by decide +kernel
theorem own_d3_6 : decode method_3_code 6 = .ok (.iload_n 1, 1) := by decide +kernel
theorem own_d3_7 : decode method_3_code 7 = .ok (.iload 4, 2) := by decide +kernel
theorem own_d3_9 : decode method_3_code 9 = .ok (.iload 5, 2) := by decide +kernel
theorem own_d3_11 : decode method_3_code 11 = .ok (.iadd, 1) := by decide +kernel
theorem own_d3_12 : decode method_3_code 12 = .ok (.if_icmp .lt 17, 3) := by decide +kernel
theorem own_d3_15 : decode method_3_code 15 = .ok (.aload_n 0, 1) := by decide +kernel
theorem own_d3_16 : decode method_3_code 16 = .ok (.iload_n 1, 1) := by decide +kernel
theorem own_d3_17 : decode method_3_code 17 = .ok (.baload, 1) := by decide +kernel
theorem own_d3_18 : decode method_3_code 18 = .ok (.iload 6, 2) := by decide +kernel
theorem own_d3_20 : decode method_3_code 20 = .ok (.if_icmp .ne 7, 3) := by decide +kernel
theorem own_d3_23 : decode method_3_code 23 = .ok (.iconst 1, 1) := by decide +kernel
theorem own_d3_24 : decode method_3_code 24 = .ok (.goto 4, 3) := by decide +kernel
theorem own_d3_27 : decode method_3_code 27 = .ok (.iconst 0, 1) := by decide +kernel
theorem own_d3_28 : decode method_3_code 28 = .ok (.ireturn, 1) := by decide +kernel
theorem own_d3_29 : decode method_3_code 29 = .ok (.iload_n 1, 1) := by decide +kernel
theorem own_d3_30 : decode method_3_code 30 = .ok (.iload 4, 2) := by decide +kernel
theorem own_d3_32 : decode method_3_code 32 = .ok (.isub, 1) := by decide +kernel
theorem own_d3_33 : decode method_3_code 33 = .ok (.istore 7, 2) := by decide +kernel
theorem own_d3_35 : decode method_3_code 35 = .ok (.lload_n 2, 1) := by decide +kernel
theorem own_d3_36 : decode method_3_code 36 = .ok (.bipush 7, 2) := by decide +kernel
theorem own_d3_38 : decode method_3_code 38 = .ok (.iload 7, 2) := by decide +kernel
theorem own_d3_40 : decode method_3_code 40 = .ok (.imul, 1) := by decide +kernel
theorem own_d3_41 : decode method_3_code 41 = .ok (.lushr, 1) := by decide +kernel
theorem own_d3_42 : decode method_3_code 42 = .ok (.ldc2_w 7, 3) := by decide +kernel
theorem own_d3_45 : decode method_3_code 45 = .ok (.land, 1) := by decide +kernel
theorem own_d3_46 : decode method_3_code 46 = .ok (.l2i, 1) := by decide +kernel
theorem own_d3_47 : decode method_3_code 47 = .ok (.istore 8, 2) := by decide +kernel
theorem own_d3_49 : decode method_3_code 49 = .ok (.iload 7, 2) := by decide +kernel
theorem own_d3_51 : decode method_3_code 51 = .ok (.iload 5, 2) := by decide +kernel
theorem own_d3_53 : decode method_3_code 53 = .ok (.iconst 1, 1) := by decide +kernel
theorem own_d3_54 : decode method_3_code 54 = .ok (.isub, 1) := by decide +kernel
theorem own_d3_55 : decode method_3_code 55 = .ok (.if_icmp .ge 12, 3) := by decide +kernel
theorem own_d3_58 : decode method_3_code 58 = .ok (.iload 8, 2) := by decide +kernel
theorem own_d3_60 : decode method_3_code 60 = .ok (.sipush 128, 3) := by decide +kernel
theorem own_d3_63 : decode method_3_code 63 = .ok (.ior, 1) := by decide +kernel
theorem own_d3_64 : decode method_3_code 64 = .ok (.goto 5, 3) := by decide +kernel
theorem own_d3_67 : decode method_3_code 67 = .ok (.iload 8, 2) := by decide +kernel
theorem own_d3_69 : decode method_3_code 69 = .ok (.istore 9, 2) := by decide +kernel
theorem own_d3_71 : decode method_3_code 71 = .ok (.aload_n 0, 1) := by decide +kernel
theorem own_d3_72 : decode method_3_code 72 = .ok (.iload_n 1, 1) := by decide +kernel
theorem own_d3_73 : decode method_3_code 73 = .ok (.baload, 1) := by decide +kernel
theorem own_d3_74 : decode method_3_code 74 = .ok (.iload 9, 2) := by decide +kernel
theorem own_d3_76 : decode method_3_code 76 = .ok (.i2b, 1) := by decide +kernel
theorem own_d3_77 : decode method_3_code 77 = .ok (.if_icmp .ne 7, 3) := by decide +kernel
theorem own_d3_80 : decode method_3_code 80 = .ok (.iconst 1, 1) := by decide +kernel
theorem own_d3_81 : decode method_3_code 81 = .ok (.goto 4, 3) := by decide +kernel
theorem own_d3_84 : decode method_3_code 84 = .ok (.iconst 0, 1) := by decide +kernel
theorem own_d3_85 : decode method_3_code 85 = .ok (.ireturn, 1) := by decide +kernel
theorem own_ef3 (m : MethodId) (a0r : Addr) (p1 : Int32) (q2 : Int64) (p3 : Int32) (p4 : Int32) (p5 : Int32) : entryFrame m #[(.ref a0r), (.int p1), (.long q2), (.int p3), (.int p4), (.int p5)] 10 = mkF m 0 #[.val (.ref a0r), .val (.int p1), .val (.long q2), .second, .val (.int p3), .val (.int p4), .val (.int p5), .unset, .unset, .unset] [] := by first | (simp [entryFrame, mkF, argsToLocals, Value.category]; done) | rfl
def own_F3 (p1 : Int32) (q2 : Int64) (p3 : Int32) (p4 : Int32) (p5 : Int32) (z : Int32) (f : Nat → Int32) : Int32 := (if p1 < p3 then (if (f p1.toInt.toNat) = p5 then (1 : Int32) else (0 : Int32)) else (if p1 < (p3 + p4) then (if (f p1.toInt.toNat) = ((if (p1 - p3) < (p4 - (1 : Int32)) then ((((own_shrL q2 ((7 : Int32) * (p1 - p3))) &&& (127 : Int64)).toInt32) ||| (128 : Int32)) else (((own_shrL q2 ((7 : Int32) * (p1 - p3))) &&& (127 : Int64)).toInt32)).toInt8.toInt32) then (1 : Int32) else (0 : Int32)) else (if (f p1.toInt.toNat) = p5 then (1 : Int32) else (0 : Int32))))
def own_Q3 (Z : State) (a0r : Addr) (p1 : Int32) (q2 : Int64) (p3 : Int32) (p4 : Int32) (p5 : Int32) (z : Int32) (f : Nat → Int32) (h0 : Heap) (n0 : Nat) (v : Option Value) (h : Heap) (L : List Loc) : Prop := (v = some (.int (own_F3 p1 q2 p3 p4 p5 z f))) ∧ (Fr n0 L) ∧ (h = h0)
set_option maxRecDepth 65536 in
set_option maxHeartbeats 40000000 in
theorem own_rm3 (l : Launch) (Z : State) (a0 : Array Value) (hw : ∀ d ∈ tables_1, d.before a0 Z = true) (ws : List Jvm.Cond) (a0r : Addr) (p1 : Int32) (q2 : Int64) (p3 : Int32) (p4 : Int32) (p5 : Int32) (z : Int32) (f : Nat → Int32) (h0 : Heap) (n0 : Nat) (Z0 : n0 ≤ h0.size) (P0 : own_ArI Z h0 a0r .byte z f) (hi : 0 ≤ p1.toInt) (hz : p1.toInt < z.toInt) :
    MetFree l (⟨"com/example/rowcast/rowcast/binary/Leb128WriteUnsignedPinLaw", "check", "([BIJIIB)Z"⟩ : MethodName) (head1 (Jvm.Cond.code (⟨"com/example/rowcast/rowcast/binary/Leb128WriteUnsignedPinLaw", "check", "([BIJIIB)Z"⟩ : MethodName) method_3_code 10 (some .boolean) :: ws) ({ frames := 0, cells := 0, slots := 0, locals := 0 } : Room)) (fun a U => a = #[(.ref a0r), (.int p1), (.long q2), (.int p3), (.int p4), (.int p5)] ∧ Z.Warmed39 U.vm ∧ U.heap = h0) (fun _ _ _ _ _ => True) (fun _ U o U' => ∃ v L, o = .returned v ∧ own_Q3 Z a0r p1 q2 p3 p4 p5 z f h0 n0 v U'.heap L ∧ FrameEnd U o U' L ({ frames := 0, cells := 0, slots := 0, locals := 0 } : Room).cells ({ frames := 0, cells := 0, slots := 0, locals := 0 } : Room).slots) := by
  refine MetFree.of_bodySF (plainFor_of_name own_pn0) hisR ?_
  intro p e s m args below meth c s₁ Bd hml0 hP hK
  obtain ⟨rfl, hZ, hh⟩ := hP
  have hx := Bd.exec
  have hby := Bd.bytes
  have hml : c.maxLocals = 10 := hml0
  have hown : s.vm.findClass "com/example/rowcast/rowcast/binary/Leb128WriteUnsignedPinLaw" = some m.cls := findClass_of_methodNamed Bd.named
  have hnm := (name_of_methodNamed Bd.named Bd.method).1
  have X0 : Stand p l e ({ frames := 0, cells := 0, slots := 0, locals := 0 } : Room) s m #[(.ref a0r), (.int p1), (.long q2), (.int p3), (.int p4), (.int p5)] below meth c s₁ [] 0 0 := Stand.of_body Bd
  have e0 : s₁.heap = h0 := by rw [← hh, Bd.state]; rfl
  have N0 := Fr.nil n0
  refine own_go (fun t k => castTop (own_ef3 m a0r p1 q2 p3 p4 p5) k) ?_
  refine own_go (T' := s₁) (f' := (mkF m 3 #[.val (.ref a0r), .val (.int p1), .val (.long q2), .second, .val (.int p3), .val (.int p4), .val (.int p5), .unset, .unset, .unset] [(.int p3), (.int p1)])) (fun t k => ?_) ?_
  · show Steps p.tables e below (s₁.setTop (mkF m 0 #[.val (.ref a0r), .val (.int p1), .val (.long q2), .second, .val (.int p3), .val (.int p4), .val (.int p5), .unset, .unset, .unset] [])) _
    refine XS.iloadN X0.here hx rfl (hb hby own_d3_0) rfl ?_
    show Steps p.tables e below (s₁.setTop (mkF m 1 #[.val (.ref a0r), .val (.int p1), .val (.long q2), .second, .val (.int p3), .val (.int p4), .val (.int p5), .unset, .unset, .unset] [(.int p1)])) _
    refine XS.iload X0.here hx rfl (hb hby own_d3_1) rfl ?_
    show Steps p.tables e below (s₁.setTop (mkF m 3 #[.val (.ref a0r), .val (.int p1), .val (.long q2), .second, .val (.int p3), .val (.int p4), .val (.int p5), .unset, .unset, .unset] [(.int p3), (.int p1)])) _
    exact k
  by_cases hc3_1 : p1 < p3
  · skip
    refine own_go (T' := s₁) (f' := (mkF m 20 #[.val (.ref a0r), .val (.int p1), .val (.long q2), .second, .val (.int p3), .val (.int p4), .val (.int p5), .unset, .unset, .unset] [(.int p5), (.int (f p1.toInt.toNat))])) (fun t k => ?_) ?_
    · show Steps p.tables e below (s₁.setTop (mkF m 3 #[.val (.ref a0r), .val (.int p1), .val (.long q2), .second, .val (.int p3), .val (.int p4), .val (.int p5), .unset, .unset, .unset] [(.int p3), (.int p1)])) _
      refine XS.icmpYes X0.here hx rfl (pc0 := 3) (pc' := 15) rfl (hb hby own_d3_3) rfl (tlt hc3_1).1 (by decide) (by decide) ?_
      show Steps p.tables e below (s₁.setTop (mkF m 15 #[.val (.ref a0r), .val (.int p1), .val (.long q2), .second, .val (.int p3), .val (.int p4), .val (.int p5), .unset, .unset, .unset] [])) _
      refine XS.aloadN X0.here hx rfl (hb hby own_d3_15) rfl rfl ?_
      show Steps p.tables e below (s₁.setTop (mkF m 16 #[.val (.ref a0r), .val (.int p1), .val (.long q2), .second, .val (.int p3), .val (.int p4), .val (.int p5), .unset, .unset, .unset] [(.ref a0r)])) _
      refine XS.iloadN X0.here hx rfl (hb hby own_d3_16) rfl ?_
      show Steps p.tables e below (s₁.setTop (mkF m 17 #[.val (.ref a0r), .val (.int p1), .val (.long q2), .second, .val (.int p3), .val (.int p4), .val (.int p5), .unset, .unset, .unset] [(.int p1), (.ref a0r)])) _
      refine own_ldB X0 hx hZ e0 P0 (j := p1) hi hz (g := (mkF m 17 #[.val (.ref a0r), .val (.int p1), .val (.long q2), .second, .val (.int p3), .val (.int p4), .val (.int p5), .unset, .unset, .unset] [(.int p1), (.ref a0r)])) rfl rfl (hb hby own_d3_17) _ ?_
      show Steps p.tables e below (s₁.setTop (mkF m 18 #[.val (.ref a0r), .val (.int p1), .val (.long q2), .second, .val (.int p3), .val (.int p4), .val (.int p5), .unset, .unset, .unset] [(.int (f p1.toInt.toNat))])) _
      refine XS.iload X0.here hx rfl (hb hby own_d3_18) rfl ?_
      show Steps p.tables e below (s₁.setTop (mkF m 20 #[.val (.ref a0r), .val (.int p1), .val (.long q2), .second, .val (.int p3), .val (.int p4), .val (.int p5), .unset, .unset, .unset] [(.int p5), (.int (f p1.toInt.toNat))])) _
      exact k
    by_cases hc20_2 : (f p1.toInt.toNat) = p5
    · skip
      refine own_go (T' := s₁) (f' := (mkF m 28 #[.val (.ref a0r), .val (.int p1), .val (.long q2), .second, .val (.int p3), .val (.int p4), .val (.int p5), .unset, .unset, .unset] [(.int (1 : Int32))])) (fun t k => ?_) ?_
      · show Steps p.tables e below (s₁.setTop (mkF m 20 #[.val (.ref a0r), .val (.int p1), .val (.long q2), .second, .val (.int p3), .val (.int p4), .val (.int p5), .unset, .unset, .unset] [(.int p5), (.int (f p1.toInt.toNat))])) _
        refine XS.icmpNo X0.here hx rfl (hb hby own_d3_20) rfl (teq hc20_2).2 ?_
        show Steps p.tables e below (s₁.setTop (mkF m 23 #[.val (.ref a0r), .val (.int p1), .val (.long q2), .second, .val (.int p3), .val (.int p4), .val (.int p5), .unset, .unset, .unset] [])) _
        refine XS.iconst X0.here hx rfl (hb hby own_d3_23) ?_
        show Steps p.tables e below (s₁.setTop (mkF m 24 #[.val (.ref a0r), .val (.int p1), .val (.long q2), .second, .val (.int p3), .val (.int p4), .val (.int p5), .unset, .unset, .unset] [(.int (1 : Int32))])) _
        refine XS.goto X0.here hx rfl (pc0 := 24) (pc' := 28) rfl (hb hby own_d3_24) (by decide) (by decide) ?_
        show Steps p.tables e below (s₁.setTop (mkF m 28 #[.val (.ref a0r), .val (.int p1), .val (.long q2), .second, .val (.int p3), .val (.int p4), .val (.int p5), .unset, .unset, .unset] [(.int (1 : Int32))])) _
        exact k
      obtain ⟨fs, hr, hrun, hended, hW, hsame⟩ := X0.leave (v := some (.int (1 : Int32))) (fun h => by rw [Bd.returns] at h; cases h)
      refine ⟨_, _, ?_, hrun, hended, _, _, rfl, ?_, ⟨_, rfl⟩, hW, hsame.mono (by decide) (by decide)⟩
      · exact retN X0 hx (t := .boolean) Bd.returns (by simp) (hb hby own_d3_28) hr
      · show own_Q3 Z a0r p1 q2 p3 p4 p5 z f h0 n0 _ s₁.heap _
        rw [e0]
        exact ⟨(by rw [own_F3, if_pos hc3_1, if_pos hc20_2]), N0, rfl⟩
    · skip
      refine own_go (T' := s₁) (f' := (mkF m 28 #[.val (.ref a0r), .val (.int p1), .val (.long q2), .second, .val (.int p3), .val (.int p4), .val (.int p5), .unset, .unset, .unset] [(.int (0 : Int32))])) (fun t k => ?_) ?_
      · show Steps p.tables e below (s₁.setTop (mkF m 20 #[.val (.ref a0r), .val (.int p1), .val (.long q2), .second, .val (.int p3), .val (.int p4), .val (.int p5), .unset, .unset, .unset] [(.int p5), (.int (f p1.toInt.toNat))])) _
        refine XS.icmpYes X0.here hx rfl (pc0 := 20) (pc' := 27) rfl (hb hby own_d3_20) rfl (feq hc20_2).2 (by decide) (by decide) ?_
        show Steps p.tables e below (s₁.setTop (mkF m 27 #[.val (.ref a0r), .val (.int p1), .val (.long q2), .second, .val (.int p3), .val (.int p4), .val (.int p5), .unset, .unset, .unset] [])) _
        refine XS.iconst X0.here hx rfl (hb hby own_d3_27) ?_
        show Steps p.tables e below (s₁.setTop (mkF m 28 #[.val (.ref a0r), .val (.int p1), .val (.long q2), .second, .val (.int p3), .val (.int p4), .val (.int p5), .unset, .unset, .unset] [(.int (0 : Int32))])) _
        exact k
      obtain ⟨fs, hr, hrun, hended, hW, hsame⟩ := X0.leave (v := some (.int (0 : Int32))) (fun h => by rw [Bd.returns] at h; cases h)
      refine ⟨_, _, ?_, hrun, hended, _, _, rfl, ?_, ⟨_, rfl⟩, hW, hsame.mono (by decide) (by decide)⟩
      · exact retN X0 hx (t := .boolean) Bd.returns (by simp) (hb hby own_d3_28) hr
      · show own_Q3 Z a0r p1 q2 p3 p4 p5 z f h0 n0 _ s₁.heap _
        rw [e0]
        exact ⟨(by rw [own_F3, if_pos hc3_1, if_neg hc20_2]), N0, rfl⟩
  · skip
    refine own_go (T' := s₁) (f' := (mkF m 12 #[.val (.ref a0r), .val (.int p1), .val (.long q2), .second, .val (.int p3), .val (.int p4), .val (.int p5), .unset, .unset, .unset] [(.int (p3 + p4)), (.int p1)])) (fun t k => ?_) ?_
    · show Steps p.tables e below (s₁.setTop (mkF m 3 #[.val (.ref a0r), .val (.int p1), .val (.long q2), .second, .val (.int p3), .val (.int p4), .val (.int p5), .unset, .unset, .unset] [(.int p3), (.int p1)])) _
      refine XS.icmpNo X0.here hx rfl (hb hby own_d3_3) rfl (flt hc3_1).1 ?_
      show Steps p.tables e below (s₁.setTop (mkF m 6 #[.val (.ref a0r), .val (.int p1), .val (.long q2), .second, .val (.int p3), .val (.int p4), .val (.int p5), .unset, .unset, .unset] [])) _
      refine XS.iloadN X0.here hx rfl (hb hby own_d3_6) rfl ?_
      show Steps p.tables e below (s₁.setTop (mkF m 7 #[.val (.ref a0r), .val (.int p1), .val (.long q2), .second, .val (.int p3), .val (.int p4), .val (.int p5), .unset, .unset, .unset] [(.int p1)])) _
      refine XS.iload X0.here hx rfl (hb hby own_d3_7) rfl ?_
      show Steps p.tables e below (s₁.setTop (mkF m 9 #[.val (.ref a0r), .val (.int p1), .val (.long q2), .second, .val (.int p3), .val (.int p4), .val (.int p5), .unset, .unset, .unset] [(.int p3), (.int p1)])) _
      refine XS.iload X0.here hx rfl (hb hby own_d3_9) rfl ?_
      show Steps p.tables e below (s₁.setTop (mkF m 11 #[.val (.ref a0r), .val (.int p1), .val (.long q2), .second, .val (.int p3), .val (.int p4), .val (.int p5), .unset, .unset, .unset] [(.int p4), (.int p3), (.int p1)])) _
      refine XS.iadd X0.here hx rfl (hb hby own_d3_11) rfl ?_
      show Steps p.tables e below (s₁.setTop (mkF m 12 #[.val (.ref a0r), .val (.int p1), .val (.long q2), .second, .val (.int p3), .val (.int p4), .val (.int p5), .unset, .unset, .unset] [(.int (p3 + p4)), (.int p1)])) _
      exact k
    by_cases hc12_3 : p1 < (p3 + p4)
    · skip
      refine own_go (T' := s₁) (f' := (mkF m 55 #[.val (.ref a0r), .val (.int p1), .val (.long q2), .second, .val (.int p3), .val (.int p4), .val (.int p5), .val (.int (p1 - p3)), .val (.int (((own_shrL q2 ((7 : Int32) * (p1 - p3))) &&& (127 : Int64)).toInt32)), .unset] [(.int (p4 - (1 : Int32))), (.int (p1 - p3))])) (fun t k => ?_) ?_
      · show Steps p.tables e below (s₁.setTop (mkF m 12 #[.val (.ref a0r), .val (.int p1), .val (.long q2), .second, .val (.int p3), .val (.int p4), .val (.int p5), .unset, .unset, .unset] [(.int (p3 + p4)), (.int p1)])) _
        refine XS.icmpYes X0.here hx rfl (pc0 := 12) (pc' := 29) rfl (hb hby own_d3_12) rfl (tlt hc12_3).1 (by decide) (by decide) ?_
        show Steps p.tables e below (s₁.setTop (mkF m 29 #[.val (.ref a0r), .val (.int p1), .val (.long q2), .second, .val (.int p3), .val (.int p4), .val (.int p5), .unset, .unset, .unset] [])) _
        refine XS.iloadN X0.here hx rfl (hb hby own_d3_29) rfl ?_
        show Steps p.tables e below (s₁.setTop (mkF m 30 #[.val (.ref a0r), .val (.int p1), .val (.long q2), .second, .val (.int p3), .val (.int p4), .val (.int p5), .unset, .unset, .unset] [(.int p1)])) _
        refine XS.iload X0.here hx rfl (hb hby own_d3_30) rfl ?_
        show Steps p.tables e below (s₁.setTop (mkF m 32 #[.val (.ref a0r), .val (.int p1), .val (.long q2), .second, .val (.int p3), .val (.int p4), .val (.int p5), .unset, .unset, .unset] [(.int p3), (.int p1)])) _
        refine XS.isub X0.here hx rfl (hb hby own_d3_32) rfl ?_
        show Steps p.tables e below (s₁.setTop (mkF m 33 #[.val (.ref a0r), .val (.int p1), .val (.long q2), .second, .val (.int p3), .val (.int p4), .val (.int p5), .unset, .unset, .unset] [(.int (p1 - p3))])) _
        refine XS.istore X0.here hx rfl (hb hby own_d3_33) rfl (l' := #[.val (.ref a0r), .val (.int p1), .val (.long q2), .second, .val (.int p3), .val (.int p4), .val (.int p5), .val (.int (p1 - p3)), .unset, .unset]) rfl ?_
        show Steps p.tables e below (s₁.setTop (mkF m 35 #[.val (.ref a0r), .val (.int p1), .val (.long q2), .second, .val (.int p3), .val (.int p4), .val (.int p5), .val (.int (p1 - p3)), .unset, .unset] [])) _
        refine XS.lloadN X0.here hx rfl (hb hby own_d3_35) rfl ?_
        show Steps p.tables e below (s₁.setTop (mkF m 36 #[.val (.ref a0r), .val (.int p1), .val (.long q2), .second, .val (.int p3), .val (.int p4), .val (.int p5), .val (.int (p1 - p3)), .unset, .unset] [(.long q2)])) _
        refine XS.bipush X0.here hx rfl (hb hby own_d3_36) ?_
        show Steps p.tables e below (s₁.setTop (mkF m 38 #[.val (.ref a0r), .val (.int p1), .val (.long q2), .second, .val (.int p3), .val (.int p4), .val (.int p5), .val (.int (p1 - p3)), .unset, .unset] [(.int (7 : Int32)), (.long q2)])) _
        refine XS.iload X0.here hx rfl (hb hby own_d3_38) rfl ?_
        show Steps p.tables e below (s₁.setTop (mkF m 40 #[.val (.ref a0r), .val (.int p1), .val (.long q2), .second, .val (.int p3), .val (.int p4), .val (.int p5), .val (.int (p1 - p3)), .unset, .unset] [(.int (p1 - p3)), (.int (7 : Int32)), (.long q2)])) _
        refine XS.imul X0.here hx rfl (hb hby own_d3_40) rfl ?_
        show Steps p.tables e below (s₁.setTop (mkF m 41 #[.val (.ref a0r), .val (.int p1), .val (.long q2), .second, .val (.int p3), .val (.int p4), .val (.int p5), .val (.int (p1 - p3)), .unset, .unset] [(.int ((7 : Int32) * (p1 - p3))), (.long q2)])) _
        refine XS.lushr X0.here hx rfl (hb hby own_d3_41) rfl ?_
        show Steps p.tables e below (s₁.setTop (mkF m 42 #[.val (.ref a0r), .val (.int p1), .val (.long q2), .second, .val (.int p3), .val (.int p4), .val (.int p5), .val (.int (p1 - p3)), .unset, .unset] [(.long (own_shrL q2 ((7 : Int32) * (p1 - p3))))])) _
        refine X0.ldc2Long hx hown (mvT hZ (hw _ (List.mem_of_getElem? (i := 13) rfl))) (g := (mkF m 42 #[.val (.ref a0r), .val (.int p1), .val (.long q2), .second, .val (.int p3), .val (.int p4), .val (.int p5), .val (.int (p1 - p3)), .unset, .unset] [(.long (own_shrL q2 ((7 : Int32) * (p1 - p3))))])) rfl (hb hby own_d3_42) _ ?_
        show Steps p.tables e below (s₁.setTop (mkF m 45 #[.val (.ref a0r), .val (.int p1), .val (.long q2), .second, .val (.int p3), .val (.int p4), .val (.int p5), .val (.int (p1 - p3)), .unset, .unset] [(.long (127 : Int64)), (.long (own_shrL q2 ((7 : Int32) * (p1 - p3))))])) _
        refine XS.land X0.here hx rfl (hb hby own_d3_45) rfl ?_
        show Steps p.tables e below (s₁.setTop (mkF m 46 #[.val (.ref a0r), .val (.int p1), .val (.long q2), .second, .val (.int p3), .val (.int p4), .val (.int p5), .val (.int (p1 - p3)), .unset, .unset] [(.long ((own_shrL q2 ((7 : Int32) * (p1 - p3))) &&& (127 : Int64)))])) _
        refine XS.l2i X0.here hx rfl (hb hby own_d3_46) rfl ?_
        show Steps p.tables e below (s₁.setTop (mkF m 47 #[.val (.ref a0r), .val (.int p1), .val (.long q2), .second, .val (.int p3), .val (.int p4), .val (.int p5), .val (.int (p1 - p3)), .unset, .unset] [(.int (((own_shrL q2 ((7 : Int32) * (p1 - p3))) &&& (127 : Int64)).toInt32))])) _
        refine XS.istore X0.here hx rfl (hb hby own_d3_47) rfl (l' := #[.val (.ref a0r), .val (.int p1), .val (.long q2), .second, .val (.int p3), .val (.int p4), .val (.int p5), .val (.int (p1 - p3)), .val (.int (((own_shrL q2 ((7 : Int32) * (p1 - p3))) &&& (127 : Int64)).toInt32)), .unset]) rfl ?_
        show Steps p.tables e below (s₁.setTop (mkF m 49 #[.val (.ref a0r), .val (.int p1), .val (.long q2), .second, .val (.int p3), .val (.int p4), .val (.int p5), .val (.int (p1 - p3)), .val (.int (((own_shrL q2 ((7 : Int32) * (p1 - p3))) &&& (127 : Int64)).toInt32)), .unset] [])) _
        refine XS.iload X0.here hx rfl (hb hby own_d3_49) rfl ?_
        show Steps p.tables e below (s₁.setTop (mkF m 51 #[.val (.ref a0r), .val (.int p1), .val (.long q2), .second, .val (.int p3), .val (.int p4), .val (.int p5), .val (.int (p1 - p3)), .val (.int (((own_shrL q2 ((7 : Int32) * (p1 - p3))) &&& (127 : Int64)).toInt32)), .unset] [(.int (p1 - p3))])) _
        refine XS.iload X0.here hx rfl (hb hby own_d3_51) rfl ?_
        show Steps p.tables e below (s₁.setTop (mkF m 53 #[.val (.ref a0r), .val (.int p1), .val (.long q2), .second, .val (.int p3), .val (.int p4), .val (.int p5), .val (.int (p1 - p3)), .val (.int (((own_shrL q2 ((7 : Int32) * (p1 - p3))) &&& (127 : Int64)).toInt32)), .unset] [(.int p4), (.int (p1 - p3))])) _
        refine XS.iconst X0.here hx rfl (hb hby own_d3_53) ?_
        show Steps p.tables e below (s₁.setTop (mkF m 54 #[.val (.ref a0r), .val (.int p1), .val (.long q2), .second, .val (.int p3), .val (.int p4), .val (.int p5), .val (.int (p1 - p3)), .val (.int (((own_shrL q2 ((7 : Int32) * (p1 - p3))) &&& (127 : Int64)).toInt32)), .unset] [(.int (1 : Int32)), (.int p4), (.int (p1 - p3))])) _
        refine XS.isub X0.here hx rfl (hb hby own_d3_54) rfl ?_
        show Steps p.tables e below (s₁.setTop (mkF m 55 #[.val (.ref a0r), .val (.int p1), .val (.long q2), .second, .val (.int p3), .val (.int p4), .val (.int p5), .val (.int (p1 - p3)), .val (.int (((own_shrL q2 ((7 : Int32) * (p1 - p3))) &&& (127 : Int64)).toInt32)), .unset] [(.int (p4 - (1 : Int32))), (.int (p1 - p3))])) _
        exact k
      refine own_go (T' := s₁) (f' := (mkF m 69 #[.val (.ref a0r), .val (.int p1), .val (.long q2), .second, .val (.int p3), .val (.int p4), .val (.int p5), .val (.int (p1 - p3)), .val (.int (((own_shrL q2 ((7 : Int32) * (p1 - p3))) &&& (127 : Int64)).toInt32)), .unset] [(.int (if (p1 - p3) < (p4 - (1 : Int32)) then ((((own_shrL q2 ((7 : Int32) * (p1 - p3))) &&& (127 : Int64)).toInt32) ||| (128 : Int32)) else (((own_shrL q2 ((7 : Int32) * (p1 - p3))) &&& (127 : Int64)).toInt32)))])) (fun t k => ?_) ?_
      · show Steps p.tables e below (s₁.setTop (mkF m 55 #[.val (.ref a0r), .val (.int p1), .val (.long q2), .second, .val (.int p3), .val (.int p4), .val (.int p5), .val (.int (p1 - p3)), .val (.int (((own_shrL q2 ((7 : Int32) * (p1 - p3))) &&& (127 : Int64)).toInt32)), .unset] [(.int (p4 - (1 : Int32))), (.int (p1 - p3))])) _
        by_cases hc55_4 : (p1 - p3) < (p4 - (1 : Int32))
        · skip
          refine XS.icmpNo X0.here hx rfl (hb hby own_d3_55) rfl (tlt hc55_4).2.1 ?_
          show Steps p.tables e below (s₁.setTop (mkF m 58 #[.val (.ref a0r), .val (.int p1), .val (.long q2), .second, .val (.int p3), .val (.int p4), .val (.int p5), .val (.int (p1 - p3)), .val (.int (((own_shrL q2 ((7 : Int32) * (p1 - p3))) &&& (127 : Int64)).toInt32)), .unset] [])) _
          refine XS.iload X0.here hx rfl (hb hby own_d3_58) rfl ?_
          show Steps p.tables e below (s₁.setTop (mkF m 60 #[.val (.ref a0r), .val (.int p1), .val (.long q2), .second, .val (.int p3), .val (.int p4), .val (.int p5), .val (.int (p1 - p3)), .val (.int (((own_shrL q2 ((7 : Int32) * (p1 - p3))) &&& (127 : Int64)).toInt32)), .unset] [(.int (((own_shrL q2 ((7 : Int32) * (p1 - p3))) &&& (127 : Int64)).toInt32))])) _
          refine XS.sipush X0.here hx rfl (hb hby own_d3_60) ?_
          show Steps p.tables e below (s₁.setTop (mkF m 63 #[.val (.ref a0r), .val (.int p1), .val (.long q2), .second, .val (.int p3), .val (.int p4), .val (.int p5), .val (.int (p1 - p3)), .val (.int (((own_shrL q2 ((7 : Int32) * (p1 - p3))) &&& (127 : Int64)).toInt32)), .unset] [(.int (128 : Int32)), (.int (((own_shrL q2 ((7 : Int32) * (p1 - p3))) &&& (127 : Int64)).toInt32))])) _
          refine XS.ior X0.here hx rfl (hb hby own_d3_63) rfl ?_
          show Steps p.tables e below (s₁.setTop (mkF m 64 #[.val (.ref a0r), .val (.int p1), .val (.long q2), .second, .val (.int p3), .val (.int p4), .val (.int p5), .val (.int (p1 - p3)), .val (.int (((own_shrL q2 ((7 : Int32) * (p1 - p3))) &&& (127 : Int64)).toInt32)), .unset] [(.int ((((own_shrL q2 ((7 : Int32) * (p1 - p3))) &&& (127 : Int64)).toInt32) ||| (128 : Int32)))])) _
          refine XS.goto X0.here hx rfl (pc0 := 64) (pc' := 69) rfl (hb hby own_d3_64) (by decide) (by decide) ?_
          show Steps p.tables e below (s₁.setTop (mkF m 69 #[.val (.ref a0r), .val (.int p1), .val (.long q2), .second, .val (.int p3), .val (.int p4), .val (.int p5), .val (.int (p1 - p3)), .val (.int (((own_shrL q2 ((7 : Int32) * (p1 - p3))) &&& (127 : Int64)).toInt32)), .unset] [(.int ((((own_shrL q2 ((7 : Int32) * (p1 - p3))) &&& (127 : Int64)).toInt32) ||| (128 : Int32)))])) _
          simp only [if_pos hc55_4] at k
          exact k
        · skip
          refine XS.icmpYes X0.here hx rfl (pc0 := 55) (pc' := 67) rfl (hb hby own_d3_55) rfl (flt hc55_4).2.1 (by decide) (by decide) ?_
          show Steps p.tables e below (s₁.setTop (mkF m 67 #[.val (.ref a0r), .val (.int p1), .val (.long q2), .second, .val (.int p3), .val (.int p4), .val (.int p5), .val (.int (p1 - p3)), .val (.int (((own_shrL q2 ((7 : Int32) * (p1 - p3))) &&& (127 : Int64)).toInt32)), .unset] [])) _
          refine XS.iload X0.here hx rfl (hb hby own_d3_67) rfl ?_
          show Steps p.tables e below (s₁.setTop (mkF m 69 #[.val (.ref a0r), .val (.int p1), .val (.long q2), .second, .val (.int p3), .val (.int p4), .val (.int p5), .val (.int (p1 - p3)), .val (.int (((own_shrL q2 ((7 : Int32) * (p1 - p3))) &&& (127 : Int64)).toInt32)), .unset] [(.int (((own_shrL q2 ((7 : Int32) * (p1 - p3))) &&& (127 : Int64)).toInt32))])) _
          simp only [if_neg hc55_4] at k
          exact k
      refine own_go (T' := s₁) (f' := (mkF m 77 #[.val (.ref a0r), .val (.int p1), .val (.long q2), .second, .val (.int p3), .val (.int p4), .val (.int p5), .val (.int (p1 - p3)), .val (.int (((own_shrL q2 ((7 : Int32) * (p1 - p3))) &&& (127 : Int64)).toInt32)), .val (.int (if (p1 - p3) < (p4 - (1 : Int32)) then ((((own_shrL q2 ((7 : Int32) * (p1 - p3))) &&& (127 : Int64)).toInt32) ||| (128 : Int32)) else (((own_shrL q2 ((7 : Int32) * (p1 - p3))) &&& (127 : Int64)).toInt32)))] [(.int ((if (p1 - p3) < (p4 - (1 : Int32)) then ((((own_shrL q2 ((7 : Int32) * (p1 - p3))) &&& (127 : Int64)).toInt32) ||| (128 : Int32)) else (((own_shrL q2 ((7 : Int32) * (p1 - p3))) &&& (127 : Int64)).toInt32)).toInt8.toInt32)), (.int (f p1.toInt.toNat))])) (fun t k => ?_) ?_
      · show Steps p.tables e below (s₁.setTop (mkF m 69 #[.val (.ref a0r), .val (.int p1), .val (.long q2), .second, .val (.int p3), .val (.int p4), .val (.int p5), .val (.int (p1 - p3)), .val (.int (((own_shrL q2 ((7 : Int32) * (p1 - p3))) &&& (127 : Int64)).toInt32)), .unset] [(.int (if (p1 - p3) < (p4 - (1 : Int32)) then ((((own_shrL q2 ((7 : Int32) * (p1 - p3))) &&& (127 : Int64)).toInt32) ||| (128 : Int32)) else (((own_shrL q2 ((7 : Int32) * (p1 - p3))) &&& (127 : Int64)).toInt32)))])) _
        refine XS.istore X0.here hx rfl (hb hby own_d3_69) rfl (l' := #[.val (.ref a0r), .val (.int p1), .val (.long q2), .second, .val (.int p3), .val (.int p4), .val (.int p5), .val (.int (p1 - p3)), .val (.int (((own_shrL q2 ((7 : Int32) * (p1 - p3))) &&& (127 : Int64)).toInt32)), .val (.int (if (p1 - p3) < (p4 - (1 : Int32)) then ((((own_shrL q2 ((7 : Int32) * (p1 - p3))) &&& (127 : Int64)).toInt32) ||| (128 : Int32)) else (((own_shrL q2 ((7 : Int32) * (p1 - p3))) &&& (127 : Int64)).toInt32)))]) rfl ?_
        show Steps p.tables e below (s₁.setTop (mkF m 71 #[.val (.ref a0r), .val (.int p1), .val (.long q2), .second, .val (.int p3), .val (.int p4), .val (.int p5), .val (.int (p1 - p3)), .val (.int (((own_shrL q2 ((7 : Int32) * (p1 - p3))) &&& (127 : Int64)).toInt32)), .val (.int (if (p1 - p3) < (p4 - (1 : Int32)) then ((((own_shrL q2 ((7 : Int32) * (p1 - p3))) &&& (127 : Int64)).toInt32) ||| (128 : Int32)) else (((own_shrL q2 ((7 : Int32) * (p1 - p3))) &&& (127 : Int64)).toInt32)))] [])) _
        refine XS.aloadN X0.here hx rfl (hb hby own_d3_71) rfl rfl ?_
        show Steps p.tables e below (s₁.setTop (mkF m 72 #[.val (.ref a0r), .val (.int p1), .val (.long q2), .second, .val (.int p3), .val (.int p4), .val (.int p5), .val (.int (p1 - p3)), .val (.int (((own_shrL q2 ((7 : Int32) * (p1 - p3))) &&& (127 : Int64)).toInt32)), .val (.int (if (p1 - p3) < (p4 - (1 : Int32)) then ((((own_shrL q2 ((7 : Int32) * (p1 - p3))) &&& (127 : Int64)).toInt32) ||| (128 : Int32)) else (((own_shrL q2 ((7 : Int32) * (p1 - p3))) &&& (127 : Int64)).toInt32)))] [(.ref a0r)])) _
        refine XS.iloadN X0.here hx rfl (hb hby own_d3_72) rfl ?_
        show Steps p.tables e below (s₁.setTop (mkF m 73 #[.val (.ref a0r), .val (.int p1), .val (.long q2), .second, .val (.int p3), .val (.int p4), .val (.int p5), .val (.int (p1 - p3)), .val (.int (((own_shrL q2 ((7 : Int32) * (p1 - p3))) &&& (127 : Int64)).toInt32)), .val (.int (if (p1 - p3) < (p4 - (1 : Int32)) then ((((own_shrL q2 ((7 : Int32) * (p1 - p3))) &&& (127 : Int64)).toInt32) ||| (128 : Int32)) else (((own_shrL q2 ((7 : Int32) * (p1 - p3))) &&& (127 : Int64)).toInt32)))] [(.int p1), (.ref a0r)])) _
        refine own_ldB X0 hx hZ e0 P0 (j := p1) hi hz (g := (mkF m 73 #[.val (.ref a0r), .val (.int p1), .val (.long q2), .second, .val (.int p3), .val (.int p4), .val (.int p5), .val (.int (p1 - p3)), .val (.int (((own_shrL q2 ((7 : Int32) * (p1 - p3))) &&& (127 : Int64)).toInt32)), .val (.int (if (p1 - p3) < (p4 - (1 : Int32)) then ((((own_shrL q2 ((7 : Int32) * (p1 - p3))) &&& (127 : Int64)).toInt32) ||| (128 : Int32)) else (((own_shrL q2 ((7 : Int32) * (p1 - p3))) &&& (127 : Int64)).toInt32)))] [(.int p1), (.ref a0r)])) rfl rfl (hb hby own_d3_73) _ ?_
        show Steps p.tables e below (s₁.setTop (mkF m 74 #[.val (.ref a0r), .val (.int p1), .val (.long q2), .second, .val (.int p3), .val (.int p4), .val (.int p5), .val (.int (p1 - p3)), .val (.int (((own_shrL q2 ((7 : Int32) * (p1 - p3))) &&& (127 : Int64)).toInt32)), .val (.int (if (p1 - p3) < (p4 - (1 : Int32)) then ((((own_shrL q2 ((7 : Int32) * (p1 - p3))) &&& (127 : Int64)).toInt32) ||| (128 : Int32)) else (((own_shrL q2 ((7 : Int32) * (p1 - p3))) &&& (127 : Int64)).toInt32)))] [(.int (f p1.toInt.toNat))])) _
        refine XS.iload X0.here hx rfl (hb hby own_d3_74) rfl ?_
        show Steps p.tables e below (s₁.setTop (mkF m 76 #[.val (.ref a0r), .val (.int p1), .val (.long q2), .second, .val (.int p3), .val (.int p4), .val (.int p5), .val (.int (p1 - p3)), .val (.int (((own_shrL q2 ((7 : Int32) * (p1 - p3))) &&& (127 : Int64)).toInt32)), .val (.int (if (p1 - p3) < (p4 - (1 : Int32)) then ((((own_shrL q2 ((7 : Int32) * (p1 - p3))) &&& (127 : Int64)).toInt32) ||| (128 : Int32)) else (((own_shrL q2 ((7 : Int32) * (p1 - p3))) &&& (127 : Int64)).toInt32)))] [(.int (if (p1 - p3) < (p4 - (1 : Int32)) then ((((own_shrL q2 ((7 : Int32) * (p1 - p3))) &&& (127 : Int64)).toInt32) ||| (128 : Int32)) else (((own_shrL q2 ((7 : Int32) * (p1 - p3))) &&& (127 : Int64)).toInt32))), (.int (f p1.toInt.toNat))])) _
        refine XS.i2b X0.here hx rfl (hb hby own_d3_76) rfl ?_
        show Steps p.tables e below (s₁.setTop (mkF m 77 #[.val (.ref a0r), .val (.int p1), .val (.long q2), .second, .val (.int p3), .val (.int p4), .val (.int p5), .val (.int (p1 - p3)), .val (.int (((own_shrL q2 ((7 : Int32) * (p1 - p3))) &&& (127 : Int64)).toInt32)), .val (.int (if (p1 - p3) < (p4 - (1 : Int32)) then ((((own_shrL q2 ((7 : Int32) * (p1 - p3))) &&& (127 : Int64)).toInt32) ||| (128 : Int32)) else (((own_shrL q2 ((7 : Int32) * (p1 - p3))) &&& (127 : Int64)).toInt32)))] [(.int ((if (p1 - p3) < (p4 - (1 : Int32)) then ((((own_shrL q2 ((7 : Int32) * (p1 - p3))) &&& (127 : Int64)).toInt32) ||| (128 : Int32)) else (((own_shrL q2 ((7 : Int32) * (p1 - p3))) &&& (127 : Int64)).toInt32)).toInt8.toInt32)), (.int (f p1.toInt.toNat))])) _
        exact k
      by_cases hc77_5 : (f p1.toInt.toNat) = ((if (p1 - p3) < (p4 - (1 : Int32)) then ((((own_shrL q2 ((7 : Int32) * (p1 - p3))) &&& (127 : Int64)).toInt32) ||| (128 : Int32)) else (((own_shrL q2 ((7 : Int32) * (p1 - p3))) &&& (127 : Int64)).toInt32)).toInt8.toInt32)
      · skip
        refine own_go (T' := s₁) (f' := (mkF m 85 #[.val (.ref a0r), .val (.int p1), .val (.long q2), .second, .val (.int p3), .val (.int p4), .val (.int p5), .val (.int (p1 - p3)), .val (.int (((own_shrL q2 ((7 : Int32) * (p1 - p3))) &&& (127 : Int64)).toInt32)), .val (.int (if (p1 - p3) < (p4 - (1 : Int32)) then ((((own_shrL q2 ((7 : Int32) * (p1 - p3))) &&& (127 : Int64)).toInt32) ||| (128 : Int32)) else (((own_shrL q2 ((7 : Int32) * (p1 - p3))) &&& (127 : Int64)).toInt32)))] [(.int (1 : Int32))])) (fun t k => ?_) ?_
        · show Steps p.tables e below (s₁.setTop (mkF m 77 #[.val (.ref a0r), .val (.int p1), .val (.long q2), .second, .val (.int p3), .val (.int p4), .val (.int p5), .val (.int (p1 - p3)), .val (.int (((own_shrL q2 ((7 : Int32) * (p1 - p3))) &&& (127 : Int64)).toInt32)), .val (.int (if (p1 - p3) < (p4 - (1 : Int32)) then ((((own_shrL q2 ((7 : Int32) * (p1 - p3))) &&& (127 : Int64)).toInt32) ||| (128 : Int32)) else (((own_shrL q2 ((7 : Int32) * (p1 - p3))) &&& (127 : Int64)).toInt32)))] [(.int ((if (p1 - p3) < (p4 - (1 : Int32)) then ((((own_shrL q2 ((7 : Int32) * (p1 - p3))) &&& (127 : Int64)).toInt32) ||| (128 : Int32)) else (((own_shrL q2 ((7 : Int32) * (p1 - p3))) &&& (127 : Int64)).toInt32)).toInt8.toInt32)), (.int (f p1.toInt.toNat))])) _
          refine XS.icmpNo X0.here hx rfl (hb hby own_d3_77) rfl (teq hc77_5).2 ?_
          show Steps p.tables e below (s₁.setTop (mkF m 80 #[.val (.ref a0r), .val (.int p1), .val (.long q2), .second, .val (.int p3), .val (.int p4), .val (.int p5), .val (.int (p1 - p3)), .val (.int (((own_shrL q2 ((7 : Int32) * (p1 - p3))) &&& (127 : Int64)).toInt32)), .val (.int (if (p1 - p3) < (p4 - (1 : Int32)) then ((((own_shrL q2 ((7 : Int32) * (p1 - p3))) &&& (127 : Int64)).toInt32) ||| (128 : Int32)) else (((own_shrL q2 ((7 : Int32) * (p1 - p3))) &&& (127 : Int64)).toInt32)))] [])) _
          refine XS.iconst X0.here hx rfl (hb hby own_d3_80) ?_
          show Steps p.tables e below (s₁.setTop (mkF m 81 #[.val (.ref a0r), .val (.int p1), .val (.long q2), .second, .val (.int p3), .val (.int p4), .val (.int p5), .val (.int (p1 - p3)), .val (.int (((own_shrL q2 ((7 : Int32) * (p1 - p3))) &&& (127 : Int64)).toInt32)), .val (.int (if (p1 - p3) < (p4 - (1 : Int32)) then ((((own_shrL q2 ((7 : Int32) * (p1 - p3))) &&& (127 : Int64)).toInt32) ||| (128 : Int32)) else (((own_shrL q2 ((7 : Int32) * (p1 - p3))) &&& (127 : Int64)).toInt32)))] [(.int (1 : Int32))])) _
          refine XS.goto X0.here hx rfl (pc0 := 81) (pc' := 85) rfl (hb hby own_d3_81) (by decide) (by decide) ?_
          show Steps p.tables e below (s₁.setTop (mkF m 85 #[.val (.ref a0r), .val (.int p1), .val (.long q2), .second, .val (.int p3), .val (.int p4), .val (.int p5), .val (.int (p1 - p3)), .val (.int (((own_shrL q2 ((7 : Int32) * (p1 - p3))) &&& (127 : Int64)).toInt32)), .val (.int (if (p1 - p3) < (p4 - (1 : Int32)) then ((((own_shrL q2 ((7 : Int32) * (p1 - p3))) &&& (127 : Int64)).toInt32) ||| (128 : Int32)) else (((own_shrL q2 ((7 : Int32) * (p1 - p3))) &&& (127 : Int64)).toInt32)))] [(.int (1 : Int32))])) _
          exact k
        obtain ⟨fs, hr, hrun, hended, hW, hsame⟩ := X0.leave (v := some (.int (1 : Int32))) (fun h => by rw [Bd.returns] at h; cases h)
        refine ⟨_, _, ?_, hrun, hended, _, _, rfl, ?_, ⟨_, rfl⟩, hW, hsame.mono (by decide) (by decide)⟩
        · exact retN X0 hx (t := .boolean) Bd.returns (by simp) (hb hby own_d3_85) hr
        · show own_Q3 Z a0r p1 q2 p3 p4 p5 z f h0 n0 _ s₁.heap _
          rw [e0]
          exact ⟨(by rw [own_F3, if_neg hc3_1, if_pos hc12_3, if_pos hc77_5]), N0, rfl⟩
      · skip
        refine own_go (T' := s₁) (f' := (mkF m 85 #[.val (.ref a0r), .val (.int p1), .val (.long q2), .second, .val (.int p3), .val (.int p4), .val (.int p5), .val (.int (p1 - p3)), .val (.int (((own_shrL q2 ((7 : Int32) * (p1 - p3))) &&& (127 : Int64)).toInt32)), .val (.int (if (p1 - p3) < (p4 - (1 : Int32)) then ((((own_shrL q2 ((7 : Int32) * (p1 - p3))) &&& (127 : Int64)).toInt32) ||| (128 : Int32)) else (((own_shrL q2 ((7 : Int32) * (p1 - p3))) &&& (127 : Int64)).toInt32)))] [(.int (0 : Int32))])) (fun t k => ?_) ?_
        · show Steps p.tables e below (s₁.setTop (mkF m 77 #[.val (.ref a0r), .val (.int p1), .val (.long q2), .second, .val (.int p3), .val (.int p4), .val (.int p5), .val (.int (p1 - p3)), .val (.int (((own_shrL q2 ((7 : Int32) * (p1 - p3))) &&& (127 : Int64)).toInt32)), .val (.int (if (p1 - p3) < (p4 - (1 : Int32)) then ((((own_shrL q2 ((7 : Int32) * (p1 - p3))) &&& (127 : Int64)).toInt32) ||| (128 : Int32)) else (((own_shrL q2 ((7 : Int32) * (p1 - p3))) &&& (127 : Int64)).toInt32)))] [(.int ((if (p1 - p3) < (p4 - (1 : Int32)) then ((((own_shrL q2 ((7 : Int32) * (p1 - p3))) &&& (127 : Int64)).toInt32) ||| (128 : Int32)) else (((own_shrL q2 ((7 : Int32) * (p1 - p3))) &&& (127 : Int64)).toInt32)).toInt8.toInt32)), (.int (f p1.toInt.toNat))])) _
          refine XS.icmpYes X0.here hx rfl (pc0 := 77) (pc' := 84) rfl (hb hby own_d3_77) rfl (feq hc77_5).2 (by decide) (by decide) ?_
          show Steps p.tables e below (s₁.setTop (mkF m 84 #[.val (.ref a0r), .val (.int p1), .val (.long q2), .second, .val (.int p3), .val (.int p4), .val (.int p5), .val (.int (p1 - p3)), .val (.int (((own_shrL q2 ((7 : Int32) * (p1 - p3))) &&& (127 : Int64)).toInt32)), .val (.int (if (p1 - p3) < (p4 - (1 : Int32)) then ((((own_shrL q2 ((7 : Int32) * (p1 - p3))) &&& (127 : Int64)).toInt32) ||| (128 : Int32)) else (((own_shrL q2 ((7 : Int32) * (p1 - p3))) &&& (127 : Int64)).toInt32)))] [])) _
          refine XS.iconst X0.here hx rfl (hb hby own_d3_84) ?_
          show Steps p.tables e below (s₁.setTop (mkF m 85 #[.val (.ref a0r), .val (.int p1), .val (.long q2), .second, .val (.int p3), .val (.int p4), .val (.int p5), .val (.int (p1 - p3)), .val (.int (((own_shrL q2 ((7 : Int32) * (p1 - p3))) &&& (127 : Int64)).toInt32)), .val (.int (if (p1 - p3) < (p4 - (1 : Int32)) then ((((own_shrL q2 ((7 : Int32) * (p1 - p3))) &&& (127 : Int64)).toInt32) ||| (128 : Int32)) else (((own_shrL q2 ((7 : Int32) * (p1 - p3))) &&& (127 : Int64)).toInt32)))] [(.int (0 : Int32))])) _
          exact k
        obtain ⟨fs, hr, hrun, hended, hW, hsame⟩ := X0.leave (v := some (.int (0 : Int32))) (fun h => by rw [Bd.returns] at h; cases h)
        refine ⟨_, _, ?_, hrun, hended, _, _, rfl, ?_, ⟨_, rfl⟩, hW, hsame.mono (by decide) (by decide)⟩
        · exact retN X0 hx (t := .boolean) Bd.returns (by simp) (hb hby own_d3_85) hr
        · show own_Q3 Z a0r p1 q2 p3 p4 p5 z f h0 n0 _ s₁.heap _
          rw [e0]
          exact ⟨(by rw [own_F3, if_neg hc3_1, if_pos hc12_3, if_neg hc77_5]), N0, rfl⟩
    · skip
      refine own_go (T' := s₁) (f' := (mkF m 20 #[.val (.ref a0r), .val (.int p1), .val (.long q2), .second, .val (.int p3), .val (.int p4), .val (.int p5), .unset, .unset, .unset] [(.int p5), (.int (f p1.toInt.toNat))])) (fun t k => ?_) ?_
      · show Steps p.tables e below (s₁.setTop (mkF m 12 #[.val (.ref a0r), .val (.int p1), .val (.long q2), .second, .val (.int p3), .val (.int p4), .val (.int p5), .unset, .unset, .unset] [(.int (p3 + p4)), (.int p1)])) _
        refine XS.icmpNo X0.here hx rfl (hb hby own_d3_12) rfl (flt hc12_3).1 ?_
        show Steps p.tables e below (s₁.setTop (mkF m 15 #[.val (.ref a0r), .val (.int p1), .val (.long q2), .second, .val (.int p3), .val (.int p4), .val (.int p5), .unset, .unset, .unset] [])) _
        refine XS.aloadN X0.here hx rfl (hb hby own_d3_15) rfl rfl ?_
        show Steps p.tables e below (s₁.setTop (mkF m 16 #[.val (.ref a0r), .val (.int p1), .val (.long q2), .second, .val (.int p3), .val (.int p4), .val (.int p5), .unset, .unset, .unset] [(.ref a0r)])) _
        refine XS.iloadN X0.here hx rfl (hb hby own_d3_16) rfl ?_
        show Steps p.tables e below (s₁.setTop (mkF m 17 #[.val (.ref a0r), .val (.int p1), .val (.long q2), .second, .val (.int p3), .val (.int p4), .val (.int p5), .unset, .unset, .unset] [(.int p1), (.ref a0r)])) _
        refine own_ldB X0 hx hZ e0 P0 (j := p1) hi hz (g := (mkF m 17 #[.val (.ref a0r), .val (.int p1), .val (.long q2), .second, .val (.int p3), .val (.int p4), .val (.int p5), .unset, .unset, .unset] [(.int p1), (.ref a0r)])) rfl rfl (hb hby own_d3_17) _ ?_
        show Steps p.tables e below (s₁.setTop (mkF m 18 #[.val (.ref a0r), .val (.int p1), .val (.long q2), .second, .val (.int p3), .val (.int p4), .val (.int p5), .unset, .unset, .unset] [(.int (f p1.toInt.toNat))])) _
        refine XS.iload X0.here hx rfl (hb hby own_d3_18) rfl ?_
        show Steps p.tables e below (s₁.setTop (mkF m 20 #[.val (.ref a0r), .val (.int p1), .val (.long q2), .second, .val (.int p3), .val (.int p4), .val (.int p5), .unset, .unset, .unset] [(.int p5), (.int (f p1.toInt.toNat))])) _
        exact k
      by_cases hc20_6 : (f p1.toInt.toNat) = p5
      · skip
        refine own_go (T' := s₁) (f' := (mkF m 28 #[.val (.ref a0r), .val (.int p1), .val (.long q2), .second, .val (.int p3), .val (.int p4), .val (.int p5), .unset, .unset, .unset] [(.int (1 : Int32))])) (fun t k => ?_) ?_
        · show Steps p.tables e below (s₁.setTop (mkF m 20 #[.val (.ref a0r), .val (.int p1), .val (.long q2), .second, .val (.int p3), .val (.int p4), .val (.int p5), .unset, .unset, .unset] [(.int p5), (.int (f p1.toInt.toNat))])) _
          refine XS.icmpNo X0.here hx rfl (hb hby own_d3_20) rfl (teq hc20_6).2 ?_
          show Steps p.tables e below (s₁.setTop (mkF m 23 #[.val (.ref a0r), .val (.int p1), .val (.long q2), .second, .val (.int p3), .val (.int p4), .val (.int p5), .unset, .unset, .unset] [])) _
          refine XS.iconst X0.here hx rfl (hb hby own_d3_23) ?_
          show Steps p.tables e below (s₁.setTop (mkF m 24 #[.val (.ref a0r), .val (.int p1), .val (.long q2), .second, .val (.int p3), .val (.int p4), .val (.int p5), .unset, .unset, .unset] [(.int (1 : Int32))])) _
          refine XS.goto X0.here hx rfl (pc0 := 24) (pc' := 28) rfl (hb hby own_d3_24) (by decide) (by decide) ?_
          show Steps p.tables e below (s₁.setTop (mkF m 28 #[.val (.ref a0r), .val (.int p1), .val (.long q2), .second, .val (.int p3), .val (.int p4), .val (.int p5), .unset, .unset, .unset] [(.int (1 : Int32))])) _
          exact k
        obtain ⟨fs, hr, hrun, hended, hW, hsame⟩ := X0.leave (v := some (.int (1 : Int32))) (fun h => by rw [Bd.returns] at h; cases h)
        refine ⟨_, _, ?_, hrun, hended, _, _, rfl, ?_, ⟨_, rfl⟩, hW, hsame.mono (by decide) (by decide)⟩
        · exact retN X0 hx (t := .boolean) Bd.returns (by simp) (hb hby own_d3_28) hr
        · show own_Q3 Z a0r p1 q2 p3 p4 p5 z f h0 n0 _ s₁.heap _
          rw [e0]
          exact ⟨(by rw [own_F3, if_neg hc3_1, if_neg hc12_3, if_pos hc20_6]), N0, rfl⟩
      · skip
        refine own_go (T' := s₁) (f' := (mkF m 28 #[.val (.ref a0r), .val (.int p1), .val (.long q2), .second, .val (.int p3), .val (.int p4), .val (.int p5), .unset, .unset, .unset] [(.int (0 : Int32))])) (fun t k => ?_) ?_
        · show Steps p.tables e below (s₁.setTop (mkF m 20 #[.val (.ref a0r), .val (.int p1), .val (.long q2), .second, .val (.int p3), .val (.int p4), .val (.int p5), .unset, .unset, .unset] [(.int p5), (.int (f p1.toInt.toNat))])) _
          refine XS.icmpYes X0.here hx rfl (pc0 := 20) (pc' := 27) rfl (hb hby own_d3_20) rfl (feq hc20_6).2 (by decide) (by decide) ?_
          show Steps p.tables e below (s₁.setTop (mkF m 27 #[.val (.ref a0r), .val (.int p1), .val (.long q2), .second, .val (.int p3), .val (.int p4), .val (.int p5), .unset, .unset, .unset] [])) _
          refine XS.iconst X0.here hx rfl (hb hby own_d3_27) ?_
          show Steps p.tables e below (s₁.setTop (mkF m 28 #[.val (.ref a0r), .val (.int p1), .val (.long q2), .second, .val (.int p3), .val (.int p4), .val (.int p5), .unset, .unset, .unset] [(.int (0 : Int32))])) _
          exact k
        obtain ⟨fs, hr, hrun, hended, hW, hsame⟩ := X0.leave (v := some (.int (0 : Int32))) (fun h => by rw [Bd.returns] at h; cases h)
        refine ⟨_, _, ?_, hrun, hended, _, _, rfl, ?_, ⟨_, rfl⟩, hW, hsame.mono (by decide) (by decide)⟩
        · exact retN X0 hx (t := .boolean) Bd.returns (by simp) (hb hby own_d3_28) hr
        · show own_Q3 Z a0r p1 q2 p3 p4 p5 z f h0 n0 _ s₁.heap _
          rw [e0]
          exact ⟨(by rw [own_F3, if_neg hc3_1, if_neg hc12_3, if_neg hc20_6]), N0, rfl⟩
theorem own_len (q : Int64) : 1 ≤ (own_F1 q).toInt ∧ (own_F1 q).toInt ≤ 10 ∧ own_u q < 128 ^ (own_F1 q).toInt.toNat ∧ ((own_F1 q).toInt = 1 ∨ 128 ^ ((own_F1 q).toInt.toNat - 1) ≤ own_u q) := by
  have b := (own_ui q).2
  unfold own_F1
  simp only [own_u0, own_ushr q 7 7 rfl, own_ushr q 14 14 rfl, own_ushr q 21 21 rfl, own_ushr q 28 28 rfl, own_ushr q 35 35 rfl, own_ushr q 42 42 rfl, own_ushr q 49 49 rfl, own_ushr q 56 56 rfl, own_ushr q 63 63 rfl]
  generalize own_u q = u at *
  repeat' split
  · exact ⟨by decide, by decide, by show u < 128 ^ 1; omega, Or.inl (by decide)⟩
  · exact ⟨by decide, by decide, by show u < 128 ^ 2; omega, Or.inr (by show 128 ^ 1 ≤ u; omega)⟩
  · exact ⟨by decide, by decide, by show u < 128 ^ 3; omega, Or.inr (by show 128 ^ 2 ≤ u; omega)⟩
  · exact ⟨by decide, by decide, by show u < 128 ^ 4; omega, Or.inr (by show 128 ^ 3 ≤ u; omega)⟩
  · exact ⟨by decide, by decide, by show u < 128 ^ 5; omega, Or.inr (by show 128 ^ 4 ≤ u; omega)⟩
  · exact ⟨by decide, by decide, by show u < 128 ^ 6; omega, Or.inr (by show 128 ^ 5 ≤ u; omega)⟩
  · exact ⟨by decide, by decide, by show u < 128 ^ 7; omega, Or.inr (by show 128 ^ 6 ≤ u; omega)⟩
  · exact ⟨by decide, by decide, by show u < 128 ^ 8; omega, Or.inr (by show 128 ^ 7 ≤ u; omega)⟩
  · exact ⟨by decide, by decide, by show u < 128 ^ 9; omega, Or.inr (by show 128 ^ 8 ≤ u; omega)⟩
  · exact ⟨by decide, by decide, by show u < 128 ^ 10; omega, Or.inr (by show 128 ^ 9 ≤ u; omega)⟩
theorem own_same {u n G : Nat} (h1 : u < 128 ^ n) (h2 : n = 1 ∨ 128 ^ (n - 1) ≤ u) (hn : 1 ≤ n) (g1 : u < 128 ^ G) (g2 : G = 1 ∨ 128 ^ (G - 1) ≤ u) (hg : 1 ≤ G) : n = G := by
  rcases Nat.lt_trichotomy n G with h | h | h
  · rcases g2 with g2 | g2
    · omega
    · have := Nat.pow_le_pow_right (show 0 < 128 by decide) (show n ≤ G - 1 by omega); omega
  · exact h
  · rcases h2 with h2 | h2
    · omega
    · have := Nat.pow_le_pow_right (show 0 < 128 by decide) (show G ≤ n - 1 by omega); omega
theorem own_group (q : Int64) (s : Int32) (k : Nat) (hs : s.toInt = 7 * k) (hk : k ≤ 9) : (((own_shrL q s) &&& (127 : Int64)).toInt32).toInt = ((own_u q / 128 ^ k % 128 : Nat) : Int) := by
  have m := c_maskL (own_shrL q s) 127 7 (by decide) (by decide)
  have e : s.toBitVec.toNat % 64 = 7 * k := by
    have h : s.toBitVec.toInt = 7 * k := hs
    have l := s.toBitVec.isLt
    rw [BitVec.toInt_eq_toNat_cond] at h
    split at h <;> omega
  have us := own_ushr q s (7 * k) e
  rw [show (2 : Nat) ^ (7 * k) = 128 ^ k by rw [Nat.pow_mul]] at us
  have ui := own_ui (own_shrL q s)
  rw [us] at ui
  have l := c_l2i ((own_shrL q s) &&& (127 : Int64))
  have r := rng32 (((own_shrL q s) &&& (127 : Int64)).toInt32)
  generalize own_u q / 128 ^ k = w at *
  omega
theorem own_pd0 : parseMethodDescriptor "(J)I" = some ⟨[.long], some .int⟩ := by decide +kernel
theorem own_pd1 : parseMethodDescriptor "(J[BI)I" = some ⟨[.long, (.array .byte), .int], some .int⟩ := by decide +kernel
theorem own_pd2 : parseMethodDescriptor "([BIJIIB)Z" = some ⟨[(.array .byte), .int, .long, .int, .int, .byte], some .boolean⟩ := by decide +kernel
theorem own_ef0 (m : MethodId) (q0 : Int64) (p1 : Int32) (p2 : Int32) (p3 : Int32) : entryFrame m #[(.long q0), (.int p1), (.int p2), (.int p3)] maxLocals = mkF m 0 #[.val (.long q0), .second, .val (.int p1), .val (.int p2), .val (.int p3), .unset, .unset, .unset, .unset, .unset, .unset, .unset, .unset] [] := by first | (simp [entryFrame, mkF, argsToLocals, Value.category, maxLocals]; done) | rfl
def own_VAL (q0 : Int64) (p1 : Int32) (p2 : Int32) (p3 : Int32) : Int64 := (own_shrL q0 (p1 &&& (63 : Int32)))
def own_AT (q0 : Int64) (p1 : Int32) (p2 : Int32) (p3 : Int32) : Int32 := (p2 &&& (3 : Int32))
def own_FI (q0 : Int64) (p1 : Int32) (p2 : Int32) (p3 : Int32) : Int32 := (p3.toInt8.toInt32)
theorem own_AT_rng (q0 : Int64) (p1 p2 p3 : Int32) : 0 ≤ (own_AT q0 p1 p2 p3).toInt ∧ (own_AT q0 p1 p2 p3).toInt ≤ 3 := by
  have m := c_mask p2 3 2 (by decide) (by decide)
  show 0 ≤ (p2 &&& (3 : Int32)).toInt ∧ (p2 &&& (3 : Int32)).toInt ≤ 3
  rw [m]; omega
theorem own_chk {q : Int64} {i a n fi : Int32} {f' y : Nat → Int32} {G : Nat} (ha : 0 ≤ a.toInt) (ha3 : a.toInt ≤ 3) (hG : 1 ≤ G) (hG2 : G ≤ 10) (hn : n.toInt = G) (hi : 0 ≤ i.toInt) (hi2 : i.toInt < 14)
    (hb : ∀ k, k < G → own_byte (f' (a.toInt.toNat + k)) (own_u q / 128 ^ k % 128 + if k + 1 < G then 128 else 0)) (ho : ∀ k, k < a.toInt.toNat ∨ a.toInt.toNat + G ≤ k → f' k = y k) (hf : ∀ k, k < 14 → y k = fi) : ¬ own_F3 i q a n fi (14 : Int32) f' = 0 := by
  have e1 : (1 : Int32).toInt = 1 := rfl
  have e7 : (7 : Int32).toInt = 7 := rfl
  have s1 := c_iadd a n; have s2 := rng32 (a + n)
  have d1 := c_isub i a; have d2 := rng32 (i - a)
  have t1 := c_isub n 1; have t2 := rng32 (n - 1)
  have m1 := c_imul 7 (i - a); have m2 := rng32 (7 * (i - a))
  rw [e1] at t1; rw [e7] at m1
  rw [own_F3]
  by_cases c1 : i < a
  · have c1' := c1
    rw [Int32.lt_iff_toInt_lt] at c1'
    rw [if_pos c1, if_pos (by rw [ho _ (Or.inl (by omega)), hf _ (by omega)])]; decide
  · have c1' := c1
    rw [Int32.lt_iff_toInt_lt] at c1'
    rw [if_neg c1]
    by_cases c2 : i < (a + n)
    · have c2' := c2
      rw [Int32.lt_iff_toInt_lt] at c2'
      rw [if_pos c2, if_pos]
      · decide
      · have dk : (i - a).toInt = i.toInt - a.toInt := by omega
        obtain ⟨k, hk⟩ : ∃ k : Nat, i.toInt = a.toInt + k := ⟨(i.toInt - a.toInt).toNat, by omega⟩
        have g := own_group q ((7 : Int32) * (i - a)) k (by omega) (by omega)
        have B := hb k (by omega)
        rw [show a.toInt.toNat + k = i.toInt.toNat by omega] at B
        refine own_byte_inj B ?_
        by_cases c3 : (i - a) < (n - (1 : Int32))
        · have c3' := c3
          rw [Int32.lt_iff_toInt_lt] at c3'
          rw [if_pos c3, if_pos (by omega)]
          have o := c_or' (((own_shrL q ((7 : Int32) * (i - a))) &&& (127 : Int64)).toInt32) 128 7 (by decide) 128 rfl (by decide) (by rw [g]; omega) (by rw [g]; omega)
          have e128 : (128 : Int32).toInt = 128 := rfl
          have b := c_i2b ((((own_shrL q ((7 : Int32) * (i - a))) &&& (127 : Int64)).toInt32) ||| (128 : Int32))
          rw [g, e128] at o
          refine ⟨?_, b.2⟩
          generalize own_u q / 128 ^ k = w at *
          omega
        · have c3' := c3
          rw [Int32.lt_iff_toInt_lt] at c3'
          rw [if_neg c3, if_neg (by omega)]
          have b := c_i2b (((own_shrL q ((7 : Int32) * (i - a))) &&& (127 : Int64)).toInt32)
          rw [g] at b
          refine ⟨?_, b.2⟩
          generalize own_u q / 128 ^ k = w at *
          omega
    · have c2' := c2
      rw [Int32.lt_iff_toInt_lt] at c2'
      rw [if_neg c2, if_pos (by rw [ho _ (Or.inr (by omega)), hf _ (by omega)])]; decide
theorem own_ok (q0 : Int64) (p1 p2 p3 : Int32) {y f' : Nat → Int32} {r : Int32} (hf : ∀ i, i < 14 → y i = nar .byte (own_FI q0 p1 p2 p3)) (h : own_WU (own_VAL q0 p1 p2 p3) (own_AT q0 p1 p2 p3) y r f') :
    r = (own_AT q0 p1 p2 p3) + (own_F1 (own_VAL q0 p1 p2 p3)) ∧ ∀ i : Int32, 0 ≤ i.toInt → i.toInt < 14 → ¬ own_F3 i (own_VAL q0 p1 p2 p3) (own_AT q0 p1 p2 p3) (own_F1 (own_VAL q0 p1 p2 p3)) (own_FI q0 p1 p2 p3) (14 : Int32) f' = 0 := by
  obtain ⟨G, g1, g2, g3, g4, g5, g6, g7⟩ := h
  obtain ⟨l1, l2, l3, l4⟩ := own_len (own_VAL q0 p1 p2 p3)
  have a := own_AT_rng q0 p1 p2 p3
  have e : (own_F1 (own_VAL q0 p1 p2 p3)).toInt.toNat = G := own_same l3 (l4.imp (fun q => by omega) id) (by omega) g4 g5 g1
  have en : (own_F1 (own_VAL q0 p1 p2 p3)).toInt = G := by omega
  refine ⟨?_, fun i hi hi2 => own_chk a.1 a.2 g1 g2 en hi hi2 g6 g7 fun k hk => ?_⟩
  · have s1 := c_iadd (own_AT q0 p1 p2 p3) (own_F1 (own_VAL q0 p1 p2 p3)); have s2 := rng32 ((own_AT q0 p1 p2 p3) + (own_F1 (own_VAL q0 p1 p2 p3)))
    exact Int32.toInt_inj.mp (by omega)
  · rw [hf k hk]; exact own_nb p3
def own_Q0 (Z : State) (q0 : Int64) (p1 : Int32) (p2 : Int32) (p3 : Int32) (h0 : Heap) (n0 : Nat) (v : Option Value) (h : Heap) (L : List Loc) : Prop := (v = some (.int (1 : Int32))) ∧ (Fr n0 L)
set_option maxRecDepth 65536 in
set_option maxHeartbeats 40000000 in
theorem own_rm0 (l : Launch) (Z : State) (a0 : Array Value) (hw : ∀ d ∈ tables_1, d.before a0 Z = true) (ws : List Jvm.Cond) (q0 : Int64) (p1 : Int32) (p2 : Int32) (p3 : Int32) (h0 : Heap) (n0 : Nat) (Z0 : n0 ≤ h0.size) :
    MetFree l x (head1 (Jvm.Cond.code x code maxLocals ret :: ws) room_1) (fun a U => a = #[(.long q0), (.int p1), (.int p2), (.int p3)] ∧ Z.Warmed39 U.vm ∧ U.heap = h0) (fun _ _ _ _ _ => True) (fun _ U o U' => ∃ v L, o = .returned v ∧ own_Q0 Z q0 p1 p2 p3 h0 n0 v U'.heap L ∧ FrameEnd U o U' L 16 128) := by
  refine MetFree.of_bodySF (plainFor_of_name own_pn0) hisR ?_
  intro p e s m args below meth c s₁ Bd hml0 hP hK
  obtain ⟨rfl, hZ, hh⟩ := hP
  have hx := Bd.exec
  have hby := Bd.bytes
  have hml : c.maxLocals = 13 := hml0
  have hown : s.vm.findClass "com/example/rowcast/rowcast/binary/Leb128WriteUnsignedPinLaw" = some m.cls := findClass_of_methodNamed Bd.named
  have hnm := (name_of_methodNamed Bd.named Bd.method).1
  have X0 : Stand p l e room_1 s m #[(.long q0), (.int p1), (.int p2), (.int p3)] below meth c s₁ [] 0 0 := Stand.of_body Bd
  have e0 : s₁.heap = h0 := by rw [← hh, Bd.state]; rfl
  have N0 := Fr.nil n0
  refine own_go (fun t k => castTop (own_ef0 m q0 p1 p2 p3) k) ?_
  refine own_go (T' := s₁) (f' := (mkF m 6 #[.val (.long q0), .second, .val (.int p1), .val (.int p2), .val (.int p3), .unset, .unset, .unset, .unset, .unset, .unset, .unset, .unset] [(.long (own_shrL q0 (p1 &&& (63 : Int32))))])) (fun t k => ?_) ?_
  · show Steps p.tables e below (s₁.setTop (mkF m 0 #[.val (.long q0), .second, .val (.int p1), .val (.int p2), .val (.int p3), .unset, .unset, .unset, .unset, .unset, .unset, .unset, .unset] [])) _
    refine XS.lloadN X0.here hx rfl (hb hby at_0) rfl ?_
    show Steps p.tables e below (s₁.setTop (mkF m 1 #[.val (.long q0), .second, .val (.int p1), .val (.int p2), .val (.int p3), .unset, .unset, .unset, .unset, .unset, .unset, .unset, .unset] [(.long q0)])) _
    refine XS.iloadN X0.here hx rfl (hb hby at_1) rfl ?_
    show Steps p.tables e below (s₁.setTop (mkF m 2 #[.val (.long q0), .second, .val (.int p1), .val (.int p2), .val (.int p3), .unset, .unset, .unset, .unset, .unset, .unset, .unset, .unset] [(.int p1), (.long q0)])) _
    refine XS.bipush X0.here hx rfl (hb hby at_2) ?_
    show Steps p.tables e below (s₁.setTop (mkF m 4 #[.val (.long q0), .second, .val (.int p1), .val (.int p2), .val (.int p3), .unset, .unset, .unset, .unset, .unset, .unset, .unset, .unset] [(.int (63 : Int32)), (.int p1), (.long q0)])) _
    refine XS.iand X0.here hx rfl (hb hby at_4) rfl ?_
    show Steps p.tables e below (s₁.setTop (mkF m 5 #[.val (.long q0), .second, .val (.int p1), .val (.int p2), .val (.int p3), .unset, .unset, .unset, .unset, .unset, .unset, .unset, .unset] [(.int (p1 &&& (63 : Int32))), (.long q0)])) _
    refine XS.lushr X0.here hx rfl (hb hby at_5) rfl ?_
    show Steps p.tables e below (s₁.setTop (mkF m 6 #[.val (.long q0), .second, .val (.int p1), .val (.int p2), .val (.int p3), .unset, .unset, .unset, .unset, .unset, .unset, .unset, .unset] [(.long (own_shrL q0 (p1 &&& (63 : Int32))))])) _
    exact k
  refine own_go (T' := s₁) (f' := (mkF m 6 #[.val (.long q0), .second, .val (.int p1), .val (.int p2), .val (.int p3), .unset, .unset, .unset, .unset, .unset, .unset, .unset, .unset] [(.long (own_VAL q0 p1 p2 p3))])) (fun t k => k) ?_
  refine own_go (T' := s₁) (f' := (mkF m 11 #[.val (.long q0), .second, .val (.int p1), .val (.int p2), .val (.int p3), .val (.long (own_VAL q0 p1 p2 p3)), .second, .unset, .unset, .unset, .unset, .unset, .unset] [(.int (p2 &&& (3 : Int32)))])) (fun t k => ?_) ?_
  · show Steps p.tables e below (s₁.setTop (mkF m 6 #[.val (.long q0), .second, .val (.int p1), .val (.int p2), .val (.int p3), .unset, .unset, .unset, .unset, .unset, .unset, .unset, .unset] [(.long (own_VAL q0 p1 p2 p3))])) _
    refine XS.lstore X0.here hx rfl (hb hby at_6) rfl (l' := #[.val (.long q0), .second, .val (.int p1), .val (.int p2), .val (.int p3), .val (.long (own_VAL q0 p1 p2 p3)), .second, .unset, .unset, .unset, .unset, .unset, .unset]) rfl ?_
    show Steps p.tables e below (s₁.setTop (mkF m 8 #[.val (.long q0), .second, .val (.int p1), .val (.int p2), .val (.int p3), .val (.long (own_VAL q0 p1 p2 p3)), .second, .unset, .unset, .unset, .unset, .unset, .unset] [])) _
    refine XS.iloadN X0.here hx rfl (hb hby at_8) rfl ?_
    show Steps p.tables e below (s₁.setTop (mkF m 9 #[.val (.long q0), .second, .val (.int p1), .val (.int p2), .val (.int p3), .val (.long (own_VAL q0 p1 p2 p3)), .second, .unset, .unset, .unset, .unset, .unset, .unset] [(.int p2)])) _
    refine XS.iconst X0.here hx rfl (hb hby at_9) ?_
    show Steps p.tables e below (s₁.setTop (mkF m 10 #[.val (.long q0), .second, .val (.int p1), .val (.int p2), .val (.int p3), .val (.long (own_VAL q0 p1 p2 p3)), .second, .unset, .unset, .unset, .unset, .unset, .unset] [(.int (3 : Int32)), (.int p2)])) _
    refine XS.iand X0.here hx rfl (hb hby at_10) rfl ?_
    show Steps p.tables e below (s₁.setTop (mkF m 11 #[.val (.long q0), .second, .val (.int p1), .val (.int p2), .val (.int p3), .val (.long (own_VAL q0 p1 p2 p3)), .second, .unset, .unset, .unset, .unset, .unset, .unset] [(.int (p2 &&& (3 : Int32)))])) _
    exact k
  refine own_go (T' := s₁) (f' := (mkF m 11 #[.val (.long q0), .second, .val (.int p1), .val (.int p2), .val (.int p3), .val (.long (own_VAL q0 p1 p2 p3)), .second, .unset, .unset, .unset, .unset, .unset, .unset] [(.int (own_AT q0 p1 p2 p3))])) (fun t k => k) ?_
  refine own_go (T' := s₁) (f' := (mkF m 16 #[.val (.long q0), .second, .val (.int p1), .val (.int p2), .val (.int p3), .val (.long (own_VAL q0 p1 p2 p3)), .second, .val (.int (own_AT q0 p1 p2 p3)), .unset, .unset, .unset, .unset, .unset] [(.int (p3.toInt8.toInt32))])) (fun t k => ?_) ?_
  · show Steps p.tables e below (s₁.setTop (mkF m 11 #[.val (.long q0), .second, .val (.int p1), .val (.int p2), .val (.int p3), .val (.long (own_VAL q0 p1 p2 p3)), .second, .unset, .unset, .unset, .unset, .unset, .unset] [(.int (own_AT q0 p1 p2 p3))])) _
    refine XS.istore X0.here hx rfl (hb hby at_11) rfl (l' := #[.val (.long q0), .second, .val (.int p1), .val (.int p2), .val (.int p3), .val (.long (own_VAL q0 p1 p2 p3)), .second, .val (.int (own_AT q0 p1 p2 p3)), .unset, .unset, .unset, .unset, .unset]) rfl ?_
    show Steps p.tables e below (s₁.setTop (mkF m 13 #[.val (.long q0), .second, .val (.int p1), .val (.int p2), .val (.int p3), .val (.long (own_VAL q0 p1 p2 p3)), .second, .val (.int (own_AT q0 p1 p2 p3)), .unset, .unset, .unset, .unset, .unset] [])) _
    refine XS.iload X0.here hx rfl (hb hby at_13) rfl ?_
    show Steps p.tables e below (s₁.setTop (mkF m 15 #[.val (.long q0), .second, .val (.int p1), .val (.int p2), .val (.int p3), .val (.long (own_VAL q0 p1 p2 p3)), .second, .val (.int (own_AT q0 p1 p2 p3)), .unset, .unset, .unset, .unset, .unset] [(.int p3)])) _
    refine XS.i2b X0.here hx rfl (hb hby at_15) rfl ?_
    show Steps p.tables e below (s₁.setTop (mkF m 16 #[.val (.long q0), .second, .val (.int p1), .val (.int p2), .val (.int p3), .val (.long (own_VAL q0 p1 p2 p3)), .second, .val (.int (own_AT q0 p1 p2 p3)), .unset, .unset, .unset, .unset, .unset] [(.int (p3.toInt8.toInt32))])) _
    exact k
  refine own_go (T' := s₁) (f' := (mkF m 16 #[.val (.long q0), .second, .val (.int p1), .val (.int p2), .val (.int p3), .val (.long (own_VAL q0 p1 p2 p3)), .second, .val (.int (own_AT q0 p1 p2 p3)), .unset, .unset, .unset, .unset, .unset] [(.int (own_FI q0 p1 p2 p3))])) (fun t k => k) ?_
  refine own_go (T' := s₁) (f' := (mkF m 20 #[.val (.long q0), .second, .val (.int p1), .val (.int p2), .val (.int p3), .val (.long (own_VAL q0 p1 p2 p3)), .second, .val (.int (own_AT q0 p1 p2 p3)), .val (.int (own_FI q0 p1 p2 p3)), .unset, .unset, .unset, .unset] [(.int (14 : Int32))])) (fun t k => ?_) ?_
  · show Steps p.tables e below (s₁.setTop (mkF m 16 #[.val (.long q0), .second, .val (.int p1), .val (.int p2), .val (.int p3), .val (.long (own_VAL q0 p1 p2 p3)), .second, .val (.int (own_AT q0 p1 p2 p3)), .unset, .unset, .unset, .unset, .unset] [(.int (own_FI q0 p1 p2 p3))])) _
    refine XS.istore X0.here hx rfl (hb hby at_16) rfl (l' := #[.val (.long q0), .second, .val (.int p1), .val (.int p2), .val (.int p3), .val (.long (own_VAL q0 p1 p2 p3)), .second, .val (.int (own_AT q0 p1 p2 p3)), .val (.int (own_FI q0 p1 p2 p3)), .unset, .unset, .unset, .unset]) rfl ?_
    show Steps p.tables e below (s₁.setTop (mkF m 18 #[.val (.long q0), .second, .val (.int p1), .val (.int p2), .val (.int p3), .val (.long (own_VAL q0 p1 p2 p3)), .second, .val (.int (own_AT q0 p1 p2 p3)), .val (.int (own_FI q0 p1 p2 p3)), .unset, .unset, .unset, .unset] [])) _
    refine XS.bipush X0.here hx rfl (hb hby at_18) ?_
    show Steps p.tables e below (s₁.setTop (mkF m 20 #[.val (.long q0), .second, .val (.int p1), .val (.int p2), .val (.int p3), .val (.long (own_VAL q0 p1 p2 p3)), .second, .val (.int (own_AT q0 p1 p2 p3)), .val (.int (own_FI q0 p1 p2 p3)), .unset, .unset, .unset, .unset] [(.int (14 : Int32))])) _
    exact k
  obtain ⟨T1, h1, k1, X1, e1, E1, A1, st1⟩ := newP X0 hx hZ (hw _ (List.mem_of_getElem? (i := 0) rfl)) e0 (g := (mkF m 20 #[.val (.long q0), .second, .val (.int p1), .val (.int p2), .val (.int p3), .val (.long (own_VAL q0 p1 p2 p3)), .second, .val (.int (own_AT q0 p1 p2 p3)), .val (.int (own_FI q0 p1 p2 p3)), .unset, .unset, .unset, .unset] [(.int (14 : Int32))])) rfl (hb hby at_20) rfl (by decide) (cap := 14) (by decide) (by decide) (by decide) (by decide)
  obtain ⟨b1, g1⟩ : ∃ z, z = h0.size := ⟨_, rfl⟩
  rw [← g1] at A1 st1
  have g_b1 : n0 ≤ b1 := Nat.le_trans Z0 (Nat.le_of_eq g1.symm)
  refine own_go (T' := T1) (f' := (mkF m 22 #[.val (.long q0), .second, .val (.int p1), .val (.int p2), .val (.int p3), .val (.long (own_VAL q0 p1 p2 p3)), .second, .val (.int (own_AT q0 p1 p2 p3)), .val (.int (own_FI q0 p1 p2 p3)), .unset, .unset, .unset, .unset] [(.ref b1)])) st1 ?_
  have Zs1 : n0 ≤ h1.size := Nat.le_trans Z0 E1.1
  have V1 : own_ArI Z h1 b1 .byte (14 : Int32) (fun _ => 0) := own_ArI.new A1 (by decide) rfl
  refine own_go (T' := T1) (f' := (mkF m 26 #[.val (.long q0), .second, .val (.int p1), .val (.int p2), .val (.int p3), .val (.long (own_VAL q0 p1 p2 p3)), .second, .val (.int (own_AT q0 p1 p2 p3)), .val (.int (own_FI q0 p1 p2 p3)), .unset, .unset, .unset, .unset] [(.int (own_FI q0 p1 p2 p3)), (.int (0 : Int32)), (.ref b1), (.ref b1)])) (fun t k => ?_) ?_
  · show Steps p.tables e below (T1.setTop (mkF m 22 #[.val (.long q0), .second, .val (.int p1), .val (.int p2), .val (.int p3), .val (.long (own_VAL q0 p1 p2 p3)), .second, .val (.int (own_AT q0 p1 p2 p3)), .val (.int (own_FI q0 p1 p2 p3)), .unset, .unset, .unset, .unset] [(.ref b1)])) _
    refine XS.dup X1.here hx rfl (hb hby at_22) rfl rfl ?_
    show Steps p.tables e below (T1.setTop (mkF m 23 #[.val (.long q0), .second, .val (.int p1), .val (.int p2), .val (.int p3), .val (.long (own_VAL q0 p1 p2 p3)), .second, .val (.int (own_AT q0 p1 p2 p3)), .val (.int (own_FI q0 p1 p2 p3)), .unset, .unset, .unset, .unset] [(.ref b1), (.ref b1)])) _
    refine XS.iconst X1.here hx rfl (hb hby at_23) ?_
    show Steps p.tables e below (T1.setTop (mkF m 24 #[.val (.long q0), .second, .val (.int p1), .val (.int p2), .val (.int p3), .val (.long (own_VAL q0 p1 p2 p3)), .second, .val (.int (own_AT q0 p1 p2 p3)), .val (.int (own_FI q0 p1 p2 p3)), .unset, .unset, .unset, .unset] [(.int (0 : Int32)), (.ref b1), (.ref b1)])) _
    refine XS.iload X1.here hx rfl (hb hby at_24) rfl ?_
    show Steps p.tables e below (T1.setTop (mkF m 26 #[.val (.long q0), .second, .val (.int p1), .val (.int p2), .val (.int p3), .val (.long (own_VAL q0 p1 p2 p3)), .second, .val (.int (own_AT q0 p1 p2 p3)), .val (.int (own_FI q0 p1 p2 p3)), .unset, .unset, .unset, .unset] [(.int (own_FI q0 p1 p2 p3)), (.int (0 : Int32)), (.ref b1), (.ref b1)])) _
    exact k
  obtain ⟨T2, h2, y2, X2, e2, W2, V2, ya2, yb2, st2⟩ := own_stB X1 hx hZ e1 V1 (j := (0 : Int32)) (x := (own_FI q0 p1 p2 p3)) (by decide) (by decide) (g := (mkF m 26 #[.val (.long q0), .second, .val (.int p1), .val (.int p2), .val (.int p3), .val (.long (own_VAL q0 p1 p2 p3)), .second, .val (.int (own_AT q0 p1 p2 p3)), .val (.int (own_FI q0 p1 p2 p3)), .unset, .unset, .unset, .unset] [(.int (own_FI q0 p1 p2 p3)), (.int (0 : Int32)), (.ref b1), (.ref b1)])) rfl rfl (hb hby at_26)
  refine own_go (T' := T2) (f' := (mkF m 27 #[.val (.long q0), .second, .val (.int p1), .val (.int p2), .val (.int p3), .val (.long (own_VAL q0 p1 p2 p3)), .second, .val (.int (own_AT q0 p1 p2 p3)), .val (.int (own_FI q0 p1 p2 p3)), .unset, .unset, .unset, .unset] [(.ref b1)])) st2 ?_
  have fc3 : own_ArI Z h2 b1 .byte (14 : Int32) y2 := V2
  have Zs2 : n0 ≤ h2.size := Nat.le_trans Zs1 (Keep.of_wr W2).1
  have N2 := Fr.snoc X2 N0 g_b1
  have ya2' : y2 0 = (nar .byte (own_FI q0 p1 p2 p3)) := ya2
  have yb2' : ∀ i, i ≠ 0 → y2 i = (fun _ => 0) i := yb2
  refine own_go (T' := T2) (f' := (mkF m 31 #[.val (.long q0), .second, .val (.int p1), .val (.int p2), .val (.int p3), .val (.long (own_VAL q0 p1 p2 p3)), .second, .val (.int (own_AT q0 p1 p2 p3)), .val (.int (own_FI q0 p1 p2 p3)), .unset, .unset, .unset, .unset] [(.int (own_FI q0 p1 p2 p3)), (.int (1 : Int32)), (.ref b1), (.ref b1)])) (fun t k => ?_) ?_
  · show Steps p.tables e below (T2.setTop (mkF m 27 #[.val (.long q0), .second, .val (.int p1), .val (.int p2), .val (.int p3), .val (.long (own_VAL q0 p1 p2 p3)), .second, .val (.int (own_AT q0 p1 p2 p3)), .val (.int (own_FI q0 p1 p2 p3)), .unset, .unset, .unset, .unset] [(.ref b1)])) _
    refine XS.dup X2.here hx rfl (hb hby at_27) rfl rfl ?_
    show Steps p.tables e below (T2.setTop (mkF m 28 #[.val (.long q0), .second, .val (.int p1), .val (.int p2), .val (.int p3), .val (.long (own_VAL q0 p1 p2 p3)), .second, .val (.int (own_AT q0 p1 p2 p3)), .val (.int (own_FI q0 p1 p2 p3)), .unset, .unset, .unset, .unset] [(.ref b1), (.ref b1)])) _
    refine XS.iconst X2.here hx rfl (hb hby at_28) ?_
    show Steps p.tables e below (T2.setTop (mkF m 29 #[.val (.long q0), .second, .val (.int p1), .val (.int p2), .val (.int p3), .val (.long (own_VAL q0 p1 p2 p3)), .second, .val (.int (own_AT q0 p1 p2 p3)), .val (.int (own_FI q0 p1 p2 p3)), .unset, .unset, .unset, .unset] [(.int (1 : Int32)), (.ref b1), (.ref b1)])) _
    refine XS.iload X2.here hx rfl (hb hby at_29) rfl ?_
    show Steps p.tables e below (T2.setTop (mkF m 31 #[.val (.long q0), .second, .val (.int p1), .val (.int p2), .val (.int p3), .val (.long (own_VAL q0 p1 p2 p3)), .second, .val (.int (own_AT q0 p1 p2 p3)), .val (.int (own_FI q0 p1 p2 p3)), .unset, .unset, .unset, .unset] [(.int (own_FI q0 p1 p2 p3)), (.int (1 : Int32)), (.ref b1), (.ref b1)])) _
    exact k
  obtain ⟨T4, h4, y4, X4, e4, W4, V4, ya4, yb4, st4⟩ := own_stB X2 hx hZ e2 fc3 (j := (1 : Int32)) (x := (own_FI q0 p1 p2 p3)) (by decide) (by decide) (g := (mkF m 31 #[.val (.long q0), .second, .val (.int p1), .val (.int p2), .val (.int p3), .val (.long (own_VAL q0 p1 p2 p3)), .second, .val (.int (own_AT q0 p1 p2 p3)), .val (.int (own_FI q0 p1 p2 p3)), .unset, .unset, .unset, .unset] [(.int (own_FI q0 p1 p2 p3)), (.int (1 : Int32)), (.ref b1), (.ref b1)])) rfl rfl (hb hby at_31)
  refine own_go (T' := T4) (f' := (mkF m 32 #[.val (.long q0), .second, .val (.int p1), .val (.int p2), .val (.int p3), .val (.long (own_VAL q0 p1 p2 p3)), .second, .val (.int (own_AT q0 p1 p2 p3)), .val (.int (own_FI q0 p1 p2 p3)), .unset, .unset, .unset, .unset] [(.ref b1)])) st4 ?_
  have fc5 : own_ArI Z h4 b1 .byte (14 : Int32) y4 := V4
  have Zs4 : n0 ≤ h4.size := Nat.le_trans Zs2 (Keep.of_wr W4).1
  have N4 := Fr.snoc X4 N2 g_b1
  have ya4' : y4 1 = (nar .byte (own_FI q0 p1 p2 p3)) := ya4
  have yb4' : ∀ i, i ≠ 1 → y4 i = y2 i := yb4
  refine own_go (T' := T4) (f' := (mkF m 36 #[.val (.long q0), .second, .val (.int p1), .val (.int p2), .val (.int p3), .val (.long (own_VAL q0 p1 p2 p3)), .second, .val (.int (own_AT q0 p1 p2 p3)), .val (.int (own_FI q0 p1 p2 p3)), .unset, .unset, .unset, .unset] [(.int (own_FI q0 p1 p2 p3)), (.int (2 : Int32)), (.ref b1), (.ref b1)])) (fun t k => ?_) ?_
  · show Steps p.tables e below (T4.setTop (mkF m 32 #[.val (.long q0), .second, .val (.int p1), .val (.int p2), .val (.int p3), .val (.long (own_VAL q0 p1 p2 p3)), .second, .val (.int (own_AT q0 p1 p2 p3)), .val (.int (own_FI q0 p1 p2 p3)), .unset, .unset, .unset, .unset] [(.ref b1)])) _
    refine XS.dup X4.here hx rfl (hb hby at_32) rfl rfl ?_
    show Steps p.tables e below (T4.setTop (mkF m 33 #[.val (.long q0), .second, .val (.int p1), .val (.int p2), .val (.int p3), .val (.long (own_VAL q0 p1 p2 p3)), .second, .val (.int (own_AT q0 p1 p2 p3)), .val (.int (own_FI q0 p1 p2 p3)), .unset, .unset, .unset, .unset] [(.ref b1), (.ref b1)])) _
    refine XS.iconst X4.here hx rfl (hb hby at_33) ?_
    show Steps p.tables e below (T4.setTop (mkF m 34 #[.val (.long q0), .second, .val (.int p1), .val (.int p2), .val (.int p3), .val (.long (own_VAL q0 p1 p2 p3)), .second, .val (.int (own_AT q0 p1 p2 p3)), .val (.int (own_FI q0 p1 p2 p3)), .unset, .unset, .unset, .unset] [(.int (2 : Int32)), (.ref b1), (.ref b1)])) _
    refine XS.iload X4.here hx rfl (hb hby at_34) rfl ?_
    show Steps p.tables e below (T4.setTop (mkF m 36 #[.val (.long q0), .second, .val (.int p1), .val (.int p2), .val (.int p3), .val (.long (own_VAL q0 p1 p2 p3)), .second, .val (.int (own_AT q0 p1 p2 p3)), .val (.int (own_FI q0 p1 p2 p3)), .unset, .unset, .unset, .unset] [(.int (own_FI q0 p1 p2 p3)), (.int (2 : Int32)), (.ref b1), (.ref b1)])) _
    exact k
  obtain ⟨T6, h6, y6, X6, e6, W6, V6, ya6, yb6, st6⟩ := own_stB X4 hx hZ e4 fc5 (j := (2 : Int32)) (x := (own_FI q0 p1 p2 p3)) (by decide) (by decide) (g := (mkF m 36 #[.val (.long q0), .second, .val (.int p1), .val (.int p2), .val (.int p3), .val (.long (own_VAL q0 p1 p2 p3)), .second, .val (.int (own_AT q0 p1 p2 p3)), .val (.int (own_FI q0 p1 p2 p3)), .unset, .unset, .unset, .unset] [(.int (own_FI q0 p1 p2 p3)), (.int (2 : Int32)), (.ref b1), (.ref b1)])) rfl rfl (hb hby at_36)
  refine own_go (T' := T6) (f' := (mkF m 37 #[.val (.long q0), .second, .val (.int p1), .val (.int p2), .val (.int p3), .val (.long (own_VAL q0 p1 p2 p3)), .second, .val (.int (own_AT q0 p1 p2 p3)), .val (.int (own_FI q0 p1 p2 p3)), .unset, .unset, .unset, .unset] [(.ref b1)])) st6 ?_
  have fc7 : own_ArI Z h6 b1 .byte (14 : Int32) y6 := V6
  have Zs6 : n0 ≤ h6.size := Nat.le_trans Zs4 (Keep.of_wr W6).1
  have N6 := Fr.snoc X6 N4 g_b1
  have ya6' : y6 2 = (nar .byte (own_FI q0 p1 p2 p3)) := ya6
  have yb6' : ∀ i, i ≠ 2 → y6 i = y4 i := yb6
  refine own_go (T' := T6) (f' := (mkF m 41 #[.val (.long q0), .second, .val (.int p1), .val (.int p2), .val (.int p3), .val (.long (own_VAL q0 p1 p2 p3)), .second, .val (.int (own_AT q0 p1 p2 p3)), .val (.int (own_FI q0 p1 p2 p3)), .unset, .unset, .unset, .unset] [(.int (own_FI q0 p1 p2 p3)), (.int (3 : Int32)), (.ref b1), (.ref b1)])) (fun t k => ?_) ?_
  · show Steps p.tables e below (T6.setTop (mkF m 37 #[.val (.long q0), .second, .val (.int p1), .val (.int p2), .val (.int p3), .val (.long (own_VAL q0 p1 p2 p3)), .second, .val (.int (own_AT q0 p1 p2 p3)), .val (.int (own_FI q0 p1 p2 p3)), .unset, .unset, .unset, .unset] [(.ref b1)])) _
    refine XS.dup X6.here hx rfl (hb hby at_37) rfl rfl ?_
    show Steps p.tables e below (T6.setTop (mkF m 38 #[.val (.long q0), .second, .val (.int p1), .val (.int p2), .val (.int p3), .val (.long (own_VAL q0 p1 p2 p3)), .second, .val (.int (own_AT q0 p1 p2 p3)), .val (.int (own_FI q0 p1 p2 p3)), .unset, .unset, .unset, .unset] [(.ref b1), (.ref b1)])) _
    refine XS.iconst X6.here hx rfl (hb hby at_38) ?_
    show Steps p.tables e below (T6.setTop (mkF m 39 #[.val (.long q0), .second, .val (.int p1), .val (.int p2), .val (.int p3), .val (.long (own_VAL q0 p1 p2 p3)), .second, .val (.int (own_AT q0 p1 p2 p3)), .val (.int (own_FI q0 p1 p2 p3)), .unset, .unset, .unset, .unset] [(.int (3 : Int32)), (.ref b1), (.ref b1)])) _
    refine XS.iload X6.here hx rfl (hb hby at_39) rfl ?_
    show Steps p.tables e below (T6.setTop (mkF m 41 #[.val (.long q0), .second, .val (.int p1), .val (.int p2), .val (.int p3), .val (.long (own_VAL q0 p1 p2 p3)), .second, .val (.int (own_AT q0 p1 p2 p3)), .val (.int (own_FI q0 p1 p2 p3)), .unset, .unset, .unset, .unset] [(.int (own_FI q0 p1 p2 p3)), (.int (3 : Int32)), (.ref b1), (.ref b1)])) _
    exact k
  obtain ⟨T8, h8, y8, X8, e8, W8, V8, ya8, yb8, st8⟩ := own_stB X6 hx hZ e6 fc7 (j := (3 : Int32)) (x := (own_FI q0 p1 p2 p3)) (by decide) (by decide) (g := (mkF m 41 #[.val (.long q0), .second, .val (.int p1), .val (.int p2), .val (.int p3), .val (.long (own_VAL q0 p1 p2 p3)), .second, .val (.int (own_AT q0 p1 p2 p3)), .val (.int (own_FI q0 p1 p2 p3)), .unset, .unset, .unset, .unset] [(.int (own_FI q0 p1 p2 p3)), (.int (3 : Int32)), (.ref b1), (.ref b1)])) rfl rfl (hb hby at_41)
  refine own_go (T' := T8) (f' := (mkF m 42 #[.val (.long q0), .second, .val (.int p1), .val (.int p2), .val (.int p3), .val (.long (own_VAL q0 p1 p2 p3)), .second, .val (.int (own_AT q0 p1 p2 p3)), .val (.int (own_FI q0 p1 p2 p3)), .unset, .unset, .unset, .unset] [(.ref b1)])) st8 ?_
  have fc9 : own_ArI Z h8 b1 .byte (14 : Int32) y8 := V8
  have Zs8 : n0 ≤ h8.size := Nat.le_trans Zs6 (Keep.of_wr W8).1
  have N8 := Fr.snoc X8 N6 g_b1
  have ya8' : y8 3 = (nar .byte (own_FI q0 p1 p2 p3)) := ya8
  have yb8' : ∀ i, i ≠ 3 → y8 i = y6 i := yb8
  refine own_go (T' := T8) (f' := (mkF m 46 #[.val (.long q0), .second, .val (.int p1), .val (.int p2), .val (.int p3), .val (.long (own_VAL q0 p1 p2 p3)), .second, .val (.int (own_AT q0 p1 p2 p3)), .val (.int (own_FI q0 p1 p2 p3)), .unset, .unset, .unset, .unset] [(.int (own_FI q0 p1 p2 p3)), (.int (4 : Int32)), (.ref b1), (.ref b1)])) (fun t k => ?_) ?_
  · show Steps p.tables e below (T8.setTop (mkF m 42 #[.val (.long q0), .second, .val (.int p1), .val (.int p2), .val (.int p3), .val (.long (own_VAL q0 p1 p2 p3)), .second, .val (.int (own_AT q0 p1 p2 p3)), .val (.int (own_FI q0 p1 p2 p3)), .unset, .unset, .unset, .unset] [(.ref b1)])) _
    refine XS.dup X8.here hx rfl (hb hby at_42) rfl rfl ?_
    show Steps p.tables e below (T8.setTop (mkF m 43 #[.val (.long q0), .second, .val (.int p1), .val (.int p2), .val (.int p3), .val (.long (own_VAL q0 p1 p2 p3)), .second, .val (.int (own_AT q0 p1 p2 p3)), .val (.int (own_FI q0 p1 p2 p3)), .unset, .unset, .unset, .unset] [(.ref b1), (.ref b1)])) _
    refine XS.iconst X8.here hx rfl (hb hby at_43) ?_
    show Steps p.tables e below (T8.setTop (mkF m 44 #[.val (.long q0), .second, .val (.int p1), .val (.int p2), .val (.int p3), .val (.long (own_VAL q0 p1 p2 p3)), .second, .val (.int (own_AT q0 p1 p2 p3)), .val (.int (own_FI q0 p1 p2 p3)), .unset, .unset, .unset, .unset] [(.int (4 : Int32)), (.ref b1), (.ref b1)])) _
    refine XS.iload X8.here hx rfl (hb hby at_44) rfl ?_
    show Steps p.tables e below (T8.setTop (mkF m 46 #[.val (.long q0), .second, .val (.int p1), .val (.int p2), .val (.int p3), .val (.long (own_VAL q0 p1 p2 p3)), .second, .val (.int (own_AT q0 p1 p2 p3)), .val (.int (own_FI q0 p1 p2 p3)), .unset, .unset, .unset, .unset] [(.int (own_FI q0 p1 p2 p3)), (.int (4 : Int32)), (.ref b1), (.ref b1)])) _
    exact k
  obtain ⟨T10, h10, y10, X10, e10, W10, V10, ya10, yb10, st10⟩ := own_stB X8 hx hZ e8 fc9 (j := (4 : Int32)) (x := (own_FI q0 p1 p2 p3)) (by decide) (by decide) (g := (mkF m 46 #[.val (.long q0), .second, .val (.int p1), .val (.int p2), .val (.int p3), .val (.long (own_VAL q0 p1 p2 p3)), .second, .val (.int (own_AT q0 p1 p2 p3)), .val (.int (own_FI q0 p1 p2 p3)), .unset, .unset, .unset, .unset] [(.int (own_FI q0 p1 p2 p3)), (.int (4 : Int32)), (.ref b1), (.ref b1)])) rfl rfl (hb hby at_46)
  refine own_go (T' := T10) (f' := (mkF m 47 #[.val (.long q0), .second, .val (.int p1), .val (.int p2), .val (.int p3), .val (.long (own_VAL q0 p1 p2 p3)), .second, .val (.int (own_AT q0 p1 p2 p3)), .val (.int (own_FI q0 p1 p2 p3)), .unset, .unset, .unset, .unset] [(.ref b1)])) st10 ?_
  have fc11 : own_ArI Z h10 b1 .byte (14 : Int32) y10 := V10
  have Zs10 : n0 ≤ h10.size := Nat.le_trans Zs8 (Keep.of_wr W10).1
  have N10 := Fr.snoc X10 N8 g_b1
  have ya10' : y10 4 = (nar .byte (own_FI q0 p1 p2 p3)) := ya10
  have yb10' : ∀ i, i ≠ 4 → y10 i = y8 i := yb10
  refine own_go (T' := T10) (f' := (mkF m 51 #[.val (.long q0), .second, .val (.int p1), .val (.int p2), .val (.int p3), .val (.long (own_VAL q0 p1 p2 p3)), .second, .val (.int (own_AT q0 p1 p2 p3)), .val (.int (own_FI q0 p1 p2 p3)), .unset, .unset, .unset, .unset] [(.int (own_FI q0 p1 p2 p3)), (.int (5 : Int32)), (.ref b1), (.ref b1)])) (fun t k => ?_) ?_
  · show Steps p.tables e below (T10.setTop (mkF m 47 #[.val (.long q0), .second, .val (.int p1), .val (.int p2), .val (.int p3), .val (.long (own_VAL q0 p1 p2 p3)), .second, .val (.int (own_AT q0 p1 p2 p3)), .val (.int (own_FI q0 p1 p2 p3)), .unset, .unset, .unset, .unset] [(.ref b1)])) _
    refine XS.dup X10.here hx rfl (hb hby at_47) rfl rfl ?_
    show Steps p.tables e below (T10.setTop (mkF m 48 #[.val (.long q0), .second, .val (.int p1), .val (.int p2), .val (.int p3), .val (.long (own_VAL q0 p1 p2 p3)), .second, .val (.int (own_AT q0 p1 p2 p3)), .val (.int (own_FI q0 p1 p2 p3)), .unset, .unset, .unset, .unset] [(.ref b1), (.ref b1)])) _
    refine XS.iconst X10.here hx rfl (hb hby at_48) ?_
    show Steps p.tables e below (T10.setTop (mkF m 49 #[.val (.long q0), .second, .val (.int p1), .val (.int p2), .val (.int p3), .val (.long (own_VAL q0 p1 p2 p3)), .second, .val (.int (own_AT q0 p1 p2 p3)), .val (.int (own_FI q0 p1 p2 p3)), .unset, .unset, .unset, .unset] [(.int (5 : Int32)), (.ref b1), (.ref b1)])) _
    refine XS.iload X10.here hx rfl (hb hby at_49) rfl ?_
    show Steps p.tables e below (T10.setTop (mkF m 51 #[.val (.long q0), .second, .val (.int p1), .val (.int p2), .val (.int p3), .val (.long (own_VAL q0 p1 p2 p3)), .second, .val (.int (own_AT q0 p1 p2 p3)), .val (.int (own_FI q0 p1 p2 p3)), .unset, .unset, .unset, .unset] [(.int (own_FI q0 p1 p2 p3)), (.int (5 : Int32)), (.ref b1), (.ref b1)])) _
    exact k
  obtain ⟨T12, h12, y12, X12, e12, W12, V12, ya12, yb12, st12⟩ := own_stB X10 hx hZ e10 fc11 (j := (5 : Int32)) (x := (own_FI q0 p1 p2 p3)) (by decide) (by decide) (g := (mkF m 51 #[.val (.long q0), .second, .val (.int p1), .val (.int p2), .val (.int p3), .val (.long (own_VAL q0 p1 p2 p3)), .second, .val (.int (own_AT q0 p1 p2 p3)), .val (.int (own_FI q0 p1 p2 p3)), .unset, .unset, .unset, .unset] [(.int (own_FI q0 p1 p2 p3)), (.int (5 : Int32)), (.ref b1), (.ref b1)])) rfl rfl (hb hby at_51)
  refine own_go (T' := T12) (f' := (mkF m 52 #[.val (.long q0), .second, .val (.int p1), .val (.int p2), .val (.int p3), .val (.long (own_VAL q0 p1 p2 p3)), .second, .val (.int (own_AT q0 p1 p2 p3)), .val (.int (own_FI q0 p1 p2 p3)), .unset, .unset, .unset, .unset] [(.ref b1)])) st12 ?_
  have fc13 : own_ArI Z h12 b1 .byte (14 : Int32) y12 := V12
  have Zs12 : n0 ≤ h12.size := Nat.le_trans Zs10 (Keep.of_wr W12).1
  have N12 := Fr.snoc X12 N10 g_b1
  have ya12' : y12 5 = (nar .byte (own_FI q0 p1 p2 p3)) := ya12
  have yb12' : ∀ i, i ≠ 5 → y12 i = y10 i := yb12
  refine own_go (T' := T12) (f' := (mkF m 57 #[.val (.long q0), .second, .val (.int p1), .val (.int p2), .val (.int p3), .val (.long (own_VAL q0 p1 p2 p3)), .second, .val (.int (own_AT q0 p1 p2 p3)), .val (.int (own_FI q0 p1 p2 p3)), .unset, .unset, .unset, .unset] [(.int (own_FI q0 p1 p2 p3)), (.int (6 : Int32)), (.ref b1), (.ref b1)])) (fun t k => ?_) ?_
  · show Steps p.tables e below (T12.setTop (mkF m 52 #[.val (.long q0), .second, .val (.int p1), .val (.int p2), .val (.int p3), .val (.long (own_VAL q0 p1 p2 p3)), .second, .val (.int (own_AT q0 p1 p2 p3)), .val (.int (own_FI q0 p1 p2 p3)), .unset, .unset, .unset, .unset] [(.ref b1)])) _
    refine XS.dup X12.here hx rfl (hb hby at_52) rfl rfl ?_
    show Steps p.tables e below (T12.setTop (mkF m 53 #[.val (.long q0), .second, .val (.int p1), .val (.int p2), .val (.int p3), .val (.long (own_VAL q0 p1 p2 p3)), .second, .val (.int (own_AT q0 p1 p2 p3)), .val (.int (own_FI q0 p1 p2 p3)), .unset, .unset, .unset, .unset] [(.ref b1), (.ref b1)])) _
    refine XS.bipush X12.here hx rfl (hb hby at_53) ?_
    show Steps p.tables e below (T12.setTop (mkF m 55 #[.val (.long q0), .second, .val (.int p1), .val (.int p2), .val (.int p3), .val (.long (own_VAL q0 p1 p2 p3)), .second, .val (.int (own_AT q0 p1 p2 p3)), .val (.int (own_FI q0 p1 p2 p3)), .unset, .unset, .unset, .unset] [(.int (6 : Int32)), (.ref b1), (.ref b1)])) _
    refine XS.iload X12.here hx rfl (hb hby at_55) rfl ?_
    show Steps p.tables e below (T12.setTop (mkF m 57 #[.val (.long q0), .second, .val (.int p1), .val (.int p2), .val (.int p3), .val (.long (own_VAL q0 p1 p2 p3)), .second, .val (.int (own_AT q0 p1 p2 p3)), .val (.int (own_FI q0 p1 p2 p3)), .unset, .unset, .unset, .unset] [(.int (own_FI q0 p1 p2 p3)), (.int (6 : Int32)), (.ref b1), (.ref b1)])) _
    exact k
  obtain ⟨T14, h14, y14, X14, e14, W14, V14, ya14, yb14, st14⟩ := own_stB X12 hx hZ e12 fc13 (j := (6 : Int32)) (x := (own_FI q0 p1 p2 p3)) (by decide) (by decide) (g := (mkF m 57 #[.val (.long q0), .second, .val (.int p1), .val (.int p2), .val (.int p3), .val (.long (own_VAL q0 p1 p2 p3)), .second, .val (.int (own_AT q0 p1 p2 p3)), .val (.int (own_FI q0 p1 p2 p3)), .unset, .unset, .unset, .unset] [(.int (own_FI q0 p1 p2 p3)), (.int (6 : Int32)), (.ref b1), (.ref b1)])) rfl rfl (hb hby at_57)
  refine own_go (T' := T14) (f' := (mkF m 58 #[.val (.long q0), .second, .val (.int p1), .val (.int p2), .val (.int p3), .val (.long (own_VAL q0 p1 p2 p3)), .second, .val (.int (own_AT q0 p1 p2 p3)), .val (.int (own_FI q0 p1 p2 p3)), .unset, .unset, .unset, .unset] [(.ref b1)])) st14 ?_
  have fc15 : own_ArI Z h14 b1 .byte (14 : Int32) y14 := V14
  have Zs14 : n0 ≤ h14.size := Nat.le_trans Zs12 (Keep.of_wr W14).1
  have N14 := Fr.snoc X14 N12 g_b1
  have ya14' : y14 6 = (nar .byte (own_FI q0 p1 p2 p3)) := ya14
  have yb14' : ∀ i, i ≠ 6 → y14 i = y12 i := yb14
  refine own_go (T' := T14) (f' := (mkF m 63 #[.val (.long q0), .second, .val (.int p1), .val (.int p2), .val (.int p3), .val (.long (own_VAL q0 p1 p2 p3)), .second, .val (.int (own_AT q0 p1 p2 p3)), .val (.int (own_FI q0 p1 p2 p3)), .unset, .unset, .unset, .unset] [(.int (own_FI q0 p1 p2 p3)), (.int (7 : Int32)), (.ref b1), (.ref b1)])) (fun t k => ?_) ?_
  · show Steps p.tables e below (T14.setTop (mkF m 58 #[.val (.long q0), .second, .val (.int p1), .val (.int p2), .val (.int p3), .val (.long (own_VAL q0 p1 p2 p3)), .second, .val (.int (own_AT q0 p1 p2 p3)), .val (.int (own_FI q0 p1 p2 p3)), .unset, .unset, .unset, .unset] [(.ref b1)])) _
    refine XS.dup X14.here hx rfl (hb hby at_58) rfl rfl ?_
    show Steps p.tables e below (T14.setTop (mkF m 59 #[.val (.long q0), .second, .val (.int p1), .val (.int p2), .val (.int p3), .val (.long (own_VAL q0 p1 p2 p3)), .second, .val (.int (own_AT q0 p1 p2 p3)), .val (.int (own_FI q0 p1 p2 p3)), .unset, .unset, .unset, .unset] [(.ref b1), (.ref b1)])) _
    refine XS.bipush X14.here hx rfl (hb hby at_59) ?_
    show Steps p.tables e below (T14.setTop (mkF m 61 #[.val (.long q0), .second, .val (.int p1), .val (.int p2), .val (.int p3), .val (.long (own_VAL q0 p1 p2 p3)), .second, .val (.int (own_AT q0 p1 p2 p3)), .val (.int (own_FI q0 p1 p2 p3)), .unset, .unset, .unset, .unset] [(.int (7 : Int32)), (.ref b1), (.ref b1)])) _
    refine XS.iload X14.here hx rfl (hb hby at_61) rfl ?_
    show Steps p.tables e below (T14.setTop (mkF m 63 #[.val (.long q0), .second, .val (.int p1), .val (.int p2), .val (.int p3), .val (.long (own_VAL q0 p1 p2 p3)), .second, .val (.int (own_AT q0 p1 p2 p3)), .val (.int (own_FI q0 p1 p2 p3)), .unset, .unset, .unset, .unset] [(.int (own_FI q0 p1 p2 p3)), (.int (7 : Int32)), (.ref b1), (.ref b1)])) _
    exact k
  obtain ⟨T16, h16, y16, X16, e16, W16, V16, ya16, yb16, st16⟩ := own_stB X14 hx hZ e14 fc15 (j := (7 : Int32)) (x := (own_FI q0 p1 p2 p3)) (by decide) (by decide) (g := (mkF m 63 #[.val (.long q0), .second, .val (.int p1), .val (.int p2), .val (.int p3), .val (.long (own_VAL q0 p1 p2 p3)), .second, .val (.int (own_AT q0 p1 p2 p3)), .val (.int (own_FI q0 p1 p2 p3)), .unset, .unset, .unset, .unset] [(.int (own_FI q0 p1 p2 p3)), (.int (7 : Int32)), (.ref b1), (.ref b1)])) rfl rfl (hb hby at_63)
  refine own_go (T' := T16) (f' := (mkF m 64 #[.val (.long q0), .second, .val (.int p1), .val (.int p2), .val (.int p3), .val (.long (own_VAL q0 p1 p2 p3)), .second, .val (.int (own_AT q0 p1 p2 p3)), .val (.int (own_FI q0 p1 p2 p3)), .unset, .unset, .unset, .unset] [(.ref b1)])) st16 ?_
  have fc17 : own_ArI Z h16 b1 .byte (14 : Int32) y16 := V16
  have Zs16 : n0 ≤ h16.size := Nat.le_trans Zs14 (Keep.of_wr W16).1
  have N16 := Fr.snoc X16 N14 g_b1
  have ya16' : y16 7 = (nar .byte (own_FI q0 p1 p2 p3)) := ya16
  have yb16' : ∀ i, i ≠ 7 → y16 i = y14 i := yb16
  refine own_go (T' := T16) (f' := (mkF m 69 #[.val (.long q0), .second, .val (.int p1), .val (.int p2), .val (.int p3), .val (.long (own_VAL q0 p1 p2 p3)), .second, .val (.int (own_AT q0 p1 p2 p3)), .val (.int (own_FI q0 p1 p2 p3)), .unset, .unset, .unset, .unset] [(.int (own_FI q0 p1 p2 p3)), (.int (8 : Int32)), (.ref b1), (.ref b1)])) (fun t k => ?_) ?_
  · show Steps p.tables e below (T16.setTop (mkF m 64 #[.val (.long q0), .second, .val (.int p1), .val (.int p2), .val (.int p3), .val (.long (own_VAL q0 p1 p2 p3)), .second, .val (.int (own_AT q0 p1 p2 p3)), .val (.int (own_FI q0 p1 p2 p3)), .unset, .unset, .unset, .unset] [(.ref b1)])) _
    refine XS.dup X16.here hx rfl (hb hby at_64) rfl rfl ?_
    show Steps p.tables e below (T16.setTop (mkF m 65 #[.val (.long q0), .second, .val (.int p1), .val (.int p2), .val (.int p3), .val (.long (own_VAL q0 p1 p2 p3)), .second, .val (.int (own_AT q0 p1 p2 p3)), .val (.int (own_FI q0 p1 p2 p3)), .unset, .unset, .unset, .unset] [(.ref b1), (.ref b1)])) _
    refine XS.bipush X16.here hx rfl (hb hby at_65) ?_
    show Steps p.tables e below (T16.setTop (mkF m 67 #[.val (.long q0), .second, .val (.int p1), .val (.int p2), .val (.int p3), .val (.long (own_VAL q0 p1 p2 p3)), .second, .val (.int (own_AT q0 p1 p2 p3)), .val (.int (own_FI q0 p1 p2 p3)), .unset, .unset, .unset, .unset] [(.int (8 : Int32)), (.ref b1), (.ref b1)])) _
    refine XS.iload X16.here hx rfl (hb hby at_67) rfl ?_
    show Steps p.tables e below (T16.setTop (mkF m 69 #[.val (.long q0), .second, .val (.int p1), .val (.int p2), .val (.int p3), .val (.long (own_VAL q0 p1 p2 p3)), .second, .val (.int (own_AT q0 p1 p2 p3)), .val (.int (own_FI q0 p1 p2 p3)), .unset, .unset, .unset, .unset] [(.int (own_FI q0 p1 p2 p3)), (.int (8 : Int32)), (.ref b1), (.ref b1)])) _
    exact k
  obtain ⟨T18, h18, y18, X18, e18, W18, V18, ya18, yb18, st18⟩ := own_stB X16 hx hZ e16 fc17 (j := (8 : Int32)) (x := (own_FI q0 p1 p2 p3)) (by decide) (by decide) (g := (mkF m 69 #[.val (.long q0), .second, .val (.int p1), .val (.int p2), .val (.int p3), .val (.long (own_VAL q0 p1 p2 p3)), .second, .val (.int (own_AT q0 p1 p2 p3)), .val (.int (own_FI q0 p1 p2 p3)), .unset, .unset, .unset, .unset] [(.int (own_FI q0 p1 p2 p3)), (.int (8 : Int32)), (.ref b1), (.ref b1)])) rfl rfl (hb hby at_69)
  refine own_go (T' := T18) (f' := (mkF m 70 #[.val (.long q0), .second, .val (.int p1), .val (.int p2), .val (.int p3), .val (.long (own_VAL q0 p1 p2 p3)), .second, .val (.int (own_AT q0 p1 p2 p3)), .val (.int (own_FI q0 p1 p2 p3)), .unset, .unset, .unset, .unset] [(.ref b1)])) st18 ?_
  have fc19 : own_ArI Z h18 b1 .byte (14 : Int32) y18 := V18
  have Zs18 : n0 ≤ h18.size := Nat.le_trans Zs16 (Keep.of_wr W18).1
  have N18 := Fr.snoc X18 N16 g_b1
  have ya18' : y18 8 = (nar .byte (own_FI q0 p1 p2 p3)) := ya18
  have yb18' : ∀ i, i ≠ 8 → y18 i = y16 i := yb18
  refine own_go (T' := T18) (f' := (mkF m 75 #[.val (.long q0), .second, .val (.int p1), .val (.int p2), .val (.int p3), .val (.long (own_VAL q0 p1 p2 p3)), .second, .val (.int (own_AT q0 p1 p2 p3)), .val (.int (own_FI q0 p1 p2 p3)), .unset, .unset, .unset, .unset] [(.int (own_FI q0 p1 p2 p3)), (.int (9 : Int32)), (.ref b1), (.ref b1)])) (fun t k => ?_) ?_
  · show Steps p.tables e below (T18.setTop (mkF m 70 #[.val (.long q0), .second, .val (.int p1), .val (.int p2), .val (.int p3), .val (.long (own_VAL q0 p1 p2 p3)), .second, .val (.int (own_AT q0 p1 p2 p3)), .val (.int (own_FI q0 p1 p2 p3)), .unset, .unset, .unset, .unset] [(.ref b1)])) _
    refine XS.dup X18.here hx rfl (hb hby at_70) rfl rfl ?_
    show Steps p.tables e below (T18.setTop (mkF m 71 #[.val (.long q0), .second, .val (.int p1), .val (.int p2), .val (.int p3), .val (.long (own_VAL q0 p1 p2 p3)), .second, .val (.int (own_AT q0 p1 p2 p3)), .val (.int (own_FI q0 p1 p2 p3)), .unset, .unset, .unset, .unset] [(.ref b1), (.ref b1)])) _
    refine XS.bipush X18.here hx rfl (hb hby at_71) ?_
    show Steps p.tables e below (T18.setTop (mkF m 73 #[.val (.long q0), .second, .val (.int p1), .val (.int p2), .val (.int p3), .val (.long (own_VAL q0 p1 p2 p3)), .second, .val (.int (own_AT q0 p1 p2 p3)), .val (.int (own_FI q0 p1 p2 p3)), .unset, .unset, .unset, .unset] [(.int (9 : Int32)), (.ref b1), (.ref b1)])) _
    refine XS.iload X18.here hx rfl (hb hby at_73) rfl ?_
    show Steps p.tables e below (T18.setTop (mkF m 75 #[.val (.long q0), .second, .val (.int p1), .val (.int p2), .val (.int p3), .val (.long (own_VAL q0 p1 p2 p3)), .second, .val (.int (own_AT q0 p1 p2 p3)), .val (.int (own_FI q0 p1 p2 p3)), .unset, .unset, .unset, .unset] [(.int (own_FI q0 p1 p2 p3)), (.int (9 : Int32)), (.ref b1), (.ref b1)])) _
    exact k
  obtain ⟨T20, h20, y20, X20, e20, W20, V20, ya20, yb20, st20⟩ := own_stB X18 hx hZ e18 fc19 (j := (9 : Int32)) (x := (own_FI q0 p1 p2 p3)) (by decide) (by decide) (g := (mkF m 75 #[.val (.long q0), .second, .val (.int p1), .val (.int p2), .val (.int p3), .val (.long (own_VAL q0 p1 p2 p3)), .second, .val (.int (own_AT q0 p1 p2 p3)), .val (.int (own_FI q0 p1 p2 p3)), .unset, .unset, .unset, .unset] [(.int (own_FI q0 p1 p2 p3)), (.int (9 : Int32)), (.ref b1), (.ref b1)])) rfl rfl (hb hby at_75)
  refine own_go (T' := T20) (f' := (mkF m 76 #[.val (.long q0), .second, .val (.int p1), .val (.int p2), .val (.int p3), .val (.long (own_VAL q0 p1 p2 p3)), .second, .val (.int (own_AT q0 p1 p2 p3)), .val (.int (own_FI q0 p1 p2 p3)), .unset, .unset, .unset, .unset] [(.ref b1)])) st20 ?_
  have fc21 : own_ArI Z h20 b1 .byte (14 : Int32) y20 := V20
  have Zs20 : n0 ≤ h20.size := Nat.le_trans Zs18 (Keep.of_wr W20).1
  have N20 := Fr.snoc X20 N18 g_b1
  have ya20' : y20 9 = (nar .byte (own_FI q0 p1 p2 p3)) := ya20
  have yb20' : ∀ i, i ≠ 9 → y20 i = y18 i := yb20
  refine own_go (T' := T20) (f' := (mkF m 81 #[.val (.long q0), .second, .val (.int p1), .val (.int p2), .val (.int p3), .val (.long (own_VAL q0 p1 p2 p3)), .second, .val (.int (own_AT q0 p1 p2 p3)), .val (.int (own_FI q0 p1 p2 p3)), .unset, .unset, .unset, .unset] [(.int (own_FI q0 p1 p2 p3)), (.int (10 : Int32)), (.ref b1), (.ref b1)])) (fun t k => ?_) ?_
  · show Steps p.tables e below (T20.setTop (mkF m 76 #[.val (.long q0), .second, .val (.int p1), .val (.int p2), .val (.int p3), .val (.long (own_VAL q0 p1 p2 p3)), .second, .val (.int (own_AT q0 p1 p2 p3)), .val (.int (own_FI q0 p1 p2 p3)), .unset, .unset, .unset, .unset] [(.ref b1)])) _
    refine XS.dup X20.here hx rfl (hb hby at_76) rfl rfl ?_
    show Steps p.tables e below (T20.setTop (mkF m 77 #[.val (.long q0), .second, .val (.int p1), .val (.int p2), .val (.int p3), .val (.long (own_VAL q0 p1 p2 p3)), .second, .val (.int (own_AT q0 p1 p2 p3)), .val (.int (own_FI q0 p1 p2 p3)), .unset, .unset, .unset, .unset] [(.ref b1), (.ref b1)])) _
    refine XS.bipush X20.here hx rfl (hb hby at_77) ?_
    show Steps p.tables e below (T20.setTop (mkF m 79 #[.val (.long q0), .second, .val (.int p1), .val (.int p2), .val (.int p3), .val (.long (own_VAL q0 p1 p2 p3)), .second, .val (.int (own_AT q0 p1 p2 p3)), .val (.int (own_FI q0 p1 p2 p3)), .unset, .unset, .unset, .unset] [(.int (10 : Int32)), (.ref b1), (.ref b1)])) _
    refine XS.iload X20.here hx rfl (hb hby at_79) rfl ?_
    show Steps p.tables e below (T20.setTop (mkF m 81 #[.val (.long q0), .second, .val (.int p1), .val (.int p2), .val (.int p3), .val (.long (own_VAL q0 p1 p2 p3)), .second, .val (.int (own_AT q0 p1 p2 p3)), .val (.int (own_FI q0 p1 p2 p3)), .unset, .unset, .unset, .unset] [(.int (own_FI q0 p1 p2 p3)), (.int (10 : Int32)), (.ref b1), (.ref b1)])) _
    exact k
  obtain ⟨T22, h22, y22, X22, e22, W22, V22, ya22, yb22, st22⟩ := own_stB X20 hx hZ e20 fc21 (j := (10 : Int32)) (x := (own_FI q0 p1 p2 p3)) (by decide) (by decide) (g := (mkF m 81 #[.val (.long q0), .second, .val (.int p1), .val (.int p2), .val (.int p3), .val (.long (own_VAL q0 p1 p2 p3)), .second, .val (.int (own_AT q0 p1 p2 p3)), .val (.int (own_FI q0 p1 p2 p3)), .unset, .unset, .unset, .unset] [(.int (own_FI q0 p1 p2 p3)), (.int (10 : Int32)), (.ref b1), (.ref b1)])) rfl rfl (hb hby at_81)
  refine own_go (T' := T22) (f' := (mkF m 82 #[.val (.long q0), .second, .val (.int p1), .val (.int p2), .val (.int p3), .val (.long (own_VAL q0 p1 p2 p3)), .second, .val (.int (own_AT q0 p1 p2 p3)), .val (.int (own_FI q0 p1 p2 p3)), .unset, .unset, .unset, .unset] [(.ref b1)])) st22 ?_
  have fc23 : own_ArI Z h22 b1 .byte (14 : Int32) y22 := V22
  have Zs22 : n0 ≤ h22.size := Nat.le_trans Zs20 (Keep.of_wr W22).1
  have N22 := Fr.snoc X22 N20 g_b1
  have ya22' : y22 10 = (nar .byte (own_FI q0 p1 p2 p3)) := ya22
  have yb22' : ∀ i, i ≠ 10 → y22 i = y20 i := yb22
  refine own_go (T' := T22) (f' := (mkF m 87 #[.val (.long q0), .second, .val (.int p1), .val (.int p2), .val (.int p3), .val (.long (own_VAL q0 p1 p2 p3)), .second, .val (.int (own_AT q0 p1 p2 p3)), .val (.int (own_FI q0 p1 p2 p3)), .unset, .unset, .unset, .unset] [(.int (own_FI q0 p1 p2 p3)), (.int (11 : Int32)), (.ref b1), (.ref b1)])) (fun t k => ?_) ?_
  · show Steps p.tables e below (T22.setTop (mkF m 82 #[.val (.long q0), .second, .val (.int p1), .val (.int p2), .val (.int p3), .val (.long (own_VAL q0 p1 p2 p3)), .second, .val (.int (own_AT q0 p1 p2 p3)), .val (.int (own_FI q0 p1 p2 p3)), .unset, .unset, .unset, .unset] [(.ref b1)])) _
    refine XS.dup X22.here hx rfl (hb hby at_82) rfl rfl ?_
    show Steps p.tables e below (T22.setTop (mkF m 83 #[.val (.long q0), .second, .val (.int p1), .val (.int p2), .val (.int p3), .val (.long (own_VAL q0 p1 p2 p3)), .second, .val (.int (own_AT q0 p1 p2 p3)), .val (.int (own_FI q0 p1 p2 p3)), .unset, .unset, .unset, .unset] [(.ref b1), (.ref b1)])) _
    refine XS.bipush X22.here hx rfl (hb hby at_83) ?_
    show Steps p.tables e below (T22.setTop (mkF m 85 #[.val (.long q0), .second, .val (.int p1), .val (.int p2), .val (.int p3), .val (.long (own_VAL q0 p1 p2 p3)), .second, .val (.int (own_AT q0 p1 p2 p3)), .val (.int (own_FI q0 p1 p2 p3)), .unset, .unset, .unset, .unset] [(.int (11 : Int32)), (.ref b1), (.ref b1)])) _
    refine XS.iload X22.here hx rfl (hb hby at_85) rfl ?_
    show Steps p.tables e below (T22.setTop (mkF m 87 #[.val (.long q0), .second, .val (.int p1), .val (.int p2), .val (.int p3), .val (.long (own_VAL q0 p1 p2 p3)), .second, .val (.int (own_AT q0 p1 p2 p3)), .val (.int (own_FI q0 p1 p2 p3)), .unset, .unset, .unset, .unset] [(.int (own_FI q0 p1 p2 p3)), (.int (11 : Int32)), (.ref b1), (.ref b1)])) _
    exact k
  obtain ⟨T24, h24, y24, X24, e24, W24, V24, ya24, yb24, st24⟩ := own_stB X22 hx hZ e22 fc23 (j := (11 : Int32)) (x := (own_FI q0 p1 p2 p3)) (by decide) (by decide) (g := (mkF m 87 #[.val (.long q0), .second, .val (.int p1), .val (.int p2), .val (.int p3), .val (.long (own_VAL q0 p1 p2 p3)), .second, .val (.int (own_AT q0 p1 p2 p3)), .val (.int (own_FI q0 p1 p2 p3)), .unset, .unset, .unset, .unset] [(.int (own_FI q0 p1 p2 p3)), (.int (11 : Int32)), (.ref b1), (.ref b1)])) rfl rfl (hb hby at_87)
  refine own_go (T' := T24) (f' := (mkF m 88 #[.val (.long q0), .second, .val (.int p1), .val (.int p2), .val (.int p3), .val (.long (own_VAL q0 p1 p2 p3)), .second, .val (.int (own_AT q0 p1 p2 p3)), .val (.int (own_FI q0 p1 p2 p3)), .unset, .unset, .unset, .unset] [(.ref b1)])) st24 ?_
  have fc25 : own_ArI Z h24 b1 .byte (14 : Int32) y24 := V24
  have Zs24 : n0 ≤ h24.size := Nat.le_trans Zs22 (Keep.of_wr W24).1
  have N24 := Fr.snoc X24 N22 g_b1
  have ya24' : y24 11 = (nar .byte (own_FI q0 p1 p2 p3)) := ya24
  have yb24' : ∀ i, i ≠ 11 → y24 i = y22 i := yb24
  refine own_go (T' := T24) (f' := (mkF m 93 #[.val (.long q0), .second, .val (.int p1), .val (.int p2), .val (.int p3), .val (.long (own_VAL q0 p1 p2 p3)), .second, .val (.int (own_AT q0 p1 p2 p3)), .val (.int (own_FI q0 p1 p2 p3)), .unset, .unset, .unset, .unset] [(.int (own_FI q0 p1 p2 p3)), (.int (12 : Int32)), (.ref b1), (.ref b1)])) (fun t k => ?_) ?_
  · show Steps p.tables e below (T24.setTop (mkF m 88 #[.val (.long q0), .second, .val (.int p1), .val (.int p2), .val (.int p3), .val (.long (own_VAL q0 p1 p2 p3)), .second, .val (.int (own_AT q0 p1 p2 p3)), .val (.int (own_FI q0 p1 p2 p3)), .unset, .unset, .unset, .unset] [(.ref b1)])) _
    refine XS.dup X24.here hx rfl (hb hby at_88) rfl rfl ?_
    show Steps p.tables e below (T24.setTop (mkF m 89 #[.val (.long q0), .second, .val (.int p1), .val (.int p2), .val (.int p3), .val (.long (own_VAL q0 p1 p2 p3)), .second, .val (.int (own_AT q0 p1 p2 p3)), .val (.int (own_FI q0 p1 p2 p3)), .unset, .unset, .unset, .unset] [(.ref b1), (.ref b1)])) _
    refine XS.bipush X24.here hx rfl (hb hby at_89) ?_
    show Steps p.tables e below (T24.setTop (mkF m 91 #[.val (.long q0), .second, .val (.int p1), .val (.int p2), .val (.int p3), .val (.long (own_VAL q0 p1 p2 p3)), .second, .val (.int (own_AT q0 p1 p2 p3)), .val (.int (own_FI q0 p1 p2 p3)), .unset, .unset, .unset, .unset] [(.int (12 : Int32)), (.ref b1), (.ref b1)])) _
    refine XS.iload X24.here hx rfl (hb hby at_91) rfl ?_
    show Steps p.tables e below (T24.setTop (mkF m 93 #[.val (.long q0), .second, .val (.int p1), .val (.int p2), .val (.int p3), .val (.long (own_VAL q0 p1 p2 p3)), .second, .val (.int (own_AT q0 p1 p2 p3)), .val (.int (own_FI q0 p1 p2 p3)), .unset, .unset, .unset, .unset] [(.int (own_FI q0 p1 p2 p3)), (.int (12 : Int32)), (.ref b1), (.ref b1)])) _
    exact k
  obtain ⟨T26, h26, y26, X26, e26, W26, V26, ya26, yb26, st26⟩ := own_stB X24 hx hZ e24 fc25 (j := (12 : Int32)) (x := (own_FI q0 p1 p2 p3)) (by decide) (by decide) (g := (mkF m 93 #[.val (.long q0), .second, .val (.int p1), .val (.int p2), .val (.int p3), .val (.long (own_VAL q0 p1 p2 p3)), .second, .val (.int (own_AT q0 p1 p2 p3)), .val (.int (own_FI q0 p1 p2 p3)), .unset, .unset, .unset, .unset] [(.int (own_FI q0 p1 p2 p3)), (.int (12 : Int32)), (.ref b1), (.ref b1)])) rfl rfl (hb hby at_93)
  refine own_go (T' := T26) (f' := (mkF m 94 #[.val (.long q0), .second, .val (.int p1), .val (.int p2), .val (.int p3), .val (.long (own_VAL q0 p1 p2 p3)), .second, .val (.int (own_AT q0 p1 p2 p3)), .val (.int (own_FI q0 p1 p2 p3)), .unset, .unset, .unset, .unset] [(.ref b1)])) st26 ?_
  have fc27 : own_ArI Z h26 b1 .byte (14 : Int32) y26 := V26
  have Zs26 : n0 ≤ h26.size := Nat.le_trans Zs24 (Keep.of_wr W26).1
  have N26 := Fr.snoc X26 N24 g_b1
  have ya26' : y26 12 = (nar .byte (own_FI q0 p1 p2 p3)) := ya26
  have yb26' : ∀ i, i ≠ 12 → y26 i = y24 i := yb26
  refine own_go (T' := T26) (f' := (mkF m 99 #[.val (.long q0), .second, .val (.int p1), .val (.int p2), .val (.int p3), .val (.long (own_VAL q0 p1 p2 p3)), .second, .val (.int (own_AT q0 p1 p2 p3)), .val (.int (own_FI q0 p1 p2 p3)), .unset, .unset, .unset, .unset] [(.int (own_FI q0 p1 p2 p3)), (.int (13 : Int32)), (.ref b1), (.ref b1)])) (fun t k => ?_) ?_
  · show Steps p.tables e below (T26.setTop (mkF m 94 #[.val (.long q0), .second, .val (.int p1), .val (.int p2), .val (.int p3), .val (.long (own_VAL q0 p1 p2 p3)), .second, .val (.int (own_AT q0 p1 p2 p3)), .val (.int (own_FI q0 p1 p2 p3)), .unset, .unset, .unset, .unset] [(.ref b1)])) _
    refine XS.dup X26.here hx rfl (hb hby at_94) rfl rfl ?_
    show Steps p.tables e below (T26.setTop (mkF m 95 #[.val (.long q0), .second, .val (.int p1), .val (.int p2), .val (.int p3), .val (.long (own_VAL q0 p1 p2 p3)), .second, .val (.int (own_AT q0 p1 p2 p3)), .val (.int (own_FI q0 p1 p2 p3)), .unset, .unset, .unset, .unset] [(.ref b1), (.ref b1)])) _
    refine XS.bipush X26.here hx rfl (hb hby at_95) ?_
    show Steps p.tables e below (T26.setTop (mkF m 97 #[.val (.long q0), .second, .val (.int p1), .val (.int p2), .val (.int p3), .val (.long (own_VAL q0 p1 p2 p3)), .second, .val (.int (own_AT q0 p1 p2 p3)), .val (.int (own_FI q0 p1 p2 p3)), .unset, .unset, .unset, .unset] [(.int (13 : Int32)), (.ref b1), (.ref b1)])) _
    refine XS.iload X26.here hx rfl (hb hby at_97) rfl ?_
    show Steps p.tables e below (T26.setTop (mkF m 99 #[.val (.long q0), .second, .val (.int p1), .val (.int p2), .val (.int p3), .val (.long (own_VAL q0 p1 p2 p3)), .second, .val (.int (own_AT q0 p1 p2 p3)), .val (.int (own_FI q0 p1 p2 p3)), .unset, .unset, .unset, .unset] [(.int (own_FI q0 p1 p2 p3)), (.int (13 : Int32)), (.ref b1), (.ref b1)])) _
    exact k
  obtain ⟨T28, h28, y28, X28, e28, W28, V28, ya28, yb28, st28⟩ := own_stB X26 hx hZ e26 fc27 (j := (13 : Int32)) (x := (own_FI q0 p1 p2 p3)) (by decide) (by decide) (g := (mkF m 99 #[.val (.long q0), .second, .val (.int p1), .val (.int p2), .val (.int p3), .val (.long (own_VAL q0 p1 p2 p3)), .second, .val (.int (own_AT q0 p1 p2 p3)), .val (.int (own_FI q0 p1 p2 p3)), .unset, .unset, .unset, .unset] [(.int (own_FI q0 p1 p2 p3)), (.int (13 : Int32)), (.ref b1), (.ref b1)])) rfl rfl (hb hby at_99)
  refine own_go (T' := T28) (f' := (mkF m 100 #[.val (.long q0), .second, .val (.int p1), .val (.int p2), .val (.int p3), .val (.long (own_VAL q0 p1 p2 p3)), .second, .val (.int (own_AT q0 p1 p2 p3)), .val (.int (own_FI q0 p1 p2 p3)), .unset, .unset, .unset, .unset] [(.ref b1)])) st28 ?_
  have fc29 : own_ArI Z h28 b1 .byte (14 : Int32) y28 := V28
  have Zs28 : n0 ≤ h28.size := Nat.le_trans Zs26 (Keep.of_wr W28).1
  have N28 := Fr.snoc X28 N26 g_b1
  have ya28' : y28 13 = (nar .byte (own_FI q0 p1 p2 p3)) := ya28
  have yb28' : ∀ i, i ≠ 13 → y28 i = y26 i := yb28
  have hfill : ∀ i, i < 14 → y28 i = (nar .byte (own_FI q0 p1 p2 p3)) := by
    intro i hi
    by_cases c13 : i = 13
    · rw [c13]; exact ya28'
    rw [yb28' i c13]
    by_cases c12 : i = 12
    · rw [c12]; exact ya26'
    rw [yb26' i c12]
    by_cases c11 : i = 11
    · rw [c11]; exact ya24'
    rw [yb24' i c11]
    by_cases c10 : i = 10
    · rw [c10]; exact ya22'
    rw [yb22' i c10]
    by_cases c9 : i = 9
    · rw [c9]; exact ya20'
    rw [yb20' i c9]
    by_cases c8 : i = 8
    · rw [c8]; exact ya18'
    rw [yb18' i c8]
    by_cases c7 : i = 7
    · rw [c7]; exact ya16'
    rw [yb16' i c7]
    by_cases c6 : i = 6
    · rw [c6]; exact ya14'
    rw [yb14' i c6]
    by_cases c5 : i = 5
    · rw [c5]; exact ya12'
    rw [yb12' i c5]
    by_cases c4 : i = 4
    · rw [c4]; exact ya10'
    rw [yb10' i c4]
    by_cases c3 : i = 3
    · rw [c3]; exact ya8'
    rw [yb8' i c3]
    by_cases c2 : i = 2
    · rw [c2]; exact ya6'
    rw [yb6' i c2]
    by_cases c1 : i = 1
    · rw [c1]; exact ya4'
    rw [yb4' i c1]
    by_cases c0 : i = 0
    · rw [c0]; exact ya2'
    rw [yb2' i c0]
    omega
  refine own_go (T' := T28) (f' := (mkF m 104 #[.val (.long q0), .second, .val (.int p1), .val (.int p2), .val (.int p3), .val (.long (own_VAL q0 p1 p2 p3)), .second, .val (.int (own_AT q0 p1 p2 p3)), .val (.int (own_FI q0 p1 p2 p3)), .val (.ref b1), .unset, .unset, .unset] [(.long (own_VAL q0 p1 p2 p3))])) (fun t k => ?_) ?_
  · show Steps p.tables e below (T28.setTop (mkF m 100 #[.val (.long q0), .second, .val (.int p1), .val (.int p2), .val (.int p3), .val (.long (own_VAL q0 p1 p2 p3)), .second, .val (.int (own_AT q0 p1 p2 p3)), .val (.int (own_FI q0 p1 p2 p3)), .unset, .unset, .unset, .unset] [(.ref b1)])) _
    refine XS.astore X28.here hx rfl (hb hby at_100) rfl rfl (l' := #[.val (.long q0), .second, .val (.int p1), .val (.int p2), .val (.int p3), .val (.long (own_VAL q0 p1 p2 p3)), .second, .val (.int (own_AT q0 p1 p2 p3)), .val (.int (own_FI q0 p1 p2 p3)), .val (.ref b1), .unset, .unset, .unset]) rfl ?_
    show Steps p.tables e below (T28.setTop (mkF m 102 #[.val (.long q0), .second, .val (.int p1), .val (.int p2), .val (.int p3), .val (.long (own_VAL q0 p1 p2 p3)), .second, .val (.int (own_AT q0 p1 p2 p3)), .val (.int (own_FI q0 p1 p2 p3)), .val (.ref b1), .unset, .unset, .unset] [])) _
    refine XS.lload X28.here hx rfl (hb hby at_102) rfl ?_
    show Steps p.tables e below (T28.setTop (mkF m 104 #[.val (.long q0), .second, .val (.int p1), .val (.int p2), .val (.int p3), .val (.long (own_VAL q0 p1 p2 p3)), .second, .val (.int (own_AT q0 p1 p2 p3)), .val (.int (own_FI q0 p1 p2 p3)), .val (.ref b1), .unset, .unset, .unset] [(.long (own_VAL q0 p1 p2 p3))])) _
    exact k
  obtain ⟨T30, Lq30, X30, N30, hQ30, st30⟩ := own_pf0 (vv := some (.int (own_F1 (own_VAL q0 p1 p2 p3)))) N28 (Jvm.LawKit.callS X28 hx (y := (⟨"com/example/rowcast/rowcast/binary/Leb128WriteUnsignedPinLaw", "len", "(J)I"⟩ : MethodName)) hown (mvT hZ (hw _ (List.mem_of_getElem? (i := 1) rfl))) (mvT hZ (hw _ (List.mem_of_getElem? (i := 2) rfl))) (mvT hZ (hw _ (List.mem_of_getElem? (i := 3) rfl))) (mvT hZ (hw _ (List.mem_of_getElem? (i := 4) rfl))) (by decide) (backOf (W := 0) (own_rm1 l Z a0 hw [] ((own_VAL q0 p1 p2 p3))  h28 n0 Zs28 ) hZ (hw _ (List.mem_of_getElem? (i := 4) rfl)) (hw _ (List.mem_of_getElem? (i := 3) rfl)) (by decide) (by decide)) (g := (mkF m 104 #[.val (.long q0), .second, .val (.int p1), .val (.int p2), .val (.int p3), .val (.long (own_VAL q0 p1 p2 p3)), .second, .val (.int (own_AT q0 p1 p2 p3)), .val (.int (own_FI q0 p1 p2 p3)), .val (.ref b1), .unset, .unset, .unset] [(.long (own_VAL q0 p1 p2 p3))])) rfl (by rw [hml]; rfl) (argsL := [(.long (own_VAL q0 p1 p2 p3))]) (rest := []) (lenOf own_pd0 rfl) rfl (by show 2 * 0 + _ ≤ _; exact Nat.le_of_eq rfl) (hb hby at_104) (fun _ _ => ⟨rfl, e28, (by decide : 1 + 0 ≤ _), (by decide : 14 + 0 ≤ _)⟩)) (fun _ _ _ q => q) (k1 := 1) (k2 := 14) rfl rfl
  have h30q : T30.heap = h28 := hQ30
  refine own_go (T' := T30) (f' := (mkF m 107 #[.val (.long q0), .second, .val (.int p1), .val (.int p2), .val (.int p3), .val (.long (own_VAL q0 p1 p2 p3)), .second, .val (.int (own_AT q0 p1 p2 p3)), .val (.int (own_FI q0 p1 p2 p3)), .val (.ref b1), .unset, .unset, .unset] [(.int (own_F1 (own_VAL q0 p1 p2 p3)))])) (fun t k => st30 _ k) ?_
  refine own_go (T' := T30) (f' := (mkF m 115 #[.val (.long q0), .second, .val (.int p1), .val (.int p2), .val (.int p3), .val (.long (own_VAL q0 p1 p2 p3)), .second, .val (.int (own_AT q0 p1 p2 p3)), .val (.int (own_FI q0 p1 p2 p3)), .val (.ref b1), .val (.int (own_F1 (own_VAL q0 p1 p2 p3))), .unset, .unset] [(.int (own_AT q0 p1 p2 p3)), (.ref b1), (.long (own_VAL q0 p1 p2 p3))])) (fun t k => ?_) ?_
  · show Steps p.tables e below (T30.setTop (mkF m 107 #[.val (.long q0), .second, .val (.int p1), .val (.int p2), .val (.int p3), .val (.long (own_VAL q0 p1 p2 p3)), .second, .val (.int (own_AT q0 p1 p2 p3)), .val (.int (own_FI q0 p1 p2 p3)), .val (.ref b1), .unset, .unset, .unset] [(.int (own_F1 (own_VAL q0 p1 p2 p3)))])) _
    refine XS.istore X30.here hx rfl (hb hby at_107) rfl (l' := #[.val (.long q0), .second, .val (.int p1), .val (.int p2), .val (.int p3), .val (.long (own_VAL q0 p1 p2 p3)), .second, .val (.int (own_AT q0 p1 p2 p3)), .val (.int (own_FI q0 p1 p2 p3)), .val (.ref b1), .val (.int (own_F1 (own_VAL q0 p1 p2 p3))), .unset, .unset]) rfl ?_
    show Steps p.tables e below (T30.setTop (mkF m 109 #[.val (.long q0), .second, .val (.int p1), .val (.int p2), .val (.int p3), .val (.long (own_VAL q0 p1 p2 p3)), .second, .val (.int (own_AT q0 p1 p2 p3)), .val (.int (own_FI q0 p1 p2 p3)), .val (.ref b1), .val (.int (own_F1 (own_VAL q0 p1 p2 p3))), .unset, .unset] [])) _
    refine XS.lload X30.here hx rfl (hb hby at_109) rfl ?_
    show Steps p.tables e below (T30.setTop (mkF m 111 #[.val (.long q0), .second, .val (.int p1), .val (.int p2), .val (.int p3), .val (.long (own_VAL q0 p1 p2 p3)), .second, .val (.int (own_AT q0 p1 p2 p3)), .val (.int (own_FI q0 p1 p2 p3)), .val (.ref b1), .val (.int (own_F1 (own_VAL q0 p1 p2 p3))), .unset, .unset] [(.long (own_VAL q0 p1 p2 p3))])) _
    refine XS.aload X30.here hx rfl (hb hby at_111) rfl rfl ?_
    show Steps p.tables e below (T30.setTop (mkF m 113 #[.val (.long q0), .second, .val (.int p1), .val (.int p2), .val (.int p3), .val (.long (own_VAL q0 p1 p2 p3)), .second, .val (.int (own_AT q0 p1 p2 p3)), .val (.int (own_FI q0 p1 p2 p3)), .val (.ref b1), .val (.int (own_F1 (own_VAL q0 p1 p2 p3))), .unset, .unset] [(.ref b1), (.long (own_VAL q0 p1 p2 p3))])) _
    refine XS.iload X30.here hx rfl (hb hby at_113) rfl ?_
    show Steps p.tables e below (T30.setTop (mkF m 115 #[.val (.long q0), .second, .val (.int p1), .val (.int p2), .val (.int p3), .val (.long (own_VAL q0 p1 p2 p3)), .second, .val (.int (own_AT q0 p1 p2 p3)), .val (.int (own_FI q0 p1 p2 p3)), .val (.ref b1), .val (.int (own_F1 (own_VAL q0 p1 p2 p3))), .unset, .unset] [(.int (own_AT q0 p1 p2 p3)), (.ref b1), (.long (own_VAL q0 p1 p2 p3))])) _
    exact k
  obtain ⟨T31, Lq31, f'_31, r_31, X31, N31, hQ31, st31⟩ := own_pf2 (vv := fun (f'_31 : Nat → Int32) (r_31 : Int32) => some (.int r_31)) N30 (Jvm.LawKit.callS X30 hx (y := (⟨"com/example/rowcast/rowcast/binary/Leb128", "writeUnsigned", "(J[BI)I"⟩ : MethodName)) hown (mvT hZ (hw _ (List.mem_of_getElem? (i := 5) rfl))) (mvT hZ (hw _ (List.mem_of_getElem? (i := 6) rfl))) (mvT hZ (hw _ (List.mem_of_getElem? (i := 7) rfl))) (mvT hZ (hw _ (List.mem_of_getElem? (i := 8) rfl))) (by decide) (backOf (W := 0) (own_rm2 l Z a0 hw [] ((own_VAL q0 p1 p2 p3)) b1 ((own_AT q0 p1 p2 p3)) ((14 : Int32)) y28 h28 n0 Zs28 fc29 g_b1 (own_AT_rng q0 p1 p2 p3).1 (by have := (own_AT_rng q0 p1 p2 p3).2; have e : (14 : Int32).toInt = 14 := rfl; omega)) hZ (hw _ (List.mem_of_getElem? (i := 8) rfl)) (hw _ (List.mem_of_getElem? (i := 7) rfl)) (by decide) (by decide)) (g := (mkF m 115 #[.val (.long q0), .second, .val (.int p1), .val (.int p2), .val (.int p3), .val (.long (own_VAL q0 p1 p2 p3)), .second, .val (.int (own_AT q0 p1 p2 p3)), .val (.int (own_FI q0 p1 p2 p3)), .val (.ref b1), .val (.int (own_F1 (own_VAL q0 p1 p2 p3))), .unset, .unset] [(.int (own_AT q0 p1 p2 p3)), (.ref b1), (.long (own_VAL q0 p1 p2 p3))])) rfl (by rw [hml]; rfl) (argsL := [(.long (own_VAL q0 p1 p2 p3)), (.ref b1), (.int (own_AT q0 p1 p2 p3))]) (rest := []) (lenOf own_pd1 rfl) rfl (by show 2 * 0 + _ ≤ _; exact Nat.le_of_eq rfl) (hb hby at_115) (fun _ _ => ⟨rfl, h30q, (by decide : 1 + 0 ≤ _), (by decide : 14 + 0 ≤ _)⟩)) (fun _ _ _ q => q) (k1 := 1) (k2 := 14) rfl rfl
  obtain ⟨h31q, p31_0, r31_wu⟩ := hQ31
  have Zs31 : n0 ≤ T31.heap.size := Nat.le_trans Zs28 h31q.1
  refine own_go (T' := T31) (f' := (mkF m 118 #[.val (.long q0), .second, .val (.int p1), .val (.int p2), .val (.int p3), .val (.long (own_VAL q0 p1 p2 p3)), .second, .val (.int (own_AT q0 p1 p2 p3)), .val (.int (own_FI q0 p1 p2 p3)), .val (.ref b1), .val (.int (own_F1 (own_VAL q0 p1 p2 p3))), .unset, .unset] [(.int r_31)])) (fun t k => st31 _ k) ?_
  have hok := own_ok q0 p1 p2 p3 hfill r31_wu
  refine own_go (T' := T31) (f' := (mkF m 153 #[.val (.long q0), .second, .val (.int p1), .val (.int p2), .val (.int p3), .val (.long (own_VAL q0 p1 p2 p3)), .second, .val (.int (own_AT q0 p1 p2 p3)), .val (.int (own_FI q0 p1 p2 p3)), .val (.ref b1), .val (.int (own_F1 (own_VAL q0 p1 p2 p3))), .val (.int r_31), .val (.int (1 : Int32))] [(.int (own_FI q0 p1 p2 p3)), (.int (own_F1 (own_VAL q0 p1 p2 p3))), (.int (own_AT q0 p1 p2 p3)), (.long (own_VAL q0 p1 p2 p3)), (.int (0 : Int32)), (.ref b1)])) (fun t k => ?_) ?_
  · show Steps p.tables e below (T31.setTop (mkF m 118 #[.val (.long q0), .second, .val (.int p1), .val (.int p2), .val (.int p3), .val (.long (own_VAL q0 p1 p2 p3)), .second, .val (.int (own_AT q0 p1 p2 p3)), .val (.int (own_FI q0 p1 p2 p3)), .val (.ref b1), .val (.int (own_F1 (own_VAL q0 p1 p2 p3))), .unset, .unset] [(.int r_31)])) _
    refine XS.istore X31.here hx rfl (hb hby at_118) rfl (l' := #[.val (.long q0), .second, .val (.int p1), .val (.int p2), .val (.int p3), .val (.long (own_VAL q0 p1 p2 p3)), .second, .val (.int (own_AT q0 p1 p2 p3)), .val (.int (own_FI q0 p1 p2 p3)), .val (.ref b1), .val (.int (own_F1 (own_VAL q0 p1 p2 p3))), .val (.int r_31), .unset]) rfl ?_
    show Steps p.tables e below (T31.setTop (mkF m 120 #[.val (.long q0), .second, .val (.int p1), .val (.int p2), .val (.int p3), .val (.long (own_VAL q0 p1 p2 p3)), .second, .val (.int (own_AT q0 p1 p2 p3)), .val (.int (own_FI q0 p1 p2 p3)), .val (.ref b1), .val (.int (own_F1 (own_VAL q0 p1 p2 p3))), .val (.int r_31), .unset] [])) _
    refine XS.iload X31.here hx rfl (hb hby at_120) rfl ?_
    show Steps p.tables e below (T31.setTop (mkF m 122 #[.val (.long q0), .second, .val (.int p1), .val (.int p2), .val (.int p3), .val (.long (own_VAL q0 p1 p2 p3)), .second, .val (.int (own_AT q0 p1 p2 p3)), .val (.int (own_FI q0 p1 p2 p3)), .val (.ref b1), .val (.int (own_F1 (own_VAL q0 p1 p2 p3))), .val (.int r_31), .unset] [(.int r_31)])) _
    refine XS.iload X31.here hx rfl (hb hby at_122) rfl ?_
    show Steps p.tables e below (T31.setTop (mkF m 124 #[.val (.long q0), .second, .val (.int p1), .val (.int p2), .val (.int p3), .val (.long (own_VAL q0 p1 p2 p3)), .second, .val (.int (own_AT q0 p1 p2 p3)), .val (.int (own_FI q0 p1 p2 p3)), .val (.ref b1), .val (.int (own_F1 (own_VAL q0 p1 p2 p3))), .val (.int r_31), .unset] [(.int (own_AT q0 p1 p2 p3)), (.int r_31)])) _
    refine XS.iload X31.here hx rfl (hb hby at_124) rfl ?_
    show Steps p.tables e below (T31.setTop (mkF m 126 #[.val (.long q0), .second, .val (.int p1), .val (.int p2), .val (.int p3), .val (.long (own_VAL q0 p1 p2 p3)), .second, .val (.int (own_AT q0 p1 p2 p3)), .val (.int (own_FI q0 p1 p2 p3)), .val (.ref b1), .val (.int (own_F1 (own_VAL q0 p1 p2 p3))), .val (.int r_31), .unset] [(.int (own_F1 (own_VAL q0 p1 p2 p3))), (.int (own_AT q0 p1 p2 p3)), (.int r_31)])) _
    refine XS.iadd X31.here hx rfl (hb hby at_126) rfl ?_
    show Steps p.tables e below (T31.setTop (mkF m 127 #[.val (.long q0), .second, .val (.int p1), .val (.int p2), .val (.int p3), .val (.long (own_VAL q0 p1 p2 p3)), .second, .val (.int (own_AT q0 p1 p2 p3)), .val (.int (own_FI q0 p1 p2 p3)), .val (.ref b1), .val (.int (own_F1 (own_VAL q0 p1 p2 p3))), .val (.int r_31), .unset] [(.int ((own_AT q0 p1 p2 p3) + (own_F1 (own_VAL q0 p1 p2 p3)))), (.int r_31)])) _
    refine XS.icmpNo X31.here hx rfl (hb hby at_127) rfl (teq hok.1).2 ?_
    show Steps p.tables e below (T31.setTop (mkF m 130 #[.val (.long q0), .second, .val (.int p1), .val (.int p2), .val (.int p3), .val (.long (own_VAL q0 p1 p2 p3)), .second, .val (.int (own_AT q0 p1 p2 p3)), .val (.int (own_FI q0 p1 p2 p3)), .val (.ref b1), .val (.int (own_F1 (own_VAL q0 p1 p2 p3))), .val (.int r_31), .unset] [])) _
    refine XS.iconst X31.here hx rfl (hb hby at_130) ?_
    show Steps p.tables e below (T31.setTop (mkF m 131 #[.val (.long q0), .second, .val (.int p1), .val (.int p2), .val (.int p3), .val (.long (own_VAL q0 p1 p2 p3)), .second, .val (.int (own_AT q0 p1 p2 p3)), .val (.int (own_FI q0 p1 p2 p3)), .val (.ref b1), .val (.int (own_F1 (own_VAL q0 p1 p2 p3))), .val (.int r_31), .unset] [(.int (1 : Int32))])) _
    refine XS.goto X31.here hx rfl (pc0 := 131) (pc' := 135) rfl (hb hby at_131) (by decide) (by decide) ?_
    show Steps p.tables e below (T31.setTop (mkF m 135 #[.val (.long q0), .second, .val (.int p1), .val (.int p2), .val (.int p3), .val (.long (own_VAL q0 p1 p2 p3)), .second, .val (.int (own_AT q0 p1 p2 p3)), .val (.int (own_FI q0 p1 p2 p3)), .val (.ref b1), .val (.int (own_F1 (own_VAL q0 p1 p2 p3))), .val (.int r_31), .unset] [(.int (1 : Int32))])) _
    refine XS.istore X31.here hx rfl (hb hby at_135) rfl (l' := #[.val (.long q0), .second, .val (.int p1), .val (.int p2), .val (.int p3), .val (.long (own_VAL q0 p1 p2 p3)), .second, .val (.int (own_AT q0 p1 p2 p3)), .val (.int (own_FI q0 p1 p2 p3)), .val (.ref b1), .val (.int (own_F1 (own_VAL q0 p1 p2 p3))), .val (.int r_31), .val (.int (1 : Int32))]) rfl ?_
    show Steps p.tables e below (T31.setTop (mkF m 137 #[.val (.long q0), .second, .val (.int p1), .val (.int p2), .val (.int p3), .val (.long (own_VAL q0 p1 p2 p3)), .second, .val (.int (own_AT q0 p1 p2 p3)), .val (.int (own_FI q0 p1 p2 p3)), .val (.ref b1), .val (.int (own_F1 (own_VAL q0 p1 p2 p3))), .val (.int r_31), .val (.int (1 : Int32))] [])) _
    refine XS.iload X31.here hx rfl (hb hby at_137) rfl ?_
    show Steps p.tables e below (T31.setTop (mkF m 139 #[.val (.long q0), .second, .val (.int p1), .val (.int p2), .val (.int p3), .val (.long (own_VAL q0 p1 p2 p3)), .second, .val (.int (own_AT q0 p1 p2 p3)), .val (.int (own_FI q0 p1 p2 p3)), .val (.ref b1), .val (.int (own_F1 (own_VAL q0 p1 p2 p3))), .val (.int r_31), .val (.int (1 : Int32))] [(.int (1 : Int32))])) _
    refine XS.ifNo X31.here hx rfl (hb hby at_139) rfl ((if0 _ _).trans (feq (by decide : ¬ ((1 : Int32) = (0 : Int32)))).1) ?_
    show Steps p.tables e below (T31.setTop (mkF m 142 #[.val (.long q0), .second, .val (.int p1), .val (.int p2), .val (.int p3), .val (.long (own_VAL q0 p1 p2 p3)), .second, .val (.int (own_AT q0 p1 p2 p3)), .val (.int (own_FI q0 p1 p2 p3)), .val (.ref b1), .val (.int (own_F1 (own_VAL q0 p1 p2 p3))), .val (.int r_31), .val (.int (1 : Int32))] [])) _
    refine XS.aload X31.here hx rfl (hb hby at_142) rfl rfl ?_
    show Steps p.tables e below (T31.setTop (mkF m 144 #[.val (.long q0), .second, .val (.int p1), .val (.int p2), .val (.int p3), .val (.long (own_VAL q0 p1 p2 p3)), .second, .val (.int (own_AT q0 p1 p2 p3)), .val (.int (own_FI q0 p1 p2 p3)), .val (.ref b1), .val (.int (own_F1 (own_VAL q0 p1 p2 p3))), .val (.int r_31), .val (.int (1 : Int32))] [(.ref b1)])) _
    refine XS.iconst X31.here hx rfl (hb hby at_144) ?_
    show Steps p.tables e below (T31.setTop (mkF m 145 #[.val (.long q0), .second, .val (.int p1), .val (.int p2), .val (.int p3), .val (.long (own_VAL q0 p1 p2 p3)), .second, .val (.int (own_AT q0 p1 p2 p3)), .val (.int (own_FI q0 p1 p2 p3)), .val (.ref b1), .val (.int (own_F1 (own_VAL q0 p1 p2 p3))), .val (.int r_31), .val (.int (1 : Int32))] [(.int (0 : Int32)), (.ref b1)])) _
    refine XS.lload X31.here hx rfl (hb hby at_145) rfl ?_
    show Steps p.tables e below (T31.setTop (mkF m 147 #[.val (.long q0), .second, .val (.int p1), .val (.int p2), .val (.int p3), .val (.long (own_VAL q0 p1 p2 p3)), .second, .val (.int (own_AT q0 p1 p2 p3)), .val (.int (own_FI q0 p1 p2 p3)), .val (.ref b1), .val (.int (own_F1 (own_VAL q0 p1 p2 p3))), .val (.int r_31), .val (.int (1 : Int32))] [(.long (own_VAL q0 p1 p2 p3)), (.int (0 : Int32)), (.ref b1)])) _
    refine XS.iload X31.here hx rfl (hb hby at_147) rfl ?_
    show Steps p.tables e below (T31.setTop (mkF m 149 #[.val (.long q0), .second, .val (.int p1), .val (.int p2), .val (.int p3), .val (.long (own_VAL q0 p1 p2 p3)), .second, .val (.int (own_AT q0 p1 p2 p3)), .val (.int (own_FI q0 p1 p2 p3)), .val (.ref b1), .val (.int (own_F1 (own_VAL q0 p1 p2 p3))), .val (.int r_31), .val (.int (1 : Int32))] [(.int (own_AT q0 p1 p2 p3)), (.long (own_VAL q0 p1 p2 p3)), (.int (0 : Int32)), (.ref b1)])) _
    refine XS.iload X31.here hx rfl (hb hby at_149) rfl ?_
    show Steps p.tables e below (T31.setTop (mkF m 151 #[.val (.long q0), .second, .val (.int p1), .val (.int p2), .val (.int p3), .val (.long (own_VAL q0 p1 p2 p3)), .second, .val (.int (own_AT q0 p1 p2 p3)), .val (.int (own_FI q0 p1 p2 p3)), .val (.ref b1), .val (.int (own_F1 (own_VAL q0 p1 p2 p3))), .val (.int r_31), .val (.int (1 : Int32))] [(.int (own_F1 (own_VAL q0 p1 p2 p3))), (.int (own_AT q0 p1 p2 p3)), (.long (own_VAL q0 p1 p2 p3)), (.int (0 : Int32)), (.ref b1)])) _
    refine XS.iload X31.here hx rfl (hb hby at_151) rfl ?_
    show Steps p.tables e below (T31.setTop (mkF m 153 #[.val (.long q0), .second, .val (.int p1), .val (.int p2), .val (.int p3), .val (.long (own_VAL q0 p1 p2 p3)), .second, .val (.int (own_AT q0 p1 p2 p3)), .val (.int (own_FI q0 p1 p2 p3)), .val (.ref b1), .val (.int (own_F1 (own_VAL q0 p1 p2 p3))), .val (.int r_31), .val (.int (1 : Int32))] [(.int (own_FI q0 p1 p2 p3)), (.int (own_F1 (own_VAL q0 p1 p2 p3))), (.int (own_AT q0 p1 p2 p3)), (.long (own_VAL q0 p1 p2 p3)), (.int (0 : Int32)), (.ref b1)])) _
    exact k
  obtain ⟨T32, Lq32, X32, N32, hQ32, st32⟩ := own_pf0 (vv := some (.int (own_F3 (0 : Int32) (own_VAL q0 p1 p2 p3) (own_AT q0 p1 p2 p3) (own_F1 (own_VAL q0 p1 p2 p3)) (own_FI q0 p1 p2 p3) (14 : Int32) f'_31))) N31 (Jvm.LawKit.callS X31 hx (y := (⟨"com/example/rowcast/rowcast/binary/Leb128WriteUnsignedPinLaw", "check", "([BIJIIB)Z"⟩ : MethodName)) hown (mvT hZ (hw _ (List.mem_of_getElem? (i := 10) rfl))) (mvT hZ (hw _ (List.mem_of_getElem? (i := 11) rfl))) (mvT hZ (hw _ (List.mem_of_getElem? (i := 3) rfl))) (mvT hZ (hw _ (List.mem_of_getElem? (i := 12) rfl))) (by decide) (backOf (W := 0) (own_rm3 l Z a0 hw [] b1 ((0 : Int32)) ((own_VAL q0 p1 p2 p3)) ((own_AT q0 p1 p2 p3)) ((own_F1 (own_VAL q0 p1 p2 p3))) ((own_FI q0 p1 p2 p3)) ((14 : Int32)) (f'_31) T31.heap n0 Zs31 p31_0 (by decide) (by decide)) hZ (hw _ (List.mem_of_getElem? (i := 12) rfl)) (hw _ (List.mem_of_getElem? (i := 3) rfl)) (by decide) (by decide)) (g := (mkF m 153 #[.val (.long q0), .second, .val (.int p1), .val (.int p2), .val (.int p3), .val (.long (own_VAL q0 p1 p2 p3)), .second, .val (.int (own_AT q0 p1 p2 p3)), .val (.int (own_FI q0 p1 p2 p3)), .val (.ref b1), .val (.int (own_F1 (own_VAL q0 p1 p2 p3))), .val (.int r_31), .val (.int (1 : Int32))] [(.int (own_FI q0 p1 p2 p3)), (.int (own_F1 (own_VAL q0 p1 p2 p3))), (.int (own_AT q0 p1 p2 p3)), (.long (own_VAL q0 p1 p2 p3)), (.int (0 : Int32)), (.ref b1)])) rfl (by rw [hml]; rfl) (argsL := [(.ref b1), (.int (0 : Int32)), (.long (own_VAL q0 p1 p2 p3)), (.int (own_AT q0 p1 p2 p3)), (.int (own_F1 (own_VAL q0 p1 p2 p3))), (.int (own_FI q0 p1 p2 p3))]) (rest := []) (lenOf own_pd2 rfl) rfl (by show 2 * 0 + _ ≤ _; exact Nat.le_of_eq rfl) (hb hby at_153) (fun _ _ => ⟨rfl, rfl, (by decide : 1 + 0 ≤ _), (by decide : 14 + 0 ≤ _)⟩)) (fun _ _ _ q => q) (k1 := 1) (k2 := 14) rfl rfl
  have h32q : T32.heap = T31.heap := hQ32
  refine own_go (T' := T32) (f' := (mkF m 156 #[.val (.long q0), .second, .val (.int p1), .val (.int p2), .val (.int p3), .val (.long (own_VAL q0 p1 p2 p3)), .second, .val (.int (own_AT q0 p1 p2 p3)), .val (.int (own_FI q0 p1 p2 p3)), .val (.ref b1), .val (.int (own_F1 (own_VAL q0 p1 p2 p3))), .val (.int r_31), .val (.int (1 : Int32))] [(.int (own_F3 (0 : Int32) (own_VAL q0 p1 p2 p3) (own_AT q0 p1 p2 p3) (own_F1 (own_VAL q0 p1 p2 p3)) (own_FI q0 p1 p2 p3) (14 : Int32) f'_31))])) (fun t k => st32 _ k) ?_
  refine own_go (T' := T32) (f' := (mkF m 182 #[.val (.long q0), .second, .val (.int p1), .val (.int p2), .val (.int p3), .val (.long (own_VAL q0 p1 p2 p3)), .second, .val (.int (own_AT q0 p1 p2 p3)), .val (.int (own_FI q0 p1 p2 p3)), .val (.ref b1), .val (.int (own_F1 (own_VAL q0 p1 p2 p3))), .val (.int r_31), .val (.int (1 : Int32))] [(.int (own_FI q0 p1 p2 p3)), (.int (own_F1 (own_VAL q0 p1 p2 p3))), (.int (own_AT q0 p1 p2 p3)), (.long (own_VAL q0 p1 p2 p3)), (.int (1 : Int32)), (.ref b1)])) (fun t k => ?_) ?_
  · show Steps p.tables e below (T32.setTop (mkF m 156 #[.val (.long q0), .second, .val (.int p1), .val (.int p2), .val (.int p3), .val (.long (own_VAL q0 p1 p2 p3)), .second, .val (.int (own_AT q0 p1 p2 p3)), .val (.int (own_FI q0 p1 p2 p3)), .val (.ref b1), .val (.int (own_F1 (own_VAL q0 p1 p2 p3))), .val (.int r_31), .val (.int (1 : Int32))] [(.int (own_F3 (0 : Int32) (own_VAL q0 p1 p2 p3) (own_AT q0 p1 p2 p3) (own_F1 (own_VAL q0 p1 p2 p3)) (own_FI q0 p1 p2 p3) (14 : Int32) f'_31))])) _
    refine XS.ifNo X32.here hx rfl (hb hby at_156) rfl ((if0 _ _).trans (feq (hok.2 (0 : Int32) (by decide) (by decide))).1) ?_
    show Steps p.tables e below (T32.setTop (mkF m 159 #[.val (.long q0), .second, .val (.int p1), .val (.int p2), .val (.int p3), .val (.long (own_VAL q0 p1 p2 p3)), .second, .val (.int (own_AT q0 p1 p2 p3)), .val (.int (own_FI q0 p1 p2 p3)), .val (.ref b1), .val (.int (own_F1 (own_VAL q0 p1 p2 p3))), .val (.int r_31), .val (.int (1 : Int32))] [])) _
    refine XS.iconst X32.here hx rfl (hb hby at_159) ?_
    show Steps p.tables e below (T32.setTop (mkF m 160 #[.val (.long q0), .second, .val (.int p1), .val (.int p2), .val (.int p3), .val (.long (own_VAL q0 p1 p2 p3)), .second, .val (.int (own_AT q0 p1 p2 p3)), .val (.int (own_FI q0 p1 p2 p3)), .val (.ref b1), .val (.int (own_F1 (own_VAL q0 p1 p2 p3))), .val (.int r_31), .val (.int (1 : Int32))] [(.int (1 : Int32))])) _
    refine XS.goto X32.here hx rfl (pc0 := 160) (pc' := 164) rfl (hb hby at_160) (by decide) (by decide) ?_
    show Steps p.tables e below (T32.setTop (mkF m 164 #[.val (.long q0), .second, .val (.int p1), .val (.int p2), .val (.int p3), .val (.long (own_VAL q0 p1 p2 p3)), .second, .val (.int (own_AT q0 p1 p2 p3)), .val (.int (own_FI q0 p1 p2 p3)), .val (.ref b1), .val (.int (own_F1 (own_VAL q0 p1 p2 p3))), .val (.int r_31), .val (.int (1 : Int32))] [(.int (1 : Int32))])) _
    refine XS.istore X32.here hx rfl (hb hby at_164) rfl (l' := #[.val (.long q0), .second, .val (.int p1), .val (.int p2), .val (.int p3), .val (.long (own_VAL q0 p1 p2 p3)), .second, .val (.int (own_AT q0 p1 p2 p3)), .val (.int (own_FI q0 p1 p2 p3)), .val (.ref b1), .val (.int (own_F1 (own_VAL q0 p1 p2 p3))), .val (.int r_31), .val (.int (1 : Int32))]) rfl ?_
    show Steps p.tables e below (T32.setTop (mkF m 166 #[.val (.long q0), .second, .val (.int p1), .val (.int p2), .val (.int p3), .val (.long (own_VAL q0 p1 p2 p3)), .second, .val (.int (own_AT q0 p1 p2 p3)), .val (.int (own_FI q0 p1 p2 p3)), .val (.ref b1), .val (.int (own_F1 (own_VAL q0 p1 p2 p3))), .val (.int r_31), .val (.int (1 : Int32))] [])) _
    refine XS.iload X32.here hx rfl (hb hby at_166) rfl ?_
    show Steps p.tables e below (T32.setTop (mkF m 168 #[.val (.long q0), .second, .val (.int p1), .val (.int p2), .val (.int p3), .val (.long (own_VAL q0 p1 p2 p3)), .second, .val (.int (own_AT q0 p1 p2 p3)), .val (.int (own_FI q0 p1 p2 p3)), .val (.ref b1), .val (.int (own_F1 (own_VAL q0 p1 p2 p3))), .val (.int r_31), .val (.int (1 : Int32))] [(.int (1 : Int32))])) _
    refine XS.ifNo X32.here hx rfl (hb hby at_168) rfl ((if0 _ _).trans (feq (by decide : ¬ ((1 : Int32) = (0 : Int32)))).1) ?_
    show Steps p.tables e below (T32.setTop (mkF m 171 #[.val (.long q0), .second, .val (.int p1), .val (.int p2), .val (.int p3), .val (.long (own_VAL q0 p1 p2 p3)), .second, .val (.int (own_AT q0 p1 p2 p3)), .val (.int (own_FI q0 p1 p2 p3)), .val (.ref b1), .val (.int (own_F1 (own_VAL q0 p1 p2 p3))), .val (.int r_31), .val (.int (1 : Int32))] [])) _
    refine XS.aload X32.here hx rfl (hb hby at_171) rfl rfl ?_
    show Steps p.tables e below (T32.setTop (mkF m 173 #[.val (.long q0), .second, .val (.int p1), .val (.int p2), .val (.int p3), .val (.long (own_VAL q0 p1 p2 p3)), .second, .val (.int (own_AT q0 p1 p2 p3)), .val (.int (own_FI q0 p1 p2 p3)), .val (.ref b1), .val (.int (own_F1 (own_VAL q0 p1 p2 p3))), .val (.int r_31), .val (.int (1 : Int32))] [(.ref b1)])) _
    refine XS.iconst X32.here hx rfl (hb hby at_173) ?_
    show Steps p.tables e below (T32.setTop (mkF m 174 #[.val (.long q0), .second, .val (.int p1), .val (.int p2), .val (.int p3), .val (.long (own_VAL q0 p1 p2 p3)), .second, .val (.int (own_AT q0 p1 p2 p3)), .val (.int (own_FI q0 p1 p2 p3)), .val (.ref b1), .val (.int (own_F1 (own_VAL q0 p1 p2 p3))), .val (.int r_31), .val (.int (1 : Int32))] [(.int (1 : Int32)), (.ref b1)])) _
    refine XS.lload X32.here hx rfl (hb hby at_174) rfl ?_
    show Steps p.tables e below (T32.setTop (mkF m 176 #[.val (.long q0), .second, .val (.int p1), .val (.int p2), .val (.int p3), .val (.long (own_VAL q0 p1 p2 p3)), .second, .val (.int (own_AT q0 p1 p2 p3)), .val (.int (own_FI q0 p1 p2 p3)), .val (.ref b1), .val (.int (own_F1 (own_VAL q0 p1 p2 p3))), .val (.int r_31), .val (.int (1 : Int32))] [(.long (own_VAL q0 p1 p2 p3)), (.int (1 : Int32)), (.ref b1)])) _
    refine XS.iload X32.here hx rfl (hb hby at_176) rfl ?_
    show Steps p.tables e below (T32.setTop (mkF m 178 #[.val (.long q0), .second, .val (.int p1), .val (.int p2), .val (.int p3), .val (.long (own_VAL q0 p1 p2 p3)), .second, .val (.int (own_AT q0 p1 p2 p3)), .val (.int (own_FI q0 p1 p2 p3)), .val (.ref b1), .val (.int (own_F1 (own_VAL q0 p1 p2 p3))), .val (.int r_31), .val (.int (1 : Int32))] [(.int (own_AT q0 p1 p2 p3)), (.long (own_VAL q0 p1 p2 p3)), (.int (1 : Int32)), (.ref b1)])) _
    refine XS.iload X32.here hx rfl (hb hby at_178) rfl ?_
    show Steps p.tables e below (T32.setTop (mkF m 180 #[.val (.long q0), .second, .val (.int p1), .val (.int p2), .val (.int p3), .val (.long (own_VAL q0 p1 p2 p3)), .second, .val (.int (own_AT q0 p1 p2 p3)), .val (.int (own_FI q0 p1 p2 p3)), .val (.ref b1), .val (.int (own_F1 (own_VAL q0 p1 p2 p3))), .val (.int r_31), .val (.int (1 : Int32))] [(.int (own_F1 (own_VAL q0 p1 p2 p3))), (.int (own_AT q0 p1 p2 p3)), (.long (own_VAL q0 p1 p2 p3)), (.int (1 : Int32)), (.ref b1)])) _
    refine XS.iload X32.here hx rfl (hb hby at_180) rfl ?_
    show Steps p.tables e below (T32.setTop (mkF m 182 #[.val (.long q0), .second, .val (.int p1), .val (.int p2), .val (.int p3), .val (.long (own_VAL q0 p1 p2 p3)), .second, .val (.int (own_AT q0 p1 p2 p3)), .val (.int (own_FI q0 p1 p2 p3)), .val (.ref b1), .val (.int (own_F1 (own_VAL q0 p1 p2 p3))), .val (.int r_31), .val (.int (1 : Int32))] [(.int (own_FI q0 p1 p2 p3)), (.int (own_F1 (own_VAL q0 p1 p2 p3))), (.int (own_AT q0 p1 p2 p3)), (.long (own_VAL q0 p1 p2 p3)), (.int (1 : Int32)), (.ref b1)])) _
    exact k
  obtain ⟨T33, Lq33, X33, N33, hQ33, st33⟩ := own_pf0 (vv := some (.int (own_F3 (1 : Int32) (own_VAL q0 p1 p2 p3) (own_AT q0 p1 p2 p3) (own_F1 (own_VAL q0 p1 p2 p3)) (own_FI q0 p1 p2 p3) (14 : Int32) f'_31))) N32 (Jvm.LawKit.callS X32 hx (y := (⟨"com/example/rowcast/rowcast/binary/Leb128WriteUnsignedPinLaw", "check", "([BIJIIB)Z"⟩ : MethodName)) hown (mvT hZ (hw _ (List.mem_of_getElem? (i := 10) rfl))) (mvT hZ (hw _ (List.mem_of_getElem? (i := 11) rfl))) (mvT hZ (hw _ (List.mem_of_getElem? (i := 3) rfl))) (mvT hZ (hw _ (List.mem_of_getElem? (i := 12) rfl))) (by decide) (backOf (W := 0) (own_rm3 l Z a0 hw [] b1 ((1 : Int32)) ((own_VAL q0 p1 p2 p3)) ((own_AT q0 p1 p2 p3)) ((own_F1 (own_VAL q0 p1 p2 p3))) ((own_FI q0 p1 p2 p3)) ((14 : Int32)) (f'_31) T31.heap n0 Zs31 p31_0 (by decide) (by decide)) hZ (hw _ (List.mem_of_getElem? (i := 12) rfl)) (hw _ (List.mem_of_getElem? (i := 3) rfl)) (by decide) (by decide)) (g := (mkF m 182 #[.val (.long q0), .second, .val (.int p1), .val (.int p2), .val (.int p3), .val (.long (own_VAL q0 p1 p2 p3)), .second, .val (.int (own_AT q0 p1 p2 p3)), .val (.int (own_FI q0 p1 p2 p3)), .val (.ref b1), .val (.int (own_F1 (own_VAL q0 p1 p2 p3))), .val (.int r_31), .val (.int (1 : Int32))] [(.int (own_FI q0 p1 p2 p3)), (.int (own_F1 (own_VAL q0 p1 p2 p3))), (.int (own_AT q0 p1 p2 p3)), (.long (own_VAL q0 p1 p2 p3)), (.int (1 : Int32)), (.ref b1)])) rfl (by rw [hml]; rfl) (argsL := [(.ref b1), (.int (1 : Int32)), (.long (own_VAL q0 p1 p2 p3)), (.int (own_AT q0 p1 p2 p3)), (.int (own_F1 (own_VAL q0 p1 p2 p3))), (.int (own_FI q0 p1 p2 p3))]) (rest := []) (lenOf own_pd2 rfl) rfl (by show 2 * 0 + _ ≤ _; exact Nat.le_of_eq rfl) (hb hby at_182) (fun _ _ => ⟨rfl, h32q, (by decide : 1 + 0 ≤ _), (by decide : 14 + 0 ≤ _)⟩)) (fun _ _ _ q => q) (k1 := 1) (k2 := 14) rfl rfl
  have h33q : T33.heap = T31.heap := hQ33
  refine own_go (T' := T33) (f' := (mkF m 185 #[.val (.long q0), .second, .val (.int p1), .val (.int p2), .val (.int p3), .val (.long (own_VAL q0 p1 p2 p3)), .second, .val (.int (own_AT q0 p1 p2 p3)), .val (.int (own_FI q0 p1 p2 p3)), .val (.ref b1), .val (.int (own_F1 (own_VAL q0 p1 p2 p3))), .val (.int r_31), .val (.int (1 : Int32))] [(.int (own_F3 (1 : Int32) (own_VAL q0 p1 p2 p3) (own_AT q0 p1 p2 p3) (own_F1 (own_VAL q0 p1 p2 p3)) (own_FI q0 p1 p2 p3) (14 : Int32) f'_31))])) (fun t k => st33 _ k) ?_
  refine own_go (T' := T33) (f' := (mkF m 211 #[.val (.long q0), .second, .val (.int p1), .val (.int p2), .val (.int p3), .val (.long (own_VAL q0 p1 p2 p3)), .second, .val (.int (own_AT q0 p1 p2 p3)), .val (.int (own_FI q0 p1 p2 p3)), .val (.ref b1), .val (.int (own_F1 (own_VAL q0 p1 p2 p3))), .val (.int r_31), .val (.int (1 : Int32))] [(.int (own_FI q0 p1 p2 p3)), (.int (own_F1 (own_VAL q0 p1 p2 p3))), (.int (own_AT q0 p1 p2 p3)), (.long (own_VAL q0 p1 p2 p3)), (.int (2 : Int32)), (.ref b1)])) (fun t k => ?_) ?_
  · show Steps p.tables e below (T33.setTop (mkF m 185 #[.val (.long q0), .second, .val (.int p1), .val (.int p2), .val (.int p3), .val (.long (own_VAL q0 p1 p2 p3)), .second, .val (.int (own_AT q0 p1 p2 p3)), .val (.int (own_FI q0 p1 p2 p3)), .val (.ref b1), .val (.int (own_F1 (own_VAL q0 p1 p2 p3))), .val (.int r_31), .val (.int (1 : Int32))] [(.int (own_F3 (1 : Int32) (own_VAL q0 p1 p2 p3) (own_AT q0 p1 p2 p3) (own_F1 (own_VAL q0 p1 p2 p3)) (own_FI q0 p1 p2 p3) (14 : Int32) f'_31))])) _
    refine XS.ifNo X33.here hx rfl (hb hby at_185) rfl ((if0 _ _).trans (feq (hok.2 (1 : Int32) (by decide) (by decide))).1) ?_
    show Steps p.tables e below (T33.setTop (mkF m 188 #[.val (.long q0), .second, .val (.int p1), .val (.int p2), .val (.int p3), .val (.long (own_VAL q0 p1 p2 p3)), .second, .val (.int (own_AT q0 p1 p2 p3)), .val (.int (own_FI q0 p1 p2 p3)), .val (.ref b1), .val (.int (own_F1 (own_VAL q0 p1 p2 p3))), .val (.int r_31), .val (.int (1 : Int32))] [])) _
    refine XS.iconst X33.here hx rfl (hb hby at_188) ?_
    show Steps p.tables e below (T33.setTop (mkF m 189 #[.val (.long q0), .second, .val (.int p1), .val (.int p2), .val (.int p3), .val (.long (own_VAL q0 p1 p2 p3)), .second, .val (.int (own_AT q0 p1 p2 p3)), .val (.int (own_FI q0 p1 p2 p3)), .val (.ref b1), .val (.int (own_F1 (own_VAL q0 p1 p2 p3))), .val (.int r_31), .val (.int (1 : Int32))] [(.int (1 : Int32))])) _
    refine XS.goto X33.here hx rfl (pc0 := 189) (pc' := 193) rfl (hb hby at_189) (by decide) (by decide) ?_
    show Steps p.tables e below (T33.setTop (mkF m 193 #[.val (.long q0), .second, .val (.int p1), .val (.int p2), .val (.int p3), .val (.long (own_VAL q0 p1 p2 p3)), .second, .val (.int (own_AT q0 p1 p2 p3)), .val (.int (own_FI q0 p1 p2 p3)), .val (.ref b1), .val (.int (own_F1 (own_VAL q0 p1 p2 p3))), .val (.int r_31), .val (.int (1 : Int32))] [(.int (1 : Int32))])) _
    refine XS.istore X33.here hx rfl (hb hby at_193) rfl (l' := #[.val (.long q0), .second, .val (.int p1), .val (.int p2), .val (.int p3), .val (.long (own_VAL q0 p1 p2 p3)), .second, .val (.int (own_AT q0 p1 p2 p3)), .val (.int (own_FI q0 p1 p2 p3)), .val (.ref b1), .val (.int (own_F1 (own_VAL q0 p1 p2 p3))), .val (.int r_31), .val (.int (1 : Int32))]) rfl ?_
    show Steps p.tables e below (T33.setTop (mkF m 195 #[.val (.long q0), .second, .val (.int p1), .val (.int p2), .val (.int p3), .val (.long (own_VAL q0 p1 p2 p3)), .second, .val (.int (own_AT q0 p1 p2 p3)), .val (.int (own_FI q0 p1 p2 p3)), .val (.ref b1), .val (.int (own_F1 (own_VAL q0 p1 p2 p3))), .val (.int r_31), .val (.int (1 : Int32))] [])) _
    refine XS.iload X33.here hx rfl (hb hby at_195) rfl ?_
    show Steps p.tables e below (T33.setTop (mkF m 197 #[.val (.long q0), .second, .val (.int p1), .val (.int p2), .val (.int p3), .val (.long (own_VAL q0 p1 p2 p3)), .second, .val (.int (own_AT q0 p1 p2 p3)), .val (.int (own_FI q0 p1 p2 p3)), .val (.ref b1), .val (.int (own_F1 (own_VAL q0 p1 p2 p3))), .val (.int r_31), .val (.int (1 : Int32))] [(.int (1 : Int32))])) _
    refine XS.ifNo X33.here hx rfl (hb hby at_197) rfl ((if0 _ _).trans (feq (by decide : ¬ ((1 : Int32) = (0 : Int32)))).1) ?_
    show Steps p.tables e below (T33.setTop (mkF m 200 #[.val (.long q0), .second, .val (.int p1), .val (.int p2), .val (.int p3), .val (.long (own_VAL q0 p1 p2 p3)), .second, .val (.int (own_AT q0 p1 p2 p3)), .val (.int (own_FI q0 p1 p2 p3)), .val (.ref b1), .val (.int (own_F1 (own_VAL q0 p1 p2 p3))), .val (.int r_31), .val (.int (1 : Int32))] [])) _
    refine XS.aload X33.here hx rfl (hb hby at_200) rfl rfl ?_
    show Steps p.tables e below (T33.setTop (mkF m 202 #[.val (.long q0), .second, .val (.int p1), .val (.int p2), .val (.int p3), .val (.long (own_VAL q0 p1 p2 p3)), .second, .val (.int (own_AT q0 p1 p2 p3)), .val (.int (own_FI q0 p1 p2 p3)), .val (.ref b1), .val (.int (own_F1 (own_VAL q0 p1 p2 p3))), .val (.int r_31), .val (.int (1 : Int32))] [(.ref b1)])) _
    refine XS.iconst X33.here hx rfl (hb hby at_202) ?_
    show Steps p.tables e below (T33.setTop (mkF m 203 #[.val (.long q0), .second, .val (.int p1), .val (.int p2), .val (.int p3), .val (.long (own_VAL q0 p1 p2 p3)), .second, .val (.int (own_AT q0 p1 p2 p3)), .val (.int (own_FI q0 p1 p2 p3)), .val (.ref b1), .val (.int (own_F1 (own_VAL q0 p1 p2 p3))), .val (.int r_31), .val (.int (1 : Int32))] [(.int (2 : Int32)), (.ref b1)])) _
    refine XS.lload X33.here hx rfl (hb hby at_203) rfl ?_
    show Steps p.tables e below (T33.setTop (mkF m 205 #[.val (.long q0), .second, .val (.int p1), .val (.int p2), .val (.int p3), .val (.long (own_VAL q0 p1 p2 p3)), .second, .val (.int (own_AT q0 p1 p2 p3)), .val (.int (own_FI q0 p1 p2 p3)), .val (.ref b1), .val (.int (own_F1 (own_VAL q0 p1 p2 p3))), .val (.int r_31), .val (.int (1 : Int32))] [(.long (own_VAL q0 p1 p2 p3)), (.int (2 : Int32)), (.ref b1)])) _
    refine XS.iload X33.here hx rfl (hb hby at_205) rfl ?_
    show Steps p.tables e below (T33.setTop (mkF m 207 #[.val (.long q0), .second, .val (.int p1), .val (.int p2), .val (.int p3), .val (.long (own_VAL q0 p1 p2 p3)), .second, .val (.int (own_AT q0 p1 p2 p3)), .val (.int (own_FI q0 p1 p2 p3)), .val (.ref b1), .val (.int (own_F1 (own_VAL q0 p1 p2 p3))), .val (.int r_31), .val (.int (1 : Int32))] [(.int (own_AT q0 p1 p2 p3)), (.long (own_VAL q0 p1 p2 p3)), (.int (2 : Int32)), (.ref b1)])) _
    refine XS.iload X33.here hx rfl (hb hby at_207) rfl ?_
    show Steps p.tables e below (T33.setTop (mkF m 209 #[.val (.long q0), .second, .val (.int p1), .val (.int p2), .val (.int p3), .val (.long (own_VAL q0 p1 p2 p3)), .second, .val (.int (own_AT q0 p1 p2 p3)), .val (.int (own_FI q0 p1 p2 p3)), .val (.ref b1), .val (.int (own_F1 (own_VAL q0 p1 p2 p3))), .val (.int r_31), .val (.int (1 : Int32))] [(.int (own_F1 (own_VAL q0 p1 p2 p3))), (.int (own_AT q0 p1 p2 p3)), (.long (own_VAL q0 p1 p2 p3)), (.int (2 : Int32)), (.ref b1)])) _
    refine XS.iload X33.here hx rfl (hb hby at_209) rfl ?_
    show Steps p.tables e below (T33.setTop (mkF m 211 #[.val (.long q0), .second, .val (.int p1), .val (.int p2), .val (.int p3), .val (.long (own_VAL q0 p1 p2 p3)), .second, .val (.int (own_AT q0 p1 p2 p3)), .val (.int (own_FI q0 p1 p2 p3)), .val (.ref b1), .val (.int (own_F1 (own_VAL q0 p1 p2 p3))), .val (.int r_31), .val (.int (1 : Int32))] [(.int (own_FI q0 p1 p2 p3)), (.int (own_F1 (own_VAL q0 p1 p2 p3))), (.int (own_AT q0 p1 p2 p3)), (.long (own_VAL q0 p1 p2 p3)), (.int (2 : Int32)), (.ref b1)])) _
    exact k
  obtain ⟨T34, Lq34, X34, N34, hQ34, st34⟩ := own_pf0 (vv := some (.int (own_F3 (2 : Int32) (own_VAL q0 p1 p2 p3) (own_AT q0 p1 p2 p3) (own_F1 (own_VAL q0 p1 p2 p3)) (own_FI q0 p1 p2 p3) (14 : Int32) f'_31))) N33 (Jvm.LawKit.callS X33 hx (y := (⟨"com/example/rowcast/rowcast/binary/Leb128WriteUnsignedPinLaw", "check", "([BIJIIB)Z"⟩ : MethodName)) hown (mvT hZ (hw _ (List.mem_of_getElem? (i := 10) rfl))) (mvT hZ (hw _ (List.mem_of_getElem? (i := 11) rfl))) (mvT hZ (hw _ (List.mem_of_getElem? (i := 3) rfl))) (mvT hZ (hw _ (List.mem_of_getElem? (i := 12) rfl))) (by decide) (backOf (W := 0) (own_rm3 l Z a0 hw [] b1 ((2 : Int32)) ((own_VAL q0 p1 p2 p3)) ((own_AT q0 p1 p2 p3)) ((own_F1 (own_VAL q0 p1 p2 p3))) ((own_FI q0 p1 p2 p3)) ((14 : Int32)) (f'_31) T31.heap n0 Zs31 p31_0 (by decide) (by decide)) hZ (hw _ (List.mem_of_getElem? (i := 12) rfl)) (hw _ (List.mem_of_getElem? (i := 3) rfl)) (by decide) (by decide)) (g := (mkF m 211 #[.val (.long q0), .second, .val (.int p1), .val (.int p2), .val (.int p3), .val (.long (own_VAL q0 p1 p2 p3)), .second, .val (.int (own_AT q0 p1 p2 p3)), .val (.int (own_FI q0 p1 p2 p3)), .val (.ref b1), .val (.int (own_F1 (own_VAL q0 p1 p2 p3))), .val (.int r_31), .val (.int (1 : Int32))] [(.int (own_FI q0 p1 p2 p3)), (.int (own_F1 (own_VAL q0 p1 p2 p3))), (.int (own_AT q0 p1 p2 p3)), (.long (own_VAL q0 p1 p2 p3)), (.int (2 : Int32)), (.ref b1)])) rfl (by rw [hml]; rfl) (argsL := [(.ref b1), (.int (2 : Int32)), (.long (own_VAL q0 p1 p2 p3)), (.int (own_AT q0 p1 p2 p3)), (.int (own_F1 (own_VAL q0 p1 p2 p3))), (.int (own_FI q0 p1 p2 p3))]) (rest := []) (lenOf own_pd2 rfl) rfl (by show 2 * 0 + _ ≤ _; exact Nat.le_of_eq rfl) (hb hby at_211) (fun _ _ => ⟨rfl, h33q, (by decide : 1 + 0 ≤ _), (by decide : 14 + 0 ≤ _)⟩)) (fun _ _ _ q => q) (k1 := 1) (k2 := 14) rfl rfl
  have h34q : T34.heap = T31.heap := hQ34
  refine own_go (T' := T34) (f' := (mkF m 214 #[.val (.long q0), .second, .val (.int p1), .val (.int p2), .val (.int p3), .val (.long (own_VAL q0 p1 p2 p3)), .second, .val (.int (own_AT q0 p1 p2 p3)), .val (.int (own_FI q0 p1 p2 p3)), .val (.ref b1), .val (.int (own_F1 (own_VAL q0 p1 p2 p3))), .val (.int r_31), .val (.int (1 : Int32))] [(.int (own_F3 (2 : Int32) (own_VAL q0 p1 p2 p3) (own_AT q0 p1 p2 p3) (own_F1 (own_VAL q0 p1 p2 p3)) (own_FI q0 p1 p2 p3) (14 : Int32) f'_31))])) (fun t k => st34 _ k) ?_
  refine own_go (T' := T34) (f' := (mkF m 240 #[.val (.long q0), .second, .val (.int p1), .val (.int p2), .val (.int p3), .val (.long (own_VAL q0 p1 p2 p3)), .second, .val (.int (own_AT q0 p1 p2 p3)), .val (.int (own_FI q0 p1 p2 p3)), .val (.ref b1), .val (.int (own_F1 (own_VAL q0 p1 p2 p3))), .val (.int r_31), .val (.int (1 : Int32))] [(.int (own_FI q0 p1 p2 p3)), (.int (own_F1 (own_VAL q0 p1 p2 p3))), (.int (own_AT q0 p1 p2 p3)), (.long (own_VAL q0 p1 p2 p3)), (.int (3 : Int32)), (.ref b1)])) (fun t k => ?_) ?_
  · show Steps p.tables e below (T34.setTop (mkF m 214 #[.val (.long q0), .second, .val (.int p1), .val (.int p2), .val (.int p3), .val (.long (own_VAL q0 p1 p2 p3)), .second, .val (.int (own_AT q0 p1 p2 p3)), .val (.int (own_FI q0 p1 p2 p3)), .val (.ref b1), .val (.int (own_F1 (own_VAL q0 p1 p2 p3))), .val (.int r_31), .val (.int (1 : Int32))] [(.int (own_F3 (2 : Int32) (own_VAL q0 p1 p2 p3) (own_AT q0 p1 p2 p3) (own_F1 (own_VAL q0 p1 p2 p3)) (own_FI q0 p1 p2 p3) (14 : Int32) f'_31))])) _
    refine XS.ifNo X34.here hx rfl (hb hby at_214) rfl ((if0 _ _).trans (feq (hok.2 (2 : Int32) (by decide) (by decide))).1) ?_
    show Steps p.tables e below (T34.setTop (mkF m 217 #[.val (.long q0), .second, .val (.int p1), .val (.int p2), .val (.int p3), .val (.long (own_VAL q0 p1 p2 p3)), .second, .val (.int (own_AT q0 p1 p2 p3)), .val (.int (own_FI q0 p1 p2 p3)), .val (.ref b1), .val (.int (own_F1 (own_VAL q0 p1 p2 p3))), .val (.int r_31), .val (.int (1 : Int32))] [])) _
    refine XS.iconst X34.here hx rfl (hb hby at_217) ?_
    show Steps p.tables e below (T34.setTop (mkF m 218 #[.val (.long q0), .second, .val (.int p1), .val (.int p2), .val (.int p3), .val (.long (own_VAL q0 p1 p2 p3)), .second, .val (.int (own_AT q0 p1 p2 p3)), .val (.int (own_FI q0 p1 p2 p3)), .val (.ref b1), .val (.int (own_F1 (own_VAL q0 p1 p2 p3))), .val (.int r_31), .val (.int (1 : Int32))] [(.int (1 : Int32))])) _
    refine XS.goto X34.here hx rfl (pc0 := 218) (pc' := 222) rfl (hb hby at_218) (by decide) (by decide) ?_
    show Steps p.tables e below (T34.setTop (mkF m 222 #[.val (.long q0), .second, .val (.int p1), .val (.int p2), .val (.int p3), .val (.long (own_VAL q0 p1 p2 p3)), .second, .val (.int (own_AT q0 p1 p2 p3)), .val (.int (own_FI q0 p1 p2 p3)), .val (.ref b1), .val (.int (own_F1 (own_VAL q0 p1 p2 p3))), .val (.int r_31), .val (.int (1 : Int32))] [(.int (1 : Int32))])) _
    refine XS.istore X34.here hx rfl (hb hby at_222) rfl (l' := #[.val (.long q0), .second, .val (.int p1), .val (.int p2), .val (.int p3), .val (.long (own_VAL q0 p1 p2 p3)), .second, .val (.int (own_AT q0 p1 p2 p3)), .val (.int (own_FI q0 p1 p2 p3)), .val (.ref b1), .val (.int (own_F1 (own_VAL q0 p1 p2 p3))), .val (.int r_31), .val (.int (1 : Int32))]) rfl ?_
    show Steps p.tables e below (T34.setTop (mkF m 224 #[.val (.long q0), .second, .val (.int p1), .val (.int p2), .val (.int p3), .val (.long (own_VAL q0 p1 p2 p3)), .second, .val (.int (own_AT q0 p1 p2 p3)), .val (.int (own_FI q0 p1 p2 p3)), .val (.ref b1), .val (.int (own_F1 (own_VAL q0 p1 p2 p3))), .val (.int r_31), .val (.int (1 : Int32))] [])) _
    refine XS.iload X34.here hx rfl (hb hby at_224) rfl ?_
    show Steps p.tables e below (T34.setTop (mkF m 226 #[.val (.long q0), .second, .val (.int p1), .val (.int p2), .val (.int p3), .val (.long (own_VAL q0 p1 p2 p3)), .second, .val (.int (own_AT q0 p1 p2 p3)), .val (.int (own_FI q0 p1 p2 p3)), .val (.ref b1), .val (.int (own_F1 (own_VAL q0 p1 p2 p3))), .val (.int r_31), .val (.int (1 : Int32))] [(.int (1 : Int32))])) _
    refine XS.ifNo X34.here hx rfl (hb hby at_226) rfl ((if0 _ _).trans (feq (by decide : ¬ ((1 : Int32) = (0 : Int32)))).1) ?_
    show Steps p.tables e below (T34.setTop (mkF m 229 #[.val (.long q0), .second, .val (.int p1), .val (.int p2), .val (.int p3), .val (.long (own_VAL q0 p1 p2 p3)), .second, .val (.int (own_AT q0 p1 p2 p3)), .val (.int (own_FI q0 p1 p2 p3)), .val (.ref b1), .val (.int (own_F1 (own_VAL q0 p1 p2 p3))), .val (.int r_31), .val (.int (1 : Int32))] [])) _
    refine XS.aload X34.here hx rfl (hb hby at_229) rfl rfl ?_
    show Steps p.tables e below (T34.setTop (mkF m 231 #[.val (.long q0), .second, .val (.int p1), .val (.int p2), .val (.int p3), .val (.long (own_VAL q0 p1 p2 p3)), .second, .val (.int (own_AT q0 p1 p2 p3)), .val (.int (own_FI q0 p1 p2 p3)), .val (.ref b1), .val (.int (own_F1 (own_VAL q0 p1 p2 p3))), .val (.int r_31), .val (.int (1 : Int32))] [(.ref b1)])) _
    refine XS.iconst X34.here hx rfl (hb hby at_231) ?_
    show Steps p.tables e below (T34.setTop (mkF m 232 #[.val (.long q0), .second, .val (.int p1), .val (.int p2), .val (.int p3), .val (.long (own_VAL q0 p1 p2 p3)), .second, .val (.int (own_AT q0 p1 p2 p3)), .val (.int (own_FI q0 p1 p2 p3)), .val (.ref b1), .val (.int (own_F1 (own_VAL q0 p1 p2 p3))), .val (.int r_31), .val (.int (1 : Int32))] [(.int (3 : Int32)), (.ref b1)])) _
    refine XS.lload X34.here hx rfl (hb hby at_232) rfl ?_
    show Steps p.tables e below (T34.setTop (mkF m 234 #[.val (.long q0), .second, .val (.int p1), .val (.int p2), .val (.int p3), .val (.long (own_VAL q0 p1 p2 p3)), .second, .val (.int (own_AT q0 p1 p2 p3)), .val (.int (own_FI q0 p1 p2 p3)), .val (.ref b1), .val (.int (own_F1 (own_VAL q0 p1 p2 p3))), .val (.int r_31), .val (.int (1 : Int32))] [(.long (own_VAL q0 p1 p2 p3)), (.int (3 : Int32)), (.ref b1)])) _
    refine XS.iload X34.here hx rfl (hb hby at_234) rfl ?_
    show Steps p.tables e below (T34.setTop (mkF m 236 #[.val (.long q0), .second, .val (.int p1), .val (.int p2), .val (.int p3), .val (.long (own_VAL q0 p1 p2 p3)), .second, .val (.int (own_AT q0 p1 p2 p3)), .val (.int (own_FI q0 p1 p2 p3)), .val (.ref b1), .val (.int (own_F1 (own_VAL q0 p1 p2 p3))), .val (.int r_31), .val (.int (1 : Int32))] [(.int (own_AT q0 p1 p2 p3)), (.long (own_VAL q0 p1 p2 p3)), (.int (3 : Int32)), (.ref b1)])) _
    refine XS.iload X34.here hx rfl (hb hby at_236) rfl ?_
    show Steps p.tables e below (T34.setTop (mkF m 238 #[.val (.long q0), .second, .val (.int p1), .val (.int p2), .val (.int p3), .val (.long (own_VAL q0 p1 p2 p3)), .second, .val (.int (own_AT q0 p1 p2 p3)), .val (.int (own_FI q0 p1 p2 p3)), .val (.ref b1), .val (.int (own_F1 (own_VAL q0 p1 p2 p3))), .val (.int r_31), .val (.int (1 : Int32))] [(.int (own_F1 (own_VAL q0 p1 p2 p3))), (.int (own_AT q0 p1 p2 p3)), (.long (own_VAL q0 p1 p2 p3)), (.int (3 : Int32)), (.ref b1)])) _
    refine XS.iload X34.here hx rfl (hb hby at_238) rfl ?_
    show Steps p.tables e below (T34.setTop (mkF m 240 #[.val (.long q0), .second, .val (.int p1), .val (.int p2), .val (.int p3), .val (.long (own_VAL q0 p1 p2 p3)), .second, .val (.int (own_AT q0 p1 p2 p3)), .val (.int (own_FI q0 p1 p2 p3)), .val (.ref b1), .val (.int (own_F1 (own_VAL q0 p1 p2 p3))), .val (.int r_31), .val (.int (1 : Int32))] [(.int (own_FI q0 p1 p2 p3)), (.int (own_F1 (own_VAL q0 p1 p2 p3))), (.int (own_AT q0 p1 p2 p3)), (.long (own_VAL q0 p1 p2 p3)), (.int (3 : Int32)), (.ref b1)])) _
    exact k
  obtain ⟨T35, Lq35, X35, N35, hQ35, st35⟩ := own_pf0 (vv := some (.int (own_F3 (3 : Int32) (own_VAL q0 p1 p2 p3) (own_AT q0 p1 p2 p3) (own_F1 (own_VAL q0 p1 p2 p3)) (own_FI q0 p1 p2 p3) (14 : Int32) f'_31))) N34 (Jvm.LawKit.callS X34 hx (y := (⟨"com/example/rowcast/rowcast/binary/Leb128WriteUnsignedPinLaw", "check", "([BIJIIB)Z"⟩ : MethodName)) hown (mvT hZ (hw _ (List.mem_of_getElem? (i := 10) rfl))) (mvT hZ (hw _ (List.mem_of_getElem? (i := 11) rfl))) (mvT hZ (hw _ (List.mem_of_getElem? (i := 3) rfl))) (mvT hZ (hw _ (List.mem_of_getElem? (i := 12) rfl))) (by decide) (backOf (W := 0) (own_rm3 l Z a0 hw [] b1 ((3 : Int32)) ((own_VAL q0 p1 p2 p3)) ((own_AT q0 p1 p2 p3)) ((own_F1 (own_VAL q0 p1 p2 p3))) ((own_FI q0 p1 p2 p3)) ((14 : Int32)) (f'_31) T31.heap n0 Zs31 p31_0 (by decide) (by decide)) hZ (hw _ (List.mem_of_getElem? (i := 12) rfl)) (hw _ (List.mem_of_getElem? (i := 3) rfl)) (by decide) (by decide)) (g := (mkF m 240 #[.val (.long q0), .second, .val (.int p1), .val (.int p2), .val (.int p3), .val (.long (own_VAL q0 p1 p2 p3)), .second, .val (.int (own_AT q0 p1 p2 p3)), .val (.int (own_FI q0 p1 p2 p3)), .val (.ref b1), .val (.int (own_F1 (own_VAL q0 p1 p2 p3))), .val (.int r_31), .val (.int (1 : Int32))] [(.int (own_FI q0 p1 p2 p3)), (.int (own_F1 (own_VAL q0 p1 p2 p3))), (.int (own_AT q0 p1 p2 p3)), (.long (own_VAL q0 p1 p2 p3)), (.int (3 : Int32)), (.ref b1)])) rfl (by rw [hml]; rfl) (argsL := [(.ref b1), (.int (3 : Int32)), (.long (own_VAL q0 p1 p2 p3)), (.int (own_AT q0 p1 p2 p3)), (.int (own_F1 (own_VAL q0 p1 p2 p3))), (.int (own_FI q0 p1 p2 p3))]) (rest := []) (lenOf own_pd2 rfl) rfl (by show 2 * 0 + _ ≤ _; exact Nat.le_of_eq rfl) (hb hby at_240) (fun _ _ => ⟨rfl, h34q, (by decide : 1 + 0 ≤ _), (by decide : 14 + 0 ≤ _)⟩)) (fun _ _ _ q => q) (k1 := 1) (k2 := 14) rfl rfl
  have h35q : T35.heap = T31.heap := hQ35
  refine own_go (T' := T35) (f' := (mkF m 243 #[.val (.long q0), .second, .val (.int p1), .val (.int p2), .val (.int p3), .val (.long (own_VAL q0 p1 p2 p3)), .second, .val (.int (own_AT q0 p1 p2 p3)), .val (.int (own_FI q0 p1 p2 p3)), .val (.ref b1), .val (.int (own_F1 (own_VAL q0 p1 p2 p3))), .val (.int r_31), .val (.int (1 : Int32))] [(.int (own_F3 (3 : Int32) (own_VAL q0 p1 p2 p3) (own_AT q0 p1 p2 p3) (own_F1 (own_VAL q0 p1 p2 p3)) (own_FI q0 p1 p2 p3) (14 : Int32) f'_31))])) (fun t k => st35 _ k) ?_
  refine own_go (T' := T35) (f' := (mkF m 269 #[.val (.long q0), .second, .val (.int p1), .val (.int p2), .val (.int p3), .val (.long (own_VAL q0 p1 p2 p3)), .second, .val (.int (own_AT q0 p1 p2 p3)), .val (.int (own_FI q0 p1 p2 p3)), .val (.ref b1), .val (.int (own_F1 (own_VAL q0 p1 p2 p3))), .val (.int r_31), .val (.int (1 : Int32))] [(.int (own_FI q0 p1 p2 p3)), (.int (own_F1 (own_VAL q0 p1 p2 p3))), (.int (own_AT q0 p1 p2 p3)), (.long (own_VAL q0 p1 p2 p3)), (.int (4 : Int32)), (.ref b1)])) (fun t k => ?_) ?_
  · show Steps p.tables e below (T35.setTop (mkF m 243 #[.val (.long q0), .second, .val (.int p1), .val (.int p2), .val (.int p3), .val (.long (own_VAL q0 p1 p2 p3)), .second, .val (.int (own_AT q0 p1 p2 p3)), .val (.int (own_FI q0 p1 p2 p3)), .val (.ref b1), .val (.int (own_F1 (own_VAL q0 p1 p2 p3))), .val (.int r_31), .val (.int (1 : Int32))] [(.int (own_F3 (3 : Int32) (own_VAL q0 p1 p2 p3) (own_AT q0 p1 p2 p3) (own_F1 (own_VAL q0 p1 p2 p3)) (own_FI q0 p1 p2 p3) (14 : Int32) f'_31))])) _
    refine XS.ifNo X35.here hx rfl (hb hby at_243) rfl ((if0 _ _).trans (feq (hok.2 (3 : Int32) (by decide) (by decide))).1) ?_
    show Steps p.tables e below (T35.setTop (mkF m 246 #[.val (.long q0), .second, .val (.int p1), .val (.int p2), .val (.int p3), .val (.long (own_VAL q0 p1 p2 p3)), .second, .val (.int (own_AT q0 p1 p2 p3)), .val (.int (own_FI q0 p1 p2 p3)), .val (.ref b1), .val (.int (own_F1 (own_VAL q0 p1 p2 p3))), .val (.int r_31), .val (.int (1 : Int32))] [])) _
    refine XS.iconst X35.here hx rfl (hb hby at_246) ?_
    show Steps p.tables e below (T35.setTop (mkF m 247 #[.val (.long q0), .second, .val (.int p1), .val (.int p2), .val (.int p3), .val (.long (own_VAL q0 p1 p2 p3)), .second, .val (.int (own_AT q0 p1 p2 p3)), .val (.int (own_FI q0 p1 p2 p3)), .val (.ref b1), .val (.int (own_F1 (own_VAL q0 p1 p2 p3))), .val (.int r_31), .val (.int (1 : Int32))] [(.int (1 : Int32))])) _
    refine XS.goto X35.here hx rfl (pc0 := 247) (pc' := 251) rfl (hb hby at_247) (by decide) (by decide) ?_
    show Steps p.tables e below (T35.setTop (mkF m 251 #[.val (.long q0), .second, .val (.int p1), .val (.int p2), .val (.int p3), .val (.long (own_VAL q0 p1 p2 p3)), .second, .val (.int (own_AT q0 p1 p2 p3)), .val (.int (own_FI q0 p1 p2 p3)), .val (.ref b1), .val (.int (own_F1 (own_VAL q0 p1 p2 p3))), .val (.int r_31), .val (.int (1 : Int32))] [(.int (1 : Int32))])) _
    refine XS.istore X35.here hx rfl (hb hby at_251) rfl (l' := #[.val (.long q0), .second, .val (.int p1), .val (.int p2), .val (.int p3), .val (.long (own_VAL q0 p1 p2 p3)), .second, .val (.int (own_AT q0 p1 p2 p3)), .val (.int (own_FI q0 p1 p2 p3)), .val (.ref b1), .val (.int (own_F1 (own_VAL q0 p1 p2 p3))), .val (.int r_31), .val (.int (1 : Int32))]) rfl ?_
    show Steps p.tables e below (T35.setTop (mkF m 253 #[.val (.long q0), .second, .val (.int p1), .val (.int p2), .val (.int p3), .val (.long (own_VAL q0 p1 p2 p3)), .second, .val (.int (own_AT q0 p1 p2 p3)), .val (.int (own_FI q0 p1 p2 p3)), .val (.ref b1), .val (.int (own_F1 (own_VAL q0 p1 p2 p3))), .val (.int r_31), .val (.int (1 : Int32))] [])) _
    refine XS.iload X35.here hx rfl (hb hby at_253) rfl ?_
    show Steps p.tables e below (T35.setTop (mkF m 255 #[.val (.long q0), .second, .val (.int p1), .val (.int p2), .val (.int p3), .val (.long (own_VAL q0 p1 p2 p3)), .second, .val (.int (own_AT q0 p1 p2 p3)), .val (.int (own_FI q0 p1 p2 p3)), .val (.ref b1), .val (.int (own_F1 (own_VAL q0 p1 p2 p3))), .val (.int r_31), .val (.int (1 : Int32))] [(.int (1 : Int32))])) _
    refine XS.ifNo X35.here hx rfl (hb hby at_255) rfl ((if0 _ _).trans (feq (by decide : ¬ ((1 : Int32) = (0 : Int32)))).1) ?_
    show Steps p.tables e below (T35.setTop (mkF m 258 #[.val (.long q0), .second, .val (.int p1), .val (.int p2), .val (.int p3), .val (.long (own_VAL q0 p1 p2 p3)), .second, .val (.int (own_AT q0 p1 p2 p3)), .val (.int (own_FI q0 p1 p2 p3)), .val (.ref b1), .val (.int (own_F1 (own_VAL q0 p1 p2 p3))), .val (.int r_31), .val (.int (1 : Int32))] [])) _
    refine XS.aload X35.here hx rfl (hb hby at_258) rfl rfl ?_
    show Steps p.tables e below (T35.setTop (mkF m 260 #[.val (.long q0), .second, .val (.int p1), .val (.int p2), .val (.int p3), .val (.long (own_VAL q0 p1 p2 p3)), .second, .val (.int (own_AT q0 p1 p2 p3)), .val (.int (own_FI q0 p1 p2 p3)), .val (.ref b1), .val (.int (own_F1 (own_VAL q0 p1 p2 p3))), .val (.int r_31), .val (.int (1 : Int32))] [(.ref b1)])) _
    refine XS.iconst X35.here hx rfl (hb hby at_260) ?_
    show Steps p.tables e below (T35.setTop (mkF m 261 #[.val (.long q0), .second, .val (.int p1), .val (.int p2), .val (.int p3), .val (.long (own_VAL q0 p1 p2 p3)), .second, .val (.int (own_AT q0 p1 p2 p3)), .val (.int (own_FI q0 p1 p2 p3)), .val (.ref b1), .val (.int (own_F1 (own_VAL q0 p1 p2 p3))), .val (.int r_31), .val (.int (1 : Int32))] [(.int (4 : Int32)), (.ref b1)])) _
    refine XS.lload X35.here hx rfl (hb hby at_261) rfl ?_
    show Steps p.tables e below (T35.setTop (mkF m 263 #[.val (.long q0), .second, .val (.int p1), .val (.int p2), .val (.int p3), .val (.long (own_VAL q0 p1 p2 p3)), .second, .val (.int (own_AT q0 p1 p2 p3)), .val (.int (own_FI q0 p1 p2 p3)), .val (.ref b1), .val (.int (own_F1 (own_VAL q0 p1 p2 p3))), .val (.int r_31), .val (.int (1 : Int32))] [(.long (own_VAL q0 p1 p2 p3)), (.int (4 : Int32)), (.ref b1)])) _
    refine XS.iload X35.here hx rfl (hb hby at_263) rfl ?_
    show Steps p.tables e below (T35.setTop (mkF m 265 #[.val (.long q0), .second, .val (.int p1), .val (.int p2), .val (.int p3), .val (.long (own_VAL q0 p1 p2 p3)), .second, .val (.int (own_AT q0 p1 p2 p3)), .val (.int (own_FI q0 p1 p2 p3)), .val (.ref b1), .val (.int (own_F1 (own_VAL q0 p1 p2 p3))), .val (.int r_31), .val (.int (1 : Int32))] [(.int (own_AT q0 p1 p2 p3)), (.long (own_VAL q0 p1 p2 p3)), (.int (4 : Int32)), (.ref b1)])) _
    refine XS.iload X35.here hx rfl (hb hby at_265) rfl ?_
    show Steps p.tables e below (T35.setTop (mkF m 267 #[.val (.long q0), .second, .val (.int p1), .val (.int p2), .val (.int p3), .val (.long (own_VAL q0 p1 p2 p3)), .second, .val (.int (own_AT q0 p1 p2 p3)), .val (.int (own_FI q0 p1 p2 p3)), .val (.ref b1), .val (.int (own_F1 (own_VAL q0 p1 p2 p3))), .val (.int r_31), .val (.int (1 : Int32))] [(.int (own_F1 (own_VAL q0 p1 p2 p3))), (.int (own_AT q0 p1 p2 p3)), (.long (own_VAL q0 p1 p2 p3)), (.int (4 : Int32)), (.ref b1)])) _
    refine XS.iload X35.here hx rfl (hb hby at_267) rfl ?_
    show Steps p.tables e below (T35.setTop (mkF m 269 #[.val (.long q0), .second, .val (.int p1), .val (.int p2), .val (.int p3), .val (.long (own_VAL q0 p1 p2 p3)), .second, .val (.int (own_AT q0 p1 p2 p3)), .val (.int (own_FI q0 p1 p2 p3)), .val (.ref b1), .val (.int (own_F1 (own_VAL q0 p1 p2 p3))), .val (.int r_31), .val (.int (1 : Int32))] [(.int (own_FI q0 p1 p2 p3)), (.int (own_F1 (own_VAL q0 p1 p2 p3))), (.int (own_AT q0 p1 p2 p3)), (.long (own_VAL q0 p1 p2 p3)), (.int (4 : Int32)), (.ref b1)])) _
    exact k
  obtain ⟨T36, Lq36, X36, N36, hQ36, st36⟩ := own_pf0 (vv := some (.int (own_F3 (4 : Int32) (own_VAL q0 p1 p2 p3) (own_AT q0 p1 p2 p3) (own_F1 (own_VAL q0 p1 p2 p3)) (own_FI q0 p1 p2 p3) (14 : Int32) f'_31))) N35 (Jvm.LawKit.callS X35 hx (y := (⟨"com/example/rowcast/rowcast/binary/Leb128WriteUnsignedPinLaw", "check", "([BIJIIB)Z"⟩ : MethodName)) hown (mvT hZ (hw _ (List.mem_of_getElem? (i := 10) rfl))) (mvT hZ (hw _ (List.mem_of_getElem? (i := 11) rfl))) (mvT hZ (hw _ (List.mem_of_getElem? (i := 3) rfl))) (mvT hZ (hw _ (List.mem_of_getElem? (i := 12) rfl))) (by decide) (backOf (W := 0) (own_rm3 l Z a0 hw [] b1 ((4 : Int32)) ((own_VAL q0 p1 p2 p3)) ((own_AT q0 p1 p2 p3)) ((own_F1 (own_VAL q0 p1 p2 p3))) ((own_FI q0 p1 p2 p3)) ((14 : Int32)) (f'_31) T31.heap n0 Zs31 p31_0 (by decide) (by decide)) hZ (hw _ (List.mem_of_getElem? (i := 12) rfl)) (hw _ (List.mem_of_getElem? (i := 3) rfl)) (by decide) (by decide)) (g := (mkF m 269 #[.val (.long q0), .second, .val (.int p1), .val (.int p2), .val (.int p3), .val (.long (own_VAL q0 p1 p2 p3)), .second, .val (.int (own_AT q0 p1 p2 p3)), .val (.int (own_FI q0 p1 p2 p3)), .val (.ref b1), .val (.int (own_F1 (own_VAL q0 p1 p2 p3))), .val (.int r_31), .val (.int (1 : Int32))] [(.int (own_FI q0 p1 p2 p3)), (.int (own_F1 (own_VAL q0 p1 p2 p3))), (.int (own_AT q0 p1 p2 p3)), (.long (own_VAL q0 p1 p2 p3)), (.int (4 : Int32)), (.ref b1)])) rfl (by rw [hml]; rfl) (argsL := [(.ref b1), (.int (4 : Int32)), (.long (own_VAL q0 p1 p2 p3)), (.int (own_AT q0 p1 p2 p3)), (.int (own_F1 (own_VAL q0 p1 p2 p3))), (.int (own_FI q0 p1 p2 p3))]) (rest := []) (lenOf own_pd2 rfl) rfl (by show 2 * 0 + _ ≤ _; exact Nat.le_of_eq rfl) (hb hby at_269) (fun _ _ => ⟨rfl, h35q, (by decide : 1 + 0 ≤ _), (by decide : 14 + 0 ≤ _)⟩)) (fun _ _ _ q => q) (k1 := 1) (k2 := 14) rfl rfl
  have h36q : T36.heap = T31.heap := hQ36
  refine own_go (T' := T36) (f' := (mkF m 272 #[.val (.long q0), .second, .val (.int p1), .val (.int p2), .val (.int p3), .val (.long (own_VAL q0 p1 p2 p3)), .second, .val (.int (own_AT q0 p1 p2 p3)), .val (.int (own_FI q0 p1 p2 p3)), .val (.ref b1), .val (.int (own_F1 (own_VAL q0 p1 p2 p3))), .val (.int r_31), .val (.int (1 : Int32))] [(.int (own_F3 (4 : Int32) (own_VAL q0 p1 p2 p3) (own_AT q0 p1 p2 p3) (own_F1 (own_VAL q0 p1 p2 p3)) (own_FI q0 p1 p2 p3) (14 : Int32) f'_31))])) (fun t k => st36 _ k) ?_
  refine own_go (T' := T36) (f' := (mkF m 298 #[.val (.long q0), .second, .val (.int p1), .val (.int p2), .val (.int p3), .val (.long (own_VAL q0 p1 p2 p3)), .second, .val (.int (own_AT q0 p1 p2 p3)), .val (.int (own_FI q0 p1 p2 p3)), .val (.ref b1), .val (.int (own_F1 (own_VAL q0 p1 p2 p3))), .val (.int r_31), .val (.int (1 : Int32))] [(.int (own_FI q0 p1 p2 p3)), (.int (own_F1 (own_VAL q0 p1 p2 p3))), (.int (own_AT q0 p1 p2 p3)), (.long (own_VAL q0 p1 p2 p3)), (.int (5 : Int32)), (.ref b1)])) (fun t k => ?_) ?_
  · show Steps p.tables e below (T36.setTop (mkF m 272 #[.val (.long q0), .second, .val (.int p1), .val (.int p2), .val (.int p3), .val (.long (own_VAL q0 p1 p2 p3)), .second, .val (.int (own_AT q0 p1 p2 p3)), .val (.int (own_FI q0 p1 p2 p3)), .val (.ref b1), .val (.int (own_F1 (own_VAL q0 p1 p2 p3))), .val (.int r_31), .val (.int (1 : Int32))] [(.int (own_F3 (4 : Int32) (own_VAL q0 p1 p2 p3) (own_AT q0 p1 p2 p3) (own_F1 (own_VAL q0 p1 p2 p3)) (own_FI q0 p1 p2 p3) (14 : Int32) f'_31))])) _
    refine XS.ifNo X36.here hx rfl (hb hby at_272) rfl ((if0 _ _).trans (feq (hok.2 (4 : Int32) (by decide) (by decide))).1) ?_
    show Steps p.tables e below (T36.setTop (mkF m 275 #[.val (.long q0), .second, .val (.int p1), .val (.int p2), .val (.int p3), .val (.long (own_VAL q0 p1 p2 p3)), .second, .val (.int (own_AT q0 p1 p2 p3)), .val (.int (own_FI q0 p1 p2 p3)), .val (.ref b1), .val (.int (own_F1 (own_VAL q0 p1 p2 p3))), .val (.int r_31), .val (.int (1 : Int32))] [])) _
    refine XS.iconst X36.here hx rfl (hb hby at_275) ?_
    show Steps p.tables e below (T36.setTop (mkF m 276 #[.val (.long q0), .second, .val (.int p1), .val (.int p2), .val (.int p3), .val (.long (own_VAL q0 p1 p2 p3)), .second, .val (.int (own_AT q0 p1 p2 p3)), .val (.int (own_FI q0 p1 p2 p3)), .val (.ref b1), .val (.int (own_F1 (own_VAL q0 p1 p2 p3))), .val (.int r_31), .val (.int (1 : Int32))] [(.int (1 : Int32))])) _
    refine XS.goto X36.here hx rfl (pc0 := 276) (pc' := 280) rfl (hb hby at_276) (by decide) (by decide) ?_
    show Steps p.tables e below (T36.setTop (mkF m 280 #[.val (.long q0), .second, .val (.int p1), .val (.int p2), .val (.int p3), .val (.long (own_VAL q0 p1 p2 p3)), .second, .val (.int (own_AT q0 p1 p2 p3)), .val (.int (own_FI q0 p1 p2 p3)), .val (.ref b1), .val (.int (own_F1 (own_VAL q0 p1 p2 p3))), .val (.int r_31), .val (.int (1 : Int32))] [(.int (1 : Int32))])) _
    refine XS.istore X36.here hx rfl (hb hby at_280) rfl (l' := #[.val (.long q0), .second, .val (.int p1), .val (.int p2), .val (.int p3), .val (.long (own_VAL q0 p1 p2 p3)), .second, .val (.int (own_AT q0 p1 p2 p3)), .val (.int (own_FI q0 p1 p2 p3)), .val (.ref b1), .val (.int (own_F1 (own_VAL q0 p1 p2 p3))), .val (.int r_31), .val (.int (1 : Int32))]) rfl ?_
    show Steps p.tables e below (T36.setTop (mkF m 282 #[.val (.long q0), .second, .val (.int p1), .val (.int p2), .val (.int p3), .val (.long (own_VAL q0 p1 p2 p3)), .second, .val (.int (own_AT q0 p1 p2 p3)), .val (.int (own_FI q0 p1 p2 p3)), .val (.ref b1), .val (.int (own_F1 (own_VAL q0 p1 p2 p3))), .val (.int r_31), .val (.int (1 : Int32))] [])) _
    refine XS.iload X36.here hx rfl (hb hby at_282) rfl ?_
    show Steps p.tables e below (T36.setTop (mkF m 284 #[.val (.long q0), .second, .val (.int p1), .val (.int p2), .val (.int p3), .val (.long (own_VAL q0 p1 p2 p3)), .second, .val (.int (own_AT q0 p1 p2 p3)), .val (.int (own_FI q0 p1 p2 p3)), .val (.ref b1), .val (.int (own_F1 (own_VAL q0 p1 p2 p3))), .val (.int r_31), .val (.int (1 : Int32))] [(.int (1 : Int32))])) _
    refine XS.ifNo X36.here hx rfl (hb hby at_284) rfl ((if0 _ _).trans (feq (by decide : ¬ ((1 : Int32) = (0 : Int32)))).1) ?_
    show Steps p.tables e below (T36.setTop (mkF m 287 #[.val (.long q0), .second, .val (.int p1), .val (.int p2), .val (.int p3), .val (.long (own_VAL q0 p1 p2 p3)), .second, .val (.int (own_AT q0 p1 p2 p3)), .val (.int (own_FI q0 p1 p2 p3)), .val (.ref b1), .val (.int (own_F1 (own_VAL q0 p1 p2 p3))), .val (.int r_31), .val (.int (1 : Int32))] [])) _
    refine XS.aload X36.here hx rfl (hb hby at_287) rfl rfl ?_
    show Steps p.tables e below (T36.setTop (mkF m 289 #[.val (.long q0), .second, .val (.int p1), .val (.int p2), .val (.int p3), .val (.long (own_VAL q0 p1 p2 p3)), .second, .val (.int (own_AT q0 p1 p2 p3)), .val (.int (own_FI q0 p1 p2 p3)), .val (.ref b1), .val (.int (own_F1 (own_VAL q0 p1 p2 p3))), .val (.int r_31), .val (.int (1 : Int32))] [(.ref b1)])) _
    refine XS.iconst X36.here hx rfl (hb hby at_289) ?_
    show Steps p.tables e below (T36.setTop (mkF m 290 #[.val (.long q0), .second, .val (.int p1), .val (.int p2), .val (.int p3), .val (.long (own_VAL q0 p1 p2 p3)), .second, .val (.int (own_AT q0 p1 p2 p3)), .val (.int (own_FI q0 p1 p2 p3)), .val (.ref b1), .val (.int (own_F1 (own_VAL q0 p1 p2 p3))), .val (.int r_31), .val (.int (1 : Int32))] [(.int (5 : Int32)), (.ref b1)])) _
    refine XS.lload X36.here hx rfl (hb hby at_290) rfl ?_
    show Steps p.tables e below (T36.setTop (mkF m 292 #[.val (.long q0), .second, .val (.int p1), .val (.int p2), .val (.int p3), .val (.long (own_VAL q0 p1 p2 p3)), .second, .val (.int (own_AT q0 p1 p2 p3)), .val (.int (own_FI q0 p1 p2 p3)), .val (.ref b1), .val (.int (own_F1 (own_VAL q0 p1 p2 p3))), .val (.int r_31), .val (.int (1 : Int32))] [(.long (own_VAL q0 p1 p2 p3)), (.int (5 : Int32)), (.ref b1)])) _
    refine XS.iload X36.here hx rfl (hb hby at_292) rfl ?_
    show Steps p.tables e below (T36.setTop (mkF m 294 #[.val (.long q0), .second, .val (.int p1), .val (.int p2), .val (.int p3), .val (.long (own_VAL q0 p1 p2 p3)), .second, .val (.int (own_AT q0 p1 p2 p3)), .val (.int (own_FI q0 p1 p2 p3)), .val (.ref b1), .val (.int (own_F1 (own_VAL q0 p1 p2 p3))), .val (.int r_31), .val (.int (1 : Int32))] [(.int (own_AT q0 p1 p2 p3)), (.long (own_VAL q0 p1 p2 p3)), (.int (5 : Int32)), (.ref b1)])) _
    refine XS.iload X36.here hx rfl (hb hby at_294) rfl ?_
    show Steps p.tables e below (T36.setTop (mkF m 296 #[.val (.long q0), .second, .val (.int p1), .val (.int p2), .val (.int p3), .val (.long (own_VAL q0 p1 p2 p3)), .second, .val (.int (own_AT q0 p1 p2 p3)), .val (.int (own_FI q0 p1 p2 p3)), .val (.ref b1), .val (.int (own_F1 (own_VAL q0 p1 p2 p3))), .val (.int r_31), .val (.int (1 : Int32))] [(.int (own_F1 (own_VAL q0 p1 p2 p3))), (.int (own_AT q0 p1 p2 p3)), (.long (own_VAL q0 p1 p2 p3)), (.int (5 : Int32)), (.ref b1)])) _
    refine XS.iload X36.here hx rfl (hb hby at_296) rfl ?_
    show Steps p.tables e below (T36.setTop (mkF m 298 #[.val (.long q0), .second, .val (.int p1), .val (.int p2), .val (.int p3), .val (.long (own_VAL q0 p1 p2 p3)), .second, .val (.int (own_AT q0 p1 p2 p3)), .val (.int (own_FI q0 p1 p2 p3)), .val (.ref b1), .val (.int (own_F1 (own_VAL q0 p1 p2 p3))), .val (.int r_31), .val (.int (1 : Int32))] [(.int (own_FI q0 p1 p2 p3)), (.int (own_F1 (own_VAL q0 p1 p2 p3))), (.int (own_AT q0 p1 p2 p3)), (.long (own_VAL q0 p1 p2 p3)), (.int (5 : Int32)), (.ref b1)])) _
    exact k
  obtain ⟨T37, Lq37, X37, N37, hQ37, st37⟩ := own_pf0 (vv := some (.int (own_F3 (5 : Int32) (own_VAL q0 p1 p2 p3) (own_AT q0 p1 p2 p3) (own_F1 (own_VAL q0 p1 p2 p3)) (own_FI q0 p1 p2 p3) (14 : Int32) f'_31))) N36 (Jvm.LawKit.callS X36 hx (y := (⟨"com/example/rowcast/rowcast/binary/Leb128WriteUnsignedPinLaw", "check", "([BIJIIB)Z"⟩ : MethodName)) hown (mvT hZ (hw _ (List.mem_of_getElem? (i := 10) rfl))) (mvT hZ (hw _ (List.mem_of_getElem? (i := 11) rfl))) (mvT hZ (hw _ (List.mem_of_getElem? (i := 3) rfl))) (mvT hZ (hw _ (List.mem_of_getElem? (i := 12) rfl))) (by decide) (backOf (W := 0) (own_rm3 l Z a0 hw [] b1 ((5 : Int32)) ((own_VAL q0 p1 p2 p3)) ((own_AT q0 p1 p2 p3)) ((own_F1 (own_VAL q0 p1 p2 p3))) ((own_FI q0 p1 p2 p3)) ((14 : Int32)) (f'_31) T31.heap n0 Zs31 p31_0 (by decide) (by decide)) hZ (hw _ (List.mem_of_getElem? (i := 12) rfl)) (hw _ (List.mem_of_getElem? (i := 3) rfl)) (by decide) (by decide)) (g := (mkF m 298 #[.val (.long q0), .second, .val (.int p1), .val (.int p2), .val (.int p3), .val (.long (own_VAL q0 p1 p2 p3)), .second, .val (.int (own_AT q0 p1 p2 p3)), .val (.int (own_FI q0 p1 p2 p3)), .val (.ref b1), .val (.int (own_F1 (own_VAL q0 p1 p2 p3))), .val (.int r_31), .val (.int (1 : Int32))] [(.int (own_FI q0 p1 p2 p3)), (.int (own_F1 (own_VAL q0 p1 p2 p3))), (.int (own_AT q0 p1 p2 p3)), (.long (own_VAL q0 p1 p2 p3)), (.int (5 : Int32)), (.ref b1)])) rfl (by rw [hml]; rfl) (argsL := [(.ref b1), (.int (5 : Int32)), (.long (own_VAL q0 p1 p2 p3)), (.int (own_AT q0 p1 p2 p3)), (.int (own_F1 (own_VAL q0 p1 p2 p3))), (.int (own_FI q0 p1 p2 p3))]) (rest := []) (lenOf own_pd2 rfl) rfl (by show 2 * 0 + _ ≤ _; exact Nat.le_of_eq rfl) (hb hby at_298) (fun _ _ => ⟨rfl, h36q, (by decide : 1 + 0 ≤ _), (by decide : 14 + 0 ≤ _)⟩)) (fun _ _ _ q => q) (k1 := 1) (k2 := 14) rfl rfl
  have h37q : T37.heap = T31.heap := hQ37
  refine own_go (T' := T37) (f' := (mkF m 301 #[.val (.long q0), .second, .val (.int p1), .val (.int p2), .val (.int p3), .val (.long (own_VAL q0 p1 p2 p3)), .second, .val (.int (own_AT q0 p1 p2 p3)), .val (.int (own_FI q0 p1 p2 p3)), .val (.ref b1), .val (.int (own_F1 (own_VAL q0 p1 p2 p3))), .val (.int r_31), .val (.int (1 : Int32))] [(.int (own_F3 (5 : Int32) (own_VAL q0 p1 p2 p3) (own_AT q0 p1 p2 p3) (own_F1 (own_VAL q0 p1 p2 p3)) (own_FI q0 p1 p2 p3) (14 : Int32) f'_31))])) (fun t k => st37 _ k) ?_
  refine own_go (T' := T37) (f' := (mkF m 328 #[.val (.long q0), .second, .val (.int p1), .val (.int p2), .val (.int p3), .val (.long (own_VAL q0 p1 p2 p3)), .second, .val (.int (own_AT q0 p1 p2 p3)), .val (.int (own_FI q0 p1 p2 p3)), .val (.ref b1), .val (.int (own_F1 (own_VAL q0 p1 p2 p3))), .val (.int r_31), .val (.int (1 : Int32))] [(.int (own_FI q0 p1 p2 p3)), (.int (own_F1 (own_VAL q0 p1 p2 p3))), (.int (own_AT q0 p1 p2 p3)), (.long (own_VAL q0 p1 p2 p3)), (.int (6 : Int32)), (.ref b1)])) (fun t k => ?_) ?_
  · show Steps p.tables e below (T37.setTop (mkF m 301 #[.val (.long q0), .second, .val (.int p1), .val (.int p2), .val (.int p3), .val (.long (own_VAL q0 p1 p2 p3)), .second, .val (.int (own_AT q0 p1 p2 p3)), .val (.int (own_FI q0 p1 p2 p3)), .val (.ref b1), .val (.int (own_F1 (own_VAL q0 p1 p2 p3))), .val (.int r_31), .val (.int (1 : Int32))] [(.int (own_F3 (5 : Int32) (own_VAL q0 p1 p2 p3) (own_AT q0 p1 p2 p3) (own_F1 (own_VAL q0 p1 p2 p3)) (own_FI q0 p1 p2 p3) (14 : Int32) f'_31))])) _
    refine XS.ifNo X37.here hx rfl (hb hby at_301) rfl ((if0 _ _).trans (feq (hok.2 (5 : Int32) (by decide) (by decide))).1) ?_
    show Steps p.tables e below (T37.setTop (mkF m 304 #[.val (.long q0), .second, .val (.int p1), .val (.int p2), .val (.int p3), .val (.long (own_VAL q0 p1 p2 p3)), .second, .val (.int (own_AT q0 p1 p2 p3)), .val (.int (own_FI q0 p1 p2 p3)), .val (.ref b1), .val (.int (own_F1 (own_VAL q0 p1 p2 p3))), .val (.int r_31), .val (.int (1 : Int32))] [])) _
    refine XS.iconst X37.here hx rfl (hb hby at_304) ?_
    show Steps p.tables e below (T37.setTop (mkF m 305 #[.val (.long q0), .second, .val (.int p1), .val (.int p2), .val (.int p3), .val (.long (own_VAL q0 p1 p2 p3)), .second, .val (.int (own_AT q0 p1 p2 p3)), .val (.int (own_FI q0 p1 p2 p3)), .val (.ref b1), .val (.int (own_F1 (own_VAL q0 p1 p2 p3))), .val (.int r_31), .val (.int (1 : Int32))] [(.int (1 : Int32))])) _
    refine XS.goto X37.here hx rfl (pc0 := 305) (pc' := 309) rfl (hb hby at_305) (by decide) (by decide) ?_
    show Steps p.tables e below (T37.setTop (mkF m 309 #[.val (.long q0), .second, .val (.int p1), .val (.int p2), .val (.int p3), .val (.long (own_VAL q0 p1 p2 p3)), .second, .val (.int (own_AT q0 p1 p2 p3)), .val (.int (own_FI q0 p1 p2 p3)), .val (.ref b1), .val (.int (own_F1 (own_VAL q0 p1 p2 p3))), .val (.int r_31), .val (.int (1 : Int32))] [(.int (1 : Int32))])) _
    refine XS.istore X37.here hx rfl (hb hby at_309) rfl (l' := #[.val (.long q0), .second, .val (.int p1), .val (.int p2), .val (.int p3), .val (.long (own_VAL q0 p1 p2 p3)), .second, .val (.int (own_AT q0 p1 p2 p3)), .val (.int (own_FI q0 p1 p2 p3)), .val (.ref b1), .val (.int (own_F1 (own_VAL q0 p1 p2 p3))), .val (.int r_31), .val (.int (1 : Int32))]) rfl ?_
    show Steps p.tables e below (T37.setTop (mkF m 311 #[.val (.long q0), .second, .val (.int p1), .val (.int p2), .val (.int p3), .val (.long (own_VAL q0 p1 p2 p3)), .second, .val (.int (own_AT q0 p1 p2 p3)), .val (.int (own_FI q0 p1 p2 p3)), .val (.ref b1), .val (.int (own_F1 (own_VAL q0 p1 p2 p3))), .val (.int r_31), .val (.int (1 : Int32))] [])) _
    refine XS.iload X37.here hx rfl (hb hby at_311) rfl ?_
    show Steps p.tables e below (T37.setTop (mkF m 313 #[.val (.long q0), .second, .val (.int p1), .val (.int p2), .val (.int p3), .val (.long (own_VAL q0 p1 p2 p3)), .second, .val (.int (own_AT q0 p1 p2 p3)), .val (.int (own_FI q0 p1 p2 p3)), .val (.ref b1), .val (.int (own_F1 (own_VAL q0 p1 p2 p3))), .val (.int r_31), .val (.int (1 : Int32))] [(.int (1 : Int32))])) _
    refine XS.ifNo X37.here hx rfl (hb hby at_313) rfl ((if0 _ _).trans (feq (by decide : ¬ ((1 : Int32) = (0 : Int32)))).1) ?_
    show Steps p.tables e below (T37.setTop (mkF m 316 #[.val (.long q0), .second, .val (.int p1), .val (.int p2), .val (.int p3), .val (.long (own_VAL q0 p1 p2 p3)), .second, .val (.int (own_AT q0 p1 p2 p3)), .val (.int (own_FI q0 p1 p2 p3)), .val (.ref b1), .val (.int (own_F1 (own_VAL q0 p1 p2 p3))), .val (.int r_31), .val (.int (1 : Int32))] [])) _
    refine XS.aload X37.here hx rfl (hb hby at_316) rfl rfl ?_
    show Steps p.tables e below (T37.setTop (mkF m 318 #[.val (.long q0), .second, .val (.int p1), .val (.int p2), .val (.int p3), .val (.long (own_VAL q0 p1 p2 p3)), .second, .val (.int (own_AT q0 p1 p2 p3)), .val (.int (own_FI q0 p1 p2 p3)), .val (.ref b1), .val (.int (own_F1 (own_VAL q0 p1 p2 p3))), .val (.int r_31), .val (.int (1 : Int32))] [(.ref b1)])) _
    refine XS.bipush X37.here hx rfl (hb hby at_318) ?_
    show Steps p.tables e below (T37.setTop (mkF m 320 #[.val (.long q0), .second, .val (.int p1), .val (.int p2), .val (.int p3), .val (.long (own_VAL q0 p1 p2 p3)), .second, .val (.int (own_AT q0 p1 p2 p3)), .val (.int (own_FI q0 p1 p2 p3)), .val (.ref b1), .val (.int (own_F1 (own_VAL q0 p1 p2 p3))), .val (.int r_31), .val (.int (1 : Int32))] [(.int (6 : Int32)), (.ref b1)])) _
    refine XS.lload X37.here hx rfl (hb hby at_320) rfl ?_
    show Steps p.tables e below (T37.setTop (mkF m 322 #[.val (.long q0), .second, .val (.int p1), .val (.int p2), .val (.int p3), .val (.long (own_VAL q0 p1 p2 p3)), .second, .val (.int (own_AT q0 p1 p2 p3)), .val (.int (own_FI q0 p1 p2 p3)), .val (.ref b1), .val (.int (own_F1 (own_VAL q0 p1 p2 p3))), .val (.int r_31), .val (.int (1 : Int32))] [(.long (own_VAL q0 p1 p2 p3)), (.int (6 : Int32)), (.ref b1)])) _
    refine XS.iload X37.here hx rfl (hb hby at_322) rfl ?_
    show Steps p.tables e below (T37.setTop (mkF m 324 #[.val (.long q0), .second, .val (.int p1), .val (.int p2), .val (.int p3), .val (.long (own_VAL q0 p1 p2 p3)), .second, .val (.int (own_AT q0 p1 p2 p3)), .val (.int (own_FI q0 p1 p2 p3)), .val (.ref b1), .val (.int (own_F1 (own_VAL q0 p1 p2 p3))), .val (.int r_31), .val (.int (1 : Int32))] [(.int (own_AT q0 p1 p2 p3)), (.long (own_VAL q0 p1 p2 p3)), (.int (6 : Int32)), (.ref b1)])) _
    refine XS.iload X37.here hx rfl (hb hby at_324) rfl ?_
    show Steps p.tables e below (T37.setTop (mkF m 326 #[.val (.long q0), .second, .val (.int p1), .val (.int p2), .val (.int p3), .val (.long (own_VAL q0 p1 p2 p3)), .second, .val (.int (own_AT q0 p1 p2 p3)), .val (.int (own_FI q0 p1 p2 p3)), .val (.ref b1), .val (.int (own_F1 (own_VAL q0 p1 p2 p3))), .val (.int r_31), .val (.int (1 : Int32))] [(.int (own_F1 (own_VAL q0 p1 p2 p3))), (.int (own_AT q0 p1 p2 p3)), (.long (own_VAL q0 p1 p2 p3)), (.int (6 : Int32)), (.ref b1)])) _
    refine XS.iload X37.here hx rfl (hb hby at_326) rfl ?_
    show Steps p.tables e below (T37.setTop (mkF m 328 #[.val (.long q0), .second, .val (.int p1), .val (.int p2), .val (.int p3), .val (.long (own_VAL q0 p1 p2 p3)), .second, .val (.int (own_AT q0 p1 p2 p3)), .val (.int (own_FI q0 p1 p2 p3)), .val (.ref b1), .val (.int (own_F1 (own_VAL q0 p1 p2 p3))), .val (.int r_31), .val (.int (1 : Int32))] [(.int (own_FI q0 p1 p2 p3)), (.int (own_F1 (own_VAL q0 p1 p2 p3))), (.int (own_AT q0 p1 p2 p3)), (.long (own_VAL q0 p1 p2 p3)), (.int (6 : Int32)), (.ref b1)])) _
    exact k
  obtain ⟨T38, Lq38, X38, N38, hQ38, st38⟩ := own_pf0 (vv := some (.int (own_F3 (6 : Int32) (own_VAL q0 p1 p2 p3) (own_AT q0 p1 p2 p3) (own_F1 (own_VAL q0 p1 p2 p3)) (own_FI q0 p1 p2 p3) (14 : Int32) f'_31))) N37 (Jvm.LawKit.callS X37 hx (y := (⟨"com/example/rowcast/rowcast/binary/Leb128WriteUnsignedPinLaw", "check", "([BIJIIB)Z"⟩ : MethodName)) hown (mvT hZ (hw _ (List.mem_of_getElem? (i := 10) rfl))) (mvT hZ (hw _ (List.mem_of_getElem? (i := 11) rfl))) (mvT hZ (hw _ (List.mem_of_getElem? (i := 3) rfl))) (mvT hZ (hw _ (List.mem_of_getElem? (i := 12) rfl))) (by decide) (backOf (W := 0) (own_rm3 l Z a0 hw [] b1 ((6 : Int32)) ((own_VAL q0 p1 p2 p3)) ((own_AT q0 p1 p2 p3)) ((own_F1 (own_VAL q0 p1 p2 p3))) ((own_FI q0 p1 p2 p3)) ((14 : Int32)) (f'_31) T31.heap n0 Zs31 p31_0 (by decide) (by decide)) hZ (hw _ (List.mem_of_getElem? (i := 12) rfl)) (hw _ (List.mem_of_getElem? (i := 3) rfl)) (by decide) (by decide)) (g := (mkF m 328 #[.val (.long q0), .second, .val (.int p1), .val (.int p2), .val (.int p3), .val (.long (own_VAL q0 p1 p2 p3)), .second, .val (.int (own_AT q0 p1 p2 p3)), .val (.int (own_FI q0 p1 p2 p3)), .val (.ref b1), .val (.int (own_F1 (own_VAL q0 p1 p2 p3))), .val (.int r_31), .val (.int (1 : Int32))] [(.int (own_FI q0 p1 p2 p3)), (.int (own_F1 (own_VAL q0 p1 p2 p3))), (.int (own_AT q0 p1 p2 p3)), (.long (own_VAL q0 p1 p2 p3)), (.int (6 : Int32)), (.ref b1)])) rfl (by rw [hml]; rfl) (argsL := [(.ref b1), (.int (6 : Int32)), (.long (own_VAL q0 p1 p2 p3)), (.int (own_AT q0 p1 p2 p3)), (.int (own_F1 (own_VAL q0 p1 p2 p3))), (.int (own_FI q0 p1 p2 p3))]) (rest := []) (lenOf own_pd2 rfl) rfl (by show 2 * 0 + _ ≤ _; exact Nat.le_of_eq rfl) (hb hby at_328) (fun _ _ => ⟨rfl, h37q, (by decide : 1 + 0 ≤ _), (by decide : 14 + 0 ≤ _)⟩)) (fun _ _ _ q => q) (k1 := 1) (k2 := 14) rfl rfl
  have h38q : T38.heap = T31.heap := hQ38
  refine own_go (T' := T38) (f' := (mkF m 331 #[.val (.long q0), .second, .val (.int p1), .val (.int p2), .val (.int p3), .val (.long (own_VAL q0 p1 p2 p3)), .second, .val (.int (own_AT q0 p1 p2 p3)), .val (.int (own_FI q0 p1 p2 p3)), .val (.ref b1), .val (.int (own_F1 (own_VAL q0 p1 p2 p3))), .val (.int r_31), .val (.int (1 : Int32))] [(.int (own_F3 (6 : Int32) (own_VAL q0 p1 p2 p3) (own_AT q0 p1 p2 p3) (own_F1 (own_VAL q0 p1 p2 p3)) (own_FI q0 p1 p2 p3) (14 : Int32) f'_31))])) (fun t k => st38 _ k) ?_
  refine own_go (T' := T38) (f' := (mkF m 358 #[.val (.long q0), .second, .val (.int p1), .val (.int p2), .val (.int p3), .val (.long (own_VAL q0 p1 p2 p3)), .second, .val (.int (own_AT q0 p1 p2 p3)), .val (.int (own_FI q0 p1 p2 p3)), .val (.ref b1), .val (.int (own_F1 (own_VAL q0 p1 p2 p3))), .val (.int r_31), .val (.int (1 : Int32))] [(.int (own_FI q0 p1 p2 p3)), (.int (own_F1 (own_VAL q0 p1 p2 p3))), (.int (own_AT q0 p1 p2 p3)), (.long (own_VAL q0 p1 p2 p3)), (.int (7 : Int32)), (.ref b1)])) (fun t k => ?_) ?_
  · show Steps p.tables e below (T38.setTop (mkF m 331 #[.val (.long q0), .second, .val (.int p1), .val (.int p2), .val (.int p3), .val (.long (own_VAL q0 p1 p2 p3)), .second, .val (.int (own_AT q0 p1 p2 p3)), .val (.int (own_FI q0 p1 p2 p3)), .val (.ref b1), .val (.int (own_F1 (own_VAL q0 p1 p2 p3))), .val (.int r_31), .val (.int (1 : Int32))] [(.int (own_F3 (6 : Int32) (own_VAL q0 p1 p2 p3) (own_AT q0 p1 p2 p3) (own_F1 (own_VAL q0 p1 p2 p3)) (own_FI q0 p1 p2 p3) (14 : Int32) f'_31))])) _
    refine XS.ifNo X38.here hx rfl (hb hby at_331) rfl ((if0 _ _).trans (feq (hok.2 (6 : Int32) (by decide) (by decide))).1) ?_
    show Steps p.tables e below (T38.setTop (mkF m 334 #[.val (.long q0), .second, .val (.int p1), .val (.int p2), .val (.int p3), .val (.long (own_VAL q0 p1 p2 p3)), .second, .val (.int (own_AT q0 p1 p2 p3)), .val (.int (own_FI q0 p1 p2 p3)), .val (.ref b1), .val (.int (own_F1 (own_VAL q0 p1 p2 p3))), .val (.int r_31), .val (.int (1 : Int32))] [])) _
    refine XS.iconst X38.here hx rfl (hb hby at_334) ?_
    show Steps p.tables e below (T38.setTop (mkF m 335 #[.val (.long q0), .second, .val (.int p1), .val (.int p2), .val (.int p3), .val (.long (own_VAL q0 p1 p2 p3)), .second, .val (.int (own_AT q0 p1 p2 p3)), .val (.int (own_FI q0 p1 p2 p3)), .val (.ref b1), .val (.int (own_F1 (own_VAL q0 p1 p2 p3))), .val (.int r_31), .val (.int (1 : Int32))] [(.int (1 : Int32))])) _
    refine XS.goto X38.here hx rfl (pc0 := 335) (pc' := 339) rfl (hb hby at_335) (by decide) (by decide) ?_
    show Steps p.tables e below (T38.setTop (mkF m 339 #[.val (.long q0), .second, .val (.int p1), .val (.int p2), .val (.int p3), .val (.long (own_VAL q0 p1 p2 p3)), .second, .val (.int (own_AT q0 p1 p2 p3)), .val (.int (own_FI q0 p1 p2 p3)), .val (.ref b1), .val (.int (own_F1 (own_VAL q0 p1 p2 p3))), .val (.int r_31), .val (.int (1 : Int32))] [(.int (1 : Int32))])) _
    refine XS.istore X38.here hx rfl (hb hby at_339) rfl (l' := #[.val (.long q0), .second, .val (.int p1), .val (.int p2), .val (.int p3), .val (.long (own_VAL q0 p1 p2 p3)), .second, .val (.int (own_AT q0 p1 p2 p3)), .val (.int (own_FI q0 p1 p2 p3)), .val (.ref b1), .val (.int (own_F1 (own_VAL q0 p1 p2 p3))), .val (.int r_31), .val (.int (1 : Int32))]) rfl ?_
    show Steps p.tables e below (T38.setTop (mkF m 341 #[.val (.long q0), .second, .val (.int p1), .val (.int p2), .val (.int p3), .val (.long (own_VAL q0 p1 p2 p3)), .second, .val (.int (own_AT q0 p1 p2 p3)), .val (.int (own_FI q0 p1 p2 p3)), .val (.ref b1), .val (.int (own_F1 (own_VAL q0 p1 p2 p3))), .val (.int r_31), .val (.int (1 : Int32))] [])) _
    refine XS.iload X38.here hx rfl (hb hby at_341) rfl ?_
    show Steps p.tables e below (T38.setTop (mkF m 343 #[.val (.long q0), .second, .val (.int p1), .val (.int p2), .val (.int p3), .val (.long (own_VAL q0 p1 p2 p3)), .second, .val (.int (own_AT q0 p1 p2 p3)), .val (.int (own_FI q0 p1 p2 p3)), .val (.ref b1), .val (.int (own_F1 (own_VAL q0 p1 p2 p3))), .val (.int r_31), .val (.int (1 : Int32))] [(.int (1 : Int32))])) _
    refine XS.ifNo X38.here hx rfl (hb hby at_343) rfl ((if0 _ _).trans (feq (by decide : ¬ ((1 : Int32) = (0 : Int32)))).1) ?_
    show Steps p.tables e below (T38.setTop (mkF m 346 #[.val (.long q0), .second, .val (.int p1), .val (.int p2), .val (.int p3), .val (.long (own_VAL q0 p1 p2 p3)), .second, .val (.int (own_AT q0 p1 p2 p3)), .val (.int (own_FI q0 p1 p2 p3)), .val (.ref b1), .val (.int (own_F1 (own_VAL q0 p1 p2 p3))), .val (.int r_31), .val (.int (1 : Int32))] [])) _
    refine XS.aload X38.here hx rfl (hb hby at_346) rfl rfl ?_
    show Steps p.tables e below (T38.setTop (mkF m 348 #[.val (.long q0), .second, .val (.int p1), .val (.int p2), .val (.int p3), .val (.long (own_VAL q0 p1 p2 p3)), .second, .val (.int (own_AT q0 p1 p2 p3)), .val (.int (own_FI q0 p1 p2 p3)), .val (.ref b1), .val (.int (own_F1 (own_VAL q0 p1 p2 p3))), .val (.int r_31), .val (.int (1 : Int32))] [(.ref b1)])) _
    refine XS.bipush X38.here hx rfl (hb hby at_348) ?_
    show Steps p.tables e below (T38.setTop (mkF m 350 #[.val (.long q0), .second, .val (.int p1), .val (.int p2), .val (.int p3), .val (.long (own_VAL q0 p1 p2 p3)), .second, .val (.int (own_AT q0 p1 p2 p3)), .val (.int (own_FI q0 p1 p2 p3)), .val (.ref b1), .val (.int (own_F1 (own_VAL q0 p1 p2 p3))), .val (.int r_31), .val (.int (1 : Int32))] [(.int (7 : Int32)), (.ref b1)])) _
    refine XS.lload X38.here hx rfl (hb hby at_350) rfl ?_
    show Steps p.tables e below (T38.setTop (mkF m 352 #[.val (.long q0), .second, .val (.int p1), .val (.int p2), .val (.int p3), .val (.long (own_VAL q0 p1 p2 p3)), .second, .val (.int (own_AT q0 p1 p2 p3)), .val (.int (own_FI q0 p1 p2 p3)), .val (.ref b1), .val (.int (own_F1 (own_VAL q0 p1 p2 p3))), .val (.int r_31), .val (.int (1 : Int32))] [(.long (own_VAL q0 p1 p2 p3)), (.int (7 : Int32)), (.ref b1)])) _
    refine XS.iload X38.here hx rfl (hb hby at_352) rfl ?_
    show Steps p.tables e below (T38.setTop (mkF m 354 #[.val (.long q0), .second, .val (.int p1), .val (.int p2), .val (.int p3), .val (.long (own_VAL q0 p1 p2 p3)), .second, .val (.int (own_AT q0 p1 p2 p3)), .val (.int (own_FI q0 p1 p2 p3)), .val (.ref b1), .val (.int (own_F1 (own_VAL q0 p1 p2 p3))), .val (.int r_31), .val (.int (1 : Int32))] [(.int (own_AT q0 p1 p2 p3)), (.long (own_VAL q0 p1 p2 p3)), (.int (7 : Int32)), (.ref b1)])) _
    refine XS.iload X38.here hx rfl (hb hby at_354) rfl ?_
    show Steps p.tables e below (T38.setTop (mkF m 356 #[.val (.long q0), .second, .val (.int p1), .val (.int p2), .val (.int p3), .val (.long (own_VAL q0 p1 p2 p3)), .second, .val (.int (own_AT q0 p1 p2 p3)), .val (.int (own_FI q0 p1 p2 p3)), .val (.ref b1), .val (.int (own_F1 (own_VAL q0 p1 p2 p3))), .val (.int r_31), .val (.int (1 : Int32))] [(.int (own_F1 (own_VAL q0 p1 p2 p3))), (.int (own_AT q0 p1 p2 p3)), (.long (own_VAL q0 p1 p2 p3)), (.int (7 : Int32)), (.ref b1)])) _
    refine XS.iload X38.here hx rfl (hb hby at_356) rfl ?_
    show Steps p.tables e below (T38.setTop (mkF m 358 #[.val (.long q0), .second, .val (.int p1), .val (.int p2), .val (.int p3), .val (.long (own_VAL q0 p1 p2 p3)), .second, .val (.int (own_AT q0 p1 p2 p3)), .val (.int (own_FI q0 p1 p2 p3)), .val (.ref b1), .val (.int (own_F1 (own_VAL q0 p1 p2 p3))), .val (.int r_31), .val (.int (1 : Int32))] [(.int (own_FI q0 p1 p2 p3)), (.int (own_F1 (own_VAL q0 p1 p2 p3))), (.int (own_AT q0 p1 p2 p3)), (.long (own_VAL q0 p1 p2 p3)), (.int (7 : Int32)), (.ref b1)])) _
    exact k
  obtain ⟨T39, Lq39, X39, N39, hQ39, st39⟩ := own_pf0 (vv := some (.int (own_F3 (7 : Int32) (own_VAL q0 p1 p2 p3) (own_AT q0 p1 p2 p3) (own_F1 (own_VAL q0 p1 p2 p3)) (own_FI q0 p1 p2 p3) (14 : Int32) f'_31))) N38 (Jvm.LawKit.callS X38 hx (y := (⟨"com/example/rowcast/rowcast/binary/Leb128WriteUnsignedPinLaw", "check", "([BIJIIB)Z"⟩ : MethodName)) hown (mvT hZ (hw _ (List.mem_of_getElem? (i := 10) rfl))) (mvT hZ (hw _ (List.mem_of_getElem? (i := 11) rfl))) (mvT hZ (hw _ (List.mem_of_getElem? (i := 3) rfl))) (mvT hZ (hw _ (List.mem_of_getElem? (i := 12) rfl))) (by decide) (backOf (W := 0) (own_rm3 l Z a0 hw [] b1 ((7 : Int32)) ((own_VAL q0 p1 p2 p3)) ((own_AT q0 p1 p2 p3)) ((own_F1 (own_VAL q0 p1 p2 p3))) ((own_FI q0 p1 p2 p3)) ((14 : Int32)) (f'_31) T31.heap n0 Zs31 p31_0 (by decide) (by decide)) hZ (hw _ (List.mem_of_getElem? (i := 12) rfl)) (hw _ (List.mem_of_getElem? (i := 3) rfl)) (by decide) (by decide)) (g := (mkF m 358 #[.val (.long q0), .second, .val (.int p1), .val (.int p2), .val (.int p3), .val (.long (own_VAL q0 p1 p2 p3)), .second, .val (.int (own_AT q0 p1 p2 p3)), .val (.int (own_FI q0 p1 p2 p3)), .val (.ref b1), .val (.int (own_F1 (own_VAL q0 p1 p2 p3))), .val (.int r_31), .val (.int (1 : Int32))] [(.int (own_FI q0 p1 p2 p3)), (.int (own_F1 (own_VAL q0 p1 p2 p3))), (.int (own_AT q0 p1 p2 p3)), (.long (own_VAL q0 p1 p2 p3)), (.int (7 : Int32)), (.ref b1)])) rfl (by rw [hml]; rfl) (argsL := [(.ref b1), (.int (7 : Int32)), (.long (own_VAL q0 p1 p2 p3)), (.int (own_AT q0 p1 p2 p3)), (.int (own_F1 (own_VAL q0 p1 p2 p3))), (.int (own_FI q0 p1 p2 p3))]) (rest := []) (lenOf own_pd2 rfl) rfl (by show 2 * 0 + _ ≤ _; exact Nat.le_of_eq rfl) (hb hby at_358) (fun _ _ => ⟨rfl, h38q, (by decide : 1 + 0 ≤ _), (by decide : 14 + 0 ≤ _)⟩)) (fun _ _ _ q => q) (k1 := 1) (k2 := 14) rfl rfl
  have h39q : T39.heap = T31.heap := hQ39
  refine own_go (T' := T39) (f' := (mkF m 361 #[.val (.long q0), .second, .val (.int p1), .val (.int p2), .val (.int p3), .val (.long (own_VAL q0 p1 p2 p3)), .second, .val (.int (own_AT q0 p1 p2 p3)), .val (.int (own_FI q0 p1 p2 p3)), .val (.ref b1), .val (.int (own_F1 (own_VAL q0 p1 p2 p3))), .val (.int r_31), .val (.int (1 : Int32))] [(.int (own_F3 (7 : Int32) (own_VAL q0 p1 p2 p3) (own_AT q0 p1 p2 p3) (own_F1 (own_VAL q0 p1 p2 p3)) (own_FI q0 p1 p2 p3) (14 : Int32) f'_31))])) (fun t k => st39 _ k) ?_
  refine own_go (T' := T39) (f' := (mkF m 388 #[.val (.long q0), .second, .val (.int p1), .val (.int p2), .val (.int p3), .val (.long (own_VAL q0 p1 p2 p3)), .second, .val (.int (own_AT q0 p1 p2 p3)), .val (.int (own_FI q0 p1 p2 p3)), .val (.ref b1), .val (.int (own_F1 (own_VAL q0 p1 p2 p3))), .val (.int r_31), .val (.int (1 : Int32))] [(.int (own_FI q0 p1 p2 p3)), (.int (own_F1 (own_VAL q0 p1 p2 p3))), (.int (own_AT q0 p1 p2 p3)), (.long (own_VAL q0 p1 p2 p3)), (.int (8 : Int32)), (.ref b1)])) (fun t k => ?_) ?_
  · show Steps p.tables e below (T39.setTop (mkF m 361 #[.val (.long q0), .second, .val (.int p1), .val (.int p2), .val (.int p3), .val (.long (own_VAL q0 p1 p2 p3)), .second, .val (.int (own_AT q0 p1 p2 p3)), .val (.int (own_FI q0 p1 p2 p3)), .val (.ref b1), .val (.int (own_F1 (own_VAL q0 p1 p2 p3))), .val (.int r_31), .val (.int (1 : Int32))] [(.int (own_F3 (7 : Int32) (own_VAL q0 p1 p2 p3) (own_AT q0 p1 p2 p3) (own_F1 (own_VAL q0 p1 p2 p3)) (own_FI q0 p1 p2 p3) (14 : Int32) f'_31))])) _
    refine XS.ifNo X39.here hx rfl (hb hby at_361) rfl ((if0 _ _).trans (feq (hok.2 (7 : Int32) (by decide) (by decide))).1) ?_
    show Steps p.tables e below (T39.setTop (mkF m 364 #[.val (.long q0), .second, .val (.int p1), .val (.int p2), .val (.int p3), .val (.long (own_VAL q0 p1 p2 p3)), .second, .val (.int (own_AT q0 p1 p2 p3)), .val (.int (own_FI q0 p1 p2 p3)), .val (.ref b1), .val (.int (own_F1 (own_VAL q0 p1 p2 p3))), .val (.int r_31), .val (.int (1 : Int32))] [])) _
    refine XS.iconst X39.here hx rfl (hb hby at_364) ?_
    show Steps p.tables e below (T39.setTop (mkF m 365 #[.val (.long q0), .second, .val (.int p1), .val (.int p2), .val (.int p3), .val (.long (own_VAL q0 p1 p2 p3)), .second, .val (.int (own_AT q0 p1 p2 p3)), .val (.int (own_FI q0 p1 p2 p3)), .val (.ref b1), .val (.int (own_F1 (own_VAL q0 p1 p2 p3))), .val (.int r_31), .val (.int (1 : Int32))] [(.int (1 : Int32))])) _
    refine XS.goto X39.here hx rfl (pc0 := 365) (pc' := 369) rfl (hb hby at_365) (by decide) (by decide) ?_
    show Steps p.tables e below (T39.setTop (mkF m 369 #[.val (.long q0), .second, .val (.int p1), .val (.int p2), .val (.int p3), .val (.long (own_VAL q0 p1 p2 p3)), .second, .val (.int (own_AT q0 p1 p2 p3)), .val (.int (own_FI q0 p1 p2 p3)), .val (.ref b1), .val (.int (own_F1 (own_VAL q0 p1 p2 p3))), .val (.int r_31), .val (.int (1 : Int32))] [(.int (1 : Int32))])) _
    refine XS.istore X39.here hx rfl (hb hby at_369) rfl (l' := #[.val (.long q0), .second, .val (.int p1), .val (.int p2), .val (.int p3), .val (.long (own_VAL q0 p1 p2 p3)), .second, .val (.int (own_AT q0 p1 p2 p3)), .val (.int (own_FI q0 p1 p2 p3)), .val (.ref b1), .val (.int (own_F1 (own_VAL q0 p1 p2 p3))), .val (.int r_31), .val (.int (1 : Int32))]) rfl ?_
    show Steps p.tables e below (T39.setTop (mkF m 371 #[.val (.long q0), .second, .val (.int p1), .val (.int p2), .val (.int p3), .val (.long (own_VAL q0 p1 p2 p3)), .second, .val (.int (own_AT q0 p1 p2 p3)), .val (.int (own_FI q0 p1 p2 p3)), .val (.ref b1), .val (.int (own_F1 (own_VAL q0 p1 p2 p3))), .val (.int r_31), .val (.int (1 : Int32))] [])) _
    refine XS.iload X39.here hx rfl (hb hby at_371) rfl ?_
    show Steps p.tables e below (T39.setTop (mkF m 373 #[.val (.long q0), .second, .val (.int p1), .val (.int p2), .val (.int p3), .val (.long (own_VAL q0 p1 p2 p3)), .second, .val (.int (own_AT q0 p1 p2 p3)), .val (.int (own_FI q0 p1 p2 p3)), .val (.ref b1), .val (.int (own_F1 (own_VAL q0 p1 p2 p3))), .val (.int r_31), .val (.int (1 : Int32))] [(.int (1 : Int32))])) _
    refine XS.ifNo X39.here hx rfl (hb hby at_373) rfl ((if0 _ _).trans (feq (by decide : ¬ ((1 : Int32) = (0 : Int32)))).1) ?_
    show Steps p.tables e below (T39.setTop (mkF m 376 #[.val (.long q0), .second, .val (.int p1), .val (.int p2), .val (.int p3), .val (.long (own_VAL q0 p1 p2 p3)), .second, .val (.int (own_AT q0 p1 p2 p3)), .val (.int (own_FI q0 p1 p2 p3)), .val (.ref b1), .val (.int (own_F1 (own_VAL q0 p1 p2 p3))), .val (.int r_31), .val (.int (1 : Int32))] [])) _
    refine XS.aload X39.here hx rfl (hb hby at_376) rfl rfl ?_
    show Steps p.tables e below (T39.setTop (mkF m 378 #[.val (.long q0), .second, .val (.int p1), .val (.int p2), .val (.int p3), .val (.long (own_VAL q0 p1 p2 p3)), .second, .val (.int (own_AT q0 p1 p2 p3)), .val (.int (own_FI q0 p1 p2 p3)), .val (.ref b1), .val (.int (own_F1 (own_VAL q0 p1 p2 p3))), .val (.int r_31), .val (.int (1 : Int32))] [(.ref b1)])) _
    refine XS.bipush X39.here hx rfl (hb hby at_378) ?_
    show Steps p.tables e below (T39.setTop (mkF m 380 #[.val (.long q0), .second, .val (.int p1), .val (.int p2), .val (.int p3), .val (.long (own_VAL q0 p1 p2 p3)), .second, .val (.int (own_AT q0 p1 p2 p3)), .val (.int (own_FI q0 p1 p2 p3)), .val (.ref b1), .val (.int (own_F1 (own_VAL q0 p1 p2 p3))), .val (.int r_31), .val (.int (1 : Int32))] [(.int (8 : Int32)), (.ref b1)])) _
    refine XS.lload X39.here hx rfl (hb hby at_380) rfl ?_
    show Steps p.tables e below (T39.setTop (mkF m 382 #[.val (.long q0), .second, .val (.int p1), .val (.int p2), .val (.int p3), .val (.long (own_VAL q0 p1 p2 p3)), .second, .val (.int (own_AT q0 p1 p2 p3)), .val (.int (own_FI q0 p1 p2 p3)), .val (.ref b1), .val (.int (own_F1 (own_VAL q0 p1 p2 p3))), .val (.int r_31), .val (.int (1 : Int32))] [(.long (own_VAL q0 p1 p2 p3)), (.int (8 : Int32)), (.ref b1)])) _
    refine XS.iload X39.here hx rfl (hb hby at_382) rfl ?_
    show Steps p.tables e below (T39.setTop (mkF m 384 #[.val (.long q0), .second, .val (.int p1), .val (.int p2), .val (.int p3), .val (.long (own_VAL q0 p1 p2 p3)), .second, .val (.int (own_AT q0 p1 p2 p3)), .val (.int (own_FI q0 p1 p2 p3)), .val (.ref b1), .val (.int (own_F1 (own_VAL q0 p1 p2 p3))), .val (.int r_31), .val (.int (1 : Int32))] [(.int (own_AT q0 p1 p2 p3)), (.long (own_VAL q0 p1 p2 p3)), (.int (8 : Int32)), (.ref b1)])) _
    refine XS.iload X39.here hx rfl (hb hby at_384) rfl ?_
    show Steps p.tables e below (T39.setTop (mkF m 386 #[.val (.long q0), .second, .val (.int p1), .val (.int p2), .val (.int p3), .val (.long (own_VAL q0 p1 p2 p3)), .second, .val (.int (own_AT q0 p1 p2 p3)), .val (.int (own_FI q0 p1 p2 p3)), .val (.ref b1), .val (.int (own_F1 (own_VAL q0 p1 p2 p3))), .val (.int r_31), .val (.int (1 : Int32))] [(.int (own_F1 (own_VAL q0 p1 p2 p3))), (.int (own_AT q0 p1 p2 p3)), (.long (own_VAL q0 p1 p2 p3)), (.int (8 : Int32)), (.ref b1)])) _
    refine XS.iload X39.here hx rfl (hb hby at_386) rfl ?_
    show Steps p.tables e below (T39.setTop (mkF m 388 #[.val (.long q0), .second, .val (.int p1), .val (.int p2), .val (.int p3), .val (.long (own_VAL q0 p1 p2 p3)), .second, .val (.int (own_AT q0 p1 p2 p3)), .val (.int (own_FI q0 p1 p2 p3)), .val (.ref b1), .val (.int (own_F1 (own_VAL q0 p1 p2 p3))), .val (.int r_31), .val (.int (1 : Int32))] [(.int (own_FI q0 p1 p2 p3)), (.int (own_F1 (own_VAL q0 p1 p2 p3))), (.int (own_AT q0 p1 p2 p3)), (.long (own_VAL q0 p1 p2 p3)), (.int (8 : Int32)), (.ref b1)])) _
    exact k
  obtain ⟨T40, Lq40, X40, N40, hQ40, st40⟩ := own_pf0 (vv := some (.int (own_F3 (8 : Int32) (own_VAL q0 p1 p2 p3) (own_AT q0 p1 p2 p3) (own_F1 (own_VAL q0 p1 p2 p3)) (own_FI q0 p1 p2 p3) (14 : Int32) f'_31))) N39 (Jvm.LawKit.callS X39 hx (y := (⟨"com/example/rowcast/rowcast/binary/Leb128WriteUnsignedPinLaw", "check", "([BIJIIB)Z"⟩ : MethodName)) hown (mvT hZ (hw _ (List.mem_of_getElem? (i := 10) rfl))) (mvT hZ (hw _ (List.mem_of_getElem? (i := 11) rfl))) (mvT hZ (hw _ (List.mem_of_getElem? (i := 3) rfl))) (mvT hZ (hw _ (List.mem_of_getElem? (i := 12) rfl))) (by decide) (backOf (W := 0) (own_rm3 l Z a0 hw [] b1 ((8 : Int32)) ((own_VAL q0 p1 p2 p3)) ((own_AT q0 p1 p2 p3)) ((own_F1 (own_VAL q0 p1 p2 p3))) ((own_FI q0 p1 p2 p3)) ((14 : Int32)) (f'_31) T31.heap n0 Zs31 p31_0 (by decide) (by decide)) hZ (hw _ (List.mem_of_getElem? (i := 12) rfl)) (hw _ (List.mem_of_getElem? (i := 3) rfl)) (by decide) (by decide)) (g := (mkF m 388 #[.val (.long q0), .second, .val (.int p1), .val (.int p2), .val (.int p3), .val (.long (own_VAL q0 p1 p2 p3)), .second, .val (.int (own_AT q0 p1 p2 p3)), .val (.int (own_FI q0 p1 p2 p3)), .val (.ref b1), .val (.int (own_F1 (own_VAL q0 p1 p2 p3))), .val (.int r_31), .val (.int (1 : Int32))] [(.int (own_FI q0 p1 p2 p3)), (.int (own_F1 (own_VAL q0 p1 p2 p3))), (.int (own_AT q0 p1 p2 p3)), (.long (own_VAL q0 p1 p2 p3)), (.int (8 : Int32)), (.ref b1)])) rfl (by rw [hml]; rfl) (argsL := [(.ref b1), (.int (8 : Int32)), (.long (own_VAL q0 p1 p2 p3)), (.int (own_AT q0 p1 p2 p3)), (.int (own_F1 (own_VAL q0 p1 p2 p3))), (.int (own_FI q0 p1 p2 p3))]) (rest := []) (lenOf own_pd2 rfl) rfl (by show 2 * 0 + _ ≤ _; exact Nat.le_of_eq rfl) (hb hby at_388) (fun _ _ => ⟨rfl, h39q, (by decide : 1 + 0 ≤ _), (by decide : 14 + 0 ≤ _)⟩)) (fun _ _ _ q => q) (k1 := 1) (k2 := 14) rfl rfl
  have h40q : T40.heap = T31.heap := hQ40
  refine own_go (T' := T40) (f' := (mkF m 391 #[.val (.long q0), .second, .val (.int p1), .val (.int p2), .val (.int p3), .val (.long (own_VAL q0 p1 p2 p3)), .second, .val (.int (own_AT q0 p1 p2 p3)), .val (.int (own_FI q0 p1 p2 p3)), .val (.ref b1), .val (.int (own_F1 (own_VAL q0 p1 p2 p3))), .val (.int r_31), .val (.int (1 : Int32))] [(.int (own_F3 (8 : Int32) (own_VAL q0 p1 p2 p3) (own_AT q0 p1 p2 p3) (own_F1 (own_VAL q0 p1 p2 p3)) (own_FI q0 p1 p2 p3) (14 : Int32) f'_31))])) (fun t k => st40 _ k) ?_
  refine own_go (T' := T40) (f' := (mkF m 418 #[.val (.long q0), .second, .val (.int p1), .val (.int p2), .val (.int p3), .val (.long (own_VAL q0 p1 p2 p3)), .second, .val (.int (own_AT q0 p1 p2 p3)), .val (.int (own_FI q0 p1 p2 p3)), .val (.ref b1), .val (.int (own_F1 (own_VAL q0 p1 p2 p3))), .val (.int r_31), .val (.int (1 : Int32))] [(.int (own_FI q0 p1 p2 p3)), (.int (own_F1 (own_VAL q0 p1 p2 p3))), (.int (own_AT q0 p1 p2 p3)), (.long (own_VAL q0 p1 p2 p3)), (.int (9 : Int32)), (.ref b1)])) (fun t k => ?_) ?_
  · show Steps p.tables e below (T40.setTop (mkF m 391 #[.val (.long q0), .second, .val (.int p1), .val (.int p2), .val (.int p3), .val (.long (own_VAL q0 p1 p2 p3)), .second, .val (.int (own_AT q0 p1 p2 p3)), .val (.int (own_FI q0 p1 p2 p3)), .val (.ref b1), .val (.int (own_F1 (own_VAL q0 p1 p2 p3))), .val (.int r_31), .val (.int (1 : Int32))] [(.int (own_F3 (8 : Int32) (own_VAL q0 p1 p2 p3) (own_AT q0 p1 p2 p3) (own_F1 (own_VAL q0 p1 p2 p3)) (own_FI q0 p1 p2 p3) (14 : Int32) f'_31))])) _
    refine XS.ifNo X40.here hx rfl (hb hby at_391) rfl ((if0 _ _).trans (feq (hok.2 (8 : Int32) (by decide) (by decide))).1) ?_
    show Steps p.tables e below (T40.setTop (mkF m 394 #[.val (.long q0), .second, .val (.int p1), .val (.int p2), .val (.int p3), .val (.long (own_VAL q0 p1 p2 p3)), .second, .val (.int (own_AT q0 p1 p2 p3)), .val (.int (own_FI q0 p1 p2 p3)), .val (.ref b1), .val (.int (own_F1 (own_VAL q0 p1 p2 p3))), .val (.int r_31), .val (.int (1 : Int32))] [])) _
    refine XS.iconst X40.here hx rfl (hb hby at_394) ?_
    show Steps p.tables e below (T40.setTop (mkF m 395 #[.val (.long q0), .second, .val (.int p1), .val (.int p2), .val (.int p3), .val (.long (own_VAL q0 p1 p2 p3)), .second, .val (.int (own_AT q0 p1 p2 p3)), .val (.int (own_FI q0 p1 p2 p3)), .val (.ref b1), .val (.int (own_F1 (own_VAL q0 p1 p2 p3))), .val (.int r_31), .val (.int (1 : Int32))] [(.int (1 : Int32))])) _
    refine XS.goto X40.here hx rfl (pc0 := 395) (pc' := 399) rfl (hb hby at_395) (by decide) (by decide) ?_
    show Steps p.tables e below (T40.setTop (mkF m 399 #[.val (.long q0), .second, .val (.int p1), .val (.int p2), .val (.int p3), .val (.long (own_VAL q0 p1 p2 p3)), .second, .val (.int (own_AT q0 p1 p2 p3)), .val (.int (own_FI q0 p1 p2 p3)), .val (.ref b1), .val (.int (own_F1 (own_VAL q0 p1 p2 p3))), .val (.int r_31), .val (.int (1 : Int32))] [(.int (1 : Int32))])) _
    refine XS.istore X40.here hx rfl (hb hby at_399) rfl (l' := #[.val (.long q0), .second, .val (.int p1), .val (.int p2), .val (.int p3), .val (.long (own_VAL q0 p1 p2 p3)), .second, .val (.int (own_AT q0 p1 p2 p3)), .val (.int (own_FI q0 p1 p2 p3)), .val (.ref b1), .val (.int (own_F1 (own_VAL q0 p1 p2 p3))), .val (.int r_31), .val (.int (1 : Int32))]) rfl ?_
    show Steps p.tables e below (T40.setTop (mkF m 401 #[.val (.long q0), .second, .val (.int p1), .val (.int p2), .val (.int p3), .val (.long (own_VAL q0 p1 p2 p3)), .second, .val (.int (own_AT q0 p1 p2 p3)), .val (.int (own_FI q0 p1 p2 p3)), .val (.ref b1), .val (.int (own_F1 (own_VAL q0 p1 p2 p3))), .val (.int r_31), .val (.int (1 : Int32))] [])) _
    refine XS.iload X40.here hx rfl (hb hby at_401) rfl ?_
    show Steps p.tables e below (T40.setTop (mkF m 403 #[.val (.long q0), .second, .val (.int p1), .val (.int p2), .val (.int p3), .val (.long (own_VAL q0 p1 p2 p3)), .second, .val (.int (own_AT q0 p1 p2 p3)), .val (.int (own_FI q0 p1 p2 p3)), .val (.ref b1), .val (.int (own_F1 (own_VAL q0 p1 p2 p3))), .val (.int r_31), .val (.int (1 : Int32))] [(.int (1 : Int32))])) _
    refine XS.ifNo X40.here hx rfl (hb hby at_403) rfl ((if0 _ _).trans (feq (by decide : ¬ ((1 : Int32) = (0 : Int32)))).1) ?_
    show Steps p.tables e below (T40.setTop (mkF m 406 #[.val (.long q0), .second, .val (.int p1), .val (.int p2), .val (.int p3), .val (.long (own_VAL q0 p1 p2 p3)), .second, .val (.int (own_AT q0 p1 p2 p3)), .val (.int (own_FI q0 p1 p2 p3)), .val (.ref b1), .val (.int (own_F1 (own_VAL q0 p1 p2 p3))), .val (.int r_31), .val (.int (1 : Int32))] [])) _
    refine XS.aload X40.here hx rfl (hb hby at_406) rfl rfl ?_
    show Steps p.tables e below (T40.setTop (mkF m 408 #[.val (.long q0), .second, .val (.int p1), .val (.int p2), .val (.int p3), .val (.long (own_VAL q0 p1 p2 p3)), .second, .val (.int (own_AT q0 p1 p2 p3)), .val (.int (own_FI q0 p1 p2 p3)), .val (.ref b1), .val (.int (own_F1 (own_VAL q0 p1 p2 p3))), .val (.int r_31), .val (.int (1 : Int32))] [(.ref b1)])) _
    refine XS.bipush X40.here hx rfl (hb hby at_408) ?_
    show Steps p.tables e below (T40.setTop (mkF m 410 #[.val (.long q0), .second, .val (.int p1), .val (.int p2), .val (.int p3), .val (.long (own_VAL q0 p1 p2 p3)), .second, .val (.int (own_AT q0 p1 p2 p3)), .val (.int (own_FI q0 p1 p2 p3)), .val (.ref b1), .val (.int (own_F1 (own_VAL q0 p1 p2 p3))), .val (.int r_31), .val (.int (1 : Int32))] [(.int (9 : Int32)), (.ref b1)])) _
    refine XS.lload X40.here hx rfl (hb hby at_410) rfl ?_
    show Steps p.tables e below (T40.setTop (mkF m 412 #[.val (.long q0), .second, .val (.int p1), .val (.int p2), .val (.int p3), .val (.long (own_VAL q0 p1 p2 p3)), .second, .val (.int (own_AT q0 p1 p2 p3)), .val (.int (own_FI q0 p1 p2 p3)), .val (.ref b1), .val (.int (own_F1 (own_VAL q0 p1 p2 p3))), .val (.int r_31), .val (.int (1 : Int32))] [(.long (own_VAL q0 p1 p2 p3)), (.int (9 : Int32)), (.ref b1)])) _
    refine XS.iload X40.here hx rfl (hb hby at_412) rfl ?_
    show Steps p.tables e below (T40.setTop (mkF m 414 #[.val (.long q0), .second, .val (.int p1), .val (.int p2), .val (.int p3), .val (.long (own_VAL q0 p1 p2 p3)), .second, .val (.int (own_AT q0 p1 p2 p3)), .val (.int (own_FI q0 p1 p2 p3)), .val (.ref b1), .val (.int (own_F1 (own_VAL q0 p1 p2 p3))), .val (.int r_31), .val (.int (1 : Int32))] [(.int (own_AT q0 p1 p2 p3)), (.long (own_VAL q0 p1 p2 p3)), (.int (9 : Int32)), (.ref b1)])) _
    refine XS.iload X40.here hx rfl (hb hby at_414) rfl ?_
    show Steps p.tables e below (T40.setTop (mkF m 416 #[.val (.long q0), .second, .val (.int p1), .val (.int p2), .val (.int p3), .val (.long (own_VAL q0 p1 p2 p3)), .second, .val (.int (own_AT q0 p1 p2 p3)), .val (.int (own_FI q0 p1 p2 p3)), .val (.ref b1), .val (.int (own_F1 (own_VAL q0 p1 p2 p3))), .val (.int r_31), .val (.int (1 : Int32))] [(.int (own_F1 (own_VAL q0 p1 p2 p3))), (.int (own_AT q0 p1 p2 p3)), (.long (own_VAL q0 p1 p2 p3)), (.int (9 : Int32)), (.ref b1)])) _
    refine XS.iload X40.here hx rfl (hb hby at_416) rfl ?_
    show Steps p.tables e below (T40.setTop (mkF m 418 #[.val (.long q0), .second, .val (.int p1), .val (.int p2), .val (.int p3), .val (.long (own_VAL q0 p1 p2 p3)), .second, .val (.int (own_AT q0 p1 p2 p3)), .val (.int (own_FI q0 p1 p2 p3)), .val (.ref b1), .val (.int (own_F1 (own_VAL q0 p1 p2 p3))), .val (.int r_31), .val (.int (1 : Int32))] [(.int (own_FI q0 p1 p2 p3)), (.int (own_F1 (own_VAL q0 p1 p2 p3))), (.int (own_AT q0 p1 p2 p3)), (.long (own_VAL q0 p1 p2 p3)), (.int (9 : Int32)), (.ref b1)])) _
    exact k
  obtain ⟨T41, Lq41, X41, N41, hQ41, st41⟩ := own_pf0 (vv := some (.int (own_F3 (9 : Int32) (own_VAL q0 p1 p2 p3) (own_AT q0 p1 p2 p3) (own_F1 (own_VAL q0 p1 p2 p3)) (own_FI q0 p1 p2 p3) (14 : Int32) f'_31))) N40 (Jvm.LawKit.callS X40 hx (y := (⟨"com/example/rowcast/rowcast/binary/Leb128WriteUnsignedPinLaw", "check", "([BIJIIB)Z"⟩ : MethodName)) hown (mvT hZ (hw _ (List.mem_of_getElem? (i := 10) rfl))) (mvT hZ (hw _ (List.mem_of_getElem? (i := 11) rfl))) (mvT hZ (hw _ (List.mem_of_getElem? (i := 3) rfl))) (mvT hZ (hw _ (List.mem_of_getElem? (i := 12) rfl))) (by decide) (backOf (W := 0) (own_rm3 l Z a0 hw [] b1 ((9 : Int32)) ((own_VAL q0 p1 p2 p3)) ((own_AT q0 p1 p2 p3)) ((own_F1 (own_VAL q0 p1 p2 p3))) ((own_FI q0 p1 p2 p3)) ((14 : Int32)) (f'_31) T31.heap n0 Zs31 p31_0 (by decide) (by decide)) hZ (hw _ (List.mem_of_getElem? (i := 12) rfl)) (hw _ (List.mem_of_getElem? (i := 3) rfl)) (by decide) (by decide)) (g := (mkF m 418 #[.val (.long q0), .second, .val (.int p1), .val (.int p2), .val (.int p3), .val (.long (own_VAL q0 p1 p2 p3)), .second, .val (.int (own_AT q0 p1 p2 p3)), .val (.int (own_FI q0 p1 p2 p3)), .val (.ref b1), .val (.int (own_F1 (own_VAL q0 p1 p2 p3))), .val (.int r_31), .val (.int (1 : Int32))] [(.int (own_FI q0 p1 p2 p3)), (.int (own_F1 (own_VAL q0 p1 p2 p3))), (.int (own_AT q0 p1 p2 p3)), (.long (own_VAL q0 p1 p2 p3)), (.int (9 : Int32)), (.ref b1)])) rfl (by rw [hml]; rfl) (argsL := [(.ref b1), (.int (9 : Int32)), (.long (own_VAL q0 p1 p2 p3)), (.int (own_AT q0 p1 p2 p3)), (.int (own_F1 (own_VAL q0 p1 p2 p3))), (.int (own_FI q0 p1 p2 p3))]) (rest := []) (lenOf own_pd2 rfl) rfl (by show 2 * 0 + _ ≤ _; exact Nat.le_of_eq rfl) (hb hby at_418) (fun _ _ => ⟨rfl, h40q, (by decide : 1 + 0 ≤ _), (by decide : 14 + 0 ≤ _)⟩)) (fun _ _ _ q => q) (k1 := 1) (k2 := 14) rfl rfl
  have h41q : T41.heap = T31.heap := hQ41
  refine own_go (T' := T41) (f' := (mkF m 421 #[.val (.long q0), .second, .val (.int p1), .val (.int p2), .val (.int p3), .val (.long (own_VAL q0 p1 p2 p3)), .second, .val (.int (own_AT q0 p1 p2 p3)), .val (.int (own_FI q0 p1 p2 p3)), .val (.ref b1), .val (.int (own_F1 (own_VAL q0 p1 p2 p3))), .val (.int r_31), .val (.int (1 : Int32))] [(.int (own_F3 (9 : Int32) (own_VAL q0 p1 p2 p3) (own_AT q0 p1 p2 p3) (own_F1 (own_VAL q0 p1 p2 p3)) (own_FI q0 p1 p2 p3) (14 : Int32) f'_31))])) (fun t k => st41 _ k) ?_
  refine own_go (T' := T41) (f' := (mkF m 448 #[.val (.long q0), .second, .val (.int p1), .val (.int p2), .val (.int p3), .val (.long (own_VAL q0 p1 p2 p3)), .second, .val (.int (own_AT q0 p1 p2 p3)), .val (.int (own_FI q0 p1 p2 p3)), .val (.ref b1), .val (.int (own_F1 (own_VAL q0 p1 p2 p3))), .val (.int r_31), .val (.int (1 : Int32))] [(.int (own_FI q0 p1 p2 p3)), (.int (own_F1 (own_VAL q0 p1 p2 p3))), (.int (own_AT q0 p1 p2 p3)), (.long (own_VAL q0 p1 p2 p3)), (.int (10 : Int32)), (.ref b1)])) (fun t k => ?_) ?_
  · show Steps p.tables e below (T41.setTop (mkF m 421 #[.val (.long q0), .second, .val (.int p1), .val (.int p2), .val (.int p3), .val (.long (own_VAL q0 p1 p2 p3)), .second, .val (.int (own_AT q0 p1 p2 p3)), .val (.int (own_FI q0 p1 p2 p3)), .val (.ref b1), .val (.int (own_F1 (own_VAL q0 p1 p2 p3))), .val (.int r_31), .val (.int (1 : Int32))] [(.int (own_F3 (9 : Int32) (own_VAL q0 p1 p2 p3) (own_AT q0 p1 p2 p3) (own_F1 (own_VAL q0 p1 p2 p3)) (own_FI q0 p1 p2 p3) (14 : Int32) f'_31))])) _
    refine XS.ifNo X41.here hx rfl (hb hby at_421) rfl ((if0 _ _).trans (feq (hok.2 (9 : Int32) (by decide) (by decide))).1) ?_
    show Steps p.tables e below (T41.setTop (mkF m 424 #[.val (.long q0), .second, .val (.int p1), .val (.int p2), .val (.int p3), .val (.long (own_VAL q0 p1 p2 p3)), .second, .val (.int (own_AT q0 p1 p2 p3)), .val (.int (own_FI q0 p1 p2 p3)), .val (.ref b1), .val (.int (own_F1 (own_VAL q0 p1 p2 p3))), .val (.int r_31), .val (.int (1 : Int32))] [])) _
    refine XS.iconst X41.here hx rfl (hb hby at_424) ?_
    show Steps p.tables e below (T41.setTop (mkF m 425 #[.val (.long q0), .second, .val (.int p1), .val (.int p2), .val (.int p3), .val (.long (own_VAL q0 p1 p2 p3)), .second, .val (.int (own_AT q0 p1 p2 p3)), .val (.int (own_FI q0 p1 p2 p3)), .val (.ref b1), .val (.int (own_F1 (own_VAL q0 p1 p2 p3))), .val (.int r_31), .val (.int (1 : Int32))] [(.int (1 : Int32))])) _
    refine XS.goto X41.here hx rfl (pc0 := 425) (pc' := 429) rfl (hb hby at_425) (by decide) (by decide) ?_
    show Steps p.tables e below (T41.setTop (mkF m 429 #[.val (.long q0), .second, .val (.int p1), .val (.int p2), .val (.int p3), .val (.long (own_VAL q0 p1 p2 p3)), .second, .val (.int (own_AT q0 p1 p2 p3)), .val (.int (own_FI q0 p1 p2 p3)), .val (.ref b1), .val (.int (own_F1 (own_VAL q0 p1 p2 p3))), .val (.int r_31), .val (.int (1 : Int32))] [(.int (1 : Int32))])) _
    refine XS.istore X41.here hx rfl (hb hby at_429) rfl (l' := #[.val (.long q0), .second, .val (.int p1), .val (.int p2), .val (.int p3), .val (.long (own_VAL q0 p1 p2 p3)), .second, .val (.int (own_AT q0 p1 p2 p3)), .val (.int (own_FI q0 p1 p2 p3)), .val (.ref b1), .val (.int (own_F1 (own_VAL q0 p1 p2 p3))), .val (.int r_31), .val (.int (1 : Int32))]) rfl ?_
    show Steps p.tables e below (T41.setTop (mkF m 431 #[.val (.long q0), .second, .val (.int p1), .val (.int p2), .val (.int p3), .val (.long (own_VAL q0 p1 p2 p3)), .second, .val (.int (own_AT q0 p1 p2 p3)), .val (.int (own_FI q0 p1 p2 p3)), .val (.ref b1), .val (.int (own_F1 (own_VAL q0 p1 p2 p3))), .val (.int r_31), .val (.int (1 : Int32))] [])) _
    refine XS.iload X41.here hx rfl (hb hby at_431) rfl ?_
    show Steps p.tables e below (T41.setTop (mkF m 433 #[.val (.long q0), .second, .val (.int p1), .val (.int p2), .val (.int p3), .val (.long (own_VAL q0 p1 p2 p3)), .second, .val (.int (own_AT q0 p1 p2 p3)), .val (.int (own_FI q0 p1 p2 p3)), .val (.ref b1), .val (.int (own_F1 (own_VAL q0 p1 p2 p3))), .val (.int r_31), .val (.int (1 : Int32))] [(.int (1 : Int32))])) _
    refine XS.ifNo X41.here hx rfl (hb hby at_433) rfl ((if0 _ _).trans (feq (by decide : ¬ ((1 : Int32) = (0 : Int32)))).1) ?_
    show Steps p.tables e below (T41.setTop (mkF m 436 #[.val (.long q0), .second, .val (.int p1), .val (.int p2), .val (.int p3), .val (.long (own_VAL q0 p1 p2 p3)), .second, .val (.int (own_AT q0 p1 p2 p3)), .val (.int (own_FI q0 p1 p2 p3)), .val (.ref b1), .val (.int (own_F1 (own_VAL q0 p1 p2 p3))), .val (.int r_31), .val (.int (1 : Int32))] [])) _
    refine XS.aload X41.here hx rfl (hb hby at_436) rfl rfl ?_
    show Steps p.tables e below (T41.setTop (mkF m 438 #[.val (.long q0), .second, .val (.int p1), .val (.int p2), .val (.int p3), .val (.long (own_VAL q0 p1 p2 p3)), .second, .val (.int (own_AT q0 p1 p2 p3)), .val (.int (own_FI q0 p1 p2 p3)), .val (.ref b1), .val (.int (own_F1 (own_VAL q0 p1 p2 p3))), .val (.int r_31), .val (.int (1 : Int32))] [(.ref b1)])) _
    refine XS.bipush X41.here hx rfl (hb hby at_438) ?_
    show Steps p.tables e below (T41.setTop (mkF m 440 #[.val (.long q0), .second, .val (.int p1), .val (.int p2), .val (.int p3), .val (.long (own_VAL q0 p1 p2 p3)), .second, .val (.int (own_AT q0 p1 p2 p3)), .val (.int (own_FI q0 p1 p2 p3)), .val (.ref b1), .val (.int (own_F1 (own_VAL q0 p1 p2 p3))), .val (.int r_31), .val (.int (1 : Int32))] [(.int (10 : Int32)), (.ref b1)])) _
    refine XS.lload X41.here hx rfl (hb hby at_440) rfl ?_
    show Steps p.tables e below (T41.setTop (mkF m 442 #[.val (.long q0), .second, .val (.int p1), .val (.int p2), .val (.int p3), .val (.long (own_VAL q0 p1 p2 p3)), .second, .val (.int (own_AT q0 p1 p2 p3)), .val (.int (own_FI q0 p1 p2 p3)), .val (.ref b1), .val (.int (own_F1 (own_VAL q0 p1 p2 p3))), .val (.int r_31), .val (.int (1 : Int32))] [(.long (own_VAL q0 p1 p2 p3)), (.int (10 : Int32)), (.ref b1)])) _
    refine XS.iload X41.here hx rfl (hb hby at_442) rfl ?_
    show Steps p.tables e below (T41.setTop (mkF m 444 #[.val (.long q0), .second, .val (.int p1), .val (.int p2), .val (.int p3), .val (.long (own_VAL q0 p1 p2 p3)), .second, .val (.int (own_AT q0 p1 p2 p3)), .val (.int (own_FI q0 p1 p2 p3)), .val (.ref b1), .val (.int (own_F1 (own_VAL q0 p1 p2 p3))), .val (.int r_31), .val (.int (1 : Int32))] [(.int (own_AT q0 p1 p2 p3)), (.long (own_VAL q0 p1 p2 p3)), (.int (10 : Int32)), (.ref b1)])) _
    refine XS.iload X41.here hx rfl (hb hby at_444) rfl ?_
    show Steps p.tables e below (T41.setTop (mkF m 446 #[.val (.long q0), .second, .val (.int p1), .val (.int p2), .val (.int p3), .val (.long (own_VAL q0 p1 p2 p3)), .second, .val (.int (own_AT q0 p1 p2 p3)), .val (.int (own_FI q0 p1 p2 p3)), .val (.ref b1), .val (.int (own_F1 (own_VAL q0 p1 p2 p3))), .val (.int r_31), .val (.int (1 : Int32))] [(.int (own_F1 (own_VAL q0 p1 p2 p3))), (.int (own_AT q0 p1 p2 p3)), (.long (own_VAL q0 p1 p2 p3)), (.int (10 : Int32)), (.ref b1)])) _
    refine XS.iload X41.here hx rfl (hb hby at_446) rfl ?_
    show Steps p.tables e below (T41.setTop (mkF m 448 #[.val (.long q0), .second, .val (.int p1), .val (.int p2), .val (.int p3), .val (.long (own_VAL q0 p1 p2 p3)), .second, .val (.int (own_AT q0 p1 p2 p3)), .val (.int (own_FI q0 p1 p2 p3)), .val (.ref b1), .val (.int (own_F1 (own_VAL q0 p1 p2 p3))), .val (.int r_31), .val (.int (1 : Int32))] [(.int (own_FI q0 p1 p2 p3)), (.int (own_F1 (own_VAL q0 p1 p2 p3))), (.int (own_AT q0 p1 p2 p3)), (.long (own_VAL q0 p1 p2 p3)), (.int (10 : Int32)), (.ref b1)])) _
    exact k
  obtain ⟨T42, Lq42, X42, N42, hQ42, st42⟩ := own_pf0 (vv := some (.int (own_F3 (10 : Int32) (own_VAL q0 p1 p2 p3) (own_AT q0 p1 p2 p3) (own_F1 (own_VAL q0 p1 p2 p3)) (own_FI q0 p1 p2 p3) (14 : Int32) f'_31))) N41 (Jvm.LawKit.callS X41 hx (y := (⟨"com/example/rowcast/rowcast/binary/Leb128WriteUnsignedPinLaw", "check", "([BIJIIB)Z"⟩ : MethodName)) hown (mvT hZ (hw _ (List.mem_of_getElem? (i := 10) rfl))) (mvT hZ (hw _ (List.mem_of_getElem? (i := 11) rfl))) (mvT hZ (hw _ (List.mem_of_getElem? (i := 3) rfl))) (mvT hZ (hw _ (List.mem_of_getElem? (i := 12) rfl))) (by decide) (backOf (W := 0) (own_rm3 l Z a0 hw [] b1 ((10 : Int32)) ((own_VAL q0 p1 p2 p3)) ((own_AT q0 p1 p2 p3)) ((own_F1 (own_VAL q0 p1 p2 p3))) ((own_FI q0 p1 p2 p3)) ((14 : Int32)) (f'_31) T31.heap n0 Zs31 p31_0 (by decide) (by decide)) hZ (hw _ (List.mem_of_getElem? (i := 12) rfl)) (hw _ (List.mem_of_getElem? (i := 3) rfl)) (by decide) (by decide)) (g := (mkF m 448 #[.val (.long q0), .second, .val (.int p1), .val (.int p2), .val (.int p3), .val (.long (own_VAL q0 p1 p2 p3)), .second, .val (.int (own_AT q0 p1 p2 p3)), .val (.int (own_FI q0 p1 p2 p3)), .val (.ref b1), .val (.int (own_F1 (own_VAL q0 p1 p2 p3))), .val (.int r_31), .val (.int (1 : Int32))] [(.int (own_FI q0 p1 p2 p3)), (.int (own_F1 (own_VAL q0 p1 p2 p3))), (.int (own_AT q0 p1 p2 p3)), (.long (own_VAL q0 p1 p2 p3)), (.int (10 : Int32)), (.ref b1)])) rfl (by rw [hml]; rfl) (argsL := [(.ref b1), (.int (10 : Int32)), (.long (own_VAL q0 p1 p2 p3)), (.int (own_AT q0 p1 p2 p3)), (.int (own_F1 (own_VAL q0 p1 p2 p3))), (.int (own_FI q0 p1 p2 p3))]) (rest := []) (lenOf own_pd2 rfl) rfl (by show 2 * 0 + _ ≤ _; exact Nat.le_of_eq rfl) (hb hby at_448) (fun _ _ => ⟨rfl, h41q, (by decide : 1 + 0 ≤ _), (by decide : 14 + 0 ≤ _)⟩)) (fun _ _ _ q => q) (k1 := 1) (k2 := 14) rfl rfl
  have h42q : T42.heap = T31.heap := hQ42
  refine own_go (T' := T42) (f' := (mkF m 451 #[.val (.long q0), .second, .val (.int p1), .val (.int p2), .val (.int p3), .val (.long (own_VAL q0 p1 p2 p3)), .second, .val (.int (own_AT q0 p1 p2 p3)), .val (.int (own_FI q0 p1 p2 p3)), .val (.ref b1), .val (.int (own_F1 (own_VAL q0 p1 p2 p3))), .val (.int r_31), .val (.int (1 : Int32))] [(.int (own_F3 (10 : Int32) (own_VAL q0 p1 p2 p3) (own_AT q0 p1 p2 p3) (own_F1 (own_VAL q0 p1 p2 p3)) (own_FI q0 p1 p2 p3) (14 : Int32) f'_31))])) (fun t k => st42 _ k) ?_
  refine own_go (T' := T42) (f' := (mkF m 478 #[.val (.long q0), .second, .val (.int p1), .val (.int p2), .val (.int p3), .val (.long (own_VAL q0 p1 p2 p3)), .second, .val (.int (own_AT q0 p1 p2 p3)), .val (.int (own_FI q0 p1 p2 p3)), .val (.ref b1), .val (.int (own_F1 (own_VAL q0 p1 p2 p3))), .val (.int r_31), .val (.int (1 : Int32))] [(.int (own_FI q0 p1 p2 p3)), (.int (own_F1 (own_VAL q0 p1 p2 p3))), (.int (own_AT q0 p1 p2 p3)), (.long (own_VAL q0 p1 p2 p3)), (.int (11 : Int32)), (.ref b1)])) (fun t k => ?_) ?_
  · show Steps p.tables e below (T42.setTop (mkF m 451 #[.val (.long q0), .second, .val (.int p1), .val (.int p2), .val (.int p3), .val (.long (own_VAL q0 p1 p2 p3)), .second, .val (.int (own_AT q0 p1 p2 p3)), .val (.int (own_FI q0 p1 p2 p3)), .val (.ref b1), .val (.int (own_F1 (own_VAL q0 p1 p2 p3))), .val (.int r_31), .val (.int (1 : Int32))] [(.int (own_F3 (10 : Int32) (own_VAL q0 p1 p2 p3) (own_AT q0 p1 p2 p3) (own_F1 (own_VAL q0 p1 p2 p3)) (own_FI q0 p1 p2 p3) (14 : Int32) f'_31))])) _
    refine XS.ifNo X42.here hx rfl (hb hby at_451) rfl ((if0 _ _).trans (feq (hok.2 (10 : Int32) (by decide) (by decide))).1) ?_
    show Steps p.tables e below (T42.setTop (mkF m 454 #[.val (.long q0), .second, .val (.int p1), .val (.int p2), .val (.int p3), .val (.long (own_VAL q0 p1 p2 p3)), .second, .val (.int (own_AT q0 p1 p2 p3)), .val (.int (own_FI q0 p1 p2 p3)), .val (.ref b1), .val (.int (own_F1 (own_VAL q0 p1 p2 p3))), .val (.int r_31), .val (.int (1 : Int32))] [])) _
    refine XS.iconst X42.here hx rfl (hb hby at_454) ?_
    show Steps p.tables e below (T42.setTop (mkF m 455 #[.val (.long q0), .second, .val (.int p1), .val (.int p2), .val (.int p3), .val (.long (own_VAL q0 p1 p2 p3)), .second, .val (.int (own_AT q0 p1 p2 p3)), .val (.int (own_FI q0 p1 p2 p3)), .val (.ref b1), .val (.int (own_F1 (own_VAL q0 p1 p2 p3))), .val (.int r_31), .val (.int (1 : Int32))] [(.int (1 : Int32))])) _
    refine XS.goto X42.here hx rfl (pc0 := 455) (pc' := 459) rfl (hb hby at_455) (by decide) (by decide) ?_
    show Steps p.tables e below (T42.setTop (mkF m 459 #[.val (.long q0), .second, .val (.int p1), .val (.int p2), .val (.int p3), .val (.long (own_VAL q0 p1 p2 p3)), .second, .val (.int (own_AT q0 p1 p2 p3)), .val (.int (own_FI q0 p1 p2 p3)), .val (.ref b1), .val (.int (own_F1 (own_VAL q0 p1 p2 p3))), .val (.int r_31), .val (.int (1 : Int32))] [(.int (1 : Int32))])) _
    refine XS.istore X42.here hx rfl (hb hby at_459) rfl (l' := #[.val (.long q0), .second, .val (.int p1), .val (.int p2), .val (.int p3), .val (.long (own_VAL q0 p1 p2 p3)), .second, .val (.int (own_AT q0 p1 p2 p3)), .val (.int (own_FI q0 p1 p2 p3)), .val (.ref b1), .val (.int (own_F1 (own_VAL q0 p1 p2 p3))), .val (.int r_31), .val (.int (1 : Int32))]) rfl ?_
    show Steps p.tables e below (T42.setTop (mkF m 461 #[.val (.long q0), .second, .val (.int p1), .val (.int p2), .val (.int p3), .val (.long (own_VAL q0 p1 p2 p3)), .second, .val (.int (own_AT q0 p1 p2 p3)), .val (.int (own_FI q0 p1 p2 p3)), .val (.ref b1), .val (.int (own_F1 (own_VAL q0 p1 p2 p3))), .val (.int r_31), .val (.int (1 : Int32))] [])) _
    refine XS.iload X42.here hx rfl (hb hby at_461) rfl ?_
    show Steps p.tables e below (T42.setTop (mkF m 463 #[.val (.long q0), .second, .val (.int p1), .val (.int p2), .val (.int p3), .val (.long (own_VAL q0 p1 p2 p3)), .second, .val (.int (own_AT q0 p1 p2 p3)), .val (.int (own_FI q0 p1 p2 p3)), .val (.ref b1), .val (.int (own_F1 (own_VAL q0 p1 p2 p3))), .val (.int r_31), .val (.int (1 : Int32))] [(.int (1 : Int32))])) _
    refine XS.ifNo X42.here hx rfl (hb hby at_463) rfl ((if0 _ _).trans (feq (by decide : ¬ ((1 : Int32) = (0 : Int32)))).1) ?_
    show Steps p.tables e below (T42.setTop (mkF m 466 #[.val (.long q0), .second, .val (.int p1), .val (.int p2), .val (.int p3), .val (.long (own_VAL q0 p1 p2 p3)), .second, .val (.int (own_AT q0 p1 p2 p3)), .val (.int (own_FI q0 p1 p2 p3)), .val (.ref b1), .val (.int (own_F1 (own_VAL q0 p1 p2 p3))), .val (.int r_31), .val (.int (1 : Int32))] [])) _
    refine XS.aload X42.here hx rfl (hb hby at_466) rfl rfl ?_
    show Steps p.tables e below (T42.setTop (mkF m 468 #[.val (.long q0), .second, .val (.int p1), .val (.int p2), .val (.int p3), .val (.long (own_VAL q0 p1 p2 p3)), .second, .val (.int (own_AT q0 p1 p2 p3)), .val (.int (own_FI q0 p1 p2 p3)), .val (.ref b1), .val (.int (own_F1 (own_VAL q0 p1 p2 p3))), .val (.int r_31), .val (.int (1 : Int32))] [(.ref b1)])) _
    refine XS.bipush X42.here hx rfl (hb hby at_468) ?_
    show Steps p.tables e below (T42.setTop (mkF m 470 #[.val (.long q0), .second, .val (.int p1), .val (.int p2), .val (.int p3), .val (.long (own_VAL q0 p1 p2 p3)), .second, .val (.int (own_AT q0 p1 p2 p3)), .val (.int (own_FI q0 p1 p2 p3)), .val (.ref b1), .val (.int (own_F1 (own_VAL q0 p1 p2 p3))), .val (.int r_31), .val (.int (1 : Int32))] [(.int (11 : Int32)), (.ref b1)])) _
    refine XS.lload X42.here hx rfl (hb hby at_470) rfl ?_
    show Steps p.tables e below (T42.setTop (mkF m 472 #[.val (.long q0), .second, .val (.int p1), .val (.int p2), .val (.int p3), .val (.long (own_VAL q0 p1 p2 p3)), .second, .val (.int (own_AT q0 p1 p2 p3)), .val (.int (own_FI q0 p1 p2 p3)), .val (.ref b1), .val (.int (own_F1 (own_VAL q0 p1 p2 p3))), .val (.int r_31), .val (.int (1 : Int32))] [(.long (own_VAL q0 p1 p2 p3)), (.int (11 : Int32)), (.ref b1)])) _
    refine XS.iload X42.here hx rfl (hb hby at_472) rfl ?_
    show Steps p.tables e below (T42.setTop (mkF m 474 #[.val (.long q0), .second, .val (.int p1), .val (.int p2), .val (.int p3), .val (.long (own_VAL q0 p1 p2 p3)), .second, .val (.int (own_AT q0 p1 p2 p3)), .val (.int (own_FI q0 p1 p2 p3)), .val (.ref b1), .val (.int (own_F1 (own_VAL q0 p1 p2 p3))), .val (.int r_31), .val (.int (1 : Int32))] [(.int (own_AT q0 p1 p2 p3)), (.long (own_VAL q0 p1 p2 p3)), (.int (11 : Int32)), (.ref b1)])) _
    refine XS.iload X42.here hx rfl (hb hby at_474) rfl ?_
    show Steps p.tables e below (T42.setTop (mkF m 476 #[.val (.long q0), .second, .val (.int p1), .val (.int p2), .val (.int p3), .val (.long (own_VAL q0 p1 p2 p3)), .second, .val (.int (own_AT q0 p1 p2 p3)), .val (.int (own_FI q0 p1 p2 p3)), .val (.ref b1), .val (.int (own_F1 (own_VAL q0 p1 p2 p3))), .val (.int r_31), .val (.int (1 : Int32))] [(.int (own_F1 (own_VAL q0 p1 p2 p3))), (.int (own_AT q0 p1 p2 p3)), (.long (own_VAL q0 p1 p2 p3)), (.int (11 : Int32)), (.ref b1)])) _
    refine XS.iload X42.here hx rfl (hb hby at_476) rfl ?_
    show Steps p.tables e below (T42.setTop (mkF m 478 #[.val (.long q0), .second, .val (.int p1), .val (.int p2), .val (.int p3), .val (.long (own_VAL q0 p1 p2 p3)), .second, .val (.int (own_AT q0 p1 p2 p3)), .val (.int (own_FI q0 p1 p2 p3)), .val (.ref b1), .val (.int (own_F1 (own_VAL q0 p1 p2 p3))), .val (.int r_31), .val (.int (1 : Int32))] [(.int (own_FI q0 p1 p2 p3)), (.int (own_F1 (own_VAL q0 p1 p2 p3))), (.int (own_AT q0 p1 p2 p3)), (.long (own_VAL q0 p1 p2 p3)), (.int (11 : Int32)), (.ref b1)])) _
    exact k
  obtain ⟨T43, Lq43, X43, N43, hQ43, st43⟩ := own_pf0 (vv := some (.int (own_F3 (11 : Int32) (own_VAL q0 p1 p2 p3) (own_AT q0 p1 p2 p3) (own_F1 (own_VAL q0 p1 p2 p3)) (own_FI q0 p1 p2 p3) (14 : Int32) f'_31))) N42 (Jvm.LawKit.callS X42 hx (y := (⟨"com/example/rowcast/rowcast/binary/Leb128WriteUnsignedPinLaw", "check", "([BIJIIB)Z"⟩ : MethodName)) hown (mvT hZ (hw _ (List.mem_of_getElem? (i := 10) rfl))) (mvT hZ (hw _ (List.mem_of_getElem? (i := 11) rfl))) (mvT hZ (hw _ (List.mem_of_getElem? (i := 3) rfl))) (mvT hZ (hw _ (List.mem_of_getElem? (i := 12) rfl))) (by decide) (backOf (W := 0) (own_rm3 l Z a0 hw [] b1 ((11 : Int32)) ((own_VAL q0 p1 p2 p3)) ((own_AT q0 p1 p2 p3)) ((own_F1 (own_VAL q0 p1 p2 p3))) ((own_FI q0 p1 p2 p3)) ((14 : Int32)) (f'_31) T31.heap n0 Zs31 p31_0 (by decide) (by decide)) hZ (hw _ (List.mem_of_getElem? (i := 12) rfl)) (hw _ (List.mem_of_getElem? (i := 3) rfl)) (by decide) (by decide)) (g := (mkF m 478 #[.val (.long q0), .second, .val (.int p1), .val (.int p2), .val (.int p3), .val (.long (own_VAL q0 p1 p2 p3)), .second, .val (.int (own_AT q0 p1 p2 p3)), .val (.int (own_FI q0 p1 p2 p3)), .val (.ref b1), .val (.int (own_F1 (own_VAL q0 p1 p2 p3))), .val (.int r_31), .val (.int (1 : Int32))] [(.int (own_FI q0 p1 p2 p3)), (.int (own_F1 (own_VAL q0 p1 p2 p3))), (.int (own_AT q0 p1 p2 p3)), (.long (own_VAL q0 p1 p2 p3)), (.int (11 : Int32)), (.ref b1)])) rfl (by rw [hml]; rfl) (argsL := [(.ref b1), (.int (11 : Int32)), (.long (own_VAL q0 p1 p2 p3)), (.int (own_AT q0 p1 p2 p3)), (.int (own_F1 (own_VAL q0 p1 p2 p3))), (.int (own_FI q0 p1 p2 p3))]) (rest := []) (lenOf own_pd2 rfl) rfl (by show 2 * 0 + _ ≤ _; exact Nat.le_of_eq rfl) (hb hby at_478) (fun _ _ => ⟨rfl, h42q, (by decide : 1 + 0 ≤ _), (by decide : 14 + 0 ≤ _)⟩)) (fun _ _ _ q => q) (k1 := 1) (k2 := 14) rfl rfl
  have h43q : T43.heap = T31.heap := hQ43
  refine own_go (T' := T43) (f' := (mkF m 481 #[.val (.long q0), .second, .val (.int p1), .val (.int p2), .val (.int p3), .val (.long (own_VAL q0 p1 p2 p3)), .second, .val (.int (own_AT q0 p1 p2 p3)), .val (.int (own_FI q0 p1 p2 p3)), .val (.ref b1), .val (.int (own_F1 (own_VAL q0 p1 p2 p3))), .val (.int r_31), .val (.int (1 : Int32))] [(.int (own_F3 (11 : Int32) (own_VAL q0 p1 p2 p3) (own_AT q0 p1 p2 p3) (own_F1 (own_VAL q0 p1 p2 p3)) (own_FI q0 p1 p2 p3) (14 : Int32) f'_31))])) (fun t k => st43 _ k) ?_
  refine own_go (T' := T43) (f' := (mkF m 508 #[.val (.long q0), .second, .val (.int p1), .val (.int p2), .val (.int p3), .val (.long (own_VAL q0 p1 p2 p3)), .second, .val (.int (own_AT q0 p1 p2 p3)), .val (.int (own_FI q0 p1 p2 p3)), .val (.ref b1), .val (.int (own_F1 (own_VAL q0 p1 p2 p3))), .val (.int r_31), .val (.int (1 : Int32))] [(.int (own_FI q0 p1 p2 p3)), (.int (own_F1 (own_VAL q0 p1 p2 p3))), (.int (own_AT q0 p1 p2 p3)), (.long (own_VAL q0 p1 p2 p3)), (.int (12 : Int32)), (.ref b1)])) (fun t k => ?_) ?_
  · show Steps p.tables e below (T43.setTop (mkF m 481 #[.val (.long q0), .second, .val (.int p1), .val (.int p2), .val (.int p3), .val (.long (own_VAL q0 p1 p2 p3)), .second, .val (.int (own_AT q0 p1 p2 p3)), .val (.int (own_FI q0 p1 p2 p3)), .val (.ref b1), .val (.int (own_F1 (own_VAL q0 p1 p2 p3))), .val (.int r_31), .val (.int (1 : Int32))] [(.int (own_F3 (11 : Int32) (own_VAL q0 p1 p2 p3) (own_AT q0 p1 p2 p3) (own_F1 (own_VAL q0 p1 p2 p3)) (own_FI q0 p1 p2 p3) (14 : Int32) f'_31))])) _
    refine XS.ifNo X43.here hx rfl (hb hby at_481) rfl ((if0 _ _).trans (feq (hok.2 (11 : Int32) (by decide) (by decide))).1) ?_
    show Steps p.tables e below (T43.setTop (mkF m 484 #[.val (.long q0), .second, .val (.int p1), .val (.int p2), .val (.int p3), .val (.long (own_VAL q0 p1 p2 p3)), .second, .val (.int (own_AT q0 p1 p2 p3)), .val (.int (own_FI q0 p1 p2 p3)), .val (.ref b1), .val (.int (own_F1 (own_VAL q0 p1 p2 p3))), .val (.int r_31), .val (.int (1 : Int32))] [])) _
    refine XS.iconst X43.here hx rfl (hb hby at_484) ?_
    show Steps p.tables e below (T43.setTop (mkF m 485 #[.val (.long q0), .second, .val (.int p1), .val (.int p2), .val (.int p3), .val (.long (own_VAL q0 p1 p2 p3)), .second, .val (.int (own_AT q0 p1 p2 p3)), .val (.int (own_FI q0 p1 p2 p3)), .val (.ref b1), .val (.int (own_F1 (own_VAL q0 p1 p2 p3))), .val (.int r_31), .val (.int (1 : Int32))] [(.int (1 : Int32))])) _
    refine XS.goto X43.here hx rfl (pc0 := 485) (pc' := 489) rfl (hb hby at_485) (by decide) (by decide) ?_
    show Steps p.tables e below (T43.setTop (mkF m 489 #[.val (.long q0), .second, .val (.int p1), .val (.int p2), .val (.int p3), .val (.long (own_VAL q0 p1 p2 p3)), .second, .val (.int (own_AT q0 p1 p2 p3)), .val (.int (own_FI q0 p1 p2 p3)), .val (.ref b1), .val (.int (own_F1 (own_VAL q0 p1 p2 p3))), .val (.int r_31), .val (.int (1 : Int32))] [(.int (1 : Int32))])) _
    refine XS.istore X43.here hx rfl (hb hby at_489) rfl (l' := #[.val (.long q0), .second, .val (.int p1), .val (.int p2), .val (.int p3), .val (.long (own_VAL q0 p1 p2 p3)), .second, .val (.int (own_AT q0 p1 p2 p3)), .val (.int (own_FI q0 p1 p2 p3)), .val (.ref b1), .val (.int (own_F1 (own_VAL q0 p1 p2 p3))), .val (.int r_31), .val (.int (1 : Int32))]) rfl ?_
    show Steps p.tables e below (T43.setTop (mkF m 491 #[.val (.long q0), .second, .val (.int p1), .val (.int p2), .val (.int p3), .val (.long (own_VAL q0 p1 p2 p3)), .second, .val (.int (own_AT q0 p1 p2 p3)), .val (.int (own_FI q0 p1 p2 p3)), .val (.ref b1), .val (.int (own_F1 (own_VAL q0 p1 p2 p3))), .val (.int r_31), .val (.int (1 : Int32))] [])) _
    refine XS.iload X43.here hx rfl (hb hby at_491) rfl ?_
    show Steps p.tables e below (T43.setTop (mkF m 493 #[.val (.long q0), .second, .val (.int p1), .val (.int p2), .val (.int p3), .val (.long (own_VAL q0 p1 p2 p3)), .second, .val (.int (own_AT q0 p1 p2 p3)), .val (.int (own_FI q0 p1 p2 p3)), .val (.ref b1), .val (.int (own_F1 (own_VAL q0 p1 p2 p3))), .val (.int r_31), .val (.int (1 : Int32))] [(.int (1 : Int32))])) _
    refine XS.ifNo X43.here hx rfl (hb hby at_493) rfl ((if0 _ _).trans (feq (by decide : ¬ ((1 : Int32) = (0 : Int32)))).1) ?_
    show Steps p.tables e below (T43.setTop (mkF m 496 #[.val (.long q0), .second, .val (.int p1), .val (.int p2), .val (.int p3), .val (.long (own_VAL q0 p1 p2 p3)), .second, .val (.int (own_AT q0 p1 p2 p3)), .val (.int (own_FI q0 p1 p2 p3)), .val (.ref b1), .val (.int (own_F1 (own_VAL q0 p1 p2 p3))), .val (.int r_31), .val (.int (1 : Int32))] [])) _
    refine XS.aload X43.here hx rfl (hb hby at_496) rfl rfl ?_
    show Steps p.tables e below (T43.setTop (mkF m 498 #[.val (.long q0), .second, .val (.int p1), .val (.int p2), .val (.int p3), .val (.long (own_VAL q0 p1 p2 p3)), .second, .val (.int (own_AT q0 p1 p2 p3)), .val (.int (own_FI q0 p1 p2 p3)), .val (.ref b1), .val (.int (own_F1 (own_VAL q0 p1 p2 p3))), .val (.int r_31), .val (.int (1 : Int32))] [(.ref b1)])) _
    refine XS.bipush X43.here hx rfl (hb hby at_498) ?_
    show Steps p.tables e below (T43.setTop (mkF m 500 #[.val (.long q0), .second, .val (.int p1), .val (.int p2), .val (.int p3), .val (.long (own_VAL q0 p1 p2 p3)), .second, .val (.int (own_AT q0 p1 p2 p3)), .val (.int (own_FI q0 p1 p2 p3)), .val (.ref b1), .val (.int (own_F1 (own_VAL q0 p1 p2 p3))), .val (.int r_31), .val (.int (1 : Int32))] [(.int (12 : Int32)), (.ref b1)])) _
    refine XS.lload X43.here hx rfl (hb hby at_500) rfl ?_
    show Steps p.tables e below (T43.setTop (mkF m 502 #[.val (.long q0), .second, .val (.int p1), .val (.int p2), .val (.int p3), .val (.long (own_VAL q0 p1 p2 p3)), .second, .val (.int (own_AT q0 p1 p2 p3)), .val (.int (own_FI q0 p1 p2 p3)), .val (.ref b1), .val (.int (own_F1 (own_VAL q0 p1 p2 p3))), .val (.int r_31), .val (.int (1 : Int32))] [(.long (own_VAL q0 p1 p2 p3)), (.int (12 : Int32)), (.ref b1)])) _
    refine XS.iload X43.here hx rfl (hb hby at_502) rfl ?_
    show Steps p.tables e below (T43.setTop (mkF m 504 #[.val (.long q0), .second, .val (.int p1), .val (.int p2), .val (.int p3), .val (.long (own_VAL q0 p1 p2 p3)), .second, .val (.int (own_AT q0 p1 p2 p3)), .val (.int (own_FI q0 p1 p2 p3)), .val (.ref b1), .val (.int (own_F1 (own_VAL q0 p1 p2 p3))), .val (.int r_31), .val (.int (1 : Int32))] [(.int (own_AT q0 p1 p2 p3)), (.long (own_VAL q0 p1 p2 p3)), (.int (12 : Int32)), (.ref b1)])) _
    refine XS.iload X43.here hx rfl (hb hby at_504) rfl ?_
    show Steps p.tables e below (T43.setTop (mkF m 506 #[.val (.long q0), .second, .val (.int p1), .val (.int p2), .val (.int p3), .val (.long (own_VAL q0 p1 p2 p3)), .second, .val (.int (own_AT q0 p1 p2 p3)), .val (.int (own_FI q0 p1 p2 p3)), .val (.ref b1), .val (.int (own_F1 (own_VAL q0 p1 p2 p3))), .val (.int r_31), .val (.int (1 : Int32))] [(.int (own_F1 (own_VAL q0 p1 p2 p3))), (.int (own_AT q0 p1 p2 p3)), (.long (own_VAL q0 p1 p2 p3)), (.int (12 : Int32)), (.ref b1)])) _
    refine XS.iload X43.here hx rfl (hb hby at_506) rfl ?_
    show Steps p.tables e below (T43.setTop (mkF m 508 #[.val (.long q0), .second, .val (.int p1), .val (.int p2), .val (.int p3), .val (.long (own_VAL q0 p1 p2 p3)), .second, .val (.int (own_AT q0 p1 p2 p3)), .val (.int (own_FI q0 p1 p2 p3)), .val (.ref b1), .val (.int (own_F1 (own_VAL q0 p1 p2 p3))), .val (.int r_31), .val (.int (1 : Int32))] [(.int (own_FI q0 p1 p2 p3)), (.int (own_F1 (own_VAL q0 p1 p2 p3))), (.int (own_AT q0 p1 p2 p3)), (.long (own_VAL q0 p1 p2 p3)), (.int (12 : Int32)), (.ref b1)])) _
    exact k
  obtain ⟨T44, Lq44, X44, N44, hQ44, st44⟩ := own_pf0 (vv := some (.int (own_F3 (12 : Int32) (own_VAL q0 p1 p2 p3) (own_AT q0 p1 p2 p3) (own_F1 (own_VAL q0 p1 p2 p3)) (own_FI q0 p1 p2 p3) (14 : Int32) f'_31))) N43 (Jvm.LawKit.callS X43 hx (y := (⟨"com/example/rowcast/rowcast/binary/Leb128WriteUnsignedPinLaw", "check", "([BIJIIB)Z"⟩ : MethodName)) hown (mvT hZ (hw _ (List.mem_of_getElem? (i := 10) rfl))) (mvT hZ (hw _ (List.mem_of_getElem? (i := 11) rfl))) (mvT hZ (hw _ (List.mem_of_getElem? (i := 3) rfl))) (mvT hZ (hw _ (List.mem_of_getElem? (i := 12) rfl))) (by decide) (backOf (W := 0) (own_rm3 l Z a0 hw [] b1 ((12 : Int32)) ((own_VAL q0 p1 p2 p3)) ((own_AT q0 p1 p2 p3)) ((own_F1 (own_VAL q0 p1 p2 p3))) ((own_FI q0 p1 p2 p3)) ((14 : Int32)) (f'_31) T31.heap n0 Zs31 p31_0 (by decide) (by decide)) hZ (hw _ (List.mem_of_getElem? (i := 12) rfl)) (hw _ (List.mem_of_getElem? (i := 3) rfl)) (by decide) (by decide)) (g := (mkF m 508 #[.val (.long q0), .second, .val (.int p1), .val (.int p2), .val (.int p3), .val (.long (own_VAL q0 p1 p2 p3)), .second, .val (.int (own_AT q0 p1 p2 p3)), .val (.int (own_FI q0 p1 p2 p3)), .val (.ref b1), .val (.int (own_F1 (own_VAL q0 p1 p2 p3))), .val (.int r_31), .val (.int (1 : Int32))] [(.int (own_FI q0 p1 p2 p3)), (.int (own_F1 (own_VAL q0 p1 p2 p3))), (.int (own_AT q0 p1 p2 p3)), (.long (own_VAL q0 p1 p2 p3)), (.int (12 : Int32)), (.ref b1)])) rfl (by rw [hml]; rfl) (argsL := [(.ref b1), (.int (12 : Int32)), (.long (own_VAL q0 p1 p2 p3)), (.int (own_AT q0 p1 p2 p3)), (.int (own_F1 (own_VAL q0 p1 p2 p3))), (.int (own_FI q0 p1 p2 p3))]) (rest := []) (lenOf own_pd2 rfl) rfl (by show 2 * 0 + _ ≤ _; exact Nat.le_of_eq rfl) (hb hby at_508) (fun _ _ => ⟨rfl, h43q, (by decide : 1 + 0 ≤ _), (by decide : 14 + 0 ≤ _)⟩)) (fun _ _ _ q => q) (k1 := 1) (k2 := 14) rfl rfl
  have h44q : T44.heap = T31.heap := hQ44
  refine own_go (T' := T44) (f' := (mkF m 511 #[.val (.long q0), .second, .val (.int p1), .val (.int p2), .val (.int p3), .val (.long (own_VAL q0 p1 p2 p3)), .second, .val (.int (own_AT q0 p1 p2 p3)), .val (.int (own_FI q0 p1 p2 p3)), .val (.ref b1), .val (.int (own_F1 (own_VAL q0 p1 p2 p3))), .val (.int r_31), .val (.int (1 : Int32))] [(.int (own_F3 (12 : Int32) (own_VAL q0 p1 p2 p3) (own_AT q0 p1 p2 p3) (own_F1 (own_VAL q0 p1 p2 p3)) (own_FI q0 p1 p2 p3) (14 : Int32) f'_31))])) (fun t k => st44 _ k) ?_
  refine own_go (T' := T44) (f' := (mkF m 538 #[.val (.long q0), .second, .val (.int p1), .val (.int p2), .val (.int p3), .val (.long (own_VAL q0 p1 p2 p3)), .second, .val (.int (own_AT q0 p1 p2 p3)), .val (.int (own_FI q0 p1 p2 p3)), .val (.ref b1), .val (.int (own_F1 (own_VAL q0 p1 p2 p3))), .val (.int r_31), .val (.int (1 : Int32))] [(.int (own_FI q0 p1 p2 p3)), (.int (own_F1 (own_VAL q0 p1 p2 p3))), (.int (own_AT q0 p1 p2 p3)), (.long (own_VAL q0 p1 p2 p3)), (.int (13 : Int32)), (.ref b1)])) (fun t k => ?_) ?_
  · show Steps p.tables e below (T44.setTop (mkF m 511 #[.val (.long q0), .second, .val (.int p1), .val (.int p2), .val (.int p3), .val (.long (own_VAL q0 p1 p2 p3)), .second, .val (.int (own_AT q0 p1 p2 p3)), .val (.int (own_FI q0 p1 p2 p3)), .val (.ref b1), .val (.int (own_F1 (own_VAL q0 p1 p2 p3))), .val (.int r_31), .val (.int (1 : Int32))] [(.int (own_F3 (12 : Int32) (own_VAL q0 p1 p2 p3) (own_AT q0 p1 p2 p3) (own_F1 (own_VAL q0 p1 p2 p3)) (own_FI q0 p1 p2 p3) (14 : Int32) f'_31))])) _
    refine XS.ifNo X44.here hx rfl (hb hby at_511) rfl ((if0 _ _).trans (feq (hok.2 (12 : Int32) (by decide) (by decide))).1) ?_
    show Steps p.tables e below (T44.setTop (mkF m 514 #[.val (.long q0), .second, .val (.int p1), .val (.int p2), .val (.int p3), .val (.long (own_VAL q0 p1 p2 p3)), .second, .val (.int (own_AT q0 p1 p2 p3)), .val (.int (own_FI q0 p1 p2 p3)), .val (.ref b1), .val (.int (own_F1 (own_VAL q0 p1 p2 p3))), .val (.int r_31), .val (.int (1 : Int32))] [])) _
    refine XS.iconst X44.here hx rfl (hb hby at_514) ?_
    show Steps p.tables e below (T44.setTop (mkF m 515 #[.val (.long q0), .second, .val (.int p1), .val (.int p2), .val (.int p3), .val (.long (own_VAL q0 p1 p2 p3)), .second, .val (.int (own_AT q0 p1 p2 p3)), .val (.int (own_FI q0 p1 p2 p3)), .val (.ref b1), .val (.int (own_F1 (own_VAL q0 p1 p2 p3))), .val (.int r_31), .val (.int (1 : Int32))] [(.int (1 : Int32))])) _
    refine XS.goto X44.here hx rfl (pc0 := 515) (pc' := 519) rfl (hb hby at_515) (by decide) (by decide) ?_
    show Steps p.tables e below (T44.setTop (mkF m 519 #[.val (.long q0), .second, .val (.int p1), .val (.int p2), .val (.int p3), .val (.long (own_VAL q0 p1 p2 p3)), .second, .val (.int (own_AT q0 p1 p2 p3)), .val (.int (own_FI q0 p1 p2 p3)), .val (.ref b1), .val (.int (own_F1 (own_VAL q0 p1 p2 p3))), .val (.int r_31), .val (.int (1 : Int32))] [(.int (1 : Int32))])) _
    refine XS.istore X44.here hx rfl (hb hby at_519) rfl (l' := #[.val (.long q0), .second, .val (.int p1), .val (.int p2), .val (.int p3), .val (.long (own_VAL q0 p1 p2 p3)), .second, .val (.int (own_AT q0 p1 p2 p3)), .val (.int (own_FI q0 p1 p2 p3)), .val (.ref b1), .val (.int (own_F1 (own_VAL q0 p1 p2 p3))), .val (.int r_31), .val (.int (1 : Int32))]) rfl ?_
    show Steps p.tables e below (T44.setTop (mkF m 521 #[.val (.long q0), .second, .val (.int p1), .val (.int p2), .val (.int p3), .val (.long (own_VAL q0 p1 p2 p3)), .second, .val (.int (own_AT q0 p1 p2 p3)), .val (.int (own_FI q0 p1 p2 p3)), .val (.ref b1), .val (.int (own_F1 (own_VAL q0 p1 p2 p3))), .val (.int r_31), .val (.int (1 : Int32))] [])) _
    refine XS.iload X44.here hx rfl (hb hby at_521) rfl ?_
    show Steps p.tables e below (T44.setTop (mkF m 523 #[.val (.long q0), .second, .val (.int p1), .val (.int p2), .val (.int p3), .val (.long (own_VAL q0 p1 p2 p3)), .second, .val (.int (own_AT q0 p1 p2 p3)), .val (.int (own_FI q0 p1 p2 p3)), .val (.ref b1), .val (.int (own_F1 (own_VAL q0 p1 p2 p3))), .val (.int r_31), .val (.int (1 : Int32))] [(.int (1 : Int32))])) _
    refine XS.ifNo X44.here hx rfl (hb hby at_523) rfl ((if0 _ _).trans (feq (by decide : ¬ ((1 : Int32) = (0 : Int32)))).1) ?_
    show Steps p.tables e below (T44.setTop (mkF m 526 #[.val (.long q0), .second, .val (.int p1), .val (.int p2), .val (.int p3), .val (.long (own_VAL q0 p1 p2 p3)), .second, .val (.int (own_AT q0 p1 p2 p3)), .val (.int (own_FI q0 p1 p2 p3)), .val (.ref b1), .val (.int (own_F1 (own_VAL q0 p1 p2 p3))), .val (.int r_31), .val (.int (1 : Int32))] [])) _
    refine XS.aload X44.here hx rfl (hb hby at_526) rfl rfl ?_
    show Steps p.tables e below (T44.setTop (mkF m 528 #[.val (.long q0), .second, .val (.int p1), .val (.int p2), .val (.int p3), .val (.long (own_VAL q0 p1 p2 p3)), .second, .val (.int (own_AT q0 p1 p2 p3)), .val (.int (own_FI q0 p1 p2 p3)), .val (.ref b1), .val (.int (own_F1 (own_VAL q0 p1 p2 p3))), .val (.int r_31), .val (.int (1 : Int32))] [(.ref b1)])) _
    refine XS.bipush X44.here hx rfl (hb hby at_528) ?_
    show Steps p.tables e below (T44.setTop (mkF m 530 #[.val (.long q0), .second, .val (.int p1), .val (.int p2), .val (.int p3), .val (.long (own_VAL q0 p1 p2 p3)), .second, .val (.int (own_AT q0 p1 p2 p3)), .val (.int (own_FI q0 p1 p2 p3)), .val (.ref b1), .val (.int (own_F1 (own_VAL q0 p1 p2 p3))), .val (.int r_31), .val (.int (1 : Int32))] [(.int (13 : Int32)), (.ref b1)])) _
    refine XS.lload X44.here hx rfl (hb hby at_530) rfl ?_
    show Steps p.tables e below (T44.setTop (mkF m 532 #[.val (.long q0), .second, .val (.int p1), .val (.int p2), .val (.int p3), .val (.long (own_VAL q0 p1 p2 p3)), .second, .val (.int (own_AT q0 p1 p2 p3)), .val (.int (own_FI q0 p1 p2 p3)), .val (.ref b1), .val (.int (own_F1 (own_VAL q0 p1 p2 p3))), .val (.int r_31), .val (.int (1 : Int32))] [(.long (own_VAL q0 p1 p2 p3)), (.int (13 : Int32)), (.ref b1)])) _
    refine XS.iload X44.here hx rfl (hb hby at_532) rfl ?_
    show Steps p.tables e below (T44.setTop (mkF m 534 #[.val (.long q0), .second, .val (.int p1), .val (.int p2), .val (.int p3), .val (.long (own_VAL q0 p1 p2 p3)), .second, .val (.int (own_AT q0 p1 p2 p3)), .val (.int (own_FI q0 p1 p2 p3)), .val (.ref b1), .val (.int (own_F1 (own_VAL q0 p1 p2 p3))), .val (.int r_31), .val (.int (1 : Int32))] [(.int (own_AT q0 p1 p2 p3)), (.long (own_VAL q0 p1 p2 p3)), (.int (13 : Int32)), (.ref b1)])) _
    refine XS.iload X44.here hx rfl (hb hby at_534) rfl ?_
    show Steps p.tables e below (T44.setTop (mkF m 536 #[.val (.long q0), .second, .val (.int p1), .val (.int p2), .val (.int p3), .val (.long (own_VAL q0 p1 p2 p3)), .second, .val (.int (own_AT q0 p1 p2 p3)), .val (.int (own_FI q0 p1 p2 p3)), .val (.ref b1), .val (.int (own_F1 (own_VAL q0 p1 p2 p3))), .val (.int r_31), .val (.int (1 : Int32))] [(.int (own_F1 (own_VAL q0 p1 p2 p3))), (.int (own_AT q0 p1 p2 p3)), (.long (own_VAL q0 p1 p2 p3)), (.int (13 : Int32)), (.ref b1)])) _
    refine XS.iload X44.here hx rfl (hb hby at_536) rfl ?_
    show Steps p.tables e below (T44.setTop (mkF m 538 #[.val (.long q0), .second, .val (.int p1), .val (.int p2), .val (.int p3), .val (.long (own_VAL q0 p1 p2 p3)), .second, .val (.int (own_AT q0 p1 p2 p3)), .val (.int (own_FI q0 p1 p2 p3)), .val (.ref b1), .val (.int (own_F1 (own_VAL q0 p1 p2 p3))), .val (.int r_31), .val (.int (1 : Int32))] [(.int (own_FI q0 p1 p2 p3)), (.int (own_F1 (own_VAL q0 p1 p2 p3))), (.int (own_AT q0 p1 p2 p3)), (.long (own_VAL q0 p1 p2 p3)), (.int (13 : Int32)), (.ref b1)])) _
    exact k
  obtain ⟨T45, Lq45, X45, N45, hQ45, st45⟩ := own_pf0 (vv := some (.int (own_F3 (13 : Int32) (own_VAL q0 p1 p2 p3) (own_AT q0 p1 p2 p3) (own_F1 (own_VAL q0 p1 p2 p3)) (own_FI q0 p1 p2 p3) (14 : Int32) f'_31))) N44 (Jvm.LawKit.callS X44 hx (y := (⟨"com/example/rowcast/rowcast/binary/Leb128WriteUnsignedPinLaw", "check", "([BIJIIB)Z"⟩ : MethodName)) hown (mvT hZ (hw _ (List.mem_of_getElem? (i := 10) rfl))) (mvT hZ (hw _ (List.mem_of_getElem? (i := 11) rfl))) (mvT hZ (hw _ (List.mem_of_getElem? (i := 3) rfl))) (mvT hZ (hw _ (List.mem_of_getElem? (i := 12) rfl))) (by decide) (backOf (W := 0) (own_rm3 l Z a0 hw [] b1 ((13 : Int32)) ((own_VAL q0 p1 p2 p3)) ((own_AT q0 p1 p2 p3)) ((own_F1 (own_VAL q0 p1 p2 p3))) ((own_FI q0 p1 p2 p3)) ((14 : Int32)) (f'_31) T31.heap n0 Zs31 p31_0 (by decide) (by decide)) hZ (hw _ (List.mem_of_getElem? (i := 12) rfl)) (hw _ (List.mem_of_getElem? (i := 3) rfl)) (by decide) (by decide)) (g := (mkF m 538 #[.val (.long q0), .second, .val (.int p1), .val (.int p2), .val (.int p3), .val (.long (own_VAL q0 p1 p2 p3)), .second, .val (.int (own_AT q0 p1 p2 p3)), .val (.int (own_FI q0 p1 p2 p3)), .val (.ref b1), .val (.int (own_F1 (own_VAL q0 p1 p2 p3))), .val (.int r_31), .val (.int (1 : Int32))] [(.int (own_FI q0 p1 p2 p3)), (.int (own_F1 (own_VAL q0 p1 p2 p3))), (.int (own_AT q0 p1 p2 p3)), (.long (own_VAL q0 p1 p2 p3)), (.int (13 : Int32)), (.ref b1)])) rfl (by rw [hml]; rfl) (argsL := [(.ref b1), (.int (13 : Int32)), (.long (own_VAL q0 p1 p2 p3)), (.int (own_AT q0 p1 p2 p3)), (.int (own_F1 (own_VAL q0 p1 p2 p3))), (.int (own_FI q0 p1 p2 p3))]) (rest := []) (lenOf own_pd2 rfl) rfl (by show 2 * 0 + _ ≤ _; exact Nat.le_of_eq rfl) (hb hby at_538) (fun _ _ => ⟨rfl, h44q, (by decide : 1 + 0 ≤ _), (by decide : 14 + 0 ≤ _)⟩)) (fun _ _ _ q => q) (k1 := 1) (k2 := 14) rfl rfl
  have h45q : T45.heap = T31.heap := hQ45
  refine own_go (T' := T45) (f' := (mkF m 541 #[.val (.long q0), .second, .val (.int p1), .val (.int p2), .val (.int p3), .val (.long (own_VAL q0 p1 p2 p3)), .second, .val (.int (own_AT q0 p1 p2 p3)), .val (.int (own_FI q0 p1 p2 p3)), .val (.ref b1), .val (.int (own_F1 (own_VAL q0 p1 p2 p3))), .val (.int r_31), .val (.int (1 : Int32))] [(.int (own_F3 (13 : Int32) (own_VAL q0 p1 p2 p3) (own_AT q0 p1 p2 p3) (own_F1 (own_VAL q0 p1 p2 p3)) (own_FI q0 p1 p2 p3) (14 : Int32) f'_31))])) (fun t k => st45 _ k) ?_
  refine own_go (T' := T45) (f' := (mkF m 553 #[.val (.long q0), .second, .val (.int p1), .val (.int p2), .val (.int p3), .val (.long (own_VAL q0 p1 p2 p3)), .second, .val (.int (own_AT q0 p1 p2 p3)), .val (.int (own_FI q0 p1 p2 p3)), .val (.ref b1), .val (.int (own_F1 (own_VAL q0 p1 p2 p3))), .val (.int r_31), .val (.int (1 : Int32))] [(.int (1 : Int32))])) (fun t k => ?_) ?_
  · show Steps p.tables e below (T45.setTop (mkF m 541 #[.val (.long q0), .second, .val (.int p1), .val (.int p2), .val (.int p3), .val (.long (own_VAL q0 p1 p2 p3)), .second, .val (.int (own_AT q0 p1 p2 p3)), .val (.int (own_FI q0 p1 p2 p3)), .val (.ref b1), .val (.int (own_F1 (own_VAL q0 p1 p2 p3))), .val (.int r_31), .val (.int (1 : Int32))] [(.int (own_F3 (13 : Int32) (own_VAL q0 p1 p2 p3) (own_AT q0 p1 p2 p3) (own_F1 (own_VAL q0 p1 p2 p3)) (own_FI q0 p1 p2 p3) (14 : Int32) f'_31))])) _
    refine XS.ifNo X45.here hx rfl (hb hby at_541) rfl ((if0 _ _).trans (feq (hok.2 (13 : Int32) (by decide) (by decide))).1) ?_
    show Steps p.tables e below (T45.setTop (mkF m 544 #[.val (.long q0), .second, .val (.int p1), .val (.int p2), .val (.int p3), .val (.long (own_VAL q0 p1 p2 p3)), .second, .val (.int (own_AT q0 p1 p2 p3)), .val (.int (own_FI q0 p1 p2 p3)), .val (.ref b1), .val (.int (own_F1 (own_VAL q0 p1 p2 p3))), .val (.int r_31), .val (.int (1 : Int32))] [])) _
    refine XS.iconst X45.here hx rfl (hb hby at_544) ?_
    show Steps p.tables e below (T45.setTop (mkF m 545 #[.val (.long q0), .second, .val (.int p1), .val (.int p2), .val (.int p3), .val (.long (own_VAL q0 p1 p2 p3)), .second, .val (.int (own_AT q0 p1 p2 p3)), .val (.int (own_FI q0 p1 p2 p3)), .val (.ref b1), .val (.int (own_F1 (own_VAL q0 p1 p2 p3))), .val (.int r_31), .val (.int (1 : Int32))] [(.int (1 : Int32))])) _
    refine XS.goto X45.here hx rfl (pc0 := 545) (pc' := 549) rfl (hb hby at_545) (by decide) (by decide) ?_
    show Steps p.tables e below (T45.setTop (mkF m 549 #[.val (.long q0), .second, .val (.int p1), .val (.int p2), .val (.int p3), .val (.long (own_VAL q0 p1 p2 p3)), .second, .val (.int (own_AT q0 p1 p2 p3)), .val (.int (own_FI q0 p1 p2 p3)), .val (.ref b1), .val (.int (own_F1 (own_VAL q0 p1 p2 p3))), .val (.int r_31), .val (.int (1 : Int32))] [(.int (1 : Int32))])) _
    refine XS.istore X45.here hx rfl (hb hby at_549) rfl (l' := #[.val (.long q0), .second, .val (.int p1), .val (.int p2), .val (.int p3), .val (.long (own_VAL q0 p1 p2 p3)), .second, .val (.int (own_AT q0 p1 p2 p3)), .val (.int (own_FI q0 p1 p2 p3)), .val (.ref b1), .val (.int (own_F1 (own_VAL q0 p1 p2 p3))), .val (.int r_31), .val (.int (1 : Int32))]) rfl ?_
    show Steps p.tables e below (T45.setTop (mkF m 551 #[.val (.long q0), .second, .val (.int p1), .val (.int p2), .val (.int p3), .val (.long (own_VAL q0 p1 p2 p3)), .second, .val (.int (own_AT q0 p1 p2 p3)), .val (.int (own_FI q0 p1 p2 p3)), .val (.ref b1), .val (.int (own_F1 (own_VAL q0 p1 p2 p3))), .val (.int r_31), .val (.int (1 : Int32))] [])) _
    refine XS.iload X45.here hx rfl (hb hby at_551) rfl ?_
    show Steps p.tables e below (T45.setTop (mkF m 553 #[.val (.long q0), .second, .val (.int p1), .val (.int p2), .val (.int p3), .val (.long (own_VAL q0 p1 p2 p3)), .second, .val (.int (own_AT q0 p1 p2 p3)), .val (.int (own_FI q0 p1 p2 p3)), .val (.ref b1), .val (.int (own_F1 (own_VAL q0 p1 p2 p3))), .val (.int r_31), .val (.int (1 : Int32))] [(.int (1 : Int32))])) _
    exact k
  obtain ⟨fs, hr, hrun, hended, hW, hsame⟩ := X45.leave (v := some (.int (1 : Int32))) (fun h => by rw [Bd.returns] at h; cases h)
  refine ⟨_, _, ?_, hrun, hended, _, _, rfl, ?_, ⟨_, rfl⟩, hW, hsame.mono (by decide) (by decide)⟩
  · exact retN X45 hx (t := .boolean) Bd.returns (by simp) (hb hby at_553) hr
  · show own_Q0 Z q0 p1 p2 p3 h0 n0 _ T45.heap _
    rw [h45q]
    exact ⟨rfl, N45⟩
set_option maxRecDepth 65536 in
set_option maxHeartbeats 40000000 in
theorem comes_1 {Post : Tables → Env → Array Value → State → Outcome → State → Prop} (hpost : ∀ tb e args s v u, (limb_1_1.after args s (.returned v) u = true ∧ limb_1_2.after args s (.returned v) u = true ∧ True) → FrameEnd s (.returned v) u (Jvm.fieldLocs frame_1_writes args s ++ Jvm.arrayLocs frame_1_arrays args s ++ Jvm.staticLocs frame_1_statics s) 16 128 → Post tb e args s (.returned v) u) :
    ArmFor flags0 classFile x code maxLocals ret World_1 tables_1 room_1 Calls_1 rest_1 Pre_1 Post := by
  intro l hfl _ _ p e ha hc hk s m args below hf hA hF happ hP
  obtain ⟨hcalls, hrest, hpre⟩ := hP
  obtain ⟨-, -, -, hnamed, -, -, -, hat⟩ := (Spec.applies_iff hf).mp happ
  obtain ⟨hg, hn⟩ := and_e (Cond.before_iff.mp (show (Jvm.Cond.and given_1 narrow_1).before args s = true from hpre))
  obtain ⟨hcnt, g0⟩ := and_e hg
  obtain ⟨k0, g1⟩ := and_e g0
  obtain ⟨k1, g2⟩ := and_e g1
  obtain ⟨k2, g3⟩ := and_e g2
  have k3 := g3
  obtain ⟨w0, w1, w2, w3, rfl⟩ : ∃ w0 w1 w2 w3 : Value, args = #[w0, w1, w2, w3] := by
    have hs : args.size = 4 := by simpa [Cond.value, given_1] using hcnt
    obtain ⟨L⟩ := args
    match L, hs with
    | [w0, w1, w2, w3], _ => exact ⟨w0, w1, w2, w3, rfl⟩
  have hw := fun d (hd : d ∈ tables_1) => atoms_spec (ws := Jvm.Cond.code x code maxLocals ret :: tables_1) hat d (List.mem_cons_of_mem _ hd)
  obtain ⟨i0, e0⟩ := isL_v k0
  obtain rfl : w0 = (.long i0) := Option.some.inj e0
  obtain ⟨i1, e1⟩ := is_v k1
  obtain rfl : w1 = (.int i1) := Option.some.inj e1
  obtain ⟨i2, e2⟩ := is_v k2
  obtain rfl : w2 = (.int i2) := Option.some.inj e2
  obtain ⟨i3, e3⟩ := is_v k3
  obtain rfl : w3 = (.int i3) := Option.some.inj e3
  obtain ⟨n, o, h1, h2, h3, _, L, rfl, ⟨hv, N⟩, hq⟩ := own_rm0 l s _ hw tables_1 i0 i1 i2 i3 s.heap s.heap.size (Nat.le_refl _)  p e ha hc hk s m _ below hf ((Spec.applies_iff_loose hf).mp happ).1 ⟨rfl, State.Warmed39.refl s, rfl⟩ trivial
  subst hv
  refine ⟨n, _, h1, h2, h3, hpost _ _ _ _ _ _ ⟨Cond.after_iff.mpr rfl, Cond.after_iff.mpr (eq_i res_at (Term.int_eval (1)) rfl), trivial⟩ ⟨hq.1, hq.2.1, (hq.2.2.sift fun y hy => Or.inr (N y hy)).mono (by decide) (by decide)⟩⟩
theorem main_1_1 : Claimed_1_1 := comes_1 fun _ _ _ _ _ _ h hF => ⟨h.1, hF⟩
theorem main_1_2 : Claimed_1_2 := comes_1 fun _ _ _ _ _ _ h hF => ⟨h.2.1, hF⟩
end Jvm.Pilot.@@N@@
namespace Jvm.Pilot.@@N@@
open Jvm Jvm.ClassFile Sem Op Lib Jvm.Free Jvm.Stand Jvm.Pilot.@@N@@.Jvm.D
/-! MADE BY PROGRAM (witnessworld.py) out of the Statement's table words and the real class files: 7 classes; the members and pool entries that the words name. The judged class is class 1, her method 3. -/
namespace start1
open Jvm.ClassFile
def u (s : String) : CpInfo := .utf8 (stringToUtf16 s)
/-- a pool by its gaps: so many unusable entries, then the entry; so many at the end -/
def gap : Nat → List CpInfo → List CpInfo
  | 0, r => r
  | n + 1, r => .unusable :: gap n r
def poolList (es : List (Nat × CpInfo)) (last : Nat) : List CpInfo := es.foldr (fun e r => gap e.1 (e.2 :: r)) (gap last [])
def pool (es : List (Nat × CpInfo)) (last : Nat) : Array CpInfo := ⟨poolList es last⟩
def fileOf (pool : Array CpInfo) (this : Nat) (attrs : Array Attribute := #[]) (ms : Array MethodInfo := #[]) (fl : Nat := 33) (sup : Nat := 0) (ifs : Array Nat := #[]) (fds : Array FieldInfo := #[]) : ClassFile where
  minorVersion := 0
  majorVersion := 65
  constantPool := pool
  accessFlags := fl
  thisClass := this
  superClass := sup
  interfaces := ifs
  fields := fds
  methods := ms
  attributes := attrs
def plain (name : String) (sup : Option ClassId) : Class where
  name := name
  kind := .ordinary
  loader := none
  accessFlags := 33
  super := sup
  interfaces := #[]
  cf := none
  fields := #[]
  methods := #[]
  instanceTypes := #[]
  staticTypes := #[]
  resolved := #[]
  callSites := []
  init := .initialized
  statics := none
  mirror := none

def pool0 : Array CpInfo := pool [(5, u "<init>"), (0, u "()V"), (1, .class_ 10), (1, u "java/lang/Object")] 113

def k0m0 : Method := { name := "<init>", desc := "()V", sig := { parameters := [], returnType := none }, accessFlags := 1, code := none }
/-- java/lang/Object -/
def k0 : Class := { plain "java/lang/Object" none with
  accessFlags := 33
  interfaces := #[]
  cf := some (fileOf pool0 8 #[] #[{ accessFlags := 1, nameIndex := 5, descriptorIndex := 6, attributes := #[] }] 33 0 #[] #[])
  fields := #[]
  methods := #[k0m0]
  instanceTypes := #[]
  staticTypes := #[]
  resolved := Array.replicate 124 none
  statics := none }

def pool1 : Array CpInfo := pool [(2, .class_ 4), (1, u "java/lang/Object"), (0, u "<init>"), (0, u "()V"), (0, .long 127), (1, .methodref 10 11), (0, .class_ 12), (0, .nameAndType 13 14), (0, u "com/example/rowcast/rowcast/binary/Leb128WriteUnsignedPinLaw"), (0, u "len"), (0, u "(J)I"), (0, .methodref 16 17), (0, .class_ 18), (0, .nameAndType 19 20), (0, u "com/example/rowcast/rowcast/binary/Leb128"), (0, u "writeUnsigned"), (0, u "(J[BI)I"), (0, .methodref 10 22), (0, .nameAndType 23 24), (0, u "check"), (0, u "([BIJIIB)Z"), (3, u "law"), (0, u "(JIII)Z")] 4

def k1m0 : Method := { name := "<init>", desc := "()V", sig := { parameters := [], returnType := none }, accessFlags := 2, code := none }
def k1c1 : Code := { maxStack := 4, maxLocals := 2, code := method_2_code, exceptionTable := #[], attributes := #[] }
def k1m1 : Method := { name := "len", desc := "(J)I", sig := { parameters := [.long], returnType := some .int }, accessFlags := 10, code := some k1c1 }
def k1c2 : Code := { maxStack := 4, maxLocals := 10, code := method_3_code, exceptionTable := #[], attributes := #[] }
def k1m2 : Method := { name := "check", desc := "([BIJIIB)Z", sig := { parameters := [(.array .byte), .int, .long, .int, .int, .byte], returnType := some .boolean }, accessFlags := 10, code := some k1c2 }
def k1c3 : Code := { maxStack := 7, maxLocals := 13, code := code, exceptionTable := #[], attributes := #[] }
def k1m3 : Method := { name := "law", desc := "(JIII)Z", sig := { parameters := [.long, .int, .int, .int], returnType := some .boolean }, accessFlags := 9, code := some k1c3 }
/-- com/example/rowcast/rowcast/binary/Leb128WriteUnsignedPinLaw -/
def k1 : Class := { plain "com/example/rowcast/rowcast/binary/Leb128WriteUnsignedPinLaw" (some 0) with
  accessFlags := 49
  interfaces := #[]
  cf := some (fileOf pool1 10 #[] #[{ accessFlags := 2, nameIndex := 5, descriptorIndex := 6, attributes := #[] }, { accessFlags := 10, nameIndex := 13, descriptorIndex := 14, attributes := #[] }, { accessFlags := 10, nameIndex := 23, descriptorIndex := 24, attributes := #[] }, { accessFlags := 9, nameIndex := 28, descriptorIndex := 29, attributes := #[] }] 49 2 #[] #[])
  fields := #[]
  methods := #[k1m0, k1m1, k1m2, k1m3]
  instanceTypes := #[]
  staticTypes := #[]
  resolved := Array.replicate 34 none
  statics := none }

def pool2 : Array CpInfo := pool [(2, .class_ 4), (1, u "java/lang/Object"), (0, u "<init>"), (0, u "()V"), (0, .class_ 8), (0, u "com/example/rowcast/rowcast/binary/Leb128"), (2, u "writeUnsigned"), (0, u "(J[BI)I"), (6, .long 18446744073709551488), (1, .long 127), (1, .long 128), (19, u "MAX_LENGTH"), (0, u "I"), (2, u "GROUP_BITS"), (1, u "GROUP_MASK"), (0, u "J"), (0, u "MORE"), (1, u "LAST_SHIFT")] 10

def k2m0 : Method := { name := "<init>", desc := "()V", sig := { parameters := [], returnType := none }, accessFlags := 2, code := none }
def k2c1 : Code := { maxStack := 6, maxLocals := 7, code := prog_3_method_3_code, exceptionTable := #[], attributes := #[] }
def k2m1 : Method := { name := "writeUnsigned", desc := "(J[BI)I", sig := { parameters := [.long, (.array .byte), .int], returnType := some .int }, accessFlags := 9, code := some k2c1 }
/-- com/example/rowcast/rowcast/binary/Leb128 -/
def k2 : Class := { plain "com/example/rowcast/rowcast/binary/Leb128" (some 0) with
  accessFlags := 33
  interfaces := #[]
  cf := some (fileOf pool2 7 #[] #[{ accessFlags := 2, nameIndex := 5, descriptorIndex := 6, attributes := #[] }, { accessFlags := 9, nameIndex := 11, descriptorIndex := 12, attributes := #[] }] 33 2 #[] #[{ accessFlags := 25, nameIndex := 43, descriptorIndex := 44, attributes := #[] }, { accessFlags := 26, nameIndex := 47, descriptorIndex := 44, attributes := #[] }, { accessFlags := 26, nameIndex := 49, descriptorIndex := 50, attributes := #[] }, { accessFlags := 26, nameIndex := 51, descriptorIndex := 44, attributes := #[] }, { accessFlags := 26, nameIndex := 53, descriptorIndex := 44, attributes := #[] }])
  fields := #[{ name := "MAX_LENGTH", type := .int, accessFlags := 25, slot := 0, constantValue := 0 }, { name := "GROUP_BITS", type := .int, accessFlags := 26, slot := 1, constantValue := 0 }, { name := "GROUP_MASK", type := .long, accessFlags := 26, slot := 2, constantValue := 0 }, { name := "MORE", type := .int, accessFlags := 26, slot := 3, constantValue := 0 }, { name := "LAST_SHIFT", type := .int, accessFlags := 26, slot := 4, constantValue := 0 }]
  methods := #[k2m0, k2m1]
  instanceTypes := #[]
  staticTypes := #[.int, .int, .long, .int, .int]
  resolved := Array.replicate 64 none
  statics := none }

def pool3 : Array CpInfo := pool [(1, u "java/lang/Cloneable"), (0, .class_ 1), (0, u "java/lang/Object"), (0, .class_ 3)] 3

/-- java/lang/Cloneable -/
def k3 : Class := { plain "java/lang/Cloneable" (some 0) with
  accessFlags := 1537
  interfaces := #[]
  cf := some (fileOf pool3 2 #[] #[] 1537 4 #[] #[])
  fields := #[]
  methods := #[]
  instanceTypes := #[]
  staticTypes := #[]
  resolved := Array.replicate 8 none
  statics := none }

def pool4 : Array CpInfo := pool [(1, u "java/io/Serializable"), (0, .class_ 1), (0, u "java/lang/Object"), (0, .class_ 3)] 3

/-- java/io/Serializable -/
def k4 : Class := { plain "java/io/Serializable" (some 0) with
  accessFlags := 1537
  interfaces := #[]
  cf := some (fileOf pool4 2 #[] #[] 1537 4 #[] #[])
  fields := #[]
  methods := #[]
  instanceTypes := #[]
  staticTypes := #[]
  resolved := Array.replicate 8 none
  statics := none }

/-- the primitive byte -/
def k5 : Class := { plain "byte" none with kind := .primitive 'B', accessFlags := 0x411 }
/-- [B -/
def k6 : Class := { plain "[B" (some 0) with kind := .array 5 .byte, interfaces := #[3, 4], accessFlags := 1041 }

def heap : Heap := #[]
def classes : Array Class := #[k0, k1, k2, k3, k4, k5, k6]
def interned : List (Array UInt16 × Addr) := []
def slotsUsed : Nat := 0
def theMethod : MethodId := ⟨1, 3⟩
def args0 : Array Value := #[.long 5, .int 5, .int 5, .int 5]
def aboutOver (below : List Frame) : State where
  vm := { classes := classes, interned := interned.toArray }
  heap := heap
  slotsUsed := slotsUsed
  threads := #[{ frames := .invoking theMethod args0 :: below }]
def below0 : List Frame := [.native { method := ⟨0, 0⟩, args := #[] }]
def about1 : State := aboutOver below0
def p0 : Program := .bare "" "" ""
def e0 : Env := launch0.env 0 0 0
theorem w_frames : about1.frames = Frame.invoking theMethod args0 :: below0 := rfl
set_option maxRecDepth 65536 in
theorem w_args : argsFit about1.vm theMethod args0 = true := by decide +kernel
set_option maxRecDepth 65536 in
theorem w_heap : heapFits about1 = true := by decide +kernel
set_option maxRecDepth 65536 in
theorem w_runnable : about1.curStatus? = some .runnable := by decide +kernel
set_option maxRecDepth 65536 in
theorem w_alone : about1.alone = true := by decide +kernel
set_option maxRecDepth 65536 in
theorem w_named : about1.methodNamed? x = some theMethod := by decide +kernel
set_option maxRecDepth 65536 in
theorem w_hears : about1.hears theMethod below0 = true := by decide +kernel
set_option maxRecDepth 65536 in
theorem w_ripe : about1.ripe theMethod args0 below0 = true := by decide +kernel
theorem w_running : about1.status = .running := rfl
set_option maxRecDepth 65536 in
theorem w_room : about1.hasRoom e0.platform room_1 = true :=
  launch0.hasRoom_least _ room_1 (by decide +kernel) (by decide +kernel) (by decide +kernel) (by decide +kernel) (by decide +kernel) (by decide +kernel)
theorem allAtoms_all (ts : List Jvm.Cond) (a : Array Jvm.Value) (st : Jvm.State) : (allAtoms ts).before a st = ts.all (fun c => c.before a st) := by
  induction ts with
  | nil => rfl
  | cons c t ih =>
    show (Jvm.Cond.and c (allAtoms t)).before a st = _
    rw [Jvm.Cond.before_and, ih, List.all_cons]
def words1 : List Jvm.Cond := Jvm.Cond.code x code maxLocals ret :: tables_1
/-- a 'code' word, met by the world's own term for the bytes: nothing is compared byte by byte -/
theorem code_word {y : MethodName} {bytes : ByteArray} {mx : Nat} {rt : Option FieldType} {a : Array Value} {s : State} {m : MethodId} {meth : Method} {c : Code} (h1 : s.methodNamed? y = some m) (h2 : s.vm.method? m = some meth) (h3 : meth.code = some c) (h4 : c.code = bytes)
    (h5 : (c.maxLocals == mx && c.exceptionTable.isEmpty && decide (c.maxStack ≤ mostOperands) && decide (meth.sig.returnType = rt) && !meth.locks && decide (parseMethodDescriptor y.desc = some meth.sig)) = true) : (Jvm.Cond.code y bytes mx rt).before a s = true := by
  simp only [Bool.and_eq_true, beq_iff_eq, Bool.not_eq_true', decide_eq_true_eq] at h5
  obtain ⟨⟨⟨⟨⟨g1, g2⟩, g3⟩, g4⟩, g5⟩, g6⟩ := h5
  simp [Cond.before, Cond.holds, Cond.value, h1, h2, h3, h4, g1, g2, g3, g4, g5, g6]
def isCode : Jvm.Cond → Bool
  | .code _ _ _ _ => true
  | _ => false
theorem all_split {L : List Jvm.Cond} {P : Jvm.Cond → Bool} (h1 : L.all (fun c => isCode c || P c) = true) (h2 : ∀ c ∈ L.filter isCode, P c = true) : L.all P = true := by
  refine List.all_eq_true.mpr fun c hc => ?_
  have h := List.all_eq_true.mp h1 c hc
  rcases Bool.eq_false_or_eq_true (isCode c) with hi | hi
  · exact h2 c (List.mem_filter.mpr ⟨hc, hi⟩)
  · simpa [hi] using h
set_option maxRecDepth 65536 in
theorem w_c0 : (Jvm.Cond.code x code maxLocals ret).before args0 about1 = true := code_word (m := ⟨1, 3⟩) (meth := k1m3) (c := k1c3) (by decide +kernel) rfl rfl rfl (by decide +kernel)
set_option maxRecDepth 65536 in
theorem w_c1 : (Jvm.Cond.code ({ cls := "com/example/rowcast/rowcast/binary/Leb128WriteUnsignedPinLaw", name := "len", desc := "(J)I" } : Jvm.MethodName) method_2_code (2 : Nat) (Option.some Jvm.ClassFile.FieldType.int)).before args0 about1 = true := code_word (m := ⟨1, 1⟩) (meth := k1m1) (c := k1c1) (by decide +kernel) rfl rfl rfl (by decide +kernel)
set_option maxRecDepth 65536 in
theorem w_c2 : (Jvm.Cond.code ({ cls := "com/example/rowcast/rowcast/binary/Leb128", name := "writeUnsigned", desc := "(J[BI)I" } : Jvm.MethodName) prog_3_method_3_code (7 : Nat) (Option.some Jvm.ClassFile.FieldType.int)).before args0 about1 = true := code_word (m := ⟨2, 1⟩) (meth := k2m1) (c := k2c1) (by decide +kernel) rfl rfl rfl (by decide +kernel)
set_option maxRecDepth 65536 in
theorem w_c3 : (Jvm.Cond.code ({ cls := "com/example/rowcast/rowcast/binary/Leb128WriteUnsignedPinLaw", name := "check", desc := "([BIJIIB)Z" } : Jvm.MethodName) method_3_code (10 : Nat) (Option.some Jvm.ClassFile.FieldType.boolean)).before args0 about1 = true := code_word (m := ⟨1, 2⟩) (meth := k1m2) (c := k1c2) (by decide +kernel) rfl rfl rfl (by decide +kernel)
def codes1 : List Jvm.Cond := [Jvm.Cond.code x code maxLocals ret, Jvm.Cond.code ({ cls := "com/example/rowcast/rowcast/binary/Leb128WriteUnsignedPinLaw", name := "len", desc := "(J)I" } : Jvm.MethodName) method_2_code (2 : Nat) (Option.some Jvm.ClassFile.FieldType.int), Jvm.Cond.code ({ cls := "com/example/rowcast/rowcast/binary/Leb128", name := "writeUnsigned", desc := "(J[BI)I" } : Jvm.MethodName) prog_3_method_3_code (7 : Nat) (Option.some Jvm.ClassFile.FieldType.int), Jvm.Cond.code ({ cls := "com/example/rowcast/rowcast/binary/Leb128WriteUnsignedPinLaw", name := "check", desc := "([BIJIIB)Z" } : Jvm.MethodName) method_3_code (10 : Nat) (Option.some Jvm.ClassFile.FieldType.boolean)]
set_option maxRecDepth 65536 in
theorem codes_eq : words1.filter isCode = codes1 := rfl
theorem w_codes : ∀ c ∈ words1.filter isCode, c.before args0 about1 = true := by
  rw [codes_eq]
  intro c hc
  simp only [codes1, List.mem_cons, List.not_mem_nil, or_false] at hc
  rcases hc with rfl | rfl | rfl | rfl
  · exact w_c0
  · exact w_c1
  · exact w_c2
  · exact w_c3
set_option maxRecDepth 65536 in
theorem w_t1 : words1.all (fun c => isCode c || c.before args0 about1) = true := by decide +kernel
theorem w_tables : (allAtoms (Jvm.Cond.code x code maxLocals ret :: tables_1)).before args0 about1 = true := by
  rw [allAtoms_all]
  show words1.all (fun c => c.before args0 about1) = true
  refine all_split ?_ w_codes
  rw [w_t1]
set_option maxRecDepth 65536 in
theorem w_case : (Jvm.Cond.and given_1 narrow_1).before args0 about1 = true := by decide +kernel
theorem w_applies : (headSpec (Jvm.Cond.code x code maxLocals ret :: tables_1) room_1).applies x e0.platform about1 = true :=
  (Spec.applies_iff w_frames).mpr ⟨w_running, w_runnable, w_alone, w_named, w_hears, w_ripe, w_room, w_tables⟩
theorem atStart : AtStart classFile x code maxLocals ret World_1 tables_1 room_1 Calls_1 rest_1 Pre_1 launch0 p0 e0 about1 theMethod args0 below0 :=
  ⟨lists_1, trivial, launch0.admits_env _ _ _, launch0.least_env, fairChoices_fair.cas, fairChoices_fair.clock, w_frames, w_args, w_heap, w_applies, trivial, trivial, w_case⟩
end start1
theorem witness_1 : WitnessClaimed_1 := ⟨start1.p0, start1.e0, start1.about1, start1.theMethod, start1.args0, start1.below0, start1.atStart⟩
end Jvm.Pilot.@@N@@
