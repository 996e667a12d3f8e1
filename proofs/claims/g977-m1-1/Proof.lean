import JvmDerived
import JvmDerived.Pilot.@@N@@Statement
import JvmDerived.Pilot.@@N@@Code
set_option linter.unusedVariables false
set_option linter.unusedSimpArgs false
namespace Jvm.RoadKit
open Sem ClassFile Op Lib Jvm.Stand Jvm.Free Jvm.LawKit
section New
variable {p : Program} {l : Launch} {e : Env} {R : Room} {s : State} {m : MethodId} {args : Array Value} {below : List Frame} {meth : Method} {c : Code} {T : State} {locs : List Loc} {cells slots : Nat}
theorem retI (X : Stand p l e R s m args below meth c T locs cells slots) (hx : p.tables.exec = Jvm.exec) {pc : Nat} {Ls : Array Slot} {z : Int32} {rest : List Value} (hret : meth.sig.returnType = some .int) (hd : decode c.code pc = .ok (.ireturn, 1)) {fs : List Frame}
    (hl : ∀ (f : JFrame) (acts : List Action), f.method = m → f.locked = none → f.entered = [] → (doReturn e (T.setTop f) acts (some (.int z))).1 = T.setFrames fs) : Steps p.tables e below (T.setTop (mkF m pc Ls (.int z :: rest))) (T.setFrames fs) := by
  have hm' : T.vm.method? m = some meth := X.method'
  have hn : narrow .int (.int z) = .int z := rfl
  show Steps p.tables e below (T.setTop { method := m, pc := pc, locals := Ls, stack := _ :: rest, locked := none }) _
  jvm_step X.here [X.here.top, hx, hd, hm', hret, hn]
  first | (intro acts; rw [hl _ acts rfl rfl rfl]) | rw [hl _ _ rfl rfl rfl]
  exact Steps.refl _
def own_shrL (x : Int64) (y : Int32) : Int64 := (x.toUInt64 >>> (y &&& 0x3f).toInt64.toUInt64).toInt64
def own_shrI (x y : Int32) : Int32 := (x.toUInt32 >>> (y &&& 31).toUInt32).toInt32
theorem own_go {tb : Tables} {T' : State} {f f' : JFrame} {G : State → Outcome → Prop} (k : ∀ t, Steps tb e below (T'.setTop f') t → Steps tb e below (T.setTop f) t) (h : ∃ s₂ o, Steps tb e below (T'.setTop f') s₂ ∧ G s₂ o) : ∃ s₂ o, Steps tb e below (T.setTop f) s₂ ∧ G s₂ o := by
  obtain ⟨s₂, o, a, b⟩ := h
  exact ⟨s₂, o, k _ a, b⟩
theorem own_cut {tb : Tables} {f f' : JFrame} {G : State → Outcome → Prop} {P : State → Prop} (h1 : (∀ T', P T' → ∃ s₂ o, Steps tb e below (T'.setTop f') s₂ ∧ G s₂ o) → ∃ s₂ o, Steps tb e below (T.setTop f) s₂ ∧ G s₂ o) (h2 : ∀ T', P T' → ∃ s₂ o, Steps tb e below (T'.setTop f') s₂ ∧ G s₂ o) : ∃ s₂ o, Steps tb e below (T.setTop f) s₂ ∧ G s₂ o := h1 h2
end New
abbrev own_One (o : Slot) : Prop := o = .unset ∨ ∃ w, o = .val w ∧ w.category = 1
section Arrays
variable {p : Program} {l : Launch} {e : Env} {R : Room} {s : State} {m : MethodId} {args : Array Value} {below : List Frame} {meth : Method} {c : Code} {T : State} {locs : List Loc} {cells slots : Nat} {Z : State} {h h' : Heap} {a b : Addr} {ty : FieldType} {z : Int32} {f : Nat → Int32} {fj : Nat → Int64} {ws : List Addr} {sl : Nat} {v : Value}
def own_ArI (Z : State) (h : Heap) (a : Addr) (ty : FieldType) (z : Int32) (f : Nat → Int32) : Prop := ∃ c : Cell, Arr Z h a c ty ∧ c.slots.size = z.toInt.toNat ∧ 0 ≤ z.toInt ∧ ∀ i, i < z.toInt.toNat → c.slots[i]? = some (.int (f i)) ∧ fits ty (.int (f i)) = true
def own_ArJ (Z : State) (h : Heap) (a : Addr) (ty : FieldType) (z : Int32) (f : Nat → Int64) : Prop := ∃ c : Cell, Arr Z h a c ty ∧ c.slots.size = z.toInt.toNat ∧ 0 ≤ z.toInt ∧ ∀ i, i < z.toInt.toNat → c.slots[i]? = some (.long (f i))
theorem own_ArI.lt (F : own_ArI Z h a ty z f) : a < h.size := by obtain ⟨c, A, -⟩ := F; exact A.lt
theorem own_ArJ.lt (F : own_ArJ Z h a ty z fj) : a < h.size := by obtain ⟨c, A, -⟩ := F; exact A.lt
theorem own_ArI.ext (F : own_ArI Z h a ty z f) (E : Ext h h') : own_ArI Z h' a ty z f := by obtain ⟨c, A, r⟩ := F; exact ⟨c, A.ext E, r⟩
theorem own_ArJ.ext (F : own_ArJ Z h a ty z fj) (E : Ext h h') : own_ArJ Z h' a ty z fj := by obtain ⟨c, A, r⟩ := F; exact ⟨c, A.ext E, r⟩
theorem own_ArI.other (F : own_ArI Z h b ty z f) (W : Wr h h' a sl v) (q : b ≠ a) : own_ArI Z h' b ty z f := by obtain ⟨c, A, r⟩ := F; exact ⟨c, A.other W q, r⟩
theorem own_ArJ.other (F : own_ArJ Z h b ty z fj) (W : Wr h h' a sl v) (q : b ≠ a) : own_ArJ Z h' b ty z fj := by obtain ⟨c, A, r⟩ := F; exact ⟨c, A.other W q, r⟩
theorem own_ArI.keep (F : own_ArI Z h a ty z f) (K : Keep h h' ws) (q : a ∉ ws) : own_ArI Z h' a ty z f := by obtain ⟨c, A, r⟩ := F; exact ⟨c, ⟨K.2.1 a c A.1 q, A.2⟩, r⟩
theorem own_ArJ.keep (F : own_ArJ Z h a ty z fj) (K : Keep h h' ws) (q : a ∉ ws) : own_ArJ Z h' a ty z fj := by obtain ⟨c, A, r⟩ := F; exact ⟨c, ⟨K.2.1 a c A.1 q, A.2⟩, r⟩
theorem own_nn (q : ¬ z < 0) : 0 ≤ z.toInt := by rw [Int32.lt_iff_toInt_lt] at q; have e0 : (0 : Int32).toInt = 0 := rfl; omega
theorem own_ArI.new {k : ClassId} (A : Arr Z h a (newA k ty z) ty) (q : ¬ z < 0) (hd : defaultValue ty = .int 0) (hf : fits ty (.int 0) = true := by rfl) : own_ArI Z h a ty z (fun _ => 0) :=
  ⟨_, A, sz_new _ _ _, own_nn q, fun i hi => ⟨by have hi' : i < z.toNatClampNeg := hi; simp [newA, hd, hi'], hf⟩⟩
theorem own_ArJ.new {k : ClassId} (A : Arr Z h a (newA k ty z) ty) (q : ¬ z < 0) (hd : defaultValue ty = .long 0) : own_ArJ Z h a ty z (fun _ => 0) :=
  ⟨_, A, sz_new _ _ _, own_nn q, fun i hi => by have hi' : i < z.toNatClampNeg := hi; simp [newA, hd, hi']⟩
theorem own_in {j : Int32} {n : Nat} (hn : n = z.toInt.toNat) (h1 : 0 ≤ j.toInt) (h2 : j.toInt < z.toInt) : ¬ (j < 0 ∨ n ≤ j.toNatClampNeg) := by
  have e0 : (0 : Int32).toInt = 0 := rfl
  rw [Int32.lt_iff_toInt_lt, hn]; show ¬ (_ ∨ _ ≤ j.toInt.toNat); omega
theorem own_ArI.set (F : own_ArI Z h a ty z f) {j : Nat} {x : Int32} (W : Wr h h' a j (.int x)) (hx : fits ty (.int x) = true) : own_ArI Z h' a ty z (fun i => if i = j then x else f i) := by
  obtain ⟨c, A, S, q, H⟩ := F
  refine ⟨_, A.same W, by rw [sz_set]; exact S, q, fun i hi => ?_⟩
  by_cases e : i = j
  · subst e
    have hlt : i < c.slots.size := by rw [S]; exact hi
    simp only [if_pos]
    exact ⟨by simp [Cell.setSlot, hlt], hx⟩
  · simp only [if_neg e]
    have hne : (c.setSlot j (.int x)).slots[i]? = c.slots[i]? := by simp only [Cell.setSlot]; exact Array.getElem?_setIfInBounds_ne (Ne.symm e)
    rw [hne]; exact H i hi
theorem own_ArJ.set (F : own_ArJ Z h a ty z fj) {j : Nat} {x : Int64} (W : Wr h h' a j (.long x)) : own_ArJ Z h' a ty z (fun i => if i = j then x else fj i) := by
  obtain ⟨c, A, S, q, H⟩ := F
  refine ⟨_, A.same W, by rw [sz_set]; exact S, q, fun i hi => ?_⟩
  by_cases e : i = j
  · subst e
    have hlt : i < c.slots.size := by rw [S]; exact hi
    simp only [if_pos]
    simp [Cell.setSlot, hlt]
  · simp only [if_neg e]
    have hne : (c.setSlot j (.long x)).slots[i]? = c.slots[i]? := by simp only [Cell.setSlot]; exact Array.getElem?_setIfInBounds_ne (Ne.symm e)
    rw [hne]; exact H i hi
theorem own_ldB (X : Stand p l e R s m args below meth c T locs cells slots) (hx : p.tables.exec = Jvm.exec) (hZ : Z.Warmed39 s.vm) (eT : T.heap = h) (A : own_ArI Z h a .byte z f) {j : Int32} (h1 : 0 ≤ j.toInt) (h2 : j.toInt < z.toInt) {g : JFrame} (hg : g.method = m) {rest : List Value} (hs : g.stack = .int j :: .ref a :: rest) (hd : decode c.code g.pc = .ok (.baload, 1)) (target : State)
    (k : Steps p.tables e below (T.setTop { g with pc := g.pc + 1, stack := .int (f j.toInt.toNat) :: rest }) target) : Steps p.tables e below (T.setTop g) target := by
  obtain ⟨cl, A, S, q, H⟩ := A
  exact X.baloadBytes hx (j := j) (v := .int (f j.toInt.toNat)) (by rw [eT]; exact A.1) (State.isArrayOf_alike hZ.alike A.2.1) A.2.2 (own_in S h1 h2) (H j.toInt.toNat (by omega)).1 hg hs hd target k
theorem own_ldJ (X : Stand p l e R s m args below meth c T locs cells slots) (hx : p.tables.exec = Jvm.exec) (hZ : Z.Warmed39 s.vm) (eT : T.heap = h) (A : own_ArJ Z h a .long z fj) {j : Int32} (h1 : 0 ≤ j.toInt) (h2 : j.toInt < z.toInt) {g : JFrame} (hg : g.method = m) {rest : List Value} (hs : g.stack = .int j :: .ref a :: rest) (hd : decode c.code g.pc = .ok (.laload, 1)) (target : State)
    (k : Steps p.tables e below (T.setTop { g with pc := g.pc + 1, stack := .long (fj j.toInt.toNat) :: rest }) target) : Steps p.tables e below (T.setTop g) target := by
  obtain ⟨cl, A, S, q, H⟩ := A
  exact X.laload hx (j := j) (v := .long (fj j.toInt.toNat)) (by rw [eT]; exact A.1) (State.isArrayOf_alike hZ.alike A.2.1) A.2.2 (own_in S h1 h2) (H j.toInt.toNat (by omega)) hg hs hd target k
theorem own_stB (X : Stand p l e R s m args below meth c T locs cells slots) (hx : p.tables.exec = Jvm.exec) (hZ : Z.Warmed39 s.vm) (eT : T.heap = h) (A : own_ArI Z h a .byte z f) {j x : Int32} (h1 : 0 ≤ j.toInt) (h2 : j.toInt < z.toInt) {g : JFrame} (hg : g.method = m) {rest : List Value} (hs : g.stack = .int x :: .int j :: .ref a :: rest) (hd : decode c.code g.pc = .ok (.bastore, 1)) :
    ∃ (T' : State) (h' : Heap) (f' : Nat → Int32), Stand p l e R s m args below meth c T' (locs ++ [⟨a, j.toInt.toNat⟩]) cells slots ∧ T'.heap = h' ∧ Wr h h' a j.toInt.toNat (.int (nar .byte x)) ∧ own_ArI Z h' a .byte z f' ∧ f' j.toInt.toNat = nar .byte x ∧ (∀ i, i ≠ j.toInt.toNat → f' i = f i) ∧
      ∀ target, Steps p.tables e below (T'.setTop { g with pc := g.pc + 1, stack := rest }) target → Steps p.tables e below (T.setTop g) target := by
  have A' := A
  obtain ⟨cl, B, S, q, H⟩ := A
  obtain ⟨T', h', X', e', W, st⟩ := stB X hx hZ eT B (j := j) (x := x) (own_in S h1 h2) hg hs hd
  exact ⟨T', h', _, X', e', W, A'.set W (fits_nar_byte x), if_pos rfl, fun i hi => if_neg hi, st⟩
theorem own_stC (X : Stand p l e R s m args below meth c T locs cells slots) (hx : p.tables.exec = Jvm.exec) (hZ : Z.Warmed39 s.vm) (eT : T.heap = h) (A : own_ArI Z h a .char z f) {j x : Int32} (h1 : 0 ≤ j.toInt) (h2 : j.toInt < z.toInt) {g : JFrame} (hg : g.method = m) {rest : List Value} (hs : g.stack = .int x :: .int j :: .ref a :: rest) (hd : decode c.code g.pc = .ok (.castore, 1)) :
    ∃ (T' : State) (h' : Heap) (f' : Nat → Int32), Stand p l e R s m args below meth c T' (locs ++ [⟨a, j.toInt.toNat⟩]) cells slots ∧ T'.heap = h' ∧ Wr h h' a j.toInt.toNat (.int (nar .char x)) ∧ own_ArI Z h' a .char z f' ∧ f' j.toInt.toNat = nar .char x ∧ (∀ i, i ≠ j.toInt.toNat → f' i = f i) ∧
      ∀ target, Steps p.tables e below (T'.setTop { g with pc := g.pc + 1, stack := rest }) target → Steps p.tables e below (T.setTop g) target := by
  have A' := A
  obtain ⟨cl, B, S, q, H⟩ := A
  obtain ⟨T', h', X', e', W, st⟩ := stC X hx hZ eT B (j := j) (x := x) (own_in S h1 h2) hg hs hd
  exact ⟨T', h', _, X', e', W, A'.set W (fits_nar_char x), if_pos rfl, fun i hi => if_neg hi, st⟩
theorem own_stJ (X : Stand p l e R s m args below meth c T locs cells slots) (hx : p.tables.exec = Jvm.exec) (hZ : Z.Warmed39 s.vm) (eT : T.heap = h) (A : own_ArJ Z h a .long z fj) {j : Int32} {x : Int64} (h1 : 0 ≤ j.toInt) (h2 : j.toInt < z.toInt) {g : JFrame} (hg : g.method = m) {rest : List Value} (hs : g.stack = .long x :: .int j :: .ref a :: rest) (hd : decode c.code g.pc = .ok (.lastore, 1)) :
    ∃ (T' : State) (h' : Heap) (f' : Nat → Int64), Stand p l e R s m args below meth c T' (locs ++ [⟨a, j.toInt.toNat⟩]) cells slots ∧ T'.heap = h' ∧ Wr h h' a j.toInt.toNat (.long x) ∧ own_ArJ Z h' a .long z f' ∧ f' j.toInt.toNat = x ∧ (∀ i, i ≠ j.toInt.toNat → f' i = fj i) ∧
      ∀ target, Steps p.tables e below (T'.setTop { g with pc := g.pc + 1, stack := rest }) target → Steps p.tables e below (T.setTop g) target := by
  have A' := A
  obtain ⟨cl, B, S, q, H⟩ := A
  obtain ⟨T', h', X', e', W, st⟩ := stJ X hx hZ eT B (j := j) (x := x) (own_in S h1 h2) hg hs hd
  exact ⟨T', h', _, X', e', W, A'.set W, if_pos rfl, fun i hi => if_neg hi, st⟩
theorem own_ArI.len (A : own_ArI Z h a ty z f) (X : Stand p l e R s m args below meth c T locs cells slots) (hx : p.tables.exec = Jvm.exec) (hZ : Z.Warmed39 s.vm) (eT : T.heap = h) {g : JFrame} (hg : g.method = m) {rest : List Value} (hs : g.stack = .ref a :: rest) (hd : decode c.code g.pc = .ok (.arraylength, 1)) (target : State)
    (k : Steps p.tables e below (T.setTop { g with pc := g.pc + 1, stack := .int z :: rest }) target) : Steps p.tables e below (T.setTop g) target := by
  obtain ⟨cl, B, S, q, -⟩ := A
  refine X.arraylength hx (by rw [eT]; exact B.1) (State.isArrayOf_alike hZ.alike B.2.1) hg hs hd target ?_
  rw [len_of (z := z) S (by rw [Int32.lt_iff_toInt_lt]; have e0 : (0 : Int32).toInt = 0 := rfl; omega)]; exact k
theorem own_ArJ.len (A : own_ArJ Z h a ty z fj) (X : Stand p l e R s m args below meth c T locs cells slots) (hx : p.tables.exec = Jvm.exec) (hZ : Z.Warmed39 s.vm) (eT : T.heap = h) {g : JFrame} (hg : g.method = m) {rest : List Value} (hs : g.stack = .ref a :: rest) (hd : decode c.code g.pc = .ok (.arraylength, 1)) (target : State)
    (k : Steps p.tables e below (T.setTop { g with pc := g.pc + 1, stack := .int z :: rest }) target) : Steps p.tables e below (T.setTop g) target := by
  obtain ⟨cl, B, S, q, -⟩ := A
  refine X.arraylength hx (by rw [eT]; exact B.1) (State.isArrayOf_alike hZ.alike B.2.1) hg hs hd target ?_
  rw [len_of (z := z) S (by rw [Int32.lt_iff_toInt_lt]; have e0 : (0 : Int32).toInt = 0 := rfl; omega)]; exact k
theorem own_toArv (A : own_ArI Z h a ty z f) : ∃ k, Arv Z h a k ty z ((List.range z.toInt.toNat).map fun i => Value.int (f i)) (.int 0) := by
  obtain ⟨c, B, S, q, H⟩ := A
  have g : ∀ i, i < z.toInt.toNat → ((List.range z.toInt.toNat).map fun i => Value.int (f i)).getD i (.int 0) = .int (f i) := fun i hi => by rw [List.getD_eq_getElem?_getD, List.getElem?_map, List.getElem?_range hi]; rfl
  refine ⟨_, c, B, rfl, S, by rw [Int32.lt_iff_toInt_lt]; have e0 : (0 : Int32).toInt = 0 := rfl; omega, fun i hi => ?_, fun i hi => ?_⟩
  · rw [S] at hi; rw [g i hi]; exact (H i hi).1
  · rw [S] at hi; rw [g i hi]; exact (H i hi).2
theorem own_ofArv {k : ClassId} {vs : List Value} {dv : Value} (A : Arv Z h a k ty z vs dv) (hv : ∀ i, i < z.toInt.toNat → vs.getD i dv = .int (f i)) : own_ArI Z h a ty z f := by
  obtain ⟨c, B, -, S, q, H, G⟩ := A
  have S' : c.slots.size = z.toInt.toNat := S
  exact ⟨c, B, S', own_nn q, fun i hi => ⟨by rw [← hv i hi]; exact H i (by rw [S']; exact hi), by rw [← hv i hi]; exact G i (by rw [S']; exact hi)⟩⟩
theorem own_cp (X : Stand p l e R s m args below meth c T locs cells slots) (hx : p.tables.exec = Jvm.exec) (hZ : Z.Warmed39 s.vm) {a0 : Array Value} {own : String} {index : Nat} (hown : s.vm.findClass own = some m.cls)
    (w1 : (Cond.methodLink own index Jvm.Stand.acN).before a0 Z = true) (w2 : (Cond.native Jvm.Stand.acN).before a0 Z = true) (w3 : (Cond.static Jvm.Stand.acN).before a0 Z = true) (w4 : (Cond.initialized "java/lang/System").before a0 Z = true) (eT : T.heap = h)
    {z' sp dp nn : Int32} {f2 : Nat → Int32} (A : own_ArI Z h a .byte z f) (B : own_ArI Z h b .byte z' f2) (h1 : 0 ≤ sp.toInt) (h2 : 0 ≤ dp.toInt) (h3 : 0 ≤ nn.toInt) (h4 : sp.toInt + nn.toInt ≤ z.toInt) (h5 : dp.toInt + nn.toInt ≤ z'.toInt) {n0 : Nat} (N : Fr n0 locs) (ge : n0 ≤ b)
    {g : JFrame} (hg : g.method = m) (hsize : g.locals.size = c.maxLocals) {rest : List Value} (hs : g.stack = .int nn :: .int dp :: .ref b :: .int sp :: .ref a :: rest) (hd : decode c.code g.pc = .ok (.invokestatic index, 3))
    (hf : 1 ≤ R.frames) {W : Nat} (hW : 2 * g.monitorRoom + (rest.map fun v => v.category).sum ≤ W) (hlo : W + (nativeFrameWords "java/lang/System" "arraycopy" 5 + 11) ≤ R.locals) :
    ∃ (T' : State) (h' : Heap) (L : List Loc) (f' : Nat → Int32), Stand p l e R s m args below meth c T' L cells slots ∧ T'.heap = h' ∧ Fr n0 L ∧ Keep h h' [b] ∧ own_ArI Z h' b .byte z' f' ∧ (∀ i, i < nn.toInt.toNat → f' (dp.toInt.toNat + i) = f (sp.toInt.toNat + i)) ∧ (∀ i, i < dp.toInt.toNat ∨ dp.toInt.toNat + nn.toInt.toNat ≤ i → f' i = f2 i) ∧
      ∀ target, Steps p.tables e below (T'.setTop { g with pc := g.pc + 3, stack := rest }) target → Steps p.tables e below (T.setTop g) target := by
  obtain ⟨ka, A'⟩ := own_toArv A
  obtain ⟨kb, B'⟩ := own_toArv B
  have e0 : (0 : Int32).toInt = 0 := rfl
  have nl : ∀ x : Int32, 0 ≤ x.toInt → ¬ x < 0 := fun x q => by rw [Int32.lt_iff_toInt_lt]; omega
  obtain ⟨T', h', L, X', e', N', K', V', st⟩ := cpA X hx hZ hown w1 w2 w3 w4 eT A' B' (Or.inl ⟨rfl, rfl⟩) (nl _ h1) (nl _ h2) (nl _ h3) (show sp.toInt.toNat + nn.toInt.toNat ≤ z.toInt.toNat by omega) (show dp.toInt.toNat + nn.toInt.toNat ≤ z'.toInt.toNat by omega) rfl (by show dp.toInt.toNat + nn.toInt.toNat ≤ _; simp only [List.length_map, List.length_range]; omega) N ge hg hsize hs hd hf hW hlo
  refine ⟨T', h', L, fun i => if dp.toInt.toNat ≤ i ∧ i < dp.toInt.toNat + nn.toInt.toNat then f (sp.toInt.toNat + (i - dp.toInt.toNat)) else f2 i, X', e', N', K', own_ofArv V' fun i hi => ?_, fun i hi => ?_, fun i hi => ?_, st⟩
  · have m1 : min dp.toInt.toNat z'.toInt.toNat = dp.toInt.toNat := by omega
    have gd : ∀ k, k < z'.toInt.toNat → ((List.range z'.toInt.toNat).map fun i => Value.int (f2 i))[k]? = some (.int (f2 k)) := fun k hk => by rw [List.getElem?_map, List.getElem?_range hk]; rfl
    have gs : ∀ k, k < z.toInt.toNat → ((List.range z.toInt.toNat).map fun i => Value.int (f i)).getD k (.int 0) = .int (f k) := fun k hk => by rw [List.getD_eq_getElem?_getD, List.getElem?_map, List.getElem?_range hk]; rfl
    have ll : (List.take dp.toInt.toNat ((List.range z'.toInt.toNat).map fun i => Value.int (f2 i))).length = dp.toInt.toNat := by rw [List.length_take, List.length_map, List.length_range]; exact m1
    show (List.take dp.toInt.toNat ((List.range z'.toInt.toNat).map fun i => Value.int (f2 i)) ++ (List.range nn.toInt.toNat).map (fun i => ((List.range z.toInt.toNat).map fun i => Value.int (f i)).getD (sp.toInt.toNat + i) (.int 0)) ++ List.drop (dp.toInt.toNat + nn.toInt.toNat) ((List.range z'.toInt.toNat).map fun i => Value.int (f2 i))).getD i (.int 0) = Value.int (if dp.toInt.toNat ≤ i ∧ i < dp.toInt.toNat + nn.toInt.toNat then f (sp.toInt.toNat + (i - dp.toInt.toNat)) else f2 i)
    rw [List.getD_eq_getElem?_getD, List.append_assoc]
    by_cases c1 : i < dp.toInt.toNat
    · rw [if_neg (by omega), List.getElem?_append_left (by rw [ll]; exact c1), List.getElem?_take_of_lt c1, gd i hi]; rfl
    · rw [List.getElem?_append_right (by rw [ll]; omega), ll]
      by_cases c2 : i < dp.toInt.toNat + nn.toInt.toNat
      · rw [if_pos ⟨by omega, c2⟩, List.getElem?_append_left (by rw [List.length_map, List.length_range]; omega), List.getElem?_map, List.getElem?_range (by omega)]
        exact gs _ (by omega)
      · rw [if_neg (by omega), List.getElem?_append_right (by rw [List.length_map, List.length_range]; omega), List.length_map, List.length_range, List.getElem?_drop, show dp.toInt.toNat + nn.toInt.toNat + (i - dp.toInt.toNat - nn.toInt.toNat) = i by omega, gd i hi]; rfl
  · simp only []; rw [if_pos ⟨by omega, by omega⟩, show dp.toInt.toNat + i - dp.toInt.toNat = i by omega]
  · simp only []; rw [if_neg (by omega)]
end Arrays
end Jvm.RoadKit
namespace Jvm.Pilot.@@N@@
open Jvm Jvm.ClassFile Sem Op Lib Jvm.Free Jvm.Stand Jvm.LawKit Jvm.RoadKit Bundle Jvm.Pilot.@@N@@.Jvm.D
theorem own_m4 (x : Int32) (h : 0 ≤ x.toInt) : (x - (x / (4 : Int32)) * (4 : Int32)).toInt = x.toInt % 4 := by
  have d := (c_idiv x 4 4 rfl (by decide)).1 h
  have k := c_imul (x / 4) 4; have kr := rng32 (x / 4 * 4)
  have s := c_isub x (x / 4 * 4); have sr := rng32 (x - x / 4 * 4)
  have e4 : (4 : Int32).toInt = 4 := rfl
  rw [e4] at k
  omega
theorem own_add (x y : Int32) (h1 : 0 ≤ x.toInt) (h2 : x.toInt ≤ 16) (h3 : 0 ≤ y.toInt) (h4 : y.toInt ≤ 16) : (x + y).toInt = x.toInt + y.toInt := by
  have a := c_iadd x y; have b := rng32 (x + y); omega
theorem own_ix (x y : Int32) (h1 : 0 ≤ x.toInt) (h2 : x.toInt ≤ 16) (h3 : 0 ≤ y.toInt) (h4 : y.toInt ≤ 16) : ((x + y) - ((x + y) / (4 : Int32)) * (4 : Int32)).toInt = (x.toInt + y.toInt) % 4 := by
  have a := own_add x y h1 h2 h3 h4
  rw [own_m4 _ (by omega), a]
def own_DB (n : Nat) (hd : Int32) (f : Nat → Int64) (q : Int64) (hd' sz' : Int32) : Prop :=
  ∃ k : Nat, k ≤ n ∧ hd'.toInt = (hd.toInt + k) % 4 ∧ sz'.toInt = n - k ∧ (∀ i : Nat, i < k → f ((hd.toInt + i) % 4).toNat < q) ∧ (k < n → ¬ f ((hd.toInt + k) % 4).toNat < q)
theorem own_DB.stop {n : Nat} {hd sz : Int32} {f : Nat → Int64} {q : Int64} (h1 : 0 ≤ hd.toInt) (h2 : hd.toInt < 4) (hs : sz.toInt = n) (h : 0 < n → ¬ f hd.toInt.toNat < q) : own_DB n hd f q hd sz :=
  ⟨0, Nat.zero_le _, by omega, by omega, fun i hi => absurd hi (Nat.not_lt_zero _), fun hn => by rw [show ((hd.toInt + (0 : Nat)) % 4).toNat = hd.toInt.toNat by omega]; exact h hn⟩
theorem own_DB.turn {n : Nat} {hd hd1 hd' sz' : Int32} {f : Nat → Int64} {q : Int64} (hn : 0 < n) (h1 : 0 ≤ hd.toInt) (h2 : hd.toInt < 4) (he : hd1.toInt = (hd.toInt + 1) % 4) (hf : f hd.toInt.toNat < q) (h : own_DB (n - 1) hd1 f q hd' sz') : own_DB n hd f q hd' sz' := by
  obtain ⟨k, g1, g2, g3, g4, g5⟩ := h
  have e : ∀ i : Nat, (hd1.toInt + i) % 4 = (hd.toInt + (i + 1 : Nat)) % 4 := fun i => by omega
  refine ⟨k + 1, by omega, by rw [← e]; exact g2, by omega, fun i hi => ?_, fun hk => ?_⟩
  · cases i with
    | zero => rw [show ((hd.toInt + (0 : Nat)) % 4).toNat = hd.toInt.toNat by omega]; exact hf
    | succ i => rw [← e]; exact g4 i (by omega)
  · rw [← e]; exact g5 (by omega)
def own_AD (hd sz : Int32) (t : Int64) (f f' : Nat → Int64) : Prop := f' ((hd.toInt + sz.toInt) % 4).toNat = t ∧ ∀ i, i ≠ ((hd.toInt + sz.toInt) % 4).toNat → f' i = f i
/-- the ring holds the first n of the times g, from the place hd on -/
def own_RG (hd : Int32) (f : Nat → Int64) (n : Nat) (g : Nat → Int64) : Prop := ∀ i : Nat, i < n → f ((hd.toInt + i) % 4).toNat = g i
theorem own_RG.add {hd sz : Int32} {t : Int64} {f f' g : Nat → Int64} {n : Nat} (h0 : 0 ≤ hd.toInt) (hn : n < 4) (hs : sz.toInt = n) (h : own_RG hd f n g) (ha : own_AD hd sz t f f') (ht : g n = t) : own_RG hd f' (n + 1) g := by
  intro i hi
  by_cases c : i = n
  · subst c; rw [← hs, ha.1, ht]
  · rw [ha.2 _ (by omega)]; exact h i (by omega)
theorem own_d1_0 : decode prog_23_method_1_code 0 = .ok (.aload_n 0, 1) := by decide +kernel
theorem own_d1_1 : decode prog_23_method_1_code 1 = .ok (.invokespecial 1, 3) := by decide +kernel
theorem own_d1_4 : decode prog_23_method_1_code 4 = .ok (.aload_n 0, 1) := by decide +kernel
theorem own_d1_5 : decode prog_23_method_1_code 5 = .ok (.iload_n 1, 1) := by decide +kernel
theorem own_d1_6 : decode prog_23_method_1_code 6 = .ok (.newarray .long, 2) := by decide +kernel
theorem own_d1_8 : decode prog_23_method_1_code 8 = .ok (.putfield 7, 3) := by decide +kernel
theorem own_d1_11 : decode prog_23_method_1_code 11 = .ok (.return_, 1) := by decide +kernel
theorem own_pn0 : plainName "com/example/lid_on_load/lidonload/limit/TimeRing" = true := by first | (simp [plainName, overriddenIn]; done) | decide +kernel
theorem own_ef1 (m : MethodId) (a0r : Addr) (p1 : Int32) : entryFrame m #[(.ref a0r), (.int p1)] 2 = mkF m 0 #[.val (.ref a0r), .val (.int p1)] [] := by first | (simp [entryFrame, mkF, argsToLocals, Value.category]; done) | rfl
def own_Q1 (Z : State) (a0r : Addr) (p1 : Int32) (h0 : Heap) (n0 : Nat) (v : Option Value) (h : Heap) (L : List Loc) : Prop := ∃ (br : Addr), (v = none) ∧ (Fr n0 L) ∧ (Keep h0 h [a0r]) ∧ (h0.size ≤ br) ∧ (Fld Z h a0r "com/example/lid_on_load/lidonload/limit/TimeRing" "times" "[J" (.ref br)) ∧ (Fld Z h a0r "com/example/lid_on_load/lidonload/limit/TimeRing" "head" "I" (.int (0 : Int32))) ∧ (Fld Z h a0r "com/example/lid_on_load/lidonload/limit/TimeRing" "size" "I" (.int (0 : Int32))) ∧ (own_ArJ Z h br .long p1 (fun _ => 0))
set_option maxRecDepth 65536 in
set_option maxHeartbeats 40000000 in
theorem own_rm1 (l : Launch) (Z : State) (a0 : Array Value) (hw : ∀ d ∈ tables_1, d.before a0 Z = true) (ws : List Jvm.Cond) (a0r : Addr) (p1 : Int32) (h0 : Heap) (n0 : Nat) (Z0 : n0 ≤ h0.size) (P0 : Exa Z h0 a0r "com/example/lid_on_load/lidonload/limit/TimeRing") (P1 : Fld Z h0 a0r "com/example/lid_on_load/lidonload/limit/TimeRing" "times" "[J" .null) (P2 : Fld Z h0 a0r "com/example/lid_on_load/lidonload/limit/TimeRing" "head" "I" (.int (0 : Int32))) (P3 : Fld Z h0 a0r "com/example/lid_on_load/lidonload/limit/TimeRing" "size" "I" (.int (0 : Int32))) (go_a0r : n0 ≤ a0r) (hp : 0 ≤ p1.toInt) (hp4 : p1.toInt ≤ 4) :
    MetFree l (⟨"com/example/lid_on_load/lidonload/limit/TimeRing", "<init>", "(I)V"⟩ : MethodName) (head1 (Jvm.Cond.code (⟨"com/example/lid_on_load/lidonload/limit/TimeRing", "<init>", "(I)V"⟩ : MethodName) prog_23_method_1_code 2 none :: ws) ({ frames := 1, cells := 1, slots := 4, locals := 12 } : Room)) (fun a U => a = #[(.ref a0r), (.int p1)] ∧ Z.Warmed39 U.vm ∧ U.heap = h0) (fun _ _ _ _ _ => True) (fun _ U o U' => ∃ v L, o = .returned v ∧ own_Q1 Z a0r p1 h0 n0 v U'.heap L ∧ FrameEnd U o U' L ({ frames := 1, cells := 1, slots := 4, locals := 12 } : Room).cells ({ frames := 1, cells := 1, slots := 4, locals := 12 } : Room).slots) := by
  refine MetFree.of_bodySF (plainFor_of_name own_pn0) hisR ?_
  intro p e s m args below meth c s₁ Bd hml0 hP hK
  obtain ⟨rfl, hZ, hh⟩ := hP
  have hx := Bd.exec
  have hby := Bd.bytes
  have hml : c.maxLocals = 2 := hml0
  have hown : s.vm.findClass "com/example/lid_on_load/lidonload/limit/TimeRing" = some m.cls := findClass_of_methodNamed Bd.named
  have hnm := (name_of_methodNamed Bd.named Bd.method).1
  have X0 : Stand p l e ({ frames := 1, cells := 1, slots := 4, locals := 12 } : Room) s m #[(.ref a0r), (.int p1)] below meth c s₁ [] 0 0 := Stand.of_body Bd
  have e0 : s₁.heap = h0 := by rw [← hh, Bd.state]; rfl
  have N0 := Fr.nil n0
  have K0 : Keep h0 h0 [a0r] := Keep.refl h0 _
  refine own_go (fun t k => castTop (own_ef1 m a0r p1) k) ?_
  refine own_go (T' := s₁) (f' := (mkF m 1 #[.val (.ref a0r), .val (.int p1)] [(.ref a0r)])) (fun t k => ?_) ?_
  · show Steps p.tables e below (s₁.setTop (mkF m 0 #[.val (.ref a0r), .val (.int p1)] [])) _
    refine XS.aloadN X0.here hx rfl (hb hby own_d1_0) rfl rfl ?_
    show Steps p.tables e below (s₁.setTop (mkF m 1 #[.val (.ref a0r), .val (.int p1)] [(.ref a0r)])) _
    exact k
  obtain ⟨T1, X1, e1, st1⟩ := initO X0 hx hZ hown (hw _ (List.mem_of_getElem? (i := 6) rfl)) (hw _ (List.mem_of_getElem? (i := 7) rfl)) (hw _ (List.mem_of_getElem? (i := 8) rfl)) e0 (g := (mkF m 1 #[.val (.ref a0r), .val (.int p1)] [(.ref a0r)])) rfl (by rw [hml]; rfl) rfl (hb hby own_d1_1) (by decide) (W := 0) (by show 2 * 0 + _ ≤ _; exact Nat.le_of_eq rfl) (by decide)
  refine own_go (T' := T1) (f' := (mkF m 4 #[.val (.ref a0r), .val (.int p1)] [])) st1 ?_
  refine own_go (T' := T1) (f' := (mkF m 6 #[.val (.ref a0r), .val (.int p1)] [(.int p1), (.ref a0r)])) (fun t k => ?_) ?_
  · show Steps p.tables e below (T1.setTop (mkF m 4 #[.val (.ref a0r), .val (.int p1)] [])) _
    refine XS.aloadN X1.here hx rfl (hb hby own_d1_4) rfl rfl ?_
    show Steps p.tables e below (T1.setTop (mkF m 5 #[.val (.ref a0r), .val (.int p1)] [(.ref a0r)])) _
    refine XS.iloadN X1.here hx rfl (hb hby own_d1_5) rfl ?_
    show Steps p.tables e below (T1.setTop (mkF m 6 #[.val (.ref a0r), .val (.int p1)] [(.int p1), (.ref a0r)])) _
    exact k
  obtain ⟨T2, h2, k2, X2, e2, E2, A2, st2⟩ := newP X1 hx hZ (hw _ (List.mem_of_getElem? (i := 9) rfl)) e1 (g := (mkF m 6 #[.val (.ref a0r), .val (.int p1)] [(.int p1), (.ref a0r)])) rfl (hb hby own_d1_6) rfl (by rw [Int32.lt_iff_toInt_lt, show (0 : Int32).toInt = 0 from rfl]; omega) (cap := 4) (by show p1.toInt.toNat ≤ 4; omega) (by decide) (by decide) (by decide)
  obtain ⟨b2, g2⟩ : ∃ z, z = h0.size := ⟨_, rfl⟩
  rw [← g2] at A2 st2
  have ne_a0r_b2 : a0r ≠ b2 := Nat.ne_of_lt (Nat.lt_of_lt_of_le P0.lt (Nat.le_of_eq g2.symm))
  have g_b2 : n0 ≤ b2 := Nat.le_trans Z0 (Nat.le_of_eq g2.symm)
  have sz_b2 : h0.size ≤ b2 := Nat.le_trans K0.1 (Nat.le_of_eq g2.symm)
  refine own_go (T' := T2) (f' := (mkF m 8 #[.val (.ref a0r), .val (.int p1)] [(.ref b2), (.ref a0r)])) st2 ?_
  have fc3 : Exa Z h2 a0r "com/example/lid_on_load/lidonload/limit/TimeRing" := P0.ext E2
  have fc4 : Fld Z h2 a0r "com/example/lid_on_load/lidonload/limit/TimeRing" "times" "[J" .null := P1.ext E2
  have fc5 : Fld Z h2 a0r "com/example/lid_on_load/lidonload/limit/TimeRing" "head" "I" (.int (0 : Int32)) := P2.ext E2
  have fc6 : Fld Z h2 a0r "com/example/lid_on_load/lidonload/limit/TimeRing" "size" "I" (.int (0 : Int32)) := P3.ext E2
  have Zs2 : n0 ≤ h2.size := Nat.le_trans Z0 E2.1
  have K2 : Keep h0 h2 [a0r] := K0.ext E2
  have V2 : own_ArJ Z h2 b2 .long p1 (fun _ => 0) := own_ArJ.new A2 (by rw [Int32.lt_iff_toInt_lt, show (0 : Int32).toInt = 0 from rfl]; omega) rfl
  obtain ⟨T7, h7, X7, e7, W7, st7⟩ := putF X2 hx hZ hown (host := "") (Or.inl (hw _ (List.mem_of_getElem? (i := 10) rfl))) Via.refl e2 fc4 fc3 (Or.inl (hw _ (List.mem_of_getElem? (i := 11) rfl))) (hw _ (List.mem_of_getElem? (i := 1) rfl)) (ty := (.array .long)) (by decide) rfl rfl (g := (mkF m 8 #[.val (.ref a0r), .val (.int p1)] [(.ref b2), (.ref a0r)])) rfl rfl (hb hby own_d1_8)
  refine own_go (T' := T7) (f' := (mkF m 11 #[.val (.ref a0r), .val (.int p1)] [])) st7 ?_
  have fc8 : Exa Z h7 a0r "com/example/lid_on_load/lidonload/limit/TimeRing" := fc3.wr W7
  have fc9 : Fld Z h7 a0r "com/example/lid_on_load/lidonload/limit/TimeRing" "times" "[J" (.ref b2) := fc4.same W7
  have fc10 : Fld Z h7 a0r "com/example/lid_on_load/lidonload/limit/TimeRing" "head" "I" (.int (0 : Int32)) := fc5.other W7 (Or.inr (slot_ne (Or.inl (hw _ (List.mem_of_getElem? (i := 31) rfl))) (Or.inl (hw _ (List.mem_of_getElem? (i := 11) rfl))) (by decide) (t := .int) (t' := (.array .long)) (by decide) (by decide)))
  have fc11 : Fld Z h7 a0r "com/example/lid_on_load/lidonload/limit/TimeRing" "size" "I" (.int (0 : Int32)) := fc6.other W7 (Or.inr (slot_ne (Or.inl (hw _ (List.mem_of_getElem? (i := 19) rfl))) (Or.inl (hw _ (List.mem_of_getElem? (i := 11) rfl))) (by decide) (t := .int) (t' := (.array .long)) (by decide) (by decide)))
  have fc12 : own_ArJ Z h7 b2 .long p1 (fun _ => 0) := V2.other W7 (Ne.symm ne_a0r_b2)
  have Zs7 : n0 ≤ h7.size := Nat.le_trans Zs2 (Keep.of_wr W7).1
  have K7 : Keep h0 h7 [a0r] := K2.wr W7 (Or.inl (List.mem_of_getElem? (i := 0) rfl))
  have N7 := Fr.snoc X7 N0 go_a0r
  obtain ⟨fs, hr, hrun, hended, hW, hsame⟩ := X7.leave (v := none) (fun _ => rfl)
  refine ⟨_, _, ?_, hrun, hended, _, _, rfl, ?_, ⟨_, rfl⟩, hW, hsame.mono (by decide) (by decide)⟩
  · exact X7.returnOut hx Bd.returns (hb hby own_d1_11) hr
  · show own_Q1 Z a0r p1 h0 n0 _ T7.heap _
    rw [e7]
    exact ⟨b2, rfl, N7, K7, sz_b2, fc9, fc10, fc11, fc12⟩
theorem own_d2_0 : decode prog_23_method_6_code 0 = .ok (.aload_n 0, 1) := by decide +kernel
theorem own_d2_1 : decode prog_23_method_6_code 1 = .ok (.getfield 13, 3) := by decide +kernel
theorem own_d2_4 : decode prog_23_method_6_code 4 = .ok (.ifCond .le 46, 3) := by decide +kernel
theorem own_d2_7 : decode prog_23_method_6_code 7 = .ok (.aload_n 0, 1) := by decide +kernel
theorem own_d2_8 : decode prog_23_method_6_code 8 = .ok (.getfield 7, 3) := by decide +kernel
theorem own_d2_11 : decode prog_23_method_6_code 11 = .ok (.aload_n 0, 1) := by decide +kernel
theorem own_d2_12 : decode prog_23_method_6_code 12 = .ok (.getfield 17, 3) := by decide +kernel
theorem own_d2_15 : decode prog_23_method_6_code 15 = .ok (.laload, 1) := by decide +kernel
theorem own_d2_16 : decode prog_23_method_6_code 16 = .ok (.lload_n 1, 1) := by decide +kernel
theorem own_d2_17 : decode prog_23_method_6_code 17 = .ok (.lcmp, 1) := by decide +kernel
theorem own_d2_18 : decode prog_23_method_6_code 18 = .ok (.ifCond .ge 32, 3) := by decide +kernel
theorem own_d2_21 : decode prog_23_method_6_code 21 = .ok (.aload_n 0, 1) := by decide +kernel
theorem own_d2_22 : decode prog_23_method_6_code 22 = .ok (.aload_n 0, 1) := by decide +kernel
theorem own_d2_23 : decode prog_23_method_6_code 23 = .ok (.getfield 17, 3) := by decide +kernel
theorem own_d2_26 : decode prog_23_method_6_code 26 = .ok (.iconst 1, 1) := by decide +kernel
theorem own_d2_27 : decode prog_23_method_6_code 27 = .ok (.iadd, 1) := by decide +kernel
theorem own_d2_28 : decode prog_23_method_6_code 28 = .ok (.aload_n 0, 1) := by decide +kernel
theorem own_d2_29 : decode prog_23_method_6_code 29 = .ok (.getfield 7, 3) := by decide +kernel
theorem own_d2_32 : decode prog_23_method_6_code 32 = .ok (.arraylength, 1) := by decide +kernel
theorem own_d2_33 : decode prog_23_method_6_code 33 = .ok (.irem, 1) := by decide +kernel
theorem own_d2_34 : decode prog_23_method_6_code 34 = .ok (.putfield 17, 3) := by decide +kernel
theorem own_d2_37 : decode prog_23_method_6_code 37 = .ok (.aload_n 0, 1) := by decide +kernel
theorem own_d2_38 : decode prog_23_method_6_code 38 = .ok (.dup, 1) := by decide +kernel
theorem own_d2_39 : decode prog_23_method_6_code 39 = .ok (.getfield 13, 3) := by decide +kernel
theorem own_d2_42 : decode prog_23_method_6_code 42 = .ok (.iconst 1, 1) := by decide +kernel
theorem own_d2_43 : decode prog_23_method_6_code 43 = .ok (.isub, 1) := by decide +kernel
theorem own_d2_44 : decode prog_23_method_6_code 44 = .ok (.putfield 13, 3) := by decide +kernel
theorem own_d2_47 : decode prog_23_method_6_code 47 = .ok (.goto (-47), 3) := by decide +kernel
set_option maxRecDepth 65536 in
set_option maxHeartbeats 40000000 in
theorem own_lp2 {p : Program} {l : Launch} {e : Env} {R : Room} {s : State} {m : MethodId} {args : Array Value} {below : List Frame} {meth : Method} {c : Code} {cells slots : Nat} {Z : State} {a0 : Array Value} {h0 : Heap} {n0 : Nat} {G : State → Outcome → Prop}
    (hx : p.tables.exec = Jvm.exec) (hZ : Z.Warmed39 s.vm) (hw : ∀ d ∈ tables_1, d.before a0 Z = true) (hby : c.code = prog_23_method_6_code) (hml : c.maxLocals = 3) (hown : s.vm.findClass "com/example/lid_on_load/lidonload/limit/TimeRing" = some m.cls) (a0r : Addr) (q1 : Int64) (ba : Addr) (f : Nat → Int64) (go_a0r : n0 ≤ a0r) (hne : ba ≠ a0r) :
    ∀ (fuel : Nat) (T0 : State) (h : Heap) (locs : List Loc) (hd : Int32) (sz : Int32) (X0 : Stand p l e R s m args below meth c T0 locs cells slots) (e0 : T0.heap = h) (N0 : Fr n0 locs) (Z0 : n0 ≤ h.size) (K0 : Keep h0 h [a0r]) (V0 : Exa Z h a0r "com/example/lid_on_load/lidonload/limit/TimeRing") (V1 : Fld Z h a0r "com/example/lid_on_load/lidonload/limit/TimeRing" "times" "[J" (.ref ba)) (V2 : Fld Z h a0r "com/example/lid_on_load/lidonload/limit/TimeRing" "head" "I" (.int hd)) (V3 : Fld Z h a0r "com/example/lid_on_load/lidonload/limit/TimeRing" "size" "I" (.int sz)) (V4 : own_ArJ Z h ba .long (4 : Int32) f) (hh0 : 0 ≤ hd.toInt) (hh4 : hd.toInt < 4) (hs : sz.toInt = fuel),
    (∀ (T' : State) (h' : Heap) (locs' : List Loc) (hd' : Int32) (sz' : Int32), Stand p l e R s m args below meth c T' locs' cells slots → T'.heap = h' → Fr n0 locs' → n0 ≤ h'.size → Keep h0 h' [a0r] → Exa Z h' a0r "com/example/lid_on_load/lidonload/limit/TimeRing" → Fld Z h' a0r "com/example/lid_on_load/lidonload/limit/TimeRing" "times" "[J" (.ref ba) → Fld Z h' a0r "com/example/lid_on_load/lidonload/limit/TimeRing" "head" "I" (.int hd') → Fld Z h' a0r "com/example/lid_on_load/lidonload/limit/TimeRing" "size" "I" (.int sz') → own_ArJ Z h' ba .long (4 : Int32) f → own_DB fuel hd f q1 hd' sz' → ∃ s₂ o, Steps p.tables e below (T'.setTop (mkF m 50 #[.val (.ref a0r), .val (.long q1), .second] [])) s₂ ∧ G s₂ o) →
    ∃ s₂ o, Steps p.tables e below (T0.setTop (mkF m 0 #[.val (.ref a0r), .val (.long q1), .second] [])) s₂ ∧ G s₂ o := by
  intro fuel
  induction fuel using Nat.strongRecOn with
  | ind fuel ih =>
  intro T0 h locs hd sz X0 e0 N0 Z0 K0 V0 V1 V2 V3 V4 hh0 hh4 hs kx
  refine own_go (T' := T0) (f' := (mkF m 1 #[.val (.ref a0r), .val (.long q1), .second] [(.ref a0r)])) (fun t k => ?_) ?_
  · show Steps p.tables e below (T0.setTop (mkF m 0 #[.val (.ref a0r), .val (.long q1), .second] [])) _
    refine XS.aloadN X0.here hx rfl (hb hby own_d2_0) rfl rfl ?_
    show Steps p.tables e below (T0.setTop (mkF m 1 #[.val (.ref a0r), .val (.long q1), .second] [(.ref a0r)])) _
    exact k
  obtain ⟨T1, X1, e1, st1⟩ := getF X0 hx hZ hown (host := "") (Or.inl (hw _ (List.mem_of_getElem? (i := 18) rfl))) Via.refl e0 V3 (g := (mkF m 1 #[.val (.ref a0r), .val (.long q1), .second] [(.ref a0r)])) rfl rfl (hb hby own_d2_1)
  refine own_go (T' := T1) (f' := (mkF m 4 #[.val (.ref a0r), .val (.long q1), .second] [(.int sz)])) st1 ?_
  by_cases hc4_2 : (0 : Int32) < sz
  · skip
    refine own_go (T' := T1) (f' := (mkF m 8 #[.val (.ref a0r), .val (.long q1), .second] [(.ref a0r)])) (fun t k => ?_) ?_
    · show Steps p.tables e below (T1.setTop (mkF m 4 #[.val (.ref a0r), .val (.long q1), .second] [(.int sz)])) _
      refine XS.ifNo X1.here hx rfl (hb hby own_d2_4) rfl ((if0 _ _).trans (tlt hc4_2).2.2.2) ?_
      show Steps p.tables e below (T1.setTop (mkF m 7 #[.val (.ref a0r), .val (.long q1), .second] [])) _
      refine XS.aloadN X1.here hx rfl (hb hby own_d2_7) rfl rfl ?_
      show Steps p.tables e below (T1.setTop (mkF m 8 #[.val (.ref a0r), .val (.long q1), .second] [(.ref a0r)])) _
      exact k
    obtain ⟨T3, X3, e3, st3⟩ := getF X1 hx hZ hown (host := "") (Or.inl (hw _ (List.mem_of_getElem? (i := 10) rfl))) Via.refl e1 V1 (g := (mkF m 8 #[.val (.ref a0r), .val (.long q1), .second] [(.ref a0r)])) rfl rfl (hb hby own_d2_8)
    refine own_go (T' := T3) (f' := (mkF m 11 #[.val (.ref a0r), .val (.long q1), .second] [(.ref ba)])) st3 ?_
    refine own_go (T' := T3) (f' := (mkF m 12 #[.val (.ref a0r), .val (.long q1), .second] [(.ref a0r), (.ref ba)])) (fun t k => ?_) ?_
    · show Steps p.tables e below (T3.setTop (mkF m 11 #[.val (.ref a0r), .val (.long q1), .second] [(.ref ba)])) _
      refine XS.aloadN X3.here hx rfl (hb hby own_d2_11) rfl rfl ?_
      show Steps p.tables e below (T3.setTop (mkF m 12 #[.val (.ref a0r), .val (.long q1), .second] [(.ref a0r), (.ref ba)])) _
      exact k
    obtain ⟨T4, X4, e4, st4⟩ := getF X3 hx hZ hown (host := "") (Or.inl (hw _ (List.mem_of_getElem? (i := 30) rfl))) Via.refl e3 V2 (g := (mkF m 12 #[.val (.ref a0r), .val (.long q1), .second] [(.ref a0r), (.ref ba)])) rfl rfl (hb hby own_d2_12)
    refine own_go (T' := T4) (f' := (mkF m 15 #[.val (.ref a0r), .val (.long q1), .second] [(.int hd), (.ref ba)])) st4 ?_
    refine own_go (T' := T4) (f' := (mkF m 18 #[.val (.ref a0r), .val (.long q1), .second] [(.int (lcmpW (f hd.toInt.toNat) q1))])) (fun t k => ?_) ?_
    · show Steps p.tables e below (T4.setTop (mkF m 15 #[.val (.ref a0r), .val (.long q1), .second] [(.int hd), (.ref ba)])) _
      refine own_ldJ X4 hx hZ e4 V4 (j := hd) hh0 (by rw [show (4 : Int32).toInt = 4 from rfl]; exact hh4) (g := (mkF m 15 #[.val (.ref a0r), .val (.long q1), .second] [(.int hd), (.ref ba)])) rfl rfl (hb hby own_d2_15) _ ?_
      show Steps p.tables e below (T4.setTop (mkF m 16 #[.val (.ref a0r), .val (.long q1), .second] [(.long (f hd.toInt.toNat))])) _
      refine XS.lloadN X4.here hx rfl (hb hby own_d2_16) rfl ?_
      show Steps p.tables e below (T4.setTop (mkF m 17 #[.val (.ref a0r), .val (.long q1), .second] [(.long q1), (.long (f hd.toInt.toNat))])) _
      refine XS.lcmp X4.here hx rfl (hb hby own_d2_17) rfl ?_
      show Steps p.tables e below (T4.setTop (mkF m 18 #[.val (.ref a0r), .val (.long q1), .second] [(.int (lcmpW (f hd.toInt.toNat) q1))])) _
      exact k
    by_cases hc18_5 : (f hd.toInt.toNat) < q1
    · skip
      refine own_go (T' := T4) (f' := (mkF m 23 #[.val (.ref a0r), .val (.long q1), .second] [(.ref a0r), (.ref a0r)])) (fun t k => ?_) ?_
      · show Steps p.tables e below (T4.setTop (mkF m 18 #[.val (.ref a0r), .val (.long q1), .second] [(.int (lcmpW (f hd.toInt.toNat) q1))])) _
        refine XS.ifNo X4.here hx rfl (hb hby own_d2_18) rfl ((if0 _ _).trans (tlt ((lw_lt (f hd.toInt.toNat) q1).mpr hc18_5)).2.1) ?_
        show Steps p.tables e below (T4.setTop (mkF m 21 #[.val (.ref a0r), .val (.long q1), .second] [])) _
        refine XS.aloadN X4.here hx rfl (hb hby own_d2_21) rfl rfl ?_
        show Steps p.tables e below (T4.setTop (mkF m 22 #[.val (.ref a0r), .val (.long q1), .second] [(.ref a0r)])) _
        refine XS.aloadN X4.here hx rfl (hb hby own_d2_22) rfl rfl ?_
        show Steps p.tables e below (T4.setTop (mkF m 23 #[.val (.ref a0r), .val (.long q1), .second] [(.ref a0r), (.ref a0r)])) _
        exact k
      obtain ⟨T6, X6, e6, st6⟩ := getF X4 hx hZ hown (host := "") (Or.inl (hw _ (List.mem_of_getElem? (i := 30) rfl))) Via.refl e4 V2 (g := (mkF m 23 #[.val (.ref a0r), .val (.long q1), .second] [(.ref a0r), (.ref a0r)])) rfl rfl (hb hby own_d2_23)
      refine own_go (T' := T6) (f' := (mkF m 26 #[.val (.ref a0r), .val (.long q1), .second] [(.int hd), (.ref a0r)])) st6 ?_
      refine own_go (T' := T6) (f' := (mkF m 29 #[.val (.ref a0r), .val (.long q1), .second] [(.ref a0r), (.int (hd + (1 : Int32))), (.ref a0r)])) (fun t k => ?_) ?_
      · show Steps p.tables e below (T6.setTop (mkF m 26 #[.val (.ref a0r), .val (.long q1), .second] [(.int hd), (.ref a0r)])) _
        refine XS.iconst X6.here hx rfl (hb hby own_d2_26) ?_
        show Steps p.tables e below (T6.setTop (mkF m 27 #[.val (.ref a0r), .val (.long q1), .second] [(.int (1 : Int32)), (.int hd), (.ref a0r)])) _
        refine XS.iadd X6.here hx rfl (hb hby own_d2_27) rfl ?_
        show Steps p.tables e below (T6.setTop (mkF m 28 #[.val (.ref a0r), .val (.long q1), .second] [(.int (hd + (1 : Int32))), (.ref a0r)])) _
        refine XS.aloadN X6.here hx rfl (hb hby own_d2_28) rfl rfl ?_
        show Steps p.tables e below (T6.setTop (mkF m 29 #[.val (.ref a0r), .val (.long q1), .second] [(.ref a0r), (.int (hd + (1 : Int32))), (.ref a0r)])) _
        exact k
      obtain ⟨T7, X7, e7, st7⟩ := getF X6 hx hZ hown (host := "") (Or.inl (hw _ (List.mem_of_getElem? (i := 10) rfl))) Via.refl e6 V1 (g := (mkF m 29 #[.val (.ref a0r), .val (.long q1), .second] [(.ref a0r), (.int (hd + (1 : Int32))), (.ref a0r)])) rfl rfl (hb hby own_d2_29)
      refine own_go (T' := T7) (f' := (mkF m 32 #[.val (.ref a0r), .val (.long q1), .second] [(.ref ba), (.int (hd + (1 : Int32))), (.ref a0r)])) st7 ?_
      refine own_go (T' := T7) (f' := (mkF m 34 #[.val (.ref a0r), .val (.long q1), .second] [(.int ((hd + (1 : Int32)) - ((hd + (1 : Int32)) / (4 : Int32)) * (4 : Int32))), (.ref a0r)])) (fun t k => ?_) ?_
      · show Steps p.tables e below (T7.setTop (mkF m 32 #[.val (.ref a0r), .val (.long q1), .second] [(.ref ba), (.int (hd + (1 : Int32))), (.ref a0r)])) _
        refine V4.len X7 hx hZ e7 (g := (mkF m 32 #[.val (.ref a0r), .val (.long q1), .second] [(.ref ba), (.int (hd + (1 : Int32))), (.ref a0r)])) rfl rfl (hb hby own_d2_32) _ ?_
        show Steps p.tables e below (T7.setTop (mkF m 33 #[.val (.ref a0r), .val (.long q1), .second] [(.int (4 : Int32)), (.int (hd + (1 : Int32))), (.ref a0r)])) _
        refine XS.irem X7.here hx rfl (hb hby own_d2_33) rfl (by decide) ?_
        show Steps p.tables e below (T7.setTop (mkF m 34 #[.val (.ref a0r), .val (.long q1), .second] [(.int ((hd + (1 : Int32)) - ((hd + (1 : Int32)) / (4 : Int32)) * (4 : Int32))), (.ref a0r)])) _
        exact k
      obtain ⟨T8, h8, X8, e8, W8, st8⟩ := putF X7 hx hZ hown (host := "") (Or.inl (hw _ (List.mem_of_getElem? (i := 30) rfl))) Via.refl e7 V2 V0 (Or.inl (hw _ (List.mem_of_getElem? (i := 31) rfl))) (hw _ (List.mem_of_getElem? (i := 1) rfl)) (ty := .int) (by decide) rfl rfl (g := (mkF m 34 #[.val (.ref a0r), .val (.long q1), .second] [(.int ((hd + (1 : Int32)) - ((hd + (1 : Int32)) / (4 : Int32)) * (4 : Int32))), (.ref a0r)])) rfl rfl (hb hby own_d2_34)
      refine own_go (T' := T8) (f' := (mkF m 37 #[.val (.ref a0r), .val (.long q1), .second] [])) st8 ?_
      have fc9 : Exa Z h8 a0r "com/example/lid_on_load/lidonload/limit/TimeRing" := V0.wr W8
      have fc10 : Fld Z h8 a0r "com/example/lid_on_load/lidonload/limit/TimeRing" "times" "[J" (.ref ba) := V1.other W8 (Or.inr (slot_ne (Or.inl (hw _ (List.mem_of_getElem? (i := 11) rfl))) (Or.inl (hw _ (List.mem_of_getElem? (i := 31) rfl))) (by decide) (t := (.array .long)) (t' := .int) (by decide) (by decide)))
      have fc11 : Fld Z h8 a0r "com/example/lid_on_load/lidonload/limit/TimeRing" "head" "I" (.int ((hd + (1 : Int32)) - ((hd + (1 : Int32)) / (4 : Int32)) * (4 : Int32))) := V2.same W8
      have fc12 : Fld Z h8 a0r "com/example/lid_on_load/lidonload/limit/TimeRing" "size" "I" (.int sz) := V3.other W8 (Or.inr (slot_ne (Or.inl (hw _ (List.mem_of_getElem? (i := 19) rfl))) (Or.inl (hw _ (List.mem_of_getElem? (i := 31) rfl))) (by decide) (t := .int) (t' := .int) (by decide) (by decide)))
      have fc13 : own_ArJ Z h8 ba .long (4 : Int32) f := V4.other W8 hne
      have Zs8 : n0 ≤ h8.size := Nat.le_trans Z0 (Keep.of_wr W8).1
      have K8 : Keep h0 h8 [a0r] := K0.wr W8 (Or.inl (List.mem_of_getElem? (i := 0) rfl))
      have N8 := Fr.snoc X8 N0 go_a0r
      refine own_go (T' := T8) (f' := (mkF m 39 #[.val (.ref a0r), .val (.long q1), .second] [(.ref a0r), (.ref a0r)])) (fun t k => ?_) ?_
      · show Steps p.tables e below (T8.setTop (mkF m 37 #[.val (.ref a0r), .val (.long q1), .second] [])) _
        refine XS.aloadN X8.here hx rfl (hb hby own_d2_37) rfl rfl ?_
        show Steps p.tables e below (T8.setTop (mkF m 38 #[.val (.ref a0r), .val (.long q1), .second] [(.ref a0r)])) _
        refine XS.dup X8.here hx rfl (hb hby own_d2_38) rfl rfl ?_
        show Steps p.tables e below (T8.setTop (mkF m 39 #[.val (.ref a0r), .val (.long q1), .second] [(.ref a0r), (.ref a0r)])) _
        exact k
      obtain ⟨T14, X14, e14, st14⟩ := getF X8 hx hZ hown (host := "") (Or.inl (hw _ (List.mem_of_getElem? (i := 18) rfl))) Via.refl e8 fc12 (g := (mkF m 39 #[.val (.ref a0r), .val (.long q1), .second] [(.ref a0r), (.ref a0r)])) rfl rfl (hb hby own_d2_39)
      refine own_go (T' := T14) (f' := (mkF m 42 #[.val (.ref a0r), .val (.long q1), .second] [(.int sz), (.ref a0r)])) st14 ?_
      refine own_go (T' := T14) (f' := (mkF m 44 #[.val (.ref a0r), .val (.long q1), .second] [(.int (sz - (1 : Int32))), (.ref a0r)])) (fun t k => ?_) ?_
      · show Steps p.tables e below (T14.setTop (mkF m 42 #[.val (.ref a0r), .val (.long q1), .second] [(.int sz), (.ref a0r)])) _
        refine XS.iconst X14.here hx rfl (hb hby own_d2_42) ?_
        show Steps p.tables e below (T14.setTop (mkF m 43 #[.val (.ref a0r), .val (.long q1), .second] [(.int (1 : Int32)), (.int sz), (.ref a0r)])) _
        refine XS.isub X14.here hx rfl (hb hby own_d2_43) rfl ?_
        show Steps p.tables e below (T14.setTop (mkF m 44 #[.val (.ref a0r), .val (.long q1), .second] [(.int (sz - (1 : Int32))), (.ref a0r)])) _
        exact k
      obtain ⟨T15, h15, X15, e15, W15, st15⟩ := putF X14 hx hZ hown (host := "") (Or.inl (hw _ (List.mem_of_getElem? (i := 18) rfl))) Via.refl e14 fc12 fc9 (Or.inl (hw _ (List.mem_of_getElem? (i := 19) rfl))) (hw _ (List.mem_of_getElem? (i := 1) rfl)) (ty := .int) (by decide) rfl rfl (g := (mkF m 44 #[.val (.ref a0r), .val (.long q1), .second] [(.int (sz - (1 : Int32))), (.ref a0r)])) rfl rfl (hb hby own_d2_44)
      refine own_go (T' := T15) (f' := (mkF m 47 #[.val (.ref a0r), .val (.long q1), .second] [])) st15 ?_
      have fc16 : Exa Z h15 a0r "com/example/lid_on_load/lidonload/limit/TimeRing" := fc9.wr W15
      have fc17 : Fld Z h15 a0r "com/example/lid_on_load/lidonload/limit/TimeRing" "times" "[J" (.ref ba) := fc10.other W15 (Or.inr (slot_ne (Or.inl (hw _ (List.mem_of_getElem? (i := 11) rfl))) (Or.inl (hw _ (List.mem_of_getElem? (i := 19) rfl))) (by decide) (t := (.array .long)) (t' := .int) (by decide) (by decide)))
      have fc18 : Fld Z h15 a0r "com/example/lid_on_load/lidonload/limit/TimeRing" "head" "I" (.int ((hd + (1 : Int32)) - ((hd + (1 : Int32)) / (4 : Int32)) * (4 : Int32))) := fc11.other W15 (Or.inr (slot_ne (Or.inl (hw _ (List.mem_of_getElem? (i := 31) rfl))) (Or.inl (hw _ (List.mem_of_getElem? (i := 19) rfl))) (by decide) (t := .int) (t' := .int) (by decide) (by decide)))
      have fc19 : Fld Z h15 a0r "com/example/lid_on_load/lidonload/limit/TimeRing" "size" "I" (.int (sz - (1 : Int32))) := fc12.same W15
      have fc20 : own_ArJ Z h15 ba .long (4 : Int32) f := fc13.other W15 hne
      have Zs15 : n0 ≤ h15.size := Nat.le_trans Zs8 (Keep.of_wr W15).1
      have K15 : Keep h0 h15 [a0r] := K8.wr W15 (Or.inl (List.mem_of_getElem? (i := 0) rfl))
      have N15 := Fr.snoc X15 N8 go_a0r
      refine own_go (T' := T15) (f' := (mkF m 0 #[.val (.ref a0r), .val (.long q1), .second] [])) (fun t k => ?_) ?_
      · show Steps p.tables e below (T15.setTop (mkF m 47 #[.val (.ref a0r), .val (.long q1), .second] [])) _
        refine XS.goto X15.here hx rfl (pc0 := 47) (pc' := 0) rfl (hb hby own_d2_47) (by decide) (by decide) ?_
        show Steps p.tables e below (T15.setTop (mkF m 0 #[.val (.ref a0r), .val (.long q1), .second] [])) _
        exact k
      have hsp : 0 < sz.toInt := Int32.lt_iff_toInt_lt.mp hc4_2
      have hix := own_ix hd (1 : Int32) hh0 (by omega) (by decide) (by decide)
      rw [show (1 : Int32).toInt = 1 from rfl] at hix
      have hsz : (sz - (1 : Int32)).toInt = sz.toInt - 1 := by have a := c_isub sz 1; have b := rng32 (sz - 1); have c := rng32 sz; have e1 : (1 : Int32).toInt = 1 := rfl; omega
      refine ih (fuel - 1) (by omega) _ _ _ (((hd + (1 : Int32)) - ((hd + (1 : Int32)) / (4 : Int32)) * (4 : Int32))) ((sz - (1 : Int32))) X15 e15 N15 Zs15 K15 fc16 fc17 fc18 fc19 fc20 (by omega) (by omega) (by omega) (fun T' h' locs' hd' sz' X' e' N' Z' K' V0' V1' V2' V3' V4' sp => ?_)
      exact kx T' h' locs' hd' sz' X' e' N' Z' K' V0' V1' V2' V3' V4' (own_DB.turn (by omega) hh0 hh4 hix hc18_5 sp)
    · skip
      refine own_go (T' := T4) (f' := (mkF m 50 #[.val (.ref a0r), .val (.long q1), .second] [])) (fun t k => ?_) ?_
      · show Steps p.tables e below (T4.setTop (mkF m 18 #[.val (.ref a0r), .val (.long q1), .second] [(.int (lcmpW (f hd.toInt.toNat) q1))])) _
        refine XS.ifYes X4.here hx rfl (pc0 := 18) (pc' := 50) rfl (hb hby own_d2_18) rfl ((if0 _ _).trans (flt (fun q => hc18_5 ((lw_lt (f hd.toInt.toNat) q1).mp q))).2.1) (by decide) (by decide) ?_
        show Steps p.tables e below (T4.setTop (mkF m 50 #[.val (.ref a0r), .val (.long q1), .second] [])) _
        exact k
      exact kx _ _ _ hd sz X4 e4 N0 Z0 K0 V0 V1 V2 V3 V4 (own_DB.stop hh0 hh4 hs (fun _ => hc18_5))
  · skip
    refine own_go (T' := T1) (f' := (mkF m 50 #[.val (.ref a0r), .val (.long q1), .second] [])) (fun t k => ?_) ?_
    · show Steps p.tables e below (T1.setTop (mkF m 4 #[.val (.ref a0r), .val (.long q1), .second] [(.int sz)])) _
      refine XS.ifYes X1.here hx rfl (pc0 := 4) (pc' := 50) rfl (hb hby own_d2_4) rfl ((if0 _ _).trans (flt hc4_2).2.2.2) (by decide) (by decide) ?_
      show Steps p.tables e below (T1.setTop (mkF m 50 #[.val (.ref a0r), .val (.long q1), .second] [])) _
      exact k
    have hsp : ¬ 0 < sz.toInt := fun q => hc4_2 (Int32.lt_iff_toInt_lt.mpr q)
    exact kx _ _ _ hd sz X1 e1 N0 Z0 K0 V0 V1 V2 V3 V4 (own_DB.stop hh0 hh4 hs (fun q => absurd q (by omega)))
theorem own_d2_50 : decode prog_23_method_6_code 50 = .ok (.return_, 1) := by decide +kernel
theorem own_ef2 (m : MethodId) (a0r : Addr) (q1 : Int64) : entryFrame m #[(.ref a0r), (.long q1)] 3 = mkF m 0 #[.val (.ref a0r), .val (.long q1), .second] [] := by first | (simp [entryFrame, mkF, argsToLocals, Value.category]; done) | rfl
def own_Q2 (Z : State) (a0r : Addr) (q1 : Int64) (ba : Addr) (hd : Int32) (sz : Int32) (f : Nat → Int64) (h0 : Heap) (n0 : Nat) (v : Option Value) (h : Heap) (L : List Loc) : Prop := ∃ (hd' : Int32), ∃ (sz' : Int32), (v = none) ∧ (Fr n0 L) ∧ (Keep h0 h [a0r]) ∧ (Fld Z h a0r "com/example/lid_on_load/lidonload/limit/TimeRing" "times" "[J" (.ref ba)) ∧ (Fld Z h a0r "com/example/lid_on_load/lidonload/limit/TimeRing" "head" "I" (.int hd')) ∧ (Fld Z h a0r "com/example/lid_on_load/lidonload/limit/TimeRing" "size" "I" (.int sz')) ∧ (own_DB sz.toInt.toNat hd f q1 hd' sz')
set_option maxRecDepth 65536 in
set_option maxHeartbeats 40000000 in
theorem own_rm2 (l : Launch) (Z : State) (a0 : Array Value) (hw : ∀ d ∈ tables_1, d.before a0 Z = true) (ws : List Jvm.Cond) (a0r : Addr) (q1 : Int64) (ba : Addr) (hd : Int32) (sz : Int32) (f : Nat → Int64) (h0 : Heap) (n0 : Nat) (Z0 : n0 ≤ h0.size) (P0 : Exa Z h0 a0r "com/example/lid_on_load/lidonload/limit/TimeRing") (P1 : Fld Z h0 a0r "com/example/lid_on_load/lidonload/limit/TimeRing" "times" "[J" (.ref ba)) (P2 : Fld Z h0 a0r "com/example/lid_on_load/lidonload/limit/TimeRing" "head" "I" (.int hd)) (P3 : Fld Z h0 a0r "com/example/lid_on_load/lidonload/limit/TimeRing" "size" "I" (.int sz)) (P4 : own_ArJ Z h0 ba .long (4 : Int32) f) (go_a0r : n0 ≤ a0r) (hh0 : 0 ≤ hd.toInt) (hh4 : hd.toInt < 4) (hs0 : 0 ≤ sz.toInt) (hne : ba ≠ a0r) :
    MetFree l (⟨"com/example/lid_on_load/lidonload/limit/TimeRing", "dropBefore", "(J)V"⟩ : MethodName) (head1 (Jvm.Cond.code (⟨"com/example/lid_on_load/lidonload/limit/TimeRing", "dropBefore", "(J)V"⟩ : MethodName) prog_23_method_6_code 3 none :: ws) ({ frames := 0, cells := 0, slots := 0, locals := 0 } : Room)) (fun a U => a = #[(.ref a0r), (.long q1)] ∧ Z.Warmed39 U.vm ∧ U.heap = h0) (fun _ _ _ _ _ => True) (fun _ U o U' => ∃ v L, o = .returned v ∧ own_Q2 Z a0r q1 ba hd sz f h0 n0 v U'.heap L ∧ FrameEnd U o U' L ({ frames := 0, cells := 0, slots := 0, locals := 0 } : Room).cells ({ frames := 0, cells := 0, slots := 0, locals := 0 } : Room).slots) := by
  refine MetFree.of_bodySF (plainFor_of_name own_pn0) hisR ?_
  intro p e s m args below meth c s₁ Bd hml0 hP hK
  obtain ⟨rfl, hZ, hh⟩ := hP
  have hx := Bd.exec
  have hby := Bd.bytes
  have hml : c.maxLocals = 3 := hml0
  have hown : s.vm.findClass "com/example/lid_on_load/lidonload/limit/TimeRing" = some m.cls := findClass_of_methodNamed Bd.named
  have hnm := (name_of_methodNamed Bd.named Bd.method).1
  have X0 : Stand p l e ({ frames := 0, cells := 0, slots := 0, locals := 0 } : Room) s m #[(.ref a0r), (.long q1)] below meth c s₁ [] 0 0 := Stand.of_body Bd
  have e0 : s₁.heap = h0 := by rw [← hh, Bd.state]; rfl
  have N0 := Fr.nil n0
  have K0 : Keep h0 h0 [a0r] := Keep.refl h0 _
  refine own_go (fun t k => castTop (own_ef2 m a0r q1) k) ?_
  refine own_lp2 hx hZ hw hby hml hown a0r q1 ba f go_a0r hne (sz.toInt.toNat) _ _ _ hd sz X0 e0 N0 Z0 K0 P0 P1 P2 P3 P4 hh0 hh4 (by omega) ?_
  intro T1 h1 lo1 hd'_1 sz'_1 X1 e1 N1 Zs1 K1 V1_0 V1_1 V1_2 V1_3 V1_4 sp1
  obtain ⟨fs, hr, hrun, hended, hW, hsame⟩ := X1.leave (v := none) (fun _ => rfl)
  refine ⟨_, _, ?_, hrun, hended, _, _, rfl, ?_, ⟨_, rfl⟩, hW, hsame.mono (by decide) (by decide)⟩
  · exact X1.returnOut hx Bd.returns (hb hby own_d2_50) hr
  · show own_Q2 Z a0r q1 ba hd sz f h0 n0 _ T1.heap _
    rw [e1]
    exact ⟨hd'_1, sz'_1, rfl, N1, K1, V1_1, V1_2, V1_3, sp1⟩
theorem own_d3_0 : decode prog_23_method_2_code 0 = .ok (.aload_n 0, 1) := by decide +kernel
theorem own_d3_1 : decode prog_23_method_2_code 1 = .ok (.getfield 13, 3) := by decide +kernel
theorem own_d3_4 : decode prog_23_method_2_code 4 = .ok (.ireturn, 1) := by decide +kernel
theorem own_ef3 (m : MethodId) (a0r : Addr) : entryFrame m #[(.ref a0r)] 1 = mkF m 0 #[.val (.ref a0r)] [] := by first | (simp [entryFrame, mkF, argsToLocals, Value.category]; done) | rfl
def own_Q3 (Z : State) (a0r : Addr) (sz : Int32) (h0 : Heap) (n0 : Nat) (v : Option Value) (h : Heap) (L : List Loc) : Prop := (v = some (.int sz)) ∧ (Fr n0 L) ∧ (h = h0)
set_option maxRecDepth 65536 in
set_option maxHeartbeats 40000000 in
theorem own_rm3 (l : Launch) (Z : State) (a0 : Array Value) (hw : ∀ d ∈ tables_1, d.before a0 Z = true) (ws : List Jvm.Cond) (a0r : Addr) (sz : Int32) (h0 : Heap) (n0 : Nat) (Z0 : n0 ≤ h0.size) (P0 : Fld Z h0 a0r "com/example/lid_on_load/lidonload/limit/TimeRing" "size" "I" (.int sz)) :
    MetFree l (⟨"com/example/lid_on_load/lidonload/limit/TimeRing", "size", "()I"⟩ : MethodName) (head1 (Jvm.Cond.code (⟨"com/example/lid_on_load/lidonload/limit/TimeRing", "size", "()I"⟩ : MethodName) prog_23_method_2_code 1 (some .int) :: ws) ({ frames := 0, cells := 0, slots := 0, locals := 0 } : Room)) (fun a U => a = #[(.ref a0r)] ∧ Z.Warmed39 U.vm ∧ U.heap = h0) (fun _ _ _ _ _ => True) (fun _ U o U' => ∃ v L, o = .returned v ∧ own_Q3 Z a0r sz h0 n0 v U'.heap L ∧ FrameEnd U o U' L ({ frames := 0, cells := 0, slots := 0, locals := 0 } : Room).cells ({ frames := 0, cells := 0, slots := 0, locals := 0 } : Room).slots) := by
  refine MetFree.of_bodySF (plainFor_of_name own_pn0) hisR ?_
  intro p e s m args below meth c s₁ Bd hml0 hP hK
  obtain ⟨rfl, hZ, hh⟩ := hP
  have hx := Bd.exec
  have hby := Bd.bytes
  have hml : c.maxLocals = 1 := hml0
  have hown : s.vm.findClass "com/example/lid_on_load/lidonload/limit/TimeRing" = some m.cls := findClass_of_methodNamed Bd.named
  have hnm := (name_of_methodNamed Bd.named Bd.method).1
  have X0 : Stand p l e ({ frames := 0, cells := 0, slots := 0, locals := 0 } : Room) s m #[(.ref a0r)] below meth c s₁ [] 0 0 := Stand.of_body Bd
  have e0 : s₁.heap = h0 := by rw [← hh, Bd.state]; rfl
  have N0 := Fr.nil n0
  refine own_go (fun t k => castTop (own_ef3 m a0r) k) ?_
  refine own_go (T' := s₁) (f' := (mkF m 1 #[.val (.ref a0r)] [(.ref a0r)])) (fun t k => ?_) ?_
  · show Steps p.tables e below (s₁.setTop (mkF m 0 #[.val (.ref a0r)] [])) _
    refine XS.aloadN X0.here hx rfl (hb hby own_d3_0) rfl rfl ?_
    show Steps p.tables e below (s₁.setTop (mkF m 1 #[.val (.ref a0r)] [(.ref a0r)])) _
    exact k
  obtain ⟨T1, X1, e1, st1⟩ := getF X0 hx hZ hown (host := "") (Or.inl (hw _ (List.mem_of_getElem? (i := 18) rfl))) Via.refl e0 P0 (g := (mkF m 1 #[.val (.ref a0r)] [(.ref a0r)])) rfl rfl (hb hby own_d3_1)
  refine own_go (T' := T1) (f' := (mkF m 4 #[.val (.ref a0r)] [(.int sz)])) st1 ?_
  obtain ⟨fs, hr, hrun, hended, hW, hsame⟩ := X1.leave (v := some (.int sz)) (fun h => by rw [Bd.returns] at h; cases h)
  refine ⟨_, _, ?_, hrun, hended, _, _, rfl, ?_, ⟨_, rfl⟩, hW, hsame.mono (by decide) (by decide)⟩
  · exact retI X1 hx Bd.returns (hb hby own_d3_4) hr
  · show own_Q3 Z a0r sz h0 n0 _ T1.heap _
    rw [e1]
    exact ⟨rfl, N0, rfl⟩
theorem own_d4_0 : decode prog_23_method_7_code 0 = .ok (.aload_n 0, 1) := by decide +kernel
theorem own_d4_1 : decode prog_23_method_7_code 1 = .ok (.getfield 13, 3) := by decide +kernel
theorem own_d4_4 : decode prog_23_method_7_code 4 = .ok (.aload_n 0, 1) := by decide +kernel
theorem own_d4_5 : decode prog_23_method_7_code 5 = .ok (.getfield 7, 3) := by decide +kernel
theorem own_d4_8 : decode prog_23_method_7_code 8 = .ok (.arraylength, 1) := by decide +kernel
theorem own_d4_9 : decode prog_23_method_7_code 9 = .ok (.if_icmp .ne 85, 3) := by decide +kernel
theorem own_d4_94 : decode prog_23_method_7_code 94 = .ok (.aload_n 0, 1) := by decide +kernel
theorem own_d4_95 : decode prog_23_method_7_code 95 = .ok (.getfield 7, 3) := by decide +kernel
theorem own_d4_98 : decode prog_23_method_7_code 98 = .ok (.aload_n 0, 1) := by decide +kernel
theorem own_d4_99 : decode prog_23_method_7_code 99 = .ok (.getfield 17, 3) := by decide +kernel
theorem own_d4_102 : decode prog_23_method_7_code 102 = .ok (.aload_n 0, 1) := by decide +kernel
theorem own_d4_103 : decode prog_23_method_7_code 103 = .ok (.getfield 13, 3) := by decide +kernel
theorem own_d4_106 : decode prog_23_method_7_code 106 = .ok (.iadd, 1) := by decide +kernel
theorem own_d4_107 : decode prog_23_method_7_code 107 = .ok (.aload_n 0, 1) := by decide +kernel
theorem own_d4_108 : decode prog_23_method_7_code 108 = .ok (.getfield 7, 3) := by decide +kernel
theorem own_d4_111 : decode prog_23_method_7_code 111 = .ok (.arraylength, 1) := by decide +kernel
theorem own_d4_112 : decode prog_23_method_7_code 112 = .ok (.irem, 1) := by decide +kernel
theorem own_d4_113 : decode prog_23_method_7_code 113 = .ok (.lload_n 1, 1) := by decide +kernel
theorem own_d4_114 : decode prog_23_method_7_code 114 = .ok (.lastore, 1) := by decide +kernel
theorem own_d4_115 : decode prog_23_method_7_code 115 = .ok (.aload_n 0, 1) := by decide +kernel
theorem own_d4_116 : decode prog_23_method_7_code 116 = .ok (.dup, 1) := by decide +kernel
theorem own_d4_117 : decode prog_23_method_7_code 117 = .ok (.getfield 13, 3) := by decide +kernel
theorem own_d4_120 : decode prog_23_method_7_code 120 = .ok (.iconst 1, 1) := by decide +kernel
theorem own_d4_121 : decode prog_23_method_7_code 121 = .ok (.iadd, 1) := by decide +kernel
theorem own_d4_122 : decode prog_23_method_7_code 122 = .ok (.putfield 13, 3) := by decide +kernel
theorem own_d4_125 : decode prog_23_method_7_code 125 = .ok (.return_, 1) := by decide +kernel
theorem own_ef4 (m : MethodId) (a0r : Addr) (q1 : Int64) (p2 : Int32) : entryFrame m #[(.ref a0r), (.long q1), (.int p2)] 7 = mkF m 0 #[.val (.ref a0r), .val (.long q1), .second, .val (.int p2), .unset, .unset, .unset] [] := by first | (simp [entryFrame, mkF, argsToLocals, Value.category]; done) | rfl
def own_Q4 (Z : State) (a0r : Addr) (q1 : Int64) (p2 : Int32) (ba : Addr) (hd : Int32) (sz : Int32) (f : Nat → Int64) (h0 : Heap) (n0 : Nat) (v : Option Value) (h : Heap) (L : List Loc) : Prop := ∃ (f' : Nat → Int64), (v = none) ∧ (Fr n0 L) ∧ (Keep h0 h [a0r, ba]) ∧ (Fld Z h a0r "com/example/lid_on_load/lidonload/limit/TimeRing" "times" "[J" (.ref ba)) ∧ (Fld Z h a0r "com/example/lid_on_load/lidonload/limit/TimeRing" "head" "I" (.int hd)) ∧ (Fld Z h a0r "com/example/lid_on_load/lidonload/limit/TimeRing" "size" "I" (.int (sz + (1 : Int32)))) ∧ (own_ArJ Z h ba .long (4 : Int32) f') ∧ (own_AD hd sz q1 f f')
set_option maxRecDepth 65536 in
set_option maxHeartbeats 40000000 in
theorem own_rm4 (l : Launch) (Z : State) (a0 : Array Value) (hw : ∀ d ∈ tables_1, d.before a0 Z = true) (ws : List Jvm.Cond) (a0r : Addr) (q1 : Int64) (p2 : Int32) (ba : Addr) (hd : Int32) (sz : Int32) (f : Nat → Int64) (h0 : Heap) (n0 : Nat) (Z0 : n0 ≤ h0.size) (P0 : Exa Z h0 a0r "com/example/lid_on_load/lidonload/limit/TimeRing") (P1 : Fld Z h0 a0r "com/example/lid_on_load/lidonload/limit/TimeRing" "times" "[J" (.ref ba)) (P2 : Fld Z h0 a0r "com/example/lid_on_load/lidonload/limit/TimeRing" "head" "I" (.int hd)) (P3 : Fld Z h0 a0r "com/example/lid_on_load/lidonload/limit/TimeRing" "size" "I" (.int sz)) (P4 : own_ArJ Z h0 ba .long (4 : Int32) f) (go_a0r : n0 ≤ a0r) (go_ba : n0 ≤ ba) (hh0 : 0 ≤ hd.toInt) (hh4 : hd.toInt < 4) (hs0 : 0 ≤ sz.toInt) (hs4 : sz.toInt < 4) (hne : ba ≠ a0r) :
    MetFree l (⟨"com/example/lid_on_load/lidonload/limit/TimeRing", "add", "(JI)V"⟩ : MethodName) (head1 (Jvm.Cond.code (⟨"com/example/lid_on_load/lidonload/limit/TimeRing", "add", "(JI)V"⟩ : MethodName) prog_23_method_7_code 7 none :: ws) ({ frames := 0, cells := 0, slots := 0, locals := 0 } : Room)) (fun a U => a = #[(.ref a0r), (.long q1), (.int p2)] ∧ Z.Warmed39 U.vm ∧ U.heap = h0) (fun _ _ _ _ _ => True) (fun _ U o U' => ∃ v L, o = .returned v ∧ own_Q4 Z a0r q1 p2 ba hd sz f h0 n0 v U'.heap L ∧ FrameEnd U o U' L ({ frames := 0, cells := 0, slots := 0, locals := 0 } : Room).cells ({ frames := 0, cells := 0, slots := 0, locals := 0 } : Room).slots) := by
  refine MetFree.of_bodySF (plainFor_of_name own_pn0) hisR ?_
  intro p e s m args below meth c s₁ Bd hml0 hP hK
  obtain ⟨rfl, hZ, hh⟩ := hP
  have hx := Bd.exec
  have hby := Bd.bytes
  have hml : c.maxLocals = 7 := hml0
  have hown : s.vm.findClass "com/example/lid_on_load/lidonload/limit/TimeRing" = some m.cls := findClass_of_methodNamed Bd.named
  have hnm := (name_of_methodNamed Bd.named Bd.method).1
  have X0 : Stand p l e ({ frames := 0, cells := 0, slots := 0, locals := 0 } : Room) s m #[(.ref a0r), (.long q1), (.int p2)] below meth c s₁ [] 0 0 := Stand.of_body Bd
  have e0 : s₁.heap = h0 := by rw [← hh, Bd.state]; rfl
  have N0 := Fr.nil n0
  have K0 : Keep h0 h0 [a0r, ba] := Keep.refl h0 _
  refine own_go (fun t k => castTop (own_ef4 m a0r q1 p2) k) ?_
  have hix := own_ix hd sz hh0 (by omega) hs0 (by omega)
  refine own_go (T' := s₁) (f' := (mkF m 1 #[.val (.ref a0r), .val (.long q1), .second, .val (.int p2), .unset, .unset, .unset] [(.ref a0r)])) (fun t k => ?_) ?_
  · show Steps p.tables e below (s₁.setTop (mkF m 0 #[.val (.ref a0r), .val (.long q1), .second, .val (.int p2), .unset, .unset, .unset] [])) _
    refine XS.aloadN X0.here hx rfl (hb hby own_d4_0) rfl rfl ?_
    show Steps p.tables e below (s₁.setTop (mkF m 1 #[.val (.ref a0r), .val (.long q1), .second, .val (.int p2), .unset, .unset, .unset] [(.ref a0r)])) _
    exact k
  obtain ⟨T1, X1, e1, st1⟩ := getF X0 hx hZ hown (host := "") (Or.inl (hw _ (List.mem_of_getElem? (i := 18) rfl))) Via.refl e0 P3 (g := (mkF m 1 #[.val (.ref a0r), .val (.long q1), .second, .val (.int p2), .unset, .unset, .unset] [(.ref a0r)])) rfl rfl (hb hby own_d4_1)
  refine own_go (T' := T1) (f' := (mkF m 4 #[.val (.ref a0r), .val (.long q1), .second, .val (.int p2), .unset, .unset, .unset] [(.int sz)])) st1 ?_
  refine own_go (T' := T1) (f' := (mkF m 5 #[.val (.ref a0r), .val (.long q1), .second, .val (.int p2), .unset, .unset, .unset] [(.ref a0r), (.int sz)])) (fun t k => ?_) ?_
  · show Steps p.tables e below (T1.setTop (mkF m 4 #[.val (.ref a0r), .val (.long q1), .second, .val (.int p2), .unset, .unset, .unset] [(.int sz)])) _
    refine XS.aloadN X1.here hx rfl (hb hby own_d4_4) rfl rfl ?_
    show Steps p.tables e below (T1.setTop (mkF m 5 #[.val (.ref a0r), .val (.long q1), .second, .val (.int p2), .unset, .unset, .unset] [(.ref a0r), (.int sz)])) _
    exact k
  obtain ⟨T2, X2, e2, st2⟩ := getF X1 hx hZ hown (host := "") (Or.inl (hw _ (List.mem_of_getElem? (i := 10) rfl))) Via.refl e1 P1 (g := (mkF m 5 #[.val (.ref a0r), .val (.long q1), .second, .val (.int p2), .unset, .unset, .unset] [(.ref a0r), (.int sz)])) rfl rfl (hb hby own_d4_5)
  refine own_go (T' := T2) (f' := (mkF m 8 #[.val (.ref a0r), .val (.long q1), .second, .val (.int p2), .unset, .unset, .unset] [(.ref ba), (.int sz)])) st2 ?_
  refine own_go (T' := T2) (f' := (mkF m 95 #[.val (.ref a0r), .val (.long q1), .second, .val (.int p2), .unset, .unset, .unset] [(.ref a0r)])) (fun t k => ?_) ?_
  · show Steps p.tables e below (T2.setTop (mkF m 8 #[.val (.ref a0r), .val (.long q1), .second, .val (.int p2), .unset, .unset, .unset] [(.ref ba), (.int sz)])) _
    refine P4.len X2 hx hZ e2 (g := (mkF m 8 #[.val (.ref a0r), .val (.long q1), .second, .val (.int p2), .unset, .unset, .unset] [(.ref ba), (.int sz)])) rfl rfl (hb hby own_d4_8) _ ?_
    show Steps p.tables e below (T2.setTop (mkF m 9 #[.val (.ref a0r), .val (.long q1), .second, .val (.int p2), .unset, .unset, .unset] [(.int (4 : Int32)), (.int sz)])) _
    refine XS.icmpYes X2.here hx rfl (pc0 := 9) (pc' := 94) rfl (hb hby own_d4_9) rfl (feq (by rintro rfl; exact absurd hs4 (by decide))).2 (by decide) (by decide) ?_
    show Steps p.tables e below (T2.setTop (mkF m 94 #[.val (.ref a0r), .val (.long q1), .second, .val (.int p2), .unset, .unset, .unset] [])) _
    refine XS.aloadN X2.here hx rfl (hb hby own_d4_94) rfl rfl ?_
    show Steps p.tables e below (T2.setTop (mkF m 95 #[.val (.ref a0r), .val (.long q1), .second, .val (.int p2), .unset, .unset, .unset] [(.ref a0r)])) _
    exact k
  obtain ⟨T3, X3, e3, st3⟩ := getF X2 hx hZ hown (host := "") (Or.inl (hw _ (List.mem_of_getElem? (i := 10) rfl))) Via.refl e2 P1 (g := (mkF m 95 #[.val (.ref a0r), .val (.long q1), .second, .val (.int p2), .unset, .unset, .unset] [(.ref a0r)])) rfl rfl (hb hby own_d4_95)
  refine own_go (T' := T3) (f' := (mkF m 98 #[.val (.ref a0r), .val (.long q1), .second, .val (.int p2), .unset, .unset, .unset] [(.ref ba)])) st3 ?_
  refine own_go (T' := T3) (f' := (mkF m 99 #[.val (.ref a0r), .val (.long q1), .second, .val (.int p2), .unset, .unset, .unset] [(.ref a0r), (.ref ba)])) (fun t k => ?_) ?_
  · show Steps p.tables e below (T3.setTop (mkF m 98 #[.val (.ref a0r), .val (.long q1), .second, .val (.int p2), .unset, .unset, .unset] [(.ref ba)])) _
    refine XS.aloadN X3.here hx rfl (hb hby own_d4_98) rfl rfl ?_
    show Steps p.tables e below (T3.setTop (mkF m 99 #[.val (.ref a0r), .val (.long q1), .second, .val (.int p2), .unset, .unset, .unset] [(.ref a0r), (.ref ba)])) _
    exact k
  obtain ⟨T4, X4, e4, st4⟩ := getF X3 hx hZ hown (host := "") (Or.inl (hw _ (List.mem_of_getElem? (i := 30) rfl))) Via.refl e3 P2 (g := (mkF m 99 #[.val (.ref a0r), .val (.long q1), .second, .val (.int p2), .unset, .unset, .unset] [(.ref a0r), (.ref ba)])) rfl rfl (hb hby own_d4_99)
  refine own_go (T' := T4) (f' := (mkF m 102 #[.val (.ref a0r), .val (.long q1), .second, .val (.int p2), .unset, .unset, .unset] [(.int hd), (.ref ba)])) st4 ?_
  refine own_go (T' := T4) (f' := (mkF m 103 #[.val (.ref a0r), .val (.long q1), .second, .val (.int p2), .unset, .unset, .unset] [(.ref a0r), (.int hd), (.ref ba)])) (fun t k => ?_) ?_
  · show Steps p.tables e below (T4.setTop (mkF m 102 #[.val (.ref a0r), .val (.long q1), .second, .val (.int p2), .unset, .unset, .unset] [(.int hd), (.ref ba)])) _
    refine XS.aloadN X4.here hx rfl (hb hby own_d4_102) rfl rfl ?_
    show Steps p.tables e below (T4.setTop (mkF m 103 #[.val (.ref a0r), .val (.long q1), .second, .val (.int p2), .unset, .unset, .unset] [(.ref a0r), (.int hd), (.ref ba)])) _
    exact k
  obtain ⟨T5, X5, e5, st5⟩ := getF X4 hx hZ hown (host := "") (Or.inl (hw _ (List.mem_of_getElem? (i := 18) rfl))) Via.refl e4 P3 (g := (mkF m 103 #[.val (.ref a0r), .val (.long q1), .second, .val (.int p2), .unset, .unset, .unset] [(.ref a0r), (.int hd), (.ref ba)])) rfl rfl (hb hby own_d4_103)
  refine own_go (T' := T5) (f' := (mkF m 106 #[.val (.ref a0r), .val (.long q1), .second, .val (.int p2), .unset, .unset, .unset] [(.int sz), (.int hd), (.ref ba)])) st5 ?_
  refine own_go (T' := T5) (f' := (mkF m 108 #[.val (.ref a0r), .val (.long q1), .second, .val (.int p2), .unset, .unset, .unset] [(.ref a0r), (.int (hd + sz)), (.ref ba)])) (fun t k => ?_) ?_
  · show Steps p.tables e below (T5.setTop (mkF m 106 #[.val (.ref a0r), .val (.long q1), .second, .val (.int p2), .unset, .unset, .unset] [(.int sz), (.int hd), (.ref ba)])) _
    refine XS.iadd X5.here hx rfl (hb hby own_d4_106) rfl ?_
    show Steps p.tables e below (T5.setTop (mkF m 107 #[.val (.ref a0r), .val (.long q1), .second, .val (.int p2), .unset, .unset, .unset] [(.int (hd + sz)), (.ref ba)])) _
    refine XS.aloadN X5.here hx rfl (hb hby own_d4_107) rfl rfl ?_
    show Steps p.tables e below (T5.setTop (mkF m 108 #[.val (.ref a0r), .val (.long q1), .second, .val (.int p2), .unset, .unset, .unset] [(.ref a0r), (.int (hd + sz)), (.ref ba)])) _
    exact k
  obtain ⟨T6, X6, e6, st6⟩ := getF X5 hx hZ hown (host := "") (Or.inl (hw _ (List.mem_of_getElem? (i := 10) rfl))) Via.refl e5 P1 (g := (mkF m 108 #[.val (.ref a0r), .val (.long q1), .second, .val (.int p2), .unset, .unset, .unset] [(.ref a0r), (.int (hd + sz)), (.ref ba)])) rfl rfl (hb hby own_d4_108)
  refine own_go (T' := T6) (f' := (mkF m 111 #[.val (.ref a0r), .val (.long q1), .second, .val (.int p2), .unset, .unset, .unset] [(.ref ba), (.int (hd + sz)), (.ref ba)])) st6 ?_
  refine own_go (T' := T6) (f' := (mkF m 114 #[.val (.ref a0r), .val (.long q1), .second, .val (.int p2), .unset, .unset, .unset] [(.long q1), (.int ((hd + sz) - ((hd + sz) / (4 : Int32)) * (4 : Int32))), (.ref ba)])) (fun t k => ?_) ?_
  · show Steps p.tables e below (T6.setTop (mkF m 111 #[.val (.ref a0r), .val (.long q1), .second, .val (.int p2), .unset, .unset, .unset] [(.ref ba), (.int (hd + sz)), (.ref ba)])) _
    refine P4.len X6 hx hZ e6 (g := (mkF m 111 #[.val (.ref a0r), .val (.long q1), .second, .val (.int p2), .unset, .unset, .unset] [(.ref ba), (.int (hd + sz)), (.ref ba)])) rfl rfl (hb hby own_d4_111) _ ?_
    show Steps p.tables e below (T6.setTop (mkF m 112 #[.val (.ref a0r), .val (.long q1), .second, .val (.int p2), .unset, .unset, .unset] [(.int (4 : Int32)), (.int (hd + sz)), (.ref ba)])) _
    refine XS.irem X6.here hx rfl (hb hby own_d4_112) rfl (by decide) ?_
    show Steps p.tables e below (T6.setTop (mkF m 113 #[.val (.ref a0r), .val (.long q1), .second, .val (.int p2), .unset, .unset, .unset] [(.int ((hd + sz) - ((hd + sz) / (4 : Int32)) * (4 : Int32))), (.ref ba)])) _
    refine XS.lloadN X6.here hx rfl (hb hby own_d4_113) rfl ?_
    show Steps p.tables e below (T6.setTop (mkF m 114 #[.val (.ref a0r), .val (.long q1), .second, .val (.int p2), .unset, .unset, .unset] [(.long q1), (.int ((hd + sz) - ((hd + sz) / (4 : Int32)) * (4 : Int32))), (.ref ba)])) _
    exact k
  obtain ⟨T7, h7, y7, X7, e7, W7, V7, ya7, yb7, st7⟩ := own_stJ X6 hx hZ e6 P4 (j := ((hd + sz) - ((hd + sz) / (4 : Int32)) * (4 : Int32))) (x := q1) (by rw [hix]; omega) (by rw [hix, show (4 : Int32).toInt = 4 from rfl]; omega) (g := (mkF m 114 #[.val (.ref a0r), .val (.long q1), .second, .val (.int p2), .unset, .unset, .unset] [(.long q1), (.int ((hd + sz) - ((hd + sz) / (4 : Int32)) * (4 : Int32))), (.ref ba)])) rfl rfl (hb hby own_d4_114)
  refine own_go (T' := T7) (f' := (mkF m 115 #[.val (.ref a0r), .val (.long q1), .second, .val (.int p2), .unset, .unset, .unset] [])) st7 ?_
  have fc8 : Exa Z h7 a0r "com/example/lid_on_load/lidonload/limit/TimeRing" := P0.wr W7
  have fc9 : Fld Z h7 a0r "com/example/lid_on_load/lidonload/limit/TimeRing" "times" "[J" (.ref ba) := P1.other W7 (Or.inl (Ne.symm hne))
  have fc10 : Fld Z h7 a0r "com/example/lid_on_load/lidonload/limit/TimeRing" "head" "I" (.int hd) := P2.other W7 (Or.inl (Ne.symm hne))
  have fc11 : Fld Z h7 a0r "com/example/lid_on_load/lidonload/limit/TimeRing" "size" "I" (.int sz) := P3.other W7 (Or.inl (Ne.symm hne))
  have fc12 : own_ArJ Z h7 ba .long (4 : Int32) y7 := V7
  have Zs7 : n0 ≤ h7.size := Nat.le_trans Z0 (Keep.of_wr W7).1
  have K7 : Keep h0 h7 [a0r, ba] := K0.wr W7 (Or.inl (List.mem_of_getElem? (i := 1) rfl))
  have N7 := Fr.snoc X7 N0 go_ba
  have ya7' : y7 ((hd + sz) - ((hd + sz) / (4 : Int32)) * (4 : Int32)).toInt.toNat = q1 := ya7
  have yb7' : ∀ i, i ≠ ((hd + sz) - ((hd + sz) / (4 : Int32)) * (4 : Int32)).toInt.toNat → y7 i = f i := yb7
  refine own_go (T' := T7) (f' := (mkF m 117 #[.val (.ref a0r), .val (.long q1), .second, .val (.int p2), .unset, .unset, .unset] [(.ref a0r), (.ref a0r)])) (fun t k => ?_) ?_
  · show Steps p.tables e below (T7.setTop (mkF m 115 #[.val (.ref a0r), .val (.long q1), .second, .val (.int p2), .unset, .unset, .unset] [])) _
    refine XS.aloadN X7.here hx rfl (hb hby own_d4_115) rfl rfl ?_
    show Steps p.tables e below (T7.setTop (mkF m 116 #[.val (.ref a0r), .val (.long q1), .second, .val (.int p2), .unset, .unset, .unset] [(.ref a0r)])) _
    refine XS.dup X7.here hx rfl (hb hby own_d4_116) rfl rfl ?_
    show Steps p.tables e below (T7.setTop (mkF m 117 #[.val (.ref a0r), .val (.long q1), .second, .val (.int p2), .unset, .unset, .unset] [(.ref a0r), (.ref a0r)])) _
    exact k
  obtain ⟨T13, X13, e13, st13⟩ := getF X7 hx hZ hown (host := "") (Or.inl (hw _ (List.mem_of_getElem? (i := 18) rfl))) Via.refl e7 fc11 (g := (mkF m 117 #[.val (.ref a0r), .val (.long q1), .second, .val (.int p2), .unset, .unset, .unset] [(.ref a0r), (.ref a0r)])) rfl rfl (hb hby own_d4_117)
  refine own_go (T' := T13) (f' := (mkF m 120 #[.val (.ref a0r), .val (.long q1), .second, .val (.int p2), .unset, .unset, .unset] [(.int sz), (.ref a0r)])) st13 ?_
  refine own_go (T' := T13) (f' := (mkF m 122 #[.val (.ref a0r), .val (.long q1), .second, .val (.int p2), .unset, .unset, .unset] [(.int (sz + (1 : Int32))), (.ref a0r)])) (fun t k => ?_) ?_
  · show Steps p.tables e below (T13.setTop (mkF m 120 #[.val (.ref a0r), .val (.long q1), .second, .val (.int p2), .unset, .unset, .unset] [(.int sz), (.ref a0r)])) _
    refine XS.iconst X13.here hx rfl (hb hby own_d4_120) ?_
    show Steps p.tables e below (T13.setTop (mkF m 121 #[.val (.ref a0r), .val (.long q1), .second, .val (.int p2), .unset, .unset, .unset] [(.int (1 : Int32)), (.int sz), (.ref a0r)])) _
    refine XS.iadd X13.here hx rfl (hb hby own_d4_121) rfl ?_
    show Steps p.tables e below (T13.setTop (mkF m 122 #[.val (.ref a0r), .val (.long q1), .second, .val (.int p2), .unset, .unset, .unset] [(.int (sz + (1 : Int32))), (.ref a0r)])) _
    exact k
  obtain ⟨T14, h14, X14, e14, W14, st14⟩ := putF X13 hx hZ hown (host := "") (Or.inl (hw _ (List.mem_of_getElem? (i := 18) rfl))) Via.refl e13 fc11 fc8 (Or.inl (hw _ (List.mem_of_getElem? (i := 19) rfl))) (hw _ (List.mem_of_getElem? (i := 1) rfl)) (ty := .int) (by decide) rfl rfl (g := (mkF m 122 #[.val (.ref a0r), .val (.long q1), .second, .val (.int p2), .unset, .unset, .unset] [(.int (sz + (1 : Int32))), (.ref a0r)])) rfl rfl (hb hby own_d4_122)
  refine own_go (T' := T14) (f' := (mkF m 125 #[.val (.ref a0r), .val (.long q1), .second, .val (.int p2), .unset, .unset, .unset] [])) st14 ?_
  have fc15 : Exa Z h14 a0r "com/example/lid_on_load/lidonload/limit/TimeRing" := fc8.wr W14
  have fc16 : Fld Z h14 a0r "com/example/lid_on_load/lidonload/limit/TimeRing" "times" "[J" (.ref ba) := fc9.other W14 (Or.inr (slot_ne (Or.inl (hw _ (List.mem_of_getElem? (i := 11) rfl))) (Or.inl (hw _ (List.mem_of_getElem? (i := 19) rfl))) (by decide) (t := (.array .long)) (t' := .int) (by decide) (by decide)))
  have fc17 : Fld Z h14 a0r "com/example/lid_on_load/lidonload/limit/TimeRing" "head" "I" (.int hd) := fc10.other W14 (Or.inr (slot_ne (Or.inl (hw _ (List.mem_of_getElem? (i := 31) rfl))) (Or.inl (hw _ (List.mem_of_getElem? (i := 19) rfl))) (by decide) (t := .int) (t' := .int) (by decide) (by decide)))
  have fc18 : Fld Z h14 a0r "com/example/lid_on_load/lidonload/limit/TimeRing" "size" "I" (.int (sz + (1 : Int32))) := fc11.same W14
  have fc19 : own_ArJ Z h14 ba .long (4 : Int32) y7 := fc12.other W14 hne
  have Zs14 : n0 ≤ h14.size := Nat.le_trans Zs7 (Keep.of_wr W14).1
  have K14 : Keep h0 h14 [a0r, ba] := K7.wr W14 (Or.inl (List.mem_of_getElem? (i := 0) rfl))
  have N14 := Fr.snoc X14 N7 go_a0r
  obtain ⟨fs, hr, hrun, hended, hW, hsame⟩ := X14.leave (v := none) (fun _ => rfl)
  refine ⟨_, _, ?_, hrun, hended, _, _, rfl, ?_, ⟨_, rfl⟩, hW, hsame.mono (by decide) (by decide)⟩
  · exact X14.returnOut hx Bd.returns (hb hby own_d4_125) hr
  · show own_Q4 Z a0r q1 p2 ba hd sz f h0 n0 _ T14.heap _
    rw [e14]
    exact ⟨y7, rfl, N14, K14, fc16, fc17, fc18, fc19, ⟨by rw [← hix]; exact ya7', by rw [← hix]; exact yb7'⟩⟩
theorem own_d5_0 : decode prog_23_method_3_code 0 = .ok (.aload_n 0, 1) := by decide +kernel
theorem own_d5_1 : decode prog_23_method_3_code 1 = .ok (.getfield 7, 3) := by decide +kernel
theorem own_d5_4 : decode prog_23_method_3_code 4 = .ok (.aload_n 0, 1) := by decide +kernel
theorem own_d5_5 : decode prog_23_method_3_code 5 = .ok (.getfield 17, 3) := by decide +kernel
theorem own_d5_8 : decode prog_23_method_3_code 8 = .ok (.laload, 1) := by decide +kernel
theorem own_d5_9 : decode prog_23_method_3_code 9 = .ok (.lreturn, 1) := by decide +kernel
theorem own_ef5 (m : MethodId) (a0r : Addr) : entryFrame m #[(.ref a0r)] 1 = mkF m 0 #[.val (.ref a0r)] [] := by first | (simp [entryFrame, mkF, argsToLocals, Value.category]; done) | rfl
def own_Q5 (Z : State) (a0r : Addr) (ba : Addr) (hd : Int32) (f : Nat → Int64) (h0 : Heap) (n0 : Nat) (v : Option Value) (h : Heap) (L : List Loc) : Prop := (v = some (.long (f hd.toInt.toNat))) ∧ (Fr n0 L) ∧ (h = h0)
set_option maxRecDepth 65536 in
set_option maxHeartbeats 40000000 in
theorem own_rm5 (l : Launch) (Z : State) (a0 : Array Value) (hw : ∀ d ∈ tables_1, d.before a0 Z = true) (ws : List Jvm.Cond) (a0r : Addr) (ba : Addr) (hd : Int32) (f : Nat → Int64) (h0 : Heap) (n0 : Nat) (Z0 : n0 ≤ h0.size) (P0 : Fld Z h0 a0r "com/example/lid_on_load/lidonload/limit/TimeRing" "times" "[J" (.ref ba)) (P1 : Fld Z h0 a0r "com/example/lid_on_load/lidonload/limit/TimeRing" "head" "I" (.int hd)) (P2 : own_ArJ Z h0 ba .long (4 : Int32) f) (hh0 : 0 ≤ hd.toInt) (hh4 : hd.toInt < 4) :
    MetFree l (⟨"com/example/lid_on_load/lidonload/limit/TimeRing", "head", "()J"⟩ : MethodName) (head1 (Jvm.Cond.code (⟨"com/example/lid_on_load/lidonload/limit/TimeRing", "head", "()J"⟩ : MethodName) prog_23_method_3_code 1 (some .long) :: ws) ({ frames := 0, cells := 0, slots := 0, locals := 0 } : Room)) (fun a U => a = #[(.ref a0r)] ∧ Z.Warmed39 U.vm ∧ U.heap = h0) (fun _ _ _ _ _ => True) (fun _ U o U' => ∃ v L, o = .returned v ∧ own_Q5 Z a0r ba hd f h0 n0 v U'.heap L ∧ FrameEnd U o U' L ({ frames := 0, cells := 0, slots := 0, locals := 0 } : Room).cells ({ frames := 0, cells := 0, slots := 0, locals := 0 } : Room).slots) := by
  refine MetFree.of_bodySF (plainFor_of_name own_pn0) hisR ?_
  intro p e s m args below meth c s₁ Bd hml0 hP hK
  obtain ⟨rfl, hZ, hh⟩ := hP
  have hx := Bd.exec
  have hby := Bd.bytes
  have hml : c.maxLocals = 1 := hml0
  have hown : s.vm.findClass "com/example/lid_on_load/lidonload/limit/TimeRing" = some m.cls := findClass_of_methodNamed Bd.named
  have hnm := (name_of_methodNamed Bd.named Bd.method).1
  have X0 : Stand p l e ({ frames := 0, cells := 0, slots := 0, locals := 0 } : Room) s m #[(.ref a0r)] below meth c s₁ [] 0 0 := Stand.of_body Bd
  have e0 : s₁.heap = h0 := by rw [← hh, Bd.state]; rfl
  have N0 := Fr.nil n0
  refine own_go (fun t k => castTop (own_ef5 m a0r) k) ?_
  refine own_go (T' := s₁) (f' := (mkF m 1 #[.val (.ref a0r)] [(.ref a0r)])) (fun t k => ?_) ?_
  · show Steps p.tables e below (s₁.setTop (mkF m 0 #[.val (.ref a0r)] [])) _
    refine XS.aloadN X0.here hx rfl (hb hby own_d5_0) rfl rfl ?_
    show Steps p.tables e below (s₁.setTop (mkF m 1 #[.val (.ref a0r)] [(.ref a0r)])) _
    exact k
  obtain ⟨T1, X1, e1, st1⟩ := getF X0 hx hZ hown (host := "") (Or.inl (hw _ (List.mem_of_getElem? (i := 10) rfl))) Via.refl e0 P0 (g := (mkF m 1 #[.val (.ref a0r)] [(.ref a0r)])) rfl rfl (hb hby own_d5_1)
  refine own_go (T' := T1) (f' := (mkF m 4 #[.val (.ref a0r)] [(.ref ba)])) st1 ?_
  refine own_go (T' := T1) (f' := (mkF m 5 #[.val (.ref a0r)] [(.ref a0r), (.ref ba)])) (fun t k => ?_) ?_
  · show Steps p.tables e below (T1.setTop (mkF m 4 #[.val (.ref a0r)] [(.ref ba)])) _
    refine XS.aloadN X1.here hx rfl (hb hby own_d5_4) rfl rfl ?_
    show Steps p.tables e below (T1.setTop (mkF m 5 #[.val (.ref a0r)] [(.ref a0r), (.ref ba)])) _
    exact k
  obtain ⟨T2, X2, e2, st2⟩ := getF X1 hx hZ hown (host := "") (Or.inl (hw _ (List.mem_of_getElem? (i := 30) rfl))) Via.refl e1 P1 (g := (mkF m 5 #[.val (.ref a0r)] [(.ref a0r), (.ref ba)])) rfl rfl (hb hby own_d5_5)
  refine own_go (T' := T2) (f' := (mkF m 8 #[.val (.ref a0r)] [(.int hd), (.ref ba)])) st2 ?_
  refine own_go (T' := T2) (f' := (mkF m 9 #[.val (.ref a0r)] [(.long (f hd.toInt.toNat))])) (fun t k => ?_) ?_
  · show Steps p.tables e below (T2.setTop (mkF m 8 #[.val (.ref a0r)] [(.int hd), (.ref ba)])) _
    refine own_ldJ X2 hx hZ e2 P2 (j := hd) hh0 (by rw [show (4 : Int32).toInt = 4 from rfl]; exact hh4) (g := (mkF m 8 #[.val (.ref a0r)] [(.int hd), (.ref ba)])) rfl rfl (hb hby own_d5_8) _ ?_
    show Steps p.tables e below (T2.setTop (mkF m 9 #[.val (.ref a0r)] [(.long (f hd.toInt.toNat))])) _
    exact k
  obtain ⟨fs, hr, hrun, hended, hW, hsame⟩ := X2.leave (v := some (.long (f hd.toInt.toNat))) (fun h => by rw [Bd.returns] at h; cases h)
  refine ⟨_, _, ?_, hrun, hended, _, _, rfl, ?_, ⟨_, rfl⟩, hW, hsame.mono (by decide) (by decide)⟩
  · exact X2.lreturnOut hx Bd.returns (hb hby own_d5_9) hr
  · show own_Q5 Z a0r ba hd f h0 n0 _ T2.heap _
    rw [e2]
    exact ⟨rfl, N0, rfl⟩
theorem own_d6_0 : decode prog_23_method_4_code 0 = .ok (.aload_n 0, 1) := by decide +kernel
theorem own_d6_1 : decode prog_23_method_4_code 1 = .ok (.getfield 7, 3) := by decide +kernel
theorem own_d6_4 : decode prog_23_method_4_code 4 = .ok (.aload_n 0, 1) := by decide +kernel
theorem own_d6_5 : decode prog_23_method_4_code 5 = .ok (.getfield 17, 3) := by decide +kernel
theorem own_d6_8 : decode prog_23_method_4_code 8 = .ok (.iload_n 1, 1) := by decide +kernel
theorem own_d6_9 : decode prog_23_method_4_code 9 = .ok (.iadd, 1) := by decide +kernel
theorem own_d6_10 : decode prog_23_method_4_code 10 = .ok (.aload_n 0, 1) := by decide +kernel
theorem own_d6_11 : decode prog_23_method_4_code 11 = .ok (.getfield 7, 3) := by decide +kernel
theorem own_d6_14 : decode prog_23_method_4_code 14 = .ok (.arraylength, 1) := by decide +kernel
theorem own_d6_15 : decode prog_23_method_4_code 15 = .ok (.irem, 1) := by decide +kernel
theorem own_d6_16 : decode prog_23_method_4_code 16 = .ok (.laload, 1) := by decide +kernel
theorem own_d6_17 : decode prog_23_method_4_code 17 = .ok (.lreturn, 1) := by decide +kernel
theorem own_ef6 (m : MethodId) (a0r : Addr) (p1 : Int32) : entryFrame m #[(.ref a0r), (.int p1)] 2 = mkF m 0 #[.val (.ref a0r), .val (.int p1)] [] := by first | (simp [entryFrame, mkF, argsToLocals, Value.category]; done) | rfl
def own_Q6 (Z : State) (a0r : Addr) (p1 : Int32) (ba : Addr) (hd : Int32) (f : Nat → Int64) (h0 : Heap) (n0 : Nat) (v : Option Value) (h : Heap) (L : List Loc) : Prop := (v = some (.long (f ((hd + p1) - ((hd + p1) / (4 : Int32)) * (4 : Int32)).toInt.toNat))) ∧ (Fr n0 L) ∧ (h = h0)
set_option maxRecDepth 65536 in
set_option maxHeartbeats 40000000 in
theorem own_rm6 (l : Launch) (Z : State) (a0 : Array Value) (hw : ∀ d ∈ tables_1, d.before a0 Z = true) (ws : List Jvm.Cond) (a0r : Addr) (p1 : Int32) (ba : Addr) (hd : Int32) (f : Nat → Int64) (h0 : Heap) (n0 : Nat) (Z0 : n0 ≤ h0.size) (P0 : Fld Z h0 a0r "com/example/lid_on_load/lidonload/limit/TimeRing" "times" "[J" (.ref ba)) (P1 : Fld Z h0 a0r "com/example/lid_on_load/lidonload/limit/TimeRing" "head" "I" (.int hd)) (P2 : own_ArJ Z h0 ba .long (4 : Int32) f) (hh0 : 0 ≤ hd.toInt) (hh4 : hd.toInt < 4) (hp0 : 0 ≤ p1.toInt) (hp4 : p1.toInt < 4) :
    MetFree l (⟨"com/example/lid_on_load/lidonload/limit/TimeRing", "time", "(I)J"⟩ : MethodName) (head1 (Jvm.Cond.code (⟨"com/example/lid_on_load/lidonload/limit/TimeRing", "time", "(I)J"⟩ : MethodName) prog_23_method_4_code 2 (some .long) :: ws) ({ frames := 0, cells := 0, slots := 0, locals := 0 } : Room)) (fun a U => a = #[(.ref a0r), (.int p1)] ∧ Z.Warmed39 U.vm ∧ U.heap = h0) (fun _ _ _ _ _ => True) (fun _ U o U' => ∃ v L, o = .returned v ∧ own_Q6 Z a0r p1 ba hd f h0 n0 v U'.heap L ∧ FrameEnd U o U' L ({ frames := 0, cells := 0, slots := 0, locals := 0 } : Room).cells ({ frames := 0, cells := 0, slots := 0, locals := 0 } : Room).slots) := by
  refine MetFree.of_bodySF (plainFor_of_name own_pn0) hisR ?_
  intro p e s m args below meth c s₁ Bd hml0 hP hK
  obtain ⟨rfl, hZ, hh⟩ := hP
  have hx := Bd.exec
  have hby := Bd.bytes
  have hml : c.maxLocals = 2 := hml0
  have hown : s.vm.findClass "com/example/lid_on_load/lidonload/limit/TimeRing" = some m.cls := findClass_of_methodNamed Bd.named
  have hnm := (name_of_methodNamed Bd.named Bd.method).1
  have X0 : Stand p l e ({ frames := 0, cells := 0, slots := 0, locals := 0 } : Room) s m #[(.ref a0r), (.int p1)] below meth c s₁ [] 0 0 := Stand.of_body Bd
  have e0 : s₁.heap = h0 := by rw [← hh, Bd.state]; rfl
  have N0 := Fr.nil n0
  refine own_go (fun t k => castTop (own_ef6 m a0r p1) k) ?_
  have hix := own_ix hd p1 hh0 (by omega) hp0 (by omega)
  refine own_go (T' := s₁) (f' := (mkF m 1 #[.val (.ref a0r), .val (.int p1)] [(.ref a0r)])) (fun t k => ?_) ?_
  · show Steps p.tables e below (s₁.setTop (mkF m 0 #[.val (.ref a0r), .val (.int p1)] [])) _
    refine XS.aloadN X0.here hx rfl (hb hby own_d6_0) rfl rfl ?_
    show Steps p.tables e below (s₁.setTop (mkF m 1 #[.val (.ref a0r), .val (.int p1)] [(.ref a0r)])) _
    exact k
  obtain ⟨T1, X1, e1, st1⟩ := getF X0 hx hZ hown (host := "") (Or.inl (hw _ (List.mem_of_getElem? (i := 10) rfl))) Via.refl e0 P0 (g := (mkF m 1 #[.val (.ref a0r), .val (.int p1)] [(.ref a0r)])) rfl rfl (hb hby own_d6_1)
  refine own_go (T' := T1) (f' := (mkF m 4 #[.val (.ref a0r), .val (.int p1)] [(.ref ba)])) st1 ?_
  refine own_go (T' := T1) (f' := (mkF m 5 #[.val (.ref a0r), .val (.int p1)] [(.ref a0r), (.ref ba)])) (fun t k => ?_) ?_
  · show Steps p.tables e below (T1.setTop (mkF m 4 #[.val (.ref a0r), .val (.int p1)] [(.ref ba)])) _
    refine XS.aloadN X1.here hx rfl (hb hby own_d6_4) rfl rfl ?_
    show Steps p.tables e below (T1.setTop (mkF m 5 #[.val (.ref a0r), .val (.int p1)] [(.ref a0r), (.ref ba)])) _
    exact k
  obtain ⟨T2, X2, e2, st2⟩ := getF X1 hx hZ hown (host := "") (Or.inl (hw _ (List.mem_of_getElem? (i := 30) rfl))) Via.refl e1 P1 (g := (mkF m 5 #[.val (.ref a0r), .val (.int p1)] [(.ref a0r), (.ref ba)])) rfl rfl (hb hby own_d6_5)
  refine own_go (T' := T2) (f' := (mkF m 8 #[.val (.ref a0r), .val (.int p1)] [(.int hd), (.ref ba)])) st2 ?_
  refine own_go (T' := T2) (f' := (mkF m 11 #[.val (.ref a0r), .val (.int p1)] [(.ref a0r), (.int (hd + p1)), (.ref ba)])) (fun t k => ?_) ?_
  · show Steps p.tables e below (T2.setTop (mkF m 8 #[.val (.ref a0r), .val (.int p1)] [(.int hd), (.ref ba)])) _
    refine XS.iloadN X2.here hx rfl (hb hby own_d6_8) rfl ?_
    show Steps p.tables e below (T2.setTop (mkF m 9 #[.val (.ref a0r), .val (.int p1)] [(.int p1), (.int hd), (.ref ba)])) _
    refine XS.iadd X2.here hx rfl (hb hby own_d6_9) rfl ?_
    show Steps p.tables e below (T2.setTop (mkF m 10 #[.val (.ref a0r), .val (.int p1)] [(.int (hd + p1)), (.ref ba)])) _
    refine XS.aloadN X2.here hx rfl (hb hby own_d6_10) rfl rfl ?_
    show Steps p.tables e below (T2.setTop (mkF m 11 #[.val (.ref a0r), .val (.int p1)] [(.ref a0r), (.int (hd + p1)), (.ref ba)])) _
    exact k
  obtain ⟨T3, X3, e3, st3⟩ := getF X2 hx hZ hown (host := "") (Or.inl (hw _ (List.mem_of_getElem? (i := 10) rfl))) Via.refl e2 P0 (g := (mkF m 11 #[.val (.ref a0r), .val (.int p1)] [(.ref a0r), (.int (hd + p1)), (.ref ba)])) rfl rfl (hb hby own_d6_11)
  refine own_go (T' := T3) (f' := (mkF m 14 #[.val (.ref a0r), .val (.int p1)] [(.ref ba), (.int (hd + p1)), (.ref ba)])) st3 ?_
  refine own_go (T' := T3) (f' := (mkF m 17 #[.val (.ref a0r), .val (.int p1)] [(.long (f ((hd + p1) - ((hd + p1) / (4 : Int32)) * (4 : Int32)).toInt.toNat))])) (fun t k => ?_) ?_
  · show Steps p.tables e below (T3.setTop (mkF m 14 #[.val (.ref a0r), .val (.int p1)] [(.ref ba), (.int (hd + p1)), (.ref ba)])) _
    refine P2.len X3 hx hZ e3 (g := (mkF m 14 #[.val (.ref a0r), .val (.int p1)] [(.ref ba), (.int (hd + p1)), (.ref ba)])) rfl rfl (hb hby own_d6_14) _ ?_
    show Steps p.tables e below (T3.setTop (mkF m 15 #[.val (.ref a0r), .val (.int p1)] [(.int (4 : Int32)), (.int (hd + p1)), (.ref ba)])) _
    refine XS.irem X3.here hx rfl (hb hby own_d6_15) rfl (by decide) ?_
    show Steps p.tables e below (T3.setTop (mkF m 16 #[.val (.ref a0r), .val (.int p1)] [(.int ((hd + p1) - ((hd + p1) / (4 : Int32)) * (4 : Int32))), (.ref ba)])) _
    refine own_ldJ X3 hx hZ e3 P2 (j := ((hd + p1) - ((hd + p1) / (4 : Int32)) * (4 : Int32))) (by rw [hix]; omega) (by rw [hix, show (4 : Int32).toInt = 4 from rfl]; omega) (g := (mkF m 16 #[.val (.ref a0r), .val (.int p1)] [(.int ((hd + p1) - ((hd + p1) / (4 : Int32)) * (4 : Int32))), (.ref ba)])) rfl rfl (hb hby own_d6_16) _ ?_
    show Steps p.tables e below (T3.setTop (mkF m 17 #[.val (.ref a0r), .val (.int p1)] [(.long (f ((hd + p1) - ((hd + p1) / (4 : Int32)) * (4 : Int32)).toInt.toNat))])) _
    exact k
  obtain ⟨fs, hr, hrun, hended, hW, hsame⟩ := X3.leave (v := some (.long (f ((hd + p1) - ((hd + p1) / (4 : Int32)) * (4 : Int32)).toInt.toNat))) (fun h => by rw [Bd.returns] at h; cases h)
  refine ⟨_, _, ?_, hrun, hended, _, _, rfl, ?_, ⟨_, rfl⟩, hW, hsame.mono (by decide) (by decide)⟩
  · exact X3.lreturnOut hx Bd.returns (hb hby own_d6_17) hr
  · show own_Q6 Z a0r p1 ba hd f h0 n0 _ T3.heap _
    rw [e3]
    exact ⟨rfl, N0, rfl⟩
theorem own_pd0 : parseMethodDescriptor "(I)V" = some ⟨[.int], none⟩ := by decide +kernel
theorem own_pd1 : parseMethodDescriptor "(JI)V" = some ⟨[.long, .int], none⟩ := by decide +kernel
theorem own_pd2 : parseMethodDescriptor "(J)V" = some ⟨[.long], none⟩ := by decide +kernel
theorem own_pd3 : parseMethodDescriptor "()I" = some ⟨[], some .int⟩ := by decide +kernel
theorem own_pd4 : parseMethodDescriptor "()J" = some ⟨[], some .long⟩ := by decide +kernel
theorem own_pd5 : parseMethodDescriptor "(I)J" = some ⟨[.int], some .long⟩ := by decide +kernel
theorem own_pn1 : plainName "com/example/lid_on_load/lidonload/limit/TimeRingDropBeforePinLaw" = true := by first | (simp [plainName, overriddenIn]; done) | decide +kernel
theorem own_ef0 (m : MethodId) (q0 : Int64) (q1 : Int64) (q2 : Int64) (q3 : Int64) (q4 : Int64) (p5 : Int32) : entryFrame m #[(.long q0), (.long q1), (.long q2), (.long q3), (.long q4), (.int p5)] maxLocals = mkF m 0 #[.val (.long q0), .second, .val (.long q1), .second, .val (.long q2), .second, .val (.long q3), .second, .val (.long q4), .second, .val (.int p5), .unset, .unset, .unset, .unset, .unset, .unset] [] := by first | (simp [entryFrame, mkF, argsToLocals, Value.category, maxLocals]; done) | rfl
def own_N (q0 : Int64) (q1 : Int64) (q2 : Int64) (q3 : Int64) (q4 : Int64) (p5 : Int32) : Int32 := ((p5 &&& (7 : Int32)) - ((p5 &&& (7 : Int32)) / (5 : Int32)) * (5 : Int32))
def own_P (q0 : Int64) (q1 : Int64) (q2 : Int64) (q3 : Int64) (q4 : Int64) (p5 : Int32) : Int32 := ((own_shrI p5 (3 : Int32)) &&& (3 : Int32))
def own_K (q0 : Int64) (q1 : Int64) (q2 : Int64) (q3 : Int64) (q4 : Int64) (p5 : Int32) : Int32 := (if (0 : Int32) < (own_N q0 q1 q2 q3 q4 p5) then (if q0 < q4 then (if (1 : Int32) < (own_N q0 q1 q2 q3 q4 p5) then (if q1 < q4 then (if (2 : Int32) < (own_N q0 q1 q2 q3 q4 p5) then (if q2 < q4 then (if (3 : Int32) < (own_N q0 q1 q2 q3 q4 p5) then (if q3 < q4 then (4 : Int32) else (3 : Int32)) else (3 : Int32)) else (2 : Int32)) else (2 : Int32)) else (1 : Int32)) else (1 : Int32)) else (0 : Int32)) else (0 : Int32))
def own_g (q0 q1 q2 q3 q4 : Int64) (p5 : Int32) (i : Nat) : Int64 := if i = 0 then q0 else if i = 1 then q1 else if i = 2 then q2 else q3
theorem own_N_rng (q0 q1 q2 q3 q4 : Int64) (p5 : Int32) : 0 ≤ (own_N q0 q1 q2 q3 q4 p5).toInt ∧ (own_N q0 q1 q2 q3 q4 p5).toInt ≤ 4 := by
  have m := c_mask p5 7 3 (by decide) (by decide)
  have d := (c_idiv (p5 &&& (7 : Int32)) 5 5 rfl (by decide)).1 (by omega)
  have k := c_imul ((p5 &&& (7 : Int32)) / 5) 5; have kr := rng32 ((p5 &&& (7 : Int32)) / 5 * 5)
  have s := c_isub (p5 &&& (7 : Int32)) ((p5 &&& (7 : Int32)) / 5 * 5); have sr := rng32 ((p5 &&& (7 : Int32)) - (p5 &&& (7 : Int32)) / 5 * 5)
  have e5 : (5 : Int32).toInt = 5 := rfl
  rw [e5] at k
  show 0 ≤ ((p5 &&& (7 : Int32)) - ((p5 &&& (7 : Int32)) / (5 : Int32)) * (5 : Int32)).toInt ∧ ((p5 &&& (7 : Int32)) - ((p5 &&& (7 : Int32)) / (5 : Int32)) * (5 : Int32)).toInt ≤ 4
  omega
theorem own_P_rng (q0 q1 q2 q3 q4 : Int64) (p5 : Int32) : 0 ≤ (own_P q0 q1 q2 q3 q4 p5).toInt ∧ (own_P q0 q1 q2 q3 q4 p5).toInt ≤ 3 := by
  rw [own_P, c_mask _ 3 2 (by decide) (by decide)]; omega
/-- behind the k-th conditional add: the ring holds the first min(who, k) of the times g -/
def own_RS (who : Int32) (k : Nat) (hd sz : Int32) (f g : Nat → Int64) : Prop := (0 ≤ hd.toInt ∧ hd.toInt < 4) ∧ 0 ≤ who.toInt ∧ sz.toInt = min who.toInt k ∧ own_RG hd f sz.toInt.toNat g
theorem own_RS.zero {who hd sz : Int32} {f g : Nat → Int64} (h : 0 ≤ hd.toInt ∧ hd.toInt < 4) (hs : sz = (0 : Int32)) (hw : 0 ≤ who.toInt) : own_RS who 0 hd sz f g := by
  subst hs
  have e0 : (0 : Int32).toInt = 0 := rfl
  exact ⟨h, hw, by omega, fun i hi => by rw [e0] at hi; omega⟩
theorem own_RS.h0 {who hd sz : Int32} {k : Nat} {f g : Nat → Int64} (h : own_RS who k hd sz f g) : 0 ≤ hd.toInt := h.1.1
theorem own_RS.h4 {who hd sz : Int32} {k : Nat} {f g : Nat → Int64} (h : own_RS who k hd sz f g) : hd.toInt < 4 := h.1.2
theorem own_RS.s0 {who hd sz : Int32} {k : Nat} {f g : Nat → Int64} (h : own_RS who k hd sz f g) : 0 ≤ sz.toInt := by obtain ⟨-, h2, h3, -⟩ := h; omega
theorem own_RS.s4 {who hd sz : Int32} {k : Nat} {f g : Nat → Int64} (h : own_RS who k hd sz f g) (hk : k < 4) : sz.toInt < 4 := by obtain ⟨-, h2, h3, -⟩ := h; omega
theorem own_RS.yes {who hd sz kk : Int32} {k : Nat} {t : Int64} {f f' g : Nat → Int64} (h : own_RS who k hd sz f g) (hk : kk.toInt = k ∧ k < 4) (hc : kk < who) (ha : own_AD hd sz t f f') (ht : g k = t) : own_RS who (k + 1) hd (sz + (1 : Int32)) f' g := by
  obtain ⟨h1, h2, h3, h4⟩ := h
  rw [Int32.lt_iff_toInt_lt] at hc
  have a := own_add sz 1 (by omega) (by omega) (by decide) (by decide)
  have e1 : (1 : Int32).toInt = 1 := rfl
  refine ⟨h1, h2, by omega, ?_⟩
  rw [show (sz + (1 : Int32)).toInt.toNat = k + 1 by omega]
  rw [show sz.toInt.toNat = k by omega] at h4
  exact h4.add h1.1 hk.2 (by omega) ha ht
theorem own_RS.no {who hd sz kk : Int32} {k : Nat} {f g : Nat → Int64} (h : own_RS who k hd sz f g) (hc : ¬ kk < who) (hk : kk.toInt = k := by decide) : own_RS who (k + 1) hd sz f g := by
  obtain ⟨h1, h2, h3, h4⟩ := h
  rw [Int32.lt_iff_toInt_lt] at hc
  exact ⟨h1, h2, by omega, h4⟩
theorem own_drop1 (q0 q1 q2 q3 q4 : Int64) (p5 : Int32) {hd sz hd' sz' : Int32} {f : Nat → Int64} (h : own_RS (own_P q0 q1 q2 q3 q4 p5) 3 hd sz f (fun _ => (-9223372036854775808 : Int64))) (d : own_DB sz.toInt.toNat hd f (-9223372036854775807 : Int64) hd' sz') : sz' = (0 : Int32) ∧ 0 ≤ hd'.toInt ∧ hd'.toInt < 4 := by
  obtain ⟨k, d1, d2, d3, d4, d5⟩ := d
  have hk : k = sz.toInt.toNat := by
    by_cases c : k < sz.toInt.toNat
    · have q := d5 c
      rw [h.2.2.2 k c] at q
      exact absurd (by decide : (-9223372036854775808 : Int64) < (-9223372036854775807 : Int64)) q
    · omega
  have e0 : (0 : Int32).toInt = 0 := rfl
  exact ⟨Int32.toInt_inj.mp (by omega), by omega, by omega⟩
theorem own_lts {N : Int32} {n : Nat} (hN : N.toInt = n) (j : Int32) (i : Nat) (hj : j.toInt = i) : j < N ↔ i < n := by
  rw [Int32.lt_iff_toInt_lt]; omega
theorem own_count (q0 q1 q2 q3 q4 : Int64) (p5 : Int32) {k n : Nat} (hn : (own_N q0 q1 q2 q3 q4 p5).toInt = n) (h4 : n ≤ 4) (hk : k ≤ n) (h1 : ∀ i, i < k → own_g q0 q1 q2 q3 q4 p5 i < q4) (h2 : k < n → ¬ own_g q0 q1 q2 q3 q4 p5 k < q4) : (own_K q0 q1 q2 q3 q4 p5).toInt = k := by
  have l0 := own_lts hn (0 : Int32) 0 rfl; have l1 := own_lts hn (1 : Int32) 1 rfl; have l2 := own_lts hn (2 : Int32) 2 rfl; have l3 := own_lts hn (3 : Int32) 3 rfl
  unfold own_K
  match k, hk, h1, h2 with
  | 0, hk, h1, h2 =>
    by_cases c : 0 < n
    · have b : ¬ q0 < q4 := h2 c
      rw [if_pos (l0.mpr c), if_neg b]; rfl
    · rw [if_neg (fun q => c (l0.mp q))]; rfl
  | 1, hk, h1, h2 =>
    have a0 : q0 < q4 := h1 0 (by decide)
    rw [if_pos (l0.mpr (by omega)), if_pos a0]
    by_cases c : 1 < n
    · have b : ¬ q1 < q4 := h2 c
      rw [if_pos (l1.mpr c), if_neg b]; rfl
    · rw [if_neg (fun q => c (l1.mp q))]; rfl
  | 2, hk, h1, h2 =>
    have a0 : q0 < q4 := h1 0 (by decide)
    have a1 : q1 < q4 := h1 1 (by decide)
    rw [if_pos (l0.mpr (by omega)), if_pos a0, if_pos (l1.mpr (by omega)), if_pos a1]
    by_cases c : 2 < n
    · have b : ¬ q2 < q4 := h2 c
      rw [if_pos (l2.mpr c), if_neg b]; rfl
    · rw [if_neg (fun q => c (l2.mp q))]; rfl
  | 3, hk, h1, h2 =>
    have a0 : q0 < q4 := h1 0 (by decide)
    have a1 : q1 < q4 := h1 1 (by decide)
    have a2 : q2 < q4 := h1 2 (by decide)
    rw [if_pos (l0.mpr (by omega)), if_pos a0, if_pos (l1.mpr (by omega)), if_pos a1, if_pos (l2.mpr (by omega)), if_pos a2]
    by_cases c : 3 < n
    · have b : ¬ q3 < q4 := h2 c
      rw [if_pos (l3.mpr c), if_neg b]; rfl
    · rw [if_neg (fun q => c (l3.mp q))]; rfl
  | 4, hk, h1, h2 =>
    have a0 : q0 < q4 := h1 0 (by decide)
    have a1 : q1 < q4 := h1 1 (by decide)
    have a2 : q2 < q4 := h1 2 (by decide)
    have a3 : q3 < q4 := h1 3 (by decide)
    rw [if_pos (l0.mpr (by omega)), if_pos a0, if_pos (l1.mpr (by omega)), if_pos a1, if_pos (l2.mpr (by omega)), if_pos a2, if_pos (l3.mpr (by omega)), if_pos a3]; rfl
  | k + 5, hk, h1, h2 => omega
theorem own_drop2 (q0 q1 q2 q3 q4 : Int64) (p5 : Int32) {hd sz hd' sz' : Int32} {f : Nat → Int64} (h : own_RS (own_N q0 q1 q2 q3 q4 p5) 4 hd sz f (own_g q0 q1 q2 q3 q4 p5)) (d : own_DB sz.toInt.toNat hd f q4 hd' sz') :
    sz' = ((own_N q0 q1 q2 q3 q4 p5) - (own_K q0 q1 q2 q3 q4 p5)) ∧ 0 ≤ hd'.toInt ∧ hd'.toInt < 4 ∧ ∀ i : Int32, (0 ≤ i.toInt ∧ i.toInt < 4) → i < ((own_N q0 q1 q2 q3 q4 p5) - (own_K q0 q1 q2 q3 q4 p5)) →
      0 ≤ ((own_K q0 q1 q2 q3 q4 p5) + i).toInt ∧ ((own_K q0 q1 q2 q3 q4 p5) + i).toInt < (4 : Int32).toInt ∧ ∀ {y : Nat → Int64}, (∀ j, j < 4 → y j = own_g q0 q1 q2 q3 q4 p5 j) → f ((hd' + i) - ((hd' + i) / (4 : Int32)) * (4 : Int32)).toInt.toNat = y ((own_K q0 q1 q2 q3 q4 p5) + i).toInt.toNat := by
  obtain ⟨hh, hw, hs, hr⟩ := h
  have nr := own_N_rng q0 q1 q2 q3 q4 p5
  obtain ⟨k, d1, d2, d3, d4, d5⟩ := d
  have ek := own_count q0 q1 q2 q3 q4 p5 (k := k) (n := sz.toInt.toNat) (by omega) (by omega) d1 (fun i hi => by rw [← hr i (by omega)]; exact d4 i hi) (fun hk => by rw [← hr k hk]; exact d5 hk)
  have es : (own_N q0 q1 q2 q3 q4 p5).toInt = sz.toInt := by omega
  generalize own_K q0 q1 q2 q3 q4 p5 = K at *
  generalize own_N q0 q1 q2 q3 q4 p5 = N at *
  have a := c_isub N K; have b := rng32 (N - K)
  have eNK : (N - K).toInt = sz.toInt - k := by omega
  refine ⟨Int32.toInt_inj.mp (by omega), by omega, by omega, fun i hi hc => ?_⟩
  rw [Int32.lt_iff_toInt_lt, eNK] at hc
  have ea := own_add K i (by omega) (by omega) hi.1 (by omega)
  have e4 : (4 : Int32).toInt = 4 := rfl
  refine ⟨by omega, by omega, fun {y} hy => ?_⟩
  have ix := own_ix hd' i (by omega) (by omega) hi.1 (by omega)
  have r := hr (K + i).toInt.toNat (by omega)
  rw [hy _ (by omega), ← r, ix, d2]
  congr 1
  omega
theorem own_K0 {K hd' : Int32} {f g : Nat → Int64} (h : 0 ≤ (K + (0 : Int32)).toInt ∧ (K + (0 : Int32)).toInt < (4 : Int32).toInt ∧ ∀ {y : Nat → Int64}, (∀ j, j < 4 → y j = g j) → f ((hd' + (0 : Int32)) - ((hd' + (0 : Int32)) / (4 : Int32)) * (4 : Int32)).toInt.toNat = y (K + (0 : Int32)).toInt.toNat) :
    0 ≤ K.toInt ∧ K.toInt < (4 : Int32).toInt ∧ ∀ {y : Nat → Int64}, (∀ j, j < 4 → y j = g j) → 0 ≤ hd'.toInt → hd'.toInt < 4 → f hd'.toInt.toNat = y K.toInt.toNat := by
  rw [Int32.add_zero, Int32.add_zero] at h
  refine ⟨h.1, h.2.1, fun {y} hy h0 h4 => ?_⟩
  have q := h.2.2 hy
  rw [own_m4 hd' h0, show (hd'.toInt % 4).toNat = hd'.toInt.toNat by omega] at q
  exact q
theorem own_mono {M i j : Int32} (h : ¬ i < M) (hij : i.toInt ≤ j.toInt) : ¬ j < M := by
  rw [Int32.lt_iff_toInt_lt] at *; omega
def own_Q0 (Z : State) (q0 : Int64) (q1 : Int64) (q2 : Int64) (q3 : Int64) (q4 : Int64) (p5 : Int32) (h0 : Heap) (n0 : Nat) (v : Option Value) (h : Heap) (L : List Loc) : Prop := (v = some (.int (1 : Int32))) ∧ (Fr n0 L)
set_option maxRecDepth 65536 in
set_option maxHeartbeats 40000000 in
theorem own_rm0 (l : Launch) (Z : State) (a0 : Array Value) (hw : ∀ d ∈ tables_1, d.before a0 Z = true) (ws : List Jvm.Cond) (q0 : Int64) (q1 : Int64) (q2 : Int64) (q3 : Int64) (q4 : Int64) (p5 : Int32) (h0 : Heap) (n0 : Nat) (Z0 : n0 ≤ h0.size) :
    MetFree l x (head1 (Jvm.Cond.code x code maxLocals ret :: ws) room_1) (fun a U => a = #[(.long q0), (.long q1), (.long q2), (.long q3), (.long q4), (.int p5)] ∧ Z.Warmed39 U.vm ∧ U.heap = h0) (fun _ _ _ _ _ => True) (fun _ U o U' => ∃ v L, o = .returned v ∧ own_Q0 Z q0 q1 q2 q3 q4 p5 h0 n0 v U'.heap L ∧ FrameEnd U o U' L 16 128) := by
  refine MetFree.of_bodySF (plainFor_of_name own_pn1) hisR ?_
  intro p e s m args below meth c s₁ Bd hml0 hP hK
  obtain ⟨rfl, hZ, hh⟩ := hP
  have hx := Bd.exec
  have hby := Bd.bytes
  have hml : c.maxLocals = 17 := hml0
  have hown : s.vm.findClass "com/example/lid_on_load/lidonload/limit/TimeRingDropBeforePinLaw" = some m.cls := findClass_of_methodNamed Bd.named
  have hnm := (name_of_methodNamed Bd.named Bd.method).1
  have X0 : Stand p l e room_1 s m #[(.long q0), (.long q1), (.long q2), (.long q3), (.long q4), (.int p5)] below meth c s₁ [] 0 0 := Stand.of_body Bd
  have e0 : s₁.heap = h0 := by rw [← hh, Bd.state]; rfl
  have N0 := Fr.nil n0
  refine own_go (fun t k => castTop (own_ef0 m q0 q1 q2 q3 q4 p5) k) ?_
  refine own_go (T' := s₁) (f' := (mkF m 7 #[.val (.long q0), .second, .val (.long q1), .second, .val (.long q2), .second, .val (.long q3), .second, .val (.long q4), .second, .val (.int p5), .unset, .unset, .unset, .unset, .unset, .unset] [(.int ((p5 &&& (7 : Int32)) - ((p5 &&& (7 : Int32)) / (5 : Int32)) * (5 : Int32)))])) (fun t k => ?_) ?_
  · show Steps p.tables e below (s₁.setTop (mkF m 0 #[.val (.long q0), .second, .val (.long q1), .second, .val (.long q2), .second, .val (.long q3), .second, .val (.long q4), .second, .val (.int p5), .unset, .unset, .unset, .unset, .unset, .unset] [])) _
    refine XS.iload X0.here hx rfl (hb hby at_0) rfl ?_
    show Steps p.tables e below (s₁.setTop (mkF m 2 #[.val (.long q0), .second, .val (.long q1), .second, .val (.long q2), .second, .val (.long q3), .second, .val (.long q4), .second, .val (.int p5), .unset, .unset, .unset, .unset, .unset, .unset] [(.int p5)])) _
    refine XS.bipush X0.here hx rfl (hb hby at_2) ?_
    show Steps p.tables e below (s₁.setTop (mkF m 4 #[.val (.long q0), .second, .val (.long q1), .second, .val (.long q2), .second, .val (.long q3), .second, .val (.long q4), .second, .val (.int p5), .unset, .unset, .unset, .unset, .unset, .unset] [(.int (7 : Int32)), (.int p5)])) _
    refine XS.iand X0.here hx rfl (hb hby at_4) rfl ?_
    show Steps p.tables e below (s₁.setTop (mkF m 5 #[.val (.long q0), .second, .val (.long q1), .second, .val (.long q2), .second, .val (.long q3), .second, .val (.long q4), .second, .val (.int p5), .unset, .unset, .unset, .unset, .unset, .unset] [(.int (p5 &&& (7 : Int32)))])) _
    refine XS.iconst X0.here hx rfl (hb hby at_5) ?_
    show Steps p.tables e below (s₁.setTop (mkF m 6 #[.val (.long q0), .second, .val (.long q1), .second, .val (.long q2), .second, .val (.long q3), .second, .val (.long q4), .second, .val (.int p5), .unset, .unset, .unset, .unset, .unset, .unset] [(.int (5 : Int32)), (.int (p5 &&& (7 : Int32)))])) _
    refine XS.irem X0.here hx rfl (hb hby at_6) rfl (by decide) ?_
    show Steps p.tables e below (s₁.setTop (mkF m 7 #[.val (.long q0), .second, .val (.long q1), .second, .val (.long q2), .second, .val (.long q3), .second, .val (.long q4), .second, .val (.int p5), .unset, .unset, .unset, .unset, .unset, .unset] [(.int ((p5 &&& (7 : Int32)) - ((p5 &&& (7 : Int32)) / (5 : Int32)) * (5 : Int32)))])) _
    exact k
  refine own_go (T' := s₁) (f' := (mkF m 7 #[.val (.long q0), .second, .val (.long q1), .second, .val (.long q2), .second, .val (.long q3), .second, .val (.long q4), .second, .val (.int p5), .unset, .unset, .unset, .unset, .unset, .unset] [(.int (own_N q0 q1 q2 q3 q4 p5))])) (fun t k => k) ?_
  refine own_go (T' := s₁) (f' := (mkF m 15 #[.val (.long q0), .second, .val (.long q1), .second, .val (.long q2), .second, .val (.long q3), .second, .val (.long q4), .second, .val (.int p5), .val (.int (own_N q0 q1 q2 q3 q4 p5)), .unset, .unset, .unset, .unset, .unset] [(.int ((own_shrI p5 (3 : Int32)) &&& (3 : Int32)))])) (fun t k => ?_) ?_
  · show Steps p.tables e below (s₁.setTop (mkF m 7 #[.val (.long q0), .second, .val (.long q1), .second, .val (.long q2), .second, .val (.long q3), .second, .val (.long q4), .second, .val (.int p5), .unset, .unset, .unset, .unset, .unset, .unset] [(.int (own_N q0 q1 q2 q3 q4 p5))])) _
    refine XS.istore X0.here hx rfl (hb hby at_7) rfl (l' := #[.val (.long q0), .second, .val (.long q1), .second, .val (.long q2), .second, .val (.long q3), .second, .val (.long q4), .second, .val (.int p5), .val (.int (own_N q0 q1 q2 q3 q4 p5)), .unset, .unset, .unset, .unset, .unset]) rfl ?_
    show Steps p.tables e below (s₁.setTop (mkF m 9 #[.val (.long q0), .second, .val (.long q1), .second, .val (.long q2), .second, .val (.long q3), .second, .val (.long q4), .second, .val (.int p5), .val (.int (own_N q0 q1 q2 q3 q4 p5)), .unset, .unset, .unset, .unset, .unset] [])) _
    refine XS.iload X0.here hx rfl (hb hby at_9) rfl ?_
    show Steps p.tables e below (s₁.setTop (mkF m 11 #[.val (.long q0), .second, .val (.long q1), .second, .val (.long q2), .second, .val (.long q3), .second, .val (.long q4), .second, .val (.int p5), .val (.int (own_N q0 q1 q2 q3 q4 p5)), .unset, .unset, .unset, .unset, .unset] [(.int p5)])) _
    refine XS.iconst X0.here hx rfl (hb hby at_11) ?_
    show Steps p.tables e below (s₁.setTop (mkF m 12 #[.val (.long q0), .second, .val (.long q1), .second, .val (.long q2), .second, .val (.long q3), .second, .val (.long q4), .second, .val (.int p5), .val (.int (own_N q0 q1 q2 q3 q4 p5)), .unset, .unset, .unset, .unset, .unset] [(.int (3 : Int32)), (.int p5)])) _
    refine XS.iushr X0.here hx rfl (hb hby at_12) rfl ?_
    show Steps p.tables e below (s₁.setTop (mkF m 13 #[.val (.long q0), .second, .val (.long q1), .second, .val (.long q2), .second, .val (.long q3), .second, .val (.long q4), .second, .val (.int p5), .val (.int (own_N q0 q1 q2 q3 q4 p5)), .unset, .unset, .unset, .unset, .unset] [(.int (own_shrI p5 (3 : Int32)))])) _
    refine XS.iconst X0.here hx rfl (hb hby at_13) ?_
    show Steps p.tables e below (s₁.setTop (mkF m 14 #[.val (.long q0), .second, .val (.long q1), .second, .val (.long q2), .second, .val (.long q3), .second, .val (.long q4), .second, .val (.int p5), .val (.int (own_N q0 q1 q2 q3 q4 p5)), .unset, .unset, .unset, .unset, .unset] [(.int (3 : Int32)), (.int (own_shrI p5 (3 : Int32)))])) _
    refine XS.iand X0.here hx rfl (hb hby at_14) rfl ?_
    show Steps p.tables e below (s₁.setTop (mkF m 15 #[.val (.long q0), .second, .val (.long q1), .second, .val (.long q2), .second, .val (.long q3), .second, .val (.long q4), .second, .val (.int p5), .val (.int (own_N q0 q1 q2 q3 q4 p5)), .unset, .unset, .unset, .unset, .unset] [(.int ((own_shrI p5 (3 : Int32)) &&& (3 : Int32)))])) _
    exact k
  refine own_go (T' := s₁) (f' := (mkF m 15 #[.val (.long q0), .second, .val (.long q1), .second, .val (.long q2), .second, .val (.long q3), .second, .val (.long q4), .second, .val (.int p5), .val (.int (own_N q0 q1 q2 q3 q4 p5)), .unset, .unset, .unset, .unset, .unset] [(.int (own_P q0 q1 q2 q3 q4 p5))])) (fun t k => k) ?_
  refine own_go (T' := s₁) (f' := (mkF m 17 #[.val (.long q0), .second, .val (.long q1), .second, .val (.long q2), .second, .val (.long q3), .second, .val (.long q4), .second, .val (.int p5), .val (.int (own_N q0 q1 q2 q3 q4 p5)), .val (.int (own_P q0 q1 q2 q3 q4 p5)), .unset, .unset, .unset, .unset] [])) (fun t k => ?_) ?_
  · show Steps p.tables e below (s₁.setTop (mkF m 15 #[.val (.long q0), .second, .val (.long q1), .second, .val (.long q2), .second, .val (.long q3), .second, .val (.long q4), .second, .val (.int p5), .val (.int (own_N q0 q1 q2 q3 q4 p5)), .unset, .unset, .unset, .unset, .unset] [(.int (own_P q0 q1 q2 q3 q4 p5))])) _
    refine XS.istore X0.here hx rfl (hb hby at_15) rfl (l' := #[.val (.long q0), .second, .val (.long q1), .second, .val (.long q2), .second, .val (.long q3), .second, .val (.long q4), .second, .val (.int p5), .val (.int (own_N q0 q1 q2 q3 q4 p5)), .val (.int (own_P q0 q1 q2 q3 q4 p5)), .unset, .unset, .unset, .unset]) rfl ?_
    show Steps p.tables e below (s₁.setTop (mkF m 17 #[.val (.long q0), .second, .val (.long q1), .second, .val (.long q2), .second, .val (.long q3), .second, .val (.long q4), .second, .val (.int p5), .val (.int (own_N q0 q1 q2 q3 q4 p5)), .val (.int (own_P q0 q1 q2 q3 q4 p5)), .unset, .unset, .unset, .unset] [])) _
    exact k
  obtain ⟨T1, h1, X1, e1, E1, A1, D1, -, st1⟩ := newO X0 hx hZ hown (hw _ (List.mem_of_getElem? (i := 0) rfl)) (hw _ (List.mem_of_getElem? (i := 1) rfl)) (hw _ (List.mem_of_getElem? (i := 2) rfl)) e0 (g := (mkF m 17 #[.val (.long q0), .second, .val (.long q1), .second, .val (.long q2), .second, .val (.long q3), .second, .val (.long q4), .second, .val (.int p5), .val (.int (own_N q0 q1 q2 q3 q4 p5)), .val (.int (own_P q0 q1 q2 q3 q4 p5)), .unset, .unset, .unset, .unset] [])) rfl (hb hby at_17) (by decide) (by decide)
  obtain ⟨b1, g1⟩ : ∃ z, z = h0.size := ⟨_, rfl⟩
  rw [← g1] at A1 D1 st1
  have g_b1 : n0 ≤ b1 := Nat.le_trans Z0 (Nat.le_of_eq g1.symm)
  refine own_go (T' := T1) (f' := (mkF m 20 #[.val (.long q0), .second, .val (.long q1), .second, .val (.long q2), .second, .val (.long q3), .second, .val (.long q4), .second, .val (.int p5), .val (.int (own_N q0 q1 q2 q3 q4 p5)), .val (.int (own_P q0 q1 q2 q3 q4 p5)), .unset, .unset, .unset, .unset] [(.ref b1)])) st1 ?_
  have Zs1 : n0 ≤ h1.size := Nat.le_trans Z0 E1.1
  have fc2 : Fld Z h1 b1 "com/example/lid_on_load/lidonload/limit/TimeRing" "times" "[J" .null := D1 (Or.inl (hw _ (List.mem_of_getElem? (i := 11) rfl))) (ty := (.array .long)) (by decide)
  have fc3 : Fld Z h1 b1 "com/example/lid_on_load/lidonload/limit/TimeRing" "size" "I" (.int (0 : Int32)) := D1 (Or.inl (hw _ (List.mem_of_getElem? (i := 19) rfl))) (ty := .int) (by decide)
  have fc4 : Fld Z h1 b1 "com/example/lid_on_load/lidonload/limit/TimeRing" "head" "I" (.int (0 : Int32)) := D1 (Or.inl (hw _ (List.mem_of_getElem? (i := 31) rfl))) (ty := .int) (by decide)
  refine own_go (T' := T1) (f' := (mkF m 22 #[.val (.long q0), .second, .val (.long q1), .second, .val (.long q2), .second, .val (.long q3), .second, .val (.long q4), .second, .val (.int p5), .val (.int (own_N q0 q1 q2 q3 q4 p5)), .val (.int (own_P q0 q1 q2 q3 q4 p5)), .unset, .unset, .unset, .unset] [(.int (4 : Int32)), (.ref b1), (.ref b1)])) (fun t k => ?_) ?_
  · show Steps p.tables e below (T1.setTop (mkF m 20 #[.val (.long q0), .second, .val (.long q1), .second, .val (.long q2), .second, .val (.long q3), .second, .val (.long q4), .second, .val (.int p5), .val (.int (own_N q0 q1 q2 q3 q4 p5)), .val (.int (own_P q0 q1 q2 q3 q4 p5)), .unset, .unset, .unset, .unset] [(.ref b1)])) _
    refine XS.dup X1.here hx rfl (hb hby at_20) rfl rfl ?_
    show Steps p.tables e below (T1.setTop (mkF m 21 #[.val (.long q0), .second, .val (.long q1), .second, .val (.long q2), .second, .val (.long q3), .second, .val (.long q4), .second, .val (.int p5), .val (.int (own_N q0 q1 q2 q3 q4 p5)), .val (.int (own_P q0 q1 q2 q3 q4 p5)), .unset, .unset, .unset, .unset] [(.ref b1), (.ref b1)])) _
    refine XS.iconst X1.here hx rfl (hb hby at_21) ?_
    show Steps p.tables e below (T1.setTop (mkF m 22 #[.val (.long q0), .second, .val (.long q1), .second, .val (.long q2), .second, .val (.long q3), .second, .val (.long q4), .second, .val (.int p5), .val (.int (own_N q0 q1 q2 q3 q4 p5)), .val (.int (own_P q0 q1 q2 q3 q4 p5)), .unset, .unset, .unset, .unset] [(.int (4 : Int32)), (.ref b1), (.ref b1)])) _
    exact k
  obtain ⟨_, _, ⟨T5, Lq5, kq5, nq5⟩, -, X5, ⟨Lc5, hQ5, lq5, yq5, zq5⟩, st5⟩ := X1.specialBack hx (y := (⟨"com/example/lid_on_load/lidonload/limit/TimeRing", "<init>", "(I)V"⟩ : MethodName)) rfl hown (mvT hZ (hw _ (List.mem_of_getElem? (i := 3) rfl))) (mvT hZ (hw _ (List.mem_of_getElem? (i := 4) rfl))) (mvT hZ (hw _ (List.mem_of_getElem? (i := 5) rfl))) (by decide) (backOf (W := 1) (own_rm1 l Z a0 hw [] b1 ((4 : Int32))  h1 n0 Zs1 A1 fc2 fc4 fc3 g_b1 (by decide) (by decide)) hZ (hw _ (List.mem_of_getElem? (i := 5) rfl)) (hw _ (List.mem_of_getElem? (i := 2) rfl)) (by decide) (by decide)) (g := (mkF m 22 #[.val (.long q0), .second, .val (.long q1), .second, .val (.long q2), .second, .val (.long q3), .second, .val (.long q4), .second, .val (.int p5), .val (.int (own_N q0 q1 q2 q3 q4 p5)), .val (.int (own_P q0 q1 q2 q3 q4 p5)), .unset, .unset, .unset, .unset] [(.int (4 : Int32)), (.ref b1), (.ref b1)])) rfl (by rw [hml]; rfl) (Steps.refl _) (a := b1) (argsL := [(.int (4 : Int32))]) (rest := [(.ref b1)]) (lenOf own_pd0 rfl) rfl (by show 2 * 0 + _ ≤ _; exact Nat.le_of_eq rfl) (hb hby at_22) (fun _ _ => ⟨rfl, e1, (by decide : 1 + 1 ≤ _), (by decide : 3 + 4 ≤ _)⟩)
  dsimp only [Pt.U, Pt.locs, Pt.cells, Pt.slots] at X5 lq5 yq5 zq5 st5 hQ5
  subst lq5 yq5 zq5
  obtain ⟨br_5, rfl, N5q, h5q, szr_br_5, p5_0, p5_1, p5_2, p5_3⟩ := hQ5
  have N5 := Fr.app N0 N5q
  have ne_b1_br_5 : b1 ≠ br_5 := Nat.ne_of_lt (Nat.lt_of_lt_of_le A1.lt szr_br_5)
  have g_br_5 : n0 ≤ br_5 := Nat.le_trans Zs1 szr_br_5
  have fc6 : Exa Z T5.heap b1 "com/example/lid_on_load/lidonload/limit/TimeRing" := A1.keep h5q
  have Zs5 : n0 ≤ T5.heap.size := Nat.le_trans Zs1 h5q.1
  refine own_go (T' := T5) (f' := (mkF m 25 #[.val (.long q0), .second, .val (.long q1), .second, .val (.long q2), .second, .val (.long q3), .second, .val (.long q4), .second, .val (.int p5), .val (.int (own_N q0 q1 q2 q3 q4 p5)), .val (.int (own_P q0 q1 q2 q3 q4 p5)), .unset, .unset, .unset, .unset] [(.ref b1)])) (fun t k => st5.trans k) ?_
  refine own_go (T' := T5) (f' := (mkF m 29 #[.val (.long q0), .second, .val (.long q1), .second, .val (.long q2), .second, .val (.long q3), .second, .val (.long q4), .second, .val (.int p5), .val (.int (own_N q0 q1 q2 q3 q4 p5)), .val (.int (own_P q0 q1 q2 q3 q4 p5)), .val (.ref b1), .unset, .unset, .unset] [(.int (own_P q0 q1 q2 q3 q4 p5))])) (fun t k => ?_) ?_
  · show Steps p.tables e below (T5.setTop (mkF m 25 #[.val (.long q0), .second, .val (.long q1), .second, .val (.long q2), .second, .val (.long q3), .second, .val (.long q4), .second, .val (.int p5), .val (.int (own_N q0 q1 q2 q3 q4 p5)), .val (.int (own_P q0 q1 q2 q3 q4 p5)), .unset, .unset, .unset, .unset] [(.ref b1)])) _
    refine XS.astore X5.here hx rfl (hb hby at_25) rfl rfl (l' := #[.val (.long q0), .second, .val (.long q1), .second, .val (.long q2), .second, .val (.long q3), .second, .val (.long q4), .second, .val (.int p5), .val (.int (own_N q0 q1 q2 q3 q4 p5)), .val (.int (own_P q0 q1 q2 q3 q4 p5)), .val (.ref b1), .unset, .unset, .unset]) rfl ?_
    show Steps p.tables e below (T5.setTop (mkF m 27 #[.val (.long q0), .second, .val (.long q1), .second, .val (.long q2), .second, .val (.long q3), .second, .val (.long q4), .second, .val (.int p5), .val (.int (own_N q0 q1 q2 q3 q4 p5)), .val (.int (own_P q0 q1 q2 q3 q4 p5)), .val (.ref b1), .unset, .unset, .unset] [])) _
    refine XS.iload X5.here hx rfl (hb hby at_27) rfl ?_
    show Steps p.tables e below (T5.setTop (mkF m 29 #[.val (.long q0), .second, .val (.long q1), .second, .val (.long q2), .second, .val (.long q3), .second, .val (.long q4), .second, .val (.int p5), .val (.int (own_N q0 q1 q2 q3 q4 p5)), .val (.int (own_P q0 q1 q2 q3 q4 p5)), .val (.ref b1), .unset, .unset, .unset] [(.int (own_P q0 q1 q2 q3 q4 p5))])) _
    exact k
  have hR29 : own_RS (own_P q0 q1 q2 q3 q4 p5) 0 (0 : Int32) (0 : Int32) (fun _ => 0) (fun _ => (-9223372036854775808 : Int64)) := own_RS.zero (by decide) rfl (own_P_rng q0 q1 q2 q3 q4 p5).1
  refine own_cut (T := T5) (P := fun T' => ∃ (h' : Heap) (lo' : List Loc) (sz_7 : Int32) (f_7 : Nat → Int64), Stand p l e room_1 s m #[(.long q0), (.long q1), (.long q2), (.long q3), (.long q4), (.int p5)] below meth c T' lo' 2 7 ∧ T'.heap = h' ∧ Fr n0 lo' ∧ n0 ≤ h'.size ∧ Exa Z h' b1 "com/example/lid_on_load/lidonload/limit/TimeRing" ∧ Fld Z h' b1 "com/example/lid_on_load/lidonload/limit/TimeRing" "times" "[J" (.ref br_5) ∧ Fld Z h' b1 "com/example/lid_on_load/lidonload/limit/TimeRing" "head" "I" (.int (0 : Int32)) ∧ Fld Z h' b1 "com/example/lid_on_load/lidonload/limit/TimeRing" "size" "I" (.int sz_7) ∧ own_ArJ Z h' br_5 .long (4 : Int32) f_7 ∧ own_RS (own_P q0 q1 q2 q3 q4 p5) 1 (0 : Int32) sz_7 f_7 (fun _ => (-9223372036854775808 : Int64))) (f' := (mkF m 41 #[.val (.long q0), .second, .val (.long q1), .second, .val (.long q2), .second, .val (.long q3), .second, .val (.long q4), .second, .val (.int p5), .val (.int (own_N q0 q1 q2 q3 q4 p5)), .val (.int (own_P q0 q1 q2 q3 q4 p5)), .val (.ref b1), .unset, .unset, .unset] [])) (fun hk => ?_) ?_
  · skip
    by_cases hc29_8 : (0 : Int32) < (own_P q0 q1 q2 q3 q4 p5)
    · skip
      refine own_go (T' := T5) (f' := (mkF m 38 #[.val (.long q0), .second, .val (.long q1), .second, .val (.long q2), .second, .val (.long q3), .second, .val (.long q4), .second, .val (.int p5), .val (.int (own_N q0 q1 q2 q3 q4 p5)), .val (.int (own_P q0 q1 q2 q3 q4 p5)), .val (.ref b1), .unset, .unset, .unset] [(.int (4 : Int32)), (.long (-9223372036854775808 : Int64)), (.ref b1)])) (fun t k => ?_) ?_
      · show Steps p.tables e below (T5.setTop (mkF m 29 #[.val (.long q0), .second, .val (.long q1), .second, .val (.long q2), .second, .val (.long q3), .second, .val (.long q4), .second, .val (.int p5), .val (.int (own_N q0 q1 q2 q3 q4 p5)), .val (.int (own_P q0 q1 q2 q3 q4 p5)), .val (.ref b1), .unset, .unset, .unset] [(.int (own_P q0 q1 q2 q3 q4 p5))])) _
        refine XS.ifNo X5.here hx rfl (hb hby at_29) rfl ((if0 _ _).trans (tlt hc29_8).2.2.2) ?_
        show Steps p.tables e below (T5.setTop (mkF m 32 #[.val (.long q0), .second, .val (.long q1), .second, .val (.long q2), .second, .val (.long q3), .second, .val (.long q4), .second, .val (.int p5), .val (.int (own_N q0 q1 q2 q3 q4 p5)), .val (.int (own_P q0 q1 q2 q3 q4 p5)), .val (.ref b1), .unset, .unset, .unset] [])) _
        refine XS.aload X5.here hx rfl (hb hby at_32) rfl rfl ?_
        show Steps p.tables e below (T5.setTop (mkF m 34 #[.val (.long q0), .second, .val (.long q1), .second, .val (.long q2), .second, .val (.long q3), .second, .val (.long q4), .second, .val (.int p5), .val (.int (own_N q0 q1 q2 q3 q4 p5)), .val (.int (own_P q0 q1 q2 q3 q4 p5)), .val (.ref b1), .unset, .unset, .unset] [(.ref b1)])) _
        refine X5.ldc2Long hx hown (mvT hZ (hw _ (List.mem_of_getElem? (i := 42) rfl))) (g := (mkF m 34 #[.val (.long q0), .second, .val (.long q1), .second, .val (.long q2), .second, .val (.long q3), .second, .val (.long q4), .second, .val (.int p5), .val (.int (own_N q0 q1 q2 q3 q4 p5)), .val (.int (own_P q0 q1 q2 q3 q4 p5)), .val (.ref b1), .unset, .unset, .unset] [(.ref b1)])) rfl (hb hby at_34) _ ?_
        show Steps p.tables e below (T5.setTop (mkF m 37 #[.val (.long q0), .second, .val (.long q1), .second, .val (.long q2), .second, .val (.long q3), .second, .val (.long q4), .second, .val (.int p5), .val (.int (own_N q0 q1 q2 q3 q4 p5)), .val (.int (own_P q0 q1 q2 q3 q4 p5)), .val (.ref b1), .unset, .unset, .unset] [(.long (-9223372036854775808 : Int64)), (.ref b1)])) _
        refine XS.iconst X5.here hx rfl (hb hby at_37) ?_
        show Steps p.tables e below (T5.setTop (mkF m 38 #[.val (.long q0), .second, .val (.long q1), .second, .val (.long q2), .second, .val (.long q3), .second, .val (.long q4), .second, .val (.int p5), .val (.int (own_N q0 q1 q2 q3 q4 p5)), .val (.int (own_P q0 q1 q2 q3 q4 p5)), .val (.ref b1), .unset, .unset, .unset] [(.int (4 : Int32)), (.long (-9223372036854775808 : Int64)), (.ref b1)])) _
        exact k
      obtain ⟨cq9, kq9, q9a, q9b, q9c⟩ := isOf hZ rfl fc6
      obtain ⟨_, _, ⟨T9, Lq9, kq9, nq9⟩, -, X9, ⟨Lc9, hQ9, lq9, yq9, zq9⟩, st9⟩ := X5.virtualBack hx (y := (⟨"com/example/lid_on_load/lidonload/limit/TimeRing", "add", "(JI)V"⟩ : MethodName)) (z := (⟨"com/example/lid_on_load/lidonload/limit/TimeRing", "add", "(JI)V"⟩ : MethodName)) hown (mvT hZ (hw _ (List.mem_of_getElem? (i := 25) rfl))) (mvT hZ (hw _ (List.mem_of_getElem? (i := 26) rfl))) (notFace_of_selects (args := #[]) (mvT hZ (hw _ (List.mem_of_getElem? (i := 28) rfl)))) (mvT hZ (hw _ (List.mem_of_getElem? (i := 28) rfl))) (mvT hZ (hw _ (List.mem_of_getElem? (i := 27) rfl))) (by decide) (backOf (W := 0) (own_rm4 l Z a0 hw [] b1 ((-9223372036854775808 : Int64)) ((4 : Int32)) br_5 ((0 : Int32)) ((0 : Int32)) ((fun _ => 0)) T5.heap n0 Zs5 fc6 p5_0 p5_1 p5_2 p5_3 g_b1 g_br_5 hR29.h0 hR29.h4 hR29.s0 (hR29.s4 (by decide)) (Ne.symm ne_b1_br_5)) hZ (hw _ (List.mem_of_getElem? (i := 29) rfl)) (hw _ (List.mem_of_getElem? (i := 2) rfl)) (by decide) (by decide)) q9a q9c (g := (mkF m 38 #[.val (.long q0), .second, .val (.long q1), .second, .val (.long q2), .second, .val (.long q3), .second, .val (.long q4), .second, .val (.int p5), .val (.int (own_N q0 q1 q2 q3 q4 p5)), .val (.int (own_P q0 q1 q2 q3 q4 p5)), .val (.ref b1), .unset, .unset, .unset] [(.int (4 : Int32)), (.long (-9223372036854775808 : Int64)), (.ref b1)])) rfl (by rw [hml]; rfl) (Steps.refl _) (argsL := [(.long (-9223372036854775808 : Int64)), (.int (4 : Int32))]) (rest := []) (lenOf own_pd1 rfl) rfl (by show 2 * 0 + _ ≤ _; exact Nat.le_of_eq rfl) (hb hby at_38) (fun _ _ => ⟨rfl, rfl, (by decide : 2 + 0 ≤ _), (by decide : 7 + 0 ≤ _)⟩)
      dsimp only [Pt.U, Pt.locs, Pt.cells, Pt.slots] at X9 lq9 yq9 zq9 st9 hQ9
      subst lq9 yq9 zq9
      obtain ⟨f'_9, rfl, N9q, h9q, p9_0, p9_1, p9_2, p9_3, r9_ad⟩ := hQ9
      have N9 := Fr.app N5 N9q
      have fc10 : Exa Z T9.heap b1 "com/example/lid_on_load/lidonload/limit/TimeRing" := fc6.keep h9q
      have Zs9 : n0 ≤ T9.heap.size := Nat.le_trans Zs5 h9q.1
      refine own_go (T' := T9) (f' := (mkF m 41 #[.val (.long q0), .second, .val (.long q1), .second, .val (.long q2), .second, .val (.long q3), .second, .val (.long q4), .second, .val (.int p5), .val (.int (own_N q0 q1 q2 q3 q4 p5)), .val (.int (own_P q0 q1 q2 q3 q4 p5)), .val (.ref b1), .unset, .unset, .unset] [])) (fun t k => st9.trans k) ?_
      exact hk _ ⟨_, _, ((0 : Int32) + (1 : Int32)), f'_9, X9, rfl, N9, Zs9, fc10, p9_0, p9_1, p9_2, p9_3, (hR29.yes (by decide) hc29_8 r9_ad rfl)⟩
    · skip
      refine own_go (T' := T5) (f' := (mkF m 41 #[.val (.long q0), .second, .val (.long q1), .second, .val (.long q2), .second, .val (.long q3), .second, .val (.long q4), .second, .val (.int p5), .val (.int (own_N q0 q1 q2 q3 q4 p5)), .val (.int (own_P q0 q1 q2 q3 q4 p5)), .val (.ref b1), .unset, .unset, .unset] [])) (fun t k => ?_) ?_
      · show Steps p.tables e below (T5.setTop (mkF m 29 #[.val (.long q0), .second, .val (.long q1), .second, .val (.long q2), .second, .val (.long q3), .second, .val (.long q4), .second, .val (.int p5), .val (.int (own_N q0 q1 q2 q3 q4 p5)), .val (.int (own_P q0 q1 q2 q3 q4 p5)), .val (.ref b1), .unset, .unset, .unset] [(.int (own_P q0 q1 q2 q3 q4 p5))])) _
        refine XS.ifYes X5.here hx rfl (pc0 := 29) (pc' := 41) rfl (hb hby at_29) rfl ((if0 _ _).trans (flt hc29_8).2.2.2) (by decide) (by decide) ?_
        show Steps p.tables e below (T5.setTop (mkF m 41 #[.val (.long q0), .second, .val (.long q1), .second, .val (.long q2), .second, .val (.long q3), .second, .val (.long q4), .second, .val (.int p5), .val (.int (own_N q0 q1 q2 q3 q4 p5)), .val (.int (own_P q0 q1 q2 q3 q4 p5)), .val (.ref b1), .unset, .unset, .unset] [])) _
        exact k
      exact hk _ ⟨_, _, (0 : Int32), (fun _ => 0), X5, rfl, N5, Zs5, fc6, p5_0, p5_1, p5_2, p5_3, (hR29.no hc29_8)⟩
  rintro T7 ⟨h7, lo7, sz_7, f_7, X7, e7, N7, Zs7, V7_0, V7_1, V7_2, V7_3, V7_4, sp7⟩
  refine own_go (T' := T7) (f' := (mkF m 44 #[.val (.long q0), .second, .val (.long q1), .second, .val (.long q2), .second, .val (.long q3), .second, .val (.long q4), .second, .val (.int p5), .val (.int (own_N q0 q1 q2 q3 q4 p5)), .val (.int (own_P q0 q1 q2 q3 q4 p5)), .val (.ref b1), .unset, .unset, .unset] [(.int (1 : Int32)), (.int (own_P q0 q1 q2 q3 q4 p5))])) (fun t k => ?_) ?_
  · show Steps p.tables e below (T7.setTop (mkF m 41 #[.val (.long q0), .second, .val (.long q1), .second, .val (.long q2), .second, .val (.long q3), .second, .val (.long q4), .second, .val (.int p5), .val (.int (own_N q0 q1 q2 q3 q4 p5)), .val (.int (own_P q0 q1 q2 q3 q4 p5)), .val (.ref b1), .unset, .unset, .unset] [])) _
    refine XS.iload X7.here hx rfl (hb hby at_41) rfl ?_
    show Steps p.tables e below (T7.setTop (mkF m 43 #[.val (.long q0), .second, .val (.long q1), .second, .val (.long q2), .second, .val (.long q3), .second, .val (.long q4), .second, .val (.int p5), .val (.int (own_N q0 q1 q2 q3 q4 p5)), .val (.int (own_P q0 q1 q2 q3 q4 p5)), .val (.ref b1), .unset, .unset, .unset] [(.int (own_P q0 q1 q2 q3 q4 p5))])) _
    refine XS.iconst X7.here hx rfl (hb hby at_43) ?_
    show Steps p.tables e below (T7.setTop (mkF m 44 #[.val (.long q0), .second, .val (.long q1), .second, .val (.long q2), .second, .val (.long q3), .second, .val (.long q4), .second, .val (.int p5), .val (.int (own_N q0 q1 q2 q3 q4 p5)), .val (.int (own_P q0 q1 q2 q3 q4 p5)), .val (.ref b1), .unset, .unset, .unset] [(.int (1 : Int32)), (.int (own_P q0 q1 q2 q3 q4 p5))])) _
    exact k
  refine own_cut (T := T7) (P := fun T' => ∃ (h' : Heap) (lo' : List Loc) (sz_11 : Int32) (f_11 : Nat → Int64), Stand p l e room_1 s m #[(.long q0), (.long q1), (.long q2), (.long q3), (.long q4), (.int p5)] below meth c T' lo' 2 7 ∧ T'.heap = h' ∧ Fr n0 lo' ∧ n0 ≤ h'.size ∧ Exa Z h' b1 "com/example/lid_on_load/lidonload/limit/TimeRing" ∧ Fld Z h' b1 "com/example/lid_on_load/lidonload/limit/TimeRing" "times" "[J" (.ref br_5) ∧ Fld Z h' b1 "com/example/lid_on_load/lidonload/limit/TimeRing" "head" "I" (.int (0 : Int32)) ∧ Fld Z h' b1 "com/example/lid_on_load/lidonload/limit/TimeRing" "size" "I" (.int sz_11) ∧ own_ArJ Z h' br_5 .long (4 : Int32) f_11 ∧ own_RS (own_P q0 q1 q2 q3 q4 p5) 2 (0 : Int32) sz_11 f_11 (fun _ => (-9223372036854775808 : Int64))) (f' := (mkF m 56 #[.val (.long q0), .second, .val (.long q1), .second, .val (.long q2), .second, .val (.long q3), .second, .val (.long q4), .second, .val (.int p5), .val (.int (own_N q0 q1 q2 q3 q4 p5)), .val (.int (own_P q0 q1 q2 q3 q4 p5)), .val (.ref b1), .unset, .unset, .unset] [])) (fun hk => ?_) ?_
  · skip
    by_cases hc44_12 : (1 : Int32) < (own_P q0 q1 q2 q3 q4 p5)
    · skip
      refine own_go (T' := T7) (f' := (mkF m 53 #[.val (.long q0), .second, .val (.long q1), .second, .val (.long q2), .second, .val (.long q3), .second, .val (.long q4), .second, .val (.int p5), .val (.int (own_N q0 q1 q2 q3 q4 p5)), .val (.int (own_P q0 q1 q2 q3 q4 p5)), .val (.ref b1), .unset, .unset, .unset] [(.int (4 : Int32)), (.long (-9223372036854775808 : Int64)), (.ref b1)])) (fun t k => ?_) ?_
      · show Steps p.tables e below (T7.setTop (mkF m 44 #[.val (.long q0), .second, .val (.long q1), .second, .val (.long q2), .second, .val (.long q3), .second, .val (.long q4), .second, .val (.int p5), .val (.int (own_N q0 q1 q2 q3 q4 p5)), .val (.int (own_P q0 q1 q2 q3 q4 p5)), .val (.ref b1), .unset, .unset, .unset] [(.int (1 : Int32)), (.int (own_P q0 q1 q2 q3 q4 p5))])) _
        refine XS.icmpNo X7.here hx rfl (hb hby at_44) rfl (tlt hc44_12).2.2.2 ?_
        show Steps p.tables e below (T7.setTop (mkF m 47 #[.val (.long q0), .second, .val (.long q1), .second, .val (.long q2), .second, .val (.long q3), .second, .val (.long q4), .second, .val (.int p5), .val (.int (own_N q0 q1 q2 q3 q4 p5)), .val (.int (own_P q0 q1 q2 q3 q4 p5)), .val (.ref b1), .unset, .unset, .unset] [])) _
        refine XS.aload X7.here hx rfl (hb hby at_47) rfl rfl ?_
        show Steps p.tables e below (T7.setTop (mkF m 49 #[.val (.long q0), .second, .val (.long q1), .second, .val (.long q2), .second, .val (.long q3), .second, .val (.long q4), .second, .val (.int p5), .val (.int (own_N q0 q1 q2 q3 q4 p5)), .val (.int (own_P q0 q1 q2 q3 q4 p5)), .val (.ref b1), .unset, .unset, .unset] [(.ref b1)])) _
        refine X7.ldc2Long hx hown (mvT hZ (hw _ (List.mem_of_getElem? (i := 42) rfl))) (g := (mkF m 49 #[.val (.long q0), .second, .val (.long q1), .second, .val (.long q2), .second, .val (.long q3), .second, .val (.long q4), .second, .val (.int p5), .val (.int (own_N q0 q1 q2 q3 q4 p5)), .val (.int (own_P q0 q1 q2 q3 q4 p5)), .val (.ref b1), .unset, .unset, .unset] [(.ref b1)])) rfl (hb hby at_49) _ ?_
        show Steps p.tables e below (T7.setTop (mkF m 52 #[.val (.long q0), .second, .val (.long q1), .second, .val (.long q2), .second, .val (.long q3), .second, .val (.long q4), .second, .val (.int p5), .val (.int (own_N q0 q1 q2 q3 q4 p5)), .val (.int (own_P q0 q1 q2 q3 q4 p5)), .val (.ref b1), .unset, .unset, .unset] [(.long (-9223372036854775808 : Int64)), (.ref b1)])) _
        refine XS.iconst X7.here hx rfl (hb hby at_52) ?_
        show Steps p.tables e below (T7.setTop (mkF m 53 #[.val (.long q0), .second, .val (.long q1), .second, .val (.long q2), .second, .val (.long q3), .second, .val (.long q4), .second, .val (.int p5), .val (.int (own_N q0 q1 q2 q3 q4 p5)), .val (.int (own_P q0 q1 q2 q3 q4 p5)), .val (.ref b1), .unset, .unset, .unset] [(.int (4 : Int32)), (.long (-9223372036854775808 : Int64)), (.ref b1)])) _
        exact k
      obtain ⟨cq13, kq13, q13a, q13b, q13c⟩ := isOf hZ e7 V7_0
      obtain ⟨_, _, ⟨T13, Lq13, kq13, nq13⟩, -, X13, ⟨Lc13, hQ13, lq13, yq13, zq13⟩, st13⟩ := X7.virtualBack hx (y := (⟨"com/example/lid_on_load/lidonload/limit/TimeRing", "add", "(JI)V"⟩ : MethodName)) (z := (⟨"com/example/lid_on_load/lidonload/limit/TimeRing", "add", "(JI)V"⟩ : MethodName)) hown (mvT hZ (hw _ (List.mem_of_getElem? (i := 25) rfl))) (mvT hZ (hw _ (List.mem_of_getElem? (i := 26) rfl))) (notFace_of_selects (args := #[]) (mvT hZ (hw _ (List.mem_of_getElem? (i := 28) rfl)))) (mvT hZ (hw _ (List.mem_of_getElem? (i := 28) rfl))) (mvT hZ (hw _ (List.mem_of_getElem? (i := 27) rfl))) (by decide) (backOf (W := 0) (own_rm4 l Z a0 hw [] b1 ((-9223372036854775808 : Int64)) ((4 : Int32)) br_5 ((0 : Int32)) sz_7 f_7 h7 n0 Zs7 V7_0 V7_1 V7_2 V7_3 V7_4 g_b1 g_br_5 sp7.h0 sp7.h4 sp7.s0 (sp7.s4 (by decide)) (Ne.symm ne_b1_br_5)) hZ (hw _ (List.mem_of_getElem? (i := 29) rfl)) (hw _ (List.mem_of_getElem? (i := 2) rfl)) (by decide) (by decide)) q13a q13c (g := (mkF m 53 #[.val (.long q0), .second, .val (.long q1), .second, .val (.long q2), .second, .val (.long q3), .second, .val (.long q4), .second, .val (.int p5), .val (.int (own_N q0 q1 q2 q3 q4 p5)), .val (.int (own_P q0 q1 q2 q3 q4 p5)), .val (.ref b1), .unset, .unset, .unset] [(.int (4 : Int32)), (.long (-9223372036854775808 : Int64)), (.ref b1)])) rfl (by rw [hml]; rfl) (Steps.refl _) (argsL := [(.long (-9223372036854775808 : Int64)), (.int (4 : Int32))]) (rest := []) (lenOf own_pd1 rfl) rfl (by show 2 * 0 + _ ≤ _; exact Nat.le_of_eq rfl) (hb hby at_53) (fun _ _ => ⟨rfl, e7, (by decide : 2 + 0 ≤ _), (by decide : 7 + 0 ≤ _)⟩)
      dsimp only [Pt.U, Pt.locs, Pt.cells, Pt.slots] at X13 lq13 yq13 zq13 st13 hQ13
      subst lq13 yq13 zq13
      obtain ⟨f'_13, rfl, N13q, h13q, p13_0, p13_1, p13_2, p13_3, r13_ad⟩ := hQ13
      have N13 := Fr.app N7 N13q
      have fc14 : Exa Z T13.heap b1 "com/example/lid_on_load/lidonload/limit/TimeRing" := V7_0.keep h13q
      have Zs13 : n0 ≤ T13.heap.size := Nat.le_trans Zs7 h13q.1
      refine own_go (T' := T13) (f' := (mkF m 56 #[.val (.long q0), .second, .val (.long q1), .second, .val (.long q2), .second, .val (.long q3), .second, .val (.long q4), .second, .val (.int p5), .val (.int (own_N q0 q1 q2 q3 q4 p5)), .val (.int (own_P q0 q1 q2 q3 q4 p5)), .val (.ref b1), .unset, .unset, .unset] [])) (fun t k => st13.trans k) ?_
      exact hk _ ⟨_, _, (sz_7 + (1 : Int32)), f'_13, X13, rfl, N13, Zs13, fc14, p13_0, p13_1, p13_2, p13_3, (sp7.yes (by decide) hc44_12 r13_ad rfl)⟩
    · skip
      refine own_go (T' := T7) (f' := (mkF m 56 #[.val (.long q0), .second, .val (.long q1), .second, .val (.long q2), .second, .val (.long q3), .second, .val (.long q4), .second, .val (.int p5), .val (.int (own_N q0 q1 q2 q3 q4 p5)), .val (.int (own_P q0 q1 q2 q3 q4 p5)), .val (.ref b1), .unset, .unset, .unset] [])) (fun t k => ?_) ?_
      · show Steps p.tables e below (T7.setTop (mkF m 44 #[.val (.long q0), .second, .val (.long q1), .second, .val (.long q2), .second, .val (.long q3), .second, .val (.long q4), .second, .val (.int p5), .val (.int (own_N q0 q1 q2 q3 q4 p5)), .val (.int (own_P q0 q1 q2 q3 q4 p5)), .val (.ref b1), .unset, .unset, .unset] [(.int (1 : Int32)), (.int (own_P q0 q1 q2 q3 q4 p5))])) _
        refine XS.icmpYes X7.here hx rfl (pc0 := 44) (pc' := 56) rfl (hb hby at_44) rfl (flt hc44_12).2.2.2 (by decide) (by decide) ?_
        show Steps p.tables e below (T7.setTop (mkF m 56 #[.val (.long q0), .second, .val (.long q1), .second, .val (.long q2), .second, .val (.long q3), .second, .val (.long q4), .second, .val (.int p5), .val (.int (own_N q0 q1 q2 q3 q4 p5)), .val (.int (own_P q0 q1 q2 q3 q4 p5)), .val (.ref b1), .unset, .unset, .unset] [])) _
        exact k
      exact hk _ ⟨_, _, sz_7, f_7, X7, e7, N7, Zs7, V7_0, V7_1, V7_2, V7_3, V7_4, (sp7.no hc44_12)⟩
  rintro T11 ⟨h11, lo11, sz_11, f_11, X11, e11, N11, Zs11, V11_0, V11_1, V11_2, V11_3, V11_4, sp11⟩
  refine own_go (T' := T11) (f' := (mkF m 59 #[.val (.long q0), .second, .val (.long q1), .second, .val (.long q2), .second, .val (.long q3), .second, .val (.long q4), .second, .val (.int p5), .val (.int (own_N q0 q1 q2 q3 q4 p5)), .val (.int (own_P q0 q1 q2 q3 q4 p5)), .val (.ref b1), .unset, .unset, .unset] [(.int (2 : Int32)), (.int (own_P q0 q1 q2 q3 q4 p5))])) (fun t k => ?_) ?_
  · show Steps p.tables e below (T11.setTop (mkF m 56 #[.val (.long q0), .second, .val (.long q1), .second, .val (.long q2), .second, .val (.long q3), .second, .val (.long q4), .second, .val (.int p5), .val (.int (own_N q0 q1 q2 q3 q4 p5)), .val (.int (own_P q0 q1 q2 q3 q4 p5)), .val (.ref b1), .unset, .unset, .unset] [])) _
    refine XS.iload X11.here hx rfl (hb hby at_56) rfl ?_
    show Steps p.tables e below (T11.setTop (mkF m 58 #[.val (.long q0), .second, .val (.long q1), .second, .val (.long q2), .second, .val (.long q3), .second, .val (.long q4), .second, .val (.int p5), .val (.int (own_N q0 q1 q2 q3 q4 p5)), .val (.int (own_P q0 q1 q2 q3 q4 p5)), .val (.ref b1), .unset, .unset, .unset] [(.int (own_P q0 q1 q2 q3 q4 p5))])) _
    refine XS.iconst X11.here hx rfl (hb hby at_58) ?_
    show Steps p.tables e below (T11.setTop (mkF m 59 #[.val (.long q0), .second, .val (.long q1), .second, .val (.long q2), .second, .val (.long q3), .second, .val (.long q4), .second, .val (.int p5), .val (.int (own_N q0 q1 q2 q3 q4 p5)), .val (.int (own_P q0 q1 q2 q3 q4 p5)), .val (.ref b1), .unset, .unset, .unset] [(.int (2 : Int32)), (.int (own_P q0 q1 q2 q3 q4 p5))])) _
    exact k
  refine own_cut (T := T11) (P := fun T' => ∃ (h' : Heap) (lo' : List Loc) (sz_15 : Int32) (f_15 : Nat → Int64), Stand p l e room_1 s m #[(.long q0), (.long q1), (.long q2), (.long q3), (.long q4), (.int p5)] below meth c T' lo' 2 7 ∧ T'.heap = h' ∧ Fr n0 lo' ∧ n0 ≤ h'.size ∧ Exa Z h' b1 "com/example/lid_on_load/lidonload/limit/TimeRing" ∧ Fld Z h' b1 "com/example/lid_on_load/lidonload/limit/TimeRing" "times" "[J" (.ref br_5) ∧ Fld Z h' b1 "com/example/lid_on_load/lidonload/limit/TimeRing" "head" "I" (.int (0 : Int32)) ∧ Fld Z h' b1 "com/example/lid_on_load/lidonload/limit/TimeRing" "size" "I" (.int sz_15) ∧ own_ArJ Z h' br_5 .long (4 : Int32) f_15 ∧ own_RS (own_P q0 q1 q2 q3 q4 p5) 3 (0 : Int32) sz_15 f_15 (fun _ => (-9223372036854775808 : Int64))) (f' := (mkF m 71 #[.val (.long q0), .second, .val (.long q1), .second, .val (.long q2), .second, .val (.long q3), .second, .val (.long q4), .second, .val (.int p5), .val (.int (own_N q0 q1 q2 q3 q4 p5)), .val (.int (own_P q0 q1 q2 q3 q4 p5)), .val (.ref b1), .unset, .unset, .unset] [])) (fun hk => ?_) ?_
  · skip
    by_cases hc59_16 : (2 : Int32) < (own_P q0 q1 q2 q3 q4 p5)
    · skip
      refine own_go (T' := T11) (f' := (mkF m 68 #[.val (.long q0), .second, .val (.long q1), .second, .val (.long q2), .second, .val (.long q3), .second, .val (.long q4), .second, .val (.int p5), .val (.int (own_N q0 q1 q2 q3 q4 p5)), .val (.int (own_P q0 q1 q2 q3 q4 p5)), .val (.ref b1), .unset, .unset, .unset] [(.int (4 : Int32)), (.long (-9223372036854775808 : Int64)), (.ref b1)])) (fun t k => ?_) ?_
      · show Steps p.tables e below (T11.setTop (mkF m 59 #[.val (.long q0), .second, .val (.long q1), .second, .val (.long q2), .second, .val (.long q3), .second, .val (.long q4), .second, .val (.int p5), .val (.int (own_N q0 q1 q2 q3 q4 p5)), .val (.int (own_P q0 q1 q2 q3 q4 p5)), .val (.ref b1), .unset, .unset, .unset] [(.int (2 : Int32)), (.int (own_P q0 q1 q2 q3 q4 p5))])) _
        refine XS.icmpNo X11.here hx rfl (hb hby at_59) rfl (tlt hc59_16).2.2.2 ?_
        show Steps p.tables e below (T11.setTop (mkF m 62 #[.val (.long q0), .second, .val (.long q1), .second, .val (.long q2), .second, .val (.long q3), .second, .val (.long q4), .second, .val (.int p5), .val (.int (own_N q0 q1 q2 q3 q4 p5)), .val (.int (own_P q0 q1 q2 q3 q4 p5)), .val (.ref b1), .unset, .unset, .unset] [])) _
        refine XS.aload X11.here hx rfl (hb hby at_62) rfl rfl ?_
        show Steps p.tables e below (T11.setTop (mkF m 64 #[.val (.long q0), .second, .val (.long q1), .second, .val (.long q2), .second, .val (.long q3), .second, .val (.long q4), .second, .val (.int p5), .val (.int (own_N q0 q1 q2 q3 q4 p5)), .val (.int (own_P q0 q1 q2 q3 q4 p5)), .val (.ref b1), .unset, .unset, .unset] [(.ref b1)])) _
        refine X11.ldc2Long hx hown (mvT hZ (hw _ (List.mem_of_getElem? (i := 42) rfl))) (g := (mkF m 64 #[.val (.long q0), .second, .val (.long q1), .second, .val (.long q2), .second, .val (.long q3), .second, .val (.long q4), .second, .val (.int p5), .val (.int (own_N q0 q1 q2 q3 q4 p5)), .val (.int (own_P q0 q1 q2 q3 q4 p5)), .val (.ref b1), .unset, .unset, .unset] [(.ref b1)])) rfl (hb hby at_64) _ ?_
        show Steps p.tables e below (T11.setTop (mkF m 67 #[.val (.long q0), .second, .val (.long q1), .second, .val (.long q2), .second, .val (.long q3), .second, .val (.long q4), .second, .val (.int p5), .val (.int (own_N q0 q1 q2 q3 q4 p5)), .val (.int (own_P q0 q1 q2 q3 q4 p5)), .val (.ref b1), .unset, .unset, .unset] [(.long (-9223372036854775808 : Int64)), (.ref b1)])) _
        refine XS.iconst X11.here hx rfl (hb hby at_67) ?_
        show Steps p.tables e below (T11.setTop (mkF m 68 #[.val (.long q0), .second, .val (.long q1), .second, .val (.long q2), .second, .val (.long q3), .second, .val (.long q4), .second, .val (.int p5), .val (.int (own_N q0 q1 q2 q3 q4 p5)), .val (.int (own_P q0 q1 q2 q3 q4 p5)), .val (.ref b1), .unset, .unset, .unset] [(.int (4 : Int32)), (.long (-9223372036854775808 : Int64)), (.ref b1)])) _
        exact k
      obtain ⟨cq17, kq17, q17a, q17b, q17c⟩ := isOf hZ e11 V11_0
      obtain ⟨_, _, ⟨T17, Lq17, kq17, nq17⟩, -, X17, ⟨Lc17, hQ17, lq17, yq17, zq17⟩, st17⟩ := X11.virtualBack hx (y := (⟨"com/example/lid_on_load/lidonload/limit/TimeRing", "add", "(JI)V"⟩ : MethodName)) (z := (⟨"com/example/lid_on_load/lidonload/limit/TimeRing", "add", "(JI)V"⟩ : MethodName)) hown (mvT hZ (hw _ (List.mem_of_getElem? (i := 25) rfl))) (mvT hZ (hw _ (List.mem_of_getElem? (i := 26) rfl))) (notFace_of_selects (args := #[]) (mvT hZ (hw _ (List.mem_of_getElem? (i := 28) rfl)))) (mvT hZ (hw _ (List.mem_of_getElem? (i := 28) rfl))) (mvT hZ (hw _ (List.mem_of_getElem? (i := 27) rfl))) (by decide) (backOf (W := 0) (own_rm4 l Z a0 hw [] b1 ((-9223372036854775808 : Int64)) ((4 : Int32)) br_5 ((0 : Int32)) sz_11 f_11 h11 n0 Zs11 V11_0 V11_1 V11_2 V11_3 V11_4 g_b1 g_br_5 sp11.h0 sp11.h4 sp11.s0 (sp11.s4 (by decide)) (Ne.symm ne_b1_br_5)) hZ (hw _ (List.mem_of_getElem? (i := 29) rfl)) (hw _ (List.mem_of_getElem? (i := 2) rfl)) (by decide) (by decide)) q17a q17c (g := (mkF m 68 #[.val (.long q0), .second, .val (.long q1), .second, .val (.long q2), .second, .val (.long q3), .second, .val (.long q4), .second, .val (.int p5), .val (.int (own_N q0 q1 q2 q3 q4 p5)), .val (.int (own_P q0 q1 q2 q3 q4 p5)), .val (.ref b1), .unset, .unset, .unset] [(.int (4 : Int32)), (.long (-9223372036854775808 : Int64)), (.ref b1)])) rfl (by rw [hml]; rfl) (Steps.refl _) (argsL := [(.long (-9223372036854775808 : Int64)), (.int (4 : Int32))]) (rest := []) (lenOf own_pd1 rfl) rfl (by show 2 * 0 + _ ≤ _; exact Nat.le_of_eq rfl) (hb hby at_68) (fun _ _ => ⟨rfl, e11, (by decide : 2 + 0 ≤ _), (by decide : 7 + 0 ≤ _)⟩)
      dsimp only [Pt.U, Pt.locs, Pt.cells, Pt.slots] at X17 lq17 yq17 zq17 st17 hQ17
      subst lq17 yq17 zq17
      obtain ⟨f'_17, rfl, N17q, h17q, p17_0, p17_1, p17_2, p17_3, r17_ad⟩ := hQ17
      have N17 := Fr.app N11 N17q
      have fc18 : Exa Z T17.heap b1 "com/example/lid_on_load/lidonload/limit/TimeRing" := V11_0.keep h17q
      have Zs17 : n0 ≤ T17.heap.size := Nat.le_trans Zs11 h17q.1
      refine own_go (T' := T17) (f' := (mkF m 71 #[.val (.long q0), .second, .val (.long q1), .second, .val (.long q2), .second, .val (.long q3), .second, .val (.long q4), .second, .val (.int p5), .val (.int (own_N q0 q1 q2 q3 q4 p5)), .val (.int (own_P q0 q1 q2 q3 q4 p5)), .val (.ref b1), .unset, .unset, .unset] [])) (fun t k => st17.trans k) ?_
      exact hk _ ⟨_, _, (sz_11 + (1 : Int32)), f'_17, X17, rfl, N17, Zs17, fc18, p17_0, p17_1, p17_2, p17_3, (sp11.yes (by decide) hc59_16 r17_ad rfl)⟩
    · skip
      refine own_go (T' := T11) (f' := (mkF m 71 #[.val (.long q0), .second, .val (.long q1), .second, .val (.long q2), .second, .val (.long q3), .second, .val (.long q4), .second, .val (.int p5), .val (.int (own_N q0 q1 q2 q3 q4 p5)), .val (.int (own_P q0 q1 q2 q3 q4 p5)), .val (.ref b1), .unset, .unset, .unset] [])) (fun t k => ?_) ?_
      · show Steps p.tables e below (T11.setTop (mkF m 59 #[.val (.long q0), .second, .val (.long q1), .second, .val (.long q2), .second, .val (.long q3), .second, .val (.long q4), .second, .val (.int p5), .val (.int (own_N q0 q1 q2 q3 q4 p5)), .val (.int (own_P q0 q1 q2 q3 q4 p5)), .val (.ref b1), .unset, .unset, .unset] [(.int (2 : Int32)), (.int (own_P q0 q1 q2 q3 q4 p5))])) _
        refine XS.icmpYes X11.here hx rfl (pc0 := 59) (pc' := 71) rfl (hb hby at_59) rfl (flt hc59_16).2.2.2 (by decide) (by decide) ?_
        show Steps p.tables e below (T11.setTop (mkF m 71 #[.val (.long q0), .second, .val (.long q1), .second, .val (.long q2), .second, .val (.long q3), .second, .val (.long q4), .second, .val (.int p5), .val (.int (own_N q0 q1 q2 q3 q4 p5)), .val (.int (own_P q0 q1 q2 q3 q4 p5)), .val (.ref b1), .unset, .unset, .unset] [])) _
        exact k
      exact hk _ ⟨_, _, sz_11, f_11, X11, e11, N11, Zs11, V11_0, V11_1, V11_2, V11_3, V11_4, (sp11.no hc59_16)⟩
  rintro T15 ⟨h15, lo15, sz_15, f_15, X15, e15, N15, Zs15, V15_0, V15_1, V15_2, V15_3, V15_4, sp15⟩
  refine own_go (T' := T15) (f' := (mkF m 76 #[.val (.long q0), .second, .val (.long q1), .second, .val (.long q2), .second, .val (.long q3), .second, .val (.long q4), .second, .val (.int p5), .val (.int (own_N q0 q1 q2 q3 q4 p5)), .val (.int (own_P q0 q1 q2 q3 q4 p5)), .val (.ref b1), .unset, .unset, .unset] [(.long (-9223372036854775807 : Int64)), (.ref b1)])) (fun t k => ?_) ?_
  · show Steps p.tables e below (T15.setTop (mkF m 71 #[.val (.long q0), .second, .val (.long q1), .second, .val (.long q2), .second, .val (.long q3), .second, .val (.long q4), .second, .val (.int p5), .val (.int (own_N q0 q1 q2 q3 q4 p5)), .val (.int (own_P q0 q1 q2 q3 q4 p5)), .val (.ref b1), .unset, .unset, .unset] [])) _
    refine XS.aload X15.here hx rfl (hb hby at_71) rfl rfl ?_
    show Steps p.tables e below (T15.setTop (mkF m 73 #[.val (.long q0), .second, .val (.long q1), .second, .val (.long q2), .second, .val (.long q3), .second, .val (.long q4), .second, .val (.int p5), .val (.int (own_N q0 q1 q2 q3 q4 p5)), .val (.int (own_P q0 q1 q2 q3 q4 p5)), .val (.ref b1), .unset, .unset, .unset] [(.ref b1)])) _
    refine X15.ldc2Long hx hown (mvT hZ (hw _ (List.mem_of_getElem? (i := 12) rfl))) (g := (mkF m 73 #[.val (.long q0), .second, .val (.long q1), .second, .val (.long q2), .second, .val (.long q3), .second, .val (.long q4), .second, .val (.int p5), .val (.int (own_N q0 q1 q2 q3 q4 p5)), .val (.int (own_P q0 q1 q2 q3 q4 p5)), .val (.ref b1), .unset, .unset, .unset] [(.ref b1)])) rfl (hb hby at_73) _ ?_
    show Steps p.tables e below (T15.setTop (mkF m 76 #[.val (.long q0), .second, .val (.long q1), .second, .val (.long q2), .second, .val (.long q3), .second, .val (.long q4), .second, .val (.int p5), .val (.int (own_N q0 q1 q2 q3 q4 p5)), .val (.int (own_P q0 q1 q2 q3 q4 p5)), .val (.ref b1), .unset, .unset, .unset] [(.long (-9223372036854775807 : Int64)), (.ref b1)])) _
    exact k
  obtain ⟨cq19, kq19, q19a, q19b, q19c⟩ := isOf hZ e15 V15_0
  obtain ⟨_, _, ⟨T19, Lq19, kq19, nq19⟩, -, X19, ⟨Lc19, hQ19, lq19, yq19, zq19⟩, st19⟩ := X15.virtualBack hx (y := (⟨"com/example/lid_on_load/lidonload/limit/TimeRing", "dropBefore", "(J)V"⟩ : MethodName)) (z := (⟨"com/example/lid_on_load/lidonload/limit/TimeRing", "dropBefore", "(J)V"⟩ : MethodName)) hown (mvT hZ (hw _ (List.mem_of_getElem? (i := 13) rfl))) (mvT hZ (hw _ (List.mem_of_getElem? (i := 14) rfl))) (notFace_of_selects (args := #[]) (mvT hZ (hw _ (List.mem_of_getElem? (i := 16) rfl)))) (mvT hZ (hw _ (List.mem_of_getElem? (i := 16) rfl))) (mvT hZ (hw _ (List.mem_of_getElem? (i := 15) rfl))) (by decide) (backOf (W := 0) (own_rm2 l Z a0 hw [] b1 ((-9223372036854775807 : Int64)) br_5 ((0 : Int32)) sz_15 f_15 h15 n0 Zs15 V15_0 V15_1 V15_2 V15_3 V15_4 g_b1 sp15.h0 sp15.h4 sp15.s0 (Ne.symm ne_b1_br_5)) hZ (hw _ (List.mem_of_getElem? (i := 17) rfl)) (hw _ (List.mem_of_getElem? (i := 2) rfl)) (by decide) (by decide)) q19a q19c (g := (mkF m 76 #[.val (.long q0), .second, .val (.long q1), .second, .val (.long q2), .second, .val (.long q3), .second, .val (.long q4), .second, .val (.int p5), .val (.int (own_N q0 q1 q2 q3 q4 p5)), .val (.int (own_P q0 q1 q2 q3 q4 p5)), .val (.ref b1), .unset, .unset, .unset] [(.long (-9223372036854775807 : Int64)), (.ref b1)])) rfl (by rw [hml]; rfl) (Steps.refl _) (argsL := [(.long (-9223372036854775807 : Int64))]) (rest := []) (lenOf own_pd2 rfl) rfl (by show 2 * 0 + _ ≤ _; exact Nat.le_of_eq rfl) (hb hby at_76) (fun _ _ => ⟨rfl, e15, (by decide : 2 + 0 ≤ _), (by decide : 7 + 0 ≤ _)⟩)
  dsimp only [Pt.U, Pt.locs, Pt.cells, Pt.slots] at X19 lq19 yq19 zq19 st19 hQ19
  subst lq19 yq19 zq19
  obtain ⟨hd'_19, sz'_19, rfl, N19q, h19q, p19_0, p19_1, p19_2, r19_db⟩ := hQ19
  have N19 := Fr.app N15 N19q
  have fc20 : Exa Z T19.heap b1 "com/example/lid_on_load/lidonload/limit/TimeRing" := V15_0.keep h19q
  have fc21 : own_ArJ Z T19.heap br_5 .long (4 : Int32) f_15 := V15_4.keep h19q (ninS (Ne.symm ne_b1_br_5) nin0)
  have Zs19 : n0 ≤ T19.heap.size := Nat.le_trans Zs15 h19q.1
  refine own_go (T' := T19) (f' := (mkF m 79 #[.val (.long q0), .second, .val (.long q1), .second, .val (.long q2), .second, .val (.long q3), .second, .val (.long q4), .second, .val (.int p5), .val (.int (own_N q0 q1 q2 q3 q4 p5)), .val (.int (own_P q0 q1 q2 q3 q4 p5)), .val (.ref b1), .unset, .unset, .unset] [])) (fun t k => st19.trans k) ?_
  have hD := own_drop1 q0 q1 q2 q3 q4 p5 sp15 r19_db
  refine own_go (T' := T19) (f' := (mkF m 81 #[.val (.long q0), .second, .val (.long q1), .second, .val (.long q2), .second, .val (.long q3), .second, .val (.long q4), .second, .val (.int p5), .val (.int (own_N q0 q1 q2 q3 q4 p5)), .val (.int (own_P q0 q1 q2 q3 q4 p5)), .val (.ref b1), .unset, .unset, .unset] [(.ref b1)])) (fun t k => ?_) ?_
  · show Steps p.tables e below (T19.setTop (mkF m 79 #[.val (.long q0), .second, .val (.long q1), .second, .val (.long q2), .second, .val (.long q3), .second, .val (.long q4), .second, .val (.int p5), .val (.int (own_N q0 q1 q2 q3 q4 p5)), .val (.int (own_P q0 q1 q2 q3 q4 p5)), .val (.ref b1), .unset, .unset, .unset] [])) _
    refine XS.aload X19.here hx rfl (hb hby at_79) rfl rfl ?_
    show Steps p.tables e below (T19.setTop (mkF m 81 #[.val (.long q0), .second, .val (.long q1), .second, .val (.long q2), .second, .val (.long q3), .second, .val (.long q4), .second, .val (.int p5), .val (.int (own_N q0 q1 q2 q3 q4 p5)), .val (.int (own_P q0 q1 q2 q3 q4 p5)), .val (.ref b1), .unset, .unset, .unset] [(.ref b1)])) _
    exact k
  obtain ⟨cq22, kq22, q22a, q22b, q22c⟩ := isOf hZ rfl fc20
  obtain ⟨_, _, ⟨T22, Lq22, kq22, nq22⟩, -, X22, ⟨Lc22, hQ22, lq22, yq22, zq22⟩, st22⟩ := X19.virtualBack hx (y := (⟨"com/example/lid_on_load/lidonload/limit/TimeRing", "size", "()I"⟩ : MethodName)) (z := (⟨"com/example/lid_on_load/lidonload/limit/TimeRing", "size", "()I"⟩ : MethodName)) hown (mvT hZ (hw _ (List.mem_of_getElem? (i := 20) rfl))) (mvT hZ (hw _ (List.mem_of_getElem? (i := 21) rfl))) (notFace_of_selects (args := #[]) (mvT hZ (hw _ (List.mem_of_getElem? (i := 23) rfl)))) (mvT hZ (hw _ (List.mem_of_getElem? (i := 23) rfl))) (mvT hZ (hw _ (List.mem_of_getElem? (i := 22) rfl))) (by decide) (backOf (W := 0) (own_rm3 l Z a0 hw [] b1 (sz'_19) T19.heap n0 Zs19 p19_2) hZ (hw _ (List.mem_of_getElem? (i := 24) rfl)) (hw _ (List.mem_of_getElem? (i := 2) rfl)) (by decide) (by decide)) q22a q22c (g := (mkF m 81 #[.val (.long q0), .second, .val (.long q1), .second, .val (.long q2), .second, .val (.long q3), .second, .val (.long q4), .second, .val (.int p5), .val (.int (own_N q0 q1 q2 q3 q4 p5)), .val (.int (own_P q0 q1 q2 q3 q4 p5)), .val (.ref b1), .unset, .unset, .unset] [(.ref b1)])) rfl (by rw [hml]; rfl) (Steps.refl _) (argsL := []) (rest := []) (lenOf own_pd3 rfl) rfl (by show 2 * 0 + _ ≤ _; exact Nat.le_of_eq rfl) (hb hby at_81) (fun _ _ => ⟨rfl, rfl, (by decide : 2 + 0 ≤ _), (by decide : 7 + 0 ≤ _)⟩)
  dsimp only [Pt.U, Pt.locs, Pt.cells, Pt.slots] at X22 lq22 yq22 zq22 st22 hQ22
  subst lq22 yq22 zq22
  obtain ⟨rfl, N22q, h22q⟩ := hQ22
  have N22 := Fr.app N19 N22q
  refine own_go (T' := T22) (f' := (mkF m 84 #[.val (.long q0), .second, .val (.long q1), .second, .val (.long q2), .second, .val (.long q3), .second, .val (.long q4), .second, .val (.int p5), .val (.int (own_N q0 q1 q2 q3 q4 p5)), .val (.int (own_P q0 q1 q2 q3 q4 p5)), .val (.ref b1), .unset, .unset, .unset] [(.int sz'_19)])) (fun t k => st22.trans k) ?_
  refine own_go (T' := T22) (f' := (mkF m 91 #[.val (.long q0), .second, .val (.long q1), .second, .val (.long q2), .second, .val (.long q3), .second, .val (.long q4), .second, .val (.int p5), .val (.int (own_N q0 q1 q2 q3 q4 p5)), .val (.int (own_P q0 q1 q2 q3 q4 p5)), .val (.ref b1), .unset, .unset, .unset] [(.int (own_N q0 q1 q2 q3 q4 p5))])) (fun t k => ?_) ?_
  · show Steps p.tables e below (T22.setTop (mkF m 84 #[.val (.long q0), .second, .val (.long q1), .second, .val (.long q2), .second, .val (.long q3), .second, .val (.long q4), .second, .val (.int p5), .val (.int (own_N q0 q1 q2 q3 q4 p5)), .val (.int (own_P q0 q1 q2 q3 q4 p5)), .val (.ref b1), .unset, .unset, .unset] [(.int sz'_19)])) _
    refine XS.ifYes X22.here hx rfl (pc0 := 84) (pc' := 89) rfl (hb hby at_84) rfl ((if0 _ _).trans (teq hD.1).1) (by decide) (by decide) ?_
    show Steps p.tables e below (T22.setTop (mkF m 89 #[.val (.long q0), .second, .val (.long q1), .second, .val (.long q2), .second, .val (.long q3), .second, .val (.long q4), .second, .val (.int p5), .val (.int (own_N q0 q1 q2 q3 q4 p5)), .val (.int (own_P q0 q1 q2 q3 q4 p5)), .val (.ref b1), .unset, .unset, .unset] [])) _
    refine XS.iload X22.here hx rfl (hb hby at_89) rfl ?_
    show Steps p.tables e below (T22.setTop (mkF m 91 #[.val (.long q0), .second, .val (.long q1), .second, .val (.long q2), .second, .val (.long q3), .second, .val (.long q4), .second, .val (.int p5), .val (.int (own_N q0 q1 q2 q3 q4 p5)), .val (.int (own_P q0 q1 q2 q3 q4 p5)), .val (.ref b1), .unset, .unset, .unset] [(.int (own_N q0 q1 q2 q3 q4 p5))])) _
    exact k
  have hR91 : own_RS (own_N q0 q1 q2 q3 q4 p5) 0 hd'_19 sz'_19 f_15 (own_g q0 q1 q2 q3 q4 p5) := own_RS.zero hD.2 hD.1 (own_N_rng q0 q1 q2 q3 q4 p5).1
  refine own_cut (T := T22) (P := fun T' => ∃ (h' : Heap) (lo' : List Loc) (sz_23 : Int32) (f_23 : Nat → Int64), Stand p l e room_1 s m #[(.long q0), (.long q1), (.long q2), (.long q3), (.long q4), (.int p5)] below meth c T' lo' 2 7 ∧ T'.heap = h' ∧ Fr n0 lo' ∧ n0 ≤ h'.size ∧ Exa Z h' b1 "com/example/lid_on_load/lidonload/limit/TimeRing" ∧ Fld Z h' b1 "com/example/lid_on_load/lidonload/limit/TimeRing" "times" "[J" (.ref br_5) ∧ Fld Z h' b1 "com/example/lid_on_load/lidonload/limit/TimeRing" "head" "I" (.int hd'_19) ∧ Fld Z h' b1 "com/example/lid_on_load/lidonload/limit/TimeRing" "size" "I" (.int sz_23) ∧ own_ArJ Z h' br_5 .long (4 : Int32) f_23 ∧ own_RS (own_N q0 q1 q2 q3 q4 p5) 1 hd'_19 sz_23 f_23 (own_g q0 q1 q2 q3 q4 p5)) (f' := (mkF m 101 #[.val (.long q0), .second, .val (.long q1), .second, .val (.long q2), .second, .val (.long q3), .second, .val (.long q4), .second, .val (.int p5), .val (.int (own_N q0 q1 q2 q3 q4 p5)), .val (.int (own_P q0 q1 q2 q3 q4 p5)), .val (.ref b1), .unset, .unset, .unset] [])) (fun hk => ?_) ?_
  · skip
    by_cases hc91_24 : (0 : Int32) < (own_N q0 q1 q2 q3 q4 p5)
    · skip
      refine own_go (T' := T22) (f' := (mkF m 98 #[.val (.long q0), .second, .val (.long q1), .second, .val (.long q2), .second, .val (.long q3), .second, .val (.long q4), .second, .val (.int p5), .val (.int (own_N q0 q1 q2 q3 q4 p5)), .val (.int (own_P q0 q1 q2 q3 q4 p5)), .val (.ref b1), .unset, .unset, .unset] [(.int (4 : Int32)), (.long q0), (.ref b1)])) (fun t k => ?_) ?_
      · show Steps p.tables e below (T22.setTop (mkF m 91 #[.val (.long q0), .second, .val (.long q1), .second, .val (.long q2), .second, .val (.long q3), .second, .val (.long q4), .second, .val (.int p5), .val (.int (own_N q0 q1 q2 q3 q4 p5)), .val (.int (own_P q0 q1 q2 q3 q4 p5)), .val (.ref b1), .unset, .unset, .unset] [(.int (own_N q0 q1 q2 q3 q4 p5))])) _
        refine XS.ifNo X22.here hx rfl (hb hby at_91) rfl ((if0 _ _).trans (tlt hc91_24).2.2.2) ?_
        show Steps p.tables e below (T22.setTop (mkF m 94 #[.val (.long q0), .second, .val (.long q1), .second, .val (.long q2), .second, .val (.long q3), .second, .val (.long q4), .second, .val (.int p5), .val (.int (own_N q0 q1 q2 q3 q4 p5)), .val (.int (own_P q0 q1 q2 q3 q4 p5)), .val (.ref b1), .unset, .unset, .unset] [])) _
        refine XS.aload X22.here hx rfl (hb hby at_94) rfl rfl ?_
        show Steps p.tables e below (T22.setTop (mkF m 96 #[.val (.long q0), .second, .val (.long q1), .second, .val (.long q2), .second, .val (.long q3), .second, .val (.long q4), .second, .val (.int p5), .val (.int (own_N q0 q1 q2 q3 q4 p5)), .val (.int (own_P q0 q1 q2 q3 q4 p5)), .val (.ref b1), .unset, .unset, .unset] [(.ref b1)])) _
        refine XS.lloadN X22.here hx rfl (hb hby at_96) rfl ?_
        show Steps p.tables e below (T22.setTop (mkF m 97 #[.val (.long q0), .second, .val (.long q1), .second, .val (.long q2), .second, .val (.long q3), .second, .val (.long q4), .second, .val (.int p5), .val (.int (own_N q0 q1 q2 q3 q4 p5)), .val (.int (own_P q0 q1 q2 q3 q4 p5)), .val (.ref b1), .unset, .unset, .unset] [(.long q0), (.ref b1)])) _
        refine XS.iconst X22.here hx rfl (hb hby at_97) ?_
        show Steps p.tables e below (T22.setTop (mkF m 98 #[.val (.long q0), .second, .val (.long q1), .second, .val (.long q2), .second, .val (.long q3), .second, .val (.long q4), .second, .val (.int p5), .val (.int (own_N q0 q1 q2 q3 q4 p5)), .val (.int (own_P q0 q1 q2 q3 q4 p5)), .val (.ref b1), .unset, .unset, .unset] [(.int (4 : Int32)), (.long q0), (.ref b1)])) _
        exact k
      obtain ⟨cq25, kq25, q25a, q25b, q25c⟩ := isOf hZ h22q fc20
      obtain ⟨_, _, ⟨T25, Lq25, kq25, nq25⟩, -, X25, ⟨Lc25, hQ25, lq25, yq25, zq25⟩, st25⟩ := X22.virtualBack hx (y := (⟨"com/example/lid_on_load/lidonload/limit/TimeRing", "add", "(JI)V"⟩ : MethodName)) (z := (⟨"com/example/lid_on_load/lidonload/limit/TimeRing", "add", "(JI)V"⟩ : MethodName)) hown (mvT hZ (hw _ (List.mem_of_getElem? (i := 25) rfl))) (mvT hZ (hw _ (List.mem_of_getElem? (i := 26) rfl))) (notFace_of_selects (args := #[]) (mvT hZ (hw _ (List.mem_of_getElem? (i := 28) rfl)))) (mvT hZ (hw _ (List.mem_of_getElem? (i := 28) rfl))) (mvT hZ (hw _ (List.mem_of_getElem? (i := 27) rfl))) (by decide) (backOf (W := 0) (own_rm4 l Z a0 hw [] b1 q0 ((4 : Int32)) br_5 (hd'_19) (sz'_19) f_15 T19.heap n0 Zs19 fc20 p19_0 p19_1 p19_2 fc21 g_b1 g_br_5 hR91.h0 hR91.h4 hR91.s0 (hR91.s4 (by decide)) (Ne.symm ne_b1_br_5)) hZ (hw _ (List.mem_of_getElem? (i := 29) rfl)) (hw _ (List.mem_of_getElem? (i := 2) rfl)) (by decide) (by decide)) q25a q25c (g := (mkF m 98 #[.val (.long q0), .second, .val (.long q1), .second, .val (.long q2), .second, .val (.long q3), .second, .val (.long q4), .second, .val (.int p5), .val (.int (own_N q0 q1 q2 q3 q4 p5)), .val (.int (own_P q0 q1 q2 q3 q4 p5)), .val (.ref b1), .unset, .unset, .unset] [(.int (4 : Int32)), (.long q0), (.ref b1)])) rfl (by rw [hml]; rfl) (Steps.refl _) (argsL := [(.long q0), (.int (4 : Int32))]) (rest := []) (lenOf own_pd1 rfl) rfl (by show 2 * 0 + _ ≤ _; exact Nat.le_of_eq rfl) (hb hby at_98) (fun _ _ => ⟨rfl, h22q, (by decide : 2 + 0 ≤ _), (by decide : 7 + 0 ≤ _)⟩)
      dsimp only [Pt.U, Pt.locs, Pt.cells, Pt.slots] at X25 lq25 yq25 zq25 st25 hQ25
      subst lq25 yq25 zq25
      obtain ⟨f'_25, rfl, N25q, h25q, p25_0, p25_1, p25_2, p25_3, r25_ad⟩ := hQ25
      have N25 := Fr.app N22 N25q
      have fc26 : Exa Z T25.heap b1 "com/example/lid_on_load/lidonload/limit/TimeRing" := fc20.keep h25q
      have Zs25 : n0 ≤ T25.heap.size := Nat.le_trans Zs19 h25q.1
      refine own_go (T' := T25) (f' := (mkF m 101 #[.val (.long q0), .second, .val (.long q1), .second, .val (.long q2), .second, .val (.long q3), .second, .val (.long q4), .second, .val (.int p5), .val (.int (own_N q0 q1 q2 q3 q4 p5)), .val (.int (own_P q0 q1 q2 q3 q4 p5)), .val (.ref b1), .unset, .unset, .unset] [])) (fun t k => st25.trans k) ?_
      exact hk _ ⟨_, _, (sz'_19 + (1 : Int32)), f'_25, X25, rfl, N25, Zs25, fc26, p25_0, p25_1, p25_2, p25_3, (hR91.yes (by decide) hc91_24 r25_ad rfl)⟩
    · skip
      refine own_go (T' := T22) (f' := (mkF m 101 #[.val (.long q0), .second, .val (.long q1), .second, .val (.long q2), .second, .val (.long q3), .second, .val (.long q4), .second, .val (.int p5), .val (.int (own_N q0 q1 q2 q3 q4 p5)), .val (.int (own_P q0 q1 q2 q3 q4 p5)), .val (.ref b1), .unset, .unset, .unset] [])) (fun t k => ?_) ?_
      · show Steps p.tables e below (T22.setTop (mkF m 91 #[.val (.long q0), .second, .val (.long q1), .second, .val (.long q2), .second, .val (.long q3), .second, .val (.long q4), .second, .val (.int p5), .val (.int (own_N q0 q1 q2 q3 q4 p5)), .val (.int (own_P q0 q1 q2 q3 q4 p5)), .val (.ref b1), .unset, .unset, .unset] [(.int (own_N q0 q1 q2 q3 q4 p5))])) _
        refine XS.ifYes X22.here hx rfl (pc0 := 91) (pc' := 101) rfl (hb hby at_91) rfl ((if0 _ _).trans (flt hc91_24).2.2.2) (by decide) (by decide) ?_
        show Steps p.tables e below (T22.setTop (mkF m 101 #[.val (.long q0), .second, .val (.long q1), .second, .val (.long q2), .second, .val (.long q3), .second, .val (.long q4), .second, .val (.int p5), .val (.int (own_N q0 q1 q2 q3 q4 p5)), .val (.int (own_P q0 q1 q2 q3 q4 p5)), .val (.ref b1), .unset, .unset, .unset] [])) _
        exact k
      exact hk _ ⟨_, _, sz'_19, f_15, X22, h22q, N22, Zs19, fc20, p19_0, p19_1, p19_2, fc21, (hR91.no hc91_24)⟩
  rintro T23 ⟨h23, lo23, sz_23, f_23, X23, e23, N23, Zs23, V23_0, V23_1, V23_2, V23_3, V23_4, sp23⟩
  refine own_go (T' := T23) (f' := (mkF m 104 #[.val (.long q0), .second, .val (.long q1), .second, .val (.long q2), .second, .val (.long q3), .second, .val (.long q4), .second, .val (.int p5), .val (.int (own_N q0 q1 q2 q3 q4 p5)), .val (.int (own_P q0 q1 q2 q3 q4 p5)), .val (.ref b1), .unset, .unset, .unset] [(.int (1 : Int32)), (.int (own_N q0 q1 q2 q3 q4 p5))])) (fun t k => ?_) ?_
  · show Steps p.tables e below (T23.setTop (mkF m 101 #[.val (.long q0), .second, .val (.long q1), .second, .val (.long q2), .second, .val (.long q3), .second, .val (.long q4), .second, .val (.int p5), .val (.int (own_N q0 q1 q2 q3 q4 p5)), .val (.int (own_P q0 q1 q2 q3 q4 p5)), .val (.ref b1), .unset, .unset, .unset] [])) _
    refine XS.iload X23.here hx rfl (hb hby at_101) rfl ?_
    show Steps p.tables e below (T23.setTop (mkF m 103 #[.val (.long q0), .second, .val (.long q1), .second, .val (.long q2), .second, .val (.long q3), .second, .val (.long q4), .second, .val (.int p5), .val (.int (own_N q0 q1 q2 q3 q4 p5)), .val (.int (own_P q0 q1 q2 q3 q4 p5)), .val (.ref b1), .unset, .unset, .unset] [(.int (own_N q0 q1 q2 q3 q4 p5))])) _
    refine XS.iconst X23.here hx rfl (hb hby at_103) ?_
    show Steps p.tables e below (T23.setTop (mkF m 104 #[.val (.long q0), .second, .val (.long q1), .second, .val (.long q2), .second, .val (.long q3), .second, .val (.long q4), .second, .val (.int p5), .val (.int (own_N q0 q1 q2 q3 q4 p5)), .val (.int (own_P q0 q1 q2 q3 q4 p5)), .val (.ref b1), .unset, .unset, .unset] [(.int (1 : Int32)), (.int (own_N q0 q1 q2 q3 q4 p5))])) _
    exact k
  refine own_cut (T := T23) (P := fun T' => ∃ (h' : Heap) (lo' : List Loc) (sz_27 : Int32) (f_27 : Nat → Int64), Stand p l e room_1 s m #[(.long q0), (.long q1), (.long q2), (.long q3), (.long q4), (.int p5)] below meth c T' lo' 2 7 ∧ T'.heap = h' ∧ Fr n0 lo' ∧ n0 ≤ h'.size ∧ Exa Z h' b1 "com/example/lid_on_load/lidonload/limit/TimeRing" ∧ Fld Z h' b1 "com/example/lid_on_load/lidonload/limit/TimeRing" "times" "[J" (.ref br_5) ∧ Fld Z h' b1 "com/example/lid_on_load/lidonload/limit/TimeRing" "head" "I" (.int hd'_19) ∧ Fld Z h' b1 "com/example/lid_on_load/lidonload/limit/TimeRing" "size" "I" (.int sz_27) ∧ own_ArJ Z h' br_5 .long (4 : Int32) f_27 ∧ own_RS (own_N q0 q1 q2 q3 q4 p5) 2 hd'_19 sz_27 f_27 (own_g q0 q1 q2 q3 q4 p5)) (f' := (mkF m 114 #[.val (.long q0), .second, .val (.long q1), .second, .val (.long q2), .second, .val (.long q3), .second, .val (.long q4), .second, .val (.int p5), .val (.int (own_N q0 q1 q2 q3 q4 p5)), .val (.int (own_P q0 q1 q2 q3 q4 p5)), .val (.ref b1), .unset, .unset, .unset] [])) (fun hk => ?_) ?_
  · skip
    by_cases hc104_28 : (1 : Int32) < (own_N q0 q1 q2 q3 q4 p5)
    · skip
      refine own_go (T' := T23) (f' := (mkF m 111 #[.val (.long q0), .second, .val (.long q1), .second, .val (.long q2), .second, .val (.long q3), .second, .val (.long q4), .second, .val (.int p5), .val (.int (own_N q0 q1 q2 q3 q4 p5)), .val (.int (own_P q0 q1 q2 q3 q4 p5)), .val (.ref b1), .unset, .unset, .unset] [(.int (4 : Int32)), (.long q1), (.ref b1)])) (fun t k => ?_) ?_
      · show Steps p.tables e below (T23.setTop (mkF m 104 #[.val (.long q0), .second, .val (.long q1), .second, .val (.long q2), .second, .val (.long q3), .second, .val (.long q4), .second, .val (.int p5), .val (.int (own_N q0 q1 q2 q3 q4 p5)), .val (.int (own_P q0 q1 q2 q3 q4 p5)), .val (.ref b1), .unset, .unset, .unset] [(.int (1 : Int32)), (.int (own_N q0 q1 q2 q3 q4 p5))])) _
        refine XS.icmpNo X23.here hx rfl (hb hby at_104) rfl (tlt hc104_28).2.2.2 ?_
        show Steps p.tables e below (T23.setTop (mkF m 107 #[.val (.long q0), .second, .val (.long q1), .second, .val (.long q2), .second, .val (.long q3), .second, .val (.long q4), .second, .val (.int p5), .val (.int (own_N q0 q1 q2 q3 q4 p5)), .val (.int (own_P q0 q1 q2 q3 q4 p5)), .val (.ref b1), .unset, .unset, .unset] [])) _
        refine XS.aload X23.here hx rfl (hb hby at_107) rfl rfl ?_
        show Steps p.tables e below (T23.setTop (mkF m 109 #[.val (.long q0), .second, .val (.long q1), .second, .val (.long q2), .second, .val (.long q3), .second, .val (.long q4), .second, .val (.int p5), .val (.int (own_N q0 q1 q2 q3 q4 p5)), .val (.int (own_P q0 q1 q2 q3 q4 p5)), .val (.ref b1), .unset, .unset, .unset] [(.ref b1)])) _
        refine XS.lloadN X23.here hx rfl (hb hby at_109) rfl ?_
        show Steps p.tables e below (T23.setTop (mkF m 110 #[.val (.long q0), .second, .val (.long q1), .second, .val (.long q2), .second, .val (.long q3), .second, .val (.long q4), .second, .val (.int p5), .val (.int (own_N q0 q1 q2 q3 q4 p5)), .val (.int (own_P q0 q1 q2 q3 q4 p5)), .val (.ref b1), .unset, .unset, .unset] [(.long q1), (.ref b1)])) _
        refine XS.iconst X23.here hx rfl (hb hby at_110) ?_
        show Steps p.tables e below (T23.setTop (mkF m 111 #[.val (.long q0), .second, .val (.long q1), .second, .val (.long q2), .second, .val (.long q3), .second, .val (.long q4), .second, .val (.int p5), .val (.int (own_N q0 q1 q2 q3 q4 p5)), .val (.int (own_P q0 q1 q2 q3 q4 p5)), .val (.ref b1), .unset, .unset, .unset] [(.int (4 : Int32)), (.long q1), (.ref b1)])) _
        exact k
      obtain ⟨cq29, kq29, q29a, q29b, q29c⟩ := isOf hZ e23 V23_0
      obtain ⟨_, _, ⟨T29, Lq29, kq29, nq29⟩, -, X29, ⟨Lc29, hQ29, lq29, yq29, zq29⟩, st29⟩ := X23.virtualBack hx (y := (⟨"com/example/lid_on_load/lidonload/limit/TimeRing", "add", "(JI)V"⟩ : MethodName)) (z := (⟨"com/example/lid_on_load/lidonload/limit/TimeRing", "add", "(JI)V"⟩ : MethodName)) hown (mvT hZ (hw _ (List.mem_of_getElem? (i := 25) rfl))) (mvT hZ (hw _ (List.mem_of_getElem? (i := 26) rfl))) (notFace_of_selects (args := #[]) (mvT hZ (hw _ (List.mem_of_getElem? (i := 28) rfl)))) (mvT hZ (hw _ (List.mem_of_getElem? (i := 28) rfl))) (mvT hZ (hw _ (List.mem_of_getElem? (i := 27) rfl))) (by decide) (backOf (W := 0) (own_rm4 l Z a0 hw [] b1 q1 ((4 : Int32)) br_5 (hd'_19) sz_23 f_23 h23 n0 Zs23 V23_0 V23_1 V23_2 V23_3 V23_4 g_b1 g_br_5 sp23.h0 sp23.h4 sp23.s0 (sp23.s4 (by decide)) (Ne.symm ne_b1_br_5)) hZ (hw _ (List.mem_of_getElem? (i := 29) rfl)) (hw _ (List.mem_of_getElem? (i := 2) rfl)) (by decide) (by decide)) q29a q29c (g := (mkF m 111 #[.val (.long q0), .second, .val (.long q1), .second, .val (.long q2), .second, .val (.long q3), .second, .val (.long q4), .second, .val (.int p5), .val (.int (own_N q0 q1 q2 q3 q4 p5)), .val (.int (own_P q0 q1 q2 q3 q4 p5)), .val (.ref b1), .unset, .unset, .unset] [(.int (4 : Int32)), (.long q1), (.ref b1)])) rfl (by rw [hml]; rfl) (Steps.refl _) (argsL := [(.long q1), (.int (4 : Int32))]) (rest := []) (lenOf own_pd1 rfl) rfl (by show 2 * 0 + _ ≤ _; exact Nat.le_of_eq rfl) (hb hby at_111) (fun _ _ => ⟨rfl, e23, (by decide : 2 + 0 ≤ _), (by decide : 7 + 0 ≤ _)⟩)
      dsimp only [Pt.U, Pt.locs, Pt.cells, Pt.slots] at X29 lq29 yq29 zq29 st29 hQ29
      subst lq29 yq29 zq29
      obtain ⟨f'_29, rfl, N29q, h29q, p29_0, p29_1, p29_2, p29_3, r29_ad⟩ := hQ29
      have N29 := Fr.app N23 N29q
      have fc30 : Exa Z T29.heap b1 "com/example/lid_on_load/lidonload/limit/TimeRing" := V23_0.keep h29q
      have Zs29 : n0 ≤ T29.heap.size := Nat.le_trans Zs23 h29q.1
      refine own_go (T' := T29) (f' := (mkF m 114 #[.val (.long q0), .second, .val (.long q1), .second, .val (.long q2), .second, .val (.long q3), .second, .val (.long q4), .second, .val (.int p5), .val (.int (own_N q0 q1 q2 q3 q4 p5)), .val (.int (own_P q0 q1 q2 q3 q4 p5)), .val (.ref b1), .unset, .unset, .unset] [])) (fun t k => st29.trans k) ?_
      exact hk _ ⟨_, _, (sz_23 + (1 : Int32)), f'_29, X29, rfl, N29, Zs29, fc30, p29_0, p29_1, p29_2, p29_3, (sp23.yes (by decide) hc104_28 r29_ad rfl)⟩
    · skip
      refine own_go (T' := T23) (f' := (mkF m 114 #[.val (.long q0), .second, .val (.long q1), .second, .val (.long q2), .second, .val (.long q3), .second, .val (.long q4), .second, .val (.int p5), .val (.int (own_N q0 q1 q2 q3 q4 p5)), .val (.int (own_P q0 q1 q2 q3 q4 p5)), .val (.ref b1), .unset, .unset, .unset] [])) (fun t k => ?_) ?_
      · show Steps p.tables e below (T23.setTop (mkF m 104 #[.val (.long q0), .second, .val (.long q1), .second, .val (.long q2), .second, .val (.long q3), .second, .val (.long q4), .second, .val (.int p5), .val (.int (own_N q0 q1 q2 q3 q4 p5)), .val (.int (own_P q0 q1 q2 q3 q4 p5)), .val (.ref b1), .unset, .unset, .unset] [(.int (1 : Int32)), (.int (own_N q0 q1 q2 q3 q4 p5))])) _
        refine XS.icmpYes X23.here hx rfl (pc0 := 104) (pc' := 114) rfl (hb hby at_104) rfl (flt hc104_28).2.2.2 (by decide) (by decide) ?_
        show Steps p.tables e below (T23.setTop (mkF m 114 #[.val (.long q0), .second, .val (.long q1), .second, .val (.long q2), .second, .val (.long q3), .second, .val (.long q4), .second, .val (.int p5), .val (.int (own_N q0 q1 q2 q3 q4 p5)), .val (.int (own_P q0 q1 q2 q3 q4 p5)), .val (.ref b1), .unset, .unset, .unset] [])) _
        exact k
      exact hk _ ⟨_, _, sz_23, f_23, X23, e23, N23, Zs23, V23_0, V23_1, V23_2, V23_3, V23_4, (sp23.no hc104_28)⟩
  rintro T27 ⟨h27, lo27, sz_27, f_27, X27, e27, N27, Zs27, V27_0, V27_1, V27_2, V27_3, V27_4, sp27⟩
  refine own_go (T' := T27) (f' := (mkF m 117 #[.val (.long q0), .second, .val (.long q1), .second, .val (.long q2), .second, .val (.long q3), .second, .val (.long q4), .second, .val (.int p5), .val (.int (own_N q0 q1 q2 q3 q4 p5)), .val (.int (own_P q0 q1 q2 q3 q4 p5)), .val (.ref b1), .unset, .unset, .unset] [(.int (2 : Int32)), (.int (own_N q0 q1 q2 q3 q4 p5))])) (fun t k => ?_) ?_
  · show Steps p.tables e below (T27.setTop (mkF m 114 #[.val (.long q0), .second, .val (.long q1), .second, .val (.long q2), .second, .val (.long q3), .second, .val (.long q4), .second, .val (.int p5), .val (.int (own_N q0 q1 q2 q3 q4 p5)), .val (.int (own_P q0 q1 q2 q3 q4 p5)), .val (.ref b1), .unset, .unset, .unset] [])) _
    refine XS.iload X27.here hx rfl (hb hby at_114) rfl ?_
    show Steps p.tables e below (T27.setTop (mkF m 116 #[.val (.long q0), .second, .val (.long q1), .second, .val (.long q2), .second, .val (.long q3), .second, .val (.long q4), .second, .val (.int p5), .val (.int (own_N q0 q1 q2 q3 q4 p5)), .val (.int (own_P q0 q1 q2 q3 q4 p5)), .val (.ref b1), .unset, .unset, .unset] [(.int (own_N q0 q1 q2 q3 q4 p5))])) _
    refine XS.iconst X27.here hx rfl (hb hby at_116) ?_
    show Steps p.tables e below (T27.setTop (mkF m 117 #[.val (.long q0), .second, .val (.long q1), .second, .val (.long q2), .second, .val (.long q3), .second, .val (.long q4), .second, .val (.int p5), .val (.int (own_N q0 q1 q2 q3 q4 p5)), .val (.int (own_P q0 q1 q2 q3 q4 p5)), .val (.ref b1), .unset, .unset, .unset] [(.int (2 : Int32)), (.int (own_N q0 q1 q2 q3 q4 p5))])) _
    exact k
  refine own_cut (T := T27) (P := fun T' => ∃ (h' : Heap) (lo' : List Loc) (sz_31 : Int32) (f_31 : Nat → Int64), Stand p l e room_1 s m #[(.long q0), (.long q1), (.long q2), (.long q3), (.long q4), (.int p5)] below meth c T' lo' 2 7 ∧ T'.heap = h' ∧ Fr n0 lo' ∧ n0 ≤ h'.size ∧ Exa Z h' b1 "com/example/lid_on_load/lidonload/limit/TimeRing" ∧ Fld Z h' b1 "com/example/lid_on_load/lidonload/limit/TimeRing" "times" "[J" (.ref br_5) ∧ Fld Z h' b1 "com/example/lid_on_load/lidonload/limit/TimeRing" "head" "I" (.int hd'_19) ∧ Fld Z h' b1 "com/example/lid_on_load/lidonload/limit/TimeRing" "size" "I" (.int sz_31) ∧ own_ArJ Z h' br_5 .long (4 : Int32) f_31 ∧ own_RS (own_N q0 q1 q2 q3 q4 p5) 3 hd'_19 sz_31 f_31 (own_g q0 q1 q2 q3 q4 p5)) (f' := (mkF m 128 #[.val (.long q0), .second, .val (.long q1), .second, .val (.long q2), .second, .val (.long q3), .second, .val (.long q4), .second, .val (.int p5), .val (.int (own_N q0 q1 q2 q3 q4 p5)), .val (.int (own_P q0 q1 q2 q3 q4 p5)), .val (.ref b1), .unset, .unset, .unset] [])) (fun hk => ?_) ?_
  · skip
    by_cases hc117_32 : (2 : Int32) < (own_N q0 q1 q2 q3 q4 p5)
    · skip
      refine own_go (T' := T27) (f' := (mkF m 125 #[.val (.long q0), .second, .val (.long q1), .second, .val (.long q2), .second, .val (.long q3), .second, .val (.long q4), .second, .val (.int p5), .val (.int (own_N q0 q1 q2 q3 q4 p5)), .val (.int (own_P q0 q1 q2 q3 q4 p5)), .val (.ref b1), .unset, .unset, .unset] [(.int (4 : Int32)), (.long q2), (.ref b1)])) (fun t k => ?_) ?_
      · show Steps p.tables e below (T27.setTop (mkF m 117 #[.val (.long q0), .second, .val (.long q1), .second, .val (.long q2), .second, .val (.long q3), .second, .val (.long q4), .second, .val (.int p5), .val (.int (own_N q0 q1 q2 q3 q4 p5)), .val (.int (own_P q0 q1 q2 q3 q4 p5)), .val (.ref b1), .unset, .unset, .unset] [(.int (2 : Int32)), (.int (own_N q0 q1 q2 q3 q4 p5))])) _
        refine XS.icmpNo X27.here hx rfl (hb hby at_117) rfl (tlt hc117_32).2.2.2 ?_
        show Steps p.tables e below (T27.setTop (mkF m 120 #[.val (.long q0), .second, .val (.long q1), .second, .val (.long q2), .second, .val (.long q3), .second, .val (.long q4), .second, .val (.int p5), .val (.int (own_N q0 q1 q2 q3 q4 p5)), .val (.int (own_P q0 q1 q2 q3 q4 p5)), .val (.ref b1), .unset, .unset, .unset] [])) _
        refine XS.aload X27.here hx rfl (hb hby at_120) rfl rfl ?_
        show Steps p.tables e below (T27.setTop (mkF m 122 #[.val (.long q0), .second, .val (.long q1), .second, .val (.long q2), .second, .val (.long q3), .second, .val (.long q4), .second, .val (.int p5), .val (.int (own_N q0 q1 q2 q3 q4 p5)), .val (.int (own_P q0 q1 q2 q3 q4 p5)), .val (.ref b1), .unset, .unset, .unset] [(.ref b1)])) _
        refine XS.lload X27.here hx rfl (hb hby at_122) rfl ?_
        show Steps p.tables e below (T27.setTop (mkF m 124 #[.val (.long q0), .second, .val (.long q1), .second, .val (.long q2), .second, .val (.long q3), .second, .val (.long q4), .second, .val (.int p5), .val (.int (own_N q0 q1 q2 q3 q4 p5)), .val (.int (own_P q0 q1 q2 q3 q4 p5)), .val (.ref b1), .unset, .unset, .unset] [(.long q2), (.ref b1)])) _
        refine XS.iconst X27.here hx rfl (hb hby at_124) ?_
        show Steps p.tables e below (T27.setTop (mkF m 125 #[.val (.long q0), .second, .val (.long q1), .second, .val (.long q2), .second, .val (.long q3), .second, .val (.long q4), .second, .val (.int p5), .val (.int (own_N q0 q1 q2 q3 q4 p5)), .val (.int (own_P q0 q1 q2 q3 q4 p5)), .val (.ref b1), .unset, .unset, .unset] [(.int (4 : Int32)), (.long q2), (.ref b1)])) _
        exact k
      obtain ⟨cq33, kq33, q33a, q33b, q33c⟩ := isOf hZ e27 V27_0
      obtain ⟨_, _, ⟨T33, Lq33, kq33, nq33⟩, -, X33, ⟨Lc33, hQ33, lq33, yq33, zq33⟩, st33⟩ := X27.virtualBack hx (y := (⟨"com/example/lid_on_load/lidonload/limit/TimeRing", "add", "(JI)V"⟩ : MethodName)) (z := (⟨"com/example/lid_on_load/lidonload/limit/TimeRing", "add", "(JI)V"⟩ : MethodName)) hown (mvT hZ (hw _ (List.mem_of_getElem? (i := 25) rfl))) (mvT hZ (hw _ (List.mem_of_getElem? (i := 26) rfl))) (notFace_of_selects (args := #[]) (mvT hZ (hw _ (List.mem_of_getElem? (i := 28) rfl)))) (mvT hZ (hw _ (List.mem_of_getElem? (i := 28) rfl))) (mvT hZ (hw _ (List.mem_of_getElem? (i := 27) rfl))) (by decide) (backOf (W := 0) (own_rm4 l Z a0 hw [] b1 q2 ((4 : Int32)) br_5 (hd'_19) sz_27 f_27 h27 n0 Zs27 V27_0 V27_1 V27_2 V27_3 V27_4 g_b1 g_br_5 sp27.h0 sp27.h4 sp27.s0 (sp27.s4 (by decide)) (Ne.symm ne_b1_br_5)) hZ (hw _ (List.mem_of_getElem? (i := 29) rfl)) (hw _ (List.mem_of_getElem? (i := 2) rfl)) (by decide) (by decide)) q33a q33c (g := (mkF m 125 #[.val (.long q0), .second, .val (.long q1), .second, .val (.long q2), .second, .val (.long q3), .second, .val (.long q4), .second, .val (.int p5), .val (.int (own_N q0 q1 q2 q3 q4 p5)), .val (.int (own_P q0 q1 q2 q3 q4 p5)), .val (.ref b1), .unset, .unset, .unset] [(.int (4 : Int32)), (.long q2), (.ref b1)])) rfl (by rw [hml]; rfl) (Steps.refl _) (argsL := [(.long q2), (.int (4 : Int32))]) (rest := []) (lenOf own_pd1 rfl) rfl (by show 2 * 0 + _ ≤ _; exact Nat.le_of_eq rfl) (hb hby at_125) (fun _ _ => ⟨rfl, e27, (by decide : 2 + 0 ≤ _), (by decide : 7 + 0 ≤ _)⟩)
      dsimp only [Pt.U, Pt.locs, Pt.cells, Pt.slots] at X33 lq33 yq33 zq33 st33 hQ33
      subst lq33 yq33 zq33
      obtain ⟨f'_33, rfl, N33q, h33q, p33_0, p33_1, p33_2, p33_3, r33_ad⟩ := hQ33
      have N33 := Fr.app N27 N33q
      have fc34 : Exa Z T33.heap b1 "com/example/lid_on_load/lidonload/limit/TimeRing" := V27_0.keep h33q
      have Zs33 : n0 ≤ T33.heap.size := Nat.le_trans Zs27 h33q.1
      refine own_go (T' := T33) (f' := (mkF m 128 #[.val (.long q0), .second, .val (.long q1), .second, .val (.long q2), .second, .val (.long q3), .second, .val (.long q4), .second, .val (.int p5), .val (.int (own_N q0 q1 q2 q3 q4 p5)), .val (.int (own_P q0 q1 q2 q3 q4 p5)), .val (.ref b1), .unset, .unset, .unset] [])) (fun t k => st33.trans k) ?_
      exact hk _ ⟨_, _, (sz_27 + (1 : Int32)), f'_33, X33, rfl, N33, Zs33, fc34, p33_0, p33_1, p33_2, p33_3, (sp27.yes (by decide) hc117_32 r33_ad rfl)⟩
    · skip
      refine own_go (T' := T27) (f' := (mkF m 128 #[.val (.long q0), .second, .val (.long q1), .second, .val (.long q2), .second, .val (.long q3), .second, .val (.long q4), .second, .val (.int p5), .val (.int (own_N q0 q1 q2 q3 q4 p5)), .val (.int (own_P q0 q1 q2 q3 q4 p5)), .val (.ref b1), .unset, .unset, .unset] [])) (fun t k => ?_) ?_
      · show Steps p.tables e below (T27.setTop (mkF m 117 #[.val (.long q0), .second, .val (.long q1), .second, .val (.long q2), .second, .val (.long q3), .second, .val (.long q4), .second, .val (.int p5), .val (.int (own_N q0 q1 q2 q3 q4 p5)), .val (.int (own_P q0 q1 q2 q3 q4 p5)), .val (.ref b1), .unset, .unset, .unset] [(.int (2 : Int32)), (.int (own_N q0 q1 q2 q3 q4 p5))])) _
        refine XS.icmpYes X27.here hx rfl (pc0 := 117) (pc' := 128) rfl (hb hby at_117) rfl (flt hc117_32).2.2.2 (by decide) (by decide) ?_
        show Steps p.tables e below (T27.setTop (mkF m 128 #[.val (.long q0), .second, .val (.long q1), .second, .val (.long q2), .second, .val (.long q3), .second, .val (.long q4), .second, .val (.int p5), .val (.int (own_N q0 q1 q2 q3 q4 p5)), .val (.int (own_P q0 q1 q2 q3 q4 p5)), .val (.ref b1), .unset, .unset, .unset] [])) _
        exact k
      exact hk _ ⟨_, _, sz_27, f_27, X27, e27, N27, Zs27, V27_0, V27_1, V27_2, V27_3, V27_4, (sp27.no hc117_32)⟩
  rintro T31 ⟨h31, lo31, sz_31, f_31, X31, e31, N31, Zs31, V31_0, V31_1, V31_2, V31_3, V31_4, sp31⟩
  refine own_go (T' := T31) (f' := (mkF m 131 #[.val (.long q0), .second, .val (.long q1), .second, .val (.long q2), .second, .val (.long q3), .second, .val (.long q4), .second, .val (.int p5), .val (.int (own_N q0 q1 q2 q3 q4 p5)), .val (.int (own_P q0 q1 q2 q3 q4 p5)), .val (.ref b1), .unset, .unset, .unset] [(.int (3 : Int32)), (.int (own_N q0 q1 q2 q3 q4 p5))])) (fun t k => ?_) ?_
  · show Steps p.tables e below (T31.setTop (mkF m 128 #[.val (.long q0), .second, .val (.long q1), .second, .val (.long q2), .second, .val (.long q3), .second, .val (.long q4), .second, .val (.int p5), .val (.int (own_N q0 q1 q2 q3 q4 p5)), .val (.int (own_P q0 q1 q2 q3 q4 p5)), .val (.ref b1), .unset, .unset, .unset] [])) _
    refine XS.iload X31.here hx rfl (hb hby at_128) rfl ?_
    show Steps p.tables e below (T31.setTop (mkF m 130 #[.val (.long q0), .second, .val (.long q1), .second, .val (.long q2), .second, .val (.long q3), .second, .val (.long q4), .second, .val (.int p5), .val (.int (own_N q0 q1 q2 q3 q4 p5)), .val (.int (own_P q0 q1 q2 q3 q4 p5)), .val (.ref b1), .unset, .unset, .unset] [(.int (own_N q0 q1 q2 q3 q4 p5))])) _
    refine XS.iconst X31.here hx rfl (hb hby at_130) ?_
    show Steps p.tables e below (T31.setTop (mkF m 131 #[.val (.long q0), .second, .val (.long q1), .second, .val (.long q2), .second, .val (.long q3), .second, .val (.long q4), .second, .val (.int p5), .val (.int (own_N q0 q1 q2 q3 q4 p5)), .val (.int (own_P q0 q1 q2 q3 q4 p5)), .val (.ref b1), .unset, .unset, .unset] [(.int (3 : Int32)), (.int (own_N q0 q1 q2 q3 q4 p5))])) _
    exact k
  refine own_cut (T := T31) (P := fun T' => ∃ (h' : Heap) (lo' : List Loc) (sz_35 : Int32) (f_35 : Nat → Int64), Stand p l e room_1 s m #[(.long q0), (.long q1), (.long q2), (.long q3), (.long q4), (.int p5)] below meth c T' lo' 2 7 ∧ T'.heap = h' ∧ Fr n0 lo' ∧ n0 ≤ h'.size ∧ Exa Z h' b1 "com/example/lid_on_load/lidonload/limit/TimeRing" ∧ Fld Z h' b1 "com/example/lid_on_load/lidonload/limit/TimeRing" "times" "[J" (.ref br_5) ∧ Fld Z h' b1 "com/example/lid_on_load/lidonload/limit/TimeRing" "head" "I" (.int hd'_19) ∧ Fld Z h' b1 "com/example/lid_on_load/lidonload/limit/TimeRing" "size" "I" (.int sz_35) ∧ own_ArJ Z h' br_5 .long (4 : Int32) f_35 ∧ own_RS (own_N q0 q1 q2 q3 q4 p5) 4 hd'_19 sz_35 f_35 (own_g q0 q1 q2 q3 q4 p5)) (f' := (mkF m 142 #[.val (.long q0), .second, .val (.long q1), .second, .val (.long q2), .second, .val (.long q3), .second, .val (.long q4), .second, .val (.int p5), .val (.int (own_N q0 q1 q2 q3 q4 p5)), .val (.int (own_P q0 q1 q2 q3 q4 p5)), .val (.ref b1), .unset, .unset, .unset] [])) (fun hk => ?_) ?_
  · skip
    by_cases hc131_36 : (3 : Int32) < (own_N q0 q1 q2 q3 q4 p5)
    · skip
      refine own_go (T' := T31) (f' := (mkF m 139 #[.val (.long q0), .second, .val (.long q1), .second, .val (.long q2), .second, .val (.long q3), .second, .val (.long q4), .second, .val (.int p5), .val (.int (own_N q0 q1 q2 q3 q4 p5)), .val (.int (own_P q0 q1 q2 q3 q4 p5)), .val (.ref b1), .unset, .unset, .unset] [(.int (4 : Int32)), (.long q3), (.ref b1)])) (fun t k => ?_) ?_
      · show Steps p.tables e below (T31.setTop (mkF m 131 #[.val (.long q0), .second, .val (.long q1), .second, .val (.long q2), .second, .val (.long q3), .second, .val (.long q4), .second, .val (.int p5), .val (.int (own_N q0 q1 q2 q3 q4 p5)), .val (.int (own_P q0 q1 q2 q3 q4 p5)), .val (.ref b1), .unset, .unset, .unset] [(.int (3 : Int32)), (.int (own_N q0 q1 q2 q3 q4 p5))])) _
        refine XS.icmpNo X31.here hx rfl (hb hby at_131) rfl (tlt hc131_36).2.2.2 ?_
        show Steps p.tables e below (T31.setTop (mkF m 134 #[.val (.long q0), .second, .val (.long q1), .second, .val (.long q2), .second, .val (.long q3), .second, .val (.long q4), .second, .val (.int p5), .val (.int (own_N q0 q1 q2 q3 q4 p5)), .val (.int (own_P q0 q1 q2 q3 q4 p5)), .val (.ref b1), .unset, .unset, .unset] [])) _
        refine XS.aload X31.here hx rfl (hb hby at_134) rfl rfl ?_
        show Steps p.tables e below (T31.setTop (mkF m 136 #[.val (.long q0), .second, .val (.long q1), .second, .val (.long q2), .second, .val (.long q3), .second, .val (.long q4), .second, .val (.int p5), .val (.int (own_N q0 q1 q2 q3 q4 p5)), .val (.int (own_P q0 q1 q2 q3 q4 p5)), .val (.ref b1), .unset, .unset, .unset] [(.ref b1)])) _
        refine XS.lload X31.here hx rfl (hb hby at_136) rfl ?_
        show Steps p.tables e below (T31.setTop (mkF m 138 #[.val (.long q0), .second, .val (.long q1), .second, .val (.long q2), .second, .val (.long q3), .second, .val (.long q4), .second, .val (.int p5), .val (.int (own_N q0 q1 q2 q3 q4 p5)), .val (.int (own_P q0 q1 q2 q3 q4 p5)), .val (.ref b1), .unset, .unset, .unset] [(.long q3), (.ref b1)])) _
        refine XS.iconst X31.here hx rfl (hb hby at_138) ?_
        show Steps p.tables e below (T31.setTop (mkF m 139 #[.val (.long q0), .second, .val (.long q1), .second, .val (.long q2), .second, .val (.long q3), .second, .val (.long q4), .second, .val (.int p5), .val (.int (own_N q0 q1 q2 q3 q4 p5)), .val (.int (own_P q0 q1 q2 q3 q4 p5)), .val (.ref b1), .unset, .unset, .unset] [(.int (4 : Int32)), (.long q3), (.ref b1)])) _
        exact k
      obtain ⟨cq37, kq37, q37a, q37b, q37c⟩ := isOf hZ e31 V31_0
      obtain ⟨_, _, ⟨T37, Lq37, kq37, nq37⟩, -, X37, ⟨Lc37, hQ37, lq37, yq37, zq37⟩, st37⟩ := X31.virtualBack hx (y := (⟨"com/example/lid_on_load/lidonload/limit/TimeRing", "add", "(JI)V"⟩ : MethodName)) (z := (⟨"com/example/lid_on_load/lidonload/limit/TimeRing", "add", "(JI)V"⟩ : MethodName)) hown (mvT hZ (hw _ (List.mem_of_getElem? (i := 25) rfl))) (mvT hZ (hw _ (List.mem_of_getElem? (i := 26) rfl))) (notFace_of_selects (args := #[]) (mvT hZ (hw _ (List.mem_of_getElem? (i := 28) rfl)))) (mvT hZ (hw _ (List.mem_of_getElem? (i := 28) rfl))) (mvT hZ (hw _ (List.mem_of_getElem? (i := 27) rfl))) (by decide) (backOf (W := 0) (own_rm4 l Z a0 hw [] b1 q3 ((4 : Int32)) br_5 (hd'_19) sz_31 f_31 h31 n0 Zs31 V31_0 V31_1 V31_2 V31_3 V31_4 g_b1 g_br_5 sp31.h0 sp31.h4 sp31.s0 (sp31.s4 (by decide)) (Ne.symm ne_b1_br_5)) hZ (hw _ (List.mem_of_getElem? (i := 29) rfl)) (hw _ (List.mem_of_getElem? (i := 2) rfl)) (by decide) (by decide)) q37a q37c (g := (mkF m 139 #[.val (.long q0), .second, .val (.long q1), .second, .val (.long q2), .second, .val (.long q3), .second, .val (.long q4), .second, .val (.int p5), .val (.int (own_N q0 q1 q2 q3 q4 p5)), .val (.int (own_P q0 q1 q2 q3 q4 p5)), .val (.ref b1), .unset, .unset, .unset] [(.int (4 : Int32)), (.long q3), (.ref b1)])) rfl (by rw [hml]; rfl) (Steps.refl _) (argsL := [(.long q3), (.int (4 : Int32))]) (rest := []) (lenOf own_pd1 rfl) rfl (by show 2 * 0 + _ ≤ _; exact Nat.le_of_eq rfl) (hb hby at_139) (fun _ _ => ⟨rfl, e31, (by decide : 2 + 0 ≤ _), (by decide : 7 + 0 ≤ _)⟩)
      dsimp only [Pt.U, Pt.locs, Pt.cells, Pt.slots] at X37 lq37 yq37 zq37 st37 hQ37
      subst lq37 yq37 zq37
      obtain ⟨f'_37, rfl, N37q, h37q, p37_0, p37_1, p37_2, p37_3, r37_ad⟩ := hQ37
      have N37 := Fr.app N31 N37q
      have fc38 : Exa Z T37.heap b1 "com/example/lid_on_load/lidonload/limit/TimeRing" := V31_0.keep h37q
      have Zs37 : n0 ≤ T37.heap.size := Nat.le_trans Zs31 h37q.1
      refine own_go (T' := T37) (f' := (mkF m 142 #[.val (.long q0), .second, .val (.long q1), .second, .val (.long q2), .second, .val (.long q3), .second, .val (.long q4), .second, .val (.int p5), .val (.int (own_N q0 q1 q2 q3 q4 p5)), .val (.int (own_P q0 q1 q2 q3 q4 p5)), .val (.ref b1), .unset, .unset, .unset] [])) (fun t k => st37.trans k) ?_
      exact hk _ ⟨_, _, (sz_31 + (1 : Int32)), f'_37, X37, rfl, N37, Zs37, fc38, p37_0, p37_1, p37_2, p37_3, (sp31.yes (by decide) hc131_36 r37_ad rfl)⟩
    · skip
      refine own_go (T' := T31) (f' := (mkF m 142 #[.val (.long q0), .second, .val (.long q1), .second, .val (.long q2), .second, .val (.long q3), .second, .val (.long q4), .second, .val (.int p5), .val (.int (own_N q0 q1 q2 q3 q4 p5)), .val (.int (own_P q0 q1 q2 q3 q4 p5)), .val (.ref b1), .unset, .unset, .unset] [])) (fun t k => ?_) ?_
      · show Steps p.tables e below (T31.setTop (mkF m 131 #[.val (.long q0), .second, .val (.long q1), .second, .val (.long q2), .second, .val (.long q3), .second, .val (.long q4), .second, .val (.int p5), .val (.int (own_N q0 q1 q2 q3 q4 p5)), .val (.int (own_P q0 q1 q2 q3 q4 p5)), .val (.ref b1), .unset, .unset, .unset] [(.int (3 : Int32)), (.int (own_N q0 q1 q2 q3 q4 p5))])) _
        refine XS.icmpYes X31.here hx rfl (pc0 := 131) (pc' := 142) rfl (hb hby at_131) rfl (flt hc131_36).2.2.2 (by decide) (by decide) ?_
        show Steps p.tables e below (T31.setTop (mkF m 142 #[.val (.long q0), .second, .val (.long q1), .second, .val (.long q2), .second, .val (.long q3), .second, .val (.long q4), .second, .val (.int p5), .val (.int (own_N q0 q1 q2 q3 q4 p5)), .val (.int (own_P q0 q1 q2 q3 q4 p5)), .val (.ref b1), .unset, .unset, .unset] [])) _
        exact k
      exact hk _ ⟨_, _, sz_31, f_31, X31, e31, N31, Zs31, V31_0, V31_1, V31_2, V31_3, V31_4, (sp31.no hc131_36)⟩
  rintro T35 ⟨h35, lo35, sz_35, f_35, X35, e35, N35, Zs35, V35_0, V35_1, V35_2, V35_3, V35_4, sp35⟩
  refine own_go (T' := T35) (f' := (mkF m 146 #[.val (.long q0), .second, .val (.long q1), .second, .val (.long q2), .second, .val (.long q3), .second, .val (.long q4), .second, .val (.int p5), .val (.int (own_N q0 q1 q2 q3 q4 p5)), .val (.int (own_P q0 q1 q2 q3 q4 p5)), .val (.ref b1), .unset, .unset, .unset] [(.long q4), (.ref b1)])) (fun t k => ?_) ?_
  · show Steps p.tables e below (T35.setTop (mkF m 142 #[.val (.long q0), .second, .val (.long q1), .second, .val (.long q2), .second, .val (.long q3), .second, .val (.long q4), .second, .val (.int p5), .val (.int (own_N q0 q1 q2 q3 q4 p5)), .val (.int (own_P q0 q1 q2 q3 q4 p5)), .val (.ref b1), .unset, .unset, .unset] [])) _
    refine XS.aload X35.here hx rfl (hb hby at_142) rfl rfl ?_
    show Steps p.tables e below (T35.setTop (mkF m 144 #[.val (.long q0), .second, .val (.long q1), .second, .val (.long q2), .second, .val (.long q3), .second, .val (.long q4), .second, .val (.int p5), .val (.int (own_N q0 q1 q2 q3 q4 p5)), .val (.int (own_P q0 q1 q2 q3 q4 p5)), .val (.ref b1), .unset, .unset, .unset] [(.ref b1)])) _
    refine XS.lload X35.here hx rfl (hb hby at_144) rfl ?_
    show Steps p.tables e below (T35.setTop (mkF m 146 #[.val (.long q0), .second, .val (.long q1), .second, .val (.long q2), .second, .val (.long q3), .second, .val (.long q4), .second, .val (.int p5), .val (.int (own_N q0 q1 q2 q3 q4 p5)), .val (.int (own_P q0 q1 q2 q3 q4 p5)), .val (.ref b1), .unset, .unset, .unset] [(.long q4), (.ref b1)])) _
    exact k
  obtain ⟨cq39, kq39, q39a, q39b, q39c⟩ := isOf hZ e35 V35_0
  obtain ⟨_, _, ⟨T39, Lq39, kq39, nq39⟩, -, X39, ⟨Lc39, hQ39, lq39, yq39, zq39⟩, st39⟩ := X35.virtualBack hx (y := (⟨"com/example/lid_on_load/lidonload/limit/TimeRing", "dropBefore", "(J)V"⟩ : MethodName)) (z := (⟨"com/example/lid_on_load/lidonload/limit/TimeRing", "dropBefore", "(J)V"⟩ : MethodName)) hown (mvT hZ (hw _ (List.mem_of_getElem? (i := 13) rfl))) (mvT hZ (hw _ (List.mem_of_getElem? (i := 14) rfl))) (notFace_of_selects (args := #[]) (mvT hZ (hw _ (List.mem_of_getElem? (i := 16) rfl)))) (mvT hZ (hw _ (List.mem_of_getElem? (i := 16) rfl))) (mvT hZ (hw _ (List.mem_of_getElem? (i := 15) rfl))) (by decide) (backOf (W := 0) (own_rm2 l Z a0 hw [] b1 q4 br_5 (hd'_19) sz_35 f_35 h35 n0 Zs35 V35_0 V35_1 V35_2 V35_3 V35_4 g_b1 sp35.h0 sp35.h4 sp35.s0 (Ne.symm ne_b1_br_5)) hZ (hw _ (List.mem_of_getElem? (i := 17) rfl)) (hw _ (List.mem_of_getElem? (i := 2) rfl)) (by decide) (by decide)) q39a q39c (g := (mkF m 146 #[.val (.long q0), .second, .val (.long q1), .second, .val (.long q2), .second, .val (.long q3), .second, .val (.long q4), .second, .val (.int p5), .val (.int (own_N q0 q1 q2 q3 q4 p5)), .val (.int (own_P q0 q1 q2 q3 q4 p5)), .val (.ref b1), .unset, .unset, .unset] [(.long q4), (.ref b1)])) rfl (by rw [hml]; rfl) (Steps.refl _) (argsL := [(.long q4)]) (rest := []) (lenOf own_pd2 rfl) rfl (by show 2 * 0 + _ ≤ _; exact Nat.le_of_eq rfl) (hb hby at_146) (fun _ _ => ⟨rfl, e35, (by decide : 2 + 0 ≤ _), (by decide : 7 + 0 ≤ _)⟩)
  dsimp only [Pt.U, Pt.locs, Pt.cells, Pt.slots] at X39 lq39 yq39 zq39 st39 hQ39
  subst lq39 yq39 zq39
  obtain ⟨hd'_39, sz'_39, rfl, N39q, h39q, p39_0, p39_1, p39_2, r39_db⟩ := hQ39
  have N39 := Fr.app N35 N39q
  have fc40 : Exa Z T39.heap b1 "com/example/lid_on_load/lidonload/limit/TimeRing" := V35_0.keep h39q
  have fc41 : own_ArJ Z T39.heap br_5 .long (4 : Int32) f_35 := V35_4.keep h39q (ninS (Ne.symm ne_b1_br_5) nin0)
  have Zs39 : n0 ≤ T39.heap.size := Nat.le_trans Zs35 h39q.1
  refine own_go (T' := T39) (f' := (mkF m 149 #[.val (.long q0), .second, .val (.long q1), .second, .val (.long q2), .second, .val (.long q3), .second, .val (.long q4), .second, .val (.int p5), .val (.int (own_N q0 q1 q2 q3 q4 p5)), .val (.int (own_P q0 q1 q2 q3 q4 p5)), .val (.ref b1), .unset, .unset, .unset] [])) (fun t k => st39.trans k) ?_
  have hE := own_drop2 q0 q1 q2 q3 q4 p5 sp35 r39_db
  refine own_go (T' := T39) (f' := (mkF m 154 #[.val (.long q0), .second, .val (.long q1), .second, .val (.long q2), .second, .val (.long q3), .second, .val (.long q4), .second, .val (.int p5), .val (.int (own_N q0 q1 q2 q3 q4 p5)), .val (.int (own_P q0 q1 q2 q3 q4 p5)), .val (.ref b1), .val (.int (0 : Int32)), .unset, .unset] [(.int (own_N q0 q1 q2 q3 q4 p5))])) (fun t k => ?_) ?_
  · show Steps p.tables e below (T39.setTop (mkF m 149 #[.val (.long q0), .second, .val (.long q1), .second, .val (.long q2), .second, .val (.long q3), .second, .val (.long q4), .second, .val (.int p5), .val (.int (own_N q0 q1 q2 q3 q4 p5)), .val (.int (own_P q0 q1 q2 q3 q4 p5)), .val (.ref b1), .unset, .unset, .unset] [])) _
    refine XS.iconst X39.here hx rfl (hb hby at_149) ?_
    show Steps p.tables e below (T39.setTop (mkF m 150 #[.val (.long q0), .second, .val (.long q1), .second, .val (.long q2), .second, .val (.long q3), .second, .val (.long q4), .second, .val (.int p5), .val (.int (own_N q0 q1 q2 q3 q4 p5)), .val (.int (own_P q0 q1 q2 q3 q4 p5)), .val (.ref b1), .unset, .unset, .unset] [(.int (0 : Int32))])) _
    refine XS.istore X39.here hx rfl (hb hby at_150) rfl (l' := #[.val (.long q0), .second, .val (.long q1), .second, .val (.long q2), .second, .val (.long q3), .second, .val (.long q4), .second, .val (.int p5), .val (.int (own_N q0 q1 q2 q3 q4 p5)), .val (.int (own_P q0 q1 q2 q3 q4 p5)), .val (.ref b1), .val (.int (0 : Int32)), .unset, .unset]) rfl ?_
    show Steps p.tables e below (T39.setTop (mkF m 152 #[.val (.long q0), .second, .val (.long q1), .second, .val (.long q2), .second, .val (.long q3), .second, .val (.long q4), .second, .val (.int p5), .val (.int (own_N q0 q1 q2 q3 q4 p5)), .val (.int (own_P q0 q1 q2 q3 q4 p5)), .val (.ref b1), .val (.int (0 : Int32)), .unset, .unset] [])) _
    refine XS.iload X39.here hx rfl (hb hby at_152) rfl ?_
    show Steps p.tables e below (T39.setTop (mkF m 154 #[.val (.long q0), .second, .val (.long q1), .second, .val (.long q2), .second, .val (.long q3), .second, .val (.long q4), .second, .val (.int p5), .val (.int (own_N q0 q1 q2 q3 q4 p5)), .val (.int (own_P q0 q1 q2 q3 q4 p5)), .val (.ref b1), .val (.int (0 : Int32)), .unset, .unset] [(.int (own_N q0 q1 q2 q3 q4 p5))])) _
    exact k
  refine own_go (T' := T39) (f' := (mkF m 217 #[.val (.long q0), .second, .val (.long q1), .second, .val (.long q2), .second, .val (.long q3), .second, .val (.long q4), .second, .val (.int p5), .val (.int (own_N q0 q1 q2 q3 q4 p5)), .val (.int (own_P q0 q1 q2 q3 q4 p5)), .val (.ref b1), .val (.int (if (0 : Int32) < (own_N q0 q1 q2 q3 q4 p5) then (if q0 < q4 then (if (1 : Int32) < (own_N q0 q1 q2 q3 q4 p5) then (if q1 < q4 then (if (2 : Int32) < (own_N q0 q1 q2 q3 q4 p5) then (if q2 < q4 then (if (3 : Int32) < (own_N q0 q1 q2 q3 q4 p5) then (if q3 < q4 then (4 : Int32) else (3 : Int32)) else (3 : Int32)) else (2 : Int32)) else (2 : Int32)) else (1 : Int32)) else (1 : Int32)) else (0 : Int32)) else (0 : Int32))), .unset, .unset] [])) (fun t k => ?_) ?_
  · show Steps p.tables e below (T39.setTop (mkF m 154 #[.val (.long q0), .second, .val (.long q1), .second, .val (.long q2), .second, .val (.long q3), .second, .val (.long q4), .second, .val (.int p5), .val (.int (own_N q0 q1 q2 q3 q4 p5)), .val (.int (own_P q0 q1 q2 q3 q4 p5)), .val (.ref b1), .val (.int (0 : Int32)), .unset, .unset] [(.int (own_N q0 q1 q2 q3 q4 p5))])) _
    by_cases hc154_42 : (0 : Int32) < (own_N q0 q1 q2 q3 q4 p5)
    · skip
      refine XS.ifNo X39.here hx rfl (hb hby at_154) rfl ((if0 _ _).trans (tlt hc154_42).2.2.2) ?_
      show Steps p.tables e below (T39.setTop (mkF m 157 #[.val (.long q0), .second, .val (.long q1), .second, .val (.long q2), .second, .val (.long q3), .second, .val (.long q4), .second, .val (.int p5), .val (.int (own_N q0 q1 q2 q3 q4 p5)), .val (.int (own_P q0 q1 q2 q3 q4 p5)), .val (.ref b1), .val (.int (0 : Int32)), .unset, .unset] [])) _
      refine XS.lloadN X39.here hx rfl (hb hby at_157) rfl ?_
      show Steps p.tables e below (T39.setTop (mkF m 158 #[.val (.long q0), .second, .val (.long q1), .second, .val (.long q2), .second, .val (.long q3), .second, .val (.long q4), .second, .val (.int p5), .val (.int (own_N q0 q1 q2 q3 q4 p5)), .val (.int (own_P q0 q1 q2 q3 q4 p5)), .val (.ref b1), .val (.int (0 : Int32)), .unset, .unset] [(.long q0)])) _
      refine XS.lload X39.here hx rfl (hb hby at_158) rfl ?_
      show Steps p.tables e below (T39.setTop (mkF m 160 #[.val (.long q0), .second, .val (.long q1), .second, .val (.long q2), .second, .val (.long q3), .second, .val (.long q4), .second, .val (.int p5), .val (.int (own_N q0 q1 q2 q3 q4 p5)), .val (.int (own_P q0 q1 q2 q3 q4 p5)), .val (.ref b1), .val (.int (0 : Int32)), .unset, .unset] [(.long q4), (.long q0)])) _
      refine XS.lcmp X39.here hx rfl (hb hby at_160) rfl ?_
      show Steps p.tables e below (T39.setTop (mkF m 161 #[.val (.long q0), .second, .val (.long q1), .second, .val (.long q2), .second, .val (.long q3), .second, .val (.long q4), .second, .val (.int p5), .val (.int (own_N q0 q1 q2 q3 q4 p5)), .val (.int (own_P q0 q1 q2 q3 q4 p5)), .val (.ref b1), .val (.int (0 : Int32)), .unset, .unset] [(.int (lcmpW q0 q4))])) _
      by_cases hc161_43 : q0 < q4
      · skip
        refine XS.ifNo X39.here hx rfl (hb hby at_161) rfl ((if0 _ _).trans (tlt ((lw_lt q0 q4).mpr hc161_43)).2.1) ?_
        show Steps p.tables e below (T39.setTop (mkF m 164 #[.val (.long q0), .second, .val (.long q1), .second, .val (.long q2), .second, .val (.long q3), .second, .val (.long q4), .second, .val (.int p5), .val (.int (own_N q0 q1 q2 q3 q4 p5)), .val (.int (own_P q0 q1 q2 q3 q4 p5)), .val (.ref b1), .val (.int (0 : Int32)), .unset, .unset] [])) _
        refine XS.iconst X39.here hx rfl (hb hby at_164) ?_
        show Steps p.tables e below (T39.setTop (mkF m 165 #[.val (.long q0), .second, .val (.long q1), .second, .val (.long q2), .second, .val (.long q3), .second, .val (.long q4), .second, .val (.int p5), .val (.int (own_N q0 q1 q2 q3 q4 p5)), .val (.int (own_P q0 q1 q2 q3 q4 p5)), .val (.ref b1), .val (.int (0 : Int32)), .unset, .unset] [(.int (1 : Int32))])) _
        refine XS.istore X39.here hx rfl (hb hby at_165) rfl (l' := #[.val (.long q0), .second, .val (.long q1), .second, .val (.long q2), .second, .val (.long q3), .second, .val (.long q4), .second, .val (.int p5), .val (.int (own_N q0 q1 q2 q3 q4 p5)), .val (.int (own_P q0 q1 q2 q3 q4 p5)), .val (.ref b1), .val (.int (1 : Int32)), .unset, .unset]) rfl ?_
        show Steps p.tables e below (T39.setTop (mkF m 167 #[.val (.long q0), .second, .val (.long q1), .second, .val (.long q2), .second, .val (.long q3), .second, .val (.long q4), .second, .val (.int p5), .val (.int (own_N q0 q1 q2 q3 q4 p5)), .val (.int (own_P q0 q1 q2 q3 q4 p5)), .val (.ref b1), .val (.int (1 : Int32)), .unset, .unset] [])) _
        refine XS.iload X39.here hx rfl (hb hby at_167) rfl ?_
        show Steps p.tables e below (T39.setTop (mkF m 169 #[.val (.long q0), .second, .val (.long q1), .second, .val (.long q2), .second, .val (.long q3), .second, .val (.long q4), .second, .val (.int p5), .val (.int (own_N q0 q1 q2 q3 q4 p5)), .val (.int (own_P q0 q1 q2 q3 q4 p5)), .val (.ref b1), .val (.int (1 : Int32)), .unset, .unset] [(.int (own_N q0 q1 q2 q3 q4 p5))])) _
        refine XS.iconst X39.here hx rfl (hb hby at_169) ?_
        show Steps p.tables e below (T39.setTop (mkF m 170 #[.val (.long q0), .second, .val (.long q1), .second, .val (.long q2), .second, .val (.long q3), .second, .val (.long q4), .second, .val (.int p5), .val (.int (own_N q0 q1 q2 q3 q4 p5)), .val (.int (own_P q0 q1 q2 q3 q4 p5)), .val (.ref b1), .val (.int (1 : Int32)), .unset, .unset] [(.int (1 : Int32)), (.int (own_N q0 q1 q2 q3 q4 p5))])) _
        by_cases hc170_44 : (1 : Int32) < (own_N q0 q1 q2 q3 q4 p5)
        · skip
          refine XS.icmpNo X39.here hx rfl (hb hby at_170) rfl (tlt hc170_44).2.2.2 ?_
          show Steps p.tables e below (T39.setTop (mkF m 173 #[.val (.long q0), .second, .val (.long q1), .second, .val (.long q2), .second, .val (.long q3), .second, .val (.long q4), .second, .val (.int p5), .val (.int (own_N q0 q1 q2 q3 q4 p5)), .val (.int (own_P q0 q1 q2 q3 q4 p5)), .val (.ref b1), .val (.int (1 : Int32)), .unset, .unset] [])) _
          refine XS.lloadN X39.here hx rfl (hb hby at_173) rfl ?_
          show Steps p.tables e below (T39.setTop (mkF m 174 #[.val (.long q0), .second, .val (.long q1), .second, .val (.long q2), .second, .val (.long q3), .second, .val (.long q4), .second, .val (.int p5), .val (.int (own_N q0 q1 q2 q3 q4 p5)), .val (.int (own_P q0 q1 q2 q3 q4 p5)), .val (.ref b1), .val (.int (1 : Int32)), .unset, .unset] [(.long q1)])) _
          refine XS.lload X39.here hx rfl (hb hby at_174) rfl ?_
          show Steps p.tables e below (T39.setTop (mkF m 176 #[.val (.long q0), .second, .val (.long q1), .second, .val (.long q2), .second, .val (.long q3), .second, .val (.long q4), .second, .val (.int p5), .val (.int (own_N q0 q1 q2 q3 q4 p5)), .val (.int (own_P q0 q1 q2 q3 q4 p5)), .val (.ref b1), .val (.int (1 : Int32)), .unset, .unset] [(.long q4), (.long q1)])) _
          refine XS.lcmp X39.here hx rfl (hb hby at_176) rfl ?_
          show Steps p.tables e below (T39.setTop (mkF m 177 #[.val (.long q0), .second, .val (.long q1), .second, .val (.long q2), .second, .val (.long q3), .second, .val (.long q4), .second, .val (.int p5), .val (.int (own_N q0 q1 q2 q3 q4 p5)), .val (.int (own_P q0 q1 q2 q3 q4 p5)), .val (.ref b1), .val (.int (1 : Int32)), .unset, .unset] [(.int (lcmpW q1 q4))])) _
          by_cases hc177_45 : q1 < q4
          · skip
            refine XS.ifNo X39.here hx rfl (hb hby at_177) rfl ((if0 _ _).trans (tlt ((lw_lt q1 q4).mpr hc177_45)).2.1) ?_
            show Steps p.tables e below (T39.setTop (mkF m 180 #[.val (.long q0), .second, .val (.long q1), .second, .val (.long q2), .second, .val (.long q3), .second, .val (.long q4), .second, .val (.int p5), .val (.int (own_N q0 q1 q2 q3 q4 p5)), .val (.int (own_P q0 q1 q2 q3 q4 p5)), .val (.ref b1), .val (.int (1 : Int32)), .unset, .unset] [])) _
            refine XS.iconst X39.here hx rfl (hb hby at_180) ?_
            show Steps p.tables e below (T39.setTop (mkF m 181 #[.val (.long q0), .second, .val (.long q1), .second, .val (.long q2), .second, .val (.long q3), .second, .val (.long q4), .second, .val (.int p5), .val (.int (own_N q0 q1 q2 q3 q4 p5)), .val (.int (own_P q0 q1 q2 q3 q4 p5)), .val (.ref b1), .val (.int (1 : Int32)), .unset, .unset] [(.int (2 : Int32))])) _
            refine XS.istore X39.here hx rfl (hb hby at_181) rfl (l' := #[.val (.long q0), .second, .val (.long q1), .second, .val (.long q2), .second, .val (.long q3), .second, .val (.long q4), .second, .val (.int p5), .val (.int (own_N q0 q1 q2 q3 q4 p5)), .val (.int (own_P q0 q1 q2 q3 q4 p5)), .val (.ref b1), .val (.int (2 : Int32)), .unset, .unset]) rfl ?_
            show Steps p.tables e below (T39.setTop (mkF m 183 #[.val (.long q0), .second, .val (.long q1), .second, .val (.long q2), .second, .val (.long q3), .second, .val (.long q4), .second, .val (.int p5), .val (.int (own_N q0 q1 q2 q3 q4 p5)), .val (.int (own_P q0 q1 q2 q3 q4 p5)), .val (.ref b1), .val (.int (2 : Int32)), .unset, .unset] [])) _
            refine XS.iload X39.here hx rfl (hb hby at_183) rfl ?_
            show Steps p.tables e below (T39.setTop (mkF m 185 #[.val (.long q0), .second, .val (.long q1), .second, .val (.long q2), .second, .val (.long q3), .second, .val (.long q4), .second, .val (.int p5), .val (.int (own_N q0 q1 q2 q3 q4 p5)), .val (.int (own_P q0 q1 q2 q3 q4 p5)), .val (.ref b1), .val (.int (2 : Int32)), .unset, .unset] [(.int (own_N q0 q1 q2 q3 q4 p5))])) _
            refine XS.iconst X39.here hx rfl (hb hby at_185) ?_
            show Steps p.tables e below (T39.setTop (mkF m 186 #[.val (.long q0), .second, .val (.long q1), .second, .val (.long q2), .second, .val (.long q3), .second, .val (.long q4), .second, .val (.int p5), .val (.int (own_N q0 q1 q2 q3 q4 p5)), .val (.int (own_P q0 q1 q2 q3 q4 p5)), .val (.ref b1), .val (.int (2 : Int32)), .unset, .unset] [(.int (2 : Int32)), (.int (own_N q0 q1 q2 q3 q4 p5))])) _
            by_cases hc186_46 : (2 : Int32) < (own_N q0 q1 q2 q3 q4 p5)
            · skip
              refine XS.icmpNo X39.here hx rfl (hb hby at_186) rfl (tlt hc186_46).2.2.2 ?_
              show Steps p.tables e below (T39.setTop (mkF m 189 #[.val (.long q0), .second, .val (.long q1), .second, .val (.long q2), .second, .val (.long q3), .second, .val (.long q4), .second, .val (.int p5), .val (.int (own_N q0 q1 q2 q3 q4 p5)), .val (.int (own_P q0 q1 q2 q3 q4 p5)), .val (.ref b1), .val (.int (2 : Int32)), .unset, .unset] [])) _
              refine XS.lload X39.here hx rfl (hb hby at_189) rfl ?_
              show Steps p.tables e below (T39.setTop (mkF m 191 #[.val (.long q0), .second, .val (.long q1), .second, .val (.long q2), .second, .val (.long q3), .second, .val (.long q4), .second, .val (.int p5), .val (.int (own_N q0 q1 q2 q3 q4 p5)), .val (.int (own_P q0 q1 q2 q3 q4 p5)), .val (.ref b1), .val (.int (2 : Int32)), .unset, .unset] [(.long q2)])) _
              refine XS.lload X39.here hx rfl (hb hby at_191) rfl ?_
              show Steps p.tables e below (T39.setTop (mkF m 193 #[.val (.long q0), .second, .val (.long q1), .second, .val (.long q2), .second, .val (.long q3), .second, .val (.long q4), .second, .val (.int p5), .val (.int (own_N q0 q1 q2 q3 q4 p5)), .val (.int (own_P q0 q1 q2 q3 q4 p5)), .val (.ref b1), .val (.int (2 : Int32)), .unset, .unset] [(.long q4), (.long q2)])) _
              refine XS.lcmp X39.here hx rfl (hb hby at_193) rfl ?_
              show Steps p.tables e below (T39.setTop (mkF m 194 #[.val (.long q0), .second, .val (.long q1), .second, .val (.long q2), .second, .val (.long q3), .second, .val (.long q4), .second, .val (.int p5), .val (.int (own_N q0 q1 q2 q3 q4 p5)), .val (.int (own_P q0 q1 q2 q3 q4 p5)), .val (.ref b1), .val (.int (2 : Int32)), .unset, .unset] [(.int (lcmpW q2 q4))])) _
              by_cases hc194_47 : q2 < q4
              · skip
                refine XS.ifNo X39.here hx rfl (hb hby at_194) rfl ((if0 _ _).trans (tlt ((lw_lt q2 q4).mpr hc194_47)).2.1) ?_
                show Steps p.tables e below (T39.setTop (mkF m 197 #[.val (.long q0), .second, .val (.long q1), .second, .val (.long q2), .second, .val (.long q3), .second, .val (.long q4), .second, .val (.int p5), .val (.int (own_N q0 q1 q2 q3 q4 p5)), .val (.int (own_P q0 q1 q2 q3 q4 p5)), .val (.ref b1), .val (.int (2 : Int32)), .unset, .unset] [])) _
                refine XS.iconst X39.here hx rfl (hb hby at_197) ?_
                show Steps p.tables e below (T39.setTop (mkF m 198 #[.val (.long q0), .second, .val (.long q1), .second, .val (.long q2), .second, .val (.long q3), .second, .val (.long q4), .second, .val (.int p5), .val (.int (own_N q0 q1 q2 q3 q4 p5)), .val (.int (own_P q0 q1 q2 q3 q4 p5)), .val (.ref b1), .val (.int (2 : Int32)), .unset, .unset] [(.int (3 : Int32))])) _
                refine XS.istore X39.here hx rfl (hb hby at_198) rfl (l' := #[.val (.long q0), .second, .val (.long q1), .second, .val (.long q2), .second, .val (.long q3), .second, .val (.long q4), .second, .val (.int p5), .val (.int (own_N q0 q1 q2 q3 q4 p5)), .val (.int (own_P q0 q1 q2 q3 q4 p5)), .val (.ref b1), .val (.int (3 : Int32)), .unset, .unset]) rfl ?_
                show Steps p.tables e below (T39.setTop (mkF m 200 #[.val (.long q0), .second, .val (.long q1), .second, .val (.long q2), .second, .val (.long q3), .second, .val (.long q4), .second, .val (.int p5), .val (.int (own_N q0 q1 q2 q3 q4 p5)), .val (.int (own_P q0 q1 q2 q3 q4 p5)), .val (.ref b1), .val (.int (3 : Int32)), .unset, .unset] [])) _
                refine XS.iload X39.here hx rfl (hb hby at_200) rfl ?_
                show Steps p.tables e below (T39.setTop (mkF m 202 #[.val (.long q0), .second, .val (.long q1), .second, .val (.long q2), .second, .val (.long q3), .second, .val (.long q4), .second, .val (.int p5), .val (.int (own_N q0 q1 q2 q3 q4 p5)), .val (.int (own_P q0 q1 q2 q3 q4 p5)), .val (.ref b1), .val (.int (3 : Int32)), .unset, .unset] [(.int (own_N q0 q1 q2 q3 q4 p5))])) _
                refine XS.iconst X39.here hx rfl (hb hby at_202) ?_
                show Steps p.tables e below (T39.setTop (mkF m 203 #[.val (.long q0), .second, .val (.long q1), .second, .val (.long q2), .second, .val (.long q3), .second, .val (.long q4), .second, .val (.int p5), .val (.int (own_N q0 q1 q2 q3 q4 p5)), .val (.int (own_P q0 q1 q2 q3 q4 p5)), .val (.ref b1), .val (.int (3 : Int32)), .unset, .unset] [(.int (3 : Int32)), (.int (own_N q0 q1 q2 q3 q4 p5))])) _
                by_cases hc203_48 : (3 : Int32) < (own_N q0 q1 q2 q3 q4 p5)
                · skip
                  refine XS.icmpNo X39.here hx rfl (hb hby at_203) rfl (tlt hc203_48).2.2.2 ?_
                  show Steps p.tables e below (T39.setTop (mkF m 206 #[.val (.long q0), .second, .val (.long q1), .second, .val (.long q2), .second, .val (.long q3), .second, .val (.long q4), .second, .val (.int p5), .val (.int (own_N q0 q1 q2 q3 q4 p5)), .val (.int (own_P q0 q1 q2 q3 q4 p5)), .val (.ref b1), .val (.int (3 : Int32)), .unset, .unset] [])) _
                  refine XS.lload X39.here hx rfl (hb hby at_206) rfl ?_
                  show Steps p.tables e below (T39.setTop (mkF m 208 #[.val (.long q0), .second, .val (.long q1), .second, .val (.long q2), .second, .val (.long q3), .second, .val (.long q4), .second, .val (.int p5), .val (.int (own_N q0 q1 q2 q3 q4 p5)), .val (.int (own_P q0 q1 q2 q3 q4 p5)), .val (.ref b1), .val (.int (3 : Int32)), .unset, .unset] [(.long q3)])) _
                  refine XS.lload X39.here hx rfl (hb hby at_208) rfl ?_
                  show Steps p.tables e below (T39.setTop (mkF m 210 #[.val (.long q0), .second, .val (.long q1), .second, .val (.long q2), .second, .val (.long q3), .second, .val (.long q4), .second, .val (.int p5), .val (.int (own_N q0 q1 q2 q3 q4 p5)), .val (.int (own_P q0 q1 q2 q3 q4 p5)), .val (.ref b1), .val (.int (3 : Int32)), .unset, .unset] [(.long q4), (.long q3)])) _
                  refine XS.lcmp X39.here hx rfl (hb hby at_210) rfl ?_
                  show Steps p.tables e below (T39.setTop (mkF m 211 #[.val (.long q0), .second, .val (.long q1), .second, .val (.long q2), .second, .val (.long q3), .second, .val (.long q4), .second, .val (.int p5), .val (.int (own_N q0 q1 q2 q3 q4 p5)), .val (.int (own_P q0 q1 q2 q3 q4 p5)), .val (.ref b1), .val (.int (3 : Int32)), .unset, .unset] [(.int (lcmpW q3 q4))])) _
                  by_cases hc211_49 : q3 < q4
                  · skip
                    refine XS.ifNo X39.here hx rfl (hb hby at_211) rfl ((if0 _ _).trans (tlt ((lw_lt q3 q4).mpr hc211_49)).2.1) ?_
                    show Steps p.tables e below (T39.setTop (mkF m 214 #[.val (.long q0), .second, .val (.long q1), .second, .val (.long q2), .second, .val (.long q3), .second, .val (.long q4), .second, .val (.int p5), .val (.int (own_N q0 q1 q2 q3 q4 p5)), .val (.int (own_P q0 q1 q2 q3 q4 p5)), .val (.ref b1), .val (.int (3 : Int32)), .unset, .unset] [])) _
                    refine XS.iconst X39.here hx rfl (hb hby at_214) ?_
                    show Steps p.tables e below (T39.setTop (mkF m 215 #[.val (.long q0), .second, .val (.long q1), .second, .val (.long q2), .second, .val (.long q3), .second, .val (.long q4), .second, .val (.int p5), .val (.int (own_N q0 q1 q2 q3 q4 p5)), .val (.int (own_P q0 q1 q2 q3 q4 p5)), .val (.ref b1), .val (.int (3 : Int32)), .unset, .unset] [(.int (4 : Int32))])) _
                    refine XS.istore X39.here hx rfl (hb hby at_215) rfl (l' := #[.val (.long q0), .second, .val (.long q1), .second, .val (.long q2), .second, .val (.long q3), .second, .val (.long q4), .second, .val (.int p5), .val (.int (own_N q0 q1 q2 q3 q4 p5)), .val (.int (own_P q0 q1 q2 q3 q4 p5)), .val (.ref b1), .val (.int (4 : Int32)), .unset, .unset]) rfl ?_
                    show Steps p.tables e below (T39.setTop (mkF m 217 #[.val (.long q0), .second, .val (.long q1), .second, .val (.long q2), .second, .val (.long q3), .second, .val (.long q4), .second, .val (.int p5), .val (.int (own_N q0 q1 q2 q3 q4 p5)), .val (.int (own_P q0 q1 q2 q3 q4 p5)), .val (.ref b1), .val (.int (4 : Int32)), .unset, .unset] [])) _
                    simp only [if_pos hc154_42, if_pos hc161_43, if_pos hc170_44, if_pos hc177_45, if_pos hc186_46, if_pos hc194_47, if_pos hc203_48, if_pos hc211_49] at k
                    exact k
                  · skip
                    refine XS.ifYes X39.here hx rfl (pc0 := 211) (pc' := 217) rfl (hb hby at_211) rfl ((if0 _ _).trans (flt (fun q => hc211_49 ((lw_lt q3 q4).mp q))).2.1) (by decide) (by decide) ?_
                    show Steps p.tables e below (T39.setTop (mkF m 217 #[.val (.long q0), .second, .val (.long q1), .second, .val (.long q2), .second, .val (.long q3), .second, .val (.long q4), .second, .val (.int p5), .val (.int (own_N q0 q1 q2 q3 q4 p5)), .val (.int (own_P q0 q1 q2 q3 q4 p5)), .val (.ref b1), .val (.int (3 : Int32)), .unset, .unset] [])) _
                    simp only [if_pos hc154_42, if_pos hc161_43, if_pos hc170_44, if_pos hc177_45, if_pos hc186_46, if_pos hc194_47, if_pos hc203_48, if_neg hc211_49] at k
                    exact k
                · skip
                  refine XS.icmpYes X39.here hx rfl (pc0 := 203) (pc' := 217) rfl (hb hby at_203) rfl (flt hc203_48).2.2.2 (by decide) (by decide) ?_
                  show Steps p.tables e below (T39.setTop (mkF m 217 #[.val (.long q0), .second, .val (.long q1), .second, .val (.long q2), .second, .val (.long q3), .second, .val (.long q4), .second, .val (.int p5), .val (.int (own_N q0 q1 q2 q3 q4 p5)), .val (.int (own_P q0 q1 q2 q3 q4 p5)), .val (.ref b1), .val (.int (3 : Int32)), .unset, .unset] [])) _
                  simp only [if_pos hc154_42, if_pos hc161_43, if_pos hc170_44, if_pos hc177_45, if_pos hc186_46, if_pos hc194_47, if_neg hc203_48] at k
                  exact k
              · skip
                refine XS.ifYes X39.here hx rfl (pc0 := 194) (pc' := 217) rfl (hb hby at_194) rfl ((if0 _ _).trans (flt (fun q => hc194_47 ((lw_lt q2 q4).mp q))).2.1) (by decide) (by decide) ?_
                show Steps p.tables e below (T39.setTop (mkF m 217 #[.val (.long q0), .second, .val (.long q1), .second, .val (.long q2), .second, .val (.long q3), .second, .val (.long q4), .second, .val (.int p5), .val (.int (own_N q0 q1 q2 q3 q4 p5)), .val (.int (own_P q0 q1 q2 q3 q4 p5)), .val (.ref b1), .val (.int (2 : Int32)), .unset, .unset] [])) _
                simp only [if_pos hc154_42, if_pos hc161_43, if_pos hc170_44, if_pos hc177_45, if_pos hc186_46, if_neg hc194_47] at k
                exact k
            · skip
              refine XS.icmpYes X39.here hx rfl (pc0 := 186) (pc' := 217) rfl (hb hby at_186) rfl (flt hc186_46).2.2.2 (by decide) (by decide) ?_
              show Steps p.tables e below (T39.setTop (mkF m 217 #[.val (.long q0), .second, .val (.long q1), .second, .val (.long q2), .second, .val (.long q3), .second, .val (.long q4), .second, .val (.int p5), .val (.int (own_N q0 q1 q2 q3 q4 p5)), .val (.int (own_P q0 q1 q2 q3 q4 p5)), .val (.ref b1), .val (.int (2 : Int32)), .unset, .unset] [])) _
              simp only [if_pos hc154_42, if_pos hc161_43, if_pos hc170_44, if_pos hc177_45, if_neg hc186_46] at k
              exact k
          · skip
            refine XS.ifYes X39.here hx rfl (pc0 := 177) (pc' := 217) rfl (hb hby at_177) rfl ((if0 _ _).trans (flt (fun q => hc177_45 ((lw_lt q1 q4).mp q))).2.1) (by decide) (by decide) ?_
            show Steps p.tables e below (T39.setTop (mkF m 217 #[.val (.long q0), .second, .val (.long q1), .second, .val (.long q2), .second, .val (.long q3), .second, .val (.long q4), .second, .val (.int p5), .val (.int (own_N q0 q1 q2 q3 q4 p5)), .val (.int (own_P q0 q1 q2 q3 q4 p5)), .val (.ref b1), .val (.int (1 : Int32)), .unset, .unset] [])) _
            simp only [if_pos hc154_42, if_pos hc161_43, if_pos hc170_44, if_neg hc177_45] at k
            exact k
        · skip
          refine XS.icmpYes X39.here hx rfl (pc0 := 170) (pc' := 217) rfl (hb hby at_170) rfl (flt hc170_44).2.2.2 (by decide) (by decide) ?_
          show Steps p.tables e below (T39.setTop (mkF m 217 #[.val (.long q0), .second, .val (.long q1), .second, .val (.long q2), .second, .val (.long q3), .second, .val (.long q4), .second, .val (.int p5), .val (.int (own_N q0 q1 q2 q3 q4 p5)), .val (.int (own_P q0 q1 q2 q3 q4 p5)), .val (.ref b1), .val (.int (1 : Int32)), .unset, .unset] [])) _
          simp only [if_pos hc154_42, if_pos hc161_43, if_neg hc170_44] at k
          exact k
      · skip
        refine XS.ifYes X39.here hx rfl (pc0 := 161) (pc' := 217) rfl (hb hby at_161) rfl ((if0 _ _).trans (flt (fun q => hc161_43 ((lw_lt q0 q4).mp q))).2.1) (by decide) (by decide) ?_
        show Steps p.tables e below (T39.setTop (mkF m 217 #[.val (.long q0), .second, .val (.long q1), .second, .val (.long q2), .second, .val (.long q3), .second, .val (.long q4), .second, .val (.int p5), .val (.int (own_N q0 q1 q2 q3 q4 p5)), .val (.int (own_P q0 q1 q2 q3 q4 p5)), .val (.ref b1), .val (.int (0 : Int32)), .unset, .unset] [])) _
        simp only [if_pos hc154_42, if_neg hc161_43] at k
        exact k
    · skip
      refine XS.ifYes X39.here hx rfl (pc0 := 154) (pc' := 217) rfl (hb hby at_154) rfl ((if0 _ _).trans (flt hc154_42).2.2.2) (by decide) (by decide) ?_
      show Steps p.tables e below (T39.setTop (mkF m 217 #[.val (.long q0), .second, .val (.long q1), .second, .val (.long q2), .second, .val (.long q3), .second, .val (.long q4), .second, .val (.int p5), .val (.int (own_N q0 q1 q2 q3 q4 p5)), .val (.int (own_P q0 q1 q2 q3 q4 p5)), .val (.ref b1), .val (.int (0 : Int32)), .unset, .unset] [])) _
      simp only [if_neg hc154_42] at k
      exact k
  refine own_go (T' := T39) (f' := (mkF m 217 #[.val (.long q0), .second, .val (.long q1), .second, .val (.long q2), .second, .val (.long q3), .second, .val (.long q4), .second, .val (.int p5), .val (.int (own_N q0 q1 q2 q3 q4 p5)), .val (.int (own_P q0 q1 q2 q3 q4 p5)), .val (.ref b1), .val (.int (own_K q0 q1 q2 q3 q4 p5)), .unset, .unset] [])) (fun t k => k) ?_
  refine own_go (T' := T39) (f' := (mkF m 226 #[.val (.long q0), .second, .val (.long q1), .second, .val (.long q2), .second, .val (.long q3), .second, .val (.long q4), .second, .val (.int p5), .val (.int (own_N q0 q1 q2 q3 q4 p5)), .val (.int (own_P q0 q1 q2 q3 q4 p5)), .val (.ref b1), .val (.int (own_K q0 q1 q2 q3 q4 p5)), .val (.int ((own_N q0 q1 q2 q3 q4 p5) - (own_K q0 q1 q2 q3 q4 p5))), .unset] [(.ref b1)])) (fun t k => ?_) ?_
  · show Steps p.tables e below (T39.setTop (mkF m 217 #[.val (.long q0), .second, .val (.long q1), .second, .val (.long q2), .second, .val (.long q3), .second, .val (.long q4), .second, .val (.int p5), .val (.int (own_N q0 q1 q2 q3 q4 p5)), .val (.int (own_P q0 q1 q2 q3 q4 p5)), .val (.ref b1), .val (.int (own_K q0 q1 q2 q3 q4 p5)), .unset, .unset] [])) _
    refine XS.iload X39.here hx rfl (hb hby at_217) rfl ?_
    show Steps p.tables e below (T39.setTop (mkF m 219 #[.val (.long q0), .second, .val (.long q1), .second, .val (.long q2), .second, .val (.long q3), .second, .val (.long q4), .second, .val (.int p5), .val (.int (own_N q0 q1 q2 q3 q4 p5)), .val (.int (own_P q0 q1 q2 q3 q4 p5)), .val (.ref b1), .val (.int (own_K q0 q1 q2 q3 q4 p5)), .unset, .unset] [(.int (own_N q0 q1 q2 q3 q4 p5))])) _
    refine XS.iload X39.here hx rfl (hb hby at_219) rfl ?_
    show Steps p.tables e below (T39.setTop (mkF m 221 #[.val (.long q0), .second, .val (.long q1), .second, .val (.long q2), .second, .val (.long q3), .second, .val (.long q4), .second, .val (.int p5), .val (.int (own_N q0 q1 q2 q3 q4 p5)), .val (.int (own_P q0 q1 q2 q3 q4 p5)), .val (.ref b1), .val (.int (own_K q0 q1 q2 q3 q4 p5)), .unset, .unset] [(.int (own_K q0 q1 q2 q3 q4 p5)), (.int (own_N q0 q1 q2 q3 q4 p5))])) _
    refine XS.isub X39.here hx rfl (hb hby at_221) rfl ?_
    show Steps p.tables e below (T39.setTop (mkF m 222 #[.val (.long q0), .second, .val (.long q1), .second, .val (.long q2), .second, .val (.long q3), .second, .val (.long q4), .second, .val (.int p5), .val (.int (own_N q0 q1 q2 q3 q4 p5)), .val (.int (own_P q0 q1 q2 q3 q4 p5)), .val (.ref b1), .val (.int (own_K q0 q1 q2 q3 q4 p5)), .unset, .unset] [(.int ((own_N q0 q1 q2 q3 q4 p5) - (own_K q0 q1 q2 q3 q4 p5)))])) _
    refine XS.istore X39.here hx rfl (hb hby at_222) rfl (l' := #[.val (.long q0), .second, .val (.long q1), .second, .val (.long q2), .second, .val (.long q3), .second, .val (.long q4), .second, .val (.int p5), .val (.int (own_N q0 q1 q2 q3 q4 p5)), .val (.int (own_P q0 q1 q2 q3 q4 p5)), .val (.ref b1), .val (.int (own_K q0 q1 q2 q3 q4 p5)), .val (.int ((own_N q0 q1 q2 q3 q4 p5) - (own_K q0 q1 q2 q3 q4 p5))), .unset]) rfl ?_
    show Steps p.tables e below (T39.setTop (mkF m 224 #[.val (.long q0), .second, .val (.long q1), .second, .val (.long q2), .second, .val (.long q3), .second, .val (.long q4), .second, .val (.int p5), .val (.int (own_N q0 q1 q2 q3 q4 p5)), .val (.int (own_P q0 q1 q2 q3 q4 p5)), .val (.ref b1), .val (.int (own_K q0 q1 q2 q3 q4 p5)), .val (.int ((own_N q0 q1 q2 q3 q4 p5) - (own_K q0 q1 q2 q3 q4 p5))), .unset] [])) _
    refine XS.aload X39.here hx rfl (hb hby at_224) rfl rfl ?_
    show Steps p.tables e below (T39.setTop (mkF m 226 #[.val (.long q0), .second, .val (.long q1), .second, .val (.long q2), .second, .val (.long q3), .second, .val (.long q4), .second, .val (.int p5), .val (.int (own_N q0 q1 q2 q3 q4 p5)), .val (.int (own_P q0 q1 q2 q3 q4 p5)), .val (.ref b1), .val (.int (own_K q0 q1 q2 q3 q4 p5)), .val (.int ((own_N q0 q1 q2 q3 q4 p5) - (own_K q0 q1 q2 q3 q4 p5))), .unset] [(.ref b1)])) _
    exact k
  obtain ⟨cq50, kq50, q50a, q50b, q50c⟩ := isOf hZ rfl fc40
  obtain ⟨_, _, ⟨T50, Lq50, kq50, nq50⟩, -, X50, ⟨Lc50, hQ50, lq50, yq50, zq50⟩, st50⟩ := X39.virtualBack hx (y := (⟨"com/example/lid_on_load/lidonload/limit/TimeRing", "size", "()I"⟩ : MethodName)) (z := (⟨"com/example/lid_on_load/lidonload/limit/TimeRing", "size", "()I"⟩ : MethodName)) hown (mvT hZ (hw _ (List.mem_of_getElem? (i := 20) rfl))) (mvT hZ (hw _ (List.mem_of_getElem? (i := 21) rfl))) (notFace_of_selects (args := #[]) (mvT hZ (hw _ (List.mem_of_getElem? (i := 23) rfl)))) (mvT hZ (hw _ (List.mem_of_getElem? (i := 23) rfl))) (mvT hZ (hw _ (List.mem_of_getElem? (i := 22) rfl))) (by decide) (backOf (W := 0) (own_rm3 l Z a0 hw [] b1 (sz'_39) T39.heap n0 Zs39 p39_2) hZ (hw _ (List.mem_of_getElem? (i := 24) rfl)) (hw _ (List.mem_of_getElem? (i := 2) rfl)) (by decide) (by decide)) q50a q50c (g := (mkF m 226 #[.val (.long q0), .second, .val (.long q1), .second, .val (.long q2), .second, .val (.long q3), .second, .val (.long q4), .second, .val (.int p5), .val (.int (own_N q0 q1 q2 q3 q4 p5)), .val (.int (own_P q0 q1 q2 q3 q4 p5)), .val (.ref b1), .val (.int (own_K q0 q1 q2 q3 q4 p5)), .val (.int ((own_N q0 q1 q2 q3 q4 p5) - (own_K q0 q1 q2 q3 q4 p5))), .unset] [(.ref b1)])) rfl (by rw [hml]; rfl) (Steps.refl _) (argsL := []) (rest := []) (lenOf own_pd3 rfl) rfl (by show 2 * 0 + _ ≤ _; exact Nat.le_of_eq rfl) (hb hby at_226) (fun _ _ => ⟨rfl, rfl, (by decide : 2 + 0 ≤ _), (by decide : 7 + 0 ≤ _)⟩)
  dsimp only [Pt.U, Pt.locs, Pt.cells, Pt.slots] at X50 lq50 yq50 zq50 st50 hQ50
  subst lq50 yq50 zq50
  obtain ⟨rfl, N50q, h50q⟩ := hQ50
  have N50 := Fr.app N39 N50q
  refine own_go (T' := T50) (f' := (mkF m 229 #[.val (.long q0), .second, .val (.long q1), .second, .val (.long q2), .second, .val (.long q3), .second, .val (.long q4), .second, .val (.int p5), .val (.int (own_N q0 q1 q2 q3 q4 p5)), .val (.int (own_P q0 q1 q2 q3 q4 p5)), .val (.ref b1), .val (.int (own_K q0 q1 q2 q3 q4 p5)), .val (.int ((own_N q0 q1 q2 q3 q4 p5) - (own_K q0 q1 q2 q3 q4 p5))), .unset] [(.int sz'_39)])) (fun t k => st50.trans k) ?_
  refine own_go (T' := T50) (f' := (mkF m 237 #[.val (.long q0), .second, .val (.long q1), .second, .val (.long q2), .second, .val (.long q3), .second, .val (.long q4), .second, .val (.int p5), .val (.int (own_N q0 q1 q2 q3 q4 p5)), .val (.int (own_P q0 q1 q2 q3 q4 p5)), .val (.ref b1), .val (.int (own_K q0 q1 q2 q3 q4 p5)), .val (.int ((own_N q0 q1 q2 q3 q4 p5) - (own_K q0 q1 q2 q3 q4 p5))), .unset] [(.int (4 : Int32))])) (fun t k => ?_) ?_
  · show Steps p.tables e below (T50.setTop (mkF m 229 #[.val (.long q0), .second, .val (.long q1), .second, .val (.long q2), .second, .val (.long q3), .second, .val (.long q4), .second, .val (.int p5), .val (.int (own_N q0 q1 q2 q3 q4 p5)), .val (.int (own_P q0 q1 q2 q3 q4 p5)), .val (.ref b1), .val (.int (own_K q0 q1 q2 q3 q4 p5)), .val (.int ((own_N q0 q1 q2 q3 q4 p5) - (own_K q0 q1 q2 q3 q4 p5))), .unset] [(.int sz'_39)])) _
    refine XS.iload X50.here hx rfl (hb hby at_229) rfl ?_
    show Steps p.tables e below (T50.setTop (mkF m 231 #[.val (.long q0), .second, .val (.long q1), .second, .val (.long q2), .second, .val (.long q3), .second, .val (.long q4), .second, .val (.int p5), .val (.int (own_N q0 q1 q2 q3 q4 p5)), .val (.int (own_P q0 q1 q2 q3 q4 p5)), .val (.ref b1), .val (.int (own_K q0 q1 q2 q3 q4 p5)), .val (.int ((own_N q0 q1 q2 q3 q4 p5) - (own_K q0 q1 q2 q3 q4 p5))), .unset] [(.int ((own_N q0 q1 q2 q3 q4 p5) - (own_K q0 q1 q2 q3 q4 p5))), (.int sz'_39)])) _
    refine XS.icmpYes X50.here hx rfl (pc0 := 231) (pc' := 236) rfl (hb hby at_231) rfl (teq hE.1).1 (by decide) (by decide) ?_
    show Steps p.tables e below (T50.setTop (mkF m 236 #[.val (.long q0), .second, .val (.long q1), .second, .val (.long q2), .second, .val (.long q3), .second, .val (.long q4), .second, .val (.int p5), .val (.int (own_N q0 q1 q2 q3 q4 p5)), .val (.int (own_P q0 q1 q2 q3 q4 p5)), .val (.ref b1), .val (.int (own_K q0 q1 q2 q3 q4 p5)), .val (.int ((own_N q0 q1 q2 q3 q4 p5) - (own_K q0 q1 q2 q3 q4 p5))), .unset] [])) _
    refine XS.iconst X50.here hx rfl (hb hby at_236) ?_
    show Steps p.tables e below (T50.setTop (mkF m 237 #[.val (.long q0), .second, .val (.long q1), .second, .val (.long q2), .second, .val (.long q3), .second, .val (.long q4), .second, .val (.int p5), .val (.int (own_N q0 q1 q2 q3 q4 p5)), .val (.int (own_P q0 q1 q2 q3 q4 p5)), .val (.ref b1), .val (.int (own_K q0 q1 q2 q3 q4 p5)), .val (.int ((own_N q0 q1 q2 q3 q4 p5) - (own_K q0 q1 q2 q3 q4 p5))), .unset] [(.int (4 : Int32))])) _
    exact k
  obtain ⟨T51, h51, k51, X51, e51, E51, A51, st51⟩ := newP X50 hx hZ (hw _ (List.mem_of_getElem? (i := 9) rfl)) h50q (g := (mkF m 237 #[.val (.long q0), .second, .val (.long q1), .second, .val (.long q2), .second, .val (.long q3), .second, .val (.long q4), .second, .val (.int p5), .val (.int (own_N q0 q1 q2 q3 q4 p5)), .val (.int (own_P q0 q1 q2 q3 q4 p5)), .val (.ref b1), .val (.int (own_K q0 q1 q2 q3 q4 p5)), .val (.int ((own_N q0 q1 q2 q3 q4 p5) - (own_K q0 q1 q2 q3 q4 p5))), .unset] [(.int (4 : Int32))])) rfl (hb hby at_237) rfl (by decide) (cap := 4) (by decide) (by decide) (by decide) (by decide)
  obtain ⟨b51, g51⟩ : ∃ z, z = T39.heap.size := ⟨_, rfl⟩
  rw [← g51] at A51 st51
  have ne_b1_b51 : b1 ≠ b51 := Nat.ne_of_lt (Nat.lt_of_lt_of_le fc40.lt (Nat.le_of_eq g51.symm))
  have ne_br_5_b51 : br_5 ≠ b51 := Nat.ne_of_lt (Nat.lt_of_lt_of_le fc41.lt (Nat.le_of_eq g51.symm))
  have g_b51 : n0 ≤ b51 := Nat.le_trans Zs39 (Nat.le_of_eq g51.symm)
  refine own_go (T' := T51) (f' := (mkF m 239 #[.val (.long q0), .second, .val (.long q1), .second, .val (.long q2), .second, .val (.long q3), .second, .val (.long q4), .second, .val (.int p5), .val (.int (own_N q0 q1 q2 q3 q4 p5)), .val (.int (own_P q0 q1 q2 q3 q4 p5)), .val (.ref b1), .val (.int (own_K q0 q1 q2 q3 q4 p5)), .val (.int ((own_N q0 q1 q2 q3 q4 p5) - (own_K q0 q1 q2 q3 q4 p5))), .unset] [(.ref b51)])) st51 ?_
  have fc52 : Exa Z h51 b1 "com/example/lid_on_load/lidonload/limit/TimeRing" := fc40.ext E51
  have fc53 : own_ArJ Z h51 br_5 .long (4 : Int32) f_35 := fc41.ext E51
  have fc54 : Fld Z h51 b1 "com/example/lid_on_load/lidonload/limit/TimeRing" "times" "[J" (.ref br_5) := p39_0.ext E51
  have fc55 : Fld Z h51 b1 "com/example/lid_on_load/lidonload/limit/TimeRing" "head" "I" (.int hd'_39) := p39_1.ext E51
  have fc56 : Fld Z h51 b1 "com/example/lid_on_load/lidonload/limit/TimeRing" "size" "I" (.int sz'_39) := p39_2.ext E51
  have Zs51 : n0 ≤ h51.size := Nat.le_trans Zs39 E51.1
  have V51 : own_ArJ Z h51 b51 .long (4 : Int32) (fun _ => 0) := own_ArJ.new A51 (by decide) rfl
  refine own_go (T' := T51) (f' := (mkF m 242 #[.val (.long q0), .second, .val (.long q1), .second, .val (.long q2), .second, .val (.long q3), .second, .val (.long q4), .second, .val (.int p5), .val (.int (own_N q0 q1 q2 q3 q4 p5)), .val (.int (own_P q0 q1 q2 q3 q4 p5)), .val (.ref b1), .val (.int (own_K q0 q1 q2 q3 q4 p5)), .val (.int ((own_N q0 q1 q2 q3 q4 p5) - (own_K q0 q1 q2 q3 q4 p5))), .unset] [(.long q0), (.int (0 : Int32)), (.ref b51), (.ref b51)])) (fun t k => ?_) ?_
  · show Steps p.tables e below (T51.setTop (mkF m 239 #[.val (.long q0), .second, .val (.long q1), .second, .val (.long q2), .second, .val (.long q3), .second, .val (.long q4), .second, .val (.int p5), .val (.int (own_N q0 q1 q2 q3 q4 p5)), .val (.int (own_P q0 q1 q2 q3 q4 p5)), .val (.ref b1), .val (.int (own_K q0 q1 q2 q3 q4 p5)), .val (.int ((own_N q0 q1 q2 q3 q4 p5) - (own_K q0 q1 q2 q3 q4 p5))), .unset] [(.ref b51)])) _
    refine XS.dup X51.here hx rfl (hb hby at_239) rfl rfl ?_
    show Steps p.tables e below (T51.setTop (mkF m 240 #[.val (.long q0), .second, .val (.long q1), .second, .val (.long q2), .second, .val (.long q3), .second, .val (.long q4), .second, .val (.int p5), .val (.int (own_N q0 q1 q2 q3 q4 p5)), .val (.int (own_P q0 q1 q2 q3 q4 p5)), .val (.ref b1), .val (.int (own_K q0 q1 q2 q3 q4 p5)), .val (.int ((own_N q0 q1 q2 q3 q4 p5) - (own_K q0 q1 q2 q3 q4 p5))), .unset] [(.ref b51), (.ref b51)])) _
    refine XS.iconst X51.here hx rfl (hb hby at_240) ?_
    show Steps p.tables e below (T51.setTop (mkF m 241 #[.val (.long q0), .second, .val (.long q1), .second, .val (.long q2), .second, .val (.long q3), .second, .val (.long q4), .second, .val (.int p5), .val (.int (own_N q0 q1 q2 q3 q4 p5)), .val (.int (own_P q0 q1 q2 q3 q4 p5)), .val (.ref b1), .val (.int (own_K q0 q1 q2 q3 q4 p5)), .val (.int ((own_N q0 q1 q2 q3 q4 p5) - (own_K q0 q1 q2 q3 q4 p5))), .unset] [(.int (0 : Int32)), (.ref b51), (.ref b51)])) _
    refine XS.lloadN X51.here hx rfl (hb hby at_241) rfl ?_
    show Steps p.tables e below (T51.setTop (mkF m 242 #[.val (.long q0), .second, .val (.long q1), .second, .val (.long q2), .second, .val (.long q3), .second, .val (.long q4), .second, .val (.int p5), .val (.int (own_N q0 q1 q2 q3 q4 p5)), .val (.int (own_P q0 q1 q2 q3 q4 p5)), .val (.ref b1), .val (.int (own_K q0 q1 q2 q3 q4 p5)), .val (.int ((own_N q0 q1 q2 q3 q4 p5) - (own_K q0 q1 q2 q3 q4 p5))), .unset] [(.long q0), (.int (0 : Int32)), (.ref b51), (.ref b51)])) _
    exact k
  obtain ⟨T57, h57, y57, X57, e57, W57, V57, ya57, yb57, st57⟩ := own_stJ X51 hx hZ e51 V51 (j := (0 : Int32)) (x := q0) (by decide) (by decide) (g := (mkF m 242 #[.val (.long q0), .second, .val (.long q1), .second, .val (.long q2), .second, .val (.long q3), .second, .val (.long q4), .second, .val (.int p5), .val (.int (own_N q0 q1 q2 q3 q4 p5)), .val (.int (own_P q0 q1 q2 q3 q4 p5)), .val (.ref b1), .val (.int (own_K q0 q1 q2 q3 q4 p5)), .val (.int ((own_N q0 q1 q2 q3 q4 p5) - (own_K q0 q1 q2 q3 q4 p5))), .unset] [(.long q0), (.int (0 : Int32)), (.ref b51), (.ref b51)])) rfl rfl (hb hby at_242)
  refine own_go (T' := T57) (f' := (mkF m 243 #[.val (.long q0), .second, .val (.long q1), .second, .val (.long q2), .second, .val (.long q3), .second, .val (.long q4), .second, .val (.int p5), .val (.int (own_N q0 q1 q2 q3 q4 p5)), .val (.int (own_P q0 q1 q2 q3 q4 p5)), .val (.ref b1), .val (.int (own_K q0 q1 q2 q3 q4 p5)), .val (.int ((own_N q0 q1 q2 q3 q4 p5) - (own_K q0 q1 q2 q3 q4 p5))), .unset] [(.ref b51)])) st57 ?_
  have fc58 : Exa Z h57 b1 "com/example/lid_on_load/lidonload/limit/TimeRing" := fc52.wr W57
  have fc59 : own_ArJ Z h57 br_5 .long (4 : Int32) f_35 := fc53.other W57 ne_br_5_b51
  have fc60 : Fld Z h57 b1 "com/example/lid_on_load/lidonload/limit/TimeRing" "times" "[J" (.ref br_5) := fc54.other W57 (Or.inl ne_b1_b51)
  have fc61 : Fld Z h57 b1 "com/example/lid_on_load/lidonload/limit/TimeRing" "head" "I" (.int hd'_39) := fc55.other W57 (Or.inl ne_b1_b51)
  have fc62 : Fld Z h57 b1 "com/example/lid_on_load/lidonload/limit/TimeRing" "size" "I" (.int sz'_39) := fc56.other W57 (Or.inl ne_b1_b51)
  have fc63 : own_ArJ Z h57 b51 .long (4 : Int32) y57 := V57
  have Zs57 : n0 ≤ h57.size := Nat.le_trans Zs51 (Keep.of_wr W57).1
  have N57 := Fr.snoc X57 N50 g_b51
  have ya57' : y57 0 = q0 := ya57
  have yb57' : ∀ i, i ≠ 0 → y57 i = (fun _ => 0) i := yb57
  refine own_go (T' := T57) (f' := (mkF m 246 #[.val (.long q0), .second, .val (.long q1), .second, .val (.long q2), .second, .val (.long q3), .second, .val (.long q4), .second, .val (.int p5), .val (.int (own_N q0 q1 q2 q3 q4 p5)), .val (.int (own_P q0 q1 q2 q3 q4 p5)), .val (.ref b1), .val (.int (own_K q0 q1 q2 q3 q4 p5)), .val (.int ((own_N q0 q1 q2 q3 q4 p5) - (own_K q0 q1 q2 q3 q4 p5))), .unset] [(.long q1), (.int (1 : Int32)), (.ref b51), (.ref b51)])) (fun t k => ?_) ?_
  · show Steps p.tables e below (T57.setTop (mkF m 243 #[.val (.long q0), .second, .val (.long q1), .second, .val (.long q2), .second, .val (.long q3), .second, .val (.long q4), .second, .val (.int p5), .val (.int (own_N q0 q1 q2 q3 q4 p5)), .val (.int (own_P q0 q1 q2 q3 q4 p5)), .val (.ref b1), .val (.int (own_K q0 q1 q2 q3 q4 p5)), .val (.int ((own_N q0 q1 q2 q3 q4 p5) - (own_K q0 q1 q2 q3 q4 p5))), .unset] [(.ref b51)])) _
    refine XS.dup X57.here hx rfl (hb hby at_243) rfl rfl ?_
    show Steps p.tables e below (T57.setTop (mkF m 244 #[.val (.long q0), .second, .val (.long q1), .second, .val (.long q2), .second, .val (.long q3), .second, .val (.long q4), .second, .val (.int p5), .val (.int (own_N q0 q1 q2 q3 q4 p5)), .val (.int (own_P q0 q1 q2 q3 q4 p5)), .val (.ref b1), .val (.int (own_K q0 q1 q2 q3 q4 p5)), .val (.int ((own_N q0 q1 q2 q3 q4 p5) - (own_K q0 q1 q2 q3 q4 p5))), .unset] [(.ref b51), (.ref b51)])) _
    refine XS.iconst X57.here hx rfl (hb hby at_244) ?_
    show Steps p.tables e below (T57.setTop (mkF m 245 #[.val (.long q0), .second, .val (.long q1), .second, .val (.long q2), .second, .val (.long q3), .second, .val (.long q4), .second, .val (.int p5), .val (.int (own_N q0 q1 q2 q3 q4 p5)), .val (.int (own_P q0 q1 q2 q3 q4 p5)), .val (.ref b1), .val (.int (own_K q0 q1 q2 q3 q4 p5)), .val (.int ((own_N q0 q1 q2 q3 q4 p5) - (own_K q0 q1 q2 q3 q4 p5))), .unset] [(.int (1 : Int32)), (.ref b51), (.ref b51)])) _
    refine XS.lloadN X57.here hx rfl (hb hby at_245) rfl ?_
    show Steps p.tables e below (T57.setTop (mkF m 246 #[.val (.long q0), .second, .val (.long q1), .second, .val (.long q2), .second, .val (.long q3), .second, .val (.long q4), .second, .val (.int p5), .val (.int (own_N q0 q1 q2 q3 q4 p5)), .val (.int (own_P q0 q1 q2 q3 q4 p5)), .val (.ref b1), .val (.int (own_K q0 q1 q2 q3 q4 p5)), .val (.int ((own_N q0 q1 q2 q3 q4 p5) - (own_K q0 q1 q2 q3 q4 p5))), .unset] [(.long q1), (.int (1 : Int32)), (.ref b51), (.ref b51)])) _
    exact k
  obtain ⟨T64, h64, y64, X64, e64, W64, V64, ya64, yb64, st64⟩ := own_stJ X57 hx hZ e57 fc63 (j := (1 : Int32)) (x := q1) (by decide) (by decide) (g := (mkF m 246 #[.val (.long q0), .second, .val (.long q1), .second, .val (.long q2), .second, .val (.long q3), .second, .val (.long q4), .second, .val (.int p5), .val (.int (own_N q0 q1 q2 q3 q4 p5)), .val (.int (own_P q0 q1 q2 q3 q4 p5)), .val (.ref b1), .val (.int (own_K q0 q1 q2 q3 q4 p5)), .val (.int ((own_N q0 q1 q2 q3 q4 p5) - (own_K q0 q1 q2 q3 q4 p5))), .unset] [(.long q1), (.int (1 : Int32)), (.ref b51), (.ref b51)])) rfl rfl (hb hby at_246)
  refine own_go (T' := T64) (f' := (mkF m 247 #[.val (.long q0), .second, .val (.long q1), .second, .val (.long q2), .second, .val (.long q3), .second, .val (.long q4), .second, .val (.int p5), .val (.int (own_N q0 q1 q2 q3 q4 p5)), .val (.int (own_P q0 q1 q2 q3 q4 p5)), .val (.ref b1), .val (.int (own_K q0 q1 q2 q3 q4 p5)), .val (.int ((own_N q0 q1 q2 q3 q4 p5) - (own_K q0 q1 q2 q3 q4 p5))), .unset] [(.ref b51)])) st64 ?_
  have fc65 : Exa Z h64 b1 "com/example/lid_on_load/lidonload/limit/TimeRing" := fc58.wr W64
  have fc66 : own_ArJ Z h64 br_5 .long (4 : Int32) f_35 := fc59.other W64 ne_br_5_b51
  have fc67 : Fld Z h64 b1 "com/example/lid_on_load/lidonload/limit/TimeRing" "times" "[J" (.ref br_5) := fc60.other W64 (Or.inl ne_b1_b51)
  have fc68 : Fld Z h64 b1 "com/example/lid_on_load/lidonload/limit/TimeRing" "head" "I" (.int hd'_39) := fc61.other W64 (Or.inl ne_b1_b51)
  have fc69 : Fld Z h64 b1 "com/example/lid_on_load/lidonload/limit/TimeRing" "size" "I" (.int sz'_39) := fc62.other W64 (Or.inl ne_b1_b51)
  have fc70 : own_ArJ Z h64 b51 .long (4 : Int32) y64 := V64
  have Zs64 : n0 ≤ h64.size := Nat.le_trans Zs57 (Keep.of_wr W64).1
  have N64 := Fr.snoc X64 N57 g_b51
  have ya64' : y64 1 = q1 := ya64
  have yb64' : ∀ i, i ≠ 1 → y64 i = y57 i := yb64
  refine own_go (T' := T64) (f' := (mkF m 251 #[.val (.long q0), .second, .val (.long q1), .second, .val (.long q2), .second, .val (.long q3), .second, .val (.long q4), .second, .val (.int p5), .val (.int (own_N q0 q1 q2 q3 q4 p5)), .val (.int (own_P q0 q1 q2 q3 q4 p5)), .val (.ref b1), .val (.int (own_K q0 q1 q2 q3 q4 p5)), .val (.int ((own_N q0 q1 q2 q3 q4 p5) - (own_K q0 q1 q2 q3 q4 p5))), .unset] [(.long q2), (.int (2 : Int32)), (.ref b51), (.ref b51)])) (fun t k => ?_) ?_
  · show Steps p.tables e below (T64.setTop (mkF m 247 #[.val (.long q0), .second, .val (.long q1), .second, .val (.long q2), .second, .val (.long q3), .second, .val (.long q4), .second, .val (.int p5), .val (.int (own_N q0 q1 q2 q3 q4 p5)), .val (.int (own_P q0 q1 q2 q3 q4 p5)), .val (.ref b1), .val (.int (own_K q0 q1 q2 q3 q4 p5)), .val (.int ((own_N q0 q1 q2 q3 q4 p5) - (own_K q0 q1 q2 q3 q4 p5))), .unset] [(.ref b51)])) _
    refine XS.dup X64.here hx rfl (hb hby at_247) rfl rfl ?_
    show Steps p.tables e below (T64.setTop (mkF m 248 #[.val (.long q0), .second, .val (.long q1), .second, .val (.long q2), .second, .val (.long q3), .second, .val (.long q4), .second, .val (.int p5), .val (.int (own_N q0 q1 q2 q3 q4 p5)), .val (.int (own_P q0 q1 q2 q3 q4 p5)), .val (.ref b1), .val (.int (own_K q0 q1 q2 q3 q4 p5)), .val (.int ((own_N q0 q1 q2 q3 q4 p5) - (own_K q0 q1 q2 q3 q4 p5))), .unset] [(.ref b51), (.ref b51)])) _
    refine XS.iconst X64.here hx rfl (hb hby at_248) ?_
    show Steps p.tables e below (T64.setTop (mkF m 249 #[.val (.long q0), .second, .val (.long q1), .second, .val (.long q2), .second, .val (.long q3), .second, .val (.long q4), .second, .val (.int p5), .val (.int (own_N q0 q1 q2 q3 q4 p5)), .val (.int (own_P q0 q1 q2 q3 q4 p5)), .val (.ref b1), .val (.int (own_K q0 q1 q2 q3 q4 p5)), .val (.int ((own_N q0 q1 q2 q3 q4 p5) - (own_K q0 q1 q2 q3 q4 p5))), .unset] [(.int (2 : Int32)), (.ref b51), (.ref b51)])) _
    refine XS.lload X64.here hx rfl (hb hby at_249) rfl ?_
    show Steps p.tables e below (T64.setTop (mkF m 251 #[.val (.long q0), .second, .val (.long q1), .second, .val (.long q2), .second, .val (.long q3), .second, .val (.long q4), .second, .val (.int p5), .val (.int (own_N q0 q1 q2 q3 q4 p5)), .val (.int (own_P q0 q1 q2 q3 q4 p5)), .val (.ref b1), .val (.int (own_K q0 q1 q2 q3 q4 p5)), .val (.int ((own_N q0 q1 q2 q3 q4 p5) - (own_K q0 q1 q2 q3 q4 p5))), .unset] [(.long q2), (.int (2 : Int32)), (.ref b51), (.ref b51)])) _
    exact k
  obtain ⟨T71, h71, y71, X71, e71, W71, V71, ya71, yb71, st71⟩ := own_stJ X64 hx hZ e64 fc70 (j := (2 : Int32)) (x := q2) (by decide) (by decide) (g := (mkF m 251 #[.val (.long q0), .second, .val (.long q1), .second, .val (.long q2), .second, .val (.long q3), .second, .val (.long q4), .second, .val (.int p5), .val (.int (own_N q0 q1 q2 q3 q4 p5)), .val (.int (own_P q0 q1 q2 q3 q4 p5)), .val (.ref b1), .val (.int (own_K q0 q1 q2 q3 q4 p5)), .val (.int ((own_N q0 q1 q2 q3 q4 p5) - (own_K q0 q1 q2 q3 q4 p5))), .unset] [(.long q2), (.int (2 : Int32)), (.ref b51), (.ref b51)])) rfl rfl (hb hby at_251)
  refine own_go (T' := T71) (f' := (mkF m 252 #[.val (.long q0), .second, .val (.long q1), .second, .val (.long q2), .second, .val (.long q3), .second, .val (.long q4), .second, .val (.int p5), .val (.int (own_N q0 q1 q2 q3 q4 p5)), .val (.int (own_P q0 q1 q2 q3 q4 p5)), .val (.ref b1), .val (.int (own_K q0 q1 q2 q3 q4 p5)), .val (.int ((own_N q0 q1 q2 q3 q4 p5) - (own_K q0 q1 q2 q3 q4 p5))), .unset] [(.ref b51)])) st71 ?_
  have fc72 : Exa Z h71 b1 "com/example/lid_on_load/lidonload/limit/TimeRing" := fc65.wr W71
  have fc73 : own_ArJ Z h71 br_5 .long (4 : Int32) f_35 := fc66.other W71 ne_br_5_b51
  have fc74 : Fld Z h71 b1 "com/example/lid_on_load/lidonload/limit/TimeRing" "times" "[J" (.ref br_5) := fc67.other W71 (Or.inl ne_b1_b51)
  have fc75 : Fld Z h71 b1 "com/example/lid_on_load/lidonload/limit/TimeRing" "head" "I" (.int hd'_39) := fc68.other W71 (Or.inl ne_b1_b51)
  have fc76 : Fld Z h71 b1 "com/example/lid_on_load/lidonload/limit/TimeRing" "size" "I" (.int sz'_39) := fc69.other W71 (Or.inl ne_b1_b51)
  have fc77 : own_ArJ Z h71 b51 .long (4 : Int32) y71 := V71
  have Zs71 : n0 ≤ h71.size := Nat.le_trans Zs64 (Keep.of_wr W71).1
  have N71 := Fr.snoc X71 N64 g_b51
  have ya71' : y71 2 = q2 := ya71
  have yb71' : ∀ i, i ≠ 2 → y71 i = y64 i := yb71
  refine own_go (T' := T71) (f' := (mkF m 256 #[.val (.long q0), .second, .val (.long q1), .second, .val (.long q2), .second, .val (.long q3), .second, .val (.long q4), .second, .val (.int p5), .val (.int (own_N q0 q1 q2 q3 q4 p5)), .val (.int (own_P q0 q1 q2 q3 q4 p5)), .val (.ref b1), .val (.int (own_K q0 q1 q2 q3 q4 p5)), .val (.int ((own_N q0 q1 q2 q3 q4 p5) - (own_K q0 q1 q2 q3 q4 p5))), .unset] [(.long q3), (.int (3 : Int32)), (.ref b51), (.ref b51)])) (fun t k => ?_) ?_
  · show Steps p.tables e below (T71.setTop (mkF m 252 #[.val (.long q0), .second, .val (.long q1), .second, .val (.long q2), .second, .val (.long q3), .second, .val (.long q4), .second, .val (.int p5), .val (.int (own_N q0 q1 q2 q3 q4 p5)), .val (.int (own_P q0 q1 q2 q3 q4 p5)), .val (.ref b1), .val (.int (own_K q0 q1 q2 q3 q4 p5)), .val (.int ((own_N q0 q1 q2 q3 q4 p5) - (own_K q0 q1 q2 q3 q4 p5))), .unset] [(.ref b51)])) _
    refine XS.dup X71.here hx rfl (hb hby at_252) rfl rfl ?_
    show Steps p.tables e below (T71.setTop (mkF m 253 #[.val (.long q0), .second, .val (.long q1), .second, .val (.long q2), .second, .val (.long q3), .second, .val (.long q4), .second, .val (.int p5), .val (.int (own_N q0 q1 q2 q3 q4 p5)), .val (.int (own_P q0 q1 q2 q3 q4 p5)), .val (.ref b1), .val (.int (own_K q0 q1 q2 q3 q4 p5)), .val (.int ((own_N q0 q1 q2 q3 q4 p5) - (own_K q0 q1 q2 q3 q4 p5))), .unset] [(.ref b51), (.ref b51)])) _
    refine XS.iconst X71.here hx rfl (hb hby at_253) ?_
    show Steps p.tables e below (T71.setTop (mkF m 254 #[.val (.long q0), .second, .val (.long q1), .second, .val (.long q2), .second, .val (.long q3), .second, .val (.long q4), .second, .val (.int p5), .val (.int (own_N q0 q1 q2 q3 q4 p5)), .val (.int (own_P q0 q1 q2 q3 q4 p5)), .val (.ref b1), .val (.int (own_K q0 q1 q2 q3 q4 p5)), .val (.int ((own_N q0 q1 q2 q3 q4 p5) - (own_K q0 q1 q2 q3 q4 p5))), .unset] [(.int (3 : Int32)), (.ref b51), (.ref b51)])) _
    refine XS.lload X71.here hx rfl (hb hby at_254) rfl ?_
    show Steps p.tables e below (T71.setTop (mkF m 256 #[.val (.long q0), .second, .val (.long q1), .second, .val (.long q2), .second, .val (.long q3), .second, .val (.long q4), .second, .val (.int p5), .val (.int (own_N q0 q1 q2 q3 q4 p5)), .val (.int (own_P q0 q1 q2 q3 q4 p5)), .val (.ref b1), .val (.int (own_K q0 q1 q2 q3 q4 p5)), .val (.int ((own_N q0 q1 q2 q3 q4 p5) - (own_K q0 q1 q2 q3 q4 p5))), .unset] [(.long q3), (.int (3 : Int32)), (.ref b51), (.ref b51)])) _
    exact k
  obtain ⟨T78, h78, y78, X78, e78, W78, V78, ya78, yb78, st78⟩ := own_stJ X71 hx hZ e71 fc77 (j := (3 : Int32)) (x := q3) (by decide) (by decide) (g := (mkF m 256 #[.val (.long q0), .second, .val (.long q1), .second, .val (.long q2), .second, .val (.long q3), .second, .val (.long q4), .second, .val (.int p5), .val (.int (own_N q0 q1 q2 q3 q4 p5)), .val (.int (own_P q0 q1 q2 q3 q4 p5)), .val (.ref b1), .val (.int (own_K q0 q1 q2 q3 q4 p5)), .val (.int ((own_N q0 q1 q2 q3 q4 p5) - (own_K q0 q1 q2 q3 q4 p5))), .unset] [(.long q3), (.int (3 : Int32)), (.ref b51), (.ref b51)])) rfl rfl (hb hby at_256)
  refine own_go (T' := T78) (f' := (mkF m 257 #[.val (.long q0), .second, .val (.long q1), .second, .val (.long q2), .second, .val (.long q3), .second, .val (.long q4), .second, .val (.int p5), .val (.int (own_N q0 q1 q2 q3 q4 p5)), .val (.int (own_P q0 q1 q2 q3 q4 p5)), .val (.ref b1), .val (.int (own_K q0 q1 q2 q3 q4 p5)), .val (.int ((own_N q0 q1 q2 q3 q4 p5) - (own_K q0 q1 q2 q3 q4 p5))), .unset] [(.ref b51)])) st78 ?_
  have fc79 : Exa Z h78 b1 "com/example/lid_on_load/lidonload/limit/TimeRing" := fc72.wr W78
  have fc80 : own_ArJ Z h78 br_5 .long (4 : Int32) f_35 := fc73.other W78 ne_br_5_b51
  have fc81 : Fld Z h78 b1 "com/example/lid_on_load/lidonload/limit/TimeRing" "times" "[J" (.ref br_5) := fc74.other W78 (Or.inl ne_b1_b51)
  have fc82 : Fld Z h78 b1 "com/example/lid_on_load/lidonload/limit/TimeRing" "head" "I" (.int hd'_39) := fc75.other W78 (Or.inl ne_b1_b51)
  have fc83 : Fld Z h78 b1 "com/example/lid_on_load/lidonload/limit/TimeRing" "size" "I" (.int sz'_39) := fc76.other W78 (Or.inl ne_b1_b51)
  have fc84 : own_ArJ Z h78 b51 .long (4 : Int32) y78 := V78
  have Zs78 : n0 ≤ h78.size := Nat.le_trans Zs71 (Keep.of_wr W78).1
  have N78 := Fr.snoc X78 N71 g_b51
  have ya78' : y78 3 = q3 := ya78
  have yb78' : ∀ i, i ≠ 3 → y78 i = y71 i := yb78
  have htt : ∀ i, i < 4 → y78 i = own_g q0 q1 q2 q3 q4 p5 i := by
    intro i hi
    by_cases c3 : i = 3
    · rw [c3, ya78']; rfl
    rw [yb78' i c3]
    by_cases c2 : i = 2
    · rw [c2, ya71']; rfl
    rw [yb71' i c2]
    by_cases c1 : i = 1
    · rw [c1, ya64']; rfl
    rw [yb64' i c1]
    by_cases c0 : i = 0
    · rw [c0, ya57']; rfl
    rw [yb57' i c0]
    omega
  refine own_go (T' := T78) (f' := (mkF m 261 #[.val (.long q0), .second, .val (.long q1), .second, .val (.long q2), .second, .val (.long q3), .second, .val (.long q4), .second, .val (.int p5), .val (.int (own_N q0 q1 q2 q3 q4 p5)), .val (.int (own_P q0 q1 q2 q3 q4 p5)), .val (.ref b1), .val (.int (own_K q0 q1 q2 q3 q4 p5)), .val (.int ((own_N q0 q1 q2 q3 q4 p5) - (own_K q0 q1 q2 q3 q4 p5))), .val (.ref b51)] [(.int ((own_N q0 q1 q2 q3 q4 p5) - (own_K q0 q1 q2 q3 q4 p5)))])) (fun t k => ?_) ?_
  · show Steps p.tables e below (T78.setTop (mkF m 257 #[.val (.long q0), .second, .val (.long q1), .second, .val (.long q2), .second, .val (.long q3), .second, .val (.long q4), .second, .val (.int p5), .val (.int (own_N q0 q1 q2 q3 q4 p5)), .val (.int (own_P q0 q1 q2 q3 q4 p5)), .val (.ref b1), .val (.int (own_K q0 q1 q2 q3 q4 p5)), .val (.int ((own_N q0 q1 q2 q3 q4 p5) - (own_K q0 q1 q2 q3 q4 p5))), .unset] [(.ref b51)])) _
    refine XS.astore X78.here hx rfl (hb hby at_257) rfl rfl (l' := #[.val (.long q0), .second, .val (.long q1), .second, .val (.long q2), .second, .val (.long q3), .second, .val (.long q4), .second, .val (.int p5), .val (.int (own_N q0 q1 q2 q3 q4 p5)), .val (.int (own_P q0 q1 q2 q3 q4 p5)), .val (.ref b1), .val (.int (own_K q0 q1 q2 q3 q4 p5)), .val (.int ((own_N q0 q1 q2 q3 q4 p5) - (own_K q0 q1 q2 q3 q4 p5))), .val (.ref b51)]) rfl ?_
    show Steps p.tables e below (T78.setTop (mkF m 259 #[.val (.long q0), .second, .val (.long q1), .second, .val (.long q2), .second, .val (.long q3), .second, .val (.long q4), .second, .val (.int p5), .val (.int (own_N q0 q1 q2 q3 q4 p5)), .val (.int (own_P q0 q1 q2 q3 q4 p5)), .val (.ref b1), .val (.int (own_K q0 q1 q2 q3 q4 p5)), .val (.int ((own_N q0 q1 q2 q3 q4 p5) - (own_K q0 q1 q2 q3 q4 p5))), .val (.ref b51)] [])) _
    refine XS.iload X78.here hx rfl (hb hby at_259) rfl ?_
    show Steps p.tables e below (T78.setTop (mkF m 261 #[.val (.long q0), .second, .val (.long q1), .second, .val (.long q2), .second, .val (.long q3), .second, .val (.long q4), .second, .val (.int p5), .val (.int (own_N q0 q1 q2 q3 q4 p5)), .val (.int (own_P q0 q1 q2 q3 q4 p5)), .val (.ref b1), .val (.int (own_K q0 q1 q2 q3 q4 p5)), .val (.int ((own_N q0 q1 q2 q3 q4 p5) - (own_K q0 q1 q2 q3 q4 p5))), .val (.ref b51)] [(.int ((own_N q0 q1 q2 q3 q4 p5) - (own_K q0 q1 q2 q3 q4 p5)))])) _
    exact k
  by_cases hc261_85 : (0 : Int32) < ((own_N q0 q1 q2 q3 q4 p5) - (own_K q0 q1 q2 q3 q4 p5))
  · skip
    refine own_go (T' := T78) (f' := (mkF m 266 #[.val (.long q0), .second, .val (.long q1), .second, .val (.long q2), .second, .val (.long q3), .second, .val (.long q4), .second, .val (.int p5), .val (.int (own_N q0 q1 q2 q3 q4 p5)), .val (.int (own_P q0 q1 q2 q3 q4 p5)), .val (.ref b1), .val (.int (own_K q0 q1 q2 q3 q4 p5)), .val (.int ((own_N q0 q1 q2 q3 q4 p5) - (own_K q0 q1 q2 q3 q4 p5))), .val (.ref b51)] [(.ref b1)])) (fun t k => ?_) ?_
    · show Steps p.tables e below (T78.setTop (mkF m 261 #[.val (.long q0), .second, .val (.long q1), .second, .val (.long q2), .second, .val (.long q3), .second, .val (.long q4), .second, .val (.int p5), .val (.int (own_N q0 q1 q2 q3 q4 p5)), .val (.int (own_P q0 q1 q2 q3 q4 p5)), .val (.ref b1), .val (.int (own_K q0 q1 q2 q3 q4 p5)), .val (.int ((own_N q0 q1 q2 q3 q4 p5) - (own_K q0 q1 q2 q3 q4 p5))), .val (.ref b51)] [(.int ((own_N q0 q1 q2 q3 q4 p5) - (own_K q0 q1 q2 q3 q4 p5)))])) _
      refine XS.ifNo X78.here hx rfl (hb hby at_261) rfl ((if0 _ _).trans (tlt hc261_85).2.2.2) ?_
      show Steps p.tables e below (T78.setTop (mkF m 264 #[.val (.long q0), .second, .val (.long q1), .second, .val (.long q2), .second, .val (.long q3), .second, .val (.long q4), .second, .val (.int p5), .val (.int (own_N q0 q1 q2 q3 q4 p5)), .val (.int (own_P q0 q1 q2 q3 q4 p5)), .val (.ref b1), .val (.int (own_K q0 q1 q2 q3 q4 p5)), .val (.int ((own_N q0 q1 q2 q3 q4 p5) - (own_K q0 q1 q2 q3 q4 p5))), .val (.ref b51)] [])) _
      refine XS.aload X78.here hx rfl (hb hby at_264) rfl rfl ?_
      show Steps p.tables e below (T78.setTop (mkF m 266 #[.val (.long q0), .second, .val (.long q1), .second, .val (.long q2), .second, .val (.long q3), .second, .val (.long q4), .second, .val (.int p5), .val (.int (own_N q0 q1 q2 q3 q4 p5)), .val (.int (own_P q0 q1 q2 q3 q4 p5)), .val (.ref b1), .val (.int (own_K q0 q1 q2 q3 q4 p5)), .val (.int ((own_N q0 q1 q2 q3 q4 p5) - (own_K q0 q1 q2 q3 q4 p5))), .val (.ref b51)] [(.ref b1)])) _
      exact k
    obtain ⟨cq86, kq86, q86a, q86b, q86c⟩ := isOf hZ e78 fc79
    obtain ⟨_, _, ⟨T86, Lq86, kq86, nq86⟩, -, X86, ⟨Lc86, hQ86, lq86, yq86, zq86⟩, st86⟩ := X78.virtualBack hx (y := (⟨"com/example/lid_on_load/lidonload/limit/TimeRing", "head", "()J"⟩ : MethodName)) (z := (⟨"com/example/lid_on_load/lidonload/limit/TimeRing", "head", "()J"⟩ : MethodName)) hown (mvT hZ (hw _ (List.mem_of_getElem? (i := 32) rfl))) (mvT hZ (hw _ (List.mem_of_getElem? (i := 33) rfl))) (notFace_of_selects (args := #[]) (mvT hZ (hw _ (List.mem_of_getElem? (i := 35) rfl)))) (mvT hZ (hw _ (List.mem_of_getElem? (i := 35) rfl))) (mvT hZ (hw _ (List.mem_of_getElem? (i := 34) rfl))) (by decide) (backOf (W := 0) (own_rm5 l Z a0 hw [] b1 br_5 (hd'_39) f_35 h78 n0 Zs78 fc81 fc82 fc80 hE.2.1 hE.2.2.1) hZ (hw _ (List.mem_of_getElem? (i := 36) rfl)) (hw _ (List.mem_of_getElem? (i := 2) rfl)) (by decide) (by decide)) q86a q86c (g := (mkF m 266 #[.val (.long q0), .second, .val (.long q1), .second, .val (.long q2), .second, .val (.long q3), .second, .val (.long q4), .second, .val (.int p5), .val (.int (own_N q0 q1 q2 q3 q4 p5)), .val (.int (own_P q0 q1 q2 q3 q4 p5)), .val (.ref b1), .val (.int (own_K q0 q1 q2 q3 q4 p5)), .val (.int ((own_N q0 q1 q2 q3 q4 p5) - (own_K q0 q1 q2 q3 q4 p5))), .val (.ref b51)] [(.ref b1)])) rfl (by rw [hml]; rfl) (Steps.refl _) (argsL := []) (rest := []) (lenOf own_pd4 rfl) rfl (by show 2 * 0 + _ ≤ _; exact Nat.le_of_eq rfl) (hb hby at_266) (fun _ _ => ⟨rfl, e78, (by decide : 3 + 0 ≤ _), (by decide : 11 + 0 ≤ _)⟩)
    dsimp only [Pt.U, Pt.locs, Pt.cells, Pt.slots] at X86 lq86 yq86 zq86 st86 hQ86
    subst lq86 yq86 zq86
    obtain ⟨rfl, N86q, h86q⟩ := hQ86
    have N86 := Fr.app N78 N86q
    refine own_go (T' := T86) (f' := (mkF m 269 #[.val (.long q0), .second, .val (.long q1), .second, .val (.long q2), .second, .val (.long q3), .second, .val (.long q4), .second, .val (.int p5), .val (.int (own_N q0 q1 q2 q3 q4 p5)), .val (.int (own_P q0 q1 q2 q3 q4 p5)), .val (.ref b1), .val (.int (own_K q0 q1 q2 q3 q4 p5)), .val (.int ((own_N q0 q1 q2 q3 q4 p5) - (own_K q0 q1 q2 q3 q4 p5))), .val (.ref b51)] [(.long (f_35 hd'_39.toInt.toNat))])) (fun t k => st86.trans k) ?_
    refine own_go (T' := T86) (f' := (mkF m 283 #[.val (.long q0), .second, .val (.long q1), .second, .val (.long q2), .second, .val (.long q3), .second, .val (.long q4), .second, .val (.int p5), .val (.int (own_N q0 q1 q2 q3 q4 p5)), .val (.int (own_P q0 q1 q2 q3 q4 p5)), .val (.ref b1), .val (.int (own_K q0 q1 q2 q3 q4 p5)), .val (.int ((own_N q0 q1 q2 q3 q4 p5) - (own_K q0 q1 q2 q3 q4 p5))), .val (.ref b51)] [(.int (1 : Int32)), (.int ((own_N q0 q1 q2 q3 q4 p5) - (own_K q0 q1 q2 q3 q4 p5)))])) (fun t k => ?_) ?_
    · show Steps p.tables e below (T86.setTop (mkF m 269 #[.val (.long q0), .second, .val (.long q1), .second, .val (.long q2), .second, .val (.long q3), .second, .val (.long q4), .second, .val (.int p5), .val (.int (own_N q0 q1 q2 q3 q4 p5)), .val (.int (own_P q0 q1 q2 q3 q4 p5)), .val (.ref b1), .val (.int (own_K q0 q1 q2 q3 q4 p5)), .val (.int ((own_N q0 q1 q2 q3 q4 p5) - (own_K q0 q1 q2 q3 q4 p5))), .val (.ref b51)] [(.long (f_35 hd'_39.toInt.toNat))])) _
      refine XS.aload X86.here hx rfl (hb hby at_269) rfl rfl ?_
      show Steps p.tables e below (T86.setTop (mkF m 271 #[.val (.long q0), .second, .val (.long q1), .second, .val (.long q2), .second, .val (.long q3), .second, .val (.long q4), .second, .val (.int p5), .val (.int (own_N q0 q1 q2 q3 q4 p5)), .val (.int (own_P q0 q1 q2 q3 q4 p5)), .val (.ref b1), .val (.int (own_K q0 q1 q2 q3 q4 p5)), .val (.int ((own_N q0 q1 q2 q3 q4 p5) - (own_K q0 q1 q2 q3 q4 p5))), .val (.ref b51)] [(.ref b51), (.long (f_35 hd'_39.toInt.toNat))])) _
      refine XS.iload X86.here hx rfl (hb hby at_271) rfl ?_
      show Steps p.tables e below (T86.setTop (mkF m 273 #[.val (.long q0), .second, .val (.long q1), .second, .val (.long q2), .second, .val (.long q3), .second, .val (.long q4), .second, .val (.int p5), .val (.int (own_N q0 q1 q2 q3 q4 p5)), .val (.int (own_P q0 q1 q2 q3 q4 p5)), .val (.ref b1), .val (.int (own_K q0 q1 q2 q3 q4 p5)), .val (.int ((own_N q0 q1 q2 q3 q4 p5) - (own_K q0 q1 q2 q3 q4 p5))), .val (.ref b51)] [(.int (own_K q0 q1 q2 q3 q4 p5)), (.ref b51), (.long (f_35 hd'_39.toInt.toNat))])) _
      refine own_ldJ X86 hx hZ h86q fc84 (j := (own_K q0 q1 q2 q3 q4 p5)) (own_K0 (hE.2.2.2 (0 : Int32) (by decide) hc261_85)).1 (own_K0 (hE.2.2.2 (0 : Int32) (by decide) hc261_85)).2.1 (g := (mkF m 273 #[.val (.long q0), .second, .val (.long q1), .second, .val (.long q2), .second, .val (.long q3), .second, .val (.long q4), .second, .val (.int p5), .val (.int (own_N q0 q1 q2 q3 q4 p5)), .val (.int (own_P q0 q1 q2 q3 q4 p5)), .val (.ref b1), .val (.int (own_K q0 q1 q2 q3 q4 p5)), .val (.int ((own_N q0 q1 q2 q3 q4 p5) - (own_K q0 q1 q2 q3 q4 p5))), .val (.ref b51)] [(.int (own_K q0 q1 q2 q3 q4 p5)), (.ref b51), (.long (f_35 hd'_39.toInt.toNat))])) rfl rfl (hb hby at_273) _ ?_
      show Steps p.tables e below (T86.setTop (mkF m 274 #[.val (.long q0), .second, .val (.long q1), .second, .val (.long q2), .second, .val (.long q3), .second, .val (.long q4), .second, .val (.int p5), .val (.int (own_N q0 q1 q2 q3 q4 p5)), .val (.int (own_P q0 q1 q2 q3 q4 p5)), .val (.ref b1), .val (.int (own_K q0 q1 q2 q3 q4 p5)), .val (.int ((own_N q0 q1 q2 q3 q4 p5) - (own_K q0 q1 q2 q3 q4 p5))), .val (.ref b51)] [(.long (y78 (own_K q0 q1 q2 q3 q4 p5).toInt.toNat)), (.long (f_35 hd'_39.toInt.toNat))])) _
      refine XS.lcmp X86.here hx rfl (hb hby at_274) rfl ?_
      show Steps p.tables e below (T86.setTop (mkF m 275 #[.val (.long q0), .second, .val (.long q1), .second, .val (.long q2), .second, .val (.long q3), .second, .val (.long q4), .second, .val (.int p5), .val (.int (own_N q0 q1 q2 q3 q4 p5)), .val (.int (own_P q0 q1 q2 q3 q4 p5)), .val (.ref b1), .val (.int (own_K q0 q1 q2 q3 q4 p5)), .val (.int ((own_N q0 q1 q2 q3 q4 p5) - (own_K q0 q1 q2 q3 q4 p5))), .val (.ref b51)] [(.int (lcmpW (f_35 hd'_39.toInt.toNat) (y78 (own_K q0 q1 q2 q3 q4 p5).toInt.toNat)))])) _
      refine XS.ifYes X86.here hx rfl (pc0 := 275) (pc' := 280) rfl (hb hby at_275) rfl ((if0 _ _).trans (teq ((lw_eq (f_35 hd'_39.toInt.toNat) (y78 (own_K q0 q1 q2 q3 q4 p5).toInt.toNat)).mpr ((own_K0 (hE.2.2.2 (0 : Int32) (by decide) hc261_85)).2.2 htt hE.2.1 hE.2.2.1))).1) (by decide) (by decide) ?_
      show Steps p.tables e below (T86.setTop (mkF m 280 #[.val (.long q0), .second, .val (.long q1), .second, .val (.long q2), .second, .val (.long q3), .second, .val (.long q4), .second, .val (.int p5), .val (.int (own_N q0 q1 q2 q3 q4 p5)), .val (.int (own_P q0 q1 q2 q3 q4 p5)), .val (.ref b1), .val (.int (own_K q0 q1 q2 q3 q4 p5)), .val (.int ((own_N q0 q1 q2 q3 q4 p5) - (own_K q0 q1 q2 q3 q4 p5))), .val (.ref b51)] [])) _
      refine XS.iload X86.here hx rfl (hb hby at_280) rfl ?_
      show Steps p.tables e below (T86.setTop (mkF m 282 #[.val (.long q0), .second, .val (.long q1), .second, .val (.long q2), .second, .val (.long q3), .second, .val (.long q4), .second, .val (.int p5), .val (.int (own_N q0 q1 q2 q3 q4 p5)), .val (.int (own_P q0 q1 q2 q3 q4 p5)), .val (.ref b1), .val (.int (own_K q0 q1 q2 q3 q4 p5)), .val (.int ((own_N q0 q1 q2 q3 q4 p5) - (own_K q0 q1 q2 q3 q4 p5))), .val (.ref b51)] [(.int ((own_N q0 q1 q2 q3 q4 p5) - (own_K q0 q1 q2 q3 q4 p5)))])) _
      refine XS.iconst X86.here hx rfl (hb hby at_282) ?_
      show Steps p.tables e below (T86.setTop (mkF m 283 #[.val (.long q0), .second, .val (.long q1), .second, .val (.long q2), .second, .val (.long q3), .second, .val (.long q4), .second, .val (.int p5), .val (.int (own_N q0 q1 q2 q3 q4 p5)), .val (.int (own_P q0 q1 q2 q3 q4 p5)), .val (.ref b1), .val (.int (own_K q0 q1 q2 q3 q4 p5)), .val (.int ((own_N q0 q1 q2 q3 q4 p5) - (own_K q0 q1 q2 q3 q4 p5))), .val (.ref b51)] [(.int (1 : Int32)), (.int ((own_N q0 q1 q2 q3 q4 p5) - (own_K q0 q1 q2 q3 q4 p5)))])) _
      exact k
    by_cases hc283_87 : (1 : Int32) < ((own_N q0 q1 q2 q3 q4 p5) - (own_K q0 q1 q2 q3 q4 p5))
    · skip
      refine own_go (T' := T86) (f' := (mkF m 289 #[.val (.long q0), .second, .val (.long q1), .second, .val (.long q2), .second, .val (.long q3), .second, .val (.long q4), .second, .val (.int p5), .val (.int (own_N q0 q1 q2 q3 q4 p5)), .val (.int (own_P q0 q1 q2 q3 q4 p5)), .val (.ref b1), .val (.int (own_K q0 q1 q2 q3 q4 p5)), .val (.int ((own_N q0 q1 q2 q3 q4 p5) - (own_K q0 q1 q2 q3 q4 p5))), .val (.ref b51)] [(.int (1 : Int32)), (.ref b1)])) (fun t k => ?_) ?_
      · show Steps p.tables e below (T86.setTop (mkF m 283 #[.val (.long q0), .second, .val (.long q1), .second, .val (.long q2), .second, .val (.long q3), .second, .val (.long q4), .second, .val (.int p5), .val (.int (own_N q0 q1 q2 q3 q4 p5)), .val (.int (own_P q0 q1 q2 q3 q4 p5)), .val (.ref b1), .val (.int (own_K q0 q1 q2 q3 q4 p5)), .val (.int ((own_N q0 q1 q2 q3 q4 p5) - (own_K q0 q1 q2 q3 q4 p5))), .val (.ref b51)] [(.int (1 : Int32)), (.int ((own_N q0 q1 q2 q3 q4 p5) - (own_K q0 q1 q2 q3 q4 p5)))])) _
        refine XS.icmpNo X86.here hx rfl (hb hby at_283) rfl (tlt hc283_87).2.2.2 ?_
        show Steps p.tables e below (T86.setTop (mkF m 286 #[.val (.long q0), .second, .val (.long q1), .second, .val (.long q2), .second, .val (.long q3), .second, .val (.long q4), .second, .val (.int p5), .val (.int (own_N q0 q1 q2 q3 q4 p5)), .val (.int (own_P q0 q1 q2 q3 q4 p5)), .val (.ref b1), .val (.int (own_K q0 q1 q2 q3 q4 p5)), .val (.int ((own_N q0 q1 q2 q3 q4 p5) - (own_K q0 q1 q2 q3 q4 p5))), .val (.ref b51)] [])) _
        refine XS.aload X86.here hx rfl (hb hby at_286) rfl rfl ?_
        show Steps p.tables e below (T86.setTop (mkF m 288 #[.val (.long q0), .second, .val (.long q1), .second, .val (.long q2), .second, .val (.long q3), .second, .val (.long q4), .second, .val (.int p5), .val (.int (own_N q0 q1 q2 q3 q4 p5)), .val (.int (own_P q0 q1 q2 q3 q4 p5)), .val (.ref b1), .val (.int (own_K q0 q1 q2 q3 q4 p5)), .val (.int ((own_N q0 q1 q2 q3 q4 p5) - (own_K q0 q1 q2 q3 q4 p5))), .val (.ref b51)] [(.ref b1)])) _
        refine XS.iconst X86.here hx rfl (hb hby at_288) ?_
        show Steps p.tables e below (T86.setTop (mkF m 289 #[.val (.long q0), .second, .val (.long q1), .second, .val (.long q2), .second, .val (.long q3), .second, .val (.long q4), .second, .val (.int p5), .val (.int (own_N q0 q1 q2 q3 q4 p5)), .val (.int (own_P q0 q1 q2 q3 q4 p5)), .val (.ref b1), .val (.int (own_K q0 q1 q2 q3 q4 p5)), .val (.int ((own_N q0 q1 q2 q3 q4 p5) - (own_K q0 q1 q2 q3 q4 p5))), .val (.ref b51)] [(.int (1 : Int32)), (.ref b1)])) _
        exact k
      obtain ⟨cq88, kq88, q88a, q88b, q88c⟩ := isOf hZ h86q fc79
      obtain ⟨_, _, ⟨T88, Lq88, kq88, nq88⟩, -, X88, ⟨Lc88, hQ88, lq88, yq88, zq88⟩, st88⟩ := X86.virtualBack hx (y := (⟨"com/example/lid_on_load/lidonload/limit/TimeRing", "time", "(I)J"⟩ : MethodName)) (z := (⟨"com/example/lid_on_load/lidonload/limit/TimeRing", "time", "(I)J"⟩ : MethodName)) hown (mvT hZ (hw _ (List.mem_of_getElem? (i := 37) rfl))) (mvT hZ (hw _ (List.mem_of_getElem? (i := 38) rfl))) (notFace_of_selects (args := #[]) (mvT hZ (hw _ (List.mem_of_getElem? (i := 40) rfl)))) (mvT hZ (hw _ (List.mem_of_getElem? (i := 40) rfl))) (mvT hZ (hw _ (List.mem_of_getElem? (i := 39) rfl))) (by decide) (backOf (W := 0) (own_rm6 l Z a0 hw [] b1 ((1 : Int32)) br_5 (hd'_39) f_35 h78 n0 Zs78 fc81 fc82 fc80 hE.2.1 hE.2.2.1 (by decide) (by decide)) hZ (hw _ (List.mem_of_getElem? (i := 41) rfl)) (hw _ (List.mem_of_getElem? (i := 2) rfl)) (by decide) (by decide)) q88a q88c (g := (mkF m 289 #[.val (.long q0), .second, .val (.long q1), .second, .val (.long q2), .second, .val (.long q3), .second, .val (.long q4), .second, .val (.int p5), .val (.int (own_N q0 q1 q2 q3 q4 p5)), .val (.int (own_P q0 q1 q2 q3 q4 p5)), .val (.ref b1), .val (.int (own_K q0 q1 q2 q3 q4 p5)), .val (.int ((own_N q0 q1 q2 q3 q4 p5) - (own_K q0 q1 q2 q3 q4 p5))), .val (.ref b51)] [(.int (1 : Int32)), (.ref b1)])) rfl (by rw [hml]; rfl) (Steps.refl _) (argsL := [(.int (1 : Int32))]) (rest := []) (lenOf own_pd5 rfl) rfl (by show 2 * 0 + _ ≤ _; exact Nat.le_of_eq rfl) (hb hby at_289) (fun _ _ => ⟨rfl, h86q, (by decide : 3 + 0 ≤ _), (by decide : 11 + 0 ≤ _)⟩)
      dsimp only [Pt.U, Pt.locs, Pt.cells, Pt.slots] at X88 lq88 yq88 zq88 st88 hQ88
      subst lq88 yq88 zq88
      obtain ⟨rfl, N88q, h88q⟩ := hQ88
      have N88 := Fr.app N86 N88q
      refine own_go (T' := T88) (f' := (mkF m 292 #[.val (.long q0), .second, .val (.long q1), .second, .val (.long q2), .second, .val (.long q3), .second, .val (.long q4), .second, .val (.int p5), .val (.int (own_N q0 q1 q2 q3 q4 p5)), .val (.int (own_P q0 q1 q2 q3 q4 p5)), .val (.ref b1), .val (.int (own_K q0 q1 q2 q3 q4 p5)), .val (.int ((own_N q0 q1 q2 q3 q4 p5) - (own_K q0 q1 q2 q3 q4 p5))), .val (.ref b51)] [(.long (f_35 ((hd'_39 + (1 : Int32)) - ((hd'_39 + (1 : Int32)) / (4 : Int32)) * (4 : Int32)).toInt.toNat))])) (fun t k => st88.trans k) ?_
      refine own_go (T' := T88) (f' := (mkF m 308 #[.val (.long q0), .second, .val (.long q1), .second, .val (.long q2), .second, .val (.long q3), .second, .val (.long q4), .second, .val (.int p5), .val (.int (own_N q0 q1 q2 q3 q4 p5)), .val (.int (own_P q0 q1 q2 q3 q4 p5)), .val (.ref b1), .val (.int (own_K q0 q1 q2 q3 q4 p5)), .val (.int ((own_N q0 q1 q2 q3 q4 p5) - (own_K q0 q1 q2 q3 q4 p5))), .val (.ref b51)] [(.int (2 : Int32)), (.int ((own_N q0 q1 q2 q3 q4 p5) - (own_K q0 q1 q2 q3 q4 p5)))])) (fun t k => ?_) ?_
      · show Steps p.tables e below (T88.setTop (mkF m 292 #[.val (.long q0), .second, .val (.long q1), .second, .val (.long q2), .second, .val (.long q3), .second, .val (.long q4), .second, .val (.int p5), .val (.int (own_N q0 q1 q2 q3 q4 p5)), .val (.int (own_P q0 q1 q2 q3 q4 p5)), .val (.ref b1), .val (.int (own_K q0 q1 q2 q3 q4 p5)), .val (.int ((own_N q0 q1 q2 q3 q4 p5) - (own_K q0 q1 q2 q3 q4 p5))), .val (.ref b51)] [(.long (f_35 ((hd'_39 + (1 : Int32)) - ((hd'_39 + (1 : Int32)) / (4 : Int32)) * (4 : Int32)).toInt.toNat))])) _
        refine XS.aload X88.here hx rfl (hb hby at_292) rfl rfl ?_
        show Steps p.tables e below (T88.setTop (mkF m 294 #[.val (.long q0), .second, .val (.long q1), .second, .val (.long q2), .second, .val (.long q3), .second, .val (.long q4), .second, .val (.int p5), .val (.int (own_N q0 q1 q2 q3 q4 p5)), .val (.int (own_P q0 q1 q2 q3 q4 p5)), .val (.ref b1), .val (.int (own_K q0 q1 q2 q3 q4 p5)), .val (.int ((own_N q0 q1 q2 q3 q4 p5) - (own_K q0 q1 q2 q3 q4 p5))), .val (.ref b51)] [(.ref b51), (.long (f_35 ((hd'_39 + (1 : Int32)) - ((hd'_39 + (1 : Int32)) / (4 : Int32)) * (4 : Int32)).toInt.toNat))])) _
        refine XS.iload X88.here hx rfl (hb hby at_294) rfl ?_
        show Steps p.tables e below (T88.setTop (mkF m 296 #[.val (.long q0), .second, .val (.long q1), .second, .val (.long q2), .second, .val (.long q3), .second, .val (.long q4), .second, .val (.int p5), .val (.int (own_N q0 q1 q2 q3 q4 p5)), .val (.int (own_P q0 q1 q2 q3 q4 p5)), .val (.ref b1), .val (.int (own_K q0 q1 q2 q3 q4 p5)), .val (.int ((own_N q0 q1 q2 q3 q4 p5) - (own_K q0 q1 q2 q3 q4 p5))), .val (.ref b51)] [(.int (own_K q0 q1 q2 q3 q4 p5)), (.ref b51), (.long (f_35 ((hd'_39 + (1 : Int32)) - ((hd'_39 + (1 : Int32)) / (4 : Int32)) * (4 : Int32)).toInt.toNat))])) _
        refine XS.iconst X88.here hx rfl (hb hby at_296) ?_
        show Steps p.tables e below (T88.setTop (mkF m 297 #[.val (.long q0), .second, .val (.long q1), .second, .val (.long q2), .second, .val (.long q3), .second, .val (.long q4), .second, .val (.int p5), .val (.int (own_N q0 q1 q2 q3 q4 p5)), .val (.int (own_P q0 q1 q2 q3 q4 p5)), .val (.ref b1), .val (.int (own_K q0 q1 q2 q3 q4 p5)), .val (.int ((own_N q0 q1 q2 q3 q4 p5) - (own_K q0 q1 q2 q3 q4 p5))), .val (.ref b51)] [(.int (1 : Int32)), (.int (own_K q0 q1 q2 q3 q4 p5)), (.ref b51), (.long (f_35 ((hd'_39 + (1 : Int32)) - ((hd'_39 + (1 : Int32)) / (4 : Int32)) * (4 : Int32)).toInt.toNat))])) _
        refine XS.iadd X88.here hx rfl (hb hby at_297) rfl ?_
        show Steps p.tables e below (T88.setTop (mkF m 298 #[.val (.long q0), .second, .val (.long q1), .second, .val (.long q2), .second, .val (.long q3), .second, .val (.long q4), .second, .val (.int p5), .val (.int (own_N q0 q1 q2 q3 q4 p5)), .val (.int (own_P q0 q1 q2 q3 q4 p5)), .val (.ref b1), .val (.int (own_K q0 q1 q2 q3 q4 p5)), .val (.int ((own_N q0 q1 q2 q3 q4 p5) - (own_K q0 q1 q2 q3 q4 p5))), .val (.ref b51)] [(.int ((own_K q0 q1 q2 q3 q4 p5) + (1 : Int32))), (.ref b51), (.long (f_35 ((hd'_39 + (1 : Int32)) - ((hd'_39 + (1 : Int32)) / (4 : Int32)) * (4 : Int32)).toInt.toNat))])) _
        refine own_ldJ X88 hx hZ h88q fc84 (j := ((own_K q0 q1 q2 q3 q4 p5) + (1 : Int32))) (hE.2.2.2 (1 : Int32) (by decide) hc283_87).1 (hE.2.2.2 (1 : Int32) (by decide) hc283_87).2.1 (g := (mkF m 298 #[.val (.long q0), .second, .val (.long q1), .second, .val (.long q2), .second, .val (.long q3), .second, .val (.long q4), .second, .val (.int p5), .val (.int (own_N q0 q1 q2 q3 q4 p5)), .val (.int (own_P q0 q1 q2 q3 q4 p5)), .val (.ref b1), .val (.int (own_K q0 q1 q2 q3 q4 p5)), .val (.int ((own_N q0 q1 q2 q3 q4 p5) - (own_K q0 q1 q2 q3 q4 p5))), .val (.ref b51)] [(.int ((own_K q0 q1 q2 q3 q4 p5) + (1 : Int32))), (.ref b51), (.long (f_35 ((hd'_39 + (1 : Int32)) - ((hd'_39 + (1 : Int32)) / (4 : Int32)) * (4 : Int32)).toInt.toNat))])) rfl rfl (hb hby at_298) _ ?_
        show Steps p.tables e below (T88.setTop (mkF m 299 #[.val (.long q0), .second, .val (.long q1), .second, .val (.long q2), .second, .val (.long q3), .second, .val (.long q4), .second, .val (.int p5), .val (.int (own_N q0 q1 q2 q3 q4 p5)), .val (.int (own_P q0 q1 q2 q3 q4 p5)), .val (.ref b1), .val (.int (own_K q0 q1 q2 q3 q4 p5)), .val (.int ((own_N q0 q1 q2 q3 q4 p5) - (own_K q0 q1 q2 q3 q4 p5))), .val (.ref b51)] [(.long (y78 ((own_K q0 q1 q2 q3 q4 p5) + (1 : Int32)).toInt.toNat)), (.long (f_35 ((hd'_39 + (1 : Int32)) - ((hd'_39 + (1 : Int32)) / (4 : Int32)) * (4 : Int32)).toInt.toNat))])) _
        refine XS.lcmp X88.here hx rfl (hb hby at_299) rfl ?_
        show Steps p.tables e below (T88.setTop (mkF m 300 #[.val (.long q0), .second, .val (.long q1), .second, .val (.long q2), .second, .val (.long q3), .second, .val (.long q4), .second, .val (.int p5), .val (.int (own_N q0 q1 q2 q3 q4 p5)), .val (.int (own_P q0 q1 q2 q3 q4 p5)), .val (.ref b1), .val (.int (own_K q0 q1 q2 q3 q4 p5)), .val (.int ((own_N q0 q1 q2 q3 q4 p5) - (own_K q0 q1 q2 q3 q4 p5))), .val (.ref b51)] [(.int (lcmpW (f_35 ((hd'_39 + (1 : Int32)) - ((hd'_39 + (1 : Int32)) / (4 : Int32)) * (4 : Int32)).toInt.toNat) (y78 ((own_K q0 q1 q2 q3 q4 p5) + (1 : Int32)).toInt.toNat)))])) _
        refine XS.ifYes X88.here hx rfl (pc0 := 300) (pc' := 305) rfl (hb hby at_300) rfl ((if0 _ _).trans (teq ((lw_eq (f_35 ((hd'_39 + (1 : Int32)) - ((hd'_39 + (1 : Int32)) / (4 : Int32)) * (4 : Int32)).toInt.toNat) (y78 ((own_K q0 q1 q2 q3 q4 p5) + (1 : Int32)).toInt.toNat)).mpr ((hE.2.2.2 (1 : Int32) (by decide) hc283_87).2.2 htt))).1) (by decide) (by decide) ?_
        show Steps p.tables e below (T88.setTop (mkF m 305 #[.val (.long q0), .second, .val (.long q1), .second, .val (.long q2), .second, .val (.long q3), .second, .val (.long q4), .second, .val (.int p5), .val (.int (own_N q0 q1 q2 q3 q4 p5)), .val (.int (own_P q0 q1 q2 q3 q4 p5)), .val (.ref b1), .val (.int (own_K q0 q1 q2 q3 q4 p5)), .val (.int ((own_N q0 q1 q2 q3 q4 p5) - (own_K q0 q1 q2 q3 q4 p5))), .val (.ref b51)] [])) _
        refine XS.iload X88.here hx rfl (hb hby at_305) rfl ?_
        show Steps p.tables e below (T88.setTop (mkF m 307 #[.val (.long q0), .second, .val (.long q1), .second, .val (.long q2), .second, .val (.long q3), .second, .val (.long q4), .second, .val (.int p5), .val (.int (own_N q0 q1 q2 q3 q4 p5)), .val (.int (own_P q0 q1 q2 q3 q4 p5)), .val (.ref b1), .val (.int (own_K q0 q1 q2 q3 q4 p5)), .val (.int ((own_N q0 q1 q2 q3 q4 p5) - (own_K q0 q1 q2 q3 q4 p5))), .val (.ref b51)] [(.int ((own_N q0 q1 q2 q3 q4 p5) - (own_K q0 q1 q2 q3 q4 p5)))])) _
        refine XS.iconst X88.here hx rfl (hb hby at_307) ?_
        show Steps p.tables e below (T88.setTop (mkF m 308 #[.val (.long q0), .second, .val (.long q1), .second, .val (.long q2), .second, .val (.long q3), .second, .val (.long q4), .second, .val (.int p5), .val (.int (own_N q0 q1 q2 q3 q4 p5)), .val (.int (own_P q0 q1 q2 q3 q4 p5)), .val (.ref b1), .val (.int (own_K q0 q1 q2 q3 q4 p5)), .val (.int ((own_N q0 q1 q2 q3 q4 p5) - (own_K q0 q1 q2 q3 q4 p5))), .val (.ref b51)] [(.int (2 : Int32)), (.int ((own_N q0 q1 q2 q3 q4 p5) - (own_K q0 q1 q2 q3 q4 p5)))])) _
        exact k
      by_cases hc308_89 : (2 : Int32) < ((own_N q0 q1 q2 q3 q4 p5) - (own_K q0 q1 q2 q3 q4 p5))
      · skip
        refine own_go (T' := T88) (f' := (mkF m 314 #[.val (.long q0), .second, .val (.long q1), .second, .val (.long q2), .second, .val (.long q3), .second, .val (.long q4), .second, .val (.int p5), .val (.int (own_N q0 q1 q2 q3 q4 p5)), .val (.int (own_P q0 q1 q2 q3 q4 p5)), .val (.ref b1), .val (.int (own_K q0 q1 q2 q3 q4 p5)), .val (.int ((own_N q0 q1 q2 q3 q4 p5) - (own_K q0 q1 q2 q3 q4 p5))), .val (.ref b51)] [(.int (2 : Int32)), (.ref b1)])) (fun t k => ?_) ?_
        · show Steps p.tables e below (T88.setTop (mkF m 308 #[.val (.long q0), .second, .val (.long q1), .second, .val (.long q2), .second, .val (.long q3), .second, .val (.long q4), .second, .val (.int p5), .val (.int (own_N q0 q1 q2 q3 q4 p5)), .val (.int (own_P q0 q1 q2 q3 q4 p5)), .val (.ref b1), .val (.int (own_K q0 q1 q2 q3 q4 p5)), .val (.int ((own_N q0 q1 q2 q3 q4 p5) - (own_K q0 q1 q2 q3 q4 p5))), .val (.ref b51)] [(.int (2 : Int32)), (.int ((own_N q0 q1 q2 q3 q4 p5) - (own_K q0 q1 q2 q3 q4 p5)))])) _
          refine XS.icmpNo X88.here hx rfl (hb hby at_308) rfl (tlt hc308_89).2.2.2 ?_
          show Steps p.tables e below (T88.setTop (mkF m 311 #[.val (.long q0), .second, .val (.long q1), .second, .val (.long q2), .second, .val (.long q3), .second, .val (.long q4), .second, .val (.int p5), .val (.int (own_N q0 q1 q2 q3 q4 p5)), .val (.int (own_P q0 q1 q2 q3 q4 p5)), .val (.ref b1), .val (.int (own_K q0 q1 q2 q3 q4 p5)), .val (.int ((own_N q0 q1 q2 q3 q4 p5) - (own_K q0 q1 q2 q3 q4 p5))), .val (.ref b51)] [])) _
          refine XS.aload X88.here hx rfl (hb hby at_311) rfl rfl ?_
          show Steps p.tables e below (T88.setTop (mkF m 313 #[.val (.long q0), .second, .val (.long q1), .second, .val (.long q2), .second, .val (.long q3), .second, .val (.long q4), .second, .val (.int p5), .val (.int (own_N q0 q1 q2 q3 q4 p5)), .val (.int (own_P q0 q1 q2 q3 q4 p5)), .val (.ref b1), .val (.int (own_K q0 q1 q2 q3 q4 p5)), .val (.int ((own_N q0 q1 q2 q3 q4 p5) - (own_K q0 q1 q2 q3 q4 p5))), .val (.ref b51)] [(.ref b1)])) _
          refine XS.iconst X88.here hx rfl (hb hby at_313) ?_
          show Steps p.tables e below (T88.setTop (mkF m 314 #[.val (.long q0), .second, .val (.long q1), .second, .val (.long q2), .second, .val (.long q3), .second, .val (.long q4), .second, .val (.int p5), .val (.int (own_N q0 q1 q2 q3 q4 p5)), .val (.int (own_P q0 q1 q2 q3 q4 p5)), .val (.ref b1), .val (.int (own_K q0 q1 q2 q3 q4 p5)), .val (.int ((own_N q0 q1 q2 q3 q4 p5) - (own_K q0 q1 q2 q3 q4 p5))), .val (.ref b51)] [(.int (2 : Int32)), (.ref b1)])) _
          exact k
        obtain ⟨cq90, kq90, q90a, q90b, q90c⟩ := isOf hZ h88q fc79
        obtain ⟨_, _, ⟨T90, Lq90, kq90, nq90⟩, -, X90, ⟨Lc90, hQ90, lq90, yq90, zq90⟩, st90⟩ := X88.virtualBack hx (y := (⟨"com/example/lid_on_load/lidonload/limit/TimeRing", "time", "(I)J"⟩ : MethodName)) (z := (⟨"com/example/lid_on_load/lidonload/limit/TimeRing", "time", "(I)J"⟩ : MethodName)) hown (mvT hZ (hw _ (List.mem_of_getElem? (i := 37) rfl))) (mvT hZ (hw _ (List.mem_of_getElem? (i := 38) rfl))) (notFace_of_selects (args := #[]) (mvT hZ (hw _ (List.mem_of_getElem? (i := 40) rfl)))) (mvT hZ (hw _ (List.mem_of_getElem? (i := 40) rfl))) (mvT hZ (hw _ (List.mem_of_getElem? (i := 39) rfl))) (by decide) (backOf (W := 0) (own_rm6 l Z a0 hw [] b1 ((2 : Int32)) br_5 (hd'_39) f_35 h78 n0 Zs78 fc81 fc82 fc80 hE.2.1 hE.2.2.1 (by decide) (by decide)) hZ (hw _ (List.mem_of_getElem? (i := 41) rfl)) (hw _ (List.mem_of_getElem? (i := 2) rfl)) (by decide) (by decide)) q90a q90c (g := (mkF m 314 #[.val (.long q0), .second, .val (.long q1), .second, .val (.long q2), .second, .val (.long q3), .second, .val (.long q4), .second, .val (.int p5), .val (.int (own_N q0 q1 q2 q3 q4 p5)), .val (.int (own_P q0 q1 q2 q3 q4 p5)), .val (.ref b1), .val (.int (own_K q0 q1 q2 q3 q4 p5)), .val (.int ((own_N q0 q1 q2 q3 q4 p5) - (own_K q0 q1 q2 q3 q4 p5))), .val (.ref b51)] [(.int (2 : Int32)), (.ref b1)])) rfl (by rw [hml]; rfl) (Steps.refl _) (argsL := [(.int (2 : Int32))]) (rest := []) (lenOf own_pd5 rfl) rfl (by show 2 * 0 + _ ≤ _; exact Nat.le_of_eq rfl) (hb hby at_314) (fun _ _ => ⟨rfl, h88q, (by decide : 3 + 0 ≤ _), (by decide : 11 + 0 ≤ _)⟩)
        dsimp only [Pt.U, Pt.locs, Pt.cells, Pt.slots] at X90 lq90 yq90 zq90 st90 hQ90
        subst lq90 yq90 zq90
        obtain ⟨rfl, N90q, h90q⟩ := hQ90
        have N90 := Fr.app N88 N90q
        refine own_go (T' := T90) (f' := (mkF m 317 #[.val (.long q0), .second, .val (.long q1), .second, .val (.long q2), .second, .val (.long q3), .second, .val (.long q4), .second, .val (.int p5), .val (.int (own_N q0 q1 q2 q3 q4 p5)), .val (.int (own_P q0 q1 q2 q3 q4 p5)), .val (.ref b1), .val (.int (own_K q0 q1 q2 q3 q4 p5)), .val (.int ((own_N q0 q1 q2 q3 q4 p5) - (own_K q0 q1 q2 q3 q4 p5))), .val (.ref b51)] [(.long (f_35 ((hd'_39 + (2 : Int32)) - ((hd'_39 + (2 : Int32)) / (4 : Int32)) * (4 : Int32)).toInt.toNat))])) (fun t k => st90.trans k) ?_
        refine own_go (T' := T90) (f' := (mkF m 333 #[.val (.long q0), .second, .val (.long q1), .second, .val (.long q2), .second, .val (.long q3), .second, .val (.long q4), .second, .val (.int p5), .val (.int (own_N q0 q1 q2 q3 q4 p5)), .val (.int (own_P q0 q1 q2 q3 q4 p5)), .val (.ref b1), .val (.int (own_K q0 q1 q2 q3 q4 p5)), .val (.int ((own_N q0 q1 q2 q3 q4 p5) - (own_K q0 q1 q2 q3 q4 p5))), .val (.ref b51)] [(.int (3 : Int32)), (.int ((own_N q0 q1 q2 q3 q4 p5) - (own_K q0 q1 q2 q3 q4 p5)))])) (fun t k => ?_) ?_
        · show Steps p.tables e below (T90.setTop (mkF m 317 #[.val (.long q0), .second, .val (.long q1), .second, .val (.long q2), .second, .val (.long q3), .second, .val (.long q4), .second, .val (.int p5), .val (.int (own_N q0 q1 q2 q3 q4 p5)), .val (.int (own_P q0 q1 q2 q3 q4 p5)), .val (.ref b1), .val (.int (own_K q0 q1 q2 q3 q4 p5)), .val (.int ((own_N q0 q1 q2 q3 q4 p5) - (own_K q0 q1 q2 q3 q4 p5))), .val (.ref b51)] [(.long (f_35 ((hd'_39 + (2 : Int32)) - ((hd'_39 + (2 : Int32)) / (4 : Int32)) * (4 : Int32)).toInt.toNat))])) _
          refine XS.aload X90.here hx rfl (hb hby at_317) rfl rfl ?_
          show Steps p.tables e below (T90.setTop (mkF m 319 #[.val (.long q0), .second, .val (.long q1), .second, .val (.long q2), .second, .val (.long q3), .second, .val (.long q4), .second, .val (.int p5), .val (.int (own_N q0 q1 q2 q3 q4 p5)), .val (.int (own_P q0 q1 q2 q3 q4 p5)), .val (.ref b1), .val (.int (own_K q0 q1 q2 q3 q4 p5)), .val (.int ((own_N q0 q1 q2 q3 q4 p5) - (own_K q0 q1 q2 q3 q4 p5))), .val (.ref b51)] [(.ref b51), (.long (f_35 ((hd'_39 + (2 : Int32)) - ((hd'_39 + (2 : Int32)) / (4 : Int32)) * (4 : Int32)).toInt.toNat))])) _
          refine XS.iload X90.here hx rfl (hb hby at_319) rfl ?_
          show Steps p.tables e below (T90.setTop (mkF m 321 #[.val (.long q0), .second, .val (.long q1), .second, .val (.long q2), .second, .val (.long q3), .second, .val (.long q4), .second, .val (.int p5), .val (.int (own_N q0 q1 q2 q3 q4 p5)), .val (.int (own_P q0 q1 q2 q3 q4 p5)), .val (.ref b1), .val (.int (own_K q0 q1 q2 q3 q4 p5)), .val (.int ((own_N q0 q1 q2 q3 q4 p5) - (own_K q0 q1 q2 q3 q4 p5))), .val (.ref b51)] [(.int (own_K q0 q1 q2 q3 q4 p5)), (.ref b51), (.long (f_35 ((hd'_39 + (2 : Int32)) - ((hd'_39 + (2 : Int32)) / (4 : Int32)) * (4 : Int32)).toInt.toNat))])) _
          refine XS.iconst X90.here hx rfl (hb hby at_321) ?_
          show Steps p.tables e below (T90.setTop (mkF m 322 #[.val (.long q0), .second, .val (.long q1), .second, .val (.long q2), .second, .val (.long q3), .second, .val (.long q4), .second, .val (.int p5), .val (.int (own_N q0 q1 q2 q3 q4 p5)), .val (.int (own_P q0 q1 q2 q3 q4 p5)), .val (.ref b1), .val (.int (own_K q0 q1 q2 q3 q4 p5)), .val (.int ((own_N q0 q1 q2 q3 q4 p5) - (own_K q0 q1 q2 q3 q4 p5))), .val (.ref b51)] [(.int (2 : Int32)), (.int (own_K q0 q1 q2 q3 q4 p5)), (.ref b51), (.long (f_35 ((hd'_39 + (2 : Int32)) - ((hd'_39 + (2 : Int32)) / (4 : Int32)) * (4 : Int32)).toInt.toNat))])) _
          refine XS.iadd X90.here hx rfl (hb hby at_322) rfl ?_
          show Steps p.tables e below (T90.setTop (mkF m 323 #[.val (.long q0), .second, .val (.long q1), .second, .val (.long q2), .second, .val (.long q3), .second, .val (.long q4), .second, .val (.int p5), .val (.int (own_N q0 q1 q2 q3 q4 p5)), .val (.int (own_P q0 q1 q2 q3 q4 p5)), .val (.ref b1), .val (.int (own_K q0 q1 q2 q3 q4 p5)), .val (.int ((own_N q0 q1 q2 q3 q4 p5) - (own_K q0 q1 q2 q3 q4 p5))), .val (.ref b51)] [(.int ((own_K q0 q1 q2 q3 q4 p5) + (2 : Int32))), (.ref b51), (.long (f_35 ((hd'_39 + (2 : Int32)) - ((hd'_39 + (2 : Int32)) / (4 : Int32)) * (4 : Int32)).toInt.toNat))])) _
          refine own_ldJ X90 hx hZ h90q fc84 (j := ((own_K q0 q1 q2 q3 q4 p5) + (2 : Int32))) (hE.2.2.2 (2 : Int32) (by decide) hc308_89).1 (hE.2.2.2 (2 : Int32) (by decide) hc308_89).2.1 (g := (mkF m 323 #[.val (.long q0), .second, .val (.long q1), .second, .val (.long q2), .second, .val (.long q3), .second, .val (.long q4), .second, .val (.int p5), .val (.int (own_N q0 q1 q2 q3 q4 p5)), .val (.int (own_P q0 q1 q2 q3 q4 p5)), .val (.ref b1), .val (.int (own_K q0 q1 q2 q3 q4 p5)), .val (.int ((own_N q0 q1 q2 q3 q4 p5) - (own_K q0 q1 q2 q3 q4 p5))), .val (.ref b51)] [(.int ((own_K q0 q1 q2 q3 q4 p5) + (2 : Int32))), (.ref b51), (.long (f_35 ((hd'_39 + (2 : Int32)) - ((hd'_39 + (2 : Int32)) / (4 : Int32)) * (4 : Int32)).toInt.toNat))])) rfl rfl (hb hby at_323) _ ?_
          show Steps p.tables e below (T90.setTop (mkF m 324 #[.val (.long q0), .second, .val (.long q1), .second, .val (.long q2), .second, .val (.long q3), .second, .val (.long q4), .second, .val (.int p5), .val (.int (own_N q0 q1 q2 q3 q4 p5)), .val (.int (own_P q0 q1 q2 q3 q4 p5)), .val (.ref b1), .val (.int (own_K q0 q1 q2 q3 q4 p5)), .val (.int ((own_N q0 q1 q2 q3 q4 p5) - (own_K q0 q1 q2 q3 q4 p5))), .val (.ref b51)] [(.long (y78 ((own_K q0 q1 q2 q3 q4 p5) + (2 : Int32)).toInt.toNat)), (.long (f_35 ((hd'_39 + (2 : Int32)) - ((hd'_39 + (2 : Int32)) / (4 : Int32)) * (4 : Int32)).toInt.toNat))])) _
          refine XS.lcmp X90.here hx rfl (hb hby at_324) rfl ?_
          show Steps p.tables e below (T90.setTop (mkF m 325 #[.val (.long q0), .second, .val (.long q1), .second, .val (.long q2), .second, .val (.long q3), .second, .val (.long q4), .second, .val (.int p5), .val (.int (own_N q0 q1 q2 q3 q4 p5)), .val (.int (own_P q0 q1 q2 q3 q4 p5)), .val (.ref b1), .val (.int (own_K q0 q1 q2 q3 q4 p5)), .val (.int ((own_N q0 q1 q2 q3 q4 p5) - (own_K q0 q1 q2 q3 q4 p5))), .val (.ref b51)] [(.int (lcmpW (f_35 ((hd'_39 + (2 : Int32)) - ((hd'_39 + (2 : Int32)) / (4 : Int32)) * (4 : Int32)).toInt.toNat) (y78 ((own_K q0 q1 q2 q3 q4 p5) + (2 : Int32)).toInt.toNat)))])) _
          refine XS.ifYes X90.here hx rfl (pc0 := 325) (pc' := 330) rfl (hb hby at_325) rfl ((if0 _ _).trans (teq ((lw_eq (f_35 ((hd'_39 + (2 : Int32)) - ((hd'_39 + (2 : Int32)) / (4 : Int32)) * (4 : Int32)).toInt.toNat) (y78 ((own_K q0 q1 q2 q3 q4 p5) + (2 : Int32)).toInt.toNat)).mpr ((hE.2.2.2 (2 : Int32) (by decide) hc308_89).2.2 htt))).1) (by decide) (by decide) ?_
          show Steps p.tables e below (T90.setTop (mkF m 330 #[.val (.long q0), .second, .val (.long q1), .second, .val (.long q2), .second, .val (.long q3), .second, .val (.long q4), .second, .val (.int p5), .val (.int (own_N q0 q1 q2 q3 q4 p5)), .val (.int (own_P q0 q1 q2 q3 q4 p5)), .val (.ref b1), .val (.int (own_K q0 q1 q2 q3 q4 p5)), .val (.int ((own_N q0 q1 q2 q3 q4 p5) - (own_K q0 q1 q2 q3 q4 p5))), .val (.ref b51)] [])) _
          refine XS.iload X90.here hx rfl (hb hby at_330) rfl ?_
          show Steps p.tables e below (T90.setTop (mkF m 332 #[.val (.long q0), .second, .val (.long q1), .second, .val (.long q2), .second, .val (.long q3), .second, .val (.long q4), .second, .val (.int p5), .val (.int (own_N q0 q1 q2 q3 q4 p5)), .val (.int (own_P q0 q1 q2 q3 q4 p5)), .val (.ref b1), .val (.int (own_K q0 q1 q2 q3 q4 p5)), .val (.int ((own_N q0 q1 q2 q3 q4 p5) - (own_K q0 q1 q2 q3 q4 p5))), .val (.ref b51)] [(.int ((own_N q0 q1 q2 q3 q4 p5) - (own_K q0 q1 q2 q3 q4 p5)))])) _
          refine XS.iconst X90.here hx rfl (hb hby at_332) ?_
          show Steps p.tables e below (T90.setTop (mkF m 333 #[.val (.long q0), .second, .val (.long q1), .second, .val (.long q2), .second, .val (.long q3), .second, .val (.long q4), .second, .val (.int p5), .val (.int (own_N q0 q1 q2 q3 q4 p5)), .val (.int (own_P q0 q1 q2 q3 q4 p5)), .val (.ref b1), .val (.int (own_K q0 q1 q2 q3 q4 p5)), .val (.int ((own_N q0 q1 q2 q3 q4 p5) - (own_K q0 q1 q2 q3 q4 p5))), .val (.ref b51)] [(.int (3 : Int32)), (.int ((own_N q0 q1 q2 q3 q4 p5) - (own_K q0 q1 q2 q3 q4 p5)))])) _
          exact k
        by_cases hc333_91 : (3 : Int32) < ((own_N q0 q1 q2 q3 q4 p5) - (own_K q0 q1 q2 q3 q4 p5))
        · skip
          refine own_go (T' := T90) (f' := (mkF m 339 #[.val (.long q0), .second, .val (.long q1), .second, .val (.long q2), .second, .val (.long q3), .second, .val (.long q4), .second, .val (.int p5), .val (.int (own_N q0 q1 q2 q3 q4 p5)), .val (.int (own_P q0 q1 q2 q3 q4 p5)), .val (.ref b1), .val (.int (own_K q0 q1 q2 q3 q4 p5)), .val (.int ((own_N q0 q1 q2 q3 q4 p5) - (own_K q0 q1 q2 q3 q4 p5))), .val (.ref b51)] [(.int (3 : Int32)), (.ref b1)])) (fun t k => ?_) ?_
          · show Steps p.tables e below (T90.setTop (mkF m 333 #[.val (.long q0), .second, .val (.long q1), .second, .val (.long q2), .second, .val (.long q3), .second, .val (.long q4), .second, .val (.int p5), .val (.int (own_N q0 q1 q2 q3 q4 p5)), .val (.int (own_P q0 q1 q2 q3 q4 p5)), .val (.ref b1), .val (.int (own_K q0 q1 q2 q3 q4 p5)), .val (.int ((own_N q0 q1 q2 q3 q4 p5) - (own_K q0 q1 q2 q3 q4 p5))), .val (.ref b51)] [(.int (3 : Int32)), (.int ((own_N q0 q1 q2 q3 q4 p5) - (own_K q0 q1 q2 q3 q4 p5)))])) _
            refine XS.icmpNo X90.here hx rfl (hb hby at_333) rfl (tlt hc333_91).2.2.2 ?_
            show Steps p.tables e below (T90.setTop (mkF m 336 #[.val (.long q0), .second, .val (.long q1), .second, .val (.long q2), .second, .val (.long q3), .second, .val (.long q4), .second, .val (.int p5), .val (.int (own_N q0 q1 q2 q3 q4 p5)), .val (.int (own_P q0 q1 q2 q3 q4 p5)), .val (.ref b1), .val (.int (own_K q0 q1 q2 q3 q4 p5)), .val (.int ((own_N q0 q1 q2 q3 q4 p5) - (own_K q0 q1 q2 q3 q4 p5))), .val (.ref b51)] [])) _
            refine XS.aload X90.here hx rfl (hb hby at_336) rfl rfl ?_
            show Steps p.tables e below (T90.setTop (mkF m 338 #[.val (.long q0), .second, .val (.long q1), .second, .val (.long q2), .second, .val (.long q3), .second, .val (.long q4), .second, .val (.int p5), .val (.int (own_N q0 q1 q2 q3 q4 p5)), .val (.int (own_P q0 q1 q2 q3 q4 p5)), .val (.ref b1), .val (.int (own_K q0 q1 q2 q3 q4 p5)), .val (.int ((own_N q0 q1 q2 q3 q4 p5) - (own_K q0 q1 q2 q3 q4 p5))), .val (.ref b51)] [(.ref b1)])) _
            refine XS.iconst X90.here hx rfl (hb hby at_338) ?_
            show Steps p.tables e below (T90.setTop (mkF m 339 #[.val (.long q0), .second, .val (.long q1), .second, .val (.long q2), .second, .val (.long q3), .second, .val (.long q4), .second, .val (.int p5), .val (.int (own_N q0 q1 q2 q3 q4 p5)), .val (.int (own_P q0 q1 q2 q3 q4 p5)), .val (.ref b1), .val (.int (own_K q0 q1 q2 q3 q4 p5)), .val (.int ((own_N q0 q1 q2 q3 q4 p5) - (own_K q0 q1 q2 q3 q4 p5))), .val (.ref b51)] [(.int (3 : Int32)), (.ref b1)])) _
            exact k
          obtain ⟨cq92, kq92, q92a, q92b, q92c⟩ := isOf hZ h90q fc79
          obtain ⟨_, _, ⟨T92, Lq92, kq92, nq92⟩, -, X92, ⟨Lc92, hQ92, lq92, yq92, zq92⟩, st92⟩ := X90.virtualBack hx (y := (⟨"com/example/lid_on_load/lidonload/limit/TimeRing", "time", "(I)J"⟩ : MethodName)) (z := (⟨"com/example/lid_on_load/lidonload/limit/TimeRing", "time", "(I)J"⟩ : MethodName)) hown (mvT hZ (hw _ (List.mem_of_getElem? (i := 37) rfl))) (mvT hZ (hw _ (List.mem_of_getElem? (i := 38) rfl))) (notFace_of_selects (args := #[]) (mvT hZ (hw _ (List.mem_of_getElem? (i := 40) rfl)))) (mvT hZ (hw _ (List.mem_of_getElem? (i := 40) rfl))) (mvT hZ (hw _ (List.mem_of_getElem? (i := 39) rfl))) (by decide) (backOf (W := 0) (own_rm6 l Z a0 hw [] b1 ((3 : Int32)) br_5 (hd'_39) f_35 h78 n0 Zs78 fc81 fc82 fc80 hE.2.1 hE.2.2.1 (by decide) (by decide)) hZ (hw _ (List.mem_of_getElem? (i := 41) rfl)) (hw _ (List.mem_of_getElem? (i := 2) rfl)) (by decide) (by decide)) q92a q92c (g := (mkF m 339 #[.val (.long q0), .second, .val (.long q1), .second, .val (.long q2), .second, .val (.long q3), .second, .val (.long q4), .second, .val (.int p5), .val (.int (own_N q0 q1 q2 q3 q4 p5)), .val (.int (own_P q0 q1 q2 q3 q4 p5)), .val (.ref b1), .val (.int (own_K q0 q1 q2 q3 q4 p5)), .val (.int ((own_N q0 q1 q2 q3 q4 p5) - (own_K q0 q1 q2 q3 q4 p5))), .val (.ref b51)] [(.int (3 : Int32)), (.ref b1)])) rfl (by rw [hml]; rfl) (Steps.refl _) (argsL := [(.int (3 : Int32))]) (rest := []) (lenOf own_pd5 rfl) rfl (by show 2 * 0 + _ ≤ _; exact Nat.le_of_eq rfl) (hb hby at_339) (fun _ _ => ⟨rfl, h90q, (by decide : 3 + 0 ≤ _), (by decide : 11 + 0 ≤ _)⟩)
          dsimp only [Pt.U, Pt.locs, Pt.cells, Pt.slots] at X92 lq92 yq92 zq92 st92 hQ92
          subst lq92 yq92 zq92
          obtain ⟨rfl, N92q, h92q⟩ := hQ92
          have N92 := Fr.app N90 N92q
          refine own_go (T' := T92) (f' := (mkF m 342 #[.val (.long q0), .second, .val (.long q1), .second, .val (.long q2), .second, .val (.long q3), .second, .val (.long q4), .second, .val (.int p5), .val (.int (own_N q0 q1 q2 q3 q4 p5)), .val (.int (own_P q0 q1 q2 q3 q4 p5)), .val (.ref b1), .val (.int (own_K q0 q1 q2 q3 q4 p5)), .val (.int ((own_N q0 q1 q2 q3 q4 p5) - (own_K q0 q1 q2 q3 q4 p5))), .val (.ref b51)] [(.long (f_35 ((hd'_39 + (3 : Int32)) - ((hd'_39 + (3 : Int32)) / (4 : Int32)) * (4 : Int32)).toInt.toNat))])) (fun t k => st92.trans k) ?_
          refine own_go (T' := T92) (f' := (mkF m 356 #[.val (.long q0), .second, .val (.long q1), .second, .val (.long q2), .second, .val (.long q3), .second, .val (.long q4), .second, .val (.int p5), .val (.int (own_N q0 q1 q2 q3 q4 p5)), .val (.int (own_P q0 q1 q2 q3 q4 p5)), .val (.ref b1), .val (.int (own_K q0 q1 q2 q3 q4 p5)), .val (.int ((own_N q0 q1 q2 q3 q4 p5) - (own_K q0 q1 q2 q3 q4 p5))), .val (.ref b51)] [(.int (1 : Int32))])) (fun t k => ?_) ?_
          · show Steps p.tables e below (T92.setTop (mkF m 342 #[.val (.long q0), .second, .val (.long q1), .second, .val (.long q2), .second, .val (.long q3), .second, .val (.long q4), .second, .val (.int p5), .val (.int (own_N q0 q1 q2 q3 q4 p5)), .val (.int (own_P q0 q1 q2 q3 q4 p5)), .val (.ref b1), .val (.int (own_K q0 q1 q2 q3 q4 p5)), .val (.int ((own_N q0 q1 q2 q3 q4 p5) - (own_K q0 q1 q2 q3 q4 p5))), .val (.ref b51)] [(.long (f_35 ((hd'_39 + (3 : Int32)) - ((hd'_39 + (3 : Int32)) / (4 : Int32)) * (4 : Int32)).toInt.toNat))])) _
            refine XS.aload X92.here hx rfl (hb hby at_342) rfl rfl ?_
            show Steps p.tables e below (T92.setTop (mkF m 344 #[.val (.long q0), .second, .val (.long q1), .second, .val (.long q2), .second, .val (.long q3), .second, .val (.long q4), .second, .val (.int p5), .val (.int (own_N q0 q1 q2 q3 q4 p5)), .val (.int (own_P q0 q1 q2 q3 q4 p5)), .val (.ref b1), .val (.int (own_K q0 q1 q2 q3 q4 p5)), .val (.int ((own_N q0 q1 q2 q3 q4 p5) - (own_K q0 q1 q2 q3 q4 p5))), .val (.ref b51)] [(.ref b51), (.long (f_35 ((hd'_39 + (3 : Int32)) - ((hd'_39 + (3 : Int32)) / (4 : Int32)) * (4 : Int32)).toInt.toNat))])) _
            refine XS.iload X92.here hx rfl (hb hby at_344) rfl ?_
            show Steps p.tables e below (T92.setTop (mkF m 346 #[.val (.long q0), .second, .val (.long q1), .second, .val (.long q2), .second, .val (.long q3), .second, .val (.long q4), .second, .val (.int p5), .val (.int (own_N q0 q1 q2 q3 q4 p5)), .val (.int (own_P q0 q1 q2 q3 q4 p5)), .val (.ref b1), .val (.int (own_K q0 q1 q2 q3 q4 p5)), .val (.int ((own_N q0 q1 q2 q3 q4 p5) - (own_K q0 q1 q2 q3 q4 p5))), .val (.ref b51)] [(.int (own_K q0 q1 q2 q3 q4 p5)), (.ref b51), (.long (f_35 ((hd'_39 + (3 : Int32)) - ((hd'_39 + (3 : Int32)) / (4 : Int32)) * (4 : Int32)).toInt.toNat))])) _
            refine XS.iconst X92.here hx rfl (hb hby at_346) ?_
            show Steps p.tables e below (T92.setTop (mkF m 347 #[.val (.long q0), .second, .val (.long q1), .second, .val (.long q2), .second, .val (.long q3), .second, .val (.long q4), .second, .val (.int p5), .val (.int (own_N q0 q1 q2 q3 q4 p5)), .val (.int (own_P q0 q1 q2 q3 q4 p5)), .val (.ref b1), .val (.int (own_K q0 q1 q2 q3 q4 p5)), .val (.int ((own_N q0 q1 q2 q3 q4 p5) - (own_K q0 q1 q2 q3 q4 p5))), .val (.ref b51)] [(.int (3 : Int32)), (.int (own_K q0 q1 q2 q3 q4 p5)), (.ref b51), (.long (f_35 ((hd'_39 + (3 : Int32)) - ((hd'_39 + (3 : Int32)) / (4 : Int32)) * (4 : Int32)).toInt.toNat))])) _
            refine XS.iadd X92.here hx rfl (hb hby at_347) rfl ?_
            show Steps p.tables e below (T92.setTop (mkF m 348 #[.val (.long q0), .second, .val (.long q1), .second, .val (.long q2), .second, .val (.long q3), .second, .val (.long q4), .second, .val (.int p5), .val (.int (own_N q0 q1 q2 q3 q4 p5)), .val (.int (own_P q0 q1 q2 q3 q4 p5)), .val (.ref b1), .val (.int (own_K q0 q1 q2 q3 q4 p5)), .val (.int ((own_N q0 q1 q2 q3 q4 p5) - (own_K q0 q1 q2 q3 q4 p5))), .val (.ref b51)] [(.int ((own_K q0 q1 q2 q3 q4 p5) + (3 : Int32))), (.ref b51), (.long (f_35 ((hd'_39 + (3 : Int32)) - ((hd'_39 + (3 : Int32)) / (4 : Int32)) * (4 : Int32)).toInt.toNat))])) _
            refine own_ldJ X92 hx hZ h92q fc84 (j := ((own_K q0 q1 q2 q3 q4 p5) + (3 : Int32))) (hE.2.2.2 (3 : Int32) (by decide) hc333_91).1 (hE.2.2.2 (3 : Int32) (by decide) hc333_91).2.1 (g := (mkF m 348 #[.val (.long q0), .second, .val (.long q1), .second, .val (.long q2), .second, .val (.long q3), .second, .val (.long q4), .second, .val (.int p5), .val (.int (own_N q0 q1 q2 q3 q4 p5)), .val (.int (own_P q0 q1 q2 q3 q4 p5)), .val (.ref b1), .val (.int (own_K q0 q1 q2 q3 q4 p5)), .val (.int ((own_N q0 q1 q2 q3 q4 p5) - (own_K q0 q1 q2 q3 q4 p5))), .val (.ref b51)] [(.int ((own_K q0 q1 q2 q3 q4 p5) + (3 : Int32))), (.ref b51), (.long (f_35 ((hd'_39 + (3 : Int32)) - ((hd'_39 + (3 : Int32)) / (4 : Int32)) * (4 : Int32)).toInt.toNat))])) rfl rfl (hb hby at_348) _ ?_
            show Steps p.tables e below (T92.setTop (mkF m 349 #[.val (.long q0), .second, .val (.long q1), .second, .val (.long q2), .second, .val (.long q3), .second, .val (.long q4), .second, .val (.int p5), .val (.int (own_N q0 q1 q2 q3 q4 p5)), .val (.int (own_P q0 q1 q2 q3 q4 p5)), .val (.ref b1), .val (.int (own_K q0 q1 q2 q3 q4 p5)), .val (.int ((own_N q0 q1 q2 q3 q4 p5) - (own_K q0 q1 q2 q3 q4 p5))), .val (.ref b51)] [(.long (y78 ((own_K q0 q1 q2 q3 q4 p5) + (3 : Int32)).toInt.toNat)), (.long (f_35 ((hd'_39 + (3 : Int32)) - ((hd'_39 + (3 : Int32)) / (4 : Int32)) * (4 : Int32)).toInt.toNat))])) _
            refine XS.lcmp X92.here hx rfl (hb hby at_349) rfl ?_
            show Steps p.tables e below (T92.setTop (mkF m 350 #[.val (.long q0), .second, .val (.long q1), .second, .val (.long q2), .second, .val (.long q3), .second, .val (.long q4), .second, .val (.int p5), .val (.int (own_N q0 q1 q2 q3 q4 p5)), .val (.int (own_P q0 q1 q2 q3 q4 p5)), .val (.ref b1), .val (.int (own_K q0 q1 q2 q3 q4 p5)), .val (.int ((own_N q0 q1 q2 q3 q4 p5) - (own_K q0 q1 q2 q3 q4 p5))), .val (.ref b51)] [(.int (lcmpW (f_35 ((hd'_39 + (3 : Int32)) - ((hd'_39 + (3 : Int32)) / (4 : Int32)) * (4 : Int32)).toInt.toNat) (y78 ((own_K q0 q1 q2 q3 q4 p5) + (3 : Int32)).toInt.toNat)))])) _
            refine XS.ifYes X92.here hx rfl (pc0 := 350) (pc' := 355) rfl (hb hby at_350) rfl ((if0 _ _).trans (teq ((lw_eq (f_35 ((hd'_39 + (3 : Int32)) - ((hd'_39 + (3 : Int32)) / (4 : Int32)) * (4 : Int32)).toInt.toNat) (y78 ((own_K q0 q1 q2 q3 q4 p5) + (3 : Int32)).toInt.toNat)).mpr ((hE.2.2.2 (3 : Int32) (by decide) hc333_91).2.2 htt))).1) (by decide) (by decide) ?_
            show Steps p.tables e below (T92.setTop (mkF m 355 #[.val (.long q0), .second, .val (.long q1), .second, .val (.long q2), .second, .val (.long q3), .second, .val (.long q4), .second, .val (.int p5), .val (.int (own_N q0 q1 q2 q3 q4 p5)), .val (.int (own_P q0 q1 q2 q3 q4 p5)), .val (.ref b1), .val (.int (own_K q0 q1 q2 q3 q4 p5)), .val (.int ((own_N q0 q1 q2 q3 q4 p5) - (own_K q0 q1 q2 q3 q4 p5))), .val (.ref b51)] [])) _
            refine XS.iconst X92.here hx rfl (hb hby at_355) ?_
            show Steps p.tables e below (T92.setTop (mkF m 356 #[.val (.long q0), .second, .val (.long q1), .second, .val (.long q2), .second, .val (.long q3), .second, .val (.long q4), .second, .val (.int p5), .val (.int (own_N q0 q1 q2 q3 q4 p5)), .val (.int (own_P q0 q1 q2 q3 q4 p5)), .val (.ref b1), .val (.int (own_K q0 q1 q2 q3 q4 p5)), .val (.int ((own_N q0 q1 q2 q3 q4 p5) - (own_K q0 q1 q2 q3 q4 p5))), .val (.ref b51)] [(.int (1 : Int32))])) _
            exact k
          obtain ⟨fs, hr, hrun, hended, hW, hsame⟩ := X92.leave (v := some (.int (1 : Int32))) (fun h => by rw [Bd.returns] at h; cases h)
          refine ⟨_, _, ?_, hrun, hended, _, _, rfl, ?_, ⟨_, rfl⟩, hW, hsame.mono (by decide) (by decide)⟩
          · exact retN X92 hx (t := .boolean) Bd.returns (by simp) (hb hby at_356) hr
          · show own_Q0 Z q0 q1 q2 q3 q4 p5 h0 n0 _ T92.heap _
            rw [h92q]
            exact ⟨rfl, N92⟩
        · skip
          refine own_go (T' := T90) (f' := (mkF m 356 #[.val (.long q0), .second, .val (.long q1), .second, .val (.long q2), .second, .val (.long q3), .second, .val (.long q4), .second, .val (.int p5), .val (.int (own_N q0 q1 q2 q3 q4 p5)), .val (.int (own_P q0 q1 q2 q3 q4 p5)), .val (.ref b1), .val (.int (own_K q0 q1 q2 q3 q4 p5)), .val (.int ((own_N q0 q1 q2 q3 q4 p5) - (own_K q0 q1 q2 q3 q4 p5))), .val (.ref b51)] [(.int (1 : Int32))])) (fun t k => ?_) ?_
          · show Steps p.tables e below (T90.setTop (mkF m 333 #[.val (.long q0), .second, .val (.long q1), .second, .val (.long q2), .second, .val (.long q3), .second, .val (.long q4), .second, .val (.int p5), .val (.int (own_N q0 q1 q2 q3 q4 p5)), .val (.int (own_P q0 q1 q2 q3 q4 p5)), .val (.ref b1), .val (.int (own_K q0 q1 q2 q3 q4 p5)), .val (.int ((own_N q0 q1 q2 q3 q4 p5) - (own_K q0 q1 q2 q3 q4 p5))), .val (.ref b51)] [(.int (3 : Int32)), (.int ((own_N q0 q1 q2 q3 q4 p5) - (own_K q0 q1 q2 q3 q4 p5)))])) _
            refine XS.icmpYes X90.here hx rfl (pc0 := 333) (pc' := 355) rfl (hb hby at_333) rfl (flt hc333_91).2.2.2 (by decide) (by decide) ?_
            show Steps p.tables e below (T90.setTop (mkF m 355 #[.val (.long q0), .second, .val (.long q1), .second, .val (.long q2), .second, .val (.long q3), .second, .val (.long q4), .second, .val (.int p5), .val (.int (own_N q0 q1 q2 q3 q4 p5)), .val (.int (own_P q0 q1 q2 q3 q4 p5)), .val (.ref b1), .val (.int (own_K q0 q1 q2 q3 q4 p5)), .val (.int ((own_N q0 q1 q2 q3 q4 p5) - (own_K q0 q1 q2 q3 q4 p5))), .val (.ref b51)] [])) _
            refine XS.iconst X90.here hx rfl (hb hby at_355) ?_
            show Steps p.tables e below (T90.setTop (mkF m 356 #[.val (.long q0), .second, .val (.long q1), .second, .val (.long q2), .second, .val (.long q3), .second, .val (.long q4), .second, .val (.int p5), .val (.int (own_N q0 q1 q2 q3 q4 p5)), .val (.int (own_P q0 q1 q2 q3 q4 p5)), .val (.ref b1), .val (.int (own_K q0 q1 q2 q3 q4 p5)), .val (.int ((own_N q0 q1 q2 q3 q4 p5) - (own_K q0 q1 q2 q3 q4 p5))), .val (.ref b51)] [(.int (1 : Int32))])) _
            exact k
          obtain ⟨fs, hr, hrun, hended, hW, hsame⟩ := X90.leave (v := some (.int (1 : Int32))) (fun h => by rw [Bd.returns] at h; cases h)
          refine ⟨_, _, ?_, hrun, hended, _, _, rfl, ?_, ⟨_, rfl⟩, hW, hsame.mono (by decide) (by decide)⟩
          · exact retN X90 hx (t := .boolean) Bd.returns (by simp) (hb hby at_356) hr
          · show own_Q0 Z q0 q1 q2 q3 q4 p5 h0 n0 _ T90.heap _
            rw [h90q]
            exact ⟨rfl, N90⟩
      · skip
        refine own_go (T' := T88) (f' := (mkF m 356 #[.val (.long q0), .second, .val (.long q1), .second, .val (.long q2), .second, .val (.long q3), .second, .val (.long q4), .second, .val (.int p5), .val (.int (own_N q0 q1 q2 q3 q4 p5)), .val (.int (own_P q0 q1 q2 q3 q4 p5)), .val (.ref b1), .val (.int (own_K q0 q1 q2 q3 q4 p5)), .val (.int ((own_N q0 q1 q2 q3 q4 p5) - (own_K q0 q1 q2 q3 q4 p5))), .val (.ref b51)] [(.int (1 : Int32))])) (fun t k => ?_) ?_
        · show Steps p.tables e below (T88.setTop (mkF m 308 #[.val (.long q0), .second, .val (.long q1), .second, .val (.long q2), .second, .val (.long q3), .second, .val (.long q4), .second, .val (.int p5), .val (.int (own_N q0 q1 q2 q3 q4 p5)), .val (.int (own_P q0 q1 q2 q3 q4 p5)), .val (.ref b1), .val (.int (own_K q0 q1 q2 q3 q4 p5)), .val (.int ((own_N q0 q1 q2 q3 q4 p5) - (own_K q0 q1 q2 q3 q4 p5))), .val (.ref b51)] [(.int (2 : Int32)), (.int ((own_N q0 q1 q2 q3 q4 p5) - (own_K q0 q1 q2 q3 q4 p5)))])) _
          refine XS.icmpYes X88.here hx rfl (pc0 := 308) (pc' := 330) rfl (hb hby at_308) rfl (flt hc308_89).2.2.2 (by decide) (by decide) ?_
          show Steps p.tables e below (T88.setTop (mkF m 330 #[.val (.long q0), .second, .val (.long q1), .second, .val (.long q2), .second, .val (.long q3), .second, .val (.long q4), .second, .val (.int p5), .val (.int (own_N q0 q1 q2 q3 q4 p5)), .val (.int (own_P q0 q1 q2 q3 q4 p5)), .val (.ref b1), .val (.int (own_K q0 q1 q2 q3 q4 p5)), .val (.int ((own_N q0 q1 q2 q3 q4 p5) - (own_K q0 q1 q2 q3 q4 p5))), .val (.ref b51)] [])) _
          refine XS.iload X88.here hx rfl (hb hby at_330) rfl ?_
          show Steps p.tables e below (T88.setTop (mkF m 332 #[.val (.long q0), .second, .val (.long q1), .second, .val (.long q2), .second, .val (.long q3), .second, .val (.long q4), .second, .val (.int p5), .val (.int (own_N q0 q1 q2 q3 q4 p5)), .val (.int (own_P q0 q1 q2 q3 q4 p5)), .val (.ref b1), .val (.int (own_K q0 q1 q2 q3 q4 p5)), .val (.int ((own_N q0 q1 q2 q3 q4 p5) - (own_K q0 q1 q2 q3 q4 p5))), .val (.ref b51)] [(.int ((own_N q0 q1 q2 q3 q4 p5) - (own_K q0 q1 q2 q3 q4 p5)))])) _
          refine XS.iconst X88.here hx rfl (hb hby at_332) ?_
          show Steps p.tables e below (T88.setTop (mkF m 333 #[.val (.long q0), .second, .val (.long q1), .second, .val (.long q2), .second, .val (.long q3), .second, .val (.long q4), .second, .val (.int p5), .val (.int (own_N q0 q1 q2 q3 q4 p5)), .val (.int (own_P q0 q1 q2 q3 q4 p5)), .val (.ref b1), .val (.int (own_K q0 q1 q2 q3 q4 p5)), .val (.int ((own_N q0 q1 q2 q3 q4 p5) - (own_K q0 q1 q2 q3 q4 p5))), .val (.ref b51)] [(.int (3 : Int32)), (.int ((own_N q0 q1 q2 q3 q4 p5) - (own_K q0 q1 q2 q3 q4 p5)))])) _
          refine XS.icmpYes X88.here hx rfl (pc0 := 333) (pc' := 355) rfl (hb hby at_333) rfl (flt (own_mono hc308_89 (by decide))).2.2.2 (by decide) (by decide) ?_
          show Steps p.tables e below (T88.setTop (mkF m 355 #[.val (.long q0), .second, .val (.long q1), .second, .val (.long q2), .second, .val (.long q3), .second, .val (.long q4), .second, .val (.int p5), .val (.int (own_N q0 q1 q2 q3 q4 p5)), .val (.int (own_P q0 q1 q2 q3 q4 p5)), .val (.ref b1), .val (.int (own_K q0 q1 q2 q3 q4 p5)), .val (.int ((own_N q0 q1 q2 q3 q4 p5) - (own_K q0 q1 q2 q3 q4 p5))), .val (.ref b51)] [])) _
          refine XS.iconst X88.here hx rfl (hb hby at_355) ?_
          show Steps p.tables e below (T88.setTop (mkF m 356 #[.val (.long q0), .second, .val (.long q1), .second, .val (.long q2), .second, .val (.long q3), .second, .val (.long q4), .second, .val (.int p5), .val (.int (own_N q0 q1 q2 q3 q4 p5)), .val (.int (own_P q0 q1 q2 q3 q4 p5)), .val (.ref b1), .val (.int (own_K q0 q1 q2 q3 q4 p5)), .val (.int ((own_N q0 q1 q2 q3 q4 p5) - (own_K q0 q1 q2 q3 q4 p5))), .val (.ref b51)] [(.int (1 : Int32))])) _
          exact k
        obtain ⟨fs, hr, hrun, hended, hW, hsame⟩ := X88.leave (v := some (.int (1 : Int32))) (fun h => by rw [Bd.returns] at h; cases h)
        refine ⟨_, _, ?_, hrun, hended, _, _, rfl, ?_, ⟨_, rfl⟩, hW, hsame.mono (by decide) (by decide)⟩
        · exact retN X88 hx (t := .boolean) Bd.returns (by simp) (hb hby at_356) hr
        · show own_Q0 Z q0 q1 q2 q3 q4 p5 h0 n0 _ T88.heap _
          rw [h88q]
          exact ⟨rfl, N88⟩
    · skip
      refine own_go (T' := T86) (f' := (mkF m 356 #[.val (.long q0), .second, .val (.long q1), .second, .val (.long q2), .second, .val (.long q3), .second, .val (.long q4), .second, .val (.int p5), .val (.int (own_N q0 q1 q2 q3 q4 p5)), .val (.int (own_P q0 q1 q2 q3 q4 p5)), .val (.ref b1), .val (.int (own_K q0 q1 q2 q3 q4 p5)), .val (.int ((own_N q0 q1 q2 q3 q4 p5) - (own_K q0 q1 q2 q3 q4 p5))), .val (.ref b51)] [(.int (1 : Int32))])) (fun t k => ?_) ?_
      · show Steps p.tables e below (T86.setTop (mkF m 283 #[.val (.long q0), .second, .val (.long q1), .second, .val (.long q2), .second, .val (.long q3), .second, .val (.long q4), .second, .val (.int p5), .val (.int (own_N q0 q1 q2 q3 q4 p5)), .val (.int (own_P q0 q1 q2 q3 q4 p5)), .val (.ref b1), .val (.int (own_K q0 q1 q2 q3 q4 p5)), .val (.int ((own_N q0 q1 q2 q3 q4 p5) - (own_K q0 q1 q2 q3 q4 p5))), .val (.ref b51)] [(.int (1 : Int32)), (.int ((own_N q0 q1 q2 q3 q4 p5) - (own_K q0 q1 q2 q3 q4 p5)))])) _
        refine XS.icmpYes X86.here hx rfl (pc0 := 283) (pc' := 305) rfl (hb hby at_283) rfl (flt hc283_87).2.2.2 (by decide) (by decide) ?_
        show Steps p.tables e below (T86.setTop (mkF m 305 #[.val (.long q0), .second, .val (.long q1), .second, .val (.long q2), .second, .val (.long q3), .second, .val (.long q4), .second, .val (.int p5), .val (.int (own_N q0 q1 q2 q3 q4 p5)), .val (.int (own_P q0 q1 q2 q3 q4 p5)), .val (.ref b1), .val (.int (own_K q0 q1 q2 q3 q4 p5)), .val (.int ((own_N q0 q1 q2 q3 q4 p5) - (own_K q0 q1 q2 q3 q4 p5))), .val (.ref b51)] [])) _
        refine XS.iload X86.here hx rfl (hb hby at_305) rfl ?_
        show Steps p.tables e below (T86.setTop (mkF m 307 #[.val (.long q0), .second, .val (.long q1), .second, .val (.long q2), .second, .val (.long q3), .second, .val (.long q4), .second, .val (.int p5), .val (.int (own_N q0 q1 q2 q3 q4 p5)), .val (.int (own_P q0 q1 q2 q3 q4 p5)), .val (.ref b1), .val (.int (own_K q0 q1 q2 q3 q4 p5)), .val (.int ((own_N q0 q1 q2 q3 q4 p5) - (own_K q0 q1 q2 q3 q4 p5))), .val (.ref b51)] [(.int ((own_N q0 q1 q2 q3 q4 p5) - (own_K q0 q1 q2 q3 q4 p5)))])) _
        refine XS.iconst X86.here hx rfl (hb hby at_307) ?_
        show Steps p.tables e below (T86.setTop (mkF m 308 #[.val (.long q0), .second, .val (.long q1), .second, .val (.long q2), .second, .val (.long q3), .second, .val (.long q4), .second, .val (.int p5), .val (.int (own_N q0 q1 q2 q3 q4 p5)), .val (.int (own_P q0 q1 q2 q3 q4 p5)), .val (.ref b1), .val (.int (own_K q0 q1 q2 q3 q4 p5)), .val (.int ((own_N q0 q1 q2 q3 q4 p5) - (own_K q0 q1 q2 q3 q4 p5))), .val (.ref b51)] [(.int (2 : Int32)), (.int ((own_N q0 q1 q2 q3 q4 p5) - (own_K q0 q1 q2 q3 q4 p5)))])) _
        refine XS.icmpYes X86.here hx rfl (pc0 := 308) (pc' := 330) rfl (hb hby at_308) rfl (flt (own_mono hc283_87 (by decide))).2.2.2 (by decide) (by decide) ?_
        show Steps p.tables e below (T86.setTop (mkF m 330 #[.val (.long q0), .second, .val (.long q1), .second, .val (.long q2), .second, .val (.long q3), .second, .val (.long q4), .second, .val (.int p5), .val (.int (own_N q0 q1 q2 q3 q4 p5)), .val (.int (own_P q0 q1 q2 q3 q4 p5)), .val (.ref b1), .val (.int (own_K q0 q1 q2 q3 q4 p5)), .val (.int ((own_N q0 q1 q2 q3 q4 p5) - (own_K q0 q1 q2 q3 q4 p5))), .val (.ref b51)] [])) _
        refine XS.iload X86.here hx rfl (hb hby at_330) rfl ?_
        show Steps p.tables e below (T86.setTop (mkF m 332 #[.val (.long q0), .second, .val (.long q1), .second, .val (.long q2), .second, .val (.long q3), .second, .val (.long q4), .second, .val (.int p5), .val (.int (own_N q0 q1 q2 q3 q4 p5)), .val (.int (own_P q0 q1 q2 q3 q4 p5)), .val (.ref b1), .val (.int (own_K q0 q1 q2 q3 q4 p5)), .val (.int ((own_N q0 q1 q2 q3 q4 p5) - (own_K q0 q1 q2 q3 q4 p5))), .val (.ref b51)] [(.int ((own_N q0 q1 q2 q3 q4 p5) - (own_K q0 q1 q2 q3 q4 p5)))])) _
        refine XS.iconst X86.here hx rfl (hb hby at_332) ?_
        show Steps p.tables e below (T86.setTop (mkF m 333 #[.val (.long q0), .second, .val (.long q1), .second, .val (.long q2), .second, .val (.long q3), .second, .val (.long q4), .second, .val (.int p5), .val (.int (own_N q0 q1 q2 q3 q4 p5)), .val (.int (own_P q0 q1 q2 q3 q4 p5)), .val (.ref b1), .val (.int (own_K q0 q1 q2 q3 q4 p5)), .val (.int ((own_N q0 q1 q2 q3 q4 p5) - (own_K q0 q1 q2 q3 q4 p5))), .val (.ref b51)] [(.int (3 : Int32)), (.int ((own_N q0 q1 q2 q3 q4 p5) - (own_K q0 q1 q2 q3 q4 p5)))])) _
        refine XS.icmpYes X86.here hx rfl (pc0 := 333) (pc' := 355) rfl (hb hby at_333) rfl (flt (own_mono hc283_87 (by decide))).2.2.2 (by decide) (by decide) ?_
        show Steps p.tables e below (T86.setTop (mkF m 355 #[.val (.long q0), .second, .val (.long q1), .second, .val (.long q2), .second, .val (.long q3), .second, .val (.long q4), .second, .val (.int p5), .val (.int (own_N q0 q1 q2 q3 q4 p5)), .val (.int (own_P q0 q1 q2 q3 q4 p5)), .val (.ref b1), .val (.int (own_K q0 q1 q2 q3 q4 p5)), .val (.int ((own_N q0 q1 q2 q3 q4 p5) - (own_K q0 q1 q2 q3 q4 p5))), .val (.ref b51)] [])) _
        refine XS.iconst X86.here hx rfl (hb hby at_355) ?_
        show Steps p.tables e below (T86.setTop (mkF m 356 #[.val (.long q0), .second, .val (.long q1), .second, .val (.long q2), .second, .val (.long q3), .second, .val (.long q4), .second, .val (.int p5), .val (.int (own_N q0 q1 q2 q3 q4 p5)), .val (.int (own_P q0 q1 q2 q3 q4 p5)), .val (.ref b1), .val (.int (own_K q0 q1 q2 q3 q4 p5)), .val (.int ((own_N q0 q1 q2 q3 q4 p5) - (own_K q0 q1 q2 q3 q4 p5))), .val (.ref b51)] [(.int (1 : Int32))])) _
        exact k
      obtain ⟨fs, hr, hrun, hended, hW, hsame⟩ := X86.leave (v := some (.int (1 : Int32))) (fun h => by rw [Bd.returns] at h; cases h)
      refine ⟨_, _, ?_, hrun, hended, _, _, rfl, ?_, ⟨_, rfl⟩, hW, hsame.mono (by decide) (by decide)⟩
      · exact retN X86 hx (t := .boolean) Bd.returns (by simp) (hb hby at_356) hr
      · show own_Q0 Z q0 q1 q2 q3 q4 p5 h0 n0 _ T86.heap _
        rw [h86q]
        exact ⟨rfl, N86⟩
  · skip
    refine own_go (T' := T78) (f' := (mkF m 356 #[.val (.long q0), .second, .val (.long q1), .second, .val (.long q2), .second, .val (.long q3), .second, .val (.long q4), .second, .val (.int p5), .val (.int (own_N q0 q1 q2 q3 q4 p5)), .val (.int (own_P q0 q1 q2 q3 q4 p5)), .val (.ref b1), .val (.int (own_K q0 q1 q2 q3 q4 p5)), .val (.int ((own_N q0 q1 q2 q3 q4 p5) - (own_K q0 q1 q2 q3 q4 p5))), .val (.ref b51)] [(.int (1 : Int32))])) (fun t k => ?_) ?_
    · show Steps p.tables e below (T78.setTop (mkF m 261 #[.val (.long q0), .second, .val (.long q1), .second, .val (.long q2), .second, .val (.long q3), .second, .val (.long q4), .second, .val (.int p5), .val (.int (own_N q0 q1 q2 q3 q4 p5)), .val (.int (own_P q0 q1 q2 q3 q4 p5)), .val (.ref b1), .val (.int (own_K q0 q1 q2 q3 q4 p5)), .val (.int ((own_N q0 q1 q2 q3 q4 p5) - (own_K q0 q1 q2 q3 q4 p5))), .val (.ref b51)] [(.int ((own_N q0 q1 q2 q3 q4 p5) - (own_K q0 q1 q2 q3 q4 p5)))])) _
      refine XS.ifYes X78.here hx rfl (pc0 := 261) (pc' := 280) rfl (hb hby at_261) rfl ((if0 _ _).trans (flt hc261_85).2.2.2) (by decide) (by decide) ?_
      show Steps p.tables e below (T78.setTop (mkF m 280 #[.val (.long q0), .second, .val (.long q1), .second, .val (.long q2), .second, .val (.long q3), .second, .val (.long q4), .second, .val (.int p5), .val (.int (own_N q0 q1 q2 q3 q4 p5)), .val (.int (own_P q0 q1 q2 q3 q4 p5)), .val (.ref b1), .val (.int (own_K q0 q1 q2 q3 q4 p5)), .val (.int ((own_N q0 q1 q2 q3 q4 p5) - (own_K q0 q1 q2 q3 q4 p5))), .val (.ref b51)] [])) _
      refine XS.iload X78.here hx rfl (hb hby at_280) rfl ?_
      show Steps p.tables e below (T78.setTop (mkF m 282 #[.val (.long q0), .second, .val (.long q1), .second, .val (.long q2), .second, .val (.long q3), .second, .val (.long q4), .second, .val (.int p5), .val (.int (own_N q0 q1 q2 q3 q4 p5)), .val (.int (own_P q0 q1 q2 q3 q4 p5)), .val (.ref b1), .val (.int (own_K q0 q1 q2 q3 q4 p5)), .val (.int ((own_N q0 q1 q2 q3 q4 p5) - (own_K q0 q1 q2 q3 q4 p5))), .val (.ref b51)] [(.int ((own_N q0 q1 q2 q3 q4 p5) - (own_K q0 q1 q2 q3 q4 p5)))])) _
      refine XS.iconst X78.here hx rfl (hb hby at_282) ?_
      show Steps p.tables e below (T78.setTop (mkF m 283 #[.val (.long q0), .second, .val (.long q1), .second, .val (.long q2), .second, .val (.long q3), .second, .val (.long q4), .second, .val (.int p5), .val (.int (own_N q0 q1 q2 q3 q4 p5)), .val (.int (own_P q0 q1 q2 q3 q4 p5)), .val (.ref b1), .val (.int (own_K q0 q1 q2 q3 q4 p5)), .val (.int ((own_N q0 q1 q2 q3 q4 p5) - (own_K q0 q1 q2 q3 q4 p5))), .val (.ref b51)] [(.int (1 : Int32)), (.int ((own_N q0 q1 q2 q3 q4 p5) - (own_K q0 q1 q2 q3 q4 p5)))])) _
      refine XS.icmpYes X78.here hx rfl (pc0 := 283) (pc' := 305) rfl (hb hby at_283) rfl (flt (own_mono hc261_85 (by decide))).2.2.2 (by decide) (by decide) ?_
      show Steps p.tables e below (T78.setTop (mkF m 305 #[.val (.long q0), .second, .val (.long q1), .second, .val (.long q2), .second, .val (.long q3), .second, .val (.long q4), .second, .val (.int p5), .val (.int (own_N q0 q1 q2 q3 q4 p5)), .val (.int (own_P q0 q1 q2 q3 q4 p5)), .val (.ref b1), .val (.int (own_K q0 q1 q2 q3 q4 p5)), .val (.int ((own_N q0 q1 q2 q3 q4 p5) - (own_K q0 q1 q2 q3 q4 p5))), .val (.ref b51)] [])) _
      refine XS.iload X78.here hx rfl (hb hby at_305) rfl ?_
      show Steps p.tables e below (T78.setTop (mkF m 307 #[.val (.long q0), .second, .val (.long q1), .second, .val (.long q2), .second, .val (.long q3), .second, .val (.long q4), .second, .val (.int p5), .val (.int (own_N q0 q1 q2 q3 q4 p5)), .val (.int (own_P q0 q1 q2 q3 q4 p5)), .val (.ref b1), .val (.int (own_K q0 q1 q2 q3 q4 p5)), .val (.int ((own_N q0 q1 q2 q3 q4 p5) - (own_K q0 q1 q2 q3 q4 p5))), .val (.ref b51)] [(.int ((own_N q0 q1 q2 q3 q4 p5) - (own_K q0 q1 q2 q3 q4 p5)))])) _
      refine XS.iconst X78.here hx rfl (hb hby at_307) ?_
      show Steps p.tables e below (T78.setTop (mkF m 308 #[.val (.long q0), .second, .val (.long q1), .second, .val (.long q2), .second, .val (.long q3), .second, .val (.long q4), .second, .val (.int p5), .val (.int (own_N q0 q1 q2 q3 q4 p5)), .val (.int (own_P q0 q1 q2 q3 q4 p5)), .val (.ref b1), .val (.int (own_K q0 q1 q2 q3 q4 p5)), .val (.int ((own_N q0 q1 q2 q3 q4 p5) - (own_K q0 q1 q2 q3 q4 p5))), .val (.ref b51)] [(.int (2 : Int32)), (.int ((own_N q0 q1 q2 q3 q4 p5) - (own_K q0 q1 q2 q3 q4 p5)))])) _
      refine XS.icmpYes X78.here hx rfl (pc0 := 308) (pc' := 330) rfl (hb hby at_308) rfl (flt (own_mono hc261_85 (by decide))).2.2.2 (by decide) (by decide) ?_
      show Steps p.tables e below (T78.setTop (mkF m 330 #[.val (.long q0), .second, .val (.long q1), .second, .val (.long q2), .second, .val (.long q3), .second, .val (.long q4), .second, .val (.int p5), .val (.int (own_N q0 q1 q2 q3 q4 p5)), .val (.int (own_P q0 q1 q2 q3 q4 p5)), .val (.ref b1), .val (.int (own_K q0 q1 q2 q3 q4 p5)), .val (.int ((own_N q0 q1 q2 q3 q4 p5) - (own_K q0 q1 q2 q3 q4 p5))), .val (.ref b51)] [])) _
      refine XS.iload X78.here hx rfl (hb hby at_330) rfl ?_
      show Steps p.tables e below (T78.setTop (mkF m 332 #[.val (.long q0), .second, .val (.long q1), .second, .val (.long q2), .second, .val (.long q3), .second, .val (.long q4), .second, .val (.int p5), .val (.int (own_N q0 q1 q2 q3 q4 p5)), .val (.int (own_P q0 q1 q2 q3 q4 p5)), .val (.ref b1), .val (.int (own_K q0 q1 q2 q3 q4 p5)), .val (.int ((own_N q0 q1 q2 q3 q4 p5) - (own_K q0 q1 q2 q3 q4 p5))), .val (.ref b51)] [(.int ((own_N q0 q1 q2 q3 q4 p5) - (own_K q0 q1 q2 q3 q4 p5)))])) _
      refine XS.iconst X78.here hx rfl (hb hby at_332) ?_
      show Steps p.tables e below (T78.setTop (mkF m 333 #[.val (.long q0), .second, .val (.long q1), .second, .val (.long q2), .second, .val (.long q3), .second, .val (.long q4), .second, .val (.int p5), .val (.int (own_N q0 q1 q2 q3 q4 p5)), .val (.int (own_P q0 q1 q2 q3 q4 p5)), .val (.ref b1), .val (.int (own_K q0 q1 q2 q3 q4 p5)), .val (.int ((own_N q0 q1 q2 q3 q4 p5) - (own_K q0 q1 q2 q3 q4 p5))), .val (.ref b51)] [(.int (3 : Int32)), (.int ((own_N q0 q1 q2 q3 q4 p5) - (own_K q0 q1 q2 q3 q4 p5)))])) _
      refine XS.icmpYes X78.here hx rfl (pc0 := 333) (pc' := 355) rfl (hb hby at_333) rfl (flt (own_mono hc261_85 (by decide))).2.2.2 (by decide) (by decide) ?_
      show Steps p.tables e below (T78.setTop (mkF m 355 #[.val (.long q0), .second, .val (.long q1), .second, .val (.long q2), .second, .val (.long q3), .second, .val (.long q4), .second, .val (.int p5), .val (.int (own_N q0 q1 q2 q3 q4 p5)), .val (.int (own_P q0 q1 q2 q3 q4 p5)), .val (.ref b1), .val (.int (own_K q0 q1 q2 q3 q4 p5)), .val (.int ((own_N q0 q1 q2 q3 q4 p5) - (own_K q0 q1 q2 q3 q4 p5))), .val (.ref b51)] [])) _
      refine XS.iconst X78.here hx rfl (hb hby at_355) ?_
      show Steps p.tables e below (T78.setTop (mkF m 356 #[.val (.long q0), .second, .val (.long q1), .second, .val (.long q2), .second, .val (.long q3), .second, .val (.long q4), .second, .val (.int p5), .val (.int (own_N q0 q1 q2 q3 q4 p5)), .val (.int (own_P q0 q1 q2 q3 q4 p5)), .val (.ref b1), .val (.int (own_K q0 q1 q2 q3 q4 p5)), .val (.int ((own_N q0 q1 q2 q3 q4 p5) - (own_K q0 q1 q2 q3 q4 p5))), .val (.ref b51)] [(.int (1 : Int32))])) _
      exact k
    obtain ⟨fs, hr, hrun, hended, hW, hsame⟩ := X78.leave (v := some (.int (1 : Int32))) (fun h => by rw [Bd.returns] at h; cases h)
    refine ⟨_, _, ?_, hrun, hended, _, _, rfl, ?_, ⟨_, rfl⟩, hW, hsame.mono (by decide) (by decide)⟩
    · exact retN X78 hx (t := .boolean) Bd.returns (by simp) (hb hby at_356) hr
    · show own_Q0 Z q0 q1 q2 q3 q4 p5 h0 n0 _ T78.heap _
      rw [e78]
      exact ⟨rfl, N78⟩
set_option maxRecDepth 65536 in
set_option maxHeartbeats 40000000 in
theorem comes_1 {Post : Tables → Env → Array Value → State → Outcome → State → Prop} (hpost : ∀ tb e args s v u, (limb_1_1.after args s (.returned v) u = true ∧ limb_1_2.after args s (.returned v) u = true ∧ True) → FrameEnd s (.returned v) u (Jvm.fieldLocs frame_1_writes args s ++ Jvm.arrayLocs frame_1_arrays args s ++ Jvm.staticLocs frame_1_statics s) 16 128 → Post tb e args s (.returned v) u) :
    ArmFor flags0 classFile x code maxLocals ret World_1 tables_1 room_1 Calls_1 rest_1 Pre_1 Post := by
  intro l hfl _ _ p e ha hc hk s m args below hf hA hF happ hP
  obtain ⟨hcalls, hrest, hpre⟩ := hP
  obtain ⟨-, -, -, hnamed, -, -, -, hat⟩ := (Spec.applies_iff hf).mp happ
  obtain ⟨hg, hn⟩ := and_e (Cond.before_iff.mp (show (Jvm.Cond.and given_1 narrow_1).before args s = true from hpre))
  obtain ⟨hcnt, g0⟩ := and_e hg
  obtain ⟨k0, g1⟩ := and_e g0
  obtain ⟨k1, g2⟩ := and_e g1
  obtain ⟨k2, g3⟩ := and_e g2
  obtain ⟨k3, g4⟩ := and_e g3
  obtain ⟨k4, g5⟩ := and_e g4
  have k5 := g5
  obtain ⟨w0, w1, w2, w3, w4, w5, rfl⟩ : ∃ w0 w1 w2 w3 w4 w5 : Value, args = #[w0, w1, w2, w3, w4, w5] := by
    have hs : args.size = 6 := by simpa [Cond.value, given_1] using hcnt
    obtain ⟨L⟩ := args
    match L, hs with
    | [w0, w1, w2, w3, w4, w5], _ => exact ⟨w0, w1, w2, w3, w4, w5, rfl⟩
  have hw := fun d (hd : d ∈ tables_1) => atoms_spec (ws := Jvm.Cond.code x code maxLocals ret :: tables_1) hat d (List.mem_cons_of_mem _ hd)
  obtain ⟨i0, e0⟩ := isL_v k0
  obtain rfl : w0 = (.long i0) := Option.some.inj e0
  obtain ⟨i1, e1⟩ := isL_v k1
  obtain rfl : w1 = (.long i1) := Option.some.inj e1
  obtain ⟨i2, e2⟩ := isL_v k2
  obtain rfl : w2 = (.long i2) := Option.some.inj e2
  obtain ⟨i3, e3⟩ := isL_v k3
  obtain rfl : w3 = (.long i3) := Option.some.inj e3
  obtain ⟨i4, e4⟩ := isL_v k4
  obtain rfl : w4 = (.long i4) := Option.some.inj e4
  obtain ⟨i5, e5⟩ := is_v k5
  obtain rfl : w5 = (.int i5) := Option.some.inj e5
  obtain ⟨n, o, h1, h2, h3, _, L, rfl, ⟨hv, N⟩, hq⟩ := own_rm0 l s _ hw tables_1 i0 i1 i2 i3 i4 i5 s.heap s.heap.size (Nat.le_refl _)  p e ha hc hk s m _ below hf ((Spec.applies_iff_loose hf).mp happ).1 ⟨rfl, State.Warmed39.refl s, rfl⟩ trivial
  subst hv
  refine ⟨n, _, h1, h2, h3, hpost _ _ _ _ _ _ ⟨Cond.after_iff.mpr rfl, Cond.after_iff.mpr (eq_i res_at (Term.int_eval (1)) rfl), trivial⟩ ⟨hq.1, hq.2.1, (hq.2.2.sift fun y hy => Or.inr (N y hy)).mono (by decide) (by decide)⟩⟩
theorem main_1_1 : Claimed_1_1 := comes_1 fun _ _ _ _ _ _ h hF => ⟨h.1, hF⟩
theorem main_1_2 : Claimed_1_2 := comes_1 fun _ _ _ _ _ _ h hF => ⟨h.2.1, hF⟩
end Jvm.Pilot.@@N@@
namespace Jvm.Pilot.@@N@@
open Jvm Jvm.ClassFile Sem Op Lib Jvm.Free Jvm.Stand Jvm.Pilot.@@N@@.Jvm.D
/-! MADE BY PROGRAM (witnessworld.py) out of the Statement's table words and the real class files: 11 classes; the members and pool entries that the words name. The judged class is class 1, her method 1. -/
namespace start1
open Jvm.ClassFile
def u (s : String) : CpInfo := .utf8 (stringToUtf16 s)
/-- a pool by its gaps: so many unusable entries, then the entry; so many at the end -/
def gap : Nat → List CpInfo → List CpInfo
  | 0, r => r
  | n + 1, r => .unusable :: gap n r
def poolList (es : List (Nat × CpInfo)) (last : Nat) : List CpInfo := es.foldr (fun e r => gap e.1 (e.2 :: r)) (gap last [])
def pool (es : List (Nat × CpInfo)) (last : Nat) : Array CpInfo := ⟨poolList es last⟩
def fileOf (pool : Array CpInfo) (this : Nat) (attrs : Array Attribute := #[]) (ms : Array MethodInfo := #[]) (fl : Nat := 33) (sup : Nat := 0) (ifs : Array Nat := #[]) (fds : Array FieldInfo := #[]) : ClassFile where
  minorVersion := 0
  majorVersion := 65
  constantPool := pool
  accessFlags := fl
  thisClass := this
  superClass := sup
  interfaces := ifs
  fields := fds
  methods := ms
  attributes := attrs
def plain (name : String) (sup : Option ClassId) : Class where
  name := name
  kind := .ordinary
  loader := none
  accessFlags := 33
  super := sup
  interfaces := #[]
  cf := none
  fields := #[]
  methods := #[]
  instanceTypes := #[]
  staticTypes := #[]
  resolved := #[]
  callSites := []
  init := .initialized
  statics := none
  mirror := none

def pool0 : Array CpInfo := pool [(5, u "<init>"), (0, u "()V"), (1, .class_ 10), (1, u "java/lang/Object")] 113

def k0c0 : Code := { maxStack := 0, maxLocals := 1, code := object_method_1_code, exceptionTable := #[], attributes := #[] }
def k0m0 : Method := { name := "<init>", desc := "()V", sig := { parameters := [], returnType := none }, accessFlags := 1, code := some k0c0 }
/-- java/lang/Object -/
def k0 : Class := { plain "java/lang/Object" none with
  accessFlags := 33
  interfaces := #[]
  cf := some (fileOf pool0 8 #[] #[{ accessFlags := 1, nameIndex := 5, descriptorIndex := 6, attributes := #[] }] 33 0 #[] #[])
  fields := #[]
  methods := #[k0m0]
  instanceTypes := #[]
  staticTypes := #[]
  resolved := Array.replicate 124 none
  statics := none }

def pool1 : Array CpInfo := pool [(2, .class_ 4), (1, u "java/lang/Object"), (0, u "<init>"), (0, u "()V"), (0, .class_ 8), (0, u "com/example/lid_on_load/lidonload/limit/TimeRing"), (0, .methodref 7 10), (0, .nameAndType 5 11), (0, u "(I)V"), (2, .long 9223372036854775808), (1, .methodref 7 17), (0, .nameAndType 18 19), (0, u "add"), (0, u "(JI)V"), (0, .long 9223372036854775809), (1, .methodref 7 23), (0, .nameAndType 24 25), (0, u "dropBefore"), (0, u "(J)V"), (0, .methodref 7 27), (0, .nameAndType 28 29), (0, u "size"), (0, u "()I"), (0, .methodref 7 31), (0, .nameAndType 32 33), (0, u "head"), (0, u "()J"), (0, .methodref 7 35), (0, .nameAndType 36 37), (0, u "time"), (0, u "(I)J"), (0, .class_ 39), (0, u "com/example/lid_on_load/lidonload/limit/TimeRingDropBeforePinLaw"), (2, u "law"), (0, u "(JJJJJI)Z")] 5

def k1m0 : Method := { name := "<init>", desc := "()V", sig := { parameters := [], returnType := none }, accessFlags := 1, code := none }
def k1c1 : Code := { maxStack := 5, maxLocals := 17, code := code, exceptionTable := #[], attributes := #[] }
def k1m1 : Method := { name := "law", desc := "(JJJJJI)Z", sig := { parameters := [.long, .long, .long, .long, .long, .int], returnType := some .boolean }, accessFlags := 9, code := some k1c1 }
/-- com/example/lid_on_load/lidonload/limit/TimeRingDropBeforePinLaw -/
def k1 : Class := { plain "com/example/lid_on_load/lidonload/limit/TimeRingDropBeforePinLaw" (some 0) with
  accessFlags := 49
  interfaces := #[]
  cf := some (fileOf pool1 38 #[] #[{ accessFlags := 1, nameIndex := 5, descriptorIndex := 6, attributes := #[] }, { accessFlags := 9, nameIndex := 42, descriptorIndex := 43, attributes := #[] }] 49 2 #[] #[])
  fields := #[]
  methods := #[k1m0, k1m1]
  instanceTypes := #[]
  staticTypes := #[]
  resolved := Array.replicate 49 none
  statics := none }

def pool2 : Array CpInfo := pool [(1, .methodref 2 3), (0, .class_ 4), (0, .nameAndType 5 6), (0, u "java/lang/Object"), (0, u "<init>"), (0, u "()V"), (0, .fieldref 8 9), (0, .class_ 10), (0, .nameAndType 11 12), (0, u "com/example/lid_on_load/lidonload/limit/TimeRing"), (0, u "times"), (0, u "[J"), (0, .fieldref 8 14), (0, .nameAndType 15 16), (0, u "size"), (0, u "I"), (0, .fieldref 8 18), (0, .nameAndType 19 16), (0, u "head"), (2, u "time"), (0, u "(I)J"), (0, .long 4), (1, .long 2), (10, u "FIRST_CAPACITY"), (2, u "(I)V"), (2, u "()I"), (0, u "()J"), (3, u "dropBefore"), (0, u "(J)V"), (0, u "add"), (0, u "(JI)V")] 3

def k2c0 : Code := { maxStack := 2, maxLocals := 2, code := prog_23_method_1_code, exceptionTable := #[], attributes := #[] }
def k2m0 : Method := { name := "<init>", desc := "(I)V", sig := { parameters := [.int], returnType := none }, accessFlags := 0, code := some k2c0 }
def k2c1 : Code := { maxStack := 1, maxLocals := 1, code := prog_23_method_2_code, exceptionTable := #[], attributes := #[] }
def k2m1 : Method := { name := "size", desc := "()I", sig := { parameters := [], returnType := some .int }, accessFlags := 0, code := some k2c1 }
def k2c2 : Code := { maxStack := 2, maxLocals := 1, code := prog_23_method_3_code, exceptionTable := #[], attributes := #[] }
def k2m2 : Method := { name := "head", desc := "()J", sig := { parameters := [], returnType := some .long }, accessFlags := 0, code := some k2c2 }
def k2c3 : Code := { maxStack := 3, maxLocals := 2, code := prog_23_method_4_code, exceptionTable := #[], attributes := #[] }
def k2m3 : Method := { name := "time", desc := "(I)J", sig := { parameters := [.int], returnType := some .long }, accessFlags := 0, code := some k2c3 }
def k2c4 : Code := { maxStack := 4, maxLocals := 3, code := prog_23_method_6_code, exceptionTable := #[], attributes := #[] }
def k2m4 : Method := { name := "dropBefore", desc := "(J)V", sig := { parameters := [.long], returnType := none }, accessFlags := 0, code := some k2c4 }
def k2c5 : Code := { maxStack := 8, maxLocals := 7, code := prog_23_method_7_code, exceptionTable := #[], attributes := #[] }
def k2m5 : Method := { name := "add", desc := "(JI)V", sig := { parameters := [.long, .int], returnType := none }, accessFlags := 0, code := some k2c5 }
/-- com/example/lid_on_load/lidonload/limit/TimeRing -/
def k2 : Class := { plain "com/example/lid_on_load/lidonload/limit/TimeRing" (some 0) with
  accessFlags := 48
  interfaces := #[]
  cf := some (fileOf pool2 8 #[] #[{ accessFlags := 0, nameIndex := 5, descriptorIndex := 40, attributes := #[] }, { accessFlags := 0, nameIndex := 15, descriptorIndex := 43, attributes := #[] }, { accessFlags := 0, nameIndex := 19, descriptorIndex := 44, attributes := #[] }, { accessFlags := 0, nameIndex := 22, descriptorIndex := 23, attributes := #[] }, { accessFlags := 0, nameIndex := 48, descriptorIndex := 49, attributes := #[] }, { accessFlags := 0, nameIndex := 50, descriptorIndex := 51, attributes := #[] }] 48 2 #[] #[{ accessFlags := 26, nameIndex := 37, descriptorIndex := 16, attributes := #[] }, { accessFlags := 2, nameIndex := 11, descriptorIndex := 12, attributes := #[] }, { accessFlags := 2, nameIndex := 19, descriptorIndex := 16, attributes := #[] }, { accessFlags := 2, nameIndex := 15, descriptorIndex := 16, attributes := #[] }])
  fields := #[{ name := "FIRST_CAPACITY", type := .int, accessFlags := 26, slot := 0, constantValue := 0 }, { name := "times", type := (.array .long), accessFlags := 2, slot := 0, constantValue := 0 }, { name := "head", type := .int, accessFlags := 2, slot := 1, constantValue := 0 }, { name := "size", type := .int, accessFlags := 2, slot := 2, constantValue := 0 }]
  methods := #[k2m0, k2m1, k2m2, k2m3, k2m4, k2m5]
  instanceTypes := #[(.array .long), .int, .int]
  staticTypes := #[.int]
  resolved := Array.replicate 55 none
  statics := none }

def pool3 : Array CpInfo := pool [(1, u "java/lang/Cloneable"), (0, .class_ 1), (0, u "java/lang/Object"), (0, .class_ 3)] 3

/-- java/lang/Cloneable -/
def k3 : Class := { plain "java/lang/Cloneable" (some 0) with
  accessFlags := 1537
  interfaces := #[]
  cf := some (fileOf pool3 2 #[] #[] 1537 4 #[] #[])
  fields := #[]
  methods := #[]
  instanceTypes := #[]
  staticTypes := #[]
  resolved := Array.replicate 8 none
  statics := none }

def pool4 : Array CpInfo := pool [(1, u "java/io/Serializable"), (0, .class_ 1), (0, u "java/lang/Object"), (0, .class_ 3)] 3

/-- java/io/Serializable -/
def k4 : Class := { plain "java/io/Serializable" (some 0) with
  accessFlags := 1537
  interfaces := #[]
  cf := some (fileOf pool4 2 #[] #[] 1537 4 #[] #[])
  fields := #[]
  methods := #[]
  instanceTypes := #[]
  staticTypes := #[]
  resolved := Array.replicate 8 none
  statics := none }

/-- the primitive byte -/
def k5 : Class := { plain "byte" none with kind := .primitive 'B', accessFlags := 0x411 }
/-- [B -/
def k6 : Class := { plain "[B" (some 0) with kind := .array 5 .byte, interfaces := #[3, 4], accessFlags := 1041 }

/-- the primitive int -/
def k7 : Class := { plain "int" none with kind := .primitive 'I', accessFlags := 0x411 }
/-- [I -/
def k8 : Class := { plain "[I" (some 0) with kind := .array 7 .int, interfaces := #[3, 4], accessFlags := 1041 }

/-- the primitive long -/
def k9 : Class := { plain "long" none with kind := .primitive 'J', accessFlags := 0x411 }
/-- [J -/
def k10 : Class := { plain "[J" (some 0) with kind := .array 9 .long, interfaces := #[3, 4], accessFlags := 1041 }

def heap : Heap := #[]
def classes : Array Class := #[k0, k1, k2, k3, k4, k5, k6, k7, k8, k9, k10]
def interned : List (Array UInt16 × Addr) := []
def slotsUsed : Nat := 0
def theMethod : MethodId := ⟨1, 1⟩
def args0 : Array Value := #[.long 5, .long 5, .long 5, .long 5, .long 5, .int 5]
def aboutOver (below : List Frame) : State where
  vm := { classes := classes, interned := interned.toArray }
  heap := heap
  slotsUsed := slotsUsed
  threads := #[{ frames := .invoking theMethod args0 :: below }]
def below0 : List Frame := [.native { method := ⟨0, 0⟩, args := #[] }]
def about1 : State := aboutOver below0
def p0 : Program := .bare "" "" ""
def e0 : Env := launch0.env 0 0 0
theorem w_frames : about1.frames = Frame.invoking theMethod args0 :: below0 := rfl
set_option maxRecDepth 65536 in
theorem w_args : argsFit about1.vm theMethod args0 = true := by decide +kernel
set_option maxRecDepth 65536 in
theorem w_heap : heapFits about1 = true := by decide +kernel
set_option maxRecDepth 65536 in
theorem w_runnable : about1.curStatus? = some .runnable := by decide +kernel
set_option maxRecDepth 65536 in
theorem w_alone : about1.alone = true := by decide +kernel
set_option maxRecDepth 65536 in
theorem w_named : about1.methodNamed? x = some theMethod := by decide +kernel
set_option maxRecDepth 65536 in
theorem w_hears : about1.hears theMethod below0 = true := by decide +kernel
set_option maxRecDepth 65536 in
theorem w_ripe : about1.ripe theMethod args0 below0 = true := by decide +kernel
theorem w_running : about1.status = .running := rfl
set_option maxRecDepth 65536 in
theorem w_room : about1.hasRoom e0.platform room_1 = true :=
  launch0.hasRoom_least _ room_1 (by decide +kernel) (by decide +kernel) (by decide +kernel) (by decide +kernel) (by decide +kernel) (by decide +kernel)
theorem allAtoms_all (ts : List Jvm.Cond) (a : Array Jvm.Value) (st : Jvm.State) : (allAtoms ts).before a st = ts.all (fun c => c.before a st) := by
  induction ts with
  | nil => rfl
  | cons c t ih =>
    show (Jvm.Cond.and c (allAtoms t)).before a st = _
    rw [Jvm.Cond.before_and, ih, List.all_cons]
def words1 : List Jvm.Cond := Jvm.Cond.code x code maxLocals ret :: tables_1
/-- a 'code' word, met by the world's own term for the bytes: nothing is compared byte by byte -/
theorem code_word {y : MethodName} {bytes : ByteArray} {mx : Nat} {rt : Option FieldType} {a : Array Value} {s : State} {m : MethodId} {meth : Method} {c : Code} (h1 : s.methodNamed? y = some m) (h2 : s.vm.method? m = some meth) (h3 : meth.code = some c) (h4 : c.code = bytes)
    (h5 : (c.maxLocals == mx && c.exceptionTable.isEmpty && decide (c.maxStack ≤ mostOperands) && decide (meth.sig.returnType = rt) && !meth.locks && decide (parseMethodDescriptor y.desc = some meth.sig)) = true) : (Jvm.Cond.code y bytes mx rt).before a s = true := by
  simp only [Bool.and_eq_true, beq_iff_eq, Bool.not_eq_true', decide_eq_true_eq] at h5
  obtain ⟨⟨⟨⟨⟨g1, g2⟩, g3⟩, g4⟩, g5⟩, g6⟩ := h5
  simp [Cond.before, Cond.holds, Cond.value, h1, h2, h3, h4, g1, g2, g3, g4, g5, g6]
def isCode : Jvm.Cond → Bool
  | .code _ _ _ _ => true
  | _ => false
theorem all_split {L : List Jvm.Cond} {P : Jvm.Cond → Bool} (h1 : L.all (fun c => isCode c || P c) = true) (h2 : ∀ c ∈ L.filter isCode, P c = true) : L.all P = true := by
  refine List.all_eq_true.mpr fun c hc => ?_
  have h := List.all_eq_true.mp h1 c hc
  rcases Bool.eq_false_or_eq_true (isCode c) with hi | hi
  · exact h2 c (List.mem_filter.mpr ⟨hc, hi⟩)
  · simpa [hi] using h
set_option maxRecDepth 65536 in
theorem w_c0 : (Jvm.Cond.code x code maxLocals ret).before args0 about1 = true := code_word (m := ⟨1, 1⟩) (meth := k1m1) (c := k1c1) (by decide +kernel) rfl rfl rfl (by decide +kernel)
set_option maxRecDepth 65536 in
theorem w_c1 : (Jvm.Cond.code ({ cls := "com/example/lid_on_load/lidonload/limit/TimeRing", name := "<init>", desc := "(I)V" } : Jvm.MethodName) prog_23_method_1_code (2 : Nat) (Option.none : Option Jvm.ClassFile.FieldType)).before args0 about1 = true := code_word (m := ⟨2, 0⟩) (meth := k2m0) (c := k2c0) (by decide +kernel) rfl rfl rfl (by decide +kernel)
set_option maxRecDepth 65536 in
theorem w_c2 : (Jvm.Cond.code ({ cls := "java/lang/Object", name := "<init>", desc := "()V" } : Jvm.MethodName) object_method_1_code (1 : Nat) (Option.none : Option Jvm.ClassFile.FieldType)).before args0 about1 = true := code_word (m := ⟨0, 0⟩) (meth := k0m0) (c := k0c0) (by decide +kernel) rfl rfl rfl (by decide +kernel)
set_option maxRecDepth 65536 in
theorem w_c3 : (Jvm.Cond.code ({ cls := "com/example/lid_on_load/lidonload/limit/TimeRing", name := "dropBefore", desc := "(J)V" } : Jvm.MethodName) prog_23_method_6_code (3 : Nat) (Option.none : Option Jvm.ClassFile.FieldType)).before args0 about1 = true := code_word (m := ⟨2, 4⟩) (meth := k2m4) (c := k2c4) (by decide +kernel) rfl rfl rfl (by decide +kernel)
set_option maxRecDepth 65536 in
theorem w_c4 : (Jvm.Cond.code ({ cls := "com/example/lid_on_load/lidonload/limit/TimeRing", name := "size", desc := "()I" } : Jvm.MethodName) prog_23_method_2_code (1 : Nat) (Option.some Jvm.ClassFile.FieldType.int)).before args0 about1 = true := code_word (m := ⟨2, 1⟩) (meth := k2m1) (c := k2c1) (by decide +kernel) rfl rfl rfl (by decide +kernel)
set_option maxRecDepth 65536 in
theorem w_c5 : (Jvm.Cond.code ({ cls := "com/example/lid_on_load/lidonload/limit/TimeRing", name := "add", desc := "(JI)V" } : Jvm.MethodName) prog_23_method_7_code (7 : Nat) (Option.none : Option Jvm.ClassFile.FieldType)).before args0 about1 = true := code_word (m := ⟨2, 5⟩) (meth := k2m5) (c := k2c5) (by decide +kernel) rfl rfl rfl (by decide +kernel)
set_option maxRecDepth 65536 in
theorem w_c6 : (Jvm.Cond.code ({ cls := "com/example/lid_on_load/lidonload/limit/TimeRing", name := "head", desc := "()J" } : Jvm.MethodName) prog_23_method_3_code (1 : Nat) (Option.some Jvm.ClassFile.FieldType.long)).before args0 about1 = true := code_word (m := ⟨2, 2⟩) (meth := k2m2) (c := k2c2) (by decide +kernel) rfl rfl rfl (by decide +kernel)
set_option maxRecDepth 65536 in
theorem w_c7 : (Jvm.Cond.code ({ cls := "com/example/lid_on_load/lidonload/limit/TimeRing", name := "time", desc := "(I)J" } : Jvm.MethodName) prog_23_method_4_code (2 : Nat) (Option.some Jvm.ClassFile.FieldType.long)).before args0 about1 = true := code_word (m := ⟨2, 3⟩) (meth := k2m3) (c := k2c3) (by decide +kernel) rfl rfl rfl (by decide +kernel)
def codes1 : List Jvm.Cond := [Jvm.Cond.code x code maxLocals ret, Jvm.Cond.code ({ cls := "com/example/lid_on_load/lidonload/limit/TimeRing", name := "<init>", desc := "(I)V" } : Jvm.MethodName) prog_23_method_1_code (2 : Nat) (Option.none : Option Jvm.ClassFile.FieldType), Jvm.Cond.code ({ cls := "java/lang/Object", name := "<init>", desc := "()V" } : Jvm.MethodName) object_method_1_code (1 : Nat) (Option.none : Option Jvm.ClassFile.FieldType), Jvm.Cond.code ({ cls := "com/example/lid_on_load/lidonload/limit/TimeRing", name := "dropBefore", desc := "(J)V" } : Jvm.MethodName) prog_23_method_6_code (3 : Nat) (Option.none : Option Jvm.ClassFile.FieldType), Jvm.Cond.code ({ cls := "com/example/lid_on_load/lidonload/limit/TimeRing", name := "size", desc := "()I" } : Jvm.MethodName) prog_23_method_2_code (1 : Nat) (Option.some Jvm.ClassFile.FieldType.int), Jvm.Cond.code ({ cls := "com/example/lid_on_load/lidonload/limit/TimeRing", name := "add", desc := "(JI)V" } : Jvm.MethodName) prog_23_method_7_code (7 : Nat) (Option.none : Option Jvm.ClassFile.FieldType), Jvm.Cond.code ({ cls := "com/example/lid_on_load/lidonload/limit/TimeRing", name := "head", desc := "()J" } : Jvm.MethodName) prog_23_method_3_code (1 : Nat) (Option.some Jvm.ClassFile.FieldType.long), Jvm.Cond.code ({ cls := "com/example/lid_on_load/lidonload/limit/TimeRing", name := "time", desc := "(I)J" } : Jvm.MethodName) prog_23_method_4_code (2 : Nat) (Option.some Jvm.ClassFile.FieldType.long)]
set_option maxRecDepth 65536 in
theorem codes_eq : words1.filter isCode = codes1 := rfl
theorem w_codes : ∀ c ∈ words1.filter isCode, c.before args0 about1 = true := by
  rw [codes_eq]
  intro c hc
  simp only [codes1, List.mem_cons, List.not_mem_nil, or_false] at hc
  rcases hc with rfl | rfl | rfl | rfl | rfl | rfl | rfl | rfl
  · exact w_c0
  · exact w_c1
  · exact w_c2
  · exact w_c3
  · exact w_c4
  · exact w_c5
  · exact w_c6
  · exact w_c7
set_option maxRecDepth 65536 in
theorem w_t1 : (words1.take 24).all (fun c => isCode c || c.before args0 about1) = true := by decide +kernel
set_option maxRecDepth 65536 in
theorem w_t2 : (words1.drop 24).all (fun c => isCode c || c.before args0 about1) = true := by decide +kernel
theorem w_tables : (allAtoms (Jvm.Cond.code x code maxLocals ret :: tables_1)).before args0 about1 = true := by
  rw [allAtoms_all]
  show words1.all (fun c => c.before args0 about1) = true
  refine all_split ?_ w_codes
  rw [← List.take_append_drop 24 words1, List.all_append, w_t1, w_t2]
  rfl
set_option maxRecDepth 65536 in
theorem w_case : (Jvm.Cond.and given_1 narrow_1).before args0 about1 = true := by decide +kernel
theorem w_applies : (headSpec (Jvm.Cond.code x code maxLocals ret :: tables_1) room_1).applies x e0.platform about1 = true :=
  (Spec.applies_iff w_frames).mpr ⟨w_running, w_runnable, w_alone, w_named, w_hears, w_ripe, w_room, w_tables⟩
theorem atStart : AtStart classFile x code maxLocals ret World_1 tables_1 room_1 Calls_1 rest_1 Pre_1 launch0 p0 e0 about1 theMethod args0 below0 :=
  ⟨lists_1, trivial, launch0.admits_env _ _ _, launch0.least_env, fairChoices_fair.cas, fairChoices_fair.clock, w_frames, w_args, w_heap, w_applies, trivial, trivial, w_case⟩
end start1
theorem witness_1 : WitnessClaimed_1 := ⟨start1.p0, start1.e0, start1.about1, start1.theMethod, start1.args0, start1.below0, start1.atStart⟩
end Jvm.Pilot.@@N@@
