import JvmDerived
import JvmDerived.Pilot.@@N@@Statement
import JvmDerived.Pilot.@@N@@Code
set_option linter.unusedVariables false
set_option linter.unusedSimpArgs false
namespace Jvm.RoadKit
open Sem ClassFile Op Lib Jvm.Stand Jvm.Free Jvm.LawKit
section New
variable {p : Program} {l : Launch} {e : Env} {R : Room} {s : State} {m : MethodId} {args : Array Value} {below : List Frame} {meth : Method} {c : Code} {T : State} {locs : List Loc} {cells slots : Nat}
theorem retI (X : Stand p l e R s m args below meth c T locs cells slots) (hx : p.tables.exec = Jvm.exec) {pc : Nat} {Ls : Array Slot} {z : Int32} {rest : List Value} (hret : meth.sig.returnType = some .int) (hd : decode c.code pc = .ok (.ireturn, 1)) {fs : List Frame}
    (hl : ∀ (f : JFrame) (acts : List Action), f.method = m → f.locked = none → f.entered = [] → (doReturn e (T.setTop f) acts (some (.int z))).1 = T.setFrames fs) : Steps p.tables e below (T.setTop (mkF m pc Ls (.int z :: rest))) (T.setFrames fs) := by
  have hm' : T.vm.method? m = some meth := X.method'
  have hn : narrow .int (.int z) = .int z := rfl
  show Steps p.tables e below (T.setTop { method := m, pc := pc, locals := Ls, stack := _ :: rest, locked := none }) _
  jvm_step X.here [X.here.top, hx, hd, hm', hret, hn]
  first | (intro acts; rw [hl _ acts rfl rfl rfl]) | rw [hl _ _ rfl rfl rfl]
  exact Steps.refl _
def own_shrL (x : Int64) (y : Int32) : Int64 := (x.toUInt64 >>> (y &&& 0x3f).toInt64.toUInt64).toInt64
def own_shrI (x y : Int32) : Int32 := (x.toUInt32 >>> (y &&& 31).toUInt32).toInt32
theorem own_go {tb : Tables} {T' : State} {f f' : JFrame} {G : State → Outcome → Prop} (k : ∀ t, Steps tb e below (T'.setTop f') t → Steps tb e below (T.setTop f) t) (h : ∃ s₂ o, Steps tb e below (T'.setTop f') s₂ ∧ G s₂ o) : ∃ s₂ o, Steps tb e below (T.setTop f) s₂ ∧ G s₂ o := by
  obtain ⟨s₂, o, a, b⟩ := h
  exact ⟨s₂, o, k _ a, b⟩
theorem own_cut {tb : Tables} {f f' : JFrame} {G : State → Outcome → Prop} {P : State → Prop} (h1 : (∀ T', P T' → ∃ s₂ o, Steps tb e below (T'.setTop f') s₂ ∧ G s₂ o) → ∃ s₂ o, Steps tb e below (T.setTop f) s₂ ∧ G s₂ o) (h2 : ∀ T', P T' → ∃ s₂ o, Steps tb e below (T'.setTop f') s₂ ∧ G s₂ o) : ∃ s₂ o, Steps tb e below (T.setTop f) s₂ ∧ G s₂ o := h1 h2
end New
end Jvm.RoadKit
namespace Jvm.Pilot.@@N@@
open Jvm Jvm.ClassFile Sem Op Lib Jvm.Free Jvm.Stand Jvm.LawKit Jvm.RoadKit Bundle Jvm.Pilot.@@N@@.Jvm.D
theorem own_dR_0 : decode jdk_30_method_1_code 0 = .ok (.aload_n 0, 1) := by decide +kernel
theorem own_dR_1 : decode jdk_30_method_1_code 1 = .ok (.invokespecial 1, 3) := by decide +kernel
theorem own_dR_4 : decode jdk_30_method_1_code 4 = .ok (.return_, 1) := by decide +kernel
theorem own_pn0 : plainName "java/lang/Record" = true := by first | (simp [plainName, overriddenIn]; done) | decide +kernel
theorem own_efR (m : MethodId) (a0r : Addr) : entryFrame m #[(.ref a0r)] 1 = mkF m 0 #[.val (.ref a0r)] [] := by first | (simp [entryFrame, mkF, argsToLocals, Value.category]; done) | rfl
def own_QR (Z : State) (a0r : Addr) (h0 : Heap) (n0 : Nat) (v : Option Value) (h : Heap) (L : List Loc) : Prop := (v = none) ∧ (Fr n0 L) ∧ (h = h0)
set_option maxRecDepth 65536 in
set_option maxHeartbeats 40000000 in
theorem own_rmR (l : Launch) (Z : State) (a0 : Array Value) (hw : ∀ d ∈ tables_1, d.before a0 Z = true) (ws : List Jvm.Cond) (a0r : Addr) (h0 : Heap) (n0 : Nat) (Z0 : n0 ≤ h0.size) :
    MetFree l (⟨"java/lang/Record", "<init>", "()V"⟩ : MethodName) (head1 (Jvm.Cond.code (⟨"java/lang/Record", "<init>", "()V"⟩ : MethodName) jdk_30_method_1_code 1 none :: ws) ({ frames := 1, cells := 0, slots := 0, locals := 12 } : Room)) (fun a U => a = #[(.ref a0r)] ∧ Z.Warmed39 U.vm ∧ U.heap = h0) (fun _ _ _ _ _ => True) (fun _ U o U' => ∃ v L, o = .returned v ∧ own_QR Z a0r h0 n0 v U'.heap L ∧ FrameEnd U o U' L ({ frames := 1, cells := 0, slots := 0, locals := 12 } : Room).cells ({ frames := 1, cells := 0, slots := 0, locals := 12 } : Room).slots) := by
  refine MetFree.of_bodySF (plainFor_of_name own_pn0) hisR ?_
  intro p e s m args below meth c s₁ Bd hml0 hP hK
  obtain ⟨rfl, hZ, hh⟩ := hP
  have hx := Bd.exec
  have hby := Bd.bytes
  have hml : c.maxLocals = 1 := hml0
  have hown : s.vm.findClass "java/lang/Record" = some m.cls := findClass_of_methodNamed Bd.named
  have hnm := (name_of_methodNamed Bd.named Bd.method).1
  have X0 : Stand p l e ({ frames := 1, cells := 0, slots := 0, locals := 12 } : Room) s m #[(.ref a0r)] below meth c s₁ [] 0 0 := Stand.of_body Bd
  have e0 : s₁.heap = h0 := by rw [← hh, Bd.state]; rfl
  have N0 := Fr.nil n0
  refine own_go (fun t k => castTop (own_efR m a0r) k) ?_
  refine own_go (T' := s₁) (f' := (mkF m 1 #[.val (.ref a0r)] [(.ref a0r)])) (fun t k => ?_) ?_
  · show Steps p.tables e below (s₁.setTop (mkF m 0 #[.val (.ref a0r)] [])) _
    refine XS.aloadN X0.here hx rfl (hb hby own_dR_0) rfl rfl ?_
    show Steps p.tables e below (s₁.setTop (mkF m 1 #[.val (.ref a0r)] [(.ref a0r)])) _
    exact k
  obtain ⟨T1, X1, e1, st1⟩ := initO X0 hx hZ hown (hw _ (List.mem_of_getElem? (i := 11) rfl)) (hw _ (List.mem_of_getElem? (i := 12) rfl)) (hw _ (List.mem_of_getElem? (i := 13) rfl)) e0 (g := (mkF m 1 #[.val (.ref a0r)] [(.ref a0r)])) rfl (by rw [hml]; rfl) rfl (hb hby own_dR_1) (by decide) (W := 0) (by show 2 * 0 + _ ≤ _; exact Nat.le_of_eq rfl) (by decide)
  refine own_go (T' := T1) (f' := (mkF m 4 #[.val (.ref a0r)] [])) st1 ?_
  obtain ⟨fs, hr, hrun, hended, hW, hsame⟩ := X1.leave (v := none) (fun _ => rfl)
  refine ⟨_, _, ?_, hrun, hended, _, _, rfl, ?_, ⟨_, rfl⟩, hW, hsame.mono (by decide) (by decide)⟩
  · exact X1.returnOut hx Bd.returns (hb hby own_dR_4) hr
  · show own_QR Z a0r h0 n0 _ T1.heap _
    rw [e1]
    exact ⟨rfl, N0, rfl⟩
theorem own_pd0 : parseMethodDescriptor "()V" = some ⟨[], none⟩ := by decide +kernel
theorem own_d1_0 : decode prog_96_method_1_code 0 = .ok (.aload_n 0, 1) := by decide +kernel
theorem own_d1_1 : decode prog_96_method_1_code 1 = .ok (.invokespecial 1, 3) := by decide +kernel
theorem own_d1_4 : decode prog_96_method_1_code 4 = .ok (.aload_n 0, 1) := by decide +kernel
theorem own_d1_5 : decode prog_96_method_1_code 5 = .ok (.iload_n 1, 1) := by decide +kernel
theorem own_d1_6 : decode prog_96_method_1_code 6 = .ok (.putfield 7, 3) := by decide +kernel
theorem own_d1_9 : decode prog_96_method_1_code 9 = .ok (.aload_n 0, 1) := by decide +kernel
theorem own_d1_10 : decode prog_96_method_1_code 10 = .ok (.iload_n 2, 1) := by decide +kernel
theorem own_d1_11 : decode prog_96_method_1_code 11 = .ok (.putfield 13, 3) := by decide +kernel
theorem own_d1_14 : decode prog_96_method_1_code 14 = .ok (.aload_n 0, 1) := by decide +kernel
theorem own_d1_15 : decode prog_96_method_1_code 15 = .ok (.iload_n 3, 1) := by decide +kernel
theorem own_d1_16 : decode prog_96_method_1_code 16 = .ok (.putfield 16, 3) := by decide +kernel
theorem own_d1_19 : decode prog_96_method_1_code 19 = .ok (.aload_n 0, 1) := by decide +kernel
theorem own_d1_20 : decode prog_96_method_1_code 20 = .ok (.iload 4, 2) := by decide +kernel
theorem own_d1_22 : decode prog_96_method_1_code 22 = .ok (.putfield 19, 3) := by decide +kernel
theorem own_d1_25 : decode prog_96_method_1_code 25 = .ok (.return_, 1) := by decide +kernel
theorem own_pn1 : plainName "com/example/comment_binder/commentbinder/scoring/Score" = true := by first | (simp [plainName, overriddenIn]; done) | decide +kernel
theorem own_ef1 (m : MethodId) (a0r : Addr) (p1 : Int32) (p2 : Int32) (p3 : Int32) (p4 : Int32) : entryFrame m #[(.ref a0r), (.int p1), (.int p2), (.int p3), (.int p4)] 5 = mkF m 0 #[.val (.ref a0r), .val (.int p1), .val (.int p2), .val (.int p3), .val (.int p4)] [] := by first | (simp [entryFrame, mkF, argsToLocals, Value.category]; done) | rfl
def own_Q1 (Z : State) (a0r : Addr) (p1 : Int32) (p2 : Int32) (p3 : Int32) (p4 : Int32) (h0 : Heap) (n0 : Nat) (v : Option Value) (h : Heap) (L : List Loc) : Prop := (v = none) ∧ (Fr n0 L) ∧ (Keep h0 h [a0r]) ∧ (Fld Z h a0r "com/example/comment_binder/commentbinder/scoring/Score" "correct" "I" (.int p1)) ∧ (Fld Z h a0r "com/example/comment_binder/commentbinder/scoring/Score" "changed" "I" (.int p2)) ∧ (Fld Z h a0r "com/example/comment_binder/commentbinder/scoring/Score" "lost" "I" (.int p3)) ∧ (Fld Z h a0r "com/example/comment_binder/commentbinder/scoring/Score" "spurious" "I" (.int p4))
set_option maxRecDepth 65536 in
set_option maxHeartbeats 40000000 in
theorem own_rm1 (l : Launch) (Z : State) (a0 : Array Value) (hw : ∀ d ∈ tables_1, d.before a0 Z = true) (ws : List Jvm.Cond) (a0r : Addr) (p1 : Int32) (p2 : Int32) (p3 : Int32) (p4 : Int32) (h0 : Heap) (n0 : Nat) (Z0 : n0 ≤ h0.size) (P0 : Exa Z h0 a0r "com/example/comment_binder/commentbinder/scoring/Score") (P1 : Fld Z h0 a0r "com/example/comment_binder/commentbinder/scoring/Score" "correct" "I" (.int (0 : Int32))) (P2 : Fld Z h0 a0r "com/example/comment_binder/commentbinder/scoring/Score" "changed" "I" (.int (0 : Int32))) (P3 : Fld Z h0 a0r "com/example/comment_binder/commentbinder/scoring/Score" "lost" "I" (.int (0 : Int32))) (P4 : Fld Z h0 a0r "com/example/comment_binder/commentbinder/scoring/Score" "spurious" "I" (.int (0 : Int32))) (go_a0r : n0 ≤ a0r) :
    MetFree l (⟨"com/example/comment_binder/commentbinder/scoring/Score", "<init>", "(IIII)V"⟩ : MethodName) (head1 (Jvm.Cond.code (⟨"com/example/comment_binder/commentbinder/scoring/Score", "<init>", "(IIII)V"⟩ : MethodName) prog_96_method_1_code 5 none :: ws) ({ frames := 2, cells := 0, slots := 0, locals := 24 } : Room)) (fun a U => a = #[(.ref a0r), (.int p1), (.int p2), (.int p3), (.int p4)] ∧ Z.Warmed39 U.vm ∧ U.heap = h0) (fun _ _ _ _ _ => True) (fun _ U o U' => ∃ v L, o = .returned v ∧ own_Q1 Z a0r p1 p2 p3 p4 h0 n0 v U'.heap L ∧ FrameEnd U o U' L ({ frames := 2, cells := 0, slots := 0, locals := 24 } : Room).cells ({ frames := 2, cells := 0, slots := 0, locals := 24 } : Room).slots) := by
  refine MetFree.of_bodySF (plainFor_of_name own_pn1) hisR ?_
  intro p e s m args below meth c s₁ Bd hml0 hP hK
  obtain ⟨rfl, hZ, hh⟩ := hP
  have hx := Bd.exec
  have hby := Bd.bytes
  have hml : c.maxLocals = 5 := hml0
  have hown : s.vm.findClass "com/example/comment_binder/commentbinder/scoring/Score" = some m.cls := findClass_of_methodNamed Bd.named
  have hnm := (name_of_methodNamed Bd.named Bd.method).1
  have X0 : Stand p l e ({ frames := 2, cells := 0, slots := 0, locals := 24 } : Room) s m #[(.ref a0r), (.int p1), (.int p2), (.int p3), (.int p4)] below meth c s₁ [] 0 0 := Stand.of_body Bd
  have e0 : s₁.heap = h0 := by rw [← hh, Bd.state]; rfl
  have N0 := Fr.nil n0
  have K0 : Keep h0 h0 [a0r] := Keep.refl h0 _
  refine own_go (fun t k => castTop (own_ef1 m a0r p1 p2 p3 p4) k) ?_
  refine own_go (T' := s₁) (f' := (mkF m 1 #[.val (.ref a0r), .val (.int p1), .val (.int p2), .val (.int p3), .val (.int p4)] [(.ref a0r)])) (fun t k => ?_) ?_
  · show Steps p.tables e below (s₁.setTop (mkF m 0 #[.val (.ref a0r), .val (.int p1), .val (.int p2), .val (.int p3), .val (.int p4)] [])) _
    refine XS.aloadN X0.here hx rfl (hb hby own_d1_0) rfl rfl ?_
    show Steps p.tables e below (s₁.setTop (mkF m 1 #[.val (.ref a0r), .val (.int p1), .val (.int p2), .val (.int p3), .val (.int p4)] [(.ref a0r)])) _
    exact k
  obtain ⟨_, _, ⟨T1, Lq1, kq1, nq1⟩, -, X1, ⟨Lc1, hQ1, lq1, yq1, zq1⟩, st1⟩ := X0.specialBack hx (y := (⟨"java/lang/Record", "<init>", "()V"⟩ : MethodName)) rfl hown (mvT hZ (hw _ (List.mem_of_getElem? (i := 6) rfl))) (mvT hZ (hw _ (List.mem_of_getElem? (i := 7) rfl))) (mvT hZ (hw _ (List.mem_of_getElem? (i := 10) rfl))) (by decide) (backOf (W := 0) (own_rmR l Z a0 hw [] a0r  h0 n0 Z0 ) hZ (hw _ (List.mem_of_getElem? (i := 10) rfl)) (hw _ (List.mem_of_getElem? (i := 9) rfl)) (by decide) (by decide)) (g := (mkF m 1 #[.val (.ref a0r), .val (.int p1), .val (.int p2), .val (.int p3), .val (.int p4)] [(.ref a0r)])) rfl (by rw [hml]; rfl) (Steps.refl _) (a := a0r) (argsL := []) (rest := []) (lenOf own_pd0 rfl) rfl (by show 2 * 0 + _ ≤ _; exact Nat.le_of_eq rfl) (hb hby own_d1_1) (fun _ _ => ⟨rfl, e0, (by decide : 0 + 0 ≤ _), (by decide : 0 + 0 ≤ _)⟩)
  dsimp only [Pt.U, Pt.locs, Pt.cells, Pt.slots] at X1 lq1 yq1 zq1 st1 hQ1
  subst lq1 yq1 zq1
  obtain ⟨rfl, N1q, h1q⟩ := hQ1
  have N1 := Fr.app N0 N1q
  refine own_go (T' := T1) (f' := (mkF m 4 #[.val (.ref a0r), .val (.int p1), .val (.int p2), .val (.int p3), .val (.int p4)] [])) (fun t k => st1.trans k) ?_
  refine own_go (T' := T1) (f' := (mkF m 6 #[.val (.ref a0r), .val (.int p1), .val (.int p2), .val (.int p3), .val (.int p4)] [(.int p1), (.ref a0r)])) (fun t k => ?_) ?_
  · show Steps p.tables e below (T1.setTop (mkF m 4 #[.val (.ref a0r), .val (.int p1), .val (.int p2), .val (.int p3), .val (.int p4)] [])) _
    refine XS.aloadN X1.here hx rfl (hb hby own_d1_4) rfl rfl ?_
    show Steps p.tables e below (T1.setTop (mkF m 5 #[.val (.ref a0r), .val (.int p1), .val (.int p2), .val (.int p3), .val (.int p4)] [(.ref a0r)])) _
    refine XS.iloadN X1.here hx rfl (hb hby own_d1_5) rfl ?_
    show Steps p.tables e below (T1.setTop (mkF m 6 #[.val (.ref a0r), .val (.int p1), .val (.int p2), .val (.int p3), .val (.int p4)] [(.int p1), (.ref a0r)])) _
    exact k
  obtain ⟨T2, h2, X2, e2, W2, st2⟩ := putF X1 hx hZ hown (host := "") (Or.inl (hw _ (List.mem_of_getElem? (i := 14) rfl))) Via.refl h1q P1 P0 (Or.inr ⟨(hw _ (List.mem_of_getElem? (i := 15) rfl)), rfl, hnm⟩) (hw _ (List.mem_of_getElem? (i := 1) rfl)) (ty := .int) (by decide) rfl rfl (g := (mkF m 6 #[.val (.ref a0r), .val (.int p1), .val (.int p2), .val (.int p3), .val (.int p4)] [(.int p1), (.ref a0r)])) rfl rfl (hb hby own_d1_6)
  refine own_go (T' := T2) (f' := (mkF m 9 #[.val (.ref a0r), .val (.int p1), .val (.int p2), .val (.int p3), .val (.int p4)] [])) st2 ?_
  have fc3 : Exa Z h2 a0r "com/example/comment_binder/commentbinder/scoring/Score" := P0.wr W2
  have fc4 : Fld Z h2 a0r "com/example/comment_binder/commentbinder/scoring/Score" "correct" "I" (.int p1) := P1.same W2
  have fc5 : Fld Z h2 a0r "com/example/comment_binder/commentbinder/scoring/Score" "changed" "I" (.int (0 : Int32)) := P2.other W2 (Or.inr (slot_ne (Or.inr (hw _ (List.mem_of_getElem? (i := 17) rfl))) (Or.inr (hw _ (List.mem_of_getElem? (i := 15) rfl))) (by decide) (t := .int) (t' := .int) (by decide) (by decide)))
  have fc6 : Fld Z h2 a0r "com/example/comment_binder/commentbinder/scoring/Score" "lost" "I" (.int (0 : Int32)) := P3.other W2 (Or.inr (slot_ne (Or.inr (hw _ (List.mem_of_getElem? (i := 19) rfl))) (Or.inr (hw _ (List.mem_of_getElem? (i := 15) rfl))) (by decide) (t := .int) (t' := .int) (by decide) (by decide)))
  have fc7 : Fld Z h2 a0r "com/example/comment_binder/commentbinder/scoring/Score" "spurious" "I" (.int (0 : Int32)) := P4.other W2 (Or.inr (slot_ne (Or.inr (hw _ (List.mem_of_getElem? (i := 21) rfl))) (Or.inr (hw _ (List.mem_of_getElem? (i := 15) rfl))) (by decide) (t := .int) (t' := .int) (by decide) (by decide)))
  have Zs2 : n0 ≤ h2.size := Nat.le_trans Z0 (Keep.of_wr W2).1
  have K2 : Keep h0 h2 [a0r] := K0.wr W2 (Or.inl (List.mem_of_getElem? (i := 0) rfl))
  have N2 := Fr.snoc X2 N1 go_a0r
  refine own_go (T' := T2) (f' := (mkF m 11 #[.val (.ref a0r), .val (.int p1), .val (.int p2), .val (.int p3), .val (.int p4)] [(.int p2), (.ref a0r)])) (fun t k => ?_) ?_
  · show Steps p.tables e below (T2.setTop (mkF m 9 #[.val (.ref a0r), .val (.int p1), .val (.int p2), .val (.int p3), .val (.int p4)] [])) _
    refine XS.aloadN X2.here hx rfl (hb hby own_d1_9) rfl rfl ?_
    show Steps p.tables e below (T2.setTop (mkF m 10 #[.val (.ref a0r), .val (.int p1), .val (.int p2), .val (.int p3), .val (.int p4)] [(.ref a0r)])) _
    refine XS.iloadN X2.here hx rfl (hb hby own_d1_10) rfl ?_
    show Steps p.tables e below (T2.setTop (mkF m 11 #[.val (.ref a0r), .val (.int p1), .val (.int p2), .val (.int p3), .val (.int p4)] [(.int p2), (.ref a0r)])) _
    exact k
  obtain ⟨T8, h8, X8, e8, W8, st8⟩ := putF X2 hx hZ hown (host := "") (Or.inl (hw _ (List.mem_of_getElem? (i := 16) rfl))) Via.refl e2 fc5 fc3 (Or.inr ⟨(hw _ (List.mem_of_getElem? (i := 17) rfl)), rfl, hnm⟩) (hw _ (List.mem_of_getElem? (i := 1) rfl)) (ty := .int) (by decide) rfl rfl (g := (mkF m 11 #[.val (.ref a0r), .val (.int p1), .val (.int p2), .val (.int p3), .val (.int p4)] [(.int p2), (.ref a0r)])) rfl rfl (hb hby own_d1_11)
  refine own_go (T' := T8) (f' := (mkF m 14 #[.val (.ref a0r), .val (.int p1), .val (.int p2), .val (.int p3), .val (.int p4)] [])) st8 ?_
  have fc9 : Exa Z h8 a0r "com/example/comment_binder/commentbinder/scoring/Score" := fc3.wr W8
  have fc10 : Fld Z h8 a0r "com/example/comment_binder/commentbinder/scoring/Score" "correct" "I" (.int p1) := fc4.other W8 (Or.inr (slot_ne (Or.inr (hw _ (List.mem_of_getElem? (i := 15) rfl))) (Or.inr (hw _ (List.mem_of_getElem? (i := 17) rfl))) (by decide) (t := .int) (t' := .int) (by decide) (by decide)))
  have fc11 : Fld Z h8 a0r "com/example/comment_binder/commentbinder/scoring/Score" "changed" "I" (.int p2) := fc5.same W8
  have fc12 : Fld Z h8 a0r "com/example/comment_binder/commentbinder/scoring/Score" "lost" "I" (.int (0 : Int32)) := fc6.other W8 (Or.inr (slot_ne (Or.inr (hw _ (List.mem_of_getElem? (i := 19) rfl))) (Or.inr (hw _ (List.mem_of_getElem? (i := 17) rfl))) (by decide) (t := .int) (t' := .int) (by decide) (by decide)))
  have fc13 : Fld Z h8 a0r "com/example/comment_binder/commentbinder/scoring/Score" "spurious" "I" (.int (0 : Int32)) := fc7.other W8 (Or.inr (slot_ne (Or.inr (hw _ (List.mem_of_getElem? (i := 21) rfl))) (Or.inr (hw _ (List.mem_of_getElem? (i := 17) rfl))) (by decide) (t := .int) (t' := .int) (by decide) (by decide)))
  have Zs8 : n0 ≤ h8.size := Nat.le_trans Zs2 (Keep.of_wr W8).1
  have K8 : Keep h0 h8 [a0r] := K2.wr W8 (Or.inl (List.mem_of_getElem? (i := 0) rfl))
  have N8 := Fr.snoc X8 N2 go_a0r
  refine own_go (T' := T8) (f' := (mkF m 16 #[.val (.ref a0r), .val (.int p1), .val (.int p2), .val (.int p3), .val (.int p4)] [(.int p3), (.ref a0r)])) (fun t k => ?_) ?_
  · show Steps p.tables e below (T8.setTop (mkF m 14 #[.val (.ref a0r), .val (.int p1), .val (.int p2), .val (.int p3), .val (.int p4)] [])) _
    refine XS.aloadN X8.here hx rfl (hb hby own_d1_14) rfl rfl ?_
    show Steps p.tables e below (T8.setTop (mkF m 15 #[.val (.ref a0r), .val (.int p1), .val (.int p2), .val (.int p3), .val (.int p4)] [(.ref a0r)])) _
    refine XS.iloadN X8.here hx rfl (hb hby own_d1_15) rfl ?_
    show Steps p.tables e below (T8.setTop (mkF m 16 #[.val (.ref a0r), .val (.int p1), .val (.int p2), .val (.int p3), .val (.int p4)] [(.int p3), (.ref a0r)])) _
    exact k
  obtain ⟨T14, h14, X14, e14, W14, st14⟩ := putF X8 hx hZ hown (host := "") (Or.inl (hw _ (List.mem_of_getElem? (i := 18) rfl))) Via.refl e8 fc12 fc9 (Or.inr ⟨(hw _ (List.mem_of_getElem? (i := 19) rfl)), rfl, hnm⟩) (hw _ (List.mem_of_getElem? (i := 1) rfl)) (ty := .int) (by decide) rfl rfl (g := (mkF m 16 #[.val (.ref a0r), .val (.int p1), .val (.int p2), .val (.int p3), .val (.int p4)] [(.int p3), (.ref a0r)])) rfl rfl (hb hby own_d1_16)
  refine own_go (T' := T14) (f' := (mkF m 19 #[.val (.ref a0r), .val (.int p1), .val (.int p2), .val (.int p3), .val (.int p4)] [])) st14 ?_
  have fc15 : Exa Z h14 a0r "com/example/comment_binder/commentbinder/scoring/Score" := fc9.wr W14
  have fc16 : Fld Z h14 a0r "com/example/comment_binder/commentbinder/scoring/Score" "correct" "I" (.int p1) := fc10.other W14 (Or.inr (slot_ne (Or.inr (hw _ (List.mem_of_getElem? (i := 15) rfl))) (Or.inr (hw _ (List.mem_of_getElem? (i := 19) rfl))) (by decide) (t := .int) (t' := .int) (by decide) (by decide)))
  have fc17 : Fld Z h14 a0r "com/example/comment_binder/commentbinder/scoring/Score" "changed" "I" (.int p2) := fc11.other W14 (Or.inr (slot_ne (Or.inr (hw _ (List.mem_of_getElem? (i := 17) rfl))) (Or.inr (hw _ (List.mem_of_getElem? (i := 19) rfl))) (by decide) (t := .int) (t' := .int) (by decide) (by decide)))
  have fc18 : Fld Z h14 a0r "com/example/comment_binder/commentbinder/scoring/Score" "lost" "I" (.int p3) := fc12.same W14
  have fc19 : Fld Z h14 a0r "com/example/comment_binder/commentbinder/scoring/Score" "spurious" "I" (.int (0 : Int32)) := fc13.other W14 (Or.inr (slot_ne (Or.inr (hw _ (List.mem_of_getElem? (i := 21) rfl))) (Or.inr (hw _ (List.mem_of_getElem? (i := 19) rfl))) (by decide) (t := .int) (t' := .int) (by decide) (by decide)))
  have Zs14 : n0 ≤ h14.size := Nat.le_trans Zs8 (Keep.of_wr W14).1
  have K14 : Keep h0 h14 [a0r] := K8.wr W14 (Or.inl (List.mem_of_getElem? (i := 0) rfl))
  have N14 := Fr.snoc X14 N8 go_a0r
  refine own_go (T' := T14) (f' := (mkF m 22 #[.val (.ref a0r), .val (.int p1), .val (.int p2), .val (.int p3), .val (.int p4)] [(.int p4), (.ref a0r)])) (fun t k => ?_) ?_
  · show Steps p.tables e below (T14.setTop (mkF m 19 #[.val (.ref a0r), .val (.int p1), .val (.int p2), .val (.int p3), .val (.int p4)] [])) _
    refine XS.aloadN X14.here hx rfl (hb hby own_d1_19) rfl rfl ?_
    show Steps p.tables e below (T14.setTop (mkF m 20 #[.val (.ref a0r), .val (.int p1), .val (.int p2), .val (.int p3), .val (.int p4)] [(.ref a0r)])) _
    refine XS.iload X14.here hx rfl (hb hby own_d1_20) rfl ?_
    show Steps p.tables e below (T14.setTop (mkF m 22 #[.val (.ref a0r), .val (.int p1), .val (.int p2), .val (.int p3), .val (.int p4)] [(.int p4), (.ref a0r)])) _
    exact k
  obtain ⟨T20, h20, X20, e20, W20, st20⟩ := putF X14 hx hZ hown (host := "") (Or.inl (hw _ (List.mem_of_getElem? (i := 20) rfl))) Via.refl e14 fc19 fc15 (Or.inr ⟨(hw _ (List.mem_of_getElem? (i := 21) rfl)), rfl, hnm⟩) (hw _ (List.mem_of_getElem? (i := 1) rfl)) (ty := .int) (by decide) rfl rfl (g := (mkF m 22 #[.val (.ref a0r), .val (.int p1), .val (.int p2), .val (.int p3), .val (.int p4)] [(.int p4), (.ref a0r)])) rfl rfl (hb hby own_d1_22)
  refine own_go (T' := T20) (f' := (mkF m 25 #[.val (.ref a0r), .val (.int p1), .val (.int p2), .val (.int p3), .val (.int p4)] [])) st20 ?_
  have fc21 : Exa Z h20 a0r "com/example/comment_binder/commentbinder/scoring/Score" := fc15.wr W20
  have fc22 : Fld Z h20 a0r "com/example/comment_binder/commentbinder/scoring/Score" "correct" "I" (.int p1) := fc16.other W20 (Or.inr (slot_ne (Or.inr (hw _ (List.mem_of_getElem? (i := 15) rfl))) (Or.inr (hw _ (List.mem_of_getElem? (i := 21) rfl))) (by decide) (t := .int) (t' := .int) (by decide) (by decide)))
  have fc23 : Fld Z h20 a0r "com/example/comment_binder/commentbinder/scoring/Score" "changed" "I" (.int p2) := fc17.other W20 (Or.inr (slot_ne (Or.inr (hw _ (List.mem_of_getElem? (i := 17) rfl))) (Or.inr (hw _ (List.mem_of_getElem? (i := 21) rfl))) (by decide) (t := .int) (t' := .int) (by decide) (by decide)))
  have fc24 : Fld Z h20 a0r "com/example/comment_binder/commentbinder/scoring/Score" "lost" "I" (.int p3) := fc18.other W20 (Or.inr (slot_ne (Or.inr (hw _ (List.mem_of_getElem? (i := 19) rfl))) (Or.inr (hw _ (List.mem_of_getElem? (i := 21) rfl))) (by decide) (t := .int) (t' := .int) (by decide) (by decide)))
  have fc25 : Fld Z h20 a0r "com/example/comment_binder/commentbinder/scoring/Score" "spurious" "I" (.int p4) := fc19.same W20
  have Zs20 : n0 ≤ h20.size := Nat.le_trans Zs14 (Keep.of_wr W20).1
  have K20 : Keep h0 h20 [a0r] := K14.wr W20 (Or.inl (List.mem_of_getElem? (i := 0) rfl))
  have N20 := Fr.snoc X20 N14 go_a0r
  obtain ⟨fs, hr, hrun, hended, hW, hsame⟩ := X20.leave (v := none) (fun _ => rfl)
  refine ⟨_, _, ?_, hrun, hended, _, _, rfl, ?_, ⟨_, rfl⟩, hW, hsame.mono (by decide) (by decide)⟩
  · exact X20.returnOut hx Bd.returns (hb hby own_d1_25) hr
  · show own_Q1 Z a0r p1 p2 p3 p4 h0 n0 _ T20.heap _
    rw [e20]
    exact ⟨rfl, N20, K20, fc22, fc23, fc24, fc25⟩
theorem own_pd1 : parseMethodDescriptor "(IIII)V" = some ⟨[.int, .int, .int, .int], none⟩ := by decide +kernel
theorem own_d2_0 : decode prog_96_method_3_code 0 = .ok (.new 8, 3) := by decide +kernel
theorem own_d2_3 : decode prog_96_method_3_code 3 = .ok (.dup, 1) := by decide +kernel
theorem own_d2_4 : decode prog_96_method_3_code 4 = .ok (.aload_n 0, 1) := by decide +kernel
theorem own_d2_5 : decode prog_96_method_3_code 5 = .ok (.getfield 7, 3) := by decide +kernel
theorem own_d2_8 : decode prog_96_method_3_code 8 = .ok (.aload_n 1, 1) := by decide +kernel
theorem own_d2_9 : decode prog_96_method_3_code 9 = .ok (.getfield 7, 3) := by decide +kernel
theorem own_d2_12 : decode prog_96_method_3_code 12 = .ok (.iadd, 1) := by decide +kernel
theorem own_d2_13 : decode prog_96_method_3_code 13 = .ok (.aload_n 0, 1) := by decide +kernel
theorem own_d2_14 : decode prog_96_method_3_code 14 = .ok (.getfield 13, 3) := by decide +kernel
theorem own_d2_17 : decode prog_96_method_3_code 17 = .ok (.aload_n 1, 1) := by decide +kernel
theorem own_d2_18 : decode prog_96_method_3_code 18 = .ok (.getfield 13, 3) := by decide +kernel
theorem own_d2_21 : decode prog_96_method_3_code 21 = .ok (.iadd, 1) := by decide +kernel
theorem own_d2_22 : decode prog_96_method_3_code 22 = .ok (.aload_n 0, 1) := by decide +kernel
theorem own_d2_23 : decode prog_96_method_3_code 23 = .ok (.getfield 16, 3) := by decide +kernel
theorem own_d2_26 : decode prog_96_method_3_code 26 = .ok (.aload_n 1, 1) := by decide +kernel
theorem own_d2_27 : decode prog_96_method_3_code 27 = .ok (.getfield 16, 3) := by decide +kernel
theorem own_d2_30 : decode prog_96_method_3_code 30 = .ok (.iadd, 1) := by decide +kernel
theorem own_d2_31 : decode prog_96_method_3_code 31 = .ok (.aload_n 0, 1) := by decide +kernel
theorem own_d2_32 : decode prog_96_method_3_code 32 = .ok (.getfield 19, 3) := by decide +kernel
theorem own_d2_35 : decode prog_96_method_3_code 35 = .ok (.aload_n 1, 1) := by decide +kernel
theorem own_d2_36 : decode prog_96_method_3_code 36 = .ok (.getfield 19, 3) := by decide +kernel
theorem own_d2_39 : decode prog_96_method_3_code 39 = .ok (.iadd, 1) := by decide +kernel
theorem own_d2_40 : decode prog_96_method_3_code 40 = .ok (.invokespecial 28, 3) := by decide +kernel
theorem own_d2_43 : decode prog_96_method_3_code 43 = .ok (.areturn, 1) := by decide +kernel
theorem own_ef2 (m : MethodId) (a0r : Addr) (a1r : Addr) : entryFrame m #[(.ref a0r), (.ref a1r)] 2 = mkF m 0 #[.val (.ref a0r), .val (.ref a1r)] [] := by first | (simp [entryFrame, mkF, argsToLocals, Value.category]; done) | rfl
def own_Q2 (Z : State) (a0r : Addr) (a1r : Addr) (u0 : Int32) (u1 : Int32) (u2 : Int32) (u3 : Int32) (w0 : Int32) (w1 : Int32) (w2 : Int32) (w3 : Int32) (h0 : Heap) (n0 : Nat) (v : Option Value) (h : Heap) (L : List Loc) : Prop := ∃ (br : Addr), (v = some (.ref br)) ∧ (Fr n0 L) ∧ (Keep h0 h []) ∧ (h0.size ≤ br) ∧ (Exa Z h br "com/example/comment_binder/commentbinder/scoring/Score") ∧ (Fld Z h br "com/example/comment_binder/commentbinder/scoring/Score" "correct" "I" (.int (u0 + w0))) ∧ (Fld Z h br "com/example/comment_binder/commentbinder/scoring/Score" "changed" "I" (.int (u1 + w1))) ∧ (Fld Z h br "com/example/comment_binder/commentbinder/scoring/Score" "lost" "I" (.int (u2 + w2))) ∧ (Fld Z h br "com/example/comment_binder/commentbinder/scoring/Score" "spurious" "I" (.int (u3 + w3)))
set_option maxRecDepth 65536 in
set_option maxHeartbeats 40000000 in
theorem own_rm2 (l : Launch) (Z : State) (a0 : Array Value) (hw : ∀ d ∈ tables_1, d.before a0 Z = true) (ws : List Jvm.Cond) (a0r : Addr) (a1r : Addr) (u0 : Int32) (u1 : Int32) (u2 : Int32) (u3 : Int32) (w0 : Int32) (w1 : Int32) (w2 : Int32) (w3 : Int32) (h0 : Heap) (n0 : Nat) (Z0 : n0 ≤ h0.size) (P0 : Fld Z h0 a0r "com/example/comment_binder/commentbinder/scoring/Score" "correct" "I" (.int u0)) (P1 : Fld Z h0 a0r "com/example/comment_binder/commentbinder/scoring/Score" "changed" "I" (.int u1)) (P2 : Fld Z h0 a0r "com/example/comment_binder/commentbinder/scoring/Score" "lost" "I" (.int u2)) (P3 : Fld Z h0 a0r "com/example/comment_binder/commentbinder/scoring/Score" "spurious" "I" (.int u3)) (P4 : Fld Z h0 a1r "com/example/comment_binder/commentbinder/scoring/Score" "correct" "I" (.int w0)) (P5 : Fld Z h0 a1r "com/example/comment_binder/commentbinder/scoring/Score" "changed" "I" (.int w1)) (P6 : Fld Z h0 a1r "com/example/comment_binder/commentbinder/scoring/Score" "lost" "I" (.int w2)) (P7 : Fld Z h0 a1r "com/example/comment_binder/commentbinder/scoring/Score" "spurious" "I" (.int w3)) :
    MetFree l (⟨"com/example/comment_binder/commentbinder/scoring/Score", "plus", "(Lcom/example/comment_binder/commentbinder/scoring/Score;)Lcom/example/comment_binder/commentbinder/scoring/Score;"⟩ : MethodName) (head1 (Jvm.Cond.code (⟨"com/example/comment_binder/commentbinder/scoring/Score", "plus", "(Lcom/example/comment_binder/commentbinder/scoring/Score;)Lcom/example/comment_binder/commentbinder/scoring/Score;"⟩ : MethodName) prog_96_method_3_code 2 (some (.object "com/example/comment_binder/commentbinder/scoring/Score")) :: ws) ({ frames := 3, cells := 1, slots := 4, locals := 41 } : Room)) (fun a U => a = #[(.ref a0r), (.ref a1r)] ∧ Z.Warmed39 U.vm ∧ U.heap = h0) (fun _ _ _ _ _ => True) (fun _ U o U' => ∃ v L, o = .returned v ∧ own_Q2 Z a0r a1r u0 u1 u2 u3 w0 w1 w2 w3 h0 n0 v U'.heap L ∧ FrameEnd U o U' L ({ frames := 3, cells := 1, slots := 4, locals := 41 } : Room).cells ({ frames := 3, cells := 1, slots := 4, locals := 41 } : Room).slots) := by
  refine MetFree.of_bodySF (plainFor_of_name own_pn1) hisR ?_
  intro p e s m args below meth c s₁ Bd hml0 hP hK
  obtain ⟨rfl, hZ, hh⟩ := hP
  have hx := Bd.exec
  have hby := Bd.bytes
  have hml : c.maxLocals = 2 := hml0
  have hown : s.vm.findClass "com/example/comment_binder/commentbinder/scoring/Score" = some m.cls := findClass_of_methodNamed Bd.named
  have hnm := (name_of_methodNamed Bd.named Bd.method).1
  have X0 : Stand p l e ({ frames := 3, cells := 1, slots := 4, locals := 41 } : Room) s m #[(.ref a0r), (.ref a1r)] below meth c s₁ [] 0 0 := Stand.of_body Bd
  have e0 : s₁.heap = h0 := by rw [← hh, Bd.state]; rfl
  have N0 := Fr.nil n0
  have K0 : Keep h0 h0 [] := Keep.refl h0 _
  refine own_go (fun t k => castTop (own_ef2 m a0r a1r) k) ?_
  obtain ⟨T1, h1, X1, e1, E1, A1, D1, -, st1⟩ := newO X0 hx hZ hown (hw _ (List.mem_of_getElem? (i := 27) rfl)) (hw _ (List.mem_of_getElem? (i := 1) rfl)) (hw _ (List.mem_of_getElem? (i := 2) rfl)) e0 (g := (mkF m 0 #[.val (.ref a0r), .val (.ref a1r)] [])) rfl (hb hby own_d2_0) (by decide) (by decide)
  obtain ⟨b1, g1⟩ : ∃ z, z = h0.size := ⟨_, rfl⟩
  rw [← g1] at A1 D1 st1
  have ne_a0r_b1 : a0r ≠ b1 := Nat.ne_of_lt (Nat.lt_of_lt_of_le P0.lt (Nat.le_of_eq g1.symm))
  have ne_a1r_b1 : a1r ≠ b1 := Nat.ne_of_lt (Nat.lt_of_lt_of_le P4.lt (Nat.le_of_eq g1.symm))
  have g_b1 : n0 ≤ b1 := Nat.le_trans Z0 (Nat.le_of_eq g1.symm)
  have sz_b1 : h0.size ≤ b1 := Nat.le_trans K0.1 (Nat.le_of_eq g1.symm)
  refine own_go (T' := T1) (f' := (mkF m 3 #[.val (.ref a0r), .val (.ref a1r)] [(.ref b1)])) st1 ?_
  have fc2 : Fld Z h1 a0r "com/example/comment_binder/commentbinder/scoring/Score" "correct" "I" (.int u0) := P0.ext E1
  have fc3 : Fld Z h1 a0r "com/example/comment_binder/commentbinder/scoring/Score" "changed" "I" (.int u1) := P1.ext E1
  have fc4 : Fld Z h1 a0r "com/example/comment_binder/commentbinder/scoring/Score" "lost" "I" (.int u2) := P2.ext E1
  have fc5 : Fld Z h1 a0r "com/example/comment_binder/commentbinder/scoring/Score" "spurious" "I" (.int u3) := P3.ext E1
  have fc6 : Fld Z h1 a1r "com/example/comment_binder/commentbinder/scoring/Score" "correct" "I" (.int w0) := P4.ext E1
  have fc7 : Fld Z h1 a1r "com/example/comment_binder/commentbinder/scoring/Score" "changed" "I" (.int w1) := P5.ext E1
  have fc8 : Fld Z h1 a1r "com/example/comment_binder/commentbinder/scoring/Score" "lost" "I" (.int w2) := P6.ext E1
  have fc9 : Fld Z h1 a1r "com/example/comment_binder/commentbinder/scoring/Score" "spurious" "I" (.int w3) := P7.ext E1
  have Zs1 : n0 ≤ h1.size := Nat.le_trans Z0 E1.1
  have K1 : Keep h0 h1 [] := K0.ext E1
  have fc10 : Fld Z h1 b1 "com/example/comment_binder/commentbinder/scoring/Score" "correct" "I" (.int (0 : Int32)) := D1 (Or.inr (hw _ (List.mem_of_getElem? (i := 15) rfl))) (ty := .int) (by decide)
  have fc11 : Fld Z h1 b1 "com/example/comment_binder/commentbinder/scoring/Score" "changed" "I" (.int (0 : Int32)) := D1 (Or.inr (hw _ (List.mem_of_getElem? (i := 17) rfl))) (ty := .int) (by decide)
  have fc12 : Fld Z h1 b1 "com/example/comment_binder/commentbinder/scoring/Score" "lost" "I" (.int (0 : Int32)) := D1 (Or.inr (hw _ (List.mem_of_getElem? (i := 19) rfl))) (ty := .int) (by decide)
  have fc13 : Fld Z h1 b1 "com/example/comment_binder/commentbinder/scoring/Score" "spurious" "I" (.int (0 : Int32)) := D1 (Or.inr (hw _ (List.mem_of_getElem? (i := 21) rfl))) (ty := .int) (by decide)
  refine own_go (T' := T1) (f' := (mkF m 5 #[.val (.ref a0r), .val (.ref a1r)] [(.ref a0r), (.ref b1), (.ref b1)])) (fun t k => ?_) ?_
  · show Steps p.tables e below (T1.setTop (mkF m 3 #[.val (.ref a0r), .val (.ref a1r)] [(.ref b1)])) _
    refine XS.dup X1.here hx rfl (hb hby own_d2_3) rfl rfl ?_
    show Steps p.tables e below (T1.setTop (mkF m 4 #[.val (.ref a0r), .val (.ref a1r)] [(.ref b1), (.ref b1)])) _
    refine XS.aloadN X1.here hx rfl (hb hby own_d2_4) rfl rfl ?_
    show Steps p.tables e below (T1.setTop (mkF m 5 #[.val (.ref a0r), .val (.ref a1r)] [(.ref a0r), (.ref b1), (.ref b1)])) _
    exact k
  obtain ⟨T14, X14, e14, st14⟩ := getF X1 hx hZ hown (host := "") (Or.inl (hw _ (List.mem_of_getElem? (i := 14) rfl))) Via.refl e1 fc2 (g := (mkF m 5 #[.val (.ref a0r), .val (.ref a1r)] [(.ref a0r), (.ref b1), (.ref b1)])) rfl rfl (hb hby own_d2_5)
  refine own_go (T' := T14) (f' := (mkF m 8 #[.val (.ref a0r), .val (.ref a1r)] [(.int u0), (.ref b1), (.ref b1)])) st14 ?_
  refine own_go (T' := T14) (f' := (mkF m 9 #[.val (.ref a0r), .val (.ref a1r)] [(.ref a1r), (.int u0), (.ref b1), (.ref b1)])) (fun t k => ?_) ?_
  · show Steps p.tables e below (T14.setTop (mkF m 8 #[.val (.ref a0r), .val (.ref a1r)] [(.int u0), (.ref b1), (.ref b1)])) _
    refine XS.aloadN X14.here hx rfl (hb hby own_d2_8) rfl rfl ?_
    show Steps p.tables e below (T14.setTop (mkF m 9 #[.val (.ref a0r), .val (.ref a1r)] [(.ref a1r), (.int u0), (.ref b1), (.ref b1)])) _
    exact k
  obtain ⟨T15, X15, e15, st15⟩ := getF X14 hx hZ hown (host := "") (Or.inl (hw _ (List.mem_of_getElem? (i := 14) rfl))) Via.refl e14 fc6 (g := (mkF m 9 #[.val (.ref a0r), .val (.ref a1r)] [(.ref a1r), (.int u0), (.ref b1), (.ref b1)])) rfl rfl (hb hby own_d2_9)
  refine own_go (T' := T15) (f' := (mkF m 12 #[.val (.ref a0r), .val (.ref a1r)] [(.int w0), (.int u0), (.ref b1), (.ref b1)])) st15 ?_
  refine own_go (T' := T15) (f' := (mkF m 14 #[.val (.ref a0r), .val (.ref a1r)] [(.ref a0r), (.int (u0 + w0)), (.ref b1), (.ref b1)])) (fun t k => ?_) ?_
  · show Steps p.tables e below (T15.setTop (mkF m 12 #[.val (.ref a0r), .val (.ref a1r)] [(.int w0), (.int u0), (.ref b1), (.ref b1)])) _
    refine XS.iadd X15.here hx rfl (hb hby own_d2_12) rfl ?_
    show Steps p.tables e below (T15.setTop (mkF m 13 #[.val (.ref a0r), .val (.ref a1r)] [(.int (u0 + w0)), (.ref b1), (.ref b1)])) _
    refine XS.aloadN X15.here hx rfl (hb hby own_d2_13) rfl rfl ?_
    show Steps p.tables e below (T15.setTop (mkF m 14 #[.val (.ref a0r), .val (.ref a1r)] [(.ref a0r), (.int (u0 + w0)), (.ref b1), (.ref b1)])) _
    exact k
  obtain ⟨T16, X16, e16, st16⟩ := getF X15 hx hZ hown (host := "") (Or.inl (hw _ (List.mem_of_getElem? (i := 16) rfl))) Via.refl e15 fc3 (g := (mkF m 14 #[.val (.ref a0r), .val (.ref a1r)] [(.ref a0r), (.int (u0 + w0)), (.ref b1), (.ref b1)])) rfl rfl (hb hby own_d2_14)
  refine own_go (T' := T16) (f' := (mkF m 17 #[.val (.ref a0r), .val (.ref a1r)] [(.int u1), (.int (u0 + w0)), (.ref b1), (.ref b1)])) st16 ?_
  refine own_go (T' := T16) (f' := (mkF m 18 #[.val (.ref a0r), .val (.ref a1r)] [(.ref a1r), (.int u1), (.int (u0 + w0)), (.ref b1), (.ref b1)])) (fun t k => ?_) ?_
  · show Steps p.tables e below (T16.setTop (mkF m 17 #[.val (.ref a0r), .val (.ref a1r)] [(.int u1), (.int (u0 + w0)), (.ref b1), (.ref b1)])) _
    refine XS.aloadN X16.here hx rfl (hb hby own_d2_17) rfl rfl ?_
    show Steps p.tables e below (T16.setTop (mkF m 18 #[.val (.ref a0r), .val (.ref a1r)] [(.ref a1r), (.int u1), (.int (u0 + w0)), (.ref b1), (.ref b1)])) _
    exact k
  obtain ⟨T17, X17, e17, st17⟩ := getF X16 hx hZ hown (host := "") (Or.inl (hw _ (List.mem_of_getElem? (i := 16) rfl))) Via.refl e16 fc7 (g := (mkF m 18 #[.val (.ref a0r), .val (.ref a1r)] [(.ref a1r), (.int u1), (.int (u0 + w0)), (.ref b1), (.ref b1)])) rfl rfl (hb hby own_d2_18)
  refine own_go (T' := T17) (f' := (mkF m 21 #[.val (.ref a0r), .val (.ref a1r)] [(.int w1), (.int u1), (.int (u0 + w0)), (.ref b1), (.ref b1)])) st17 ?_
  refine own_go (T' := T17) (f' := (mkF m 23 #[.val (.ref a0r), .val (.ref a1r)] [(.ref a0r), (.int (u1 + w1)), (.int (u0 + w0)), (.ref b1), (.ref b1)])) (fun t k => ?_) ?_
  · show Steps p.tables e below (T17.setTop (mkF m 21 #[.val (.ref a0r), .val (.ref a1r)] [(.int w1), (.int u1), (.int (u0 + w0)), (.ref b1), (.ref b1)])) _
    refine XS.iadd X17.here hx rfl (hb hby own_d2_21) rfl ?_
    show Steps p.tables e below (T17.setTop (mkF m 22 #[.val (.ref a0r), .val (.ref a1r)] [(.int (u1 + w1)), (.int (u0 + w0)), (.ref b1), (.ref b1)])) _
    refine XS.aloadN X17.here hx rfl (hb hby own_d2_22) rfl rfl ?_
    show Steps p.tables e below (T17.setTop (mkF m 23 #[.val (.ref a0r), .val (.ref a1r)] [(.ref a0r), (.int (u1 + w1)), (.int (u0 + w0)), (.ref b1), (.ref b1)])) _
    exact k
  obtain ⟨T18, X18, e18, st18⟩ := getF X17 hx hZ hown (host := "") (Or.inl (hw _ (List.mem_of_getElem? (i := 18) rfl))) Via.refl e17 fc4 (g := (mkF m 23 #[.val (.ref a0r), .val (.ref a1r)] [(.ref a0r), (.int (u1 + w1)), (.int (u0 + w0)), (.ref b1), (.ref b1)])) rfl rfl (hb hby own_d2_23)
  refine own_go (T' := T18) (f' := (mkF m 26 #[.val (.ref a0r), .val (.ref a1r)] [(.int u2), (.int (u1 + w1)), (.int (u0 + w0)), (.ref b1), (.ref b1)])) st18 ?_
  refine own_go (T' := T18) (f' := (mkF m 27 #[.val (.ref a0r), .val (.ref a1r)] [(.ref a1r), (.int u2), (.int (u1 + w1)), (.int (u0 + w0)), (.ref b1), (.ref b1)])) (fun t k => ?_) ?_
  · show Steps p.tables e below (T18.setTop (mkF m 26 #[.val (.ref a0r), .val (.ref a1r)] [(.int u2), (.int (u1 + w1)), (.int (u0 + w0)), (.ref b1), (.ref b1)])) _
    refine XS.aloadN X18.here hx rfl (hb hby own_d2_26) rfl rfl ?_
    show Steps p.tables e below (T18.setTop (mkF m 27 #[.val (.ref a0r), .val (.ref a1r)] [(.ref a1r), (.int u2), (.int (u1 + w1)), (.int (u0 + w0)), (.ref b1), (.ref b1)])) _
    exact k
  obtain ⟨T19, X19, e19, st19⟩ := getF X18 hx hZ hown (host := "") (Or.inl (hw _ (List.mem_of_getElem? (i := 18) rfl))) Via.refl e18 fc8 (g := (mkF m 27 #[.val (.ref a0r), .val (.ref a1r)] [(.ref a1r), (.int u2), (.int (u1 + w1)), (.int (u0 + w0)), (.ref b1), (.ref b1)])) rfl rfl (hb hby own_d2_27)
  refine own_go (T' := T19) (f' := (mkF m 30 #[.val (.ref a0r), .val (.ref a1r)] [(.int w2), (.int u2), (.int (u1 + w1)), (.int (u0 + w0)), (.ref b1), (.ref b1)])) st19 ?_
  refine own_go (T' := T19) (f' := (mkF m 32 #[.val (.ref a0r), .val (.ref a1r)] [(.ref a0r), (.int (u2 + w2)), (.int (u1 + w1)), (.int (u0 + w0)), (.ref b1), (.ref b1)])) (fun t k => ?_) ?_
  · show Steps p.tables e below (T19.setTop (mkF m 30 #[.val (.ref a0r), .val (.ref a1r)] [(.int w2), (.int u2), (.int (u1 + w1)), (.int (u0 + w0)), (.ref b1), (.ref b1)])) _
    refine XS.iadd X19.here hx rfl (hb hby own_d2_30) rfl ?_
    show Steps p.tables e below (T19.setTop (mkF m 31 #[.val (.ref a0r), .val (.ref a1r)] [(.int (u2 + w2)), (.int (u1 + w1)), (.int (u0 + w0)), (.ref b1), (.ref b1)])) _
    refine XS.aloadN X19.here hx rfl (hb hby own_d2_31) rfl rfl ?_
    show Steps p.tables e below (T19.setTop (mkF m 32 #[.val (.ref a0r), .val (.ref a1r)] [(.ref a0r), (.int (u2 + w2)), (.int (u1 + w1)), (.int (u0 + w0)), (.ref b1), (.ref b1)])) _
    exact k
  obtain ⟨T20, X20, e20, st20⟩ := getF X19 hx hZ hown (host := "") (Or.inl (hw _ (List.mem_of_getElem? (i := 20) rfl))) Via.refl e19 fc5 (g := (mkF m 32 #[.val (.ref a0r), .val (.ref a1r)] [(.ref a0r), (.int (u2 + w2)), (.int (u1 + w1)), (.int (u0 + w0)), (.ref b1), (.ref b1)])) rfl rfl (hb hby own_d2_32)
  refine own_go (T' := T20) (f' := (mkF m 35 #[.val (.ref a0r), .val (.ref a1r)] [(.int u3), (.int (u2 + w2)), (.int (u1 + w1)), (.int (u0 + w0)), (.ref b1), (.ref b1)])) st20 ?_
  refine own_go (T' := T20) (f' := (mkF m 36 #[.val (.ref a0r), .val (.ref a1r)] [(.ref a1r), (.int u3), (.int (u2 + w2)), (.int (u1 + w1)), (.int (u0 + w0)), (.ref b1), (.ref b1)])) (fun t k => ?_) ?_
  · show Steps p.tables e below (T20.setTop (mkF m 35 #[.val (.ref a0r), .val (.ref a1r)] [(.int u3), (.int (u2 + w2)), (.int (u1 + w1)), (.int (u0 + w0)), (.ref b1), (.ref b1)])) _
    refine XS.aloadN X20.here hx rfl (hb hby own_d2_35) rfl rfl ?_
    show Steps p.tables e below (T20.setTop (mkF m 36 #[.val (.ref a0r), .val (.ref a1r)] [(.ref a1r), (.int u3), (.int (u2 + w2)), (.int (u1 + w1)), (.int (u0 + w0)), (.ref b1), (.ref b1)])) _
    exact k
  obtain ⟨T21, X21, e21, st21⟩ := getF X20 hx hZ hown (host := "") (Or.inl (hw _ (List.mem_of_getElem? (i := 20) rfl))) Via.refl e20 fc9 (g := (mkF m 36 #[.val (.ref a0r), .val (.ref a1r)] [(.ref a1r), (.int u3), (.int (u2 + w2)), (.int (u1 + w1)), (.int (u0 + w0)), (.ref b1), (.ref b1)])) rfl rfl (hb hby own_d2_36)
  refine own_go (T' := T21) (f' := (mkF m 39 #[.val (.ref a0r), .val (.ref a1r)] [(.int w3), (.int u3), (.int (u2 + w2)), (.int (u1 + w1)), (.int (u0 + w0)), (.ref b1), (.ref b1)])) st21 ?_
  refine own_go (T' := T21) (f' := (mkF m 40 #[.val (.ref a0r), .val (.ref a1r)] [(.int (u3 + w3)), (.int (u2 + w2)), (.int (u1 + w1)), (.int (u0 + w0)), (.ref b1), (.ref b1)])) (fun t k => ?_) ?_
  · show Steps p.tables e below (T21.setTop (mkF m 39 #[.val (.ref a0r), .val (.ref a1r)] [(.int w3), (.int u3), (.int (u2 + w2)), (.int (u1 + w1)), (.int (u0 + w0)), (.ref b1), (.ref b1)])) _
    refine XS.iadd X21.here hx rfl (hb hby own_d2_39) rfl ?_
    show Steps p.tables e below (T21.setTop (mkF m 40 #[.val (.ref a0r), .val (.ref a1r)] [(.int (u3 + w3)), (.int (u2 + w2)), (.int (u1 + w1)), (.int (u0 + w0)), (.ref b1), (.ref b1)])) _
    exact k
  obtain ⟨_, _, ⟨T22, Lq22, kq22, nq22⟩, -, X22, ⟨Lc22, hQ22, lq22, yq22, zq22⟩, st22⟩ := X21.specialBack hx (y := (⟨"com/example/comment_binder/commentbinder/scoring/Score", "<init>", "(IIII)V"⟩ : MethodName)) rfl hown (mvT hZ (hw _ (List.mem_of_getElem? (i := 28) rfl))) (mvT hZ (hw _ (List.mem_of_getElem? (i := 4) rfl))) (mvT hZ (hw _ (List.mem_of_getElem? (i := 5) rfl))) (by decide) (backOf (W := 1) (own_rm1 l Z a0 hw [] b1 ((u0 + w0)) ((u1 + w1)) ((u2 + w2)) ((u3 + w3))  h1 n0 Zs1 A1 fc10 fc11 fc12 fc13 g_b1) hZ (hw _ (List.mem_of_getElem? (i := 5) rfl)) (hw _ (List.mem_of_getElem? (i := 2) rfl)) (by decide) (by decide)) (g := (mkF m 40 #[.val (.ref a0r), .val (.ref a1r)] [(.int (u3 + w3)), (.int (u2 + w2)), (.int (u1 + w1)), (.int (u0 + w0)), (.ref b1), (.ref b1)])) rfl (by rw [hml]; rfl) (Steps.refl _) (a := b1) (argsL := [(.int (u0 + w0)), (.int (u1 + w1)), (.int (u2 + w2)), (.int (u3 + w3))]) (rest := [(.ref b1)]) (lenOf own_pd1 rfl) rfl (by show 2 * 0 + _ ≤ _; exact Nat.le_of_eq rfl) (hb hby own_d2_40) (fun _ _ => ⟨rfl, e21, (by decide : 1 + 0 ≤ _), (by decide : 4 + 0 ≤ _)⟩)
  dsimp only [Pt.U, Pt.locs, Pt.cells, Pt.slots] at X22 lq22 yq22 zq22 st22 hQ22
  subst lq22 yq22 zq22
  obtain ⟨rfl, N22q, h22q, p22_0, p22_1, p22_2, p22_3⟩ := hQ22
  have N22 := Fr.app N0 N22q
  have fc23 : Fld Z T22.heap a0r "com/example/comment_binder/commentbinder/scoring/Score" "correct" "I" (.int u0) := fc2.keep h22q (ninS ne_a0r_b1 nin0)
  have fc24 : Fld Z T22.heap a0r "com/example/comment_binder/commentbinder/scoring/Score" "changed" "I" (.int u1) := fc3.keep h22q (ninS ne_a0r_b1 nin0)
  have fc25 : Fld Z T22.heap a0r "com/example/comment_binder/commentbinder/scoring/Score" "lost" "I" (.int u2) := fc4.keep h22q (ninS ne_a0r_b1 nin0)
  have fc26 : Fld Z T22.heap a0r "com/example/comment_binder/commentbinder/scoring/Score" "spurious" "I" (.int u3) := fc5.keep h22q (ninS ne_a0r_b1 nin0)
  have fc27 : Fld Z T22.heap a1r "com/example/comment_binder/commentbinder/scoring/Score" "correct" "I" (.int w0) := fc6.keep h22q (ninS ne_a1r_b1 nin0)
  have fc28 : Fld Z T22.heap a1r "com/example/comment_binder/commentbinder/scoring/Score" "changed" "I" (.int w1) := fc7.keep h22q (ninS ne_a1r_b1 nin0)
  have fc29 : Fld Z T22.heap a1r "com/example/comment_binder/commentbinder/scoring/Score" "lost" "I" (.int w2) := fc8.keep h22q (ninS ne_a1r_b1 nin0)
  have fc30 : Fld Z T22.heap a1r "com/example/comment_binder/commentbinder/scoring/Score" "spurious" "I" (.int w3) := fc9.keep h22q (ninS ne_a1r_b1 nin0)
  have fc31 : Exa Z T22.heap b1 "com/example/comment_binder/commentbinder/scoring/Score" := A1.keep h22q
  have Zs22 : n0 ≤ T22.heap.size := Nat.le_trans Zs1 h22q.1
  have K22 : Keep h0 T22.heap [] := K1.trans h22q (allS (Or.inr sz_b1) all0)
  refine own_go (T' := T22) (f' := (mkF m 43 #[.val (.ref a0r), .val (.ref a1r)] [(.ref b1)])) (fun t k => st22.trans k) ?_
  obtain ⟨fs, hr, hrun, hended, hW, hsame⟩ := X22.leave (v := some (.ref b1)) (fun h => by rw [Bd.returns] at h; cases h)
  refine ⟨_, _, ?_, hrun, hended, _, _, rfl, ?_, ⟨_, rfl⟩, hW, hsame.mono (by decide) (by decide)⟩
  · jvm_step X22.here [X22.here.top, hx, (hb hby own_d2_43), X22.method', Bd.returns, Value.isRef, FieldType.isReference]
    first | (intro acts; rw [hr _ acts rfl rfl rfl]) | rw [hr _ _ rfl rfl rfl]
    exact Steps.refl _
  · show own_Q2 Z a0r a1r u0 u1 u2 u3 w0 w1 w2 w3 h0 n0 _ T22.heap _
    exact ⟨b1, rfl, N22, K22, sz_b1, fc31, p22_0, p22_1, p22_2, p22_3⟩
theorem own_d3_0 : decode prog_96_method_9_code 0 = .ok (.aload_n 0, 1) := by decide +kernel
theorem own_d3_1 : decode prog_96_method_9_code 1 = .ok (.getfield 7, 3) := by decide +kernel
theorem own_d3_4 : decode prog_96_method_9_code 4 = .ok (.ireturn, 1) := by decide +kernel
theorem own_ef3 (m : MethodId) (a0r : Addr) : entryFrame m #[(.ref a0r)] 1 = mkF m 0 #[.val (.ref a0r)] [] := by first | (simp [entryFrame, mkF, argsToLocals, Value.category]; done) | rfl
def own_Q3 (Z : State) (a0r : Addr) (u0 : Int32) (h0 : Heap) (n0 : Nat) (v : Option Value) (h : Heap) (L : List Loc) : Prop := (v = some (.int u0)) ∧ (Fr n0 L) ∧ (h = h0)
set_option maxRecDepth 65536 in
set_option maxHeartbeats 40000000 in
theorem own_rm3 (l : Launch) (Z : State) (a0 : Array Value) (hw : ∀ d ∈ tables_1, d.before a0 Z = true) (ws : List Jvm.Cond) (a0r : Addr) (u0 : Int32) (h0 : Heap) (n0 : Nat) (Z0 : n0 ≤ h0.size) (P0 : Fld Z h0 a0r "com/example/comment_binder/commentbinder/scoring/Score" "correct" "I" (.int u0)) :
    MetFree l (⟨"com/example/comment_binder/commentbinder/scoring/Score", "correct", "()I"⟩ : MethodName) (head1 (Jvm.Cond.code (⟨"com/example/comment_binder/commentbinder/scoring/Score", "correct", "()I"⟩ : MethodName) prog_96_method_9_code 1 (some .int) :: ws) ({ frames := 0, cells := 0, slots := 0, locals := 0 } : Room)) (fun a U => a = #[(.ref a0r)] ∧ Z.Warmed39 U.vm ∧ U.heap = h0) (fun _ _ _ _ _ => True) (fun _ U o U' => ∃ v L, o = .returned v ∧ own_Q3 Z a0r u0 h0 n0 v U'.heap L ∧ FrameEnd U o U' L ({ frames := 0, cells := 0, slots := 0, locals := 0 } : Room).cells ({ frames := 0, cells := 0, slots := 0, locals := 0 } : Room).slots) := by
  refine MetFree.of_bodySF (plainFor_of_name own_pn1) hisR ?_
  intro p e s m args below meth c s₁ Bd hml0 hP hK
  obtain ⟨rfl, hZ, hh⟩ := hP
  have hx := Bd.exec
  have hby := Bd.bytes
  have hml : c.maxLocals = 1 := hml0
  have hown : s.vm.findClass "com/example/comment_binder/commentbinder/scoring/Score" = some m.cls := findClass_of_methodNamed Bd.named
  have hnm := (name_of_methodNamed Bd.named Bd.method).1
  have X0 : Stand p l e ({ frames := 0, cells := 0, slots := 0, locals := 0 } : Room) s m #[(.ref a0r)] below meth c s₁ [] 0 0 := Stand.of_body Bd
  have e0 : s₁.heap = h0 := by rw [← hh, Bd.state]; rfl
  have N0 := Fr.nil n0
  refine own_go (fun t k => castTop (own_ef3 m a0r) k) ?_
  refine own_go (T' := s₁) (f' := (mkF m 1 #[.val (.ref a0r)] [(.ref a0r)])) (fun t k => ?_) ?_
  · show Steps p.tables e below (s₁.setTop (mkF m 0 #[.val (.ref a0r)] [])) _
    refine XS.aloadN X0.here hx rfl (hb hby own_d3_0) rfl rfl ?_
    show Steps p.tables e below (s₁.setTop (mkF m 1 #[.val (.ref a0r)] [(.ref a0r)])) _
    exact k
  obtain ⟨T1, X1, e1, st1⟩ := getF X0 hx hZ hown (host := "") (Or.inl (hw _ (List.mem_of_getElem? (i := 14) rfl))) Via.refl e0 P0 (g := (mkF m 1 #[.val (.ref a0r)] [(.ref a0r)])) rfl rfl (hb hby own_d3_1)
  refine own_go (T' := T1) (f' := (mkF m 4 #[.val (.ref a0r)] [(.int u0)])) st1 ?_
  obtain ⟨fs, hr, hrun, hended, hW, hsame⟩ := X1.leave (v := some (.int u0)) (fun h => by rw [Bd.returns] at h; cases h)
  refine ⟨_, _, ?_, hrun, hended, _, _, rfl, ?_, ⟨_, rfl⟩, hW, hsame.mono (by decide) (by decide)⟩
  · exact retI X1 hx Bd.returns (hb hby own_d3_4) hr
  · show own_Q3 Z a0r u0 h0 n0 _ T1.heap _
    rw [e1]
    exact ⟨rfl, N0, rfl⟩
theorem own_d4_0 : decode prog_96_method_10_code 0 = .ok (.aload_n 0, 1) := by decide +kernel
theorem own_d4_1 : decode prog_96_method_10_code 1 = .ok (.getfield 13, 3) := by decide +kernel
theorem own_d4_4 : decode prog_96_method_10_code 4 = .ok (.ireturn, 1) := by decide +kernel
theorem own_ef4 (m : MethodId) (a0r : Addr) : entryFrame m #[(.ref a0r)] 1 = mkF m 0 #[.val (.ref a0r)] [] := by first | (simp [entryFrame, mkF, argsToLocals, Value.category]; done) | rfl
def own_Q4 (Z : State) (a0r : Addr) (u0 : Int32) (h0 : Heap) (n0 : Nat) (v : Option Value) (h : Heap) (L : List Loc) : Prop := (v = some (.int u0)) ∧ (Fr n0 L) ∧ (h = h0)
set_option maxRecDepth 65536 in
set_option maxHeartbeats 40000000 in
theorem own_rm4 (l : Launch) (Z : State) (a0 : Array Value) (hw : ∀ d ∈ tables_1, d.before a0 Z = true) (ws : List Jvm.Cond) (a0r : Addr) (u0 : Int32) (h0 : Heap) (n0 : Nat) (Z0 : n0 ≤ h0.size) (P0 : Fld Z h0 a0r "com/example/comment_binder/commentbinder/scoring/Score" "changed" "I" (.int u0)) :
    MetFree l (⟨"com/example/comment_binder/commentbinder/scoring/Score", "changed", "()I"⟩ : MethodName) (head1 (Jvm.Cond.code (⟨"com/example/comment_binder/commentbinder/scoring/Score", "changed", "()I"⟩ : MethodName) prog_96_method_10_code 1 (some .int) :: ws) ({ frames := 0, cells := 0, slots := 0, locals := 0 } : Room)) (fun a U => a = #[(.ref a0r)] ∧ Z.Warmed39 U.vm ∧ U.heap = h0) (fun _ _ _ _ _ => True) (fun _ U o U' => ∃ v L, o = .returned v ∧ own_Q4 Z a0r u0 h0 n0 v U'.heap L ∧ FrameEnd U o U' L ({ frames := 0, cells := 0, slots := 0, locals := 0 } : Room).cells ({ frames := 0, cells := 0, slots := 0, locals := 0 } : Room).slots) := by
  refine MetFree.of_bodySF (plainFor_of_name own_pn1) hisR ?_
  intro p e s m args below meth c s₁ Bd hml0 hP hK
  obtain ⟨rfl, hZ, hh⟩ := hP
  have hx := Bd.exec
  have hby := Bd.bytes
  have hml : c.maxLocals = 1 := hml0
  have hown : s.vm.findClass "com/example/comment_binder/commentbinder/scoring/Score" = some m.cls := findClass_of_methodNamed Bd.named
  have hnm := (name_of_methodNamed Bd.named Bd.method).1
  have X0 : Stand p l e ({ frames := 0, cells := 0, slots := 0, locals := 0 } : Room) s m #[(.ref a0r)] below meth c s₁ [] 0 0 := Stand.of_body Bd
  have e0 : s₁.heap = h0 := by rw [← hh, Bd.state]; rfl
  have N0 := Fr.nil n0
  refine own_go (fun t k => castTop (own_ef4 m a0r) k) ?_
  refine own_go (T' := s₁) (f' := (mkF m 1 #[.val (.ref a0r)] [(.ref a0r)])) (fun t k => ?_) ?_
  · show Steps p.tables e below (s₁.setTop (mkF m 0 #[.val (.ref a0r)] [])) _
    refine XS.aloadN X0.here hx rfl (hb hby own_d4_0) rfl rfl ?_
    show Steps p.tables e below (s₁.setTop (mkF m 1 #[.val (.ref a0r)] [(.ref a0r)])) _
    exact k
  obtain ⟨T1, X1, e1, st1⟩ := getF X0 hx hZ hown (host := "") (Or.inl (hw _ (List.mem_of_getElem? (i := 16) rfl))) Via.refl e0 P0 (g := (mkF m 1 #[.val (.ref a0r)] [(.ref a0r)])) rfl rfl (hb hby own_d4_1)
  refine own_go (T' := T1) (f' := (mkF m 4 #[.val (.ref a0r)] [(.int u0)])) st1 ?_
  obtain ⟨fs, hr, hrun, hended, hW, hsame⟩ := X1.leave (v := some (.int u0)) (fun h => by rw [Bd.returns] at h; cases h)
  refine ⟨_, _, ?_, hrun, hended, _, _, rfl, ?_, ⟨_, rfl⟩, hW, hsame.mono (by decide) (by decide)⟩
  · exact retI X1 hx Bd.returns (hb hby own_d4_4) hr
  · show own_Q4 Z a0r u0 h0 n0 _ T1.heap _
    rw [e1]
    exact ⟨rfl, N0, rfl⟩
theorem own_d5_0 : decode prog_96_method_11_code 0 = .ok (.aload_n 0, 1) := by decide +kernel
theorem own_d5_1 : decode prog_96_method_11_code 1 = .ok (.getfield 16, 3) := by decide +kernel
theorem own_d5_4 : decode prog_96_method_11_code 4 = .ok (.ireturn, 1) := by decide +kernel
theorem own_ef5 (m : MethodId) (a0r : Addr) : entryFrame m #[(.ref a0r)] 1 = mkF m 0 #[.val (.ref a0r)] [] := by first | (simp [entryFrame, mkF, argsToLocals, Value.category]; done) | rfl
def own_Q5 (Z : State) (a0r : Addr) (u0 : Int32) (h0 : Heap) (n0 : Nat) (v : Option Value) (h : Heap) (L : List Loc) : Prop := (v = some (.int u0)) ∧ (Fr n0 L) ∧ (h = h0)
set_option maxRecDepth 65536 in
set_option maxHeartbeats 40000000 in
theorem own_rm5 (l : Launch) (Z : State) (a0 : Array Value) (hw : ∀ d ∈ tables_1, d.before a0 Z = true) (ws : List Jvm.Cond) (a0r : Addr) (u0 : Int32) (h0 : Heap) (n0 : Nat) (Z0 : n0 ≤ h0.size) (P0 : Fld Z h0 a0r "com/example/comment_binder/commentbinder/scoring/Score" "lost" "I" (.int u0)) :
    MetFree l (⟨"com/example/comment_binder/commentbinder/scoring/Score", "lost", "()I"⟩ : MethodName) (head1 (Jvm.Cond.code (⟨"com/example/comment_binder/commentbinder/scoring/Score", "lost", "()I"⟩ : MethodName) prog_96_method_11_code 1 (some .int) :: ws) ({ frames := 0, cells := 0, slots := 0, locals := 0 } : Room)) (fun a U => a = #[(.ref a0r)] ∧ Z.Warmed39 U.vm ∧ U.heap = h0) (fun _ _ _ _ _ => True) (fun _ U o U' => ∃ v L, o = .returned v ∧ own_Q5 Z a0r u0 h0 n0 v U'.heap L ∧ FrameEnd U o U' L ({ frames := 0, cells := 0, slots := 0, locals := 0 } : Room).cells ({ frames := 0, cells := 0, slots := 0, locals := 0 } : Room).slots) := by
  refine MetFree.of_bodySF (plainFor_of_name own_pn1) hisR ?_
  intro p e s m args below meth c s₁ Bd hml0 hP hK
  obtain ⟨rfl, hZ, hh⟩ := hP
  have hx := Bd.exec
  have hby := Bd.bytes
  have hml : c.maxLocals = 1 := hml0
  have hown : s.vm.findClass "com/example/comment_binder/commentbinder/scoring/Score" = some m.cls := findClass_of_methodNamed Bd.named
  have hnm := (name_of_methodNamed Bd.named Bd.method).1
  have X0 : Stand p l e ({ frames := 0, cells := 0, slots := 0, locals := 0 } : Room) s m #[(.ref a0r)] below meth c s₁ [] 0 0 := Stand.of_body Bd
  have e0 : s₁.heap = h0 := by rw [← hh, Bd.state]; rfl
  have N0 := Fr.nil n0
  refine own_go (fun t k => castTop (own_ef5 m a0r) k) ?_
  refine own_go (T' := s₁) (f' := (mkF m 1 #[.val (.ref a0r)] [(.ref a0r)])) (fun t k => ?_) ?_
  · show Steps p.tables e below (s₁.setTop (mkF m 0 #[.val (.ref a0r)] [])) _
    refine XS.aloadN X0.here hx rfl (hb hby own_d5_0) rfl rfl ?_
    show Steps p.tables e below (s₁.setTop (mkF m 1 #[.val (.ref a0r)] [(.ref a0r)])) _
    exact k
  obtain ⟨T1, X1, e1, st1⟩ := getF X0 hx hZ hown (host := "") (Or.inl (hw _ (List.mem_of_getElem? (i := 18) rfl))) Via.refl e0 P0 (g := (mkF m 1 #[.val (.ref a0r)] [(.ref a0r)])) rfl rfl (hb hby own_d5_1)
  refine own_go (T' := T1) (f' := (mkF m 4 #[.val (.ref a0r)] [(.int u0)])) st1 ?_
  obtain ⟨fs, hr, hrun, hended, hW, hsame⟩ := X1.leave (v := some (.int u0)) (fun h => by rw [Bd.returns] at h; cases h)
  refine ⟨_, _, ?_, hrun, hended, _, _, rfl, ?_, ⟨_, rfl⟩, hW, hsame.mono (by decide) (by decide)⟩
  · exact retI X1 hx Bd.returns (hb hby own_d5_4) hr
  · show own_Q5 Z a0r u0 h0 n0 _ T1.heap _
    rw [e1]
    exact ⟨rfl, N0, rfl⟩
theorem own_d6_0 : decode prog_96_method_12_code 0 = .ok (.aload_n 0, 1) := by decide +kernel
theorem own_d6_1 : decode prog_96_method_12_code 1 = .ok (.getfield 19, 3) := by decide +kernel
theorem own_d6_4 : decode prog_96_method_12_code 4 = .ok (.ireturn, 1) := by decide +kernel
theorem own_ef6 (m : MethodId) (a0r : Addr) : entryFrame m #[(.ref a0r)] 1 = mkF m 0 #[.val (.ref a0r)] [] := by first | (simp [entryFrame, mkF, argsToLocals, Value.category]; done) | rfl
def own_Q6 (Z : State) (a0r : Addr) (u0 : Int32) (h0 : Heap) (n0 : Nat) (v : Option Value) (h : Heap) (L : List Loc) : Prop := (v = some (.int u0)) ∧ (Fr n0 L) ∧ (h = h0)
set_option maxRecDepth 65536 in
set_option maxHeartbeats 40000000 in
theorem own_rm6 (l : Launch) (Z : State) (a0 : Array Value) (hw : ∀ d ∈ tables_1, d.before a0 Z = true) (ws : List Jvm.Cond) (a0r : Addr) (u0 : Int32) (h0 : Heap) (n0 : Nat) (Z0 : n0 ≤ h0.size) (P0 : Fld Z h0 a0r "com/example/comment_binder/commentbinder/scoring/Score" "spurious" "I" (.int u0)) :
    MetFree l (⟨"com/example/comment_binder/commentbinder/scoring/Score", "spurious", "()I"⟩ : MethodName) (head1 (Jvm.Cond.code (⟨"com/example/comment_binder/commentbinder/scoring/Score", "spurious", "()I"⟩ : MethodName) prog_96_method_12_code 1 (some .int) :: ws) ({ frames := 0, cells := 0, slots := 0, locals := 0 } : Room)) (fun a U => a = #[(.ref a0r)] ∧ Z.Warmed39 U.vm ∧ U.heap = h0) (fun _ _ _ _ _ => True) (fun _ U o U' => ∃ v L, o = .returned v ∧ own_Q6 Z a0r u0 h0 n0 v U'.heap L ∧ FrameEnd U o U' L ({ frames := 0, cells := 0, slots := 0, locals := 0 } : Room).cells ({ frames := 0, cells := 0, slots := 0, locals := 0 } : Room).slots) := by
  refine MetFree.of_bodySF (plainFor_of_name own_pn1) hisR ?_
  intro p e s m args below meth c s₁ Bd hml0 hP hK
  obtain ⟨rfl, hZ, hh⟩ := hP
  have hx := Bd.exec
  have hby := Bd.bytes
  have hml : c.maxLocals = 1 := hml0
  have hown : s.vm.findClass "com/example/comment_binder/commentbinder/scoring/Score" = some m.cls := findClass_of_methodNamed Bd.named
  have hnm := (name_of_methodNamed Bd.named Bd.method).1
  have X0 : Stand p l e ({ frames := 0, cells := 0, slots := 0, locals := 0 } : Room) s m #[(.ref a0r)] below meth c s₁ [] 0 0 := Stand.of_body Bd
  have e0 : s₁.heap = h0 := by rw [← hh, Bd.state]; rfl
  have N0 := Fr.nil n0
  refine own_go (fun t k => castTop (own_ef6 m a0r) k) ?_
  refine own_go (T' := s₁) (f' := (mkF m 1 #[.val (.ref a0r)] [(.ref a0r)])) (fun t k => ?_) ?_
  · show Steps p.tables e below (s₁.setTop (mkF m 0 #[.val (.ref a0r)] [])) _
    refine XS.aloadN X0.here hx rfl (hb hby own_d6_0) rfl rfl ?_
    show Steps p.tables e below (s₁.setTop (mkF m 1 #[.val (.ref a0r)] [(.ref a0r)])) _
    exact k
  obtain ⟨T1, X1, e1, st1⟩ := getF X0 hx hZ hown (host := "") (Or.inl (hw _ (List.mem_of_getElem? (i := 20) rfl))) Via.refl e0 P0 (g := (mkF m 1 #[.val (.ref a0r)] [(.ref a0r)])) rfl rfl (hb hby own_d6_1)
  refine own_go (T' := T1) (f' := (mkF m 4 #[.val (.ref a0r)] [(.int u0)])) st1 ?_
  obtain ⟨fs, hr, hrun, hended, hW, hsame⟩ := X1.leave (v := some (.int u0)) (fun h => by rw [Bd.returns] at h; cases h)
  refine ⟨_, _, ?_, hrun, hended, _, _, rfl, ?_, ⟨_, rfl⟩, hW, hsame.mono (by decide) (by decide)⟩
  · exact retI X1 hx Bd.returns (hb hby own_d6_4) hr
  · show own_Q6 Z a0r u0 h0 n0 _ T1.heap _
    rw [e1]
    exact ⟨rfl, N0, rfl⟩
theorem own_pd2 : parseMethodDescriptor "(Lcom/example/comment_binder/commentbinder/scoring/Score;)Lcom/example/comment_binder/commentbinder/scoring/Score;" = some ⟨[(.object "com/example/comment_binder/commentbinder/scoring/Score")], some (.object "com/example/comment_binder/commentbinder/scoring/Score")⟩ := by decide +kernel
theorem own_pd3 : parseMethodDescriptor "()I" = some ⟨[], some .int⟩ := by decide +kernel
theorem own_pn2 : plainName "com/example/comment_binder/commentbinder/scoring/ScorePlusPinLaw" = true := by first | (simp [plainName, overriddenIn]; done) | decide +kernel
theorem own_ef0 (m : MethodId) (q0 : Int64) (q1 : Int64) (q2 : Int64) (q3 : Int64) : entryFrame m #[(.long q0), (.long q1), (.long q2), (.long q3)] maxLocals = mkF m 0 #[.val (.long q0), .second, .val (.long q1), .second, .val (.long q2), .second, .val (.long q3), .second, .unset, .unset, .unset, .unset, .unset, .unset, .unset, .unset, .unset, .unset, .unset] [] := by first | (simp [entryFrame, mkF, argsToLocals, Value.category, maxLocals]; done) | rfl
def own_F0 (q0 : Int64) (q1 : Int64) (q2 : Int64) (q3 : Int64) : Int32 := (1 : Int32)
theorem own_law (q0 q1 q2 q3 : Int64) : own_F0 q0 q1 q2 q3 = 1 := rfl
def own_Q0 (Z : State) (q0 : Int64) (q1 : Int64) (q2 : Int64) (q3 : Int64) (h0 : Heap) (n0 : Nat) (v : Option Value) (h : Heap) (L : List Loc) : Prop := (v = some (.int (1 : Int32))) ∧ (Fr n0 L)
set_option maxRecDepth 65536 in
set_option maxHeartbeats 40000000 in
theorem own_rm0 (l : Launch) (Z : State) (a0 : Array Value) (hw : ∀ d ∈ tables_1, d.before a0 Z = true) (ws : List Jvm.Cond) (q0 : Int64) (q1 : Int64) (q2 : Int64) (q3 : Int64) (h0 : Heap) (n0 : Nat) (Z0 : n0 ≤ h0.size) :
    MetFree l x (head1 (Jvm.Cond.code x code maxLocals ret :: ws) room_1) (fun a U => a = #[(.long q0), (.long q1), (.long q2), (.long q3)] ∧ Z.Warmed39 U.vm ∧ U.heap = h0) (fun _ _ _ _ _ => True) (fun _ U o U' => ∃ v L, o = .returned v ∧ own_Q0 Z q0 q1 q2 q3 h0 n0 v U'.heap L ∧ FrameEnd U o U' L 16 128) := by
  refine MetFree.of_bodySF (plainFor_of_name own_pn2) hisR ?_
  intro p e s m args below meth c s₁ Bd hml0 hP hK
  obtain ⟨rfl, hZ, hh⟩ := hP
  have hx := Bd.exec
  have hby := Bd.bytes
  have hml : c.maxLocals = 19 := hml0
  have hown : s.vm.findClass "com/example/comment_binder/commentbinder/scoring/ScorePlusPinLaw" = some m.cls := findClass_of_methodNamed Bd.named
  have hnm := (name_of_methodNamed Bd.named Bd.method).1
  have X0 : Stand p l e room_1 s m #[(.long q0), (.long q1), (.long q2), (.long q3)] below meth c s₁ [] 0 0 := Stand.of_body Bd
  have e0 : s₁.heap = h0 := by rw [← hh, Bd.state]; rfl
  have N0 := Fr.nil n0
  refine own_go (fun t k => castTop (own_ef0 m q0 q1 q2 q3) k) ?_
  refine own_go (T' := s₁) (f' := (mkF m 48 #[.val (.long q0), .second, .val (.long q1), .second, .val (.long q2), .second, .val (.long q3), .second, .val (.int (q0.toInt32)), .val (.int ((own_shrL q0 (32 : Int32)).toInt32)), .val (.int (q1.toInt32)), .val (.int ((own_shrL q1 (32 : Int32)).toInt32)), .val (.int (q2.toInt32)), .val (.int ((own_shrL q2 (32 : Int32)).toInt32)), .val (.int (q3.toInt32)), .val (.int ((own_shrL q3 (32 : Int32)).toInt32)), .unset, .unset, .unset] [])) (fun t k => ?_) ?_
  · show Steps p.tables e below (s₁.setTop (mkF m 0 #[.val (.long q0), .second, .val (.long q1), .second, .val (.long q2), .second, .val (.long q3), .second, .unset, .unset, .unset, .unset, .unset, .unset, .unset, .unset, .unset, .unset, .unset] [])) _
    refine XS.lloadN X0.here hx rfl (hb hby at_0) rfl ?_
    show Steps p.tables e below (s₁.setTop (mkF m 1 #[.val (.long q0), .second, .val (.long q1), .second, .val (.long q2), .second, .val (.long q3), .second, .unset, .unset, .unset, .unset, .unset, .unset, .unset, .unset, .unset, .unset, .unset] [(.long q0)])) _
    refine XS.l2i X0.here hx rfl (hb hby at_1) rfl ?_
    show Steps p.tables e below (s₁.setTop (mkF m 2 #[.val (.long q0), .second, .val (.long q1), .second, .val (.long q2), .second, .val (.long q3), .second, .unset, .unset, .unset, .unset, .unset, .unset, .unset, .unset, .unset, .unset, .unset] [(.int (q0.toInt32))])) _
    refine XS.istore X0.here hx rfl (hb hby at_2) rfl (l' := #[.val (.long q0), .second, .val (.long q1), .second, .val (.long q2), .second, .val (.long q3), .second, .val (.int (q0.toInt32)), .unset, .unset, .unset, .unset, .unset, .unset, .unset, .unset, .unset, .unset]) rfl ?_
    show Steps p.tables e below (s₁.setTop (mkF m 4 #[.val (.long q0), .second, .val (.long q1), .second, .val (.long q2), .second, .val (.long q3), .second, .val (.int (q0.toInt32)), .unset, .unset, .unset, .unset, .unset, .unset, .unset, .unset, .unset, .unset] [])) _
    refine XS.lloadN X0.here hx rfl (hb hby at_4) rfl ?_
    show Steps p.tables e below (s₁.setTop (mkF m 5 #[.val (.long q0), .second, .val (.long q1), .second, .val (.long q2), .second, .val (.long q3), .second, .val (.int (q0.toInt32)), .unset, .unset, .unset, .unset, .unset, .unset, .unset, .unset, .unset, .unset] [(.long q0)])) _
    refine XS.bipush X0.here hx rfl (hb hby at_5) ?_
    show Steps p.tables e below (s₁.setTop (mkF m 7 #[.val (.long q0), .second, .val (.long q1), .second, .val (.long q2), .second, .val (.long q3), .second, .val (.int (q0.toInt32)), .unset, .unset, .unset, .unset, .unset, .unset, .unset, .unset, .unset, .unset] [(.int (32 : Int32)), (.long q0)])) _
    refine XS.lushr X0.here hx rfl (hb hby at_7) rfl ?_
    show Steps p.tables e below (s₁.setTop (mkF m 8 #[.val (.long q0), .second, .val (.long q1), .second, .val (.long q2), .second, .val (.long q3), .second, .val (.int (q0.toInt32)), .unset, .unset, .unset, .unset, .unset, .unset, .unset, .unset, .unset, .unset] [(.long (own_shrL q0 (32 : Int32)))])) _
    refine XS.l2i X0.here hx rfl (hb hby at_8) rfl ?_
    show Steps p.tables e below (s₁.setTop (mkF m 9 #[.val (.long q0), .second, .val (.long q1), .second, .val (.long q2), .second, .val (.long q3), .second, .val (.int (q0.toInt32)), .unset, .unset, .unset, .unset, .unset, .unset, .unset, .unset, .unset, .unset] [(.int ((own_shrL q0 (32 : Int32)).toInt32))])) _
    refine XS.istore X0.here hx rfl (hb hby at_9) rfl (l' := #[.val (.long q0), .second, .val (.long q1), .second, .val (.long q2), .second, .val (.long q3), .second, .val (.int (q0.toInt32)), .val (.int ((own_shrL q0 (32 : Int32)).toInt32)), .unset, .unset, .unset, .unset, .unset, .unset, .unset, .unset, .unset]) rfl ?_
    show Steps p.tables e below (s₁.setTop (mkF m 11 #[.val (.long q0), .second, .val (.long q1), .second, .val (.long q2), .second, .val (.long q3), .second, .val (.int (q0.toInt32)), .val (.int ((own_shrL q0 (32 : Int32)).toInt32)), .unset, .unset, .unset, .unset, .unset, .unset, .unset, .unset, .unset] [])) _
    refine XS.lloadN X0.here hx rfl (hb hby at_11) rfl ?_
    show Steps p.tables e below (s₁.setTop (mkF m 12 #[.val (.long q0), .second, .val (.long q1), .second, .val (.long q2), .second, .val (.long q3), .second, .val (.int (q0.toInt32)), .val (.int ((own_shrL q0 (32 : Int32)).toInt32)), .unset, .unset, .unset, .unset, .unset, .unset, .unset, .unset, .unset] [(.long q1)])) _
    refine XS.l2i X0.here hx rfl (hb hby at_12) rfl ?_
    show Steps p.tables e below (s₁.setTop (mkF m 13 #[.val (.long q0), .second, .val (.long q1), .second, .val (.long q2), .second, .val (.long q3), .second, .val (.int (q0.toInt32)), .val (.int ((own_shrL q0 (32 : Int32)).toInt32)), .unset, .unset, .unset, .unset, .unset, .unset, .unset, .unset, .unset] [(.int (q1.toInt32))])) _
    refine XS.istore X0.here hx rfl (hb hby at_13) rfl (l' := #[.val (.long q0), .second, .val (.long q1), .second, .val (.long q2), .second, .val (.long q3), .second, .val (.int (q0.toInt32)), .val (.int ((own_shrL q0 (32 : Int32)).toInt32)), .val (.int (q1.toInt32)), .unset, .unset, .unset, .unset, .unset, .unset, .unset, .unset]) rfl ?_
    show Steps p.tables e below (s₁.setTop (mkF m 15 #[.val (.long q0), .second, .val (.long q1), .second, .val (.long q2), .second, .val (.long q3), .second, .val (.int (q0.toInt32)), .val (.int ((own_shrL q0 (32 : Int32)).toInt32)), .val (.int (q1.toInt32)), .unset, .unset, .unset, .unset, .unset, .unset, .unset, .unset] [])) _
    refine XS.lloadN X0.here hx rfl (hb hby at_15) rfl ?_
    show Steps p.tables e below (s₁.setTop (mkF m 16 #[.val (.long q0), .second, .val (.long q1), .second, .val (.long q2), .second, .val (.long q3), .second, .val (.int (q0.toInt32)), .val (.int ((own_shrL q0 (32 : Int32)).toInt32)), .val (.int (q1.toInt32)), .unset, .unset, .unset, .unset, .unset, .unset, .unset, .unset] [(.long q1)])) _
    refine XS.bipush X0.here hx rfl (hb hby at_16) ?_
    show Steps p.tables e below (s₁.setTop (mkF m 18 #[.val (.long q0), .second, .val (.long q1), .second, .val (.long q2), .second, .val (.long q3), .second, .val (.int (q0.toInt32)), .val (.int ((own_shrL q0 (32 : Int32)).toInt32)), .val (.int (q1.toInt32)), .unset, .unset, .unset, .unset, .unset, .unset, .unset, .unset] [(.int (32 : Int32)), (.long q1)])) _
    refine XS.lushr X0.here hx rfl (hb hby at_18) rfl ?_
    show Steps p.tables e below (s₁.setTop (mkF m 19 #[.val (.long q0), .second, .val (.long q1), .second, .val (.long q2), .second, .val (.long q3), .second, .val (.int (q0.toInt32)), .val (.int ((own_shrL q0 (32 : Int32)).toInt32)), .val (.int (q1.toInt32)), .unset, .unset, .unset, .unset, .unset, .unset, .unset, .unset] [(.long (own_shrL q1 (32 : Int32)))])) _
    refine XS.l2i X0.here hx rfl (hb hby at_19) rfl ?_
    show Steps p.tables e below (s₁.setTop (mkF m 20 #[.val (.long q0), .second, .val (.long q1), .second, .val (.long q2), .second, .val (.long q3), .second, .val (.int (q0.toInt32)), .val (.int ((own_shrL q0 (32 : Int32)).toInt32)), .val (.int (q1.toInt32)), .unset, .unset, .unset, .unset, .unset, .unset, .unset, .unset] [(.int ((own_shrL q1 (32 : Int32)).toInt32))])) _
    refine XS.istore X0.here hx rfl (hb hby at_20) rfl (l' := #[.val (.long q0), .second, .val (.long q1), .second, .val (.long q2), .second, .val (.long q3), .second, .val (.int (q0.toInt32)), .val (.int ((own_shrL q0 (32 : Int32)).toInt32)), .val (.int (q1.toInt32)), .val (.int ((own_shrL q1 (32 : Int32)).toInt32)), .unset, .unset, .unset, .unset, .unset, .unset, .unset]) rfl ?_
    show Steps p.tables e below (s₁.setTop (mkF m 22 #[.val (.long q0), .second, .val (.long q1), .second, .val (.long q2), .second, .val (.long q3), .second, .val (.int (q0.toInt32)), .val (.int ((own_shrL q0 (32 : Int32)).toInt32)), .val (.int (q1.toInt32)), .val (.int ((own_shrL q1 (32 : Int32)).toInt32)), .unset, .unset, .unset, .unset, .unset, .unset, .unset] [])) _
    refine XS.lload X0.here hx rfl (hb hby at_22) rfl ?_
    show Steps p.tables e below (s₁.setTop (mkF m 24 #[.val (.long q0), .second, .val (.long q1), .second, .val (.long q2), .second, .val (.long q3), .second, .val (.int (q0.toInt32)), .val (.int ((own_shrL q0 (32 : Int32)).toInt32)), .val (.int (q1.toInt32)), .val (.int ((own_shrL q1 (32 : Int32)).toInt32)), .unset, .unset, .unset, .unset, .unset, .unset, .unset] [(.long q2)])) _
    refine XS.l2i X0.here hx rfl (hb hby at_24) rfl ?_
    show Steps p.tables e below (s₁.setTop (mkF m 25 #[.val (.long q0), .second, .val (.long q1), .second, .val (.long q2), .second, .val (.long q3), .second, .val (.int (q0.toInt32)), .val (.int ((own_shrL q0 (32 : Int32)).toInt32)), .val (.int (q1.toInt32)), .val (.int ((own_shrL q1 (32 : Int32)).toInt32)), .unset, .unset, .unset, .unset, .unset, .unset, .unset] [(.int (q2.toInt32))])) _
    refine XS.istore X0.here hx rfl (hb hby at_25) rfl (l' := #[.val (.long q0), .second, .val (.long q1), .second, .val (.long q2), .second, .val (.long q3), .second, .val (.int (q0.toInt32)), .val (.int ((own_shrL q0 (32 : Int32)).toInt32)), .val (.int (q1.toInt32)), .val (.int ((own_shrL q1 (32 : Int32)).toInt32)), .val (.int (q2.toInt32)), .unset, .unset, .unset, .unset, .unset, .unset]) rfl ?_
    show Steps p.tables e below (s₁.setTop (mkF m 27 #[.val (.long q0), .second, .val (.long q1), .second, .val (.long q2), .second, .val (.long q3), .second, .val (.int (q0.toInt32)), .val (.int ((own_shrL q0 (32 : Int32)).toInt32)), .val (.int (q1.toInt32)), .val (.int ((own_shrL q1 (32 : Int32)).toInt32)), .val (.int (q2.toInt32)), .unset, .unset, .unset, .unset, .unset, .unset] [])) _
    refine XS.lload X0.here hx rfl (hb hby at_27) rfl ?_
    show Steps p.tables e below (s₁.setTop (mkF m 29 #[.val (.long q0), .second, .val (.long q1), .second, .val (.long q2), .second, .val (.long q3), .second, .val (.int (q0.toInt32)), .val (.int ((own_shrL q0 (32 : Int32)).toInt32)), .val (.int (q1.toInt32)), .val (.int ((own_shrL q1 (32 : Int32)).toInt32)), .val (.int (q2.toInt32)), .unset, .unset, .unset, .unset, .unset, .unset] [(.long q2)])) _
    refine XS.bipush X0.here hx rfl (hb hby at_29) ?_
    show Steps p.tables e below (s₁.setTop (mkF m 31 #[.val (.long q0), .second, .val (.long q1), .second, .val (.long q2), .second, .val (.long q3), .second, .val (.int (q0.toInt32)), .val (.int ((own_shrL q0 (32 : Int32)).toInt32)), .val (.int (q1.toInt32)), .val (.int ((own_shrL q1 (32 : Int32)).toInt32)), .val (.int (q2.toInt32)), .unset, .unset, .unset, .unset, .unset, .unset] [(.int (32 : Int32)), (.long q2)])) _
    refine XS.lushr X0.here hx rfl (hb hby at_31) rfl ?_
    show Steps p.tables e below (s₁.setTop (mkF m 32 #[.val (.long q0), .second, .val (.long q1), .second, .val (.long q2), .second, .val (.long q3), .second, .val (.int (q0.toInt32)), .val (.int ((own_shrL q0 (32 : Int32)).toInt32)), .val (.int (q1.toInt32)), .val (.int ((own_shrL q1 (32 : Int32)).toInt32)), .val (.int (q2.toInt32)), .unset, .unset, .unset, .unset, .unset, .unset] [(.long (own_shrL q2 (32 : Int32)))])) _
    refine XS.l2i X0.here hx rfl (hb hby at_32) rfl ?_
    show Steps p.tables e below (s₁.setTop (mkF m 33 #[.val (.long q0), .second, .val (.long q1), .second, .val (.long q2), .second, .val (.long q3), .second, .val (.int (q0.toInt32)), .val (.int ((own_shrL q0 (32 : Int32)).toInt32)), .val (.int (q1.toInt32)), .val (.int ((own_shrL q1 (32 : Int32)).toInt32)), .val (.int (q2.toInt32)), .unset, .unset, .unset, .unset, .unset, .unset] [(.int ((own_shrL q2 (32 : Int32)).toInt32))])) _
    refine XS.istore X0.here hx rfl (hb hby at_33) rfl (l' := #[.val (.long q0), .second, .val (.long q1), .second, .val (.long q2), .second, .val (.long q3), .second, .val (.int (q0.toInt32)), .val (.int ((own_shrL q0 (32 : Int32)).toInt32)), .val (.int (q1.toInt32)), .val (.int ((own_shrL q1 (32 : Int32)).toInt32)), .val (.int (q2.toInt32)), .val (.int ((own_shrL q2 (32 : Int32)).toInt32)), .unset, .unset, .unset, .unset, .unset]) rfl ?_
    show Steps p.tables e below (s₁.setTop (mkF m 35 #[.val (.long q0), .second, .val (.long q1), .second, .val (.long q2), .second, .val (.long q3), .second, .val (.int (q0.toInt32)), .val (.int ((own_shrL q0 (32 : Int32)).toInt32)), .val (.int (q1.toInt32)), .val (.int ((own_shrL q1 (32 : Int32)).toInt32)), .val (.int (q2.toInt32)), .val (.int ((own_shrL q2 (32 : Int32)).toInt32)), .unset, .unset, .unset, .unset, .unset] [])) _
    refine XS.lload X0.here hx rfl (hb hby at_35) rfl ?_
    show Steps p.tables e below (s₁.setTop (mkF m 37 #[.val (.long q0), .second, .val (.long q1), .second, .val (.long q2), .second, .val (.long q3), .second, .val (.int (q0.toInt32)), .val (.int ((own_shrL q0 (32 : Int32)).toInt32)), .val (.int (q1.toInt32)), .val (.int ((own_shrL q1 (32 : Int32)).toInt32)), .val (.int (q2.toInt32)), .val (.int ((own_shrL q2 (32 : Int32)).toInt32)), .unset, .unset, .unset, .unset, .unset] [(.long q3)])) _
    refine XS.l2i X0.here hx rfl (hb hby at_37) rfl ?_
    show Steps p.tables e below (s₁.setTop (mkF m 38 #[.val (.long q0), .second, .val (.long q1), .second, .val (.long q2), .second, .val (.long q3), .second, .val (.int (q0.toInt32)), .val (.int ((own_shrL q0 (32 : Int32)).toInt32)), .val (.int (q1.toInt32)), .val (.int ((own_shrL q1 (32 : Int32)).toInt32)), .val (.int (q2.toInt32)), .val (.int ((own_shrL q2 (32 : Int32)).toInt32)), .unset, .unset, .unset, .unset, .unset] [(.int (q3.toInt32))])) _
    refine XS.istore X0.here hx rfl (hb hby at_38) rfl (l' := #[.val (.long q0), .second, .val (.long q1), .second, .val (.long q2), .second, .val (.long q3), .second, .val (.int (q0.toInt32)), .val (.int ((own_shrL q0 (32 : Int32)).toInt32)), .val (.int (q1.toInt32)), .val (.int ((own_shrL q1 (32 : Int32)).toInt32)), .val (.int (q2.toInt32)), .val (.int ((own_shrL q2 (32 : Int32)).toInt32)), .val (.int (q3.toInt32)), .unset, .unset, .unset, .unset]) rfl ?_
    show Steps p.tables e below (s₁.setTop (mkF m 40 #[.val (.long q0), .second, .val (.long q1), .second, .val (.long q2), .second, .val (.long q3), .second, .val (.int (q0.toInt32)), .val (.int ((own_shrL q0 (32 : Int32)).toInt32)), .val (.int (q1.toInt32)), .val (.int ((own_shrL q1 (32 : Int32)).toInt32)), .val (.int (q2.toInt32)), .val (.int ((own_shrL q2 (32 : Int32)).toInt32)), .val (.int (q3.toInt32)), .unset, .unset, .unset, .unset] [])) _
    refine XS.lload X0.here hx rfl (hb hby at_40) rfl ?_
    show Steps p.tables e below (s₁.setTop (mkF m 42 #[.val (.long q0), .second, .val (.long q1), .second, .val (.long q2), .second, .val (.long q3), .second, .val (.int (q0.toInt32)), .val (.int ((own_shrL q0 (32 : Int32)).toInt32)), .val (.int (q1.toInt32)), .val (.int ((own_shrL q1 (32 : Int32)).toInt32)), .val (.int (q2.toInt32)), .val (.int ((own_shrL q2 (32 : Int32)).toInt32)), .val (.int (q3.toInt32)), .unset, .unset, .unset, .unset] [(.long q3)])) _
    refine XS.bipush X0.here hx rfl (hb hby at_42) ?_
    show Steps p.tables e below (s₁.setTop (mkF m 44 #[.val (.long q0), .second, .val (.long q1), .second, .val (.long q2), .second, .val (.long q3), .second, .val (.int (q0.toInt32)), .val (.int ((own_shrL q0 (32 : Int32)).toInt32)), .val (.int (q1.toInt32)), .val (.int ((own_shrL q1 (32 : Int32)).toInt32)), .val (.int (q2.toInt32)), .val (.int ((own_shrL q2 (32 : Int32)).toInt32)), .val (.int (q3.toInt32)), .unset, .unset, .unset, .unset] [(.int (32 : Int32)), (.long q3)])) _
    refine XS.lushr X0.here hx rfl (hb hby at_44) rfl ?_
    show Steps p.tables e below (s₁.setTop (mkF m 45 #[.val (.long q0), .second, .val (.long q1), .second, .val (.long q2), .second, .val (.long q3), .second, .val (.int (q0.toInt32)), .val (.int ((own_shrL q0 (32 : Int32)).toInt32)), .val (.int (q1.toInt32)), .val (.int ((own_shrL q1 (32 : Int32)).toInt32)), .val (.int (q2.toInt32)), .val (.int ((own_shrL q2 (32 : Int32)).toInt32)), .val (.int (q3.toInt32)), .unset, .unset, .unset, .unset] [(.long (own_shrL q3 (32 : Int32)))])) _
    refine XS.l2i X0.here hx rfl (hb hby at_45) rfl ?_
    show Steps p.tables e below (s₁.setTop (mkF m 46 #[.val (.long q0), .second, .val (.long q1), .second, .val (.long q2), .second, .val (.long q3), .second, .val (.int (q0.toInt32)), .val (.int ((own_shrL q0 (32 : Int32)).toInt32)), .val (.int (q1.toInt32)), .val (.int ((own_shrL q1 (32 : Int32)).toInt32)), .val (.int (q2.toInt32)), .val (.int ((own_shrL q2 (32 : Int32)).toInt32)), .val (.int (q3.toInt32)), .unset, .unset, .unset, .unset] [(.int ((own_shrL q3 (32 : Int32)).toInt32))])) _
    refine XS.istore X0.here hx rfl (hb hby at_46) rfl (l' := #[.val (.long q0), .second, .val (.long q1), .second, .val (.long q2), .second, .val (.long q3), .second, .val (.int (q0.toInt32)), .val (.int ((own_shrL q0 (32 : Int32)).toInt32)), .val (.int (q1.toInt32)), .val (.int ((own_shrL q1 (32 : Int32)).toInt32)), .val (.int (q2.toInt32)), .val (.int ((own_shrL q2 (32 : Int32)).toInt32)), .val (.int (q3.toInt32)), .val (.int ((own_shrL q3 (32 : Int32)).toInt32)), .unset, .unset, .unset]) rfl ?_
    show Steps p.tables e below (s₁.setTop (mkF m 48 #[.val (.long q0), .second, .val (.long q1), .second, .val (.long q2), .second, .val (.long q3), .second, .val (.int (q0.toInt32)), .val (.int ((own_shrL q0 (32 : Int32)).toInt32)), .val (.int (q1.toInt32)), .val (.int ((own_shrL q1 (32 : Int32)).toInt32)), .val (.int (q2.toInt32)), .val (.int ((own_shrL q2 (32 : Int32)).toInt32)), .val (.int (q3.toInt32)), .val (.int ((own_shrL q3 (32 : Int32)).toInt32)), .unset, .unset, .unset] [])) _
    exact k
  obtain ⟨T1, h1, X1, e1, E1, A1, D1, -, st1⟩ := newO X0 hx hZ hown (hw _ (List.mem_of_getElem? (i := 0) rfl)) (hw _ (List.mem_of_getElem? (i := 1) rfl)) (hw _ (List.mem_of_getElem? (i := 2) rfl)) e0 (g := (mkF m 48 #[.val (.long q0), .second, .val (.long q1), .second, .val (.long q2), .second, .val (.long q3), .second, .val (.int (q0.toInt32)), .val (.int ((own_shrL q0 (32 : Int32)).toInt32)), .val (.int (q1.toInt32)), .val (.int ((own_shrL q1 (32 : Int32)).toInt32)), .val (.int (q2.toInt32)), .val (.int ((own_shrL q2 (32 : Int32)).toInt32)), .val (.int (q3.toInt32)), .val (.int ((own_shrL q3 (32 : Int32)).toInt32)), .unset, .unset, .unset] [])) rfl (hb hby at_48) (by decide) (by decide)
  obtain ⟨b1, g1⟩ : ∃ z, z = h0.size := ⟨_, rfl⟩
  rw [← g1] at A1 D1 st1
  have g_b1 : n0 ≤ b1 := Nat.le_trans Z0 (Nat.le_of_eq g1.symm)
  refine own_go (T' := T1) (f' := (mkF m 51 #[.val (.long q0), .second, .val (.long q1), .second, .val (.long q2), .second, .val (.long q3), .second, .val (.int (q0.toInt32)), .val (.int ((own_shrL q0 (32 : Int32)).toInt32)), .val (.int (q1.toInt32)), .val (.int ((own_shrL q1 (32 : Int32)).toInt32)), .val (.int (q2.toInt32)), .val (.int ((own_shrL q2 (32 : Int32)).toInt32)), .val (.int (q3.toInt32)), .val (.int ((own_shrL q3 (32 : Int32)).toInt32)), .unset, .unset, .unset] [(.ref b1)])) st1 ?_
  have Zs1 : n0 ≤ h1.size := Nat.le_trans Z0 E1.1
  have fc2 : Fld Z h1 b1 "com/example/comment_binder/commentbinder/scoring/Score" "correct" "I" (.int (0 : Int32)) := D1 (Or.inr (hw _ (List.mem_of_getElem? (i := 15) rfl))) (ty := .int) (by decide)
  have fc3 : Fld Z h1 b1 "com/example/comment_binder/commentbinder/scoring/Score" "changed" "I" (.int (0 : Int32)) := D1 (Or.inr (hw _ (List.mem_of_getElem? (i := 17) rfl))) (ty := .int) (by decide)
  have fc4 : Fld Z h1 b1 "com/example/comment_binder/commentbinder/scoring/Score" "lost" "I" (.int (0 : Int32)) := D1 (Or.inr (hw _ (List.mem_of_getElem? (i := 19) rfl))) (ty := .int) (by decide)
  have fc5 : Fld Z h1 b1 "com/example/comment_binder/commentbinder/scoring/Score" "spurious" "I" (.int (0 : Int32)) := D1 (Or.inr (hw _ (List.mem_of_getElem? (i := 21) rfl))) (ty := .int) (by decide)
  refine own_go (T' := T1) (f' := (mkF m 60 #[.val (.long q0), .second, .val (.long q1), .second, .val (.long q2), .second, .val (.long q3), .second, .val (.int (q0.toInt32)), .val (.int ((own_shrL q0 (32 : Int32)).toInt32)), .val (.int (q1.toInt32)), .val (.int ((own_shrL q1 (32 : Int32)).toInt32)), .val (.int (q2.toInt32)), .val (.int ((own_shrL q2 (32 : Int32)).toInt32)), .val (.int (q3.toInt32)), .val (.int ((own_shrL q3 (32 : Int32)).toInt32)), .unset, .unset, .unset] [(.int (q3.toInt32)), (.int (q2.toInt32)), (.int (q1.toInt32)), (.int (q0.toInt32)), (.ref b1), (.ref b1)])) (fun t k => ?_) ?_
  · show Steps p.tables e below (T1.setTop (mkF m 51 #[.val (.long q0), .second, .val (.long q1), .second, .val (.long q2), .second, .val (.long q3), .second, .val (.int (q0.toInt32)), .val (.int ((own_shrL q0 (32 : Int32)).toInt32)), .val (.int (q1.toInt32)), .val (.int ((own_shrL q1 (32 : Int32)).toInt32)), .val (.int (q2.toInt32)), .val (.int ((own_shrL q2 (32 : Int32)).toInt32)), .val (.int (q3.toInt32)), .val (.int ((own_shrL q3 (32 : Int32)).toInt32)), .unset, .unset, .unset] [(.ref b1)])) _
    refine XS.dup X1.here hx rfl (hb hby at_51) rfl rfl ?_
    show Steps p.tables e below (T1.setTop (mkF m 52 #[.val (.long q0), .second, .val (.long q1), .second, .val (.long q2), .second, .val (.long q3), .second, .val (.int (q0.toInt32)), .val (.int ((own_shrL q0 (32 : Int32)).toInt32)), .val (.int (q1.toInt32)), .val (.int ((own_shrL q1 (32 : Int32)).toInt32)), .val (.int (q2.toInt32)), .val (.int ((own_shrL q2 (32 : Int32)).toInt32)), .val (.int (q3.toInt32)), .val (.int ((own_shrL q3 (32 : Int32)).toInt32)), .unset, .unset, .unset] [(.ref b1), (.ref b1)])) _
    refine XS.iload X1.here hx rfl (hb hby at_52) rfl ?_
    show Steps p.tables e below (T1.setTop (mkF m 54 #[.val (.long q0), .second, .val (.long q1), .second, .val (.long q2), .second, .val (.long q3), .second, .val (.int (q0.toInt32)), .val (.int ((own_shrL q0 (32 : Int32)).toInt32)), .val (.int (q1.toInt32)), .val (.int ((own_shrL q1 (32 : Int32)).toInt32)), .val (.int (q2.toInt32)), .val (.int ((own_shrL q2 (32 : Int32)).toInt32)), .val (.int (q3.toInt32)), .val (.int ((own_shrL q3 (32 : Int32)).toInt32)), .unset, .unset, .unset] [(.int (q0.toInt32)), (.ref b1), (.ref b1)])) _
    refine XS.iload X1.here hx rfl (hb hby at_54) rfl ?_
    show Steps p.tables e below (T1.setTop (mkF m 56 #[.val (.long q0), .second, .val (.long q1), .second, .val (.long q2), .second, .val (.long q3), .second, .val (.int (q0.toInt32)), .val (.int ((own_shrL q0 (32 : Int32)).toInt32)), .val (.int (q1.toInt32)), .val (.int ((own_shrL q1 (32 : Int32)).toInt32)), .val (.int (q2.toInt32)), .val (.int ((own_shrL q2 (32 : Int32)).toInt32)), .val (.int (q3.toInt32)), .val (.int ((own_shrL q3 (32 : Int32)).toInt32)), .unset, .unset, .unset] [(.int (q1.toInt32)), (.int (q0.toInt32)), (.ref b1), (.ref b1)])) _
    refine XS.iload X1.here hx rfl (hb hby at_56) rfl ?_
    show Steps p.tables e below (T1.setTop (mkF m 58 #[.val (.long q0), .second, .val (.long q1), .second, .val (.long q2), .second, .val (.long q3), .second, .val (.int (q0.toInt32)), .val (.int ((own_shrL q0 (32 : Int32)).toInt32)), .val (.int (q1.toInt32)), .val (.int ((own_shrL q1 (32 : Int32)).toInt32)), .val (.int (q2.toInt32)), .val (.int ((own_shrL q2 (32 : Int32)).toInt32)), .val (.int (q3.toInt32)), .val (.int ((own_shrL q3 (32 : Int32)).toInt32)), .unset, .unset, .unset] [(.int (q2.toInt32)), (.int (q1.toInt32)), (.int (q0.toInt32)), (.ref b1), (.ref b1)])) _
    refine XS.iload X1.here hx rfl (hb hby at_58) rfl ?_
    show Steps p.tables e below (T1.setTop (mkF m 60 #[.val (.long q0), .second, .val (.long q1), .second, .val (.long q2), .second, .val (.long q3), .second, .val (.int (q0.toInt32)), .val (.int ((own_shrL q0 (32 : Int32)).toInt32)), .val (.int (q1.toInt32)), .val (.int ((own_shrL q1 (32 : Int32)).toInt32)), .val (.int (q2.toInt32)), .val (.int ((own_shrL q2 (32 : Int32)).toInt32)), .val (.int (q3.toInt32)), .val (.int ((own_shrL q3 (32 : Int32)).toInt32)), .unset, .unset, .unset] [(.int (q3.toInt32)), (.int (q2.toInt32)), (.int (q1.toInt32)), (.int (q0.toInt32)), (.ref b1), (.ref b1)])) _
    exact k
  obtain ⟨_, _, ⟨T6, Lq6, kq6, nq6⟩, -, X6, ⟨Lc6, hQ6, lq6, yq6, zq6⟩, st6⟩ := X1.specialBack hx (y := (⟨"com/example/comment_binder/commentbinder/scoring/Score", "<init>", "(IIII)V"⟩ : MethodName)) rfl hown (mvT hZ (hw _ (List.mem_of_getElem? (i := 3) rfl))) (mvT hZ (hw _ (List.mem_of_getElem? (i := 4) rfl))) (mvT hZ (hw _ (List.mem_of_getElem? (i := 5) rfl))) (by decide) (backOf (W := 1) (own_rm1 l Z a0 hw [] b1 ((q0.toInt32)) ((q1.toInt32)) ((q2.toInt32)) ((q3.toInt32))  h1 n0 Zs1 A1 fc2 fc3 fc4 fc5 g_b1) hZ (hw _ (List.mem_of_getElem? (i := 5) rfl)) (hw _ (List.mem_of_getElem? (i := 2) rfl)) (by decide) (by decide)) (g := (mkF m 60 #[.val (.long q0), .second, .val (.long q1), .second, .val (.long q2), .second, .val (.long q3), .second, .val (.int (q0.toInt32)), .val (.int ((own_shrL q0 (32 : Int32)).toInt32)), .val (.int (q1.toInt32)), .val (.int ((own_shrL q1 (32 : Int32)).toInt32)), .val (.int (q2.toInt32)), .val (.int ((own_shrL q2 (32 : Int32)).toInt32)), .val (.int (q3.toInt32)), .val (.int ((own_shrL q3 (32 : Int32)).toInt32)), .unset, .unset, .unset] [(.int (q3.toInt32)), (.int (q2.toInt32)), (.int (q1.toInt32)), (.int (q0.toInt32)), (.ref b1), (.ref b1)])) rfl (by rw [hml]; rfl) (Steps.refl _) (a := b1) (argsL := [(.int (q0.toInt32)), (.int (q1.toInt32)), (.int (q2.toInt32)), (.int (q3.toInt32))]) (rest := [(.ref b1)]) (lenOf own_pd1 rfl) rfl (by show 2 * 0 + _ ≤ _; exact Nat.le_of_eq rfl) (hb hby at_60) (fun _ _ => ⟨rfl, e1, (by decide : 1 + 0 ≤ _), (by decide : 4 + 0 ≤ _)⟩)
  dsimp only [Pt.U, Pt.locs, Pt.cells, Pt.slots] at X6 lq6 yq6 zq6 st6 hQ6
  subst lq6 yq6 zq6
  obtain ⟨rfl, N6q, h6q, p6_0, p6_1, p6_2, p6_3⟩ := hQ6
  have N6 := Fr.app N0 N6q
  have fc7 : Exa Z T6.heap b1 "com/example/comment_binder/commentbinder/scoring/Score" := A1.keep h6q
  have Zs6 : n0 ≤ T6.heap.size := Nat.le_trans Zs1 h6q.1
  refine own_go (T' := T6) (f' := (mkF m 63 #[.val (.long q0), .second, .val (.long q1), .second, .val (.long q2), .second, .val (.long q3), .second, .val (.int (q0.toInt32)), .val (.int ((own_shrL q0 (32 : Int32)).toInt32)), .val (.int (q1.toInt32)), .val (.int ((own_shrL q1 (32 : Int32)).toInt32)), .val (.int (q2.toInt32)), .val (.int ((own_shrL q2 (32 : Int32)).toInt32)), .val (.int (q3.toInt32)), .val (.int ((own_shrL q3 (32 : Int32)).toInt32)), .unset, .unset, .unset] [(.ref b1)])) (fun t k => st6.trans k) ?_
  refine own_go (T' := T6) (f' := (mkF m 65 #[.val (.long q0), .second, .val (.long q1), .second, .val (.long q2), .second, .val (.long q3), .second, .val (.int (q0.toInt32)), .val (.int ((own_shrL q0 (32 : Int32)).toInt32)), .val (.int (q1.toInt32)), .val (.int ((own_shrL q1 (32 : Int32)).toInt32)), .val (.int (q2.toInt32)), .val (.int ((own_shrL q2 (32 : Int32)).toInt32)), .val (.int (q3.toInt32)), .val (.int ((own_shrL q3 (32 : Int32)).toInt32)), .val (.ref b1), .unset, .unset] [])) (fun t k => ?_) ?_
  · show Steps p.tables e below (T6.setTop (mkF m 63 #[.val (.long q0), .second, .val (.long q1), .second, .val (.long q2), .second, .val (.long q3), .second, .val (.int (q0.toInt32)), .val (.int ((own_shrL q0 (32 : Int32)).toInt32)), .val (.int (q1.toInt32)), .val (.int ((own_shrL q1 (32 : Int32)).toInt32)), .val (.int (q2.toInt32)), .val (.int ((own_shrL q2 (32 : Int32)).toInt32)), .val (.int (q3.toInt32)), .val (.int ((own_shrL q3 (32 : Int32)).toInt32)), .unset, .unset, .unset] [(.ref b1)])) _
    refine XS.astore X6.here hx rfl (hb hby at_63) rfl rfl (l' := #[.val (.long q0), .second, .val (.long q1), .second, .val (.long q2), .second, .val (.long q3), .second, .val (.int (q0.toInt32)), .val (.int ((own_shrL q0 (32 : Int32)).toInt32)), .val (.int (q1.toInt32)), .val (.int ((own_shrL q1 (32 : Int32)).toInt32)), .val (.int (q2.toInt32)), .val (.int ((own_shrL q2 (32 : Int32)).toInt32)), .val (.int (q3.toInt32)), .val (.int ((own_shrL q3 (32 : Int32)).toInt32)), .val (.ref b1), .unset, .unset]) rfl ?_
    show Steps p.tables e below (T6.setTop (mkF m 65 #[.val (.long q0), .second, .val (.long q1), .second, .val (.long q2), .second, .val (.long q3), .second, .val (.int (q0.toInt32)), .val (.int ((own_shrL q0 (32 : Int32)).toInt32)), .val (.int (q1.toInt32)), .val (.int ((own_shrL q1 (32 : Int32)).toInt32)), .val (.int (q2.toInt32)), .val (.int ((own_shrL q2 (32 : Int32)).toInt32)), .val (.int (q3.toInt32)), .val (.int ((own_shrL q3 (32 : Int32)).toInt32)), .val (.ref b1), .unset, .unset] [])) _
    exact k
  obtain ⟨T8, h8, X8, e8, E8, A8, D8, -, st8⟩ := newO X6 hx hZ hown (hw _ (List.mem_of_getElem? (i := 0) rfl)) (hw _ (List.mem_of_getElem? (i := 1) rfl)) (hw _ (List.mem_of_getElem? (i := 2) rfl)) rfl (g := (mkF m 65 #[.val (.long q0), .second, .val (.long q1), .second, .val (.long q2), .second, .val (.long q3), .second, .val (.int (q0.toInt32)), .val (.int ((own_shrL q0 (32 : Int32)).toInt32)), .val (.int (q1.toInt32)), .val (.int ((own_shrL q1 (32 : Int32)).toInt32)), .val (.int (q2.toInt32)), .val (.int ((own_shrL q2 (32 : Int32)).toInt32)), .val (.int (q3.toInt32)), .val (.int ((own_shrL q3 (32 : Int32)).toInt32)), .val (.ref b1), .unset, .unset] [])) rfl (hb hby at_65) (by decide) (by decide)
  obtain ⟨b8, g8⟩ : ∃ z, z = T6.heap.size := ⟨_, rfl⟩
  rw [← g8] at A8 D8 st8
  have ne_b1_b8 : b1 ≠ b8 := Nat.ne_of_lt (Nat.lt_of_lt_of_le fc7.lt (Nat.le_of_eq g8.symm))
  have g_b8 : n0 ≤ b8 := Nat.le_trans Zs6 (Nat.le_of_eq g8.symm)
  refine own_go (T' := T8) (f' := (mkF m 68 #[.val (.long q0), .second, .val (.long q1), .second, .val (.long q2), .second, .val (.long q3), .second, .val (.int (q0.toInt32)), .val (.int ((own_shrL q0 (32 : Int32)).toInt32)), .val (.int (q1.toInt32)), .val (.int ((own_shrL q1 (32 : Int32)).toInt32)), .val (.int (q2.toInt32)), .val (.int ((own_shrL q2 (32 : Int32)).toInt32)), .val (.int (q3.toInt32)), .val (.int ((own_shrL q3 (32 : Int32)).toInt32)), .val (.ref b1), .unset, .unset] [(.ref b8)])) st8 ?_
  have fc9 : Exa Z h8 b1 "com/example/comment_binder/commentbinder/scoring/Score" := fc7.ext E8
  have fc10 : Fld Z h8 b1 "com/example/comment_binder/commentbinder/scoring/Score" "correct" "I" (.int (q0.toInt32)) := p6_0.ext E8
  have fc11 : Fld Z h8 b1 "com/example/comment_binder/commentbinder/scoring/Score" "changed" "I" (.int (q1.toInt32)) := p6_1.ext E8
  have fc12 : Fld Z h8 b1 "com/example/comment_binder/commentbinder/scoring/Score" "lost" "I" (.int (q2.toInt32)) := p6_2.ext E8
  have fc13 : Fld Z h8 b1 "com/example/comment_binder/commentbinder/scoring/Score" "spurious" "I" (.int (q3.toInt32)) := p6_3.ext E8
  have Zs8 : n0 ≤ h8.size := Nat.le_trans Zs6 E8.1
  have fc14 : Fld Z h8 b8 "com/example/comment_binder/commentbinder/scoring/Score" "correct" "I" (.int (0 : Int32)) := D8 (Or.inr (hw _ (List.mem_of_getElem? (i := 15) rfl))) (ty := .int) (by decide)
  have fc15 : Fld Z h8 b8 "com/example/comment_binder/commentbinder/scoring/Score" "changed" "I" (.int (0 : Int32)) := D8 (Or.inr (hw _ (List.mem_of_getElem? (i := 17) rfl))) (ty := .int) (by decide)
  have fc16 : Fld Z h8 b8 "com/example/comment_binder/commentbinder/scoring/Score" "lost" "I" (.int (0 : Int32)) := D8 (Or.inr (hw _ (List.mem_of_getElem? (i := 19) rfl))) (ty := .int) (by decide)
  have fc17 : Fld Z h8 b8 "com/example/comment_binder/commentbinder/scoring/Score" "spurious" "I" (.int (0 : Int32)) := D8 (Or.inr (hw _ (List.mem_of_getElem? (i := 21) rfl))) (ty := .int) (by decide)
  refine own_go (T' := T8) (f' := (mkF m 77 #[.val (.long q0), .second, .val (.long q1), .second, .val (.long q2), .second, .val (.long q3), .second, .val (.int (q0.toInt32)), .val (.int ((own_shrL q0 (32 : Int32)).toInt32)), .val (.int (q1.toInt32)), .val (.int ((own_shrL q1 (32 : Int32)).toInt32)), .val (.int (q2.toInt32)), .val (.int ((own_shrL q2 (32 : Int32)).toInt32)), .val (.int (q3.toInt32)), .val (.int ((own_shrL q3 (32 : Int32)).toInt32)), .val (.ref b1), .unset, .unset] [(.int ((own_shrL q3 (32 : Int32)).toInt32)), (.int ((own_shrL q2 (32 : Int32)).toInt32)), (.int ((own_shrL q1 (32 : Int32)).toInt32)), (.int ((own_shrL q0 (32 : Int32)).toInt32)), (.ref b8), (.ref b8)])) (fun t k => ?_) ?_
  · show Steps p.tables e below (T8.setTop (mkF m 68 #[.val (.long q0), .second, .val (.long q1), .second, .val (.long q2), .second, .val (.long q3), .second, .val (.int (q0.toInt32)), .val (.int ((own_shrL q0 (32 : Int32)).toInt32)), .val (.int (q1.toInt32)), .val (.int ((own_shrL q1 (32 : Int32)).toInt32)), .val (.int (q2.toInt32)), .val (.int ((own_shrL q2 (32 : Int32)).toInt32)), .val (.int (q3.toInt32)), .val (.int ((own_shrL q3 (32 : Int32)).toInt32)), .val (.ref b1), .unset, .unset] [(.ref b8)])) _
    refine XS.dup X8.here hx rfl (hb hby at_68) rfl rfl ?_
    show Steps p.tables e below (T8.setTop (mkF m 69 #[.val (.long q0), .second, .val (.long q1), .second, .val (.long q2), .second, .val (.long q3), .second, .val (.int (q0.toInt32)), .val (.int ((own_shrL q0 (32 : Int32)).toInt32)), .val (.int (q1.toInt32)), .val (.int ((own_shrL q1 (32 : Int32)).toInt32)), .val (.int (q2.toInt32)), .val (.int ((own_shrL q2 (32 : Int32)).toInt32)), .val (.int (q3.toInt32)), .val (.int ((own_shrL q3 (32 : Int32)).toInt32)), .val (.ref b1), .unset, .unset] [(.ref b8), (.ref b8)])) _
    refine XS.iload X8.here hx rfl (hb hby at_69) rfl ?_
    show Steps p.tables e below (T8.setTop (mkF m 71 #[.val (.long q0), .second, .val (.long q1), .second, .val (.long q2), .second, .val (.long q3), .second, .val (.int (q0.toInt32)), .val (.int ((own_shrL q0 (32 : Int32)).toInt32)), .val (.int (q1.toInt32)), .val (.int ((own_shrL q1 (32 : Int32)).toInt32)), .val (.int (q2.toInt32)), .val (.int ((own_shrL q2 (32 : Int32)).toInt32)), .val (.int (q3.toInt32)), .val (.int ((own_shrL q3 (32 : Int32)).toInt32)), .val (.ref b1), .unset, .unset] [(.int ((own_shrL q0 (32 : Int32)).toInt32)), (.ref b8), (.ref b8)])) _
    refine XS.iload X8.here hx rfl (hb hby at_71) rfl ?_
    show Steps p.tables e below (T8.setTop (mkF m 73 #[.val (.long q0), .second, .val (.long q1), .second, .val (.long q2), .second, .val (.long q3), .second, .val (.int (q0.toInt32)), .val (.int ((own_shrL q0 (32 : Int32)).toInt32)), .val (.int (q1.toInt32)), .val (.int ((own_shrL q1 (32 : Int32)).toInt32)), .val (.int (q2.toInt32)), .val (.int ((own_shrL q2 (32 : Int32)).toInt32)), .val (.int (q3.toInt32)), .val (.int ((own_shrL q3 (32 : Int32)).toInt32)), .val (.ref b1), .unset, .unset] [(.int ((own_shrL q1 (32 : Int32)).toInt32)), (.int ((own_shrL q0 (32 : Int32)).toInt32)), (.ref b8), (.ref b8)])) _
    refine XS.iload X8.here hx rfl (hb hby at_73) rfl ?_
    show Steps p.tables e below (T8.setTop (mkF m 75 #[.val (.long q0), .second, .val (.long q1), .second, .val (.long q2), .second, .val (.long q3), .second, .val (.int (q0.toInt32)), .val (.int ((own_shrL q0 (32 : Int32)).toInt32)), .val (.int (q1.toInt32)), .val (.int ((own_shrL q1 (32 : Int32)).toInt32)), .val (.int (q2.toInt32)), .val (.int ((own_shrL q2 (32 : Int32)).toInt32)), .val (.int (q3.toInt32)), .val (.int ((own_shrL q3 (32 : Int32)).toInt32)), .val (.ref b1), .unset, .unset] [(.int ((own_shrL q2 (32 : Int32)).toInt32)), (.int ((own_shrL q1 (32 : Int32)).toInt32)), (.int ((own_shrL q0 (32 : Int32)).toInt32)), (.ref b8), (.ref b8)])) _
    refine XS.iload X8.here hx rfl (hb hby at_75) rfl ?_
    show Steps p.tables e below (T8.setTop (mkF m 77 #[.val (.long q0), .second, .val (.long q1), .second, .val (.long q2), .second, .val (.long q3), .second, .val (.int (q0.toInt32)), .val (.int ((own_shrL q0 (32 : Int32)).toInt32)), .val (.int (q1.toInt32)), .val (.int ((own_shrL q1 (32 : Int32)).toInt32)), .val (.int (q2.toInt32)), .val (.int ((own_shrL q2 (32 : Int32)).toInt32)), .val (.int (q3.toInt32)), .val (.int ((own_shrL q3 (32 : Int32)).toInt32)), .val (.ref b1), .unset, .unset] [(.int ((own_shrL q3 (32 : Int32)).toInt32)), (.int ((own_shrL q2 (32 : Int32)).toInt32)), (.int ((own_shrL q1 (32 : Int32)).toInt32)), (.int ((own_shrL q0 (32 : Int32)).toInt32)), (.ref b8), (.ref b8)])) _
    exact k
  obtain ⟨_, _, ⟨T18, Lq18, kq18, nq18⟩, -, X18, ⟨Lc18, hQ18, lq18, yq18, zq18⟩, st18⟩ := X8.specialBack hx (y := (⟨"com/example/comment_binder/commentbinder/scoring/Score", "<init>", "(IIII)V"⟩ : MethodName)) rfl hown (mvT hZ (hw _ (List.mem_of_getElem? (i := 3) rfl))) (mvT hZ (hw _ (List.mem_of_getElem? (i := 4) rfl))) (mvT hZ (hw _ (List.mem_of_getElem? (i := 5) rfl))) (by decide) (backOf (W := 1) (own_rm1 l Z a0 hw [] b8 (((own_shrL q0 (32 : Int32)).toInt32)) (((own_shrL q1 (32 : Int32)).toInt32)) (((own_shrL q2 (32 : Int32)).toInt32)) (((own_shrL q3 (32 : Int32)).toInt32))  h8 n0 Zs8 A8 fc14 fc15 fc16 fc17 g_b8) hZ (hw _ (List.mem_of_getElem? (i := 5) rfl)) (hw _ (List.mem_of_getElem? (i := 2) rfl)) (by decide) (by decide)) (g := (mkF m 77 #[.val (.long q0), .second, .val (.long q1), .second, .val (.long q2), .second, .val (.long q3), .second, .val (.int (q0.toInt32)), .val (.int ((own_shrL q0 (32 : Int32)).toInt32)), .val (.int (q1.toInt32)), .val (.int ((own_shrL q1 (32 : Int32)).toInt32)), .val (.int (q2.toInt32)), .val (.int ((own_shrL q2 (32 : Int32)).toInt32)), .val (.int (q3.toInt32)), .val (.int ((own_shrL q3 (32 : Int32)).toInt32)), .val (.ref b1), .unset, .unset] [(.int ((own_shrL q3 (32 : Int32)).toInt32)), (.int ((own_shrL q2 (32 : Int32)).toInt32)), (.int ((own_shrL q1 (32 : Int32)).toInt32)), (.int ((own_shrL q0 (32 : Int32)).toInt32)), (.ref b8), (.ref b8)])) rfl (by rw [hml]; rfl) (Steps.refl _) (a := b8) (argsL := [(.int ((own_shrL q0 (32 : Int32)).toInt32)), (.int ((own_shrL q1 (32 : Int32)).toInt32)), (.int ((own_shrL q2 (32 : Int32)).toInt32)), (.int ((own_shrL q3 (32 : Int32)).toInt32))]) (rest := [(.ref b8)]) (lenOf own_pd1 rfl) rfl (by show 2 * 0 + _ ≤ _; exact Nat.le_of_eq rfl) (hb hby at_77) (fun _ _ => ⟨rfl, e8, (by decide : 2 + 0 ≤ _), (by decide : 8 + 0 ≤ _)⟩)
  dsimp only [Pt.U, Pt.locs, Pt.cells, Pt.slots] at X18 lq18 yq18 zq18 st18 hQ18
  subst lq18 yq18 zq18
  obtain ⟨rfl, N18q, h18q, p18_0, p18_1, p18_2, p18_3⟩ := hQ18
  have N18 := Fr.app N6 N18q
  have fc19 : Exa Z T18.heap b1 "com/example/comment_binder/commentbinder/scoring/Score" := fc9.keep h18q
  have fc20 : Fld Z T18.heap b1 "com/example/comment_binder/commentbinder/scoring/Score" "correct" "I" (.int (q0.toInt32)) := fc10.keep h18q (ninS ne_b1_b8 nin0)
  have fc21 : Fld Z T18.heap b1 "com/example/comment_binder/commentbinder/scoring/Score" "changed" "I" (.int (q1.toInt32)) := fc11.keep h18q (ninS ne_b1_b8 nin0)
  have fc22 : Fld Z T18.heap b1 "com/example/comment_binder/commentbinder/scoring/Score" "lost" "I" (.int (q2.toInt32)) := fc12.keep h18q (ninS ne_b1_b8 nin0)
  have fc23 : Fld Z T18.heap b1 "com/example/comment_binder/commentbinder/scoring/Score" "spurious" "I" (.int (q3.toInt32)) := fc13.keep h18q (ninS ne_b1_b8 nin0)
  have fc24 : Exa Z T18.heap b8 "com/example/comment_binder/commentbinder/scoring/Score" := A8.keep h18q
  have Zs18 : n0 ≤ T18.heap.size := Nat.le_trans Zs8 h18q.1
  refine own_go (T' := T18) (f' := (mkF m 80 #[.val (.long q0), .second, .val (.long q1), .second, .val (.long q2), .second, .val (.long q3), .second, .val (.int (q0.toInt32)), .val (.int ((own_shrL q0 (32 : Int32)).toInt32)), .val (.int (q1.toInt32)), .val (.int ((own_shrL q1 (32 : Int32)).toInt32)), .val (.int (q2.toInt32)), .val (.int ((own_shrL q2 (32 : Int32)).toInt32)), .val (.int (q3.toInt32)), .val (.int ((own_shrL q3 (32 : Int32)).toInt32)), .val (.ref b1), .unset, .unset] [(.ref b8)])) (fun t k => st18.trans k) ?_
  refine own_go (T' := T18) (f' := (mkF m 86 #[.val (.long q0), .second, .val (.long q1), .second, .val (.long q2), .second, .val (.long q3), .second, .val (.int (q0.toInt32)), .val (.int ((own_shrL q0 (32 : Int32)).toInt32)), .val (.int (q1.toInt32)), .val (.int ((own_shrL q1 (32 : Int32)).toInt32)), .val (.int (q2.toInt32)), .val (.int ((own_shrL q2 (32 : Int32)).toInt32)), .val (.int (q3.toInt32)), .val (.int ((own_shrL q3 (32 : Int32)).toInt32)), .val (.ref b1), .val (.ref b8), .unset] [(.ref b8), (.ref b1)])) (fun t k => ?_) ?_
  · show Steps p.tables e below (T18.setTop (mkF m 80 #[.val (.long q0), .second, .val (.long q1), .second, .val (.long q2), .second, .val (.long q3), .second, .val (.int (q0.toInt32)), .val (.int ((own_shrL q0 (32 : Int32)).toInt32)), .val (.int (q1.toInt32)), .val (.int ((own_shrL q1 (32 : Int32)).toInt32)), .val (.int (q2.toInt32)), .val (.int ((own_shrL q2 (32 : Int32)).toInt32)), .val (.int (q3.toInt32)), .val (.int ((own_shrL q3 (32 : Int32)).toInt32)), .val (.ref b1), .unset, .unset] [(.ref b8)])) _
    refine XS.astore X18.here hx rfl (hb hby at_80) rfl rfl (l' := #[.val (.long q0), .second, .val (.long q1), .second, .val (.long q2), .second, .val (.long q3), .second, .val (.int (q0.toInt32)), .val (.int ((own_shrL q0 (32 : Int32)).toInt32)), .val (.int (q1.toInt32)), .val (.int ((own_shrL q1 (32 : Int32)).toInt32)), .val (.int (q2.toInt32)), .val (.int ((own_shrL q2 (32 : Int32)).toInt32)), .val (.int (q3.toInt32)), .val (.int ((own_shrL q3 (32 : Int32)).toInt32)), .val (.ref b1), .val (.ref b8), .unset]) rfl ?_
    show Steps p.tables e below (T18.setTop (mkF m 82 #[.val (.long q0), .second, .val (.long q1), .second, .val (.long q2), .second, .val (.long q3), .second, .val (.int (q0.toInt32)), .val (.int ((own_shrL q0 (32 : Int32)).toInt32)), .val (.int (q1.toInt32)), .val (.int ((own_shrL q1 (32 : Int32)).toInt32)), .val (.int (q2.toInt32)), .val (.int ((own_shrL q2 (32 : Int32)).toInt32)), .val (.int (q3.toInt32)), .val (.int ((own_shrL q3 (32 : Int32)).toInt32)), .val (.ref b1), .val (.ref b8), .unset] [])) _
    refine XS.aload X18.here hx rfl (hb hby at_82) rfl rfl ?_
    show Steps p.tables e below (T18.setTop (mkF m 84 #[.val (.long q0), .second, .val (.long q1), .second, .val (.long q2), .second, .val (.long q3), .second, .val (.int (q0.toInt32)), .val (.int ((own_shrL q0 (32 : Int32)).toInt32)), .val (.int (q1.toInt32)), .val (.int ((own_shrL q1 (32 : Int32)).toInt32)), .val (.int (q2.toInt32)), .val (.int ((own_shrL q2 (32 : Int32)).toInt32)), .val (.int (q3.toInt32)), .val (.int ((own_shrL q3 (32 : Int32)).toInt32)), .val (.ref b1), .val (.ref b8), .unset] [(.ref b1)])) _
    refine XS.aload X18.here hx rfl (hb hby at_84) rfl rfl ?_
    show Steps p.tables e below (T18.setTop (mkF m 86 #[.val (.long q0), .second, .val (.long q1), .second, .val (.long q2), .second, .val (.long q3), .second, .val (.int (q0.toInt32)), .val (.int ((own_shrL q0 (32 : Int32)).toInt32)), .val (.int (q1.toInt32)), .val (.int ((own_shrL q1 (32 : Int32)).toInt32)), .val (.int (q2.toInt32)), .val (.int ((own_shrL q2 (32 : Int32)).toInt32)), .val (.int (q3.toInt32)), .val (.int ((own_shrL q3 (32 : Int32)).toInt32)), .val (.ref b1), .val (.ref b8), .unset] [(.ref b8), (.ref b1)])) _
    exact k
  obtain ⟨cq25, kq25, q25a, q25b, q25c⟩ := isOf hZ rfl fc19
  obtain ⟨_, _, ⟨T25, Lq25, kq25, nq25⟩, -, X25, ⟨Lc25, hQ25, lq25, yq25, zq25⟩, st25⟩ := X18.virtualBack hx (y := (⟨"com/example/comment_binder/commentbinder/scoring/Score", "plus", "(Lcom/example/comment_binder/commentbinder/scoring/Score;)Lcom/example/comment_binder/commentbinder/scoring/Score;"⟩ : MethodName)) (z := (⟨"com/example/comment_binder/commentbinder/scoring/Score", "plus", "(Lcom/example/comment_binder/commentbinder/scoring/Score;)Lcom/example/comment_binder/commentbinder/scoring/Score;"⟩ : MethodName)) hown (mvT hZ (hw _ (List.mem_of_getElem? (i := 22) rfl))) (mvT hZ (hw _ (List.mem_of_getElem? (i := 23) rfl))) (notFace_of_selects (args := #[]) (mvT hZ (hw _ (List.mem_of_getElem? (i := 25) rfl)))) (mvT hZ (hw _ (List.mem_of_getElem? (i := 25) rfl))) (mvT hZ (hw _ (List.mem_of_getElem? (i := 24) rfl))) (by decide) (backOf (W := 0) (own_rm2 l Z a0 hw [] b1 b8 ((q0.toInt32)) ((q1.toInt32)) ((q2.toInt32)) ((q3.toInt32)) (((own_shrL q0 (32 : Int32)).toInt32)) (((own_shrL q1 (32 : Int32)).toInt32)) (((own_shrL q2 (32 : Int32)).toInt32)) (((own_shrL q3 (32 : Int32)).toInt32)) T18.heap n0 Zs18 fc20 fc21 fc22 fc23 p18_0 p18_1 p18_2 p18_3) hZ (hw _ (List.mem_of_getElem? (i := 26) rfl)) (hw _ (List.mem_of_getElem? (i := 2) rfl)) (by decide) (by decide)) q25a q25c (g := (mkF m 86 #[.val (.long q0), .second, .val (.long q1), .second, .val (.long q2), .second, .val (.long q3), .second, .val (.int (q0.toInt32)), .val (.int ((own_shrL q0 (32 : Int32)).toInt32)), .val (.int (q1.toInt32)), .val (.int ((own_shrL q1 (32 : Int32)).toInt32)), .val (.int (q2.toInt32)), .val (.int ((own_shrL q2 (32 : Int32)).toInt32)), .val (.int (q3.toInt32)), .val (.int ((own_shrL q3 (32 : Int32)).toInt32)), .val (.ref b1), .val (.ref b8), .unset] [(.ref b8), (.ref b1)])) rfl (by rw [hml]; rfl) (Steps.refl _) (argsL := [(.ref b8)]) (rest := []) (lenOf own_pd2 rfl) rfl (by show 2 * 0 + _ ≤ _; exact Nat.le_of_eq rfl) (hb hby at_86) (fun _ _ => ⟨rfl, rfl, (by decide : 2 + 1 ≤ _), (by decide : 8 + 4 ≤ _)⟩)
  dsimp only [Pt.U, Pt.locs, Pt.cells, Pt.slots] at X25 lq25 yq25 zq25 st25 hQ25
  subst lq25 yq25 zq25
  obtain ⟨br_25, rfl, N25q, h25q, szr_br_25, p25_0, p25_1, p25_2, p25_3, p25_4⟩ := hQ25
  have N25 := Fr.app N18 N25q
  have ne_b1_br_25 : b1 ≠ br_25 := Nat.ne_of_lt (Nat.lt_of_lt_of_le fc19.lt szr_br_25)
  have ne_b8_br_25 : b8 ≠ br_25 := Nat.ne_of_lt (Nat.lt_of_lt_of_le fc24.lt szr_br_25)
  have g_br_25 : n0 ≤ br_25 := Nat.le_trans Zs18 szr_br_25
  have fc26 : Exa Z T25.heap b1 "com/example/comment_binder/commentbinder/scoring/Score" := fc19.keep h25q
  have fc27 : Fld Z T25.heap b1 "com/example/comment_binder/commentbinder/scoring/Score" "correct" "I" (.int (q0.toInt32)) := fc20.keep h25q nin0
  have fc28 : Fld Z T25.heap b1 "com/example/comment_binder/commentbinder/scoring/Score" "changed" "I" (.int (q1.toInt32)) := fc21.keep h25q nin0
  have fc29 : Fld Z T25.heap b1 "com/example/comment_binder/commentbinder/scoring/Score" "lost" "I" (.int (q2.toInt32)) := fc22.keep h25q nin0
  have fc30 : Fld Z T25.heap b1 "com/example/comment_binder/commentbinder/scoring/Score" "spurious" "I" (.int (q3.toInt32)) := fc23.keep h25q nin0
  have fc31 : Exa Z T25.heap b8 "com/example/comment_binder/commentbinder/scoring/Score" := fc24.keep h25q
  have fc32 : Fld Z T25.heap b8 "com/example/comment_binder/commentbinder/scoring/Score" "correct" "I" (.int ((own_shrL q0 (32 : Int32)).toInt32)) := p18_0.keep h25q nin0
  have fc33 : Fld Z T25.heap b8 "com/example/comment_binder/commentbinder/scoring/Score" "changed" "I" (.int ((own_shrL q1 (32 : Int32)).toInt32)) := p18_1.keep h25q nin0
  have fc34 : Fld Z T25.heap b8 "com/example/comment_binder/commentbinder/scoring/Score" "lost" "I" (.int ((own_shrL q2 (32 : Int32)).toInt32)) := p18_2.keep h25q nin0
  have fc35 : Fld Z T25.heap b8 "com/example/comment_binder/commentbinder/scoring/Score" "spurious" "I" (.int ((own_shrL q3 (32 : Int32)).toInt32)) := p18_3.keep h25q nin0
  have Zs25 : n0 ≤ T25.heap.size := Nat.le_trans Zs18 h25q.1
  refine own_go (T' := T25) (f' := (mkF m 89 #[.val (.long q0), .second, .val (.long q1), .second, .val (.long q2), .second, .val (.long q3), .second, .val (.int (q0.toInt32)), .val (.int ((own_shrL q0 (32 : Int32)).toInt32)), .val (.int (q1.toInt32)), .val (.int ((own_shrL q1 (32 : Int32)).toInt32)), .val (.int (q2.toInt32)), .val (.int ((own_shrL q2 (32 : Int32)).toInt32)), .val (.int (q3.toInt32)), .val (.int ((own_shrL q3 (32 : Int32)).toInt32)), .val (.ref b1), .val (.ref b8), .unset] [(.ref br_25)])) (fun t k => st25.trans k) ?_
  refine own_go (T' := T25) (f' := (mkF m 93 #[.val (.long q0), .second, .val (.long q1), .second, .val (.long q2), .second, .val (.long q3), .second, .val (.int (q0.toInt32)), .val (.int ((own_shrL q0 (32 : Int32)).toInt32)), .val (.int (q1.toInt32)), .val (.int ((own_shrL q1 (32 : Int32)).toInt32)), .val (.int (q2.toInt32)), .val (.int ((own_shrL q2 (32 : Int32)).toInt32)), .val (.int (q3.toInt32)), .val (.int ((own_shrL q3 (32 : Int32)).toInt32)), .val (.ref b1), .val (.ref b8), .val (.ref br_25)] [(.ref br_25)])) (fun t k => ?_) ?_
  · show Steps p.tables e below (T25.setTop (mkF m 89 #[.val (.long q0), .second, .val (.long q1), .second, .val (.long q2), .second, .val (.long q3), .second, .val (.int (q0.toInt32)), .val (.int ((own_shrL q0 (32 : Int32)).toInt32)), .val (.int (q1.toInt32)), .val (.int ((own_shrL q1 (32 : Int32)).toInt32)), .val (.int (q2.toInt32)), .val (.int ((own_shrL q2 (32 : Int32)).toInt32)), .val (.int (q3.toInt32)), .val (.int ((own_shrL q3 (32 : Int32)).toInt32)), .val (.ref b1), .val (.ref b8), .unset] [(.ref br_25)])) _
    refine XS.astore X25.here hx rfl (hb hby at_89) rfl rfl (l' := #[.val (.long q0), .second, .val (.long q1), .second, .val (.long q2), .second, .val (.long q3), .second, .val (.int (q0.toInt32)), .val (.int ((own_shrL q0 (32 : Int32)).toInt32)), .val (.int (q1.toInt32)), .val (.int ((own_shrL q1 (32 : Int32)).toInt32)), .val (.int (q2.toInt32)), .val (.int ((own_shrL q2 (32 : Int32)).toInt32)), .val (.int (q3.toInt32)), .val (.int ((own_shrL q3 (32 : Int32)).toInt32)), .val (.ref b1), .val (.ref b8), .val (.ref br_25)]) rfl ?_
    show Steps p.tables e below (T25.setTop (mkF m 91 #[.val (.long q0), .second, .val (.long q1), .second, .val (.long q2), .second, .val (.long q3), .second, .val (.int (q0.toInt32)), .val (.int ((own_shrL q0 (32 : Int32)).toInt32)), .val (.int (q1.toInt32)), .val (.int ((own_shrL q1 (32 : Int32)).toInt32)), .val (.int (q2.toInt32)), .val (.int ((own_shrL q2 (32 : Int32)).toInt32)), .val (.int (q3.toInt32)), .val (.int ((own_shrL q3 (32 : Int32)).toInt32)), .val (.ref b1), .val (.ref b8), .val (.ref br_25)] [])) _
    refine XS.aload X25.here hx rfl (hb hby at_91) rfl rfl ?_
    show Steps p.tables e below (T25.setTop (mkF m 93 #[.val (.long q0), .second, .val (.long q1), .second, .val (.long q2), .second, .val (.long q3), .second, .val (.int (q0.toInt32)), .val (.int ((own_shrL q0 (32 : Int32)).toInt32)), .val (.int (q1.toInt32)), .val (.int ((own_shrL q1 (32 : Int32)).toInt32)), .val (.int (q2.toInt32)), .val (.int ((own_shrL q2 (32 : Int32)).toInt32)), .val (.int (q3.toInt32)), .val (.int ((own_shrL q3 (32 : Int32)).toInt32)), .val (.ref b1), .val (.ref b8), .val (.ref br_25)] [(.ref br_25)])) _
    exact k
  obtain ⟨cq36, kq36, q36a, q36b, q36c⟩ := isOf hZ rfl p25_0
  obtain ⟨_, _, ⟨T36, Lq36, kq36, nq36⟩, -, X36, ⟨Lc36, hQ36, lq36, yq36, zq36⟩, st36⟩ := X25.virtualBack hx (y := (⟨"com/example/comment_binder/commentbinder/scoring/Score", "correct", "()I"⟩ : MethodName)) (z := (⟨"com/example/comment_binder/commentbinder/scoring/Score", "correct", "()I"⟩ : MethodName)) hown (mvT hZ (hw _ (List.mem_of_getElem? (i := 29) rfl))) (mvT hZ (hw _ (List.mem_of_getElem? (i := 30) rfl))) (notFace_of_selects (args := #[]) (mvT hZ (hw _ (List.mem_of_getElem? (i := 32) rfl)))) (mvT hZ (hw _ (List.mem_of_getElem? (i := 32) rfl))) (mvT hZ (hw _ (List.mem_of_getElem? (i := 31) rfl))) (by decide) (backOf (W := 0) (own_rm3 l Z a0 hw [] br_25 (((q0.toInt32) + ((own_shrL q0 (32 : Int32)).toInt32))) T25.heap n0 Zs25 p25_1) hZ (hw _ (List.mem_of_getElem? (i := 33) rfl)) (hw _ (List.mem_of_getElem? (i := 2) rfl)) (by decide) (by decide)) q36a q36c (g := (mkF m 93 #[.val (.long q0), .second, .val (.long q1), .second, .val (.long q2), .second, .val (.long q3), .second, .val (.int (q0.toInt32)), .val (.int ((own_shrL q0 (32 : Int32)).toInt32)), .val (.int (q1.toInt32)), .val (.int ((own_shrL q1 (32 : Int32)).toInt32)), .val (.int (q2.toInt32)), .val (.int ((own_shrL q2 (32 : Int32)).toInt32)), .val (.int (q3.toInt32)), .val (.int ((own_shrL q3 (32 : Int32)).toInt32)), .val (.ref b1), .val (.ref b8), .val (.ref br_25)] [(.ref br_25)])) rfl (by rw [hml]; rfl) (Steps.refl _) (argsL := []) (rest := []) (lenOf own_pd3 rfl) rfl (by show 2 * 0 + _ ≤ _; exact Nat.le_of_eq rfl) (hb hby at_93) (fun _ _ => ⟨rfl, rfl, (by decide : 3 + 0 ≤ _), (by decide : 12 + 0 ≤ _)⟩)
  dsimp only [Pt.U, Pt.locs, Pt.cells, Pt.slots] at X36 lq36 yq36 zq36 st36 hQ36
  subst lq36 yq36 zq36
  obtain ⟨rfl, N36q, h36q⟩ := hQ36
  have N36 := Fr.app N25 N36q
  refine own_go (T' := T36) (f' := (mkF m 96 #[.val (.long q0), .second, .val (.long q1), .second, .val (.long q2), .second, .val (.long q3), .second, .val (.int (q0.toInt32)), .val (.int ((own_shrL q0 (32 : Int32)).toInt32)), .val (.int (q1.toInt32)), .val (.int ((own_shrL q1 (32 : Int32)).toInt32)), .val (.int (q2.toInt32)), .val (.int ((own_shrL q2 (32 : Int32)).toInt32)), .val (.int (q3.toInt32)), .val (.int ((own_shrL q3 (32 : Int32)).toInt32)), .val (.ref b1), .val (.ref b8), .val (.ref br_25)] [(.int ((q0.toInt32) + ((own_shrL q0 (32 : Int32)).toInt32)))])) (fun t k => st36.trans k) ?_
  refine own_go (T' := T36) (f' := (mkF m 106 #[.val (.long q0), .second, .val (.long q1), .second, .val (.long q2), .second, .val (.long q3), .second, .val (.int (q0.toInt32)), .val (.int ((own_shrL q0 (32 : Int32)).toInt32)), .val (.int (q1.toInt32)), .val (.int ((own_shrL q1 (32 : Int32)).toInt32)), .val (.int (q2.toInt32)), .val (.int ((own_shrL q2 (32 : Int32)).toInt32)), .val (.int (q3.toInt32)), .val (.int ((own_shrL q3 (32 : Int32)).toInt32)), .val (.ref b1), .val (.ref b8), .val (.ref br_25)] [(.ref br_25)])) (fun t k => ?_) ?_
  · show Steps p.tables e below (T36.setTop (mkF m 96 #[.val (.long q0), .second, .val (.long q1), .second, .val (.long q2), .second, .val (.long q3), .second, .val (.int (q0.toInt32)), .val (.int ((own_shrL q0 (32 : Int32)).toInt32)), .val (.int (q1.toInt32)), .val (.int ((own_shrL q1 (32 : Int32)).toInt32)), .val (.int (q2.toInt32)), .val (.int ((own_shrL q2 (32 : Int32)).toInt32)), .val (.int (q3.toInt32)), .val (.int ((own_shrL q3 (32 : Int32)).toInt32)), .val (.ref b1), .val (.ref b8), .val (.ref br_25)] [(.int ((q0.toInt32) + ((own_shrL q0 (32 : Int32)).toInt32)))])) _
    refine XS.iload X36.here hx rfl (hb hby at_96) rfl ?_
    show Steps p.tables e below (T36.setTop (mkF m 98 #[.val (.long q0), .second, .val (.long q1), .second, .val (.long q2), .second, .val (.long q3), .second, .val (.int (q0.toInt32)), .val (.int ((own_shrL q0 (32 : Int32)).toInt32)), .val (.int (q1.toInt32)), .val (.int ((own_shrL q1 (32 : Int32)).toInt32)), .val (.int (q2.toInt32)), .val (.int ((own_shrL q2 (32 : Int32)).toInt32)), .val (.int (q3.toInt32)), .val (.int ((own_shrL q3 (32 : Int32)).toInt32)), .val (.ref b1), .val (.ref b8), .val (.ref br_25)] [(.int (q0.toInt32)), (.int ((q0.toInt32) + ((own_shrL q0 (32 : Int32)).toInt32)))])) _
    refine XS.iload X36.here hx rfl (hb hby at_98) rfl ?_
    show Steps p.tables e below (T36.setTop (mkF m 100 #[.val (.long q0), .second, .val (.long q1), .second, .val (.long q2), .second, .val (.long q3), .second, .val (.int (q0.toInt32)), .val (.int ((own_shrL q0 (32 : Int32)).toInt32)), .val (.int (q1.toInt32)), .val (.int ((own_shrL q1 (32 : Int32)).toInt32)), .val (.int (q2.toInt32)), .val (.int ((own_shrL q2 (32 : Int32)).toInt32)), .val (.int (q3.toInt32)), .val (.int ((own_shrL q3 (32 : Int32)).toInt32)), .val (.ref b1), .val (.ref b8), .val (.ref br_25)] [(.int ((own_shrL q0 (32 : Int32)).toInt32)), (.int (q0.toInt32)), (.int ((q0.toInt32) + ((own_shrL q0 (32 : Int32)).toInt32)))])) _
    refine XS.iadd X36.here hx rfl (hb hby at_100) rfl ?_
    show Steps p.tables e below (T36.setTop (mkF m 101 #[.val (.long q0), .second, .val (.long q1), .second, .val (.long q2), .second, .val (.long q3), .second, .val (.int (q0.toInt32)), .val (.int ((own_shrL q0 (32 : Int32)).toInt32)), .val (.int (q1.toInt32)), .val (.int ((own_shrL q1 (32 : Int32)).toInt32)), .val (.int (q2.toInt32)), .val (.int ((own_shrL q2 (32 : Int32)).toInt32)), .val (.int (q3.toInt32)), .val (.int ((own_shrL q3 (32 : Int32)).toInt32)), .val (.ref b1), .val (.ref b8), .val (.ref br_25)] [(.int ((q0.toInt32) + ((own_shrL q0 (32 : Int32)).toInt32))), (.int ((q0.toInt32) + ((own_shrL q0 (32 : Int32)).toInt32)))])) _
    refine XS.icmpNo X36.here hx rfl (hb hby at_101) rfl (teq (rfl : ((q0.toInt32) + ((own_shrL q0 (32 : Int32)).toInt32)) = ((q0.toInt32) + ((own_shrL q0 (32 : Int32)).toInt32)))).2 ?_
    show Steps p.tables e below (T36.setTop (mkF m 104 #[.val (.long q0), .second, .val (.long q1), .second, .val (.long q2), .second, .val (.long q3), .second, .val (.int (q0.toInt32)), .val (.int ((own_shrL q0 (32 : Int32)).toInt32)), .val (.int (q1.toInt32)), .val (.int ((own_shrL q1 (32 : Int32)).toInt32)), .val (.int (q2.toInt32)), .val (.int ((own_shrL q2 (32 : Int32)).toInt32)), .val (.int (q3.toInt32)), .val (.int ((own_shrL q3 (32 : Int32)).toInt32)), .val (.ref b1), .val (.ref b8), .val (.ref br_25)] [])) _
    refine XS.aload X36.here hx rfl (hb hby at_104) rfl rfl ?_
    show Steps p.tables e below (T36.setTop (mkF m 106 #[.val (.long q0), .second, .val (.long q1), .second, .val (.long q2), .second, .val (.long q3), .second, .val (.int (q0.toInt32)), .val (.int ((own_shrL q0 (32 : Int32)).toInt32)), .val (.int (q1.toInt32)), .val (.int ((own_shrL q1 (32 : Int32)).toInt32)), .val (.int (q2.toInt32)), .val (.int ((own_shrL q2 (32 : Int32)).toInt32)), .val (.int (q3.toInt32)), .val (.int ((own_shrL q3 (32 : Int32)).toInt32)), .val (.ref b1), .val (.ref b8), .val (.ref br_25)] [(.ref br_25)])) _
    exact k
  obtain ⟨cq37, kq37, q37a, q37b, q37c⟩ := isOf hZ h36q p25_0
  obtain ⟨_, _, ⟨T37, Lq37, kq37, nq37⟩, -, X37, ⟨Lc37, hQ37, lq37, yq37, zq37⟩, st37⟩ := X36.virtualBack hx (y := (⟨"com/example/comment_binder/commentbinder/scoring/Score", "changed", "()I"⟩ : MethodName)) (z := (⟨"com/example/comment_binder/commentbinder/scoring/Score", "changed", "()I"⟩ : MethodName)) hown (mvT hZ (hw _ (List.mem_of_getElem? (i := 34) rfl))) (mvT hZ (hw _ (List.mem_of_getElem? (i := 35) rfl))) (notFace_of_selects (args := #[]) (mvT hZ (hw _ (List.mem_of_getElem? (i := 37) rfl)))) (mvT hZ (hw _ (List.mem_of_getElem? (i := 37) rfl))) (mvT hZ (hw _ (List.mem_of_getElem? (i := 36) rfl))) (by decide) (backOf (W := 0) (own_rm4 l Z a0 hw [] br_25 (((q1.toInt32) + ((own_shrL q1 (32 : Int32)).toInt32))) T25.heap n0 Zs25 p25_2) hZ (hw _ (List.mem_of_getElem? (i := 38) rfl)) (hw _ (List.mem_of_getElem? (i := 2) rfl)) (by decide) (by decide)) q37a q37c (g := (mkF m 106 #[.val (.long q0), .second, .val (.long q1), .second, .val (.long q2), .second, .val (.long q3), .second, .val (.int (q0.toInt32)), .val (.int ((own_shrL q0 (32 : Int32)).toInt32)), .val (.int (q1.toInt32)), .val (.int ((own_shrL q1 (32 : Int32)).toInt32)), .val (.int (q2.toInt32)), .val (.int ((own_shrL q2 (32 : Int32)).toInt32)), .val (.int (q3.toInt32)), .val (.int ((own_shrL q3 (32 : Int32)).toInt32)), .val (.ref b1), .val (.ref b8), .val (.ref br_25)] [(.ref br_25)])) rfl (by rw [hml]; rfl) (Steps.refl _) (argsL := []) (rest := []) (lenOf own_pd3 rfl) rfl (by show 2 * 0 + _ ≤ _; exact Nat.le_of_eq rfl) (hb hby at_106) (fun _ _ => ⟨rfl, h36q, (by decide : 3 + 0 ≤ _), (by decide : 12 + 0 ≤ _)⟩)
  dsimp only [Pt.U, Pt.locs, Pt.cells, Pt.slots] at X37 lq37 yq37 zq37 st37 hQ37
  subst lq37 yq37 zq37
  obtain ⟨rfl, N37q, h37q⟩ := hQ37
  have N37 := Fr.app N36 N37q
  refine own_go (T' := T37) (f' := (mkF m 109 #[.val (.long q0), .second, .val (.long q1), .second, .val (.long q2), .second, .val (.long q3), .second, .val (.int (q0.toInt32)), .val (.int ((own_shrL q0 (32 : Int32)).toInt32)), .val (.int (q1.toInt32)), .val (.int ((own_shrL q1 (32 : Int32)).toInt32)), .val (.int (q2.toInt32)), .val (.int ((own_shrL q2 (32 : Int32)).toInt32)), .val (.int (q3.toInt32)), .val (.int ((own_shrL q3 (32 : Int32)).toInt32)), .val (.ref b1), .val (.ref b8), .val (.ref br_25)] [(.int ((q1.toInt32) + ((own_shrL q1 (32 : Int32)).toInt32)))])) (fun t k => st37.trans k) ?_
  refine own_go (T' := T37) (f' := (mkF m 119 #[.val (.long q0), .second, .val (.long q1), .second, .val (.long q2), .second, .val (.long q3), .second, .val (.int (q0.toInt32)), .val (.int ((own_shrL q0 (32 : Int32)).toInt32)), .val (.int (q1.toInt32)), .val (.int ((own_shrL q1 (32 : Int32)).toInt32)), .val (.int (q2.toInt32)), .val (.int ((own_shrL q2 (32 : Int32)).toInt32)), .val (.int (q3.toInt32)), .val (.int ((own_shrL q3 (32 : Int32)).toInt32)), .val (.ref b1), .val (.ref b8), .val (.ref br_25)] [(.ref br_25)])) (fun t k => ?_) ?_
  · show Steps p.tables e below (T37.setTop (mkF m 109 #[.val (.long q0), .second, .val (.long q1), .second, .val (.long q2), .second, .val (.long q3), .second, .val (.int (q0.toInt32)), .val (.int ((own_shrL q0 (32 : Int32)).toInt32)), .val (.int (q1.toInt32)), .val (.int ((own_shrL q1 (32 : Int32)).toInt32)), .val (.int (q2.toInt32)), .val (.int ((own_shrL q2 (32 : Int32)).toInt32)), .val (.int (q3.toInt32)), .val (.int ((own_shrL q3 (32 : Int32)).toInt32)), .val (.ref b1), .val (.ref b8), .val (.ref br_25)] [(.int ((q1.toInt32) + ((own_shrL q1 (32 : Int32)).toInt32)))])) _
    refine XS.iload X37.here hx rfl (hb hby at_109) rfl ?_
    show Steps p.tables e below (T37.setTop (mkF m 111 #[.val (.long q0), .second, .val (.long q1), .second, .val (.long q2), .second, .val (.long q3), .second, .val (.int (q0.toInt32)), .val (.int ((own_shrL q0 (32 : Int32)).toInt32)), .val (.int (q1.toInt32)), .val (.int ((own_shrL q1 (32 : Int32)).toInt32)), .val (.int (q2.toInt32)), .val (.int ((own_shrL q2 (32 : Int32)).toInt32)), .val (.int (q3.toInt32)), .val (.int ((own_shrL q3 (32 : Int32)).toInt32)), .val (.ref b1), .val (.ref b8), .val (.ref br_25)] [(.int (q1.toInt32)), (.int ((q1.toInt32) + ((own_shrL q1 (32 : Int32)).toInt32)))])) _
    refine XS.iload X37.here hx rfl (hb hby at_111) rfl ?_
    show Steps p.tables e below (T37.setTop (mkF m 113 #[.val (.long q0), .second, .val (.long q1), .second, .val (.long q2), .second, .val (.long q3), .second, .val (.int (q0.toInt32)), .val (.int ((own_shrL q0 (32 : Int32)).toInt32)), .val (.int (q1.toInt32)), .val (.int ((own_shrL q1 (32 : Int32)).toInt32)), .val (.int (q2.toInt32)), .val (.int ((own_shrL q2 (32 : Int32)).toInt32)), .val (.int (q3.toInt32)), .val (.int ((own_shrL q3 (32 : Int32)).toInt32)), .val (.ref b1), .val (.ref b8), .val (.ref br_25)] [(.int ((own_shrL q1 (32 : Int32)).toInt32)), (.int (q1.toInt32)), (.int ((q1.toInt32) + ((own_shrL q1 (32 : Int32)).toInt32)))])) _
    refine XS.iadd X37.here hx rfl (hb hby at_113) rfl ?_
    show Steps p.tables e below (T37.setTop (mkF m 114 #[.val (.long q0), .second, .val (.long q1), .second, .val (.long q2), .second, .val (.long q3), .second, .val (.int (q0.toInt32)), .val (.int ((own_shrL q0 (32 : Int32)).toInt32)), .val (.int (q1.toInt32)), .val (.int ((own_shrL q1 (32 : Int32)).toInt32)), .val (.int (q2.toInt32)), .val (.int ((own_shrL q2 (32 : Int32)).toInt32)), .val (.int (q3.toInt32)), .val (.int ((own_shrL q3 (32 : Int32)).toInt32)), .val (.ref b1), .val (.ref b8), .val (.ref br_25)] [(.int ((q1.toInt32) + ((own_shrL q1 (32 : Int32)).toInt32))), (.int ((q1.toInt32) + ((own_shrL q1 (32 : Int32)).toInt32)))])) _
    refine XS.icmpNo X37.here hx rfl (hb hby at_114) rfl (teq (rfl : ((q1.toInt32) + ((own_shrL q1 (32 : Int32)).toInt32)) = ((q1.toInt32) + ((own_shrL q1 (32 : Int32)).toInt32)))).2 ?_
    show Steps p.tables e below (T37.setTop (mkF m 117 #[.val (.long q0), .second, .val (.long q1), .second, .val (.long q2), .second, .val (.long q3), .second, .val (.int (q0.toInt32)), .val (.int ((own_shrL q0 (32 : Int32)).toInt32)), .val (.int (q1.toInt32)), .val (.int ((own_shrL q1 (32 : Int32)).toInt32)), .val (.int (q2.toInt32)), .val (.int ((own_shrL q2 (32 : Int32)).toInt32)), .val (.int (q3.toInt32)), .val (.int ((own_shrL q3 (32 : Int32)).toInt32)), .val (.ref b1), .val (.ref b8), .val (.ref br_25)] [])) _
    refine XS.aload X37.here hx rfl (hb hby at_117) rfl rfl ?_
    show Steps p.tables e below (T37.setTop (mkF m 119 #[.val (.long q0), .second, .val (.long q1), .second, .val (.long q2), .second, .val (.long q3), .second, .val (.int (q0.toInt32)), .val (.int ((own_shrL q0 (32 : Int32)).toInt32)), .val (.int (q1.toInt32)), .val (.int ((own_shrL q1 (32 : Int32)).toInt32)), .val (.int (q2.toInt32)), .val (.int ((own_shrL q2 (32 : Int32)).toInt32)), .val (.int (q3.toInt32)), .val (.int ((own_shrL q3 (32 : Int32)).toInt32)), .val (.ref b1), .val (.ref b8), .val (.ref br_25)] [(.ref br_25)])) _
    exact k
  obtain ⟨cq38, kq38, q38a, q38b, q38c⟩ := isOf hZ h37q p25_0
  obtain ⟨_, _, ⟨T38, Lq38, kq38, nq38⟩, -, X38, ⟨Lc38, hQ38, lq38, yq38, zq38⟩, st38⟩ := X37.virtualBack hx (y := (⟨"com/example/comment_binder/commentbinder/scoring/Score", "lost", "()I"⟩ : MethodName)) (z := (⟨"com/example/comment_binder/commentbinder/scoring/Score", "lost", "()I"⟩ : MethodName)) hown (mvT hZ (hw _ (List.mem_of_getElem? (i := 39) rfl))) (mvT hZ (hw _ (List.mem_of_getElem? (i := 40) rfl))) (notFace_of_selects (args := #[]) (mvT hZ (hw _ (List.mem_of_getElem? (i := 42) rfl)))) (mvT hZ (hw _ (List.mem_of_getElem? (i := 42) rfl))) (mvT hZ (hw _ (List.mem_of_getElem? (i := 41) rfl))) (by decide) (backOf (W := 0) (own_rm5 l Z a0 hw [] br_25 (((q2.toInt32) + ((own_shrL q2 (32 : Int32)).toInt32))) T25.heap n0 Zs25 p25_3) hZ (hw _ (List.mem_of_getElem? (i := 43) rfl)) (hw _ (List.mem_of_getElem? (i := 2) rfl)) (by decide) (by decide)) q38a q38c (g := (mkF m 119 #[.val (.long q0), .second, .val (.long q1), .second, .val (.long q2), .second, .val (.long q3), .second, .val (.int (q0.toInt32)), .val (.int ((own_shrL q0 (32 : Int32)).toInt32)), .val (.int (q1.toInt32)), .val (.int ((own_shrL q1 (32 : Int32)).toInt32)), .val (.int (q2.toInt32)), .val (.int ((own_shrL q2 (32 : Int32)).toInt32)), .val (.int (q3.toInt32)), .val (.int ((own_shrL q3 (32 : Int32)).toInt32)), .val (.ref b1), .val (.ref b8), .val (.ref br_25)] [(.ref br_25)])) rfl (by rw [hml]; rfl) (Steps.refl _) (argsL := []) (rest := []) (lenOf own_pd3 rfl) rfl (by show 2 * 0 + _ ≤ _; exact Nat.le_of_eq rfl) (hb hby at_119) (fun _ _ => ⟨rfl, h37q, (by decide : 3 + 0 ≤ _), (by decide : 12 + 0 ≤ _)⟩)
  dsimp only [Pt.U, Pt.locs, Pt.cells, Pt.slots] at X38 lq38 yq38 zq38 st38 hQ38
  subst lq38 yq38 zq38
  obtain ⟨rfl, N38q, h38q⟩ := hQ38
  have N38 := Fr.app N37 N38q
  refine own_go (T' := T38) (f' := (mkF m 122 #[.val (.long q0), .second, .val (.long q1), .second, .val (.long q2), .second, .val (.long q3), .second, .val (.int (q0.toInt32)), .val (.int ((own_shrL q0 (32 : Int32)).toInt32)), .val (.int (q1.toInt32)), .val (.int ((own_shrL q1 (32 : Int32)).toInt32)), .val (.int (q2.toInt32)), .val (.int ((own_shrL q2 (32 : Int32)).toInt32)), .val (.int (q3.toInt32)), .val (.int ((own_shrL q3 (32 : Int32)).toInt32)), .val (.ref b1), .val (.ref b8), .val (.ref br_25)] [(.int ((q2.toInt32) + ((own_shrL q2 (32 : Int32)).toInt32)))])) (fun t k => st38.trans k) ?_
  refine own_go (T' := T38) (f' := (mkF m 132 #[.val (.long q0), .second, .val (.long q1), .second, .val (.long q2), .second, .val (.long q3), .second, .val (.int (q0.toInt32)), .val (.int ((own_shrL q0 (32 : Int32)).toInt32)), .val (.int (q1.toInt32)), .val (.int ((own_shrL q1 (32 : Int32)).toInt32)), .val (.int (q2.toInt32)), .val (.int ((own_shrL q2 (32 : Int32)).toInt32)), .val (.int (q3.toInt32)), .val (.int ((own_shrL q3 (32 : Int32)).toInt32)), .val (.ref b1), .val (.ref b8), .val (.ref br_25)] [(.ref br_25)])) (fun t k => ?_) ?_
  · show Steps p.tables e below (T38.setTop (mkF m 122 #[.val (.long q0), .second, .val (.long q1), .second, .val (.long q2), .second, .val (.long q3), .second, .val (.int (q0.toInt32)), .val (.int ((own_shrL q0 (32 : Int32)).toInt32)), .val (.int (q1.toInt32)), .val (.int ((own_shrL q1 (32 : Int32)).toInt32)), .val (.int (q2.toInt32)), .val (.int ((own_shrL q2 (32 : Int32)).toInt32)), .val (.int (q3.toInt32)), .val (.int ((own_shrL q3 (32 : Int32)).toInt32)), .val (.ref b1), .val (.ref b8), .val (.ref br_25)] [(.int ((q2.toInt32) + ((own_shrL q2 (32 : Int32)).toInt32)))])) _
    refine XS.iload X38.here hx rfl (hb hby at_122) rfl ?_
    show Steps p.tables e below (T38.setTop (mkF m 124 #[.val (.long q0), .second, .val (.long q1), .second, .val (.long q2), .second, .val (.long q3), .second, .val (.int (q0.toInt32)), .val (.int ((own_shrL q0 (32 : Int32)).toInt32)), .val (.int (q1.toInt32)), .val (.int ((own_shrL q1 (32 : Int32)).toInt32)), .val (.int (q2.toInt32)), .val (.int ((own_shrL q2 (32 : Int32)).toInt32)), .val (.int (q3.toInt32)), .val (.int ((own_shrL q3 (32 : Int32)).toInt32)), .val (.ref b1), .val (.ref b8), .val (.ref br_25)] [(.int (q2.toInt32)), (.int ((q2.toInt32) + ((own_shrL q2 (32 : Int32)).toInt32)))])) _
    refine XS.iload X38.here hx rfl (hb hby at_124) rfl ?_
    show Steps p.tables e below (T38.setTop (mkF m 126 #[.val (.long q0), .second, .val (.long q1), .second, .val (.long q2), .second, .val (.long q3), .second, .val (.int (q0.toInt32)), .val (.int ((own_shrL q0 (32 : Int32)).toInt32)), .val (.int (q1.toInt32)), .val (.int ((own_shrL q1 (32 : Int32)).toInt32)), .val (.int (q2.toInt32)), .val (.int ((own_shrL q2 (32 : Int32)).toInt32)), .val (.int (q3.toInt32)), .val (.int ((own_shrL q3 (32 : Int32)).toInt32)), .val (.ref b1), .val (.ref b8), .val (.ref br_25)] [(.int ((own_shrL q2 (32 : Int32)).toInt32)), (.int (q2.toInt32)), (.int ((q2.toInt32) + ((own_shrL q2 (32 : Int32)).toInt32)))])) _
    refine XS.iadd X38.here hx rfl (hb hby at_126) rfl ?_
    show Steps p.tables e below (T38.setTop (mkF m 127 #[.val (.long q0), .second, .val (.long q1), .second, .val (.long q2), .second, .val (.long q3), .second, .val (.int (q0.toInt32)), .val (.int ((own_shrL q0 (32 : Int32)).toInt32)), .val (.int (q1.toInt32)), .val (.int ((own_shrL q1 (32 : Int32)).toInt32)), .val (.int (q2.toInt32)), .val (.int ((own_shrL q2 (32 : Int32)).toInt32)), .val (.int (q3.toInt32)), .val (.int ((own_shrL q3 (32 : Int32)).toInt32)), .val (.ref b1), .val (.ref b8), .val (.ref br_25)] [(.int ((q2.toInt32) + ((own_shrL q2 (32 : Int32)).toInt32))), (.int ((q2.toInt32) + ((own_shrL q2 (32 : Int32)).toInt32)))])) _
    refine XS.icmpNo X38.here hx rfl (hb hby at_127) rfl (teq (rfl : ((q2.toInt32) + ((own_shrL q2 (32 : Int32)).toInt32)) = ((q2.toInt32) + ((own_shrL q2 (32 : Int32)).toInt32)))).2 ?_
    show Steps p.tables e below (T38.setTop (mkF m 130 #[.val (.long q0), .second, .val (.long q1), .second, .val (.long q2), .second, .val (.long q3), .second, .val (.int (q0.toInt32)), .val (.int ((own_shrL q0 (32 : Int32)).toInt32)), .val (.int (q1.toInt32)), .val (.int ((own_shrL q1 (32 : Int32)).toInt32)), .val (.int (q2.toInt32)), .val (.int ((own_shrL q2 (32 : Int32)).toInt32)), .val (.int (q3.toInt32)), .val (.int ((own_shrL q3 (32 : Int32)).toInt32)), .val (.ref b1), .val (.ref b8), .val (.ref br_25)] [])) _
    refine XS.aload X38.here hx rfl (hb hby at_130) rfl rfl ?_
    show Steps p.tables e below (T38.setTop (mkF m 132 #[.val (.long q0), .second, .val (.long q1), .second, .val (.long q2), .second, .val (.long q3), .second, .val (.int (q0.toInt32)), .val (.int ((own_shrL q0 (32 : Int32)).toInt32)), .val (.int (q1.toInt32)), .val (.int ((own_shrL q1 (32 : Int32)).toInt32)), .val (.int (q2.toInt32)), .val (.int ((own_shrL q2 (32 : Int32)).toInt32)), .val (.int (q3.toInt32)), .val (.int ((own_shrL q3 (32 : Int32)).toInt32)), .val (.ref b1), .val (.ref b8), .val (.ref br_25)] [(.ref br_25)])) _
    exact k
  obtain ⟨cq39, kq39, q39a, q39b, q39c⟩ := isOf hZ h38q p25_0
  obtain ⟨_, _, ⟨T39, Lq39, kq39, nq39⟩, -, X39, ⟨Lc39, hQ39, lq39, yq39, zq39⟩, st39⟩ := X38.virtualBack hx (y := (⟨"com/example/comment_binder/commentbinder/scoring/Score", "spurious", "()I"⟩ : MethodName)) (z := (⟨"com/example/comment_binder/commentbinder/scoring/Score", "spurious", "()I"⟩ : MethodName)) hown (mvT hZ (hw _ (List.mem_of_getElem? (i := 44) rfl))) (mvT hZ (hw _ (List.mem_of_getElem? (i := 45) rfl))) (notFace_of_selects (args := #[]) (mvT hZ (hw _ (List.mem_of_getElem? (i := 47) rfl)))) (mvT hZ (hw _ (List.mem_of_getElem? (i := 47) rfl))) (mvT hZ (hw _ (List.mem_of_getElem? (i := 46) rfl))) (by decide) (backOf (W := 0) (own_rm6 l Z a0 hw [] br_25 (((q3.toInt32) + ((own_shrL q3 (32 : Int32)).toInt32))) T25.heap n0 Zs25 p25_4) hZ (hw _ (List.mem_of_getElem? (i := 48) rfl)) (hw _ (List.mem_of_getElem? (i := 2) rfl)) (by decide) (by decide)) q39a q39c (g := (mkF m 132 #[.val (.long q0), .second, .val (.long q1), .second, .val (.long q2), .second, .val (.long q3), .second, .val (.int (q0.toInt32)), .val (.int ((own_shrL q0 (32 : Int32)).toInt32)), .val (.int (q1.toInt32)), .val (.int ((own_shrL q1 (32 : Int32)).toInt32)), .val (.int (q2.toInt32)), .val (.int ((own_shrL q2 (32 : Int32)).toInt32)), .val (.int (q3.toInt32)), .val (.int ((own_shrL q3 (32 : Int32)).toInt32)), .val (.ref b1), .val (.ref b8), .val (.ref br_25)] [(.ref br_25)])) rfl (by rw [hml]; rfl) (Steps.refl _) (argsL := []) (rest := []) (lenOf own_pd3 rfl) rfl (by show 2 * 0 + _ ≤ _; exact Nat.le_of_eq rfl) (hb hby at_132) (fun _ _ => ⟨rfl, h38q, (by decide : 3 + 0 ≤ _), (by decide : 12 + 0 ≤ _)⟩)
  dsimp only [Pt.U, Pt.locs, Pt.cells, Pt.slots] at X39 lq39 yq39 zq39 st39 hQ39
  subst lq39 yq39 zq39
  obtain ⟨rfl, N39q, h39q⟩ := hQ39
  have N39 := Fr.app N38 N39q
  refine own_go (T' := T39) (f' := (mkF m 135 #[.val (.long q0), .second, .val (.long q1), .second, .val (.long q2), .second, .val (.long q3), .second, .val (.int (q0.toInt32)), .val (.int ((own_shrL q0 (32 : Int32)).toInt32)), .val (.int (q1.toInt32)), .val (.int ((own_shrL q1 (32 : Int32)).toInt32)), .val (.int (q2.toInt32)), .val (.int ((own_shrL q2 (32 : Int32)).toInt32)), .val (.int (q3.toInt32)), .val (.int ((own_shrL q3 (32 : Int32)).toInt32)), .val (.ref b1), .val (.ref b8), .val (.ref br_25)] [(.int ((q3.toInt32) + ((own_shrL q3 (32 : Int32)).toInt32)))])) (fun t k => st39.trans k) ?_
  refine own_go (T' := T39) (f' := (mkF m 148 #[.val (.long q0), .second, .val (.long q1), .second, .val (.long q2), .second, .val (.long q3), .second, .val (.int (q0.toInt32)), .val (.int ((own_shrL q0 (32 : Int32)).toInt32)), .val (.int (q1.toInt32)), .val (.int ((own_shrL q1 (32 : Int32)).toInt32)), .val (.int (q2.toInt32)), .val (.int ((own_shrL q2 (32 : Int32)).toInt32)), .val (.int (q3.toInt32)), .val (.int ((own_shrL q3 (32 : Int32)).toInt32)), .val (.ref b1), .val (.ref b8), .val (.ref br_25)] [(.int (1 : Int32))])) (fun t k => ?_) ?_
  · show Steps p.tables e below (T39.setTop (mkF m 135 #[.val (.long q0), .second, .val (.long q1), .second, .val (.long q2), .second, .val (.long q3), .second, .val (.int (q0.toInt32)), .val (.int ((own_shrL q0 (32 : Int32)).toInt32)), .val (.int (q1.toInt32)), .val (.int ((own_shrL q1 (32 : Int32)).toInt32)), .val (.int (q2.toInt32)), .val (.int ((own_shrL q2 (32 : Int32)).toInt32)), .val (.int (q3.toInt32)), .val (.int ((own_shrL q3 (32 : Int32)).toInt32)), .val (.ref b1), .val (.ref b8), .val (.ref br_25)] [(.int ((q3.toInt32) + ((own_shrL q3 (32 : Int32)).toInt32)))])) _
    refine XS.iload X39.here hx rfl (hb hby at_135) rfl ?_
    show Steps p.tables e below (T39.setTop (mkF m 137 #[.val (.long q0), .second, .val (.long q1), .second, .val (.long q2), .second, .val (.long q3), .second, .val (.int (q0.toInt32)), .val (.int ((own_shrL q0 (32 : Int32)).toInt32)), .val (.int (q1.toInt32)), .val (.int ((own_shrL q1 (32 : Int32)).toInt32)), .val (.int (q2.toInt32)), .val (.int ((own_shrL q2 (32 : Int32)).toInt32)), .val (.int (q3.toInt32)), .val (.int ((own_shrL q3 (32 : Int32)).toInt32)), .val (.ref b1), .val (.ref b8), .val (.ref br_25)] [(.int (q3.toInt32)), (.int ((q3.toInt32) + ((own_shrL q3 (32 : Int32)).toInt32)))])) _
    refine XS.iload X39.here hx rfl (hb hby at_137) rfl ?_
    show Steps p.tables e below (T39.setTop (mkF m 139 #[.val (.long q0), .second, .val (.long q1), .second, .val (.long q2), .second, .val (.long q3), .second, .val (.int (q0.toInt32)), .val (.int ((own_shrL q0 (32 : Int32)).toInt32)), .val (.int (q1.toInt32)), .val (.int ((own_shrL q1 (32 : Int32)).toInt32)), .val (.int (q2.toInt32)), .val (.int ((own_shrL q2 (32 : Int32)).toInt32)), .val (.int (q3.toInt32)), .val (.int ((own_shrL q3 (32 : Int32)).toInt32)), .val (.ref b1), .val (.ref b8), .val (.ref br_25)] [(.int ((own_shrL q3 (32 : Int32)).toInt32)), (.int (q3.toInt32)), (.int ((q3.toInt32) + ((own_shrL q3 (32 : Int32)).toInt32)))])) _
    refine XS.iadd X39.here hx rfl (hb hby at_139) rfl ?_
    show Steps p.tables e below (T39.setTop (mkF m 140 #[.val (.long q0), .second, .val (.long q1), .second, .val (.long q2), .second, .val (.long q3), .second, .val (.int (q0.toInt32)), .val (.int ((own_shrL q0 (32 : Int32)).toInt32)), .val (.int (q1.toInt32)), .val (.int ((own_shrL q1 (32 : Int32)).toInt32)), .val (.int (q2.toInt32)), .val (.int ((own_shrL q2 (32 : Int32)).toInt32)), .val (.int (q3.toInt32)), .val (.int ((own_shrL q3 (32 : Int32)).toInt32)), .val (.ref b1), .val (.ref b8), .val (.ref br_25)] [(.int ((q3.toInt32) + ((own_shrL q3 (32 : Int32)).toInt32))), (.int ((q3.toInt32) + ((own_shrL q3 (32 : Int32)).toInt32)))])) _
    refine XS.icmpNo X39.here hx rfl (hb hby at_140) rfl (teq (rfl : ((q3.toInt32) + ((own_shrL q3 (32 : Int32)).toInt32)) = ((q3.toInt32) + ((own_shrL q3 (32 : Int32)).toInt32)))).2 ?_
    show Steps p.tables e below (T39.setTop (mkF m 143 #[.val (.long q0), .second, .val (.long q1), .second, .val (.long q2), .second, .val (.long q3), .second, .val (.int (q0.toInt32)), .val (.int ((own_shrL q0 (32 : Int32)).toInt32)), .val (.int (q1.toInt32)), .val (.int ((own_shrL q1 (32 : Int32)).toInt32)), .val (.int (q2.toInt32)), .val (.int ((own_shrL q2 (32 : Int32)).toInt32)), .val (.int (q3.toInt32)), .val (.int ((own_shrL q3 (32 : Int32)).toInt32)), .val (.ref b1), .val (.ref b8), .val (.ref br_25)] [])) _
    refine XS.iconst X39.here hx rfl (hb hby at_143) ?_
    show Steps p.tables e below (T39.setTop (mkF m 144 #[.val (.long q0), .second, .val (.long q1), .second, .val (.long q2), .second, .val (.long q3), .second, .val (.int (q0.toInt32)), .val (.int ((own_shrL q0 (32 : Int32)).toInt32)), .val (.int (q1.toInt32)), .val (.int ((own_shrL q1 (32 : Int32)).toInt32)), .val (.int (q2.toInt32)), .val (.int ((own_shrL q2 (32 : Int32)).toInt32)), .val (.int (q3.toInt32)), .val (.int ((own_shrL q3 (32 : Int32)).toInt32)), .val (.ref b1), .val (.ref b8), .val (.ref br_25)] [(.int (1 : Int32))])) _
    refine XS.goto X39.here hx rfl (pc0 := 144) (pc' := 148) rfl (hb hby at_144) (by decide) (by decide) ?_
    show Steps p.tables e below (T39.setTop (mkF m 148 #[.val (.long q0), .second, .val (.long q1), .second, .val (.long q2), .second, .val (.long q3), .second, .val (.int (q0.toInt32)), .val (.int ((own_shrL q0 (32 : Int32)).toInt32)), .val (.int (q1.toInt32)), .val (.int ((own_shrL q1 (32 : Int32)).toInt32)), .val (.int (q2.toInt32)), .val (.int ((own_shrL q2 (32 : Int32)).toInt32)), .val (.int (q3.toInt32)), .val (.int ((own_shrL q3 (32 : Int32)).toInt32)), .val (.ref b1), .val (.ref b8), .val (.ref br_25)] [(.int (1 : Int32))])) _
    exact k
  obtain ⟨fs, hr, hrun, hended, hW, hsame⟩ := X39.leave (v := some (.int (1 : Int32))) (fun h => by rw [Bd.returns] at h; cases h)
  refine ⟨_, _, ?_, hrun, hended, _, _, rfl, ?_, ⟨_, rfl⟩, hW, hsame.mono (by decide) (by decide)⟩
  · exact retN X39 hx (t := .boolean) Bd.returns (by simp) (hb hby at_148) hr
  · show own_Q0 Z q0 q1 q2 q3 h0 n0 _ T39.heap _
    rw [h39q]
    exact ⟨(congrArg (fun z => some (Value.int z)) ((by rw [own_F0] : (1 : Int32) = own_F0 q0 q1 q2 q3).trans (own_law q0 q1 q2 q3))), N39⟩
set_option maxRecDepth 65536 in
set_option maxHeartbeats 40000000 in
theorem comes_1 {Post : Tables → Env → Array Value → State → Outcome → State → Prop} (hpost : ∀ tb e args s v u, (limb_1_1.after args s (.returned v) u = true ∧ limb_1_2.after args s (.returned v) u = true ∧ True) → FrameEnd s (.returned v) u (Jvm.fieldLocs frame_1_writes args s ++ Jvm.arrayLocs frame_1_arrays args s ++ Jvm.staticLocs frame_1_statics s) 16 128 → Post tb e args s (.returned v) u) :
    ArmFor flags0 classFile x code maxLocals ret World_1 tables_1 room_1 Calls_1 rest_1 Pre_1 Post := by
  intro l hfl _ _ p e ha hc hk s m args below hf hA hF happ hP
  obtain ⟨hcalls, hrest, hpre⟩ := hP
  obtain ⟨-, -, -, hnamed, -, -, -, hat⟩ := (Spec.applies_iff hf).mp happ
  obtain ⟨hg, hn⟩ := and_e (Cond.before_iff.mp (show (Jvm.Cond.and given_1 narrow_1).before args s = true from hpre))
  obtain ⟨hcnt, g0⟩ := and_e hg
  obtain ⟨k0, g1⟩ := and_e g0
  obtain ⟨k1, g2⟩ := and_e g1
  obtain ⟨k2, g3⟩ := and_e g2
  have k3 := g3
  obtain ⟨w0, w1, w2, w3, rfl⟩ : ∃ w0 w1 w2 w3 : Value, args = #[w0, w1, w2, w3] := by
    have hs : args.size = 4 := by simpa [Cond.value, given_1] using hcnt
    obtain ⟨L⟩ := args
    match L, hs with
    | [w0, w1, w2, w3], _ => exact ⟨w0, w1, w2, w3, rfl⟩
  have hw := fun d (hd : d ∈ tables_1) => atoms_spec (ws := Jvm.Cond.code x code maxLocals ret :: tables_1) hat d (List.mem_cons_of_mem _ hd)
  obtain ⟨i0, e0⟩ := isL_v k0
  obtain rfl : w0 = (.long i0) := Option.some.inj e0
  obtain ⟨i1, e1⟩ := isL_v k1
  obtain rfl : w1 = (.long i1) := Option.some.inj e1
  obtain ⟨i2, e2⟩ := isL_v k2
  obtain rfl : w2 = (.long i2) := Option.some.inj e2
  obtain ⟨i3, e3⟩ := isL_v k3
  obtain rfl : w3 = (.long i3) := Option.some.inj e3
  obtain ⟨n, o, h1, h2, h3, _, L, rfl, ⟨hv, N⟩, hq⟩ := own_rm0 l s _ hw tables_1 i0 i1 i2 i3 s.heap s.heap.size (Nat.le_refl _)  p e ha hc hk s m _ below hf ((Spec.applies_iff_loose hf).mp happ).1 ⟨rfl, State.Warmed39.refl s, rfl⟩ trivial
  subst hv
  refine ⟨n, _, h1, h2, h3, hpost _ _ _ _ _ _ ⟨Cond.after_iff.mpr rfl, Cond.after_iff.mpr (eq_i res_at (Term.int_eval (1)) rfl), trivial⟩ ⟨hq.1, hq.2.1, (hq.2.2.sift fun y hy => Or.inr (N y hy)).mono (by decide) (by decide)⟩⟩
theorem main_1_1 : Claimed_1_1 := comes_1 fun _ _ _ _ _ _ h hF => ⟨h.1, hF⟩
theorem main_1_2 : Claimed_1_2 := comes_1 fun _ _ _ _ _ _ h hF => ⟨h.2.1, hF⟩
end Jvm.Pilot.@@N@@
namespace Jvm.Pilot.@@N@@
open Jvm Jvm.ClassFile Sem Op Lib Jvm.Free Jvm.Stand Jvm.Pilot.@@N@@.Jvm.D
/-! MADE BY PROGRAM (witnessworld.py) out of the Statement's table words and the real class files: 10 classes; the members and pool entries that the words name. The judged class is class 1, her method 1. -/
namespace start1
open Jvm.ClassFile
def u (s : String) : CpInfo := .utf8 (stringToUtf16 s)
/-- a pool by its gaps: so many unusable entries, then the entry; so many at the end -/
def gap : Nat → List CpInfo → List CpInfo
  | 0, r => r
  | n + 1, r => .unusable :: gap n r
def poolList (es : List (Nat × CpInfo)) (last : Nat) : List CpInfo := es.foldr (fun e r => gap e.1 (e.2 :: r)) (gap last [])
def pool (es : List (Nat × CpInfo)) (last : Nat) : Array CpInfo := ⟨poolList es last⟩
def fileOf (pool : Array CpInfo) (this : Nat) (attrs : Array Attribute := #[]) (ms : Array MethodInfo := #[]) (fl : Nat := 33) (sup : Nat := 0) (ifs : Array Nat := #[]) (fds : Array FieldInfo := #[]) : ClassFile where
  minorVersion := 0
  majorVersion := 65
  constantPool := pool
  accessFlags := fl
  thisClass := this
  superClass := sup
  interfaces := ifs
  fields := fds
  methods := ms
  attributes := attrs
def plain (name : String) (sup : Option ClassId) : Class where
  name := name
  kind := .ordinary
  loader := none
  accessFlags := 33
  super := sup
  interfaces := #[]
  cf := none
  fields := #[]
  methods := #[]
  instanceTypes := #[]
  staticTypes := #[]
  resolved := #[]
  callSites := []
  init := .initialized
  statics := none
  mirror := none

def pool0 : Array CpInfo := pool [(5, u "<init>"), (0, u "()V"), (1, .class_ 10), (1, u "java/lang/Object")] 113

def k0c0 : Code := { maxStack := 0, maxLocals := 1, code := object_method_1_code, exceptionTable := #[], attributes := #[] }
def k0m0 : Method := { name := "<init>", desc := "()V", sig := { parameters := [], returnType := none }, accessFlags := 1, code := some k0c0 }
/-- java/lang/Object -/
def k0 : Class := { plain "java/lang/Object" none with
  accessFlags := 33
  interfaces := #[]
  cf := some (fileOf pool0 8 #[] #[{ accessFlags := 1, nameIndex := 5, descriptorIndex := 6, attributes := #[] }] 33 0 #[] #[])
  fields := #[]
  methods := #[k0m0]
  instanceTypes := #[]
  staticTypes := #[]
  resolved := Array.replicate 124 none
  statics := none }

def pool1 : Array CpInfo := pool [(2, .class_ 4), (1, u "java/lang/Object"), (0, u "<init>"), (0, u "()V"), (0, .class_ 8), (0, u "com/example/comment_binder/commentbinder/scoring/Score"), (0, .methodref 7 10), (0, .nameAndType 5 11), (0, u "(IIII)V"), (0, .methodref 7 13), (0, .nameAndType 14 15), (0, u "plus"), (0, u "(Lcom/example/comment_binder/commentbinder/scoring/Score;)Lcom/example/comment_binder/commentbinder/scoring/Score;"), (0, .methodref 7 17), (0, .nameAndType 18 19), (0, u "correct"), (0, u "()I"), (0, .methodref 7 21), (0, .nameAndType 22 19), (0, u "changed"), (0, .methodref 7 24), (0, .nameAndType 25 19), (0, u "lost"), (0, .methodref 7 27), (0, .nameAndType 28 19), (0, u "spurious"), (0, .class_ 30), (0, u "com/example/comment_binder/commentbinder/scoring/ScorePlusPinLaw"), (2, u "law"), (0, u "(JJJJ)Z")] 3

def k1m0 : Method := { name := "<init>", desc := "()V", sig := { parameters := [], returnType := none }, accessFlags := 1, code := none }
def k1c1 : Code := { maxStack := 6, maxLocals := 19, code := code, exceptionTable := #[], attributes := #[] }
def k1m1 : Method := { name := "law", desc := "(JJJJ)Z", sig := { parameters := [.long, .long, .long, .long], returnType := some .boolean }, accessFlags := 9, code := some k1c1 }
/-- com/example/comment_binder/commentbinder/scoring/ScorePlusPinLaw -/
def k1 : Class := { plain "com/example/comment_binder/commentbinder/scoring/ScorePlusPinLaw" (some 0) with
  accessFlags := 49
  interfaces := #[]
  cf := some (fileOf pool1 29 #[] #[{ accessFlags := 1, nameIndex := 5, descriptorIndex := 6, attributes := #[] }, { accessFlags := 9, nameIndex := 33, descriptorIndex := 34, attributes := #[] }] 49 2 #[] #[])
  fields := #[]
  methods := #[k1m0, k1m1]
  instanceTypes := #[]
  staticTypes := #[]
  resolved := Array.replicate 38 none
  statics := none }

def pool2 : Array CpInfo := pool [(1, .methodref 2 3), (0, .class_ 4), (0, .nameAndType 5 6), (0, u "java/lang/Object"), (0, u "<init>"), (0, u "()V"), (0, .class_ 8), (0, u "java/lang/Record")] 13

def k2c0 : Code := { maxStack := 1, maxLocals := 1, code := jdk_30_method_1_code, exceptionTable := #[], attributes := #[] }
def k2m0 : Method := { name := "<init>", desc := "()V", sig := { parameters := [], returnType := none }, accessFlags := 4, code := some k2c0 }
/-- java/lang/Record -/
def k2 : Class := { plain "java/lang/Record" (some 0) with
  accessFlags := 1057
  interfaces := #[]
  cf := some (fileOf pool2 7 #[] #[{ accessFlags := 4, nameIndex := 5, descriptorIndex := 6, attributes := #[] }] 1057 2 #[] #[])
  fields := #[]
  methods := #[k2m0]
  instanceTypes := #[]
  staticTypes := #[]
  resolved := Array.replicate 22 none
  statics := none }

def pool3 : Array CpInfo := pool [(1, .methodref 2 3), (0, .class_ 4), (0, .nameAndType 5 6), (0, u "java/lang/Record"), (0, u "<init>"), (0, u "()V"), (0, .fieldref 8 9), (0, .class_ 10), (0, .nameAndType 11 12), (0, u "com/example/comment_binder/commentbinder/scoring/Score"), (0, u "correct"), (0, u "I"), (0, .fieldref 8 14), (0, .nameAndType 15 12), (0, u "changed"), (0, .fieldref 8 17), (0, .nameAndType 18 12), (0, u "lost"), (0, .fieldref 8 20), (0, .nameAndType 21 12), (0, u "spurious"), (6, .methodref 8 29), (0, .nameAndType 5 30), (0, u "(IIII)V"), (17, u "()I"), (29, u "NONE"), (0, u "Lcom/example/comment_binder/commentbinder/scoring/Score;"), (8, u "plus"), (0, u "(Lcom/example/comment_binder/commentbinder/scoring/Score;)Lcom/example/comment_binder/commentbinder/scoring/Score;")] 27

def k3c0 : Code := { maxStack := 2, maxLocals := 5, code := prog_96_method_1_code, exceptionTable := #[], attributes := #[] }
def k3m0 : Method := { name := "<init>", desc := "(IIII)V", sig := { parameters := [.int, .int, .int, .int], returnType := none }, accessFlags := 1, code := some k3c0 }
def k3c1 : Code := { maxStack := 7, maxLocals := 2, code := prog_96_method_3_code, exceptionTable := #[], attributes := #[] }
def k3m1 : Method := { name := "plus", desc := "(Lcom/example/comment_binder/commentbinder/scoring/Score;)Lcom/example/comment_binder/commentbinder/scoring/Score;", sig := { parameters := [(.object "com/example/comment_binder/commentbinder/scoring/Score")], returnType := some (.object "com/example/comment_binder/commentbinder/scoring/Score") }, accessFlags := 1, code := some k3c1 }
def k3c2 : Code := { maxStack := 1, maxLocals := 1, code := prog_96_method_9_code, exceptionTable := #[], attributes := #[] }
def k3m2 : Method := { name := "correct", desc := "()I", sig := { parameters := [], returnType := some .int }, accessFlags := 1, code := some k3c2 }
def k3c3 : Code := { maxStack := 1, maxLocals := 1, code := prog_96_method_10_code, exceptionTable := #[], attributes := #[] }
def k3m3 : Method := { name := "changed", desc := "()I", sig := { parameters := [], returnType := some .int }, accessFlags := 1, code := some k3c3 }
def k3c4 : Code := { maxStack := 1, maxLocals := 1, code := prog_96_method_11_code, exceptionTable := #[], attributes := #[] }
def k3m4 : Method := { name := "lost", desc := "()I", sig := { parameters := [], returnType := some .int }, accessFlags := 1, code := some k3c4 }
def k3c5 : Code := { maxStack := 1, maxLocals := 1, code := prog_96_method_12_code, exceptionTable := #[], attributes := #[] }
def k3m5 : Method := { name := "spurious", desc := "()I", sig := { parameters := [], returnType := some .int }, accessFlags := 1, code := some k3c5 }
/-- com/example/comment_binder/commentbinder/scoring/Score -/
def k3 : Class := { plain "com/example/comment_binder/commentbinder/scoring/Score" (some 2) with
  accessFlags := 49
  interfaces := #[]
  cf := some (fileOf pool3 8 #[] #[{ accessFlags := 1, nameIndex := 5, descriptorIndex := 30, attributes := #[] }, { accessFlags := 1, nameIndex := 88, descriptorIndex := 89, attributes := #[] }, { accessFlags := 1, nameIndex := 11, descriptorIndex := 48, attributes := #[] }, { accessFlags := 1, nameIndex := 15, descriptorIndex := 48, attributes := #[] }, { accessFlags := 1, nameIndex := 18, descriptorIndex := 48, attributes := #[] }, { accessFlags := 1, nameIndex := 21, descriptorIndex := 48, attributes := #[] }] 49 2 #[] #[{ accessFlags := 18, nameIndex := 11, descriptorIndex := 12, attributes := #[] }, { accessFlags := 18, nameIndex := 15, descriptorIndex := 12, attributes := #[] }, { accessFlags := 18, nameIndex := 18, descriptorIndex := 12, attributes := #[] }, { accessFlags := 18, nameIndex := 21, descriptorIndex := 12, attributes := #[] }, { accessFlags := 25, nameIndex := 78, descriptorIndex := 79, attributes := #[] }])
  fields := #[{ name := "correct", type := .int, accessFlags := 18, slot := 0, constantValue := 0 }, { name := "changed", type := .int, accessFlags := 18, slot := 1, constantValue := 0 }, { name := "lost", type := .int, accessFlags := 18, slot := 2, constantValue := 0 }, { name := "spurious", type := .int, accessFlags := 18, slot := 3, constantValue := 0 }, { name := "NONE", type := (.object "com/example/comment_binder/commentbinder/scoring/Score"), accessFlags := 25, slot := 0, constantValue := 0 }]
  methods := #[k3m0, k3m1, k3m2, k3m3, k3m4, k3m5]
  instanceTypes := #[.int, .int, .int, .int]
  staticTypes := #[(.object "com/example/comment_binder/commentbinder/scoring/Score")]
  resolved := Array.replicate 117 none
  statics := none }

def pool4 : Array CpInfo := pool [(1, u "java/lang/Cloneable"), (0, .class_ 1), (0, u "java/lang/Object"), (0, .class_ 3)] 3

/-- java/lang/Cloneable -/
def k4 : Class := { plain "java/lang/Cloneable" (some 0) with
  accessFlags := 1537
  interfaces := #[]
  cf := some (fileOf pool4 2 #[] #[] 1537 4 #[] #[])
  fields := #[]
  methods := #[]
  instanceTypes := #[]
  staticTypes := #[]
  resolved := Array.replicate 8 none
  statics := none }

def pool5 : Array CpInfo := pool [(1, u "java/io/Serializable"), (0, .class_ 1), (0, u "java/lang/Object"), (0, .class_ 3)] 3

/-- java/io/Serializable -/
def k5 : Class := { plain "java/io/Serializable" (some 0) with
  accessFlags := 1537
  interfaces := #[]
  cf := some (fileOf pool5 2 #[] #[] 1537 4 #[] #[])
  fields := #[]
  methods := #[]
  instanceTypes := #[]
  staticTypes := #[]
  resolved := Array.replicate 8 none
  statics := none }

/-- the primitive byte -/
def k6 : Class := { plain "byte" none with kind := .primitive 'B', accessFlags := 0x411 }
/-- [B -/
def k7 : Class := { plain "[B" (some 0) with kind := .array 6 .byte, interfaces := #[4, 5], accessFlags := 1041 }

/-- the primitive int -/
def k8 : Class := { plain "int" none with kind := .primitive 'I', accessFlags := 0x411 }
/-- [I -/
def k9 : Class := { plain "[I" (some 0) with kind := .array 8 .int, interfaces := #[4, 5], accessFlags := 1041 }

def heap : Heap := #[]
def classes : Array Class := #[k0, k1, k2, k3, k4, k5, k6, k7, k8, k9]
def interned : List (Array UInt16 × Addr) := []
def slotsUsed : Nat := 0
def theMethod : MethodId := ⟨1, 1⟩
def args0 : Array Value := #[.long 5, .long 5, .long 5, .long 5]
def aboutOver (below : List Frame) : State where
  vm := { classes := classes, interned := interned.toArray }
  heap := heap
  slotsUsed := slotsUsed
  threads := #[{ frames := .invoking theMethod args0 :: below }]
def below0 : List Frame := [.native { method := ⟨0, 0⟩, args := #[] }]
def about1 : State := aboutOver below0
def p0 : Program := .bare "" "" ""
def e0 : Env := launch0.env 0 0 0
theorem w_frames : about1.frames = Frame.invoking theMethod args0 :: below0 := rfl
set_option maxRecDepth 65536 in
theorem w_args : argsFit about1.vm theMethod args0 = true := by decide +kernel
set_option maxRecDepth 65536 in
theorem w_heap : heapFits about1 = true := by decide +kernel
set_option maxRecDepth 65536 in
theorem w_runnable : about1.curStatus? = some .runnable := by decide +kernel
set_option maxRecDepth 65536 in
theorem w_alone : about1.alone = true := by decide +kernel
set_option maxRecDepth 65536 in
theorem w_named : about1.methodNamed? x = some theMethod := by decide +kernel
set_option maxRecDepth 65536 in
theorem w_hears : about1.hears theMethod below0 = true := by decide +kernel
set_option maxRecDepth 65536 in
theorem w_ripe : about1.ripe theMethod args0 below0 = true := by decide +kernel
theorem w_running : about1.status = .running := rfl
set_option maxRecDepth 65536 in
theorem w_room : about1.hasRoom e0.platform room_1 = true :=
  launch0.hasRoom_least _ room_1 (by decide +kernel) (by decide +kernel) (by decide +kernel) (by decide +kernel) (by decide +kernel) (by decide +kernel)
theorem allAtoms_all (ts : List Jvm.Cond) (a : Array Jvm.Value) (st : Jvm.State) : (allAtoms ts).before a st = ts.all (fun c => c.before a st) := by
  induction ts with
  | nil => rfl
  | cons c t ih =>
    show (Jvm.Cond.and c (allAtoms t)).before a st = _
    rw [Jvm.Cond.before_and, ih, List.all_cons]
def words1 : List Jvm.Cond := Jvm.Cond.code x code maxLocals ret :: tables_1
/-- a 'code' word, met by the world's own term for the bytes: nothing is compared byte by byte -/
theorem code_word {y : MethodName} {bytes : ByteArray} {mx : Nat} {rt : Option FieldType} {a : Array Value} {s : State} {m : MethodId} {meth : Method} {c : Code} (h1 : s.methodNamed? y = some m) (h2 : s.vm.method? m = some meth) (h3 : meth.code = some c) (h4 : c.code = bytes)
    (h5 : (c.maxLocals == mx && c.exceptionTable.isEmpty && decide (c.maxStack ≤ mostOperands) && decide (meth.sig.returnType = rt) && !meth.locks && decide (parseMethodDescriptor y.desc = some meth.sig)) = true) : (Jvm.Cond.code y bytes mx rt).before a s = true := by
  simp only [Bool.and_eq_true, beq_iff_eq, Bool.not_eq_true', decide_eq_true_eq] at h5
  obtain ⟨⟨⟨⟨⟨g1, g2⟩, g3⟩, g4⟩, g5⟩, g6⟩ := h5
  simp [Cond.before, Cond.holds, Cond.value, h1, h2, h3, h4, g1, g2, g3, g4, g5, g6]
def isCode : Jvm.Cond → Bool
  | .code _ _ _ _ => true
  | _ => false
theorem all_split {L : List Jvm.Cond} {P : Jvm.Cond → Bool} (h1 : L.all (fun c => isCode c || P c) = true) (h2 : ∀ c ∈ L.filter isCode, P c = true) : L.all P = true := by
  refine List.all_eq_true.mpr fun c hc => ?_
  have h := List.all_eq_true.mp h1 c hc
  rcases Bool.eq_false_or_eq_true (isCode c) with hi | hi
  · exact h2 c (List.mem_filter.mpr ⟨hc, hi⟩)
  · simpa [hi] using h
set_option maxRecDepth 65536 in
theorem w_c0 : (Jvm.Cond.code x code maxLocals ret).before args0 about1 = true := code_word (m := ⟨1, 1⟩) (meth := k1m1) (c := k1c1) (by decide +kernel) rfl rfl rfl (by decide +kernel)
set_option maxRecDepth 65536 in
theorem w_c1 : (Jvm.Cond.code ({ cls := "com/example/comment_binder/commentbinder/scoring/Score", name := "<init>", desc := "(IIII)V" } : Jvm.MethodName) prog_96_method_1_code (5 : Nat) (Option.none : Option Jvm.ClassFile.FieldType)).before args0 about1 = true := code_word (m := ⟨3, 0⟩) (meth := k3m0) (c := k3c0) (by decide +kernel) rfl rfl rfl (by decide +kernel)
set_option maxRecDepth 65536 in
theorem w_c2 : (Jvm.Cond.code ({ cls := "java/lang/Record", name := "<init>", desc := "()V" } : Jvm.MethodName) jdk_30_method_1_code (1 : Nat) (Option.none : Option Jvm.ClassFile.FieldType)).before args0 about1 = true := code_word (m := ⟨2, 0⟩) (meth := k2m0) (c := k2c0) (by decide +kernel) rfl rfl rfl (by decide +kernel)
set_option maxRecDepth 65536 in
theorem w_c3 : (Jvm.Cond.code ({ cls := "java/lang/Object", name := "<init>", desc := "()V" } : Jvm.MethodName) object_method_1_code (1 : Nat) (Option.none : Option Jvm.ClassFile.FieldType)).before args0 about1 = true := code_word (m := ⟨0, 0⟩) (meth := k0m0) (c := k0c0) (by decide +kernel) rfl rfl rfl (by decide +kernel)
set_option maxRecDepth 65536 in
theorem w_c4 : (Jvm.Cond.code ({ cls := "com/example/comment_binder/commentbinder/scoring/Score", name := "plus", desc := "(Lcom/example/comment_binder/commentbinder/scoring/Score;)Lcom/example/comment_binder/commentbinder/scoring/Score;" } : Jvm.MethodName) prog_96_method_3_code (2 : Nat) (Option.some (Jvm.ClassFile.FieldType.object "com/example/comment_binder/commentbinder/scoring/Score"))).before args0 about1 = true := code_word (m := ⟨3, 1⟩) (meth := k3m1) (c := k3c1) (by decide +kernel) rfl rfl rfl (by decide +kernel)
set_option maxRecDepth 65536 in
theorem w_c5 : (Jvm.Cond.code ({ cls := "com/example/comment_binder/commentbinder/scoring/Score", name := "correct", desc := "()I" } : Jvm.MethodName) prog_96_method_9_code (1 : Nat) (Option.some Jvm.ClassFile.FieldType.int)).before args0 about1 = true := code_word (m := ⟨3, 2⟩) (meth := k3m2) (c := k3c2) (by decide +kernel) rfl rfl rfl (by decide +kernel)
set_option maxRecDepth 65536 in
theorem w_c6 : (Jvm.Cond.code ({ cls := "com/example/comment_binder/commentbinder/scoring/Score", name := "changed", desc := "()I" } : Jvm.MethodName) prog_96_method_10_code (1 : Nat) (Option.some Jvm.ClassFile.FieldType.int)).before args0 about1 = true := code_word (m := ⟨3, 3⟩) (meth := k3m3) (c := k3c3) (by decide +kernel) rfl rfl rfl (by decide +kernel)
set_option maxRecDepth 65536 in
theorem w_c7 : (Jvm.Cond.code ({ cls := "com/example/comment_binder/commentbinder/scoring/Score", name := "lost", desc := "()I" } : Jvm.MethodName) prog_96_method_11_code (1 : Nat) (Option.some Jvm.ClassFile.FieldType.int)).before args0 about1 = true := code_word (m := ⟨3, 4⟩) (meth := k3m4) (c := k3c4) (by decide +kernel) rfl rfl rfl (by decide +kernel)
set_option maxRecDepth 65536 in
theorem w_c8 : (Jvm.Cond.code ({ cls := "com/example/comment_binder/commentbinder/scoring/Score", name := "spurious", desc := "()I" } : Jvm.MethodName) prog_96_method_12_code (1 : Nat) (Option.some Jvm.ClassFile.FieldType.int)).before args0 about1 = true := code_word (m := ⟨3, 5⟩) (meth := k3m5) (c := k3c5) (by decide +kernel) rfl rfl rfl (by decide +kernel)
def codes1 : List Jvm.Cond := [Jvm.Cond.code x code maxLocals ret, Jvm.Cond.code ({ cls := "com/example/comment_binder/commentbinder/scoring/Score", name := "<init>", desc := "(IIII)V" } : Jvm.MethodName) prog_96_method_1_code (5 : Nat) (Option.none : Option Jvm.ClassFile.FieldType), Jvm.Cond.code ({ cls := "java/lang/Record", name := "<init>", desc := "()V" } : Jvm.MethodName) jdk_30_method_1_code (1 : Nat) (Option.none : Option Jvm.ClassFile.FieldType), Jvm.Cond.code ({ cls := "java/lang/Object", name := "<init>", desc := "()V" } : Jvm.MethodName) object_method_1_code (1 : Nat) (Option.none : Option Jvm.ClassFile.FieldType), Jvm.Cond.code ({ cls := "com/example/comment_binder/commentbinder/scoring/Score", name := "plus", desc := "(Lcom/example/comment_binder/commentbinder/scoring/Score;)Lcom/example/comment_binder/commentbinder/scoring/Score;" } : Jvm.MethodName) prog_96_method_3_code (2 : Nat) (Option.some (Jvm.ClassFile.FieldType.object "com/example/comment_binder/commentbinder/scoring/Score")), Jvm.Cond.code ({ cls := "com/example/comment_binder/commentbinder/scoring/Score", name := "correct", desc := "()I" } : Jvm.MethodName) prog_96_method_9_code (1 : Nat) (Option.some Jvm.ClassFile.FieldType.int), Jvm.Cond.code ({ cls := "com/example/comment_binder/commentbinder/scoring/Score", name := "changed", desc := "()I" } : Jvm.MethodName) prog_96_method_10_code (1 : Nat) (Option.some Jvm.ClassFile.FieldType.int), Jvm.Cond.code ({ cls := "com/example/comment_binder/commentbinder/scoring/Score", name := "lost", desc := "()I" } : Jvm.MethodName) prog_96_method_11_code (1 : Nat) (Option.some Jvm.ClassFile.FieldType.int), Jvm.Cond.code ({ cls := "com/example/comment_binder/commentbinder/scoring/Score", name := "spurious", desc := "()I" } : Jvm.MethodName) prog_96_method_12_code (1 : Nat) (Option.some Jvm.ClassFile.FieldType.int)]
set_option maxRecDepth 65536 in
theorem codes_eq : words1.filter isCode = codes1 := rfl
theorem w_codes : ∀ c ∈ words1.filter isCode, c.before args0 about1 = true := by
  rw [codes_eq]
  intro c hc
  simp only [codes1, List.mem_cons, List.not_mem_nil, or_false] at hc
  rcases hc with rfl | rfl | rfl | rfl | rfl | rfl | rfl | rfl | rfl
  · exact w_c0
  · exact w_c1
  · exact w_c2
  · exact w_c3
  · exact w_c4
  · exact w_c5
  · exact w_c6
  · exact w_c7
  · exact w_c8
set_option maxRecDepth 65536 in
theorem w_t1 : (words1.take 24).all (fun c => isCode c || c.before args0 about1) = true := by decide +kernel
set_option maxRecDepth 65536 in
theorem w_t2 : ((words1.drop 24).take 24).all (fun c => isCode c || c.before args0 about1) = true := by decide +kernel
set_option maxRecDepth 65536 in
theorem w_t3 : ((words1.drop 24).drop 24).all (fun c => isCode c || c.before args0 about1) = true := by decide +kernel
theorem w_tables : (allAtoms (Jvm.Cond.code x code maxLocals ret :: tables_1)).before args0 about1 = true := by
  rw [allAtoms_all]
  show words1.all (fun c => c.before args0 about1) = true
  refine all_split ?_ w_codes
  rw [← List.take_append_drop 24 words1, List.all_append, w_t1, ← List.take_append_drop 24 (words1.drop 24), List.all_append, w_t2, w_t3]
  rfl
set_option maxRecDepth 65536 in
theorem w_case : (Jvm.Cond.and given_1 narrow_1).before args0 about1 = true := by decide +kernel
theorem w_applies : (headSpec (Jvm.Cond.code x code maxLocals ret :: tables_1) room_1).applies x e0.platform about1 = true :=
  (Spec.applies_iff w_frames).mpr ⟨w_running, w_runnable, w_alone, w_named, w_hears, w_ripe, w_room, w_tables⟩
theorem atStart : AtStart classFile x code maxLocals ret World_1 tables_1 room_1 Calls_1 rest_1 Pre_1 launch0 p0 e0 about1 theMethod args0 below0 :=
  ⟨lists_1, trivial, launch0.admits_env _ _ _, launch0.least_env, fairChoices_fair.cas, fairChoices_fair.clock, w_frames, w_args, w_heap, w_applies, trivial, trivial, w_case⟩
end start1
theorem witness_1 : WitnessClaimed_1 := ⟨start1.p0, start1.e0, start1.about1, start1.theMethod, start1.args0, start1.below0, start1.atStart⟩
end Jvm.Pilot.@@N@@
