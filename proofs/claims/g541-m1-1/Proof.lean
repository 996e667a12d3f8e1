import JvmDerived
import JvmDerived.Pilot.@@N@@Statement
import JvmDerived.Pilot.@@N@@Code
set_option linter.unusedVariables false
set_option linter.unusedSimpArgs false
namespace Jvm.RoadKit
open Sem ClassFile Op Lib Jvm.Stand Jvm.Free Jvm.LawKit
section New
variable {p : Program} {l : Launch} {e : Env} {R : Room} {s : State} {m : MethodId} {args : Array Value} {below : List Frame} {meth : Method} {c : Code} {T : State} {locs : List Loc} {cells slots : Nat}
theorem retI (X : Stand p l e R s m args below meth c T locs cells slots) (hx : p.tables.exec = Jvm.exec) {pc : Nat} {Ls : Array Slot} {z : Int32} {rest : List Value} (hret : meth.sig.returnType = some .int) (hd : decode c.code pc = .ok (.ireturn, 1)) {fs : List Frame}
    (hl : ∀ (f : JFrame) (acts : List Action), f.method = m → f.locked = none → f.entered = [] → (doReturn e (T.setTop f) acts (some (.int z))).1 = T.setFrames fs) : Steps p.tables e below (T.setTop (mkF m pc Ls (.int z :: rest))) (T.setFrames fs) := by
  have hm' : T.vm.method? m = some meth := X.method'
  have hn : narrow .int (.int z) = .int z := rfl
  show Steps p.tables e below (T.setTop { method := m, pc := pc, locals := Ls, stack := _ :: rest, locked := none }) _
  jvm_step X.here [X.here.top, hx, hd, hm', hret, hn]
  first | (intro acts; rw [hl _ acts rfl rfl rfl]) | rw [hl _ _ rfl rfl rfl]
  exact Steps.refl _
theorem own_go {tb : Tables} {T' : State} {f f' : JFrame} {G : State → Outcome → Prop} (k : ∀ t, Steps tb e below (T'.setTop f') t → Steps tb e below (T.setTop f) t) (h : ∃ s₂ o, Steps tb e below (T'.setTop f') s₂ ∧ G s₂ o) : ∃ s₂ o, Steps tb e below (T.setTop f) s₂ ∧ G s₂ o := by
  obtain ⟨s₂, o, a, b⟩ := h
  exact ⟨s₂, o, k _ a, b⟩
theorem own_cut {tb : Tables} {f f' : JFrame} {G : State → Outcome → Prop} {P : State → Prop} (h1 : (∀ T', P T' → ∃ s₂ o, Steps tb e below (T'.setTop f') s₂ ∧ G s₂ o) → ∃ s₂ o, Steps tb e below (T.setTop f) s₂ ∧ G s₂ o) (h2 : ∀ T', P T' → ∃ s₂ o, Steps tb e below (T'.setTop f') s₂ ∧ G s₂ o) : ∃ s₂ o, Steps tb e below (T.setTop f) s₂ ∧ G s₂ o := h1 h2
end New
end Jvm.RoadKit
namespace Jvm.Pilot.@@N@@
open Jvm Jvm.ClassFile Sem Op Lib Jvm.Free Jvm.Stand Jvm.LawKit Jvm.RoadKit Bundle Jvm.Pilot.@@N@@.Jvm.D
theorem own_dR_0 : decode jdk_30_method_1_code 0 = .ok (.aload_n 0, 1) := by decide +kernel
theorem own_dR_1 : decode jdk_30_method_1_code 1 = .ok (.invokespecial 1, 3) := by decide +kernel
theorem own_dR_4 : decode jdk_30_method_1_code 4 = .ok (.return_, 1) := by decide +kernel
theorem own_pn0 : plainName "java/lang/Record" = true := by first | (simp [plainName, overriddenIn]; done) | decide +kernel
theorem own_efR (m : MethodId) (a0r : Addr) : entryFrame m #[(.ref a0r)] 1 = mkF m 0 #[.val (.ref a0r)] [] := by first | (simp [entryFrame, mkF, argsToLocals, Value.category]; done) | rfl
def own_QR (Z : State) (a0r : Addr) (h0 : Heap) (n0 : Nat) (v : Option Value) (h : Heap) (L : List Loc) : Prop := (v = none) ∧ (Fr n0 L) ∧ (h = h0)
set_option maxRecDepth 65536 in
set_option maxHeartbeats 40000000 in
theorem own_rmR (l : Launch) (Z : State) (a0 : Array Value) (hw : ∀ d ∈ tables_1, d.before a0 Z = true) (ws : List Jvm.Cond) (a0r : Addr) (h0 : Heap) (n0 : Nat) (Z0 : n0 ≤ h0.size) :
    MetFree l (⟨"java/lang/Record", "<init>", "()V"⟩ : MethodName) (head1 (Jvm.Cond.code (⟨"java/lang/Record", "<init>", "()V"⟩ : MethodName) jdk_30_method_1_code 1 none :: ws) ({ frames := 1, cells := 0, slots := 0, locals := 12 } : Room)) (fun a U => a = #[(.ref a0r)] ∧ Z.Warmed39 U.vm ∧ U.heap = h0) (fun _ _ _ _ _ => True) (fun _ U o U' => ∃ v L, o = .returned v ∧ own_QR Z a0r h0 n0 v U'.heap L ∧ FrameEnd U o U' L ({ frames := 1, cells := 0, slots := 0, locals := 12 } : Room).cells ({ frames := 1, cells := 0, slots := 0, locals := 12 } : Room).slots) := by
  refine MetFree.of_bodySF (plainFor_of_name own_pn0) hisR ?_
  intro p e s m args below meth c s₁ Bd hml0 hP hK
  obtain ⟨rfl, hZ, hh⟩ := hP
  have hx := Bd.exec
  have hby := Bd.bytes
  have hml : c.maxLocals = 1 := hml0
  have hown : s.vm.findClass "java/lang/Record" = some m.cls := findClass_of_methodNamed Bd.named
  have hnm := (name_of_methodNamed Bd.named Bd.method).1
  have X0 : Stand p l e ({ frames := 1, cells := 0, slots := 0, locals := 12 } : Room) s m #[(.ref a0r)] below meth c s₁ [] 0 0 := Stand.of_body Bd
  have e0 : s₁.heap = h0 := by rw [← hh, Bd.state]; rfl
  have N0 := Fr.nil n0
  refine own_go (fun t k => castTop (own_efR m a0r) k) ?_
  refine own_go (T' := s₁) (f' := (mkF m 1 #[.val (.ref a0r)] [(.ref a0r)])) (fun t k => ?_) ?_
  · show Steps p.tables e below (s₁.setTop (mkF m 0 #[.val (.ref a0r)] [])) _
    refine XS.aloadN X0.here hx rfl (hb hby own_dR_0) rfl rfl ?_
    show Steps p.tables e below (s₁.setTop (mkF m 1 #[.val (.ref a0r)] [(.ref a0r)])) _
    exact k
  obtain ⟨T1, X1, e1, st1⟩ := initO X0 hx hZ hown (hw _ (List.mem_of_getElem? (i := 11) rfl)) (hw _ (List.mem_of_getElem? (i := 12) rfl)) (hw _ (List.mem_of_getElem? (i := 13) rfl)) e0 (g := (mkF m 1 #[.val (.ref a0r)] [(.ref a0r)])) rfl (by rw [hml]; rfl) rfl (hb hby own_dR_1) (by decide) (W := 0) (by show 2 * 0 + _ ≤ _; exact Nat.le_of_eq rfl) (by decide)
  refine own_go (T' := T1) (f' := (mkF m 4 #[.val (.ref a0r)] [])) st1 ?_
  obtain ⟨fs, hr, hrun, hended, hW, hsame⟩ := X1.leave (v := none) (fun _ => rfl)
  refine ⟨_, _, ?_, hrun, hended, _, _, rfl, ?_, ⟨_, rfl⟩, hW, hsame.mono (by decide) (by decide)⟩
  · exact X1.returnOut hx Bd.returns (hb hby own_dR_4) hr
  · show own_QR Z a0r h0 n0 _ T1.heap _
    rw [e1]
    exact ⟨rfl, N0, rfl⟩
theorem own_pd0 : parseMethodDescriptor "()V" = some ⟨[], none⟩ := by decide +kernel
theorem own_d1_0 : decode prog_96_method_1_code 0 = .ok (.aload_n 0, 1) := by decide +kernel
theorem own_d1_1 : decode prog_96_method_1_code 1 = .ok (.invokespecial 1, 3) := by decide +kernel
theorem own_d1_4 : decode prog_96_method_1_code 4 = .ok (.aload_n 0, 1) := by decide +kernel
theorem own_d1_5 : decode prog_96_method_1_code 5 = .ok (.iload_n 1, 1) := by decide +kernel
theorem own_d1_6 : decode prog_96_method_1_code 6 = .ok (.putfield 7, 3) := by decide +kernel
theorem own_d1_9 : decode prog_96_method_1_code 9 = .ok (.aload_n 0, 1) := by decide +kernel
theorem own_d1_10 : decode prog_96_method_1_code 10 = .ok (.iload_n 2, 1) := by decide +kernel
theorem own_d1_11 : decode prog_96_method_1_code 11 = .ok (.putfield 13, 3) := by decide +kernel
theorem own_d1_14 : decode prog_96_method_1_code 14 = .ok (.aload_n 0, 1) := by decide +kernel
theorem own_d1_15 : decode prog_96_method_1_code 15 = .ok (.iload_n 3, 1) := by decide +kernel
theorem own_d1_16 : decode prog_96_method_1_code 16 = .ok (.putfield 16, 3) := by decide +kernel
theorem own_d1_19 : decode prog_96_method_1_code 19 = .ok (.aload_n 0, 1) := by decide +kernel
theorem own_d1_20 : decode prog_96_method_1_code 20 = .ok (.iload 4, 2) := by decide +kernel
theorem own_d1_22 : decode prog_96_method_1_code 22 = .ok (.putfield 19, 3) := by decide +kernel
theorem own_d1_25 : decode prog_96_method_1_code 25 = .ok (.return_, 1) := by decide +kernel
theorem own_pn1 : plainName "com/example/comment_binder/commentbinder/scoring/Score" = true := by first | (simp [plainName, overriddenIn]; done) | decide +kernel
theorem own_ef1 (m : MethodId) (a0r : Addr) (p1 : Int32) (p2 : Int32) (p3 : Int32) (p4 : Int32) : entryFrame m #[(.ref a0r), (.int p1), (.int p2), (.int p3), (.int p4)] 5 = mkF m 0 #[.val (.ref a0r), .val (.int p1), .val (.int p2), .val (.int p3), .val (.int p4)] [] := by first | (simp [entryFrame, mkF, argsToLocals, Value.category]; done) | rfl
def own_Q1 (Z : State) (a0r : Addr) (p1 : Int32) (p2 : Int32) (p3 : Int32) (p4 : Int32) (h0 : Heap) (n0 : Nat) (v : Option Value) (h : Heap) (L : List Loc) : Prop := (v = none) ∧ (Fr n0 L) ∧ (Keep h0 h [a0r]) ∧ (Fld Z h a0r "com/example/comment_binder/commentbinder/scoring/Score" "correct" "I" (.int p1)) ∧ (Fld Z h a0r "com/example/comment_binder/commentbinder/scoring/Score" "changed" "I" (.int p2)) ∧ (Fld Z h a0r "com/example/comment_binder/commentbinder/scoring/Score" "lost" "I" (.int p3)) ∧ (Fld Z h a0r "com/example/comment_binder/commentbinder/scoring/Score" "spurious" "I" (.int p4))
set_option maxRecDepth 65536 in
set_option maxHeartbeats 40000000 in
theorem own_rm1 (l : Launch) (Z : State) (a0 : Array Value) (hw : ∀ d ∈ tables_1, d.before a0 Z = true) (ws : List Jvm.Cond) (a0r : Addr) (p1 : Int32) (p2 : Int32) (p3 : Int32) (p4 : Int32) (h0 : Heap) (n0 : Nat) (Z0 : n0 ≤ h0.size) (P0 : Exa Z h0 a0r "com/example/comment_binder/commentbinder/scoring/Score") (P1 : Fld Z h0 a0r "com/example/comment_binder/commentbinder/scoring/Score" "correct" "I" (.int (0 : Int32))) (P2 : Fld Z h0 a0r "com/example/comment_binder/commentbinder/scoring/Score" "changed" "I" (.int (0 : Int32))) (P3 : Fld Z h0 a0r "com/example/comment_binder/commentbinder/scoring/Score" "lost" "I" (.int (0 : Int32))) (P4 : Fld Z h0 a0r "com/example/comment_binder/commentbinder/scoring/Score" "spurious" "I" (.int (0 : Int32))) (go_a0r : n0 ≤ a0r) :
    MetFree l (⟨"com/example/comment_binder/commentbinder/scoring/Score", "<init>", "(IIII)V"⟩ : MethodName) (head1 (Jvm.Cond.code (⟨"com/example/comment_binder/commentbinder/scoring/Score", "<init>", "(IIII)V"⟩ : MethodName) prog_96_method_1_code 5 none :: ws) ({ frames := 2, cells := 0, slots := 0, locals := 24 } : Room)) (fun a U => a = #[(.ref a0r), (.int p1), (.int p2), (.int p3), (.int p4)] ∧ Z.Warmed39 U.vm ∧ U.heap = h0) (fun _ _ _ _ _ => True) (fun _ U o U' => ∃ v L, o = .returned v ∧ own_Q1 Z a0r p1 p2 p3 p4 h0 n0 v U'.heap L ∧ FrameEnd U o U' L ({ frames := 2, cells := 0, slots := 0, locals := 24 } : Room).cells ({ frames := 2, cells := 0, slots := 0, locals := 24 } : Room).slots) := by
  refine MetFree.of_bodySF (plainFor_of_name own_pn1) hisR ?_
  intro p e s m args below meth c s₁ Bd hml0 hP hK
  obtain ⟨rfl, hZ, hh⟩ := hP
  have hx := Bd.exec
  have hby := Bd.bytes
  have hml : c.maxLocals = 5 := hml0
  have hown : s.vm.findClass "com/example/comment_binder/commentbinder/scoring/Score" = some m.cls := findClass_of_methodNamed Bd.named
  have hnm := (name_of_methodNamed Bd.named Bd.method).1
  have X0 : Stand p l e ({ frames := 2, cells := 0, slots := 0, locals := 24 } : Room) s m #[(.ref a0r), (.int p1), (.int p2), (.int p3), (.int p4)] below meth c s₁ [] 0 0 := Stand.of_body Bd
  have e0 : s₁.heap = h0 := by rw [← hh, Bd.state]; rfl
  have N0 := Fr.nil n0
  have K0 : Keep h0 h0 [a0r] := Keep.refl h0 _
  refine own_go (fun t k => castTop (own_ef1 m a0r p1 p2 p3 p4) k) ?_
  refine own_go (T' := s₁) (f' := (mkF m 1 #[.val (.ref a0r), .val (.int p1), .val (.int p2), .val (.int p3), .val (.int p4)] [(.ref a0r)])) (fun t k => ?_) ?_
  · show Steps p.tables e below (s₁.setTop (mkF m 0 #[.val (.ref a0r), .val (.int p1), .val (.int p2), .val (.int p3), .val (.int p4)] [])) _
    refine XS.aloadN X0.here hx rfl (hb hby own_d1_0) rfl rfl ?_
    show Steps p.tables e below (s₁.setTop (mkF m 1 #[.val (.ref a0r), .val (.int p1), .val (.int p2), .val (.int p3), .val (.int p4)] [(.ref a0r)])) _
    exact k
  obtain ⟨_, _, ⟨T1, Lq1, kq1, nq1⟩, -, X1, ⟨Lc1, hQ1, lq1, yq1, zq1⟩, st1⟩ := X0.specialBack hx (y := (⟨"java/lang/Record", "<init>", "()V"⟩ : MethodName)) rfl hown (mvT hZ (hw _ (List.mem_of_getElem? (i := 6) rfl))) (mvT hZ (hw _ (List.mem_of_getElem? (i := 7) rfl))) (mvT hZ (hw _ (List.mem_of_getElem? (i := 10) rfl))) (by decide) (backOf (W := 0) (own_rmR l Z a0 hw [] a0r  h0 n0 Z0 ) hZ (hw _ (List.mem_of_getElem? (i := 10) rfl)) (hw _ (List.mem_of_getElem? (i := 9) rfl)) (by decide) (by decide)) (g := (mkF m 1 #[.val (.ref a0r), .val (.int p1), .val (.int p2), .val (.int p3), .val (.int p4)] [(.ref a0r)])) rfl (by rw [hml]; rfl) (Steps.refl _) (a := a0r) (argsL := []) (rest := []) (lenOf own_pd0 rfl) rfl (by show 2 * 0 + _ ≤ _; exact Nat.le_of_eq rfl) (hb hby own_d1_1) (fun _ _ => ⟨rfl, e0, (by decide : 0 + 0 ≤ _), (by decide : 0 + 0 ≤ _)⟩)
  dsimp only [Pt.U, Pt.locs, Pt.cells, Pt.slots] at X1 lq1 yq1 zq1 st1 hQ1
  subst lq1 yq1 zq1
  obtain ⟨rfl, N1q, h1q⟩ := hQ1
  have N1 := Fr.app N0 N1q
  refine own_go (T' := T1) (f' := (mkF m 4 #[.val (.ref a0r), .val (.int p1), .val (.int p2), .val (.int p3), .val (.int p4)] [])) (fun t k => st1.trans k) ?_
  refine own_go (T' := T1) (f' := (mkF m 6 #[.val (.ref a0r), .val (.int p1), .val (.int p2), .val (.int p3), .val (.int p4)] [(.int p1), (.ref a0r)])) (fun t k => ?_) ?_
  · show Steps p.tables e below (T1.setTop (mkF m 4 #[.val (.ref a0r), .val (.int p1), .val (.int p2), .val (.int p3), .val (.int p4)] [])) _
    refine XS.aloadN X1.here hx rfl (hb hby own_d1_4) rfl rfl ?_
    show Steps p.tables e below (T1.setTop (mkF m 5 #[.val (.ref a0r), .val (.int p1), .val (.int p2), .val (.int p3), .val (.int p4)] [(.ref a0r)])) _
    refine XS.iloadN X1.here hx rfl (hb hby own_d1_5) rfl ?_
    show Steps p.tables e below (T1.setTop (mkF m 6 #[.val (.ref a0r), .val (.int p1), .val (.int p2), .val (.int p3), .val (.int p4)] [(.int p1), (.ref a0r)])) _
    exact k
  obtain ⟨T2, h2, X2, e2, W2, st2⟩ := putF X1 hx hZ hown (host := "") (Or.inl (hw _ (List.mem_of_getElem? (i := 14) rfl))) Via.refl h1q P1 P0 (Or.inr ⟨(hw _ (List.mem_of_getElem? (i := 15) rfl)), rfl, hnm⟩) (hw _ (List.mem_of_getElem? (i := 1) rfl)) (ty := .int) (by decide) rfl rfl (g := (mkF m 6 #[.val (.ref a0r), .val (.int p1), .val (.int p2), .val (.int p3), .val (.int p4)] [(.int p1), (.ref a0r)])) rfl rfl (hb hby own_d1_6)
  refine own_go (T' := T2) (f' := (mkF m 9 #[.val (.ref a0r), .val (.int p1), .val (.int p2), .val (.int p3), .val (.int p4)] [])) st2 ?_
  have fc3 : Exa Z h2 a0r "com/example/comment_binder/commentbinder/scoring/Score" := P0.wr W2
  have fc4 : Fld Z h2 a0r "com/example/comment_binder/commentbinder/scoring/Score" "correct" "I" (.int p1) := P1.same W2
  have fc5 : Fld Z h2 a0r "com/example/comment_binder/commentbinder/scoring/Score" "changed" "I" (.int (0 : Int32)) := P2.other W2 (Or.inr (slot_ne (Or.inr (hw _ (List.mem_of_getElem? (i := 17) rfl))) (Or.inr (hw _ (List.mem_of_getElem? (i := 15) rfl))) (by decide) (t := .int) (t' := .int) (by decide) (by decide)))
  have fc6 : Fld Z h2 a0r "com/example/comment_binder/commentbinder/scoring/Score" "lost" "I" (.int (0 : Int32)) := P3.other W2 (Or.inr (slot_ne (Or.inr (hw _ (List.mem_of_getElem? (i := 19) rfl))) (Or.inr (hw _ (List.mem_of_getElem? (i := 15) rfl))) (by decide) (t := .int) (t' := .int) (by decide) (by decide)))
  have fc7 : Fld Z h2 a0r "com/example/comment_binder/commentbinder/scoring/Score" "spurious" "I" (.int (0 : Int32)) := P4.other W2 (Or.inr (slot_ne (Or.inr (hw _ (List.mem_of_getElem? (i := 21) rfl))) (Or.inr (hw _ (List.mem_of_getElem? (i := 15) rfl))) (by decide) (t := .int) (t' := .int) (by decide) (by decide)))
  have Zs2 : n0 ≤ h2.size := Nat.le_trans Z0 (Keep.of_wr W2).1
  have K2 : Keep h0 h2 [a0r] := K0.wr W2 (Or.inl (List.mem_of_getElem? (i := 0) rfl))
  have N2 := Fr.snoc X2 N1 go_a0r
  refine own_go (T' := T2) (f' := (mkF m 11 #[.val (.ref a0r), .val (.int p1), .val (.int p2), .val (.int p3), .val (.int p4)] [(.int p2), (.ref a0r)])) (fun t k => ?_) ?_
  · show Steps p.tables e below (T2.setTop (mkF m 9 #[.val (.ref a0r), .val (.int p1), .val (.int p2), .val (.int p3), .val (.int p4)] [])) _
    refine XS.aloadN X2.here hx rfl (hb hby own_d1_9) rfl rfl ?_
    show Steps p.tables e below (T2.setTop (mkF m 10 #[.val (.ref a0r), .val (.int p1), .val (.int p2), .val (.int p3), .val (.int p4)] [(.ref a0r)])) _
    refine XS.iloadN X2.here hx rfl (hb hby own_d1_10) rfl ?_
    show Steps p.tables e below (T2.setTop (mkF m 11 #[.val (.ref a0r), .val (.int p1), .val (.int p2), .val (.int p3), .val (.int p4)] [(.int p2), (.ref a0r)])) _
    exact k
  obtain ⟨T8, h8, X8, e8, W8, st8⟩ := putF X2 hx hZ hown (host := "") (Or.inl (hw _ (List.mem_of_getElem? (i := 16) rfl))) Via.refl e2 fc5 fc3 (Or.inr ⟨(hw _ (List.mem_of_getElem? (i := 17) rfl)), rfl, hnm⟩) (hw _ (List.mem_of_getElem? (i := 1) rfl)) (ty := .int) (by decide) rfl rfl (g := (mkF m 11 #[.val (.ref a0r), .val (.int p1), .val (.int p2), .val (.int p3), .val (.int p4)] [(.int p2), (.ref a0r)])) rfl rfl (hb hby own_d1_11)
  refine own_go (T' := T8) (f' := (mkF m 14 #[.val (.ref a0r), .val (.int p1), .val (.int p2), .val (.int p3), .val (.int p4)] [])) st8 ?_
  have fc9 : Exa Z h8 a0r "com/example/comment_binder/commentbinder/scoring/Score" := fc3.wr W8
  have fc10 : Fld Z h8 a0r "com/example/comment_binder/commentbinder/scoring/Score" "correct" "I" (.int p1) := fc4.other W8 (Or.inr (slot_ne (Or.inr (hw _ (List.mem_of_getElem? (i := 15) rfl))) (Or.inr (hw _ (List.mem_of_getElem? (i := 17) rfl))) (by decide) (t := .int) (t' := .int) (by decide) (by decide)))
  have fc11 : Fld Z h8 a0r "com/example/comment_binder/commentbinder/scoring/Score" "changed" "I" (.int p2) := fc5.same W8
  have fc12 : Fld Z h8 a0r "com/example/comment_binder/commentbinder/scoring/Score" "lost" "I" (.int (0 : Int32)) := fc6.other W8 (Or.inr (slot_ne (Or.inr (hw _ (List.mem_of_getElem? (i := 19) rfl))) (Or.inr (hw _ (List.mem_of_getElem? (i := 17) rfl))) (by decide) (t := .int) (t' := .int) (by decide) (by decide)))
  have fc13 : Fld Z h8 a0r "com/example/comment_binder/commentbinder/scoring/Score" "spurious" "I" (.int (0 : Int32)) := fc7.other W8 (Or.inr (slot_ne (Or.inr (hw _ (List.mem_of_getElem? (i := 21) rfl))) (Or.inr (hw _ (List.mem_of_getElem? (i := 17) rfl))) (by decide) (t := .int) (t' := .int) (by decide) (by decide)))
  have Zs8 : n0 ≤ h8.size := Nat.le_trans Zs2 (Keep.of_wr W8).1
  have K8 : Keep h0 h8 [a0r] := K2.wr W8 (Or.inl (List.mem_of_getElem? (i := 0) rfl))
  have N8 := Fr.snoc X8 N2 go_a0r
  refine own_go (T' := T8) (f' := (mkF m 16 #[.val (.ref a0r), .val (.int p1), .val (.int p2), .val (.int p3), .val (.int p4)] [(.int p3), (.ref a0r)])) (fun t k => ?_) ?_
  · show Steps p.tables e below (T8.setTop (mkF m 14 #[.val (.ref a0r), .val (.int p1), .val (.int p2), .val (.int p3), .val (.int p4)] [])) _
    refine XS.aloadN X8.here hx rfl (hb hby own_d1_14) rfl rfl ?_
    show Steps p.tables e below (T8.setTop (mkF m 15 #[.val (.ref a0r), .val (.int p1), .val (.int p2), .val (.int p3), .val (.int p4)] [(.ref a0r)])) _
    refine XS.iloadN X8.here hx rfl (hb hby own_d1_15) rfl ?_
    show Steps p.tables e below (T8.setTop (mkF m 16 #[.val (.ref a0r), .val (.int p1), .val (.int p2), .val (.int p3), .val (.int p4)] [(.int p3), (.ref a0r)])) _
    exact k
  obtain ⟨T14, h14, X14, e14, W14, st14⟩ := putF X8 hx hZ hown (host := "") (Or.inl (hw _ (List.mem_of_getElem? (i := 18) rfl))) Via.refl e8 fc12 fc9 (Or.inr ⟨(hw _ (List.mem_of_getElem? (i := 19) rfl)), rfl, hnm⟩) (hw _ (List.mem_of_getElem? (i := 1) rfl)) (ty := .int) (by decide) rfl rfl (g := (mkF m 16 #[.val (.ref a0r), .val (.int p1), .val (.int p2), .val (.int p3), .val (.int p4)] [(.int p3), (.ref a0r)])) rfl rfl (hb hby own_d1_16)
  refine own_go (T' := T14) (f' := (mkF m 19 #[.val (.ref a0r), .val (.int p1), .val (.int p2), .val (.int p3), .val (.int p4)] [])) st14 ?_
  have fc15 : Exa Z h14 a0r "com/example/comment_binder/commentbinder/scoring/Score" := fc9.wr W14
  have fc16 : Fld Z h14 a0r "com/example/comment_binder/commentbinder/scoring/Score" "correct" "I" (.int p1) := fc10.other W14 (Or.inr (slot_ne (Or.inr (hw _ (List.mem_of_getElem? (i := 15) rfl))) (Or.inr (hw _ (List.mem_of_getElem? (i := 19) rfl))) (by decide) (t := .int) (t' := .int) (by decide) (by decide)))
  have fc17 : Fld Z h14 a0r "com/example/comment_binder/commentbinder/scoring/Score" "changed" "I" (.int p2) := fc11.other W14 (Or.inr (slot_ne (Or.inr (hw _ (List.mem_of_getElem? (i := 17) rfl))) (Or.inr (hw _ (List.mem_of_getElem? (i := 19) rfl))) (by decide) (t := .int) (t' := .int) (by decide) (by decide)))
  have fc18 : Fld Z h14 a0r "com/example/comment_binder/commentbinder/scoring/Score" "lost" "I" (.int p3) := fc12.same W14
  have fc19 : Fld Z h14 a0r "com/example/comment_binder/commentbinder/scoring/Score" "spurious" "I" (.int (0 : Int32)) := fc13.other W14 (Or.inr (slot_ne (Or.inr (hw _ (List.mem_of_getElem? (i := 21) rfl))) (Or.inr (hw _ (List.mem_of_getElem? (i := 19) rfl))) (by decide) (t := .int) (t' := .int) (by decide) (by decide)))
  have Zs14 : n0 ≤ h14.size := Nat.le_trans Zs8 (Keep.of_wr W14).1
  have K14 : Keep h0 h14 [a0r] := K8.wr W14 (Or.inl (List.mem_of_getElem? (i := 0) rfl))
  have N14 := Fr.snoc X14 N8 go_a0r
  refine own_go (T' := T14) (f' := (mkF m 22 #[.val (.ref a0r), .val (.int p1), .val (.int p2), .val (.int p3), .val (.int p4)] [(.int p4), (.ref a0r)])) (fun t k => ?_) ?_
  · show Steps p.tables e below (T14.setTop (mkF m 19 #[.val (.ref a0r), .val (.int p1), .val (.int p2), .val (.int p3), .val (.int p4)] [])) _
    refine XS.aloadN X14.here hx rfl (hb hby own_d1_19) rfl rfl ?_
    show Steps p.tables e below (T14.setTop (mkF m 20 #[.val (.ref a0r), .val (.int p1), .val (.int p2), .val (.int p3), .val (.int p4)] [(.ref a0r)])) _
    refine XS.iload X14.here hx rfl (hb hby own_d1_20) rfl ?_
    show Steps p.tables e below (T14.setTop (mkF m 22 #[.val (.ref a0r), .val (.int p1), .val (.int p2), .val (.int p3), .val (.int p4)] [(.int p4), (.ref a0r)])) _
    exact k
  obtain ⟨T20, h20, X20, e20, W20, st20⟩ := putF X14 hx hZ hown (host := "") (Or.inl (hw _ (List.mem_of_getElem? (i := 20) rfl))) Via.refl e14 fc19 fc15 (Or.inr ⟨(hw _ (List.mem_of_getElem? (i := 21) rfl)), rfl, hnm⟩) (hw _ (List.mem_of_getElem? (i := 1) rfl)) (ty := .int) (by decide) rfl rfl (g := (mkF m 22 #[.val (.ref a0r), .val (.int p1), .val (.int p2), .val (.int p3), .val (.int p4)] [(.int p4), (.ref a0r)])) rfl rfl (hb hby own_d1_22)
  refine own_go (T' := T20) (f' := (mkF m 25 #[.val (.ref a0r), .val (.int p1), .val (.int p2), .val (.int p3), .val (.int p4)] [])) st20 ?_
  have fc21 : Exa Z h20 a0r "com/example/comment_binder/commentbinder/scoring/Score" := fc15.wr W20
  have fc22 : Fld Z h20 a0r "com/example/comment_binder/commentbinder/scoring/Score" "correct" "I" (.int p1) := fc16.other W20 (Or.inr (slot_ne (Or.inr (hw _ (List.mem_of_getElem? (i := 15) rfl))) (Or.inr (hw _ (List.mem_of_getElem? (i := 21) rfl))) (by decide) (t := .int) (t' := .int) (by decide) (by decide)))
  have fc23 : Fld Z h20 a0r "com/example/comment_binder/commentbinder/scoring/Score" "changed" "I" (.int p2) := fc17.other W20 (Or.inr (slot_ne (Or.inr (hw _ (List.mem_of_getElem? (i := 17) rfl))) (Or.inr (hw _ (List.mem_of_getElem? (i := 21) rfl))) (by decide) (t := .int) (t' := .int) (by decide) (by decide)))
  have fc24 : Fld Z h20 a0r "com/example/comment_binder/commentbinder/scoring/Score" "lost" "I" (.int p3) := fc18.other W20 (Or.inr (slot_ne (Or.inr (hw _ (List.mem_of_getElem? (i := 19) rfl))) (Or.inr (hw _ (List.mem_of_getElem? (i := 21) rfl))) (by decide) (t := .int) (t' := .int) (by decide) (by decide)))
  have fc25 : Fld Z h20 a0r "com/example/comment_binder/commentbinder/scoring/Score" "spurious" "I" (.int p4) := fc19.same W20
  have Zs20 : n0 ≤ h20.size := Nat.le_trans Zs14 (Keep.of_wr W20).1
  have K20 : Keep h0 h20 [a0r] := K14.wr W20 (Or.inl (List.mem_of_getElem? (i := 0) rfl))
  have N20 := Fr.snoc X20 N14 go_a0r
  obtain ⟨fs, hr, hrun, hended, hW, hsame⟩ := X20.leave (v := none) (fun _ => rfl)
  refine ⟨_, _, ?_, hrun, hended, _, _, rfl, ?_, ⟨_, rfl⟩, hW, hsame.mono (by decide) (by decide)⟩
  · exact X20.returnOut hx Bd.returns (hb hby own_d1_25) hr
  · show own_Q1 Z a0r p1 p2 p3 p4 h0 n0 _ T20.heap _
    rw [e20]
    exact ⟨rfl, N20, K20, fc22, fc23, fc24, fc25⟩
theorem own_d2_0 : decode prog_96_method_4_code 0 = .ok (.aload_n 0, 1) := by decide +kernel
theorem own_d2_1 : decode prog_96_method_4_code 1 = .ok (.getfield 7, 3) := by decide +kernel
theorem own_d2_4 : decode prog_96_method_4_code 4 = .ok (.aload_n 0, 1) := by decide +kernel
theorem own_d2_5 : decode prog_96_method_4_code 5 = .ok (.getfield 13, 3) := by decide +kernel
theorem own_d2_8 : decode prog_96_method_4_code 8 = .ok (.iadd, 1) := by decide +kernel
theorem own_d2_9 : decode prog_96_method_4_code 9 = .ok (.aload_n 0, 1) := by decide +kernel
theorem own_d2_10 : decode prog_96_method_4_code 10 = .ok (.getfield 16, 3) := by decide +kernel
theorem own_d2_13 : decode prog_96_method_4_code 13 = .ok (.iadd, 1) := by decide +kernel
theorem own_d2_14 : decode prog_96_method_4_code 14 = .ok (.aload_n 0, 1) := by decide +kernel
theorem own_d2_15 : decode prog_96_method_4_code 15 = .ok (.getfield 19, 3) := by decide +kernel
theorem own_d2_18 : decode prog_96_method_4_code 18 = .ok (.iadd, 1) := by decide +kernel
theorem own_d2_19 : decode prog_96_method_4_code 19 = .ok (.ireturn, 1) := by decide +kernel
theorem own_ef2 (m : MethodId) (a0r : Addr) : entryFrame m #[(.ref a0r)] 1 = mkF m 0 #[.val (.ref a0r)] [] := by first | (simp [entryFrame, mkF, argsToLocals, Value.category]; done) | rfl
def own_Q2 (Z : State) (a0r : Addr) (u0 : Int32) (u1 : Int32) (u2 : Int32) (u3 : Int32) (h0 : Heap) (n0 : Nat) (v : Option Value) (h : Heap) (L : List Loc) : Prop := (v = some (.int (((u0 + u1) + u2) + u3))) ∧ (Fr n0 L) ∧ (h = h0)
set_option maxRecDepth 65536 in
set_option maxHeartbeats 40000000 in
theorem own_rm2 (l : Launch) (Z : State) (a0 : Array Value) (hw : ∀ d ∈ tables_1, d.before a0 Z = true) (ws : List Jvm.Cond) (a0r : Addr) (u0 : Int32) (u1 : Int32) (u2 : Int32) (u3 : Int32) (h0 : Heap) (n0 : Nat) (Z0 : n0 ≤ h0.size) (P0 : Fld Z h0 a0r "com/example/comment_binder/commentbinder/scoring/Score" "correct" "I" (.int u0)) (P1 : Fld Z h0 a0r "com/example/comment_binder/commentbinder/scoring/Score" "changed" "I" (.int u1)) (P2 : Fld Z h0 a0r "com/example/comment_binder/commentbinder/scoring/Score" "lost" "I" (.int u2)) (P3 : Fld Z h0 a0r "com/example/comment_binder/commentbinder/scoring/Score" "spurious" "I" (.int u3)) :
    MetFree l (⟨"com/example/comment_binder/commentbinder/scoring/Score", "judged", "()I"⟩ : MethodName) (head1 (Jvm.Cond.code (⟨"com/example/comment_binder/commentbinder/scoring/Score", "judged", "()I"⟩ : MethodName) prog_96_method_4_code 1 (some .int) :: ws) ({ frames := 0, cells := 0, slots := 0, locals := 0 } : Room)) (fun a U => a = #[(.ref a0r)] ∧ Z.Warmed39 U.vm ∧ U.heap = h0) (fun _ _ _ _ _ => True) (fun _ U o U' => ∃ v L, o = .returned v ∧ own_Q2 Z a0r u0 u1 u2 u3 h0 n0 v U'.heap L ∧ FrameEnd U o U' L ({ frames := 0, cells := 0, slots := 0, locals := 0 } : Room).cells ({ frames := 0, cells := 0, slots := 0, locals := 0 } : Room).slots) := by
  refine MetFree.of_bodySF (plainFor_of_name own_pn1) hisR ?_
  intro p e s m args below meth c s₁ Bd hml0 hP hK
  obtain ⟨rfl, hZ, hh⟩ := hP
  have hx := Bd.exec
  have hby := Bd.bytes
  have hml : c.maxLocals = 1 := hml0
  have hown : s.vm.findClass "com/example/comment_binder/commentbinder/scoring/Score" = some m.cls := findClass_of_methodNamed Bd.named
  have hnm := (name_of_methodNamed Bd.named Bd.method).1
  have X0 : Stand p l e ({ frames := 0, cells := 0, slots := 0, locals := 0 } : Room) s m #[(.ref a0r)] below meth c s₁ [] 0 0 := Stand.of_body Bd
  have e0 : s₁.heap = h0 := by rw [← hh, Bd.state]; rfl
  have N0 := Fr.nil n0
  refine own_go (fun t k => castTop (own_ef2 m a0r) k) ?_
  refine own_go (T' := s₁) (f' := (mkF m 1 #[.val (.ref a0r)] [(.ref a0r)])) (fun t k => ?_) ?_
  · show Steps p.tables e below (s₁.setTop (mkF m 0 #[.val (.ref a0r)] [])) _
    refine XS.aloadN X0.here hx rfl (hb hby own_d2_0) rfl rfl ?_
    show Steps p.tables e below (s₁.setTop (mkF m 1 #[.val (.ref a0r)] [(.ref a0r)])) _
    exact k
  obtain ⟨T1, X1, e1, st1⟩ := getF X0 hx hZ hown (host := "") (Or.inl (hw _ (List.mem_of_getElem? (i := 14) rfl))) Via.refl e0 P0 (g := (mkF m 1 #[.val (.ref a0r)] [(.ref a0r)])) rfl rfl (hb hby own_d2_1)
  refine own_go (T' := T1) (f' := (mkF m 4 #[.val (.ref a0r)] [(.int u0)])) st1 ?_
  refine own_go (T' := T1) (f' := (mkF m 5 #[.val (.ref a0r)] [(.ref a0r), (.int u0)])) (fun t k => ?_) ?_
  · show Steps p.tables e below (T1.setTop (mkF m 4 #[.val (.ref a0r)] [(.int u0)])) _
    refine XS.aloadN X1.here hx rfl (hb hby own_d2_4) rfl rfl ?_
    show Steps p.tables e below (T1.setTop (mkF m 5 #[.val (.ref a0r)] [(.ref a0r), (.int u0)])) _
    exact k
  obtain ⟨T2, X2, e2, st2⟩ := getF X1 hx hZ hown (host := "") (Or.inl (hw _ (List.mem_of_getElem? (i := 16) rfl))) Via.refl e1 P1 (g := (mkF m 5 #[.val (.ref a0r)] [(.ref a0r), (.int u0)])) rfl rfl (hb hby own_d2_5)
  refine own_go (T' := T2) (f' := (mkF m 8 #[.val (.ref a0r)] [(.int u1), (.int u0)])) st2 ?_
  refine own_go (T' := T2) (f' := (mkF m 10 #[.val (.ref a0r)] [(.ref a0r), (.int (u0 + u1))])) (fun t k => ?_) ?_
  · show Steps p.tables e below (T2.setTop (mkF m 8 #[.val (.ref a0r)] [(.int u1), (.int u0)])) _
    refine XS.iadd X2.here hx rfl (hb hby own_d2_8) rfl ?_
    show Steps p.tables e below (T2.setTop (mkF m 9 #[.val (.ref a0r)] [(.int (u0 + u1))])) _
    refine XS.aloadN X2.here hx rfl (hb hby own_d2_9) rfl rfl ?_
    show Steps p.tables e below (T2.setTop (mkF m 10 #[.val (.ref a0r)] [(.ref a0r), (.int (u0 + u1))])) _
    exact k
  obtain ⟨T3, X3, e3, st3⟩ := getF X2 hx hZ hown (host := "") (Or.inl (hw _ (List.mem_of_getElem? (i := 18) rfl))) Via.refl e2 P2 (g := (mkF m 10 #[.val (.ref a0r)] [(.ref a0r), (.int (u0 + u1))])) rfl rfl (hb hby own_d2_10)
  refine own_go (T' := T3) (f' := (mkF m 13 #[.val (.ref a0r)] [(.int u2), (.int (u0 + u1))])) st3 ?_
  refine own_go (T' := T3) (f' := (mkF m 15 #[.val (.ref a0r)] [(.ref a0r), (.int ((u0 + u1) + u2))])) (fun t k => ?_) ?_
  · show Steps p.tables e below (T3.setTop (mkF m 13 #[.val (.ref a0r)] [(.int u2), (.int (u0 + u1))])) _
    refine XS.iadd X3.here hx rfl (hb hby own_d2_13) rfl ?_
    show Steps p.tables e below (T3.setTop (mkF m 14 #[.val (.ref a0r)] [(.int ((u0 + u1) + u2))])) _
    refine XS.aloadN X3.here hx rfl (hb hby own_d2_14) rfl rfl ?_
    show Steps p.tables e below (T3.setTop (mkF m 15 #[.val (.ref a0r)] [(.ref a0r), (.int ((u0 + u1) + u2))])) _
    exact k
  obtain ⟨T4, X4, e4, st4⟩ := getF X3 hx hZ hown (host := "") (Or.inl (hw _ (List.mem_of_getElem? (i := 20) rfl))) Via.refl e3 P3 (g := (mkF m 15 #[.val (.ref a0r)] [(.ref a0r), (.int ((u0 + u1) + u2))])) rfl rfl (hb hby own_d2_15)
  refine own_go (T' := T4) (f' := (mkF m 18 #[.val (.ref a0r)] [(.int u3), (.int ((u0 + u1) + u2))])) st4 ?_
  refine own_go (T' := T4) (f' := (mkF m 19 #[.val (.ref a0r)] [(.int (((u0 + u1) + u2) + u3))])) (fun t k => ?_) ?_
  · show Steps p.tables e below (T4.setTop (mkF m 18 #[.val (.ref a0r)] [(.int u3), (.int ((u0 + u1) + u2))])) _
    refine XS.iadd X4.here hx rfl (hb hby own_d2_18) rfl ?_
    show Steps p.tables e below (T4.setTop (mkF m 19 #[.val (.ref a0r)] [(.int (((u0 + u1) + u2) + u3))])) _
    exact k
  obtain ⟨fs, hr, hrun, hended, hW, hsame⟩ := X4.leave (v := some (.int (((u0 + u1) + u2) + u3))) (fun h => by rw [Bd.returns] at h; cases h)
  refine ⟨_, _, ?_, hrun, hended, _, _, rfl, ?_, ⟨_, rfl⟩, hW, hsame.mono (by decide) (by decide)⟩
  · exact retI X4 hx Bd.returns (hb hby own_d2_19) hr
  · show own_Q2 Z a0r u0 u1 u2 u3 h0 n0 _ T4.heap _
    rw [e4]
    exact ⟨rfl, N0, rfl⟩
theorem own_pd1 : parseMethodDescriptor "(IIII)V" = some ⟨[.int, .int, .int, .int], none⟩ := by decide +kernel
theorem own_pd2 : parseMethodDescriptor "()I" = some ⟨[], some .int⟩ := by decide +kernel
theorem own_pn2 : plainName "com/example/comment_binder/commentbinder/scoring/ScoreJudgedPinLaw" = true := by first | (simp [plainName, overriddenIn]; done) | decide +kernel
theorem own_ef0 (m : MethodId) (p0 : Int32) (p1 : Int32) (p2 : Int32) (p3 : Int32) : entryFrame m #[(.int p0), (.int p1), (.int p2), (.int p3)] maxLocals = mkF m 0 #[.val (.int p0), .val (.int p1), .val (.int p2), .val (.int p3), .unset, .unset, .unset, .unset] [] := by first | (simp [entryFrame, mkF, argsToLocals, Value.category, maxLocals]; done) | rfl
def own_F0 (p0 : Int32) (p1 : Int32) (p2 : Int32) (p3 : Int32) : Int32 := (if (((p0 + p1) + p2) + p3) = (((((p0.toInt64) + (p1.toInt64)) + (p2.toInt64)) + (p3.toInt64)).toInt32) then (1 : Int32) else (0 : Int32))
theorem own_law (p0 p1 p2 p3 : Int32) : own_F0 p0 p1 p2 p3 = 1 := by
  rw [own_F0]
  refine if_pos ?_
  rw [← Int32.toInt_inj]
  have a1 := c_iadd (p0 + p1 + p2) p3; have a2 := c_iadd (p0 + p1) p2; have a3 := c_iadd p0 p1
  have b0 := c_l2i (p0.toInt64 + p1.toInt64 + p2.toInt64 + p3.toInt64)
  have b1 := c_ladd (p0.toInt64 + p1.toInt64 + p2.toInt64) p3.toInt64; have b2 := c_ladd (p0.toInt64 + p1.toInt64) p2.toInt64; have b3 := c_ladd p0.toInt64 p1.toInt64
  rw [c_i2l] at b1 b2 b3
  rw [c_i2l] at b3
  have r1 := rng32 (p0 + p1 + p2 + p3); have r2 := rng32 (p0.toInt64 + p1.toInt64 + p2.toInt64 + p3.toInt64).toInt32
  omega
def own_Q0 (Z : State) (p0 : Int32) (p1 : Int32) (p2 : Int32) (p3 : Int32) (h0 : Heap) (n0 : Nat) (v : Option Value) (h : Heap) (L : List Loc) : Prop := (v = some (.int (1 : Int32))) ∧ (Fr n0 L)
set_option maxRecDepth 65536 in
set_option maxHeartbeats 40000000 in
theorem own_rm0 (l : Launch) (Z : State) (a0 : Array Value) (hw : ∀ d ∈ tables_1, d.before a0 Z = true) (ws : List Jvm.Cond) (p0 : Int32) (p1 : Int32) (p2 : Int32) (p3 : Int32) (h0 : Heap) (n0 : Nat) (Z0 : n0 ≤ h0.size) :
    MetFree l x (head1 (Jvm.Cond.code x code maxLocals ret :: ws) room_1) (fun a U => a = #[(.int p0), (.int p1), (.int p2), (.int p3)] ∧ Z.Warmed39 U.vm ∧ U.heap = h0) (fun _ _ _ _ _ => True) (fun _ U o U' => ∃ v L, o = .returned v ∧ own_Q0 Z p0 p1 p2 p3 h0 n0 v U'.heap L ∧ FrameEnd U o U' L 16 128) := by
  refine MetFree.of_bodySF (plainFor_of_name own_pn2) hisR ?_
  intro p e s m args below meth c s₁ Bd hml0 hP hK
  obtain ⟨rfl, hZ, hh⟩ := hP
  have hx := Bd.exec
  have hby := Bd.bytes
  have hml : c.maxLocals = 8 := hml0
  have hown : s.vm.findClass "com/example/comment_binder/commentbinder/scoring/ScoreJudgedPinLaw" = some m.cls := findClass_of_methodNamed Bd.named
  have hnm := (name_of_methodNamed Bd.named Bd.method).1
  have X0 : Stand p l e room_1 s m #[(.int p0), (.int p1), (.int p2), (.int p3)] below meth c s₁ [] 0 0 := Stand.of_body Bd
  have e0 : s₁.heap = h0 := by rw [← hh, Bd.state]; rfl
  have N0 := Fr.nil n0
  refine own_go (fun t k => castTop (own_ef0 m p0 p1 p2 p3) k) ?_
  obtain ⟨T1, h1, X1, e1, E1, A1, D1, -, st1⟩ := newO X0 hx hZ hown (hw _ (List.mem_of_getElem? (i := 0) rfl)) (hw _ (List.mem_of_getElem? (i := 1) rfl)) (hw _ (List.mem_of_getElem? (i := 2) rfl)) e0 (g := (mkF m 0 #[.val (.int p0), .val (.int p1), .val (.int p2), .val (.int p3), .unset, .unset, .unset, .unset] [])) rfl (hb hby at_0) (by decide) (by decide)
  obtain ⟨b1, g1⟩ : ∃ z, z = h0.size := ⟨_, rfl⟩
  rw [← g1] at A1 D1 st1
  have g_b1 : n0 ≤ b1 := Nat.le_trans Z0 (Nat.le_of_eq g1.symm)
  refine own_go (T' := T1) (f' := (mkF m 3 #[.val (.int p0), .val (.int p1), .val (.int p2), .val (.int p3), .unset, .unset, .unset, .unset] [(.ref b1)])) st1 ?_
  have Zs1 : n0 ≤ h1.size := Nat.le_trans Z0 E1.1
  have fc2 : Fld Z h1 b1 "com/example/comment_binder/commentbinder/scoring/Score" "correct" "I" (.int (0 : Int32)) := D1 (Or.inr (hw _ (List.mem_of_getElem? (i := 15) rfl))) (ty := .int) (by decide)
  have fc3 : Fld Z h1 b1 "com/example/comment_binder/commentbinder/scoring/Score" "changed" "I" (.int (0 : Int32)) := D1 (Or.inr (hw _ (List.mem_of_getElem? (i := 17) rfl))) (ty := .int) (by decide)
  have fc4 : Fld Z h1 b1 "com/example/comment_binder/commentbinder/scoring/Score" "lost" "I" (.int (0 : Int32)) := D1 (Or.inr (hw _ (List.mem_of_getElem? (i := 19) rfl))) (ty := .int) (by decide)
  have fc5 : Fld Z h1 b1 "com/example/comment_binder/commentbinder/scoring/Score" "spurious" "I" (.int (0 : Int32)) := D1 (Or.inr (hw _ (List.mem_of_getElem? (i := 21) rfl))) (ty := .int) (by decide)
  refine own_go (T' := T1) (f' := (mkF m 8 #[.val (.int p0), .val (.int p1), .val (.int p2), .val (.int p3), .unset, .unset, .unset, .unset] [(.int p3), (.int p2), (.int p1), (.int p0), (.ref b1), (.ref b1)])) (fun t k => ?_) ?_
  · show Steps p.tables e below (T1.setTop (mkF m 3 #[.val (.int p0), .val (.int p1), .val (.int p2), .val (.int p3), .unset, .unset, .unset, .unset] [(.ref b1)])) _
    refine XS.dup X1.here hx rfl (hb hby at_3) rfl rfl ?_
    show Steps p.tables e below (T1.setTop (mkF m 4 #[.val (.int p0), .val (.int p1), .val (.int p2), .val (.int p3), .unset, .unset, .unset, .unset] [(.ref b1), (.ref b1)])) _
    refine XS.iloadN X1.here hx rfl (hb hby at_4) rfl ?_
    show Steps p.tables e below (T1.setTop (mkF m 5 #[.val (.int p0), .val (.int p1), .val (.int p2), .val (.int p3), .unset, .unset, .unset, .unset] [(.int p0), (.ref b1), (.ref b1)])) _
    refine XS.iloadN X1.here hx rfl (hb hby at_5) rfl ?_
    show Steps p.tables e below (T1.setTop (mkF m 6 #[.val (.int p0), .val (.int p1), .val (.int p2), .val (.int p3), .unset, .unset, .unset, .unset] [(.int p1), (.int p0), (.ref b1), (.ref b1)])) _
    refine XS.iloadN X1.here hx rfl (hb hby at_6) rfl ?_
    show Steps p.tables e below (T1.setTop (mkF m 7 #[.val (.int p0), .val (.int p1), .val (.int p2), .val (.int p3), .unset, .unset, .unset, .unset] [(.int p2), (.int p1), (.int p0), (.ref b1), (.ref b1)])) _
    refine XS.iloadN X1.here hx rfl (hb hby at_7) rfl ?_
    show Steps p.tables e below (T1.setTop (mkF m 8 #[.val (.int p0), .val (.int p1), .val (.int p2), .val (.int p3), .unset, .unset, .unset, .unset] [(.int p3), (.int p2), (.int p1), (.int p0), (.ref b1), (.ref b1)])) _
    exact k
  obtain ⟨_, _, ⟨T6, Lq6, kq6, nq6⟩, -, X6, ⟨Lc6, hQ6, lq6, yq6, zq6⟩, st6⟩ := X1.specialBack hx (y := (⟨"com/example/comment_binder/commentbinder/scoring/Score", "<init>", "(IIII)V"⟩ : MethodName)) rfl hown (mvT hZ (hw _ (List.mem_of_getElem? (i := 3) rfl))) (mvT hZ (hw _ (List.mem_of_getElem? (i := 4) rfl))) (mvT hZ (hw _ (List.mem_of_getElem? (i := 5) rfl))) (by decide) (backOf (W := 1) (own_rm1 l Z a0 hw [] b1 p0 p1 p2 p3  h1 n0 Zs1 A1 fc2 fc3 fc4 fc5 g_b1) hZ (hw _ (List.mem_of_getElem? (i := 5) rfl)) (hw _ (List.mem_of_getElem? (i := 2) rfl)) (by decide) (by decide)) (g := (mkF m 8 #[.val (.int p0), .val (.int p1), .val (.int p2), .val (.int p3), .unset, .unset, .unset, .unset] [(.int p3), (.int p2), (.int p1), (.int p0), (.ref b1), (.ref b1)])) rfl (by rw [hml]; rfl) (Steps.refl _) (a := b1) (argsL := [(.int p0), (.int p1), (.int p2), (.int p3)]) (rest := [(.ref b1)]) (lenOf own_pd1 rfl) rfl (by show 2 * 0 + _ ≤ _; exact Nat.le_of_eq rfl) (hb hby at_8) (fun _ _ => ⟨rfl, e1, (by decide : 1 + 0 ≤ _), (by decide : 4 + 0 ≤ _)⟩)
  dsimp only [Pt.U, Pt.locs, Pt.cells, Pt.slots] at X6 lq6 yq6 zq6 st6 hQ6
  subst lq6 yq6 zq6
  obtain ⟨rfl, N6q, h6q, p6_0, p6_1, p6_2, p6_3⟩ := hQ6
  have N6 := Fr.app N0 N6q
  have fc7 : Exa Z T6.heap b1 "com/example/comment_binder/commentbinder/scoring/Score" := A1.keep h6q
  have Zs6 : n0 ≤ T6.heap.size := Nat.le_trans Zs1 h6q.1
  refine own_go (T' := T6) (f' := (mkF m 11 #[.val (.int p0), .val (.int p1), .val (.int p2), .val (.int p3), .unset, .unset, .unset, .unset] [(.ref b1)])) (fun t k => st6.trans k) ?_
  refine own_go (T' := T6) (f' := (mkF m 15 #[.val (.int p0), .val (.int p1), .val (.int p2), .val (.int p3), .val (.ref b1), .unset, .unset, .unset] [(.ref b1)])) (fun t k => ?_) ?_
  · show Steps p.tables e below (T6.setTop (mkF m 11 #[.val (.int p0), .val (.int p1), .val (.int p2), .val (.int p3), .unset, .unset, .unset, .unset] [(.ref b1)])) _
    refine XS.astore X6.here hx rfl (hb hby at_11) rfl rfl (l' := #[.val (.int p0), .val (.int p1), .val (.int p2), .val (.int p3), .val (.ref b1), .unset, .unset, .unset]) rfl ?_
    show Steps p.tables e below (T6.setTop (mkF m 13 #[.val (.int p0), .val (.int p1), .val (.int p2), .val (.int p3), .val (.ref b1), .unset, .unset, .unset] [])) _
    refine XS.aload X6.here hx rfl (hb hby at_13) rfl rfl ?_
    show Steps p.tables e below (T6.setTop (mkF m 15 #[.val (.int p0), .val (.int p1), .val (.int p2), .val (.int p3), .val (.ref b1), .unset, .unset, .unset] [(.ref b1)])) _
    exact k
  obtain ⟨cq8, kq8, q8a, q8b, q8c⟩ := isOf hZ rfl fc7
  obtain ⟨_, _, ⟨T8, Lq8, kq8, nq8⟩, -, X8, ⟨Lc8, hQ8, lq8, yq8, zq8⟩, st8⟩ := X6.virtualBack hx (y := (⟨"com/example/comment_binder/commentbinder/scoring/Score", "judged", "()I"⟩ : MethodName)) (z := (⟨"com/example/comment_binder/commentbinder/scoring/Score", "judged", "()I"⟩ : MethodName)) hown (mvT hZ (hw _ (List.mem_of_getElem? (i := 22) rfl))) (mvT hZ (hw _ (List.mem_of_getElem? (i := 23) rfl))) (notFace_of_selects (args := #[]) (mvT hZ (hw _ (List.mem_of_getElem? (i := 25) rfl)))) (mvT hZ (hw _ (List.mem_of_getElem? (i := 25) rfl))) (mvT hZ (hw _ (List.mem_of_getElem? (i := 24) rfl))) (by decide) (backOf (W := 0) (own_rm2 l Z a0 hw [] b1 p0 p1 p2 p3 T6.heap n0 Zs6 p6_0 p6_1 p6_2 p6_3) hZ (hw _ (List.mem_of_getElem? (i := 26) rfl)) (hw _ (List.mem_of_getElem? (i := 2) rfl)) (by decide) (by decide)) q8a q8c (g := (mkF m 15 #[.val (.int p0), .val (.int p1), .val (.int p2), .val (.int p3), .val (.ref b1), .unset, .unset, .unset] [(.ref b1)])) rfl (by rw [hml]; rfl) (Steps.refl _) (argsL := []) (rest := []) (lenOf own_pd2 rfl) rfl (by show 2 * 0 + _ ≤ _; exact Nat.le_of_eq rfl) (hb hby at_15) (fun _ _ => ⟨rfl, rfl, (by decide : 1 + 0 ≤ _), (by decide : 4 + 0 ≤ _)⟩)
  dsimp only [Pt.U, Pt.locs, Pt.cells, Pt.slots] at X8 lq8 yq8 zq8 st8 hQ8
  subst lq8 yq8 zq8
  obtain ⟨rfl, N8q, h8q⟩ := hQ8
  have N8 := Fr.app N6 N8q
  refine own_go (T' := T8) (f' := (mkF m 18 #[.val (.int p0), .val (.int p1), .val (.int p2), .val (.int p3), .val (.ref b1), .unset, .unset, .unset] [(.int (((p0 + p1) + p2) + p3))])) (fun t k => st8.trans k) ?_
  refine own_go (T' := T8) (f' := (mkF m 38 #[.val (.int p0), .val (.int p1), .val (.int p2), .val (.int p3), .val (.ref b1), .val (.int (((p0 + p1) + p2) + p3)), .val (.long ((((p0.toInt64) + (p1.toInt64)) + (p2.toInt64)) + (p3.toInt64))), .second] [(.int (((((p0.toInt64) + (p1.toInt64)) + (p2.toInt64)) + (p3.toInt64)).toInt32)), (.int (((p0 + p1) + p2) + p3))])) (fun t k => ?_) ?_
  · show Steps p.tables e below (T8.setTop (mkF m 18 #[.val (.int p0), .val (.int p1), .val (.int p2), .val (.int p3), .val (.ref b1), .unset, .unset, .unset] [(.int (((p0 + p1) + p2) + p3))])) _
    refine XS.istore X8.here hx rfl (hb hby at_18) rfl (l' := #[.val (.int p0), .val (.int p1), .val (.int p2), .val (.int p3), .val (.ref b1), .val (.int (((p0 + p1) + p2) + p3)), .unset, .unset]) rfl ?_
    show Steps p.tables e below (T8.setTop (mkF m 20 #[.val (.int p0), .val (.int p1), .val (.int p2), .val (.int p3), .val (.ref b1), .val (.int (((p0 + p1) + p2) + p3)), .unset, .unset] [])) _
    refine XS.iloadN X8.here hx rfl (hb hby at_20) rfl ?_
    show Steps p.tables e below (T8.setTop (mkF m 21 #[.val (.int p0), .val (.int p1), .val (.int p2), .val (.int p3), .val (.ref b1), .val (.int (((p0 + p1) + p2) + p3)), .unset, .unset] [(.int p0)])) _
    refine XS.i2l X8.here hx rfl (hb hby at_21) rfl ?_
    show Steps p.tables e below (T8.setTop (mkF m 22 #[.val (.int p0), .val (.int p1), .val (.int p2), .val (.int p3), .val (.ref b1), .val (.int (((p0 + p1) + p2) + p3)), .unset, .unset] [(.long (p0.toInt64))])) _
    refine XS.iloadN X8.here hx rfl (hb hby at_22) rfl ?_
    show Steps p.tables e below (T8.setTop (mkF m 23 #[.val (.int p0), .val (.int p1), .val (.int p2), .val (.int p3), .val (.ref b1), .val (.int (((p0 + p1) + p2) + p3)), .unset, .unset] [(.int p1), (.long (p0.toInt64))])) _
    refine XS.i2l X8.here hx rfl (hb hby at_23) rfl ?_
    show Steps p.tables e below (T8.setTop (mkF m 24 #[.val (.int p0), .val (.int p1), .val (.int p2), .val (.int p3), .val (.ref b1), .val (.int (((p0 + p1) + p2) + p3)), .unset, .unset] [(.long (p1.toInt64)), (.long (p0.toInt64))])) _
    refine XS.ladd X8.here hx rfl (hb hby at_24) rfl ?_
    show Steps p.tables e below (T8.setTop (mkF m 25 #[.val (.int p0), .val (.int p1), .val (.int p2), .val (.int p3), .val (.ref b1), .val (.int (((p0 + p1) + p2) + p3)), .unset, .unset] [(.long ((p0.toInt64) + (p1.toInt64)))])) _
    refine XS.iloadN X8.here hx rfl (hb hby at_25) rfl ?_
    show Steps p.tables e below (T8.setTop (mkF m 26 #[.val (.int p0), .val (.int p1), .val (.int p2), .val (.int p3), .val (.ref b1), .val (.int (((p0 + p1) + p2) + p3)), .unset, .unset] [(.int p2), (.long ((p0.toInt64) + (p1.toInt64)))])) _
    refine XS.i2l X8.here hx rfl (hb hby at_26) rfl ?_
    show Steps p.tables e below (T8.setTop (mkF m 27 #[.val (.int p0), .val (.int p1), .val (.int p2), .val (.int p3), .val (.ref b1), .val (.int (((p0 + p1) + p2) + p3)), .unset, .unset] [(.long (p2.toInt64)), (.long ((p0.toInt64) + (p1.toInt64)))])) _
    refine XS.ladd X8.here hx rfl (hb hby at_27) rfl ?_
    show Steps p.tables e below (T8.setTop (mkF m 28 #[.val (.int p0), .val (.int p1), .val (.int p2), .val (.int p3), .val (.ref b1), .val (.int (((p0 + p1) + p2) + p3)), .unset, .unset] [(.long (((p0.toInt64) + (p1.toInt64)) + (p2.toInt64)))])) _
    refine XS.iloadN X8.here hx rfl (hb hby at_28) rfl ?_
    show Steps p.tables e below (T8.setTop (mkF m 29 #[.val (.int p0), .val (.int p1), .val (.int p2), .val (.int p3), .val (.ref b1), .val (.int (((p0 + p1) + p2) + p3)), .unset, .unset] [(.int p3), (.long (((p0.toInt64) + (p1.toInt64)) + (p2.toInt64)))])) _
    refine XS.i2l X8.here hx rfl (hb hby at_29) rfl ?_
    show Steps p.tables e below (T8.setTop (mkF m 30 #[.val (.int p0), .val (.int p1), .val (.int p2), .val (.int p3), .val (.ref b1), .val (.int (((p0 + p1) + p2) + p3)), .unset, .unset] [(.long (p3.toInt64)), (.long (((p0.toInt64) + (p1.toInt64)) + (p2.toInt64)))])) _
    refine XS.ladd X8.here hx rfl (hb hby at_30) rfl ?_
    show Steps p.tables e below (T8.setTop (mkF m 31 #[.val (.int p0), .val (.int p1), .val (.int p2), .val (.int p3), .val (.ref b1), .val (.int (((p0 + p1) + p2) + p3)), .unset, .unset] [(.long ((((p0.toInt64) + (p1.toInt64)) + (p2.toInt64)) + (p3.toInt64)))])) _
    refine XS.lstore X8.here hx rfl (hb hby at_31) rfl (l' := #[.val (.int p0), .val (.int p1), .val (.int p2), .val (.int p3), .val (.ref b1), .val (.int (((p0 + p1) + p2) + p3)), .val (.long ((((p0.toInt64) + (p1.toInt64)) + (p2.toInt64)) + (p3.toInt64))), .second]) rfl ?_
    show Steps p.tables e below (T8.setTop (mkF m 33 #[.val (.int p0), .val (.int p1), .val (.int p2), .val (.int p3), .val (.ref b1), .val (.int (((p0 + p1) + p2) + p3)), .val (.long ((((p0.toInt64) + (p1.toInt64)) + (p2.toInt64)) + (p3.toInt64))), .second] [])) _
    refine XS.iload X8.here hx rfl (hb hby at_33) rfl ?_
    show Steps p.tables e below (T8.setTop (mkF m 35 #[.val (.int p0), .val (.int p1), .val (.int p2), .val (.int p3), .val (.ref b1), .val (.int (((p0 + p1) + p2) + p3)), .val (.long ((((p0.toInt64) + (p1.toInt64)) + (p2.toInt64)) + (p3.toInt64))), .second] [(.int (((p0 + p1) + p2) + p3))])) _
    refine XS.lload X8.here hx rfl (hb hby at_35) rfl ?_
    show Steps p.tables e below (T8.setTop (mkF m 37 #[.val (.int p0), .val (.int p1), .val (.int p2), .val (.int p3), .val (.ref b1), .val (.int (((p0 + p1) + p2) + p3)), .val (.long ((((p0.toInt64) + (p1.toInt64)) + (p2.toInt64)) + (p3.toInt64))), .second] [(.long ((((p0.toInt64) + (p1.toInt64)) + (p2.toInt64)) + (p3.toInt64))), (.int (((p0 + p1) + p2) + p3))])) _
    refine XS.l2i X8.here hx rfl (hb hby at_37) rfl ?_
    show Steps p.tables e below (T8.setTop (mkF m 38 #[.val (.int p0), .val (.int p1), .val (.int p2), .val (.int p3), .val (.ref b1), .val (.int (((p0 + p1) + p2) + p3)), .val (.long ((((p0.toInt64) + (p1.toInt64)) + (p2.toInt64)) + (p3.toInt64))), .second] [(.int (((((p0.toInt64) + (p1.toInt64)) + (p2.toInt64)) + (p3.toInt64)).toInt32)), (.int (((p0 + p1) + p2) + p3))])) _
    exact k
  by_cases hc38_9 : (((p0 + p1) + p2) + p3) = (((((p0.toInt64) + (p1.toInt64)) + (p2.toInt64)) + (p3.toInt64)).toInt32)
  · skip
    refine own_go (T' := T8) (f' := (mkF m 46 #[.val (.int p0), .val (.int p1), .val (.int p2), .val (.int p3), .val (.ref b1), .val (.int (((p0 + p1) + p2) + p3)), .val (.long ((((p0.toInt64) + (p1.toInt64)) + (p2.toInt64)) + (p3.toInt64))), .second] [(.int (1 : Int32))])) (fun t k => ?_) ?_
    · show Steps p.tables e below (T8.setTop (mkF m 38 #[.val (.int p0), .val (.int p1), .val (.int p2), .val (.int p3), .val (.ref b1), .val (.int (((p0 + p1) + p2) + p3)), .val (.long ((((p0.toInt64) + (p1.toInt64)) + (p2.toInt64)) + (p3.toInt64))), .second] [(.int (((((p0.toInt64) + (p1.toInt64)) + (p2.toInt64)) + (p3.toInt64)).toInt32)), (.int (((p0 + p1) + p2) + p3))])) _
      refine XS.icmpNo X8.here hx rfl (hb hby at_38) rfl (teq hc38_9).2 ?_
      show Steps p.tables e below (T8.setTop (mkF m 41 #[.val (.int p0), .val (.int p1), .val (.int p2), .val (.int p3), .val (.ref b1), .val (.int (((p0 + p1) + p2) + p3)), .val (.long ((((p0.toInt64) + (p1.toInt64)) + (p2.toInt64)) + (p3.toInt64))), .second] [])) _
      refine XS.iconst X8.here hx rfl (hb hby at_41) ?_
      show Steps p.tables e below (T8.setTop (mkF m 42 #[.val (.int p0), .val (.int p1), .val (.int p2), .val (.int p3), .val (.ref b1), .val (.int (((p0 + p1) + p2) + p3)), .val (.long ((((p0.toInt64) + (p1.toInt64)) + (p2.toInt64)) + (p3.toInt64))), .second] [(.int (1 : Int32))])) _
      refine XS.goto X8.here hx rfl (pc0 := 42) (pc' := 46) rfl (hb hby at_42) (by decide) (by decide) ?_
      show Steps p.tables e below (T8.setTop (mkF m 46 #[.val (.int p0), .val (.int p1), .val (.int p2), .val (.int p3), .val (.ref b1), .val (.int (((p0 + p1) + p2) + p3)), .val (.long ((((p0.toInt64) + (p1.toInt64)) + (p2.toInt64)) + (p3.toInt64))), .second] [(.int (1 : Int32))])) _
      exact k
    obtain ⟨fs, hr, hrun, hended, hW, hsame⟩ := X8.leave (v := some (.int (1 : Int32))) (fun h => by rw [Bd.returns] at h; cases h)
    refine ⟨_, _, ?_, hrun, hended, _, _, rfl, ?_, ⟨_, rfl⟩, hW, hsame.mono (by decide) (by decide)⟩
    · exact retN X8 hx (t := .boolean) Bd.returns (by simp) (hb hby at_46) hr
    · show own_Q0 Z p0 p1 p2 p3 h0 n0 _ T8.heap _
      rw [h8q]
      exact ⟨(congrArg (fun z => some (Value.int z)) ((by rw [own_F0, if_pos hc38_9] : (1 : Int32) = own_F0 p0 p1 p2 p3).trans (own_law p0 p1 p2 p3))), N8⟩
  · skip
    refine own_go (T' := T8) (f' := (mkF m 46 #[.val (.int p0), .val (.int p1), .val (.int p2), .val (.int p3), .val (.ref b1), .val (.int (((p0 + p1) + p2) + p3)), .val (.long ((((p0.toInt64) + (p1.toInt64)) + (p2.toInt64)) + (p3.toInt64))), .second] [(.int (0 : Int32))])) (fun t k => ?_) ?_
    · show Steps p.tables e below (T8.setTop (mkF m 38 #[.val (.int p0), .val (.int p1), .val (.int p2), .val (.int p3), .val (.ref b1), .val (.int (((p0 + p1) + p2) + p3)), .val (.long ((((p0.toInt64) + (p1.toInt64)) + (p2.toInt64)) + (p3.toInt64))), .second] [(.int (((((p0.toInt64) + (p1.toInt64)) + (p2.toInt64)) + (p3.toInt64)).toInt32)), (.int (((p0 + p1) + p2) + p3))])) _
      refine XS.icmpYes X8.here hx rfl (pc0 := 38) (pc' := 45) rfl (hb hby at_38) rfl (feq hc38_9).2 (by decide) (by decide) ?_
      show Steps p.tables e below (T8.setTop (mkF m 45 #[.val (.int p0), .val (.int p1), .val (.int p2), .val (.int p3), .val (.ref b1), .val (.int (((p0 + p1) + p2) + p3)), .val (.long ((((p0.toInt64) + (p1.toInt64)) + (p2.toInt64)) + (p3.toInt64))), .second] [])) _
      refine XS.iconst X8.here hx rfl (hb hby at_45) ?_
      show Steps p.tables e below (T8.setTop (mkF m 46 #[.val (.int p0), .val (.int p1), .val (.int p2), .val (.int p3), .val (.ref b1), .val (.int (((p0 + p1) + p2) + p3)), .val (.long ((((p0.toInt64) + (p1.toInt64)) + (p2.toInt64)) + (p3.toInt64))), .second] [(.int (0 : Int32))])) _
      exact k
    obtain ⟨fs, hr, hrun, hended, hW, hsame⟩ := X8.leave (v := some (.int (0 : Int32))) (fun h => by rw [Bd.returns] at h; cases h)
    refine ⟨_, _, ?_, hrun, hended, _, _, rfl, ?_, ⟨_, rfl⟩, hW, hsame.mono (by decide) (by decide)⟩
    · exact retN X8 hx (t := .boolean) Bd.returns (by simp) (hb hby at_46) hr
    · show own_Q0 Z p0 p1 p2 p3 h0 n0 _ T8.heap _
      rw [h8q]
      exact ⟨(congrArg (fun z => some (Value.int z)) ((by rw [own_F0, if_neg hc38_9] : (0 : Int32) = own_F0 p0 p1 p2 p3).trans (own_law p0 p1 p2 p3))), N8⟩
set_option maxRecDepth 65536 in
set_option maxHeartbeats 40000000 in
theorem comes_1 {Post : Tables → Env → Array Value → State → Outcome → State → Prop} (hpost : ∀ tb e args s v u, (limb_1_1.after args s (.returned v) u = true ∧ limb_1_2.after args s (.returned v) u = true ∧ True) → FrameEnd s (.returned v) u (Jvm.fieldLocs frame_1_writes args s ++ Jvm.arrayLocs frame_1_arrays args s ++ Jvm.staticLocs frame_1_statics s) 16 128 → Post tb e args s (.returned v) u) :
    ArmFor flags0 classFile x code maxLocals ret World_1 tables_1 room_1 Calls_1 rest_1 Pre_1 Post := by
  intro l hfl _ _ p e ha hc hk s m args below hf hA hF happ hP
  obtain ⟨hcalls, hrest, hpre⟩ := hP
  obtain ⟨-, -, -, hnamed, -, -, -, hat⟩ := (Spec.applies_iff hf).mp happ
  obtain ⟨hg, hn⟩ := and_e (Cond.before_iff.mp (show (Jvm.Cond.and given_1 narrow_1).before args s = true from hpre))
  obtain ⟨hcnt, g0⟩ := and_e hg
  obtain ⟨k0, g1⟩ := and_e g0
  obtain ⟨k1, g2⟩ := and_e g1
  obtain ⟨k2, g3⟩ := and_e g2
  have k3 := g3
  obtain ⟨w0, w1, w2, w3, rfl⟩ : ∃ w0 w1 w2 w3 : Value, args = #[w0, w1, w2, w3] := by
    have hs : args.size = 4 := by simpa [Cond.value, given_1] using hcnt
    obtain ⟨L⟩ := args
    match L, hs with
    | [w0, w1, w2, w3], _ => exact ⟨w0, w1, w2, w3, rfl⟩
  have hw := fun d (hd : d ∈ tables_1) => atoms_spec (ws := Jvm.Cond.code x code maxLocals ret :: tables_1) hat d (List.mem_cons_of_mem _ hd)
  obtain ⟨i0, e0⟩ := is_v k0
  obtain rfl : w0 = (.int i0) := Option.some.inj e0
  obtain ⟨i1, e1⟩ := is_v k1
  obtain rfl : w1 = (.int i1) := Option.some.inj e1
  obtain ⟨i2, e2⟩ := is_v k2
  obtain rfl : w2 = (.int i2) := Option.some.inj e2
  obtain ⟨i3, e3⟩ := is_v k3
  obtain rfl : w3 = (.int i3) := Option.some.inj e3
  obtain ⟨n, o, h1, h2, h3, _, L, rfl, ⟨hv, N⟩, hq⟩ := own_rm0 l s _ hw tables_1 i0 i1 i2 i3 s.heap s.heap.size (Nat.le_refl _)  p e ha hc hk s m _ below hf ((Spec.applies_iff_loose hf).mp happ).1 ⟨rfl, State.Warmed39.refl s, rfl⟩ trivial
  subst hv
  refine ⟨n, _, h1, h2, h3, hpost _ _ _ _ _ _ ⟨Cond.after_iff.mpr rfl, Cond.after_iff.mpr (eq_i res_at (Term.int_eval (1)) rfl), trivial⟩ ⟨hq.1, hq.2.1, (hq.2.2.sift fun y hy => Or.inr (N y hy)).mono (by decide) (by decide)⟩⟩
theorem main_1_1 : Claimed_1_1 := comes_1 fun _ _ _ _ _ _ h hF => ⟨h.1, hF⟩
theorem main_1_2 : Claimed_1_2 := comes_1 fun _ _ _ _ _ _ h hF => ⟨h.2.1, hF⟩
end Jvm.Pilot.@@N@@
namespace Jvm.Pilot.@@N@@
open Jvm Jvm.ClassFile Sem Op Lib Jvm.Free Jvm.Stand Jvm.Pilot.@@N@@.Jvm.D
/-! MADE BY PROGRAM (witnessworld.py) out of the Statement's table words and the real class files: 8 classes; the members and pool entries that the words name. The judged class is class 1, her method 1. -/
namespace start1
open Jvm.ClassFile
def u (s : String) : CpInfo := .utf8 (stringToUtf16 s)
/-- a pool by its gaps: so many unusable entries, then the entry; so many at the end -/
def gap : Nat → List CpInfo → List CpInfo
  | 0, r => r
  | n + 1, r => .unusable :: gap n r
def poolList (es : List (Nat × CpInfo)) (last : Nat) : List CpInfo := es.foldr (fun e r => gap e.1 (e.2 :: r)) (gap last [])
def pool (es : List (Nat × CpInfo)) (last : Nat) : Array CpInfo := ⟨poolList es last⟩
def fileOf (pool : Array CpInfo) (this : Nat) (attrs : Array Attribute := #[]) (ms : Array MethodInfo := #[]) (fl : Nat := 33) (sup : Nat := 0) (ifs : Array Nat := #[]) (fds : Array FieldInfo := #[]) : ClassFile where
  minorVersion := 0
  majorVersion := 65
  constantPool := pool
  accessFlags := fl
  thisClass := this
  superClass := sup
  interfaces := ifs
  fields := fds
  methods := ms
  attributes := attrs
def plain (name : String) (sup : Option ClassId) : Class where
  name := name
  kind := .ordinary
  loader := none
  accessFlags := 33
  super := sup
  interfaces := #[]
  cf := none
  fields := #[]
  methods := #[]
  instanceTypes := #[]
  staticTypes := #[]
  resolved := #[]
  callSites := []
  init := .initialized
  statics := none
  mirror := none

def pool0 : Array CpInfo := pool [(5, u "<init>"), (0, u "()V"), (1, .class_ 10), (1, u "java/lang/Object")] 113

def k0c0 : Code := { maxStack := 0, maxLocals := 1, code := object_method_1_code, exceptionTable := #[], attributes := #[] }
def k0m0 : Method := { name := "<init>", desc := "()V", sig := { parameters := [], returnType := none }, accessFlags := 1, code := some k0c0 }
/-- java/lang/Object -/
def k0 : Class := { plain "java/lang/Object" none with
  accessFlags := 33
  interfaces := #[]
  cf := some (fileOf pool0 8 #[] #[{ accessFlags := 1, nameIndex := 5, descriptorIndex := 6, attributes := #[] }] 33 0 #[] #[])
  fields := #[]
  methods := #[k0m0]
  instanceTypes := #[]
  staticTypes := #[]
  resolved := Array.replicate 124 none
  statics := none }

def pool1 : Array CpInfo := pool [(2, .class_ 4), (1, u "java/lang/Object"), (0, u "<init>"), (0, u "()V"), (0, .class_ 8), (0, u "com/example/comment_binder/commentbinder/scoring/Score"), (0, .methodref 7 10), (0, .nameAndType 5 11), (0, u "(IIII)V"), (0, .methodref 7 13), (0, .nameAndType 14 15), (0, u "judged"), (0, u "()I"), (0, .class_ 17), (0, u "com/example/comment_binder/commentbinder/scoring/ScoreJudgedPinLaw"), (2, u "law"), (0, u "(IIII)Z")] 3

def k1m0 : Method := { name := "<init>", desc := "()V", sig := { parameters := [], returnType := none }, accessFlags := 1, code := none }
def k1c1 : Code := { maxStack := 6, maxLocals := 8, code := code, exceptionTable := #[], attributes := #[] }
def k1m1 : Method := { name := "law", desc := "(IIII)Z", sig := { parameters := [.int, .int, .int, .int], returnType := some .boolean }, accessFlags := 9, code := some k1c1 }
/-- com/example/comment_binder/commentbinder/scoring/ScoreJudgedPinLaw -/
def k1 : Class := { plain "com/example/comment_binder/commentbinder/scoring/ScoreJudgedPinLaw" (some 0) with
  accessFlags := 49
  interfaces := #[]
  cf := some (fileOf pool1 16 #[] #[{ accessFlags := 1, nameIndex := 5, descriptorIndex := 6, attributes := #[] }, { accessFlags := 9, nameIndex := 20, descriptorIndex := 21, attributes := #[] }] 49 2 #[] #[])
  fields := #[]
  methods := #[k1m0, k1m1]
  instanceTypes := #[]
  staticTypes := #[]
  resolved := Array.replicate 25 none
  statics := none }

def pool2 : Array CpInfo := pool [(1, .methodref 2 3), (0, .class_ 4), (0, .nameAndType 5 6), (0, u "java/lang/Object"), (0, u "<init>"), (0, u "()V"), (0, .class_ 8), (0, u "java/lang/Record")] 13

def k2c0 : Code := { maxStack := 1, maxLocals := 1, code := jdk_30_method_1_code, exceptionTable := #[], attributes := #[] }
def k2m0 : Method := { name := "<init>", desc := "()V", sig := { parameters := [], returnType := none }, accessFlags := 4, code := some k2c0 }
/-- java/lang/Record -/
def k2 : Class := { plain "java/lang/Record" (some 0) with
  accessFlags := 1057
  interfaces := #[]
  cf := some (fileOf pool2 7 #[] #[{ accessFlags := 4, nameIndex := 5, descriptorIndex := 6, attributes := #[] }] 1057 2 #[] #[])
  fields := #[]
  methods := #[k2m0]
  instanceTypes := #[]
  staticTypes := #[]
  resolved := Array.replicate 22 none
  statics := none }

def pool3 : Array CpInfo := pool [(1, .methodref 2 3), (0, .class_ 4), (0, .nameAndType 5 6), (0, u "java/lang/Record"), (0, u "<init>"), (0, u "()V"), (0, .fieldref 8 9), (0, .class_ 10), (0, .nameAndType 11 12), (0, u "com/example/comment_binder/commentbinder/scoring/Score"), (0, u "correct"), (0, u "I"), (0, .fieldref 8 14), (0, .nameAndType 15 12), (0, u "changed"), (0, .fieldref 8 17), (0, .nameAndType 18 12), (0, u "lost"), (0, .fieldref 8 20), (0, .nameAndType 21 12), (0, u "spurious"), (8, u "(IIII)V"), (16, u "judged"), (0, u "()I"), (29, u "NONE"), (0, u "Lcom/example/comment_binder/commentbinder/scoring/Score;")] 37

def k3c0 : Code := { maxStack := 2, maxLocals := 5, code := prog_96_method_1_code, exceptionTable := #[], attributes := #[] }
def k3m0 : Method := { name := "<init>", desc := "(IIII)V", sig := { parameters := [.int, .int, .int, .int], returnType := none }, accessFlags := 1, code := some k3c0 }
def k3c1 : Code := { maxStack := 2, maxLocals := 1, code := prog_96_method_4_code, exceptionTable := #[], attributes := #[] }
def k3m1 : Method := { name := "judged", desc := "()I", sig := { parameters := [], returnType := some .int }, accessFlags := 1, code := some k3c1 }
/-- com/example/comment_binder/commentbinder/scoring/Score -/
def k3 : Class := { plain "com/example/comment_binder/commentbinder/scoring/Score" (some 2) with
  accessFlags := 49
  interfaces := #[]
  cf := some (fileOf pool3 8 #[] #[{ accessFlags := 1, nameIndex := 5, descriptorIndex := 30, attributes := #[] }, { accessFlags := 1, nameIndex := 47, descriptorIndex := 48, attributes := #[] }] 49 2 #[] #[{ accessFlags := 18, nameIndex := 11, descriptorIndex := 12, attributes := #[] }, { accessFlags := 18, nameIndex := 15, descriptorIndex := 12, attributes := #[] }, { accessFlags := 18, nameIndex := 18, descriptorIndex := 12, attributes := #[] }, { accessFlags := 18, nameIndex := 21, descriptorIndex := 12, attributes := #[] }, { accessFlags := 25, nameIndex := 78, descriptorIndex := 79, attributes := #[] }])
  fields := #[{ name := "correct", type := .int, accessFlags := 18, slot := 0, constantValue := 0 }, { name := "changed", type := .int, accessFlags := 18, slot := 1, constantValue := 0 }, { name := "lost", type := .int, accessFlags := 18, slot := 2, constantValue := 0 }, { name := "spurious", type := .int, accessFlags := 18, slot := 3, constantValue := 0 }, { name := "NONE", type := (.object "com/example/comment_binder/commentbinder/scoring/Score"), accessFlags := 25, slot := 0, constantValue := 0 }]
  methods := #[k3m0, k3m1]
  instanceTypes := #[.int, .int, .int, .int]
  staticTypes := #[(.object "com/example/comment_binder/commentbinder/scoring/Score")]
  resolved := Array.replicate 117 none
  statics := none }

def pool4 : Array CpInfo := pool [(1, u "java/lang/Cloneable"), (0, .class_ 1), (0, u "java/lang/Object"), (0, .class_ 3)] 3

/-- java/lang/Cloneable -/
def k4 : Class := { plain "java/lang/Cloneable" (some 0) with
  accessFlags := 1537
  interfaces := #[]
  cf := some (fileOf pool4 2 #[] #[] 1537 4 #[] #[])
  fields := #[]
  methods := #[]
  instanceTypes := #[]
  staticTypes := #[]
  resolved := Array.replicate 8 none
  statics := none }

def pool5 : Array CpInfo := pool [(1, u "java/io/Serializable"), (0, .class_ 1), (0, u "java/lang/Object"), (0, .class_ 3)] 3

/-- java/io/Serializable -/
def k5 : Class := { plain "java/io/Serializable" (some 0) with
  accessFlags := 1537
  interfaces := #[]
  cf := some (fileOf pool5 2 #[] #[] 1537 4 #[] #[])
  fields := #[]
  methods := #[]
  instanceTypes := #[]
  staticTypes := #[]
  resolved := Array.replicate 8 none
  statics := none }

/-- the primitive byte -/
def k6 : Class := { plain "byte" none with kind := .primitive 'B', accessFlags := 0x411 }
/-- [B -/
def k7 : Class := { plain "[B" (some 0) with kind := .array 6 .byte, interfaces := #[4, 5], accessFlags := 1041 }

def heap : Heap := #[]
def classes : Array Class := #[k0, k1, k2, k3, k4, k5, k6, k7]
def interned : List (Array UInt16 × Addr) := []
def slotsUsed : Nat := 0
def theMethod : MethodId := ⟨1, 1⟩
def args0 : Array Value := #[.int 5, .int 5, .int 5, .int 5]
def aboutOver (below : List Frame) : State where
  vm := { classes := classes, interned := interned.toArray }
  heap := heap
  slotsUsed := slotsUsed
  threads := #[{ frames := .invoking theMethod args0 :: below }]
def below0 : List Frame := [.native { method := ⟨0, 0⟩, args := #[] }]
def about1 : State := aboutOver below0
def p0 : Program := .bare "" "" ""
def e0 : Env := launch0.env 0 0 0
theorem w_frames : about1.frames = Frame.invoking theMethod args0 :: below0 := rfl
set_option maxRecDepth 65536 in
theorem w_args : argsFit about1.vm theMethod args0 = true := by decide +kernel
set_option maxRecDepth 65536 in
theorem w_heap : heapFits about1 = true := by decide +kernel
set_option maxRecDepth 65536 in
theorem w_runnable : about1.curStatus? = some .runnable := by decide +kernel
set_option maxRecDepth 65536 in
theorem w_alone : about1.alone = true := by decide +kernel
set_option maxRecDepth 65536 in
theorem w_named : about1.methodNamed? x = some theMethod := by decide +kernel
set_option maxRecDepth 65536 in
theorem w_hears : about1.hears theMethod below0 = true := by decide +kernel
set_option maxRecDepth 65536 in
theorem w_ripe : about1.ripe theMethod args0 below0 = true := by decide +kernel
theorem w_running : about1.status = .running := rfl
set_option maxRecDepth 65536 in
theorem w_room : about1.hasRoom e0.platform room_1 = true :=
  launch0.hasRoom_least _ room_1 (by decide +kernel) (by decide +kernel) (by decide +kernel) (by decide +kernel) (by decide +kernel) (by decide +kernel)
theorem allAtoms_all (ts : List Jvm.Cond) (a : Array Jvm.Value) (st : Jvm.State) : (allAtoms ts).before a st = ts.all (fun c => c.before a st) := by
  induction ts with
  | nil => rfl
  | cons c t ih =>
    show (Jvm.Cond.and c (allAtoms t)).before a st = _
    rw [Jvm.Cond.before_and, ih, List.all_cons]
def words1 : List Jvm.Cond := Jvm.Cond.code x code maxLocals ret :: tables_1
/-- a 'code' word, met by the world's own term for the bytes: nothing is compared byte by byte -/
theorem code_word {y : MethodName} {bytes : ByteArray} {mx : Nat} {rt : Option FieldType} {a : Array Value} {s : State} {m : MethodId} {meth : Method} {c : Code} (h1 : s.methodNamed? y = some m) (h2 : s.vm.method? m = some meth) (h3 : meth.code = some c) (h4 : c.code = bytes)
    (h5 : (c.maxLocals == mx && c.exceptionTable.isEmpty && decide (c.maxStack ≤ mostOperands) && decide (meth.sig.returnType = rt) && !meth.locks && decide (parseMethodDescriptor y.desc = some meth.sig)) = true) : (Jvm.Cond.code y bytes mx rt).before a s = true := by
  simp only [Bool.and_eq_true, beq_iff_eq, Bool.not_eq_true', decide_eq_true_eq] at h5
  obtain ⟨⟨⟨⟨⟨g1, g2⟩, g3⟩, g4⟩, g5⟩, g6⟩ := h5
  simp [Cond.before, Cond.holds, Cond.value, h1, h2, h3, h4, g1, g2, g3, g4, g5, g6]
def isCode : Jvm.Cond → Bool
  | .code _ _ _ _ => true
  | _ => false
theorem all_split {L : List Jvm.Cond} {P : Jvm.Cond → Bool} (h1 : L.all (fun c => isCode c || P c) = true) (h2 : ∀ c ∈ L.filter isCode, P c = true) : L.all P = true := by
  refine List.all_eq_true.mpr fun c hc => ?_
  have h := List.all_eq_true.mp h1 c hc
  rcases Bool.eq_false_or_eq_true (isCode c) with hi | hi
  · exact h2 c (List.mem_filter.mpr ⟨hc, hi⟩)
  · simpa [hi] using h
set_option maxRecDepth 65536 in
theorem w_c0 : (Jvm.Cond.code x code maxLocals ret).before args0 about1 = true := code_word (m := ⟨1, 1⟩) (meth := k1m1) (c := k1c1) (by decide +kernel) rfl rfl rfl (by decide +kernel)
set_option maxRecDepth 65536 in
theorem w_c1 : (Jvm.Cond.code ({ cls := "com/example/comment_binder/commentbinder/scoring/Score", name := "<init>", desc := "(IIII)V" } : Jvm.MethodName) prog_96_method_1_code (5 : Nat) (Option.none : Option Jvm.ClassFile.FieldType)).before args0 about1 = true := code_word (m := ⟨3, 0⟩) (meth := k3m0) (c := k3c0) (by decide +kernel) rfl rfl rfl (by decide +kernel)
set_option maxRecDepth 65536 in
theorem w_c2 : (Jvm.Cond.code ({ cls := "java/lang/Record", name := "<init>", desc := "()V" } : Jvm.MethodName) jdk_30_method_1_code (1 : Nat) (Option.none : Option Jvm.ClassFile.FieldType)).before args0 about1 = true := code_word (m := ⟨2, 0⟩) (meth := k2m0) (c := k2c0) (by decide +kernel) rfl rfl rfl (by decide +kernel)
set_option maxRecDepth 65536 in
theorem w_c3 : (Jvm.Cond.code ({ cls := "java/lang/Object", name := "<init>", desc := "()V" } : Jvm.MethodName) object_method_1_code (1 : Nat) (Option.none : Option Jvm.ClassFile.FieldType)).before args0 about1 = true := code_word (m := ⟨0, 0⟩) (meth := k0m0) (c := k0c0) (by decide +kernel) rfl rfl rfl (by decide +kernel)
set_option maxRecDepth 65536 in
theorem w_c4 : (Jvm.Cond.code ({ cls := "com/example/comment_binder/commentbinder/scoring/Score", name := "judged", desc := "()I" } : Jvm.MethodName) prog_96_method_4_code (1 : Nat) (Option.some Jvm.ClassFile.FieldType.int)).before args0 about1 = true := code_word (m := ⟨3, 1⟩) (meth := k3m1) (c := k3c1) (by decide +kernel) rfl rfl rfl (by decide +kernel)
def codes1 : List Jvm.Cond := [Jvm.Cond.code x code maxLocals ret, Jvm.Cond.code ({ cls := "com/example/comment_binder/commentbinder/scoring/Score", name := "<init>", desc := "(IIII)V" } : Jvm.MethodName) prog_96_method_1_code (5 : Nat) (Option.none : Option Jvm.ClassFile.FieldType), Jvm.Cond.code ({ cls := "java/lang/Record", name := "<init>", desc := "()V" } : Jvm.MethodName) jdk_30_method_1_code (1 : Nat) (Option.none : Option Jvm.ClassFile.FieldType), Jvm.Cond.code ({ cls := "java/lang/Object", name := "<init>", desc := "()V" } : Jvm.MethodName) object_method_1_code (1 : Nat) (Option.none : Option Jvm.ClassFile.FieldType), Jvm.Cond.code ({ cls := "com/example/comment_binder/commentbinder/scoring/Score", name := "judged", desc := "()I" } : Jvm.MethodName) prog_96_method_4_code (1 : Nat) (Option.some Jvm.ClassFile.FieldType.int)]
set_option maxRecDepth 65536 in
theorem codes_eq : words1.filter isCode = codes1 := rfl
theorem w_codes : ∀ c ∈ words1.filter isCode, c.before args0 about1 = true := by
  rw [codes_eq]
  intro c hc
  simp only [codes1, List.mem_cons, List.not_mem_nil, or_false] at hc
  rcases hc with rfl | rfl | rfl | rfl | rfl
  · exact w_c0
  · exact w_c1
  · exact w_c2
  · exact w_c3
  · exact w_c4
set_option maxRecDepth 65536 in
theorem w_t1 : (words1.take 24).all (fun c => isCode c || c.before args0 about1) = true := by decide +kernel
set_option maxRecDepth 65536 in
theorem w_t2 : (words1.drop 24).all (fun c => isCode c || c.before args0 about1) = true := by decide +kernel
theorem w_tables : (allAtoms (Jvm.Cond.code x code maxLocals ret :: tables_1)).before args0 about1 = true := by
  rw [allAtoms_all]
  show words1.all (fun c => c.before args0 about1) = true
  refine all_split ?_ w_codes
  rw [← List.take_append_drop 24 words1, List.all_append, w_t1, w_t2]
  rfl
set_option maxRecDepth 65536 in
theorem w_case : (Jvm.Cond.and given_1 narrow_1).before args0 about1 = true := by decide +kernel
theorem w_applies : (headSpec (Jvm.Cond.code x code maxLocals ret :: tables_1) room_1).applies x e0.platform about1 = true :=
  (Spec.applies_iff w_frames).mpr ⟨w_running, w_runnable, w_alone, w_named, w_hears, w_ripe, w_room, w_tables⟩
theorem atStart : AtStart classFile x code maxLocals ret World_1 tables_1 room_1 Calls_1 rest_1 Pre_1 launch0 p0 e0 about1 theMethod args0 below0 :=
  ⟨lists_1, trivial, launch0.admits_env _ _ _, launch0.least_env, fairChoices_fair.cas, fairChoices_fair.clock, w_frames, w_args, w_heap, w_applies, trivial, trivial, w_case⟩
end start1
theorem witness_1 : WitnessClaimed_1 := ⟨start1.p0, start1.e0, start1.about1, start1.theMethod, start1.args0, start1.below0, start1.atStart⟩
end Jvm.Pilot.@@N@@
