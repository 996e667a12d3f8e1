import JvmDerived
import JvmDerived.Pilot.@@N@@Statement
import JvmDerived.Pilot.@@N@@Code
set_option linter.unusedVariables false
set_option linter.unusedSimpArgs false
namespace Jvm.RoadKit
open Sem ClassFile Op Lib Jvm.Stand Jvm.Free Jvm.LawKit
section New
variable {p : Program} {l : Launch} {e : Env} {R : Room} {s : State} {m : MethodId} {args : Array Value} {below : List Frame} {meth : Method} {c : Code} {T : State} {locs : List Loc} {cells slots : Nat}
theorem retI (X : Stand p l e R s m args below meth c T locs cells slots) (hx : p.tables.exec = Jvm.exec) {pc : Nat} {Ls : Array Slot} {z : Int32} {rest : List Value} (hret : meth.sig.returnType = some .int) (hd : decode c.code pc = .ok (.ireturn, 1)) {fs : List Frame}
    (hl : ∀ (f : JFrame) (acts : List Action), f.method = m → f.locked = none → f.entered = [] → (doReturn e (T.setTop f) acts (some (.int z))).1 = T.setFrames fs) : Steps p.tables e below (T.setTop (mkF m pc Ls (.int z :: rest))) (T.setFrames fs) := by
  have hm' : T.vm.method? m = some meth := X.method'
  have hn : narrow .int (.int z) = .int z := rfl
  show Steps p.tables e below (T.setTop { method := m, pc := pc, locals := Ls, stack := _ :: rest, locked := none }) _
  jvm_step X.here [X.here.top, hx, hd, hm', hret, hn]
  first | (intro acts; rw [hl _ acts rfl rfl rfl]) | rw [hl _ _ rfl rfl rfl]
  exact Steps.refl _
theorem own_go {tb : Tables} {T' : State} {f f' : JFrame} {G : State → Outcome → Prop} (k : ∀ t, Steps tb e below (T'.setTop f') t → Steps tb e below (T.setTop f) t) (h : ∃ s₂ o, Steps tb e below (T'.setTop f') s₂ ∧ G s₂ o) : ∃ s₂ o, Steps tb e below (T.setTop f) s₂ ∧ G s₂ o := by
  obtain ⟨s₂, o, a, b⟩ := h
  exact ⟨s₂, o, k _ a, b⟩
theorem own_cut {tb : Tables} {f f' : JFrame} {G : State → Outcome → Prop} {P : State → Prop} (h1 : (∀ T', P T' → ∃ s₂ o, Steps tb e below (T'.setTop f') s₂ ∧ G s₂ o) → ∃ s₂ o, Steps tb e below (T.setTop f) s₂ ∧ G s₂ o) (h2 : ∀ T', P T' → ∃ s₂ o, Steps tb e below (T'.setTop f') s₂ ∧ G s₂ o) : ∃ s₂ o, Steps tb e below (T.setTop f) s₂ ∧ G s₂ o := h1 h2
end New
end Jvm.RoadKit
namespace Jvm.Pilot.@@N@@
open Jvm Jvm.ClassFile Sem Op Lib Jvm.Free Jvm.Stand Jvm.LawKit Jvm.RoadKit Bundle Jvm.Pilot.@@N@@.Jvm.D
theorem own_dR_0 : decode jdk_30_method_1_code 0 = .ok (.aload_n 0, 1) := by decide +kernel
theorem own_dR_1 : decode jdk_30_method_1_code 1 = .ok (.invokespecial 1, 3) := by decide +kernel
theorem own_dR_4 : decode jdk_30_method_1_code 4 = .ok (.return_, 1) := by decide +kernel
theorem own_pn0 : plainName "java/lang/Record" = true := by first | (simp [plainName, overriddenIn]; done) | decide +kernel
theorem own_efR (m : MethodId) (a0r : Addr) : entryFrame m #[(.ref a0r)] 1 = mkF m 0 #[.val (.ref a0r)] [] := by first | (simp [entryFrame, mkF, argsToLocals, Value.category]; done) | rfl
def own_QR (Z : State) (a0r : Addr) (h0 : Heap) (n0 : Nat) (v : Option Value) (h : Heap) (L : List Loc) : Prop := (v = none) ∧ (Fr n0 L) ∧ (h = h0)
set_option maxRecDepth 65536 in
set_option maxHeartbeats 40000000 in
theorem own_rmR (l : Launch) (Z : State) (a0 : Array Value) (hw : ∀ d ∈ tables_1, d.before a0 Z = true) (ws : List Jvm.Cond) (a0r : Addr) (h0 : Heap) (n0 : Nat) (Z0 : n0 ≤ h0.size) :
    MetFree l (⟨"java/lang/Record", "<init>", "()V"⟩ : MethodName) (head1 (Jvm.Cond.code (⟨"java/lang/Record", "<init>", "()V"⟩ : MethodName) jdk_30_method_1_code 1 none :: ws) ({ frames := 1, cells := 0, slots := 0, locals := 12 } : Room)) (fun a U => a = #[(.ref a0r)] ∧ Z.Warmed39 U.vm ∧ U.heap = h0) (fun _ _ _ _ _ => True) (fun _ U o U' => ∃ v L, o = .returned v ∧ own_QR Z a0r h0 n0 v U'.heap L ∧ FrameEnd U o U' L ({ frames := 1, cells := 0, slots := 0, locals := 12 } : Room).cells ({ frames := 1, cells := 0, slots := 0, locals := 12 } : Room).slots) := by
  refine MetFree.of_bodySF (plainFor_of_name own_pn0) hisR ?_
  intro p e s m args below meth c s₁ Bd hml0 hP hK
  obtain ⟨rfl, hZ, hh⟩ := hP
  have hx := Bd.exec
  have hby := Bd.bytes
  have hml : c.maxLocals = 1 := hml0
  have hown : s.vm.findClass "java/lang/Record" = some m.cls := findClass_of_methodNamed Bd.named
  have hnm := (name_of_methodNamed Bd.named Bd.method).1
  have X0 : Stand p l e ({ frames := 1, cells := 0, slots := 0, locals := 12 } : Room) s m #[(.ref a0r)] below meth c s₁ [] 0 0 := Stand.of_body Bd
  have e0 : s₁.heap = h0 := by rw [← hh, Bd.state]; rfl
  have N0 := Fr.nil n0
  refine own_go (fun t k => castTop (own_efR m a0r) k) ?_
  refine own_go (T' := s₁) (f' := (mkF m 1 #[.val (.ref a0r)] [(.ref a0r)])) (fun t k => ?_) ?_
  · show Steps p.tables e below (s₁.setTop (mkF m 0 #[.val (.ref a0r)] [])) _
    refine XS.aloadN X0.here hx rfl (hb hby own_dR_0) rfl rfl ?_
    show Steps p.tables e below (s₁.setTop (mkF m 1 #[.val (.ref a0r)] [(.ref a0r)])) _
    exact k
  obtain ⟨T1, X1, e1, st1⟩ := initO X0 hx hZ hown (hw _ (List.mem_of_getElem? (i := 11) rfl)) (hw _ (List.mem_of_getElem? (i := 12) rfl)) (hw _ (List.mem_of_getElem? (i := 13) rfl)) e0 (g := (mkF m 1 #[.val (.ref a0r)] [(.ref a0r)])) rfl (by rw [hml]; rfl) rfl (hb hby own_dR_1) (by decide) (W := 0) (by show 2 * 0 + _ ≤ _; exact Nat.le_of_eq rfl) (by decide)
  refine own_go (T' := T1) (f' := (mkF m 4 #[.val (.ref a0r)] [])) st1 ?_
  obtain ⟨fs, hr, hrun, hended, hW, hsame⟩ := X1.leave (v := none) (fun _ => rfl)
  refine ⟨_, _, ?_, hrun, hended, _, _, rfl, ?_, ⟨_, rfl⟩, hW, hsame.mono (by decide) (by decide)⟩
  · exact X1.returnOut hx Bd.returns (hb hby own_dR_4) hr
  · show own_QR Z a0r h0 n0 _ T1.heap _
    rw [e1]
    exact ⟨rfl, N0, rfl⟩
theorem own_pd0 : parseMethodDescriptor "()V" = some ⟨[], none⟩ := by decide +kernel
theorem own_d1_0 : decode prog_68_method_1_code 0 = .ok (.aload_n 0, 1) := by decide +kernel
theorem own_d1_1 : decode prog_68_method_1_code 1 = .ok (.invokespecial 1, 3) := by decide +kernel
theorem own_d1_4 : decode prog_68_method_1_code 4 = .ok (.aload_n 0, 1) := by decide +kernel
theorem own_d1_5 : decode prog_68_method_1_code 5 = .ok (.iload_n 1, 1) := by decide +kernel
theorem own_d1_6 : decode prog_68_method_1_code 6 = .ok (.putfield 7, 3) := by decide +kernel
theorem own_d1_9 : decode prog_68_method_1_code 9 = .ok (.aload_n 0, 1) := by decide +kernel
theorem own_d1_10 : decode prog_68_method_1_code 10 = .ok (.iload_n 2, 1) := by decide +kernel
theorem own_d1_11 : decode prog_68_method_1_code 11 = .ok (.putfield 13, 3) := by decide +kernel
theorem own_d1_14 : decode prog_68_method_1_code 14 = .ok (.aload_n 0, 1) := by decide +kernel
theorem own_d1_15 : decode prog_68_method_1_code 15 = .ok (.iload_n 3, 1) := by decide +kernel
theorem own_d1_16 : decode prog_68_method_1_code 16 = .ok (.putfield 16, 3) := by decide +kernel
theorem own_d1_19 : decode prog_68_method_1_code 19 = .ok (.return_, 1) := by decide +kernel
theorem own_pn1 : plainName "com/example/wushan/wushan/store/TopicConfig" = true := by first | (simp [plainName, overriddenIn]; done) | decide +kernel
theorem own_ef1 (m : MethodId) (a0r : Addr) (p1 : Int32) (p2 : Int32) (p3 : Int32) : entryFrame m #[(.ref a0r), (.int p1), (.int p2), (.int p3)] 4 = mkF m 0 #[.val (.ref a0r), .val (.int p1), .val (.int p2), .val (.int p3)] [] := by first | (simp [entryFrame, mkF, argsToLocals, Value.category]; done) | rfl
def own_Q1 (Z : State) (a0r : Addr) (p1 : Int32) (p2 : Int32) (p3 : Int32) (h0 : Heap) (n0 : Nat) (v : Option Value) (h : Heap) (L : List Loc) : Prop := (v = none) ∧ (Fr n0 L) ∧ (Keep h0 h [a0r]) ∧ (Fld Z h a0r "com/example/wushan/wushan/store/TopicConfig" "readQueues" "I" (.int p1)) ∧ (Fld Z h a0r "com/example/wushan/wushan/store/TopicConfig" "writeQueues" "I" (.int p2)) ∧ (Fld Z h a0r "com/example/wushan/wushan/store/TopicConfig" "perm" "I" (.int p3))
set_option maxRecDepth 65536 in
set_option maxHeartbeats 40000000 in
theorem own_rm1 (l : Launch) (Z : State) (a0 : Array Value) (hw : ∀ d ∈ tables_1, d.before a0 Z = true) (ws : List Jvm.Cond) (a0r : Addr) (p1 : Int32) (p2 : Int32) (p3 : Int32) (h0 : Heap) (n0 : Nat) (Z0 : n0 ≤ h0.size) (P0 : Exa Z h0 a0r "com/example/wushan/wushan/store/TopicConfig") (P1 : Fld Z h0 a0r "com/example/wushan/wushan/store/TopicConfig" "readQueues" "I" (.int (0 : Int32))) (P2 : Fld Z h0 a0r "com/example/wushan/wushan/store/TopicConfig" "writeQueues" "I" (.int (0 : Int32))) (P3 : Fld Z h0 a0r "com/example/wushan/wushan/store/TopicConfig" "perm" "I" (.int (0 : Int32))) (go_a0r : n0 ≤ a0r) :
    MetFree l (⟨"com/example/wushan/wushan/store/TopicConfig", "<init>", "(III)V"⟩ : MethodName) (head1 (Jvm.Cond.code (⟨"com/example/wushan/wushan/store/TopicConfig", "<init>", "(III)V"⟩ : MethodName) prog_68_method_1_code 4 none :: ws) ({ frames := 2, cells := 0, slots := 0, locals := 24 } : Room)) (fun a U => a = #[(.ref a0r), (.int p1), (.int p2), (.int p3)] ∧ Z.Warmed39 U.vm ∧ U.heap = h0) (fun _ _ _ _ _ => True) (fun _ U o U' => ∃ v L, o = .returned v ∧ own_Q1 Z a0r p1 p2 p3 h0 n0 v U'.heap L ∧ FrameEnd U o U' L ({ frames := 2, cells := 0, slots := 0, locals := 24 } : Room).cells ({ frames := 2, cells := 0, slots := 0, locals := 24 } : Room).slots) := by
  refine MetFree.of_bodySF (plainFor_of_name own_pn1) hisR ?_
  intro p e s m args below meth c s₁ Bd hml0 hP hK
  obtain ⟨rfl, hZ, hh⟩ := hP
  have hx := Bd.exec
  have hby := Bd.bytes
  have hml : c.maxLocals = 4 := hml0
  have hown : s.vm.findClass "com/example/wushan/wushan/store/TopicConfig" = some m.cls := findClass_of_methodNamed Bd.named
  have hnm := (name_of_methodNamed Bd.named Bd.method).1
  have X0 : Stand p l e ({ frames := 2, cells := 0, slots := 0, locals := 24 } : Room) s m #[(.ref a0r), (.int p1), (.int p2), (.int p3)] below meth c s₁ [] 0 0 := Stand.of_body Bd
  have e0 : s₁.heap = h0 := by rw [← hh, Bd.state]; rfl
  have N0 := Fr.nil n0
  have K0 : Keep h0 h0 [a0r] := Keep.refl h0 _
  refine own_go (fun t k => castTop (own_ef1 m a0r p1 p2 p3) k) ?_
  refine own_go (T' := s₁) (f' := (mkF m 1 #[.val (.ref a0r), .val (.int p1), .val (.int p2), .val (.int p3)] [(.ref a0r)])) (fun t k => ?_) ?_
  · show Steps p.tables e below (s₁.setTop (mkF m 0 #[.val (.ref a0r), .val (.int p1), .val (.int p2), .val (.int p3)] [])) _
    refine XS.aloadN X0.here hx rfl (hb hby own_d1_0) rfl rfl ?_
    show Steps p.tables e below (s₁.setTop (mkF m 1 #[.val (.ref a0r), .val (.int p1), .val (.int p2), .val (.int p3)] [(.ref a0r)])) _
    exact k
  obtain ⟨_, _, ⟨T1, Lq1, kq1, nq1⟩, -, X1, ⟨Lc1, hQ1, lq1, yq1, zq1⟩, st1⟩ := X0.specialBack hx (y := (⟨"java/lang/Record", "<init>", "()V"⟩ : MethodName)) rfl hown (mvT hZ (hw _ (List.mem_of_getElem? (i := 6) rfl))) (mvT hZ (hw _ (List.mem_of_getElem? (i := 7) rfl))) (mvT hZ (hw _ (List.mem_of_getElem? (i := 10) rfl))) (by decide) (backOf (W := 0) (own_rmR l Z a0 hw [] a0r  h0 n0 Z0 ) hZ (hw _ (List.mem_of_getElem? (i := 10) rfl)) (hw _ (List.mem_of_getElem? (i := 9) rfl)) (by decide) (by decide)) (g := (mkF m 1 #[.val (.ref a0r), .val (.int p1), .val (.int p2), .val (.int p3)] [(.ref a0r)])) rfl (by rw [hml]; rfl) (Steps.refl _) (a := a0r) (argsL := []) (rest := []) (lenOf own_pd0 rfl) rfl (by show 2 * 0 + _ ≤ _; exact Nat.le_of_eq rfl) (hb hby own_d1_1) (fun _ _ => ⟨rfl, e0, (by decide : 0 + 0 ≤ _), (by decide : 0 + 0 ≤ _)⟩)
  dsimp only [Pt.U, Pt.locs, Pt.cells, Pt.slots] at X1 lq1 yq1 zq1 st1 hQ1
  subst lq1 yq1 zq1
  obtain ⟨rfl, N1q, h1q⟩ := hQ1
  have N1 := Fr.app N0 N1q
  refine own_go (T' := T1) (f' := (mkF m 4 #[.val (.ref a0r), .val (.int p1), .val (.int p2), .val (.int p3)] [])) (fun t k => st1.trans k) ?_
  refine own_go (T' := T1) (f' := (mkF m 6 #[.val (.ref a0r), .val (.int p1), .val (.int p2), .val (.int p3)] [(.int p1), (.ref a0r)])) (fun t k => ?_) ?_
  · show Steps p.tables e below (T1.setTop (mkF m 4 #[.val (.ref a0r), .val (.int p1), .val (.int p2), .val (.int p3)] [])) _
    refine XS.aloadN X1.here hx rfl (hb hby own_d1_4) rfl rfl ?_
    show Steps p.tables e below (T1.setTop (mkF m 5 #[.val (.ref a0r), .val (.int p1), .val (.int p2), .val (.int p3)] [(.ref a0r)])) _
    refine XS.iloadN X1.here hx rfl (hb hby own_d1_5) rfl ?_
    show Steps p.tables e below (T1.setTop (mkF m 6 #[.val (.ref a0r), .val (.int p1), .val (.int p2), .val (.int p3)] [(.int p1), (.ref a0r)])) _
    exact k
  obtain ⟨T2, h2, X2, e2, W2, st2⟩ := putF X1 hx hZ hown (host := "") (Or.inl (hw _ (List.mem_of_getElem? (i := 14) rfl))) Via.refl h1q P1 P0 (Or.inr ⟨(hw _ (List.mem_of_getElem? (i := 15) rfl)), rfl, hnm⟩) (hw _ (List.mem_of_getElem? (i := 1) rfl)) (ty := .int) (by decide) rfl rfl (g := (mkF m 6 #[.val (.ref a0r), .val (.int p1), .val (.int p2), .val (.int p3)] [(.int p1), (.ref a0r)])) rfl rfl (hb hby own_d1_6)
  refine own_go (T' := T2) (f' := (mkF m 9 #[.val (.ref a0r), .val (.int p1), .val (.int p2), .val (.int p3)] [])) st2 ?_
  have fc3 : Exa Z h2 a0r "com/example/wushan/wushan/store/TopicConfig" := P0.wr W2
  have fc4 : Fld Z h2 a0r "com/example/wushan/wushan/store/TopicConfig" "readQueues" "I" (.int p1) := P1.same W2
  have fc5 : Fld Z h2 a0r "com/example/wushan/wushan/store/TopicConfig" "writeQueues" "I" (.int (0 : Int32)) := P2.other W2 (Or.inr (slot_ne (Or.inr (hw _ (List.mem_of_getElem? (i := 17) rfl))) (Or.inr (hw _ (List.mem_of_getElem? (i := 15) rfl))) (by decide) (t := .int) (t' := .int) (by decide) (by decide)))
  have fc6 : Fld Z h2 a0r "com/example/wushan/wushan/store/TopicConfig" "perm" "I" (.int (0 : Int32)) := P3.other W2 (Or.inr (slot_ne (Or.inr (hw _ (List.mem_of_getElem? (i := 19) rfl))) (Or.inr (hw _ (List.mem_of_getElem? (i := 15) rfl))) (by decide) (t := .int) (t' := .int) (by decide) (by decide)))
  have Zs2 : n0 ≤ h2.size := Nat.le_trans Z0 (Keep.of_wr W2).1
  have K2 : Keep h0 h2 [a0r] := K0.wr W2 (Or.inl (List.mem_of_getElem? (i := 0) rfl))
  have N2 := Fr.snoc X2 N1 go_a0r
  refine own_go (T' := T2) (f' := (mkF m 11 #[.val (.ref a0r), .val (.int p1), .val (.int p2), .val (.int p3)] [(.int p2), (.ref a0r)])) (fun t k => ?_) ?_
  · show Steps p.tables e below (T2.setTop (mkF m 9 #[.val (.ref a0r), .val (.int p1), .val (.int p2), .val (.int p3)] [])) _
    refine XS.aloadN X2.here hx rfl (hb hby own_d1_9) rfl rfl ?_
    show Steps p.tables e below (T2.setTop (mkF m 10 #[.val (.ref a0r), .val (.int p1), .val (.int p2), .val (.int p3)] [(.ref a0r)])) _
    refine XS.iloadN X2.here hx rfl (hb hby own_d1_10) rfl ?_
    show Steps p.tables e below (T2.setTop (mkF m 11 #[.val (.ref a0r), .val (.int p1), .val (.int p2), .val (.int p3)] [(.int p2), (.ref a0r)])) _
    exact k
  obtain ⟨T7, h7, X7, e7, W7, st7⟩ := putF X2 hx hZ hown (host := "") (Or.inl (hw _ (List.mem_of_getElem? (i := 16) rfl))) Via.refl e2 fc5 fc3 (Or.inr ⟨(hw _ (List.mem_of_getElem? (i := 17) rfl)), rfl, hnm⟩) (hw _ (List.mem_of_getElem? (i := 1) rfl)) (ty := .int) (by decide) rfl rfl (g := (mkF m 11 #[.val (.ref a0r), .val (.int p1), .val (.int p2), .val (.int p3)] [(.int p2), (.ref a0r)])) rfl rfl (hb hby own_d1_11)
  refine own_go (T' := T7) (f' := (mkF m 14 #[.val (.ref a0r), .val (.int p1), .val (.int p2), .val (.int p3)] [])) st7 ?_
  have fc8 : Exa Z h7 a0r "com/example/wushan/wushan/store/TopicConfig" := fc3.wr W7
  have fc9 : Fld Z h7 a0r "com/example/wushan/wushan/store/TopicConfig" "readQueues" "I" (.int p1) := fc4.other W7 (Or.inr (slot_ne (Or.inr (hw _ (List.mem_of_getElem? (i := 15) rfl))) (Or.inr (hw _ (List.mem_of_getElem? (i := 17) rfl))) (by decide) (t := .int) (t' := .int) (by decide) (by decide)))
  have fc10 : Fld Z h7 a0r "com/example/wushan/wushan/store/TopicConfig" "writeQueues" "I" (.int p2) := fc5.same W7
  have fc11 : Fld Z h7 a0r "com/example/wushan/wushan/store/TopicConfig" "perm" "I" (.int (0 : Int32)) := fc6.other W7 (Or.inr (slot_ne (Or.inr (hw _ (List.mem_of_getElem? (i := 19) rfl))) (Or.inr (hw _ (List.mem_of_getElem? (i := 17) rfl))) (by decide) (t := .int) (t' := .int) (by decide) (by decide)))
  have Zs7 : n0 ≤ h7.size := Nat.le_trans Zs2 (Keep.of_wr W7).1
  have K7 : Keep h0 h7 [a0r] := K2.wr W7 (Or.inl (List.mem_of_getElem? (i := 0) rfl))
  have N7 := Fr.snoc X7 N2 go_a0r
  refine own_go (T' := T7) (f' := (mkF m 16 #[.val (.ref a0r), .val (.int p1), .val (.int p2), .val (.int p3)] [(.int p3), (.ref a0r)])) (fun t k => ?_) ?_
  · show Steps p.tables e below (T7.setTop (mkF m 14 #[.val (.ref a0r), .val (.int p1), .val (.int p2), .val (.int p3)] [])) _
    refine XS.aloadN X7.here hx rfl (hb hby own_d1_14) rfl rfl ?_
    show Steps p.tables e below (T7.setTop (mkF m 15 #[.val (.ref a0r), .val (.int p1), .val (.int p2), .val (.int p3)] [(.ref a0r)])) _
    refine XS.iloadN X7.here hx rfl (hb hby own_d1_15) rfl ?_
    show Steps p.tables e below (T7.setTop (mkF m 16 #[.val (.ref a0r), .val (.int p1), .val (.int p2), .val (.int p3)] [(.int p3), (.ref a0r)])) _
    exact k
  obtain ⟨T12, h12, X12, e12, W12, st12⟩ := putF X7 hx hZ hown (host := "") (Or.inl (hw _ (List.mem_of_getElem? (i := 18) rfl))) Via.refl e7 fc11 fc8 (Or.inr ⟨(hw _ (List.mem_of_getElem? (i := 19) rfl)), rfl, hnm⟩) (hw _ (List.mem_of_getElem? (i := 1) rfl)) (ty := .int) (by decide) rfl rfl (g := (mkF m 16 #[.val (.ref a0r), .val (.int p1), .val (.int p2), .val (.int p3)] [(.int p3), (.ref a0r)])) rfl rfl (hb hby own_d1_16)
  refine own_go (T' := T12) (f' := (mkF m 19 #[.val (.ref a0r), .val (.int p1), .val (.int p2), .val (.int p3)] [])) st12 ?_
  have fc13 : Exa Z h12 a0r "com/example/wushan/wushan/store/TopicConfig" := fc8.wr W12
  have fc14 : Fld Z h12 a0r "com/example/wushan/wushan/store/TopicConfig" "readQueues" "I" (.int p1) := fc9.other W12 (Or.inr (slot_ne (Or.inr (hw _ (List.mem_of_getElem? (i := 15) rfl))) (Or.inr (hw _ (List.mem_of_getElem? (i := 19) rfl))) (by decide) (t := .int) (t' := .int) (by decide) (by decide)))
  have fc15 : Fld Z h12 a0r "com/example/wushan/wushan/store/TopicConfig" "writeQueues" "I" (.int p2) := fc10.other W12 (Or.inr (slot_ne (Or.inr (hw _ (List.mem_of_getElem? (i := 17) rfl))) (Or.inr (hw _ (List.mem_of_getElem? (i := 19) rfl))) (by decide) (t := .int) (t' := .int) (by decide) (by decide)))
  have fc16 : Fld Z h12 a0r "com/example/wushan/wushan/store/TopicConfig" "perm" "I" (.int p3) := fc11.same W12
  have Zs12 : n0 ≤ h12.size := Nat.le_trans Zs7 (Keep.of_wr W12).1
  have K12 : Keep h0 h12 [a0r] := K7.wr W12 (Or.inl (List.mem_of_getElem? (i := 0) rfl))
  have N12 := Fr.snoc X12 N7 go_a0r
  obtain ⟨fs, hr, hrun, hended, hW, hsame⟩ := X12.leave (v := none) (fun _ => rfl)
  refine ⟨_, _, ?_, hrun, hended, _, _, rfl, ?_, ⟨_, rfl⟩, hW, hsame.mono (by decide) (by decide)⟩
  · exact X12.returnOut hx Bd.returns (hb hby own_d1_19) hr
  · show own_Q1 Z a0r p1 p2 p3 h0 n0 _ T12.heap _
    rw [e12]
    exact ⟨rfl, N12, K12, fc14, fc15, fc16⟩
theorem own_d2_0 : decode jdk_29_method_70_code 0 = .ok (.lload_n 0, 1) := by decide +kernel
theorem own_d2_1 : decode jdk_29_method_70_code 1 = .ok (.lload_n 2, 1) := by decide +kernel
theorem own_d2_2 : decode jdk_29_method_70_code 2 = .ok (.lcmp, 1) := by decide +kernel
theorem own_d2_3 : decode jdk_29_method_70_code 3 = .ok (.ifCond .gt 7, 3) := by decide +kernel
theorem own_d2_6 : decode jdk_29_method_70_code 6 = .ok (.lload_n 0, 1) := by decide +kernel
theorem own_d2_7 : decode jdk_29_method_70_code 7 = .ok (.goto 4, 3) := by decide +kernel
theorem own_d2_10 : decode jdk_29_method_70_code 10 = .ok (.lload_n 2, 1) := by decide +kernel
theorem own_d2_11 : decode jdk_29_method_70_code 11 = .ok (.lreturn, 1) := by decide +kernel
theorem own_ef2 (m : MethodId) (q0 : Int64) (q1 : Int64) : entryFrame m #[(.long q0), (.long q1)] 4 = mkF m 0 #[.val (.long q0), .second, .val (.long q1), .second] [] := by first | (simp [entryFrame, mkF, argsToLocals, Value.category]; done) | rfl
def own_F2 (q0 : Int64) (q1 : Int64) : Int64 := (if q1 < q0 then q1 else q0)
def own_Q2 (Z : State) (q0 : Int64) (q1 : Int64) (h0 : Heap) (n0 : Nat) (v : Option Value) (h : Heap) (L : List Loc) : Prop := (v = some (.long (own_F2 q0 q1))) ∧ (Fr n0 L) ∧ (h = h0)
set_option maxRecDepth 65536 in
set_option maxHeartbeats 40000000 in
theorem own_rm2 (l : Launch) (Z : State) (a0 : Array Value) (hw : ∀ d ∈ tables_1, d.before a0 Z = true) (ws : List Jvm.Cond) (q0 : Int64) (q1 : Int64) (h0 : Heap) (n0 : Nat) (Z0 : n0 ≤ h0.size) :
    MetFree l (⟨"java/lang/Math", "min", "(JJ)J"⟩ : MethodName) (head1 (Jvm.Cond.code (⟨"java/lang/Math", "min", "(JJ)J"⟩ : MethodName) jdk_29_method_70_code 4 (some .long) :: ws) ({ frames := 0, cells := 0, slots := 0, locals := 0 } : Room)) (fun a U => a = #[(.long q0), (.long q1)] ∧ Z.Warmed39 U.vm ∧ U.heap = h0) (fun _ _ _ _ _ => True) (fun _ U o U' => ∃ v L, o = .returned v ∧ own_Q2 Z q0 q1 h0 n0 v U'.heap L ∧ FrameEnd U o U' L ({ frames := 0, cells := 0, slots := 0, locals := 0 } : Room).cells ({ frames := 0, cells := 0, slots := 0, locals := 0 } : Room).slots) := by
  refine MetFree.of_bodySF (Jvm.Free.JP.mathPlain rfl (by decide +kernel)) hisR ?_
  intro p e s m args below meth c s₁ Bd hml0 hP hK
  obtain ⟨rfl, hZ, hh⟩ := hP
  have hx := Bd.exec
  have hby := Bd.bytes
  have hml : c.maxLocals = 4 := hml0
  have hown : s.vm.findClass "java/lang/Math" = some m.cls := findClass_of_methodNamed Bd.named
  have hnm := (name_of_methodNamed Bd.named Bd.method).1
  have X0 : Stand p l e ({ frames := 0, cells := 0, slots := 0, locals := 0 } : Room) s m #[(.long q0), (.long q1)] below meth c s₁ [] 0 0 := Stand.of_body Bd
  have e0 : s₁.heap = h0 := by rw [← hh, Bd.state]; rfl
  have N0 := Fr.nil n0
  refine own_go (fun t k => castTop (own_ef2 m q0 q1) k) ?_
  refine own_go (T' := s₁) (f' := (mkF m 3 #[.val (.long q0), .second, .val (.long q1), .second] [(.int (lcmpW q0 q1))])) (fun t k => ?_) ?_
  · show Steps p.tables e below (s₁.setTop (mkF m 0 #[.val (.long q0), .second, .val (.long q1), .second] [])) _
    refine XS.lloadN X0.here hx rfl (hb hby own_d2_0) rfl ?_
    show Steps p.tables e below (s₁.setTop (mkF m 1 #[.val (.long q0), .second, .val (.long q1), .second] [(.long q0)])) _
    refine XS.lloadN X0.here hx rfl (hb hby own_d2_1) rfl ?_
    show Steps p.tables e below (s₁.setTop (mkF m 2 #[.val (.long q0), .second, .val (.long q1), .second] [(.long q1), (.long q0)])) _
    refine XS.lcmp X0.here hx rfl (hb hby own_d2_2) rfl ?_
    show Steps p.tables e below (s₁.setTop (mkF m 3 #[.val (.long q0), .second, .val (.long q1), .second] [(.int (lcmpW q0 q1))])) _
    exact k
  by_cases hc3_1 : q1 < q0
  · skip
    refine own_go (T' := s₁) (f' := (mkF m 11 #[.val (.long q0), .second, .val (.long q1), .second] [(.long q1)])) (fun t k => ?_) ?_
    · show Steps p.tables e below (s₁.setTop (mkF m 3 #[.val (.long q0), .second, .val (.long q1), .second] [(.int (lcmpW q0 q1))])) _
      refine XS.ifYes X0.here hx rfl (pc0 := 3) (pc' := 10) rfl (hb hby own_d2_3) rfl ((if0 _ _).trans (tlt ((lw_gt q0 q1).mpr hc3_1)).2.2.1) (by decide) (by decide) ?_
      show Steps p.tables e below (s₁.setTop (mkF m 10 #[.val (.long q0), .second, .val (.long q1), .second] [])) _
      refine XS.lloadN X0.here hx rfl (hb hby own_d2_10) rfl ?_
      show Steps p.tables e below (s₁.setTop (mkF m 11 #[.val (.long q0), .second, .val (.long q1), .second] [(.long q1)])) _
      exact k
    obtain ⟨fs, hr, hrun, hended, hW, hsame⟩ := X0.leave (v := some (.long q1)) (fun h => by rw [Bd.returns] at h; cases h)
    refine ⟨_, _, ?_, hrun, hended, _, _, rfl, ?_, ⟨_, rfl⟩, hW, hsame.mono (by decide) (by decide)⟩
    · exact X0.lreturnOut hx Bd.returns (hb hby own_d2_11) hr
    · show own_Q2 Z q0 q1 h0 n0 _ s₁.heap _
      rw [e0]
      exact ⟨(by rw [own_F2, if_pos hc3_1]), N0, rfl⟩
  · skip
    refine own_go (T' := s₁) (f' := (mkF m 11 #[.val (.long q0), .second, .val (.long q1), .second] [(.long q0)])) (fun t k => ?_) ?_
    · show Steps p.tables e below (s₁.setTop (mkF m 3 #[.val (.long q0), .second, .val (.long q1), .second] [(.int (lcmpW q0 q1))])) _
      refine XS.ifNo X0.here hx rfl (hb hby own_d2_3) rfl ((if0 _ _).trans (flt (fun q => hc3_1 ((lw_gt q0 q1).mp q))).2.2.1) ?_
      show Steps p.tables e below (s₁.setTop (mkF m 6 #[.val (.long q0), .second, .val (.long q1), .second] [])) _
      refine XS.lloadN X0.here hx rfl (hb hby own_d2_6) rfl ?_
      show Steps p.tables e below (s₁.setTop (mkF m 7 #[.val (.long q0), .second, .val (.long q1), .second] [(.long q0)])) _
      refine XS.goto X0.here hx rfl (pc0 := 7) (pc' := 11) rfl (hb hby own_d2_7) (by decide) (by decide) ?_
      show Steps p.tables e below (s₁.setTop (mkF m 11 #[.val (.long q0), .second, .val (.long q1), .second] [(.long q0)])) _
      exact k
    obtain ⟨fs, hr, hrun, hended, hW, hsame⟩ := X0.leave (v := some (.long q0)) (fun h => by rw [Bd.returns] at h; cases h)
    refine ⟨_, _, ?_, hrun, hended, _, _, rfl, ?_, ⟨_, rfl⟩, hW, hsame.mono (by decide) (by decide)⟩
    · exact X0.lreturnOut hx Bd.returns (hb hby own_d2_11) hr
    · show own_Q2 Z q0 q1 h0 n0 _ s₁.heap _
      rw [e0]
      exact ⟨(by rw [own_F2, if_neg hc3_1]), N0, rfl⟩
theorem own_d3_0 : decode prog_68_method_3_code 0 = .ok (.iload_n 1, 1) := by decide +kernel
theorem own_d3_1 : decode prog_68_method_3_code 1 = .ok (.ifCond .lt 15, 3) := by decide +kernel
theorem own_d3_4 : decode prog_68_method_3_code 4 = .ok (.iload_n 1, 1) := by decide +kernel
theorem own_d3_5 : decode prog_68_method_3_code 5 = .ok (.aload_n 0, 1) := by decide +kernel
theorem own_d3_6 : decode prog_68_method_3_code 6 = .ok (.getfield 7, 3) := by decide +kernel
theorem own_d3_9 : decode prog_68_method_3_code 9 = .ok (.if_icmp .ge 7, 3) := by decide +kernel
theorem own_d3_12 : decode prog_68_method_3_code 12 = .ok (.iconst 1, 1) := by decide +kernel
theorem own_d3_13 : decode prog_68_method_3_code 13 = .ok (.goto 4, 3) := by decide +kernel
theorem own_d3_16 : decode prog_68_method_3_code 16 = .ok (.iconst 0, 1) := by decide +kernel
theorem own_d3_17 : decode prog_68_method_3_code 17 = .ok (.ireturn, 1) := by decide +kernel
theorem own_ef3 (m : MethodId) (a0r : Addr) (p1 : Int32) : entryFrame m #[(.ref a0r), (.int p1)] 2 = mkF m 0 #[.val (.ref a0r), .val (.int p1)] [] := by first | (simp [entryFrame, mkF, argsToLocals, Value.category]; done) | rfl
def own_F3 (p1 : Int32) (u0 : Int32) : Int32 := (if p1 < (0 : Int32) then (0 : Int32) else (if p1 < u0 then (1 : Int32) else (0 : Int32)))
def own_Q3 (Z : State) (a0r : Addr) (p1 : Int32) (u0 : Int32) (h0 : Heap) (n0 : Nat) (v : Option Value) (h : Heap) (L : List Loc) : Prop := (v = some (.int (own_F3 p1 u0))) ∧ (Fr n0 L) ∧ (h = h0)
set_option maxRecDepth 65536 in
set_option maxHeartbeats 40000000 in
theorem own_rm3 (l : Launch) (Z : State) (a0 : Array Value) (hw : ∀ d ∈ tables_1, d.before a0 Z = true) (ws : List Jvm.Cond) (a0r : Addr) (p1 : Int32) (u0 : Int32) (h0 : Heap) (n0 : Nat) (Z0 : n0 ≤ h0.size) (P0 : Fld Z h0 a0r "com/example/wushan/wushan/store/TopicConfig" "readQueues" "I" (.int u0)) :
    MetFree l (⟨"com/example/wushan/wushan/store/TopicConfig", "reads", "(I)Z"⟩ : MethodName) (head1 (Jvm.Cond.code (⟨"com/example/wushan/wushan/store/TopicConfig", "reads", "(I)Z"⟩ : MethodName) prog_68_method_3_code 2 (some .boolean) :: ws) ({ frames := 0, cells := 0, slots := 0, locals := 0 } : Room)) (fun a U => a = #[(.ref a0r), (.int p1)] ∧ Z.Warmed39 U.vm ∧ U.heap = h0) (fun _ _ _ _ _ => True) (fun _ U o U' => ∃ v L, o = .returned v ∧ own_Q3 Z a0r p1 u0 h0 n0 v U'.heap L ∧ FrameEnd U o U' L ({ frames := 0, cells := 0, slots := 0, locals := 0 } : Room).cells ({ frames := 0, cells := 0, slots := 0, locals := 0 } : Room).slots) := by
  refine MetFree.of_bodySF (plainFor_of_name own_pn1) hisR ?_
  intro p e s m args below meth c s₁ Bd hml0 hP hK
  obtain ⟨rfl, hZ, hh⟩ := hP
  have hx := Bd.exec
  have hby := Bd.bytes
  have hml : c.maxLocals = 2 := hml0
  have hown : s.vm.findClass "com/example/wushan/wushan/store/TopicConfig" = some m.cls := findClass_of_methodNamed Bd.named
  have hnm := (name_of_methodNamed Bd.named Bd.method).1
  have X0 : Stand p l e ({ frames := 0, cells := 0, slots := 0, locals := 0 } : Room) s m #[(.ref a0r), (.int p1)] below meth c s₁ [] 0 0 := Stand.of_body Bd
  have e0 : s₁.heap = h0 := by rw [← hh, Bd.state]; rfl
  have N0 := Fr.nil n0
  refine own_go (fun t k => castTop (own_ef3 m a0r p1) k) ?_
  refine own_go (T' := s₁) (f' := (mkF m 1 #[.val (.ref a0r), .val (.int p1)] [(.int p1)])) (fun t k => ?_) ?_
  · show Steps p.tables e below (s₁.setTop (mkF m 0 #[.val (.ref a0r), .val (.int p1)] [])) _
    refine XS.iloadN X0.here hx rfl (hb hby own_d3_0) rfl ?_
    show Steps p.tables e below (s₁.setTop (mkF m 1 #[.val (.ref a0r), .val (.int p1)] [(.int p1)])) _
    exact k
  by_cases hc1_1 : p1 < (0 : Int32)
  · skip
    refine own_go (T' := s₁) (f' := (mkF m 17 #[.val (.ref a0r), .val (.int p1)] [(.int (0 : Int32))])) (fun t k => ?_) ?_
    · show Steps p.tables e below (s₁.setTop (mkF m 1 #[.val (.ref a0r), .val (.int p1)] [(.int p1)])) _
      refine XS.ifYes X0.here hx rfl (pc0 := 1) (pc' := 16) rfl (hb hby own_d3_1) rfl ((if0 _ _).trans (tlt hc1_1).1) (by decide) (by decide) ?_
      show Steps p.tables e below (s₁.setTop (mkF m 16 #[.val (.ref a0r), .val (.int p1)] [])) _
      refine XS.iconst X0.here hx rfl (hb hby own_d3_16) ?_
      show Steps p.tables e below (s₁.setTop (mkF m 17 #[.val (.ref a0r), .val (.int p1)] [(.int (0 : Int32))])) _
      exact k
    obtain ⟨fs, hr, hrun, hended, hW, hsame⟩ := X0.leave (v := some (.int (0 : Int32))) (fun h => by rw [Bd.returns] at h; cases h)
    refine ⟨_, _, ?_, hrun, hended, _, _, rfl, ?_, ⟨_, rfl⟩, hW, hsame.mono (by decide) (by decide)⟩
    · exact retN X0 hx (t := .boolean) Bd.returns (by simp) (hb hby own_d3_17) hr
    · show own_Q3 Z a0r p1 u0 h0 n0 _ s₁.heap _
      rw [e0]
      exact ⟨(by rw [own_F3, if_pos hc1_1]), N0, rfl⟩
  · skip
    refine own_go (T' := s₁) (f' := (mkF m 6 #[.val (.ref a0r), .val (.int p1)] [(.ref a0r), (.int p1)])) (fun t k => ?_) ?_
    · show Steps p.tables e below (s₁.setTop (mkF m 1 #[.val (.ref a0r), .val (.int p1)] [(.int p1)])) _
      refine XS.ifNo X0.here hx rfl (hb hby own_d3_1) rfl ((if0 _ _).trans (flt hc1_1).1) ?_
      show Steps p.tables e below (s₁.setTop (mkF m 4 #[.val (.ref a0r), .val (.int p1)] [])) _
      refine XS.iloadN X0.here hx rfl (hb hby own_d3_4) rfl ?_
      show Steps p.tables e below (s₁.setTop (mkF m 5 #[.val (.ref a0r), .val (.int p1)] [(.int p1)])) _
      refine XS.aloadN X0.here hx rfl (hb hby own_d3_5) rfl rfl ?_
      show Steps p.tables e below (s₁.setTop (mkF m 6 #[.val (.ref a0r), .val (.int p1)] [(.ref a0r), (.int p1)])) _
      exact k
    obtain ⟨T2, X2, e2, st2⟩ := getF X0 hx hZ hown (host := "") (Or.inl (hw _ (List.mem_of_getElem? (i := 14) rfl))) Via.refl e0 P0 (g := (mkF m 6 #[.val (.ref a0r), .val (.int p1)] [(.ref a0r), (.int p1)])) rfl rfl (hb hby own_d3_6)
    refine own_go (T' := T2) (f' := (mkF m 9 #[.val (.ref a0r), .val (.int p1)] [(.int u0), (.int p1)])) st2 ?_
    by_cases hc9_3 : p1 < u0
    · skip
      refine own_go (T' := T2) (f' := (mkF m 17 #[.val (.ref a0r), .val (.int p1)] [(.int (1 : Int32))])) (fun t k => ?_) ?_
      · show Steps p.tables e below (T2.setTop (mkF m 9 #[.val (.ref a0r), .val (.int p1)] [(.int u0), (.int p1)])) _
        refine XS.icmpNo X2.here hx rfl (hb hby own_d3_9) rfl (tlt hc9_3).2.1 ?_
        show Steps p.tables e below (T2.setTop (mkF m 12 #[.val (.ref a0r), .val (.int p1)] [])) _
        refine XS.iconst X2.here hx rfl (hb hby own_d3_12) ?_
        show Steps p.tables e below (T2.setTop (mkF m 13 #[.val (.ref a0r), .val (.int p1)] [(.int (1 : Int32))])) _
        refine XS.goto X2.here hx rfl (pc0 := 13) (pc' := 17) rfl (hb hby own_d3_13) (by decide) (by decide) ?_
        show Steps p.tables e below (T2.setTop (mkF m 17 #[.val (.ref a0r), .val (.int p1)] [(.int (1 : Int32))])) _
        exact k
      obtain ⟨fs, hr, hrun, hended, hW, hsame⟩ := X2.leave (v := some (.int (1 : Int32))) (fun h => by rw [Bd.returns] at h; cases h)
      refine ⟨_, _, ?_, hrun, hended, _, _, rfl, ?_, ⟨_, rfl⟩, hW, hsame.mono (by decide) (by decide)⟩
      · exact retN X2 hx (t := .boolean) Bd.returns (by simp) (hb hby own_d3_17) hr
      · show own_Q3 Z a0r p1 u0 h0 n0 _ T2.heap _
        rw [e2]
        exact ⟨(by rw [own_F3, if_neg hc1_1, if_pos hc9_3]), N0, rfl⟩
    · skip
      refine own_go (T' := T2) (f' := (mkF m 17 #[.val (.ref a0r), .val (.int p1)] [(.int (0 : Int32))])) (fun t k => ?_) ?_
      · show Steps p.tables e below (T2.setTop (mkF m 9 #[.val (.ref a0r), .val (.int p1)] [(.int u0), (.int p1)])) _
        refine XS.icmpYes X2.here hx rfl (pc0 := 9) (pc' := 16) rfl (hb hby own_d3_9) rfl (flt hc9_3).2.1 (by decide) (by decide) ?_
        show Steps p.tables e below (T2.setTop (mkF m 16 #[.val (.ref a0r), .val (.int p1)] [])) _
        refine XS.iconst X2.here hx rfl (hb hby own_d3_16) ?_
        show Steps p.tables e below (T2.setTop (mkF m 17 #[.val (.ref a0r), .val (.int p1)] [(.int (0 : Int32))])) _
        exact k
      obtain ⟨fs, hr, hrun, hended, hW, hsame⟩ := X2.leave (v := some (.int (0 : Int32))) (fun h => by rw [Bd.returns] at h; cases h)
      refine ⟨_, _, ?_, hrun, hended, _, _, rfl, ?_, ⟨_, rfl⟩, hW, hsame.mono (by decide) (by decide)⟩
      · exact retN X2 hx (t := .boolean) Bd.returns (by simp) (hb hby own_d3_17) hr
      · show own_Q3 Z a0r p1 u0 h0 n0 _ T2.heap _
        rw [e2]
        exact ⟨(by rw [own_F3, if_neg hc1_1, if_neg hc9_3]), N0, rfl⟩
theorem own_pd1 : parseMethodDescriptor "(III)V" = some ⟨[.int, .int, .int], none⟩ := by decide +kernel
theorem own_pd2 : parseMethodDescriptor "(JJ)J" = some ⟨[.long, .long], some .long⟩ := by decide +kernel
theorem own_pd3 : parseMethodDescriptor "(I)Z" = some ⟨[.int], some .boolean⟩ := by decide +kernel
theorem own_pn2 : plainName "com/example/wushan/wushan/store/TopicConfigReadsPinLaw" = true := by first | (simp [plainName, overriddenIn]; done) | decide +kernel
theorem own_ef0 (m : MethodId) (p0 : Int32) (p1 : Int32) (p2 : Int32) (p3 : Int32) (p4 : Int32) : entryFrame m #[(.int p0), (.int p1), (.int p2), (.int p3), (.int p4)] maxLocals = mkF m 0 #[.val (.int p0), .val (.int p1), .val (.int p2), .val (.int p3), .val (.int p4), .unset, .unset, .unset, .unset, .unset, .unset] [] := by first | (simp [entryFrame, mkF, argsToLocals, Value.category, maxLocals]; done) | rfl
def own_QQ (p0 : Int32) (p1 : Int32) (p2 : Int32) (p3 : Int32) (p4 : Int32) : Int32 := (if (p4 &&& (3 : Int32)) = (1 : Int32) then (p0 + (((p4 >>> ((2 : Int32) &&& 31)) &&& (7 : Int32)) - (4 : Int32))) else (if (p4 &&& (3 : Int32)) = (2 : Int32) then (((p4 >>> ((2 : Int32) &&& 31)) &&& (7 : Int32)) - (4 : Int32)) else p3))
def own_EX (p0 : Int32) (p1 : Int32) (p2 : Int32) (p3 : Int32) (p4 : Int32) : Int32 := (if (own_F2 ((own_QQ p0 p1 p2 p3 p4).toInt64) (((p0.toInt64) - (1 : Int64)) - ((own_QQ p0 p1 p2 p3 p4).toInt64))) < (0 : Int64) then (0 : Int32) else (1 : Int32))
def own_F0 (p0 : Int32) (p1 : Int32) (p2 : Int32) (p3 : Int32) (p4 : Int32) : Int32 := (if (own_F3 (own_QQ p0 p1 p2 p3 p4) p0) = (own_EX p0 p1 p2 p3 p4) then (1 : Int32) else (0 : Int32))
theorem own_law (p0 p1 p2 p3 p4 : Int32) : own_F0 p0 p1 p2 p3 p4 = 1 := by
  have g : own_F3 (own_QQ p0 p1 p2 p3 p4) p0 = own_EX p0 p1 p2 p3 p4 := by
    rw [own_F3, own_EX]
    generalize own_QQ p0 p1 p2 p3 p4 = q
    have e1 : (1 : Int64).toInt = 1 := rfl
    have e0 : (0 : Int64).toInt = 0 := rfl
    have e0' : (0 : Int32).toInt = 0 := rfl
    have a1 := c_lsub p0.toInt64 1; have a2 := c_lsub (p0.toInt64 - 1) q.toInt64
    have r1 := rng64 (p0.toInt64 - 1); have r2 := rng64 (p0.toInt64 - 1 - q.toInt64); have r3 := rng32 p0; have r4 := rng32 q
    rw [c_i2l] at a1 a2
    rw [e1] at a1
    have k : own_F2 (q.toInt64) ((p0.toInt64 - (1 : Int64)) - q.toInt64) < (0 : Int64) ↔ (q.toInt < 0 ∨ p0.toInt ≤ q.toInt) := by
      rw [own_F2]
      by_cases c : ((p0.toInt64 - (1 : Int64)) - q.toInt64) < q.toInt64
      · rw [if_pos c]; rw [Int64.lt_iff_toInt_lt] at c ⊢; rw [c_i2l] at c; rw [e0]; omega
      · rw [if_neg c]; rw [Int64.lt_iff_toInt_lt] at c ⊢; rw [c_i2l] at c ⊢; rw [e0]; omega
    by_cases h1 : q < (0 : Int32)
    · have h1' := h1
      rw [Int32.lt_iff_toInt_lt, e0'] at h1'
      rw [if_pos h1, if_pos (k.mpr (Or.inl h1'))]
    · have h1' := h1
      rw [Int32.lt_iff_toInt_lt, e0'] at h1'
      rw [if_neg h1]
      by_cases h2 : q < p0
      · have h2' := h2
        rw [Int32.lt_iff_toInt_lt] at h2'
        rw [if_pos h2, if_neg (fun z => by have := k.mp z; omega)]
      · have h2' := h2
        rw [Int32.lt_iff_toInt_lt] at h2'
        rw [if_neg h2, if_pos (k.mpr (Or.inr (by omega)))]
  rw [own_F0, if_pos g]
def own_Q0 (Z : State) (p0 : Int32) (p1 : Int32) (p2 : Int32) (p3 : Int32) (p4 : Int32) (h0 : Heap) (n0 : Nat) (v : Option Value) (h : Heap) (L : List Loc) : Prop := (v = some (.int (1 : Int32))) ∧ (Fr n0 L)
set_option maxRecDepth 65536 in
set_option maxHeartbeats 40000000 in
theorem own_rm0 (l : Launch) (Z : State) (a0 : Array Value) (hw : ∀ d ∈ tables_1, d.before a0 Z = true) (ws : List Jvm.Cond) (p0 : Int32) (p1 : Int32) (p2 : Int32) (p3 : Int32) (p4 : Int32) (h0 : Heap) (n0 : Nat) (Z0 : n0 ≤ h0.size) :
    MetFree l x (head1 (Jvm.Cond.code x code maxLocals ret :: ws) room_1) (fun a U => a = #[(.int p0), (.int p1), (.int p2), (.int p3), (.int p4)] ∧ Z.Warmed39 U.vm ∧ U.heap = h0) (fun _ _ _ _ _ => True) (fun _ U o U' => ∃ v L, o = .returned v ∧ own_Q0 Z p0 p1 p2 p3 p4 h0 n0 v U'.heap L ∧ FrameEnd U o U' L 16 128) := by
  refine MetFree.of_bodySF (plainFor_of_name own_pn2) hisR ?_
  intro p e s m args below meth c s₁ Bd hml0 hP hK
  obtain ⟨rfl, hZ, hh⟩ := hP
  have hx := Bd.exec
  have hby := Bd.bytes
  have hml : c.maxLocals = 11 := hml0
  have hown : s.vm.findClass "com/example/wushan/wushan/store/TopicConfigReadsPinLaw" = some m.cls := findClass_of_methodNamed Bd.named
  have hnm := (name_of_methodNamed Bd.named Bd.method).1
  have X0 : Stand p l e room_1 s m #[(.int p0), (.int p1), (.int p2), (.int p3), (.int p4)] below meth c s₁ [] 0 0 := Stand.of_body Bd
  have e0 : s₁.heap = h0 := by rw [← hh, Bd.state]; rfl
  have N0 := Fr.nil n0
  refine own_go (fun t k => castTop (own_ef0 m p0 p1 p2 p3 p4) k) ?_
  refine own_go (T' := s₁) (f' := (mkF m 20 #[.val (.int p0), .val (.int p1), .val (.int p2), .val (.int p3), .val (.int p4), .val (.int (p4 &&& (3 : Int32))), .val (.int (((p4 >>> ((2 : Int32) &&& 31)) &&& (7 : Int32)) - (4 : Int32))), .unset, .unset, .unset, .unset] [(.int (1 : Int32)), (.int (p4 &&& (3 : Int32)))])) (fun t k => ?_) ?_
  · show Steps p.tables e below (s₁.setTop (mkF m 0 #[.val (.int p0), .val (.int p1), .val (.int p2), .val (.int p3), .val (.int p4), .unset, .unset, .unset, .unset, .unset, .unset] [])) _
    refine XS.iload X0.here hx rfl (hb hby at_0) rfl ?_
    show Steps p.tables e below (s₁.setTop (mkF m 2 #[.val (.int p0), .val (.int p1), .val (.int p2), .val (.int p3), .val (.int p4), .unset, .unset, .unset, .unset, .unset, .unset] [(.int p4)])) _
    refine XS.iconst X0.here hx rfl (hb hby at_2) ?_
    show Steps p.tables e below (s₁.setTop (mkF m 3 #[.val (.int p0), .val (.int p1), .val (.int p2), .val (.int p3), .val (.int p4), .unset, .unset, .unset, .unset, .unset, .unset] [(.int (3 : Int32)), (.int p4)])) _
    refine XS.iand X0.here hx rfl (hb hby at_3) rfl ?_
    show Steps p.tables e below (s₁.setTop (mkF m 4 #[.val (.int p0), .val (.int p1), .val (.int p2), .val (.int p3), .val (.int p4), .unset, .unset, .unset, .unset, .unset, .unset] [(.int (p4 &&& (3 : Int32)))])) _
    refine XS.istore X0.here hx rfl (hb hby at_4) rfl (l' := #[.val (.int p0), .val (.int p1), .val (.int p2), .val (.int p3), .val (.int p4), .val (.int (p4 &&& (3 : Int32))), .unset, .unset, .unset, .unset, .unset]) rfl ?_
    show Steps p.tables e below (s₁.setTop (mkF m 6 #[.val (.int p0), .val (.int p1), .val (.int p2), .val (.int p3), .val (.int p4), .val (.int (p4 &&& (3 : Int32))), .unset, .unset, .unset, .unset, .unset] [])) _
    refine XS.iload X0.here hx rfl (hb hby at_6) rfl ?_
    show Steps p.tables e below (s₁.setTop (mkF m 8 #[.val (.int p0), .val (.int p1), .val (.int p2), .val (.int p3), .val (.int p4), .val (.int (p4 &&& (3 : Int32))), .unset, .unset, .unset, .unset, .unset] [(.int p4)])) _
    refine XS.iconst X0.here hx rfl (hb hby at_8) ?_
    show Steps p.tables e below (s₁.setTop (mkF m 9 #[.val (.int p0), .val (.int p1), .val (.int p2), .val (.int p3), .val (.int p4), .val (.int (p4 &&& (3 : Int32))), .unset, .unset, .unset, .unset, .unset] [(.int (2 : Int32)), (.int p4)])) _
    refine XS.ishr X0.here hx rfl (hb hby at_9) rfl ?_
    show Steps p.tables e below (s₁.setTop (mkF m 10 #[.val (.int p0), .val (.int p1), .val (.int p2), .val (.int p3), .val (.int p4), .val (.int (p4 &&& (3 : Int32))), .unset, .unset, .unset, .unset, .unset] [(.int (p4 >>> ((2 : Int32) &&& 31)))])) _
    refine XS.bipush X0.here hx rfl (hb hby at_10) ?_
    show Steps p.tables e below (s₁.setTop (mkF m 12 #[.val (.int p0), .val (.int p1), .val (.int p2), .val (.int p3), .val (.int p4), .val (.int (p4 &&& (3 : Int32))), .unset, .unset, .unset, .unset, .unset] [(.int (7 : Int32)), (.int (p4 >>> ((2 : Int32) &&& 31)))])) _
    refine XS.iand X0.here hx rfl (hb hby at_12) rfl ?_
    show Steps p.tables e below (s₁.setTop (mkF m 13 #[.val (.int p0), .val (.int p1), .val (.int p2), .val (.int p3), .val (.int p4), .val (.int (p4 &&& (3 : Int32))), .unset, .unset, .unset, .unset, .unset] [(.int ((p4 >>> ((2 : Int32) &&& 31)) &&& (7 : Int32)))])) _
    refine XS.iconst X0.here hx rfl (hb hby at_13) ?_
    show Steps p.tables e below (s₁.setTop (mkF m 14 #[.val (.int p0), .val (.int p1), .val (.int p2), .val (.int p3), .val (.int p4), .val (.int (p4 &&& (3 : Int32))), .unset, .unset, .unset, .unset, .unset] [(.int (4 : Int32)), (.int ((p4 >>> ((2 : Int32) &&& 31)) &&& (7 : Int32)))])) _
    refine XS.isub X0.here hx rfl (hb hby at_14) rfl ?_
    show Steps p.tables e below (s₁.setTop (mkF m 15 #[.val (.int p0), .val (.int p1), .val (.int p2), .val (.int p3), .val (.int p4), .val (.int (p4 &&& (3 : Int32))), .unset, .unset, .unset, .unset, .unset] [(.int (((p4 >>> ((2 : Int32) &&& 31)) &&& (7 : Int32)) - (4 : Int32)))])) _
    refine XS.istore X0.here hx rfl (hb hby at_15) rfl (l' := #[.val (.int p0), .val (.int p1), .val (.int p2), .val (.int p3), .val (.int p4), .val (.int (p4 &&& (3 : Int32))), .val (.int (((p4 >>> ((2 : Int32) &&& 31)) &&& (7 : Int32)) - (4 : Int32))), .unset, .unset, .unset, .unset]) rfl ?_
    show Steps p.tables e below (s₁.setTop (mkF m 17 #[.val (.int p0), .val (.int p1), .val (.int p2), .val (.int p3), .val (.int p4), .val (.int (p4 &&& (3 : Int32))), .val (.int (((p4 >>> ((2 : Int32) &&& 31)) &&& (7 : Int32)) - (4 : Int32))), .unset, .unset, .unset, .unset] [])) _
    refine XS.iload X0.here hx rfl (hb hby at_17) rfl ?_
    show Steps p.tables e below (s₁.setTop (mkF m 19 #[.val (.int p0), .val (.int p1), .val (.int p2), .val (.int p3), .val (.int p4), .val (.int (p4 &&& (3 : Int32))), .val (.int (((p4 >>> ((2 : Int32) &&& 31)) &&& (7 : Int32)) - (4 : Int32))), .unset, .unset, .unset, .unset] [(.int (p4 &&& (3 : Int32)))])) _
    refine XS.iconst X0.here hx rfl (hb hby at_19) ?_
    show Steps p.tables e below (s₁.setTop (mkF m 20 #[.val (.int p0), .val (.int p1), .val (.int p2), .val (.int p3), .val (.int p4), .val (.int (p4 &&& (3 : Int32))), .val (.int (((p4 >>> ((2 : Int32) &&& 31)) &&& (7 : Int32)) - (4 : Int32))), .unset, .unset, .unset, .unset] [(.int (1 : Int32)), (.int (p4 &&& (3 : Int32)))])) _
    exact k
  refine own_go (T' := s₁) (f' := (mkF m 48 #[.val (.int p0), .val (.int p1), .val (.int p2), .val (.int p3), .val (.int p4), .val (.int (p4 &&& (3 : Int32))), .val (.int (((p4 >>> ((2 : Int32) &&& 31)) &&& (7 : Int32)) - (4 : Int32))), .val (.int (if (p4 &&& (3 : Int32)) = (1 : Int32) then (p0 + (((p4 >>> ((2 : Int32) &&& 31)) &&& (7 : Int32)) - (4 : Int32))) else (if (p4 &&& (3 : Int32)) = (2 : Int32) then (((p4 >>> ((2 : Int32) &&& 31)) &&& (7 : Int32)) - (4 : Int32)) else p3))), .unset, .unset, .unset] [])) (fun t k => ?_) ?_
  · show Steps p.tables e below (s₁.setTop (mkF m 20 #[.val (.int p0), .val (.int p1), .val (.int p2), .val (.int p3), .val (.int p4), .val (.int (p4 &&& (3 : Int32))), .val (.int (((p4 >>> ((2 : Int32) &&& 31)) &&& (7 : Int32)) - (4 : Int32))), .unset, .unset, .unset, .unset] [(.int (1 : Int32)), (.int (p4 &&& (3 : Int32)))])) _
    by_cases hc20_1 : (p4 &&& (3 : Int32)) = (1 : Int32)
    · skip
      refine XS.icmpNo X0.here hx rfl (hb hby at_20) rfl (teq hc20_1).2 ?_
      show Steps p.tables e below (s₁.setTop (mkF m 23 #[.val (.int p0), .val (.int p1), .val (.int p2), .val (.int p3), .val (.int p4), .val (.int (p4 &&& (3 : Int32))), .val (.int (((p4 >>> ((2 : Int32) &&& 31)) &&& (7 : Int32)) - (4 : Int32))), .unset, .unset, .unset, .unset] [])) _
      refine XS.iloadN X0.here hx rfl (hb hby at_23) rfl ?_
      show Steps p.tables e below (s₁.setTop (mkF m 24 #[.val (.int p0), .val (.int p1), .val (.int p2), .val (.int p3), .val (.int p4), .val (.int (p4 &&& (3 : Int32))), .val (.int (((p4 >>> ((2 : Int32) &&& 31)) &&& (7 : Int32)) - (4 : Int32))), .unset, .unset, .unset, .unset] [(.int p0)])) _
      refine XS.iload X0.here hx rfl (hb hby at_24) rfl ?_
      show Steps p.tables e below (s₁.setTop (mkF m 26 #[.val (.int p0), .val (.int p1), .val (.int p2), .val (.int p3), .val (.int p4), .val (.int (p4 &&& (3 : Int32))), .val (.int (((p4 >>> ((2 : Int32) &&& 31)) &&& (7 : Int32)) - (4 : Int32))), .unset, .unset, .unset, .unset] [(.int (((p4 >>> ((2 : Int32) &&& 31)) &&& (7 : Int32)) - (4 : Int32))), (.int p0)])) _
      refine XS.iadd X0.here hx rfl (hb hby at_26) rfl ?_
      show Steps p.tables e below (s₁.setTop (mkF m 27 #[.val (.int p0), .val (.int p1), .val (.int p2), .val (.int p3), .val (.int p4), .val (.int (p4 &&& (3 : Int32))), .val (.int (((p4 >>> ((2 : Int32) &&& 31)) &&& (7 : Int32)) - (4 : Int32))), .unset, .unset, .unset, .unset] [(.int (p0 + (((p4 >>> ((2 : Int32) &&& 31)) &&& (7 : Int32)) - (4 : Int32))))])) _
      refine XS.istore X0.here hx rfl (hb hby at_27) rfl (l' := #[.val (.int p0), .val (.int p1), .val (.int p2), .val (.int p3), .val (.int p4), .val (.int (p4 &&& (3 : Int32))), .val (.int (((p4 >>> ((2 : Int32) &&& 31)) &&& (7 : Int32)) - (4 : Int32))), .val (.int (p0 + (((p4 >>> ((2 : Int32) &&& 31)) &&& (7 : Int32)) - (4 : Int32)))), .unset, .unset, .unset]) rfl ?_
      show Steps p.tables e below (s₁.setTop (mkF m 29 #[.val (.int p0), .val (.int p1), .val (.int p2), .val (.int p3), .val (.int p4), .val (.int (p4 &&& (3 : Int32))), .val (.int (((p4 >>> ((2 : Int32) &&& 31)) &&& (7 : Int32)) - (4 : Int32))), .val (.int (p0 + (((p4 >>> ((2 : Int32) &&& 31)) &&& (7 : Int32)) - (4 : Int32)))), .unset, .unset, .unset] [])) _
      refine XS.goto X0.here hx rfl (pc0 := 29) (pc' := 48) rfl (hb hby at_29) (by decide) (by decide) ?_
      show Steps p.tables e below (s₁.setTop (mkF m 48 #[.val (.int p0), .val (.int p1), .val (.int p2), .val (.int p3), .val (.int p4), .val (.int (p4 &&& (3 : Int32))), .val (.int (((p4 >>> ((2 : Int32) &&& 31)) &&& (7 : Int32)) - (4 : Int32))), .val (.int (p0 + (((p4 >>> ((2 : Int32) &&& 31)) &&& (7 : Int32)) - (4 : Int32)))), .unset, .unset, .unset] [])) _
      simp only [if_pos hc20_1] at k
      exact k
    · skip
      refine XS.icmpYes X0.here hx rfl (pc0 := 20) (pc' := 32) rfl (hb hby at_20) rfl (feq hc20_1).2 (by decide) (by decide) ?_
      show Steps p.tables e below (s₁.setTop (mkF m 32 #[.val (.int p0), .val (.int p1), .val (.int p2), .val (.int p3), .val (.int p4), .val (.int (p4 &&& (3 : Int32))), .val (.int (((p4 >>> ((2 : Int32) &&& 31)) &&& (7 : Int32)) - (4 : Int32))), .unset, .unset, .unset, .unset] [])) _
      refine XS.iload X0.here hx rfl (hb hby at_32) rfl ?_
      show Steps p.tables e below (s₁.setTop (mkF m 34 #[.val (.int p0), .val (.int p1), .val (.int p2), .val (.int p3), .val (.int p4), .val (.int (p4 &&& (3 : Int32))), .val (.int (((p4 >>> ((2 : Int32) &&& 31)) &&& (7 : Int32)) - (4 : Int32))), .unset, .unset, .unset, .unset] [(.int (p4 &&& (3 : Int32)))])) _
      refine XS.iconst X0.here hx rfl (hb hby at_34) ?_
      show Steps p.tables e below (s₁.setTop (mkF m 35 #[.val (.int p0), .val (.int p1), .val (.int p2), .val (.int p3), .val (.int p4), .val (.int (p4 &&& (3 : Int32))), .val (.int (((p4 >>> ((2 : Int32) &&& 31)) &&& (7 : Int32)) - (4 : Int32))), .unset, .unset, .unset, .unset] [(.int (2 : Int32)), (.int (p4 &&& (3 : Int32)))])) _
      by_cases hc35_2 : (p4 &&& (3 : Int32)) = (2 : Int32)
      · skip
        refine XS.icmpNo X0.here hx rfl (hb hby at_35) rfl (teq hc35_2).2 ?_
        show Steps p.tables e below (s₁.setTop (mkF m 38 #[.val (.int p0), .val (.int p1), .val (.int p2), .val (.int p3), .val (.int p4), .val (.int (p4 &&& (3 : Int32))), .val (.int (((p4 >>> ((2 : Int32) &&& 31)) &&& (7 : Int32)) - (4 : Int32))), .unset, .unset, .unset, .unset] [])) _
        refine XS.iload X0.here hx rfl (hb hby at_38) rfl ?_
        show Steps p.tables e below (s₁.setTop (mkF m 40 #[.val (.int p0), .val (.int p1), .val (.int p2), .val (.int p3), .val (.int p4), .val (.int (p4 &&& (3 : Int32))), .val (.int (((p4 >>> ((2 : Int32) &&& 31)) &&& (7 : Int32)) - (4 : Int32))), .unset, .unset, .unset, .unset] [(.int (((p4 >>> ((2 : Int32) &&& 31)) &&& (7 : Int32)) - (4 : Int32)))])) _
        refine XS.istore X0.here hx rfl (hb hby at_40) rfl (l' := #[.val (.int p0), .val (.int p1), .val (.int p2), .val (.int p3), .val (.int p4), .val (.int (p4 &&& (3 : Int32))), .val (.int (((p4 >>> ((2 : Int32) &&& 31)) &&& (7 : Int32)) - (4 : Int32))), .val (.int (((p4 >>> ((2 : Int32) &&& 31)) &&& (7 : Int32)) - (4 : Int32))), .unset, .unset, .unset]) rfl ?_
        show Steps p.tables e below (s₁.setTop (mkF m 42 #[.val (.int p0), .val (.int p1), .val (.int p2), .val (.int p3), .val (.int p4), .val (.int (p4 &&& (3 : Int32))), .val (.int (((p4 >>> ((2 : Int32) &&& 31)) &&& (7 : Int32)) - (4 : Int32))), .val (.int (((p4 >>> ((2 : Int32) &&& 31)) &&& (7 : Int32)) - (4 : Int32))), .unset, .unset, .unset] [])) _
        refine XS.goto X0.here hx rfl (pc0 := 42) (pc' := 48) rfl (hb hby at_42) (by decide) (by decide) ?_
        show Steps p.tables e below (s₁.setTop (mkF m 48 #[.val (.int p0), .val (.int p1), .val (.int p2), .val (.int p3), .val (.int p4), .val (.int (p4 &&& (3 : Int32))), .val (.int (((p4 >>> ((2 : Int32) &&& 31)) &&& (7 : Int32)) - (4 : Int32))), .val (.int (((p4 >>> ((2 : Int32) &&& 31)) &&& (7 : Int32)) - (4 : Int32))), .unset, .unset, .unset] [])) _
        simp only [if_neg hc20_1, if_pos hc35_2] at k
        exact k
      · skip
        refine XS.icmpYes X0.here hx rfl (pc0 := 35) (pc' := 45) rfl (hb hby at_35) rfl (feq hc35_2).2 (by decide) (by decide) ?_
        show Steps p.tables e below (s₁.setTop (mkF m 45 #[.val (.int p0), .val (.int p1), .val (.int p2), .val (.int p3), .val (.int p4), .val (.int (p4 &&& (3 : Int32))), .val (.int (((p4 >>> ((2 : Int32) &&& 31)) &&& (7 : Int32)) - (4 : Int32))), .unset, .unset, .unset, .unset] [])) _
        refine XS.iloadN X0.here hx rfl (hb hby at_45) rfl ?_
        show Steps p.tables e below (s₁.setTop (mkF m 46 #[.val (.int p0), .val (.int p1), .val (.int p2), .val (.int p3), .val (.int p4), .val (.int (p4 &&& (3 : Int32))), .val (.int (((p4 >>> ((2 : Int32) &&& 31)) &&& (7 : Int32)) - (4 : Int32))), .unset, .unset, .unset, .unset] [(.int p3)])) _
        refine XS.istore X0.here hx rfl (hb hby at_46) rfl (l' := #[.val (.int p0), .val (.int p1), .val (.int p2), .val (.int p3), .val (.int p4), .val (.int (p4 &&& (3 : Int32))), .val (.int (((p4 >>> ((2 : Int32) &&& 31)) &&& (7 : Int32)) - (4 : Int32))), .val (.int p3), .unset, .unset, .unset]) rfl ?_
        show Steps p.tables e below (s₁.setTop (mkF m 48 #[.val (.int p0), .val (.int p1), .val (.int p2), .val (.int p3), .val (.int p4), .val (.int (p4 &&& (3 : Int32))), .val (.int (((p4 >>> ((2 : Int32) &&& 31)) &&& (7 : Int32)) - (4 : Int32))), .val (.int p3), .unset, .unset, .unset] [])) _
        simp only [if_neg hc20_1, if_neg hc35_2] at k
        exact k
  refine own_go (T' := s₁) (f' := (mkF m 48 #[.val (.int p0), .val (.int p1), .val (.int p2), .val (.int p3), .val (.int p4), .val (.int (p4 &&& (3 : Int32))), .val (.int (((p4 >>> ((2 : Int32) &&& 31)) &&& (7 : Int32)) - (4 : Int32))), .val (.int (own_QQ p0 p1 p2 p3 p4)), .unset, .unset, .unset] [])) (fun t k => k) ?_
  obtain ⟨T3, h3, X3, e3, E3, A3, D3, -, st3⟩ := newO X0 hx hZ hown (hw _ (List.mem_of_getElem? (i := 0) rfl)) (hw _ (List.mem_of_getElem? (i := 1) rfl)) (hw _ (List.mem_of_getElem? (i := 2) rfl)) e0 (g := (mkF m 48 #[.val (.int p0), .val (.int p1), .val (.int p2), .val (.int p3), .val (.int p4), .val (.int (p4 &&& (3 : Int32))), .val (.int (((p4 >>> ((2 : Int32) &&& 31)) &&& (7 : Int32)) - (4 : Int32))), .val (.int (own_QQ p0 p1 p2 p3 p4)), .unset, .unset, .unset] [])) rfl (hb hby at_48) (by decide) (by decide)
  obtain ⟨b3, g3⟩ : ∃ z, z = h0.size := ⟨_, rfl⟩
  rw [← g3] at A3 D3 st3
  have g_b3 : n0 ≤ b3 := Nat.le_trans Z0 (Nat.le_of_eq g3.symm)
  refine own_go (T' := T3) (f' := (mkF m 51 #[.val (.int p0), .val (.int p1), .val (.int p2), .val (.int p3), .val (.int p4), .val (.int (p4 &&& (3 : Int32))), .val (.int (((p4 >>> ((2 : Int32) &&& 31)) &&& (7 : Int32)) - (4 : Int32))), .val (.int (own_QQ p0 p1 p2 p3 p4)), .unset, .unset, .unset] [(.ref b3)])) st3 ?_
  have Zs3 : n0 ≤ h3.size := Nat.le_trans Z0 E3.1
  have fc4 : Fld Z h3 b3 "com/example/wushan/wushan/store/TopicConfig" "readQueues" "I" (.int (0 : Int32)) := D3 (Or.inr (hw _ (List.mem_of_getElem? (i := 15) rfl))) (ty := .int) (by decide)
  have fc5 : Fld Z h3 b3 "com/example/wushan/wushan/store/TopicConfig" "writeQueues" "I" (.int (0 : Int32)) := D3 (Or.inr (hw _ (List.mem_of_getElem? (i := 17) rfl))) (ty := .int) (by decide)
  have fc6 : Fld Z h3 b3 "com/example/wushan/wushan/store/TopicConfig" "perm" "I" (.int (0 : Int32)) := D3 (Or.inr (hw _ (List.mem_of_getElem? (i := 19) rfl))) (ty := .int) (by decide)
  refine own_go (T' := T3) (f' := (mkF m 55 #[.val (.int p0), .val (.int p1), .val (.int p2), .val (.int p3), .val (.int p4), .val (.int (p4 &&& (3 : Int32))), .val (.int (((p4 >>> ((2 : Int32) &&& 31)) &&& (7 : Int32)) - (4 : Int32))), .val (.int (own_QQ p0 p1 p2 p3 p4)), .unset, .unset, .unset] [(.int p2), (.int p1), (.int p0), (.ref b3), (.ref b3)])) (fun t k => ?_) ?_
  · show Steps p.tables e below (T3.setTop (mkF m 51 #[.val (.int p0), .val (.int p1), .val (.int p2), .val (.int p3), .val (.int p4), .val (.int (p4 &&& (3 : Int32))), .val (.int (((p4 >>> ((2 : Int32) &&& 31)) &&& (7 : Int32)) - (4 : Int32))), .val (.int (own_QQ p0 p1 p2 p3 p4)), .unset, .unset, .unset] [(.ref b3)])) _
    refine XS.dup X3.here hx rfl (hb hby at_51) rfl rfl ?_
    show Steps p.tables e below (T3.setTop (mkF m 52 #[.val (.int p0), .val (.int p1), .val (.int p2), .val (.int p3), .val (.int p4), .val (.int (p4 &&& (3 : Int32))), .val (.int (((p4 >>> ((2 : Int32) &&& 31)) &&& (7 : Int32)) - (4 : Int32))), .val (.int (own_QQ p0 p1 p2 p3 p4)), .unset, .unset, .unset] [(.ref b3), (.ref b3)])) _
    refine XS.iloadN X3.here hx rfl (hb hby at_52) rfl ?_
    show Steps p.tables e below (T3.setTop (mkF m 53 #[.val (.int p0), .val (.int p1), .val (.int p2), .val (.int p3), .val (.int p4), .val (.int (p4 &&& (3 : Int32))), .val (.int (((p4 >>> ((2 : Int32) &&& 31)) &&& (7 : Int32)) - (4 : Int32))), .val (.int (own_QQ p0 p1 p2 p3 p4)), .unset, .unset, .unset] [(.int p0), (.ref b3), (.ref b3)])) _
    refine XS.iloadN X3.here hx rfl (hb hby at_53) rfl ?_
    show Steps p.tables e below (T3.setTop (mkF m 54 #[.val (.int p0), .val (.int p1), .val (.int p2), .val (.int p3), .val (.int p4), .val (.int (p4 &&& (3 : Int32))), .val (.int (((p4 >>> ((2 : Int32) &&& 31)) &&& (7 : Int32)) - (4 : Int32))), .val (.int (own_QQ p0 p1 p2 p3 p4)), .unset, .unset, .unset] [(.int p1), (.int p0), (.ref b3), (.ref b3)])) _
    refine XS.iloadN X3.here hx rfl (hb hby at_54) rfl ?_
    show Steps p.tables e below (T3.setTop (mkF m 55 #[.val (.int p0), .val (.int p1), .val (.int p2), .val (.int p3), .val (.int p4), .val (.int (p4 &&& (3 : Int32))), .val (.int (((p4 >>> ((2 : Int32) &&& 31)) &&& (7 : Int32)) - (4 : Int32))), .val (.int (own_QQ p0 p1 p2 p3 p4)), .unset, .unset, .unset] [(.int p2), (.int p1), (.int p0), (.ref b3), (.ref b3)])) _
    exact k
  obtain ⟨_, _, ⟨T7, Lq7, kq7, nq7⟩, -, X7, ⟨Lc7, hQ7, lq7, yq7, zq7⟩, st7⟩ := X3.specialBack hx (y := (⟨"com/example/wushan/wushan/store/TopicConfig", "<init>", "(III)V"⟩ : MethodName)) rfl hown (mvT hZ (hw _ (List.mem_of_getElem? (i := 3) rfl))) (mvT hZ (hw _ (List.mem_of_getElem? (i := 4) rfl))) (mvT hZ (hw _ (List.mem_of_getElem? (i := 5) rfl))) (by decide) (backOf (W := 1) (own_rm1 l Z a0 hw [] b3 p0 p1 p2  h3 n0 Zs3 A3 fc4 fc5 fc6 g_b3) hZ (hw _ (List.mem_of_getElem? (i := 5) rfl)) (hw _ (List.mem_of_getElem? (i := 2) rfl)) (by decide) (by decide)) (g := (mkF m 55 #[.val (.int p0), .val (.int p1), .val (.int p2), .val (.int p3), .val (.int p4), .val (.int (p4 &&& (3 : Int32))), .val (.int (((p4 >>> ((2 : Int32) &&& 31)) &&& (7 : Int32)) - (4 : Int32))), .val (.int (own_QQ p0 p1 p2 p3 p4)), .unset, .unset, .unset] [(.int p2), (.int p1), (.int p0), (.ref b3), (.ref b3)])) rfl (by rw [hml]; rfl) (Steps.refl _) (a := b3) (argsL := [(.int p0), (.int p1), (.int p2)]) (rest := [(.ref b3)]) (lenOf own_pd1 rfl) rfl (by show 2 * 0 + _ ≤ _; exact Nat.le_of_eq rfl) (hb hby at_55) (fun _ _ => ⟨rfl, e3, (by decide : 1 + 0 ≤ _), (by decide : 3 + 0 ≤ _)⟩)
  dsimp only [Pt.U, Pt.locs, Pt.cells, Pt.slots] at X7 lq7 yq7 zq7 st7 hQ7
  subst lq7 yq7 zq7
  obtain ⟨rfl, N7q, h7q, p7_0, p7_1, p7_2⟩ := hQ7
  have N7 := Fr.app N0 N7q
  have fc8 : Exa Z T7.heap b3 "com/example/wushan/wushan/store/TopicConfig" := A3.keep h7q
  have Zs7 : n0 ≤ T7.heap.size := Nat.le_trans Zs3 h7q.1
  refine own_go (T' := T7) (f' := (mkF m 58 #[.val (.int p0), .val (.int p1), .val (.int p2), .val (.int p3), .val (.int p4), .val (.int (p4 &&& (3 : Int32))), .val (.int (((p4 >>> ((2 : Int32) &&& 31)) &&& (7 : Int32)) - (4 : Int32))), .val (.int (own_QQ p0 p1 p2 p3 p4)), .unset, .unset, .unset] [(.ref b3)])) (fun t k => st7.trans k) ?_
  refine own_go (T' := T7) (f' := (mkF m 60 #[.val (.int p0), .val (.int p1), .val (.int p2), .val (.int p3), .val (.int p4), .val (.int (p4 &&& (3 : Int32))), .val (.int (((p4 >>> ((2 : Int32) &&& 31)) &&& (7 : Int32)) - (4 : Int32))), .val (.int (own_QQ p0 p1 p2 p3 p4)), .val (.ref b3), .unset, .unset] [])) (fun t k => ?_) ?_
  · show Steps p.tables e below (T7.setTop (mkF m 58 #[.val (.int p0), .val (.int p1), .val (.int p2), .val (.int p3), .val (.int p4), .val (.int (p4 &&& (3 : Int32))), .val (.int (((p4 >>> ((2 : Int32) &&& 31)) &&& (7 : Int32)) - (4 : Int32))), .val (.int (own_QQ p0 p1 p2 p3 p4)), .unset, .unset, .unset] [(.ref b3)])) _
    refine XS.astore X7.here hx rfl (hb hby at_58) rfl rfl (l' := #[.val (.int p0), .val (.int p1), .val (.int p2), .val (.int p3), .val (.int p4), .val (.int (p4 &&& (3 : Int32))), .val (.int (((p4 >>> ((2 : Int32) &&& 31)) &&& (7 : Int32)) - (4 : Int32))), .val (.int (own_QQ p0 p1 p2 p3 p4)), .val (.ref b3), .unset, .unset]) rfl ?_
    show Steps p.tables e below (T7.setTop (mkF m 60 #[.val (.int p0), .val (.int p1), .val (.int p2), .val (.int p3), .val (.int p4), .val (.int (p4 &&& (3 : Int32))), .val (.int (((p4 >>> ((2 : Int32) &&& 31)) &&& (7 : Int32)) - (4 : Int32))), .val (.int (own_QQ p0 p1 p2 p3 p4)), .val (.ref b3), .unset, .unset] [])) _
    exact k
  obtain ⟨T9, h9, X9, e9, E9, A9, D9, -, st9⟩ := newO X7 hx hZ hown (hw _ (List.mem_of_getElem? (i := 0) rfl)) (hw _ (List.mem_of_getElem? (i := 1) rfl)) (hw _ (List.mem_of_getElem? (i := 2) rfl)) rfl (g := (mkF m 60 #[.val (.int p0), .val (.int p1), .val (.int p2), .val (.int p3), .val (.int p4), .val (.int (p4 &&& (3 : Int32))), .val (.int (((p4 >>> ((2 : Int32) &&& 31)) &&& (7 : Int32)) - (4 : Int32))), .val (.int (own_QQ p0 p1 p2 p3 p4)), .val (.ref b3), .unset, .unset] [])) rfl (hb hby at_60) (by decide) (by decide)
  obtain ⟨b9, g9⟩ : ∃ z, z = T7.heap.size := ⟨_, rfl⟩
  rw [← g9] at A9 D9 st9
  have ne_b3_b9 : b3 ≠ b9 := Nat.ne_of_lt (Nat.lt_of_lt_of_le fc8.lt (Nat.le_of_eq g9.symm))
  have g_b9 : n0 ≤ b9 := Nat.le_trans Zs7 (Nat.le_of_eq g9.symm)
  refine own_go (T' := T9) (f' := (mkF m 63 #[.val (.int p0), .val (.int p1), .val (.int p2), .val (.int p3), .val (.int p4), .val (.int (p4 &&& (3 : Int32))), .val (.int (((p4 >>> ((2 : Int32) &&& 31)) &&& (7 : Int32)) - (4 : Int32))), .val (.int (own_QQ p0 p1 p2 p3 p4)), .val (.ref b3), .unset, .unset] [(.ref b9)])) st9 ?_
  have fc10 : Exa Z h9 b3 "com/example/wushan/wushan/store/TopicConfig" := fc8.ext E9
  have fc11 : Fld Z h9 b3 "com/example/wushan/wushan/store/TopicConfig" "readQueues" "I" (.int p0) := p7_0.ext E9
  have fc12 : Fld Z h9 b3 "com/example/wushan/wushan/store/TopicConfig" "writeQueues" "I" (.int p1) := p7_1.ext E9
  have fc13 : Fld Z h9 b3 "com/example/wushan/wushan/store/TopicConfig" "perm" "I" (.int p2) := p7_2.ext E9
  have Zs9 : n0 ≤ h9.size := Nat.le_trans Zs7 E9.1
  have fc14 : Fld Z h9 b9 "com/example/wushan/wushan/store/TopicConfig" "readQueues" "I" (.int (0 : Int32)) := D9 (Or.inr (hw _ (List.mem_of_getElem? (i := 15) rfl))) (ty := .int) (by decide)
  have fc15 : Fld Z h9 b9 "com/example/wushan/wushan/store/TopicConfig" "writeQueues" "I" (.int (0 : Int32)) := D9 (Or.inr (hw _ (List.mem_of_getElem? (i := 17) rfl))) (ty := .int) (by decide)
  have fc16 : Fld Z h9 b9 "com/example/wushan/wushan/store/TopicConfig" "perm" "I" (.int (0 : Int32)) := D9 (Or.inr (hw _ (List.mem_of_getElem? (i := 19) rfl))) (ty := .int) (by decide)
  refine own_go (T' := T9) (f' := (mkF m 68 #[.val (.int p0), .val (.int p1), .val (.int p2), .val (.int p3), .val (.int p4), .val (.int (p4 &&& (3 : Int32))), .val (.int (((p4 >>> ((2 : Int32) &&& 31)) &&& (7 : Int32)) - (4 : Int32))), .val (.int (own_QQ p0 p1 p2 p3 p4)), .val (.ref b3), .unset, .unset] [(.int p4), (.int p3), (.int p0), (.ref b9), (.ref b9)])) (fun t k => ?_) ?_
  · show Steps p.tables e below (T9.setTop (mkF m 63 #[.val (.int p0), .val (.int p1), .val (.int p2), .val (.int p3), .val (.int p4), .val (.int (p4 &&& (3 : Int32))), .val (.int (((p4 >>> ((2 : Int32) &&& 31)) &&& (7 : Int32)) - (4 : Int32))), .val (.int (own_QQ p0 p1 p2 p3 p4)), .val (.ref b3), .unset, .unset] [(.ref b9)])) _
    refine XS.dup X9.here hx rfl (hb hby at_63) rfl rfl ?_
    show Steps p.tables e below (T9.setTop (mkF m 64 #[.val (.int p0), .val (.int p1), .val (.int p2), .val (.int p3), .val (.int p4), .val (.int (p4 &&& (3 : Int32))), .val (.int (((p4 >>> ((2 : Int32) &&& 31)) &&& (7 : Int32)) - (4 : Int32))), .val (.int (own_QQ p0 p1 p2 p3 p4)), .val (.ref b3), .unset, .unset] [(.ref b9), (.ref b9)])) _
    refine XS.iloadN X9.here hx rfl (hb hby at_64) rfl ?_
    show Steps p.tables e below (T9.setTop (mkF m 65 #[.val (.int p0), .val (.int p1), .val (.int p2), .val (.int p3), .val (.int p4), .val (.int (p4 &&& (3 : Int32))), .val (.int (((p4 >>> ((2 : Int32) &&& 31)) &&& (7 : Int32)) - (4 : Int32))), .val (.int (own_QQ p0 p1 p2 p3 p4)), .val (.ref b3), .unset, .unset] [(.int p0), (.ref b9), (.ref b9)])) _
    refine XS.iloadN X9.here hx rfl (hb hby at_65) rfl ?_
    show Steps p.tables e below (T9.setTop (mkF m 66 #[.val (.int p0), .val (.int p1), .val (.int p2), .val (.int p3), .val (.int p4), .val (.int (p4 &&& (3 : Int32))), .val (.int (((p4 >>> ((2 : Int32) &&& 31)) &&& (7 : Int32)) - (4 : Int32))), .val (.int (own_QQ p0 p1 p2 p3 p4)), .val (.ref b3), .unset, .unset] [(.int p3), (.int p0), (.ref b9), (.ref b9)])) _
    refine XS.iload X9.here hx rfl (hb hby at_66) rfl ?_
    show Steps p.tables e below (T9.setTop (mkF m 68 #[.val (.int p0), .val (.int p1), .val (.int p2), .val (.int p3), .val (.int p4), .val (.int (p4 &&& (3 : Int32))), .val (.int (((p4 >>> ((2 : Int32) &&& 31)) &&& (7 : Int32)) - (4 : Int32))), .val (.int (own_QQ p0 p1 p2 p3 p4)), .val (.ref b3), .unset, .unset] [(.int p4), (.int p3), (.int p0), (.ref b9), (.ref b9)])) _
    exact k
  obtain ⟨_, _, ⟨T17, Lq17, kq17, nq17⟩, -, X17, ⟨Lc17, hQ17, lq17, yq17, zq17⟩, st17⟩ := X9.specialBack hx (y := (⟨"com/example/wushan/wushan/store/TopicConfig", "<init>", "(III)V"⟩ : MethodName)) rfl hown (mvT hZ (hw _ (List.mem_of_getElem? (i := 3) rfl))) (mvT hZ (hw _ (List.mem_of_getElem? (i := 4) rfl))) (mvT hZ (hw _ (List.mem_of_getElem? (i := 5) rfl))) (by decide) (backOf (W := 1) (own_rm1 l Z a0 hw [] b9 p0 p3 p4  h9 n0 Zs9 A9 fc14 fc15 fc16 g_b9) hZ (hw _ (List.mem_of_getElem? (i := 5) rfl)) (hw _ (List.mem_of_getElem? (i := 2) rfl)) (by decide) (by decide)) (g := (mkF m 68 #[.val (.int p0), .val (.int p1), .val (.int p2), .val (.int p3), .val (.int p4), .val (.int (p4 &&& (3 : Int32))), .val (.int (((p4 >>> ((2 : Int32) &&& 31)) &&& (7 : Int32)) - (4 : Int32))), .val (.int (own_QQ p0 p1 p2 p3 p4)), .val (.ref b3), .unset, .unset] [(.int p4), (.int p3), (.int p0), (.ref b9), (.ref b9)])) rfl (by rw [hml]; rfl) (Steps.refl _) (a := b9) (argsL := [(.int p0), (.int p3), (.int p4)]) (rest := [(.ref b9)]) (lenOf own_pd1 rfl) rfl (by show 2 * 0 + _ ≤ _; exact Nat.le_of_eq rfl) (hb hby at_68) (fun _ _ => ⟨rfl, e9, (by decide : 2 + 0 ≤ _), (by decide : 6 + 0 ≤ _)⟩)
  dsimp only [Pt.U, Pt.locs, Pt.cells, Pt.slots] at X17 lq17 yq17 zq17 st17 hQ17
  subst lq17 yq17 zq17
  obtain ⟨rfl, N17q, h17q, p17_0, p17_1, p17_2⟩ := hQ17
  have N17 := Fr.app N7 N17q
  have fc18 : Exa Z T17.heap b3 "com/example/wushan/wushan/store/TopicConfig" := fc10.keep h17q
  have fc19 : Fld Z T17.heap b3 "com/example/wushan/wushan/store/TopicConfig" "readQueues" "I" (.int p0) := fc11.keep h17q (ninS ne_b3_b9 nin0)
  have fc20 : Fld Z T17.heap b3 "com/example/wushan/wushan/store/TopicConfig" "writeQueues" "I" (.int p1) := fc12.keep h17q (ninS ne_b3_b9 nin0)
  have fc21 : Fld Z T17.heap b3 "com/example/wushan/wushan/store/TopicConfig" "perm" "I" (.int p2) := fc13.keep h17q (ninS ne_b3_b9 nin0)
  have fc22 : Exa Z T17.heap b9 "com/example/wushan/wushan/store/TopicConfig" := A9.keep h17q
  have Zs17 : n0 ≤ T17.heap.size := Nat.le_trans Zs9 h17q.1
  refine own_go (T' := T17) (f' := (mkF m 71 #[.val (.int p0), .val (.int p1), .val (.int p2), .val (.int p3), .val (.int p4), .val (.int (p4 &&& (3 : Int32))), .val (.int (((p4 >>> ((2 : Int32) &&& 31)) &&& (7 : Int32)) - (4 : Int32))), .val (.int (own_QQ p0 p1 p2 p3 p4)), .val (.ref b3), .unset, .unset] [(.ref b9)])) (fun t k => st17.trans k) ?_
  refine own_go (T' := T17) (f' := (mkF m 84 #[.val (.int p0), .val (.int p1), .val (.int p2), .val (.int p3), .val (.int p4), .val (.int (p4 &&& (3 : Int32))), .val (.int (((p4 >>> ((2 : Int32) &&& 31)) &&& (7 : Int32)) - (4 : Int32))), .val (.int (own_QQ p0 p1 p2 p3 p4)), .val (.ref b3), .val (.ref b9), .unset] [(.long (((p0.toInt64) - (1 : Int64)) - ((own_QQ p0 p1 p2 p3 p4).toInt64))), (.long ((own_QQ p0 p1 p2 p3 p4).toInt64))])) (fun t k => ?_) ?_
  · show Steps p.tables e below (T17.setTop (mkF m 71 #[.val (.int p0), .val (.int p1), .val (.int p2), .val (.int p3), .val (.int p4), .val (.int (p4 &&& (3 : Int32))), .val (.int (((p4 >>> ((2 : Int32) &&& 31)) &&& (7 : Int32)) - (4 : Int32))), .val (.int (own_QQ p0 p1 p2 p3 p4)), .val (.ref b3), .unset, .unset] [(.ref b9)])) _
    refine XS.astore X17.here hx rfl (hb hby at_71) rfl rfl (l' := #[.val (.int p0), .val (.int p1), .val (.int p2), .val (.int p3), .val (.int p4), .val (.int (p4 &&& (3 : Int32))), .val (.int (((p4 >>> ((2 : Int32) &&& 31)) &&& (7 : Int32)) - (4 : Int32))), .val (.int (own_QQ p0 p1 p2 p3 p4)), .val (.ref b3), .val (.ref b9), .unset]) rfl ?_
    show Steps p.tables e below (T17.setTop (mkF m 73 #[.val (.int p0), .val (.int p1), .val (.int p2), .val (.int p3), .val (.int p4), .val (.int (p4 &&& (3 : Int32))), .val (.int (((p4 >>> ((2 : Int32) &&& 31)) &&& (7 : Int32)) - (4 : Int32))), .val (.int (own_QQ p0 p1 p2 p3 p4)), .val (.ref b3), .val (.ref b9), .unset] [])) _
    refine XS.iload X17.here hx rfl (hb hby at_73) rfl ?_
    show Steps p.tables e below (T17.setTop (mkF m 75 #[.val (.int p0), .val (.int p1), .val (.int p2), .val (.int p3), .val (.int p4), .val (.int (p4 &&& (3 : Int32))), .val (.int (((p4 >>> ((2 : Int32) &&& 31)) &&& (7 : Int32)) - (4 : Int32))), .val (.int (own_QQ p0 p1 p2 p3 p4)), .val (.ref b3), .val (.ref b9), .unset] [(.int (own_QQ p0 p1 p2 p3 p4))])) _
    refine XS.i2l X17.here hx rfl (hb hby at_75) rfl ?_
    show Steps p.tables e below (T17.setTop (mkF m 76 #[.val (.int p0), .val (.int p1), .val (.int p2), .val (.int p3), .val (.int p4), .val (.int (p4 &&& (3 : Int32))), .val (.int (((p4 >>> ((2 : Int32) &&& 31)) &&& (7 : Int32)) - (4 : Int32))), .val (.int (own_QQ p0 p1 p2 p3 p4)), .val (.ref b3), .val (.ref b9), .unset] [(.long ((own_QQ p0 p1 p2 p3 p4).toInt64))])) _
    refine XS.iloadN X17.here hx rfl (hb hby at_76) rfl ?_
    show Steps p.tables e below (T17.setTop (mkF m 77 #[.val (.int p0), .val (.int p1), .val (.int p2), .val (.int p3), .val (.int p4), .val (.int (p4 &&& (3 : Int32))), .val (.int (((p4 >>> ((2 : Int32) &&& 31)) &&& (7 : Int32)) - (4 : Int32))), .val (.int (own_QQ p0 p1 p2 p3 p4)), .val (.ref b3), .val (.ref b9), .unset] [(.int p0), (.long ((own_QQ p0 p1 p2 p3 p4).toInt64))])) _
    refine XS.i2l X17.here hx rfl (hb hby at_77) rfl ?_
    show Steps p.tables e below (T17.setTop (mkF m 78 #[.val (.int p0), .val (.int p1), .val (.int p2), .val (.int p3), .val (.int p4), .val (.int (p4 &&& (3 : Int32))), .val (.int (((p4 >>> ((2 : Int32) &&& 31)) &&& (7 : Int32)) - (4 : Int32))), .val (.int (own_QQ p0 p1 p2 p3 p4)), .val (.ref b3), .val (.ref b9), .unset] [(.long (p0.toInt64)), (.long ((own_QQ p0 p1 p2 p3 p4).toInt64))])) _
    refine XS.lconst X17.here hx rfl (hb hby at_78) ?_
    show Steps p.tables e below (T17.setTop (mkF m 79 #[.val (.int p0), .val (.int p1), .val (.int p2), .val (.int p3), .val (.int p4), .val (.int (p4 &&& (3 : Int32))), .val (.int (((p4 >>> ((2 : Int32) &&& 31)) &&& (7 : Int32)) - (4 : Int32))), .val (.int (own_QQ p0 p1 p2 p3 p4)), .val (.ref b3), .val (.ref b9), .unset] [(.long (1 : Int64)), (.long (p0.toInt64)), (.long ((own_QQ p0 p1 p2 p3 p4).toInt64))])) _
    refine XS.lsub X17.here hx rfl (hb hby at_79) rfl ?_
    show Steps p.tables e below (T17.setTop (mkF m 80 #[.val (.int p0), .val (.int p1), .val (.int p2), .val (.int p3), .val (.int p4), .val (.int (p4 &&& (3 : Int32))), .val (.int (((p4 >>> ((2 : Int32) &&& 31)) &&& (7 : Int32)) - (4 : Int32))), .val (.int (own_QQ p0 p1 p2 p3 p4)), .val (.ref b3), .val (.ref b9), .unset] [(.long ((p0.toInt64) - (1 : Int64))), (.long ((own_QQ p0 p1 p2 p3 p4).toInt64))])) _
    refine XS.iload X17.here hx rfl (hb hby at_80) rfl ?_
    show Steps p.tables e below (T17.setTop (mkF m 82 #[.val (.int p0), .val (.int p1), .val (.int p2), .val (.int p3), .val (.int p4), .val (.int (p4 &&& (3 : Int32))), .val (.int (((p4 >>> ((2 : Int32) &&& 31)) &&& (7 : Int32)) - (4 : Int32))), .val (.int (own_QQ p0 p1 p2 p3 p4)), .val (.ref b3), .val (.ref b9), .unset] [(.int (own_QQ p0 p1 p2 p3 p4)), (.long ((p0.toInt64) - (1 : Int64))), (.long ((own_QQ p0 p1 p2 p3 p4).toInt64))])) _
    refine XS.i2l X17.here hx rfl (hb hby at_82) rfl ?_
    show Steps p.tables e below (T17.setTop (mkF m 83 #[.val (.int p0), .val (.int p1), .val (.int p2), .val (.int p3), .val (.int p4), .val (.int (p4 &&& (3 : Int32))), .val (.int (((p4 >>> ((2 : Int32) &&& 31)) &&& (7 : Int32)) - (4 : Int32))), .val (.int (own_QQ p0 p1 p2 p3 p4)), .val (.ref b3), .val (.ref b9), .unset] [(.long ((own_QQ p0 p1 p2 p3 p4).toInt64)), (.long ((p0.toInt64) - (1 : Int64))), (.long ((own_QQ p0 p1 p2 p3 p4).toInt64))])) _
    refine XS.lsub X17.here hx rfl (hb hby at_83) rfl ?_
    show Steps p.tables e below (T17.setTop (mkF m 84 #[.val (.int p0), .val (.int p1), .val (.int p2), .val (.int p3), .val (.int p4), .val (.int (p4 &&& (3 : Int32))), .val (.int (((p4 >>> ((2 : Int32) &&& 31)) &&& (7 : Int32)) - (4 : Int32))), .val (.int (own_QQ p0 p1 p2 p3 p4)), .val (.ref b3), .val (.ref b9), .unset] [(.long (((p0.toInt64) - (1 : Int64)) - ((own_QQ p0 p1 p2 p3 p4).toInt64))), (.long ((own_QQ p0 p1 p2 p3 p4).toInt64))])) _
    exact k
  obtain ⟨_, _, ⟨T23, Lq23, kq23, nq23⟩, -, X23, ⟨Lc23, hQ23, lq23, yq23, zq23⟩, st23⟩ := Jvm.LawKit.callS X17 hx (y := (⟨"java/lang/Math", "min", "(JJ)J"⟩ : MethodName)) hown (mvT hZ (hw _ (List.mem_of_getElem? (i := 20) rfl))) (mvT hZ (hw _ (List.mem_of_getElem? (i := 21) rfl))) (mvT hZ (hw _ (List.mem_of_getElem? (i := 22) rfl))) (mvT hZ (hw _ (List.mem_of_getElem? (i := 23) rfl))) (by decide) (backOf (W := 0) (own_rm2 l Z a0 hw [] (((own_QQ p0 p1 p2 p3 p4).toInt64)) ((((p0.toInt64) - (1 : Int64)) - ((own_QQ p0 p1 p2 p3 p4).toInt64)))  T17.heap n0 Zs17 ) hZ (hw _ (List.mem_of_getElem? (i := 23) rfl)) (hw _ (List.mem_of_getElem? (i := 22) rfl)) (by decide) (by decide)) (g := (mkF m 84 #[.val (.int p0), .val (.int p1), .val (.int p2), .val (.int p3), .val (.int p4), .val (.int (p4 &&& (3 : Int32))), .val (.int (((p4 >>> ((2 : Int32) &&& 31)) &&& (7 : Int32)) - (4 : Int32))), .val (.int (own_QQ p0 p1 p2 p3 p4)), .val (.ref b3), .val (.ref b9), .unset] [(.long (((p0.toInt64) - (1 : Int64)) - ((own_QQ p0 p1 p2 p3 p4).toInt64))), (.long ((own_QQ p0 p1 p2 p3 p4).toInt64))])) rfl (by rw [hml]; rfl) (argsL := [(.long ((own_QQ p0 p1 p2 p3 p4).toInt64)), (.long (((p0.toInt64) - (1 : Int64)) - ((own_QQ p0 p1 p2 p3 p4).toInt64)))]) (rest := []) (lenOf own_pd2 rfl) rfl (by show 2 * 0 + _ ≤ _; exact Nat.le_of_eq rfl) (hb hby at_84) (fun _ _ => ⟨rfl, rfl, (by decide : 2 + 0 ≤ _), (by decide : 6 + 0 ≤ _)⟩)
  dsimp only [Pt.U, Pt.locs, Pt.cells, Pt.slots] at X23 lq23 yq23 zq23 st23 hQ23
  subst lq23 yq23 zq23
  obtain ⟨rfl, N23q, h23q⟩ := hQ23
  have N23 := Fr.app N17 N23q
  refine own_go (T' := T23) (f' := (mkF m 87 #[.val (.int p0), .val (.int p1), .val (.int p2), .val (.int p3), .val (.int p4), .val (.int (p4 &&& (3 : Int32))), .val (.int (((p4 >>> ((2 : Int32) &&& 31)) &&& (7 : Int32)) - (4 : Int32))), .val (.int (own_QQ p0 p1 p2 p3 p4)), .val (.ref b3), .val (.ref b9), .unset] [(.long (own_F2 ((own_QQ p0 p1 p2 p3 p4).toInt64) (((p0.toInt64) - (1 : Int64)) - ((own_QQ p0 p1 p2 p3 p4).toInt64))))])) (fun t k => st23 _ k) ?_
  refine own_go (T' := T23) (f' := (mkF m 89 #[.val (.int p0), .val (.int p1), .val (.int p2), .val (.int p3), .val (.int p4), .val (.int (p4 &&& (3 : Int32))), .val (.int (((p4 >>> ((2 : Int32) &&& 31)) &&& (7 : Int32)) - (4 : Int32))), .val (.int (own_QQ p0 p1 p2 p3 p4)), .val (.ref b3), .val (.ref b9), .unset] [(.int (lcmpW (own_F2 ((own_QQ p0 p1 p2 p3 p4).toInt64) (((p0.toInt64) - (1 : Int64)) - ((own_QQ p0 p1 p2 p3 p4).toInt64))) (0 : Int64)))])) (fun t k => ?_) ?_
  · show Steps p.tables e below (T23.setTop (mkF m 87 #[.val (.int p0), .val (.int p1), .val (.int p2), .val (.int p3), .val (.int p4), .val (.int (p4 &&& (3 : Int32))), .val (.int (((p4 >>> ((2 : Int32) &&& 31)) &&& (7 : Int32)) - (4 : Int32))), .val (.int (own_QQ p0 p1 p2 p3 p4)), .val (.ref b3), .val (.ref b9), .unset] [(.long (own_F2 ((own_QQ p0 p1 p2 p3 p4).toInt64) (((p0.toInt64) - (1 : Int64)) - ((own_QQ p0 p1 p2 p3 p4).toInt64))))])) _
    refine XS.lconst X23.here hx rfl (hb hby at_87) ?_
    show Steps p.tables e below (T23.setTop (mkF m 88 #[.val (.int p0), .val (.int p1), .val (.int p2), .val (.int p3), .val (.int p4), .val (.int (p4 &&& (3 : Int32))), .val (.int (((p4 >>> ((2 : Int32) &&& 31)) &&& (7 : Int32)) - (4 : Int32))), .val (.int (own_QQ p0 p1 p2 p3 p4)), .val (.ref b3), .val (.ref b9), .unset] [(.long (0 : Int64)), (.long (own_F2 ((own_QQ p0 p1 p2 p3 p4).toInt64) (((p0.toInt64) - (1 : Int64)) - ((own_QQ p0 p1 p2 p3 p4).toInt64))))])) _
    refine XS.lcmp X23.here hx rfl (hb hby at_88) rfl ?_
    show Steps p.tables e below (T23.setTop (mkF m 89 #[.val (.int p0), .val (.int p1), .val (.int p2), .val (.int p3), .val (.int p4), .val (.int (p4 &&& (3 : Int32))), .val (.int (((p4 >>> ((2 : Int32) &&& 31)) &&& (7 : Int32)) - (4 : Int32))), .val (.int (own_QQ p0 p1 p2 p3 p4)), .val (.ref b3), .val (.ref b9), .unset] [(.int (lcmpW (own_F2 ((own_QQ p0 p1 p2 p3 p4).toInt64) (((p0.toInt64) - (1 : Int64)) - ((own_QQ p0 p1 p2 p3 p4).toInt64))) (0 : Int64)))])) _
    exact k
  refine own_go (T' := T23) (f' := (mkF m 97 #[.val (.int p0), .val (.int p1), .val (.int p2), .val (.int p3), .val (.int p4), .val (.int (p4 &&& (3 : Int32))), .val (.int (((p4 >>> ((2 : Int32) &&& 31)) &&& (7 : Int32)) - (4 : Int32))), .val (.int (own_QQ p0 p1 p2 p3 p4)), .val (.ref b3), .val (.ref b9), .unset] [(.int (if (own_F2 ((own_QQ p0 p1 p2 p3 p4).toInt64) (((p0.toInt64) - (1 : Int64)) - ((own_QQ p0 p1 p2 p3 p4).toInt64))) < (0 : Int64) then (0 : Int32) else (1 : Int32)))])) (fun t k => ?_) ?_
  · show Steps p.tables e below (T23.setTop (mkF m 89 #[.val (.int p0), .val (.int p1), .val (.int p2), .val (.int p3), .val (.int p4), .val (.int (p4 &&& (3 : Int32))), .val (.int (((p4 >>> ((2 : Int32) &&& 31)) &&& (7 : Int32)) - (4 : Int32))), .val (.int (own_QQ p0 p1 p2 p3 p4)), .val (.ref b3), .val (.ref b9), .unset] [(.int (lcmpW (own_F2 ((own_QQ p0 p1 p2 p3 p4).toInt64) (((p0.toInt64) - (1 : Int64)) - ((own_QQ p0 p1 p2 p3 p4).toInt64))) (0 : Int64)))])) _
    by_cases hc89_24 : (own_F2 ((own_QQ p0 p1 p2 p3 p4).toInt64) (((p0.toInt64) - (1 : Int64)) - ((own_QQ p0 p1 p2 p3 p4).toInt64))) < (0 : Int64)
    · skip
      refine XS.ifYes X23.here hx rfl (pc0 := 89) (pc' := 96) rfl (hb hby at_89) rfl ((if0 _ _).trans (tlt ((lw_lt (own_F2 ((own_QQ p0 p1 p2 p3 p4).toInt64) (((p0.toInt64) - (1 : Int64)) - ((own_QQ p0 p1 p2 p3 p4).toInt64))) (0 : Int64)).mpr hc89_24)).1) (by decide) (by decide) ?_
      show Steps p.tables e below (T23.setTop (mkF m 96 #[.val (.int p0), .val (.int p1), .val (.int p2), .val (.int p3), .val (.int p4), .val (.int (p4 &&& (3 : Int32))), .val (.int (((p4 >>> ((2 : Int32) &&& 31)) &&& (7 : Int32)) - (4 : Int32))), .val (.int (own_QQ p0 p1 p2 p3 p4)), .val (.ref b3), .val (.ref b9), .unset] [])) _
      refine XS.iconst X23.here hx rfl (hb hby at_96) ?_
      show Steps p.tables e below (T23.setTop (mkF m 97 #[.val (.int p0), .val (.int p1), .val (.int p2), .val (.int p3), .val (.int p4), .val (.int (p4 &&& (3 : Int32))), .val (.int (((p4 >>> ((2 : Int32) &&& 31)) &&& (7 : Int32)) - (4 : Int32))), .val (.int (own_QQ p0 p1 p2 p3 p4)), .val (.ref b3), .val (.ref b9), .unset] [(.int (0 : Int32))])) _
      simp only [if_pos hc89_24] at k
      exact k
    · skip
      refine XS.ifNo X23.here hx rfl (hb hby at_89) rfl ((if0 _ _).trans (flt (fun q => hc89_24 ((lw_lt (own_F2 ((own_QQ p0 p1 p2 p3 p4).toInt64) (((p0.toInt64) - (1 : Int64)) - ((own_QQ p0 p1 p2 p3 p4).toInt64))) (0 : Int64)).mp q))).1) ?_
      show Steps p.tables e below (T23.setTop (mkF m 92 #[.val (.int p0), .val (.int p1), .val (.int p2), .val (.int p3), .val (.int p4), .val (.int (p4 &&& (3 : Int32))), .val (.int (((p4 >>> ((2 : Int32) &&& 31)) &&& (7 : Int32)) - (4 : Int32))), .val (.int (own_QQ p0 p1 p2 p3 p4)), .val (.ref b3), .val (.ref b9), .unset] [])) _
      refine XS.iconst X23.here hx rfl (hb hby at_92) ?_
      show Steps p.tables e below (T23.setTop (mkF m 93 #[.val (.int p0), .val (.int p1), .val (.int p2), .val (.int p3), .val (.int p4), .val (.int (p4 &&& (3 : Int32))), .val (.int (((p4 >>> ((2 : Int32) &&& 31)) &&& (7 : Int32)) - (4 : Int32))), .val (.int (own_QQ p0 p1 p2 p3 p4)), .val (.ref b3), .val (.ref b9), .unset] [(.int (1 : Int32))])) _
      refine XS.goto X23.here hx rfl (pc0 := 93) (pc' := 97) rfl (hb hby at_93) (by decide) (by decide) ?_
      show Steps p.tables e below (T23.setTop (mkF m 97 #[.val (.int p0), .val (.int p1), .val (.int p2), .val (.int p3), .val (.int p4), .val (.int (p4 &&& (3 : Int32))), .val (.int (((p4 >>> ((2 : Int32) &&& 31)) &&& (7 : Int32)) - (4 : Int32))), .val (.int (own_QQ p0 p1 p2 p3 p4)), .val (.ref b3), .val (.ref b9), .unset] [(.int (1 : Int32))])) _
      simp only [if_neg hc89_24] at k
      exact k
  refine own_go (T' := T23) (f' := (mkF m 97 #[.val (.int p0), .val (.int p1), .val (.int p2), .val (.int p3), .val (.int p4), .val (.int (p4 &&& (3 : Int32))), .val (.int (((p4 >>> ((2 : Int32) &&& 31)) &&& (7 : Int32)) - (4 : Int32))), .val (.int (own_QQ p0 p1 p2 p3 p4)), .val (.ref b3), .val (.ref b9), .unset] [(.int (own_EX p0 p1 p2 p3 p4))])) (fun t k => k) ?_
  refine own_go (T' := T23) (f' := (mkF m 103 #[.val (.int p0), .val (.int p1), .val (.int p2), .val (.int p3), .val (.int p4), .val (.int (p4 &&& (3 : Int32))), .val (.int (((p4 >>> ((2 : Int32) &&& 31)) &&& (7 : Int32)) - (4 : Int32))), .val (.int (own_QQ p0 p1 p2 p3 p4)), .val (.ref b3), .val (.ref b9), .val (.int (own_EX p0 p1 p2 p3 p4))] [(.int (own_QQ p0 p1 p2 p3 p4)), (.ref b3)])) (fun t k => ?_) ?_
  · show Steps p.tables e below (T23.setTop (mkF m 97 #[.val (.int p0), .val (.int p1), .val (.int p2), .val (.int p3), .val (.int p4), .val (.int (p4 &&& (3 : Int32))), .val (.int (((p4 >>> ((2 : Int32) &&& 31)) &&& (7 : Int32)) - (4 : Int32))), .val (.int (own_QQ p0 p1 p2 p3 p4)), .val (.ref b3), .val (.ref b9), .unset] [(.int (own_EX p0 p1 p2 p3 p4))])) _
    refine XS.istore X23.here hx rfl (hb hby at_97) rfl (l' := #[.val (.int p0), .val (.int p1), .val (.int p2), .val (.int p3), .val (.int p4), .val (.int (p4 &&& (3 : Int32))), .val (.int (((p4 >>> ((2 : Int32) &&& 31)) &&& (7 : Int32)) - (4 : Int32))), .val (.int (own_QQ p0 p1 p2 p3 p4)), .val (.ref b3), .val (.ref b9), .val (.int (own_EX p0 p1 p2 p3 p4))]) rfl ?_
    show Steps p.tables e below (T23.setTop (mkF m 99 #[.val (.int p0), .val (.int p1), .val (.int p2), .val (.int p3), .val (.int p4), .val (.int (p4 &&& (3 : Int32))), .val (.int (((p4 >>> ((2 : Int32) &&& 31)) &&& (7 : Int32)) - (4 : Int32))), .val (.int (own_QQ p0 p1 p2 p3 p4)), .val (.ref b3), .val (.ref b9), .val (.int (own_EX p0 p1 p2 p3 p4))] [])) _
    refine XS.aload X23.here hx rfl (hb hby at_99) rfl rfl ?_
    show Steps p.tables e below (T23.setTop (mkF m 101 #[.val (.int p0), .val (.int p1), .val (.int p2), .val (.int p3), .val (.int p4), .val (.int (p4 &&& (3 : Int32))), .val (.int (((p4 >>> ((2 : Int32) &&& 31)) &&& (7 : Int32)) - (4 : Int32))), .val (.int (own_QQ p0 p1 p2 p3 p4)), .val (.ref b3), .val (.ref b9), .val (.int (own_EX p0 p1 p2 p3 p4))] [(.ref b3)])) _
    refine XS.iload X23.here hx rfl (hb hby at_101) rfl ?_
    show Steps p.tables e below (T23.setTop (mkF m 103 #[.val (.int p0), .val (.int p1), .val (.int p2), .val (.int p3), .val (.int p4), .val (.int (p4 &&& (3 : Int32))), .val (.int (((p4 >>> ((2 : Int32) &&& 31)) &&& (7 : Int32)) - (4 : Int32))), .val (.int (own_QQ p0 p1 p2 p3 p4)), .val (.ref b3), .val (.ref b9), .val (.int (own_EX p0 p1 p2 p3 p4))] [(.int (own_QQ p0 p1 p2 p3 p4)), (.ref b3)])) _
    exact k
  obtain ⟨cq25, kq25, q25a, q25b, q25c⟩ := isOf hZ h23q fc18
  obtain ⟨_, _, ⟨T25, Lq25, kq25, nq25⟩, -, X25, ⟨Lc25, hQ25, lq25, yq25, zq25⟩, st25⟩ := X23.virtualBack hx (y := (⟨"com/example/wushan/wushan/store/TopicConfig", "reads", "(I)Z"⟩ : MethodName)) (z := (⟨"com/example/wushan/wushan/store/TopicConfig", "reads", "(I)Z"⟩ : MethodName)) hown (mvT hZ (hw _ (List.mem_of_getElem? (i := 24) rfl))) (mvT hZ (hw _ (List.mem_of_getElem? (i := 25) rfl))) (notFace_of_selects (args := #[]) (mvT hZ (hw _ (List.mem_of_getElem? (i := 27) rfl)))) (mvT hZ (hw _ (List.mem_of_getElem? (i := 27) rfl))) (mvT hZ (hw _ (List.mem_of_getElem? (i := 26) rfl))) (by decide) (backOf (W := 0) (own_rm3 l Z a0 hw [] b3 ((own_QQ p0 p1 p2 p3 p4)) p0 T17.heap n0 Zs17 fc19) hZ (hw _ (List.mem_of_getElem? (i := 28) rfl)) (hw _ (List.mem_of_getElem? (i := 2) rfl)) (by decide) (by decide)) q25a q25c (g := (mkF m 103 #[.val (.int p0), .val (.int p1), .val (.int p2), .val (.int p3), .val (.int p4), .val (.int (p4 &&& (3 : Int32))), .val (.int (((p4 >>> ((2 : Int32) &&& 31)) &&& (7 : Int32)) - (4 : Int32))), .val (.int (own_QQ p0 p1 p2 p3 p4)), .val (.ref b3), .val (.ref b9), .val (.int (own_EX p0 p1 p2 p3 p4))] [(.int (own_QQ p0 p1 p2 p3 p4)), (.ref b3)])) rfl (by rw [hml]; rfl) (Steps.refl _) (argsL := [(.int (own_QQ p0 p1 p2 p3 p4))]) (rest := []) (lenOf own_pd3 rfl) rfl (by show 2 * 0 + _ ≤ _; exact Nat.le_of_eq rfl) (hb hby at_103) (fun _ _ => ⟨rfl, h23q, (by decide : 2 + 0 ≤ _), (by decide : 6 + 0 ≤ _)⟩)
  dsimp only [Pt.U, Pt.locs, Pt.cells, Pt.slots] at X25 lq25 yq25 zq25 st25 hQ25
  subst lq25 yq25 zq25
  obtain ⟨rfl, N25q, h25q⟩ := hQ25
  have N25 := Fr.app N23 N25q
  refine own_go (T' := T25) (f' := (mkF m 106 #[.val (.int p0), .val (.int p1), .val (.int p2), .val (.int p3), .val (.int p4), .val (.int (p4 &&& (3 : Int32))), .val (.int (((p4 >>> ((2 : Int32) &&& 31)) &&& (7 : Int32)) - (4 : Int32))), .val (.int (own_QQ p0 p1 p2 p3 p4)), .val (.ref b3), .val (.ref b9), .val (.int (own_EX p0 p1 p2 p3 p4))] [(.int (own_F3 (own_QQ p0 p1 p2 p3 p4) p0))])) (fun t k => st25.trans k) ?_
  refine own_go (T' := T25) (f' := (mkF m 108 #[.val (.int p0), .val (.int p1), .val (.int p2), .val (.int p3), .val (.int p4), .val (.int (p4 &&& (3 : Int32))), .val (.int (((p4 >>> ((2 : Int32) &&& 31)) &&& (7 : Int32)) - (4 : Int32))), .val (.int (own_QQ p0 p1 p2 p3 p4)), .val (.ref b3), .val (.ref b9), .val (.int (own_EX p0 p1 p2 p3 p4))] [(.int (own_EX p0 p1 p2 p3 p4)), (.int (own_F3 (own_QQ p0 p1 p2 p3 p4) p0))])) (fun t k => ?_) ?_
  · show Steps p.tables e below (T25.setTop (mkF m 106 #[.val (.int p0), .val (.int p1), .val (.int p2), .val (.int p3), .val (.int p4), .val (.int (p4 &&& (3 : Int32))), .val (.int (((p4 >>> ((2 : Int32) &&& 31)) &&& (7 : Int32)) - (4 : Int32))), .val (.int (own_QQ p0 p1 p2 p3 p4)), .val (.ref b3), .val (.ref b9), .val (.int (own_EX p0 p1 p2 p3 p4))] [(.int (own_F3 (own_QQ p0 p1 p2 p3 p4) p0))])) _
    refine XS.iload X25.here hx rfl (hb hby at_106) rfl ?_
    show Steps p.tables e below (T25.setTop (mkF m 108 #[.val (.int p0), .val (.int p1), .val (.int p2), .val (.int p3), .val (.int p4), .val (.int (p4 &&& (3 : Int32))), .val (.int (((p4 >>> ((2 : Int32) &&& 31)) &&& (7 : Int32)) - (4 : Int32))), .val (.int (own_QQ p0 p1 p2 p3 p4)), .val (.ref b3), .val (.ref b9), .val (.int (own_EX p0 p1 p2 p3 p4))] [(.int (own_EX p0 p1 p2 p3 p4)), (.int (own_F3 (own_QQ p0 p1 p2 p3 p4) p0))])) _
    exact k
  by_cases hc108_26 : (own_F3 (own_QQ p0 p1 p2 p3 p4) p0) = (own_EX p0 p1 p2 p3 p4)
  · skip
    refine own_go (T' := T25) (f' := (mkF m 115 #[.val (.int p0), .val (.int p1), .val (.int p2), .val (.int p3), .val (.int p4), .val (.int (p4 &&& (3 : Int32))), .val (.int (((p4 >>> ((2 : Int32) &&& 31)) &&& (7 : Int32)) - (4 : Int32))), .val (.int (own_QQ p0 p1 p2 p3 p4)), .val (.ref b3), .val (.ref b9), .val (.int (own_EX p0 p1 p2 p3 p4))] [(.int (own_QQ p0 p1 p2 p3 p4)), (.ref b9)])) (fun t k => ?_) ?_
    · show Steps p.tables e below (T25.setTop (mkF m 108 #[.val (.int p0), .val (.int p1), .val (.int p2), .val (.int p3), .val (.int p4), .val (.int (p4 &&& (3 : Int32))), .val (.int (((p4 >>> ((2 : Int32) &&& 31)) &&& (7 : Int32)) - (4 : Int32))), .val (.int (own_QQ p0 p1 p2 p3 p4)), .val (.ref b3), .val (.ref b9), .val (.int (own_EX p0 p1 p2 p3 p4))] [(.int (own_EX p0 p1 p2 p3 p4)), (.int (own_F3 (own_QQ p0 p1 p2 p3 p4) p0))])) _
      refine XS.icmpNo X25.here hx rfl (hb hby at_108) rfl (teq hc108_26).2 ?_
      show Steps p.tables e below (T25.setTop (mkF m 111 #[.val (.int p0), .val (.int p1), .val (.int p2), .val (.int p3), .val (.int p4), .val (.int (p4 &&& (3 : Int32))), .val (.int (((p4 >>> ((2 : Int32) &&& 31)) &&& (7 : Int32)) - (4 : Int32))), .val (.int (own_QQ p0 p1 p2 p3 p4)), .val (.ref b3), .val (.ref b9), .val (.int (own_EX p0 p1 p2 p3 p4))] [])) _
      refine XS.aload X25.here hx rfl (hb hby at_111) rfl rfl ?_
      show Steps p.tables e below (T25.setTop (mkF m 113 #[.val (.int p0), .val (.int p1), .val (.int p2), .val (.int p3), .val (.int p4), .val (.int (p4 &&& (3 : Int32))), .val (.int (((p4 >>> ((2 : Int32) &&& 31)) &&& (7 : Int32)) - (4 : Int32))), .val (.int (own_QQ p0 p1 p2 p3 p4)), .val (.ref b3), .val (.ref b9), .val (.int (own_EX p0 p1 p2 p3 p4))] [(.ref b9)])) _
      refine XS.iload X25.here hx rfl (hb hby at_113) rfl ?_
      show Steps p.tables e below (T25.setTop (mkF m 115 #[.val (.int p0), .val (.int p1), .val (.int p2), .val (.int p3), .val (.int p4), .val (.int (p4 &&& (3 : Int32))), .val (.int (((p4 >>> ((2 : Int32) &&& 31)) &&& (7 : Int32)) - (4 : Int32))), .val (.int (own_QQ p0 p1 p2 p3 p4)), .val (.ref b3), .val (.ref b9), .val (.int (own_EX p0 p1 p2 p3 p4))] [(.int (own_QQ p0 p1 p2 p3 p4)), (.ref b9)])) _
      exact k
    obtain ⟨cq27, kq27, q27a, q27b, q27c⟩ := isOf hZ h25q fc22
    obtain ⟨_, _, ⟨T27, Lq27, kq27, nq27⟩, -, X27, ⟨Lc27, hQ27, lq27, yq27, zq27⟩, st27⟩ := X25.virtualBack hx (y := (⟨"com/example/wushan/wushan/store/TopicConfig", "reads", "(I)Z"⟩ : MethodName)) (z := (⟨"com/example/wushan/wushan/store/TopicConfig", "reads", "(I)Z"⟩ : MethodName)) hown (mvT hZ (hw _ (List.mem_of_getElem? (i := 24) rfl))) (mvT hZ (hw _ (List.mem_of_getElem? (i := 25) rfl))) (notFace_of_selects (args := #[]) (mvT hZ (hw _ (List.mem_of_getElem? (i := 27) rfl)))) (mvT hZ (hw _ (List.mem_of_getElem? (i := 27) rfl))) (mvT hZ (hw _ (List.mem_of_getElem? (i := 26) rfl))) (by decide) (backOf (W := 0) (own_rm3 l Z a0 hw [] b9 ((own_QQ p0 p1 p2 p3 p4)) p0 T17.heap n0 Zs17 p17_0) hZ (hw _ (List.mem_of_getElem? (i := 28) rfl)) (hw _ (List.mem_of_getElem? (i := 2) rfl)) (by decide) (by decide)) q27a q27c (g := (mkF m 115 #[.val (.int p0), .val (.int p1), .val (.int p2), .val (.int p3), .val (.int p4), .val (.int (p4 &&& (3 : Int32))), .val (.int (((p4 >>> ((2 : Int32) &&& 31)) &&& (7 : Int32)) - (4 : Int32))), .val (.int (own_QQ p0 p1 p2 p3 p4)), .val (.ref b3), .val (.ref b9), .val (.int (own_EX p0 p1 p2 p3 p4))] [(.int (own_QQ p0 p1 p2 p3 p4)), (.ref b9)])) rfl (by rw [hml]; rfl) (Steps.refl _) (argsL := [(.int (own_QQ p0 p1 p2 p3 p4))]) (rest := []) (lenOf own_pd3 rfl) rfl (by show 2 * 0 + _ ≤ _; exact Nat.le_of_eq rfl) (hb hby at_115) (fun _ _ => ⟨rfl, h25q, (by decide : 2 + 0 ≤ _), (by decide : 6 + 0 ≤ _)⟩)
    dsimp only [Pt.U, Pt.locs, Pt.cells, Pt.slots] at X27 lq27 yq27 zq27 st27 hQ27
    subst lq27 yq27 zq27
    obtain ⟨rfl, N27q, h27q⟩ := hQ27
    have N27 := Fr.app N25 N27q
    refine own_go (T' := T27) (f' := (mkF m 118 #[.val (.int p0), .val (.int p1), .val (.int p2), .val (.int p3), .val (.int p4), .val (.int (p4 &&& (3 : Int32))), .val (.int (((p4 >>> ((2 : Int32) &&& 31)) &&& (7 : Int32)) - (4 : Int32))), .val (.int (own_QQ p0 p1 p2 p3 p4)), .val (.ref b3), .val (.ref b9), .val (.int (own_EX p0 p1 p2 p3 p4))] [(.int (own_F3 (own_QQ p0 p1 p2 p3 p4) p0))])) (fun t k => st27.trans k) ?_
    refine own_go (T' := T27) (f' := (mkF m 128 #[.val (.int p0), .val (.int p1), .val (.int p2), .val (.int p3), .val (.int p4), .val (.int (p4 &&& (3 : Int32))), .val (.int (((p4 >>> ((2 : Int32) &&& 31)) &&& (7 : Int32)) - (4 : Int32))), .val (.int (own_QQ p0 p1 p2 p3 p4)), .val (.ref b3), .val (.ref b9), .val (.int (own_EX p0 p1 p2 p3 p4))] [(.int (1 : Int32))])) (fun t k => ?_) ?_
    · show Steps p.tables e below (T27.setTop (mkF m 118 #[.val (.int p0), .val (.int p1), .val (.int p2), .val (.int p3), .val (.int p4), .val (.int (p4 &&& (3 : Int32))), .val (.int (((p4 >>> ((2 : Int32) &&& 31)) &&& (7 : Int32)) - (4 : Int32))), .val (.int (own_QQ p0 p1 p2 p3 p4)), .val (.ref b3), .val (.ref b9), .val (.int (own_EX p0 p1 p2 p3 p4))] [(.int (own_F3 (own_QQ p0 p1 p2 p3 p4) p0))])) _
      refine XS.iload X27.here hx rfl (hb hby at_118) rfl ?_
      show Steps p.tables e below (T27.setTop (mkF m 120 #[.val (.int p0), .val (.int p1), .val (.int p2), .val (.int p3), .val (.int p4), .val (.int (p4 &&& (3 : Int32))), .val (.int (((p4 >>> ((2 : Int32) &&& 31)) &&& (7 : Int32)) - (4 : Int32))), .val (.int (own_QQ p0 p1 p2 p3 p4)), .val (.ref b3), .val (.ref b9), .val (.int (own_EX p0 p1 p2 p3 p4))] [(.int (own_EX p0 p1 p2 p3 p4)), (.int (own_F3 (own_QQ p0 p1 p2 p3 p4) p0))])) _
      refine XS.icmpNo X27.here hx rfl (hb hby at_120) rfl (teq hc108_26).2 ?_
      show Steps p.tables e below (T27.setTop (mkF m 123 #[.val (.int p0), .val (.int p1), .val (.int p2), .val (.int p3), .val (.int p4), .val (.int (p4 &&& (3 : Int32))), .val (.int (((p4 >>> ((2 : Int32) &&& 31)) &&& (7 : Int32)) - (4 : Int32))), .val (.int (own_QQ p0 p1 p2 p3 p4)), .val (.ref b3), .val (.ref b9), .val (.int (own_EX p0 p1 p2 p3 p4))] [])) _
      refine XS.iconst X27.here hx rfl (hb hby at_123) ?_
      show Steps p.tables e below (T27.setTop (mkF m 124 #[.val (.int p0), .val (.int p1), .val (.int p2), .val (.int p3), .val (.int p4), .val (.int (p4 &&& (3 : Int32))), .val (.int (((p4 >>> ((2 : Int32) &&& 31)) &&& (7 : Int32)) - (4 : Int32))), .val (.int (own_QQ p0 p1 p2 p3 p4)), .val (.ref b3), .val (.ref b9), .val (.int (own_EX p0 p1 p2 p3 p4))] [(.int (1 : Int32))])) _
      refine XS.goto X27.here hx rfl (pc0 := 124) (pc' := 128) rfl (hb hby at_124) (by decide) (by decide) ?_
      show Steps p.tables e below (T27.setTop (mkF m 128 #[.val (.int p0), .val (.int p1), .val (.int p2), .val (.int p3), .val (.int p4), .val (.int (p4 &&& (3 : Int32))), .val (.int (((p4 >>> ((2 : Int32) &&& 31)) &&& (7 : Int32)) - (4 : Int32))), .val (.int (own_QQ p0 p1 p2 p3 p4)), .val (.ref b3), .val (.ref b9), .val (.int (own_EX p0 p1 p2 p3 p4))] [(.int (1 : Int32))])) _
      exact k
    obtain ⟨fs, hr, hrun, hended, hW, hsame⟩ := X27.leave (v := some (.int (1 : Int32))) (fun h => by rw [Bd.returns] at h; cases h)
    refine ⟨_, _, ?_, hrun, hended, _, _, rfl, ?_, ⟨_, rfl⟩, hW, hsame.mono (by decide) (by decide)⟩
    · exact retN X27 hx (t := .boolean) Bd.returns (by simp) (hb hby at_128) hr
    · show own_Q0 Z p0 p1 p2 p3 p4 h0 n0 _ T27.heap _
      rw [h27q]
      exact ⟨(congrArg (fun z => some (Value.int z)) ((by rw [own_F0, if_pos hc108_26] : (1 : Int32) = own_F0 p0 p1 p2 p3 p4).trans (own_law p0 p1 p2 p3 p4))), N27⟩
  · skip
    refine own_go (T' := T25) (f' := (mkF m 128 #[.val (.int p0), .val (.int p1), .val (.int p2), .val (.int p3), .val (.int p4), .val (.int (p4 &&& (3 : Int32))), .val (.int (((p4 >>> ((2 : Int32) &&& 31)) &&& (7 : Int32)) - (4 : Int32))), .val (.int (own_QQ p0 p1 p2 p3 p4)), .val (.ref b3), .val (.ref b9), .val (.int (own_EX p0 p1 p2 p3 p4))] [(.int (0 : Int32))])) (fun t k => ?_) ?_
    · show Steps p.tables e below (T25.setTop (mkF m 108 #[.val (.int p0), .val (.int p1), .val (.int p2), .val (.int p3), .val (.int p4), .val (.int (p4 &&& (3 : Int32))), .val (.int (((p4 >>> ((2 : Int32) &&& 31)) &&& (7 : Int32)) - (4 : Int32))), .val (.int (own_QQ p0 p1 p2 p3 p4)), .val (.ref b3), .val (.ref b9), .val (.int (own_EX p0 p1 p2 p3 p4))] [(.int (own_EX p0 p1 p2 p3 p4)), (.int (own_F3 (own_QQ p0 p1 p2 p3 p4) p0))])) _
      refine XS.icmpYes X25.here hx rfl (pc0 := 108) (pc' := 127) rfl (hb hby at_108) rfl (feq hc108_26).2 (by decide) (by decide) ?_
      show Steps p.tables e below (T25.setTop (mkF m 127 #[.val (.int p0), .val (.int p1), .val (.int p2), .val (.int p3), .val (.int p4), .val (.int (p4 &&& (3 : Int32))), .val (.int (((p4 >>> ((2 : Int32) &&& 31)) &&& (7 : Int32)) - (4 : Int32))), .val (.int (own_QQ p0 p1 p2 p3 p4)), .val (.ref b3), .val (.ref b9), .val (.int (own_EX p0 p1 p2 p3 p4))] [])) _
      refine XS.iconst X25.here hx rfl (hb hby at_127) ?_
      show Steps p.tables e below (T25.setTop (mkF m 128 #[.val (.int p0), .val (.int p1), .val (.int p2), .val (.int p3), .val (.int p4), .val (.int (p4 &&& (3 : Int32))), .val (.int (((p4 >>> ((2 : Int32) &&& 31)) &&& (7 : Int32)) - (4 : Int32))), .val (.int (own_QQ p0 p1 p2 p3 p4)), .val (.ref b3), .val (.ref b9), .val (.int (own_EX p0 p1 p2 p3 p4))] [(.int (0 : Int32))])) _
      exact k
    obtain ⟨fs, hr, hrun, hended, hW, hsame⟩ := X25.leave (v := some (.int (0 : Int32))) (fun h => by rw [Bd.returns] at h; cases h)
    refine ⟨_, _, ?_, hrun, hended, _, _, rfl, ?_, ⟨_, rfl⟩, hW, hsame.mono (by decide) (by decide)⟩
    · exact retN X25 hx (t := .boolean) Bd.returns (by simp) (hb hby at_128) hr
    · show own_Q0 Z p0 p1 p2 p3 p4 h0 n0 _ T25.heap _
      rw [h25q]
      exact ⟨(congrArg (fun z => some (Value.int z)) ((by rw [own_F0, if_neg hc108_26] : (0 : Int32) = own_F0 p0 p1 p2 p3 p4).trans (own_law p0 p1 p2 p3 p4))), N25⟩
set_option maxRecDepth 65536 in
set_option maxHeartbeats 40000000 in
theorem comes_1 {Post : Tables → Env → Array Value → State → Outcome → State → Prop} (hpost : ∀ tb e args s v u, (limb_1_1.after args s (.returned v) u = true ∧ limb_1_2.after args s (.returned v) u = true ∧ True) → FrameEnd s (.returned v) u (Jvm.fieldLocs frame_1_writes args s ++ Jvm.arrayLocs frame_1_arrays args s ++ Jvm.staticLocs frame_1_statics s) 16 128 → Post tb e args s (.returned v) u) :
    ArmFor flags0 classFile x code maxLocals ret World_1 tables_1 room_1 Calls_1 rest_1 Pre_1 Post := by
  intro l hfl _ _ p e ha hc hk s m args below hf hA hF happ hP
  obtain ⟨hcalls, hrest, hpre⟩ := hP
  obtain ⟨-, -, -, hnamed, -, -, -, hat⟩ := (Spec.applies_iff hf).mp happ
  obtain ⟨hg, hn⟩ := and_e (Cond.before_iff.mp (show (Jvm.Cond.and given_1 narrow_1).before args s = true from hpre))
  obtain ⟨hcnt, g0⟩ := and_e hg
  obtain ⟨k0, g1⟩ := and_e g0
  obtain ⟨k1, g2⟩ := and_e g1
  obtain ⟨k2, g3⟩ := and_e g2
  obtain ⟨k3, g4⟩ := and_e g3
  have k4 := g4
  obtain ⟨w0, w1, w2, w3, w4, rfl⟩ : ∃ w0 w1 w2 w3 w4 : Value, args = #[w0, w1, w2, w3, w4] := by
    have hs : args.size = 5 := by simpa [Cond.value, given_1] using hcnt
    obtain ⟨L⟩ := args
    match L, hs with
    | [w0, w1, w2, w3, w4], _ => exact ⟨w0, w1, w2, w3, w4, rfl⟩
  have hw := fun d (hd : d ∈ tables_1) => atoms_spec (ws := Jvm.Cond.code x code maxLocals ret :: tables_1) hat d (List.mem_cons_of_mem _ hd)
  obtain ⟨i0, e0⟩ := is_v k0
  obtain rfl : w0 = (.int i0) := Option.some.inj e0
  obtain ⟨i1, e1⟩ := is_v k1
  obtain rfl : w1 = (.int i1) := Option.some.inj e1
  obtain ⟨i2, e2⟩ := is_v k2
  obtain rfl : w2 = (.int i2) := Option.some.inj e2
  obtain ⟨i3, e3⟩ := is_v k3
  obtain rfl : w3 = (.int i3) := Option.some.inj e3
  obtain ⟨i4, e4⟩ := is_v k4
  obtain rfl : w4 = (.int i4) := Option.some.inj e4
  obtain ⟨n, o, h1, h2, h3, _, L, rfl, ⟨hv, N⟩, hq⟩ := own_rm0 l s _ hw tables_1 i0 i1 i2 i3 i4 s.heap s.heap.size (Nat.le_refl _)  p e ha hc hk s m _ below hf ((Spec.applies_iff_loose hf).mp happ).1 ⟨rfl, State.Warmed39.refl s, rfl⟩ trivial
  subst hv
  refine ⟨n, _, h1, h2, h3, hpost _ _ _ _ _ _ ⟨Cond.after_iff.mpr rfl, Cond.after_iff.mpr (eq_i res_at (Term.int_eval (1)) rfl), trivial⟩ ⟨hq.1, hq.2.1, (hq.2.2.sift fun y hy => Or.inr (N y hy)).mono (by decide) (by decide)⟩⟩
theorem main_1_1 : Claimed_1_1 := comes_1 fun _ _ _ _ _ _ h hF => ⟨h.1, hF⟩
theorem main_1_2 : Claimed_1_2 := comes_1 fun _ _ _ _ _ _ h hF => ⟨h.2.1, hF⟩
end Jvm.Pilot.@@N@@
namespace Jvm.Pilot.@@N@@
open Jvm Jvm.ClassFile Sem Op Lib Jvm.Free Jvm.Stand Jvm.Pilot.@@N@@.Jvm.D
/-! MADE BY PROGRAM (witnessworld.py) out of the Statement's table words and the real class files: 9 classes; the members and pool entries that the words name. The judged class is class 1, her method 1. -/
namespace start1
open Jvm.ClassFile
def u (s : String) : CpInfo := .utf8 (stringToUtf16 s)
/-- a pool by its gaps: so many unusable entries, then the entry; so many at the end -/
def gap : Nat → List CpInfo → List CpInfo
  | 0, r => r
  | n + 1, r => .unusable :: gap n r
def poolList (es : List (Nat × CpInfo)) (last : Nat) : List CpInfo := es.foldr (fun e r => gap e.1 (e.2 :: r)) (gap last [])
def pool (es : List (Nat × CpInfo)) (last : Nat) : Array CpInfo := ⟨poolList es last⟩
def fileOf (pool : Array CpInfo) (this : Nat) (attrs : Array Attribute := #[]) (ms : Array MethodInfo := #[]) (fl : Nat := 33) (sup : Nat := 0) (ifs : Array Nat := #[]) (fds : Array FieldInfo := #[]) : ClassFile where
  minorVersion := 0
  majorVersion := 65
  constantPool := pool
  accessFlags := fl
  thisClass := this
  superClass := sup
  interfaces := ifs
  fields := fds
  methods := ms
  attributes := attrs
def plain (name : String) (sup : Option ClassId) : Class where
  name := name
  kind := .ordinary
  loader := none
  accessFlags := 33
  super := sup
  interfaces := #[]
  cf := none
  fields := #[]
  methods := #[]
  instanceTypes := #[]
  staticTypes := #[]
  resolved := #[]
  callSites := []
  init := .initialized
  statics := none
  mirror := none

def pool0 : Array CpInfo := pool [(5, u "<init>"), (0, u "()V"), (1, .class_ 10), (1, u "java/lang/Object")] 113

def k0c0 : Code := { maxStack := 0, maxLocals := 1, code := object_method_1_code, exceptionTable := #[], attributes := #[] }
def k0m0 : Method := { name := "<init>", desc := "()V", sig := { parameters := [], returnType := none }, accessFlags := 1, code := some k0c0 }
/-- java/lang/Object -/
def k0 : Class := { plain "java/lang/Object" none with
  accessFlags := 33
  interfaces := #[]
  cf := some (fileOf pool0 8 #[] #[{ accessFlags := 1, nameIndex := 5, descriptorIndex := 6, attributes := #[] }] 33 0 #[] #[])
  fields := #[]
  methods := #[k0m0]
  instanceTypes := #[]
  staticTypes := #[]
  resolved := Array.replicate 124 none
  statics := none }

def pool1 : Array CpInfo := pool [(2, .class_ 4), (1, u "java/lang/Object"), (0, u "<init>"), (0, u "()V"), (0, .class_ 8), (0, u "com/example/wushan/wushan/store/TopicConfig"), (0, .methodref 7 10), (0, .nameAndType 5 11), (0, u "(III)V"), (0, .methodref 13 14), (0, .class_ 15), (0, .nameAndType 16 17), (0, u "java/lang/Math"), (0, u "min"), (0, u "(JJ)J"), (0, .methodref 7 19), (0, .nameAndType 20 21), (0, u "reads"), (0, u "(I)Z"), (0, .class_ 23), (0, u "com/example/wushan/wushan/store/TopicConfigReadsPinLaw"), (2, u "law"), (0, u "(IIIII)Z")] 3

def k1m0 : Method := { name := "<init>", desc := "()V", sig := { parameters := [], returnType := none }, accessFlags := 1, code := none }
def k1c1 : Code := { maxStack := 6, maxLocals := 11, code := code, exceptionTable := #[], attributes := #[] }
def k1m1 : Method := { name := "law", desc := "(IIIII)Z", sig := { parameters := [.int, .int, .int, .int, .int], returnType := some .boolean }, accessFlags := 9, code := some k1c1 }
/-- com/example/wushan/wushan/store/TopicConfigReadsPinLaw -/
def k1 : Class := { plain "com/example/wushan/wushan/store/TopicConfigReadsPinLaw" (some 0) with
  accessFlags := 49
  interfaces := #[]
  cf := some (fileOf pool1 22 #[] #[{ accessFlags := 1, nameIndex := 5, descriptorIndex := 6, attributes := #[] }, { accessFlags := 9, nameIndex := 26, descriptorIndex := 27, attributes := #[] }] 49 2 #[] #[])
  fields := #[]
  methods := #[k1m0, k1m1]
  instanceTypes := #[]
  staticTypes := #[]
  resolved := Array.replicate 31 none
  statics := none }

def pool2 : Array CpInfo := pool [(1, .methodref 2 3), (0, .class_ 4), (0, .nameAndType 5 6), (0, u "java/lang/Object"), (0, u "<init>"), (0, u "()V"), (0, .class_ 8), (0, u "java/lang/Record")] 13

def k2c0 : Code := { maxStack := 1, maxLocals := 1, code := jdk_30_method_1_code, exceptionTable := #[], attributes := #[] }
def k2m0 : Method := { name := "<init>", desc := "()V", sig := { parameters := [], returnType := none }, accessFlags := 4, code := some k2c0 }
/-- java/lang/Record -/
def k2 : Class := { plain "java/lang/Record" (some 0) with
  accessFlags := 1057
  interfaces := #[]
  cf := some (fileOf pool2 7 #[] #[{ accessFlags := 4, nameIndex := 5, descriptorIndex := 6, attributes := #[] }] 1057 2 #[] #[])
  fields := #[]
  methods := #[k2m0]
  instanceTypes := #[]
  staticTypes := #[]
  resolved := Array.replicate 22 none
  statics := none }

def pool3 : Array CpInfo := pool [(1, .methodref 2 3), (0, .class_ 4), (0, .nameAndType 5 6), (0, u "java/lang/Record"), (0, u "<init>"), (0, u "()V"), (0, .fieldref 8 9), (0, .class_ 10), (0, .nameAndType 11 12), (0, u "com/example/wushan/wushan/store/TopicConfig"), (0, u "readQueues"), (0, u "I"), (0, .fieldref 8 14), (0, .nameAndType 15 12), (0, u "writeQueues"), (0, .fieldref 8 17), (0, .nameAndType 18 12), (0, u "perm"), (2, u "(III)V"), (12, u "PERM_INHERIT"), (2, u "PERM_WRITE"), (1, u "PERM_READ"), (6, u "reads"), (0, u "(I)Z")] 26

def k3c0 : Code := { maxStack := 2, maxLocals := 4, code := prog_68_method_1_code, exceptionTable := #[], attributes := #[] }
def k3m0 : Method := { name := "<init>", desc := "(III)V", sig := { parameters := [.int, .int, .int], returnType := none }, accessFlags := 1, code := some k3c0 }
def k3c1 : Code := { maxStack := 2, maxLocals := 2, code := prog_68_method_3_code, exceptionTable := #[], attributes := #[] }
def k3m1 : Method := { name := "reads", desc := "(I)Z", sig := { parameters := [.int], returnType := some .boolean }, accessFlags := 1, code := some k3c1 }
/-- com/example/wushan/wushan/store/TopicConfig -/
def k3 : Class := { plain "com/example/wushan/wushan/store/TopicConfig" (some 2) with
  accessFlags := 49
  interfaces := #[]
  cf := some (fileOf pool3 8 #[] #[{ accessFlags := 1, nameIndex := 5, descriptorIndex := 21, attributes := #[] }, { accessFlags := 1, nameIndex := 46, descriptorIndex := 47, attributes := #[] }] 49 2 #[] #[{ accessFlags := 18, nameIndex := 11, descriptorIndex := 12, attributes := #[] }, { accessFlags := 18, nameIndex := 15, descriptorIndex := 12, attributes := #[] }, { accessFlags := 18, nameIndex := 18, descriptorIndex := 12, attributes := #[] }, { accessFlags := 25, nameIndex := 34, descriptorIndex := 12, attributes := #[] }, { accessFlags := 25, nameIndex := 37, descriptorIndex := 12, attributes := #[] }, { accessFlags := 25, nameIndex := 39, descriptorIndex := 12, attributes := #[] }])
  fields := #[{ name := "readQueues", type := .int, accessFlags := 18, slot := 0, constantValue := 0 }, { name := "writeQueues", type := .int, accessFlags := 18, slot := 1, constantValue := 0 }, { name := "perm", type := .int, accessFlags := 18, slot := 2, constantValue := 0 }, { name := "PERM_INHERIT", type := .int, accessFlags := 25, slot := 0, constantValue := 0 }, { name := "PERM_WRITE", type := .int, accessFlags := 25, slot := 1, constantValue := 0 }, { name := "PERM_READ", type := .int, accessFlags := 25, slot := 2, constantValue := 0 }]
  methods := #[k3m0, k3m1]
  instanceTypes := #[.int, .int, .int]
  staticTypes := #[.int, .int, .int]
  resolved := Array.replicate 74 none
  statics := none }

def pool4 : Array CpInfo := pool [(1, .class_ 2), (0, u "java/lang/Math"), (1, .class_ 6), (1, u "java/lang/Object"), (0, u "<init>"), (0, u "()V"), (89, .class_ 100), (1, u "java/lang/Math$RandomNumberGeneratorHolder"), (20, u "(JJ)J"), (50, u "negativeZeroFloatBits"), (0, u "J"), (2, u "negativeZeroDoubleBits"), (24, u "min"), (43, u "$assertionsDisabled"), (0, u "Z"), (91, u "twoToTheDoubleScaleDown"), (0, u "D"), (4, u "twoToTheDoubleScaleUp"), (9, u "E"), (3, u "PI"), (2, u "TAU"), (2, u "DEGREES_TO_RADIANS"), (0, u "RADIANS_TO_DEGREES")] 94

def k4m0 : Method := { name := "<init>", desc := "()V", sig := { parameters := [], returnType := none }, accessFlags := 2, code := none }
def k4c1 : Code := { maxStack := 4, maxLocals := 4, code := jdk_29_method_70_code, exceptionTable := #[], attributes := #[] }
def k4m1 : Method := { name := "min", desc := "(JJ)J", sig := { parameters := [.long, .long], returnType := some .long }, accessFlags := 9, code := some k4c1 }
/-- java/lang/Math -/
def k4 : Class := { plain "java/lang/Math" (some 0) with
  accessFlags := 49
  interfaces := #[]
  cf := some (fileOf pool4 1 #[.nestMembers #[98]] #[{ accessFlags := 2, nameIndex := 7, descriptorIndex := 8, attributes := #[] }, { accessFlags := 9, nameIndex := 201, descriptorIndex := 121, attributes := #[] }] 49 4 #[] #[{ accessFlags := 25, nameIndex := 354, descriptorIndex := 339, attributes := #[] }, { accessFlags := 25, nameIndex := 358, descriptorIndex := 339, attributes := #[] }, { accessFlags := 25, nameIndex := 361, descriptorIndex := 339, attributes := #[] }, { accessFlags := 26, nameIndex := 364, descriptorIndex := 339, attributes := #[] }, { accessFlags := 26, nameIndex := 365, descriptorIndex := 339, attributes := #[] }, { accessFlags := 26, nameIndex := 172, descriptorIndex := 173, attributes := #[] }, { accessFlags := 26, nameIndex := 176, descriptorIndex := 173, attributes := #[] }, { accessFlags := 8, nameIndex := 344, descriptorIndex := 339, attributes := #[] }, { accessFlags := 8, nameIndex := 338, descriptorIndex := 339, attributes := #[] }, { accessFlags := 4120, nameIndex := 245, descriptorIndex := 246, attributes := #[] }])
  fields := #[{ name := "E", type := .double, accessFlags := 25, slot := 0, constantValue := 0 }, { name := "PI", type := .double, accessFlags := 25, slot := 1, constantValue := 0 }, { name := "TAU", type := .double, accessFlags := 25, slot := 2, constantValue := 0 }, { name := "DEGREES_TO_RADIANS", type := .double, accessFlags := 26, slot := 3, constantValue := 0 }, { name := "RADIANS_TO_DEGREES", type := .double, accessFlags := 26, slot := 4, constantValue := 0 }, { name := "negativeZeroFloatBits", type := .long, accessFlags := 26, slot := 5, constantValue := 0 }, { name := "negativeZeroDoubleBits", type := .long, accessFlags := 26, slot := 6, constantValue := 0 }, { name := "twoToTheDoubleScaleUp", type := .double, accessFlags := 8, slot := 7, constantValue := 0 }, { name := "twoToTheDoubleScaleDown", type := .double, accessFlags := 8, slot := 8, constantValue := 0 }, { name := "$assertionsDisabled", type := .boolean, accessFlags := 4120, slot := 9, constantValue := 0 }]
  methods := #[k4m0, k4m1]
  instanceTypes := #[]
  staticTypes := #[.double, .double, .double, .double, .double, .long, .long, .double, .double, .boolean]
  resolved := Array.replicate 460 none
  statics := none }

def pool5 : Array CpInfo := pool [(1, u "java/lang/Cloneable"), (0, .class_ 1), (0, u "java/lang/Object"), (0, .class_ 3)] 3

/-- java/lang/Cloneable -/
def k5 : Class := { plain "java/lang/Cloneable" (some 0) with
  accessFlags := 1537
  interfaces := #[]
  cf := some (fileOf pool5 2 #[] #[] 1537 4 #[] #[])
  fields := #[]
  methods := #[]
  instanceTypes := #[]
  staticTypes := #[]
  resolved := Array.replicate 8 none
  statics := none }

def pool6 : Array CpInfo := pool [(1, u "java/io/Serializable"), (0, .class_ 1), (0, u "java/lang/Object"), (0, .class_ 3)] 3

/-- java/io/Serializable -/
def k6 : Class := { plain "java/io/Serializable" (some 0) with
  accessFlags := 1537
  interfaces := #[]
  cf := some (fileOf pool6 2 #[] #[] 1537 4 #[] #[])
  fields := #[]
  methods := #[]
  instanceTypes := #[]
  staticTypes := #[]
  resolved := Array.replicate 8 none
  statics := none }

/-- the primitive byte -/
def k7 : Class := { plain "byte" none with kind := .primitive 'B', accessFlags := 0x411 }
/-- [B -/
def k8 : Class := { plain "[B" (some 0) with kind := .array 7 .byte, interfaces := #[5, 6], accessFlags := 1041 }

def heap : Heap := #[]
def classes : Array Class := #[k0, k1, k2, k3, k4, k5, k6, k7, k8]
def interned : List (Array UInt16 × Addr) := []
def slotsUsed : Nat := 0
def theMethod : MethodId := ⟨1, 1⟩
def args0 : Array Value := #[.int 5, .int 5, .int 5, .int 5, .int 5]
def aboutOver (below : List Frame) : State where
  vm := { classes := classes, interned := interned.toArray }
  heap := heap
  slotsUsed := slotsUsed
  threads := #[{ frames := .invoking theMethod args0 :: below }]
def below0 : List Frame := [.native { method := ⟨0, 0⟩, args := #[] }]
def about1 : State := aboutOver below0
def p0 : Program := .bare "" "" ""
def e0 : Env := launch0.env 0 0 0
theorem w_frames : about1.frames = Frame.invoking theMethod args0 :: below0 := rfl
set_option maxRecDepth 65536 in
theorem w_args : argsFit about1.vm theMethod args0 = true := by decide +kernel
set_option maxRecDepth 65536 in
theorem w_heap : heapFits about1 = true := by decide +kernel
set_option maxRecDepth 65536 in
theorem w_runnable : about1.curStatus? = some .runnable := by decide +kernel
set_option maxRecDepth 65536 in
theorem w_alone : about1.alone = true := by decide +kernel
set_option maxRecDepth 65536 in
theorem w_named : about1.methodNamed? x = some theMethod := by decide +kernel
set_option maxRecDepth 65536 in
theorem w_hears : about1.hears theMethod below0 = true := by decide +kernel
set_option maxRecDepth 65536 in
theorem w_ripe : about1.ripe theMethod args0 below0 = true := by decide +kernel
theorem w_running : about1.status = .running := rfl
set_option maxRecDepth 65536 in
theorem w_room : about1.hasRoom e0.platform room_1 = true :=
  launch0.hasRoom_least _ room_1 (by decide +kernel) (by decide +kernel) (by decide +kernel) (by decide +kernel) (by decide +kernel) (by decide +kernel)
theorem allAtoms_all (ts : List Jvm.Cond) (a : Array Jvm.Value) (st : Jvm.State) : (allAtoms ts).before a st = ts.all (fun c => c.before a st) := by
  induction ts with
  | nil => rfl
  | cons c t ih =>
    show (Jvm.Cond.and c (allAtoms t)).before a st = _
    rw [Jvm.Cond.before_and, ih, List.all_cons]
def words1 : List Jvm.Cond := Jvm.Cond.code x code maxLocals ret :: tables_1
/-- a 'code' word, met by the world's own term for the bytes: nothing is compared byte by byte -/
theorem code_word {y : MethodName} {bytes : ByteArray} {mx : Nat} {rt : Option FieldType} {a : Array Value} {s : State} {m : MethodId} {meth : Method} {c : Code} (h1 : s.methodNamed? y = some m) (h2 : s.vm.method? m = some meth) (h3 : meth.code = some c) (h4 : c.code = bytes)
    (h5 : (c.maxLocals == mx && c.exceptionTable.isEmpty && decide (c.maxStack ≤ mostOperands) && decide (meth.sig.returnType = rt) && !meth.locks && decide (parseMethodDescriptor y.desc = some meth.sig)) = true) : (Jvm.Cond.code y bytes mx rt).before a s = true := by
  simp only [Bool.and_eq_true, beq_iff_eq, Bool.not_eq_true', decide_eq_true_eq] at h5
  obtain ⟨⟨⟨⟨⟨g1, g2⟩, g3⟩, g4⟩, g5⟩, g6⟩ := h5
  simp [Cond.before, Cond.holds, Cond.value, h1, h2, h3, h4, g1, g2, g3, g4, g5, g6]
def isCode : Jvm.Cond → Bool
  | .code _ _ _ _ => true
  | _ => false
theorem all_split {L : List Jvm.Cond} {P : Jvm.Cond → Bool} (h1 : L.all (fun c => isCode c || P c) = true) (h2 : ∀ c ∈ L.filter isCode, P c = true) : L.all P = true := by
  refine List.all_eq_true.mpr fun c hc => ?_
  have h := List.all_eq_true.mp h1 c hc
  rcases Bool.eq_false_or_eq_true (isCode c) with hi | hi
  · exact h2 c (List.mem_filter.mpr ⟨hc, hi⟩)
  · simpa [hi] using h
set_option maxRecDepth 65536 in
theorem w_c0 : (Jvm.Cond.code x code maxLocals ret).before args0 about1 = true := code_word (m := ⟨1, 1⟩) (meth := k1m1) (c := k1c1) (by decide +kernel) rfl rfl rfl (by decide +kernel)
set_option maxRecDepth 65536 in
theorem w_c1 : (Jvm.Cond.code ({ cls := "com/example/wushan/wushan/store/TopicConfig", name := "<init>", desc := "(III)V" } : Jvm.MethodName) prog_68_method_1_code (4 : Nat) (Option.none : Option Jvm.ClassFile.FieldType)).before args0 about1 = true := code_word (m := ⟨3, 0⟩) (meth := k3m0) (c := k3c0) (by decide +kernel) rfl rfl rfl (by decide +kernel)
set_option maxRecDepth 65536 in
theorem w_c2 : (Jvm.Cond.code ({ cls := "java/lang/Record", name := "<init>", desc := "()V" } : Jvm.MethodName) jdk_30_method_1_code (1 : Nat) (Option.none : Option Jvm.ClassFile.FieldType)).before args0 about1 = true := code_word (m := ⟨2, 0⟩) (meth := k2m0) (c := k2c0) (by decide +kernel) rfl rfl rfl (by decide +kernel)
set_option maxRecDepth 65536 in
theorem w_c3 : (Jvm.Cond.code ({ cls := "java/lang/Object", name := "<init>", desc := "()V" } : Jvm.MethodName) object_method_1_code (1 : Nat) (Option.none : Option Jvm.ClassFile.FieldType)).before args0 about1 = true := code_word (m := ⟨0, 0⟩) (meth := k0m0) (c := k0c0) (by decide +kernel) rfl rfl rfl (by decide +kernel)
set_option maxRecDepth 65536 in
theorem w_c4 : (Jvm.Cond.code ({ cls := "java/lang/Math", name := "min", desc := "(JJ)J" } : Jvm.MethodName) jdk_29_method_70_code (4 : Nat) (Option.some Jvm.ClassFile.FieldType.long)).before args0 about1 = true := code_word (m := ⟨4, 1⟩) (meth := k4m1) (c := k4c1) (by decide +kernel) rfl rfl rfl (by decide +kernel)
set_option maxRecDepth 65536 in
theorem w_c5 : (Jvm.Cond.code ({ cls := "com/example/wushan/wushan/store/TopicConfig", name := "reads", desc := "(I)Z" } : Jvm.MethodName) prog_68_method_3_code (2 : Nat) (Option.some Jvm.ClassFile.FieldType.boolean)).before args0 about1 = true := code_word (m := ⟨3, 1⟩) (meth := k3m1) (c := k3c1) (by decide +kernel) rfl rfl rfl (by decide +kernel)
def codes1 : List Jvm.Cond := [Jvm.Cond.code x code maxLocals ret, Jvm.Cond.code ({ cls := "com/example/wushan/wushan/store/TopicConfig", name := "<init>", desc := "(III)V" } : Jvm.MethodName) prog_68_method_1_code (4 : Nat) (Option.none : Option Jvm.ClassFile.FieldType), Jvm.Cond.code ({ cls := "java/lang/Record", name := "<init>", desc := "()V" } : Jvm.MethodName) jdk_30_method_1_code (1 : Nat) (Option.none : Option Jvm.ClassFile.FieldType), Jvm.Cond.code ({ cls := "java/lang/Object", name := "<init>", desc := "()V" } : Jvm.MethodName) object_method_1_code (1 : Nat) (Option.none : Option Jvm.ClassFile.FieldType), Jvm.Cond.code ({ cls := "java/lang/Math", name := "min", desc := "(JJ)J" } : Jvm.MethodName) jdk_29_method_70_code (4 : Nat) (Option.some Jvm.ClassFile.FieldType.long), Jvm.Cond.code ({ cls := "com/example/wushan/wushan/store/TopicConfig", name := "reads", desc := "(I)Z" } : Jvm.MethodName) prog_68_method_3_code (2 : Nat) (Option.some Jvm.ClassFile.FieldType.boolean)]
set_option maxRecDepth 65536 in
theorem codes_eq : words1.filter isCode = codes1 := rfl
theorem w_codes : ∀ c ∈ words1.filter isCode, c.before args0 about1 = true := by
  rw [codes_eq]
  intro c hc
  simp only [codes1, List.mem_cons, List.not_mem_nil, or_false] at hc
  rcases hc with rfl | rfl | rfl | rfl | rfl | rfl
  · exact w_c0
  · exact w_c1
  · exact w_c2
  · exact w_c3
  · exact w_c4
  · exact w_c5
set_option maxRecDepth 65536 in
theorem w_t1 : (words1.take 24).all (fun c => isCode c || c.before args0 about1) = true := by decide +kernel
set_option maxRecDepth 65536 in
theorem w_t2 : (words1.drop 24).all (fun c => isCode c || c.before args0 about1) = true := by decide +kernel
theorem w_tables : (allAtoms (Jvm.Cond.code x code maxLocals ret :: tables_1)).before args0 about1 = true := by
  rw [allAtoms_all]
  show words1.all (fun c => c.before args0 about1) = true
  refine all_split ?_ w_codes
  rw [← List.take_append_drop 24 words1, List.all_append, w_t1, w_t2]
  rfl
set_option maxRecDepth 65536 in
theorem w_case : (Jvm.Cond.and given_1 narrow_1).before args0 about1 = true := by decide +kernel
theorem w_applies : (headSpec (Jvm.Cond.code x code maxLocals ret :: tables_1) room_1).applies x e0.platform about1 = true :=
  (Spec.applies_iff w_frames).mpr ⟨w_running, w_runnable, w_alone, w_named, w_hears, w_ripe, w_room, w_tables⟩
theorem atStart : AtStart classFile x code maxLocals ret World_1 tables_1 room_1 Calls_1 rest_1 Pre_1 launch0 p0 e0 about1 theMethod args0 below0 :=
  ⟨lists_1, trivial, launch0.admits_env _ _ _, launch0.least_env, fairChoices_fair.cas, fairChoices_fair.clock, w_frames, w_args, w_heap, w_applies, trivial, trivial, w_case⟩
end start1
theorem witness_1 : WitnessClaimed_1 := ⟨start1.p0, start1.e0, start1.about1, start1.theMethod, start1.args0, start1.below0, start1.atStart⟩
end Jvm.Pilot.@@N@@
