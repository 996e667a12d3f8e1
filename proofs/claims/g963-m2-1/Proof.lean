import JvmDerived
import JvmDerived.Pilot.@@N@@Statement
import JvmDerived.Pilot.@@N@@Code
set_option linter.unusedVariables false
set_option linter.unusedSimpArgs false
namespace Jvm.RoadKit
open Sem ClassFile Op Lib Jvm.Stand Jvm.Free Jvm.LawKit
section New
variable {p : Program} {l : Launch} {e : Env} {R : Room} {s : State} {m : MethodId} {args : Array Value} {below : List Frame} {meth : Method} {c : Code} {T : State} {locs : List Loc} {cells slots : Nat}
theorem retI (X : Stand p l e R s m args below meth c T locs cells slots) (hx : p.tables.exec = Jvm.exec) {pc : Nat} {Ls : Array Slot} {z : Int32} {rest : List Value} (hret : meth.sig.returnType = some .int) (hd : decode c.code pc = .ok (.ireturn, 1)) {fs : List Frame}
    (hl : ∀ (f : JFrame) (acts : List Action), f.method = m → f.locked = none → f.entered = [] → (doReturn e (T.setTop f) acts (some (.int z))).1 = T.setFrames fs) : Steps p.tables e below (T.setTop (mkF m pc Ls (.int z :: rest))) (T.setFrames fs) := by
  have hm' : T.vm.method? m = some meth := X.method'
  have hn : narrow .int (.int z) = .int z := rfl
  show Steps p.tables e below (T.setTop { method := m, pc := pc, locals := Ls, stack := _ :: rest, locked := none }) _
  jvm_step X.here [X.here.top, hx, hd, hm', hret, hn]
  first | (intro acts; rw [hl _ acts rfl rfl rfl]) | rw [hl _ _ rfl rfl rfl]
  exact Steps.refl _
def own_shrL (x : Int64) (y : Int32) : Int64 := (x.toUInt64 >>> (y &&& 0x3f).toInt64.toUInt64).toInt64
def own_shrI (x y : Int32) : Int32 := (x.toUInt32 >>> (y &&& 31).toUInt32).toInt32
theorem own_go {tb : Tables} {T' : State} {f f' : JFrame} {G : State → Outcome → Prop} (k : ∀ t, Steps tb e below (T'.setTop f') t → Steps tb e below (T.setTop f) t) (h : ∃ s₂ o, Steps tb e below (T'.setTop f') s₂ ∧ G s₂ o) : ∃ s₂ o, Steps tb e below (T.setTop f) s₂ ∧ G s₂ o := by
  obtain ⟨s₂, o, a, b⟩ := h
  exact ⟨s₂, o, k _ a, b⟩
theorem own_cut {tb : Tables} {f f' : JFrame} {G : State → Outcome → Prop} {P : State → Prop} (h1 : (∀ T', P T' → ∃ s₂ o, Steps tb e below (T'.setTop f') s₂ ∧ G s₂ o) → ∃ s₂ o, Steps tb e below (T.setTop f) s₂ ∧ G s₂ o) (h2 : ∀ T', P T' → ∃ s₂ o, Steps tb e below (T'.setTop f') s₂ ∧ G s₂ o) : ∃ s₂ o, Steps tb e below (T.setTop f) s₂ ∧ G s₂ o := h1 h2
end New
end Jvm.RoadKit
namespace Jvm.Pilot.@@N@@
open Jvm Jvm.ClassFile Sem Op Lib Jvm.Free Jvm.Stand Jvm.LawKit Jvm.RoadKit Bundle Jvm.Pilot.@@N@@.Jvm.D
theorem own_dR_0 : decode jdk_30_method_1_code 0 = .ok (.aload_n 0, 1) := by decide +kernel
theorem own_dR_1 : decode jdk_30_method_1_code 1 = .ok (.invokespecial 1, 3) := by decide +kernel
theorem own_dR_4 : decode jdk_30_method_1_code 4 = .ok (.return_, 1) := by decide +kernel
theorem own_pn0 : plainName "java/lang/Record" = true := by first | (simp [plainName, overriddenIn]; done) | decide +kernel
theorem own_efR (m : MethodId) (a0r : Addr) : entryFrame m #[(.ref a0r)] 1 = mkF m 0 #[.val (.ref a0r)] [] := by first | (simp [entryFrame, mkF, argsToLocals, Value.category]; done) | rfl
def own_QR (Z : State) (a0r : Addr) (h0 : Heap) (n0 : Nat) (v : Option Value) (h : Heap) (L : List Loc) : Prop := (v = none) ∧ (Fr n0 L) ∧ (h = h0)
set_option maxRecDepth 65536 in
set_option maxHeartbeats 40000000 in
theorem own_rmR (l : Launch) (Z : State) (a0 : Array Value) (hw : ∀ d ∈ tables_1, d.before a0 Z = true) (ws : List Jvm.Cond) (a0r : Addr) (h0 : Heap) (n0 : Nat) (Z0 : n0 ≤ h0.size) :
    MetFree l (⟨"java/lang/Record", "<init>", "()V"⟩ : MethodName) (head1 (Jvm.Cond.code (⟨"java/lang/Record", "<init>", "()V"⟩ : MethodName) jdk_30_method_1_code 1 none :: ws) ({ frames := 1, cells := 0, slots := 0, locals := 12 } : Room)) (fun a U => a = #[(.ref a0r)] ∧ Z.Warmed39 U.vm ∧ U.heap = h0) (fun _ _ _ _ _ => True) (fun _ U o U' => ∃ v L, o = .returned v ∧ own_QR Z a0r h0 n0 v U'.heap L ∧ FrameEnd U o U' L ({ frames := 1, cells := 0, slots := 0, locals := 12 } : Room).cells ({ frames := 1, cells := 0, slots := 0, locals := 12 } : Room).slots) := by
  refine MetFree.of_bodySF (plainFor_of_name own_pn0) hisR ?_
  intro p e s m args below meth c s₁ Bd hml0 hP hK
  obtain ⟨rfl, hZ, hh⟩ := hP
  have hx := Bd.exec
  have hby := Bd.bytes
  have hml : c.maxLocals = 1 := hml0
  have hown : s.vm.findClass "java/lang/Record" = some m.cls := findClass_of_methodNamed Bd.named
  have hnm := (name_of_methodNamed Bd.named Bd.method).1
  have X0 : Stand p l e ({ frames := 1, cells := 0, slots := 0, locals := 12 } : Room) s m #[(.ref a0r)] below meth c s₁ [] 0 0 := Stand.of_body Bd
  have e0 : s₁.heap = h0 := by rw [← hh, Bd.state]; rfl
  have N0 := Fr.nil n0
  refine own_go (fun t k => castTop (own_efR m a0r) k) ?_
  refine own_go (T' := s₁) (f' := (mkF m 1 #[.val (.ref a0r)] [(.ref a0r)])) (fun t k => ?_) ?_
  · show Steps p.tables e below (s₁.setTop (mkF m 0 #[.val (.ref a0r)] [])) _
    refine XS.aloadN X0.here hx rfl (hb hby own_dR_0) rfl rfl ?_
    show Steps p.tables e below (s₁.setTop (mkF m 1 #[.val (.ref a0r)] [(.ref a0r)])) _
    exact k
  obtain ⟨T1, X1, e1, st1⟩ := initO X0 hx hZ hown (hw _ (List.mem_of_getElem? (i := 11) rfl)) (hw _ (List.mem_of_getElem? (i := 12) rfl)) (hw _ (List.mem_of_getElem? (i := 13) rfl)) e0 (g := (mkF m 1 #[.val (.ref a0r)] [(.ref a0r)])) rfl (by rw [hml]; rfl) rfl (hb hby own_dR_1) (by decide) (W := 0) (by show 2 * 0 + _ ≤ _; exact Nat.le_of_eq rfl) (by decide)
  refine own_go (T' := T1) (f' := (mkF m 4 #[.val (.ref a0r)] [])) st1 ?_
  obtain ⟨fs, hr, hrun, hended, hW, hsame⟩ := X1.leave (v := none) (fun _ => rfl)
  refine ⟨_, _, ?_, hrun, hended, _, _, rfl, ?_, ⟨_, rfl⟩, hW, hsame.mono (by decide) (by decide)⟩
  · exact X1.returnOut hx Bd.returns (hb hby own_dR_4) hr
  · show own_QR Z a0r h0 n0 _ T1.heap _
    rw [e1]
    exact ⟨rfl, N0, rfl⟩
theorem own_pd0 : parseMethodDescriptor "()V" = some ⟨[], none⟩ := by decide +kernel
theorem own_d1_0 : decode prog_69_method_1_code 0 = .ok (.aload_n 0, 1) := by decide +kernel
theorem own_d1_1 : decode prog_69_method_1_code 1 = .ok (.invokespecial 1, 3) := by decide +kernel
theorem own_d1_4 : decode prog_69_method_1_code 4 = .ok (.aload_n 0, 1) := by decide +kernel
theorem own_d1_5 : decode prog_69_method_1_code 5 = .ok (.lload_n 1, 1) := by decide +kernel
theorem own_d1_6 : decode prog_69_method_1_code 6 = .ok (.putfield 7, 3) := by decide +kernel
theorem own_d1_9 : decode prog_69_method_1_code 9 = .ok (.aload_n 0, 1) := by decide +kernel
theorem own_d1_10 : decode prog_69_method_1_code 10 = .ok (.iload_n 3, 1) := by decide +kernel
theorem own_d1_11 : decode prog_69_method_1_code 11 = .ok (.putfield 13, 3) := by decide +kernel
theorem own_d1_14 : decode prog_69_method_1_code 14 = .ok (.return_, 1) := by decide +kernel
theorem own_pn1 : plainName "com/example/tracecourt/tracecourt/eval/Symmetry$Mark" = true := by first | (simp [plainName, overriddenIn]; done) | decide +kernel
theorem own_ef1 (m : MethodId) (a0r : Addr) (q1 : Int64) (p2 : Int32) : entryFrame m #[(.ref a0r), (.long q1), (.int p2)] 4 = mkF m 0 #[.val (.ref a0r), .val (.long q1), .second, .val (.int p2)] [] := by first | (simp [entryFrame, mkF, argsToLocals, Value.category]; done) | rfl
def own_Q1 (Z : State) (a0r : Addr) (q1 : Int64) (p2 : Int32) (h0 : Heap) (n0 : Nat) (v : Option Value) (h : Heap) (L : List Loc) : Prop := (v = none) ∧ (Fr n0 L) ∧ (Keep h0 h [a0r]) ∧ (Fld Z h a0r "com/example/tracecourt/tracecourt/eval/Symmetry$Mark" "number" "J" (.long q1)) ∧ (Fld Z h a0r "com/example/tracecourt/tracecourt/eval/Symmetry$Mark" "sure" "Z" (.int (nar .boolean p2)))
set_option maxRecDepth 65536 in
set_option maxHeartbeats 40000000 in
theorem own_rm1 (l : Launch) (Z : State) (a0 : Array Value) (hw : ∀ d ∈ tables_1, d.before a0 Z = true) (ws : List Jvm.Cond) (a0r : Addr) (q1 : Int64) (p2 : Int32) (h0 : Heap) (n0 : Nat) (Z0 : n0 ≤ h0.size) (P0 : Exa Z h0 a0r "com/example/tracecourt/tracecourt/eval/Symmetry$Mark") (P1 : Fld Z h0 a0r "com/example/tracecourt/tracecourt/eval/Symmetry$Mark" "number" "J" (.long (0 : Int64))) (P2 : Fld Z h0 a0r "com/example/tracecourt/tracecourt/eval/Symmetry$Mark" "sure" "Z" (.int (0 : Int32))) (go_a0r : n0 ≤ a0r) :
    MetFree l (⟨"com/example/tracecourt/tracecourt/eval/Symmetry$Mark", "<init>", "(JZ)V"⟩ : MethodName) (head1 (Jvm.Cond.code (⟨"com/example/tracecourt/tracecourt/eval/Symmetry$Mark", "<init>", "(JZ)V"⟩ : MethodName) prog_69_method_1_code 4 none :: ws) ({ frames := 2, cells := 0, slots := 0, locals := 24 } : Room)) (fun a U => a = #[(.ref a0r), (.long q1), (.int p2)] ∧ Z.Warmed39 U.vm ∧ U.heap = h0) (fun _ _ _ _ _ => True) (fun _ U o U' => ∃ v L, o = .returned v ∧ own_Q1 Z a0r q1 p2 h0 n0 v U'.heap L ∧ FrameEnd U o U' L ({ frames := 2, cells := 0, slots := 0, locals := 24 } : Room).cells ({ frames := 2, cells := 0, slots := 0, locals := 24 } : Room).slots) := by
  refine MetFree.of_bodySF (plainFor_of_name own_pn1) hisR ?_
  intro p e s m args below meth c s₁ Bd hml0 hP hK
  obtain ⟨rfl, hZ, hh⟩ := hP
  have hx := Bd.exec
  have hby := Bd.bytes
  have hml : c.maxLocals = 4 := hml0
  have hown : s.vm.findClass "com/example/tracecourt/tracecourt/eval/Symmetry$Mark" = some m.cls := findClass_of_methodNamed Bd.named
  have hnm := (name_of_methodNamed Bd.named Bd.method).1
  have X0 : Stand p l e ({ frames := 2, cells := 0, slots := 0, locals := 24 } : Room) s m #[(.ref a0r), (.long q1), (.int p2)] below meth c s₁ [] 0 0 := Stand.of_body Bd
  have e0 : s₁.heap = h0 := by rw [← hh, Bd.state]; rfl
  have N0 := Fr.nil n0
  have K0 : Keep h0 h0 [a0r] := Keep.refl h0 _
  refine own_go (fun t k => castTop (own_ef1 m a0r q1 p2) k) ?_
  refine own_go (T' := s₁) (f' := (mkF m 1 #[.val (.ref a0r), .val (.long q1), .second, .val (.int p2)] [(.ref a0r)])) (fun t k => ?_) ?_
  · show Steps p.tables e below (s₁.setTop (mkF m 0 #[.val (.ref a0r), .val (.long q1), .second, .val (.int p2)] [])) _
    refine XS.aloadN X0.here hx rfl (hb hby own_d1_0) rfl rfl ?_
    show Steps p.tables e below (s₁.setTop (mkF m 1 #[.val (.ref a0r), .val (.long q1), .second, .val (.int p2)] [(.ref a0r)])) _
    exact k
  obtain ⟨_, _, ⟨T1, Lq1, kq1, nq1⟩, -, X1, ⟨Lc1, hQ1, lq1, yq1, zq1⟩, st1⟩ := X0.specialBack hx (y := (⟨"java/lang/Record", "<init>", "()V"⟩ : MethodName)) rfl hown (mvT hZ (hw _ (List.mem_of_getElem? (i := 6) rfl))) (mvT hZ (hw _ (List.mem_of_getElem? (i := 7) rfl))) (mvT hZ (hw _ (List.mem_of_getElem? (i := 10) rfl))) (by decide) (backOf (W := 0) (own_rmR l Z a0 hw [] a0r  h0 n0 Z0 ) hZ (hw _ (List.mem_of_getElem? (i := 10) rfl)) (hw _ (List.mem_of_getElem? (i := 9) rfl)) (by decide) (by decide)) (g := (mkF m 1 #[.val (.ref a0r), .val (.long q1), .second, .val (.int p2)] [(.ref a0r)])) rfl (by rw [hml]; rfl) (Steps.refl _) (a := a0r) (argsL := []) (rest := []) (lenOf own_pd0 rfl) rfl (by show 2 * 0 + _ ≤ _; exact Nat.le_of_eq rfl) (hb hby own_d1_1) (fun _ _ => ⟨rfl, e0, (by decide : 0 + 0 ≤ _), (by decide : 0 + 0 ≤ _)⟩)
  dsimp only [Pt.U, Pt.locs, Pt.cells, Pt.slots] at X1 lq1 yq1 zq1 st1 hQ1
  subst lq1 yq1 zq1
  obtain ⟨rfl, N1q, h1q⟩ := hQ1
  have N1 := Fr.app N0 N1q
  refine own_go (T' := T1) (f' := (mkF m 4 #[.val (.ref a0r), .val (.long q1), .second, .val (.int p2)] [])) (fun t k => st1.trans k) ?_
  refine own_go (T' := T1) (f' := (mkF m 6 #[.val (.ref a0r), .val (.long q1), .second, .val (.int p2)] [(.long q1), (.ref a0r)])) (fun t k => ?_) ?_
  · show Steps p.tables e below (T1.setTop (mkF m 4 #[.val (.ref a0r), .val (.long q1), .second, .val (.int p2)] [])) _
    refine XS.aloadN X1.here hx rfl (hb hby own_d1_4) rfl rfl ?_
    show Steps p.tables e below (T1.setTop (mkF m 5 #[.val (.ref a0r), .val (.long q1), .second, .val (.int p2)] [(.ref a0r)])) _
    refine XS.lloadN X1.here hx rfl (hb hby own_d1_5) rfl ?_
    show Steps p.tables e below (T1.setTop (mkF m 6 #[.val (.ref a0r), .val (.long q1), .second, .val (.int p2)] [(.long q1), (.ref a0r)])) _
    exact k
  obtain ⟨T2, h2, X2, e2, W2, st2⟩ := putF X1 hx hZ hown (host := "") (Or.inl (hw _ (List.mem_of_getElem? (i := 14) rfl))) Via.refl h1q P1 P0 (Or.inr ⟨(hw _ (List.mem_of_getElem? (i := 15) rfl)), rfl, hnm⟩) (hw _ (List.mem_of_getElem? (i := 1) rfl)) (ty := .long) (by decide) rfl rfl (g := (mkF m 6 #[.val (.ref a0r), .val (.long q1), .second, .val (.int p2)] [(.long q1), (.ref a0r)])) rfl rfl (hb hby own_d1_6)
  refine own_go (T' := T2) (f' := (mkF m 9 #[.val (.ref a0r), .val (.long q1), .second, .val (.int p2)] [])) st2 ?_
  have fc3 : Exa Z h2 a0r "com/example/tracecourt/tracecourt/eval/Symmetry$Mark" := P0.wr W2
  have fc4 : Fld Z h2 a0r "com/example/tracecourt/tracecourt/eval/Symmetry$Mark" "number" "J" (.long q1) := P1.same W2
  have fc5 : Fld Z h2 a0r "com/example/tracecourt/tracecourt/eval/Symmetry$Mark" "sure" "Z" (.int (0 : Int32)) := P2.other W2 (Or.inr (slot_ne (Or.inr (hw _ (List.mem_of_getElem? (i := 17) rfl))) (Or.inr (hw _ (List.mem_of_getElem? (i := 15) rfl))) (by decide) (t := .boolean) (t' := .long) (by decide) (by decide)))
  have Zs2 : n0 ≤ h2.size := Nat.le_trans Z0 (Keep.of_wr W2).1
  have K2 : Keep h0 h2 [a0r] := K0.wr W2 (Or.inl (List.mem_of_getElem? (i := 0) rfl))
  have N2 := Fr.snoc X2 N1 go_a0r
  refine own_go (T' := T2) (f' := (mkF m 11 #[.val (.ref a0r), .val (.long q1), .second, .val (.int p2)] [(.int p2), (.ref a0r)])) (fun t k => ?_) ?_
  · show Steps p.tables e below (T2.setTop (mkF m 9 #[.val (.ref a0r), .val (.long q1), .second, .val (.int p2)] [])) _
    refine XS.aloadN X2.here hx rfl (hb hby own_d1_9) rfl rfl ?_
    show Steps p.tables e below (T2.setTop (mkF m 10 #[.val (.ref a0r), .val (.long q1), .second, .val (.int p2)] [(.ref a0r)])) _
    refine XS.iloadN X2.here hx rfl (hb hby own_d1_10) rfl ?_
    show Steps p.tables e below (T2.setTop (mkF m 11 #[.val (.ref a0r), .val (.long q1), .second, .val (.int p2)] [(.int p2), (.ref a0r)])) _
    exact k
  obtain ⟨T6, h6, X6, e6, W6, st6⟩ := putFN X2 hx hZ hown (hw _ (List.mem_of_getElem? (i := 16) rfl)) Via.refl e2 fc5 fc3 (Or.inr ⟨(hw _ (List.mem_of_getElem? (i := 17) rfl)), rfl, hnm⟩) (hw _ (List.mem_of_getElem? (i := 1) rfl)) (ty := .boolean) (v' := (.int (nar .boolean p2))) (by decide) rfl (fits_nar_bool _) (g := (mkF m 11 #[.val (.ref a0r), .val (.long q1), .second, .val (.int p2)] [(.int p2), (.ref a0r)])) rfl rfl (hb hby own_d1_11)
  refine own_go (T' := T6) (f' := (mkF m 14 #[.val (.ref a0r), .val (.long q1), .second, .val (.int p2)] [])) st6 ?_
  have fc7 : Exa Z h6 a0r "com/example/tracecourt/tracecourt/eval/Symmetry$Mark" := fc3.wr W6
  have fc8 : Fld Z h6 a0r "com/example/tracecourt/tracecourt/eval/Symmetry$Mark" "number" "J" (.long q1) := fc4.other W6 (Or.inr (slot_ne (Or.inr (hw _ (List.mem_of_getElem? (i := 15) rfl))) (Or.inr (hw _ (List.mem_of_getElem? (i := 17) rfl))) (by decide) (t := .long) (t' := .boolean) (by decide) (by decide)))
  have fc9 : Fld Z h6 a0r "com/example/tracecourt/tracecourt/eval/Symmetry$Mark" "sure" "Z" (.int (nar .boolean p2)) := fc5.same W6
  have Zs6 : n0 ≤ h6.size := Nat.le_trans Zs2 (Keep.of_wr W6).1
  have K6 : Keep h0 h6 [a0r] := K2.wr W6 (Or.inl (List.mem_of_getElem? (i := 0) rfl))
  have N6 := Fr.snoc X6 N2 go_a0r
  obtain ⟨fs, hr, hrun, hended, hW, hsame⟩ := X6.leave (v := none) (fun _ => rfl)
  refine ⟨_, _, ?_, hrun, hended, _, _, rfl, ?_, ⟨_, rfl⟩, hW, hsame.mono (by decide) (by decide)⟩
  · exact X6.returnOut hx Bd.returns (hb hby own_d1_14) hr
  · show own_Q1 Z a0r q1 p2 h0 n0 _ T6.heap _
    rw [e6]
    exact ⟨rfl, N6, K6, fc8, fc9⟩
theorem own_d2_0 : decode prog_69_method_2_code 0 = .ok (.aload_n 0, 1) := by decide +kernel
theorem own_d2_1 : decode prog_69_method_2_code 1 = .ok (.getfield 13, 3) := by decide +kernel
theorem own_d2_4 : decode prog_69_method_2_code 4 = .ok (.ifCond .eq 26, 3) := by decide +kernel
theorem own_d2_7 : decode prog_69_method_2_code 7 = .ok (.aload_n 1, 1) := by decide +kernel
theorem own_d2_8 : decode prog_69_method_2_code 8 = .ok (.getfield 13, 3) := by decide +kernel
theorem own_d2_11 : decode prog_69_method_2_code 11 = .ok (.ifCond .eq 19, 3) := by decide +kernel
theorem own_d2_14 : decode prog_69_method_2_code 14 = .ok (.aload_n 0, 1) := by decide +kernel
theorem own_d2_15 : decode prog_69_method_2_code 15 = .ok (.getfield 7, 3) := by decide +kernel
theorem own_d2_18 : decode prog_69_method_2_code 18 = .ok (.aload_n 1, 1) := by decide +kernel
theorem own_d2_19 : decode prog_69_method_2_code 19 = .ok (.getfield 7, 3) := by decide +kernel
theorem own_d2_22 : decode prog_69_method_2_code 22 = .ok (.lcmp, 1) := by decide +kernel
theorem own_d2_23 : decode prog_69_method_2_code 23 = .ok (.ifCond .eq 7, 3) := by decide +kernel
theorem own_d2_26 : decode prog_69_method_2_code 26 = .ok (.iconst 1, 1) := by decide +kernel
theorem own_d2_27 : decode prog_69_method_2_code 27 = .ok (.goto 4, 3) := by decide +kernel
theorem own_d2_30 : decode prog_69_method_2_code 30 = .ok (.iconst 0, 1) := by decide +kernel
theorem own_d2_31 : decode prog_69_method_2_code 31 = .ok (.ireturn, 1) := by decide +kernel
theorem own_ef2 (m : MethodId) (a0r : Addr) (a1r : Addr) : entryFrame m #[(.ref a0r), (.ref a1r)] 2 = mkF m 0 #[.val (.ref a0r), .val (.ref a1r)] [] := by first | (simp [entryFrame, mkF, argsToLocals, Value.category]; done) | rfl
def own_F2 (n1 : Int64) (u1 : Int32) (n2 : Int64) (u2 : Int32) : Int32 := (if u1 = (0 : Int32) then (0 : Int32) else (if u2 = (0 : Int32) then (0 : Int32) else (if n1 = n2 then (0 : Int32) else (1 : Int32))))
def own_Q2 (Z : State) (a0r : Addr) (a1r : Addr) (n1 : Int64) (u1 : Int32) (n2 : Int64) (u2 : Int32) (h0 : Heap) (n0 : Nat) (v : Option Value) (h : Heap) (L : List Loc) : Prop := (v = some (.int (own_F2 n1 u1 n2 u2))) ∧ (Fr n0 L) ∧ (h = h0)
set_option maxRecDepth 65536 in
set_option maxHeartbeats 40000000 in
theorem own_rm2 (l : Launch) (Z : State) (a0 : Array Value) (hw : ∀ d ∈ tables_1, d.before a0 Z = true) (ws : List Jvm.Cond) (a0r : Addr) (a1r : Addr) (n1 : Int64) (u1 : Int32) (n2 : Int64) (u2 : Int32) (h0 : Heap) (n0 : Nat) (Z0 : n0 ≤ h0.size) (P0 : Fld Z h0 a0r "com/example/tracecourt/tracecourt/eval/Symmetry$Mark" "number" "J" (.long n1)) (P1 : Fld Z h0 a0r "com/example/tracecourt/tracecourt/eval/Symmetry$Mark" "sure" "Z" (.int u1)) (P2 : Fld Z h0 a1r "com/example/tracecourt/tracecourt/eval/Symmetry$Mark" "number" "J" (.long n2)) (P3 : Fld Z h0 a1r "com/example/tracecourt/tracecourt/eval/Symmetry$Mark" "sure" "Z" (.int u2)) :
    MetFree l (⟨"com/example/tracecourt/tracecourt/eval/Symmetry$Mark", "apartFrom", "(Lcom/example/tracecourt/tracecourt/eval/Symmetry$Mark;)Z"⟩ : MethodName) (head1 (Jvm.Cond.code (⟨"com/example/tracecourt/tracecourt/eval/Symmetry$Mark", "apartFrom", "(Lcom/example/tracecourt/tracecourt/eval/Symmetry$Mark;)Z"⟩ : MethodName) prog_69_method_2_code 2 (some .boolean) :: ws) ({ frames := 0, cells := 0, slots := 0, locals := 0 } : Room)) (fun a U => a = #[(.ref a0r), (.ref a1r)] ∧ Z.Warmed39 U.vm ∧ U.heap = h0) (fun _ _ _ _ _ => True) (fun _ U o U' => ∃ v L, o = .returned v ∧ own_Q2 Z a0r a1r n1 u1 n2 u2 h0 n0 v U'.heap L ∧ FrameEnd U o U' L ({ frames := 0, cells := 0, slots := 0, locals := 0 } : Room).cells ({ frames := 0, cells := 0, slots := 0, locals := 0 } : Room).slots) := by
  refine MetFree.of_bodySF (plainFor_of_name own_pn1) hisR ?_
  intro p e s m args below meth c s₁ Bd hml0 hP hK
  obtain ⟨rfl, hZ, hh⟩ := hP
  have hx := Bd.exec
  have hby := Bd.bytes
  have hml : c.maxLocals = 2 := hml0
  have hown : s.vm.findClass "com/example/tracecourt/tracecourt/eval/Symmetry$Mark" = some m.cls := findClass_of_methodNamed Bd.named
  have hnm := (name_of_methodNamed Bd.named Bd.method).1
  have X0 : Stand p l e ({ frames := 0, cells := 0, slots := 0, locals := 0 } : Room) s m #[(.ref a0r), (.ref a1r)] below meth c s₁ [] 0 0 := Stand.of_body Bd
  have e0 : s₁.heap = h0 := by rw [← hh, Bd.state]; rfl
  have N0 := Fr.nil n0
  refine own_go (fun t k => castTop (own_ef2 m a0r a1r) k) ?_
  refine own_go (T' := s₁) (f' := (mkF m 1 #[.val (.ref a0r), .val (.ref a1r)] [(.ref a0r)])) (fun t k => ?_) ?_
  · show Steps p.tables e below (s₁.setTop (mkF m 0 #[.val (.ref a0r), .val (.ref a1r)] [])) _
    refine XS.aloadN X0.here hx rfl (hb hby own_d2_0) rfl rfl ?_
    show Steps p.tables e below (s₁.setTop (mkF m 1 #[.val (.ref a0r), .val (.ref a1r)] [(.ref a0r)])) _
    exact k
  obtain ⟨T1, X1, e1, st1⟩ := getF X0 hx hZ hown (host := "") (Or.inl (hw _ (List.mem_of_getElem? (i := 16) rfl))) Via.refl e0 P1 (g := (mkF m 1 #[.val (.ref a0r), .val (.ref a1r)] [(.ref a0r)])) rfl rfl (hb hby own_d2_1)
  refine own_go (T' := T1) (f' := (mkF m 4 #[.val (.ref a0r), .val (.ref a1r)] [(.int u1)])) st1 ?_
  by_cases hc4_2 : u1 = (0 : Int32)
  · skip
    refine own_go (T' := T1) (f' := (mkF m 31 #[.val (.ref a0r), .val (.ref a1r)] [(.int (0 : Int32))])) (fun t k => ?_) ?_
    · show Steps p.tables e below (T1.setTop (mkF m 4 #[.val (.ref a0r), .val (.ref a1r)] [(.int u1)])) _
      refine XS.ifYes X1.here hx rfl (pc0 := 4) (pc' := 30) rfl (hb hby own_d2_4) rfl ((if0 _ _).trans (teq hc4_2).1) (by decide) (by decide) ?_
      show Steps p.tables e below (T1.setTop (mkF m 30 #[.val (.ref a0r), .val (.ref a1r)] [])) _
      refine XS.iconst X1.here hx rfl (hb hby own_d2_30) ?_
      show Steps p.tables e below (T1.setTop (mkF m 31 #[.val (.ref a0r), .val (.ref a1r)] [(.int (0 : Int32))])) _
      exact k
    obtain ⟨fs, hr, hrun, hended, hW, hsame⟩ := X1.leave (v := some (.int (0 : Int32))) (fun h => by rw [Bd.returns] at h; cases h)
    refine ⟨_, _, ?_, hrun, hended, _, _, rfl, ?_, ⟨_, rfl⟩, hW, hsame.mono (by decide) (by decide)⟩
    · exact retN X1 hx (t := .boolean) Bd.returns (by simp) (hb hby own_d2_31) hr
    · show own_Q2 Z a0r a1r n1 u1 n2 u2 h0 n0 _ T1.heap _
      rw [e1]
      exact ⟨(by rw [own_F2, if_pos hc4_2]), N0, rfl⟩
  · skip
    refine own_go (T' := T1) (f' := (mkF m 8 #[.val (.ref a0r), .val (.ref a1r)] [(.ref a1r)])) (fun t k => ?_) ?_
    · show Steps p.tables e below (T1.setTop (mkF m 4 #[.val (.ref a0r), .val (.ref a1r)] [(.int u1)])) _
      refine XS.ifNo X1.here hx rfl (hb hby own_d2_4) rfl ((if0 _ _).trans (feq hc4_2).1) ?_
      show Steps p.tables e below (T1.setTop (mkF m 7 #[.val (.ref a0r), .val (.ref a1r)] [])) _
      refine XS.aloadN X1.here hx rfl (hb hby own_d2_7) rfl rfl ?_
      show Steps p.tables e below (T1.setTop (mkF m 8 #[.val (.ref a0r), .val (.ref a1r)] [(.ref a1r)])) _
      exact k
    obtain ⟨T3, X3, e3, st3⟩ := getF X1 hx hZ hown (host := "") (Or.inl (hw _ (List.mem_of_getElem? (i := 16) rfl))) Via.refl e1 P3 (g := (mkF m 8 #[.val (.ref a0r), .val (.ref a1r)] [(.ref a1r)])) rfl rfl (hb hby own_d2_8)
    refine own_go (T' := T3) (f' := (mkF m 11 #[.val (.ref a0r), .val (.ref a1r)] [(.int u2)])) st3 ?_
    by_cases hc11_4 : u2 = (0 : Int32)
    · skip
      refine own_go (T' := T3) (f' := (mkF m 31 #[.val (.ref a0r), .val (.ref a1r)] [(.int (0 : Int32))])) (fun t k => ?_) ?_
      · show Steps p.tables e below (T3.setTop (mkF m 11 #[.val (.ref a0r), .val (.ref a1r)] [(.int u2)])) _
        refine XS.ifYes X3.here hx rfl (pc0 := 11) (pc' := 30) rfl (hb hby own_d2_11) rfl ((if0 _ _).trans (teq hc11_4).1) (by decide) (by decide) ?_
        show Steps p.tables e below (T3.setTop (mkF m 30 #[.val (.ref a0r), .val (.ref a1r)] [])) _
        refine XS.iconst X3.here hx rfl (hb hby own_d2_30) ?_
        show Steps p.tables e below (T3.setTop (mkF m 31 #[.val (.ref a0r), .val (.ref a1r)] [(.int (0 : Int32))])) _
        exact k
      obtain ⟨fs, hr, hrun, hended, hW, hsame⟩ := X3.leave (v := some (.int (0 : Int32))) (fun h => by rw [Bd.returns] at h; cases h)
      refine ⟨_, _, ?_, hrun, hended, _, _, rfl, ?_, ⟨_, rfl⟩, hW, hsame.mono (by decide) (by decide)⟩
      · exact retN X3 hx (t := .boolean) Bd.returns (by simp) (hb hby own_d2_31) hr
      · show own_Q2 Z a0r a1r n1 u1 n2 u2 h0 n0 _ T3.heap _
        rw [e3]
        exact ⟨(by rw [own_F2, if_neg hc4_2, if_pos hc11_4]), N0, rfl⟩
    · skip
      refine own_go (T' := T3) (f' := (mkF m 15 #[.val (.ref a0r), .val (.ref a1r)] [(.ref a0r)])) (fun t k => ?_) ?_
      · show Steps p.tables e below (T3.setTop (mkF m 11 #[.val (.ref a0r), .val (.ref a1r)] [(.int u2)])) _
        refine XS.ifNo X3.here hx rfl (hb hby own_d2_11) rfl ((if0 _ _).trans (feq hc11_4).1) ?_
        show Steps p.tables e below (T3.setTop (mkF m 14 #[.val (.ref a0r), .val (.ref a1r)] [])) _
        refine XS.aloadN X3.here hx rfl (hb hby own_d2_14) rfl rfl ?_
        show Steps p.tables e below (T3.setTop (mkF m 15 #[.val (.ref a0r), .val (.ref a1r)] [(.ref a0r)])) _
        exact k
      obtain ⟨T5, X5, e5, st5⟩ := getF X3 hx hZ hown (host := "") (Or.inl (hw _ (List.mem_of_getElem? (i := 14) rfl))) Via.refl e3 P0 (g := (mkF m 15 #[.val (.ref a0r), .val (.ref a1r)] [(.ref a0r)])) rfl rfl (hb hby own_d2_15)
      refine own_go (T' := T5) (f' := (mkF m 18 #[.val (.ref a0r), .val (.ref a1r)] [(.long n1)])) st5 ?_
      refine own_go (T' := T5) (f' := (mkF m 19 #[.val (.ref a0r), .val (.ref a1r)] [(.ref a1r), (.long n1)])) (fun t k => ?_) ?_
      · show Steps p.tables e below (T5.setTop (mkF m 18 #[.val (.ref a0r), .val (.ref a1r)] [(.long n1)])) _
        refine XS.aloadN X5.here hx rfl (hb hby own_d2_18) rfl rfl ?_
        show Steps p.tables e below (T5.setTop (mkF m 19 #[.val (.ref a0r), .val (.ref a1r)] [(.ref a1r), (.long n1)])) _
        exact k
      obtain ⟨T6, X6, e6, st6⟩ := getF X5 hx hZ hown (host := "") (Or.inl (hw _ (List.mem_of_getElem? (i := 14) rfl))) Via.refl e5 P2 (g := (mkF m 19 #[.val (.ref a0r), .val (.ref a1r)] [(.ref a1r), (.long n1)])) rfl rfl (hb hby own_d2_19)
      refine own_go (T' := T6) (f' := (mkF m 22 #[.val (.ref a0r), .val (.ref a1r)] [(.long n2), (.long n1)])) st6 ?_
      refine own_go (T' := T6) (f' := (mkF m 23 #[.val (.ref a0r), .val (.ref a1r)] [(.int (lcmpW n1 n2))])) (fun t k => ?_) ?_
      · show Steps p.tables e below (T6.setTop (mkF m 22 #[.val (.ref a0r), .val (.ref a1r)] [(.long n2), (.long n1)])) _
        refine XS.lcmp X6.here hx rfl (hb hby own_d2_22) rfl ?_
        show Steps p.tables e below (T6.setTop (mkF m 23 #[.val (.ref a0r), .val (.ref a1r)] [(.int (lcmpW n1 n2))])) _
        exact k
      by_cases hc23_7 : n1 = n2
      · skip
        refine own_go (T' := T6) (f' := (mkF m 31 #[.val (.ref a0r), .val (.ref a1r)] [(.int (0 : Int32))])) (fun t k => ?_) ?_
        · show Steps p.tables e below (T6.setTop (mkF m 23 #[.val (.ref a0r), .val (.ref a1r)] [(.int (lcmpW n1 n2))])) _
          refine XS.ifYes X6.here hx rfl (pc0 := 23) (pc' := 30) rfl (hb hby own_d2_23) rfl ((if0 _ _).trans (teq ((lw_eq n1 n2).mpr hc23_7)).1) (by decide) (by decide) ?_
          show Steps p.tables e below (T6.setTop (mkF m 30 #[.val (.ref a0r), .val (.ref a1r)] [])) _
          refine XS.iconst X6.here hx rfl (hb hby own_d2_30) ?_
          show Steps p.tables e below (T6.setTop (mkF m 31 #[.val (.ref a0r), .val (.ref a1r)] [(.int (0 : Int32))])) _
          exact k
        obtain ⟨fs, hr, hrun, hended, hW, hsame⟩ := X6.leave (v := some (.int (0 : Int32))) (fun h => by rw [Bd.returns] at h; cases h)
        refine ⟨_, _, ?_, hrun, hended, _, _, rfl, ?_, ⟨_, rfl⟩, hW, hsame.mono (by decide) (by decide)⟩
        · exact retN X6 hx (t := .boolean) Bd.returns (by simp) (hb hby own_d2_31) hr
        · show own_Q2 Z a0r a1r n1 u1 n2 u2 h0 n0 _ T6.heap _
          rw [e6]
          exact ⟨(by rw [own_F2, if_neg hc4_2, if_neg hc11_4, if_pos hc23_7]), N0, rfl⟩
      · skip
        refine own_go (T' := T6) (f' := (mkF m 31 #[.val (.ref a0r), .val (.ref a1r)] [(.int (1 : Int32))])) (fun t k => ?_) ?_
        · show Steps p.tables e below (T6.setTop (mkF m 23 #[.val (.ref a0r), .val (.ref a1r)] [(.int (lcmpW n1 n2))])) _
          refine XS.ifNo X6.here hx rfl (hb hby own_d2_23) rfl ((if0 _ _).trans (feq (fun q => hc23_7 ((lw_eq n1 n2).mp q))).1) ?_
          show Steps p.tables e below (T6.setTop (mkF m 26 #[.val (.ref a0r), .val (.ref a1r)] [])) _
          refine XS.iconst X6.here hx rfl (hb hby own_d2_26) ?_
          show Steps p.tables e below (T6.setTop (mkF m 27 #[.val (.ref a0r), .val (.ref a1r)] [(.int (1 : Int32))])) _
          refine XS.goto X6.here hx rfl (pc0 := 27) (pc' := 31) rfl (hb hby own_d2_27) (by decide) (by decide) ?_
          show Steps p.tables e below (T6.setTop (mkF m 31 #[.val (.ref a0r), .val (.ref a1r)] [(.int (1 : Int32))])) _
          exact k
        obtain ⟨fs, hr, hrun, hended, hW, hsame⟩ := X6.leave (v := some (.int (1 : Int32))) (fun h => by rw [Bd.returns] at h; cases h)
        refine ⟨_, _, ?_, hrun, hended, _, _, rfl, ?_, ⟨_, rfl⟩, hW, hsame.mono (by decide) (by decide)⟩
        · exact retN X6 hx (t := .boolean) Bd.returns (by simp) (hb hby own_d2_31) hr
        · show own_Q2 Z a0r a1r n1 u1 n2 u2 h0 n0 _ T6.heap _
          rw [e6]
          exact ⟨(by rw [own_F2, if_neg hc4_2, if_neg hc11_4, if_neg hc23_7]), N0, rfl⟩
theorem own_pd1 : parseMethodDescriptor "(JZ)V" = some ⟨[.long, .boolean], none⟩ := by decide +kernel
theorem own_pd2 : parseMethodDescriptor "(Lcom/example/tracecourt/tracecourt/eval/Symmetry$Mark;)Z" = some ⟨[(.object "com/example/tracecourt/tracecourt/eval/Symmetry$Mark")], some .boolean⟩ := by decide +kernel
theorem own_pn2 : plainName "com/example/tracecourt/tracecourt/eval/MarkApartFromPinLaw" = true := by first | (simp [plainName, overriddenIn]; done) | decide +kernel
theorem own_ef0 (m : MethodId) (q0 : Int64) (q1 : Int64) (p2 : Int32) : entryFrame m #[(.long q0), (.long q1), (.int p2)] maxLocals = mkF m 0 #[.val (.long q0), .second, .val (.long q1), .second, .val (.int p2), .unset, .unset, .unset, .unset, .unset, .unset, .unset, .unset, .unset, .unset] [] := by first | (simp [entryFrame, mkF, argsToLocals, Value.category, maxLocals]; done) | rfl
def own_SA (q0 : Int64) (q1 : Int64) (p2 : Int32) : Int32 := (if (p2 &&& (1 : Int32)) = (0 : Int32) then (0 : Int32) else (1 : Int32))
def own_SB (q0 : Int64) (q1 : Int64) (p2 : Int32) : Int32 := (if (p2 &&& (2 : Int32)) = (0 : Int32) then (0 : Int32) else (1 : Int32))
def own_NB (q0 : Int64) (q1 : Int64) (p2 : Int32) : Int64 := (if (p2 &&& (4 : Int32)) = (0 : Int32) then q1 else q0)
def own_EX (q0 : Int64) (q1 : Int64) (p2 : Int32) : Int32 := (if (own_SA q0 q1 p2) = (0 : Int32) then (0 : Int32) else (if (own_SB q0 q1 p2) = (0 : Int32) then (0 : Int32) else (if q0 = (own_NB q0 q1 p2) then (0 : Int32) else (1 : Int32))))
def own_F0 (q0 : Int64) (q1 : Int64) (p2 : Int32) : Int32 := (if (own_F2 q0 (nar .boolean (own_SA q0 q1 p2)) (own_NB q0 q1 p2) (nar .boolean (own_SB q0 q1 p2))) = (own_EX q0 q1 p2) then (if (own_F2 (own_NB q0 q1 p2) (nar .boolean (own_SB q0 q1 p2)) q0 (nar .boolean (own_SA q0 q1 p2))) = (own_EX q0 q1 p2) then (if (own_F2 q0 (nar .boolean (own_SA q0 q1 p2)) q0 (nar .boolean (own_SA q0 q1 p2))) = (0 : Int32) then (1 : Int32) else (0 : Int32)) else (0 : Int32)) else (0 : Int32))
theorem own_law (q0 q1 : Int64) (p2 : Int32) : own_F0 q0 q1 p2 = 1 := by
  have s : ∀ b : Int32, (b = 0 ∨ b = 1) → nar .boolean b = b := fun b h => by rcases h with rfl | rfl <;> rfl
  have a : own_SA q0 q1 p2 = 0 ∨ own_SA q0 q1 p2 = 1 := by unfold own_SA; split <;> simp
  have b : own_SB q0 q1 p2 = 0 ∨ own_SB q0 q1 p2 = 1 := by unfold own_SB; split <;> simp
  have g1 : own_F2 q0 (nar .boolean (own_SA q0 q1 p2)) (own_NB q0 q1 p2) (nar .boolean (own_SB q0 q1 p2)) = own_EX q0 q1 p2 := by rw [s _ a, s _ b]; rfl
  have g2 : own_F2 (own_NB q0 q1 p2) (nar .boolean (own_SB q0 q1 p2)) q0 (nar .boolean (own_SA q0 q1 p2)) = own_EX q0 q1 p2 := by
    rw [s _ a, s _ b, own_F2, own_EX]
    by_cases h1 : own_SA q0 q1 p2 = (0 : Int32)
    · rw [if_pos h1, if_pos h1]; split <;> rfl
    · rw [if_neg h1, if_neg h1]
      by_cases h2 : own_SB q0 q1 p2 = (0 : Int32)
      · rw [if_pos h2, if_pos h2]
      · rw [if_neg h2, if_neg h2]
        by_cases h3 : q0 = own_NB q0 q1 p2
        · rw [if_pos h3, if_pos h3.symm]
        · rw [if_neg h3, if_neg (fun q => h3 q.symm)]
  have g3 : own_F2 q0 (nar .boolean (own_SA q0 q1 p2)) q0 (nar .boolean (own_SA q0 q1 p2)) = (0 : Int32) := by
    rw [own_F2]
    by_cases h : nar .boolean (own_SA q0 q1 p2) = (0 : Int32)
    · rw [if_pos h]
    · rw [if_neg h, if_neg h, if_pos rfl]
  rw [own_F0, if_pos g1, if_pos g2, if_pos g3]
def own_Q0 (Z : State) (q0 : Int64) (q1 : Int64) (p2 : Int32) (h0 : Heap) (n0 : Nat) (v : Option Value) (h : Heap) (L : List Loc) : Prop := (v = some (.int (1 : Int32))) ∧ (Fr n0 L)
set_option maxRecDepth 65536 in
set_option maxHeartbeats 40000000 in
theorem own_rm0 (l : Launch) (Z : State) (a0 : Array Value) (hw : ∀ d ∈ tables_1, d.before a0 Z = true) (ws : List Jvm.Cond) (q0 : Int64) (q1 : Int64) (p2 : Int32) (h0 : Heap) (n0 : Nat) (Z0 : n0 ≤ h0.size) :
    MetFree l x (head1 (Jvm.Cond.code x code maxLocals ret :: ws) room_1) (fun a U => a = #[(.long q0), (.long q1), (.int p2)] ∧ Z.Warmed39 U.vm ∧ U.heap = h0) (fun _ _ _ _ _ => True) (fun _ U o U' => ∃ v L, o = .returned v ∧ own_Q0 Z q0 q1 p2 h0 n0 v U'.heap L ∧ FrameEnd U o U' L 16 128) := by
  refine MetFree.of_bodySF (plainFor_of_name own_pn2) hisR ?_
  intro p e s m args below meth c s₁ Bd hml0 hP hK
  obtain ⟨rfl, hZ, hh⟩ := hP
  have hx := Bd.exec
  have hby := Bd.bytes
  have hml : c.maxLocals = 15 := hml0
  have hown : s.vm.findClass "com/example/tracecourt/tracecourt/eval/MarkApartFromPinLaw" = some m.cls := findClass_of_methodNamed Bd.named
  have hnm := (name_of_methodNamed Bd.named Bd.method).1
  have X0 : Stand p l e room_1 s m #[(.long q0), (.long q1), (.int p2)] below meth c s₁ [] 0 0 := Stand.of_body Bd
  have e0 : s₁.heap = h0 := by rw [← hh, Bd.state]; rfl
  have N0 := Fr.nil n0
  refine own_go (fun t k => castTop (own_ef0 m q0 q1 p2) k) ?_
  refine own_go (T' := s₁) (f' := (mkF m 4 #[.val (.long q0), .second, .val (.long q1), .second, .val (.int p2), .unset, .unset, .unset, .unset, .unset, .unset, .unset, .unset, .unset, .unset] [(.int (p2 &&& (1 : Int32)))])) (fun t k => ?_) ?_
  · show Steps p.tables e below (s₁.setTop (mkF m 0 #[.val (.long q0), .second, .val (.long q1), .second, .val (.int p2), .unset, .unset, .unset, .unset, .unset, .unset, .unset, .unset, .unset, .unset] [])) _
    refine XS.iload X0.here hx rfl (hb hby at_0) rfl ?_
    show Steps p.tables e below (s₁.setTop (mkF m 2 #[.val (.long q0), .second, .val (.long q1), .second, .val (.int p2), .unset, .unset, .unset, .unset, .unset, .unset, .unset, .unset, .unset, .unset] [(.int p2)])) _
    refine XS.iconst X0.here hx rfl (hb hby at_2) ?_
    show Steps p.tables e below (s₁.setTop (mkF m 3 #[.val (.long q0), .second, .val (.long q1), .second, .val (.int p2), .unset, .unset, .unset, .unset, .unset, .unset, .unset, .unset, .unset, .unset] [(.int (1 : Int32)), (.int p2)])) _
    refine XS.iand X0.here hx rfl (hb hby at_3) rfl ?_
    show Steps p.tables e below (s₁.setTop (mkF m 4 #[.val (.long q0), .second, .val (.long q1), .second, .val (.int p2), .unset, .unset, .unset, .unset, .unset, .unset, .unset, .unset, .unset, .unset] [(.int (p2 &&& (1 : Int32)))])) _
    exact k
  refine own_go (T' := s₁) (f' := (mkF m 12 #[.val (.long q0), .second, .val (.long q1), .second, .val (.int p2), .unset, .unset, .unset, .unset, .unset, .unset, .unset, .unset, .unset, .unset] [(.int (if (p2 &&& (1 : Int32)) = (0 : Int32) then (0 : Int32) else (1 : Int32)))])) (fun t k => ?_) ?_
  · show Steps p.tables e below (s₁.setTop (mkF m 4 #[.val (.long q0), .second, .val (.long q1), .second, .val (.int p2), .unset, .unset, .unset, .unset, .unset, .unset, .unset, .unset, .unset, .unset] [(.int (p2 &&& (1 : Int32)))])) _
    by_cases hc4_1 : (p2 &&& (1 : Int32)) = (0 : Int32)
    · skip
      refine XS.ifYes X0.here hx rfl (pc0 := 4) (pc' := 11) rfl (hb hby at_4) rfl ((if0 _ _).trans (teq hc4_1).1) (by decide) (by decide) ?_
      show Steps p.tables e below (s₁.setTop (mkF m 11 #[.val (.long q0), .second, .val (.long q1), .second, .val (.int p2), .unset, .unset, .unset, .unset, .unset, .unset, .unset, .unset, .unset, .unset] [])) _
      refine XS.iconst X0.here hx rfl (hb hby at_11) ?_
      show Steps p.tables e below (s₁.setTop (mkF m 12 #[.val (.long q0), .second, .val (.long q1), .second, .val (.int p2), .unset, .unset, .unset, .unset, .unset, .unset, .unset, .unset, .unset, .unset] [(.int (0 : Int32))])) _
      simp only [if_pos hc4_1] at k
      exact k
    · skip
      refine XS.ifNo X0.here hx rfl (hb hby at_4) rfl ((if0 _ _).trans (feq hc4_1).1) ?_
      show Steps p.tables e below (s₁.setTop (mkF m 7 #[.val (.long q0), .second, .val (.long q1), .second, .val (.int p2), .unset, .unset, .unset, .unset, .unset, .unset, .unset, .unset, .unset, .unset] [])) _
      refine XS.iconst X0.here hx rfl (hb hby at_7) ?_
      show Steps p.tables e below (s₁.setTop (mkF m 8 #[.val (.long q0), .second, .val (.long q1), .second, .val (.int p2), .unset, .unset, .unset, .unset, .unset, .unset, .unset, .unset, .unset, .unset] [(.int (1 : Int32))])) _
      refine XS.goto X0.here hx rfl (pc0 := 8) (pc' := 12) rfl (hb hby at_8) (by decide) (by decide) ?_
      show Steps p.tables e below (s₁.setTop (mkF m 12 #[.val (.long q0), .second, .val (.long q1), .second, .val (.int p2), .unset, .unset, .unset, .unset, .unset, .unset, .unset, .unset, .unset, .unset] [(.int (1 : Int32))])) _
      simp only [if_neg hc4_1] at k
      exact k
  refine own_go (T' := s₁) (f' := (mkF m 12 #[.val (.long q0), .second, .val (.long q1), .second, .val (.int p2), .unset, .unset, .unset, .unset, .unset, .unset, .unset, .unset, .unset, .unset] [(.int (own_SA q0 q1 p2))])) (fun t k => k) ?_
  refine own_go (T' := s₁) (f' := (mkF m 18 #[.val (.long q0), .second, .val (.long q1), .second, .val (.int p2), .val (.int (own_SA q0 q1 p2)), .unset, .unset, .unset, .unset, .unset, .unset, .unset, .unset, .unset] [(.int (p2 &&& (2 : Int32)))])) (fun t k => ?_) ?_
  · show Steps p.tables e below (s₁.setTop (mkF m 12 #[.val (.long q0), .second, .val (.long q1), .second, .val (.int p2), .unset, .unset, .unset, .unset, .unset, .unset, .unset, .unset, .unset, .unset] [(.int (own_SA q0 q1 p2))])) _
    refine XS.istore X0.here hx rfl (hb hby at_12) rfl (l' := #[.val (.long q0), .second, .val (.long q1), .second, .val (.int p2), .val (.int (own_SA q0 q1 p2)), .unset, .unset, .unset, .unset, .unset, .unset, .unset, .unset, .unset]) rfl ?_
    show Steps p.tables e below (s₁.setTop (mkF m 14 #[.val (.long q0), .second, .val (.long q1), .second, .val (.int p2), .val (.int (own_SA q0 q1 p2)), .unset, .unset, .unset, .unset, .unset, .unset, .unset, .unset, .unset] [])) _
    refine XS.iload X0.here hx rfl (hb hby at_14) rfl ?_
    show Steps p.tables e below (s₁.setTop (mkF m 16 #[.val (.long q0), .second, .val (.long q1), .second, .val (.int p2), .val (.int (own_SA q0 q1 p2)), .unset, .unset, .unset, .unset, .unset, .unset, .unset, .unset, .unset] [(.int p2)])) _
    refine XS.iconst X0.here hx rfl (hb hby at_16) ?_
    show Steps p.tables e below (s₁.setTop (mkF m 17 #[.val (.long q0), .second, .val (.long q1), .second, .val (.int p2), .val (.int (own_SA q0 q1 p2)), .unset, .unset, .unset, .unset, .unset, .unset, .unset, .unset, .unset] [(.int (2 : Int32)), (.int p2)])) _
    refine XS.iand X0.here hx rfl (hb hby at_17) rfl ?_
    show Steps p.tables e below (s₁.setTop (mkF m 18 #[.val (.long q0), .second, .val (.long q1), .second, .val (.int p2), .val (.int (own_SA q0 q1 p2)), .unset, .unset, .unset, .unset, .unset, .unset, .unset, .unset, .unset] [(.int (p2 &&& (2 : Int32)))])) _
    exact k
  refine own_go (T' := s₁) (f' := (mkF m 26 #[.val (.long q0), .second, .val (.long q1), .second, .val (.int p2), .val (.int (own_SA q0 q1 p2)), .unset, .unset, .unset, .unset, .unset, .unset, .unset, .unset, .unset] [(.int (if (p2 &&& (2 : Int32)) = (0 : Int32) then (0 : Int32) else (1 : Int32)))])) (fun t k => ?_) ?_
  · show Steps p.tables e below (s₁.setTop (mkF m 18 #[.val (.long q0), .second, .val (.long q1), .second, .val (.int p2), .val (.int (own_SA q0 q1 p2)), .unset, .unset, .unset, .unset, .unset, .unset, .unset, .unset, .unset] [(.int (p2 &&& (2 : Int32)))])) _
    by_cases hc18_2 : (p2 &&& (2 : Int32)) = (0 : Int32)
    · skip
      refine XS.ifYes X0.here hx rfl (pc0 := 18) (pc' := 25) rfl (hb hby at_18) rfl ((if0 _ _).trans (teq hc18_2).1) (by decide) (by decide) ?_
      show Steps p.tables e below (s₁.setTop (mkF m 25 #[.val (.long q0), .second, .val (.long q1), .second, .val (.int p2), .val (.int (own_SA q0 q1 p2)), .unset, .unset, .unset, .unset, .unset, .unset, .unset, .unset, .unset] [])) _
      refine XS.iconst X0.here hx rfl (hb hby at_25) ?_
      show Steps p.tables e below (s₁.setTop (mkF m 26 #[.val (.long q0), .second, .val (.long q1), .second, .val (.int p2), .val (.int (own_SA q0 q1 p2)), .unset, .unset, .unset, .unset, .unset, .unset, .unset, .unset, .unset] [(.int (0 : Int32))])) _
      simp only [if_pos hc18_2] at k
      exact k
    · skip
      refine XS.ifNo X0.here hx rfl (hb hby at_18) rfl ((if0 _ _).trans (feq hc18_2).1) ?_
      show Steps p.tables e below (s₁.setTop (mkF m 21 #[.val (.long q0), .second, .val (.long q1), .second, .val (.int p2), .val (.int (own_SA q0 q1 p2)), .unset, .unset, .unset, .unset, .unset, .unset, .unset, .unset, .unset] [])) _
      refine XS.iconst X0.here hx rfl (hb hby at_21) ?_
      show Steps p.tables e below (s₁.setTop (mkF m 22 #[.val (.long q0), .second, .val (.long q1), .second, .val (.int p2), .val (.int (own_SA q0 q1 p2)), .unset, .unset, .unset, .unset, .unset, .unset, .unset, .unset, .unset] [(.int (1 : Int32))])) _
      refine XS.goto X0.here hx rfl (pc0 := 22) (pc' := 26) rfl (hb hby at_22) (by decide) (by decide) ?_
      show Steps p.tables e below (s₁.setTop (mkF m 26 #[.val (.long q0), .second, .val (.long q1), .second, .val (.int p2), .val (.int (own_SA q0 q1 p2)), .unset, .unset, .unset, .unset, .unset, .unset, .unset, .unset, .unset] [(.int (1 : Int32))])) _
      simp only [if_neg hc18_2] at k
      exact k
  refine own_go (T' := s₁) (f' := (mkF m 26 #[.val (.long q0), .second, .val (.long q1), .second, .val (.int p2), .val (.int (own_SA q0 q1 p2)), .unset, .unset, .unset, .unset, .unset, .unset, .unset, .unset, .unset] [(.int (own_SB q0 q1 p2))])) (fun t k => k) ?_
  refine own_go (T' := s₁) (f' := (mkF m 32 #[.val (.long q0), .second, .val (.long q1), .second, .val (.int p2), .val (.int (own_SA q0 q1 p2)), .val (.int (own_SB q0 q1 p2)), .unset, .unset, .unset, .unset, .unset, .unset, .unset, .unset] [(.int (p2 &&& (4 : Int32)))])) (fun t k => ?_) ?_
  · show Steps p.tables e below (s₁.setTop (mkF m 26 #[.val (.long q0), .second, .val (.long q1), .second, .val (.int p2), .val (.int (own_SA q0 q1 p2)), .unset, .unset, .unset, .unset, .unset, .unset, .unset, .unset, .unset] [(.int (own_SB q0 q1 p2))])) _
    refine XS.istore X0.here hx rfl (hb hby at_26) rfl (l' := #[.val (.long q0), .second, .val (.long q1), .second, .val (.int p2), .val (.int (own_SA q0 q1 p2)), .val (.int (own_SB q0 q1 p2)), .unset, .unset, .unset, .unset, .unset, .unset, .unset, .unset]) rfl ?_
    show Steps p.tables e below (s₁.setTop (mkF m 28 #[.val (.long q0), .second, .val (.long q1), .second, .val (.int p2), .val (.int (own_SA q0 q1 p2)), .val (.int (own_SB q0 q1 p2)), .unset, .unset, .unset, .unset, .unset, .unset, .unset, .unset] [])) _
    refine XS.iload X0.here hx rfl (hb hby at_28) rfl ?_
    show Steps p.tables e below (s₁.setTop (mkF m 30 #[.val (.long q0), .second, .val (.long q1), .second, .val (.int p2), .val (.int (own_SA q0 q1 p2)), .val (.int (own_SB q0 q1 p2)), .unset, .unset, .unset, .unset, .unset, .unset, .unset, .unset] [(.int p2)])) _
    refine XS.iconst X0.here hx rfl (hb hby at_30) ?_
    show Steps p.tables e below (s₁.setTop (mkF m 31 #[.val (.long q0), .second, .val (.long q1), .second, .val (.int p2), .val (.int (own_SA q0 q1 p2)), .val (.int (own_SB q0 q1 p2)), .unset, .unset, .unset, .unset, .unset, .unset, .unset, .unset] [(.int (4 : Int32)), (.int p2)])) _
    refine XS.iand X0.here hx rfl (hb hby at_31) rfl ?_
    show Steps p.tables e below (s₁.setTop (mkF m 32 #[.val (.long q0), .second, .val (.long q1), .second, .val (.int p2), .val (.int (own_SA q0 q1 p2)), .val (.int (own_SB q0 q1 p2)), .unset, .unset, .unset, .unset, .unset, .unset, .unset, .unset] [(.int (p2 &&& (4 : Int32)))])) _
    exact k
  refine own_go (T' := s₁) (f' := (mkF m 40 #[.val (.long q0), .second, .val (.long q1), .second, .val (.int p2), .val (.int (own_SA q0 q1 p2)), .val (.int (own_SB q0 q1 p2)), .unset, .unset, .unset, .unset, .unset, .unset, .unset, .unset] [(.long (if (p2 &&& (4 : Int32)) = (0 : Int32) then q1 else q0))])) (fun t k => ?_) ?_
  · show Steps p.tables e below (s₁.setTop (mkF m 32 #[.val (.long q0), .second, .val (.long q1), .second, .val (.int p2), .val (.int (own_SA q0 q1 p2)), .val (.int (own_SB q0 q1 p2)), .unset, .unset, .unset, .unset, .unset, .unset, .unset, .unset] [(.int (p2 &&& (4 : Int32)))])) _
    by_cases hc32_3 : (p2 &&& (4 : Int32)) = (0 : Int32)
    · skip
      refine XS.ifYes X0.here hx rfl (pc0 := 32) (pc' := 39) rfl (hb hby at_32) rfl ((if0 _ _).trans (teq hc32_3).1) (by decide) (by decide) ?_
      show Steps p.tables e below (s₁.setTop (mkF m 39 #[.val (.long q0), .second, .val (.long q1), .second, .val (.int p2), .val (.int (own_SA q0 q1 p2)), .val (.int (own_SB q0 q1 p2)), .unset, .unset, .unset, .unset, .unset, .unset, .unset, .unset] [])) _
      refine XS.lloadN X0.here hx rfl (hb hby at_39) rfl ?_
      show Steps p.tables e below (s₁.setTop (mkF m 40 #[.val (.long q0), .second, .val (.long q1), .second, .val (.int p2), .val (.int (own_SA q0 q1 p2)), .val (.int (own_SB q0 q1 p2)), .unset, .unset, .unset, .unset, .unset, .unset, .unset, .unset] [(.long q1)])) _
      simp only [if_pos hc32_3] at k
      exact k
    · skip
      refine XS.ifNo X0.here hx rfl (hb hby at_32) rfl ((if0 _ _).trans (feq hc32_3).1) ?_
      show Steps p.tables e below (s₁.setTop (mkF m 35 #[.val (.long q0), .second, .val (.long q1), .second, .val (.int p2), .val (.int (own_SA q0 q1 p2)), .val (.int (own_SB q0 q1 p2)), .unset, .unset, .unset, .unset, .unset, .unset, .unset, .unset] [])) _
      refine XS.lloadN X0.here hx rfl (hb hby at_35) rfl ?_
      show Steps p.tables e below (s₁.setTop (mkF m 36 #[.val (.long q0), .second, .val (.long q1), .second, .val (.int p2), .val (.int (own_SA q0 q1 p2)), .val (.int (own_SB q0 q1 p2)), .unset, .unset, .unset, .unset, .unset, .unset, .unset, .unset] [(.long q0)])) _
      refine XS.goto X0.here hx rfl (pc0 := 36) (pc' := 40) rfl (hb hby at_36) (by decide) (by decide) ?_
      show Steps p.tables e below (s₁.setTop (mkF m 40 #[.val (.long q0), .second, .val (.long q1), .second, .val (.int p2), .val (.int (own_SA q0 q1 p2)), .val (.int (own_SB q0 q1 p2)), .unset, .unset, .unset, .unset, .unset, .unset, .unset, .unset] [(.long q0)])) _
      simp only [if_neg hc32_3] at k
      exact k
  refine own_go (T' := s₁) (f' := (mkF m 40 #[.val (.long q0), .second, .val (.long q1), .second, .val (.int p2), .val (.int (own_SA q0 q1 p2)), .val (.int (own_SB q0 q1 p2)), .unset, .unset, .unset, .unset, .unset, .unset, .unset, .unset] [(.long (own_NB q0 q1 p2))])) (fun t k => k) ?_
  refine own_go (T' := s₁) (f' := (mkF m 42 #[.val (.long q0), .second, .val (.long q1), .second, .val (.int p2), .val (.int (own_SA q0 q1 p2)), .val (.int (own_SB q0 q1 p2)), .val (.long (own_NB q0 q1 p2)), .second, .unset, .unset, .unset, .unset, .unset, .unset] [])) (fun t k => ?_) ?_
  · show Steps p.tables e below (s₁.setTop (mkF m 40 #[.val (.long q0), .second, .val (.long q1), .second, .val (.int p2), .val (.int (own_SA q0 q1 p2)), .val (.int (own_SB q0 q1 p2)), .unset, .unset, .unset, .unset, .unset, .unset, .unset, .unset] [(.long (own_NB q0 q1 p2))])) _
    refine XS.lstore X0.here hx rfl (hb hby at_40) rfl (l' := #[.val (.long q0), .second, .val (.long q1), .second, .val (.int p2), .val (.int (own_SA q0 q1 p2)), .val (.int (own_SB q0 q1 p2)), .val (.long (own_NB q0 q1 p2)), .second, .unset, .unset, .unset, .unset, .unset, .unset]) rfl ?_
    show Steps p.tables e below (s₁.setTop (mkF m 42 #[.val (.long q0), .second, .val (.long q1), .second, .val (.int p2), .val (.int (own_SA q0 q1 p2)), .val (.int (own_SB q0 q1 p2)), .val (.long (own_NB q0 q1 p2)), .second, .unset, .unset, .unset, .unset, .unset, .unset] [])) _
    exact k
  obtain ⟨T4, h4, X4, e4, E4, A4, D4, -, st4⟩ := newO X0 hx hZ hown (hw _ (List.mem_of_getElem? (i := 0) rfl)) (hw _ (List.mem_of_getElem? (i := 1) rfl)) (hw _ (List.mem_of_getElem? (i := 2) rfl)) e0 (g := (mkF m 42 #[.val (.long q0), .second, .val (.long q1), .second, .val (.int p2), .val (.int (own_SA q0 q1 p2)), .val (.int (own_SB q0 q1 p2)), .val (.long (own_NB q0 q1 p2)), .second, .unset, .unset, .unset, .unset, .unset, .unset] [])) rfl (hb hby at_42) (by decide) (by decide)
  obtain ⟨b4, g4⟩ : ∃ z, z = h0.size := ⟨_, rfl⟩
  rw [← g4] at A4 D4 st4
  have g_b4 : n0 ≤ b4 := Nat.le_trans Z0 (Nat.le_of_eq g4.symm)
  refine own_go (T' := T4) (f' := (mkF m 45 #[.val (.long q0), .second, .val (.long q1), .second, .val (.int p2), .val (.int (own_SA q0 q1 p2)), .val (.int (own_SB q0 q1 p2)), .val (.long (own_NB q0 q1 p2)), .second, .unset, .unset, .unset, .unset, .unset, .unset] [(.ref b4)])) st4 ?_
  have Zs4 : n0 ≤ h4.size := Nat.le_trans Z0 E4.1
  have fc5 : Fld Z h4 b4 "com/example/tracecourt/tracecourt/eval/Symmetry$Mark" "number" "J" (.long (0 : Int64)) := D4 (Or.inr (hw _ (List.mem_of_getElem? (i := 15) rfl))) (ty := .long) (by decide)
  have fc6 : Fld Z h4 b4 "com/example/tracecourt/tracecourt/eval/Symmetry$Mark" "sure" "Z" (.int (0 : Int32)) := D4 (Or.inr (hw _ (List.mem_of_getElem? (i := 17) rfl))) (ty := .boolean) (by decide)
  refine own_go (T' := T4) (f' := (mkF m 49 #[.val (.long q0), .second, .val (.long q1), .second, .val (.int p2), .val (.int (own_SA q0 q1 p2)), .val (.int (own_SB q0 q1 p2)), .val (.long (own_NB q0 q1 p2)), .second, .unset, .unset, .unset, .unset, .unset, .unset] [(.int (own_SA q0 q1 p2)), (.long q0), (.ref b4), (.ref b4)])) (fun t k => ?_) ?_
  · show Steps p.tables e below (T4.setTop (mkF m 45 #[.val (.long q0), .second, .val (.long q1), .second, .val (.int p2), .val (.int (own_SA q0 q1 p2)), .val (.int (own_SB q0 q1 p2)), .val (.long (own_NB q0 q1 p2)), .second, .unset, .unset, .unset, .unset, .unset, .unset] [(.ref b4)])) _
    refine XS.dup X4.here hx rfl (hb hby at_45) rfl rfl ?_
    show Steps p.tables e below (T4.setTop (mkF m 46 #[.val (.long q0), .second, .val (.long q1), .second, .val (.int p2), .val (.int (own_SA q0 q1 p2)), .val (.int (own_SB q0 q1 p2)), .val (.long (own_NB q0 q1 p2)), .second, .unset, .unset, .unset, .unset, .unset, .unset] [(.ref b4), (.ref b4)])) _
    refine XS.lloadN X4.here hx rfl (hb hby at_46) rfl ?_
    show Steps p.tables e below (T4.setTop (mkF m 47 #[.val (.long q0), .second, .val (.long q1), .second, .val (.int p2), .val (.int (own_SA q0 q1 p2)), .val (.int (own_SB q0 q1 p2)), .val (.long (own_NB q0 q1 p2)), .second, .unset, .unset, .unset, .unset, .unset, .unset] [(.long q0), (.ref b4), (.ref b4)])) _
    refine XS.iload X4.here hx rfl (hb hby at_47) rfl ?_
    show Steps p.tables e below (T4.setTop (mkF m 49 #[.val (.long q0), .second, .val (.long q1), .second, .val (.int p2), .val (.int (own_SA q0 q1 p2)), .val (.int (own_SB q0 q1 p2)), .val (.long (own_NB q0 q1 p2)), .second, .unset, .unset, .unset, .unset, .unset, .unset] [(.int (own_SA q0 q1 p2)), (.long q0), (.ref b4), (.ref b4)])) _
    exact k
  obtain ⟨_, _, ⟨T7, Lq7, kq7, nq7⟩, -, X7, ⟨Lc7, hQ7, lq7, yq7, zq7⟩, st7⟩ := X4.specialBack hx (y := (⟨"com/example/tracecourt/tracecourt/eval/Symmetry$Mark", "<init>", "(JZ)V"⟩ : MethodName)) rfl hown (mvT hZ (hw _ (List.mem_of_getElem? (i := 3) rfl))) (mvT hZ (hw _ (List.mem_of_getElem? (i := 4) rfl))) (mvT hZ (hw _ (List.mem_of_getElem? (i := 5) rfl))) (by decide) (backOf (W := 1) (own_rm1 l Z a0 hw [] b4 q0 ((own_SA q0 q1 p2))  h4 n0 Zs4 A4 fc5 fc6 g_b4) hZ (hw _ (List.mem_of_getElem? (i := 5) rfl)) (hw _ (List.mem_of_getElem? (i := 2) rfl)) (by decide) (by decide)) (g := (mkF m 49 #[.val (.long q0), .second, .val (.long q1), .second, .val (.int p2), .val (.int (own_SA q0 q1 p2)), .val (.int (own_SB q0 q1 p2)), .val (.long (own_NB q0 q1 p2)), .second, .unset, .unset, .unset, .unset, .unset, .unset] [(.int (own_SA q0 q1 p2)), (.long q0), (.ref b4), (.ref b4)])) rfl (by rw [hml]; rfl) (Steps.refl _) (a := b4) (argsL := [(.long q0), (.int (own_SA q0 q1 p2))]) (rest := [(.ref b4)]) (lenOf own_pd1 rfl) rfl (by show 2 * 0 + _ ≤ _; exact Nat.le_of_eq rfl) (hb hby at_49) (fun _ _ => ⟨rfl, e4, (by decide : 1 + 0 ≤ _), (by decide : 2 + 0 ≤ _)⟩)
  dsimp only [Pt.U, Pt.locs, Pt.cells, Pt.slots] at X7 lq7 yq7 zq7 st7 hQ7
  subst lq7 yq7 zq7
  obtain ⟨rfl, N7q, h7q, p7_0, p7_1⟩ := hQ7
  have N7 := Fr.app N0 N7q
  have fc8 : Exa Z T7.heap b4 "com/example/tracecourt/tracecourt/eval/Symmetry$Mark" := A4.keep h7q
  have Zs7 : n0 ≤ T7.heap.size := Nat.le_trans Zs4 h7q.1
  refine own_go (T' := T7) (f' := (mkF m 52 #[.val (.long q0), .second, .val (.long q1), .second, .val (.int p2), .val (.int (own_SA q0 q1 p2)), .val (.int (own_SB q0 q1 p2)), .val (.long (own_NB q0 q1 p2)), .second, .unset, .unset, .unset, .unset, .unset, .unset] [(.ref b4)])) (fun t k => st7.trans k) ?_
  refine own_go (T' := T7) (f' := (mkF m 54 #[.val (.long q0), .second, .val (.long q1), .second, .val (.int p2), .val (.int (own_SA q0 q1 p2)), .val (.int (own_SB q0 q1 p2)), .val (.long (own_NB q0 q1 p2)), .second, .val (.ref b4), .unset, .unset, .unset, .unset, .unset] [])) (fun t k => ?_) ?_
  · show Steps p.tables e below (T7.setTop (mkF m 52 #[.val (.long q0), .second, .val (.long q1), .second, .val (.int p2), .val (.int (own_SA q0 q1 p2)), .val (.int (own_SB q0 q1 p2)), .val (.long (own_NB q0 q1 p2)), .second, .unset, .unset, .unset, .unset, .unset, .unset] [(.ref b4)])) _
    refine XS.astore X7.here hx rfl (hb hby at_52) rfl rfl (l' := #[.val (.long q0), .second, .val (.long q1), .second, .val (.int p2), .val (.int (own_SA q0 q1 p2)), .val (.int (own_SB q0 q1 p2)), .val (.long (own_NB q0 q1 p2)), .second, .val (.ref b4), .unset, .unset, .unset, .unset, .unset]) rfl ?_
    show Steps p.tables e below (T7.setTop (mkF m 54 #[.val (.long q0), .second, .val (.long q1), .second, .val (.int p2), .val (.int (own_SA q0 q1 p2)), .val (.int (own_SB q0 q1 p2)), .val (.long (own_NB q0 q1 p2)), .second, .val (.ref b4), .unset, .unset, .unset, .unset, .unset] [])) _
    exact k
  obtain ⟨T9, h9, X9, e9, E9, A9, D9, -, st9⟩ := newO X7 hx hZ hown (hw _ (List.mem_of_getElem? (i := 0) rfl)) (hw _ (List.mem_of_getElem? (i := 1) rfl)) (hw _ (List.mem_of_getElem? (i := 2) rfl)) rfl (g := (mkF m 54 #[.val (.long q0), .second, .val (.long q1), .second, .val (.int p2), .val (.int (own_SA q0 q1 p2)), .val (.int (own_SB q0 q1 p2)), .val (.long (own_NB q0 q1 p2)), .second, .val (.ref b4), .unset, .unset, .unset, .unset, .unset] [])) rfl (hb hby at_54) (by decide) (by decide)
  obtain ⟨b9, g9⟩ : ∃ z, z = T7.heap.size := ⟨_, rfl⟩
  rw [← g9] at A9 D9 st9
  have ne_b4_b9 : b4 ≠ b9 := Nat.ne_of_lt (Nat.lt_of_lt_of_le fc8.lt (Nat.le_of_eq g9.symm))
  have g_b9 : n0 ≤ b9 := Nat.le_trans Zs7 (Nat.le_of_eq g9.symm)
  refine own_go (T' := T9) (f' := (mkF m 57 #[.val (.long q0), .second, .val (.long q1), .second, .val (.int p2), .val (.int (own_SA q0 q1 p2)), .val (.int (own_SB q0 q1 p2)), .val (.long (own_NB q0 q1 p2)), .second, .val (.ref b4), .unset, .unset, .unset, .unset, .unset] [(.ref b9)])) st9 ?_
  have fc10 : Exa Z h9 b4 "com/example/tracecourt/tracecourt/eval/Symmetry$Mark" := fc8.ext E9
  have fc11 : Fld Z h9 b4 "com/example/tracecourt/tracecourt/eval/Symmetry$Mark" "number" "J" (.long q0) := p7_0.ext E9
  have fc12 : Fld Z h9 b4 "com/example/tracecourt/tracecourt/eval/Symmetry$Mark" "sure" "Z" (.int (nar .boolean (own_SA q0 q1 p2))) := p7_1.ext E9
  have Zs9 : n0 ≤ h9.size := Nat.le_trans Zs7 E9.1
  have fc13 : Fld Z h9 b9 "com/example/tracecourt/tracecourt/eval/Symmetry$Mark" "number" "J" (.long (0 : Int64)) := D9 (Or.inr (hw _ (List.mem_of_getElem? (i := 15) rfl))) (ty := .long) (by decide)
  have fc14 : Fld Z h9 b9 "com/example/tracecourt/tracecourt/eval/Symmetry$Mark" "sure" "Z" (.int (0 : Int32)) := D9 (Or.inr (hw _ (List.mem_of_getElem? (i := 17) rfl))) (ty := .boolean) (by decide)
  refine own_go (T' := T9) (f' := (mkF m 62 #[.val (.long q0), .second, .val (.long q1), .second, .val (.int p2), .val (.int (own_SA q0 q1 p2)), .val (.int (own_SB q0 q1 p2)), .val (.long (own_NB q0 q1 p2)), .second, .val (.ref b4), .unset, .unset, .unset, .unset, .unset] [(.int (own_SB q0 q1 p2)), (.long (own_NB q0 q1 p2)), (.ref b9), (.ref b9)])) (fun t k => ?_) ?_
  · show Steps p.tables e below (T9.setTop (mkF m 57 #[.val (.long q0), .second, .val (.long q1), .second, .val (.int p2), .val (.int (own_SA q0 q1 p2)), .val (.int (own_SB q0 q1 p2)), .val (.long (own_NB q0 q1 p2)), .second, .val (.ref b4), .unset, .unset, .unset, .unset, .unset] [(.ref b9)])) _
    refine XS.dup X9.here hx rfl (hb hby at_57) rfl rfl ?_
    show Steps p.tables e below (T9.setTop (mkF m 58 #[.val (.long q0), .second, .val (.long q1), .second, .val (.int p2), .val (.int (own_SA q0 q1 p2)), .val (.int (own_SB q0 q1 p2)), .val (.long (own_NB q0 q1 p2)), .second, .val (.ref b4), .unset, .unset, .unset, .unset, .unset] [(.ref b9), (.ref b9)])) _
    refine XS.lload X9.here hx rfl (hb hby at_58) rfl ?_
    show Steps p.tables e below (T9.setTop (mkF m 60 #[.val (.long q0), .second, .val (.long q1), .second, .val (.int p2), .val (.int (own_SA q0 q1 p2)), .val (.int (own_SB q0 q1 p2)), .val (.long (own_NB q0 q1 p2)), .second, .val (.ref b4), .unset, .unset, .unset, .unset, .unset] [(.long (own_NB q0 q1 p2)), (.ref b9), (.ref b9)])) _
    refine XS.iload X9.here hx rfl (hb hby at_60) rfl ?_
    show Steps p.tables e below (T9.setTop (mkF m 62 #[.val (.long q0), .second, .val (.long q1), .second, .val (.int p2), .val (.int (own_SA q0 q1 p2)), .val (.int (own_SB q0 q1 p2)), .val (.long (own_NB q0 q1 p2)), .second, .val (.ref b4), .unset, .unset, .unset, .unset, .unset] [(.int (own_SB q0 q1 p2)), (.long (own_NB q0 q1 p2)), (.ref b9), (.ref b9)])) _
    exact k
  obtain ⟨_, _, ⟨T15, Lq15, kq15, nq15⟩, -, X15, ⟨Lc15, hQ15, lq15, yq15, zq15⟩, st15⟩ := X9.specialBack hx (y := (⟨"com/example/tracecourt/tracecourt/eval/Symmetry$Mark", "<init>", "(JZ)V"⟩ : MethodName)) rfl hown (mvT hZ (hw _ (List.mem_of_getElem? (i := 3) rfl))) (mvT hZ (hw _ (List.mem_of_getElem? (i := 4) rfl))) (mvT hZ (hw _ (List.mem_of_getElem? (i := 5) rfl))) (by decide) (backOf (W := 1) (own_rm1 l Z a0 hw [] b9 ((own_NB q0 q1 p2)) ((own_SB q0 q1 p2))  h9 n0 Zs9 A9 fc13 fc14 g_b9) hZ (hw _ (List.mem_of_getElem? (i := 5) rfl)) (hw _ (List.mem_of_getElem? (i := 2) rfl)) (by decide) (by decide)) (g := (mkF m 62 #[.val (.long q0), .second, .val (.long q1), .second, .val (.int p2), .val (.int (own_SA q0 q1 p2)), .val (.int (own_SB q0 q1 p2)), .val (.long (own_NB q0 q1 p2)), .second, .val (.ref b4), .unset, .unset, .unset, .unset, .unset] [(.int (own_SB q0 q1 p2)), (.long (own_NB q0 q1 p2)), (.ref b9), (.ref b9)])) rfl (by rw [hml]; rfl) (Steps.refl _) (a := b9) (argsL := [(.long (own_NB q0 q1 p2)), (.int (own_SB q0 q1 p2))]) (rest := [(.ref b9)]) (lenOf own_pd1 rfl) rfl (by show 2 * 0 + _ ≤ _; exact Nat.le_of_eq rfl) (hb hby at_62) (fun _ _ => ⟨rfl, e9, (by decide : 2 + 0 ≤ _), (by decide : 4 + 0 ≤ _)⟩)
  dsimp only [Pt.U, Pt.locs, Pt.cells, Pt.slots] at X15 lq15 yq15 zq15 st15 hQ15
  subst lq15 yq15 zq15
  obtain ⟨rfl, N15q, h15q, p15_0, p15_1⟩ := hQ15
  have N15 := Fr.app N7 N15q
  have fc16 : Exa Z T15.heap b4 "com/example/tracecourt/tracecourt/eval/Symmetry$Mark" := fc10.keep h15q
  have fc17 : Fld Z T15.heap b4 "com/example/tracecourt/tracecourt/eval/Symmetry$Mark" "number" "J" (.long q0) := fc11.keep h15q (ninS ne_b4_b9 nin0)
  have fc18 : Fld Z T15.heap b4 "com/example/tracecourt/tracecourt/eval/Symmetry$Mark" "sure" "Z" (.int (nar .boolean (own_SA q0 q1 p2))) := fc12.keep h15q (ninS ne_b4_b9 nin0)
  have fc19 : Exa Z T15.heap b9 "com/example/tracecourt/tracecourt/eval/Symmetry$Mark" := A9.keep h15q
  have Zs15 : n0 ≤ T15.heap.size := Nat.le_trans Zs9 h15q.1
  refine own_go (T' := T15) (f' := (mkF m 65 #[.val (.long q0), .second, .val (.long q1), .second, .val (.int p2), .val (.int (own_SA q0 q1 p2)), .val (.int (own_SB q0 q1 p2)), .val (.long (own_NB q0 q1 p2)), .second, .val (.ref b4), .unset, .unset, .unset, .unset, .unset] [(.ref b9)])) (fun t k => st15.trans k) ?_
  refine own_go (T' := T15) (f' := (mkF m 71 #[.val (.long q0), .second, .val (.long q1), .second, .val (.int p2), .val (.int (own_SA q0 q1 p2)), .val (.int (own_SB q0 q1 p2)), .val (.long (own_NB q0 q1 p2)), .second, .val (.ref b4), .val (.ref b9), .unset, .unset, .unset, .unset] [(.ref b9), (.ref b4)])) (fun t k => ?_) ?_
  · show Steps p.tables e below (T15.setTop (mkF m 65 #[.val (.long q0), .second, .val (.long q1), .second, .val (.int p2), .val (.int (own_SA q0 q1 p2)), .val (.int (own_SB q0 q1 p2)), .val (.long (own_NB q0 q1 p2)), .second, .val (.ref b4), .unset, .unset, .unset, .unset, .unset] [(.ref b9)])) _
    refine XS.astore X15.here hx rfl (hb hby at_65) rfl rfl (l' := #[.val (.long q0), .second, .val (.long q1), .second, .val (.int p2), .val (.int (own_SA q0 q1 p2)), .val (.int (own_SB q0 q1 p2)), .val (.long (own_NB q0 q1 p2)), .second, .val (.ref b4), .val (.ref b9), .unset, .unset, .unset, .unset]) rfl ?_
    show Steps p.tables e below (T15.setTop (mkF m 67 #[.val (.long q0), .second, .val (.long q1), .second, .val (.int p2), .val (.int (own_SA q0 q1 p2)), .val (.int (own_SB q0 q1 p2)), .val (.long (own_NB q0 q1 p2)), .second, .val (.ref b4), .val (.ref b9), .unset, .unset, .unset, .unset] [])) _
    refine XS.aload X15.here hx rfl (hb hby at_67) rfl rfl ?_
    show Steps p.tables e below (T15.setTop (mkF m 69 #[.val (.long q0), .second, .val (.long q1), .second, .val (.int p2), .val (.int (own_SA q0 q1 p2)), .val (.int (own_SB q0 q1 p2)), .val (.long (own_NB q0 q1 p2)), .second, .val (.ref b4), .val (.ref b9), .unset, .unset, .unset, .unset] [(.ref b4)])) _
    refine XS.aload X15.here hx rfl (hb hby at_69) rfl rfl ?_
    show Steps p.tables e below (T15.setTop (mkF m 71 #[.val (.long q0), .second, .val (.long q1), .second, .val (.int p2), .val (.int (own_SA q0 q1 p2)), .val (.int (own_SB q0 q1 p2)), .val (.long (own_NB q0 q1 p2)), .second, .val (.ref b4), .val (.ref b9), .unset, .unset, .unset, .unset] [(.ref b9), (.ref b4)])) _
    exact k
  obtain ⟨cq20, kq20, q20a, q20b, q20c⟩ := isOf hZ rfl fc16
  obtain ⟨_, _, ⟨T20, Lq20, kq20, nq20⟩, -, X20, ⟨Lc20, hQ20, lq20, yq20, zq20⟩, st20⟩ := X15.virtualBack hx (y := (⟨"com/example/tracecourt/tracecourt/eval/Symmetry$Mark", "apartFrom", "(Lcom/example/tracecourt/tracecourt/eval/Symmetry$Mark;)Z"⟩ : MethodName)) (z := (⟨"com/example/tracecourt/tracecourt/eval/Symmetry$Mark", "apartFrom", "(Lcom/example/tracecourt/tracecourt/eval/Symmetry$Mark;)Z"⟩ : MethodName)) hown (mvT hZ (hw _ (List.mem_of_getElem? (i := 18) rfl))) (mvT hZ (hw _ (List.mem_of_getElem? (i := 19) rfl))) (notFace_of_selects (args := #[]) (mvT hZ (hw _ (List.mem_of_getElem? (i := 21) rfl)))) (mvT hZ (hw _ (List.mem_of_getElem? (i := 21) rfl))) (mvT hZ (hw _ (List.mem_of_getElem? (i := 20) rfl))) (by decide) (backOf (W := 0) (own_rm2 l Z a0 hw [] b4 b9 q0 ((nar .boolean (own_SA q0 q1 p2))) ((own_NB q0 q1 p2)) ((nar .boolean (own_SB q0 q1 p2))) T15.heap n0 Zs15 fc17 fc18 p15_0 p15_1) hZ (hw _ (List.mem_of_getElem? (i := 22) rfl)) (hw _ (List.mem_of_getElem? (i := 2) rfl)) (by decide) (by decide)) q20a q20c (g := (mkF m 71 #[.val (.long q0), .second, .val (.long q1), .second, .val (.int p2), .val (.int (own_SA q0 q1 p2)), .val (.int (own_SB q0 q1 p2)), .val (.long (own_NB q0 q1 p2)), .second, .val (.ref b4), .val (.ref b9), .unset, .unset, .unset, .unset] [(.ref b9), (.ref b4)])) rfl (by rw [hml]; rfl) (Steps.refl _) (argsL := [(.ref b9)]) (rest := []) (lenOf own_pd2 rfl) rfl (by show 2 * 0 + _ ≤ _; exact Nat.le_of_eq rfl) (hb hby at_71) (fun _ _ => ⟨rfl, rfl, (by decide : 2 + 0 ≤ _), (by decide : 4 + 0 ≤ _)⟩)
  dsimp only [Pt.U, Pt.locs, Pt.cells, Pt.slots] at X20 lq20 yq20 zq20 st20 hQ20
  subst lq20 yq20 zq20
  obtain ⟨rfl, N20q, h20q⟩ := hQ20
  have N20 := Fr.app N15 N20q
  refine own_go (T' := T20) (f' := (mkF m 74 #[.val (.long q0), .second, .val (.long q1), .second, .val (.int p2), .val (.int (own_SA q0 q1 p2)), .val (.int (own_SB q0 q1 p2)), .val (.long (own_NB q0 q1 p2)), .second, .val (.ref b4), .val (.ref b9), .unset, .unset, .unset, .unset] [(.int (own_F2 q0 (nar .boolean (own_SA q0 q1 p2)) (own_NB q0 q1 p2) (nar .boolean (own_SB q0 q1 p2))))])) (fun t k => st20.trans k) ?_
  refine own_go (T' := T20) (f' := (mkF m 80 #[.val (.long q0), .second, .val (.long q1), .second, .val (.int p2), .val (.int (own_SA q0 q1 p2)), .val (.int (own_SB q0 q1 p2)), .val (.long (own_NB q0 q1 p2)), .second, .val (.ref b4), .val (.ref b9), .val (.int (own_F2 q0 (nar .boolean (own_SA q0 q1 p2)) (own_NB q0 q1 p2) (nar .boolean (own_SB q0 q1 p2)))), .unset, .unset, .unset] [(.ref b4), (.ref b9)])) (fun t k => ?_) ?_
  · show Steps p.tables e below (T20.setTop (mkF m 74 #[.val (.long q0), .second, .val (.long q1), .second, .val (.int p2), .val (.int (own_SA q0 q1 p2)), .val (.int (own_SB q0 q1 p2)), .val (.long (own_NB q0 q1 p2)), .second, .val (.ref b4), .val (.ref b9), .unset, .unset, .unset, .unset] [(.int (own_F2 q0 (nar .boolean (own_SA q0 q1 p2)) (own_NB q0 q1 p2) (nar .boolean (own_SB q0 q1 p2))))])) _
    refine XS.istore X20.here hx rfl (hb hby at_74) rfl (l' := #[.val (.long q0), .second, .val (.long q1), .second, .val (.int p2), .val (.int (own_SA q0 q1 p2)), .val (.int (own_SB q0 q1 p2)), .val (.long (own_NB q0 q1 p2)), .second, .val (.ref b4), .val (.ref b9), .val (.int (own_F2 q0 (nar .boolean (own_SA q0 q1 p2)) (own_NB q0 q1 p2) (nar .boolean (own_SB q0 q1 p2)))), .unset, .unset, .unset]) rfl ?_
    show Steps p.tables e below (T20.setTop (mkF m 76 #[.val (.long q0), .second, .val (.long q1), .second, .val (.int p2), .val (.int (own_SA q0 q1 p2)), .val (.int (own_SB q0 q1 p2)), .val (.long (own_NB q0 q1 p2)), .second, .val (.ref b4), .val (.ref b9), .val (.int (own_F2 q0 (nar .boolean (own_SA q0 q1 p2)) (own_NB q0 q1 p2) (nar .boolean (own_SB q0 q1 p2)))), .unset, .unset, .unset] [])) _
    refine XS.aload X20.here hx rfl (hb hby at_76) rfl rfl ?_
    show Steps p.tables e below (T20.setTop (mkF m 78 #[.val (.long q0), .second, .val (.long q1), .second, .val (.int p2), .val (.int (own_SA q0 q1 p2)), .val (.int (own_SB q0 q1 p2)), .val (.long (own_NB q0 q1 p2)), .second, .val (.ref b4), .val (.ref b9), .val (.int (own_F2 q0 (nar .boolean (own_SA q0 q1 p2)) (own_NB q0 q1 p2) (nar .boolean (own_SB q0 q1 p2)))), .unset, .unset, .unset] [(.ref b9)])) _
    refine XS.aload X20.here hx rfl (hb hby at_78) rfl rfl ?_
    show Steps p.tables e below (T20.setTop (mkF m 80 #[.val (.long q0), .second, .val (.long q1), .second, .val (.int p2), .val (.int (own_SA q0 q1 p2)), .val (.int (own_SB q0 q1 p2)), .val (.long (own_NB q0 q1 p2)), .second, .val (.ref b4), .val (.ref b9), .val (.int (own_F2 q0 (nar .boolean (own_SA q0 q1 p2)) (own_NB q0 q1 p2) (nar .boolean (own_SB q0 q1 p2)))), .unset, .unset, .unset] [(.ref b4), (.ref b9)])) _
    exact k
  obtain ⟨cq21, kq21, q21a, q21b, q21c⟩ := isOf hZ h20q fc19
  obtain ⟨_, _, ⟨T21, Lq21, kq21, nq21⟩, -, X21, ⟨Lc21, hQ21, lq21, yq21, zq21⟩, st21⟩ := X20.virtualBack hx (y := (⟨"com/example/tracecourt/tracecourt/eval/Symmetry$Mark", "apartFrom", "(Lcom/example/tracecourt/tracecourt/eval/Symmetry$Mark;)Z"⟩ : MethodName)) (z := (⟨"com/example/tracecourt/tracecourt/eval/Symmetry$Mark", "apartFrom", "(Lcom/example/tracecourt/tracecourt/eval/Symmetry$Mark;)Z"⟩ : MethodName)) hown (mvT hZ (hw _ (List.mem_of_getElem? (i := 18) rfl))) (mvT hZ (hw _ (List.mem_of_getElem? (i := 19) rfl))) (notFace_of_selects (args := #[]) (mvT hZ (hw _ (List.mem_of_getElem? (i := 21) rfl)))) (mvT hZ (hw _ (List.mem_of_getElem? (i := 21) rfl))) (mvT hZ (hw _ (List.mem_of_getElem? (i := 20) rfl))) (by decide) (backOf (W := 0) (own_rm2 l Z a0 hw [] b9 b4 ((own_NB q0 q1 p2)) ((nar .boolean (own_SB q0 q1 p2))) q0 ((nar .boolean (own_SA q0 q1 p2))) T15.heap n0 Zs15 p15_0 p15_1 fc17 fc18) hZ (hw _ (List.mem_of_getElem? (i := 22) rfl)) (hw _ (List.mem_of_getElem? (i := 2) rfl)) (by decide) (by decide)) q21a q21c (g := (mkF m 80 #[.val (.long q0), .second, .val (.long q1), .second, .val (.int p2), .val (.int (own_SA q0 q1 p2)), .val (.int (own_SB q0 q1 p2)), .val (.long (own_NB q0 q1 p2)), .second, .val (.ref b4), .val (.ref b9), .val (.int (own_F2 q0 (nar .boolean (own_SA q0 q1 p2)) (own_NB q0 q1 p2) (nar .boolean (own_SB q0 q1 p2)))), .unset, .unset, .unset] [(.ref b4), (.ref b9)])) rfl (by rw [hml]; rfl) (Steps.refl _) (argsL := [(.ref b4)]) (rest := []) (lenOf own_pd2 rfl) rfl (by show 2 * 0 + _ ≤ _; exact Nat.le_of_eq rfl) (hb hby at_80) (fun _ _ => ⟨rfl, h20q, (by decide : 2 + 0 ≤ _), (by decide : 4 + 0 ≤ _)⟩)
  dsimp only [Pt.U, Pt.locs, Pt.cells, Pt.slots] at X21 lq21 yq21 zq21 st21 hQ21
  subst lq21 yq21 zq21
  obtain ⟨rfl, N21q, h21q⟩ := hQ21
  have N21 := Fr.app N20 N21q
  refine own_go (T' := T21) (f' := (mkF m 83 #[.val (.long q0), .second, .val (.long q1), .second, .val (.int p2), .val (.int (own_SA q0 q1 p2)), .val (.int (own_SB q0 q1 p2)), .val (.long (own_NB q0 q1 p2)), .second, .val (.ref b4), .val (.ref b9), .val (.int (own_F2 q0 (nar .boolean (own_SA q0 q1 p2)) (own_NB q0 q1 p2) (nar .boolean (own_SB q0 q1 p2)))), .unset, .unset, .unset] [(.int (own_F2 (own_NB q0 q1 p2) (nar .boolean (own_SB q0 q1 p2)) q0 (nar .boolean (own_SA q0 q1 p2))))])) (fun t k => st21.trans k) ?_
  refine own_go (T' := T21) (f' := (mkF m 89 #[.val (.long q0), .second, .val (.long q1), .second, .val (.int p2), .val (.int (own_SA q0 q1 p2)), .val (.int (own_SB q0 q1 p2)), .val (.long (own_NB q0 q1 p2)), .second, .val (.ref b4), .val (.ref b9), .val (.int (own_F2 q0 (nar .boolean (own_SA q0 q1 p2)) (own_NB q0 q1 p2) (nar .boolean (own_SB q0 q1 p2)))), .val (.int (own_F2 (own_NB q0 q1 p2) (nar .boolean (own_SB q0 q1 p2)) q0 (nar .boolean (own_SA q0 q1 p2)))), .unset, .unset] [(.ref b4), (.ref b4)])) (fun t k => ?_) ?_
  · show Steps p.tables e below (T21.setTop (mkF m 83 #[.val (.long q0), .second, .val (.long q1), .second, .val (.int p2), .val (.int (own_SA q0 q1 p2)), .val (.int (own_SB q0 q1 p2)), .val (.long (own_NB q0 q1 p2)), .second, .val (.ref b4), .val (.ref b9), .val (.int (own_F2 q0 (nar .boolean (own_SA q0 q1 p2)) (own_NB q0 q1 p2) (nar .boolean (own_SB q0 q1 p2)))), .unset, .unset, .unset] [(.int (own_F2 (own_NB q0 q1 p2) (nar .boolean (own_SB q0 q1 p2)) q0 (nar .boolean (own_SA q0 q1 p2))))])) _
    refine XS.istore X21.here hx rfl (hb hby at_83) rfl (l' := #[.val (.long q0), .second, .val (.long q1), .second, .val (.int p2), .val (.int (own_SA q0 q1 p2)), .val (.int (own_SB q0 q1 p2)), .val (.long (own_NB q0 q1 p2)), .second, .val (.ref b4), .val (.ref b9), .val (.int (own_F2 q0 (nar .boolean (own_SA q0 q1 p2)) (own_NB q0 q1 p2) (nar .boolean (own_SB q0 q1 p2)))), .val (.int (own_F2 (own_NB q0 q1 p2) (nar .boolean (own_SB q0 q1 p2)) q0 (nar .boolean (own_SA q0 q1 p2)))), .unset, .unset]) rfl ?_
    show Steps p.tables e below (T21.setTop (mkF m 85 #[.val (.long q0), .second, .val (.long q1), .second, .val (.int p2), .val (.int (own_SA q0 q1 p2)), .val (.int (own_SB q0 q1 p2)), .val (.long (own_NB q0 q1 p2)), .second, .val (.ref b4), .val (.ref b9), .val (.int (own_F2 q0 (nar .boolean (own_SA q0 q1 p2)) (own_NB q0 q1 p2) (nar .boolean (own_SB q0 q1 p2)))), .val (.int (own_F2 (own_NB q0 q1 p2) (nar .boolean (own_SB q0 q1 p2)) q0 (nar .boolean (own_SA q0 q1 p2)))), .unset, .unset] [])) _
    refine XS.aload X21.here hx rfl (hb hby at_85) rfl rfl ?_
    show Steps p.tables e below (T21.setTop (mkF m 87 #[.val (.long q0), .second, .val (.long q1), .second, .val (.int p2), .val (.int (own_SA q0 q1 p2)), .val (.int (own_SB q0 q1 p2)), .val (.long (own_NB q0 q1 p2)), .second, .val (.ref b4), .val (.ref b9), .val (.int (own_F2 q0 (nar .boolean (own_SA q0 q1 p2)) (own_NB q0 q1 p2) (nar .boolean (own_SB q0 q1 p2)))), .val (.int (own_F2 (own_NB q0 q1 p2) (nar .boolean (own_SB q0 q1 p2)) q0 (nar .boolean (own_SA q0 q1 p2)))), .unset, .unset] [(.ref b4)])) _
    refine XS.aload X21.here hx rfl (hb hby at_87) rfl rfl ?_
    show Steps p.tables e below (T21.setTop (mkF m 89 #[.val (.long q0), .second, .val (.long q1), .second, .val (.int p2), .val (.int (own_SA q0 q1 p2)), .val (.int (own_SB q0 q1 p2)), .val (.long (own_NB q0 q1 p2)), .second, .val (.ref b4), .val (.ref b9), .val (.int (own_F2 q0 (nar .boolean (own_SA q0 q1 p2)) (own_NB q0 q1 p2) (nar .boolean (own_SB q0 q1 p2)))), .val (.int (own_F2 (own_NB q0 q1 p2) (nar .boolean (own_SB q0 q1 p2)) q0 (nar .boolean (own_SA q0 q1 p2)))), .unset, .unset] [(.ref b4), (.ref b4)])) _
    exact k
  obtain ⟨cq22, kq22, q22a, q22b, q22c⟩ := isOf hZ h21q fc16
  obtain ⟨_, _, ⟨T22, Lq22, kq22, nq22⟩, -, X22, ⟨Lc22, hQ22, lq22, yq22, zq22⟩, st22⟩ := X21.virtualBack hx (y := (⟨"com/example/tracecourt/tracecourt/eval/Symmetry$Mark", "apartFrom", "(Lcom/example/tracecourt/tracecourt/eval/Symmetry$Mark;)Z"⟩ : MethodName)) (z := (⟨"com/example/tracecourt/tracecourt/eval/Symmetry$Mark", "apartFrom", "(Lcom/example/tracecourt/tracecourt/eval/Symmetry$Mark;)Z"⟩ : MethodName)) hown (mvT hZ (hw _ (List.mem_of_getElem? (i := 18) rfl))) (mvT hZ (hw _ (List.mem_of_getElem? (i := 19) rfl))) (notFace_of_selects (args := #[]) (mvT hZ (hw _ (List.mem_of_getElem? (i := 21) rfl)))) (mvT hZ (hw _ (List.mem_of_getElem? (i := 21) rfl))) (mvT hZ (hw _ (List.mem_of_getElem? (i := 20) rfl))) (by decide) (backOf (W := 0) (own_rm2 l Z a0 hw [] b4 b4 q0 ((nar .boolean (own_SA q0 q1 p2))) q0 ((nar .boolean (own_SA q0 q1 p2))) T15.heap n0 Zs15 fc17 fc18 fc17 fc18) hZ (hw _ (List.mem_of_getElem? (i := 22) rfl)) (hw _ (List.mem_of_getElem? (i := 2) rfl)) (by decide) (by decide)) q22a q22c (g := (mkF m 89 #[.val (.long q0), .second, .val (.long q1), .second, .val (.int p2), .val (.int (own_SA q0 q1 p2)), .val (.int (own_SB q0 q1 p2)), .val (.long (own_NB q0 q1 p2)), .second, .val (.ref b4), .val (.ref b9), .val (.int (own_F2 q0 (nar .boolean (own_SA q0 q1 p2)) (own_NB q0 q1 p2) (nar .boolean (own_SB q0 q1 p2)))), .val (.int (own_F2 (own_NB q0 q1 p2) (nar .boolean (own_SB q0 q1 p2)) q0 (nar .boolean (own_SA q0 q1 p2)))), .unset, .unset] [(.ref b4), (.ref b4)])) rfl (by rw [hml]; rfl) (Steps.refl _) (argsL := [(.ref b4)]) (rest := []) (lenOf own_pd2 rfl) rfl (by show 2 * 0 + _ ≤ _; exact Nat.le_of_eq rfl) (hb hby at_89) (fun _ _ => ⟨rfl, h21q, (by decide : 2 + 0 ≤ _), (by decide : 4 + 0 ≤ _)⟩)
  dsimp only [Pt.U, Pt.locs, Pt.cells, Pt.slots] at X22 lq22 yq22 zq22 st22 hQ22
  subst lq22 yq22 zq22
  obtain ⟨rfl, N22q, h22q⟩ := hQ22
  have N22 := Fr.app N21 N22q
  refine own_go (T' := T22) (f' := (mkF m 92 #[.val (.long q0), .second, .val (.long q1), .second, .val (.int p2), .val (.int (own_SA q0 q1 p2)), .val (.int (own_SB q0 q1 p2)), .val (.long (own_NB q0 q1 p2)), .second, .val (.ref b4), .val (.ref b9), .val (.int (own_F2 q0 (nar .boolean (own_SA q0 q1 p2)) (own_NB q0 q1 p2) (nar .boolean (own_SB q0 q1 p2)))), .val (.int (own_F2 (own_NB q0 q1 p2) (nar .boolean (own_SB q0 q1 p2)) q0 (nar .boolean (own_SA q0 q1 p2)))), .unset, .unset] [(.int (own_F2 q0 (nar .boolean (own_SA q0 q1 p2)) q0 (nar .boolean (own_SA q0 q1 p2))))])) (fun t k => st22.trans k) ?_
  refine own_go (T' := T22) (f' := (mkF m 96 #[.val (.long q0), .second, .val (.long q1), .second, .val (.int p2), .val (.int (own_SA q0 q1 p2)), .val (.int (own_SB q0 q1 p2)), .val (.long (own_NB q0 q1 p2)), .second, .val (.ref b4), .val (.ref b9), .val (.int (own_F2 q0 (nar .boolean (own_SA q0 q1 p2)) (own_NB q0 q1 p2) (nar .boolean (own_SB q0 q1 p2)))), .val (.int (own_F2 (own_NB q0 q1 p2) (nar .boolean (own_SB q0 q1 p2)) q0 (nar .boolean (own_SA q0 q1 p2)))), .val (.int (own_F2 q0 (nar .boolean (own_SA q0 q1 p2)) q0 (nar .boolean (own_SA q0 q1 p2)))), .unset] [(.int (own_SA q0 q1 p2))])) (fun t k => ?_) ?_
  · show Steps p.tables e below (T22.setTop (mkF m 92 #[.val (.long q0), .second, .val (.long q1), .second, .val (.int p2), .val (.int (own_SA q0 q1 p2)), .val (.int (own_SB q0 q1 p2)), .val (.long (own_NB q0 q1 p2)), .second, .val (.ref b4), .val (.ref b9), .val (.int (own_F2 q0 (nar .boolean (own_SA q0 q1 p2)) (own_NB q0 q1 p2) (nar .boolean (own_SB q0 q1 p2)))), .val (.int (own_F2 (own_NB q0 q1 p2) (nar .boolean (own_SB q0 q1 p2)) q0 (nar .boolean (own_SA q0 q1 p2)))), .unset, .unset] [(.int (own_F2 q0 (nar .boolean (own_SA q0 q1 p2)) q0 (nar .boolean (own_SA q0 q1 p2))))])) _
    refine XS.istore X22.here hx rfl (hb hby at_92) rfl (l' := #[.val (.long q0), .second, .val (.long q1), .second, .val (.int p2), .val (.int (own_SA q0 q1 p2)), .val (.int (own_SB q0 q1 p2)), .val (.long (own_NB q0 q1 p2)), .second, .val (.ref b4), .val (.ref b9), .val (.int (own_F2 q0 (nar .boolean (own_SA q0 q1 p2)) (own_NB q0 q1 p2) (nar .boolean (own_SB q0 q1 p2)))), .val (.int (own_F2 (own_NB q0 q1 p2) (nar .boolean (own_SB q0 q1 p2)) q0 (nar .boolean (own_SA q0 q1 p2)))), .val (.int (own_F2 q0 (nar .boolean (own_SA q0 q1 p2)) q0 (nar .boolean (own_SA q0 q1 p2)))), .unset]) rfl ?_
    show Steps p.tables e below (T22.setTop (mkF m 94 #[.val (.long q0), .second, .val (.long q1), .second, .val (.int p2), .val (.int (own_SA q0 q1 p2)), .val (.int (own_SB q0 q1 p2)), .val (.long (own_NB q0 q1 p2)), .second, .val (.ref b4), .val (.ref b9), .val (.int (own_F2 q0 (nar .boolean (own_SA q0 q1 p2)) (own_NB q0 q1 p2) (nar .boolean (own_SB q0 q1 p2)))), .val (.int (own_F2 (own_NB q0 q1 p2) (nar .boolean (own_SB q0 q1 p2)) q0 (nar .boolean (own_SA q0 q1 p2)))), .val (.int (own_F2 q0 (nar .boolean (own_SA q0 q1 p2)) q0 (nar .boolean (own_SA q0 q1 p2)))), .unset] [])) _
    refine XS.iload X22.here hx rfl (hb hby at_94) rfl ?_
    show Steps p.tables e below (T22.setTop (mkF m 96 #[.val (.long q0), .second, .val (.long q1), .second, .val (.int p2), .val (.int (own_SA q0 q1 p2)), .val (.int (own_SB q0 q1 p2)), .val (.long (own_NB q0 q1 p2)), .second, .val (.ref b4), .val (.ref b9), .val (.int (own_F2 q0 (nar .boolean (own_SA q0 q1 p2)) (own_NB q0 q1 p2) (nar .boolean (own_SB q0 q1 p2)))), .val (.int (own_F2 (own_NB q0 q1 p2) (nar .boolean (own_SB q0 q1 p2)) q0 (nar .boolean (own_SA q0 q1 p2)))), .val (.int (own_F2 q0 (nar .boolean (own_SA q0 q1 p2)) q0 (nar .boolean (own_SA q0 q1 p2)))), .unset] [(.int (own_SA q0 q1 p2))])) _
    exact k
  refine own_go (T' := T22) (f' := (mkF m 132 #[.val (.long q0), .second, .val (.long q1), .second, .val (.int p2), .val (.int (own_SA q0 q1 p2)), .val (.int (own_SB q0 q1 p2)), .val (.long (own_NB q0 q1 p2)), .second, .val (.ref b4), .val (.ref b9), .val (.int (own_F2 q0 (nar .boolean (own_SA q0 q1 p2)) (own_NB q0 q1 p2) (nar .boolean (own_SB q0 q1 p2)))), .val (.int (own_F2 (own_NB q0 q1 p2) (nar .boolean (own_SB q0 q1 p2)) q0 (nar .boolean (own_SA q0 q1 p2)))), .val (.int (own_F2 q0 (nar .boolean (own_SA q0 q1 p2)) q0 (nar .boolean (own_SA q0 q1 p2)))), .val (.int (if (own_SA q0 q1 p2) = (0 : Int32) then (0 : Int32) else (if (own_SB q0 q1 p2) = (0 : Int32) then (0 : Int32) else (if q0 = (own_NB q0 q1 p2) then (0 : Int32) else (1 : Int32)))))] [])) (fun t k => ?_) ?_
  · show Steps p.tables e below (T22.setTop (mkF m 96 #[.val (.long q0), .second, .val (.long q1), .second, .val (.int p2), .val (.int (own_SA q0 q1 p2)), .val (.int (own_SB q0 q1 p2)), .val (.long (own_NB q0 q1 p2)), .second, .val (.ref b4), .val (.ref b9), .val (.int (own_F2 q0 (nar .boolean (own_SA q0 q1 p2)) (own_NB q0 q1 p2) (nar .boolean (own_SB q0 q1 p2)))), .val (.int (own_F2 (own_NB q0 q1 p2) (nar .boolean (own_SB q0 q1 p2)) q0 (nar .boolean (own_SA q0 q1 p2)))), .val (.int (own_F2 q0 (nar .boolean (own_SA q0 q1 p2)) q0 (nar .boolean (own_SA q0 q1 p2)))), .unset] [(.int (own_SA q0 q1 p2))])) _
    by_cases hc96_23 : (own_SA q0 q1 p2) = (0 : Int32)
    · skip
      refine XS.ifNo X22.here hx rfl (hb hby at_96) rfl ((if0 _ _).trans (teq hc96_23).2) ?_
      show Steps p.tables e below (T22.setTop (mkF m 99 #[.val (.long q0), .second, .val (.long q1), .second, .val (.int p2), .val (.int (own_SA q0 q1 p2)), .val (.int (own_SB q0 q1 p2)), .val (.long (own_NB q0 q1 p2)), .second, .val (.ref b4), .val (.ref b9), .val (.int (own_F2 q0 (nar .boolean (own_SA q0 q1 p2)) (own_NB q0 q1 p2) (nar .boolean (own_SB q0 q1 p2)))), .val (.int (own_F2 (own_NB q0 q1 p2) (nar .boolean (own_SB q0 q1 p2)) q0 (nar .boolean (own_SA q0 q1 p2)))), .val (.int (own_F2 q0 (nar .boolean (own_SA q0 q1 p2)) q0 (nar .boolean (own_SA q0 q1 p2)))), .unset] [])) _
      refine XS.iconst X22.here hx rfl (hb hby at_99) ?_
      show Steps p.tables e below (T22.setTop (mkF m 100 #[.val (.long q0), .second, .val (.long q1), .second, .val (.int p2), .val (.int (own_SA q0 q1 p2)), .val (.int (own_SB q0 q1 p2)), .val (.long (own_NB q0 q1 p2)), .second, .val (.ref b4), .val (.ref b9), .val (.int (own_F2 q0 (nar .boolean (own_SA q0 q1 p2)) (own_NB q0 q1 p2) (nar .boolean (own_SB q0 q1 p2)))), .val (.int (own_F2 (own_NB q0 q1 p2) (nar .boolean (own_SB q0 q1 p2)) q0 (nar .boolean (own_SA q0 q1 p2)))), .val (.int (own_F2 q0 (nar .boolean (own_SA q0 q1 p2)) q0 (nar .boolean (own_SA q0 q1 p2)))), .unset] [(.int (0 : Int32))])) _
      refine XS.istore X22.here hx rfl (hb hby at_100) rfl (l' := #[.val (.long q0), .second, .val (.long q1), .second, .val (.int p2), .val (.int (own_SA q0 q1 p2)), .val (.int (own_SB q0 q1 p2)), .val (.long (own_NB q0 q1 p2)), .second, .val (.ref b4), .val (.ref b9), .val (.int (own_F2 q0 (nar .boolean (own_SA q0 q1 p2)) (own_NB q0 q1 p2) (nar .boolean (own_SB q0 q1 p2)))), .val (.int (own_F2 (own_NB q0 q1 p2) (nar .boolean (own_SB q0 q1 p2)) q0 (nar .boolean (own_SA q0 q1 p2)))), .val (.int (own_F2 q0 (nar .boolean (own_SA q0 q1 p2)) q0 (nar .boolean (own_SA q0 q1 p2)))), .val (.int (0 : Int32))]) rfl ?_
      show Steps p.tables e below (T22.setTop (mkF m 102 #[.val (.long q0), .second, .val (.long q1), .second, .val (.int p2), .val (.int (own_SA q0 q1 p2)), .val (.int (own_SB q0 q1 p2)), .val (.long (own_NB q0 q1 p2)), .second, .val (.ref b4), .val (.ref b9), .val (.int (own_F2 q0 (nar .boolean (own_SA q0 q1 p2)) (own_NB q0 q1 p2) (nar .boolean (own_SB q0 q1 p2)))), .val (.int (own_F2 (own_NB q0 q1 p2) (nar .boolean (own_SB q0 q1 p2)) q0 (nar .boolean (own_SA q0 q1 p2)))), .val (.int (own_F2 q0 (nar .boolean (own_SA q0 q1 p2)) q0 (nar .boolean (own_SA q0 q1 p2)))), .val (.int (0 : Int32))] [])) _
      refine XS.goto X22.here hx rfl (pc0 := 102) (pc' := 132) rfl (hb hby at_102) (by decide) (by decide) ?_
      show Steps p.tables e below (T22.setTop (mkF m 132 #[.val (.long q0), .second, .val (.long q1), .second, .val (.int p2), .val (.int (own_SA q0 q1 p2)), .val (.int (own_SB q0 q1 p2)), .val (.long (own_NB q0 q1 p2)), .second, .val (.ref b4), .val (.ref b9), .val (.int (own_F2 q0 (nar .boolean (own_SA q0 q1 p2)) (own_NB q0 q1 p2) (nar .boolean (own_SB q0 q1 p2)))), .val (.int (own_F2 (own_NB q0 q1 p2) (nar .boolean (own_SB q0 q1 p2)) q0 (nar .boolean (own_SA q0 q1 p2)))), .val (.int (own_F2 q0 (nar .boolean (own_SA q0 q1 p2)) q0 (nar .boolean (own_SA q0 q1 p2)))), .val (.int (0 : Int32))] [])) _
      simp only [if_pos hc96_23] at k
      exact k
    · skip
      refine XS.ifYes X22.here hx rfl (pc0 := 96) (pc' := 105) rfl (hb hby at_96) rfl ((if0 _ _).trans (feq hc96_23).2) (by decide) (by decide) ?_
      show Steps p.tables e below (T22.setTop (mkF m 105 #[.val (.long q0), .second, .val (.long q1), .second, .val (.int p2), .val (.int (own_SA q0 q1 p2)), .val (.int (own_SB q0 q1 p2)), .val (.long (own_NB q0 q1 p2)), .second, .val (.ref b4), .val (.ref b9), .val (.int (own_F2 q0 (nar .boolean (own_SA q0 q1 p2)) (own_NB q0 q1 p2) (nar .boolean (own_SB q0 q1 p2)))), .val (.int (own_F2 (own_NB q0 q1 p2) (nar .boolean (own_SB q0 q1 p2)) q0 (nar .boolean (own_SA q0 q1 p2)))), .val (.int (own_F2 q0 (nar .boolean (own_SA q0 q1 p2)) q0 (nar .boolean (own_SA q0 q1 p2)))), .unset] [])) _
      refine XS.iload X22.here hx rfl (hb hby at_105) rfl ?_
      show Steps p.tables e below (T22.setTop (mkF m 107 #[.val (.long q0), .second, .val (.long q1), .second, .val (.int p2), .val (.int (own_SA q0 q1 p2)), .val (.int (own_SB q0 q1 p2)), .val (.long (own_NB q0 q1 p2)), .second, .val (.ref b4), .val (.ref b9), .val (.int (own_F2 q0 (nar .boolean (own_SA q0 q1 p2)) (own_NB q0 q1 p2) (nar .boolean (own_SB q0 q1 p2)))), .val (.int (own_F2 (own_NB q0 q1 p2) (nar .boolean (own_SB q0 q1 p2)) q0 (nar .boolean (own_SA q0 q1 p2)))), .val (.int (own_F2 q0 (nar .boolean (own_SA q0 q1 p2)) q0 (nar .boolean (own_SA q0 q1 p2)))), .unset] [(.int (own_SB q0 q1 p2))])) _
      by_cases hc107_24 : (own_SB q0 q1 p2) = (0 : Int32)
      · skip
        refine XS.ifNo X22.here hx rfl (hb hby at_107) rfl ((if0 _ _).trans (teq hc107_24).2) ?_
        show Steps p.tables e below (T22.setTop (mkF m 110 #[.val (.long q0), .second, .val (.long q1), .second, .val (.int p2), .val (.int (own_SA q0 q1 p2)), .val (.int (own_SB q0 q1 p2)), .val (.long (own_NB q0 q1 p2)), .second, .val (.ref b4), .val (.ref b9), .val (.int (own_F2 q0 (nar .boolean (own_SA q0 q1 p2)) (own_NB q0 q1 p2) (nar .boolean (own_SB q0 q1 p2)))), .val (.int (own_F2 (own_NB q0 q1 p2) (nar .boolean (own_SB q0 q1 p2)) q0 (nar .boolean (own_SA q0 q1 p2)))), .val (.int (own_F2 q0 (nar .boolean (own_SA q0 q1 p2)) q0 (nar .boolean (own_SA q0 q1 p2)))), .unset] [])) _
        refine XS.iconst X22.here hx rfl (hb hby at_110) ?_
        show Steps p.tables e below (T22.setTop (mkF m 111 #[.val (.long q0), .second, .val (.long q1), .second, .val (.int p2), .val (.int (own_SA q0 q1 p2)), .val (.int (own_SB q0 q1 p2)), .val (.long (own_NB q0 q1 p2)), .second, .val (.ref b4), .val (.ref b9), .val (.int (own_F2 q0 (nar .boolean (own_SA q0 q1 p2)) (own_NB q0 q1 p2) (nar .boolean (own_SB q0 q1 p2)))), .val (.int (own_F2 (own_NB q0 q1 p2) (nar .boolean (own_SB q0 q1 p2)) q0 (nar .boolean (own_SA q0 q1 p2)))), .val (.int (own_F2 q0 (nar .boolean (own_SA q0 q1 p2)) q0 (nar .boolean (own_SA q0 q1 p2)))), .unset] [(.int (0 : Int32))])) _
        refine XS.istore X22.here hx rfl (hb hby at_111) rfl (l' := #[.val (.long q0), .second, .val (.long q1), .second, .val (.int p2), .val (.int (own_SA q0 q1 p2)), .val (.int (own_SB q0 q1 p2)), .val (.long (own_NB q0 q1 p2)), .second, .val (.ref b4), .val (.ref b9), .val (.int (own_F2 q0 (nar .boolean (own_SA q0 q1 p2)) (own_NB q0 q1 p2) (nar .boolean (own_SB q0 q1 p2)))), .val (.int (own_F2 (own_NB q0 q1 p2) (nar .boolean (own_SB q0 q1 p2)) q0 (nar .boolean (own_SA q0 q1 p2)))), .val (.int (own_F2 q0 (nar .boolean (own_SA q0 q1 p2)) q0 (nar .boolean (own_SA q0 q1 p2)))), .val (.int (0 : Int32))]) rfl ?_
        show Steps p.tables e below (T22.setTop (mkF m 113 #[.val (.long q0), .second, .val (.long q1), .second, .val (.int p2), .val (.int (own_SA q0 q1 p2)), .val (.int (own_SB q0 q1 p2)), .val (.long (own_NB q0 q1 p2)), .second, .val (.ref b4), .val (.ref b9), .val (.int (own_F2 q0 (nar .boolean (own_SA q0 q1 p2)) (own_NB q0 q1 p2) (nar .boolean (own_SB q0 q1 p2)))), .val (.int (own_F2 (own_NB q0 q1 p2) (nar .boolean (own_SB q0 q1 p2)) q0 (nar .boolean (own_SA q0 q1 p2)))), .val (.int (own_F2 q0 (nar .boolean (own_SA q0 q1 p2)) q0 (nar .boolean (own_SA q0 q1 p2)))), .val (.int (0 : Int32))] [])) _
        refine XS.goto X22.here hx rfl (pc0 := 113) (pc' := 132) rfl (hb hby at_113) (by decide) (by decide) ?_
        show Steps p.tables e below (T22.setTop (mkF m 132 #[.val (.long q0), .second, .val (.long q1), .second, .val (.int p2), .val (.int (own_SA q0 q1 p2)), .val (.int (own_SB q0 q1 p2)), .val (.long (own_NB q0 q1 p2)), .second, .val (.ref b4), .val (.ref b9), .val (.int (own_F2 q0 (nar .boolean (own_SA q0 q1 p2)) (own_NB q0 q1 p2) (nar .boolean (own_SB q0 q1 p2)))), .val (.int (own_F2 (own_NB q0 q1 p2) (nar .boolean (own_SB q0 q1 p2)) q0 (nar .boolean (own_SA q0 q1 p2)))), .val (.int (own_F2 q0 (nar .boolean (own_SA q0 q1 p2)) q0 (nar .boolean (own_SA q0 q1 p2)))), .val (.int (0 : Int32))] [])) _
        simp only [if_neg hc96_23, if_pos hc107_24] at k
        exact k
      · skip
        refine XS.ifYes X22.here hx rfl (pc0 := 107) (pc' := 116) rfl (hb hby at_107) rfl ((if0 _ _).trans (feq hc107_24).2) (by decide) (by decide) ?_
        show Steps p.tables e below (T22.setTop (mkF m 116 #[.val (.long q0), .second, .val (.long q1), .second, .val (.int p2), .val (.int (own_SA q0 q1 p2)), .val (.int (own_SB q0 q1 p2)), .val (.long (own_NB q0 q1 p2)), .second, .val (.ref b4), .val (.ref b9), .val (.int (own_F2 q0 (nar .boolean (own_SA q0 q1 p2)) (own_NB q0 q1 p2) (nar .boolean (own_SB q0 q1 p2)))), .val (.int (own_F2 (own_NB q0 q1 p2) (nar .boolean (own_SB q0 q1 p2)) q0 (nar .boolean (own_SA q0 q1 p2)))), .val (.int (own_F2 q0 (nar .boolean (own_SA q0 q1 p2)) q0 (nar .boolean (own_SA q0 q1 p2)))), .unset] [])) _
        refine XS.lloadN X22.here hx rfl (hb hby at_116) rfl ?_
        show Steps p.tables e below (T22.setTop (mkF m 117 #[.val (.long q0), .second, .val (.long q1), .second, .val (.int p2), .val (.int (own_SA q0 q1 p2)), .val (.int (own_SB q0 q1 p2)), .val (.long (own_NB q0 q1 p2)), .second, .val (.ref b4), .val (.ref b9), .val (.int (own_F2 q0 (nar .boolean (own_SA q0 q1 p2)) (own_NB q0 q1 p2) (nar .boolean (own_SB q0 q1 p2)))), .val (.int (own_F2 (own_NB q0 q1 p2) (nar .boolean (own_SB q0 q1 p2)) q0 (nar .boolean (own_SA q0 q1 p2)))), .val (.int (own_F2 q0 (nar .boolean (own_SA q0 q1 p2)) q0 (nar .boolean (own_SA q0 q1 p2)))), .unset] [(.long q0)])) _
        refine XS.lload X22.here hx rfl (hb hby at_117) rfl ?_
        show Steps p.tables e below (T22.setTop (mkF m 119 #[.val (.long q0), .second, .val (.long q1), .second, .val (.int p2), .val (.int (own_SA q0 q1 p2)), .val (.int (own_SB q0 q1 p2)), .val (.long (own_NB q0 q1 p2)), .second, .val (.ref b4), .val (.ref b9), .val (.int (own_F2 q0 (nar .boolean (own_SA q0 q1 p2)) (own_NB q0 q1 p2) (nar .boolean (own_SB q0 q1 p2)))), .val (.int (own_F2 (own_NB q0 q1 p2) (nar .boolean (own_SB q0 q1 p2)) q0 (nar .boolean (own_SA q0 q1 p2)))), .val (.int (own_F2 q0 (nar .boolean (own_SA q0 q1 p2)) q0 (nar .boolean (own_SA q0 q1 p2)))), .unset] [(.long (own_NB q0 q1 p2)), (.long q0)])) _
        refine XS.lcmp X22.here hx rfl (hb hby at_119) rfl ?_
        show Steps p.tables e below (T22.setTop (mkF m 120 #[.val (.long q0), .second, .val (.long q1), .second, .val (.int p2), .val (.int (own_SA q0 q1 p2)), .val (.int (own_SB q0 q1 p2)), .val (.long (own_NB q0 q1 p2)), .second, .val (.ref b4), .val (.ref b9), .val (.int (own_F2 q0 (nar .boolean (own_SA q0 q1 p2)) (own_NB q0 q1 p2) (nar .boolean (own_SB q0 q1 p2)))), .val (.int (own_F2 (own_NB q0 q1 p2) (nar .boolean (own_SB q0 q1 p2)) q0 (nar .boolean (own_SA q0 q1 p2)))), .val (.int (own_F2 q0 (nar .boolean (own_SA q0 q1 p2)) q0 (nar .boolean (own_SA q0 q1 p2)))), .unset] [(.int (lcmpW q0 (own_NB q0 q1 p2)))])) _
        by_cases hc120_25 : q0 = (own_NB q0 q1 p2)
        · skip
          refine XS.ifNo X22.here hx rfl (hb hby at_120) rfl ((if0 _ _).trans (teq ((lw_eq q0 (own_NB q0 q1 p2)).mpr hc120_25)).2) ?_
          show Steps p.tables e below (T22.setTop (mkF m 123 #[.val (.long q0), .second, .val (.long q1), .second, .val (.int p2), .val (.int (own_SA q0 q1 p2)), .val (.int (own_SB q0 q1 p2)), .val (.long (own_NB q0 q1 p2)), .second, .val (.ref b4), .val (.ref b9), .val (.int (own_F2 q0 (nar .boolean (own_SA q0 q1 p2)) (own_NB q0 q1 p2) (nar .boolean (own_SB q0 q1 p2)))), .val (.int (own_F2 (own_NB q0 q1 p2) (nar .boolean (own_SB q0 q1 p2)) q0 (nar .boolean (own_SA q0 q1 p2)))), .val (.int (own_F2 q0 (nar .boolean (own_SA q0 q1 p2)) q0 (nar .boolean (own_SA q0 q1 p2)))), .unset] [])) _
          refine XS.iconst X22.here hx rfl (hb hby at_123) ?_
          show Steps p.tables e below (T22.setTop (mkF m 124 #[.val (.long q0), .second, .val (.long q1), .second, .val (.int p2), .val (.int (own_SA q0 q1 p2)), .val (.int (own_SB q0 q1 p2)), .val (.long (own_NB q0 q1 p2)), .second, .val (.ref b4), .val (.ref b9), .val (.int (own_F2 q0 (nar .boolean (own_SA q0 q1 p2)) (own_NB q0 q1 p2) (nar .boolean (own_SB q0 q1 p2)))), .val (.int (own_F2 (own_NB q0 q1 p2) (nar .boolean (own_SB q0 q1 p2)) q0 (nar .boolean (own_SA q0 q1 p2)))), .val (.int (own_F2 q0 (nar .boolean (own_SA q0 q1 p2)) q0 (nar .boolean (own_SA q0 q1 p2)))), .unset] [(.int (0 : Int32))])) _
          refine XS.istore X22.here hx rfl (hb hby at_124) rfl (l' := #[.val (.long q0), .second, .val (.long q1), .second, .val (.int p2), .val (.int (own_SA q0 q1 p2)), .val (.int (own_SB q0 q1 p2)), .val (.long (own_NB q0 q1 p2)), .second, .val (.ref b4), .val (.ref b9), .val (.int (own_F2 q0 (nar .boolean (own_SA q0 q1 p2)) (own_NB q0 q1 p2) (nar .boolean (own_SB q0 q1 p2)))), .val (.int (own_F2 (own_NB q0 q1 p2) (nar .boolean (own_SB q0 q1 p2)) q0 (nar .boolean (own_SA q0 q1 p2)))), .val (.int (own_F2 q0 (nar .boolean (own_SA q0 q1 p2)) q0 (nar .boolean (own_SA q0 q1 p2)))), .val (.int (0 : Int32))]) rfl ?_
          show Steps p.tables e below (T22.setTop (mkF m 126 #[.val (.long q0), .second, .val (.long q1), .second, .val (.int p2), .val (.int (own_SA q0 q1 p2)), .val (.int (own_SB q0 q1 p2)), .val (.long (own_NB q0 q1 p2)), .second, .val (.ref b4), .val (.ref b9), .val (.int (own_F2 q0 (nar .boolean (own_SA q0 q1 p2)) (own_NB q0 q1 p2) (nar .boolean (own_SB q0 q1 p2)))), .val (.int (own_F2 (own_NB q0 q1 p2) (nar .boolean (own_SB q0 q1 p2)) q0 (nar .boolean (own_SA q0 q1 p2)))), .val (.int (own_F2 q0 (nar .boolean (own_SA q0 q1 p2)) q0 (nar .boolean (own_SA q0 q1 p2)))), .val (.int (0 : Int32))] [])) _
          refine XS.goto X22.here hx rfl (pc0 := 126) (pc' := 132) rfl (hb hby at_126) (by decide) (by decide) ?_
          show Steps p.tables e below (T22.setTop (mkF m 132 #[.val (.long q0), .second, .val (.long q1), .second, .val (.int p2), .val (.int (own_SA q0 q1 p2)), .val (.int (own_SB q0 q1 p2)), .val (.long (own_NB q0 q1 p2)), .second, .val (.ref b4), .val (.ref b9), .val (.int (own_F2 q0 (nar .boolean (own_SA q0 q1 p2)) (own_NB q0 q1 p2) (nar .boolean (own_SB q0 q1 p2)))), .val (.int (own_F2 (own_NB q0 q1 p2) (nar .boolean (own_SB q0 q1 p2)) q0 (nar .boolean (own_SA q0 q1 p2)))), .val (.int (own_F2 q0 (nar .boolean (own_SA q0 q1 p2)) q0 (nar .boolean (own_SA q0 q1 p2)))), .val (.int (0 : Int32))] [])) _
          simp only [if_neg hc96_23, if_neg hc107_24, if_pos hc120_25] at k
          exact k
        · skip
          refine XS.ifYes X22.here hx rfl (pc0 := 120) (pc' := 129) rfl (hb hby at_120) rfl ((if0 _ _).trans (feq (fun q => hc120_25 ((lw_eq q0 (own_NB q0 q1 p2)).mp q))).2) (by decide) (by decide) ?_
          show Steps p.tables e below (T22.setTop (mkF m 129 #[.val (.long q0), .second, .val (.long q1), .second, .val (.int p2), .val (.int (own_SA q0 q1 p2)), .val (.int (own_SB q0 q1 p2)), .val (.long (own_NB q0 q1 p2)), .second, .val (.ref b4), .val (.ref b9), .val (.int (own_F2 q0 (nar .boolean (own_SA q0 q1 p2)) (own_NB q0 q1 p2) (nar .boolean (own_SB q0 q1 p2)))), .val (.int (own_F2 (own_NB q0 q1 p2) (nar .boolean (own_SB q0 q1 p2)) q0 (nar .boolean (own_SA q0 q1 p2)))), .val (.int (own_F2 q0 (nar .boolean (own_SA q0 q1 p2)) q0 (nar .boolean (own_SA q0 q1 p2)))), .unset] [])) _
          refine XS.iconst X22.here hx rfl (hb hby at_129) ?_
          show Steps p.tables e below (T22.setTop (mkF m 130 #[.val (.long q0), .second, .val (.long q1), .second, .val (.int p2), .val (.int (own_SA q0 q1 p2)), .val (.int (own_SB q0 q1 p2)), .val (.long (own_NB q0 q1 p2)), .second, .val (.ref b4), .val (.ref b9), .val (.int (own_F2 q0 (nar .boolean (own_SA q0 q1 p2)) (own_NB q0 q1 p2) (nar .boolean (own_SB q0 q1 p2)))), .val (.int (own_F2 (own_NB q0 q1 p2) (nar .boolean (own_SB q0 q1 p2)) q0 (nar .boolean (own_SA q0 q1 p2)))), .val (.int (own_F2 q0 (nar .boolean (own_SA q0 q1 p2)) q0 (nar .boolean (own_SA q0 q1 p2)))), .unset] [(.int (1 : Int32))])) _
          refine XS.istore X22.here hx rfl (hb hby at_130) rfl (l' := #[.val (.long q0), .second, .val (.long q1), .second, .val (.int p2), .val (.int (own_SA q0 q1 p2)), .val (.int (own_SB q0 q1 p2)), .val (.long (own_NB q0 q1 p2)), .second, .val (.ref b4), .val (.ref b9), .val (.int (own_F2 q0 (nar .boolean (own_SA q0 q1 p2)) (own_NB q0 q1 p2) (nar .boolean (own_SB q0 q1 p2)))), .val (.int (own_F2 (own_NB q0 q1 p2) (nar .boolean (own_SB q0 q1 p2)) q0 (nar .boolean (own_SA q0 q1 p2)))), .val (.int (own_F2 q0 (nar .boolean (own_SA q0 q1 p2)) q0 (nar .boolean (own_SA q0 q1 p2)))), .val (.int (1 : Int32))]) rfl ?_
          show Steps p.tables e below (T22.setTop (mkF m 132 #[.val (.long q0), .second, .val (.long q1), .second, .val (.int p2), .val (.int (own_SA q0 q1 p2)), .val (.int (own_SB q0 q1 p2)), .val (.long (own_NB q0 q1 p2)), .second, .val (.ref b4), .val (.ref b9), .val (.int (own_F2 q0 (nar .boolean (own_SA q0 q1 p2)) (own_NB q0 q1 p2) (nar .boolean (own_SB q0 q1 p2)))), .val (.int (own_F2 (own_NB q0 q1 p2) (nar .boolean (own_SB q0 q1 p2)) q0 (nar .boolean (own_SA q0 q1 p2)))), .val (.int (own_F2 q0 (nar .boolean (own_SA q0 q1 p2)) q0 (nar .boolean (own_SA q0 q1 p2)))), .val (.int (1 : Int32))] [])) _
          simp only [if_neg hc96_23, if_neg hc107_24, if_neg hc120_25] at k
          exact k
  refine own_go (T' := T22) (f' := (mkF m 132 #[.val (.long q0), .second, .val (.long q1), .second, .val (.int p2), .val (.int (own_SA q0 q1 p2)), .val (.int (own_SB q0 q1 p2)), .val (.long (own_NB q0 q1 p2)), .second, .val (.ref b4), .val (.ref b9), .val (.int (own_F2 q0 (nar .boolean (own_SA q0 q1 p2)) (own_NB q0 q1 p2) (nar .boolean (own_SB q0 q1 p2)))), .val (.int (own_F2 (own_NB q0 q1 p2) (nar .boolean (own_SB q0 q1 p2)) q0 (nar .boolean (own_SA q0 q1 p2)))), .val (.int (own_F2 q0 (nar .boolean (own_SA q0 q1 p2)) q0 (nar .boolean (own_SA q0 q1 p2)))), .val (.int (own_EX q0 q1 p2))] [])) (fun t k => k) ?_
  refine own_go (T' := T22) (f' := (mkF m 136 #[.val (.long q0), .second, .val (.long q1), .second, .val (.int p2), .val (.int (own_SA q0 q1 p2)), .val (.int (own_SB q0 q1 p2)), .val (.long (own_NB q0 q1 p2)), .second, .val (.ref b4), .val (.ref b9), .val (.int (own_F2 q0 (nar .boolean (own_SA q0 q1 p2)) (own_NB q0 q1 p2) (nar .boolean (own_SB q0 q1 p2)))), .val (.int (own_F2 (own_NB q0 q1 p2) (nar .boolean (own_SB q0 q1 p2)) q0 (nar .boolean (own_SA q0 q1 p2)))), .val (.int (own_F2 q0 (nar .boolean (own_SA q0 q1 p2)) q0 (nar .boolean (own_SA q0 q1 p2)))), .val (.int (own_EX q0 q1 p2))] [(.int (own_EX q0 q1 p2)), (.int (own_F2 q0 (nar .boolean (own_SA q0 q1 p2)) (own_NB q0 q1 p2) (nar .boolean (own_SB q0 q1 p2))))])) (fun t k => ?_) ?_
  · show Steps p.tables e below (T22.setTop (mkF m 132 #[.val (.long q0), .second, .val (.long q1), .second, .val (.int p2), .val (.int (own_SA q0 q1 p2)), .val (.int (own_SB q0 q1 p2)), .val (.long (own_NB q0 q1 p2)), .second, .val (.ref b4), .val (.ref b9), .val (.int (own_F2 q0 (nar .boolean (own_SA q0 q1 p2)) (own_NB q0 q1 p2) (nar .boolean (own_SB q0 q1 p2)))), .val (.int (own_F2 (own_NB q0 q1 p2) (nar .boolean (own_SB q0 q1 p2)) q0 (nar .boolean (own_SA q0 q1 p2)))), .val (.int (own_F2 q0 (nar .boolean (own_SA q0 q1 p2)) q0 (nar .boolean (own_SA q0 q1 p2)))), .val (.int (own_EX q0 q1 p2))] [])) _
    refine XS.iload X22.here hx rfl (hb hby at_132) rfl ?_
    show Steps p.tables e below (T22.setTop (mkF m 134 #[.val (.long q0), .second, .val (.long q1), .second, .val (.int p2), .val (.int (own_SA q0 q1 p2)), .val (.int (own_SB q0 q1 p2)), .val (.long (own_NB q0 q1 p2)), .second, .val (.ref b4), .val (.ref b9), .val (.int (own_F2 q0 (nar .boolean (own_SA q0 q1 p2)) (own_NB q0 q1 p2) (nar .boolean (own_SB q0 q1 p2)))), .val (.int (own_F2 (own_NB q0 q1 p2) (nar .boolean (own_SB q0 q1 p2)) q0 (nar .boolean (own_SA q0 q1 p2)))), .val (.int (own_F2 q0 (nar .boolean (own_SA q0 q1 p2)) q0 (nar .boolean (own_SA q0 q1 p2)))), .val (.int (own_EX q0 q1 p2))] [(.int (own_F2 q0 (nar .boolean (own_SA q0 q1 p2)) (own_NB q0 q1 p2) (nar .boolean (own_SB q0 q1 p2))))])) _
    refine XS.iload X22.here hx rfl (hb hby at_134) rfl ?_
    show Steps p.tables e below (T22.setTop (mkF m 136 #[.val (.long q0), .second, .val (.long q1), .second, .val (.int p2), .val (.int (own_SA q0 q1 p2)), .val (.int (own_SB q0 q1 p2)), .val (.long (own_NB q0 q1 p2)), .second, .val (.ref b4), .val (.ref b9), .val (.int (own_F2 q0 (nar .boolean (own_SA q0 q1 p2)) (own_NB q0 q1 p2) (nar .boolean (own_SB q0 q1 p2)))), .val (.int (own_F2 (own_NB q0 q1 p2) (nar .boolean (own_SB q0 q1 p2)) q0 (nar .boolean (own_SA q0 q1 p2)))), .val (.int (own_F2 q0 (nar .boolean (own_SA q0 q1 p2)) q0 (nar .boolean (own_SA q0 q1 p2)))), .val (.int (own_EX q0 q1 p2))] [(.int (own_EX q0 q1 p2)), (.int (own_F2 q0 (nar .boolean (own_SA q0 q1 p2)) (own_NB q0 q1 p2) (nar .boolean (own_SB q0 q1 p2))))])) _
    exact k
  by_cases hc136_26 : (own_F2 q0 (nar .boolean (own_SA q0 q1 p2)) (own_NB q0 q1 p2) (nar .boolean (own_SB q0 q1 p2))) = (own_EX q0 q1 p2)
  · skip
    refine own_go (T' := T22) (f' := (mkF m 143 #[.val (.long q0), .second, .val (.long q1), .second, .val (.int p2), .val (.int (own_SA q0 q1 p2)), .val (.int (own_SB q0 q1 p2)), .val (.long (own_NB q0 q1 p2)), .second, .val (.ref b4), .val (.ref b9), .val (.int (own_F2 q0 (nar .boolean (own_SA q0 q1 p2)) (own_NB q0 q1 p2) (nar .boolean (own_SB q0 q1 p2)))), .val (.int (own_F2 (own_NB q0 q1 p2) (nar .boolean (own_SB q0 q1 p2)) q0 (nar .boolean (own_SA q0 q1 p2)))), .val (.int (own_F2 q0 (nar .boolean (own_SA q0 q1 p2)) q0 (nar .boolean (own_SA q0 q1 p2)))), .val (.int (own_EX q0 q1 p2))] [(.int (own_EX q0 q1 p2)), (.int (own_F2 (own_NB q0 q1 p2) (nar .boolean (own_SB q0 q1 p2)) q0 (nar .boolean (own_SA q0 q1 p2))))])) (fun t k => ?_) ?_
    · show Steps p.tables e below (T22.setTop (mkF m 136 #[.val (.long q0), .second, .val (.long q1), .second, .val (.int p2), .val (.int (own_SA q0 q1 p2)), .val (.int (own_SB q0 q1 p2)), .val (.long (own_NB q0 q1 p2)), .second, .val (.ref b4), .val (.ref b9), .val (.int (own_F2 q0 (nar .boolean (own_SA q0 q1 p2)) (own_NB q0 q1 p2) (nar .boolean (own_SB q0 q1 p2)))), .val (.int (own_F2 (own_NB q0 q1 p2) (nar .boolean (own_SB q0 q1 p2)) q0 (nar .boolean (own_SA q0 q1 p2)))), .val (.int (own_F2 q0 (nar .boolean (own_SA q0 q1 p2)) q0 (nar .boolean (own_SA q0 q1 p2)))), .val (.int (own_EX q0 q1 p2))] [(.int (own_EX q0 q1 p2)), (.int (own_F2 q0 (nar .boolean (own_SA q0 q1 p2)) (own_NB q0 q1 p2) (nar .boolean (own_SB q0 q1 p2))))])) _
      refine XS.icmpNo X22.here hx rfl (hb hby at_136) rfl (teq hc136_26).2 ?_
      show Steps p.tables e below (T22.setTop (mkF m 139 #[.val (.long q0), .second, .val (.long q1), .second, .val (.int p2), .val (.int (own_SA q0 q1 p2)), .val (.int (own_SB q0 q1 p2)), .val (.long (own_NB q0 q1 p2)), .second, .val (.ref b4), .val (.ref b9), .val (.int (own_F2 q0 (nar .boolean (own_SA q0 q1 p2)) (own_NB q0 q1 p2) (nar .boolean (own_SB q0 q1 p2)))), .val (.int (own_F2 (own_NB q0 q1 p2) (nar .boolean (own_SB q0 q1 p2)) q0 (nar .boolean (own_SA q0 q1 p2)))), .val (.int (own_F2 q0 (nar .boolean (own_SA q0 q1 p2)) q0 (nar .boolean (own_SA q0 q1 p2)))), .val (.int (own_EX q0 q1 p2))] [])) _
      refine XS.iload X22.here hx rfl (hb hby at_139) rfl ?_
      show Steps p.tables e below (T22.setTop (mkF m 141 #[.val (.long q0), .second, .val (.long q1), .second, .val (.int p2), .val (.int (own_SA q0 q1 p2)), .val (.int (own_SB q0 q1 p2)), .val (.long (own_NB q0 q1 p2)), .second, .val (.ref b4), .val (.ref b9), .val (.int (own_F2 q0 (nar .boolean (own_SA q0 q1 p2)) (own_NB q0 q1 p2) (nar .boolean (own_SB q0 q1 p2)))), .val (.int (own_F2 (own_NB q0 q1 p2) (nar .boolean (own_SB q0 q1 p2)) q0 (nar .boolean (own_SA q0 q1 p2)))), .val (.int (own_F2 q0 (nar .boolean (own_SA q0 q1 p2)) q0 (nar .boolean (own_SA q0 q1 p2)))), .val (.int (own_EX q0 q1 p2))] [(.int (own_F2 (own_NB q0 q1 p2) (nar .boolean (own_SB q0 q1 p2)) q0 (nar .boolean (own_SA q0 q1 p2))))])) _
      refine XS.iload X22.here hx rfl (hb hby at_141) rfl ?_
      show Steps p.tables e below (T22.setTop (mkF m 143 #[.val (.long q0), .second, .val (.long q1), .second, .val (.int p2), .val (.int (own_SA q0 q1 p2)), .val (.int (own_SB q0 q1 p2)), .val (.long (own_NB q0 q1 p2)), .second, .val (.ref b4), .val (.ref b9), .val (.int (own_F2 q0 (nar .boolean (own_SA q0 q1 p2)) (own_NB q0 q1 p2) (nar .boolean (own_SB q0 q1 p2)))), .val (.int (own_F2 (own_NB q0 q1 p2) (nar .boolean (own_SB q0 q1 p2)) q0 (nar .boolean (own_SA q0 q1 p2)))), .val (.int (own_F2 q0 (nar .boolean (own_SA q0 q1 p2)) q0 (nar .boolean (own_SA q0 q1 p2)))), .val (.int (own_EX q0 q1 p2))] [(.int (own_EX q0 q1 p2)), (.int (own_F2 (own_NB q0 q1 p2) (nar .boolean (own_SB q0 q1 p2)) q0 (nar .boolean (own_SA q0 q1 p2))))])) _
      exact k
    by_cases hc143_27 : (own_F2 (own_NB q0 q1 p2) (nar .boolean (own_SB q0 q1 p2)) q0 (nar .boolean (own_SA q0 q1 p2))) = (own_EX q0 q1 p2)
    · skip
      refine own_go (T' := T22) (f' := (mkF m 148 #[.val (.long q0), .second, .val (.long q1), .second, .val (.int p2), .val (.int (own_SA q0 q1 p2)), .val (.int (own_SB q0 q1 p2)), .val (.long (own_NB q0 q1 p2)), .second, .val (.ref b4), .val (.ref b9), .val (.int (own_F2 q0 (nar .boolean (own_SA q0 q1 p2)) (own_NB q0 q1 p2) (nar .boolean (own_SB q0 q1 p2)))), .val (.int (own_F2 (own_NB q0 q1 p2) (nar .boolean (own_SB q0 q1 p2)) q0 (nar .boolean (own_SA q0 q1 p2)))), .val (.int (own_F2 q0 (nar .boolean (own_SA q0 q1 p2)) q0 (nar .boolean (own_SA q0 q1 p2)))), .val (.int (own_EX q0 q1 p2))] [(.int (own_F2 q0 (nar .boolean (own_SA q0 q1 p2)) q0 (nar .boolean (own_SA q0 q1 p2))))])) (fun t k => ?_) ?_
      · show Steps p.tables e below (T22.setTop (mkF m 143 #[.val (.long q0), .second, .val (.long q1), .second, .val (.int p2), .val (.int (own_SA q0 q1 p2)), .val (.int (own_SB q0 q1 p2)), .val (.long (own_NB q0 q1 p2)), .second, .val (.ref b4), .val (.ref b9), .val (.int (own_F2 q0 (nar .boolean (own_SA q0 q1 p2)) (own_NB q0 q1 p2) (nar .boolean (own_SB q0 q1 p2)))), .val (.int (own_F2 (own_NB q0 q1 p2) (nar .boolean (own_SB q0 q1 p2)) q0 (nar .boolean (own_SA q0 q1 p2)))), .val (.int (own_F2 q0 (nar .boolean (own_SA q0 q1 p2)) q0 (nar .boolean (own_SA q0 q1 p2)))), .val (.int (own_EX q0 q1 p2))] [(.int (own_EX q0 q1 p2)), (.int (own_F2 (own_NB q0 q1 p2) (nar .boolean (own_SB q0 q1 p2)) q0 (nar .boolean (own_SA q0 q1 p2))))])) _
        refine XS.icmpNo X22.here hx rfl (hb hby at_143) rfl (teq hc143_27).2 ?_
        show Steps p.tables e below (T22.setTop (mkF m 146 #[.val (.long q0), .second, .val (.long q1), .second, .val (.int p2), .val (.int (own_SA q0 q1 p2)), .val (.int (own_SB q0 q1 p2)), .val (.long (own_NB q0 q1 p2)), .second, .val (.ref b4), .val (.ref b9), .val (.int (own_F2 q0 (nar .boolean (own_SA q0 q1 p2)) (own_NB q0 q1 p2) (nar .boolean (own_SB q0 q1 p2)))), .val (.int (own_F2 (own_NB q0 q1 p2) (nar .boolean (own_SB q0 q1 p2)) q0 (nar .boolean (own_SA q0 q1 p2)))), .val (.int (own_F2 q0 (nar .boolean (own_SA q0 q1 p2)) q0 (nar .boolean (own_SA q0 q1 p2)))), .val (.int (own_EX q0 q1 p2))] [])) _
        refine XS.iload X22.here hx rfl (hb hby at_146) rfl ?_
        show Steps p.tables e below (T22.setTop (mkF m 148 #[.val (.long q0), .second, .val (.long q1), .second, .val (.int p2), .val (.int (own_SA q0 q1 p2)), .val (.int (own_SB q0 q1 p2)), .val (.long (own_NB q0 q1 p2)), .second, .val (.ref b4), .val (.ref b9), .val (.int (own_F2 q0 (nar .boolean (own_SA q0 q1 p2)) (own_NB q0 q1 p2) (nar .boolean (own_SB q0 q1 p2)))), .val (.int (own_F2 (own_NB q0 q1 p2) (nar .boolean (own_SB q0 q1 p2)) q0 (nar .boolean (own_SA q0 q1 p2)))), .val (.int (own_F2 q0 (nar .boolean (own_SA q0 q1 p2)) q0 (nar .boolean (own_SA q0 q1 p2)))), .val (.int (own_EX q0 q1 p2))] [(.int (own_F2 q0 (nar .boolean (own_SA q0 q1 p2)) q0 (nar .boolean (own_SA q0 q1 p2))))])) _
        exact k
      by_cases hc148_28 : (own_F2 q0 (nar .boolean (own_SA q0 q1 p2)) q0 (nar .boolean (own_SA q0 q1 p2))) = (0 : Int32)
      · skip
        refine own_go (T' := T22) (f' := (mkF m 156 #[.val (.long q0), .second, .val (.long q1), .second, .val (.int p2), .val (.int (own_SA q0 q1 p2)), .val (.int (own_SB q0 q1 p2)), .val (.long (own_NB q0 q1 p2)), .second, .val (.ref b4), .val (.ref b9), .val (.int (own_F2 q0 (nar .boolean (own_SA q0 q1 p2)) (own_NB q0 q1 p2) (nar .boolean (own_SB q0 q1 p2)))), .val (.int (own_F2 (own_NB q0 q1 p2) (nar .boolean (own_SB q0 q1 p2)) q0 (nar .boolean (own_SA q0 q1 p2)))), .val (.int (own_F2 q0 (nar .boolean (own_SA q0 q1 p2)) q0 (nar .boolean (own_SA q0 q1 p2)))), .val (.int (own_EX q0 q1 p2))] [(.int (1 : Int32))])) (fun t k => ?_) ?_
        · show Steps p.tables e below (T22.setTop (mkF m 148 #[.val (.long q0), .second, .val (.long q1), .second, .val (.int p2), .val (.int (own_SA q0 q1 p2)), .val (.int (own_SB q0 q1 p2)), .val (.long (own_NB q0 q1 p2)), .second, .val (.ref b4), .val (.ref b9), .val (.int (own_F2 q0 (nar .boolean (own_SA q0 q1 p2)) (own_NB q0 q1 p2) (nar .boolean (own_SB q0 q1 p2)))), .val (.int (own_F2 (own_NB q0 q1 p2) (nar .boolean (own_SB q0 q1 p2)) q0 (nar .boolean (own_SA q0 q1 p2)))), .val (.int (own_F2 q0 (nar .boolean (own_SA q0 q1 p2)) q0 (nar .boolean (own_SA q0 q1 p2)))), .val (.int (own_EX q0 q1 p2))] [(.int (own_F2 q0 (nar .boolean (own_SA q0 q1 p2)) q0 (nar .boolean (own_SA q0 q1 p2))))])) _
          refine XS.ifNo X22.here hx rfl (hb hby at_148) rfl ((if0 _ _).trans (teq hc148_28).2) ?_
          show Steps p.tables e below (T22.setTop (mkF m 151 #[.val (.long q0), .second, .val (.long q1), .second, .val (.int p2), .val (.int (own_SA q0 q1 p2)), .val (.int (own_SB q0 q1 p2)), .val (.long (own_NB q0 q1 p2)), .second, .val (.ref b4), .val (.ref b9), .val (.int (own_F2 q0 (nar .boolean (own_SA q0 q1 p2)) (own_NB q0 q1 p2) (nar .boolean (own_SB q0 q1 p2)))), .val (.int (own_F2 (own_NB q0 q1 p2) (nar .boolean (own_SB q0 q1 p2)) q0 (nar .boolean (own_SA q0 q1 p2)))), .val (.int (own_F2 q0 (nar .boolean (own_SA q0 q1 p2)) q0 (nar .boolean (own_SA q0 q1 p2)))), .val (.int (own_EX q0 q1 p2))] [])) _
          refine XS.iconst X22.here hx rfl (hb hby at_151) ?_
          show Steps p.tables e below (T22.setTop (mkF m 152 #[.val (.long q0), .second, .val (.long q1), .second, .val (.int p2), .val (.int (own_SA q0 q1 p2)), .val (.int (own_SB q0 q1 p2)), .val (.long (own_NB q0 q1 p2)), .second, .val (.ref b4), .val (.ref b9), .val (.int (own_F2 q0 (nar .boolean (own_SA q0 q1 p2)) (own_NB q0 q1 p2) (nar .boolean (own_SB q0 q1 p2)))), .val (.int (own_F2 (own_NB q0 q1 p2) (nar .boolean (own_SB q0 q1 p2)) q0 (nar .boolean (own_SA q0 q1 p2)))), .val (.int (own_F2 q0 (nar .boolean (own_SA q0 q1 p2)) q0 (nar .boolean (own_SA q0 q1 p2)))), .val (.int (own_EX q0 q1 p2))] [(.int (1 : Int32))])) _
          refine XS.goto X22.here hx rfl (pc0 := 152) (pc' := 156) rfl (hb hby at_152) (by decide) (by decide) ?_
          show Steps p.tables e below (T22.setTop (mkF m 156 #[.val (.long q0), .second, .val (.long q1), .second, .val (.int p2), .val (.int (own_SA q0 q1 p2)), .val (.int (own_SB q0 q1 p2)), .val (.long (own_NB q0 q1 p2)), .second, .val (.ref b4), .val (.ref b9), .val (.int (own_F2 q0 (nar .boolean (own_SA q0 q1 p2)) (own_NB q0 q1 p2) (nar .boolean (own_SB q0 q1 p2)))), .val (.int (own_F2 (own_NB q0 q1 p2) (nar .boolean (own_SB q0 q1 p2)) q0 (nar .boolean (own_SA q0 q1 p2)))), .val (.int (own_F2 q0 (nar .boolean (own_SA q0 q1 p2)) q0 (nar .boolean (own_SA q0 q1 p2)))), .val (.int (own_EX q0 q1 p2))] [(.int (1 : Int32))])) _
          exact k
        obtain ⟨fs, hr, hrun, hended, hW, hsame⟩ := X22.leave (v := some (.int (1 : Int32))) (fun h => by rw [Bd.returns] at h; cases h)
        refine ⟨_, _, ?_, hrun, hended, _, _, rfl, ?_, ⟨_, rfl⟩, hW, hsame.mono (by decide) (by decide)⟩
        · exact retN X22 hx (t := .boolean) Bd.returns (by simp) (hb hby at_156) hr
        · show own_Q0 Z q0 q1 p2 h0 n0 _ T22.heap _
          rw [h22q]
          exact ⟨(congrArg (fun z => some (Value.int z)) ((by rw [own_F0, if_pos hc136_26, if_pos hc143_27, if_pos hc148_28] : (1 : Int32) = own_F0 q0 q1 p2).trans (own_law q0 q1 p2))), N22⟩
      · skip
        refine own_go (T' := T22) (f' := (mkF m 156 #[.val (.long q0), .second, .val (.long q1), .second, .val (.int p2), .val (.int (own_SA q0 q1 p2)), .val (.int (own_SB q0 q1 p2)), .val (.long (own_NB q0 q1 p2)), .second, .val (.ref b4), .val (.ref b9), .val (.int (own_F2 q0 (nar .boolean (own_SA q0 q1 p2)) (own_NB q0 q1 p2) (nar .boolean (own_SB q0 q1 p2)))), .val (.int (own_F2 (own_NB q0 q1 p2) (nar .boolean (own_SB q0 q1 p2)) q0 (nar .boolean (own_SA q0 q1 p2)))), .val (.int (own_F2 q0 (nar .boolean (own_SA q0 q1 p2)) q0 (nar .boolean (own_SA q0 q1 p2)))), .val (.int (own_EX q0 q1 p2))] [(.int (0 : Int32))])) (fun t k => ?_) ?_
        · show Steps p.tables e below (T22.setTop (mkF m 148 #[.val (.long q0), .second, .val (.long q1), .second, .val (.int p2), .val (.int (own_SA q0 q1 p2)), .val (.int (own_SB q0 q1 p2)), .val (.long (own_NB q0 q1 p2)), .second, .val (.ref b4), .val (.ref b9), .val (.int (own_F2 q0 (nar .boolean (own_SA q0 q1 p2)) (own_NB q0 q1 p2) (nar .boolean (own_SB q0 q1 p2)))), .val (.int (own_F2 (own_NB q0 q1 p2) (nar .boolean (own_SB q0 q1 p2)) q0 (nar .boolean (own_SA q0 q1 p2)))), .val (.int (own_F2 q0 (nar .boolean (own_SA q0 q1 p2)) q0 (nar .boolean (own_SA q0 q1 p2)))), .val (.int (own_EX q0 q1 p2))] [(.int (own_F2 q0 (nar .boolean (own_SA q0 q1 p2)) q0 (nar .boolean (own_SA q0 q1 p2))))])) _
          refine XS.ifYes X22.here hx rfl (pc0 := 148) (pc' := 155) rfl (hb hby at_148) rfl ((if0 _ _).trans (feq hc148_28).2) (by decide) (by decide) ?_
          show Steps p.tables e below (T22.setTop (mkF m 155 #[.val (.long q0), .second, .val (.long q1), .second, .val (.int p2), .val (.int (own_SA q0 q1 p2)), .val (.int (own_SB q0 q1 p2)), .val (.long (own_NB q0 q1 p2)), .second, .val (.ref b4), .val (.ref b9), .val (.int (own_F2 q0 (nar .boolean (own_SA q0 q1 p2)) (own_NB q0 q1 p2) (nar .boolean (own_SB q0 q1 p2)))), .val (.int (own_F2 (own_NB q0 q1 p2) (nar .boolean (own_SB q0 q1 p2)) q0 (nar .boolean (own_SA q0 q1 p2)))), .val (.int (own_F2 q0 (nar .boolean (own_SA q0 q1 p2)) q0 (nar .boolean (own_SA q0 q1 p2)))), .val (.int (own_EX q0 q1 p2))] [])) _
          refine XS.iconst X22.here hx rfl (hb hby at_155) ?_
          show Steps p.tables e below (T22.setTop (mkF m 156 #[.val (.long q0), .second, .val (.long q1), .second, .val (.int p2), .val (.int (own_SA q0 q1 p2)), .val (.int (own_SB q0 q1 p2)), .val (.long (own_NB q0 q1 p2)), .second, .val (.ref b4), .val (.ref b9), .val (.int (own_F2 q0 (nar .boolean (own_SA q0 q1 p2)) (own_NB q0 q1 p2) (nar .boolean (own_SB q0 q1 p2)))), .val (.int (own_F2 (own_NB q0 q1 p2) (nar .boolean (own_SB q0 q1 p2)) q0 (nar .boolean (own_SA q0 q1 p2)))), .val (.int (own_F2 q0 (nar .boolean (own_SA q0 q1 p2)) q0 (nar .boolean (own_SA q0 q1 p2)))), .val (.int (own_EX q0 q1 p2))] [(.int (0 : Int32))])) _
          exact k
        obtain ⟨fs, hr, hrun, hended, hW, hsame⟩ := X22.leave (v := some (.int (0 : Int32))) (fun h => by rw [Bd.returns] at h; cases h)
        refine ⟨_, _, ?_, hrun, hended, _, _, rfl, ?_, ⟨_, rfl⟩, hW, hsame.mono (by decide) (by decide)⟩
        · exact retN X22 hx (t := .boolean) Bd.returns (by simp) (hb hby at_156) hr
        · show own_Q0 Z q0 q1 p2 h0 n0 _ T22.heap _
          rw [h22q]
          exact ⟨(congrArg (fun z => some (Value.int z)) ((by rw [own_F0, if_pos hc136_26, if_pos hc143_27, if_neg hc148_28] : (0 : Int32) = own_F0 q0 q1 p2).trans (own_law q0 q1 p2))), N22⟩
    · skip
      refine own_go (T' := T22) (f' := (mkF m 156 #[.val (.long q0), .second, .val (.long q1), .second, .val (.int p2), .val (.int (own_SA q0 q1 p2)), .val (.int (own_SB q0 q1 p2)), .val (.long (own_NB q0 q1 p2)), .second, .val (.ref b4), .val (.ref b9), .val (.int (own_F2 q0 (nar .boolean (own_SA q0 q1 p2)) (own_NB q0 q1 p2) (nar .boolean (own_SB q0 q1 p2)))), .val (.int (own_F2 (own_NB q0 q1 p2) (nar .boolean (own_SB q0 q1 p2)) q0 (nar .boolean (own_SA q0 q1 p2)))), .val (.int (own_F2 q0 (nar .boolean (own_SA q0 q1 p2)) q0 (nar .boolean (own_SA q0 q1 p2)))), .val (.int (own_EX q0 q1 p2))] [(.int (0 : Int32))])) (fun t k => ?_) ?_
      · show Steps p.tables e below (T22.setTop (mkF m 143 #[.val (.long q0), .second, .val (.long q1), .second, .val (.int p2), .val (.int (own_SA q0 q1 p2)), .val (.int (own_SB q0 q1 p2)), .val (.long (own_NB q0 q1 p2)), .second, .val (.ref b4), .val (.ref b9), .val (.int (own_F2 q0 (nar .boolean (own_SA q0 q1 p2)) (own_NB q0 q1 p2) (nar .boolean (own_SB q0 q1 p2)))), .val (.int (own_F2 (own_NB q0 q1 p2) (nar .boolean (own_SB q0 q1 p2)) q0 (nar .boolean (own_SA q0 q1 p2)))), .val (.int (own_F2 q0 (nar .boolean (own_SA q0 q1 p2)) q0 (nar .boolean (own_SA q0 q1 p2)))), .val (.int (own_EX q0 q1 p2))] [(.int (own_EX q0 q1 p2)), (.int (own_F2 (own_NB q0 q1 p2) (nar .boolean (own_SB q0 q1 p2)) q0 (nar .boolean (own_SA q0 q1 p2))))])) _
        refine XS.icmpYes X22.here hx rfl (pc0 := 143) (pc' := 155) rfl (hb hby at_143) rfl (feq hc143_27).2 (by decide) (by decide) ?_
        show Steps p.tables e below (T22.setTop (mkF m 155 #[.val (.long q0), .second, .val (.long q1), .second, .val (.int p2), .val (.int (own_SA q0 q1 p2)), .val (.int (own_SB q0 q1 p2)), .val (.long (own_NB q0 q1 p2)), .second, .val (.ref b4), .val (.ref b9), .val (.int (own_F2 q0 (nar .boolean (own_SA q0 q1 p2)) (own_NB q0 q1 p2) (nar .boolean (own_SB q0 q1 p2)))), .val (.int (own_F2 (own_NB q0 q1 p2) (nar .boolean (own_SB q0 q1 p2)) q0 (nar .boolean (own_SA q0 q1 p2)))), .val (.int (own_F2 q0 (nar .boolean (own_SA q0 q1 p2)) q0 (nar .boolean (own_SA q0 q1 p2)))), .val (.int (own_EX q0 q1 p2))] [])) _
        refine XS.iconst X22.here hx rfl (hb hby at_155) ?_
        show Steps p.tables e below (T22.setTop (mkF m 156 #[.val (.long q0), .second, .val (.long q1), .second, .val (.int p2), .val (.int (own_SA q0 q1 p2)), .val (.int (own_SB q0 q1 p2)), .val (.long (own_NB q0 q1 p2)), .second, .val (.ref b4), .val (.ref b9), .val (.int (own_F2 q0 (nar .boolean (own_SA q0 q1 p2)) (own_NB q0 q1 p2) (nar .boolean (own_SB q0 q1 p2)))), .val (.int (own_F2 (own_NB q0 q1 p2) (nar .boolean (own_SB q0 q1 p2)) q0 (nar .boolean (own_SA q0 q1 p2)))), .val (.int (own_F2 q0 (nar .boolean (own_SA q0 q1 p2)) q0 (nar .boolean (own_SA q0 q1 p2)))), .val (.int (own_EX q0 q1 p2))] [(.int (0 : Int32))])) _
        exact k
      obtain ⟨fs, hr, hrun, hended, hW, hsame⟩ := X22.leave (v := some (.int (0 : Int32))) (fun h => by rw [Bd.returns] at h; cases h)
      refine ⟨_, _, ?_, hrun, hended, _, _, rfl, ?_, ⟨_, rfl⟩, hW, hsame.mono (by decide) (by decide)⟩
      · exact retN X22 hx (t := .boolean) Bd.returns (by simp) (hb hby at_156) hr
      · show own_Q0 Z q0 q1 p2 h0 n0 _ T22.heap _
        rw [h22q]
        exact ⟨(congrArg (fun z => some (Value.int z)) ((by rw [own_F0, if_pos hc136_26, if_neg hc143_27] : (0 : Int32) = own_F0 q0 q1 p2).trans (own_law q0 q1 p2))), N22⟩
  · skip
    refine own_go (T' := T22) (f' := (mkF m 156 #[.val (.long q0), .second, .val (.long q1), .second, .val (.int p2), .val (.int (own_SA q0 q1 p2)), .val (.int (own_SB q0 q1 p2)), .val (.long (own_NB q0 q1 p2)), .second, .val (.ref b4), .val (.ref b9), .val (.int (own_F2 q0 (nar .boolean (own_SA q0 q1 p2)) (own_NB q0 q1 p2) (nar .boolean (own_SB q0 q1 p2)))), .val (.int (own_F2 (own_NB q0 q1 p2) (nar .boolean (own_SB q0 q1 p2)) q0 (nar .boolean (own_SA q0 q1 p2)))), .val (.int (own_F2 q0 (nar .boolean (own_SA q0 q1 p2)) q0 (nar .boolean (own_SA q0 q1 p2)))), .val (.int (own_EX q0 q1 p2))] [(.int (0 : Int32))])) (fun t k => ?_) ?_
    · show Steps p.tables e below (T22.setTop (mkF m 136 #[.val (.long q0), .second, .val (.long q1), .second, .val (.int p2), .val (.int (own_SA q0 q1 p2)), .val (.int (own_SB q0 q1 p2)), .val (.long (own_NB q0 q1 p2)), .second, .val (.ref b4), .val (.ref b9), .val (.int (own_F2 q0 (nar .boolean (own_SA q0 q1 p2)) (own_NB q0 q1 p2) (nar .boolean (own_SB q0 q1 p2)))), .val (.int (own_F2 (own_NB q0 q1 p2) (nar .boolean (own_SB q0 q1 p2)) q0 (nar .boolean (own_SA q0 q1 p2)))), .val (.int (own_F2 q0 (nar .boolean (own_SA q0 q1 p2)) q0 (nar .boolean (own_SA q0 q1 p2)))), .val (.int (own_EX q0 q1 p2))] [(.int (own_EX q0 q1 p2)), (.int (own_F2 q0 (nar .boolean (own_SA q0 q1 p2)) (own_NB q0 q1 p2) (nar .boolean (own_SB q0 q1 p2))))])) _
      refine XS.icmpYes X22.here hx rfl (pc0 := 136) (pc' := 155) rfl (hb hby at_136) rfl (feq hc136_26).2 (by decide) (by decide) ?_
      show Steps p.tables e below (T22.setTop (mkF m 155 #[.val (.long q0), .second, .val (.long q1), .second, .val (.int p2), .val (.int (own_SA q0 q1 p2)), .val (.int (own_SB q0 q1 p2)), .val (.long (own_NB q0 q1 p2)), .second, .val (.ref b4), .val (.ref b9), .val (.int (own_F2 q0 (nar .boolean (own_SA q0 q1 p2)) (own_NB q0 q1 p2) (nar .boolean (own_SB q0 q1 p2)))), .val (.int (own_F2 (own_NB q0 q1 p2) (nar .boolean (own_SB q0 q1 p2)) q0 (nar .boolean (own_SA q0 q1 p2)))), .val (.int (own_F2 q0 (nar .boolean (own_SA q0 q1 p2)) q0 (nar .boolean (own_SA q0 q1 p2)))), .val (.int (own_EX q0 q1 p2))] [])) _
      refine XS.iconst X22.here hx rfl (hb hby at_155) ?_
      show Steps p.tables e below (T22.setTop (mkF m 156 #[.val (.long q0), .second, .val (.long q1), .second, .val (.int p2), .val (.int (own_SA q0 q1 p2)), .val (.int (own_SB q0 q1 p2)), .val (.long (own_NB q0 q1 p2)), .second, .val (.ref b4), .val (.ref b9), .val (.int (own_F2 q0 (nar .boolean (own_SA q0 q1 p2)) (own_NB q0 q1 p2) (nar .boolean (own_SB q0 q1 p2)))), .val (.int (own_F2 (own_NB q0 q1 p2) (nar .boolean (own_SB q0 q1 p2)) q0 (nar .boolean (own_SA q0 q1 p2)))), .val (.int (own_F2 q0 (nar .boolean (own_SA q0 q1 p2)) q0 (nar .boolean (own_SA q0 q1 p2)))), .val (.int (own_EX q0 q1 p2))] [(.int (0 : Int32))])) _
      exact k
    obtain ⟨fs, hr, hrun, hended, hW, hsame⟩ := X22.leave (v := some (.int (0 : Int32))) (fun h => by rw [Bd.returns] at h; cases h)
    refine ⟨_, _, ?_, hrun, hended, _, _, rfl, ?_, ⟨_, rfl⟩, hW, hsame.mono (by decide) (by decide)⟩
    · exact retN X22 hx (t := .boolean) Bd.returns (by simp) (hb hby at_156) hr
    · show own_Q0 Z q0 q1 p2 h0 n0 _ T22.heap _
      rw [h22q]
      exact ⟨(congrArg (fun z => some (Value.int z)) ((by rw [own_F0, if_neg hc136_26] : (0 : Int32) = own_F0 q0 q1 p2).trans (own_law q0 q1 p2))), N22⟩
set_option maxRecDepth 65536 in
set_option maxHeartbeats 40000000 in
theorem comes_1 {Post : Tables → Env → Array Value → State → Outcome → State → Prop} (hpost : ∀ tb e args s v u, (limb_1_1.after args s (.returned v) u = true ∧ limb_1_2.after args s (.returned v) u = true ∧ True) → FrameEnd s (.returned v) u (Jvm.fieldLocs frame_1_writes args s ++ Jvm.arrayLocs frame_1_arrays args s ++ Jvm.staticLocs frame_1_statics s) 16 128 → Post tb e args s (.returned v) u) :
    ArmFor flags0 classFile x code maxLocals ret World_1 tables_1 room_1 Calls_1 rest_1 Pre_1 Post := by
  intro l hfl _ _ p e ha hc hk s m args below hf hA hF happ hP
  obtain ⟨hcalls, hrest, hpre⟩ := hP
  obtain ⟨-, -, -, hnamed, -, -, -, hat⟩ := (Spec.applies_iff hf).mp happ
  obtain ⟨hg, hn⟩ := and_e (Cond.before_iff.mp (show (Jvm.Cond.and given_1 narrow_1).before args s = true from hpre))
  obtain ⟨hcnt, g0⟩ := and_e hg
  obtain ⟨k0, g1⟩ := and_e g0
  obtain ⟨k1, g2⟩ := and_e g1
  have k2 := g2
  obtain ⟨w0, w1, w2, rfl⟩ : ∃ w0 w1 w2 : Value, args = #[w0, w1, w2] := by
    have hs : args.size = 3 := by simpa [Cond.value, given_1] using hcnt
    obtain ⟨L⟩ := args
    match L, hs with
    | [w0, w1, w2], _ => exact ⟨w0, w1, w2, rfl⟩
  have hw := fun d (hd : d ∈ tables_1) => atoms_spec (ws := Jvm.Cond.code x code maxLocals ret :: tables_1) hat d (List.mem_cons_of_mem _ hd)
  obtain ⟨i0, e0⟩ := isL_v k0
  obtain rfl : w0 = (.long i0) := Option.some.inj e0
  obtain ⟨i1, e1⟩ := isL_v k1
  obtain rfl : w1 = (.long i1) := Option.some.inj e1
  obtain ⟨i2, e2⟩ := is_v k2
  obtain rfl : w2 = (.int i2) := Option.some.inj e2
  obtain ⟨n, o, h1, h2, h3, _, L, rfl, ⟨hv, N⟩, hq⟩ := own_rm0 l s _ hw tables_1 i0 i1 i2 s.heap s.heap.size (Nat.le_refl _)  p e ha hc hk s m _ below hf ((Spec.applies_iff_loose hf).mp happ).1 ⟨rfl, State.Warmed39.refl s, rfl⟩ trivial
  subst hv
  refine ⟨n, _, h1, h2, h3, hpost _ _ _ _ _ _ ⟨Cond.after_iff.mpr rfl, Cond.after_iff.mpr (eq_i res_at (Term.int_eval (1)) rfl), trivial⟩ ⟨hq.1, hq.2.1, (hq.2.2.sift fun y hy => Or.inr (N y hy)).mono (by decide) (by decide)⟩⟩
theorem main_1_1 : Claimed_1_1 := comes_1 fun _ _ _ _ _ _ h hF => ⟨h.1, hF⟩
theorem main_1_2 : Claimed_1_2 := comes_1 fun _ _ _ _ _ _ h hF => ⟨h.2.1, hF⟩
end Jvm.Pilot.@@N@@
namespace Jvm.Pilot.@@N@@
open Jvm Jvm.ClassFile Sem Op Lib Jvm.Free Jvm.Stand Jvm.Pilot.@@N@@.Jvm.D
/-! MADE BY PROGRAM (witnessworld.py) out of the Statement's table words and the real class files: 10 classes; the members and pool entries that the words name. The judged class is class 1, her method 1. -/
namespace start1
open Jvm.ClassFile
def u (s : String) : CpInfo := .utf8 (stringToUtf16 s)
/-- a pool by its gaps: so many unusable entries, then the entry; so many at the end -/
def gap : Nat → List CpInfo → List CpInfo
  | 0, r => r
  | n + 1, r => .unusable :: gap n r
def poolList (es : List (Nat × CpInfo)) (last : Nat) : List CpInfo := es.foldr (fun e r => gap e.1 (e.2 :: r)) (gap last [])
def pool (es : List (Nat × CpInfo)) (last : Nat) : Array CpInfo := ⟨poolList es last⟩
def fileOf (pool : Array CpInfo) (this : Nat) (attrs : Array Attribute := #[]) (ms : Array MethodInfo := #[]) (fl : Nat := 33) (sup : Nat := 0) (ifs : Array Nat := #[]) (fds : Array FieldInfo := #[]) : ClassFile where
  minorVersion := 0
  majorVersion := 65
  constantPool := pool
  accessFlags := fl
  thisClass := this
  superClass := sup
  interfaces := ifs
  fields := fds
  methods := ms
  attributes := attrs
def plain (name : String) (sup : Option ClassId) : Class where
  name := name
  kind := .ordinary
  loader := none
  accessFlags := 33
  super := sup
  interfaces := #[]
  cf := none
  fields := #[]
  methods := #[]
  instanceTypes := #[]
  staticTypes := #[]
  resolved := #[]
  callSites := []
  init := .initialized
  statics := none
  mirror := none

def pool0 : Array CpInfo := pool [(5, u "<init>"), (0, u "()V"), (1, .class_ 10), (1, u "java/lang/Object")] 113

def k0c0 : Code := { maxStack := 0, maxLocals := 1, code := object_method_1_code, exceptionTable := #[], attributes := #[] }
def k0m0 : Method := { name := "<init>", desc := "()V", sig := { parameters := [], returnType := none }, accessFlags := 1, code := some k0c0 }
/-- java/lang/Object -/
def k0 : Class := { plain "java/lang/Object" none with
  accessFlags := 33
  interfaces := #[]
  cf := some (fileOf pool0 8 #[] #[{ accessFlags := 1, nameIndex := 5, descriptorIndex := 6, attributes := #[] }] 33 0 #[] #[])
  fields := #[]
  methods := #[k0m0]
  instanceTypes := #[]
  staticTypes := #[]
  resolved := Array.replicate 124 none
  statics := none }

def pool1 : Array CpInfo := pool [(2, .class_ 4), (1, u "java/lang/Object"), (0, u "<init>"), (0, u "()V"), (0, .class_ 8), (0, u "com/example/tracecourt/tracecourt/eval/Symmetry$Mark"), (0, .methodref 7 10), (0, .nameAndType 5 11), (0, u "(JZ)V"), (0, .methodref 7 13), (0, .nameAndType 14 15), (0, u "apartFrom"), (0, u "(Lcom/example/tracecourt/tracecourt/eval/Symmetry$Mark;)Z"), (0, .class_ 17), (0, u "com/example/tracecourt/tracecourt/eval/MarkApartFromPinLaw"), (2, u "law"), (0, u "(JJI)Z")] 7

def k1m0 : Method := { name := "<init>", desc := "()V", sig := { parameters := [], returnType := none }, accessFlags := 1, code := none }
def k1c1 : Code := { maxStack := 5, maxLocals := 15, code := code, exceptionTable := #[], attributes := #[] }
def k1m1 : Method := { name := "law", desc := "(JJI)Z", sig := { parameters := [.long, .long, .int], returnType := some .boolean }, accessFlags := 9, code := some k1c1 }
/-- com/example/tracecourt/tracecourt/eval/MarkApartFromPinLaw -/
def k1 : Class := { plain "com/example/tracecourt/tracecourt/eval/MarkApartFromPinLaw" (some 0) with
  accessFlags := 49
  interfaces := #[]
  cf := some (fileOf pool1 16 #[] #[{ accessFlags := 1, nameIndex := 5, descriptorIndex := 6, attributes := #[] }, { accessFlags := 9, nameIndex := 20, descriptorIndex := 21, attributes := #[] }] 49 2 #[] #[])
  fields := #[]
  methods := #[k1m0, k1m1]
  instanceTypes := #[]
  staticTypes := #[]
  resolved := Array.replicate 29 none
  statics := none }

def pool2 : Array CpInfo := pool [(1, .methodref 2 3), (0, .class_ 4), (0, .nameAndType 5 6), (0, u "java/lang/Object"), (0, u "<init>"), (0, u "()V"), (0, .class_ 8), (0, u "java/lang/Record")] 13

def k2c0 : Code := { maxStack := 1, maxLocals := 1, code := jdk_30_method_1_code, exceptionTable := #[], attributes := #[] }
def k2m0 : Method := { name := "<init>", desc := "()V", sig := { parameters := [], returnType := none }, accessFlags := 4, code := some k2c0 }
/-- java/lang/Record -/
def k2 : Class := { plain "java/lang/Record" (some 0) with
  accessFlags := 1057
  interfaces := #[]
  cf := some (fileOf pool2 7 #[] #[{ accessFlags := 4, nameIndex := 5, descriptorIndex := 6, attributes := #[] }] 1057 2 #[] #[])
  fields := #[]
  methods := #[k2m0]
  instanceTypes := #[]
  staticTypes := #[]
  resolved := Array.replicate 22 none
  statics := none }

def pool3 : Array CpInfo := pool [(1, .methodref 2 3), (0, .class_ 4), (0, .nameAndType 5 6), (0, u "java/lang/Record"), (0, u "<init>"), (0, u "()V"), (0, .fieldref 8 9), (0, .class_ 10), (0, .nameAndType 11 12), (0, u "com/example/tracecourt/tracecourt/eval/Symmetry$Mark"), (0, u "number"), (0, u "J"), (0, .fieldref 8 14), (0, .nameAndType 15 16), (0, u "sure"), (0, u "Z"), (12, u "(JZ)V"), (3, u "apartFrom"), (0, u "(Lcom/example/tracecourt/tracecourt/eval/Symmetry$Mark;)Z"), (9, .class_ 45), (0, u "com/example/tracecourt/tracecourt/eval/Symmetry")] 20

def k3c0 : Code := { maxStack := 3, maxLocals := 4, code := prog_69_method_1_code, exceptionTable := #[], attributes := #[] }
def k3m0 : Method := { name := "<init>", desc := "(JZ)V", sig := { parameters := [.long, .boolean], returnType := none }, accessFlags := 1, code := some k3c0 }
def k3c1 : Code := { maxStack := 4, maxLocals := 2, code := prog_69_method_2_code, exceptionTable := #[], attributes := #[] }
def k3m1 : Method := { name := "apartFrom", desc := "(Lcom/example/tracecourt/tracecourt/eval/Symmetry$Mark;)Z", sig := { parameters := [(.object "com/example/tracecourt/tracecourt/eval/Symmetry$Mark")], returnType := some .boolean }, accessFlags := 1, code := some k3c1 }
/-- com/example/tracecourt/tracecourt/eval/Symmetry$Mark -/
def k3 : Class := { plain "com/example/tracecourt/tracecourt/eval/Symmetry$Mark" (some 2) with
  accessFlags := 49
  interfaces := #[]
  cf := some (fileOf pool3 8 #[.nestHost 44] #[{ accessFlags := 1, nameIndex := 5, descriptorIndex := 29, attributes := #[] }, { accessFlags := 1, nameIndex := 33, descriptorIndex := 34, attributes := #[] }] 49 2 #[] #[{ accessFlags := 18, nameIndex := 11, descriptorIndex := 12, attributes := #[] }, { accessFlags := 18, nameIndex := 15, descriptorIndex := 16, attributes := #[] }])
  fields := #[{ name := "number", type := .long, accessFlags := 18, slot := 0, constantValue := 0 }, { name := "sure", type := .boolean, accessFlags := 18, slot := 1, constantValue := 0 }]
  methods := #[k3m0, k3m1]
  instanceTypes := #[.long, .boolean]
  staticTypes := #[]
  resolved := Array.replicate 66 none
  statics := none }

def pool4 : Array CpInfo := pool [(1, u "java/lang/Cloneable"), (0, .class_ 1), (0, u "java/lang/Object"), (0, .class_ 3)] 3

/-- java/lang/Cloneable -/
def k4 : Class := { plain "java/lang/Cloneable" (some 0) with
  accessFlags := 1537
  interfaces := #[]
  cf := some (fileOf pool4 2 #[] #[] 1537 4 #[] #[])
  fields := #[]
  methods := #[]
  instanceTypes := #[]
  staticTypes := #[]
  resolved := Array.replicate 8 none
  statics := none }

def pool5 : Array CpInfo := pool [(1, u "java/io/Serializable"), (0, .class_ 1), (0, u "java/lang/Object"), (0, .class_ 3)] 3

/-- java/io/Serializable -/
def k5 : Class := { plain "java/io/Serializable" (some 0) with
  accessFlags := 1537
  interfaces := #[]
  cf := some (fileOf pool5 2 #[] #[] 1537 4 #[] #[])
  fields := #[]
  methods := #[]
  instanceTypes := #[]
  staticTypes := #[]
  resolved := Array.replicate 8 none
  statics := none }

/-- the primitive byte -/
def k6 : Class := { plain "byte" none with kind := .primitive 'B', accessFlags := 0x411 }
/-- [B -/
def k7 : Class := { plain "[B" (some 0) with kind := .array 6 .byte, interfaces := #[4, 5], accessFlags := 1041 }

/-- the primitive int -/
def k8 : Class := { plain "int" none with kind := .primitive 'I', accessFlags := 0x411 }
/-- [I -/
def k9 : Class := { plain "[I" (some 0) with kind := .array 8 .int, interfaces := #[4, 5], accessFlags := 1041 }

def heap : Heap := #[]
def classes : Array Class := #[k0, k1, k2, k3, k4, k5, k6, k7, k8, k9]
def interned : List (Array UInt16 × Addr) := []
def slotsUsed : Nat := 0
def theMethod : MethodId := ⟨1, 1⟩
def args0 : Array Value := #[.long 5, .long 5, .int 5]
def aboutOver (below : List Frame) : State where
  vm := { classes := classes, interned := interned.toArray }
  heap := heap
  slotsUsed := slotsUsed
  threads := #[{ frames := .invoking theMethod args0 :: below }]
def below0 : List Frame := [.native { method := ⟨0, 0⟩, args := #[] }]
def about1 : State := aboutOver below0
def p0 : Program := .bare "" "" ""
def e0 : Env := launch0.env 0 0 0
theorem w_frames : about1.frames = Frame.invoking theMethod args0 :: below0 := rfl
set_option maxRecDepth 65536 in
theorem w_args : argsFit about1.vm theMethod args0 = true := by decide +kernel
set_option maxRecDepth 65536 in
theorem w_heap : heapFits about1 = true := by decide +kernel
set_option maxRecDepth 65536 in
theorem w_runnable : about1.curStatus? = some .runnable := by decide +kernel
set_option maxRecDepth 65536 in
theorem w_alone : about1.alone = true := by decide +kernel
set_option maxRecDepth 65536 in
theorem w_named : about1.methodNamed? x = some theMethod := by decide +kernel
set_option maxRecDepth 65536 in
theorem w_hears : about1.hears theMethod below0 = true := by decide +kernel
set_option maxRecDepth 65536 in
theorem w_ripe : about1.ripe theMethod args0 below0 = true := by decide +kernel
theorem w_running : about1.status = .running := rfl
set_option maxRecDepth 65536 in
theorem w_room : about1.hasRoom e0.platform room_1 = true :=
  launch0.hasRoom_least _ room_1 (by decide +kernel) (by decide +kernel) (by decide +kernel) (by decide +kernel) (by decide +kernel) (by decide +kernel)
theorem allAtoms_all (ts : List Jvm.Cond) (a : Array Jvm.Value) (st : Jvm.State) : (allAtoms ts).before a st = ts.all (fun c => c.before a st) := by
  induction ts with
  | nil => rfl
  | cons c t ih =>
    show (Jvm.Cond.and c (allAtoms t)).before a st = _
    rw [Jvm.Cond.before_and, ih, List.all_cons]
def words1 : List Jvm.Cond := Jvm.Cond.code x code maxLocals ret :: tables_1
/-- a 'code' word, met by the world's own term for the bytes: nothing is compared byte by byte -/
theorem code_word {y : MethodName} {bytes : ByteArray} {mx : Nat} {rt : Option FieldType} {a : Array Value} {s : State} {m : MethodId} {meth : Method} {c : Code} (h1 : s.methodNamed? y = some m) (h2 : s.vm.method? m = some meth) (h3 : meth.code = some c) (h4 : c.code = bytes)
    (h5 : (c.maxLocals == mx && c.exceptionTable.isEmpty && decide (c.maxStack ≤ mostOperands) && decide (meth.sig.returnType = rt) && !meth.locks && decide (parseMethodDescriptor y.desc = some meth.sig)) = true) : (Jvm.Cond.code y bytes mx rt).before a s = true := by
  simp only [Bool.and_eq_true, beq_iff_eq, Bool.not_eq_true', decide_eq_true_eq] at h5
  obtain ⟨⟨⟨⟨⟨g1, g2⟩, g3⟩, g4⟩, g5⟩, g6⟩ := h5
  simp [Cond.before, Cond.holds, Cond.value, h1, h2, h3, h4, g1, g2, g3, g4, g5, g6]
def isCode : Jvm.Cond → Bool
  | .code _ _ _ _ => true
  | _ => false
theorem all_split {L : List Jvm.Cond} {P : Jvm.Cond → Bool} (h1 : L.all (fun c => isCode c || P c) = true) (h2 : ∀ c ∈ L.filter isCode, P c = true) : L.all P = true := by
  refine List.all_eq_true.mpr fun c hc => ?_
  have h := List.all_eq_true.mp h1 c hc
  rcases Bool.eq_false_or_eq_true (isCode c) with hi | hi
  · exact h2 c (List.mem_filter.mpr ⟨hc, hi⟩)
  · simpa [hi] using h
set_option maxRecDepth 65536 in
theorem w_c0 : (Jvm.Cond.code x code maxLocals ret).before args0 about1 = true := code_word (m := ⟨1, 1⟩) (meth := k1m1) (c := k1c1) (by decide +kernel) rfl rfl rfl (by decide +kernel)
set_option maxRecDepth 65536 in
theorem w_c1 : (Jvm.Cond.code ({ cls := "com/example/tracecourt/tracecourt/eval/Symmetry$Mark", name := "<init>", desc := "(JZ)V" } : Jvm.MethodName) prog_69_method_1_code (4 : Nat) (Option.none : Option Jvm.ClassFile.FieldType)).before args0 about1 = true := code_word (m := ⟨3, 0⟩) (meth := k3m0) (c := k3c0) (by decide +kernel) rfl rfl rfl (by decide +kernel)
set_option maxRecDepth 65536 in
theorem w_c2 : (Jvm.Cond.code ({ cls := "java/lang/Record", name := "<init>", desc := "()V" } : Jvm.MethodName) jdk_30_method_1_code (1 : Nat) (Option.none : Option Jvm.ClassFile.FieldType)).before args0 about1 = true := code_word (m := ⟨2, 0⟩) (meth := k2m0) (c := k2c0) (by decide +kernel) rfl rfl rfl (by decide +kernel)
set_option maxRecDepth 65536 in
theorem w_c3 : (Jvm.Cond.code ({ cls := "java/lang/Object", name := "<init>", desc := "()V" } : Jvm.MethodName) object_method_1_code (1 : Nat) (Option.none : Option Jvm.ClassFile.FieldType)).before args0 about1 = true := code_word (m := ⟨0, 0⟩) (meth := k0m0) (c := k0c0) (by decide +kernel) rfl rfl rfl (by decide +kernel)
set_option maxRecDepth 65536 in
theorem w_c4 : (Jvm.Cond.code ({ cls := "com/example/tracecourt/tracecourt/eval/Symmetry$Mark", name := "apartFrom", desc := "(Lcom/example/tracecourt/tracecourt/eval/Symmetry$Mark;)Z" } : Jvm.MethodName) prog_69_method_2_code (2 : Nat) (Option.some Jvm.ClassFile.FieldType.boolean)).before args0 about1 = true := code_word (m := ⟨3, 1⟩) (meth := k3m1) (c := k3c1) (by decide +kernel) rfl rfl rfl (by decide +kernel)
def codes1 : List Jvm.Cond := [Jvm.Cond.code x code maxLocals ret, Jvm.Cond.code ({ cls := "com/example/tracecourt/tracecourt/eval/Symmetry$Mark", name := "<init>", desc := "(JZ)V" } : Jvm.MethodName) prog_69_method_1_code (4 : Nat) (Option.none : Option Jvm.ClassFile.FieldType), Jvm.Cond.code ({ cls := "java/lang/Record", name := "<init>", desc := "()V" } : Jvm.MethodName) jdk_30_method_1_code (1 : Nat) (Option.none : Option Jvm.ClassFile.FieldType), Jvm.Cond.code ({ cls := "java/lang/Object", name := "<init>", desc := "()V" } : Jvm.MethodName) object_method_1_code (1 : Nat) (Option.none : Option Jvm.ClassFile.FieldType), Jvm.Cond.code ({ cls := "com/example/tracecourt/tracecourt/eval/Symmetry$Mark", name := "apartFrom", desc := "(Lcom/example/tracecourt/tracecourt/eval/Symmetry$Mark;)Z" } : Jvm.MethodName) prog_69_method_2_code (2 : Nat) (Option.some Jvm.ClassFile.FieldType.boolean)]
set_option maxRecDepth 65536 in
theorem codes_eq : words1.filter isCode = codes1 := rfl
theorem w_codes : ∀ c ∈ words1.filter isCode, c.before args0 about1 = true := by
  rw [codes_eq]
  intro c hc
  simp only [codes1, List.mem_cons, List.not_mem_nil, or_false] at hc
  rcases hc with rfl | rfl | rfl | rfl | rfl
  · exact w_c0
  · exact w_c1
  · exact w_c2
  · exact w_c3
  · exact w_c4
set_option maxRecDepth 65536 in
theorem w_t1 : words1.all (fun c => isCode c || c.before args0 about1) = true := by decide +kernel
theorem w_tables : (allAtoms (Jvm.Cond.code x code maxLocals ret :: tables_1)).before args0 about1 = true := by
  rw [allAtoms_all]
  show words1.all (fun c => c.before args0 about1) = true
  refine all_split ?_ w_codes
  rw [w_t1]
set_option maxRecDepth 65536 in
theorem w_case : (Jvm.Cond.and given_1 narrow_1).before args0 about1 = true := by decide +kernel
theorem w_applies : (headSpec (Jvm.Cond.code x code maxLocals ret :: tables_1) room_1).applies x e0.platform about1 = true :=
  (Spec.applies_iff w_frames).mpr ⟨w_running, w_runnable, w_alone, w_named, w_hears, w_ripe, w_room, w_tables⟩
theorem atStart : AtStart classFile x code maxLocals ret World_1 tables_1 room_1 Calls_1 rest_1 Pre_1 launch0 p0 e0 about1 theMethod args0 below0 :=
  ⟨lists_1, trivial, launch0.admits_env _ _ _, launch0.least_env, fairChoices_fair.cas, fairChoices_fair.clock, w_frames, w_args, w_heap, w_applies, trivial, trivial, w_case⟩
end start1
theorem witness_1 : WitnessClaimed_1 := ⟨start1.p0, start1.e0, start1.about1, start1.theMethod, start1.args0, start1.below0, start1.atStart⟩
end Jvm.Pilot.@@N@@
