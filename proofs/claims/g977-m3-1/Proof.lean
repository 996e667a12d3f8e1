import JvmDerived
import JvmDerived.Pilot.@@N@@Statement
import JvmDerived.Pilot.@@N@@Code
set_option linter.unusedVariables false
set_option linter.unusedSimpArgs false
namespace Jvm.RoadKit
open Sem ClassFile Op Lib Jvm.Stand Jvm.Free Jvm.LawKit
section New
variable {p : Program} {l : Launch} {e : Env} {R : Room} {s : State} {m : MethodId} {args : Array Value} {below : List Frame} {meth : Method} {c : Code} {T : State} {locs : List Loc} {cells slots : Nat}
theorem retI (X : Stand p l e R s m args below meth c T locs cells slots) (hx : p.tables.exec = Jvm.exec) {pc : Nat} {Ls : Array Slot} {z : Int32} {rest : List Value} (hret : meth.sig.returnType = some .int) (hd : decode c.code pc = .ok (.ireturn, 1)) {fs : List Frame}
    (hl : ∀ (f : JFrame) (acts : List Action), f.method = m → f.locked = none → f.entered = [] → (doReturn e (T.setTop f) acts (some (.int z))).1 = T.setFrames fs) : Steps p.tables e below (T.setTop (mkF m pc Ls (.int z :: rest))) (T.setFrames fs) := by
  have hm' : T.vm.method? m = some meth := X.method'
  have hn : narrow .int (.int z) = .int z := rfl
  show Steps p.tables e below (T.setTop { method := m, pc := pc, locals := Ls, stack := _ :: rest, locked := none }) _
  jvm_step X.here [X.here.top, hx, hd, hm', hret, hn]
  first | (intro acts; rw [hl _ acts rfl rfl rfl]) | rw [hl _ _ rfl rfl rfl]
  exact Steps.refl _
theorem own_go {tb : Tables} {T' : State} {f f' : JFrame} {G : State → Outcome → Prop} (k : ∀ t, Steps tb e below (T'.setTop f') t → Steps tb e below (T.setTop f) t) (h : ∃ s₂ o, Steps tb e below (T'.setTop f') s₂ ∧ G s₂ o) : ∃ s₂ o, Steps tb e below (T.setTop f) s₂ ∧ G s₂ o := by
  obtain ⟨s₂, o, a, b⟩ := h
  exact ⟨s₂, o, k _ a, b⟩
theorem own_cut {tb : Tables} {f f' : JFrame} {G : State → Outcome → Prop} {P : State → Prop} (h1 : (∀ T', P T' → ∃ s₂ o, Steps tb e below (T'.setTop f') s₂ ∧ G s₂ o) → ∃ s₂ o, Steps tb e below (T.setTop f) s₂ ∧ G s₂ o) (h2 : ∀ T', P T' → ∃ s₂ o, Steps tb e below (T'.setTop f') s₂ ∧ G s₂ o) : ∃ s₂ o, Steps tb e below (T.setTop f) s₂ ∧ G s₂ o := h1 h2
end New
end Jvm.RoadKit
namespace Jvm.Pilot.@@N@@
open Jvm Jvm.ClassFile Sem Op Lib Jvm.Free Jvm.Stand Jvm.LawKit Jvm.RoadKit Bundle Jvm.Pilot.@@N@@.Jvm.D
theorem own_d1_0 : decode prog_13_method_4_code 0 = .ok (.lload_n 0, 1) := by decide +kernel
theorem own_d1_1 : decode prog_13_method_4_code 1 = .ok (.ldc2_w 24, 3) := by decide +kernel
theorem own_d1_4 : decode prog_13_method_4_code 4 = .ok (.lload_n 2, 1) := by decide +kernel
theorem own_d1_5 : decode prog_13_method_4_code 5 = .ok (.ladd, 1) := by decide +kernel
theorem own_d1_6 : decode prog_13_method_4_code 6 = .ok (.lcmp, 1) := by decide +kernel
theorem own_d1_7 : decode prog_13_method_4_code 7 = .ok (.ifCond .ge 9, 3) := by decide +kernel
theorem own_d1_10 : decode prog_13_method_4_code 10 = .ok (.ldc2_w 24, 3) := by decide +kernel
theorem own_d1_13 : decode prog_13_method_4_code 13 = .ok (.goto 6, 3) := by decide +kernel
theorem own_d1_16 : decode prog_13_method_4_code 16 = .ok (.lload_n 0, 1) := by decide +kernel
theorem own_d1_17 : decode prog_13_method_4_code 17 = .ok (.lload_n 2, 1) := by decide +kernel
theorem own_d1_18 : decode prog_13_method_4_code 18 = .ok (.lsub, 1) := by decide +kernel
theorem own_d1_19 : decode prog_13_method_4_code 19 = .ok (.lreturn, 1) := by decide +kernel
theorem own_pn0 : plainName "com/example/lid_on_load/lidonload/limit/Limiters" = true := by first | (simp [plainName, overriddenIn]; done) | decide +kernel
theorem own_ef1 (m : MethodId) (q0 : Int64) (q1 : Int64) : entryFrame m #[(.long q0), (.long q1)] 4 = mkF m 0 #[.val (.long q0), .second, .val (.long q1), .second] [] := by first | (simp [entryFrame, mkF, argsToLocals, Value.category]; done) | rfl
def own_F1 (q0 : Int64) (q1 : Int64) : Int64 := (if q0 < ((-9223372036854775808 : Int64) + q1) then (-9223372036854775808 : Int64) else (q0 - q1))
def own_Q1 (Z : State) (q0 : Int64) (q1 : Int64) (h0 : Heap) (n0 : Nat) (v : Option Value) (h : Heap) (L : List Loc) : Prop := (v = some (.long (own_F1 q0 q1))) ∧ (Fr n0 L) ∧ (h = h0)
set_option maxRecDepth 65536 in
set_option maxHeartbeats 40000000 in
theorem own_rm1 (l : Launch) (Z : State) (a0 : Array Value) (hw : ∀ d ∈ tables_1, d.before a0 Z = true) (ws : List Jvm.Cond) (q0 : Int64) (q1 : Int64) (h0 : Heap) (n0 : Nat) (Z0 : n0 ≤ h0.size) :
    MetFree l (⟨"com/example/lid_on_load/lidonload/limit/Limiters", "earlier", "(JJ)J"⟩ : MethodName) (head1 (Jvm.Cond.code (⟨"com/example/lid_on_load/lidonload/limit/Limiters", "earlier", "(JJ)J"⟩ : MethodName) prog_13_method_4_code 4 (some .long) :: ws) ({ frames := 0, cells := 0, slots := 0, locals := 0 } : Room)) (fun a U => a = #[(.long q0), (.long q1)] ∧ Z.Warmed39 U.vm ∧ U.heap = h0) (fun _ _ _ _ _ => True) (fun _ U o U' => ∃ v L, o = .returned v ∧ own_Q1 Z q0 q1 h0 n0 v U'.heap L ∧ FrameEnd U o U' L ({ frames := 0, cells := 0, slots := 0, locals := 0 } : Room).cells ({ frames := 0, cells := 0, slots := 0, locals := 0 } : Room).slots) := by
  refine MetFree.of_bodySF (plainFor_of_name own_pn0) hisR ?_
  intro p e s m args below meth c s₁ Bd hml0 hP hK
  obtain ⟨rfl, hZ, hh⟩ := hP
  have hx := Bd.exec
  have hby := Bd.bytes
  have hml : c.maxLocals = 4 := hml0
  have hown : s.vm.findClass "com/example/lid_on_load/lidonload/limit/Limiters" = some m.cls := findClass_of_methodNamed Bd.named
  have hnm := (name_of_methodNamed Bd.named Bd.method).1
  have X0 : Stand p l e ({ frames := 0, cells := 0, slots := 0, locals := 0 } : Room) s m #[(.long q0), (.long q1)] below meth c s₁ [] 0 0 := Stand.of_body Bd
  have e0 : s₁.heap = h0 := by rw [← hh, Bd.state]; rfl
  have N0 := Fr.nil n0
  refine own_go (fun t k => castTop (own_ef1 m q0 q1) k) ?_
  refine own_go (T' := s₁) (f' := (mkF m 7 #[.val (.long q0), .second, .val (.long q1), .second] [(.int (lcmpW q0 ((-9223372036854775808 : Int64) + q1)))])) (fun t k => ?_) ?_
  · show Steps p.tables e below (s₁.setTop (mkF m 0 #[.val (.long q0), .second, .val (.long q1), .second] [])) _
    refine XS.lloadN X0.here hx rfl (hb hby own_d1_0) rfl ?_
    show Steps p.tables e below (s₁.setTop (mkF m 1 #[.val (.long q0), .second, .val (.long q1), .second] [(.long q0)])) _
    refine X0.ldc2Long hx hown (mvT hZ (hw _ (List.mem_of_getElem? (i := 5) rfl))) (g := (mkF m 1 #[.val (.long q0), .second, .val (.long q1), .second] [(.long q0)])) rfl (hb hby own_d1_1) _ ?_
    show Steps p.tables e below (s₁.setTop (mkF m 4 #[.val (.long q0), .second, .val (.long q1), .second] [(.long (-9223372036854775808 : Int64)), (.long q0)])) _
    refine XS.lloadN X0.here hx rfl (hb hby own_d1_4) rfl ?_
    show Steps p.tables e below (s₁.setTop (mkF m 5 #[.val (.long q0), .second, .val (.long q1), .second] [(.long q1), (.long (-9223372036854775808 : Int64)), (.long q0)])) _
    refine XS.ladd X0.here hx rfl (hb hby own_d1_5) rfl ?_
    show Steps p.tables e below (s₁.setTop (mkF m 6 #[.val (.long q0), .second, .val (.long q1), .second] [(.long ((-9223372036854775808 : Int64) + q1)), (.long q0)])) _
    refine XS.lcmp X0.here hx rfl (hb hby own_d1_6) rfl ?_
    show Steps p.tables e below (s₁.setTop (mkF m 7 #[.val (.long q0), .second, .val (.long q1), .second] [(.int (lcmpW q0 ((-9223372036854775808 : Int64) + q1)))])) _
    exact k
  by_cases hc7_1 : q0 < ((-9223372036854775808 : Int64) + q1)
  · skip
    refine own_go (T' := s₁) (f' := (mkF m 19 #[.val (.long q0), .second, .val (.long q1), .second] [(.long (-9223372036854775808 : Int64))])) (fun t k => ?_) ?_
    · show Steps p.tables e below (s₁.setTop (mkF m 7 #[.val (.long q0), .second, .val (.long q1), .second] [(.int (lcmpW q0 ((-9223372036854775808 : Int64) + q1)))])) _
      refine XS.ifNo X0.here hx rfl (hb hby own_d1_7) rfl ((if0 _ _).trans (tlt ((lw_lt q0 ((-9223372036854775808 : Int64) + q1)).mpr hc7_1)).2.1) ?_
      show Steps p.tables e below (s₁.setTop (mkF m 10 #[.val (.long q0), .second, .val (.long q1), .second] [])) _
      refine X0.ldc2Long hx hown (mvT hZ (hw _ (List.mem_of_getElem? (i := 5) rfl))) (g := (mkF m 10 #[.val (.long q0), .second, .val (.long q1), .second] [])) rfl (hb hby own_d1_10) _ ?_
      show Steps p.tables e below (s₁.setTop (mkF m 13 #[.val (.long q0), .second, .val (.long q1), .second] [(.long (-9223372036854775808 : Int64))])) _
      refine XS.goto X0.here hx rfl (pc0 := 13) (pc' := 19) rfl (hb hby own_d1_13) (by decide) (by decide) ?_
      show Steps p.tables e below (s₁.setTop (mkF m 19 #[.val (.long q0), .second, .val (.long q1), .second] [(.long (-9223372036854775808 : Int64))])) _
      exact k
    obtain ⟨fs, hr, hrun, hended, hW, hsame⟩ := X0.leave (v := some (.long (-9223372036854775808 : Int64))) (fun h => by rw [Bd.returns] at h; cases h)
    refine ⟨_, _, ?_, hrun, hended, _, _, rfl, ?_, ⟨_, rfl⟩, hW, hsame.mono (by decide) (by decide)⟩
    · exact X0.lreturnOut hx Bd.returns (hb hby own_d1_19) hr
    · show own_Q1 Z q0 q1 h0 n0 _ s₁.heap _
      rw [e0]
      exact ⟨(by rw [own_F1, if_pos hc7_1]), N0, rfl⟩
  · skip
    refine own_go (T' := s₁) (f' := (mkF m 19 #[.val (.long q0), .second, .val (.long q1), .second] [(.long (q0 - q1))])) (fun t k => ?_) ?_
    · show Steps p.tables e below (s₁.setTop (mkF m 7 #[.val (.long q0), .second, .val (.long q1), .second] [(.int (lcmpW q0 ((-9223372036854775808 : Int64) + q1)))])) _
      refine XS.ifYes X0.here hx rfl (pc0 := 7) (pc' := 16) rfl (hb hby own_d1_7) rfl ((if0 _ _).trans (flt (fun q => hc7_1 ((lw_lt q0 ((-9223372036854775808 : Int64) + q1)).mp q))).2.1) (by decide) (by decide) ?_
      show Steps p.tables e below (s₁.setTop (mkF m 16 #[.val (.long q0), .second, .val (.long q1), .second] [])) _
      refine XS.lloadN X0.here hx rfl (hb hby own_d1_16) rfl ?_
      show Steps p.tables e below (s₁.setTop (mkF m 17 #[.val (.long q0), .second, .val (.long q1), .second] [(.long q0)])) _
      refine XS.lloadN X0.here hx rfl (hb hby own_d1_17) rfl ?_
      show Steps p.tables e below (s₁.setTop (mkF m 18 #[.val (.long q0), .second, .val (.long q1), .second] [(.long q1), (.long q0)])) _
      refine XS.lsub X0.here hx rfl (hb hby own_d1_18) rfl ?_
      show Steps p.tables e below (s₁.setTop (mkF m 19 #[.val (.long q0), .second, .val (.long q1), .second] [(.long (q0 - q1))])) _
      exact k
    obtain ⟨fs, hr, hrun, hended, hW, hsame⟩ := X0.leave (v := some (.long (q0 - q1))) (fun h => by rw [Bd.returns] at h; cases h)
    refine ⟨_, _, ?_, hrun, hended, _, _, rfl, ?_, ⟨_, rfl⟩, hW, hsame.mono (by decide) (by decide)⟩
    · exact X0.lreturnOut hx Bd.returns (hb hby own_d1_19) hr
    · show own_Q1 Z q0 q1 h0 n0 _ s₁.heap _
      rw [e0]
      exact ⟨(by rw [own_F1, if_neg hc7_1]), N0, rfl⟩
theorem own_d2_0 : decode method_3_code 0 = .ok (.lload_n 0, 1) := by decide +kernel
theorem own_d2_1 : decode method_3_code 1 = .ok (.lconst 0, 1) := by decide +kernel
theorem own_d2_2 : decode method_3_code 2 = .ok (.lcmp, 1) := by decide +kernel
theorem own_d2_3 : decode method_3_code 3 = .ok (.ifCond .lt 7, 3) := by decide +kernel
theorem own_d2_6 : decode method_3_code 6 = .ok (.lload_n 0, 1) := by decide +kernel
theorem own_d2_7 : decode method_3_code 7 = .ok (.lload_n 2, 1) := by decide +kernel
theorem own_d2_8 : decode method_3_code 8 = .ok (.lsub, 1) := by decide +kernel
theorem own_d2_9 : decode method_3_code 9 = .ok (.lreturn, 1) := by decide +kernel
theorem own_d2_10 : decode method_3_code 10 = .ok (.lload_n 0, 1) := by decide +kernel
theorem own_d2_11 : decode method_3_code 11 = .ok (.ldc2_w 22, 3) := by decide +kernel
theorem own_d2_14 : decode method_3_code 14 = .ok (.lsub, 1) := by decide +kernel
theorem own_d2_15 : decode method_3_code 15 = .ok (.lstore 4, 2) := by decide +kernel
theorem own_d2_17 : decode method_3_code 17 = .ok (.lload_n 2, 1) := by decide +kernel
theorem own_d2_18 : decode method_3_code 18 = .ok (.lload 4, 2) := by decide +kernel
theorem own_d2_20 : decode method_3_code 20 = .ok (.lcmp, 1) := by decide +kernel
theorem own_d2_21 : decode method_3_code 21 = .ok (.ifCond .le 7, 3) := by decide +kernel
theorem own_d2_24 : decode method_3_code 24 = .ok (.ldc2_w 22, 3) := by decide +kernel
theorem own_d2_27 : decode method_3_code 27 = .ok (.lreturn, 1) := by decide +kernel
theorem own_d2_28 : decode method_3_code 28 = .ok (.lload_n 0, 1) := by decide +kernel
theorem own_d2_29 : decode method_3_code 29 = .ok (.lload_n 2, 1) := by decide +kernel
theorem own_d2_30 : decode method_3_code 30 = .ok (.lsub, 1) := by decide +kernel
theorem own_d2_31 : decode method_3_code 31 = .ok (.lreturn, 1) := by decide +kernel
theorem own_pn1 : plainName "com/example/lid_on_load/lidonload/limit/LimitersEarlierPinLaw" = true := by first | (simp [plainName, overriddenIn]; done) | decide +kernel
theorem own_ef2 (m : MethodId) (q0 : Int64) (q1 : Int64) : entryFrame m #[(.long q0), (.long q1)] 6 = mkF m 0 #[.val (.long q0), .second, .val (.long q1), .second, .unset, .unset] [] := by first | (simp [entryFrame, mkF, argsToLocals, Value.category]; done) | rfl
def own_F2 (q0 : Int64) (q1 : Int64) : Int64 := (if q0 < (0 : Int64) then (if (q0 - (-9223372036854775808 : Int64)) < q1 then (-9223372036854775808 : Int64) else (q0 - q1)) else (q0 - q1))
def own_Q2 (Z : State) (q0 : Int64) (q1 : Int64) (h0 : Heap) (n0 : Nat) (v : Option Value) (h : Heap) (L : List Loc) : Prop := (v = some (.long (own_F2 q0 q1))) ∧ (Fr n0 L) ∧ (h = h0)
set_option maxRecDepth 65536 in
set_option maxHeartbeats 40000000 in
theorem own_rm2 (l : Launch) (Z : State) (a0 : Array Value) (hw : ∀ d ∈ tables_1, d.before a0 Z = true) (ws : List Jvm.Cond) (q0 : Int64) (q1 : Int64) (h0 : Heap) (n0 : Nat) (Z0 : n0 ≤ h0.size) :
    MetFree l (⟨"com/example/lid_on_load/lidonload/limit/LimitersEarlierPinLaw", "expected", "(JJ)J"⟩ : MethodName) (head1 (Jvm.Cond.code (⟨"com/example/lid_on_load/lidonload/limit/LimitersEarlierPinLaw", "expected", "(JJ)J"⟩ : MethodName) method_3_code 6 (some .long) :: ws) ({ frames := 0, cells := 0, slots := 0, locals := 0 } : Room)) (fun a U => a = #[(.long q0), (.long q1)] ∧ Z.Warmed39 U.vm ∧ U.heap = h0) (fun _ _ _ _ _ => True) (fun _ U o U' => ∃ v L, o = .returned v ∧ own_Q2 Z q0 q1 h0 n0 v U'.heap L ∧ FrameEnd U o U' L ({ frames := 0, cells := 0, slots := 0, locals := 0 } : Room).cells ({ frames := 0, cells := 0, slots := 0, locals := 0 } : Room).slots) := by
  refine MetFree.of_bodySF (plainFor_of_name own_pn1) hisR ?_
  intro p e s m args below meth c s₁ Bd hml0 hP hK
  obtain ⟨rfl, hZ, hh⟩ := hP
  have hx := Bd.exec
  have hby := Bd.bytes
  have hml : c.maxLocals = 6 := hml0
  have hown : s.vm.findClass "com/example/lid_on_load/lidonload/limit/LimitersEarlierPinLaw" = some m.cls := findClass_of_methodNamed Bd.named
  have hnm := (name_of_methodNamed Bd.named Bd.method).1
  have X0 : Stand p l e ({ frames := 0, cells := 0, slots := 0, locals := 0 } : Room) s m #[(.long q0), (.long q1)] below meth c s₁ [] 0 0 := Stand.of_body Bd
  have e0 : s₁.heap = h0 := by rw [← hh, Bd.state]; rfl
  have N0 := Fr.nil n0
  refine own_go (fun t k => castTop (own_ef2 m q0 q1) k) ?_
  refine own_go (T' := s₁) (f' := (mkF m 3 #[.val (.long q0), .second, .val (.long q1), .second, .unset, .unset] [(.int (lcmpW q0 (0 : Int64)))])) (fun t k => ?_) ?_
  · show Steps p.tables e below (s₁.setTop (mkF m 0 #[.val (.long q0), .second, .val (.long q1), .second, .unset, .unset] [])) _
    refine XS.lloadN X0.here hx rfl (hb hby own_d2_0) rfl ?_
    show Steps p.tables e below (s₁.setTop (mkF m 1 #[.val (.long q0), .second, .val (.long q1), .second, .unset, .unset] [(.long q0)])) _
    refine XS.lconst X0.here hx rfl (hb hby own_d2_1) ?_
    show Steps p.tables e below (s₁.setTop (mkF m 2 #[.val (.long q0), .second, .val (.long q1), .second, .unset, .unset] [(.long (0 : Int64)), (.long q0)])) _
    refine XS.lcmp X0.here hx rfl (hb hby own_d2_2) rfl ?_
    show Steps p.tables e below (s₁.setTop (mkF m 3 #[.val (.long q0), .second, .val (.long q1), .second, .unset, .unset] [(.int (lcmpW q0 (0 : Int64)))])) _
    exact k
  by_cases hc3_1 : q0 < (0 : Int64)
  · skip
    refine own_go (T' := s₁) (f' := (mkF m 21 #[.val (.long q0), .second, .val (.long q1), .second, .val (.long (q0 - (-9223372036854775808 : Int64))), .second] [(.int (lcmpW q1 (q0 - (-9223372036854775808 : Int64))))])) (fun t k => ?_) ?_
    · show Steps p.tables e below (s₁.setTop (mkF m 3 #[.val (.long q0), .second, .val (.long q1), .second, .unset, .unset] [(.int (lcmpW q0 (0 : Int64)))])) _
      refine XS.ifYes X0.here hx rfl (pc0 := 3) (pc' := 10) rfl (hb hby own_d2_3) rfl ((if0 _ _).trans (tlt ((lw_lt q0 (0 : Int64)).mpr hc3_1)).1) (by decide) (by decide) ?_
      show Steps p.tables e below (s₁.setTop (mkF m 10 #[.val (.long q0), .second, .val (.long q1), .second, .unset, .unset] [])) _
      refine XS.lloadN X0.here hx rfl (hb hby own_d2_10) rfl ?_
      show Steps p.tables e below (s₁.setTop (mkF m 11 #[.val (.long q0), .second, .val (.long q1), .second, .unset, .unset] [(.long q0)])) _
      refine X0.ldc2Long hx hown (mvT hZ (hw _ (List.mem_of_getElem? (i := 10) rfl))) (g := (mkF m 11 #[.val (.long q0), .second, .val (.long q1), .second, .unset, .unset] [(.long q0)])) rfl (hb hby own_d2_11) _ ?_
      show Steps p.tables e below (s₁.setTop (mkF m 14 #[.val (.long q0), .second, .val (.long q1), .second, .unset, .unset] [(.long (-9223372036854775808 : Int64)), (.long q0)])) _
      refine XS.lsub X0.here hx rfl (hb hby own_d2_14) rfl ?_
      show Steps p.tables e below (s₁.setTop (mkF m 15 #[.val (.long q0), .second, .val (.long q1), .second, .unset, .unset] [(.long (q0 - (-9223372036854775808 : Int64)))])) _
      refine XS.lstore X0.here hx rfl (hb hby own_d2_15) rfl (l' := #[.val (.long q0), .second, .val (.long q1), .second, .val (.long (q0 - (-9223372036854775808 : Int64))), .second]) rfl ?_
      show Steps p.tables e below (s₁.setTop (mkF m 17 #[.val (.long q0), .second, .val (.long q1), .second, .val (.long (q0 - (-9223372036854775808 : Int64))), .second] [])) _
      refine XS.lloadN X0.here hx rfl (hb hby own_d2_17) rfl ?_
      show Steps p.tables e below (s₁.setTop (mkF m 18 #[.val (.long q0), .second, .val (.long q1), .second, .val (.long (q0 - (-9223372036854775808 : Int64))), .second] [(.long q1)])) _
      refine XS.lload X0.here hx rfl (hb hby own_d2_18) rfl ?_
      show Steps p.tables e below (s₁.setTop (mkF m 20 #[.val (.long q0), .second, .val (.long q1), .second, .val (.long (q0 - (-9223372036854775808 : Int64))), .second] [(.long (q0 - (-9223372036854775808 : Int64))), (.long q1)])) _
      refine XS.lcmp X0.here hx rfl (hb hby own_d2_20) rfl ?_
      show Steps p.tables e below (s₁.setTop (mkF m 21 #[.val (.long q0), .second, .val (.long q1), .second, .val (.long (q0 - (-9223372036854775808 : Int64))), .second] [(.int (lcmpW q1 (q0 - (-9223372036854775808 : Int64))))])) _
      exact k
    by_cases hc21_2 : (q0 - (-9223372036854775808 : Int64)) < q1
    · skip
      refine own_go (T' := s₁) (f' := (mkF m 27 #[.val (.long q0), .second, .val (.long q1), .second, .val (.long (q0 - (-9223372036854775808 : Int64))), .second] [(.long (-9223372036854775808 : Int64))])) (fun t k => ?_) ?_
      · show Steps p.tables e below (s₁.setTop (mkF m 21 #[.val (.long q0), .second, .val (.long q1), .second, .val (.long (q0 - (-9223372036854775808 : Int64))), .second] [(.int (lcmpW q1 (q0 - (-9223372036854775808 : Int64))))])) _
        refine XS.ifNo X0.here hx rfl (hb hby own_d2_21) rfl ((if0 _ _).trans (tlt ((lw_gt q1 (q0 - (-9223372036854775808 : Int64))).mpr hc21_2)).2.2.2) ?_
        show Steps p.tables e below (s₁.setTop (mkF m 24 #[.val (.long q0), .second, .val (.long q1), .second, .val (.long (q0 - (-9223372036854775808 : Int64))), .second] [])) _
        refine X0.ldc2Long hx hown (mvT hZ (hw _ (List.mem_of_getElem? (i := 10) rfl))) (g := (mkF m 24 #[.val (.long q0), .second, .val (.long q1), .second, .val (.long (q0 - (-9223372036854775808 : Int64))), .second] [])) rfl (hb hby own_d2_24) _ ?_
        show Steps p.tables e below (s₁.setTop (mkF m 27 #[.val (.long q0), .second, .val (.long q1), .second, .val (.long (q0 - (-9223372036854775808 : Int64))), .second] [(.long (-9223372036854775808 : Int64))])) _
        exact k
      obtain ⟨fs, hr, hrun, hended, hW, hsame⟩ := X0.leave (v := some (.long (-9223372036854775808 : Int64))) (fun h => by rw [Bd.returns] at h; cases h)
      refine ⟨_, _, ?_, hrun, hended, _, _, rfl, ?_, ⟨_, rfl⟩, hW, hsame.mono (by decide) (by decide)⟩
      · exact X0.lreturnOut hx Bd.returns (hb hby own_d2_27) hr
      · show own_Q2 Z q0 q1 h0 n0 _ s₁.heap _
        rw [e0]
        exact ⟨(by rw [own_F2, if_pos hc3_1, if_pos hc21_2]), N0, rfl⟩
    · skip
      refine own_go (T' := s₁) (f' := (mkF m 31 #[.val (.long q0), .second, .val (.long q1), .second, .val (.long (q0 - (-9223372036854775808 : Int64))), .second] [(.long (q0 - q1))])) (fun t k => ?_) ?_
      · show Steps p.tables e below (s₁.setTop (mkF m 21 #[.val (.long q0), .second, .val (.long q1), .second, .val (.long (q0 - (-9223372036854775808 : Int64))), .second] [(.int (lcmpW q1 (q0 - (-9223372036854775808 : Int64))))])) _
        refine XS.ifYes X0.here hx rfl (pc0 := 21) (pc' := 28) rfl (hb hby own_d2_21) rfl ((if0 _ _).trans (flt (fun q => hc21_2 ((lw_gt q1 (q0 - (-9223372036854775808 : Int64))).mp q))).2.2.2) (by decide) (by decide) ?_
        show Steps p.tables e below (s₁.setTop (mkF m 28 #[.val (.long q0), .second, .val (.long q1), .second, .val (.long (q0 - (-9223372036854775808 : Int64))), .second] [])) _
        refine XS.lloadN X0.here hx rfl (hb hby own_d2_28) rfl ?_
        show Steps p.tables e below (s₁.setTop (mkF m 29 #[.val (.long q0), .second, .val (.long q1), .second, .val (.long (q0 - (-9223372036854775808 : Int64))), .second] [(.long q0)])) _
        refine XS.lloadN X0.here hx rfl (hb hby own_d2_29) rfl ?_
        show Steps p.tables e below (s₁.setTop (mkF m 30 #[.val (.long q0), .second, .val (.long q1), .second, .val (.long (q0 - (-9223372036854775808 : Int64))), .second] [(.long q1), (.long q0)])) _
        refine XS.lsub X0.here hx rfl (hb hby own_d2_30) rfl ?_
        show Steps p.tables e below (s₁.setTop (mkF m 31 #[.val (.long q0), .second, .val (.long q1), .second, .val (.long (q0 - (-9223372036854775808 : Int64))), .second] [(.long (q0 - q1))])) _
        exact k
      obtain ⟨fs, hr, hrun, hended, hW, hsame⟩ := X0.leave (v := some (.long (q0 - q1))) (fun h => by rw [Bd.returns] at h; cases h)
      refine ⟨_, _, ?_, hrun, hended, _, _, rfl, ?_, ⟨_, rfl⟩, hW, hsame.mono (by decide) (by decide)⟩
      · exact X0.lreturnOut hx Bd.returns (hb hby own_d2_31) hr
      · show own_Q2 Z q0 q1 h0 n0 _ s₁.heap _
        rw [e0]
        exact ⟨(by rw [own_F2, if_pos hc3_1, if_neg hc21_2]), N0, rfl⟩
  · skip
    refine own_go (T' := s₁) (f' := (mkF m 9 #[.val (.long q0), .second, .val (.long q1), .second, .unset, .unset] [(.long (q0 - q1))])) (fun t k => ?_) ?_
    · show Steps p.tables e below (s₁.setTop (mkF m 3 #[.val (.long q0), .second, .val (.long q1), .second, .unset, .unset] [(.int (lcmpW q0 (0 : Int64)))])) _
      refine XS.ifNo X0.here hx rfl (hb hby own_d2_3) rfl ((if0 _ _).trans (flt (fun q => hc3_1 ((lw_lt q0 (0 : Int64)).mp q))).1) ?_
      show Steps p.tables e below (s₁.setTop (mkF m 6 #[.val (.long q0), .second, .val (.long q1), .second, .unset, .unset] [])) _
      refine XS.lloadN X0.here hx rfl (hb hby own_d2_6) rfl ?_
      show Steps p.tables e below (s₁.setTop (mkF m 7 #[.val (.long q0), .second, .val (.long q1), .second, .unset, .unset] [(.long q0)])) _
      refine XS.lloadN X0.here hx rfl (hb hby own_d2_7) rfl ?_
      show Steps p.tables e below (s₁.setTop (mkF m 8 #[.val (.long q0), .second, .val (.long q1), .second, .unset, .unset] [(.long q1), (.long q0)])) _
      refine XS.lsub X0.here hx rfl (hb hby own_d2_8) rfl ?_
      show Steps p.tables e below (s₁.setTop (mkF m 9 #[.val (.long q0), .second, .val (.long q1), .second, .unset, .unset] [(.long (q0 - q1))])) _
      exact k
    obtain ⟨fs, hr, hrun, hended, hW, hsame⟩ := X0.leave (v := some (.long (q0 - q1))) (fun h => by rw [Bd.returns] at h; cases h)
    refine ⟨_, _, ?_, hrun, hended, _, _, rfl, ?_, ⟨_, rfl⟩, hW, hsame.mono (by decide) (by decide)⟩
    · exact X0.lreturnOut hx Bd.returns (hb hby own_d2_9) hr
    · show own_Q2 Z q0 q1 h0 n0 _ s₁.heap _
      rw [e0]
      exact ⟨(by rw [own_F2, if_neg hc3_1]), N0, rfl⟩
theorem own_pd0 : parseMethodDescriptor "(JJ)J" = some ⟨[.long, .long], some .long⟩ := by decide +kernel
theorem own_ef0 (m : MethodId) (q0 : Int64) (q1 : Int64) : entryFrame m #[(.long q0), (.long q1)] maxLocals = mkF m 0 #[.val (.long q0), .second, .val (.long q1), .second, .unset, .unset, .unset, .unset] [] := by first | (simp [entryFrame, mkF, argsToLocals, Value.category, maxLocals]; done) | rfl
def own_F0 (q0 : Int64) (q1 : Int64) : Int32 := (if (own_F1 q0 (q1 &&& (9223372036854775807 : Int64))) = (own_F2 q0 (q1 &&& (9223372036854775807 : Int64))) then (if q0 < (own_F1 q0 (q1 &&& (9223372036854775807 : Int64))) then (0 : Int32) else (1 : Int32)) else (0 : Int32))
theorem own_core (t m : Int64) (hm : 0 ≤ m.toInt) : own_F1 t m = own_F2 t m ∧ ¬ t < own_F1 t m := by
  have eM : (-9223372036854775808 : Int64).toInt = -9223372036854775808 := rfl
  have e0 : (0 : Int64).toInt = 0 := rfl
  have a1 := c_ladd (-9223372036854775808) m; have a2 := c_lsub t m; have a3 := c_lsub t (-9223372036854775808)
  have r1 := rng64 (-9223372036854775808 + m); have r2 := rng64 (t - m); have r3 := rng64 (t - (-9223372036854775808)); have r4 := rng64 t; have r5 := rng64 m
  rw [eM] at a1 a3
  unfold own_F1 own_F2
  by_cases h1 : t < (-9223372036854775808 : Int64) + m
  · have h1' := h1
    rw [Int64.lt_iff_toInt_lt] at h1'
    have h2 : t < (0 : Int64) := by rw [Int64.lt_iff_toInt_lt]; omega
    have h2' := h2
    rw [Int64.lt_iff_toInt_lt] at h2'
    have h3 : t - (-9223372036854775808 : Int64) < m := by rw [Int64.lt_iff_toInt_lt]; omega
    rw [if_pos h1, if_pos h2, if_pos h3]
    exact ⟨rfl, by rw [Int64.lt_iff_toInt_lt]; omega⟩
  · have h1' := h1
    rw [Int64.lt_iff_toInt_lt] at h1'
    rw [if_neg h1]
    refine ⟨?_, by rw [Int64.lt_iff_toInt_lt]; omega⟩
    by_cases h2 : t < (0 : Int64)
    · have h2' := h2
      rw [Int64.lt_iff_toInt_lt] at h2'
      have h3 : ¬ t - (-9223372036854775808 : Int64) < m := by rw [Int64.lt_iff_toInt_lt]; omega
      rw [if_pos h2, if_neg h3]
    · rw [if_neg h2]
theorem own_law (q0 q1 : Int64) : own_F0 q0 q1 = 1 := by
  have m := c_maskL q1 9223372036854775807 63 (by decide) (by decide)
  have c := own_core q0 (q1 &&& (9223372036854775807 : Int64)) (by rw [m]; exact Int.emod_nonneg _ (by decide))
  rw [own_F0, if_pos c.1, if_neg c.2]
def own_Q0 (Z : State) (q0 : Int64) (q1 : Int64) (h0 : Heap) (n0 : Nat) (v : Option Value) (h : Heap) (L : List Loc) : Prop := (v = some (.int (1 : Int32))) ∧ (Fr n0 L)
set_option maxRecDepth 65536 in
set_option maxHeartbeats 40000000 in
theorem own_rm0 (l : Launch) (Z : State) (a0 : Array Value) (hw : ∀ d ∈ tables_1, d.before a0 Z = true) (ws : List Jvm.Cond) (q0 : Int64) (q1 : Int64) (h0 : Heap) (n0 : Nat) (Z0 : n0 ≤ h0.size) :
    MetFree l x (head1 (Jvm.Cond.code x code maxLocals ret :: ws) room_1) (fun a U => a = #[(.long q0), (.long q1)] ∧ Z.Warmed39 U.vm ∧ U.heap = h0) (fun _ _ _ _ _ => True) (fun _ U o U' => ∃ v L, o = .returned v ∧ own_Q0 Z q0 q1 h0 n0 v U'.heap L ∧ FrameEnd U o U' L 0 0) := by
  refine MetFree.of_bodySF (plainFor_of_name own_pn1) hisR ?_
  intro p e s m args below meth c s₁ Bd hml0 hP hK
  obtain ⟨rfl, hZ, hh⟩ := hP
  have hx := Bd.exec
  have hby := Bd.bytes
  have hml : c.maxLocals = 8 := hml0
  have hown : s.vm.findClass "com/example/lid_on_load/lidonload/limit/LimitersEarlierPinLaw" = some m.cls := findClass_of_methodNamed Bd.named
  have hnm := (name_of_methodNamed Bd.named Bd.method).1
  have X0 : Stand p l e room_1 s m #[(.long q0), (.long q1)] below meth c s₁ [] 0 0 := Stand.of_body Bd
  have e0 : s₁.heap = h0 := by rw [← hh, Bd.state]; rfl
  have N0 := Fr.nil n0
  refine own_go (fun t k => castTop (own_ef0 m q0 q1) k) ?_
  refine own_go (T' := s₁) (f' := (mkF m 10 #[.val (.long q0), .second, .val (.long q1), .second, .val (.long (q1 &&& (9223372036854775807 : Int64))), .second, .unset, .unset] [(.long (q1 &&& (9223372036854775807 : Int64))), (.long q0)])) (fun t k => ?_) ?_
  · show Steps p.tables e below (s₁.setTop (mkF m 0 #[.val (.long q0), .second, .val (.long q1), .second, .unset, .unset, .unset, .unset] [])) _
    refine XS.lloadN X0.here hx rfl (hb hby at_0) rfl ?_
    show Steps p.tables e below (s₁.setTop (mkF m 1 #[.val (.long q0), .second, .val (.long q1), .second, .unset, .unset, .unset, .unset] [(.long q1)])) _
    refine X0.ldc2Long hx hown (mvT hZ (hw _ (List.mem_of_getElem? (i := 0) rfl))) (g := (mkF m 1 #[.val (.long q0), .second, .val (.long q1), .second, .unset, .unset, .unset, .unset] [(.long q1)])) rfl (hb hby at_1) _ ?_
    show Steps p.tables e below (s₁.setTop (mkF m 4 #[.val (.long q0), .second, .val (.long q1), .second, .unset, .unset, .unset, .unset] [(.long (9223372036854775807 : Int64)), (.long q1)])) _
    refine XS.land X0.here hx rfl (hb hby at_4) rfl ?_
    show Steps p.tables e below (s₁.setTop (mkF m 5 #[.val (.long q0), .second, .val (.long q1), .second, .unset, .unset, .unset, .unset] [(.long (q1 &&& (9223372036854775807 : Int64)))])) _
    refine XS.lstore X0.here hx rfl (hb hby at_5) rfl (l' := #[.val (.long q0), .second, .val (.long q1), .second, .val (.long (q1 &&& (9223372036854775807 : Int64))), .second, .unset, .unset]) rfl ?_
    show Steps p.tables e below (s₁.setTop (mkF m 7 #[.val (.long q0), .second, .val (.long q1), .second, .val (.long (q1 &&& (9223372036854775807 : Int64))), .second, .unset, .unset] [])) _
    refine XS.lloadN X0.here hx rfl (hb hby at_7) rfl ?_
    show Steps p.tables e below (s₁.setTop (mkF m 8 #[.val (.long q0), .second, .val (.long q1), .second, .val (.long (q1 &&& (9223372036854775807 : Int64))), .second, .unset, .unset] [(.long q0)])) _
    refine XS.lload X0.here hx rfl (hb hby at_8) rfl ?_
    show Steps p.tables e below (s₁.setTop (mkF m 10 #[.val (.long q0), .second, .val (.long q1), .second, .val (.long (q1 &&& (9223372036854775807 : Int64))), .second, .unset, .unset] [(.long (q1 &&& (9223372036854775807 : Int64))), (.long q0)])) _
    exact k
  obtain ⟨_, _, ⟨T1, Lq1, kq1, nq1⟩, -, X1, ⟨Lc1, hQ1, lq1, yq1, zq1⟩, st1⟩ := Jvm.LawKit.callS X0 hx (y := (⟨"com/example/lid_on_load/lidonload/limit/Limiters", "earlier", "(JJ)J"⟩ : MethodName)) hown (mvT hZ (hw _ (List.mem_of_getElem? (i := 1) rfl))) (mvT hZ (hw _ (List.mem_of_getElem? (i := 2) rfl))) (mvT hZ (hw _ (List.mem_of_getElem? (i := 3) rfl))) (mvT hZ (hw _ (List.mem_of_getElem? (i := 4) rfl))) (by decide) (backOf (W := 0) (own_rm1 l Z a0 hw [] q0 ((q1 &&& (9223372036854775807 : Int64)))  h0 n0 Z0 ) hZ (hw _ (List.mem_of_getElem? (i := 4) rfl)) (hw _ (List.mem_of_getElem? (i := 3) rfl)) (by decide) (by decide)) (g := (mkF m 10 #[.val (.long q0), .second, .val (.long q1), .second, .val (.long (q1 &&& (9223372036854775807 : Int64))), .second, .unset, .unset] [(.long (q1 &&& (9223372036854775807 : Int64))), (.long q0)])) rfl (by rw [hml]; rfl) (argsL := [(.long q0), (.long (q1 &&& (9223372036854775807 : Int64)))]) (rest := []) (lenOf own_pd0 rfl) rfl (by show 2 * 0 + _ ≤ _; exact Nat.le_of_eq rfl) (hb hby at_10) (fun _ _ => ⟨rfl, e0, (by decide : 0 + 0 ≤ _), (by decide : 0 + 0 ≤ _)⟩)
  dsimp only [Pt.U, Pt.locs, Pt.cells, Pt.slots] at X1 lq1 yq1 zq1 st1 hQ1
  subst lq1 yq1 zq1
  obtain ⟨rfl, N1q, h1q⟩ := hQ1
  have N1 := Fr.app N0 N1q
  refine own_go (T' := T1) (f' := (mkF m 13 #[.val (.long q0), .second, .val (.long q1), .second, .val (.long (q1 &&& (9223372036854775807 : Int64))), .second, .unset, .unset] [(.long (own_F1 q0 (q1 &&& (9223372036854775807 : Int64))))])) (fun t k => st1 _ k) ?_
  refine own_go (T' := T1) (f' := (mkF m 20 #[.val (.long q0), .second, .val (.long q1), .second, .val (.long (q1 &&& (9223372036854775807 : Int64))), .second, .val (.long (own_F1 q0 (q1 &&& (9223372036854775807 : Int64)))), .second] [(.long (q1 &&& (9223372036854775807 : Int64))), (.long q0), (.long (own_F1 q0 (q1 &&& (9223372036854775807 : Int64))))])) (fun t k => ?_) ?_
  · show Steps p.tables e below (T1.setTop (mkF m 13 #[.val (.long q0), .second, .val (.long q1), .second, .val (.long (q1 &&& (9223372036854775807 : Int64))), .second, .unset, .unset] [(.long (own_F1 q0 (q1 &&& (9223372036854775807 : Int64))))])) _
    refine XS.lstore X1.here hx rfl (hb hby at_13) rfl (l' := #[.val (.long q0), .second, .val (.long q1), .second, .val (.long (q1 &&& (9223372036854775807 : Int64))), .second, .val (.long (own_F1 q0 (q1 &&& (9223372036854775807 : Int64)))), .second]) rfl ?_
    show Steps p.tables e below (T1.setTop (mkF m 15 #[.val (.long q0), .second, .val (.long q1), .second, .val (.long (q1 &&& (9223372036854775807 : Int64))), .second, .val (.long (own_F1 q0 (q1 &&& (9223372036854775807 : Int64)))), .second] [])) _
    refine XS.lload X1.here hx rfl (hb hby at_15) rfl ?_
    show Steps p.tables e below (T1.setTop (mkF m 17 #[.val (.long q0), .second, .val (.long q1), .second, .val (.long (q1 &&& (9223372036854775807 : Int64))), .second, .val (.long (own_F1 q0 (q1 &&& (9223372036854775807 : Int64)))), .second] [(.long (own_F1 q0 (q1 &&& (9223372036854775807 : Int64))))])) _
    refine XS.lloadN X1.here hx rfl (hb hby at_17) rfl ?_
    show Steps p.tables e below (T1.setTop (mkF m 18 #[.val (.long q0), .second, .val (.long q1), .second, .val (.long (q1 &&& (9223372036854775807 : Int64))), .second, .val (.long (own_F1 q0 (q1 &&& (9223372036854775807 : Int64)))), .second] [(.long q0), (.long (own_F1 q0 (q1 &&& (9223372036854775807 : Int64))))])) _
    refine XS.lload X1.here hx rfl (hb hby at_18) rfl ?_
    show Steps p.tables e below (T1.setTop (mkF m 20 #[.val (.long q0), .second, .val (.long q1), .second, .val (.long (q1 &&& (9223372036854775807 : Int64))), .second, .val (.long (own_F1 q0 (q1 &&& (9223372036854775807 : Int64)))), .second] [(.long (q1 &&& (9223372036854775807 : Int64))), (.long q0), (.long (own_F1 q0 (q1 &&& (9223372036854775807 : Int64))))])) _
    exact k
  obtain ⟨_, _, ⟨T2, Lq2, kq2, nq2⟩, -, X2, ⟨Lc2, hQ2, lq2, yq2, zq2⟩, st2⟩ := Jvm.LawKit.callS X1 hx (y := (⟨"com/example/lid_on_load/lidonload/limit/LimitersEarlierPinLaw", "expected", "(JJ)J"⟩ : MethodName)) hown (mvT hZ (hw _ (List.mem_of_getElem? (i := 6) rfl))) (mvT hZ (hw _ (List.mem_of_getElem? (i := 7) rfl))) (mvT hZ (hw _ (List.mem_of_getElem? (i := 8) rfl))) (mvT hZ (hw _ (List.mem_of_getElem? (i := 9) rfl))) (by decide) (backOf (W := 2) (own_rm2 l Z a0 hw [] q0 ((q1 &&& (9223372036854775807 : Int64)))  h0 n0 Z0 ) hZ (hw _ (List.mem_of_getElem? (i := 9) rfl)) (hw _ (List.mem_of_getElem? (i := 8) rfl)) (by decide) (by decide)) (g := (mkF m 20 #[.val (.long q0), .second, .val (.long q1), .second, .val (.long (q1 &&& (9223372036854775807 : Int64))), .second, .val (.long (own_F1 q0 (q1 &&& (9223372036854775807 : Int64)))), .second] [(.long (q1 &&& (9223372036854775807 : Int64))), (.long q0), (.long (own_F1 q0 (q1 &&& (9223372036854775807 : Int64))))])) rfl (by rw [hml]; rfl) (argsL := [(.long q0), (.long (q1 &&& (9223372036854775807 : Int64)))]) (rest := [(.long (own_F1 q0 (q1 &&& (9223372036854775807 : Int64))))]) (lenOf own_pd0 rfl) rfl (by show 2 * 0 + _ ≤ _; exact Nat.le_of_eq rfl) (hb hby at_20) (fun _ _ => ⟨rfl, h1q, (by decide : 0 + 0 ≤ _), (by decide : 0 + 0 ≤ _)⟩)
  dsimp only [Pt.U, Pt.locs, Pt.cells, Pt.slots] at X2 lq2 yq2 zq2 st2 hQ2
  subst lq2 yq2 zq2
  obtain ⟨rfl, N2q, h2q⟩ := hQ2
  have N2 := Fr.app N1 N2q
  refine own_go (T' := T2) (f' := (mkF m 23 #[.val (.long q0), .second, .val (.long q1), .second, .val (.long (q1 &&& (9223372036854775807 : Int64))), .second, .val (.long (own_F1 q0 (q1 &&& (9223372036854775807 : Int64)))), .second] [(.long (own_F2 q0 (q1 &&& (9223372036854775807 : Int64)))), (.long (own_F1 q0 (q1 &&& (9223372036854775807 : Int64))))])) (fun t k => st2 _ k) ?_
  refine own_go (T' := T2) (f' := (mkF m 24 #[.val (.long q0), .second, .val (.long q1), .second, .val (.long (q1 &&& (9223372036854775807 : Int64))), .second, .val (.long (own_F1 q0 (q1 &&& (9223372036854775807 : Int64)))), .second] [(.int (lcmpW (own_F1 q0 (q1 &&& (9223372036854775807 : Int64))) (own_F2 q0 (q1 &&& (9223372036854775807 : Int64)))))])) (fun t k => ?_) ?_
  · show Steps p.tables e below (T2.setTop (mkF m 23 #[.val (.long q0), .second, .val (.long q1), .second, .val (.long (q1 &&& (9223372036854775807 : Int64))), .second, .val (.long (own_F1 q0 (q1 &&& (9223372036854775807 : Int64)))), .second] [(.long (own_F2 q0 (q1 &&& (9223372036854775807 : Int64)))), (.long (own_F1 q0 (q1 &&& (9223372036854775807 : Int64))))])) _
    refine XS.lcmp X2.here hx rfl (hb hby at_23) rfl ?_
    show Steps p.tables e below (T2.setTop (mkF m 24 #[.val (.long q0), .second, .val (.long q1), .second, .val (.long (q1 &&& (9223372036854775807 : Int64))), .second, .val (.long (own_F1 q0 (q1 &&& (9223372036854775807 : Int64)))), .second] [(.int (lcmpW (own_F1 q0 (q1 &&& (9223372036854775807 : Int64))) (own_F2 q0 (q1 &&& (9223372036854775807 : Int64)))))])) _
    exact k
  by_cases hc24_3 : (own_F1 q0 (q1 &&& (9223372036854775807 : Int64))) = (own_F2 q0 (q1 &&& (9223372036854775807 : Int64)))
  · skip
    refine own_go (T' := T2) (f' := (mkF m 31 #[.val (.long q0), .second, .val (.long q1), .second, .val (.long (q1 &&& (9223372036854775807 : Int64))), .second, .val (.long (own_F1 q0 (q1 &&& (9223372036854775807 : Int64)))), .second] [(.int (lcmpW (own_F1 q0 (q1 &&& (9223372036854775807 : Int64))) q0))])) (fun t k => ?_) ?_
    · show Steps p.tables e below (T2.setTop (mkF m 24 #[.val (.long q0), .second, .val (.long q1), .second, .val (.long (q1 &&& (9223372036854775807 : Int64))), .second, .val (.long (own_F1 q0 (q1 &&& (9223372036854775807 : Int64)))), .second] [(.int (lcmpW (own_F1 q0 (q1 &&& (9223372036854775807 : Int64))) (own_F2 q0 (q1 &&& (9223372036854775807 : Int64)))))])) _
      refine XS.ifNo X2.here hx rfl (hb hby at_24) rfl ((if0 _ _).trans (teq ((lw_eq (own_F1 q0 (q1 &&& (9223372036854775807 : Int64))) (own_F2 q0 (q1 &&& (9223372036854775807 : Int64)))).mpr hc24_3)).2) ?_
      show Steps p.tables e below (T2.setTop (mkF m 27 #[.val (.long q0), .second, .val (.long q1), .second, .val (.long (q1 &&& (9223372036854775807 : Int64))), .second, .val (.long (own_F1 q0 (q1 &&& (9223372036854775807 : Int64)))), .second] [])) _
      refine XS.lload X2.here hx rfl (hb hby at_27) rfl ?_
      show Steps p.tables e below (T2.setTop (mkF m 29 #[.val (.long q0), .second, .val (.long q1), .second, .val (.long (q1 &&& (9223372036854775807 : Int64))), .second, .val (.long (own_F1 q0 (q1 &&& (9223372036854775807 : Int64)))), .second] [(.long (own_F1 q0 (q1 &&& (9223372036854775807 : Int64))))])) _
      refine XS.lloadN X2.here hx rfl (hb hby at_29) rfl ?_
      show Steps p.tables e below (T2.setTop (mkF m 30 #[.val (.long q0), .second, .val (.long q1), .second, .val (.long (q1 &&& (9223372036854775807 : Int64))), .second, .val (.long (own_F1 q0 (q1 &&& (9223372036854775807 : Int64)))), .second] [(.long q0), (.long (own_F1 q0 (q1 &&& (9223372036854775807 : Int64))))])) _
      refine XS.lcmp X2.here hx rfl (hb hby at_30) rfl ?_
      show Steps p.tables e below (T2.setTop (mkF m 31 #[.val (.long q0), .second, .val (.long q1), .second, .val (.long (q1 &&& (9223372036854775807 : Int64))), .second, .val (.long (own_F1 q0 (q1 &&& (9223372036854775807 : Int64)))), .second] [(.int (lcmpW (own_F1 q0 (q1 &&& (9223372036854775807 : Int64))) q0))])) _
      exact k
    by_cases hc31_4 : q0 < (own_F1 q0 (q1 &&& (9223372036854775807 : Int64)))
    · skip
      refine own_go (T' := T2) (f' := (mkF m 39 #[.val (.long q0), .second, .val (.long q1), .second, .val (.long (q1 &&& (9223372036854775807 : Int64))), .second, .val (.long (own_F1 q0 (q1 &&& (9223372036854775807 : Int64)))), .second] [(.int (0 : Int32))])) (fun t k => ?_) ?_
      · show Steps p.tables e below (T2.setTop (mkF m 31 #[.val (.long q0), .second, .val (.long q1), .second, .val (.long (q1 &&& (9223372036854775807 : Int64))), .second, .val (.long (own_F1 q0 (q1 &&& (9223372036854775807 : Int64)))), .second] [(.int (lcmpW (own_F1 q0 (q1 &&& (9223372036854775807 : Int64))) q0))])) _
        refine XS.ifYes X2.here hx rfl (pc0 := 31) (pc' := 38) rfl (hb hby at_31) rfl ((if0 _ _).trans (tlt ((lw_gt (own_F1 q0 (q1 &&& (9223372036854775807 : Int64))) q0).mpr hc31_4)).2.2.1) (by decide) (by decide) ?_
        show Steps p.tables e below (T2.setTop (mkF m 38 #[.val (.long q0), .second, .val (.long q1), .second, .val (.long (q1 &&& (9223372036854775807 : Int64))), .second, .val (.long (own_F1 q0 (q1 &&& (9223372036854775807 : Int64)))), .second] [])) _
        refine XS.iconst X2.here hx rfl (hb hby at_38) ?_
        show Steps p.tables e below (T2.setTop (mkF m 39 #[.val (.long q0), .second, .val (.long q1), .second, .val (.long (q1 &&& (9223372036854775807 : Int64))), .second, .val (.long (own_F1 q0 (q1 &&& (9223372036854775807 : Int64)))), .second] [(.int (0 : Int32))])) _
        exact k
      obtain ⟨fs, hr, hrun, hended, hW, hsame⟩ := X2.leave (v := some (.int (0 : Int32))) (fun h => by rw [Bd.returns] at h; cases h)
      refine ⟨_, _, ?_, hrun, hended, _, _, rfl, ?_, ⟨_, rfl⟩, hW, hsame.mono (by decide) (by decide)⟩
      · exact retN X2 hx (t := .boolean) Bd.returns (by simp) (hb hby at_39) hr
      · show own_Q0 Z q0 q1 h0 n0 _ T2.heap _
        rw [h2q]
        exact ⟨(congrArg (fun z => some (Value.int z)) ((by rw [own_F0, if_pos hc24_3, if_pos hc31_4] : (0 : Int32) = own_F0 q0 q1).trans (own_law q0 q1))), N2⟩
    · skip
      refine own_go (T' := T2) (f' := (mkF m 39 #[.val (.long q0), .second, .val (.long q1), .second, .val (.long (q1 &&& (9223372036854775807 : Int64))), .second, .val (.long (own_F1 q0 (q1 &&& (9223372036854775807 : Int64)))), .second] [(.int (1 : Int32))])) (fun t k => ?_) ?_
      · show Steps p.tables e below (T2.setTop (mkF m 31 #[.val (.long q0), .second, .val (.long q1), .second, .val (.long (q1 &&& (9223372036854775807 : Int64))), .second, .val (.long (own_F1 q0 (q1 &&& (9223372036854775807 : Int64)))), .second] [(.int (lcmpW (own_F1 q0 (q1 &&& (9223372036854775807 : Int64))) q0))])) _
        refine XS.ifNo X2.here hx rfl (hb hby at_31) rfl ((if0 _ _).trans (flt (fun q => hc31_4 ((lw_gt (own_F1 q0 (q1 &&& (9223372036854775807 : Int64))) q0).mp q))).2.2.1) ?_
        show Steps p.tables e below (T2.setTop (mkF m 34 #[.val (.long q0), .second, .val (.long q1), .second, .val (.long (q1 &&& (9223372036854775807 : Int64))), .second, .val (.long (own_F1 q0 (q1 &&& (9223372036854775807 : Int64)))), .second] [])) _
        refine XS.iconst X2.here hx rfl (hb hby at_34) ?_
        show Steps p.tables e below (T2.setTop (mkF m 35 #[.val (.long q0), .second, .val (.long q1), .second, .val (.long (q1 &&& (9223372036854775807 : Int64))), .second, .val (.long (own_F1 q0 (q1 &&& (9223372036854775807 : Int64)))), .second] [(.int (1 : Int32))])) _
        refine XS.goto X2.here hx rfl (pc0 := 35) (pc' := 39) rfl (hb hby at_35) (by decide) (by decide) ?_
        show Steps p.tables e below (T2.setTop (mkF m 39 #[.val (.long q0), .second, .val (.long q1), .second, .val (.long (q1 &&& (9223372036854775807 : Int64))), .second, .val (.long (own_F1 q0 (q1 &&& (9223372036854775807 : Int64)))), .second] [(.int (1 : Int32))])) _
        exact k
      obtain ⟨fs, hr, hrun, hended, hW, hsame⟩ := X2.leave (v := some (.int (1 : Int32))) (fun h => by rw [Bd.returns] at h; cases h)
      refine ⟨_, _, ?_, hrun, hended, _, _, rfl, ?_, ⟨_, rfl⟩, hW, hsame.mono (by decide) (by decide)⟩
      · exact retN X2 hx (t := .boolean) Bd.returns (by simp) (hb hby at_39) hr
      · show own_Q0 Z q0 q1 h0 n0 _ T2.heap _
        rw [h2q]
        exact ⟨(congrArg (fun z => some (Value.int z)) ((by rw [own_F0, if_pos hc24_3, if_neg hc31_4] : (1 : Int32) = own_F0 q0 q1).trans (own_law q0 q1))), N2⟩
  · skip
    refine own_go (T' := T2) (f' := (mkF m 39 #[.val (.long q0), .second, .val (.long q1), .second, .val (.long (q1 &&& (9223372036854775807 : Int64))), .second, .val (.long (own_F1 q0 (q1 &&& (9223372036854775807 : Int64)))), .second] [(.int (0 : Int32))])) (fun t k => ?_) ?_
    · show Steps p.tables e below (T2.setTop (mkF m 24 #[.val (.long q0), .second, .val (.long q1), .second, .val (.long (q1 &&& (9223372036854775807 : Int64))), .second, .val (.long (own_F1 q0 (q1 &&& (9223372036854775807 : Int64)))), .second] [(.int (lcmpW (own_F1 q0 (q1 &&& (9223372036854775807 : Int64))) (own_F2 q0 (q1 &&& (9223372036854775807 : Int64)))))])) _
      refine XS.ifYes X2.here hx rfl (pc0 := 24) (pc' := 38) rfl (hb hby at_24) rfl ((if0 _ _).trans (feq (fun q => hc24_3 ((lw_eq (own_F1 q0 (q1 &&& (9223372036854775807 : Int64))) (own_F2 q0 (q1 &&& (9223372036854775807 : Int64)))).mp q))).2) (by decide) (by decide) ?_
      show Steps p.tables e below (T2.setTop (mkF m 38 #[.val (.long q0), .second, .val (.long q1), .second, .val (.long (q1 &&& (9223372036854775807 : Int64))), .second, .val (.long (own_F1 q0 (q1 &&& (9223372036854775807 : Int64)))), .second] [])) _
      refine XS.iconst X2.here hx rfl (hb hby at_38) ?_
      show Steps p.tables e below (T2.setTop (mkF m 39 #[.val (.long q0), .second, .val (.long q1), .second, .val (.long (q1 &&& (9223372036854775807 : Int64))), .second, .val (.long (own_F1 q0 (q1 &&& (9223372036854775807 : Int64)))), .second] [(.int (0 : Int32))])) _
      exact k
    obtain ⟨fs, hr, hrun, hended, hW, hsame⟩ := X2.leave (v := some (.int (0 : Int32))) (fun h => by rw [Bd.returns] at h; cases h)
    refine ⟨_, _, ?_, hrun, hended, _, _, rfl, ?_, ⟨_, rfl⟩, hW, hsame.mono (by decide) (by decide)⟩
    · exact retN X2 hx (t := .boolean) Bd.returns (by simp) (hb hby at_39) hr
    · show own_Q0 Z q0 q1 h0 n0 _ T2.heap _
      rw [h2q]
      exact ⟨(congrArg (fun z => some (Value.int z)) ((by rw [own_F0, if_neg hc24_3] : (0 : Int32) = own_F0 q0 q1).trans (own_law q0 q1))), N2⟩
set_option maxRecDepth 65536 in
set_option maxHeartbeats 40000000 in
theorem comes_1 {Post : Tables → Env → Array Value → State → Outcome → State → Prop} (hpost : ∀ tb e args s v u, (limb_1_1.after args s (.returned v) u = true ∧ limb_1_2.after args s (.returned v) u = true ∧ True) → FrameEnd s (.returned v) u (Jvm.fieldLocs frame_1_writes args s ++ Jvm.arrayLocs frame_1_arrays args s ++ Jvm.staticLocs frame_1_statics s) 0 0 → Post tb e args s (.returned v) u) :
    ArmFor flags0 classFile x code maxLocals ret World_1 tables_1 room_1 Calls_1 rest_1 Pre_1 Post := by
  intro l hfl _ _ p e ha hc hk s m args below hf hA hF happ hP
  obtain ⟨hcalls, hrest, hpre⟩ := hP
  obtain ⟨-, -, -, hnamed, -, -, -, hat⟩ := (Spec.applies_iff hf).mp happ
  obtain ⟨hg, hn⟩ := and_e (Cond.before_iff.mp (show (Jvm.Cond.and given_1 narrow_1).before args s = true from hpre))
  obtain ⟨hcnt, g0⟩ := and_e hg
  obtain ⟨k0, g1⟩ := and_e g0
  have k1 := g1
  obtain ⟨w0, w1, rfl⟩ : ∃ w0 w1 : Value, args = #[w0, w1] := by
    have hs : args.size = 2 := by simpa [Cond.value, given_1] using hcnt
    obtain ⟨L⟩ := args
    match L, hs with
    | [w0, w1], _ => exact ⟨w0, w1, rfl⟩
  have hw := fun d (hd : d ∈ tables_1) => atoms_spec (ws := Jvm.Cond.code x code maxLocals ret :: tables_1) hat d (List.mem_cons_of_mem _ hd)
  obtain ⟨i0, e0⟩ := isL_v k0
  obtain rfl : w0 = (.long i0) := Option.some.inj e0
  obtain ⟨i1, e1⟩ := isL_v k1
  obtain rfl : w1 = (.long i1) := Option.some.inj e1
  obtain ⟨n, o, h1, h2, h3, _, L, rfl, ⟨hv, N⟩, hq⟩ := own_rm0 l s _ hw tables_1 i0 i1 s.heap s.heap.size (Nat.le_refl _)  p e ha hc hk s m _ below hf ((Spec.applies_iff_loose hf).mp happ).1 ⟨rfl, State.Warmed39.refl s, rfl⟩ trivial
  subst hv
  refine ⟨n, _, h1, h2, h3, hpost _ _ _ _ _ _ ⟨Cond.after_iff.mpr rfl, Cond.after_iff.mpr (eq_i res_at (Term.int_eval (1)) rfl), trivial⟩ ⟨hq.1, hq.2.1, (hq.2.2.sift fun y hy => Or.inr (N y hy)).mono (by decide) (by decide)⟩⟩
theorem main_1_1 : Claimed_1_1 := comes_1 fun _ _ _ _ _ _ h hF => ⟨h.1, hF⟩
theorem main_1_2 : Claimed_1_2 := comes_1 fun _ _ _ _ _ _ h hF => ⟨h.2.1, hF⟩
end Jvm.Pilot.@@N@@
namespace Jvm.Pilot.@@N@@
open Jvm Jvm.ClassFile Sem Op Lib Jvm.Free Jvm.Stand Jvm.Pilot.@@N@@.Jvm.D
/-! MADE BY PROGRAM (witnessworld.py) out of the Statement's table words and the real class files: 7 classes; the members and pool entries that the words name. The judged class is class 1, her method 1. -/
namespace start1
open Jvm.ClassFile
def u (s : String) : CpInfo := .utf8 (stringToUtf16 s)
/-- a pool by its gaps: so many unusable entries, then the entry; so many at the end -/
def gap : Nat → List CpInfo → List CpInfo
  | 0, r => r
  | n + 1, r => .unusable :: gap n r
def poolList (es : List (Nat × CpInfo)) (last : Nat) : List CpInfo := es.foldr (fun e r => gap e.1 (e.2 :: r)) (gap last [])
def pool (es : List (Nat × CpInfo)) (last : Nat) : Array CpInfo := ⟨poolList es last⟩
def fileOf (pool : Array CpInfo) (this : Nat) (attrs : Array Attribute := #[]) (ms : Array MethodInfo := #[]) (fl : Nat := 33) (sup : Nat := 0) (ifs : Array Nat := #[]) (fds : Array FieldInfo := #[]) : ClassFile where
  minorVersion := 0
  majorVersion := 65
  constantPool := pool
  accessFlags := fl
  thisClass := this
  superClass := sup
  interfaces := ifs
  fields := fds
  methods := ms
  attributes := attrs
def plain (name : String) (sup : Option ClassId) : Class where
  name := name
  kind := .ordinary
  loader := none
  accessFlags := 33
  super := sup
  interfaces := #[]
  cf := none
  fields := #[]
  methods := #[]
  instanceTypes := #[]
  staticTypes := #[]
  resolved := #[]
  callSites := []
  init := .initialized
  statics := none
  mirror := none

def pool0 : Array CpInfo := pool [(5, u "<init>"), (0, u "()V"), (1, .class_ 10), (1, u "java/lang/Object")] 113

def k0m0 : Method := { name := "<init>", desc := "()V", sig := { parameters := [], returnType := none }, accessFlags := 1, code := none }
/-- java/lang/Object -/
def k0 : Class := { plain "java/lang/Object" none with
  accessFlags := 33
  interfaces := #[]
  cf := some (fileOf pool0 8 #[] #[{ accessFlags := 1, nameIndex := 5, descriptorIndex := 6, attributes := #[] }] 33 0 #[] #[])
  fields := #[]
  methods := #[k0m0]
  instanceTypes := #[]
  staticTypes := #[]
  resolved := Array.replicate 124 none
  statics := none }

def pool1 : Array CpInfo := pool [(2, .class_ 4), (1, u "java/lang/Object"), (0, u "<init>"), (0, u "()V"), (2, .long 9223372036854775807), (1, .methodref 12 13), (0, .class_ 14), (0, .nameAndType 15 16), (0, u "com/example/lid_on_load/lidonload/limit/Limiters"), (0, u "earlier"), (0, u "(JJ)J"), (0, .methodref 18 19), (0, .class_ 20), (0, .nameAndType 21 16), (0, u "com/example/lid_on_load/lidonload/limit/LimitersEarlierPinLaw"), (0, u "expected"), (0, .long 9223372036854775808), (3, u "law"), (0, u "(JJ)Z")] 3

def k1m0 : Method := { name := "<init>", desc := "()V", sig := { parameters := [], returnType := none }, accessFlags := 2, code := none }
def k1c1 : Code := { maxStack := 6, maxLocals := 8, code := code, exceptionTable := #[], attributes := #[] }
def k1m1 : Method := { name := "law", desc := "(JJ)Z", sig := { parameters := [.long, .long], returnType := some .boolean }, accessFlags := 9, code := some k1c1 }
def k1c2 : Code := { maxStack := 4, maxLocals := 6, code := method_3_code, exceptionTable := #[], attributes := #[] }
def k1m2 : Method := { name := "expected", desc := "(JJ)J", sig := { parameters := [.long, .long], returnType := some .long }, accessFlags := 10, code := some k1c2 }
/-- com/example/lid_on_load/lidonload/limit/LimitersEarlierPinLaw -/
def k1 : Class := { plain "com/example/lid_on_load/lidonload/limit/LimitersEarlierPinLaw" (some 0) with
  accessFlags := 49
  interfaces := #[]
  cf := some (fileOf pool1 18 #[] #[{ accessFlags := 2, nameIndex := 5, descriptorIndex := 6, attributes := #[] }, { accessFlags := 9, nameIndex := 26, descriptorIndex := 27, attributes := #[] }, { accessFlags := 10, nameIndex := 21, descriptorIndex := 16, attributes := #[] }] 49 2 #[] #[])
  fields := #[]
  methods := #[k1m0, k1m1, k1m2]
  instanceTypes := #[]
  staticTypes := #[]
  resolved := Array.replicate 31 none
  statics := none }

def pool2 : Array CpInfo := pool [(2, .class_ 4), (1, u "java/lang/Object"), (0, u "<init>"), (0, u "()V"), (17, .long 9223372036854775808), (37, .class_ 63), (0, u "com/example/lid_on_load/lidonload/limit/Limiters"), (54, .class_ 120), (1, u "com/example/lid_on_load/lidonload/limit/Limiters$1"), (116, u "STRIPES"), (0, u "I"), (8, u "(JJ)J"), (0, u "earlier")] 65

def k2m0 : Method := { name := "<init>", desc := "()V", sig := { parameters := [], returnType := none }, accessFlags := 2, code := none }
def k2c1 : Code := { maxStack := 6, maxLocals := 4, code := prog_13_method_4_code, exceptionTable := #[], attributes := #[] }
def k2m1 : Method := { name := "earlier", desc := "(JJ)J", sig := { parameters := [.long, .long], returnType := some .long }, accessFlags := 8, code := some k2c1 }
/-- com/example/lid_on_load/lidonload/limit/Limiters -/
def k2 : Class := { plain "com/example/lid_on_load/lidonload/limit/Limiters" (some 0) with
  accessFlags := 49
  interfaces := #[]
  cf := some (fileOf pool2 62 #[.nestMembers #[118]] #[{ accessFlags := 2, nameIndex := 5, descriptorIndex := 6, attributes := #[] }, { accessFlags := 8, nameIndex := 248, descriptorIndex := 247, attributes := #[] }] 49 2 #[] #[{ accessFlags := 26, nameIndex := 237, descriptorIndex := 238, attributes := #[] }])
  fields := #[{ name := "STRIPES", type := .int, accessFlags := 26, slot := 0, constantValue := 0 }]
  methods := #[k2m0, k2m1]
  instanceTypes := #[]
  staticTypes := #[.int]
  resolved := Array.replicate 314 none
  statics := none }

def pool3 : Array CpInfo := pool [(1, u "java/lang/Cloneable"), (0, .class_ 1), (0, u "java/lang/Object"), (0, .class_ 3)] 3

/-- java/lang/Cloneable -/
def k3 : Class := { plain "java/lang/Cloneable" (some 0) with
  accessFlags := 1537
  interfaces := #[]
  cf := some (fileOf pool3 2 #[] #[] 1537 4 #[] #[])
  fields := #[]
  methods := #[]
  instanceTypes := #[]
  staticTypes := #[]
  resolved := Array.replicate 8 none
  statics := none }

def pool4 : Array CpInfo := pool [(1, u "java/io/Serializable"), (0, .class_ 1), (0, u "java/lang/Object"), (0, .class_ 3)] 3

/-- java/io/Serializable -/
def k4 : Class := { plain "java/io/Serializable" (some 0) with
  accessFlags := 1537
  interfaces := #[]
  cf := some (fileOf pool4 2 #[] #[] 1537 4 #[] #[])
  fields := #[]
  methods := #[]
  instanceTypes := #[]
  staticTypes := #[]
  resolved := Array.replicate 8 none
  statics := none }

/-- the primitive byte -/
def k5 : Class := { plain "byte" none with kind := .primitive 'B', accessFlags := 0x411 }
/-- [B -/
def k6 : Class := { plain "[B" (some 0) with kind := .array 5 .byte, interfaces := #[3, 4], accessFlags := 1041 }

def heap : Heap := #[]
def classes : Array Class := #[k0, k1, k2, k3, k4, k5, k6]
def interned : List (Array UInt16 × Addr) := []
def slotsUsed : Nat := 0
def theMethod : MethodId := ⟨1, 1⟩
def args0 : Array Value := #[.long 5, .long 5]
def aboutOver (below : List Frame) : State where
  vm := { classes := classes, interned := interned.toArray }
  heap := heap
  slotsUsed := slotsUsed
  threads := #[{ frames := .invoking theMethod args0 :: below }]
def below0 : List Frame := [.native { method := ⟨0, 0⟩, args := #[] }]
def about1 : State := aboutOver below0
def p0 : Program := .bare "" "" ""
def e0 : Env := launch0.env 0 0 0
theorem w_frames : about1.frames = Frame.invoking theMethod args0 :: below0 := rfl
set_option maxRecDepth 65536 in
theorem w_args : argsFit about1.vm theMethod args0 = true := by decide +kernel
set_option maxRecDepth 65536 in
theorem w_heap : heapFits about1 = true := by decide +kernel
set_option maxRecDepth 65536 in
theorem w_runnable : about1.curStatus? = some .runnable := by decide +kernel
set_option maxRecDepth 65536 in
theorem w_alone : about1.alone = true := by decide +kernel
set_option maxRecDepth 65536 in
theorem w_named : about1.methodNamed? x = some theMethod := by decide +kernel
set_option maxRecDepth 65536 in
theorem w_hears : about1.hears theMethod below0 = true := by decide +kernel
set_option maxRecDepth 65536 in
theorem w_ripe : about1.ripe theMethod args0 below0 = true := by decide +kernel
theorem w_running : about1.status = .running := rfl
set_option maxRecDepth 65536 in
theorem w_room : about1.hasRoom e0.platform room_1 = true :=
  launch0.hasRoom_least _ room_1 (by decide +kernel) (by decide +kernel) (by decide +kernel) (by decide +kernel) (by decide +kernel) (by decide +kernel)
theorem allAtoms_all (ts : List Jvm.Cond) (a : Array Jvm.Value) (st : Jvm.State) : (allAtoms ts).before a st = ts.all (fun c => c.before a st) := by
  induction ts with
  | nil => rfl
  | cons c t ih =>
    show (Jvm.Cond.and c (allAtoms t)).before a st = _
    rw [Jvm.Cond.before_and, ih, List.all_cons]
def words1 : List Jvm.Cond := Jvm.Cond.code x code maxLocals ret :: tables_1
/-- a 'code' word, met by the world's own term for the bytes: nothing is compared byte by byte -/
theorem code_word {y : MethodName} {bytes : ByteArray} {mx : Nat} {rt : Option FieldType} {a : Array Value} {s : State} {m : MethodId} {meth : Method} {c : Code} (h1 : s.methodNamed? y = some m) (h2 : s.vm.method? m = some meth) (h3 : meth.code = some c) (h4 : c.code = bytes)
    (h5 : (c.maxLocals == mx && c.exceptionTable.isEmpty && decide (c.maxStack ≤ mostOperands) && decide (meth.sig.returnType = rt) && !meth.locks && decide (parseMethodDescriptor y.desc = some meth.sig)) = true) : (Jvm.Cond.code y bytes mx rt).before a s = true := by
  simp only [Bool.and_eq_true, beq_iff_eq, Bool.not_eq_true', decide_eq_true_eq] at h5
  obtain ⟨⟨⟨⟨⟨g1, g2⟩, g3⟩, g4⟩, g5⟩, g6⟩ := h5
  simp [Cond.before, Cond.holds, Cond.value, h1, h2, h3, h4, g1, g2, g3, g4, g5, g6]
def isCode : Jvm.Cond → Bool
  | .code _ _ _ _ => true
  | _ => false
theorem all_split {L : List Jvm.Cond} {P : Jvm.Cond → Bool} (h1 : L.all (fun c => isCode c || P c) = true) (h2 : ∀ c ∈ L.filter isCode, P c = true) : L.all P = true := by
  refine List.all_eq_true.mpr fun c hc => ?_
  have h := List.all_eq_true.mp h1 c hc
  rcases Bool.eq_false_or_eq_true (isCode c) with hi | hi
  · exact h2 c (List.mem_filter.mpr ⟨hc, hi⟩)
  · simpa [hi] using h
set_option maxRecDepth 65536 in
theorem w_c0 : (Jvm.Cond.code x code maxLocals ret).before args0 about1 = true := code_word (m := ⟨1, 1⟩) (meth := k1m1) (c := k1c1) (by decide +kernel) rfl rfl rfl (by decide +kernel)
set_option maxRecDepth 65536 in
theorem w_c1 : (Jvm.Cond.code ({ cls := "com/example/lid_on_load/lidonload/limit/Limiters", name := "earlier", desc := "(JJ)J" } : Jvm.MethodName) prog_13_method_4_code (4 : Nat) (Option.some Jvm.ClassFile.FieldType.long)).before args0 about1 = true := code_word (m := ⟨2, 1⟩) (meth := k2m1) (c := k2c1) (by decide +kernel) rfl rfl rfl (by decide +kernel)
set_option maxRecDepth 65536 in
theorem w_c2 : (Jvm.Cond.code ({ cls := "com/example/lid_on_load/lidonload/limit/LimitersEarlierPinLaw", name := "expected", desc := "(JJ)J" } : Jvm.MethodName) method_3_code (6 : Nat) (Option.some Jvm.ClassFile.FieldType.long)).before args0 about1 = true := code_word (m := ⟨1, 2⟩) (meth := k1m2) (c := k1c2) (by decide +kernel) rfl rfl rfl (by decide +kernel)
def codes1 : List Jvm.Cond := [Jvm.Cond.code x code maxLocals ret, Jvm.Cond.code ({ cls := "com/example/lid_on_load/lidonload/limit/Limiters", name := "earlier", desc := "(JJ)J" } : Jvm.MethodName) prog_13_method_4_code (4 : Nat) (Option.some Jvm.ClassFile.FieldType.long), Jvm.Cond.code ({ cls := "com/example/lid_on_load/lidonload/limit/LimitersEarlierPinLaw", name := "expected", desc := "(JJ)J" } : Jvm.MethodName) method_3_code (6 : Nat) (Option.some Jvm.ClassFile.FieldType.long)]
set_option maxRecDepth 65536 in
theorem codes_eq : words1.filter isCode = codes1 := rfl
theorem w_codes : ∀ c ∈ words1.filter isCode, c.before args0 about1 = true := by
  rw [codes_eq]
  intro c hc
  simp only [codes1, List.mem_cons, List.not_mem_nil, or_false] at hc
  rcases hc with rfl | rfl | rfl
  · exact w_c0
  · exact w_c1
  · exact w_c2
set_option maxRecDepth 65536 in
theorem w_t1 : words1.all (fun c => isCode c || c.before args0 about1) = true := by decide +kernel
theorem w_tables : (allAtoms (Jvm.Cond.code x code maxLocals ret :: tables_1)).before args0 about1 = true := by
  rw [allAtoms_all]
  show words1.all (fun c => c.before args0 about1) = true
  refine all_split ?_ w_codes
  rw [w_t1]
set_option maxRecDepth 65536 in
theorem w_case : (Jvm.Cond.and given_1 narrow_1).before args0 about1 = true := by decide +kernel
theorem w_applies : (headSpec (Jvm.Cond.code x code maxLocals ret :: tables_1) room_1).applies x e0.platform about1 = true :=
  (Spec.applies_iff w_frames).mpr ⟨w_running, w_runnable, w_alone, w_named, w_hears, w_ripe, w_room, w_tables⟩
theorem atStart : AtStart classFile x code maxLocals ret World_1 tables_1 room_1 Calls_1 rest_1 Pre_1 launch0 p0 e0 about1 theMethod args0 below0 :=
  ⟨lists_1, trivial, launch0.admits_env _ _ _, launch0.least_env, fairChoices_fair.cas, fairChoices_fair.clock, w_frames, w_args, w_heap, w_applies, trivial, trivial, w_case⟩
end start1
theorem witness_1 : WitnessClaimed_1 := ⟨start1.p0, start1.e0, start1.about1, start1.theMethod, start1.args0, start1.below0, start1.atStart⟩
end Jvm.Pilot.@@N@@
