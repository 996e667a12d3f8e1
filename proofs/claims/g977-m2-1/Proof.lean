import JvmDerived
import JvmDerived.Pilot.@@N@@Statement
import JvmDerived.Pilot.@@N@@Code
set_option linter.unusedVariables false
set_option linter.unusedSimpArgs false
namespace Jvm.RoadKit
open Sem ClassFile Op Lib Jvm.Stand Jvm.Free Jvm.LawKit
section New
variable {p : Program} {l : Launch} {e : Env} {R : Room} {s : State} {m : MethodId} {args : Array Value} {below : List Frame} {meth : Method} {c : Code} {T : State} {locs : List Loc} {cells slots : Nat}
theorem retI (X : Stand p l e R s m args below meth c T locs cells slots) (hx : p.tables.exec = Jvm.exec) {pc : Nat} {Ls : Array Slot} {z : Int32} {rest : List Value} (hret : meth.sig.returnType = some .int) (hd : decode c.code pc = .ok (.ireturn, 1)) {fs : List Frame}
    (hl : ∀ (f : JFrame) (acts : List Action), f.method = m → f.locked = none → f.entered = [] → (doReturn e (T.setTop f) acts (some (.int z))).1 = T.setFrames fs) : Steps p.tables e below (T.setTop (mkF m pc Ls (.int z :: rest))) (T.setFrames fs) := by
  have hm' : T.vm.method? m = some meth := X.method'
  have hn : narrow .int (.int z) = .int z := rfl
  show Steps p.tables e below (T.setTop { method := m, pc := pc, locals := Ls, stack := _ :: rest, locked := none }) _
  jvm_step X.here [X.here.top, hx, hd, hm', hret, hn]
  first | (intro acts; rw [hl _ acts rfl rfl rfl]) | rw [hl _ _ rfl rfl rfl]
  exact Steps.refl _
def own_shrL (x : Int64) (y : Int32) : Int64 := (x.toUInt64 >>> (y &&& 0x3f).toInt64.toUInt64).toInt64
def own_shrI (x y : Int32) : Int32 := (x.toUInt32 >>> (y &&& 31).toUInt32).toInt32
theorem own_go {tb : Tables} {T' : State} {f f' : JFrame} {G : State → Outcome → Prop} (k : ∀ t, Steps tb e below (T'.setTop f') t → Steps tb e below (T.setTop f) t) (h : ∃ s₂ o, Steps tb e below (T'.setTop f') s₂ ∧ G s₂ o) : ∃ s₂ o, Steps tb e below (T.setTop f) s₂ ∧ G s₂ o := by
  obtain ⟨s₂, o, a, b⟩ := h
  exact ⟨s₂, o, k _ a, b⟩
theorem own_cut {tb : Tables} {f f' : JFrame} {G : State → Outcome → Prop} {P : State → Prop} (h1 : (∀ T', P T' → ∃ s₂ o, Steps tb e below (T'.setTop f') s₂ ∧ G s₂ o) → ∃ s₂ o, Steps tb e below (T.setTop f) s₂ ∧ G s₂ o) (h2 : ∀ T', P T' → ∃ s₂ o, Steps tb e below (T'.setTop f') s₂ ∧ G s₂ o) : ∃ s₂ o, Steps tb e below (T.setTop f) s₂ ∧ G s₂ o := h1 h2
end New
end Jvm.RoadKit
namespace Jvm.Pilot.@@N@@
open Jvm Jvm.ClassFile Sem Op Lib Jvm.Free Jvm.Stand Jvm.LawKit Jvm.RoadKit Bundle Jvm.Pilot.@@N@@.Jvm.D
theorem own_d1_0 : decode jdk_29_method_66_code 0 = .ok (.lload_n 0, 1) := by decide +kernel
theorem own_d1_1 : decode jdk_29_method_66_code 1 = .ok (.lload_n 2, 1) := by decide +kernel
theorem own_d1_2 : decode jdk_29_method_66_code 2 = .ok (.lcmp, 1) := by decide +kernel
theorem own_d1_3 : decode jdk_29_method_66_code 3 = .ok (.ifCond .lt 7, 3) := by decide +kernel
theorem own_d1_6 : decode jdk_29_method_66_code 6 = .ok (.lload_n 0, 1) := by decide +kernel
theorem own_d1_7 : decode jdk_29_method_66_code 7 = .ok (.goto 4, 3) := by decide +kernel
theorem own_d1_10 : decode jdk_29_method_66_code 10 = .ok (.lload_n 2, 1) := by decide +kernel
theorem own_d1_11 : decode jdk_29_method_66_code 11 = .ok (.lreturn, 1) := by decide +kernel
theorem own_ef1 (m : MethodId) (q0 : Int64) (q1 : Int64) : entryFrame m #[(.long q0), (.long q1)] 4 = mkF m 0 #[.val (.long q0), .second, .val (.long q1), .second] [] := by first | (simp [entryFrame, mkF, argsToLocals, Value.category]; done) | rfl
def own_F1 (q0 : Int64) (q1 : Int64) : Int64 := (if q0 < q1 then q1 else q0)
def own_Q1 (Z : State) (q0 : Int64) (q1 : Int64) (h0 : Heap) (n0 : Nat) (v : Option Value) (h : Heap) (L : List Loc) : Prop := (v = some (.long (own_F1 q0 q1))) ∧ (Fr n0 L) ∧ (h = h0)
set_option maxRecDepth 65536 in
set_option maxHeartbeats 40000000 in
theorem own_rm1 (l : Launch) (Z : State) (a0 : Array Value) (hw : ∀ d ∈ tables_1, d.before a0 Z = true) (ws : List Jvm.Cond) (q0 : Int64) (q1 : Int64) (h0 : Heap) (n0 : Nat) (Z0 : n0 ≤ h0.size) :
    MetFree l (⟨"java/lang/Math", "max", "(JJ)J"⟩ : MethodName) (head1 (Jvm.Cond.code (⟨"java/lang/Math", "max", "(JJ)J"⟩ : MethodName) jdk_29_method_66_code 4 (some .long) :: ws) ({ frames := 0, cells := 0, slots := 0, locals := 0 } : Room)) (fun a U => a = #[(.long q0), (.long q1)] ∧ Z.Warmed39 U.vm ∧ U.heap = h0) (fun _ _ _ _ _ => True) (fun _ U o U' => ∃ v L, o = .returned v ∧ own_Q1 Z q0 q1 h0 n0 v U'.heap L ∧ FrameEnd U o U' L ({ frames := 0, cells := 0, slots := 0, locals := 0 } : Room).cells ({ frames := 0, cells := 0, slots := 0, locals := 0 } : Room).slots) := by
  refine MetFree.of_bodySF (Jvm.Free.JP.mathPlain rfl (by decide +kernel)) hisR ?_
  intro p e s m args below meth c s₁ Bd hml0 hP hK
  obtain ⟨rfl, hZ, hh⟩ := hP
  have hx := Bd.exec
  have hby := Bd.bytes
  have hml : c.maxLocals = 4 := hml0
  have hown : s.vm.findClass "java/lang/Math" = some m.cls := findClass_of_methodNamed Bd.named
  have hnm := (name_of_methodNamed Bd.named Bd.method).1
  have X0 : Stand p l e ({ frames := 0, cells := 0, slots := 0, locals := 0 } : Room) s m #[(.long q0), (.long q1)] below meth c s₁ [] 0 0 := Stand.of_body Bd
  have e0 : s₁.heap = h0 := by rw [← hh, Bd.state]; rfl
  have N0 := Fr.nil n0
  refine own_go (fun t k => castTop (own_ef1 m q0 q1) k) ?_
  refine own_go (T' := s₁) (f' := (mkF m 3 #[.val (.long q0), .second, .val (.long q1), .second] [(.int (lcmpW q0 q1))])) (fun t k => ?_) ?_
  · show Steps p.tables e below (s₁.setTop (mkF m 0 #[.val (.long q0), .second, .val (.long q1), .second] [])) _
    refine XS.lloadN X0.here hx rfl (hb hby own_d1_0) rfl ?_
    show Steps p.tables e below (s₁.setTop (mkF m 1 #[.val (.long q0), .second, .val (.long q1), .second] [(.long q0)])) _
    refine XS.lloadN X0.here hx rfl (hb hby own_d1_1) rfl ?_
    show Steps p.tables e below (s₁.setTop (mkF m 2 #[.val (.long q0), .second, .val (.long q1), .second] [(.long q1), (.long q0)])) _
    refine XS.lcmp X0.here hx rfl (hb hby own_d1_2) rfl ?_
    show Steps p.tables e below (s₁.setTop (mkF m 3 #[.val (.long q0), .second, .val (.long q1), .second] [(.int (lcmpW q0 q1))])) _
    exact k
  by_cases hc3_1 : q0 < q1
  · skip
    refine own_go (T' := s₁) (f' := (mkF m 11 #[.val (.long q0), .second, .val (.long q1), .second] [(.long q1)])) (fun t k => ?_) ?_
    · show Steps p.tables e below (s₁.setTop (mkF m 3 #[.val (.long q0), .second, .val (.long q1), .second] [(.int (lcmpW q0 q1))])) _
      refine XS.ifYes X0.here hx rfl (pc0 := 3) (pc' := 10) rfl (hb hby own_d1_3) rfl ((if0 _ _).trans (tlt ((lw_lt q0 q1).mpr hc3_1)).1) (by decide) (by decide) ?_
      show Steps p.tables e below (s₁.setTop (mkF m 10 #[.val (.long q0), .second, .val (.long q1), .second] [])) _
      refine XS.lloadN X0.here hx rfl (hb hby own_d1_10) rfl ?_
      show Steps p.tables e below (s₁.setTop (mkF m 11 #[.val (.long q0), .second, .val (.long q1), .second] [(.long q1)])) _
      exact k
    obtain ⟨fs, hr, hrun, hended, hW, hsame⟩ := X0.leave (v := some (.long q1)) (fun h => by rw [Bd.returns] at h; cases h)
    refine ⟨_, _, ?_, hrun, hended, _, _, rfl, ?_, ⟨_, rfl⟩, hW, hsame.mono (by decide) (by decide)⟩
    · exact X0.lreturnOut hx Bd.returns (hb hby own_d1_11) hr
    · show own_Q1 Z q0 q1 h0 n0 _ s₁.heap _
      rw [e0]
      exact ⟨(by rw [own_F1, if_pos hc3_1]), N0, rfl⟩
  · skip
    refine own_go (T' := s₁) (f' := (mkF m 11 #[.val (.long q0), .second, .val (.long q1), .second] [(.long q0)])) (fun t k => ?_) ?_
    · show Steps p.tables e below (s₁.setTop (mkF m 3 #[.val (.long q0), .second, .val (.long q1), .second] [(.int (lcmpW q0 q1))])) _
      refine XS.ifNo X0.here hx rfl (hb hby own_d1_3) rfl ((if0 _ _).trans (flt (fun q => hc3_1 ((lw_lt q0 q1).mp q))).1) ?_
      show Steps p.tables e below (s₁.setTop (mkF m 6 #[.val (.long q0), .second, .val (.long q1), .second] [])) _
      refine XS.lloadN X0.here hx rfl (hb hby own_d1_6) rfl ?_
      show Steps p.tables e below (s₁.setTop (mkF m 7 #[.val (.long q0), .second, .val (.long q1), .second] [(.long q0)])) _
      refine XS.goto X0.here hx rfl (pc0 := 7) (pc' := 11) rfl (hb hby own_d1_7) (by decide) (by decide) ?_
      show Steps p.tables e below (s₁.setTop (mkF m 11 #[.val (.long q0), .second, .val (.long q1), .second] [(.long q0)])) _
      exact k
    obtain ⟨fs, hr, hrun, hended, hW, hsame⟩ := X0.leave (v := some (.long q0)) (fun h => by rw [Bd.returns] at h; cases h)
    refine ⟨_, _, ?_, hrun, hended, _, _, rfl, ?_, ⟨_, rfl⟩, hW, hsame.mono (by decide) (by decide)⟩
    · exact X0.lreturnOut hx Bd.returns (hb hby own_d1_11) hr
    · show own_Q1 Z q0 q1 h0 n0 _ s₁.heap _
      rw [e0]
      exact ⟨(by rw [own_F1, if_neg hc3_1]), N0, rfl⟩
theorem own_d2_0 : decode prog_13_method_5_code 0 = .ok (.lload_n 0, 1) := by decide +kernel
theorem own_d2_1 : decode prog_13_method_5_code 1 = .ok (.ldc2_w 22, 3) := by decide +kernel
theorem own_d2_4 : decode prog_13_method_5_code 4 = .ok (.lload_n 2, 1) := by decide +kernel
theorem own_d2_5 : decode prog_13_method_5_code 5 = .ok (.ldiv, 1) := by decide +kernel
theorem own_d2_6 : decode prog_13_method_5_code 6 = .ok (.lcmp, 1) := by decide +kernel
theorem own_d2_7 : decode prog_13_method_5_code 7 = .ok (.ifCond .lt 9, 3) := by decide +kernel
theorem own_d2_10 : decode prog_13_method_5_code 10 = .ok (.ldc2_w 22, 3) := by decide +kernel
theorem own_d2_13 : decode prog_13_method_5_code 13 = .ok (.goto 8, 3) := by decide +kernel
theorem own_d2_16 : decode prog_13_method_5_code 16 = .ok (.lload_n 0, 1) := by decide +kernel
theorem own_d2_17 : decode prog_13_method_5_code 17 = .ok (.lconst 1, 1) := by decide +kernel
theorem own_d2_18 : decode prog_13_method_5_code 18 = .ok (.ladd, 1) := by decide +kernel
theorem own_d2_19 : decode prog_13_method_5_code 19 = .ok (.lload_n 2, 1) := by decide +kernel
theorem own_d2_20 : decode prog_13_method_5_code 20 = .ok (.lmul, 1) := by decide +kernel
theorem own_d2_21 : decode prog_13_method_5_code 21 = .ok (.lreturn, 1) := by decide +kernel
theorem own_pn0 : plainName "com/example/lid_on_load/lidonload/limit/Limiters" = true := by first | (simp [plainName, overriddenIn]; done) | decide +kernel
theorem own_ef2 (m : MethodId) (q0 : Int64) (q1 : Int64) : entryFrame m #[(.long q0), (.long q1)] 4 = mkF m 0 #[.val (.long q0), .second, .val (.long q1), .second] [] := by first | (simp [entryFrame, mkF, argsToLocals, Value.category]; done) | rfl
def own_F2 (q0 : Int64) (q1 : Int64) : Int64 := (if q0 < ((9223372036854775807 : Int64) / q1) then ((q0 + (1 : Int64)) * q1) else (9223372036854775807 : Int64))
def own_Q2 (Z : State) (q0 : Int64) (q1 : Int64) (h0 : Heap) (n0 : Nat) (v : Option Value) (h : Heap) (L : List Loc) : Prop := (v = some (.long (own_F2 q0 q1))) ∧ (Fr n0 L) ∧ (h = h0)
set_option maxRecDepth 65536 in
set_option maxHeartbeats 40000000 in
theorem own_rm2 (l : Launch) (Z : State) (a0 : Array Value) (hw : ∀ d ∈ tables_1, d.before a0 Z = true) (ws : List Jvm.Cond) (q0 : Int64) (q1 : Int64) (h0 : Heap) (n0 : Nat) (Z0 : n0 ≤ h0.size) (hnz : ¬ (q1 = (0 : Int64))) :
    MetFree l (⟨"com/example/lid_on_load/lidonload/limit/Limiters", "windowEnd", "(JJ)J"⟩ : MethodName) (head1 (Jvm.Cond.code (⟨"com/example/lid_on_load/lidonload/limit/Limiters", "windowEnd", "(JJ)J"⟩ : MethodName) prog_13_method_5_code 4 (some .long) :: ws) ({ frames := 0, cells := 0, slots := 0, locals := 0 } : Room)) (fun a U => a = #[(.long q0), (.long q1)] ∧ Z.Warmed39 U.vm ∧ U.heap = h0) (fun _ _ _ _ _ => True) (fun _ U o U' => ∃ v L, o = .returned v ∧ own_Q2 Z q0 q1 h0 n0 v U'.heap L ∧ FrameEnd U o U' L ({ frames := 0, cells := 0, slots := 0, locals := 0 } : Room).cells ({ frames := 0, cells := 0, slots := 0, locals := 0 } : Room).slots) := by
  refine MetFree.of_bodySF (plainFor_of_name own_pn0) hisR ?_
  intro p e s m args below meth c s₁ Bd hml0 hP hK
  obtain ⟨rfl, hZ, hh⟩ := hP
  have hx := Bd.exec
  have hby := Bd.bytes
  have hml : c.maxLocals = 4 := hml0
  have hown : s.vm.findClass "com/example/lid_on_load/lidonload/limit/Limiters" = some m.cls := findClass_of_methodNamed Bd.named
  have hnm := (name_of_methodNamed Bd.named Bd.method).1
  have X0 : Stand p l e ({ frames := 0, cells := 0, slots := 0, locals := 0 } : Room) s m #[(.long q0), (.long q1)] below meth c s₁ [] 0 0 := Stand.of_body Bd
  have e0 : s₁.heap = h0 := by rw [← hh, Bd.state]; rfl
  have N0 := Fr.nil n0
  refine own_go (fun t k => castTop (own_ef2 m q0 q1) k) ?_
  refine own_go (T' := s₁) (f' := (mkF m 7 #[.val (.long q0), .second, .val (.long q1), .second] [(.int (lcmpW q0 ((9223372036854775807 : Int64) / q1)))])) (fun t k => ?_) ?_
  · show Steps p.tables e below (s₁.setTop (mkF m 0 #[.val (.long q0), .second, .val (.long q1), .second] [])) _
    refine XS.lloadN X0.here hx rfl (hb hby own_d2_0) rfl ?_
    show Steps p.tables e below (s₁.setTop (mkF m 1 #[.val (.long q0), .second, .val (.long q1), .second] [(.long q0)])) _
    refine X0.ldc2Long hx hown (mvT hZ (hw _ (List.mem_of_getElem? (i := 10) rfl))) (g := (mkF m 1 #[.val (.long q0), .second, .val (.long q1), .second] [(.long q0)])) rfl (hb hby own_d2_1) _ ?_
    show Steps p.tables e below (s₁.setTop (mkF m 4 #[.val (.long q0), .second, .val (.long q1), .second] [(.long (9223372036854775807 : Int64)), (.long q0)])) _
    refine XS.lloadN X0.here hx rfl (hb hby own_d2_4) rfl ?_
    show Steps p.tables e below (s₁.setTop (mkF m 5 #[.val (.long q0), .second, .val (.long q1), .second] [(.long q1), (.long (9223372036854775807 : Int64)), (.long q0)])) _
    refine XS.ldiv X0.here hx rfl (hb hby own_d2_5) rfl hnz ?_
    show Steps p.tables e below (s₁.setTop (mkF m 6 #[.val (.long q0), .second, .val (.long q1), .second] [(.long ((9223372036854775807 : Int64) / q1)), (.long q0)])) _
    refine XS.lcmp X0.here hx rfl (hb hby own_d2_6) rfl ?_
    show Steps p.tables e below (s₁.setTop (mkF m 7 #[.val (.long q0), .second, .val (.long q1), .second] [(.int (lcmpW q0 ((9223372036854775807 : Int64) / q1)))])) _
    exact k
  by_cases hc7_1 : q0 < ((9223372036854775807 : Int64) / q1)
  · skip
    refine own_go (T' := s₁) (f' := (mkF m 21 #[.val (.long q0), .second, .val (.long q1), .second] [(.long ((q0 + (1 : Int64)) * q1))])) (fun t k => ?_) ?_
    · show Steps p.tables e below (s₁.setTop (mkF m 7 #[.val (.long q0), .second, .val (.long q1), .second] [(.int (lcmpW q0 ((9223372036854775807 : Int64) / q1)))])) _
      refine XS.ifYes X0.here hx rfl (pc0 := 7) (pc' := 16) rfl (hb hby own_d2_7) rfl ((if0 _ _).trans (tlt ((lw_lt q0 ((9223372036854775807 : Int64) / q1)).mpr hc7_1)).1) (by decide) (by decide) ?_
      show Steps p.tables e below (s₁.setTop (mkF m 16 #[.val (.long q0), .second, .val (.long q1), .second] [])) _
      refine XS.lloadN X0.here hx rfl (hb hby own_d2_16) rfl ?_
      show Steps p.tables e below (s₁.setTop (mkF m 17 #[.val (.long q0), .second, .val (.long q1), .second] [(.long q0)])) _
      refine XS.lconst X0.here hx rfl (hb hby own_d2_17) ?_
      show Steps p.tables e below (s₁.setTop (mkF m 18 #[.val (.long q0), .second, .val (.long q1), .second] [(.long (1 : Int64)), (.long q0)])) _
      refine XS.ladd X0.here hx rfl (hb hby own_d2_18) rfl ?_
      show Steps p.tables e below (s₁.setTop (mkF m 19 #[.val (.long q0), .second, .val (.long q1), .second] [(.long (q0 + (1 : Int64)))])) _
      refine XS.lloadN X0.here hx rfl (hb hby own_d2_19) rfl ?_
      show Steps p.tables e below (s₁.setTop (mkF m 20 #[.val (.long q0), .second, .val (.long q1), .second] [(.long q1), (.long (q0 + (1 : Int64)))])) _
      refine XS.lmul X0.here hx rfl (hb hby own_d2_20) rfl ?_
      show Steps p.tables e below (s₁.setTop (mkF m 21 #[.val (.long q0), .second, .val (.long q1), .second] [(.long ((q0 + (1 : Int64)) * q1))])) _
      exact k
    obtain ⟨fs, hr, hrun, hended, hW, hsame⟩ := X0.leave (v := some (.long ((q0 + (1 : Int64)) * q1))) (fun h => by rw [Bd.returns] at h; cases h)
    refine ⟨_, _, ?_, hrun, hended, _, _, rfl, ?_, ⟨_, rfl⟩, hW, hsame.mono (by decide) (by decide)⟩
    · exact X0.lreturnOut hx Bd.returns (hb hby own_d2_21) hr
    · show own_Q2 Z q0 q1 h0 n0 _ s₁.heap _
      rw [e0]
      exact ⟨(by rw [own_F2, if_pos hc7_1]), N0, rfl⟩
  · skip
    refine own_go (T' := s₁) (f' := (mkF m 21 #[.val (.long q0), .second, .val (.long q1), .second] [(.long (9223372036854775807 : Int64))])) (fun t k => ?_) ?_
    · show Steps p.tables e below (s₁.setTop (mkF m 7 #[.val (.long q0), .second, .val (.long q1), .second] [(.int (lcmpW q0 ((9223372036854775807 : Int64) / q1)))])) _
      refine XS.ifNo X0.here hx rfl (hb hby own_d2_7) rfl ((if0 _ _).trans (flt (fun q => hc7_1 ((lw_lt q0 ((9223372036854775807 : Int64) / q1)).mp q))).1) ?_
      show Steps p.tables e below (s₁.setTop (mkF m 10 #[.val (.long q0), .second, .val (.long q1), .second] [])) _
      refine X0.ldc2Long hx hown (mvT hZ (hw _ (List.mem_of_getElem? (i := 10) rfl))) (g := (mkF m 10 #[.val (.long q0), .second, .val (.long q1), .second] [])) rfl (hb hby own_d2_10) _ ?_
      show Steps p.tables e below (s₁.setTop (mkF m 13 #[.val (.long q0), .second, .val (.long q1), .second] [(.long (9223372036854775807 : Int64))])) _
      refine XS.goto X0.here hx rfl (pc0 := 13) (pc' := 21) rfl (hb hby own_d2_13) (by decide) (by decide) ?_
      show Steps p.tables e below (s₁.setTop (mkF m 21 #[.val (.long q0), .second, .val (.long q1), .second] [(.long (9223372036854775807 : Int64))])) _
      exact k
    obtain ⟨fs, hr, hrun, hended, hW, hsame⟩ := X0.leave (v := some (.long (9223372036854775807 : Int64))) (fun h => by rw [Bd.returns] at h; cases h)
    refine ⟨_, _, ?_, hrun, hended, _, _, rfl, ?_, ⟨_, rfl⟩, hW, hsame.mono (by decide) (by decide)⟩
    · exact X0.lreturnOut hx Bd.returns (hb hby own_d2_21) hr
    · show own_Q2 Z q0 q1 h0 n0 _ s₁.heap _
      rw [e0]
      exact ⟨(by rw [own_F2, if_neg hc7_1]), N0, rfl⟩
theorem own_d3_0 : decode method_3_code 0 = .ok (.lload_n 0, 1) := by decide +kernel
theorem own_d3_1 : decode method_3_code 1 = .ok (.ldc2_w 9, 3) := by decide +kernel
theorem own_d3_4 : decode method_3_code 4 = .ok (.lcmp, 1) := by decide +kernel
theorem own_d3_5 : decode method_3_code 5 = .ok (.ifCond .ne 7, 3) := by decide +kernel
theorem own_d3_8 : decode method_3_code 8 = .ok (.ldc2_w 9, 3) := by decide +kernel
theorem own_d3_11 : decode method_3_code 11 = .ok (.lreturn, 1) := by decide +kernel
theorem own_d3_12 : decode method_3_code 12 = .ok (.lload_n 0, 1) := by decide +kernel
theorem own_d3_13 : decode method_3_code 13 = .ok (.lconst 1, 1) := by decide +kernel
theorem own_d3_14 : decode method_3_code 14 = .ok (.ladd, 1) := by decide +kernel
theorem own_d3_15 : decode method_3_code 15 = .ok (.lstore 4, 2) := by decide +kernel
theorem own_d3_17 : decode method_3_code 17 = .ok (.lload 4, 2) := by decide +kernel
theorem own_d3_19 : decode method_3_code 19 = .ok (.lload_n 2, 1) := by decide +kernel
theorem own_d3_20 : decode method_3_code 20 = .ok (.lmul, 1) := by decide +kernel
theorem own_d3_21 : decode method_3_code 21 = .ok (.lstore 6, 2) := by decide +kernel
theorem own_d3_23 : decode method_3_code 23 = .ok (.lload 6, 2) := by decide +kernel
theorem own_d3_25 : decode method_3_code 25 = .ok (.lload_n 2, 1) := by decide +kernel
theorem own_d3_26 : decode method_3_code 26 = .ok (.ldiv, 1) := by decide +kernel
theorem own_d3_27 : decode method_3_code 27 = .ok (.lload 4, 2) := by decide +kernel
theorem own_d3_29 : decode method_3_code 29 = .ok (.lcmp, 1) := by decide +kernel
theorem own_d3_30 : decode method_3_code 30 = .ok (.ifCond .ne 6, 3) := by decide +kernel
theorem own_d3_33 : decode method_3_code 33 = .ok (.lload 6, 2) := by decide +kernel
theorem own_d3_35 : decode method_3_code 35 = .ok (.lreturn, 1) := by decide +kernel
theorem own_d3_36 : decode method_3_code 36 = .ok (.ldc2_w 9, 3) := by decide +kernel
theorem own_d3_39 : decode method_3_code 39 = .ok (.lreturn, 1) := by decide +kernel
theorem own_pn1 : plainName "com/example/lid_on_load/lidonload/limit/LimitersWindowEndPinLaw" = true := by first | (simp [plainName, overriddenIn]; done) | decide +kernel
theorem own_ef3 (m : MethodId) (q0 : Int64) (q1 : Int64) : entryFrame m #[(.long q0), (.long q1)] 8 = mkF m 0 #[.val (.long q0), .second, .val (.long q1), .second, .unset, .unset, .unset, .unset] [] := by first | (simp [entryFrame, mkF, argsToLocals, Value.category]; done) | rfl
def own_F3 (q0 : Int64) (q1 : Int64) : Int64 := (if q0 = (9223372036854775807 : Int64) then (9223372036854775807 : Int64) else (if (((q0 + (1 : Int64)) * q1) / q1) = (q0 + (1 : Int64)) then ((q0 + (1 : Int64)) * q1) else (9223372036854775807 : Int64)))
def own_Q3 (Z : State) (q0 : Int64) (q1 : Int64) (h0 : Heap) (n0 : Nat) (v : Option Value) (h : Heap) (L : List Loc) : Prop := (v = some (.long (own_F3 q0 q1))) ∧ (Fr n0 L) ∧ (h = h0)
set_option maxRecDepth 65536 in
set_option maxHeartbeats 40000000 in
theorem own_rm3 (l : Launch) (Z : State) (a0 : Array Value) (hw : ∀ d ∈ tables_1, d.before a0 Z = true) (ws : List Jvm.Cond) (q0 : Int64) (q1 : Int64) (h0 : Heap) (n0 : Nat) (Z0 : n0 ≤ h0.size) (hnz : ¬ (q1 = (0 : Int64))) :
    MetFree l (⟨"com/example/lid_on_load/lidonload/limit/LimitersWindowEndPinLaw", "expected", "(JJ)J"⟩ : MethodName) (head1 (Jvm.Cond.code (⟨"com/example/lid_on_load/lidonload/limit/LimitersWindowEndPinLaw", "expected", "(JJ)J"⟩ : MethodName) method_3_code 8 (some .long) :: ws) ({ frames := 0, cells := 0, slots := 0, locals := 0 } : Room)) (fun a U => a = #[(.long q0), (.long q1)] ∧ Z.Warmed39 U.vm ∧ U.heap = h0) (fun _ _ _ _ _ => True) (fun _ U o U' => ∃ v L, o = .returned v ∧ own_Q3 Z q0 q1 h0 n0 v U'.heap L ∧ FrameEnd U o U' L ({ frames := 0, cells := 0, slots := 0, locals := 0 } : Room).cells ({ frames := 0, cells := 0, slots := 0, locals := 0 } : Room).slots) := by
  refine MetFree.of_bodySF (plainFor_of_name own_pn1) hisR ?_
  intro p e s m args below meth c s₁ Bd hml0 hP hK
  obtain ⟨rfl, hZ, hh⟩ := hP
  have hx := Bd.exec
  have hby := Bd.bytes
  have hml : c.maxLocals = 8 := hml0
  have hown : s.vm.findClass "com/example/lid_on_load/lidonload/limit/LimitersWindowEndPinLaw" = some m.cls := findClass_of_methodNamed Bd.named
  have hnm := (name_of_methodNamed Bd.named Bd.method).1
  have X0 : Stand p l e ({ frames := 0, cells := 0, slots := 0, locals := 0 } : Room) s m #[(.long q0), (.long q1)] below meth c s₁ [] 0 0 := Stand.of_body Bd
  have e0 : s₁.heap = h0 := by rw [← hh, Bd.state]; rfl
  have N0 := Fr.nil n0
  refine own_go (fun t k => castTop (own_ef3 m q0 q1) k) ?_
  refine own_go (T' := s₁) (f' := (mkF m 5 #[.val (.long q0), .second, .val (.long q1), .second, .unset, .unset, .unset, .unset] [(.int (lcmpW q0 (9223372036854775807 : Int64)))])) (fun t k => ?_) ?_
  · show Steps p.tables e below (s₁.setTop (mkF m 0 #[.val (.long q0), .second, .val (.long q1), .second, .unset, .unset, .unset, .unset] [])) _
    refine XS.lloadN X0.here hx rfl (hb hby own_d3_0) rfl ?_
    show Steps p.tables e below (s₁.setTop (mkF m 1 #[.val (.long q0), .second, .val (.long q1), .second, .unset, .unset, .unset, .unset] [(.long q0)])) _
    refine X0.ldc2Long hx hown (mvT hZ (hw _ (List.mem_of_getElem? (i := 0) rfl))) (g := (mkF m 1 #[.val (.long q0), .second, .val (.long q1), .second, .unset, .unset, .unset, .unset] [(.long q0)])) rfl (hb hby own_d3_1) _ ?_
    show Steps p.tables e below (s₁.setTop (mkF m 4 #[.val (.long q0), .second, .val (.long q1), .second, .unset, .unset, .unset, .unset] [(.long (9223372036854775807 : Int64)), (.long q0)])) _
    refine XS.lcmp X0.here hx rfl (hb hby own_d3_4) rfl ?_
    show Steps p.tables e below (s₁.setTop (mkF m 5 #[.val (.long q0), .second, .val (.long q1), .second, .unset, .unset, .unset, .unset] [(.int (lcmpW q0 (9223372036854775807 : Int64)))])) _
    exact k
  by_cases hc5_1 : q0 = (9223372036854775807 : Int64)
  · skip
    refine own_go (T' := s₁) (f' := (mkF m 11 #[.val (.long q0), .second, .val (.long q1), .second, .unset, .unset, .unset, .unset] [(.long (9223372036854775807 : Int64))])) (fun t k => ?_) ?_
    · show Steps p.tables e below (s₁.setTop (mkF m 5 #[.val (.long q0), .second, .val (.long q1), .second, .unset, .unset, .unset, .unset] [(.int (lcmpW q0 (9223372036854775807 : Int64)))])) _
      refine XS.ifNo X0.here hx rfl (hb hby own_d3_5) rfl ((if0 _ _).trans (teq ((lw_eq q0 (9223372036854775807 : Int64)).mpr hc5_1)).2) ?_
      show Steps p.tables e below (s₁.setTop (mkF m 8 #[.val (.long q0), .second, .val (.long q1), .second, .unset, .unset, .unset, .unset] [])) _
      refine X0.ldc2Long hx hown (mvT hZ (hw _ (List.mem_of_getElem? (i := 0) rfl))) (g := (mkF m 8 #[.val (.long q0), .second, .val (.long q1), .second, .unset, .unset, .unset, .unset] [])) rfl (hb hby own_d3_8) _ ?_
      show Steps p.tables e below (s₁.setTop (mkF m 11 #[.val (.long q0), .second, .val (.long q1), .second, .unset, .unset, .unset, .unset] [(.long (9223372036854775807 : Int64))])) _
      exact k
    obtain ⟨fs, hr, hrun, hended, hW, hsame⟩ := X0.leave (v := some (.long (9223372036854775807 : Int64))) (fun h => by rw [Bd.returns] at h; cases h)
    refine ⟨_, _, ?_, hrun, hended, _, _, rfl, ?_, ⟨_, rfl⟩, hW, hsame.mono (by decide) (by decide)⟩
    · exact X0.lreturnOut hx Bd.returns (hb hby own_d3_11) hr
    · show own_Q3 Z q0 q1 h0 n0 _ s₁.heap _
      rw [e0]
      exact ⟨(by rw [own_F3, if_pos hc5_1]), N0, rfl⟩
  · skip
    refine own_go (T' := s₁) (f' := (mkF m 30 #[.val (.long q0), .second, .val (.long q1), .second, .val (.long (q0 + (1 : Int64))), .second, .val (.long ((q0 + (1 : Int64)) * q1)), .second] [(.int (lcmpW (((q0 + (1 : Int64)) * q1) / q1) (q0 + (1 : Int64))))])) (fun t k => ?_) ?_
    · show Steps p.tables e below (s₁.setTop (mkF m 5 #[.val (.long q0), .second, .val (.long q1), .second, .unset, .unset, .unset, .unset] [(.int (lcmpW q0 (9223372036854775807 : Int64)))])) _
      refine XS.ifYes X0.here hx rfl (pc0 := 5) (pc' := 12) rfl (hb hby own_d3_5) rfl ((if0 _ _).trans (feq (fun q => hc5_1 ((lw_eq q0 (9223372036854775807 : Int64)).mp q))).2) (by decide) (by decide) ?_
      show Steps p.tables e below (s₁.setTop (mkF m 12 #[.val (.long q0), .second, .val (.long q1), .second, .unset, .unset, .unset, .unset] [])) _
      refine XS.lloadN X0.here hx rfl (hb hby own_d3_12) rfl ?_
      show Steps p.tables e below (s₁.setTop (mkF m 13 #[.val (.long q0), .second, .val (.long q1), .second, .unset, .unset, .unset, .unset] [(.long q0)])) _
      refine XS.lconst X0.here hx rfl (hb hby own_d3_13) ?_
      show Steps p.tables e below (s₁.setTop (mkF m 14 #[.val (.long q0), .second, .val (.long q1), .second, .unset, .unset, .unset, .unset] [(.long (1 : Int64)), (.long q0)])) _
      refine XS.ladd X0.here hx rfl (hb hby own_d3_14) rfl ?_
      show Steps p.tables e below (s₁.setTop (mkF m 15 #[.val (.long q0), .second, .val (.long q1), .second, .unset, .unset, .unset, .unset] [(.long (q0 + (1 : Int64)))])) _
      refine XS.lstore X0.here hx rfl (hb hby own_d3_15) rfl (l' := #[.val (.long q0), .second, .val (.long q1), .second, .val (.long (q0 + (1 : Int64))), .second, .unset, .unset]) rfl ?_
      show Steps p.tables e below (s₁.setTop (mkF m 17 #[.val (.long q0), .second, .val (.long q1), .second, .val (.long (q0 + (1 : Int64))), .second, .unset, .unset] [])) _
      refine XS.lload X0.here hx rfl (hb hby own_d3_17) rfl ?_
      show Steps p.tables e below (s₁.setTop (mkF m 19 #[.val (.long q0), .second, .val (.long q1), .second, .val (.long (q0 + (1 : Int64))), .second, .unset, .unset] [(.long (q0 + (1 : Int64)))])) _
      refine XS.lloadN X0.here hx rfl (hb hby own_d3_19) rfl ?_
      show Steps p.tables e below (s₁.setTop (mkF m 20 #[.val (.long q0), .second, .val (.long q1), .second, .val (.long (q0 + (1 : Int64))), .second, .unset, .unset] [(.long q1), (.long (q0 + (1 : Int64)))])) _
      refine XS.lmul X0.here hx rfl (hb hby own_d3_20) rfl ?_
      show Steps p.tables e below (s₁.setTop (mkF m 21 #[.val (.long q0), .second, .val (.long q1), .second, .val (.long (q0 + (1 : Int64))), .second, .unset, .unset] [(.long ((q0 + (1 : Int64)) * q1))])) _
      refine XS.lstore X0.here hx rfl (hb hby own_d3_21) rfl (l' := #[.val (.long q0), .second, .val (.long q1), .second, .val (.long (q0 + (1 : Int64))), .second, .val (.long ((q0 + (1 : Int64)) * q1)), .second]) rfl ?_
      show Steps p.tables e below (s₁.setTop (mkF m 23 #[.val (.long q0), .second, .val (.long q1), .second, .val (.long (q0 + (1 : Int64))), .second, .val (.long ((q0 + (1 : Int64)) * q1)), .second] [])) _
      refine XS.lload X0.here hx rfl (hb hby own_d3_23) rfl ?_
      show Steps p.tables e below (s₁.setTop (mkF m 25 #[.val (.long q0), .second, .val (.long q1), .second, .val (.long (q0 + (1 : Int64))), .second, .val (.long ((q0 + (1 : Int64)) * q1)), .second] [(.long ((q0 + (1 : Int64)) * q1))])) _
      refine XS.lloadN X0.here hx rfl (hb hby own_d3_25) rfl ?_
      show Steps p.tables e below (s₁.setTop (mkF m 26 #[.val (.long q0), .second, .val (.long q1), .second, .val (.long (q0 + (1 : Int64))), .second, .val (.long ((q0 + (1 : Int64)) * q1)), .second] [(.long q1), (.long ((q0 + (1 : Int64)) * q1))])) _
      refine XS.ldiv X0.here hx rfl (hb hby own_d3_26) rfl hnz ?_
      show Steps p.tables e below (s₁.setTop (mkF m 27 #[.val (.long q0), .second, .val (.long q1), .second, .val (.long (q0 + (1 : Int64))), .second, .val (.long ((q0 + (1 : Int64)) * q1)), .second] [(.long (((q0 + (1 : Int64)) * q1) / q1))])) _
      refine XS.lload X0.here hx rfl (hb hby own_d3_27) rfl ?_
      show Steps p.tables e below (s₁.setTop (mkF m 29 #[.val (.long q0), .second, .val (.long q1), .second, .val (.long (q0 + (1 : Int64))), .second, .val (.long ((q0 + (1 : Int64)) * q1)), .second] [(.long (q0 + (1 : Int64))), (.long (((q0 + (1 : Int64)) * q1) / q1))])) _
      refine XS.lcmp X0.here hx rfl (hb hby own_d3_29) rfl ?_
      show Steps p.tables e below (s₁.setTop (mkF m 30 #[.val (.long q0), .second, .val (.long q1), .second, .val (.long (q0 + (1 : Int64))), .second, .val (.long ((q0 + (1 : Int64)) * q1)), .second] [(.int (lcmpW (((q0 + (1 : Int64)) * q1) / q1) (q0 + (1 : Int64))))])) _
      exact k
    by_cases hc30_2 : (((q0 + (1 : Int64)) * q1) / q1) = (q0 + (1 : Int64))
    · skip
      refine own_go (T' := s₁) (f' := (mkF m 35 #[.val (.long q0), .second, .val (.long q1), .second, .val (.long (q0 + (1 : Int64))), .second, .val (.long ((q0 + (1 : Int64)) * q1)), .second] [(.long ((q0 + (1 : Int64)) * q1))])) (fun t k => ?_) ?_
      · show Steps p.tables e below (s₁.setTop (mkF m 30 #[.val (.long q0), .second, .val (.long q1), .second, .val (.long (q0 + (1 : Int64))), .second, .val (.long ((q0 + (1 : Int64)) * q1)), .second] [(.int (lcmpW (((q0 + (1 : Int64)) * q1) / q1) (q0 + (1 : Int64))))])) _
        refine XS.ifNo X0.here hx rfl (hb hby own_d3_30) rfl ((if0 _ _).trans (teq ((lw_eq (((q0 + (1 : Int64)) * q1) / q1) (q0 + (1 : Int64))).mpr hc30_2)).2) ?_
        show Steps p.tables e below (s₁.setTop (mkF m 33 #[.val (.long q0), .second, .val (.long q1), .second, .val (.long (q0 + (1 : Int64))), .second, .val (.long ((q0 + (1 : Int64)) * q1)), .second] [])) _
        refine XS.lload X0.here hx rfl (hb hby own_d3_33) rfl ?_
        show Steps p.tables e below (s₁.setTop (mkF m 35 #[.val (.long q0), .second, .val (.long q1), .second, .val (.long (q0 + (1 : Int64))), .second, .val (.long ((q0 + (1 : Int64)) * q1)), .second] [(.long ((q0 + (1 : Int64)) * q1))])) _
        exact k
      obtain ⟨fs, hr, hrun, hended, hW, hsame⟩ := X0.leave (v := some (.long ((q0 + (1 : Int64)) * q1))) (fun h => by rw [Bd.returns] at h; cases h)
      refine ⟨_, _, ?_, hrun, hended, _, _, rfl, ?_, ⟨_, rfl⟩, hW, hsame.mono (by decide) (by decide)⟩
      · exact X0.lreturnOut hx Bd.returns (hb hby own_d3_35) hr
      · show own_Q3 Z q0 q1 h0 n0 _ s₁.heap _
        rw [e0]
        exact ⟨(by rw [own_F3, if_neg hc5_1, if_pos hc30_2]), N0, rfl⟩
    · skip
      refine own_go (T' := s₁) (f' := (mkF m 39 #[.val (.long q0), .second, .val (.long q1), .second, .val (.long (q0 + (1 : Int64))), .second, .val (.long ((q0 + (1 : Int64)) * q1)), .second] [(.long (9223372036854775807 : Int64))])) (fun t k => ?_) ?_
      · show Steps p.tables e below (s₁.setTop (mkF m 30 #[.val (.long q0), .second, .val (.long q1), .second, .val (.long (q0 + (1 : Int64))), .second, .val (.long ((q0 + (1 : Int64)) * q1)), .second] [(.int (lcmpW (((q0 + (1 : Int64)) * q1) / q1) (q0 + (1 : Int64))))])) _
        refine XS.ifYes X0.here hx rfl (pc0 := 30) (pc' := 36) rfl (hb hby own_d3_30) rfl ((if0 _ _).trans (feq (fun q => hc30_2 ((lw_eq (((q0 + (1 : Int64)) * q1) / q1) (q0 + (1 : Int64))).mp q))).2) (by decide) (by decide) ?_
        show Steps p.tables e below (s₁.setTop (mkF m 36 #[.val (.long q0), .second, .val (.long q1), .second, .val (.long (q0 + (1 : Int64))), .second, .val (.long ((q0 + (1 : Int64)) * q1)), .second] [])) _
        refine X0.ldc2Long hx hown (mvT hZ (hw _ (List.mem_of_getElem? (i := 0) rfl))) (g := (mkF m 36 #[.val (.long q0), .second, .val (.long q1), .second, .val (.long (q0 + (1 : Int64))), .second, .val (.long ((q0 + (1 : Int64)) * q1)), .second] [])) rfl (hb hby own_d3_36) _ ?_
        show Steps p.tables e below (s₁.setTop (mkF m 39 #[.val (.long q0), .second, .val (.long q1), .second, .val (.long (q0 + (1 : Int64))), .second, .val (.long ((q0 + (1 : Int64)) * q1)), .second] [(.long (9223372036854775807 : Int64))])) _
        exact k
      obtain ⟨fs, hr, hrun, hended, hW, hsame⟩ := X0.leave (v := some (.long (9223372036854775807 : Int64))) (fun h => by rw [Bd.returns] at h; cases h)
      refine ⟨_, _, ?_, hrun, hended, _, _, rfl, ?_, ⟨_, rfl⟩, hW, hsame.mono (by decide) (by decide)⟩
      · exact X0.lreturnOut hx Bd.returns (hb hby own_d3_39) hr
      · show own_Q3 Z q0 q1 h0 n0 _ s₁.heap _
        rw [e0]
        exact ⟨(by rw [own_F3, if_neg hc5_1, if_neg hc30_2]), N0, rfl⟩
theorem own_wpos (q : Int64) : 1 ≤ (own_F1 (1 : Int64) q).toInt := by
  have e1 : (1 : Int64).toInt = 1 := rfl
  unfold own_F1
  by_cases h : (1 : Int64) < q
  · rw [if_pos h]; rw [Int64.lt_iff_toInt_lt] at h; omega
  · rw [if_neg h]; omega
theorem own_wne (q : Int64) : ¬ (own_F1 (1 : Int64) q = (0 : Int64)) := fun h => by
  have := own_wpos q; rw [h] at this; exact absurd this (by decide)
theorem own_pd0 : parseMethodDescriptor "(JJ)J" = some ⟨[.long, .long], some .long⟩ := by decide +kernel
theorem own_ef0 (m : MethodId) (q0 : Int64) (q1 : Int64) (p2 : Int32) (p3 : Int32) : entryFrame m #[(.long q0), (.long q1), (.int p2), (.int p3)] maxLocals = mkF m 0 #[.val (.long q0), .second, .val (.long q1), .second, .val (.int p2), .val (.int p3), .unset, .unset, .unset, .unset, .unset, .unset, .unset, .unset] [] := by first | (simp [entryFrame, mkF, argsToLocals, Value.category, maxLocals]; done) | rfl
def own_W (q0 : Int64) (q1 : Int64) (p2 : Int32) (p3 : Int32) : Int64 := (own_F1 (1 : Int64) (own_shrL (q1 &&& (9223372036854775807 : Int64)) (p2 &&& (63 : Int32))))
def own_I (q0 : Int64) (q1 : Int64) (p2 : Int32) (p3 : Int32) : Int64 := (if (p3 &&& (1 : Int32)) = (0 : Int32) then q0 else (if (0 : Int64) < ((((p3 >>> ((1 : Int32) &&& 31)) &&& (7 : Int32)).toInt64) - (4 : Int64)) then (if ((9223372036854775807 : Int64) - ((((p3 >>> ((1 : Int32) &&& 31)) &&& (7 : Int32)).toInt64) - (4 : Int64))) < ((9223372036854775807 : Int64) / (own_W q0 q1 p2 p3)) then (9223372036854775807 : Int64) else (((9223372036854775807 : Int64) / (own_W q0 q1 p2 p3)) + ((((p3 >>> ((1 : Int32) &&& 31)) &&& (7 : Int32)).toInt64) - (4 : Int64)))) else (((9223372036854775807 : Int64) / (own_W q0 q1 p2 p3)) + ((((p3 >>> ((1 : Int32) &&& 31)) &&& (7 : Int32)).toInt64) - (4 : Int64)))))
def own_J (q0 : Int64) (q1 : Int64) (p2 : Int32) (p3 : Int32) : Int64 := (if (own_I q0 q1 p2 p3) < (0 : Int64) then (if ((own_I q0 q1 p2 p3) + (1 : Int64)) < ((-9223372036854775808 : Int64) / (own_W q0 q1 p2 p3)) then ((own_I q0 q1 p2 p3) / (own_W q0 q1 p2 p3)) else (own_I q0 q1 p2 p3)) else (own_I q0 q1 p2 p3))
def own_F0 (q0 : Int64) (q1 : Int64) (p2 : Int32) (p3 : Int32) : Int32 := (if (own_F2 (own_J q0 q1 p2 p3) (own_W q0 q1 p2 p3)) = (own_F3 (own_J q0 q1 p2 p3) (own_W q0 q1 p2 p3)) then (1 : Int32) else (0 : Int32))
theorem own_dmax (w : Int64) (hw : 1 ≤ w.toInt) : ((9223372036854775807 : Int64) / w).toInt = 9223372036854775807 / w.toInt := by
  refine (c_ldiv 9223372036854775807 w _ rfl ?_).1 (by decide)
  rintro rfl; exact absurd hw (by decide)
theorem own_dmin (w : Int64) (hw : 1 ≤ w.toInt) : ((-9223372036854775808 : Int64) / w).toInt = -(9223372036854775808 / w.toInt) := by
  refine (c_ldiv (-9223372036854775808) w _ rfl ?_).2 (by decide)
  rintro rfl; exact absurd hw (by decide)
theorem own_core (i w : Int64) (hw : 1 ≤ w.toInt) (hlow : ¬ (i + 1 < (-9223372036854775808 : Int64) / w ∧ i < 0)) : own_F2 i w = own_F3 i w := by
  have dM := own_dmax w hw; have dm := own_dmin w hw
  have e1 : (1 : Int64).toInt = 1 := rfl
  have e0 : (0 : Int64).toInt = 0 := rfl
  have eM : (9223372036854775807 : Int64).toInt = 9223372036854775807 := rfl
  have ri := rng64 i; have rw' := rng64 w; have a1 := c_ladd i 1; have r1 := rng64 (i + 1)
  rw [e1] at a1
  simp only [Int64.lt_iff_toInt_lt, e0] at hlow
  have d1 := Int.mul_ediv_add_emod 9223372036854775807 w.toInt
  have d2 := Int.emod_nonneg 9223372036854775807 (show w.toInt ≠ 0 by omega)
  have d3 := Int.emod_lt_of_pos 9223372036854775807 (show 0 < w.toInt by omega)
  have d4 := Int.mul_ediv_add_emod 9223372036854775808 w.toInt
  have d5 := Int.emod_nonneg 9223372036854775808 (show w.toInt ≠ 0 by omega)
  unfold own_F2 own_F3
  by_cases h : i < (9223372036854775807 : Int64) / w
  · have h' := h
    rw [Int64.lt_iff_toInt_lt, dM] at h'
    have hQ : 9223372036854775807 / w.toInt ≤ 9223372036854775807 := Int.ediv_le_self _ (by decide)
    have s1 : (i + 1).toInt = i.toInt + 1 := by omega
    have up : (i.toInt + 1) * w.toInt ≤ (9223372036854775807 / w.toInt) * w.toInt := Int.mul_le_mul_of_nonneg_right (by omega) (by omega)
    have lo : -(9223372036854775808 / w.toInt) * w.toInt ≤ (i.toInt + 1) * w.toInt := by
      refine Int.mul_le_mul_of_nonneg_right ?_ (by omega)
      have : 0 ≤ 9223372036854775808 / w.toInt := Int.ediv_nonneg (by decide) (by omega)
      by_cases q : i.toInt < 0
      · rw [dm] at hlow; omega
      · omega
    rw [Int.neg_mul] at lo
    rw [Int.mul_comm w.toInt] at d1 d4
    have fit : Jvm.Free.XT.fits64 ((i + 1).toInt * w.toInt) := by rw [s1]; exact ⟨by omega, by omega⟩
    have md : ((i + 1) * w) / w = i + 1 := Jvm.Free.XT.mulDiv64 fit (fun q => by rw [q] at hw; exact absurd hw (by decide))
    have ne : ¬ i = (9223372036854775807 : Int64) := fun q => by rw [q, eM] at h'; omega
    rw [if_pos h, if_neg ne, if_pos md]
  · rw [if_neg h]
    by_cases ne : i = (9223372036854775807 : Int64)
    · rw [if_pos ne]
    · rw [if_neg ne]
      rw [Int64.lt_iff_toInt_lt, dM] at h
      have hQ : 0 ≤ 9223372036854775807 / w.toInt := Int.ediv_nonneg (by decide) (by omega)
      have ni : i.toInt ≠ 9223372036854775807 := fun q => ne (Int64.toInt_inj.mp (by rw [q, eM]))
      have s1 : (i + 1).toInt = i.toInt + 1 := by omega
      have n2 : ¬ ((i + 1) * w) / w = i + 1 := fun q => by
        have rp := rng64 ((i + 1) * w)
        have q' := congrArg Int64.toInt q
        obtain ⟨p1, p2⟩ := c_ldiv ((i + 1) * w) w _ rfl (by rintro rfl; exact absurd hw (by decide))
        have up : (9223372036854775807 / w.toInt + 1) * w.toInt ≤ (i.toInt + 1) * w.toInt := Int.mul_le_mul_of_nonneg_right (by omega) (by omega)
        rw [Int.add_mul, Int.mul_comm _ w.toInt, Int.one_mul] at up
        by_cases s : 0 ≤ ((i + 1) * w).toInt
        · have p := p1 s
          rw [q', s1] at p
          have z := Int.ediv_mul_le ((i + 1) * w).toInt (show w.toInt ≠ 0 by omega)
          rw [← p] at z
          omega
        · have p := p2 (by omega)
          rw [q', s1] at p
          have : 0 ≤ -((i + 1) * w).toInt / w.toInt := Int.ediv_nonneg (by omega) (by omega)
          omega
      rw [if_neg n2]
theorem own_core2 (i w : Int64) (hw : 1 ≤ w.toInt) (h : i < 0) : own_F2 (i / w) w = own_F3 (i / w) w := by
  refine own_core _ w hw ?_
  rintro ⟨q, -⟩
  have dm := own_dmin w hw
  have e1 : (1 : Int64).toInt = 1 := rfl
  have e0 : (0 : Int64).toInt = 0 := rfl
  rw [Int64.lt_iff_toInt_lt] at h q
  have ri := rng64 i
  have p := (c_ldiv i w _ rfl (by rintro rfl; exact absurd hw (by decide))).2 (by omega)
  have mono : -i.toInt / w.toInt ≤ 9223372036854775808 / w.toInt := Int.ediv_le_ediv (by omega) (by omega)
  have pos : 0 ≤ -i.toInt / w.toInt := Int.ediv_nonneg (by omega) (by omega)
  have a1 := c_ladd (i / w) 1; have r1 := rng64 (i / w + 1); have r2 := rng64 (i / w)
  rw [e1] at a1
  rw [dm] at q
  omega
theorem own_law (q0 q1 : Int64) (p2 p3 : Int32) : own_F0 q0 q1 p2 p3 = 1 := by
  have hw : 1 ≤ (own_W q0 q1 p2 p3).toInt := own_wpos _
  rw [own_F0]
  refine if_pos ?_
  rw [own_J]
  by_cases h1 : own_I q0 q1 p2 p3 < (0 : Int64)
  · rw [if_pos h1]
    by_cases h2 : own_I q0 q1 p2 p3 + (1 : Int64) < (-9223372036854775808 : Int64) / own_W q0 q1 p2 p3
    · rw [if_pos h2]; exact own_core2 _ _ hw h1
    · rw [if_neg h2]; exact own_core _ _ hw fun q => h2 q.1
  · rw [if_neg h1]; exact own_core _ _ hw fun q => h1 q.2
def own_Q0 (Z : State) (q0 : Int64) (q1 : Int64) (p2 : Int32) (p3 : Int32) (h0 : Heap) (n0 : Nat) (v : Option Value) (h : Heap) (L : List Loc) : Prop := (v = some (.int (1 : Int32))) ∧ (Fr n0 L)
set_option maxRecDepth 65536 in
set_option maxHeartbeats 40000000 in
theorem own_rm0 (l : Launch) (Z : State) (a0 : Array Value) (hw : ∀ d ∈ tables_1, d.before a0 Z = true) (ws : List Jvm.Cond) (q0 : Int64) (q1 : Int64) (p2 : Int32) (p3 : Int32) (h0 : Heap) (n0 : Nat) (Z0 : n0 ≤ h0.size) :
    MetFree l x (head1 (Jvm.Cond.code x code maxLocals ret :: ws) room_1) (fun a U => a = #[(.long q0), (.long q1), (.int p2), (.int p3)] ∧ Z.Warmed39 U.vm ∧ U.heap = h0) (fun _ _ _ _ _ => True) (fun _ U o U' => ∃ v L, o = .returned v ∧ own_Q0 Z q0 q1 p2 p3 h0 n0 v U'.heap L ∧ FrameEnd U o U' L 0 0) := by
  refine MetFree.of_bodySF (plainFor_of_name own_pn1) hisR ?_
  intro p e s m args below meth c s₁ Bd hml0 hP hK
  obtain ⟨rfl, hZ, hh⟩ := hP
  have hx := Bd.exec
  have hby := Bd.bytes
  have hml : c.maxLocals = 14 := hml0
  have hown : s.vm.findClass "com/example/lid_on_load/lidonload/limit/LimitersWindowEndPinLaw" = some m.cls := findClass_of_methodNamed Bd.named
  have hnm := (name_of_methodNamed Bd.named Bd.method).1
  have X0 : Stand p l e room_1 s m #[(.long q0), (.long q1), (.int p2), (.int p3)] below meth c s₁ [] 0 0 := Stand.of_body Bd
  have e0 : s₁.heap = h0 := by rw [← hh, Bd.state]; rfl
  have N0 := Fr.nil n0
  refine own_go (fun t k => castTop (own_ef0 m q0 q1 p2 p3) k) ?_
  refine own_go (T' := s₁) (f' := (mkF m 12 #[.val (.long q0), .second, .val (.long q1), .second, .val (.int p2), .val (.int p3), .unset, .unset, .unset, .unset, .unset, .unset, .unset, .unset] [(.long (own_shrL (q1 &&& (9223372036854775807 : Int64)) (p2 &&& (63 : Int32)))), (.long (1 : Int64))])) (fun t k => ?_) ?_
  · show Steps p.tables e below (s₁.setTop (mkF m 0 #[.val (.long q0), .second, .val (.long q1), .second, .val (.int p2), .val (.int p3), .unset, .unset, .unset, .unset, .unset, .unset, .unset, .unset] [])) _
    refine XS.lconst X0.here hx rfl (hb hby at_0) ?_
    show Steps p.tables e below (s₁.setTop (mkF m 1 #[.val (.long q0), .second, .val (.long q1), .second, .val (.int p2), .val (.int p3), .unset, .unset, .unset, .unset, .unset, .unset, .unset, .unset] [(.long (1 : Int64))])) _
    refine XS.lloadN X0.here hx rfl (hb hby at_1) rfl ?_
    show Steps p.tables e below (s₁.setTop (mkF m 2 #[.val (.long q0), .second, .val (.long q1), .second, .val (.int p2), .val (.int p3), .unset, .unset, .unset, .unset, .unset, .unset, .unset, .unset] [(.long q1), (.long (1 : Int64))])) _
    refine X0.ldc2Long hx hown (mvT hZ (hw _ (List.mem_of_getElem? (i := 0) rfl))) (g := (mkF m 2 #[.val (.long q0), .second, .val (.long q1), .second, .val (.int p2), .val (.int p3), .unset, .unset, .unset, .unset, .unset, .unset, .unset, .unset] [(.long q1), (.long (1 : Int64))])) rfl (hb hby at_2) _ ?_
    show Steps p.tables e below (s₁.setTop (mkF m 5 #[.val (.long q0), .second, .val (.long q1), .second, .val (.int p2), .val (.int p3), .unset, .unset, .unset, .unset, .unset, .unset, .unset, .unset] [(.long (9223372036854775807 : Int64)), (.long q1), (.long (1 : Int64))])) _
    refine XS.land X0.here hx rfl (hb hby at_5) rfl ?_
    show Steps p.tables e below (s₁.setTop (mkF m 6 #[.val (.long q0), .second, .val (.long q1), .second, .val (.int p2), .val (.int p3), .unset, .unset, .unset, .unset, .unset, .unset, .unset, .unset] [(.long (q1 &&& (9223372036854775807 : Int64))), (.long (1 : Int64))])) _
    refine XS.iload X0.here hx rfl (hb hby at_6) rfl ?_
    show Steps p.tables e below (s₁.setTop (mkF m 8 #[.val (.long q0), .second, .val (.long q1), .second, .val (.int p2), .val (.int p3), .unset, .unset, .unset, .unset, .unset, .unset, .unset, .unset] [(.int p2), (.long (q1 &&& (9223372036854775807 : Int64))), (.long (1 : Int64))])) _
    refine XS.bipush X0.here hx rfl (hb hby at_8) ?_
    show Steps p.tables e below (s₁.setTop (mkF m 10 #[.val (.long q0), .second, .val (.long q1), .second, .val (.int p2), .val (.int p3), .unset, .unset, .unset, .unset, .unset, .unset, .unset, .unset] [(.int (63 : Int32)), (.int p2), (.long (q1 &&& (9223372036854775807 : Int64))), (.long (1 : Int64))])) _
    refine XS.iand X0.here hx rfl (hb hby at_10) rfl ?_
    show Steps p.tables e below (s₁.setTop (mkF m 11 #[.val (.long q0), .second, .val (.long q1), .second, .val (.int p2), .val (.int p3), .unset, .unset, .unset, .unset, .unset, .unset, .unset, .unset] [(.int (p2 &&& (63 : Int32))), (.long (q1 &&& (9223372036854775807 : Int64))), (.long (1 : Int64))])) _
    refine XS.lushr X0.here hx rfl (hb hby at_11) rfl ?_
    show Steps p.tables e below (s₁.setTop (mkF m 12 #[.val (.long q0), .second, .val (.long q1), .second, .val (.int p2), .val (.int p3), .unset, .unset, .unset, .unset, .unset, .unset, .unset, .unset] [(.long (own_shrL (q1 &&& (9223372036854775807 : Int64)) (p2 &&& (63 : Int32)))), (.long (1 : Int64))])) _
    exact k
  obtain ⟨_, _, ⟨T1, Lq1, kq1, nq1⟩, -, X1, ⟨Lc1, hQ1, lq1, yq1, zq1⟩, st1⟩ := Jvm.LawKit.callS X0 hx (y := (⟨"java/lang/Math", "max", "(JJ)J"⟩ : MethodName)) hown (mvT hZ (hw _ (List.mem_of_getElem? (i := 1) rfl))) (mvT hZ (hw _ (List.mem_of_getElem? (i := 2) rfl))) (mvT hZ (hw _ (List.mem_of_getElem? (i := 3) rfl))) (mvT hZ (hw _ (List.mem_of_getElem? (i := 4) rfl))) (by decide) (backOf (W := 0) (own_rm1 l Z a0 hw [] ((1 : Int64)) ((own_shrL (q1 &&& (9223372036854775807 : Int64)) (p2 &&& (63 : Int32))))  h0 n0 Z0 ) hZ (hw _ (List.mem_of_getElem? (i := 4) rfl)) (hw _ (List.mem_of_getElem? (i := 3) rfl)) (by decide) (by decide)) (g := (mkF m 12 #[.val (.long q0), .second, .val (.long q1), .second, .val (.int p2), .val (.int p3), .unset, .unset, .unset, .unset, .unset, .unset, .unset, .unset] [(.long (own_shrL (q1 &&& (9223372036854775807 : Int64)) (p2 &&& (63 : Int32)))), (.long (1 : Int64))])) rfl (by rw [hml]; rfl) (argsL := [(.long (1 : Int64)), (.long (own_shrL (q1 &&& (9223372036854775807 : Int64)) (p2 &&& (63 : Int32))))]) (rest := []) (lenOf own_pd0 rfl) rfl (by show 2 * 0 + _ ≤ _; exact Nat.le_of_eq rfl) (hb hby at_12) (fun _ _ => ⟨rfl, e0, (by decide : 0 + 0 ≤ _), (by decide : 0 + 0 ≤ _)⟩)
  dsimp only [Pt.U, Pt.locs, Pt.cells, Pt.slots] at X1 lq1 yq1 zq1 st1 hQ1
  subst lq1 yq1 zq1
  obtain ⟨rfl, N1q, h1q⟩ := hQ1
  have N1 := Fr.app N0 N1q
  refine own_go (T' := T1) (f' := (mkF m 15 #[.val (.long q0), .second, .val (.long q1), .second, .val (.int p2), .val (.int p3), .unset, .unset, .unset, .unset, .unset, .unset, .unset, .unset] [(.long (own_F1 (1 : Int64) (own_shrL (q1 &&& (9223372036854775807 : Int64)) (p2 &&& (63 : Int32)))))])) (fun t k => st1 _ k) ?_
  refine own_go (T' := T1) (f' := (mkF m 15 #[.val (.long q0), .second, .val (.long q1), .second, .val (.int p2), .val (.int p3), .unset, .unset, .unset, .unset, .unset, .unset, .unset, .unset] [(.long (own_W q0 q1 p2 p3))])) (fun t k => k) ?_
  refine own_go (T' := T1) (f' := (mkF m 21 #[.val (.long q0), .second, .val (.long q1), .second, .val (.int p2), .val (.int p3), .val (.long (own_W q0 q1 p2 p3)), .second, .unset, .unset, .unset, .unset, .unset, .unset] [(.int (p3 &&& (1 : Int32)))])) (fun t k => ?_) ?_
  · show Steps p.tables e below (T1.setTop (mkF m 15 #[.val (.long q0), .second, .val (.long q1), .second, .val (.int p2), .val (.int p3), .unset, .unset, .unset, .unset, .unset, .unset, .unset, .unset] [(.long (own_W q0 q1 p2 p3))])) _
    refine XS.lstore X1.here hx rfl (hb hby at_15) rfl (l' := #[.val (.long q0), .second, .val (.long q1), .second, .val (.int p2), .val (.int p3), .val (.long (own_W q0 q1 p2 p3)), .second, .unset, .unset, .unset, .unset, .unset, .unset]) rfl ?_
    show Steps p.tables e below (T1.setTop (mkF m 17 #[.val (.long q0), .second, .val (.long q1), .second, .val (.int p2), .val (.int p3), .val (.long (own_W q0 q1 p2 p3)), .second, .unset, .unset, .unset, .unset, .unset, .unset] [])) _
    refine XS.iload X1.here hx rfl (hb hby at_17) rfl ?_
    show Steps p.tables e below (T1.setTop (mkF m 19 #[.val (.long q0), .second, .val (.long q1), .second, .val (.int p2), .val (.int p3), .val (.long (own_W q0 q1 p2 p3)), .second, .unset, .unset, .unset, .unset, .unset, .unset] [(.int p3)])) _
    refine XS.iconst X1.here hx rfl (hb hby at_19) ?_
    show Steps p.tables e below (T1.setTop (mkF m 20 #[.val (.long q0), .second, .val (.long q1), .second, .val (.int p2), .val (.int p3), .val (.long (own_W q0 q1 p2 p3)), .second, .unset, .unset, .unset, .unset, .unset, .unset] [(.int (1 : Int32)), (.int p3)])) _
    refine XS.iand X1.here hx rfl (hb hby at_20) rfl ?_
    show Steps p.tables e below (T1.setTop (mkF m 21 #[.val (.long q0), .second, .val (.long q1), .second, .val (.int p2), .val (.int p3), .val (.long (own_W q0 q1 p2 p3)), .second, .unset, .unset, .unset, .unset, .unset, .unset] [(.int (p3 &&& (1 : Int32)))])) _
    exact k
  refine own_go (T' := T1) (f' := (mkF m 86 #[.val (.long q0), .second, .val (.long q1), .second, .val (.int p2), .val (.int p3), .val (.long (own_W q0 q1 p2 p3)), .second, .val (.long (if (p3 &&& (1 : Int32)) = (0 : Int32) then q0 else (if (0 : Int64) < ((((p3 >>> ((1 : Int32) &&& 31)) &&& (7 : Int32)).toInt64) - (4 : Int64)) then (if ((9223372036854775807 : Int64) - ((((p3 >>> ((1 : Int32) &&& 31)) &&& (7 : Int32)).toInt64) - (4 : Int64))) < ((9223372036854775807 : Int64) / (own_W q0 q1 p2 p3)) then (9223372036854775807 : Int64) else (((9223372036854775807 : Int64) / (own_W q0 q1 p2 p3)) + ((((p3 >>> ((1 : Int32) &&& 31)) &&& (7 : Int32)).toInt64) - (4 : Int64)))) else (((9223372036854775807 : Int64) / (own_W q0 q1 p2 p3)) + ((((p3 >>> ((1 : Int32) &&& 31)) &&& (7 : Int32)).toInt64) - (4 : Int64)))))), .second, (if (p3 &&& (1 : Int32)) = (0 : Int32) then .unset else .val (.long ((9223372036854775807 : Int64) / (own_W q0 q1 p2 p3)))), (if (p3 &&& (1 : Int32)) = (0 : Int32) then .unset else .second), (if (p3 &&& (1 : Int32)) = (0 : Int32) then .unset else .val (.long ((((p3 >>> ((1 : Int32) &&& 31)) &&& (7 : Int32)).toInt64) - (4 : Int64)))), (if (p3 &&& (1 : Int32)) = (0 : Int32) then .unset else .second)] [])) (fun t k => ?_) ?_
  · show Steps p.tables e below (T1.setTop (mkF m 21 #[.val (.long q0), .second, .val (.long q1), .second, .val (.int p2), .val (.int p3), .val (.long (own_W q0 q1 p2 p3)), .second, .unset, .unset, .unset, .unset, .unset, .unset] [(.int (p3 &&& (1 : Int32)))])) _
    by_cases hc21_2 : (p3 &&& (1 : Int32)) = (0 : Int32)
    · skip
      refine XS.ifNo X1.here hx rfl (hb hby at_21) rfl ((if0 _ _).trans (teq hc21_2).2) ?_
      show Steps p.tables e below (T1.setTop (mkF m 24 #[.val (.long q0), .second, .val (.long q1), .second, .val (.int p2), .val (.int p3), .val (.long (own_W q0 q1 p2 p3)), .second, .unset, .unset, .unset, .unset, .unset, .unset] [])) _
      refine XS.lloadN X1.here hx rfl (hb hby at_24) rfl ?_
      show Steps p.tables e below (T1.setTop (mkF m 25 #[.val (.long q0), .second, .val (.long q1), .second, .val (.int p2), .val (.int p3), .val (.long (own_W q0 q1 p2 p3)), .second, .unset, .unset, .unset, .unset, .unset, .unset] [(.long q0)])) _
      refine XS.lstore X1.here hx rfl (hb hby at_25) rfl (l' := #[.val (.long q0), .second, .val (.long q1), .second, .val (.int p2), .val (.int p3), .val (.long (own_W q0 q1 p2 p3)), .second, .val (.long q0), .second, .unset, .unset, .unset, .unset]) rfl ?_
      show Steps p.tables e below (T1.setTop (mkF m 27 #[.val (.long q0), .second, .val (.long q1), .second, .val (.int p2), .val (.int p3), .val (.long (own_W q0 q1 p2 p3)), .second, .val (.long q0), .second, .unset, .unset, .unset, .unset] [])) _
      refine XS.goto X1.here hx rfl (pc0 := 27) (pc' := 86) rfl (hb hby at_27) (by decide) (by decide) ?_
      show Steps p.tables e below (T1.setTop (mkF m 86 #[.val (.long q0), .second, .val (.long q1), .second, .val (.int p2), .val (.int p3), .val (.long (own_W q0 q1 p2 p3)), .second, .val (.long q0), .second, .unset, .unset, .unset, .unset] [])) _
      simp only [if_pos hc21_2] at k
      exact k
    · skip
      refine XS.ifYes X1.here hx rfl (pc0 := 21) (pc' := 30) rfl (hb hby at_21) rfl ((if0 _ _).trans (feq hc21_2).2) (by decide) (by decide) ?_
      show Steps p.tables e below (T1.setTop (mkF m 30 #[.val (.long q0), .second, .val (.long q1), .second, .val (.int p2), .val (.int p3), .val (.long (own_W q0 q1 p2 p3)), .second, .unset, .unset, .unset, .unset, .unset, .unset] [])) _
      refine X1.ldc2Long hx hown (mvT hZ (hw _ (List.mem_of_getElem? (i := 0) rfl))) (g := (mkF m 30 #[.val (.long q0), .second, .val (.long q1), .second, .val (.int p2), .val (.int p3), .val (.long (own_W q0 q1 p2 p3)), .second, .unset, .unset, .unset, .unset, .unset, .unset] [])) rfl (hb hby at_30) _ ?_
      show Steps p.tables e below (T1.setTop (mkF m 33 #[.val (.long q0), .second, .val (.long q1), .second, .val (.int p2), .val (.int p3), .val (.long (own_W q0 q1 p2 p3)), .second, .unset, .unset, .unset, .unset, .unset, .unset] [(.long (9223372036854775807 : Int64))])) _
      refine XS.lload X1.here hx rfl (hb hby at_33) rfl ?_
      show Steps p.tables e below (T1.setTop (mkF m 35 #[.val (.long q0), .second, .val (.long q1), .second, .val (.int p2), .val (.int p3), .val (.long (own_W q0 q1 p2 p3)), .second, .unset, .unset, .unset, .unset, .unset, .unset] [(.long (own_W q0 q1 p2 p3)), (.long (9223372036854775807 : Int64))])) _
      refine XS.ldiv X1.here hx rfl (hb hby at_35) rfl (own_wne _) ?_
      show Steps p.tables e below (T1.setTop (mkF m 36 #[.val (.long q0), .second, .val (.long q1), .second, .val (.int p2), .val (.int p3), .val (.long (own_W q0 q1 p2 p3)), .second, .unset, .unset, .unset, .unset, .unset, .unset] [(.long ((9223372036854775807 : Int64) / (own_W q0 q1 p2 p3)))])) _
      refine XS.lstore X1.here hx rfl (hb hby at_36) rfl (l' := #[.val (.long q0), .second, .val (.long q1), .second, .val (.int p2), .val (.int p3), .val (.long (own_W q0 q1 p2 p3)), .second, .unset, .unset, .val (.long ((9223372036854775807 : Int64) / (own_W q0 q1 p2 p3))), .second, .unset, .unset]) rfl ?_
      show Steps p.tables e below (T1.setTop (mkF m 38 #[.val (.long q0), .second, .val (.long q1), .second, .val (.int p2), .val (.int p3), .val (.long (own_W q0 q1 p2 p3)), .second, .unset, .unset, .val (.long ((9223372036854775807 : Int64) / (own_W q0 q1 p2 p3))), .second, .unset, .unset] [])) _
      refine XS.iload X1.here hx rfl (hb hby at_38) rfl ?_
      show Steps p.tables e below (T1.setTop (mkF m 40 #[.val (.long q0), .second, .val (.long q1), .second, .val (.int p2), .val (.int p3), .val (.long (own_W q0 q1 p2 p3)), .second, .unset, .unset, .val (.long ((9223372036854775807 : Int64) / (own_W q0 q1 p2 p3))), .second, .unset, .unset] [(.int p3)])) _
      refine XS.iconst X1.here hx rfl (hb hby at_40) ?_
      show Steps p.tables e below (T1.setTop (mkF m 41 #[.val (.long q0), .second, .val (.long q1), .second, .val (.int p2), .val (.int p3), .val (.long (own_W q0 q1 p2 p3)), .second, .unset, .unset, .val (.long ((9223372036854775807 : Int64) / (own_W q0 q1 p2 p3))), .second, .unset, .unset] [(.int (1 : Int32)), (.int p3)])) _
      refine XS.ishr X1.here hx rfl (hb hby at_41) rfl ?_
      show Steps p.tables e below (T1.setTop (mkF m 42 #[.val (.long q0), .second, .val (.long q1), .second, .val (.int p2), .val (.int p3), .val (.long (own_W q0 q1 p2 p3)), .second, .unset, .unset, .val (.long ((9223372036854775807 : Int64) / (own_W q0 q1 p2 p3))), .second, .unset, .unset] [(.int (p3 >>> ((1 : Int32) &&& 31)))])) _
      refine XS.bipush X1.here hx rfl (hb hby at_42) ?_
      show Steps p.tables e below (T1.setTop (mkF m 44 #[.val (.long q0), .second, .val (.long q1), .second, .val (.int p2), .val (.int p3), .val (.long (own_W q0 q1 p2 p3)), .second, .unset, .unset, .val (.long ((9223372036854775807 : Int64) / (own_W q0 q1 p2 p3))), .second, .unset, .unset] [(.int (7 : Int32)), (.int (p3 >>> ((1 : Int32) &&& 31)))])) _
      refine XS.iand X1.here hx rfl (hb hby at_44) rfl ?_
      show Steps p.tables e below (T1.setTop (mkF m 45 #[.val (.long q0), .second, .val (.long q1), .second, .val (.int p2), .val (.int p3), .val (.long (own_W q0 q1 p2 p3)), .second, .unset, .unset, .val (.long ((9223372036854775807 : Int64) / (own_W q0 q1 p2 p3))), .second, .unset, .unset] [(.int ((p3 >>> ((1 : Int32) &&& 31)) &&& (7 : Int32)))])) _
      refine XS.i2l X1.here hx rfl (hb hby at_45) rfl ?_
      show Steps p.tables e below (T1.setTop (mkF m 46 #[.val (.long q0), .second, .val (.long q1), .second, .val (.int p2), .val (.int p3), .val (.long (own_W q0 q1 p2 p3)), .second, .unset, .unset, .val (.long ((9223372036854775807 : Int64) / (own_W q0 q1 p2 p3))), .second, .unset, .unset] [(.long (((p3 >>> ((1 : Int32) &&& 31)) &&& (7 : Int32)).toInt64))])) _
      refine X1.ldc2Long hx hown (mvT hZ (hw _ (List.mem_of_getElem? (i := 5) rfl))) (g := (mkF m 46 #[.val (.long q0), .second, .val (.long q1), .second, .val (.int p2), .val (.int p3), .val (.long (own_W q0 q1 p2 p3)), .second, .unset, .unset, .val (.long ((9223372036854775807 : Int64) / (own_W q0 q1 p2 p3))), .second, .unset, .unset] [(.long (((p3 >>> ((1 : Int32) &&& 31)) &&& (7 : Int32)).toInt64))])) rfl (hb hby at_46) _ ?_
      show Steps p.tables e below (T1.setTop (mkF m 49 #[.val (.long q0), .second, .val (.long q1), .second, .val (.int p2), .val (.int p3), .val (.long (own_W q0 q1 p2 p3)), .second, .unset, .unset, .val (.long ((9223372036854775807 : Int64) / (own_W q0 q1 p2 p3))), .second, .unset, .unset] [(.long (4 : Int64)), (.long (((p3 >>> ((1 : Int32) &&& 31)) &&& (7 : Int32)).toInt64))])) _
      refine XS.lsub X1.here hx rfl (hb hby at_49) rfl ?_
      show Steps p.tables e below (T1.setTop (mkF m 50 #[.val (.long q0), .second, .val (.long q1), .second, .val (.int p2), .val (.int p3), .val (.long (own_W q0 q1 p2 p3)), .second, .unset, .unset, .val (.long ((9223372036854775807 : Int64) / (own_W q0 q1 p2 p3))), .second, .unset, .unset] [(.long ((((p3 >>> ((1 : Int32) &&& 31)) &&& (7 : Int32)).toInt64) - (4 : Int64)))])) _
      refine XS.lstore X1.here hx rfl (hb hby at_50) rfl (l' := #[.val (.long q0), .second, .val (.long q1), .second, .val (.int p2), .val (.int p3), .val (.long (own_W q0 q1 p2 p3)), .second, .unset, .unset, .val (.long ((9223372036854775807 : Int64) / (own_W q0 q1 p2 p3))), .second, .val (.long ((((p3 >>> ((1 : Int32) &&& 31)) &&& (7 : Int32)).toInt64) - (4 : Int64))), .second]) rfl ?_
      show Steps p.tables e below (T1.setTop (mkF m 52 #[.val (.long q0), .second, .val (.long q1), .second, .val (.int p2), .val (.int p3), .val (.long (own_W q0 q1 p2 p3)), .second, .unset, .unset, .val (.long ((9223372036854775807 : Int64) / (own_W q0 q1 p2 p3))), .second, .val (.long ((((p3 >>> ((1 : Int32) &&& 31)) &&& (7 : Int32)).toInt64) - (4 : Int64))), .second] [])) _
      refine XS.lload X1.here hx rfl (hb hby at_52) rfl ?_
      show Steps p.tables e below (T1.setTop (mkF m 54 #[.val (.long q0), .second, .val (.long q1), .second, .val (.int p2), .val (.int p3), .val (.long (own_W q0 q1 p2 p3)), .second, .unset, .unset, .val (.long ((9223372036854775807 : Int64) / (own_W q0 q1 p2 p3))), .second, .val (.long ((((p3 >>> ((1 : Int32) &&& 31)) &&& (7 : Int32)).toInt64) - (4 : Int64))), .second] [(.long ((((p3 >>> ((1 : Int32) &&& 31)) &&& (7 : Int32)).toInt64) - (4 : Int64)))])) _
      refine XS.lconst X1.here hx rfl (hb hby at_54) ?_
      show Steps p.tables e below (T1.setTop (mkF m 55 #[.val (.long q0), .second, .val (.long q1), .second, .val (.int p2), .val (.int p3), .val (.long (own_W q0 q1 p2 p3)), .second, .unset, .unset, .val (.long ((9223372036854775807 : Int64) / (own_W q0 q1 p2 p3))), .second, .val (.long ((((p3 >>> ((1 : Int32) &&& 31)) &&& (7 : Int32)).toInt64) - (4 : Int64))), .second] [(.long (0 : Int64)), (.long ((((p3 >>> ((1 : Int32) &&& 31)) &&& (7 : Int32)).toInt64) - (4 : Int64)))])) _
      refine XS.lcmp X1.here hx rfl (hb hby at_55) rfl ?_
      show Steps p.tables e below (T1.setTop (mkF m 56 #[.val (.long q0), .second, .val (.long q1), .second, .val (.int p2), .val (.int p3), .val (.long (own_W q0 q1 p2 p3)), .second, .unset, .unset, .val (.long ((9223372036854775807 : Int64) / (own_W q0 q1 p2 p3))), .second, .val (.long ((((p3 >>> ((1 : Int32) &&& 31)) &&& (7 : Int32)).toInt64) - (4 : Int64))), .second] [(.int (lcmpW ((((p3 >>> ((1 : Int32) &&& 31)) &&& (7 : Int32)).toInt64) - (4 : Int64)) (0 : Int64)))])) _
      by_cases hc56_3 : (0 : Int64) < ((((p3 >>> ((1 : Int32) &&& 31)) &&& (7 : Int32)).toInt64) - (4 : Int64))
      · skip
        refine XS.ifNo X1.here hx rfl (hb hby at_56) rfl ((if0 _ _).trans (tlt ((lw_gt ((((p3 >>> ((1 : Int32) &&& 31)) &&& (7 : Int32)).toInt64) - (4 : Int64)) (0 : Int64)).mpr hc56_3)).2.2.2) ?_
        show Steps p.tables e below (T1.setTop (mkF m 59 #[.val (.long q0), .second, .val (.long q1), .second, .val (.int p2), .val (.int p3), .val (.long (own_W q0 q1 p2 p3)), .second, .unset, .unset, .val (.long ((9223372036854775807 : Int64) / (own_W q0 q1 p2 p3))), .second, .val (.long ((((p3 >>> ((1 : Int32) &&& 31)) &&& (7 : Int32)).toInt64) - (4 : Int64))), .second] [])) _
        refine XS.lload X1.here hx rfl (hb hby at_59) rfl ?_
        show Steps p.tables e below (T1.setTop (mkF m 61 #[.val (.long q0), .second, .val (.long q1), .second, .val (.int p2), .val (.int p3), .val (.long (own_W q0 q1 p2 p3)), .second, .unset, .unset, .val (.long ((9223372036854775807 : Int64) / (own_W q0 q1 p2 p3))), .second, .val (.long ((((p3 >>> ((1 : Int32) &&& 31)) &&& (7 : Int32)).toInt64) - (4 : Int64))), .second] [(.long ((9223372036854775807 : Int64) / (own_W q0 q1 p2 p3)))])) _
        refine X1.ldc2Long hx hown (mvT hZ (hw _ (List.mem_of_getElem? (i := 0) rfl))) (g := (mkF m 61 #[.val (.long q0), .second, .val (.long q1), .second, .val (.int p2), .val (.int p3), .val (.long (own_W q0 q1 p2 p3)), .second, .unset, .unset, .val (.long ((9223372036854775807 : Int64) / (own_W q0 q1 p2 p3))), .second, .val (.long ((((p3 >>> ((1 : Int32) &&& 31)) &&& (7 : Int32)).toInt64) - (4 : Int64))), .second] [(.long ((9223372036854775807 : Int64) / (own_W q0 q1 p2 p3)))])) rfl (hb hby at_61) _ ?_
        show Steps p.tables e below (T1.setTop (mkF m 64 #[.val (.long q0), .second, .val (.long q1), .second, .val (.int p2), .val (.int p3), .val (.long (own_W q0 q1 p2 p3)), .second, .unset, .unset, .val (.long ((9223372036854775807 : Int64) / (own_W q0 q1 p2 p3))), .second, .val (.long ((((p3 >>> ((1 : Int32) &&& 31)) &&& (7 : Int32)).toInt64) - (4 : Int64))), .second] [(.long (9223372036854775807 : Int64)), (.long ((9223372036854775807 : Int64) / (own_W q0 q1 p2 p3)))])) _
        refine XS.lload X1.here hx rfl (hb hby at_64) rfl ?_
        show Steps p.tables e below (T1.setTop (mkF m 66 #[.val (.long q0), .second, .val (.long q1), .second, .val (.int p2), .val (.int p3), .val (.long (own_W q0 q1 p2 p3)), .second, .unset, .unset, .val (.long ((9223372036854775807 : Int64) / (own_W q0 q1 p2 p3))), .second, .val (.long ((((p3 >>> ((1 : Int32) &&& 31)) &&& (7 : Int32)).toInt64) - (4 : Int64))), .second] [(.long ((((p3 >>> ((1 : Int32) &&& 31)) &&& (7 : Int32)).toInt64) - (4 : Int64))), (.long (9223372036854775807 : Int64)), (.long ((9223372036854775807 : Int64) / (own_W q0 q1 p2 p3)))])) _
        refine XS.lsub X1.here hx rfl (hb hby at_66) rfl ?_
        show Steps p.tables e below (T1.setTop (mkF m 67 #[.val (.long q0), .second, .val (.long q1), .second, .val (.int p2), .val (.int p3), .val (.long (own_W q0 q1 p2 p3)), .second, .unset, .unset, .val (.long ((9223372036854775807 : Int64) / (own_W q0 q1 p2 p3))), .second, .val (.long ((((p3 >>> ((1 : Int32) &&& 31)) &&& (7 : Int32)).toInt64) - (4 : Int64))), .second] [(.long ((9223372036854775807 : Int64) - ((((p3 >>> ((1 : Int32) &&& 31)) &&& (7 : Int32)).toInt64) - (4 : Int64)))), (.long ((9223372036854775807 : Int64) / (own_W q0 q1 p2 p3)))])) _
        refine XS.lcmp X1.here hx rfl (hb hby at_67) rfl ?_
        show Steps p.tables e below (T1.setTop (mkF m 68 #[.val (.long q0), .second, .val (.long q1), .second, .val (.int p2), .val (.int p3), .val (.long (own_W q0 q1 p2 p3)), .second, .unset, .unset, .val (.long ((9223372036854775807 : Int64) / (own_W q0 q1 p2 p3))), .second, .val (.long ((((p3 >>> ((1 : Int32) &&& 31)) &&& (7 : Int32)).toInt64) - (4 : Int64))), .second] [(.int (lcmpW ((9223372036854775807 : Int64) / (own_W q0 q1 p2 p3)) ((9223372036854775807 : Int64) - ((((p3 >>> ((1 : Int32) &&& 31)) &&& (7 : Int32)).toInt64) - (4 : Int64)))))])) _
        by_cases hc68_4 : ((9223372036854775807 : Int64) - ((((p3 >>> ((1 : Int32) &&& 31)) &&& (7 : Int32)).toInt64) - (4 : Int64))) < ((9223372036854775807 : Int64) / (own_W q0 q1 p2 p3))
        · skip
          refine XS.ifNo X1.here hx rfl (hb hby at_68) rfl ((if0 _ _).trans (tlt ((lw_gt ((9223372036854775807 : Int64) / (own_W q0 q1 p2 p3)) ((9223372036854775807 : Int64) - ((((p3 >>> ((1 : Int32) &&& 31)) &&& (7 : Int32)).toInt64) - (4 : Int64)))).mpr hc68_4)).2.2.2) ?_
          show Steps p.tables e below (T1.setTop (mkF m 71 #[.val (.long q0), .second, .val (.long q1), .second, .val (.int p2), .val (.int p3), .val (.long (own_W q0 q1 p2 p3)), .second, .unset, .unset, .val (.long ((9223372036854775807 : Int64) / (own_W q0 q1 p2 p3))), .second, .val (.long ((((p3 >>> ((1 : Int32) &&& 31)) &&& (7 : Int32)).toInt64) - (4 : Int64))), .second] [])) _
          refine X1.ldc2Long hx hown (mvT hZ (hw _ (List.mem_of_getElem? (i := 0) rfl))) (g := (mkF m 71 #[.val (.long q0), .second, .val (.long q1), .second, .val (.int p2), .val (.int p3), .val (.long (own_W q0 q1 p2 p3)), .second, .unset, .unset, .val (.long ((9223372036854775807 : Int64) / (own_W q0 q1 p2 p3))), .second, .val (.long ((((p3 >>> ((1 : Int32) &&& 31)) &&& (7 : Int32)).toInt64) - (4 : Int64))), .second] [])) rfl (hb hby at_71) _ ?_
          show Steps p.tables e below (T1.setTop (mkF m 74 #[.val (.long q0), .second, .val (.long q1), .second, .val (.int p2), .val (.int p3), .val (.long (own_W q0 q1 p2 p3)), .second, .unset, .unset, .val (.long ((9223372036854775807 : Int64) / (own_W q0 q1 p2 p3))), .second, .val (.long ((((p3 >>> ((1 : Int32) &&& 31)) &&& (7 : Int32)).toInt64) - (4 : Int64))), .second] [(.long (9223372036854775807 : Int64))])) _
          refine XS.lstore X1.here hx rfl (hb hby at_74) rfl (l' := #[.val (.long q0), .second, .val (.long q1), .second, .val (.int p2), .val (.int p3), .val (.long (own_W q0 q1 p2 p3)), .second, .val (.long (9223372036854775807 : Int64)), .second, .val (.long ((9223372036854775807 : Int64) / (own_W q0 q1 p2 p3))), .second, .val (.long ((((p3 >>> ((1 : Int32) &&& 31)) &&& (7 : Int32)).toInt64) - (4 : Int64))), .second]) rfl ?_
          show Steps p.tables e below (T1.setTop (mkF m 76 #[.val (.long q0), .second, .val (.long q1), .second, .val (.int p2), .val (.int p3), .val (.long (own_W q0 q1 p2 p3)), .second, .val (.long (9223372036854775807 : Int64)), .second, .val (.long ((9223372036854775807 : Int64) / (own_W q0 q1 p2 p3))), .second, .val (.long ((((p3 >>> ((1 : Int32) &&& 31)) &&& (7 : Int32)).toInt64) - (4 : Int64))), .second] [])) _
          refine XS.goto X1.here hx rfl (pc0 := 76) (pc' := 86) rfl (hb hby at_76) (by decide) (by decide) ?_
          show Steps p.tables e below (T1.setTop (mkF m 86 #[.val (.long q0), .second, .val (.long q1), .second, .val (.int p2), .val (.int p3), .val (.long (own_W q0 q1 p2 p3)), .second, .val (.long (9223372036854775807 : Int64)), .second, .val (.long ((9223372036854775807 : Int64) / (own_W q0 q1 p2 p3))), .second, .val (.long ((((p3 >>> ((1 : Int32) &&& 31)) &&& (7 : Int32)).toInt64) - (4 : Int64))), .second] [])) _
          simp only [if_neg hc21_2, if_pos hc56_3, if_pos hc68_4] at k
          exact k
        · skip
          refine XS.ifYes X1.here hx rfl (pc0 := 68) (pc' := 79) rfl (hb hby at_68) rfl ((if0 _ _).trans (flt (fun q => hc68_4 ((lw_gt ((9223372036854775807 : Int64) / (own_W q0 q1 p2 p3)) ((9223372036854775807 : Int64) - ((((p3 >>> ((1 : Int32) &&& 31)) &&& (7 : Int32)).toInt64) - (4 : Int64)))).mp q))).2.2.2) (by decide) (by decide) ?_
          show Steps p.tables e below (T1.setTop (mkF m 79 #[.val (.long q0), .second, .val (.long q1), .second, .val (.int p2), .val (.int p3), .val (.long (own_W q0 q1 p2 p3)), .second, .unset, .unset, .val (.long ((9223372036854775807 : Int64) / (own_W q0 q1 p2 p3))), .second, .val (.long ((((p3 >>> ((1 : Int32) &&& 31)) &&& (7 : Int32)).toInt64) - (4 : Int64))), .second] [])) _
          refine XS.lload X1.here hx rfl (hb hby at_79) rfl ?_
          show Steps p.tables e below (T1.setTop (mkF m 81 #[.val (.long q0), .second, .val (.long q1), .second, .val (.int p2), .val (.int p3), .val (.long (own_W q0 q1 p2 p3)), .second, .unset, .unset, .val (.long ((9223372036854775807 : Int64) / (own_W q0 q1 p2 p3))), .second, .val (.long ((((p3 >>> ((1 : Int32) &&& 31)) &&& (7 : Int32)).toInt64) - (4 : Int64))), .second] [(.long ((9223372036854775807 : Int64) / (own_W q0 q1 p2 p3)))])) _
          refine XS.lload X1.here hx rfl (hb hby at_81) rfl ?_
          show Steps p.tables e below (T1.setTop (mkF m 83 #[.val (.long q0), .second, .val (.long q1), .second, .val (.int p2), .val (.int p3), .val (.long (own_W q0 q1 p2 p3)), .second, .unset, .unset, .val (.long ((9223372036854775807 : Int64) / (own_W q0 q1 p2 p3))), .second, .val (.long ((((p3 >>> ((1 : Int32) &&& 31)) &&& (7 : Int32)).toInt64) - (4 : Int64))), .second] [(.long ((((p3 >>> ((1 : Int32) &&& 31)) &&& (7 : Int32)).toInt64) - (4 : Int64))), (.long ((9223372036854775807 : Int64) / (own_W q0 q1 p2 p3)))])) _
          refine XS.ladd X1.here hx rfl (hb hby at_83) rfl ?_
          show Steps p.tables e below (T1.setTop (mkF m 84 #[.val (.long q0), .second, .val (.long q1), .second, .val (.int p2), .val (.int p3), .val (.long (own_W q0 q1 p2 p3)), .second, .unset, .unset, .val (.long ((9223372036854775807 : Int64) / (own_W q0 q1 p2 p3))), .second, .val (.long ((((p3 >>> ((1 : Int32) &&& 31)) &&& (7 : Int32)).toInt64) - (4 : Int64))), .second] [(.long (((9223372036854775807 : Int64) / (own_W q0 q1 p2 p3)) + ((((p3 >>> ((1 : Int32) &&& 31)) &&& (7 : Int32)).toInt64) - (4 : Int64))))])) _
          refine XS.lstore X1.here hx rfl (hb hby at_84) rfl (l' := #[.val (.long q0), .second, .val (.long q1), .second, .val (.int p2), .val (.int p3), .val (.long (own_W q0 q1 p2 p3)), .second, .val (.long (((9223372036854775807 : Int64) / (own_W q0 q1 p2 p3)) + ((((p3 >>> ((1 : Int32) &&& 31)) &&& (7 : Int32)).toInt64) - (4 : Int64)))), .second, .val (.long ((9223372036854775807 : Int64) / (own_W q0 q1 p2 p3))), .second, .val (.long ((((p3 >>> ((1 : Int32) &&& 31)) &&& (7 : Int32)).toInt64) - (4 : Int64))), .second]) rfl ?_
          show Steps p.tables e below (T1.setTop (mkF m 86 #[.val (.long q0), .second, .val (.long q1), .second, .val (.int p2), .val (.int p3), .val (.long (own_W q0 q1 p2 p3)), .second, .val (.long (((9223372036854775807 : Int64) / (own_W q0 q1 p2 p3)) + ((((p3 >>> ((1 : Int32) &&& 31)) &&& (7 : Int32)).toInt64) - (4 : Int64)))), .second, .val (.long ((9223372036854775807 : Int64) / (own_W q0 q1 p2 p3))), .second, .val (.long ((((p3 >>> ((1 : Int32) &&& 31)) &&& (7 : Int32)).toInt64) - (4 : Int64))), .second] [])) _
          simp only [if_neg hc21_2, if_pos hc56_3, if_neg hc68_4] at k
          exact k
      · skip
        refine XS.ifYes X1.here hx rfl (pc0 := 56) (pc' := 79) rfl (hb hby at_56) rfl ((if0 _ _).trans (flt (fun q => hc56_3 ((lw_gt ((((p3 >>> ((1 : Int32) &&& 31)) &&& (7 : Int32)).toInt64) - (4 : Int64)) (0 : Int64)).mp q))).2.2.2) (by decide) (by decide) ?_
        show Steps p.tables e below (T1.setTop (mkF m 79 #[.val (.long q0), .second, .val (.long q1), .second, .val (.int p2), .val (.int p3), .val (.long (own_W q0 q1 p2 p3)), .second, .unset, .unset, .val (.long ((9223372036854775807 : Int64) / (own_W q0 q1 p2 p3))), .second, .val (.long ((((p3 >>> ((1 : Int32) &&& 31)) &&& (7 : Int32)).toInt64) - (4 : Int64))), .second] [])) _
        refine XS.lload X1.here hx rfl (hb hby at_79) rfl ?_
        show Steps p.tables e below (T1.setTop (mkF m 81 #[.val (.long q0), .second, .val (.long q1), .second, .val (.int p2), .val (.int p3), .val (.long (own_W q0 q1 p2 p3)), .second, .unset, .unset, .val (.long ((9223372036854775807 : Int64) / (own_W q0 q1 p2 p3))), .second, .val (.long ((((p3 >>> ((1 : Int32) &&& 31)) &&& (7 : Int32)).toInt64) - (4 : Int64))), .second] [(.long ((9223372036854775807 : Int64) / (own_W q0 q1 p2 p3)))])) _
        refine XS.lload X1.here hx rfl (hb hby at_81) rfl ?_
        show Steps p.tables e below (T1.setTop (mkF m 83 #[.val (.long q0), .second, .val (.long q1), .second, .val (.int p2), .val (.int p3), .val (.long (own_W q0 q1 p2 p3)), .second, .unset, .unset, .val (.long ((9223372036854775807 : Int64) / (own_W q0 q1 p2 p3))), .second, .val (.long ((((p3 >>> ((1 : Int32) &&& 31)) &&& (7 : Int32)).toInt64) - (4 : Int64))), .second] [(.long ((((p3 >>> ((1 : Int32) &&& 31)) &&& (7 : Int32)).toInt64) - (4 : Int64))), (.long ((9223372036854775807 : Int64) / (own_W q0 q1 p2 p3)))])) _
        refine XS.ladd X1.here hx rfl (hb hby at_83) rfl ?_
        show Steps p.tables e below (T1.setTop (mkF m 84 #[.val (.long q0), .second, .val (.long q1), .second, .val (.int p2), .val (.int p3), .val (.long (own_W q0 q1 p2 p3)), .second, .unset, .unset, .val (.long ((9223372036854775807 : Int64) / (own_W q0 q1 p2 p3))), .second, .val (.long ((((p3 >>> ((1 : Int32) &&& 31)) &&& (7 : Int32)).toInt64) - (4 : Int64))), .second] [(.long (((9223372036854775807 : Int64) / (own_W q0 q1 p2 p3)) + ((((p3 >>> ((1 : Int32) &&& 31)) &&& (7 : Int32)).toInt64) - (4 : Int64))))])) _
        refine XS.lstore X1.here hx rfl (hb hby at_84) rfl (l' := #[.val (.long q0), .second, .val (.long q1), .second, .val (.int p2), .val (.int p3), .val (.long (own_W q0 q1 p2 p3)), .second, .val (.long (((9223372036854775807 : Int64) / (own_W q0 q1 p2 p3)) + ((((p3 >>> ((1 : Int32) &&& 31)) &&& (7 : Int32)).toInt64) - (4 : Int64)))), .second, .val (.long ((9223372036854775807 : Int64) / (own_W q0 q1 p2 p3))), .second, .val (.long ((((p3 >>> ((1 : Int32) &&& 31)) &&& (7 : Int32)).toInt64) - (4 : Int64))), .second]) rfl ?_
        show Steps p.tables e below (T1.setTop (mkF m 86 #[.val (.long q0), .second, .val (.long q1), .second, .val (.int p2), .val (.int p3), .val (.long (own_W q0 q1 p2 p3)), .second, .val (.long (((9223372036854775807 : Int64) / (own_W q0 q1 p2 p3)) + ((((p3 >>> ((1 : Int32) &&& 31)) &&& (7 : Int32)).toInt64) - (4 : Int64)))), .second, .val (.long ((9223372036854775807 : Int64) / (own_W q0 q1 p2 p3))), .second, .val (.long ((((p3 >>> ((1 : Int32) &&& 31)) &&& (7 : Int32)).toInt64) - (4 : Int64))), .second] [])) _
        simp only [if_neg hc21_2, if_neg hc56_3] at k
        exact k
  refine own_go (T' := T1) (f' := (mkF m 86 #[.val (.long q0), .second, .val (.long q1), .second, .val (.int p2), .val (.int p3), .val (.long (own_W q0 q1 p2 p3)), .second, .val (.long (own_I q0 q1 p2 p3)), .second, (if (p3 &&& (1 : Int32)) = (0 : Int32) then .unset else .val (.long ((9223372036854775807 : Int64) / (own_W q0 q1 p2 p3)))), (if (p3 &&& (1 : Int32)) = (0 : Int32) then .unset else .second), (if (p3 &&& (1 : Int32)) = (0 : Int32) then .unset else .val (.long ((((p3 >>> ((1 : Int32) &&& 31)) &&& (7 : Int32)).toInt64) - (4 : Int64)))), (if (p3 &&& (1 : Int32)) = (0 : Int32) then .unset else .second)] [])) (fun t k => k) ?_
  refine own_go (T' := T1) (f' := (mkF m 90 #[.val (.long q0), .second, .val (.long q1), .second, .val (.int p2), .val (.int p3), .val (.long (own_W q0 q1 p2 p3)), .second, .val (.long (own_I q0 q1 p2 p3)), .second, (if (p3 &&& (1 : Int32)) = (0 : Int32) then .unset else .val (.long ((9223372036854775807 : Int64) / (own_W q0 q1 p2 p3)))), (if (p3 &&& (1 : Int32)) = (0 : Int32) then .unset else .second), (if (p3 &&& (1 : Int32)) = (0 : Int32) then .unset else .val (.long ((((p3 >>> ((1 : Int32) &&& 31)) &&& (7 : Int32)).toInt64) - (4 : Int64)))), (if (p3 &&& (1 : Int32)) = (0 : Int32) then .unset else .second)] [(.int (lcmpW (own_I q0 q1 p2 p3) (0 : Int64)))])) (fun t k => ?_) ?_
  · show Steps p.tables e below (T1.setTop (mkF m 86 #[.val (.long q0), .second, .val (.long q1), .second, .val (.int p2), .val (.int p3), .val (.long (own_W q0 q1 p2 p3)), .second, .val (.long (own_I q0 q1 p2 p3)), .second, (if (p3 &&& (1 : Int32)) = (0 : Int32) then .unset else .val (.long ((9223372036854775807 : Int64) / (own_W q0 q1 p2 p3)))), (if (p3 &&& (1 : Int32)) = (0 : Int32) then .unset else .second), (if (p3 &&& (1 : Int32)) = (0 : Int32) then .unset else .val (.long ((((p3 >>> ((1 : Int32) &&& 31)) &&& (7 : Int32)).toInt64) - (4 : Int64)))), (if (p3 &&& (1 : Int32)) = (0 : Int32) then .unset else .second)] [])) _
    refine XS.lload X1.here hx rfl (hb hby at_86) rfl ?_
    show Steps p.tables e below (T1.setTop (mkF m 88 #[.val (.long q0), .second, .val (.long q1), .second, .val (.int p2), .val (.int p3), .val (.long (own_W q0 q1 p2 p3)), .second, .val (.long (own_I q0 q1 p2 p3)), .second, (if (p3 &&& (1 : Int32)) = (0 : Int32) then .unset else .val (.long ((9223372036854775807 : Int64) / (own_W q0 q1 p2 p3)))), (if (p3 &&& (1 : Int32)) = (0 : Int32) then .unset else .second), (if (p3 &&& (1 : Int32)) = (0 : Int32) then .unset else .val (.long ((((p3 >>> ((1 : Int32) &&& 31)) &&& (7 : Int32)).toInt64) - (4 : Int64)))), (if (p3 &&& (1 : Int32)) = (0 : Int32) then .unset else .second)] [(.long (own_I q0 q1 p2 p3))])) _
    refine XS.lconst X1.here hx rfl (hb hby at_88) ?_
    show Steps p.tables e below (T1.setTop (mkF m 89 #[.val (.long q0), .second, .val (.long q1), .second, .val (.int p2), .val (.int p3), .val (.long (own_W q0 q1 p2 p3)), .second, .val (.long (own_I q0 q1 p2 p3)), .second, (if (p3 &&& (1 : Int32)) = (0 : Int32) then .unset else .val (.long ((9223372036854775807 : Int64) / (own_W q0 q1 p2 p3)))), (if (p3 &&& (1 : Int32)) = (0 : Int32) then .unset else .second), (if (p3 &&& (1 : Int32)) = (0 : Int32) then .unset else .val (.long ((((p3 >>> ((1 : Int32) &&& 31)) &&& (7 : Int32)).toInt64) - (4 : Int64)))), (if (p3 &&& (1 : Int32)) = (0 : Int32) then .unset else .second)] [(.long (0 : Int64)), (.long (own_I q0 q1 p2 p3))])) _
    refine XS.lcmp X1.here hx rfl (hb hby at_89) rfl ?_
    show Steps p.tables e below (T1.setTop (mkF m 90 #[.val (.long q0), .second, .val (.long q1), .second, .val (.int p2), .val (.int p3), .val (.long (own_W q0 q1 p2 p3)), .second, .val (.long (own_I q0 q1 p2 p3)), .second, (if (p3 &&& (1 : Int32)) = (0 : Int32) then .unset else .val (.long ((9223372036854775807 : Int64) / (own_W q0 q1 p2 p3)))), (if (p3 &&& (1 : Int32)) = (0 : Int32) then .unset else .second), (if (p3 &&& (1 : Int32)) = (0 : Int32) then .unset else .val (.long ((((p3 >>> ((1 : Int32) &&& 31)) &&& (7 : Int32)).toInt64) - (4 : Int64)))), (if (p3 &&& (1 : Int32)) = (0 : Int32) then .unset else .second)] [(.int (lcmpW (own_I q0 q1 p2 p3) (0 : Int64)))])) _
    exact k
  refine own_go (T' := T1) (f' := (mkF m 114 #[.val (.long q0), .second, .val (.long q1), .second, .val (.int p2), .val (.int p3), .val (.long (own_W q0 q1 p2 p3)), .second, .val (.long (if (own_I q0 q1 p2 p3) < (0 : Int64) then (if ((own_I q0 q1 p2 p3) + (1 : Int64)) < ((-9223372036854775808 : Int64) / (own_W q0 q1 p2 p3)) then ((own_I q0 q1 p2 p3) / (own_W q0 q1 p2 p3)) else (own_I q0 q1 p2 p3)) else (own_I q0 q1 p2 p3))), .second, (if (p3 &&& (1 : Int32)) = (0 : Int32) then .unset else .val (.long ((9223372036854775807 : Int64) / (own_W q0 q1 p2 p3)))), (if (p3 &&& (1 : Int32)) = (0 : Int32) then .unset else .second), (if (p3 &&& (1 : Int32)) = (0 : Int32) then .unset else .val (.long ((((p3 >>> ((1 : Int32) &&& 31)) &&& (7 : Int32)).toInt64) - (4 : Int64)))), (if (p3 &&& (1 : Int32)) = (0 : Int32) then .unset else .second)] [])) (fun t k => ?_) ?_
  · show Steps p.tables e below (T1.setTop (mkF m 90 #[.val (.long q0), .second, .val (.long q1), .second, .val (.int p2), .val (.int p3), .val (.long (own_W q0 q1 p2 p3)), .second, .val (.long (own_I q0 q1 p2 p3)), .second, (if (p3 &&& (1 : Int32)) = (0 : Int32) then .unset else .val (.long ((9223372036854775807 : Int64) / (own_W q0 q1 p2 p3)))), (if (p3 &&& (1 : Int32)) = (0 : Int32) then .unset else .second), (if (p3 &&& (1 : Int32)) = (0 : Int32) then .unset else .val (.long ((((p3 >>> ((1 : Int32) &&& 31)) &&& (7 : Int32)).toInt64) - (4 : Int64)))), (if (p3 &&& (1 : Int32)) = (0 : Int32) then .unset else .second)] [(.int (lcmpW (own_I q0 q1 p2 p3) (0 : Int64)))])) _
    by_cases hc90_5 : (own_I q0 q1 p2 p3) < (0 : Int64)
    · skip
      refine XS.ifNo X1.here hx rfl (hb hby at_90) rfl ((if0 _ _).trans (tlt ((lw_lt (own_I q0 q1 p2 p3) (0 : Int64)).mpr hc90_5)).2.1) ?_
      show Steps p.tables e below (T1.setTop (mkF m 93 #[.val (.long q0), .second, .val (.long q1), .second, .val (.int p2), .val (.int p3), .val (.long (own_W q0 q1 p2 p3)), .second, .val (.long (own_I q0 q1 p2 p3)), .second, (if (p3 &&& (1 : Int32)) = (0 : Int32) then .unset else .val (.long ((9223372036854775807 : Int64) / (own_W q0 q1 p2 p3)))), (if (p3 &&& (1 : Int32)) = (0 : Int32) then .unset else .second), (if (p3 &&& (1 : Int32)) = (0 : Int32) then .unset else .val (.long ((((p3 >>> ((1 : Int32) &&& 31)) &&& (7 : Int32)).toInt64) - (4 : Int64)))), (if (p3 &&& (1 : Int32)) = (0 : Int32) then .unset else .second)] [])) _
      refine XS.lload X1.here hx rfl (hb hby at_93) rfl ?_
      show Steps p.tables e below (T1.setTop (mkF m 95 #[.val (.long q0), .second, .val (.long q1), .second, .val (.int p2), .val (.int p3), .val (.long (own_W q0 q1 p2 p3)), .second, .val (.long (own_I q0 q1 p2 p3)), .second, (if (p3 &&& (1 : Int32)) = (0 : Int32) then .unset else .val (.long ((9223372036854775807 : Int64) / (own_W q0 q1 p2 p3)))), (if (p3 &&& (1 : Int32)) = (0 : Int32) then .unset else .second), (if (p3 &&& (1 : Int32)) = (0 : Int32) then .unset else .val (.long ((((p3 >>> ((1 : Int32) &&& 31)) &&& (7 : Int32)).toInt64) - (4 : Int64)))), (if (p3 &&& (1 : Int32)) = (0 : Int32) then .unset else .second)] [(.long (own_I q0 q1 p2 p3))])) _
      refine XS.lconst X1.here hx rfl (hb hby at_95) ?_
      show Steps p.tables e below (T1.setTop (mkF m 96 #[.val (.long q0), .second, .val (.long q1), .second, .val (.int p2), .val (.int p3), .val (.long (own_W q0 q1 p2 p3)), .second, .val (.long (own_I q0 q1 p2 p3)), .second, (if (p3 &&& (1 : Int32)) = (0 : Int32) then .unset else .val (.long ((9223372036854775807 : Int64) / (own_W q0 q1 p2 p3)))), (if (p3 &&& (1 : Int32)) = (0 : Int32) then .unset else .second), (if (p3 &&& (1 : Int32)) = (0 : Int32) then .unset else .val (.long ((((p3 >>> ((1 : Int32) &&& 31)) &&& (7 : Int32)).toInt64) - (4 : Int64)))), (if (p3 &&& (1 : Int32)) = (0 : Int32) then .unset else .second)] [(.long (1 : Int64)), (.long (own_I q0 q1 p2 p3))])) _
      refine XS.ladd X1.here hx rfl (hb hby at_96) rfl ?_
      show Steps p.tables e below (T1.setTop (mkF m 97 #[.val (.long q0), .second, .val (.long q1), .second, .val (.int p2), .val (.int p3), .val (.long (own_W q0 q1 p2 p3)), .second, .val (.long (own_I q0 q1 p2 p3)), .second, (if (p3 &&& (1 : Int32)) = (0 : Int32) then .unset else .val (.long ((9223372036854775807 : Int64) / (own_W q0 q1 p2 p3)))), (if (p3 &&& (1 : Int32)) = (0 : Int32) then .unset else .second), (if (p3 &&& (1 : Int32)) = (0 : Int32) then .unset else .val (.long ((((p3 >>> ((1 : Int32) &&& 31)) &&& (7 : Int32)).toInt64) - (4 : Int64)))), (if (p3 &&& (1 : Int32)) = (0 : Int32) then .unset else .second)] [(.long ((own_I q0 q1 p2 p3) + (1 : Int64)))])) _
      refine X1.ldc2Long hx hown (mvT hZ (hw _ (List.mem_of_getElem? (i := 15) rfl))) (g := (mkF m 97 #[.val (.long q0), .second, .val (.long q1), .second, .val (.int p2), .val (.int p3), .val (.long (own_W q0 q1 p2 p3)), .second, .val (.long (own_I q0 q1 p2 p3)), .second, (if (p3 &&& (1 : Int32)) = (0 : Int32) then .unset else .val (.long ((9223372036854775807 : Int64) / (own_W q0 q1 p2 p3)))), (if (p3 &&& (1 : Int32)) = (0 : Int32) then .unset else .second), (if (p3 &&& (1 : Int32)) = (0 : Int32) then .unset else .val (.long ((((p3 >>> ((1 : Int32) &&& 31)) &&& (7 : Int32)).toInt64) - (4 : Int64)))), (if (p3 &&& (1 : Int32)) = (0 : Int32) then .unset else .second)] [(.long ((own_I q0 q1 p2 p3) + (1 : Int64)))])) rfl (hb hby at_97) _ ?_
      show Steps p.tables e below (T1.setTop (mkF m 100 #[.val (.long q0), .second, .val (.long q1), .second, .val (.int p2), .val (.int p3), .val (.long (own_W q0 q1 p2 p3)), .second, .val (.long (own_I q0 q1 p2 p3)), .second, (if (p3 &&& (1 : Int32)) = (0 : Int32) then .unset else .val (.long ((9223372036854775807 : Int64) / (own_W q0 q1 p2 p3)))), (if (p3 &&& (1 : Int32)) = (0 : Int32) then .unset else .second), (if (p3 &&& (1 : Int32)) = (0 : Int32) then .unset else .val (.long ((((p3 >>> ((1 : Int32) &&& 31)) &&& (7 : Int32)).toInt64) - (4 : Int64)))), (if (p3 &&& (1 : Int32)) = (0 : Int32) then .unset else .second)] [(.long (-9223372036854775808 : Int64)), (.long ((own_I q0 q1 p2 p3) + (1 : Int64)))])) _
      refine XS.lload X1.here hx rfl (hb hby at_100) rfl ?_
      show Steps p.tables e below (T1.setTop (mkF m 102 #[.val (.long q0), .second, .val (.long q1), .second, .val (.int p2), .val (.int p3), .val (.long (own_W q0 q1 p2 p3)), .second, .val (.long (own_I q0 q1 p2 p3)), .second, (if (p3 &&& (1 : Int32)) = (0 : Int32) then .unset else .val (.long ((9223372036854775807 : Int64) / (own_W q0 q1 p2 p3)))), (if (p3 &&& (1 : Int32)) = (0 : Int32) then .unset else .second), (if (p3 &&& (1 : Int32)) = (0 : Int32) then .unset else .val (.long ((((p3 >>> ((1 : Int32) &&& 31)) &&& (7 : Int32)).toInt64) - (4 : Int64)))), (if (p3 &&& (1 : Int32)) = (0 : Int32) then .unset else .second)] [(.long (own_W q0 q1 p2 p3)), (.long (-9223372036854775808 : Int64)), (.long ((own_I q0 q1 p2 p3) + (1 : Int64)))])) _
      refine XS.ldiv X1.here hx rfl (hb hby at_102) rfl (own_wne _) ?_
      show Steps p.tables e below (T1.setTop (mkF m 103 #[.val (.long q0), .second, .val (.long q1), .second, .val (.int p2), .val (.int p3), .val (.long (own_W q0 q1 p2 p3)), .second, .val (.long (own_I q0 q1 p2 p3)), .second, (if (p3 &&& (1 : Int32)) = (0 : Int32) then .unset else .val (.long ((9223372036854775807 : Int64) / (own_W q0 q1 p2 p3)))), (if (p3 &&& (1 : Int32)) = (0 : Int32) then .unset else .second), (if (p3 &&& (1 : Int32)) = (0 : Int32) then .unset else .val (.long ((((p3 >>> ((1 : Int32) &&& 31)) &&& (7 : Int32)).toInt64) - (4 : Int64)))), (if (p3 &&& (1 : Int32)) = (0 : Int32) then .unset else .second)] [(.long ((-9223372036854775808 : Int64) / (own_W q0 q1 p2 p3))), (.long ((own_I q0 q1 p2 p3) + (1 : Int64)))])) _
      refine XS.lcmp X1.here hx rfl (hb hby at_103) rfl ?_
      show Steps p.tables e below (T1.setTop (mkF m 104 #[.val (.long q0), .second, .val (.long q1), .second, .val (.int p2), .val (.int p3), .val (.long (own_W q0 q1 p2 p3)), .second, .val (.long (own_I q0 q1 p2 p3)), .second, (if (p3 &&& (1 : Int32)) = (0 : Int32) then .unset else .val (.long ((9223372036854775807 : Int64) / (own_W q0 q1 p2 p3)))), (if (p3 &&& (1 : Int32)) = (0 : Int32) then .unset else .second), (if (p3 &&& (1 : Int32)) = (0 : Int32) then .unset else .val (.long ((((p3 >>> ((1 : Int32) &&& 31)) &&& (7 : Int32)).toInt64) - (4 : Int64)))), (if (p3 &&& (1 : Int32)) = (0 : Int32) then .unset else .second)] [(.int (lcmpW ((own_I q0 q1 p2 p3) + (1 : Int64)) ((-9223372036854775808 : Int64) / (own_W q0 q1 p2 p3))))])) _
      by_cases hc104_6 : ((own_I q0 q1 p2 p3) + (1 : Int64)) < ((-9223372036854775808 : Int64) / (own_W q0 q1 p2 p3))
      · skip
        refine XS.ifNo X1.here hx rfl (hb hby at_104) rfl ((if0 _ _).trans (tlt ((lw_lt ((own_I q0 q1 p2 p3) + (1 : Int64)) ((-9223372036854775808 : Int64) / (own_W q0 q1 p2 p3))).mpr hc104_6)).2.1) ?_
        show Steps p.tables e below (T1.setTop (mkF m 107 #[.val (.long q0), .second, .val (.long q1), .second, .val (.int p2), .val (.int p3), .val (.long (own_W q0 q1 p2 p3)), .second, .val (.long (own_I q0 q1 p2 p3)), .second, (if (p3 &&& (1 : Int32)) = (0 : Int32) then .unset else .val (.long ((9223372036854775807 : Int64) / (own_W q0 q1 p2 p3)))), (if (p3 &&& (1 : Int32)) = (0 : Int32) then .unset else .second), (if (p3 &&& (1 : Int32)) = (0 : Int32) then .unset else .val (.long ((((p3 >>> ((1 : Int32) &&& 31)) &&& (7 : Int32)).toInt64) - (4 : Int64)))), (if (p3 &&& (1 : Int32)) = (0 : Int32) then .unset else .second)] [])) _
        refine XS.lload X1.here hx rfl (hb hby at_107) rfl ?_
        show Steps p.tables e below (T1.setTop (mkF m 109 #[.val (.long q0), .second, .val (.long q1), .second, .val (.int p2), .val (.int p3), .val (.long (own_W q0 q1 p2 p3)), .second, .val (.long (own_I q0 q1 p2 p3)), .second, (if (p3 &&& (1 : Int32)) = (0 : Int32) then .unset else .val (.long ((9223372036854775807 : Int64) / (own_W q0 q1 p2 p3)))), (if (p3 &&& (1 : Int32)) = (0 : Int32) then .unset else .second), (if (p3 &&& (1 : Int32)) = (0 : Int32) then .unset else .val (.long ((((p3 >>> ((1 : Int32) &&& 31)) &&& (7 : Int32)).toInt64) - (4 : Int64)))), (if (p3 &&& (1 : Int32)) = (0 : Int32) then .unset else .second)] [(.long (own_I q0 q1 p2 p3))])) _
        refine XS.lload X1.here hx rfl (hb hby at_109) rfl ?_
        show Steps p.tables e below (T1.setTop (mkF m 111 #[.val (.long q0), .second, .val (.long q1), .second, .val (.int p2), .val (.int p3), .val (.long (own_W q0 q1 p2 p3)), .second, .val (.long (own_I q0 q1 p2 p3)), .second, (if (p3 &&& (1 : Int32)) = (0 : Int32) then .unset else .val (.long ((9223372036854775807 : Int64) / (own_W q0 q1 p2 p3)))), (if (p3 &&& (1 : Int32)) = (0 : Int32) then .unset else .second), (if (p3 &&& (1 : Int32)) = (0 : Int32) then .unset else .val (.long ((((p3 >>> ((1 : Int32) &&& 31)) &&& (7 : Int32)).toInt64) - (4 : Int64)))), (if (p3 &&& (1 : Int32)) = (0 : Int32) then .unset else .second)] [(.long (own_W q0 q1 p2 p3)), (.long (own_I q0 q1 p2 p3))])) _
        refine XS.ldiv X1.here hx rfl (hb hby at_111) rfl (own_wne _) ?_
        show Steps p.tables e below (T1.setTop (mkF m 112 #[.val (.long q0), .second, .val (.long q1), .second, .val (.int p2), .val (.int p3), .val (.long (own_W q0 q1 p2 p3)), .second, .val (.long (own_I q0 q1 p2 p3)), .second, (if (p3 &&& (1 : Int32)) = (0 : Int32) then .unset else .val (.long ((9223372036854775807 : Int64) / (own_W q0 q1 p2 p3)))), (if (p3 &&& (1 : Int32)) = (0 : Int32) then .unset else .second), (if (p3 &&& (1 : Int32)) = (0 : Int32) then .unset else .val (.long ((((p3 >>> ((1 : Int32) &&& 31)) &&& (7 : Int32)).toInt64) - (4 : Int64)))), (if (p3 &&& (1 : Int32)) = (0 : Int32) then .unset else .second)] [(.long ((own_I q0 q1 p2 p3) / (own_W q0 q1 p2 p3)))])) _
        refine XS.lstore X1.here hx rfl (hb hby at_112) rfl (l' := #[.val (.long q0), .second, .val (.long q1), .second, .val (.int p2), .val (.int p3), .val (.long (own_W q0 q1 p2 p3)), .second, .val (.long ((own_I q0 q1 p2 p3) / (own_W q0 q1 p2 p3))), .second, (if (p3 &&& (1 : Int32)) = (0 : Int32) then .unset else .val (.long ((9223372036854775807 : Int64) / (own_W q0 q1 p2 p3)))), (if (p3 &&& (1 : Int32)) = (0 : Int32) then .unset else .second), (if (p3 &&& (1 : Int32)) = (0 : Int32) then .unset else .val (.long ((((p3 >>> ((1 : Int32) &&& 31)) &&& (7 : Int32)).toInt64) - (4 : Int64)))), (if (p3 &&& (1 : Int32)) = (0 : Int32) then .unset else .second)]) rfl ?_
        show Steps p.tables e below (T1.setTop (mkF m 114 #[.val (.long q0), .second, .val (.long q1), .second, .val (.int p2), .val (.int p3), .val (.long (own_W q0 q1 p2 p3)), .second, .val (.long ((own_I q0 q1 p2 p3) / (own_W q0 q1 p2 p3))), .second, (if (p3 &&& (1 : Int32)) = (0 : Int32) then .unset else .val (.long ((9223372036854775807 : Int64) / (own_W q0 q1 p2 p3)))), (if (p3 &&& (1 : Int32)) = (0 : Int32) then .unset else .second), (if (p3 &&& (1 : Int32)) = (0 : Int32) then .unset else .val (.long ((((p3 >>> ((1 : Int32) &&& 31)) &&& (7 : Int32)).toInt64) - (4 : Int64)))), (if (p3 &&& (1 : Int32)) = (0 : Int32) then .unset else .second)] [])) _
        simp only [if_pos hc90_5, if_pos hc104_6] at k
        exact k
      · skip
        refine XS.ifYes X1.here hx rfl (pc0 := 104) (pc' := 114) rfl (hb hby at_104) rfl ((if0 _ _).trans (flt (fun q => hc104_6 ((lw_lt ((own_I q0 q1 p2 p3) + (1 : Int64)) ((-9223372036854775808 : Int64) / (own_W q0 q1 p2 p3))).mp q))).2.1) (by decide) (by decide) ?_
        show Steps p.tables e below (T1.setTop (mkF m 114 #[.val (.long q0), .second, .val (.long q1), .second, .val (.int p2), .val (.int p3), .val (.long (own_W q0 q1 p2 p3)), .second, .val (.long (own_I q0 q1 p2 p3)), .second, (if (p3 &&& (1 : Int32)) = (0 : Int32) then .unset else .val (.long ((9223372036854775807 : Int64) / (own_W q0 q1 p2 p3)))), (if (p3 &&& (1 : Int32)) = (0 : Int32) then .unset else .second), (if (p3 &&& (1 : Int32)) = (0 : Int32) then .unset else .val (.long ((((p3 >>> ((1 : Int32) &&& 31)) &&& (7 : Int32)).toInt64) - (4 : Int64)))), (if (p3 &&& (1 : Int32)) = (0 : Int32) then .unset else .second)] [])) _
        simp only [if_pos hc90_5, if_neg hc104_6] at k
        exact k
    · skip
      refine XS.ifYes X1.here hx rfl (pc0 := 90) (pc' := 114) rfl (hb hby at_90) rfl ((if0 _ _).trans (flt (fun q => hc90_5 ((lw_lt (own_I q0 q1 p2 p3) (0 : Int64)).mp q))).2.1) (by decide) (by decide) ?_
      show Steps p.tables e below (T1.setTop (mkF m 114 #[.val (.long q0), .second, .val (.long q1), .second, .val (.int p2), .val (.int p3), .val (.long (own_W q0 q1 p2 p3)), .second, .val (.long (own_I q0 q1 p2 p3)), .second, (if (p3 &&& (1 : Int32)) = (0 : Int32) then .unset else .val (.long ((9223372036854775807 : Int64) / (own_W q0 q1 p2 p3)))), (if (p3 &&& (1 : Int32)) = (0 : Int32) then .unset else .second), (if (p3 &&& (1 : Int32)) = (0 : Int32) then .unset else .val (.long ((((p3 >>> ((1 : Int32) &&& 31)) &&& (7 : Int32)).toInt64) - (4 : Int64)))), (if (p3 &&& (1 : Int32)) = (0 : Int32) then .unset else .second)] [])) _
      simp only [if_neg hc90_5] at k
      exact k
  refine own_go (T' := T1) (f' := (mkF m 114 #[.val (.long q0), .second, .val (.long q1), .second, .val (.int p2), .val (.int p3), .val (.long (own_W q0 q1 p2 p3)), .second, .val (.long (own_J q0 q1 p2 p3)), .second, (if (p3 &&& (1 : Int32)) = (0 : Int32) then .unset else .val (.long ((9223372036854775807 : Int64) / (own_W q0 q1 p2 p3)))), (if (p3 &&& (1 : Int32)) = (0 : Int32) then .unset else .second), (if (p3 &&& (1 : Int32)) = (0 : Int32) then .unset else .val (.long ((((p3 >>> ((1 : Int32) &&& 31)) &&& (7 : Int32)).toInt64) - (4 : Int64)))), (if (p3 &&& (1 : Int32)) = (0 : Int32) then .unset else .second)] [])) (fun t k => k) ?_
  refine own_go (T' := T1) (f' := (mkF m 118 #[.val (.long q0), .second, .val (.long q1), .second, .val (.int p2), .val (.int p3), .val (.long (own_W q0 q1 p2 p3)), .second, .val (.long (own_J q0 q1 p2 p3)), .second, (if (p3 &&& (1 : Int32)) = (0 : Int32) then .unset else .val (.long ((9223372036854775807 : Int64) / (own_W q0 q1 p2 p3)))), (if (p3 &&& (1 : Int32)) = (0 : Int32) then .unset else .second), (if (p3 &&& (1 : Int32)) = (0 : Int32) then .unset else .val (.long ((((p3 >>> ((1 : Int32) &&& 31)) &&& (7 : Int32)).toInt64) - (4 : Int64)))), (if (p3 &&& (1 : Int32)) = (0 : Int32) then .unset else .second)] [(.long (own_W q0 q1 p2 p3)), (.long (own_J q0 q1 p2 p3))])) (fun t k => ?_) ?_
  · show Steps p.tables e below (T1.setTop (mkF m 114 #[.val (.long q0), .second, .val (.long q1), .second, .val (.int p2), .val (.int p3), .val (.long (own_W q0 q1 p2 p3)), .second, .val (.long (own_J q0 q1 p2 p3)), .second, (if (p3 &&& (1 : Int32)) = (0 : Int32) then .unset else .val (.long ((9223372036854775807 : Int64) / (own_W q0 q1 p2 p3)))), (if (p3 &&& (1 : Int32)) = (0 : Int32) then .unset else .second), (if (p3 &&& (1 : Int32)) = (0 : Int32) then .unset else .val (.long ((((p3 >>> ((1 : Int32) &&& 31)) &&& (7 : Int32)).toInt64) - (4 : Int64)))), (if (p3 &&& (1 : Int32)) = (0 : Int32) then .unset else .second)] [])) _
    refine XS.lload X1.here hx rfl (hb hby at_114) rfl ?_
    show Steps p.tables e below (T1.setTop (mkF m 116 #[.val (.long q0), .second, .val (.long q1), .second, .val (.int p2), .val (.int p3), .val (.long (own_W q0 q1 p2 p3)), .second, .val (.long (own_J q0 q1 p2 p3)), .second, (if (p3 &&& (1 : Int32)) = (0 : Int32) then .unset else .val (.long ((9223372036854775807 : Int64) / (own_W q0 q1 p2 p3)))), (if (p3 &&& (1 : Int32)) = (0 : Int32) then .unset else .second), (if (p3 &&& (1 : Int32)) = (0 : Int32) then .unset else .val (.long ((((p3 >>> ((1 : Int32) &&& 31)) &&& (7 : Int32)).toInt64) - (4 : Int64)))), (if (p3 &&& (1 : Int32)) = (0 : Int32) then .unset else .second)] [(.long (own_J q0 q1 p2 p3))])) _
    refine XS.lload X1.here hx rfl (hb hby at_116) rfl ?_
    show Steps p.tables e below (T1.setTop (mkF m 118 #[.val (.long q0), .second, .val (.long q1), .second, .val (.int p2), .val (.int p3), .val (.long (own_W q0 q1 p2 p3)), .second, .val (.long (own_J q0 q1 p2 p3)), .second, (if (p3 &&& (1 : Int32)) = (0 : Int32) then .unset else .val (.long ((9223372036854775807 : Int64) / (own_W q0 q1 p2 p3)))), (if (p3 &&& (1 : Int32)) = (0 : Int32) then .unset else .second), (if (p3 &&& (1 : Int32)) = (0 : Int32) then .unset else .val (.long ((((p3 >>> ((1 : Int32) &&& 31)) &&& (7 : Int32)).toInt64) - (4 : Int64)))), (if (p3 &&& (1 : Int32)) = (0 : Int32) then .unset else .second)] [(.long (own_W q0 q1 p2 p3)), (.long (own_J q0 q1 p2 p3))])) _
    exact k
  obtain ⟨_, _, ⟨T7, Lq7, kq7, nq7⟩, -, X7, ⟨Lc7, hQ7, lq7, yq7, zq7⟩, st7⟩ := Jvm.LawKit.callS X1 hx (y := (⟨"com/example/lid_on_load/lidonload/limit/Limiters", "windowEnd", "(JJ)J"⟩ : MethodName)) hown (mvT hZ (hw _ (List.mem_of_getElem? (i := 6) rfl))) (mvT hZ (hw _ (List.mem_of_getElem? (i := 7) rfl))) (mvT hZ (hw _ (List.mem_of_getElem? (i := 8) rfl))) (mvT hZ (hw _ (List.mem_of_getElem? (i := 9) rfl))) (by decide) (backOf (W := 0) (own_rm2 l Z a0 hw [] ((own_J q0 q1 p2 p3)) ((own_W q0 q1 p2 p3))  h0 n0 Z0 (own_wne _)) hZ (hw _ (List.mem_of_getElem? (i := 9) rfl)) (hw _ (List.mem_of_getElem? (i := 8) rfl)) (by decide) (by decide)) (g := (mkF m 118 #[.val (.long q0), .second, .val (.long q1), .second, .val (.int p2), .val (.int p3), .val (.long (own_W q0 q1 p2 p3)), .second, .val (.long (own_J q0 q1 p2 p3)), .second, (if (p3 &&& (1 : Int32)) = (0 : Int32) then .unset else .val (.long ((9223372036854775807 : Int64) / (own_W q0 q1 p2 p3)))), (if (p3 &&& (1 : Int32)) = (0 : Int32) then .unset else .second), (if (p3 &&& (1 : Int32)) = (0 : Int32) then .unset else .val (.long ((((p3 >>> ((1 : Int32) &&& 31)) &&& (7 : Int32)).toInt64) - (4 : Int64)))), (if (p3 &&& (1 : Int32)) = (0 : Int32) then .unset else .second)] [(.long (own_W q0 q1 p2 p3)), (.long (own_J q0 q1 p2 p3))])) rfl (by rw [hml]; rfl) (argsL := [(.long (own_J q0 q1 p2 p3)), (.long (own_W q0 q1 p2 p3))]) (rest := []) (lenOf own_pd0 rfl) rfl (by show 2 * 0 + _ ≤ _; exact Nat.le_of_eq rfl) (hb hby at_118) (fun _ _ => ⟨rfl, h1q, (by decide : 0 + 0 ≤ _), (by decide : 0 + 0 ≤ _)⟩)
  dsimp only [Pt.U, Pt.locs, Pt.cells, Pt.slots] at X7 lq7 yq7 zq7 st7 hQ7
  subst lq7 yq7 zq7
  obtain ⟨rfl, N7q, h7q⟩ := hQ7
  have N7 := Fr.app N1 N7q
  refine own_go (T' := T7) (f' := (mkF m 121 #[.val (.long q0), .second, .val (.long q1), .second, .val (.int p2), .val (.int p3), .val (.long (own_W q0 q1 p2 p3)), .second, .val (.long (own_J q0 q1 p2 p3)), .second, (if (p3 &&& (1 : Int32)) = (0 : Int32) then .unset else .val (.long ((9223372036854775807 : Int64) / (own_W q0 q1 p2 p3)))), (if (p3 &&& (1 : Int32)) = (0 : Int32) then .unset else .second), (if (p3 &&& (1 : Int32)) = (0 : Int32) then .unset else .val (.long ((((p3 >>> ((1 : Int32) &&& 31)) &&& (7 : Int32)).toInt64) - (4 : Int64)))), (if (p3 &&& (1 : Int32)) = (0 : Int32) then .unset else .second)] [(.long (own_F2 (own_J q0 q1 p2 p3) (own_W q0 q1 p2 p3)))])) (fun t k => st7 _ k) ?_
  refine own_go (T' := T7) (f' := (mkF m 125 #[.val (.long q0), .second, .val (.long q1), .second, .val (.int p2), .val (.int p3), .val (.long (own_W q0 q1 p2 p3)), .second, .val (.long (own_J q0 q1 p2 p3)), .second, (if (p3 &&& (1 : Int32)) = (0 : Int32) then .unset else .val (.long ((9223372036854775807 : Int64) / (own_W q0 q1 p2 p3)))), (if (p3 &&& (1 : Int32)) = (0 : Int32) then .unset else .second), (if (p3 &&& (1 : Int32)) = (0 : Int32) then .unset else .val (.long ((((p3 >>> ((1 : Int32) &&& 31)) &&& (7 : Int32)).toInt64) - (4 : Int64)))), (if (p3 &&& (1 : Int32)) = (0 : Int32) then .unset else .second)] [(.long (own_W q0 q1 p2 p3)), (.long (own_J q0 q1 p2 p3)), (.long (own_F2 (own_J q0 q1 p2 p3) (own_W q0 q1 p2 p3)))])) (fun t k => ?_) ?_
  · show Steps p.tables e below (T7.setTop (mkF m 121 #[.val (.long q0), .second, .val (.long q1), .second, .val (.int p2), .val (.int p3), .val (.long (own_W q0 q1 p2 p3)), .second, .val (.long (own_J q0 q1 p2 p3)), .second, (if (p3 &&& (1 : Int32)) = (0 : Int32) then .unset else .val (.long ((9223372036854775807 : Int64) / (own_W q0 q1 p2 p3)))), (if (p3 &&& (1 : Int32)) = (0 : Int32) then .unset else .second), (if (p3 &&& (1 : Int32)) = (0 : Int32) then .unset else .val (.long ((((p3 >>> ((1 : Int32) &&& 31)) &&& (7 : Int32)).toInt64) - (4 : Int64)))), (if (p3 &&& (1 : Int32)) = (0 : Int32) then .unset else .second)] [(.long (own_F2 (own_J q0 q1 p2 p3) (own_W q0 q1 p2 p3)))])) _
    refine XS.lload X7.here hx rfl (hb hby at_121) rfl ?_
    show Steps p.tables e below (T7.setTop (mkF m 123 #[.val (.long q0), .second, .val (.long q1), .second, .val (.int p2), .val (.int p3), .val (.long (own_W q0 q1 p2 p3)), .second, .val (.long (own_J q0 q1 p2 p3)), .second, (if (p3 &&& (1 : Int32)) = (0 : Int32) then .unset else .val (.long ((9223372036854775807 : Int64) / (own_W q0 q1 p2 p3)))), (if (p3 &&& (1 : Int32)) = (0 : Int32) then .unset else .second), (if (p3 &&& (1 : Int32)) = (0 : Int32) then .unset else .val (.long ((((p3 >>> ((1 : Int32) &&& 31)) &&& (7 : Int32)).toInt64) - (4 : Int64)))), (if (p3 &&& (1 : Int32)) = (0 : Int32) then .unset else .second)] [(.long (own_J q0 q1 p2 p3)), (.long (own_F2 (own_J q0 q1 p2 p3) (own_W q0 q1 p2 p3)))])) _
    refine XS.lload X7.here hx rfl (hb hby at_123) rfl ?_
    show Steps p.tables e below (T7.setTop (mkF m 125 #[.val (.long q0), .second, .val (.long q1), .second, .val (.int p2), .val (.int p3), .val (.long (own_W q0 q1 p2 p3)), .second, .val (.long (own_J q0 q1 p2 p3)), .second, (if (p3 &&& (1 : Int32)) = (0 : Int32) then .unset else .val (.long ((9223372036854775807 : Int64) / (own_W q0 q1 p2 p3)))), (if (p3 &&& (1 : Int32)) = (0 : Int32) then .unset else .second), (if (p3 &&& (1 : Int32)) = (0 : Int32) then .unset else .val (.long ((((p3 >>> ((1 : Int32) &&& 31)) &&& (7 : Int32)).toInt64) - (4 : Int64)))), (if (p3 &&& (1 : Int32)) = (0 : Int32) then .unset else .second)] [(.long (own_W q0 q1 p2 p3)), (.long (own_J q0 q1 p2 p3)), (.long (own_F2 (own_J q0 q1 p2 p3) (own_W q0 q1 p2 p3)))])) _
    exact k
  obtain ⟨_, _, ⟨T8, Lq8, kq8, nq8⟩, -, X8, ⟨Lc8, hQ8, lq8, yq8, zq8⟩, st8⟩ := Jvm.LawKit.callS X7 hx (y := (⟨"com/example/lid_on_load/lidonload/limit/LimitersWindowEndPinLaw", "expected", "(JJ)J"⟩ : MethodName)) hown (mvT hZ (hw _ (List.mem_of_getElem? (i := 11) rfl))) (mvT hZ (hw _ (List.mem_of_getElem? (i := 12) rfl))) (mvT hZ (hw _ (List.mem_of_getElem? (i := 13) rfl))) (mvT hZ (hw _ (List.mem_of_getElem? (i := 14) rfl))) (by decide) (backOf (W := 2) (own_rm3 l Z a0 hw [] ((own_J q0 q1 p2 p3)) ((own_W q0 q1 p2 p3))  h0 n0 Z0 (own_wne _)) hZ (hw _ (List.mem_of_getElem? (i := 14) rfl)) (hw _ (List.mem_of_getElem? (i := 13) rfl)) (by decide) (by decide)) (g := (mkF m 125 #[.val (.long q0), .second, .val (.long q1), .second, .val (.int p2), .val (.int p3), .val (.long (own_W q0 q1 p2 p3)), .second, .val (.long (own_J q0 q1 p2 p3)), .second, (if (p3 &&& (1 : Int32)) = (0 : Int32) then .unset else .val (.long ((9223372036854775807 : Int64) / (own_W q0 q1 p2 p3)))), (if (p3 &&& (1 : Int32)) = (0 : Int32) then .unset else .second), (if (p3 &&& (1 : Int32)) = (0 : Int32) then .unset else .val (.long ((((p3 >>> ((1 : Int32) &&& 31)) &&& (7 : Int32)).toInt64) - (4 : Int64)))), (if (p3 &&& (1 : Int32)) = (0 : Int32) then .unset else .second)] [(.long (own_W q0 q1 p2 p3)), (.long (own_J q0 q1 p2 p3)), (.long (own_F2 (own_J q0 q1 p2 p3) (own_W q0 q1 p2 p3)))])) rfl (by rw [hml]; rfl) (argsL := [(.long (own_J q0 q1 p2 p3)), (.long (own_W q0 q1 p2 p3))]) (rest := [(.long (own_F2 (own_J q0 q1 p2 p3) (own_W q0 q1 p2 p3)))]) (lenOf own_pd0 rfl) rfl (by show 2 * 0 + _ ≤ _; exact Nat.le_of_eq rfl) (hb hby at_125) (fun _ _ => ⟨rfl, h7q, (by decide : 0 + 0 ≤ _), (by decide : 0 + 0 ≤ _)⟩)
  dsimp only [Pt.U, Pt.locs, Pt.cells, Pt.slots] at X8 lq8 yq8 zq8 st8 hQ8
  subst lq8 yq8 zq8
  obtain ⟨rfl, N8q, h8q⟩ := hQ8
  have N8 := Fr.app N7 N8q
  refine own_go (T' := T8) (f' := (mkF m 128 #[.val (.long q0), .second, .val (.long q1), .second, .val (.int p2), .val (.int p3), .val (.long (own_W q0 q1 p2 p3)), .second, .val (.long (own_J q0 q1 p2 p3)), .second, (if (p3 &&& (1 : Int32)) = (0 : Int32) then .unset else .val (.long ((9223372036854775807 : Int64) / (own_W q0 q1 p2 p3)))), (if (p3 &&& (1 : Int32)) = (0 : Int32) then .unset else .second), (if (p3 &&& (1 : Int32)) = (0 : Int32) then .unset else .val (.long ((((p3 >>> ((1 : Int32) &&& 31)) &&& (7 : Int32)).toInt64) - (4 : Int64)))), (if (p3 &&& (1 : Int32)) = (0 : Int32) then .unset else .second)] [(.long (own_F3 (own_J q0 q1 p2 p3) (own_W q0 q1 p2 p3))), (.long (own_F2 (own_J q0 q1 p2 p3) (own_W q0 q1 p2 p3)))])) (fun t k => st8 _ k) ?_
  refine own_go (T' := T8) (f' := (mkF m 129 #[.val (.long q0), .second, .val (.long q1), .second, .val (.int p2), .val (.int p3), .val (.long (own_W q0 q1 p2 p3)), .second, .val (.long (own_J q0 q1 p2 p3)), .second, (if (p3 &&& (1 : Int32)) = (0 : Int32) then .unset else .val (.long ((9223372036854775807 : Int64) / (own_W q0 q1 p2 p3)))), (if (p3 &&& (1 : Int32)) = (0 : Int32) then .unset else .second), (if (p3 &&& (1 : Int32)) = (0 : Int32) then .unset else .val (.long ((((p3 >>> ((1 : Int32) &&& 31)) &&& (7 : Int32)).toInt64) - (4 : Int64)))), (if (p3 &&& (1 : Int32)) = (0 : Int32) then .unset else .second)] [(.int (lcmpW (own_F2 (own_J q0 q1 p2 p3) (own_W q0 q1 p2 p3)) (own_F3 (own_J q0 q1 p2 p3) (own_W q0 q1 p2 p3))))])) (fun t k => ?_) ?_
  · show Steps p.tables e below (T8.setTop (mkF m 128 #[.val (.long q0), .second, .val (.long q1), .second, .val (.int p2), .val (.int p3), .val (.long (own_W q0 q1 p2 p3)), .second, .val (.long (own_J q0 q1 p2 p3)), .second, (if (p3 &&& (1 : Int32)) = (0 : Int32) then .unset else .val (.long ((9223372036854775807 : Int64) / (own_W q0 q1 p2 p3)))), (if (p3 &&& (1 : Int32)) = (0 : Int32) then .unset else .second), (if (p3 &&& (1 : Int32)) = (0 : Int32) then .unset else .val (.long ((((p3 >>> ((1 : Int32) &&& 31)) &&& (7 : Int32)).toInt64) - (4 : Int64)))), (if (p3 &&& (1 : Int32)) = (0 : Int32) then .unset else .second)] [(.long (own_F3 (own_J q0 q1 p2 p3) (own_W q0 q1 p2 p3))), (.long (own_F2 (own_J q0 q1 p2 p3) (own_W q0 q1 p2 p3)))])) _
    refine XS.lcmp X8.here hx rfl (hb hby at_128) rfl ?_
    show Steps p.tables e below (T8.setTop (mkF m 129 #[.val (.long q0), .second, .val (.long q1), .second, .val (.int p2), .val (.int p3), .val (.long (own_W q0 q1 p2 p3)), .second, .val (.long (own_J q0 q1 p2 p3)), .second, (if (p3 &&& (1 : Int32)) = (0 : Int32) then .unset else .val (.long ((9223372036854775807 : Int64) / (own_W q0 q1 p2 p3)))), (if (p3 &&& (1 : Int32)) = (0 : Int32) then .unset else .second), (if (p3 &&& (1 : Int32)) = (0 : Int32) then .unset else .val (.long ((((p3 >>> ((1 : Int32) &&& 31)) &&& (7 : Int32)).toInt64) - (4 : Int64)))), (if (p3 &&& (1 : Int32)) = (0 : Int32) then .unset else .second)] [(.int (lcmpW (own_F2 (own_J q0 q1 p2 p3) (own_W q0 q1 p2 p3)) (own_F3 (own_J q0 q1 p2 p3) (own_W q0 q1 p2 p3))))])) _
    exact k
  by_cases hc129_9 : (own_F2 (own_J q0 q1 p2 p3) (own_W q0 q1 p2 p3)) = (own_F3 (own_J q0 q1 p2 p3) (own_W q0 q1 p2 p3))
  · skip
    refine own_go (T' := T8) (f' := (mkF m 137 #[.val (.long q0), .second, .val (.long q1), .second, .val (.int p2), .val (.int p3), .val (.long (own_W q0 q1 p2 p3)), .second, .val (.long (own_J q0 q1 p2 p3)), .second, (if (p3 &&& (1 : Int32)) = (0 : Int32) then .unset else .val (.long ((9223372036854775807 : Int64) / (own_W q0 q1 p2 p3)))), (if (p3 &&& (1 : Int32)) = (0 : Int32) then .unset else .second), (if (p3 &&& (1 : Int32)) = (0 : Int32) then .unset else .val (.long ((((p3 >>> ((1 : Int32) &&& 31)) &&& (7 : Int32)).toInt64) - (4 : Int64)))), (if (p3 &&& (1 : Int32)) = (0 : Int32) then .unset else .second)] [(.int (1 : Int32))])) (fun t k => ?_) ?_
    · show Steps p.tables e below (T8.setTop (mkF m 129 #[.val (.long q0), .second, .val (.long q1), .second, .val (.int p2), .val (.int p3), .val (.long (own_W q0 q1 p2 p3)), .second, .val (.long (own_J q0 q1 p2 p3)), .second, (if (p3 &&& (1 : Int32)) = (0 : Int32) then .unset else .val (.long ((9223372036854775807 : Int64) / (own_W q0 q1 p2 p3)))), (if (p3 &&& (1 : Int32)) = (0 : Int32) then .unset else .second), (if (p3 &&& (1 : Int32)) = (0 : Int32) then .unset else .val (.long ((((p3 >>> ((1 : Int32) &&& 31)) &&& (7 : Int32)).toInt64) - (4 : Int64)))), (if (p3 &&& (1 : Int32)) = (0 : Int32) then .unset else .second)] [(.int (lcmpW (own_F2 (own_J q0 q1 p2 p3) (own_W q0 q1 p2 p3)) (own_F3 (own_J q0 q1 p2 p3) (own_W q0 q1 p2 p3))))])) _
      refine XS.ifNo X8.here hx rfl (hb hby at_129) rfl ((if0 _ _).trans (teq ((lw_eq (own_F2 (own_J q0 q1 p2 p3) (own_W q0 q1 p2 p3)) (own_F3 (own_J q0 q1 p2 p3) (own_W q0 q1 p2 p3))).mpr hc129_9)).2) ?_
      show Steps p.tables e below (T8.setTop (mkF m 132 #[.val (.long q0), .second, .val (.long q1), .second, .val (.int p2), .val (.int p3), .val (.long (own_W q0 q1 p2 p3)), .second, .val (.long (own_J q0 q1 p2 p3)), .second, (if (p3 &&& (1 : Int32)) = (0 : Int32) then .unset else .val (.long ((9223372036854775807 : Int64) / (own_W q0 q1 p2 p3)))), (if (p3 &&& (1 : Int32)) = (0 : Int32) then .unset else .second), (if (p3 &&& (1 : Int32)) = (0 : Int32) then .unset else .val (.long ((((p3 >>> ((1 : Int32) &&& 31)) &&& (7 : Int32)).toInt64) - (4 : Int64)))), (if (p3 &&& (1 : Int32)) = (0 : Int32) then .unset else .second)] [])) _
      refine XS.iconst X8.here hx rfl (hb hby at_132) ?_
      show Steps p.tables e below (T8.setTop (mkF m 133 #[.val (.long q0), .second, .val (.long q1), .second, .val (.int p2), .val (.int p3), .val (.long (own_W q0 q1 p2 p3)), .second, .val (.long (own_J q0 q1 p2 p3)), .second, (if (p3 &&& (1 : Int32)) = (0 : Int32) then .unset else .val (.long ((9223372036854775807 : Int64) / (own_W q0 q1 p2 p3)))), (if (p3 &&& (1 : Int32)) = (0 : Int32) then .unset else .second), (if (p3 &&& (1 : Int32)) = (0 : Int32) then .unset else .val (.long ((((p3 >>> ((1 : Int32) &&& 31)) &&& (7 : Int32)).toInt64) - (4 : Int64)))), (if (p3 &&& (1 : Int32)) = (0 : Int32) then .unset else .second)] [(.int (1 : Int32))])) _
      refine XS.goto X8.here hx rfl (pc0 := 133) (pc' := 137) rfl (hb hby at_133) (by decide) (by decide) ?_
      show Steps p.tables e below (T8.setTop (mkF m 137 #[.val (.long q0), .second, .val (.long q1), .second, .val (.int p2), .val (.int p3), .val (.long (own_W q0 q1 p2 p3)), .second, .val (.long (own_J q0 q1 p2 p3)), .second, (if (p3 &&& (1 : Int32)) = (0 : Int32) then .unset else .val (.long ((9223372036854775807 : Int64) / (own_W q0 q1 p2 p3)))), (if (p3 &&& (1 : Int32)) = (0 : Int32) then .unset else .second), (if (p3 &&& (1 : Int32)) = (0 : Int32) then .unset else .val (.long ((((p3 >>> ((1 : Int32) &&& 31)) &&& (7 : Int32)).toInt64) - (4 : Int64)))), (if (p3 &&& (1 : Int32)) = (0 : Int32) then .unset else .second)] [(.int (1 : Int32))])) _
      exact k
    obtain ⟨fs, hr, hrun, hended, hW, hsame⟩ := X8.leave (v := some (.int (1 : Int32))) (fun h => by rw [Bd.returns] at h; cases h)
    refine ⟨_, _, ?_, hrun, hended, _, _, rfl, ?_, ⟨_, rfl⟩, hW, hsame.mono (by decide) (by decide)⟩
    · exact retN X8 hx (t := .boolean) Bd.returns (by simp) (hb hby at_137) hr
    · show own_Q0 Z q0 q1 p2 p3 h0 n0 _ T8.heap _
      rw [h8q]
      exact ⟨(congrArg (fun z => some (Value.int z)) ((by rw [own_F0, if_pos hc129_9] : (1 : Int32) = own_F0 q0 q1 p2 p3).trans (own_law q0 q1 p2 p3))), N8⟩
  · skip
    refine own_go (T' := T8) (f' := (mkF m 137 #[.val (.long q0), .second, .val (.long q1), .second, .val (.int p2), .val (.int p3), .val (.long (own_W q0 q1 p2 p3)), .second, .val (.long (own_J q0 q1 p2 p3)), .second, (if (p3 &&& (1 : Int32)) = (0 : Int32) then .unset else .val (.long ((9223372036854775807 : Int64) / (own_W q0 q1 p2 p3)))), (if (p3 &&& (1 : Int32)) = (0 : Int32) then .unset else .second), (if (p3 &&& (1 : Int32)) = (0 : Int32) then .unset else .val (.long ((((p3 >>> ((1 : Int32) &&& 31)) &&& (7 : Int32)).toInt64) - (4 : Int64)))), (if (p3 &&& (1 : Int32)) = (0 : Int32) then .unset else .second)] [(.int (0 : Int32))])) (fun t k => ?_) ?_
    · show Steps p.tables e below (T8.setTop (mkF m 129 #[.val (.long q0), .second, .val (.long q1), .second, .val (.int p2), .val (.int p3), .val (.long (own_W q0 q1 p2 p3)), .second, .val (.long (own_J q0 q1 p2 p3)), .second, (if (p3 &&& (1 : Int32)) = (0 : Int32) then .unset else .val (.long ((9223372036854775807 : Int64) / (own_W q0 q1 p2 p3)))), (if (p3 &&& (1 : Int32)) = (0 : Int32) then .unset else .second), (if (p3 &&& (1 : Int32)) = (0 : Int32) then .unset else .val (.long ((((p3 >>> ((1 : Int32) &&& 31)) &&& (7 : Int32)).toInt64) - (4 : Int64)))), (if (p3 &&& (1 : Int32)) = (0 : Int32) then .unset else .second)] [(.int (lcmpW (own_F2 (own_J q0 q1 p2 p3) (own_W q0 q1 p2 p3)) (own_F3 (own_J q0 q1 p2 p3) (own_W q0 q1 p2 p3))))])) _
      refine XS.ifYes X8.here hx rfl (pc0 := 129) (pc' := 136) rfl (hb hby at_129) rfl ((if0 _ _).trans (feq (fun q => hc129_9 ((lw_eq (own_F2 (own_J q0 q1 p2 p3) (own_W q0 q1 p2 p3)) (own_F3 (own_J q0 q1 p2 p3) (own_W q0 q1 p2 p3))).mp q))).2) (by decide) (by decide) ?_
      show Steps p.tables e below (T8.setTop (mkF m 136 #[.val (.long q0), .second, .val (.long q1), .second, .val (.int p2), .val (.int p3), .val (.long (own_W q0 q1 p2 p3)), .second, .val (.long (own_J q0 q1 p2 p3)), .second, (if (p3 &&& (1 : Int32)) = (0 : Int32) then .unset else .val (.long ((9223372036854775807 : Int64) / (own_W q0 q1 p2 p3)))), (if (p3 &&& (1 : Int32)) = (0 : Int32) then .unset else .second), (if (p3 &&& (1 : Int32)) = (0 : Int32) then .unset else .val (.long ((((p3 >>> ((1 : Int32) &&& 31)) &&& (7 : Int32)).toInt64) - (4 : Int64)))), (if (p3 &&& (1 : Int32)) = (0 : Int32) then .unset else .second)] [])) _
      refine XS.iconst X8.here hx rfl (hb hby at_136) ?_
      show Steps p.tables e below (T8.setTop (mkF m 137 #[.val (.long q0), .second, .val (.long q1), .second, .val (.int p2), .val (.int p3), .val (.long (own_W q0 q1 p2 p3)), .second, .val (.long (own_J q0 q1 p2 p3)), .second, (if (p3 &&& (1 : Int32)) = (0 : Int32) then .unset else .val (.long ((9223372036854775807 : Int64) / (own_W q0 q1 p2 p3)))), (if (p3 &&& (1 : Int32)) = (0 : Int32) then .unset else .second), (if (p3 &&& (1 : Int32)) = (0 : Int32) then .unset else .val (.long ((((p3 >>> ((1 : Int32) &&& 31)) &&& (7 : Int32)).toInt64) - (4 : Int64)))), (if (p3 &&& (1 : Int32)) = (0 : Int32) then .unset else .second)] [(.int (0 : Int32))])) _
      exact k
    obtain ⟨fs, hr, hrun, hended, hW, hsame⟩ := X8.leave (v := some (.int (0 : Int32))) (fun h => by rw [Bd.returns] at h; cases h)
    refine ⟨_, _, ?_, hrun, hended, _, _, rfl, ?_, ⟨_, rfl⟩, hW, hsame.mono (by decide) (by decide)⟩
    · exact retN X8 hx (t := .boolean) Bd.returns (by simp) (hb hby at_137) hr
    · show own_Q0 Z q0 q1 p2 p3 h0 n0 _ T8.heap _
      rw [h8q]
      exact ⟨(congrArg (fun z => some (Value.int z)) ((by rw [own_F0, if_neg hc129_9] : (0 : Int32) = own_F0 q0 q1 p2 p3).trans (own_law q0 q1 p2 p3))), N8⟩
set_option maxRecDepth 65536 in
set_option maxHeartbeats 40000000 in
theorem comes_1 {Post : Tables → Env → Array Value → State → Outcome → State → Prop} (hpost : ∀ tb e args s v u, (limb_1_1.after args s (.returned v) u = true ∧ limb_1_2.after args s (.returned v) u = true ∧ True) → FrameEnd s (.returned v) u (Jvm.fieldLocs frame_1_writes args s ++ Jvm.arrayLocs frame_1_arrays args s ++ Jvm.staticLocs frame_1_statics s) 0 0 → Post tb e args s (.returned v) u) :
    ArmFor flags0 classFile x code maxLocals ret World_1 tables_1 room_1 Calls_1 rest_1 Pre_1 Post := by
  intro l hfl _ _ p e ha hc hk s m args below hf hA hF happ hP
  obtain ⟨hcalls, hrest, hpre⟩ := hP
  obtain ⟨-, -, -, hnamed, -, -, -, hat⟩ := (Spec.applies_iff hf).mp happ
  obtain ⟨hg, hn⟩ := and_e (Cond.before_iff.mp (show (Jvm.Cond.and given_1 narrow_1).before args s = true from hpre))
  obtain ⟨hcnt, g0⟩ := and_e hg
  obtain ⟨k0, g1⟩ := and_e g0
  obtain ⟨k1, g2⟩ := and_e g1
  obtain ⟨k2, g3⟩ := and_e g2
  have k3 := g3
  obtain ⟨w0, w1, w2, w3, rfl⟩ : ∃ w0 w1 w2 w3 : Value, args = #[w0, w1, w2, w3] := by
    have hs : args.size = 4 := by simpa [Cond.value, given_1] using hcnt
    obtain ⟨L⟩ := args
    match L, hs with
    | [w0, w1, w2, w3], _ => exact ⟨w0, w1, w2, w3, rfl⟩
  have hw := fun d (hd : d ∈ tables_1) => atoms_spec (ws := Jvm.Cond.code x code maxLocals ret :: tables_1) hat d (List.mem_cons_of_mem _ hd)
  obtain ⟨i0, e0⟩ := isL_v k0
  obtain rfl : w0 = (.long i0) := Option.some.inj e0
  obtain ⟨i1, e1⟩ := isL_v k1
  obtain rfl : w1 = (.long i1) := Option.some.inj e1
  obtain ⟨i2, e2⟩ := is_v k2
  obtain rfl : w2 = (.int i2) := Option.some.inj e2
  obtain ⟨i3, e3⟩ := is_v k3
  obtain rfl : w3 = (.int i3) := Option.some.inj e3
  obtain ⟨n, o, h1, h2, h3, _, L, rfl, ⟨hv, N⟩, hq⟩ := own_rm0 l s _ hw tables_1 i0 i1 i2 i3 s.heap s.heap.size (Nat.le_refl _)  p e ha hc hk s m _ below hf ((Spec.applies_iff_loose hf).mp happ).1 ⟨rfl, State.Warmed39.refl s, rfl⟩ trivial
  subst hv
  refine ⟨n, _, h1, h2, h3, hpost _ _ _ _ _ _ ⟨Cond.after_iff.mpr rfl, Cond.after_iff.mpr (eq_i res_at (Term.int_eval (1)) rfl), trivial⟩ ⟨hq.1, hq.2.1, (hq.2.2.sift fun y hy => Or.inr (N y hy)).mono (by decide) (by decide)⟩⟩
theorem main_1_1 : Claimed_1_1 := comes_1 fun _ _ _ _ _ _ h hF => ⟨h.1, hF⟩
theorem main_1_2 : Claimed_1_2 := comes_1 fun _ _ _ _ _ _ h hF => ⟨h.2.1, hF⟩
end Jvm.Pilot.@@N@@
namespace Jvm.Pilot.@@N@@
open Jvm Jvm.ClassFile Sem Op Lib Jvm.Free Jvm.Stand Jvm.Pilot.@@N@@.Jvm.D
/-! MADE BY PROGRAM (witnessworld.py) out of the Statement's table words and the real class files: 10 classes; the members and pool entries that the words name. The judged class is class 1, her method 1. -/
namespace start1
open Jvm.ClassFile
def u (s : String) : CpInfo := .utf8 (stringToUtf16 s)
/-- a pool by its gaps: so many unusable entries, then the entry; so many at the end -/
def gap : Nat → List CpInfo → List CpInfo
  | 0, r => r
  | n + 1, r => .unusable :: gap n r
def poolList (es : List (Nat × CpInfo)) (last : Nat) : List CpInfo := es.foldr (fun e r => gap e.1 (e.2 :: r)) (gap last [])
def pool (es : List (Nat × CpInfo)) (last : Nat) : Array CpInfo := ⟨poolList es last⟩
def fileOf (pool : Array CpInfo) (this : Nat) (attrs : Array Attribute := #[]) (ms : Array MethodInfo := #[]) (fl : Nat := 33) (sup : Nat := 0) (ifs : Array Nat := #[]) (fds : Array FieldInfo := #[]) : ClassFile where
  minorVersion := 0
  majorVersion := 65
  constantPool := pool
  accessFlags := fl
  thisClass := this
  superClass := sup
  interfaces := ifs
  fields := fds
  methods := ms
  attributes := attrs
def plain (name : String) (sup : Option ClassId) : Class where
  name := name
  kind := .ordinary
  loader := none
  accessFlags := 33
  super := sup
  interfaces := #[]
  cf := none
  fields := #[]
  methods := #[]
  instanceTypes := #[]
  staticTypes := #[]
  resolved := #[]
  callSites := []
  init := .initialized
  statics := none
  mirror := none

def pool0 : Array CpInfo := pool [(5, u "<init>"), (0, u "()V"), (1, .class_ 10), (1, u "java/lang/Object")] 113

def k0m0 : Method := { name := "<init>", desc := "()V", sig := { parameters := [], returnType := none }, accessFlags := 1, code := none }
/-- java/lang/Object -/
def k0 : Class := { plain "java/lang/Object" none with
  accessFlags := 33
  interfaces := #[]
  cf := some (fileOf pool0 8 #[] #[{ accessFlags := 1, nameIndex := 5, descriptorIndex := 6, attributes := #[] }] 33 0 #[] #[])
  fields := #[]
  methods := #[k0m0]
  instanceTypes := #[]
  staticTypes := #[]
  resolved := Array.replicate 124 none
  statics := none }

def pool1 : Array CpInfo := pool [(2, .class_ 4), (1, u "java/lang/Object"), (0, u "<init>"), (0, u "()V"), (2, .long 9223372036854775807), (1, .methodref 12 13), (0, .class_ 14), (0, .nameAndType 15 16), (0, u "java/lang/Math"), (0, u "max"), (0, u "(JJ)J"), (0, .long 4), (1, .long 9223372036854775808), (1, .methodref 22 23), (0, .class_ 24), (0, .nameAndType 25 16), (0, u "com/example/lid_on_load/lidonload/limit/Limiters"), (0, u "windowEnd"), (0, .methodref 27 28), (0, .class_ 29), (0, .nameAndType 30 16), (0, u "com/example/lid_on_load/lidonload/limit/LimitersWindowEndPinLaw"), (0, u "expected"), (2, u "law"), (0, u "(JJII)Z")] 3

def k1m0 : Method := { name := "<init>", desc := "()V", sig := { parameters := [], returnType := none }, accessFlags := 2, code := none }
def k1c1 : Code := { maxStack := 6, maxLocals := 14, code := code, exceptionTable := #[], attributes := #[] }
def k1m1 : Method := { name := "law", desc := "(JJII)Z", sig := { parameters := [.long, .long, .int, .int], returnType := some .boolean }, accessFlags := 9, code := some k1c1 }
def k1c2 : Code := { maxStack := 4, maxLocals := 8, code := method_3_code, exceptionTable := #[], attributes := #[] }
def k1m2 : Method := { name := "expected", desc := "(JJ)J", sig := { parameters := [.long, .long], returnType := some .long }, accessFlags := 10, code := some k1c2 }
/-- com/example/lid_on_load/lidonload/limit/LimitersWindowEndPinLaw -/
def k1 : Class := { plain "com/example/lid_on_load/lidonload/limit/LimitersWindowEndPinLaw" (some 0) with
  accessFlags := 49
  interfaces := #[]
  cf := some (fileOf pool1 27 #[] #[{ accessFlags := 2, nameIndex := 5, descriptorIndex := 6, attributes := #[] }, { accessFlags := 9, nameIndex := 33, descriptorIndex := 34, attributes := #[] }, { accessFlags := 10, nameIndex := 30, descriptorIndex := 16, attributes := #[] }] 49 2 #[] #[])
  fields := #[]
  methods := #[k1m0, k1m1, k1m2]
  instanceTypes := #[]
  staticTypes := #[]
  resolved := Array.replicate 38 none
  statics := none }

def pool2 : Array CpInfo := pool [(1, .class_ 2), (0, u "java/lang/Math"), (1, .class_ 6), (1, u "java/lang/Object"), (0, u "<init>"), (0, u "()V"), (89, .class_ 100), (1, u "java/lang/Math$RandomNumberGeneratorHolder"), (20, u "(JJ)J"), (50, u "negativeZeroFloatBits"), (0, u "J"), (2, u "negativeZeroDoubleBits"), (21, u "max"), (46, u "$assertionsDisabled"), (0, u "Z"), (91, u "twoToTheDoubleScaleDown"), (0, u "D"), (4, u "twoToTheDoubleScaleUp"), (9, u "E"), (3, u "PI"), (2, u "TAU"), (2, u "DEGREES_TO_RADIANS"), (0, u "RADIANS_TO_DEGREES")] 94

def k2m0 : Method := { name := "<init>", desc := "()V", sig := { parameters := [], returnType := none }, accessFlags := 2, code := none }
def k2c1 : Code := { maxStack := 4, maxLocals := 4, code := jdk_29_method_66_code, exceptionTable := #[], attributes := #[] }
def k2m1 : Method := { name := "max", desc := "(JJ)J", sig := { parameters := [.long, .long], returnType := some .long }, accessFlags := 9, code := some k2c1 }
/-- java/lang/Math -/
def k2 : Class := { plain "java/lang/Math" (some 0) with
  accessFlags := 49
  interfaces := #[]
  cf := some (fileOf pool2 1 #[.nestMembers #[98]] #[{ accessFlags := 2, nameIndex := 7, descriptorIndex := 8, attributes := #[] }, { accessFlags := 9, nameIndex := 198, descriptorIndex := 121, attributes := #[] }] 49 4 #[] #[{ accessFlags := 25, nameIndex := 354, descriptorIndex := 339, attributes := #[] }, { accessFlags := 25, nameIndex := 358, descriptorIndex := 339, attributes := #[] }, { accessFlags := 25, nameIndex := 361, descriptorIndex := 339, attributes := #[] }, { accessFlags := 26, nameIndex := 364, descriptorIndex := 339, attributes := #[] }, { accessFlags := 26, nameIndex := 365, descriptorIndex := 339, attributes := #[] }, { accessFlags := 26, nameIndex := 172, descriptorIndex := 173, attributes := #[] }, { accessFlags := 26, nameIndex := 176, descriptorIndex := 173, attributes := #[] }, { accessFlags := 8, nameIndex := 344, descriptorIndex := 339, attributes := #[] }, { accessFlags := 8, nameIndex := 338, descriptorIndex := 339, attributes := #[] }, { accessFlags := 4120, nameIndex := 245, descriptorIndex := 246, attributes := #[] }])
  fields := #[{ name := "E", type := .double, accessFlags := 25, slot := 0, constantValue := 0 }, { name := "PI", type := .double, accessFlags := 25, slot := 1, constantValue := 0 }, { name := "TAU", type := .double, accessFlags := 25, slot := 2, constantValue := 0 }, { name := "DEGREES_TO_RADIANS", type := .double, accessFlags := 26, slot := 3, constantValue := 0 }, { name := "RADIANS_TO_DEGREES", type := .double, accessFlags := 26, slot := 4, constantValue := 0 }, { name := "negativeZeroFloatBits", type := .long, accessFlags := 26, slot := 5, constantValue := 0 }, { name := "negativeZeroDoubleBits", type := .long, accessFlags := 26, slot := 6, constantValue := 0 }, { name := "twoToTheDoubleScaleUp", type := .double, accessFlags := 8, slot := 7, constantValue := 0 }, { name := "twoToTheDoubleScaleDown", type := .double, accessFlags := 8, slot := 8, constantValue := 0 }, { name := "$assertionsDisabled", type := .boolean, accessFlags := 4120, slot := 9, constantValue := 0 }]
  methods := #[k2m0, k2m1]
  instanceTypes := #[]
  staticTypes := #[.double, .double, .double, .double, .double, .long, .long, .double, .double, .boolean]
  resolved := Array.replicate 460 none
  statics := none }

def pool3 : Array CpInfo := pool [(2, .class_ 4), (1, u "java/lang/Object"), (0, u "<init>"), (0, u "()V"), (15, .long 9223372036854775807), (39, .class_ 63), (0, u "com/example/lid_on_load/lidonload/limit/Limiters"), (54, .class_ 120), (1, u "com/example/lid_on_load/lidonload/limit/Limiters$1"), (116, u "STRIPES"), (0, u "I"), (8, u "(JJ)J"), (1, u "windowEnd")] 64

def k3m0 : Method := { name := "<init>", desc := "()V", sig := { parameters := [], returnType := none }, accessFlags := 2, code := none }
def k3c1 : Code := { maxStack := 6, maxLocals := 4, code := prog_13_method_5_code, exceptionTable := #[], attributes := #[] }
def k3m1 : Method := { name := "windowEnd", desc := "(JJ)J", sig := { parameters := [.long, .long], returnType := some .long }, accessFlags := 8, code := some k3c1 }
/-- com/example/lid_on_load/lidonload/limit/Limiters -/
def k3 : Class := { plain "com/example/lid_on_load/lidonload/limit/Limiters" (some 0) with
  accessFlags := 49
  interfaces := #[]
  cf := some (fileOf pool3 62 #[.nestMembers #[118]] #[{ accessFlags := 2, nameIndex := 5, descriptorIndex := 6, attributes := #[] }, { accessFlags := 8, nameIndex := 249, descriptorIndex := 247, attributes := #[] }] 49 2 #[] #[{ accessFlags := 26, nameIndex := 237, descriptorIndex := 238, attributes := #[] }])
  fields := #[{ name := "STRIPES", type := .int, accessFlags := 26, slot := 0, constantValue := 0 }]
  methods := #[k3m0, k3m1]
  instanceTypes := #[]
  staticTypes := #[.int]
  resolved := Array.replicate 314 none
  statics := none }

def pool4 : Array CpInfo := pool [(1, u "java/lang/Cloneable"), (0, .class_ 1), (0, u "java/lang/Object"), (0, .class_ 3)] 3

/-- java/lang/Cloneable -/
def k4 : Class := { plain "java/lang/Cloneable" (some 0) with
  accessFlags := 1537
  interfaces := #[]
  cf := some (fileOf pool4 2 #[] #[] 1537 4 #[] #[])
  fields := #[]
  methods := #[]
  instanceTypes := #[]
  staticTypes := #[]
  resolved := Array.replicate 8 none
  statics := none }

def pool5 : Array CpInfo := pool [(1, u "java/io/Serializable"), (0, .class_ 1), (0, u "java/lang/Object"), (0, .class_ 3)] 3

/-- java/io/Serializable -/
def k5 : Class := { plain "java/io/Serializable" (some 0) with
  accessFlags := 1537
  interfaces := #[]
  cf := some (fileOf pool5 2 #[] #[] 1537 4 #[] #[])
  fields := #[]
  methods := #[]
  instanceTypes := #[]
  staticTypes := #[]
  resolved := Array.replicate 8 none
  statics := none }

/-- the primitive byte -/
def k6 : Class := { plain "byte" none with kind := .primitive 'B', accessFlags := 0x411 }
/-- [B -/
def k7 : Class := { plain "[B" (some 0) with kind := .array 6 .byte, interfaces := #[4, 5], accessFlags := 1041 }

/-- the primitive int -/
def k8 : Class := { plain "int" none with kind := .primitive 'I', accessFlags := 0x411 }
/-- [I -/
def k9 : Class := { plain "[I" (some 0) with kind := .array 8 .int, interfaces := #[4, 5], accessFlags := 1041 }

def heap : Heap := #[]
def classes : Array Class := #[k0, k1, k2, k3, k4, k5, k6, k7, k8, k9]
def interned : List (Array UInt16 × Addr) := []
def slotsUsed : Nat := 0
def theMethod : MethodId := ⟨1, 1⟩
def args0 : Array Value := #[.long 5, .long 5, .int 5, .int 5]
def aboutOver (below : List Frame) : State where
  vm := { classes := classes, interned := interned.toArray }
  heap := heap
  slotsUsed := slotsUsed
  threads := #[{ frames := .invoking theMethod args0 :: below }]
def below0 : List Frame := [.native { method := ⟨0, 0⟩, args := #[] }]
def about1 : State := aboutOver below0
def p0 : Program := .bare "" "" ""
def e0 : Env := launch0.env 0 0 0
theorem w_frames : about1.frames = Frame.invoking theMethod args0 :: below0 := rfl
set_option maxRecDepth 65536 in
theorem w_args : argsFit about1.vm theMethod args0 = true := by decide +kernel
set_option maxRecDepth 65536 in
theorem w_heap : heapFits about1 = true := by decide +kernel
set_option maxRecDepth 65536 in
theorem w_runnable : about1.curStatus? = some .runnable := by decide +kernel
set_option maxRecDepth 65536 in
theorem w_alone : about1.alone = true := by decide +kernel
set_option maxRecDepth 65536 in
theorem w_named : about1.methodNamed? x = some theMethod := by decide +kernel
set_option maxRecDepth 65536 in
theorem w_hears : about1.hears theMethod below0 = true := by decide +kernel
set_option maxRecDepth 65536 in
theorem w_ripe : about1.ripe theMethod args0 below0 = true := by decide +kernel
theorem w_running : about1.status = .running := rfl
set_option maxRecDepth 65536 in
theorem w_room : about1.hasRoom e0.platform room_1 = true :=
  launch0.hasRoom_least _ room_1 (by decide +kernel) (by decide +kernel) (by decide +kernel) (by decide +kernel) (by decide +kernel) (by decide +kernel)
theorem allAtoms_all (ts : List Jvm.Cond) (a : Array Jvm.Value) (st : Jvm.State) : (allAtoms ts).before a st = ts.all (fun c => c.before a st) := by
  induction ts with
  | nil => rfl
  | cons c t ih =>
    show (Jvm.Cond.and c (allAtoms t)).before a st = _
    rw [Jvm.Cond.before_and, ih, List.all_cons]
def words1 : List Jvm.Cond := Jvm.Cond.code x code maxLocals ret :: tables_1
/-- a 'code' word, met by the world's own term for the bytes: nothing is compared byte by byte -/
theorem code_word {y : MethodName} {bytes : ByteArray} {mx : Nat} {rt : Option FieldType} {a : Array Value} {s : State} {m : MethodId} {meth : Method} {c : Code} (h1 : s.methodNamed? y = some m) (h2 : s.vm.method? m = some meth) (h3 : meth.code = some c) (h4 : c.code = bytes)
    (h5 : (c.maxLocals == mx && c.exceptionTable.isEmpty && decide (c.maxStack ≤ mostOperands) && decide (meth.sig.returnType = rt) && !meth.locks && decide (parseMethodDescriptor y.desc = some meth.sig)) = true) : (Jvm.Cond.code y bytes mx rt).before a s = true := by
  simp only [Bool.and_eq_true, beq_iff_eq, Bool.not_eq_true', decide_eq_true_eq] at h5
  obtain ⟨⟨⟨⟨⟨g1, g2⟩, g3⟩, g4⟩, g5⟩, g6⟩ := h5
  simp [Cond.before, Cond.holds, Cond.value, h1, h2, h3, h4, g1, g2, g3, g4, g5, g6]
def isCode : Jvm.Cond → Bool
  | .code _ _ _ _ => true
  | _ => false
theorem all_split {L : List Jvm.Cond} {P : Jvm.Cond → Bool} (h1 : L.all (fun c => isCode c || P c) = true) (h2 : ∀ c ∈ L.filter isCode, P c = true) : L.all P = true := by
  refine List.all_eq_true.mpr fun c hc => ?_
  have h := List.all_eq_true.mp h1 c hc
  rcases Bool.eq_false_or_eq_true (isCode c) with hi | hi
  · exact h2 c (List.mem_filter.mpr ⟨hc, hi⟩)
  · simpa [hi] using h
set_option maxRecDepth 65536 in
theorem w_c0 : (Jvm.Cond.code x code maxLocals ret).before args0 about1 = true := code_word (m := ⟨1, 1⟩) (meth := k1m1) (c := k1c1) (by decide +kernel) rfl rfl rfl (by decide +kernel)
set_option maxRecDepth 65536 in
theorem w_c1 : (Jvm.Cond.code ({ cls := "java/lang/Math", name := "max", desc := "(JJ)J" } : Jvm.MethodName) jdk_29_method_66_code (4 : Nat) (Option.some Jvm.ClassFile.FieldType.long)).before args0 about1 = true := code_word (m := ⟨2, 1⟩) (meth := k2m1) (c := k2c1) (by decide +kernel) rfl rfl rfl (by decide +kernel)
set_option maxRecDepth 65536 in
theorem w_c2 : (Jvm.Cond.code ({ cls := "com/example/lid_on_load/lidonload/limit/Limiters", name := "windowEnd", desc := "(JJ)J" } : Jvm.MethodName) prog_13_method_5_code (4 : Nat) (Option.some Jvm.ClassFile.FieldType.long)).before args0 about1 = true := code_word (m := ⟨3, 1⟩) (meth := k3m1) (c := k3c1) (by decide +kernel) rfl rfl rfl (by decide +kernel)
set_option maxRecDepth 65536 in
theorem w_c3 : (Jvm.Cond.code ({ cls := "com/example/lid_on_load/lidonload/limit/LimitersWindowEndPinLaw", name := "expected", desc := "(JJ)J" } : Jvm.MethodName) method_3_code (8 : Nat) (Option.some Jvm.ClassFile.FieldType.long)).before args0 about1 = true := code_word (m := ⟨1, 2⟩) (meth := k1m2) (c := k1c2) (by decide +kernel) rfl rfl rfl (by decide +kernel)
def codes1 : List Jvm.Cond := [Jvm.Cond.code x code maxLocals ret, Jvm.Cond.code ({ cls := "java/lang/Math", name := "max", desc := "(JJ)J" } : Jvm.MethodName) jdk_29_method_66_code (4 : Nat) (Option.some Jvm.ClassFile.FieldType.long), Jvm.Cond.code ({ cls := "com/example/lid_on_load/lidonload/limit/Limiters", name := "windowEnd", desc := "(JJ)J" } : Jvm.MethodName) prog_13_method_5_code (4 : Nat) (Option.some Jvm.ClassFile.FieldType.long), Jvm.Cond.code ({ cls := "com/example/lid_on_load/lidonload/limit/LimitersWindowEndPinLaw", name := "expected", desc := "(JJ)J" } : Jvm.MethodName) method_3_code (8 : Nat) (Option.some Jvm.ClassFile.FieldType.long)]
set_option maxRecDepth 65536 in
theorem codes_eq : words1.filter isCode = codes1 := rfl
theorem w_codes : ∀ c ∈ words1.filter isCode, c.before args0 about1 = true := by
  rw [codes_eq]
  intro c hc
  simp only [codes1, List.mem_cons, List.not_mem_nil, or_false] at hc
  rcases hc with rfl | rfl | rfl | rfl
  · exact w_c0
  · exact w_c1
  · exact w_c2
  · exact w_c3
set_option maxRecDepth 65536 in
theorem w_t1 : words1.all (fun c => isCode c || c.before args0 about1) = true := by decide +kernel
theorem w_tables : (allAtoms (Jvm.Cond.code x code maxLocals ret :: tables_1)).before args0 about1 = true := by
  rw [allAtoms_all]
  show words1.all (fun c => c.before args0 about1) = true
  refine all_split ?_ w_codes
  rw [w_t1]
set_option maxRecDepth 65536 in
theorem w_case : (Jvm.Cond.and given_1 narrow_1).before args0 about1 = true := by decide +kernel
theorem w_applies : (headSpec (Jvm.Cond.code x code maxLocals ret :: tables_1) room_1).applies x e0.platform about1 = true :=
  (Spec.applies_iff w_frames).mpr ⟨w_running, w_runnable, w_alone, w_named, w_hears, w_ripe, w_room, w_tables⟩
theorem atStart : AtStart classFile x code maxLocals ret World_1 tables_1 room_1 Calls_1 rest_1 Pre_1 launch0 p0 e0 about1 theMethod args0 below0 :=
  ⟨lists_1, trivial, launch0.admits_env _ _ _, launch0.least_env, fairChoices_fair.cas, fairChoices_fair.clock, w_frames, w_args, w_heap, w_applies, trivial, trivial, w_case⟩
end start1
theorem witness_1 : WitnessClaimed_1 := ⟨start1.p0, start1.e0, start1.about1, start1.theMethod, start1.args0, start1.below0, start1.atStart⟩
end Jvm.Pilot.@@N@@
