import JvmDerived
import JvmDerived.Pilot.@@N@@Statement
import JvmDerived.Pilot.@@N@@Code
set_option linter.unusedVariables false
set_option linter.unusedSimpArgs false
namespace Jvm.RoadKit
open Sem ClassFile Op Lib Jvm.Stand Jvm.Free Jvm.LawKit
section New
variable {p : Program} {l : Launch} {e : Env} {R : Room} {s : State} {m : MethodId} {args : Array Value} {below : List Frame} {meth : Method} {c : Code} {T : State} {locs : List Loc} {cells slots : Nat}
theorem retI (X : Stand p l e R s m args below meth c T locs cells slots) (hx : p.tables.exec = Jvm.exec) {pc : Nat} {Ls : Array Slot} {z : Int32} {rest : List Value} (hret : meth.sig.returnType = some .int) (hd : decode c.code pc = .ok (.ireturn, 1)) {fs : List Frame}
    (hl : ∀ (f : JFrame) (acts : List Action), f.method = m → f.locked = none → f.entered = [] → (doReturn e (T.setTop f) acts (some (.int z))).1 = T.setFrames fs) : Steps p.tables e below (T.setTop (mkF m pc Ls (.int z :: rest))) (T.setFrames fs) := by
  have hm' : T.vm.method? m = some meth := X.method'
  have hn : narrow .int (.int z) = .int z := rfl
  show Steps p.tables e below (T.setTop { method := m, pc := pc, locals := Ls, stack := _ :: rest, locked := none }) _
  jvm_step X.here [X.here.top, hx, hd, hm', hret, hn]
  first | (intro acts; rw [hl _ acts rfl rfl rfl]) | rw [hl _ _ rfl rfl rfl]
  exact Steps.refl _
theorem own_go {tb : Tables} {T' : State} {f f' : JFrame} {G : State → Outcome → Prop} (k : ∀ t, Steps tb e below (T'.setTop f') t → Steps tb e below (T.setTop f) t) (h : ∃ s₂ o, Steps tb e below (T'.setTop f') s₂ ∧ G s₂ o) : ∃ s₂ o, Steps tb e below (T.setTop f) s₂ ∧ G s₂ o := by
  obtain ⟨s₂, o, a, b⟩ := h
  exact ⟨s₂, o, k _ a, b⟩
theorem own_cut {tb : Tables} {f f' : JFrame} {G : State → Outcome → Prop} {P : State → Prop} (h1 : (∀ T', P T' → ∃ s₂ o, Steps tb e below (T'.setTop f') s₂ ∧ G s₂ o) → ∃ s₂ o, Steps tb e below (T.setTop f) s₂ ∧ G s₂ o) (h2 : ∀ T', P T' → ∃ s₂ o, Steps tb e below (T'.setTop f') s₂ ∧ G s₂ o) : ∃ s₂ o, Steps tb e below (T.setTop f) s₂ ∧ G s₂ o := h1 h2
end New
end Jvm.RoadKit
namespace Jvm.Pilot.@@N@@
open Jvm Jvm.ClassFile Sem Op Lib Jvm.Free Jvm.Stand Jvm.LawKit Jvm.RoadKit Bundle Jvm.Pilot.@@N@@.Jvm.D
theorem own_d1_0 : decode prog_60_method_2_code 0 = .ok (.ldc2_w 24, 3) := by decide +kernel
theorem own_d1_3 : decode prog_60_method_2_code 3 = .ok (.ldc2_w 26, 3) := by decide +kernel
theorem own_d1_6 : decode prog_60_method_2_code 6 = .ok (.iload_n 0, 1) := by decide +kernel
theorem own_d1_7 : decode prog_60_method_2_code 7 = .ok (.i2l, 1) := by decide +kernel
theorem own_d1_8 : decode prog_60_method_2_code 8 = .ok (.lmul, 1) := by decide +kernel
theorem own_d1_9 : decode prog_60_method_2_code 9 = .ok (.ladd, 1) := by decide +kernel
theorem own_d1_10 : decode prog_60_method_2_code 10 = .ok (.ldc2_w 28, 3) := by decide +kernel
theorem own_d1_13 : decode prog_60_method_2_code 13 = .ok (.iload_n 1, 1) := by decide +kernel
theorem own_d1_14 : decode prog_60_method_2_code 14 = .ok (.i2l, 1) := by decide +kernel
theorem own_d1_15 : decode prog_60_method_2_code 15 = .ok (.lmul, 1) := by decide +kernel
theorem own_d1_16 : decode prog_60_method_2_code 16 = .ok (.ladd, 1) := by decide +kernel
theorem own_d1_17 : decode prog_60_method_2_code 17 = .ok (.lreturn, 1) := by decide +kernel
theorem own_pn0 : plainName "com/example/wushan/wushan/store/IndexFile" = true := by first | (simp [plainName, overriddenIn]; done) | decide +kernel
theorem own_ef1 (m : MethodId) (p0 : Int32) (p1 : Int32) : entryFrame m #[(.int p0), (.int p1)] 2 = mkF m 0 #[.val (.int p0), .val (.int p1)] [] := by first | (simp [entryFrame, mkF, argsToLocals, Value.category]; done) | rfl
def own_F1 (p0 : Int32) (p1 : Int32) : Int64 := (((40 : Int64) + ((4 : Int64) * (p0.toInt64))) + ((20 : Int64) * (p1.toInt64)))
def own_Q1 (Z : State) (p0 : Int32) (p1 : Int32) (h0 : Heap) (n0 : Nat) (v : Option Value) (h : Heap) (L : List Loc) : Prop := (v = some (.long (own_F1 p0 p1))) ∧ (Fr n0 L) ∧ (h = h0)
set_option maxRecDepth 65536 in
set_option maxHeartbeats 40000000 in
theorem own_rm1 (l : Launch) (Z : State) (a0 : Array Value) (hw : ∀ d ∈ tables_1, d.before a0 Z = true) (ws : List Jvm.Cond) (p0 : Int32) (p1 : Int32) (h0 : Heap) (n0 : Nat) (Z0 : n0 ≤ h0.size) :
    MetFree l (⟨"com/example/wushan/wushan/store/IndexFile", "size", "(II)J"⟩ : MethodName) (head1 (Jvm.Cond.code (⟨"com/example/wushan/wushan/store/IndexFile", "size", "(II)J"⟩ : MethodName) prog_60_method_2_code 2 (some .long) :: ws) ({ frames := 0, cells := 0, slots := 0, locals := 0 } : Room)) (fun a U => a = #[(.int p0), (.int p1)] ∧ Z.Warmed39 U.vm ∧ U.heap = h0) (fun _ _ _ _ _ => True) (fun _ U o U' => ∃ v L, o = .returned v ∧ own_Q1 Z p0 p1 h0 n0 v U'.heap L ∧ FrameEnd U o U' L ({ frames := 0, cells := 0, slots := 0, locals := 0 } : Room).cells ({ frames := 0, cells := 0, slots := 0, locals := 0 } : Room).slots) := by
  refine MetFree.of_bodySF (plainFor_of_name own_pn0) hisR ?_
  intro p e s m args below meth c s₁ Bd hml0 hP hK
  obtain ⟨rfl, hZ, hh⟩ := hP
  have hx := Bd.exec
  have hby := Bd.bytes
  have hml : c.maxLocals = 2 := hml0
  have hown : s.vm.findClass "com/example/wushan/wushan/store/IndexFile" = some m.cls := findClass_of_methodNamed Bd.named
  have hnm := (name_of_methodNamed Bd.named Bd.method).1
  have X0 : Stand p l e ({ frames := 0, cells := 0, slots := 0, locals := 0 } : Room) s m #[(.int p0), (.int p1)] below meth c s₁ [] 0 0 := Stand.of_body Bd
  have e0 : s₁.heap = h0 := by rw [← hh, Bd.state]; rfl
  have N0 := Fr.nil n0
  refine own_go (fun t k => castTop (own_ef1 m p0 p1) k) ?_
  refine own_go (T' := s₁) (f' := (mkF m 17 #[.val (.int p0), .val (.int p1)] [(.long (((40 : Int64) + ((4 : Int64) * (p0.toInt64))) + ((20 : Int64) * (p1.toInt64))))])) (fun t k => ?_) ?_
  · show Steps p.tables e below (s₁.setTop (mkF m 0 #[.val (.int p0), .val (.int p1)] [])) _
    refine X0.ldc2Long hx hown (mvT hZ (hw _ (List.mem_of_getElem? (i := 4) rfl))) (g := (mkF m 0 #[.val (.int p0), .val (.int p1)] [])) rfl (hb hby own_d1_0) _ ?_
    show Steps p.tables e below (s₁.setTop (mkF m 3 #[.val (.int p0), .val (.int p1)] [(.long (40 : Int64))])) _
    refine X0.ldc2Long hx hown (mvT hZ (hw _ (List.mem_of_getElem? (i := 5) rfl))) (g := (mkF m 3 #[.val (.int p0), .val (.int p1)] [(.long (40 : Int64))])) rfl (hb hby own_d1_3) _ ?_
    show Steps p.tables e below (s₁.setTop (mkF m 6 #[.val (.int p0), .val (.int p1)] [(.long (4 : Int64)), (.long (40 : Int64))])) _
    refine XS.iloadN X0.here hx rfl (hb hby own_d1_6) rfl ?_
    show Steps p.tables e below (s₁.setTop (mkF m 7 #[.val (.int p0), .val (.int p1)] [(.int p0), (.long (4 : Int64)), (.long (40 : Int64))])) _
    refine XS.i2l X0.here hx rfl (hb hby own_d1_7) rfl ?_
    show Steps p.tables e below (s₁.setTop (mkF m 8 #[.val (.int p0), .val (.int p1)] [(.long (p0.toInt64)), (.long (4 : Int64)), (.long (40 : Int64))])) _
    refine XS.lmul X0.here hx rfl (hb hby own_d1_8) rfl ?_
    show Steps p.tables e below (s₁.setTop (mkF m 9 #[.val (.int p0), .val (.int p1)] [(.long ((4 : Int64) * (p0.toInt64))), (.long (40 : Int64))])) _
    refine XS.ladd X0.here hx rfl (hb hby own_d1_9) rfl ?_
    show Steps p.tables e below (s₁.setTop (mkF m 10 #[.val (.int p0), .val (.int p1)] [(.long ((40 : Int64) + ((4 : Int64) * (p0.toInt64))))])) _
    refine X0.ldc2Long hx hown (mvT hZ (hw _ (List.mem_of_getElem? (i := 6) rfl))) (g := (mkF m 10 #[.val (.int p0), .val (.int p1)] [(.long ((40 : Int64) + ((4 : Int64) * (p0.toInt64))))])) rfl (hb hby own_d1_10) _ ?_
    show Steps p.tables e below (s₁.setTop (mkF m 13 #[.val (.int p0), .val (.int p1)] [(.long (20 : Int64)), (.long ((40 : Int64) + ((4 : Int64) * (p0.toInt64))))])) _
    refine XS.iloadN X0.here hx rfl (hb hby own_d1_13) rfl ?_
    show Steps p.tables e below (s₁.setTop (mkF m 14 #[.val (.int p0), .val (.int p1)] [(.int p1), (.long (20 : Int64)), (.long ((40 : Int64) + ((4 : Int64) * (p0.toInt64))))])) _
    refine XS.i2l X0.here hx rfl (hb hby own_d1_14) rfl ?_
    show Steps p.tables e below (s₁.setTop (mkF m 15 #[.val (.int p0), .val (.int p1)] [(.long (p1.toInt64)), (.long (20 : Int64)), (.long ((40 : Int64) + ((4 : Int64) * (p0.toInt64))))])) _
    refine XS.lmul X0.here hx rfl (hb hby own_d1_15) rfl ?_
    show Steps p.tables e below (s₁.setTop (mkF m 16 #[.val (.int p0), .val (.int p1)] [(.long ((20 : Int64) * (p1.toInt64))), (.long ((40 : Int64) + ((4 : Int64) * (p0.toInt64))))])) _
    refine XS.ladd X0.here hx rfl (hb hby own_d1_16) rfl ?_
    show Steps p.tables e below (s₁.setTop (mkF m 17 #[.val (.int p0), .val (.int p1)] [(.long (((40 : Int64) + ((4 : Int64) * (p0.toInt64))) + ((20 : Int64) * (p1.toInt64))))])) _
    exact k
  obtain ⟨fs, hr, hrun, hended, hW, hsame⟩ := X0.leave (v := some (.long (((40 : Int64) + ((4 : Int64) * (p0.toInt64))) + ((20 : Int64) * (p1.toInt64))))) (fun h => by rw [Bd.returns] at h; cases h)
  refine ⟨_, _, ?_, hrun, hended, _, _, rfl, ?_, ⟨_, rfl⟩, hW, hsame.mono (by decide) (by decide)⟩
  · exact X0.lreturnOut hx Bd.returns (hb hby own_d1_17) hr
  · show own_Q1 Z p0 p1 h0 n0 _ s₁.heap _
    rw [e0]
    exact ⟨(by rw [own_F1]), N0, rfl⟩
theorem own_pd0 : parseMethodDescriptor "(II)J" = some ⟨[.int, .int], some .long⟩ := by decide +kernel
theorem own_pn1 : plainName "com/example/wushan/wushan/store/IndexFileSizePinLaw" = true := by first | (simp [plainName, overriddenIn]; done) | decide +kernel
theorem own_ef0 (m : MethodId) (p0 : Int32) (p1 : Int32) (p2 : Int32) (p3 : Int32) : entryFrame m #[(.int p0), (.int p1), (.int p2), (.int p3)] maxLocals = mkF m 0 #[.val (.int p0), .val (.int p1), .val (.int p2), .val (.int p3), .unset, .unset, .unset, .unset, .unset, .unset, .unset, .unset, .unset, .unset, .unset] [] := by first | (simp [entryFrame, mkF, argsToLocals, Value.category, maxLocals]; done) | rfl
def own_F0 (p0 : Int32) (p1 : Int32) (p2 : Int32) (p3 : Int32) : Int32 := (if (own_F1 (0 : Int32) (0 : Int32)) = (40 : Int64) then (if ((own_F1 p0 p1) - (own_F1 p2 p1)) = ((4 : Int64) * ((p0.toInt64) - (p2.toInt64))) then (if ((own_F1 p2 p1) - (own_F1 p2 p3)) = ((20 : Int64) * ((p1.toInt64) - (p3.toInt64))) then (1 : Int32) else (0 : Int32)) else (if ((own_F1 p2 p1) - (own_F1 p2 p3)) = ((20 : Int64) * ((p1.toInt64) - (p3.toInt64))) then (0 : Int32) else (0 : Int32))) else (if ((own_F1 p0 p1) - (own_F1 p2 p1)) = ((4 : Int64) * ((p0.toInt64) - (p2.toInt64))) then (if ((own_F1 p2 p1) - (own_F1 p2 p3)) = ((20 : Int64) * ((p1.toInt64) - (p3.toInt64))) then (0 : Int32) else (0 : Int32)) else (if ((own_F1 p2 p1) - (own_F1 p2 p3)) = ((20 : Int64) * ((p1.toInt64) - (p3.toInt64))) then (0 : Int32) else (0 : Int32))))
theorem own_law (p0 p1 p2 p3 : Int32) : own_F0 p0 p1 p2 p3 = 1 := by
  have a1 : own_F1 (0 : Int32) (0 : Int32) = (40 : Int64) := by decide +kernel
  have key : ∀ a b c : Int32, (own_F1 a b - own_F1 c b) = ((4 : Int64) * (a.toInt64 - c.toInt64)) := fun a b c => by
    rw [← Int64.toInt_inj]
    have e4 : (4 : Int64).toInt = 4 := rfl
    have h1 := c_lsub (own_F1 a b) (own_F1 c b); have h2 := c_lmul 4 (a.toInt64 - c.toInt64); have h3 := c_lsub a.toInt64 c.toInt64
    have g1 := c_ladd (40 + 4 * a.toInt64) (20 * b.toInt64); have g2 := c_ladd 40 (4 * a.toInt64); have g3 := c_lmul 4 a.toInt64
    have k1 := c_ladd (40 + 4 * c.toInt64) (20 * b.toInt64); have k2 := c_ladd 40 (4 * c.toInt64); have k3 := c_lmul 4 c.toInt64
    have r1 := rng64 (own_F1 a b - own_F1 c b); have r2 := rng64 (4 * (a.toInt64 - c.toInt64))
    change ((own_F1 a b).toInt - _) % _ = 0 at g1; change ((own_F1 c b).toInt - _) % _ = 0 at k1
    rw [e4] at h2 g3 k3
    omega
  have key2 : ∀ a b c : Int32, (own_F1 a b - own_F1 a c) = ((20 : Int64) * (b.toInt64 - c.toInt64)) := fun a b c => by
    rw [← Int64.toInt_inj]
    have e20 : (20 : Int64).toInt = 20 := rfl
    have h1 := c_lsub (own_F1 a b) (own_F1 a c); have h2 := c_lmul 20 (b.toInt64 - c.toInt64); have h3 := c_lsub b.toInt64 c.toInt64
    have g1 := c_ladd (40 + 4 * a.toInt64) (20 * b.toInt64); have g3 := c_lmul 20 b.toInt64
    have k1 := c_ladd (40 + 4 * a.toInt64) (20 * c.toInt64); have k3 := c_lmul 20 c.toInt64
    have r1 := rng64 (own_F1 a b - own_F1 a c); have r2 := rng64 (20 * (b.toInt64 - c.toInt64))
    change ((own_F1 a b).toInt - _) % _ = 0 at g1; change ((own_F1 a c).toInt - _) % _ = 0 at k1
    rw [e20] at h2 g3 k3
    omega
  rw [own_F0, if_pos a1, if_pos (key p0 p1 p2), if_pos (key2 p2 p1 p3)]
def own_Q0 (Z : State) (p0 : Int32) (p1 : Int32) (p2 : Int32) (p3 : Int32) (h0 : Heap) (n0 : Nat) (v : Option Value) (h : Heap) (L : List Loc) : Prop := (v = some (.int (1 : Int32))) ∧ (Fr n0 L)
set_option maxRecDepth 65536 in
set_option maxHeartbeats 40000000 in
theorem own_rm0 (l : Launch) (Z : State) (a0 : Array Value) (hw : ∀ d ∈ tables_1, d.before a0 Z = true) (ws : List Jvm.Cond) (p0 : Int32) (p1 : Int32) (p2 : Int32) (p3 : Int32) (h0 : Heap) (n0 : Nat) (Z0 : n0 ≤ h0.size) :
    MetFree l x (head1 (Jvm.Cond.code x code maxLocals ret :: ws) room_1) (fun a U => a = #[(.int p0), (.int p1), (.int p2), (.int p3)] ∧ Z.Warmed39 U.vm ∧ U.heap = h0) (fun _ _ _ _ _ => True) (fun _ U o U' => ∃ v L, o = .returned v ∧ own_Q0 Z p0 p1 p2 p3 h0 n0 v U'.heap L ∧ FrameEnd U o U' L 0 0) := by
  refine MetFree.of_bodySF (plainFor_of_name own_pn1) hisR ?_
  intro p e s m args below meth c s₁ Bd hml0 hP hK
  obtain ⟨rfl, hZ, hh⟩ := hP
  have hx := Bd.exec
  have hby := Bd.bytes
  have hml : c.maxLocals = 15 := hml0
  have hown : s.vm.findClass "com/example/wushan/wushan/store/IndexFileSizePinLaw" = some m.cls := findClass_of_methodNamed Bd.named
  have hnm := (name_of_methodNamed Bd.named Bd.method).1
  have X0 : Stand p l e room_1 s m #[(.int p0), (.int p1), (.int p2), (.int p3)] below meth c s₁ [] 0 0 := Stand.of_body Bd
  have e0 : s₁.heap = h0 := by rw [← hh, Bd.state]; rfl
  have N0 := Fr.nil n0
  refine own_go (fun t k => castTop (own_ef0 m p0 p1 p2 p3) k) ?_
  refine own_go (T' := s₁) (f' := (mkF m 2 #[.val (.int p0), .val (.int p1), .val (.int p2), .val (.int p3), .unset, .unset, .unset, .unset, .unset, .unset, .unset, .unset, .unset, .unset, .unset] [(.int (0 : Int32)), (.int (0 : Int32))])) (fun t k => ?_) ?_
  · show Steps p.tables e below (s₁.setTop (mkF m 0 #[.val (.int p0), .val (.int p1), .val (.int p2), .val (.int p3), .unset, .unset, .unset, .unset, .unset, .unset, .unset, .unset, .unset, .unset, .unset] [])) _
    refine XS.iconst X0.here hx rfl (hb hby at_0) ?_
    show Steps p.tables e below (s₁.setTop (mkF m 1 #[.val (.int p0), .val (.int p1), .val (.int p2), .val (.int p3), .unset, .unset, .unset, .unset, .unset, .unset, .unset, .unset, .unset, .unset, .unset] [(.int (0 : Int32))])) _
    refine XS.iconst X0.here hx rfl (hb hby at_1) ?_
    show Steps p.tables e below (s₁.setTop (mkF m 2 #[.val (.int p0), .val (.int p1), .val (.int p2), .val (.int p3), .unset, .unset, .unset, .unset, .unset, .unset, .unset, .unset, .unset, .unset, .unset] [(.int (0 : Int32)), (.int (0 : Int32))])) _
    exact k
  obtain ⟨_, _, ⟨T1, Lq1, kq1, nq1⟩, -, X1, ⟨Lc1, hQ1, lq1, yq1, zq1⟩, st1⟩ := Jvm.LawKit.callS X0 hx (y := (⟨"com/example/wushan/wushan/store/IndexFile", "size", "(II)J"⟩ : MethodName)) hown (mvT hZ (hw _ (List.mem_of_getElem? (i := 0) rfl))) (mvT hZ (hw _ (List.mem_of_getElem? (i := 1) rfl))) (mvT hZ (hw _ (List.mem_of_getElem? (i := 2) rfl))) (mvT hZ (hw _ (List.mem_of_getElem? (i := 3) rfl))) (by decide) (backOf (W := 0) (own_rm1 l Z a0 hw [] ((0 : Int32)) ((0 : Int32))  h0 n0 Z0 ) hZ (hw _ (List.mem_of_getElem? (i := 3) rfl)) (hw _ (List.mem_of_getElem? (i := 2) rfl)) (by decide) (by decide)) (g := (mkF m 2 #[.val (.int p0), .val (.int p1), .val (.int p2), .val (.int p3), .unset, .unset, .unset, .unset, .unset, .unset, .unset, .unset, .unset, .unset, .unset] [(.int (0 : Int32)), (.int (0 : Int32))])) rfl (by rw [hml]; rfl) (argsL := [(.int (0 : Int32)), (.int (0 : Int32))]) (rest := []) (lenOf own_pd0 rfl) rfl (by show 2 * 0 + _ ≤ _; exact Nat.le_of_eq rfl) (hb hby at_2) (fun _ _ => ⟨rfl, e0, (by decide : 0 + 0 ≤ _), (by decide : 0 + 0 ≤ _)⟩)
  dsimp only [Pt.U, Pt.locs, Pt.cells, Pt.slots] at X1 lq1 yq1 zq1 st1 hQ1
  subst lq1 yq1 zq1
  obtain ⟨rfl, N1q, h1q⟩ := hQ1
  have N1 := Fr.app N0 N1q
  refine own_go (T' := T1) (f' := (mkF m 5 #[.val (.int p0), .val (.int p1), .val (.int p2), .val (.int p3), .unset, .unset, .unset, .unset, .unset, .unset, .unset, .unset, .unset, .unset, .unset] [(.long (own_F1 (0 : Int32) (0 : Int32)))])) (fun t k => st1 _ k) ?_
  refine own_go (T' := T1) (f' := (mkF m 9 #[.val (.int p0), .val (.int p1), .val (.int p2), .val (.int p3), .val (.long (own_F1 (0 : Int32) (0 : Int32))), .second, .unset, .unset, .unset, .unset, .unset, .unset, .unset, .unset, .unset] [(.int p1), (.int p0)])) (fun t k => ?_) ?_
  · show Steps p.tables e below (T1.setTop (mkF m 5 #[.val (.int p0), .val (.int p1), .val (.int p2), .val (.int p3), .unset, .unset, .unset, .unset, .unset, .unset, .unset, .unset, .unset, .unset, .unset] [(.long (own_F1 (0 : Int32) (0 : Int32)))])) _
    refine XS.lstore X1.here hx rfl (hb hby at_5) rfl (l' := #[.val (.int p0), .val (.int p1), .val (.int p2), .val (.int p3), .val (.long (own_F1 (0 : Int32) (0 : Int32))), .second, .unset, .unset, .unset, .unset, .unset, .unset, .unset, .unset, .unset]) rfl ?_
    show Steps p.tables e below (T1.setTop (mkF m 7 #[.val (.int p0), .val (.int p1), .val (.int p2), .val (.int p3), .val (.long (own_F1 (0 : Int32) (0 : Int32))), .second, .unset, .unset, .unset, .unset, .unset, .unset, .unset, .unset, .unset] [])) _
    refine XS.iloadN X1.here hx rfl (hb hby at_7) rfl ?_
    show Steps p.tables e below (T1.setTop (mkF m 8 #[.val (.int p0), .val (.int p1), .val (.int p2), .val (.int p3), .val (.long (own_F1 (0 : Int32) (0 : Int32))), .second, .unset, .unset, .unset, .unset, .unset, .unset, .unset, .unset, .unset] [(.int p0)])) _
    refine XS.iloadN X1.here hx rfl (hb hby at_8) rfl ?_
    show Steps p.tables e below (T1.setTop (mkF m 9 #[.val (.int p0), .val (.int p1), .val (.int p2), .val (.int p3), .val (.long (own_F1 (0 : Int32) (0 : Int32))), .second, .unset, .unset, .unset, .unset, .unset, .unset, .unset, .unset, .unset] [(.int p1), (.int p0)])) _
    exact k
  obtain ⟨_, _, ⟨T2, Lq2, kq2, nq2⟩, -, X2, ⟨Lc2, hQ2, lq2, yq2, zq2⟩, st2⟩ := Jvm.LawKit.callS X1 hx (y := (⟨"com/example/wushan/wushan/store/IndexFile", "size", "(II)J"⟩ : MethodName)) hown (mvT hZ (hw _ (List.mem_of_getElem? (i := 0) rfl))) (mvT hZ (hw _ (List.mem_of_getElem? (i := 1) rfl))) (mvT hZ (hw _ (List.mem_of_getElem? (i := 2) rfl))) (mvT hZ (hw _ (List.mem_of_getElem? (i := 3) rfl))) (by decide) (backOf (W := 0) (own_rm1 l Z a0 hw [] p0 p1  h0 n0 Z0 ) hZ (hw _ (List.mem_of_getElem? (i := 3) rfl)) (hw _ (List.mem_of_getElem? (i := 2) rfl)) (by decide) (by decide)) (g := (mkF m 9 #[.val (.int p0), .val (.int p1), .val (.int p2), .val (.int p3), .val (.long (own_F1 (0 : Int32) (0 : Int32))), .second, .unset, .unset, .unset, .unset, .unset, .unset, .unset, .unset, .unset] [(.int p1), (.int p0)])) rfl (by rw [hml]; rfl) (argsL := [(.int p0), (.int p1)]) (rest := []) (lenOf own_pd0 rfl) rfl (by show 2 * 0 + _ ≤ _; exact Nat.le_of_eq rfl) (hb hby at_9) (fun _ _ => ⟨rfl, h1q, (by decide : 0 + 0 ≤ _), (by decide : 0 + 0 ≤ _)⟩)
  dsimp only [Pt.U, Pt.locs, Pt.cells, Pt.slots] at X2 lq2 yq2 zq2 st2 hQ2
  subst lq2 yq2 zq2
  obtain ⟨rfl, N2q, h2q⟩ := hQ2
  have N2 := Fr.app N1 N2q
  refine own_go (T' := T2) (f' := (mkF m 12 #[.val (.int p0), .val (.int p1), .val (.int p2), .val (.int p3), .val (.long (own_F1 (0 : Int32) (0 : Int32))), .second, .unset, .unset, .unset, .unset, .unset, .unset, .unset, .unset, .unset] [(.long (own_F1 p0 p1))])) (fun t k => st2 _ k) ?_
  refine own_go (T' := T2) (f' := (mkF m 16 #[.val (.int p0), .val (.int p1), .val (.int p2), .val (.int p3), .val (.long (own_F1 (0 : Int32) (0 : Int32))), .second, .val (.long (own_F1 p0 p1)), .second, .unset, .unset, .unset, .unset, .unset, .unset, .unset] [(.int p1), (.int p2)])) (fun t k => ?_) ?_
  · show Steps p.tables e below (T2.setTop (mkF m 12 #[.val (.int p0), .val (.int p1), .val (.int p2), .val (.int p3), .val (.long (own_F1 (0 : Int32) (0 : Int32))), .second, .unset, .unset, .unset, .unset, .unset, .unset, .unset, .unset, .unset] [(.long (own_F1 p0 p1))])) _
    refine XS.lstore X2.here hx rfl (hb hby at_12) rfl (l' := #[.val (.int p0), .val (.int p1), .val (.int p2), .val (.int p3), .val (.long (own_F1 (0 : Int32) (0 : Int32))), .second, .val (.long (own_F1 p0 p1)), .second, .unset, .unset, .unset, .unset, .unset, .unset, .unset]) rfl ?_
    show Steps p.tables e below (T2.setTop (mkF m 14 #[.val (.int p0), .val (.int p1), .val (.int p2), .val (.int p3), .val (.long (own_F1 (0 : Int32) (0 : Int32))), .second, .val (.long (own_F1 p0 p1)), .second, .unset, .unset, .unset, .unset, .unset, .unset, .unset] [])) _
    refine XS.iloadN X2.here hx rfl (hb hby at_14) rfl ?_
    show Steps p.tables e below (T2.setTop (mkF m 15 #[.val (.int p0), .val (.int p1), .val (.int p2), .val (.int p3), .val (.long (own_F1 (0 : Int32) (0 : Int32))), .second, .val (.long (own_F1 p0 p1)), .second, .unset, .unset, .unset, .unset, .unset, .unset, .unset] [(.int p2)])) _
    refine XS.iloadN X2.here hx rfl (hb hby at_15) rfl ?_
    show Steps p.tables e below (T2.setTop (mkF m 16 #[.val (.int p0), .val (.int p1), .val (.int p2), .val (.int p3), .val (.long (own_F1 (0 : Int32) (0 : Int32))), .second, .val (.long (own_F1 p0 p1)), .second, .unset, .unset, .unset, .unset, .unset, .unset, .unset] [(.int p1), (.int p2)])) _
    exact k
  obtain ⟨_, _, ⟨T3, Lq3, kq3, nq3⟩, -, X3, ⟨Lc3, hQ3, lq3, yq3, zq3⟩, st3⟩ := Jvm.LawKit.callS X2 hx (y := (⟨"com/example/wushan/wushan/store/IndexFile", "size", "(II)J"⟩ : MethodName)) hown (mvT hZ (hw _ (List.mem_of_getElem? (i := 0) rfl))) (mvT hZ (hw _ (List.mem_of_getElem? (i := 1) rfl))) (mvT hZ (hw _ (List.mem_of_getElem? (i := 2) rfl))) (mvT hZ (hw _ (List.mem_of_getElem? (i := 3) rfl))) (by decide) (backOf (W := 0) (own_rm1 l Z a0 hw [] p2 p1  h0 n0 Z0 ) hZ (hw _ (List.mem_of_getElem? (i := 3) rfl)) (hw _ (List.mem_of_getElem? (i := 2) rfl)) (by decide) (by decide)) (g := (mkF m 16 #[.val (.int p0), .val (.int p1), .val (.int p2), .val (.int p3), .val (.long (own_F1 (0 : Int32) (0 : Int32))), .second, .val (.long (own_F1 p0 p1)), .second, .unset, .unset, .unset, .unset, .unset, .unset, .unset] [(.int p1), (.int p2)])) rfl (by rw [hml]; rfl) (argsL := [(.int p2), (.int p1)]) (rest := []) (lenOf own_pd0 rfl) rfl (by show 2 * 0 + _ ≤ _; exact Nat.le_of_eq rfl) (hb hby at_16) (fun _ _ => ⟨rfl, h2q, (by decide : 0 + 0 ≤ _), (by decide : 0 + 0 ≤ _)⟩)
  dsimp only [Pt.U, Pt.locs, Pt.cells, Pt.slots] at X3 lq3 yq3 zq3 st3 hQ3
  subst lq3 yq3 zq3
  obtain ⟨rfl, N3q, h3q⟩ := hQ3
  have N3 := Fr.app N2 N3q
  refine own_go (T' := T3) (f' := (mkF m 19 #[.val (.int p0), .val (.int p1), .val (.int p2), .val (.int p3), .val (.long (own_F1 (0 : Int32) (0 : Int32))), .second, .val (.long (own_F1 p0 p1)), .second, .unset, .unset, .unset, .unset, .unset, .unset, .unset] [(.long (own_F1 p2 p1))])) (fun t k => st3 _ k) ?_
  refine own_go (T' := T3) (f' := (mkF m 23 #[.val (.int p0), .val (.int p1), .val (.int p2), .val (.int p3), .val (.long (own_F1 (0 : Int32) (0 : Int32))), .second, .val (.long (own_F1 p0 p1)), .second, .val (.long (own_F1 p2 p1)), .second, .unset, .unset, .unset, .unset, .unset] [(.int p3), (.int p2)])) (fun t k => ?_) ?_
  · show Steps p.tables e below (T3.setTop (mkF m 19 #[.val (.int p0), .val (.int p1), .val (.int p2), .val (.int p3), .val (.long (own_F1 (0 : Int32) (0 : Int32))), .second, .val (.long (own_F1 p0 p1)), .second, .unset, .unset, .unset, .unset, .unset, .unset, .unset] [(.long (own_F1 p2 p1))])) _
    refine XS.lstore X3.here hx rfl (hb hby at_19) rfl (l' := #[.val (.int p0), .val (.int p1), .val (.int p2), .val (.int p3), .val (.long (own_F1 (0 : Int32) (0 : Int32))), .second, .val (.long (own_F1 p0 p1)), .second, .val (.long (own_F1 p2 p1)), .second, .unset, .unset, .unset, .unset, .unset]) rfl ?_
    show Steps p.tables e below (T3.setTop (mkF m 21 #[.val (.int p0), .val (.int p1), .val (.int p2), .val (.int p3), .val (.long (own_F1 (0 : Int32) (0 : Int32))), .second, .val (.long (own_F1 p0 p1)), .second, .val (.long (own_F1 p2 p1)), .second, .unset, .unset, .unset, .unset, .unset] [])) _
    refine XS.iloadN X3.here hx rfl (hb hby at_21) rfl ?_
    show Steps p.tables e below (T3.setTop (mkF m 22 #[.val (.int p0), .val (.int p1), .val (.int p2), .val (.int p3), .val (.long (own_F1 (0 : Int32) (0 : Int32))), .second, .val (.long (own_F1 p0 p1)), .second, .val (.long (own_F1 p2 p1)), .second, .unset, .unset, .unset, .unset, .unset] [(.int p2)])) _
    refine XS.iloadN X3.here hx rfl (hb hby at_22) rfl ?_
    show Steps p.tables e below (T3.setTop (mkF m 23 #[.val (.int p0), .val (.int p1), .val (.int p2), .val (.int p3), .val (.long (own_F1 (0 : Int32) (0 : Int32))), .second, .val (.long (own_F1 p0 p1)), .second, .val (.long (own_F1 p2 p1)), .second, .unset, .unset, .unset, .unset, .unset] [(.int p3), (.int p2)])) _
    exact k
  obtain ⟨_, _, ⟨T4, Lq4, kq4, nq4⟩, -, X4, ⟨Lc4, hQ4, lq4, yq4, zq4⟩, st4⟩ := Jvm.LawKit.callS X3 hx (y := (⟨"com/example/wushan/wushan/store/IndexFile", "size", "(II)J"⟩ : MethodName)) hown (mvT hZ (hw _ (List.mem_of_getElem? (i := 0) rfl))) (mvT hZ (hw _ (List.mem_of_getElem? (i := 1) rfl))) (mvT hZ (hw _ (List.mem_of_getElem? (i := 2) rfl))) (mvT hZ (hw _ (List.mem_of_getElem? (i := 3) rfl))) (by decide) (backOf (W := 0) (own_rm1 l Z a0 hw [] p2 p3  h0 n0 Z0 ) hZ (hw _ (List.mem_of_getElem? (i := 3) rfl)) (hw _ (List.mem_of_getElem? (i := 2) rfl)) (by decide) (by decide)) (g := (mkF m 23 #[.val (.int p0), .val (.int p1), .val (.int p2), .val (.int p3), .val (.long (own_F1 (0 : Int32) (0 : Int32))), .second, .val (.long (own_F1 p0 p1)), .second, .val (.long (own_F1 p2 p1)), .second, .unset, .unset, .unset, .unset, .unset] [(.int p3), (.int p2)])) rfl (by rw [hml]; rfl) (argsL := [(.int p2), (.int p3)]) (rest := []) (lenOf own_pd0 rfl) rfl (by show 2 * 0 + _ ≤ _; exact Nat.le_of_eq rfl) (hb hby at_23) (fun _ _ => ⟨rfl, h3q, (by decide : 0 + 0 ≤ _), (by decide : 0 + 0 ≤ _)⟩)
  dsimp only [Pt.U, Pt.locs, Pt.cells, Pt.slots] at X4 lq4 yq4 zq4 st4 hQ4
  subst lq4 yq4 zq4
  obtain ⟨rfl, N4q, h4q⟩ := hQ4
  have N4 := Fr.app N3 N4q
  refine own_go (T' := T4) (f' := (mkF m 26 #[.val (.int p0), .val (.int p1), .val (.int p2), .val (.int p3), .val (.long (own_F1 (0 : Int32) (0 : Int32))), .second, .val (.long (own_F1 p0 p1)), .second, .val (.long (own_F1 p2 p1)), .second, .unset, .unset, .unset, .unset, .unset] [(.long (own_F1 p2 p3))])) (fun t k => st4 _ k) ?_
  refine own_go (T' := T4) (f' := (mkF m 34 #[.val (.int p0), .val (.int p1), .val (.int p2), .val (.int p3), .val (.long (own_F1 (0 : Int32) (0 : Int32))), .second, .val (.long (own_F1 p0 p1)), .second, .val (.long (own_F1 p2 p1)), .second, .val (.long (own_F1 p2 p3)), .second, .unset, .unset, .unset] [(.int (lcmpW (own_F1 (0 : Int32) (0 : Int32)) (40 : Int64)))])) (fun t k => ?_) ?_
  · show Steps p.tables e below (T4.setTop (mkF m 26 #[.val (.int p0), .val (.int p1), .val (.int p2), .val (.int p3), .val (.long (own_F1 (0 : Int32) (0 : Int32))), .second, .val (.long (own_F1 p0 p1)), .second, .val (.long (own_F1 p2 p1)), .second, .unset, .unset, .unset, .unset, .unset] [(.long (own_F1 p2 p3))])) _
    refine XS.lstore X4.here hx rfl (hb hby at_26) rfl (l' := #[.val (.int p0), .val (.int p1), .val (.int p2), .val (.int p3), .val (.long (own_F1 (0 : Int32) (0 : Int32))), .second, .val (.long (own_F1 p0 p1)), .second, .val (.long (own_F1 p2 p1)), .second, .val (.long (own_F1 p2 p3)), .second, .unset, .unset, .unset]) rfl ?_
    show Steps p.tables e below (T4.setTop (mkF m 28 #[.val (.int p0), .val (.int p1), .val (.int p2), .val (.int p3), .val (.long (own_F1 (0 : Int32) (0 : Int32))), .second, .val (.long (own_F1 p0 p1)), .second, .val (.long (own_F1 p2 p1)), .second, .val (.long (own_F1 p2 p3)), .second, .unset, .unset, .unset] [])) _
    refine XS.lload X4.here hx rfl (hb hby at_28) rfl ?_
    show Steps p.tables e below (T4.setTop (mkF m 30 #[.val (.int p0), .val (.int p1), .val (.int p2), .val (.int p3), .val (.long (own_F1 (0 : Int32) (0 : Int32))), .second, .val (.long (own_F1 p0 p1)), .second, .val (.long (own_F1 p2 p1)), .second, .val (.long (own_F1 p2 p3)), .second, .unset, .unset, .unset] [(.long (own_F1 (0 : Int32) (0 : Int32)))])) _
    refine X4.ldc2Long hx hown (mvT hZ (hw _ (List.mem_of_getElem? (i := 7) rfl))) (g := (mkF m 30 #[.val (.int p0), .val (.int p1), .val (.int p2), .val (.int p3), .val (.long (own_F1 (0 : Int32) (0 : Int32))), .second, .val (.long (own_F1 p0 p1)), .second, .val (.long (own_F1 p2 p1)), .second, .val (.long (own_F1 p2 p3)), .second, .unset, .unset, .unset] [(.long (own_F1 (0 : Int32) (0 : Int32)))])) rfl (hb hby at_30) _ ?_
    show Steps p.tables e below (T4.setTop (mkF m 33 #[.val (.int p0), .val (.int p1), .val (.int p2), .val (.int p3), .val (.long (own_F1 (0 : Int32) (0 : Int32))), .second, .val (.long (own_F1 p0 p1)), .second, .val (.long (own_F1 p2 p1)), .second, .val (.long (own_F1 p2 p3)), .second, .unset, .unset, .unset] [(.long (40 : Int64)), (.long (own_F1 (0 : Int32) (0 : Int32)))])) _
    refine XS.lcmp X4.here hx rfl (hb hby at_33) rfl ?_
    show Steps p.tables e below (T4.setTop (mkF m 34 #[.val (.int p0), .val (.int p1), .val (.int p2), .val (.int p3), .val (.long (own_F1 (0 : Int32) (0 : Int32))), .second, .val (.long (own_F1 p0 p1)), .second, .val (.long (own_F1 p2 p1)), .second, .val (.long (own_F1 p2 p3)), .second, .unset, .unset, .unset] [(.int (lcmpW (own_F1 (0 : Int32) (0 : Int32)) (40 : Int64)))])) _
    exact k
  by_cases hc34_5 : (own_F1 (0 : Int32) (0 : Int32)) = (40 : Int64)
  · skip
    refine own_go (T' := T4) (f' := (mkF m 59 #[.val (.int p0), .val (.int p1), .val (.int p2), .val (.int p3), .val (.long (own_F1 (0 : Int32) (0 : Int32))), .second, .val (.long (own_F1 p0 p1)), .second, .val (.long (own_F1 p2 p1)), .second, .val (.long (own_F1 p2 p3)), .second, .val (.int (1 : Int32)), .unset, .unset] [(.int (lcmpW ((own_F1 p0 p1) - (own_F1 p2 p1)) ((4 : Int64) * ((p0.toInt64) - (p2.toInt64)))))])) (fun t k => ?_) ?_
    · show Steps p.tables e below (T4.setTop (mkF m 34 #[.val (.int p0), .val (.int p1), .val (.int p2), .val (.int p3), .val (.long (own_F1 (0 : Int32) (0 : Int32))), .second, .val (.long (own_F1 p0 p1)), .second, .val (.long (own_F1 p2 p1)), .second, .val (.long (own_F1 p2 p3)), .second, .unset, .unset, .unset] [(.int (lcmpW (own_F1 (0 : Int32) (0 : Int32)) (40 : Int64)))])) _
      refine XS.ifNo X4.here hx rfl (hb hby at_34) rfl ((if0 _ _).trans (teq ((lw_eq (own_F1 (0 : Int32) (0 : Int32)) (40 : Int64)).mpr hc34_5)).2) ?_
      show Steps p.tables e below (T4.setTop (mkF m 37 #[.val (.int p0), .val (.int p1), .val (.int p2), .val (.int p3), .val (.long (own_F1 (0 : Int32) (0 : Int32))), .second, .val (.long (own_F1 p0 p1)), .second, .val (.long (own_F1 p2 p1)), .second, .val (.long (own_F1 p2 p3)), .second, .unset, .unset, .unset] [])) _
      refine XS.iconst X4.here hx rfl (hb hby at_37) ?_
      show Steps p.tables e below (T4.setTop (mkF m 38 #[.val (.int p0), .val (.int p1), .val (.int p2), .val (.int p3), .val (.long (own_F1 (0 : Int32) (0 : Int32))), .second, .val (.long (own_F1 p0 p1)), .second, .val (.long (own_F1 p2 p1)), .second, .val (.long (own_F1 p2 p3)), .second, .unset, .unset, .unset] [(.int (1 : Int32))])) _
      refine XS.goto X4.here hx rfl (pc0 := 38) (pc' := 42) rfl (hb hby at_38) (by decide) (by decide) ?_
      show Steps p.tables e below (T4.setTop (mkF m 42 #[.val (.int p0), .val (.int p1), .val (.int p2), .val (.int p3), .val (.long (own_F1 (0 : Int32) (0 : Int32))), .second, .val (.long (own_F1 p0 p1)), .second, .val (.long (own_F1 p2 p1)), .second, .val (.long (own_F1 p2 p3)), .second, .unset, .unset, .unset] [(.int (1 : Int32))])) _
      refine XS.istore X4.here hx rfl (hb hby at_42) rfl (l' := #[.val (.int p0), .val (.int p1), .val (.int p2), .val (.int p3), .val (.long (own_F1 (0 : Int32) (0 : Int32))), .second, .val (.long (own_F1 p0 p1)), .second, .val (.long (own_F1 p2 p1)), .second, .val (.long (own_F1 p2 p3)), .second, .val (.int (1 : Int32)), .unset, .unset]) rfl ?_
      show Steps p.tables e below (T4.setTop (mkF m 44 #[.val (.int p0), .val (.int p1), .val (.int p2), .val (.int p3), .val (.long (own_F1 (0 : Int32) (0 : Int32))), .second, .val (.long (own_F1 p0 p1)), .second, .val (.long (own_F1 p2 p1)), .second, .val (.long (own_F1 p2 p3)), .second, .val (.int (1 : Int32)), .unset, .unset] [])) _
      refine XS.lload X4.here hx rfl (hb hby at_44) rfl ?_
      show Steps p.tables e below (T4.setTop (mkF m 46 #[.val (.int p0), .val (.int p1), .val (.int p2), .val (.int p3), .val (.long (own_F1 (0 : Int32) (0 : Int32))), .second, .val (.long (own_F1 p0 p1)), .second, .val (.long (own_F1 p2 p1)), .second, .val (.long (own_F1 p2 p3)), .second, .val (.int (1 : Int32)), .unset, .unset] [(.long (own_F1 p0 p1))])) _
      refine XS.lload X4.here hx rfl (hb hby at_46) rfl ?_
      show Steps p.tables e below (T4.setTop (mkF m 48 #[.val (.int p0), .val (.int p1), .val (.int p2), .val (.int p3), .val (.long (own_F1 (0 : Int32) (0 : Int32))), .second, .val (.long (own_F1 p0 p1)), .second, .val (.long (own_F1 p2 p1)), .second, .val (.long (own_F1 p2 p3)), .second, .val (.int (1 : Int32)), .unset, .unset] [(.long (own_F1 p2 p1)), (.long (own_F1 p0 p1))])) _
      refine XS.lsub X4.here hx rfl (hb hby at_48) rfl ?_
      show Steps p.tables e below (T4.setTop (mkF m 49 #[.val (.int p0), .val (.int p1), .val (.int p2), .val (.int p3), .val (.long (own_F1 (0 : Int32) (0 : Int32))), .second, .val (.long (own_F1 p0 p1)), .second, .val (.long (own_F1 p2 p1)), .second, .val (.long (own_F1 p2 p3)), .second, .val (.int (1 : Int32)), .unset, .unset] [(.long ((own_F1 p0 p1) - (own_F1 p2 p1)))])) _
      refine X4.ldc2Long hx hown (mvT hZ (hw _ (List.mem_of_getElem? (i := 8) rfl))) (g := (mkF m 49 #[.val (.int p0), .val (.int p1), .val (.int p2), .val (.int p3), .val (.long (own_F1 (0 : Int32) (0 : Int32))), .second, .val (.long (own_F1 p0 p1)), .second, .val (.long (own_F1 p2 p1)), .second, .val (.long (own_F1 p2 p3)), .second, .val (.int (1 : Int32)), .unset, .unset] [(.long ((own_F1 p0 p1) - (own_F1 p2 p1)))])) rfl (hb hby at_49) _ ?_
      show Steps p.tables e below (T4.setTop (mkF m 52 #[.val (.int p0), .val (.int p1), .val (.int p2), .val (.int p3), .val (.long (own_F1 (0 : Int32) (0 : Int32))), .second, .val (.long (own_F1 p0 p1)), .second, .val (.long (own_F1 p2 p1)), .second, .val (.long (own_F1 p2 p3)), .second, .val (.int (1 : Int32)), .unset, .unset] [(.long (4 : Int64)), (.long ((own_F1 p0 p1) - (own_F1 p2 p1)))])) _
      refine XS.iloadN X4.here hx rfl (hb hby at_52) rfl ?_
      show Steps p.tables e below (T4.setTop (mkF m 53 #[.val (.int p0), .val (.int p1), .val (.int p2), .val (.int p3), .val (.long (own_F1 (0 : Int32) (0 : Int32))), .second, .val (.long (own_F1 p0 p1)), .second, .val (.long (own_F1 p2 p1)), .second, .val (.long (own_F1 p2 p3)), .second, .val (.int (1 : Int32)), .unset, .unset] [(.int p0), (.long (4 : Int64)), (.long ((own_F1 p0 p1) - (own_F1 p2 p1)))])) _
      refine XS.i2l X4.here hx rfl (hb hby at_53) rfl ?_
      show Steps p.tables e below (T4.setTop (mkF m 54 #[.val (.int p0), .val (.int p1), .val (.int p2), .val (.int p3), .val (.long (own_F1 (0 : Int32) (0 : Int32))), .second, .val (.long (own_F1 p0 p1)), .second, .val (.long (own_F1 p2 p1)), .second, .val (.long (own_F1 p2 p3)), .second, .val (.int (1 : Int32)), .unset, .unset] [(.long (p0.toInt64)), (.long (4 : Int64)), (.long ((own_F1 p0 p1) - (own_F1 p2 p1)))])) _
      refine XS.iloadN X4.here hx rfl (hb hby at_54) rfl ?_
      show Steps p.tables e below (T4.setTop (mkF m 55 #[.val (.int p0), .val (.int p1), .val (.int p2), .val (.int p3), .val (.long (own_F1 (0 : Int32) (0 : Int32))), .second, .val (.long (own_F1 p0 p1)), .second, .val (.long (own_F1 p2 p1)), .second, .val (.long (own_F1 p2 p3)), .second, .val (.int (1 : Int32)), .unset, .unset] [(.int p2), (.long (p0.toInt64)), (.long (4 : Int64)), (.long ((own_F1 p0 p1) - (own_F1 p2 p1)))])) _
      refine XS.i2l X4.here hx rfl (hb hby at_55) rfl ?_
      show Steps p.tables e below (T4.setTop (mkF m 56 #[.val (.int p0), .val (.int p1), .val (.int p2), .val (.int p3), .val (.long (own_F1 (0 : Int32) (0 : Int32))), .second, .val (.long (own_F1 p0 p1)), .second, .val (.long (own_F1 p2 p1)), .second, .val (.long (own_F1 p2 p3)), .second, .val (.int (1 : Int32)), .unset, .unset] [(.long (p2.toInt64)), (.long (p0.toInt64)), (.long (4 : Int64)), (.long ((own_F1 p0 p1) - (own_F1 p2 p1)))])) _
      refine XS.lsub X4.here hx rfl (hb hby at_56) rfl ?_
      show Steps p.tables e below (T4.setTop (mkF m 57 #[.val (.int p0), .val (.int p1), .val (.int p2), .val (.int p3), .val (.long (own_F1 (0 : Int32) (0 : Int32))), .second, .val (.long (own_F1 p0 p1)), .second, .val (.long (own_F1 p2 p1)), .second, .val (.long (own_F1 p2 p3)), .second, .val (.int (1 : Int32)), .unset, .unset] [(.long ((p0.toInt64) - (p2.toInt64))), (.long (4 : Int64)), (.long ((own_F1 p0 p1) - (own_F1 p2 p1)))])) _
      refine XS.lmul X4.here hx rfl (hb hby at_57) rfl ?_
      show Steps p.tables e below (T4.setTop (mkF m 58 #[.val (.int p0), .val (.int p1), .val (.int p2), .val (.int p3), .val (.long (own_F1 (0 : Int32) (0 : Int32))), .second, .val (.long (own_F1 p0 p1)), .second, .val (.long (own_F1 p2 p1)), .second, .val (.long (own_F1 p2 p3)), .second, .val (.int (1 : Int32)), .unset, .unset] [(.long ((4 : Int64) * ((p0.toInt64) - (p2.toInt64)))), (.long ((own_F1 p0 p1) - (own_F1 p2 p1)))])) _
      refine XS.lcmp X4.here hx rfl (hb hby at_58) rfl ?_
      show Steps p.tables e below (T4.setTop (mkF m 59 #[.val (.int p0), .val (.int p1), .val (.int p2), .val (.int p3), .val (.long (own_F1 (0 : Int32) (0 : Int32))), .second, .val (.long (own_F1 p0 p1)), .second, .val (.long (own_F1 p2 p1)), .second, .val (.long (own_F1 p2 p3)), .second, .val (.int (1 : Int32)), .unset, .unset] [(.int (lcmpW ((own_F1 p0 p1) - (own_F1 p2 p1)) ((4 : Int64) * ((p0.toInt64) - (p2.toInt64)))))])) _
      exact k
    by_cases hc59_6 : ((own_F1 p0 p1) - (own_F1 p2 p1)) = ((4 : Int64) * ((p0.toInt64) - (p2.toInt64)))
    · skip
      refine own_go (T' := T4) (f' := (mkF m 84 #[.val (.int p0), .val (.int p1), .val (.int p2), .val (.int p3), .val (.long (own_F1 (0 : Int32) (0 : Int32))), .second, .val (.long (own_F1 p0 p1)), .second, .val (.long (own_F1 p2 p1)), .second, .val (.long (own_F1 p2 p3)), .second, .val (.int (1 : Int32)), .val (.int (1 : Int32)), .unset] [(.int (lcmpW ((own_F1 p2 p1) - (own_F1 p2 p3)) ((20 : Int64) * ((p1.toInt64) - (p3.toInt64)))))])) (fun t k => ?_) ?_
      · show Steps p.tables e below (T4.setTop (mkF m 59 #[.val (.int p0), .val (.int p1), .val (.int p2), .val (.int p3), .val (.long (own_F1 (0 : Int32) (0 : Int32))), .second, .val (.long (own_F1 p0 p1)), .second, .val (.long (own_F1 p2 p1)), .second, .val (.long (own_F1 p2 p3)), .second, .val (.int (1 : Int32)), .unset, .unset] [(.int (lcmpW ((own_F1 p0 p1) - (own_F1 p2 p1)) ((4 : Int64) * ((p0.toInt64) - (p2.toInt64)))))])) _
        refine XS.ifNo X4.here hx rfl (hb hby at_59) rfl ((if0 _ _).trans (teq ((lw_eq ((own_F1 p0 p1) - (own_F1 p2 p1)) ((4 : Int64) * ((p0.toInt64) - (p2.toInt64)))).mpr hc59_6)).2) ?_
        show Steps p.tables e below (T4.setTop (mkF m 62 #[.val (.int p0), .val (.int p1), .val (.int p2), .val (.int p3), .val (.long (own_F1 (0 : Int32) (0 : Int32))), .second, .val (.long (own_F1 p0 p1)), .second, .val (.long (own_F1 p2 p1)), .second, .val (.long (own_F1 p2 p3)), .second, .val (.int (1 : Int32)), .unset, .unset] [])) _
        refine XS.iconst X4.here hx rfl (hb hby at_62) ?_
        show Steps p.tables e below (T4.setTop (mkF m 63 #[.val (.int p0), .val (.int p1), .val (.int p2), .val (.int p3), .val (.long (own_F1 (0 : Int32) (0 : Int32))), .second, .val (.long (own_F1 p0 p1)), .second, .val (.long (own_F1 p2 p1)), .second, .val (.long (own_F1 p2 p3)), .second, .val (.int (1 : Int32)), .unset, .unset] [(.int (1 : Int32))])) _
        refine XS.goto X4.here hx rfl (pc0 := 63) (pc' := 67) rfl (hb hby at_63) (by decide) (by decide) ?_
        show Steps p.tables e below (T4.setTop (mkF m 67 #[.val (.int p0), .val (.int p1), .val (.int p2), .val (.int p3), .val (.long (own_F1 (0 : Int32) (0 : Int32))), .second, .val (.long (own_F1 p0 p1)), .second, .val (.long (own_F1 p2 p1)), .second, .val (.long (own_F1 p2 p3)), .second, .val (.int (1 : Int32)), .unset, .unset] [(.int (1 : Int32))])) _
        refine XS.istore X4.here hx rfl (hb hby at_67) rfl (l' := #[.val (.int p0), .val (.int p1), .val (.int p2), .val (.int p3), .val (.long (own_F1 (0 : Int32) (0 : Int32))), .second, .val (.long (own_F1 p0 p1)), .second, .val (.long (own_F1 p2 p1)), .second, .val (.long (own_F1 p2 p3)), .second, .val (.int (1 : Int32)), .val (.int (1 : Int32)), .unset]) rfl ?_
        show Steps p.tables e below (T4.setTop (mkF m 69 #[.val (.int p0), .val (.int p1), .val (.int p2), .val (.int p3), .val (.long (own_F1 (0 : Int32) (0 : Int32))), .second, .val (.long (own_F1 p0 p1)), .second, .val (.long (own_F1 p2 p1)), .second, .val (.long (own_F1 p2 p3)), .second, .val (.int (1 : Int32)), .val (.int (1 : Int32)), .unset] [])) _
        refine XS.lload X4.here hx rfl (hb hby at_69) rfl ?_
        show Steps p.tables e below (T4.setTop (mkF m 71 #[.val (.int p0), .val (.int p1), .val (.int p2), .val (.int p3), .val (.long (own_F1 (0 : Int32) (0 : Int32))), .second, .val (.long (own_F1 p0 p1)), .second, .val (.long (own_F1 p2 p1)), .second, .val (.long (own_F1 p2 p3)), .second, .val (.int (1 : Int32)), .val (.int (1 : Int32)), .unset] [(.long (own_F1 p2 p1))])) _
        refine XS.lload X4.here hx rfl (hb hby at_71) rfl ?_
        show Steps p.tables e below (T4.setTop (mkF m 73 #[.val (.int p0), .val (.int p1), .val (.int p2), .val (.int p3), .val (.long (own_F1 (0 : Int32) (0 : Int32))), .second, .val (.long (own_F1 p0 p1)), .second, .val (.long (own_F1 p2 p1)), .second, .val (.long (own_F1 p2 p3)), .second, .val (.int (1 : Int32)), .val (.int (1 : Int32)), .unset] [(.long (own_F1 p2 p3)), (.long (own_F1 p2 p1))])) _
        refine XS.lsub X4.here hx rfl (hb hby at_73) rfl ?_
        show Steps p.tables e below (T4.setTop (mkF m 74 #[.val (.int p0), .val (.int p1), .val (.int p2), .val (.int p3), .val (.long (own_F1 (0 : Int32) (0 : Int32))), .second, .val (.long (own_F1 p0 p1)), .second, .val (.long (own_F1 p2 p1)), .second, .val (.long (own_F1 p2 p3)), .second, .val (.int (1 : Int32)), .val (.int (1 : Int32)), .unset] [(.long ((own_F1 p2 p1) - (own_F1 p2 p3)))])) _
        refine X4.ldc2Long hx hown (mvT hZ (hw _ (List.mem_of_getElem? (i := 9) rfl))) (g := (mkF m 74 #[.val (.int p0), .val (.int p1), .val (.int p2), .val (.int p3), .val (.long (own_F1 (0 : Int32) (0 : Int32))), .second, .val (.long (own_F1 p0 p1)), .second, .val (.long (own_F1 p2 p1)), .second, .val (.long (own_F1 p2 p3)), .second, .val (.int (1 : Int32)), .val (.int (1 : Int32)), .unset] [(.long ((own_F1 p2 p1) - (own_F1 p2 p3)))])) rfl (hb hby at_74) _ ?_
        show Steps p.tables e below (T4.setTop (mkF m 77 #[.val (.int p0), .val (.int p1), .val (.int p2), .val (.int p3), .val (.long (own_F1 (0 : Int32) (0 : Int32))), .second, .val (.long (own_F1 p0 p1)), .second, .val (.long (own_F1 p2 p1)), .second, .val (.long (own_F1 p2 p3)), .second, .val (.int (1 : Int32)), .val (.int (1 : Int32)), .unset] [(.long (20 : Int64)), (.long ((own_F1 p2 p1) - (own_F1 p2 p3)))])) _
        refine XS.iloadN X4.here hx rfl (hb hby at_77) rfl ?_
        show Steps p.tables e below (T4.setTop (mkF m 78 #[.val (.int p0), .val (.int p1), .val (.int p2), .val (.int p3), .val (.long (own_F1 (0 : Int32) (0 : Int32))), .second, .val (.long (own_F1 p0 p1)), .second, .val (.long (own_F1 p2 p1)), .second, .val (.long (own_F1 p2 p3)), .second, .val (.int (1 : Int32)), .val (.int (1 : Int32)), .unset] [(.int p1), (.long (20 : Int64)), (.long ((own_F1 p2 p1) - (own_F1 p2 p3)))])) _
        refine XS.i2l X4.here hx rfl (hb hby at_78) rfl ?_
        show Steps p.tables e below (T4.setTop (mkF m 79 #[.val (.int p0), .val (.int p1), .val (.int p2), .val (.int p3), .val (.long (own_F1 (0 : Int32) (0 : Int32))), .second, .val (.long (own_F1 p0 p1)), .second, .val (.long (own_F1 p2 p1)), .second, .val (.long (own_F1 p2 p3)), .second, .val (.int (1 : Int32)), .val (.int (1 : Int32)), .unset] [(.long (p1.toInt64)), (.long (20 : Int64)), (.long ((own_F1 p2 p1) - (own_F1 p2 p3)))])) _
        refine XS.iloadN X4.here hx rfl (hb hby at_79) rfl ?_
        show Steps p.tables e below (T4.setTop (mkF m 80 #[.val (.int p0), .val (.int p1), .val (.int p2), .val (.int p3), .val (.long (own_F1 (0 : Int32) (0 : Int32))), .second, .val (.long (own_F1 p0 p1)), .second, .val (.long (own_F1 p2 p1)), .second, .val (.long (own_F1 p2 p3)), .second, .val (.int (1 : Int32)), .val (.int (1 : Int32)), .unset] [(.int p3), (.long (p1.toInt64)), (.long (20 : Int64)), (.long ((own_F1 p2 p1) - (own_F1 p2 p3)))])) _
        refine XS.i2l X4.here hx rfl (hb hby at_80) rfl ?_
        show Steps p.tables e below (T4.setTop (mkF m 81 #[.val (.int p0), .val (.int p1), .val (.int p2), .val (.int p3), .val (.long (own_F1 (0 : Int32) (0 : Int32))), .second, .val (.long (own_F1 p0 p1)), .second, .val (.long (own_F1 p2 p1)), .second, .val (.long (own_F1 p2 p3)), .second, .val (.int (1 : Int32)), .val (.int (1 : Int32)), .unset] [(.long (p3.toInt64)), (.long (p1.toInt64)), (.long (20 : Int64)), (.long ((own_F1 p2 p1) - (own_F1 p2 p3)))])) _
        refine XS.lsub X4.here hx rfl (hb hby at_81) rfl ?_
        show Steps p.tables e below (T4.setTop (mkF m 82 #[.val (.int p0), .val (.int p1), .val (.int p2), .val (.int p3), .val (.long (own_F1 (0 : Int32) (0 : Int32))), .second, .val (.long (own_F1 p0 p1)), .second, .val (.long (own_F1 p2 p1)), .second, .val (.long (own_F1 p2 p3)), .second, .val (.int (1 : Int32)), .val (.int (1 : Int32)), .unset] [(.long ((p1.toInt64) - (p3.toInt64))), (.long (20 : Int64)), (.long ((own_F1 p2 p1) - (own_F1 p2 p3)))])) _
        refine XS.lmul X4.here hx rfl (hb hby at_82) rfl ?_
        show Steps p.tables e below (T4.setTop (mkF m 83 #[.val (.int p0), .val (.int p1), .val (.int p2), .val (.int p3), .val (.long (own_F1 (0 : Int32) (0 : Int32))), .second, .val (.long (own_F1 p0 p1)), .second, .val (.long (own_F1 p2 p1)), .second, .val (.long (own_F1 p2 p3)), .second, .val (.int (1 : Int32)), .val (.int (1 : Int32)), .unset] [(.long ((20 : Int64) * ((p1.toInt64) - (p3.toInt64)))), (.long ((own_F1 p2 p1) - (own_F1 p2 p3)))])) _
        refine XS.lcmp X4.here hx rfl (hb hby at_83) rfl ?_
        show Steps p.tables e below (T4.setTop (mkF m 84 #[.val (.int p0), .val (.int p1), .val (.int p2), .val (.int p3), .val (.long (own_F1 (0 : Int32) (0 : Int32))), .second, .val (.long (own_F1 p0 p1)), .second, .val (.long (own_F1 p2 p1)), .second, .val (.long (own_F1 p2 p3)), .second, .val (.int (1 : Int32)), .val (.int (1 : Int32)), .unset] [(.int (lcmpW ((own_F1 p2 p1) - (own_F1 p2 p3)) ((20 : Int64) * ((p1.toInt64) - (p3.toInt64)))))])) _
        exact k
      by_cases hc84_7 : ((own_F1 p2 p1) - (own_F1 p2 p3)) = ((20 : Int64) * ((p1.toInt64) - (p3.toInt64)))
      · skip
        refine own_go (T' := T4) (f' := (mkF m 114 #[.val (.int p0), .val (.int p1), .val (.int p2), .val (.int p3), .val (.long (own_F1 (0 : Int32) (0 : Int32))), .second, .val (.long (own_F1 p0 p1)), .second, .val (.long (own_F1 p2 p1)), .second, .val (.long (own_F1 p2 p3)), .second, .val (.int (1 : Int32)), .val (.int (1 : Int32)), .val (.int (1 : Int32))] [(.int (1 : Int32))])) (fun t k => ?_) ?_
        · show Steps p.tables e below (T4.setTop (mkF m 84 #[.val (.int p0), .val (.int p1), .val (.int p2), .val (.int p3), .val (.long (own_F1 (0 : Int32) (0 : Int32))), .second, .val (.long (own_F1 p0 p1)), .second, .val (.long (own_F1 p2 p1)), .second, .val (.long (own_F1 p2 p3)), .second, .val (.int (1 : Int32)), .val (.int (1 : Int32)), .unset] [(.int (lcmpW ((own_F1 p2 p1) - (own_F1 p2 p3)) ((20 : Int64) * ((p1.toInt64) - (p3.toInt64)))))])) _
          refine XS.ifNo X4.here hx rfl (hb hby at_84) rfl ((if0 _ _).trans (teq ((lw_eq ((own_F1 p2 p1) - (own_F1 p2 p3)) ((20 : Int64) * ((p1.toInt64) - (p3.toInt64)))).mpr hc84_7)).2) ?_
          show Steps p.tables e below (T4.setTop (mkF m 87 #[.val (.int p0), .val (.int p1), .val (.int p2), .val (.int p3), .val (.long (own_F1 (0 : Int32) (0 : Int32))), .second, .val (.long (own_F1 p0 p1)), .second, .val (.long (own_F1 p2 p1)), .second, .val (.long (own_F1 p2 p3)), .second, .val (.int (1 : Int32)), .val (.int (1 : Int32)), .unset] [])) _
          refine XS.iconst X4.here hx rfl (hb hby at_87) ?_
          show Steps p.tables e below (T4.setTop (mkF m 88 #[.val (.int p0), .val (.int p1), .val (.int p2), .val (.int p3), .val (.long (own_F1 (0 : Int32) (0 : Int32))), .second, .val (.long (own_F1 p0 p1)), .second, .val (.long (own_F1 p2 p1)), .second, .val (.long (own_F1 p2 p3)), .second, .val (.int (1 : Int32)), .val (.int (1 : Int32)), .unset] [(.int (1 : Int32))])) _
          refine XS.goto X4.here hx rfl (pc0 := 88) (pc' := 92) rfl (hb hby at_88) (by decide) (by decide) ?_
          show Steps p.tables e below (T4.setTop (mkF m 92 #[.val (.int p0), .val (.int p1), .val (.int p2), .val (.int p3), .val (.long (own_F1 (0 : Int32) (0 : Int32))), .second, .val (.long (own_F1 p0 p1)), .second, .val (.long (own_F1 p2 p1)), .second, .val (.long (own_F1 p2 p3)), .second, .val (.int (1 : Int32)), .val (.int (1 : Int32)), .unset] [(.int (1 : Int32))])) _
          refine XS.istore X4.here hx rfl (hb hby at_92) rfl (l' := #[.val (.int p0), .val (.int p1), .val (.int p2), .val (.int p3), .val (.long (own_F1 (0 : Int32) (0 : Int32))), .second, .val (.long (own_F1 p0 p1)), .second, .val (.long (own_F1 p2 p1)), .second, .val (.long (own_F1 p2 p3)), .second, .val (.int (1 : Int32)), .val (.int (1 : Int32)), .val (.int (1 : Int32))]) rfl ?_
          show Steps p.tables e below (T4.setTop (mkF m 94 #[.val (.int p0), .val (.int p1), .val (.int p2), .val (.int p3), .val (.long (own_F1 (0 : Int32) (0 : Int32))), .second, .val (.long (own_F1 p0 p1)), .second, .val (.long (own_F1 p2 p1)), .second, .val (.long (own_F1 p2 p3)), .second, .val (.int (1 : Int32)), .val (.int (1 : Int32)), .val (.int (1 : Int32))] [])) _
          refine XS.iload X4.here hx rfl (hb hby at_94) rfl ?_
          show Steps p.tables e below (T4.setTop (mkF m 96 #[.val (.int p0), .val (.int p1), .val (.int p2), .val (.int p3), .val (.long (own_F1 (0 : Int32) (0 : Int32))), .second, .val (.long (own_F1 p0 p1)), .second, .val (.long (own_F1 p2 p1)), .second, .val (.long (own_F1 p2 p3)), .second, .val (.int (1 : Int32)), .val (.int (1 : Int32)), .val (.int (1 : Int32))] [(.int (1 : Int32))])) _
          refine XS.ifNo X4.here hx rfl (hb hby at_96) rfl ((if0 _ _).trans (feq (by decide : ¬ ((1 : Int32) = (0 : Int32)))).1) ?_
          show Steps p.tables e below (T4.setTop (mkF m 99 #[.val (.int p0), .val (.int p1), .val (.int p2), .val (.int p3), .val (.long (own_F1 (0 : Int32) (0 : Int32))), .second, .val (.long (own_F1 p0 p1)), .second, .val (.long (own_F1 p2 p1)), .second, .val (.long (own_F1 p2 p3)), .second, .val (.int (1 : Int32)), .val (.int (1 : Int32)), .val (.int (1 : Int32))] [])) _
          refine XS.iload X4.here hx rfl (hb hby at_99) rfl ?_
          show Steps p.tables e below (T4.setTop (mkF m 101 #[.val (.int p0), .val (.int p1), .val (.int p2), .val (.int p3), .val (.long (own_F1 (0 : Int32) (0 : Int32))), .second, .val (.long (own_F1 p0 p1)), .second, .val (.long (own_F1 p2 p1)), .second, .val (.long (own_F1 p2 p3)), .second, .val (.int (1 : Int32)), .val (.int (1 : Int32)), .val (.int (1 : Int32))] [(.int (1 : Int32))])) _
          refine XS.ifNo X4.here hx rfl (hb hby at_101) rfl ((if0 _ _).trans (feq (by decide : ¬ ((1 : Int32) = (0 : Int32)))).1) ?_
          show Steps p.tables e below (T4.setTop (mkF m 104 #[.val (.int p0), .val (.int p1), .val (.int p2), .val (.int p3), .val (.long (own_F1 (0 : Int32) (0 : Int32))), .second, .val (.long (own_F1 p0 p1)), .second, .val (.long (own_F1 p2 p1)), .second, .val (.long (own_F1 p2 p3)), .second, .val (.int (1 : Int32)), .val (.int (1 : Int32)), .val (.int (1 : Int32))] [])) _
          refine XS.iload X4.here hx rfl (hb hby at_104) rfl ?_
          show Steps p.tables e below (T4.setTop (mkF m 106 #[.val (.int p0), .val (.int p1), .val (.int p2), .val (.int p3), .val (.long (own_F1 (0 : Int32) (0 : Int32))), .second, .val (.long (own_F1 p0 p1)), .second, .val (.long (own_F1 p2 p1)), .second, .val (.long (own_F1 p2 p3)), .second, .val (.int (1 : Int32)), .val (.int (1 : Int32)), .val (.int (1 : Int32))] [(.int (1 : Int32))])) _
          refine XS.ifNo X4.here hx rfl (hb hby at_106) rfl ((if0 _ _).trans (feq (by decide : ¬ ((1 : Int32) = (0 : Int32)))).1) ?_
          show Steps p.tables e below (T4.setTop (mkF m 109 #[.val (.int p0), .val (.int p1), .val (.int p2), .val (.int p3), .val (.long (own_F1 (0 : Int32) (0 : Int32))), .second, .val (.long (own_F1 p0 p1)), .second, .val (.long (own_F1 p2 p1)), .second, .val (.long (own_F1 p2 p3)), .second, .val (.int (1 : Int32)), .val (.int (1 : Int32)), .val (.int (1 : Int32))] [])) _
          refine XS.iconst X4.here hx rfl (hb hby at_109) ?_
          show Steps p.tables e below (T4.setTop (mkF m 110 #[.val (.int p0), .val (.int p1), .val (.int p2), .val (.int p3), .val (.long (own_F1 (0 : Int32) (0 : Int32))), .second, .val (.long (own_F1 p0 p1)), .second, .val (.long (own_F1 p2 p1)), .second, .val (.long (own_F1 p2 p3)), .second, .val (.int (1 : Int32)), .val (.int (1 : Int32)), .val (.int (1 : Int32))] [(.int (1 : Int32))])) _
          refine XS.goto X4.here hx rfl (pc0 := 110) (pc' := 114) rfl (hb hby at_110) (by decide) (by decide) ?_
          show Steps p.tables e below (T4.setTop (mkF m 114 #[.val (.int p0), .val (.int p1), .val (.int p2), .val (.int p3), .val (.long (own_F1 (0 : Int32) (0 : Int32))), .second, .val (.long (own_F1 p0 p1)), .second, .val (.long (own_F1 p2 p1)), .second, .val (.long (own_F1 p2 p3)), .second, .val (.int (1 : Int32)), .val (.int (1 : Int32)), .val (.int (1 : Int32))] [(.int (1 : Int32))])) _
          exact k
        obtain ⟨fs, hr, hrun, hended, hW, hsame⟩ := X4.leave (v := some (.int (1 : Int32))) (fun h => by rw [Bd.returns] at h; cases h)
        refine ⟨_, _, ?_, hrun, hended, _, _, rfl, ?_, ⟨_, rfl⟩, hW, hsame.mono (by decide) (by decide)⟩
        · exact retN X4 hx (t := .boolean) Bd.returns (by simp) (hb hby at_114) hr
        · show own_Q0 Z p0 p1 p2 p3 h0 n0 _ T4.heap _
          rw [h4q]
          exact ⟨(congrArg (fun z => some (Value.int z)) ((by rw [own_F0, if_pos hc34_5, if_pos hc59_6, if_pos hc84_7] : (1 : Int32) = own_F0 p0 p1 p2 p3).trans (own_law p0 p1 p2 p3))), N4⟩
      · skip
        refine own_go (T' := T4) (f' := (mkF m 114 #[.val (.int p0), .val (.int p1), .val (.int p2), .val (.int p3), .val (.long (own_F1 (0 : Int32) (0 : Int32))), .second, .val (.long (own_F1 p0 p1)), .second, .val (.long (own_F1 p2 p1)), .second, .val (.long (own_F1 p2 p3)), .second, .val (.int (1 : Int32)), .val (.int (1 : Int32)), .val (.int (0 : Int32))] [(.int (0 : Int32))])) (fun t k => ?_) ?_
        · show Steps p.tables e below (T4.setTop (mkF m 84 #[.val (.int p0), .val (.int p1), .val (.int p2), .val (.int p3), .val (.long (own_F1 (0 : Int32) (0 : Int32))), .second, .val (.long (own_F1 p0 p1)), .second, .val (.long (own_F1 p2 p1)), .second, .val (.long (own_F1 p2 p3)), .second, .val (.int (1 : Int32)), .val (.int (1 : Int32)), .unset] [(.int (lcmpW ((own_F1 p2 p1) - (own_F1 p2 p3)) ((20 : Int64) * ((p1.toInt64) - (p3.toInt64)))))])) _
          refine XS.ifYes X4.here hx rfl (pc0 := 84) (pc' := 91) rfl (hb hby at_84) rfl ((if0 _ _).trans (feq (fun q => hc84_7 ((lw_eq ((own_F1 p2 p1) - (own_F1 p2 p3)) ((20 : Int64) * ((p1.toInt64) - (p3.toInt64)))).mp q))).2) (by decide) (by decide) ?_
          show Steps p.tables e below (T4.setTop (mkF m 91 #[.val (.int p0), .val (.int p1), .val (.int p2), .val (.int p3), .val (.long (own_F1 (0 : Int32) (0 : Int32))), .second, .val (.long (own_F1 p0 p1)), .second, .val (.long (own_F1 p2 p1)), .second, .val (.long (own_F1 p2 p3)), .second, .val (.int (1 : Int32)), .val (.int (1 : Int32)), .unset] [])) _
          refine XS.iconst X4.here hx rfl (hb hby at_91) ?_
          show Steps p.tables e below (T4.setTop (mkF m 92 #[.val (.int p0), .val (.int p1), .val (.int p2), .val (.int p3), .val (.long (own_F1 (0 : Int32) (0 : Int32))), .second, .val (.long (own_F1 p0 p1)), .second, .val (.long (own_F1 p2 p1)), .second, .val (.long (own_F1 p2 p3)), .second, .val (.int (1 : Int32)), .val (.int (1 : Int32)), .unset] [(.int (0 : Int32))])) _
          refine XS.istore X4.here hx rfl (hb hby at_92) rfl (l' := #[.val (.int p0), .val (.int p1), .val (.int p2), .val (.int p3), .val (.long (own_F1 (0 : Int32) (0 : Int32))), .second, .val (.long (own_F1 p0 p1)), .second, .val (.long (own_F1 p2 p1)), .second, .val (.long (own_F1 p2 p3)), .second, .val (.int (1 : Int32)), .val (.int (1 : Int32)), .val (.int (0 : Int32))]) rfl ?_
          show Steps p.tables e below (T4.setTop (mkF m 94 #[.val (.int p0), .val (.int p1), .val (.int p2), .val (.int p3), .val (.long (own_F1 (0 : Int32) (0 : Int32))), .second, .val (.long (own_F1 p0 p1)), .second, .val (.long (own_F1 p2 p1)), .second, .val (.long (own_F1 p2 p3)), .second, .val (.int (1 : Int32)), .val (.int (1 : Int32)), .val (.int (0 : Int32))] [])) _
          refine XS.iload X4.here hx rfl (hb hby at_94) rfl ?_
          show Steps p.tables e below (T4.setTop (mkF m 96 #[.val (.int p0), .val (.int p1), .val (.int p2), .val (.int p3), .val (.long (own_F1 (0 : Int32) (0 : Int32))), .second, .val (.long (own_F1 p0 p1)), .second, .val (.long (own_F1 p2 p1)), .second, .val (.long (own_F1 p2 p3)), .second, .val (.int (1 : Int32)), .val (.int (1 : Int32)), .val (.int (0 : Int32))] [(.int (1 : Int32))])) _
          refine XS.ifNo X4.here hx rfl (hb hby at_96) rfl ((if0 _ _).trans (feq (by decide : ¬ ((1 : Int32) = (0 : Int32)))).1) ?_
          show Steps p.tables e below (T4.setTop (mkF m 99 #[.val (.int p0), .val (.int p1), .val (.int p2), .val (.int p3), .val (.long (own_F1 (0 : Int32) (0 : Int32))), .second, .val (.long (own_F1 p0 p1)), .second, .val (.long (own_F1 p2 p1)), .second, .val (.long (own_F1 p2 p3)), .second, .val (.int (1 : Int32)), .val (.int (1 : Int32)), .val (.int (0 : Int32))] [])) _
          refine XS.iload X4.here hx rfl (hb hby at_99) rfl ?_
          show Steps p.tables e below (T4.setTop (mkF m 101 #[.val (.int p0), .val (.int p1), .val (.int p2), .val (.int p3), .val (.long (own_F1 (0 : Int32) (0 : Int32))), .second, .val (.long (own_F1 p0 p1)), .second, .val (.long (own_F1 p2 p1)), .second, .val (.long (own_F1 p2 p3)), .second, .val (.int (1 : Int32)), .val (.int (1 : Int32)), .val (.int (0 : Int32))] [(.int (1 : Int32))])) _
          refine XS.ifNo X4.here hx rfl (hb hby at_101) rfl ((if0 _ _).trans (feq (by decide : ¬ ((1 : Int32) = (0 : Int32)))).1) ?_
          show Steps p.tables e below (T4.setTop (mkF m 104 #[.val (.int p0), .val (.int p1), .val (.int p2), .val (.int p3), .val (.long (own_F1 (0 : Int32) (0 : Int32))), .second, .val (.long (own_F1 p0 p1)), .second, .val (.long (own_F1 p2 p1)), .second, .val (.long (own_F1 p2 p3)), .second, .val (.int (1 : Int32)), .val (.int (1 : Int32)), .val (.int (0 : Int32))] [])) _
          refine XS.iload X4.here hx rfl (hb hby at_104) rfl ?_
          show Steps p.tables e below (T4.setTop (mkF m 106 #[.val (.int p0), .val (.int p1), .val (.int p2), .val (.int p3), .val (.long (own_F1 (0 : Int32) (0 : Int32))), .second, .val (.long (own_F1 p0 p1)), .second, .val (.long (own_F1 p2 p1)), .second, .val (.long (own_F1 p2 p3)), .second, .val (.int (1 : Int32)), .val (.int (1 : Int32)), .val (.int (0 : Int32))] [(.int (0 : Int32))])) _
          refine XS.ifYes X4.here hx rfl (pc0 := 106) (pc' := 113) rfl (hb hby at_106) rfl ((if0 _ _).trans (teq (by decide : (0 : Int32) = (0 : Int32))).1) (by decide) (by decide) ?_
          show Steps p.tables e below (T4.setTop (mkF m 113 #[.val (.int p0), .val (.int p1), .val (.int p2), .val (.int p3), .val (.long (own_F1 (0 : Int32) (0 : Int32))), .second, .val (.long (own_F1 p0 p1)), .second, .val (.long (own_F1 p2 p1)), .second, .val (.long (own_F1 p2 p3)), .second, .val (.int (1 : Int32)), .val (.int (1 : Int32)), .val (.int (0 : Int32))] [])) _
          refine XS.iconst X4.here hx rfl (hb hby at_113) ?_
          show Steps p.tables e below (T4.setTop (mkF m 114 #[.val (.int p0), .val (.int p1), .val (.int p2), .val (.int p3), .val (.long (own_F1 (0 : Int32) (0 : Int32))), .second, .val (.long (own_F1 p0 p1)), .second, .val (.long (own_F1 p2 p1)), .second, .val (.long (own_F1 p2 p3)), .second, .val (.int (1 : Int32)), .val (.int (1 : Int32)), .val (.int (0 : Int32))] [(.int (0 : Int32))])) _
          exact k
        obtain ⟨fs, hr, hrun, hended, hW, hsame⟩ := X4.leave (v := some (.int (0 : Int32))) (fun h => by rw [Bd.returns] at h; cases h)
        refine ⟨_, _, ?_, hrun, hended, _, _, rfl, ?_, ⟨_, rfl⟩, hW, hsame.mono (by decide) (by decide)⟩
        · exact retN X4 hx (t := .boolean) Bd.returns (by simp) (hb hby at_114) hr
        · show own_Q0 Z p0 p1 p2 p3 h0 n0 _ T4.heap _
          rw [h4q]
          exact ⟨(congrArg (fun z => some (Value.int z)) ((by rw [own_F0, if_pos hc34_5, if_pos hc59_6, if_neg hc84_7] : (0 : Int32) = own_F0 p0 p1 p2 p3).trans (own_law p0 p1 p2 p3))), N4⟩
    · skip
      refine own_go (T' := T4) (f' := (mkF m 84 #[.val (.int p0), .val (.int p1), .val (.int p2), .val (.int p3), .val (.long (own_F1 (0 : Int32) (0 : Int32))), .second, .val (.long (own_F1 p0 p1)), .second, .val (.long (own_F1 p2 p1)), .second, .val (.long (own_F1 p2 p3)), .second, .val (.int (1 : Int32)), .val (.int (0 : Int32)), .unset] [(.int (lcmpW ((own_F1 p2 p1) - (own_F1 p2 p3)) ((20 : Int64) * ((p1.toInt64) - (p3.toInt64)))))])) (fun t k => ?_) ?_
      · show Steps p.tables e below (T4.setTop (mkF m 59 #[.val (.int p0), .val (.int p1), .val (.int p2), .val (.int p3), .val (.long (own_F1 (0 : Int32) (0 : Int32))), .second, .val (.long (own_F1 p0 p1)), .second, .val (.long (own_F1 p2 p1)), .second, .val (.long (own_F1 p2 p3)), .second, .val (.int (1 : Int32)), .unset, .unset] [(.int (lcmpW ((own_F1 p0 p1) - (own_F1 p2 p1)) ((4 : Int64) * ((p0.toInt64) - (p2.toInt64)))))])) _
        refine XS.ifYes X4.here hx rfl (pc0 := 59) (pc' := 66) rfl (hb hby at_59) rfl ((if0 _ _).trans (feq (fun q => hc59_6 ((lw_eq ((own_F1 p0 p1) - (own_F1 p2 p1)) ((4 : Int64) * ((p0.toInt64) - (p2.toInt64)))).mp q))).2) (by decide) (by decide) ?_
        show Steps p.tables e below (T4.setTop (mkF m 66 #[.val (.int p0), .val (.int p1), .val (.int p2), .val (.int p3), .val (.long (own_F1 (0 : Int32) (0 : Int32))), .second, .val (.long (own_F1 p0 p1)), .second, .val (.long (own_F1 p2 p1)), .second, .val (.long (own_F1 p2 p3)), .second, .val (.int (1 : Int32)), .unset, .unset] [])) _
        refine XS.iconst X4.here hx rfl (hb hby at_66) ?_
        show Steps p.tables e below (T4.setTop (mkF m 67 #[.val (.int p0), .val (.int p1), .val (.int p2), .val (.int p3), .val (.long (own_F1 (0 : Int32) (0 : Int32))), .second, .val (.long (own_F1 p0 p1)), .second, .val (.long (own_F1 p2 p1)), .second, .val (.long (own_F1 p2 p3)), .second, .val (.int (1 : Int32)), .unset, .unset] [(.int (0 : Int32))])) _
        refine XS.istore X4.here hx rfl (hb hby at_67) rfl (l' := #[.val (.int p0), .val (.int p1), .val (.int p2), .val (.int p3), .val (.long (own_F1 (0 : Int32) (0 : Int32))), .second, .val (.long (own_F1 p0 p1)), .second, .val (.long (own_F1 p2 p1)), .second, .val (.long (own_F1 p2 p3)), .second, .val (.int (1 : Int32)), .val (.int (0 : Int32)), .unset]) rfl ?_
        show Steps p.tables e below (T4.setTop (mkF m 69 #[.val (.int p0), .val (.int p1), .val (.int p2), .val (.int p3), .val (.long (own_F1 (0 : Int32) (0 : Int32))), .second, .val (.long (own_F1 p0 p1)), .second, .val (.long (own_F1 p2 p1)), .second, .val (.long (own_F1 p2 p3)), .second, .val (.int (1 : Int32)), .val (.int (0 : Int32)), .unset] [])) _
        refine XS.lload X4.here hx rfl (hb hby at_69) rfl ?_
        show Steps p.tables e below (T4.setTop (mkF m 71 #[.val (.int p0), .val (.int p1), .val (.int p2), .val (.int p3), .val (.long (own_F1 (0 : Int32) (0 : Int32))), .second, .val (.long (own_F1 p0 p1)), .second, .val (.long (own_F1 p2 p1)), .second, .val (.long (own_F1 p2 p3)), .second, .val (.int (1 : Int32)), .val (.int (0 : Int32)), .unset] [(.long (own_F1 p2 p1))])) _
        refine XS.lload X4.here hx rfl (hb hby at_71) rfl ?_
        show Steps p.tables e below (T4.setTop (mkF m 73 #[.val (.int p0), .val (.int p1), .val (.int p2), .val (.int p3), .val (.long (own_F1 (0 : Int32) (0 : Int32))), .second, .val (.long (own_F1 p0 p1)), .second, .val (.long (own_F1 p2 p1)), .second, .val (.long (own_F1 p2 p3)), .second, .val (.int (1 : Int32)), .val (.int (0 : Int32)), .unset] [(.long (own_F1 p2 p3)), (.long (own_F1 p2 p1))])) _
        refine XS.lsub X4.here hx rfl (hb hby at_73) rfl ?_
        show Steps p.tables e below (T4.setTop (mkF m 74 #[.val (.int p0), .val (.int p1), .val (.int p2), .val (.int p3), .val (.long (own_F1 (0 : Int32) (0 : Int32))), .second, .val (.long (own_F1 p0 p1)), .second, .val (.long (own_F1 p2 p1)), .second, .val (.long (own_F1 p2 p3)), .second, .val (.int (1 : Int32)), .val (.int (0 : Int32)), .unset] [(.long ((own_F1 p2 p1) - (own_F1 p2 p3)))])) _
        refine X4.ldc2Long hx hown (mvT hZ (hw _ (List.mem_of_getElem? (i := 9) rfl))) (g := (mkF m 74 #[.val (.int p0), .val (.int p1), .val (.int p2), .val (.int p3), .val (.long (own_F1 (0 : Int32) (0 : Int32))), .second, .val (.long (own_F1 p0 p1)), .second, .val (.long (own_F1 p2 p1)), .second, .val (.long (own_F1 p2 p3)), .second, .val (.int (1 : Int32)), .val (.int (0 : Int32)), .unset] [(.long ((own_F1 p2 p1) - (own_F1 p2 p3)))])) rfl (hb hby at_74) _ ?_
        show Steps p.tables e below (T4.setTop (mkF m 77 #[.val (.int p0), .val (.int p1), .val (.int p2), .val (.int p3), .val (.long (own_F1 (0 : Int32) (0 : Int32))), .second, .val (.long (own_F1 p0 p1)), .second, .val (.long (own_F1 p2 p1)), .second, .val (.long (own_F1 p2 p3)), .second, .val (.int (1 : Int32)), .val (.int (0 : Int32)), .unset] [(.long (20 : Int64)), (.long ((own_F1 p2 p1) - (own_F1 p2 p3)))])) _
        refine XS.iloadN X4.here hx rfl (hb hby at_77) rfl ?_
        show Steps p.tables e below (T4.setTop (mkF m 78 #[.val (.int p0), .val (.int p1), .val (.int p2), .val (.int p3), .val (.long (own_F1 (0 : Int32) (0 : Int32))), .second, .val (.long (own_F1 p0 p1)), .second, .val (.long (own_F1 p2 p1)), .second, .val (.long (own_F1 p2 p3)), .second, .val (.int (1 : Int32)), .val (.int (0 : Int32)), .unset] [(.int p1), (.long (20 : Int64)), (.long ((own_F1 p2 p1) - (own_F1 p2 p3)))])) _
        refine XS.i2l X4.here hx rfl (hb hby at_78) rfl ?_
        show Steps p.tables e below (T4.setTop (mkF m 79 #[.val (.int p0), .val (.int p1), .val (.int p2), .val (.int p3), .val (.long (own_F1 (0 : Int32) (0 : Int32))), .second, .val (.long (own_F1 p0 p1)), .second, .val (.long (own_F1 p2 p1)), .second, .val (.long (own_F1 p2 p3)), .second, .val (.int (1 : Int32)), .val (.int (0 : Int32)), .unset] [(.long (p1.toInt64)), (.long (20 : Int64)), (.long ((own_F1 p2 p1) - (own_F1 p2 p3)))])) _
        refine XS.iloadN X4.here hx rfl (hb hby at_79) rfl ?_
        show Steps p.tables e below (T4.setTop (mkF m 80 #[.val (.int p0), .val (.int p1), .val (.int p2), .val (.int p3), .val (.long (own_F1 (0 : Int32) (0 : Int32))), .second, .val (.long (own_F1 p0 p1)), .second, .val (.long (own_F1 p2 p1)), .second, .val (.long (own_F1 p2 p3)), .second, .val (.int (1 : Int32)), .val (.int (0 : Int32)), .unset] [(.int p3), (.long (p1.toInt64)), (.long (20 : Int64)), (.long ((own_F1 p2 p1) - (own_F1 p2 p3)))])) _
        refine XS.i2l X4.here hx rfl (hb hby at_80) rfl ?_
        show Steps p.tables e below (T4.setTop (mkF m 81 #[.val (.int p0), .val (.int p1), .val (.int p2), .val (.int p3), .val (.long (own_F1 (0 : Int32) (0 : Int32))), .second, .val (.long (own_F1 p0 p1)), .second, .val (.long (own_F1 p2 p1)), .second, .val (.long (own_F1 p2 p3)), .second, .val (.int (1 : Int32)), .val (.int (0 : Int32)), .unset] [(.long (p3.toInt64)), (.long (p1.toInt64)), (.long (20 : Int64)), (.long ((own_F1 p2 p1) - (own_F1 p2 p3)))])) _
        refine XS.lsub X4.here hx rfl (hb hby at_81) rfl ?_
        show Steps p.tables e below (T4.setTop (mkF m 82 #[.val (.int p0), .val (.int p1), .val (.int p2), .val (.int p3), .val (.long (own_F1 (0 : Int32) (0 : Int32))), .second, .val (.long (own_F1 p0 p1)), .second, .val (.long (own_F1 p2 p1)), .second, .val (.long (own_F1 p2 p3)), .second, .val (.int (1 : Int32)), .val (.int (0 : Int32)), .unset] [(.long ((p1.toInt64) - (p3.toInt64))), (.long (20 : Int64)), (.long ((own_F1 p2 p1) - (own_F1 p2 p3)))])) _
        refine XS.lmul X4.here hx rfl (hb hby at_82) rfl ?_
        show Steps p.tables e below (T4.setTop (mkF m 83 #[.val (.int p0), .val (.int p1), .val (.int p2), .val (.int p3), .val (.long (own_F1 (0 : Int32) (0 : Int32))), .second, .val (.long (own_F1 p0 p1)), .second, .val (.long (own_F1 p2 p1)), .second, .val (.long (own_F1 p2 p3)), .second, .val (.int (1 : Int32)), .val (.int (0 : Int32)), .unset] [(.long ((20 : Int64) * ((p1.toInt64) - (p3.toInt64)))), (.long ((own_F1 p2 p1) - (own_F1 p2 p3)))])) _
        refine XS.lcmp X4.here hx rfl (hb hby at_83) rfl ?_
        show Steps p.tables e below (T4.setTop (mkF m 84 #[.val (.int p0), .val (.int p1), .val (.int p2), .val (.int p3), .val (.long (own_F1 (0 : Int32) (0 : Int32))), .second, .val (.long (own_F1 p0 p1)), .second, .val (.long (own_F1 p2 p1)), .second, .val (.long (own_F1 p2 p3)), .second, .val (.int (1 : Int32)), .val (.int (0 : Int32)), .unset] [(.int (lcmpW ((own_F1 p2 p1) - (own_F1 p2 p3)) ((20 : Int64) * ((p1.toInt64) - (p3.toInt64)))))])) _
        exact k
      by_cases hc84_8 : ((own_F1 p2 p1) - (own_F1 p2 p3)) = ((20 : Int64) * ((p1.toInt64) - (p3.toInt64)))
      · skip
        refine own_go (T' := T4) (f' := (mkF m 114 #[.val (.int p0), .val (.int p1), .val (.int p2), .val (.int p3), .val (.long (own_F1 (0 : Int32) (0 : Int32))), .second, .val (.long (own_F1 p0 p1)), .second, .val (.long (own_F1 p2 p1)), .second, .val (.long (own_F1 p2 p3)), .second, .val (.int (1 : Int32)), .val (.int (0 : Int32)), .val (.int (1 : Int32))] [(.int (0 : Int32))])) (fun t k => ?_) ?_
        · show Steps p.tables e below (T4.setTop (mkF m 84 #[.val (.int p0), .val (.int p1), .val (.int p2), .val (.int p3), .val (.long (own_F1 (0 : Int32) (0 : Int32))), .second, .val (.long (own_F1 p0 p1)), .second, .val (.long (own_F1 p2 p1)), .second, .val (.long (own_F1 p2 p3)), .second, .val (.int (1 : Int32)), .val (.int (0 : Int32)), .unset] [(.int (lcmpW ((own_F1 p2 p1) - (own_F1 p2 p3)) ((20 : Int64) * ((p1.toInt64) - (p3.toInt64)))))])) _
          refine XS.ifNo X4.here hx rfl (hb hby at_84) rfl ((if0 _ _).trans (teq ((lw_eq ((own_F1 p2 p1) - (own_F1 p2 p3)) ((20 : Int64) * ((p1.toInt64) - (p3.toInt64)))).mpr hc84_8)).2) ?_
          show Steps p.tables e below (T4.setTop (mkF m 87 #[.val (.int p0), .val (.int p1), .val (.int p2), .val (.int p3), .val (.long (own_F1 (0 : Int32) (0 : Int32))), .second, .val (.long (own_F1 p0 p1)), .second, .val (.long (own_F1 p2 p1)), .second, .val (.long (own_F1 p2 p3)), .second, .val (.int (1 : Int32)), .val (.int (0 : Int32)), .unset] [])) _
          refine XS.iconst X4.here hx rfl (hb hby at_87) ?_
          show Steps p.tables e below (T4.setTop (mkF m 88 #[.val (.int p0), .val (.int p1), .val (.int p2), .val (.int p3), .val (.long (own_F1 (0 : Int32) (0 : Int32))), .second, .val (.long (own_F1 p0 p1)), .second, .val (.long (own_F1 p2 p1)), .second, .val (.long (own_F1 p2 p3)), .second, .val (.int (1 : Int32)), .val (.int (0 : Int32)), .unset] [(.int (1 : Int32))])) _
          refine XS.goto X4.here hx rfl (pc0 := 88) (pc' := 92) rfl (hb hby at_88) (by decide) (by decide) ?_
          show Steps p.tables e below (T4.setTop (mkF m 92 #[.val (.int p0), .val (.int p1), .val (.int p2), .val (.int p3), .val (.long (own_F1 (0 : Int32) (0 : Int32))), .second, .val (.long (own_F1 p0 p1)), .second, .val (.long (own_F1 p2 p1)), .second, .val (.long (own_F1 p2 p3)), .second, .val (.int (1 : Int32)), .val (.int (0 : Int32)), .unset] [(.int (1 : Int32))])) _
          refine XS.istore X4.here hx rfl (hb hby at_92) rfl (l' := #[.val (.int p0), .val (.int p1), .val (.int p2), .val (.int p3), .val (.long (own_F1 (0 : Int32) (0 : Int32))), .second, .val (.long (own_F1 p0 p1)), .second, .val (.long (own_F1 p2 p1)), .second, .val (.long (own_F1 p2 p3)), .second, .val (.int (1 : Int32)), .val (.int (0 : Int32)), .val (.int (1 : Int32))]) rfl ?_
          show Steps p.tables e below (T4.setTop (mkF m 94 #[.val (.int p0), .val (.int p1), .val (.int p2), .val (.int p3), .val (.long (own_F1 (0 : Int32) (0 : Int32))), .second, .val (.long (own_F1 p0 p1)), .second, .val (.long (own_F1 p2 p1)), .second, .val (.long (own_F1 p2 p3)), .second, .val (.int (1 : Int32)), .val (.int (0 : Int32)), .val (.int (1 : Int32))] [])) _
          refine XS.iload X4.here hx rfl (hb hby at_94) rfl ?_
          show Steps p.tables e below (T4.setTop (mkF m 96 #[.val (.int p0), .val (.int p1), .val (.int p2), .val (.int p3), .val (.long (own_F1 (0 : Int32) (0 : Int32))), .second, .val (.long (own_F1 p0 p1)), .second, .val (.long (own_F1 p2 p1)), .second, .val (.long (own_F1 p2 p3)), .second, .val (.int (1 : Int32)), .val (.int (0 : Int32)), .val (.int (1 : Int32))] [(.int (1 : Int32))])) _
          refine XS.ifNo X4.here hx rfl (hb hby at_96) rfl ((if0 _ _).trans (feq (by decide : ¬ ((1 : Int32) = (0 : Int32)))).1) ?_
          show Steps p.tables e below (T4.setTop (mkF m 99 #[.val (.int p0), .val (.int p1), .val (.int p2), .val (.int p3), .val (.long (own_F1 (0 : Int32) (0 : Int32))), .second, .val (.long (own_F1 p0 p1)), .second, .val (.long (own_F1 p2 p1)), .second, .val (.long (own_F1 p2 p3)), .second, .val (.int (1 : Int32)), .val (.int (0 : Int32)), .val (.int (1 : Int32))] [])) _
          refine XS.iload X4.here hx rfl (hb hby at_99) rfl ?_
          show Steps p.tables e below (T4.setTop (mkF m 101 #[.val (.int p0), .val (.int p1), .val (.int p2), .val (.int p3), .val (.long (own_F1 (0 : Int32) (0 : Int32))), .second, .val (.long (own_F1 p0 p1)), .second, .val (.long (own_F1 p2 p1)), .second, .val (.long (own_F1 p2 p3)), .second, .val (.int (1 : Int32)), .val (.int (0 : Int32)), .val (.int (1 : Int32))] [(.int (0 : Int32))])) _
          refine XS.ifYes X4.here hx rfl (pc0 := 101) (pc' := 113) rfl (hb hby at_101) rfl ((if0 _ _).trans (teq (by decide : (0 : Int32) = (0 : Int32))).1) (by decide) (by decide) ?_
          show Steps p.tables e below (T4.setTop (mkF m 113 #[.val (.int p0), .val (.int p1), .val (.int p2), .val (.int p3), .val (.long (own_F1 (0 : Int32) (0 : Int32))), .second, .val (.long (own_F1 p0 p1)), .second, .val (.long (own_F1 p2 p1)), .second, .val (.long (own_F1 p2 p3)), .second, .val (.int (1 : Int32)), .val (.int (0 : Int32)), .val (.int (1 : Int32))] [])) _
          refine XS.iconst X4.here hx rfl (hb hby at_113) ?_
          show Steps p.tables e below (T4.setTop (mkF m 114 #[.val (.int p0), .val (.int p1), .val (.int p2), .val (.int p3), .val (.long (own_F1 (0 : Int32) (0 : Int32))), .second, .val (.long (own_F1 p0 p1)), .second, .val (.long (own_F1 p2 p1)), .second, .val (.long (own_F1 p2 p3)), .second, .val (.int (1 : Int32)), .val (.int (0 : Int32)), .val (.int (1 : Int32))] [(.int (0 : Int32))])) _
          exact k
        obtain ⟨fs, hr, hrun, hended, hW, hsame⟩ := X4.leave (v := some (.int (0 : Int32))) (fun h => by rw [Bd.returns] at h; cases h)
        refine ⟨_, _, ?_, hrun, hended, _, _, rfl, ?_, ⟨_, rfl⟩, hW, hsame.mono (by decide) (by decide)⟩
        · exact retN X4 hx (t := .boolean) Bd.returns (by simp) (hb hby at_114) hr
        · show own_Q0 Z p0 p1 p2 p3 h0 n0 _ T4.heap _
          rw [h4q]
          exact ⟨(congrArg (fun z => some (Value.int z)) ((by rw [own_F0, if_pos hc34_5, if_neg hc59_6, if_pos hc84_8] : (0 : Int32) = own_F0 p0 p1 p2 p3).trans (own_law p0 p1 p2 p3))), N4⟩
      · skip
        refine own_go (T' := T4) (f' := (mkF m 114 #[.val (.int p0), .val (.int p1), .val (.int p2), .val (.int p3), .val (.long (own_F1 (0 : Int32) (0 : Int32))), .second, .val (.long (own_F1 p0 p1)), .second, .val (.long (own_F1 p2 p1)), .second, .val (.long (own_F1 p2 p3)), .second, .val (.int (1 : Int32)), .val (.int (0 : Int32)), .val (.int (0 : Int32))] [(.int (0 : Int32))])) (fun t k => ?_) ?_
        · show Steps p.tables e below (T4.setTop (mkF m 84 #[.val (.int p0), .val (.int p1), .val (.int p2), .val (.int p3), .val (.long (own_F1 (0 : Int32) (0 : Int32))), .second, .val (.long (own_F1 p0 p1)), .second, .val (.long (own_F1 p2 p1)), .second, .val (.long (own_F1 p2 p3)), .second, .val (.int (1 : Int32)), .val (.int (0 : Int32)), .unset] [(.int (lcmpW ((own_F1 p2 p1) - (own_F1 p2 p3)) ((20 : Int64) * ((p1.toInt64) - (p3.toInt64)))))])) _
          refine XS.ifYes X4.here hx rfl (pc0 := 84) (pc' := 91) rfl (hb hby at_84) rfl ((if0 _ _).trans (feq (fun q => hc84_8 ((lw_eq ((own_F1 p2 p1) - (own_F1 p2 p3)) ((20 : Int64) * ((p1.toInt64) - (p3.toInt64)))).mp q))).2) (by decide) (by decide) ?_
          show Steps p.tables e below (T4.setTop (mkF m 91 #[.val (.int p0), .val (.int p1), .val (.int p2), .val (.int p3), .val (.long (own_F1 (0 : Int32) (0 : Int32))), .second, .val (.long (own_F1 p0 p1)), .second, .val (.long (own_F1 p2 p1)), .second, .val (.long (own_F1 p2 p3)), .second, .val (.int (1 : Int32)), .val (.int (0 : Int32)), .unset] [])) _
          refine XS.iconst X4.here hx rfl (hb hby at_91) ?_
          show Steps p.tables e below (T4.setTop (mkF m 92 #[.val (.int p0), .val (.int p1), .val (.int p2), .val (.int p3), .val (.long (own_F1 (0 : Int32) (0 : Int32))), .second, .val (.long (own_F1 p0 p1)), .second, .val (.long (own_F1 p2 p1)), .second, .val (.long (own_F1 p2 p3)), .second, .val (.int (1 : Int32)), .val (.int (0 : Int32)), .unset] [(.int (0 : Int32))])) _
          refine XS.istore X4.here hx rfl (hb hby at_92) rfl (l' := #[.val (.int p0), .val (.int p1), .val (.int p2), .val (.int p3), .val (.long (own_F1 (0 : Int32) (0 : Int32))), .second, .val (.long (own_F1 p0 p1)), .second, .val (.long (own_F1 p2 p1)), .second, .val (.long (own_F1 p2 p3)), .second, .val (.int (1 : Int32)), .val (.int (0 : Int32)), .val (.int (0 : Int32))]) rfl ?_
          show Steps p.tables e below (T4.setTop (mkF m 94 #[.val (.int p0), .val (.int p1), .val (.int p2), .val (.int p3), .val (.long (own_F1 (0 : Int32) (0 : Int32))), .second, .val (.long (own_F1 p0 p1)), .second, .val (.long (own_F1 p2 p1)), .second, .val (.long (own_F1 p2 p3)), .second, .val (.int (1 : Int32)), .val (.int (0 : Int32)), .val (.int (0 : Int32))] [])) _
          refine XS.iload X4.here hx rfl (hb hby at_94) rfl ?_
          show Steps p.tables e below (T4.setTop (mkF m 96 #[.val (.int p0), .val (.int p1), .val (.int p2), .val (.int p3), .val (.long (own_F1 (0 : Int32) (0 : Int32))), .second, .val (.long (own_F1 p0 p1)), .second, .val (.long (own_F1 p2 p1)), .second, .val (.long (own_F1 p2 p3)), .second, .val (.int (1 : Int32)), .val (.int (0 : Int32)), .val (.int (0 : Int32))] [(.int (1 : Int32))])) _
          refine XS.ifNo X4.here hx rfl (hb hby at_96) rfl ((if0 _ _).trans (feq (by decide : ¬ ((1 : Int32) = (0 : Int32)))).1) ?_
          show Steps p.tables e below (T4.setTop (mkF m 99 #[.val (.int p0), .val (.int p1), .val (.int p2), .val (.int p3), .val (.long (own_F1 (0 : Int32) (0 : Int32))), .second, .val (.long (own_F1 p0 p1)), .second, .val (.long (own_F1 p2 p1)), .second, .val (.long (own_F1 p2 p3)), .second, .val (.int (1 : Int32)), .val (.int (0 : Int32)), .val (.int (0 : Int32))] [])) _
          refine XS.iload X4.here hx rfl (hb hby at_99) rfl ?_
          show Steps p.tables e below (T4.setTop (mkF m 101 #[.val (.int p0), .val (.int p1), .val (.int p2), .val (.int p3), .val (.long (own_F1 (0 : Int32) (0 : Int32))), .second, .val (.long (own_F1 p0 p1)), .second, .val (.long (own_F1 p2 p1)), .second, .val (.long (own_F1 p2 p3)), .second, .val (.int (1 : Int32)), .val (.int (0 : Int32)), .val (.int (0 : Int32))] [(.int (0 : Int32))])) _
          refine XS.ifYes X4.here hx rfl (pc0 := 101) (pc' := 113) rfl (hb hby at_101) rfl ((if0 _ _).trans (teq (by decide : (0 : Int32) = (0 : Int32))).1) (by decide) (by decide) ?_
          show Steps p.tables e below (T4.setTop (mkF m 113 #[.val (.int p0), .val (.int p1), .val (.int p2), .val (.int p3), .val (.long (own_F1 (0 : Int32) (0 : Int32))), .second, .val (.long (own_F1 p0 p1)), .second, .val (.long (own_F1 p2 p1)), .second, .val (.long (own_F1 p2 p3)), .second, .val (.int (1 : Int32)), .val (.int (0 : Int32)), .val (.int (0 : Int32))] [])) _
          refine XS.iconst X4.here hx rfl (hb hby at_113) ?_
          show Steps p.tables e below (T4.setTop (mkF m 114 #[.val (.int p0), .val (.int p1), .val (.int p2), .val (.int p3), .val (.long (own_F1 (0 : Int32) (0 : Int32))), .second, .val (.long (own_F1 p0 p1)), .second, .val (.long (own_F1 p2 p1)), .second, .val (.long (own_F1 p2 p3)), .second, .val (.int (1 : Int32)), .val (.int (0 : Int32)), .val (.int (0 : Int32))] [(.int (0 : Int32))])) _
          exact k
        obtain ⟨fs, hr, hrun, hended, hW, hsame⟩ := X4.leave (v := some (.int (0 : Int32))) (fun h => by rw [Bd.returns] at h; cases h)
        refine ⟨_, _, ?_, hrun, hended, _, _, rfl, ?_, ⟨_, rfl⟩, hW, hsame.mono (by decide) (by decide)⟩
        · exact retN X4 hx (t := .boolean) Bd.returns (by simp) (hb hby at_114) hr
        · show own_Q0 Z p0 p1 p2 p3 h0 n0 _ T4.heap _
          rw [h4q]
          exact ⟨(congrArg (fun z => some (Value.int z)) ((by rw [own_F0, if_pos hc34_5, if_neg hc59_6, if_neg hc84_8] : (0 : Int32) = own_F0 p0 p1 p2 p3).trans (own_law p0 p1 p2 p3))), N4⟩
  · skip
    refine own_go (T' := T4) (f' := (mkF m 59 #[.val (.int p0), .val (.int p1), .val (.int p2), .val (.int p3), .val (.long (own_F1 (0 : Int32) (0 : Int32))), .second, .val (.long (own_F1 p0 p1)), .second, .val (.long (own_F1 p2 p1)), .second, .val (.long (own_F1 p2 p3)), .second, .val (.int (0 : Int32)), .unset, .unset] [(.int (lcmpW ((own_F1 p0 p1) - (own_F1 p2 p1)) ((4 : Int64) * ((p0.toInt64) - (p2.toInt64)))))])) (fun t k => ?_) ?_
    · show Steps p.tables e below (T4.setTop (mkF m 34 #[.val (.int p0), .val (.int p1), .val (.int p2), .val (.int p3), .val (.long (own_F1 (0 : Int32) (0 : Int32))), .second, .val (.long (own_F1 p0 p1)), .second, .val (.long (own_F1 p2 p1)), .second, .val (.long (own_F1 p2 p3)), .second, .unset, .unset, .unset] [(.int (lcmpW (own_F1 (0 : Int32) (0 : Int32)) (40 : Int64)))])) _
      refine XS.ifYes X4.here hx rfl (pc0 := 34) (pc' := 41) rfl (hb hby at_34) rfl ((if0 _ _).trans (feq (fun q => hc34_5 ((lw_eq (own_F1 (0 : Int32) (0 : Int32)) (40 : Int64)).mp q))).2) (by decide) (by decide) ?_
      show Steps p.tables e below (T4.setTop (mkF m 41 #[.val (.int p0), .val (.int p1), .val (.int p2), .val (.int p3), .val (.long (own_F1 (0 : Int32) (0 : Int32))), .second, .val (.long (own_F1 p0 p1)), .second, .val (.long (own_F1 p2 p1)), .second, .val (.long (own_F1 p2 p3)), .second, .unset, .unset, .unset] [])) _
      refine XS.iconst X4.here hx rfl (hb hby at_41) ?_
      show Steps p.tables e below (T4.setTop (mkF m 42 #[.val (.int p0), .val (.int p1), .val (.int p2), .val (.int p3), .val (.long (own_F1 (0 : Int32) (0 : Int32))), .second, .val (.long (own_F1 p0 p1)), .second, .val (.long (own_F1 p2 p1)), .second, .val (.long (own_F1 p2 p3)), .second, .unset, .unset, .unset] [(.int (0 : Int32))])) _
      refine XS.istore X4.here hx rfl (hb hby at_42) rfl (l' := #[.val (.int p0), .val (.int p1), .val (.int p2), .val (.int p3), .val (.long (own_F1 (0 : Int32) (0 : Int32))), .second, .val (.long (own_F1 p0 p1)), .second, .val (.long (own_F1 p2 p1)), .second, .val (.long (own_F1 p2 p3)), .second, .val (.int (0 : Int32)), .unset, .unset]) rfl ?_
      show Steps p.tables e below (T4.setTop (mkF m 44 #[.val (.int p0), .val (.int p1), .val (.int p2), .val (.int p3), .val (.long (own_F1 (0 : Int32) (0 : Int32))), .second, .val (.long (own_F1 p0 p1)), .second, .val (.long (own_F1 p2 p1)), .second, .val (.long (own_F1 p2 p3)), .second, .val (.int (0 : Int32)), .unset, .unset] [])) _
      refine XS.lload X4.here hx rfl (hb hby at_44) rfl ?_
      show Steps p.tables e below (T4.setTop (mkF m 46 #[.val (.int p0), .val (.int p1), .val (.int p2), .val (.int p3), .val (.long (own_F1 (0 : Int32) (0 : Int32))), .second, .val (.long (own_F1 p0 p1)), .second, .val (.long (own_F1 p2 p1)), .second, .val (.long (own_F1 p2 p3)), .second, .val (.int (0 : Int32)), .unset, .unset] [(.long (own_F1 p0 p1))])) _
      refine XS.lload X4.here hx rfl (hb hby at_46) rfl ?_
      show Steps p.tables e below (T4.setTop (mkF m 48 #[.val (.int p0), .val (.int p1), .val (.int p2), .val (.int p3), .val (.long (own_F1 (0 : Int32) (0 : Int32))), .second, .val (.long (own_F1 p0 p1)), .second, .val (.long (own_F1 p2 p1)), .second, .val (.long (own_F1 p2 p3)), .second, .val (.int (0 : Int32)), .unset, .unset] [(.long (own_F1 p2 p1)), (.long (own_F1 p0 p1))])) _
      refine XS.lsub X4.here hx rfl (hb hby at_48) rfl ?_
      show Steps p.tables e below (T4.setTop (mkF m 49 #[.val (.int p0), .val (.int p1), .val (.int p2), .val (.int p3), .val (.long (own_F1 (0 : Int32) (0 : Int32))), .second, .val (.long (own_F1 p0 p1)), .second, .val (.long (own_F1 p2 p1)), .second, .val (.long (own_F1 p2 p3)), .second, .val (.int (0 : Int32)), .unset, .unset] [(.long ((own_F1 p0 p1) - (own_F1 p2 p1)))])) _
      refine X4.ldc2Long hx hown (mvT hZ (hw _ (List.mem_of_getElem? (i := 8) rfl))) (g := (mkF m 49 #[.val (.int p0), .val (.int p1), .val (.int p2), .val (.int p3), .val (.long (own_F1 (0 : Int32) (0 : Int32))), .second, .val (.long (own_F1 p0 p1)), .second, .val (.long (own_F1 p2 p1)), .second, .val (.long (own_F1 p2 p3)), .second, .val (.int (0 : Int32)), .unset, .unset] [(.long ((own_F1 p0 p1) - (own_F1 p2 p1)))])) rfl (hb hby at_49) _ ?_
      show Steps p.tables e below (T4.setTop (mkF m 52 #[.val (.int p0), .val (.int p1), .val (.int p2), .val (.int p3), .val (.long (own_F1 (0 : Int32) (0 : Int32))), .second, .val (.long (own_F1 p0 p1)), .second, .val (.long (own_F1 p2 p1)), .second, .val (.long (own_F1 p2 p3)), .second, .val (.int (0 : Int32)), .unset, .unset] [(.long (4 : Int64)), (.long ((own_F1 p0 p1) - (own_F1 p2 p1)))])) _
      refine XS.iloadN X4.here hx rfl (hb hby at_52) rfl ?_
      show Steps p.tables e below (T4.setTop (mkF m 53 #[.val (.int p0), .val (.int p1), .val (.int p2), .val (.int p3), .val (.long (own_F1 (0 : Int32) (0 : Int32))), .second, .val (.long (own_F1 p0 p1)), .second, .val (.long (own_F1 p2 p1)), .second, .val (.long (own_F1 p2 p3)), .second, .val (.int (0 : Int32)), .unset, .unset] [(.int p0), (.long (4 : Int64)), (.long ((own_F1 p0 p1) - (own_F1 p2 p1)))])) _
      refine XS.i2l X4.here hx rfl (hb hby at_53) rfl ?_
      show Steps p.tables e below (T4.setTop (mkF m 54 #[.val (.int p0), .val (.int p1), .val (.int p2), .val (.int p3), .val (.long (own_F1 (0 : Int32) (0 : Int32))), .second, .val (.long (own_F1 p0 p1)), .second, .val (.long (own_F1 p2 p1)), .second, .val (.long (own_F1 p2 p3)), .second, .val (.int (0 : Int32)), .unset, .unset] [(.long (p0.toInt64)), (.long (4 : Int64)), (.long ((own_F1 p0 p1) - (own_F1 p2 p1)))])) _
      refine XS.iloadN X4.here hx rfl (hb hby at_54) rfl ?_
      show Steps p.tables e below (T4.setTop (mkF m 55 #[.val (.int p0), .val (.int p1), .val (.int p2), .val (.int p3), .val (.long (own_F1 (0 : Int32) (0 : Int32))), .second, .val (.long (own_F1 p0 p1)), .second, .val (.long (own_F1 p2 p1)), .second, .val (.long (own_F1 p2 p3)), .second, .val (.int (0 : Int32)), .unset, .unset] [(.int p2), (.long (p0.toInt64)), (.long (4 : Int64)), (.long ((own_F1 p0 p1) - (own_F1 p2 p1)))])) _
      refine XS.i2l X4.here hx rfl (hb hby at_55) rfl ?_
      show Steps p.tables e below (T4.setTop (mkF m 56 #[.val (.int p0), .val (.int p1), .val (.int p2), .val (.int p3), .val (.long (own_F1 (0 : Int32) (0 : Int32))), .second, .val (.long (own_F1 p0 p1)), .second, .val (.long (own_F1 p2 p1)), .second, .val (.long (own_F1 p2 p3)), .second, .val (.int (0 : Int32)), .unset, .unset] [(.long (p2.toInt64)), (.long (p0.toInt64)), (.long (4 : Int64)), (.long ((own_F1 p0 p1) - (own_F1 p2 p1)))])) _
      refine XS.lsub X4.here hx rfl (hb hby at_56) rfl ?_
      show Steps p.tables e below (T4.setTop (mkF m 57 #[.val (.int p0), .val (.int p1), .val (.int p2), .val (.int p3), .val (.long (own_F1 (0 : Int32) (0 : Int32))), .second, .val (.long (own_F1 p0 p1)), .second, .val (.long (own_F1 p2 p1)), .second, .val (.long (own_F1 p2 p3)), .second, .val (.int (0 : Int32)), .unset, .unset] [(.long ((p0.toInt64) - (p2.toInt64))), (.long (4 : Int64)), (.long ((own_F1 p0 p1) - (own_F1 p2 p1)))])) _
      refine XS.lmul X4.here hx rfl (hb hby at_57) rfl ?_
      show Steps p.tables e below (T4.setTop (mkF m 58 #[.val (.int p0), .val (.int p1), .val (.int p2), .val (.int p3), .val (.long (own_F1 (0 : Int32) (0 : Int32))), .second, .val (.long (own_F1 p0 p1)), .second, .val (.long (own_F1 p2 p1)), .second, .val (.long (own_F1 p2 p3)), .second, .val (.int (0 : Int32)), .unset, .unset] [(.long ((4 : Int64) * ((p0.toInt64) - (p2.toInt64)))), (.long ((own_F1 p0 p1) - (own_F1 p2 p1)))])) _
      refine XS.lcmp X4.here hx rfl (hb hby at_58) rfl ?_
      show Steps p.tables e below (T4.setTop (mkF m 59 #[.val (.int p0), .val (.int p1), .val (.int p2), .val (.int p3), .val (.long (own_F1 (0 : Int32) (0 : Int32))), .second, .val (.long (own_F1 p0 p1)), .second, .val (.long (own_F1 p2 p1)), .second, .val (.long (own_F1 p2 p3)), .second, .val (.int (0 : Int32)), .unset, .unset] [(.int (lcmpW ((own_F1 p0 p1) - (own_F1 p2 p1)) ((4 : Int64) * ((p0.toInt64) - (p2.toInt64)))))])) _
      exact k
    by_cases hc59_9 : ((own_F1 p0 p1) - (own_F1 p2 p1)) = ((4 : Int64) * ((p0.toInt64) - (p2.toInt64)))
    · skip
      refine own_go (T' := T4) (f' := (mkF m 84 #[.val (.int p0), .val (.int p1), .val (.int p2), .val (.int p3), .val (.long (own_F1 (0 : Int32) (0 : Int32))), .second, .val (.long (own_F1 p0 p1)), .second, .val (.long (own_F1 p2 p1)), .second, .val (.long (own_F1 p2 p3)), .second, .val (.int (0 : Int32)), .val (.int (1 : Int32)), .unset] [(.int (lcmpW ((own_F1 p2 p1) - (own_F1 p2 p3)) ((20 : Int64) * ((p1.toInt64) - (p3.toInt64)))))])) (fun t k => ?_) ?_
      · show Steps p.tables e below (T4.setTop (mkF m 59 #[.val (.int p0), .val (.int p1), .val (.int p2), .val (.int p3), .val (.long (own_F1 (0 : Int32) (0 : Int32))), .second, .val (.long (own_F1 p0 p1)), .second, .val (.long (own_F1 p2 p1)), .second, .val (.long (own_F1 p2 p3)), .second, .val (.int (0 : Int32)), .unset, .unset] [(.int (lcmpW ((own_F1 p0 p1) - (own_F1 p2 p1)) ((4 : Int64) * ((p0.toInt64) - (p2.toInt64)))))])) _
        refine XS.ifNo X4.here hx rfl (hb hby at_59) rfl ((if0 _ _).trans (teq ((lw_eq ((own_F1 p0 p1) - (own_F1 p2 p1)) ((4 : Int64) * ((p0.toInt64) - (p2.toInt64)))).mpr hc59_9)).2) ?_
        show Steps p.tables e below (T4.setTop (mkF m 62 #[.val (.int p0), .val (.int p1), .val (.int p2), .val (.int p3), .val (.long (own_F1 (0 : Int32) (0 : Int32))), .second, .val (.long (own_F1 p0 p1)), .second, .val (.long (own_F1 p2 p1)), .second, .val (.long (own_F1 p2 p3)), .second, .val (.int (0 : Int32)), .unset, .unset] [])) _
        refine XS.iconst X4.here hx rfl (hb hby at_62) ?_
        show Steps p.tables e below (T4.setTop (mkF m 63 #[.val (.int p0), .val (.int p1), .val (.int p2), .val (.int p3), .val (.long (own_F1 (0 : Int32) (0 : Int32))), .second, .val (.long (own_F1 p0 p1)), .second, .val (.long (own_F1 p2 p1)), .second, .val (.long (own_F1 p2 p3)), .second, .val (.int (0 : Int32)), .unset, .unset] [(.int (1 : Int32))])) _
        refine XS.goto X4.here hx rfl (pc0 := 63) (pc' := 67) rfl (hb hby at_63) (by decide) (by decide) ?_
        show Steps p.tables e below (T4.setTop (mkF m 67 #[.val (.int p0), .val (.int p1), .val (.int p2), .val (.int p3), .val (.long (own_F1 (0 : Int32) (0 : Int32))), .second, .val (.long (own_F1 p0 p1)), .second, .val (.long (own_F1 p2 p1)), .second, .val (.long (own_F1 p2 p3)), .second, .val (.int (0 : Int32)), .unset, .unset] [(.int (1 : Int32))])) _
        refine XS.istore X4.here hx rfl (hb hby at_67) rfl (l' := #[.val (.int p0), .val (.int p1), .val (.int p2), .val (.int p3), .val (.long (own_F1 (0 : Int32) (0 : Int32))), .second, .val (.long (own_F1 p0 p1)), .second, .val (.long (own_F1 p2 p1)), .second, .val (.long (own_F1 p2 p3)), .second, .val (.int (0 : Int32)), .val (.int (1 : Int32)), .unset]) rfl ?_
        show Steps p.tables e below (T4.setTop (mkF m 69 #[.val (.int p0), .val (.int p1), .val (.int p2), .val (.int p3), .val (.long (own_F1 (0 : Int32) (0 : Int32))), .second, .val (.long (own_F1 p0 p1)), .second, .val (.long (own_F1 p2 p1)), .second, .val (.long (own_F1 p2 p3)), .second, .val (.int (0 : Int32)), .val (.int (1 : Int32)), .unset] [])) _
        refine XS.lload X4.here hx rfl (hb hby at_69) rfl ?_
        show Steps p.tables e below (T4.setTop (mkF m 71 #[.val (.int p0), .val (.int p1), .val (.int p2), .val (.int p3), .val (.long (own_F1 (0 : Int32) (0 : Int32))), .second, .val (.long (own_F1 p0 p1)), .second, .val (.long (own_F1 p2 p1)), .second, .val (.long (own_F1 p2 p3)), .second, .val (.int (0 : Int32)), .val (.int (1 : Int32)), .unset] [(.long (own_F1 p2 p1))])) _
        refine XS.lload X4.here hx rfl (hb hby at_71) rfl ?_
        show Steps p.tables e below (T4.setTop (mkF m 73 #[.val (.int p0), .val (.int p1), .val (.int p2), .val (.int p3), .val (.long (own_F1 (0 : Int32) (0 : Int32))), .second, .val (.long (own_F1 p0 p1)), .second, .val (.long (own_F1 p2 p1)), .second, .val (.long (own_F1 p2 p3)), .second, .val (.int (0 : Int32)), .val (.int (1 : Int32)), .unset] [(.long (own_F1 p2 p3)), (.long (own_F1 p2 p1))])) _
        refine XS.lsub X4.here hx rfl (hb hby at_73) rfl ?_
        show Steps p.tables e below (T4.setTop (mkF m 74 #[.val (.int p0), .val (.int p1), .val (.int p2), .val (.int p3), .val (.long (own_F1 (0 : Int32) (0 : Int32))), .second, .val (.long (own_F1 p0 p1)), .second, .val (.long (own_F1 p2 p1)), .second, .val (.long (own_F1 p2 p3)), .second, .val (.int (0 : Int32)), .val (.int (1 : Int32)), .unset] [(.long ((own_F1 p2 p1) - (own_F1 p2 p3)))])) _
        refine X4.ldc2Long hx hown (mvT hZ (hw _ (List.mem_of_getElem? (i := 9) rfl))) (g := (mkF m 74 #[.val (.int p0), .val (.int p1), .val (.int p2), .val (.int p3), .val (.long (own_F1 (0 : Int32) (0 : Int32))), .second, .val (.long (own_F1 p0 p1)), .second, .val (.long (own_F1 p2 p1)), .second, .val (.long (own_F1 p2 p3)), .second, .val (.int (0 : Int32)), .val (.int (1 : Int32)), .unset] [(.long ((own_F1 p2 p1) - (own_F1 p2 p3)))])) rfl (hb hby at_74) _ ?_
        show Steps p.tables e below (T4.setTop (mkF m 77 #[.val (.int p0), .val (.int p1), .val (.int p2), .val (.int p3), .val (.long (own_F1 (0 : Int32) (0 : Int32))), .second, .val (.long (own_F1 p0 p1)), .second, .val (.long (own_F1 p2 p1)), .second, .val (.long (own_F1 p2 p3)), .second, .val (.int (0 : Int32)), .val (.int (1 : Int32)), .unset] [(.long (20 : Int64)), (.long ((own_F1 p2 p1) - (own_F1 p2 p3)))])) _
        refine XS.iloadN X4.here hx rfl (hb hby at_77) rfl ?_
        show Steps p.tables e below (T4.setTop (mkF m 78 #[.val (.int p0), .val (.int p1), .val (.int p2), .val (.int p3), .val (.long (own_F1 (0 : Int32) (0 : Int32))), .second, .val (.long (own_F1 p0 p1)), .second, .val (.long (own_F1 p2 p1)), .second, .val (.long (own_F1 p2 p3)), .second, .val (.int (0 : Int32)), .val (.int (1 : Int32)), .unset] [(.int p1), (.long (20 : Int64)), (.long ((own_F1 p2 p1) - (own_F1 p2 p3)))])) _
        refine XS.i2l X4.here hx rfl (hb hby at_78) rfl ?_
        show Steps p.tables e below (T4.setTop (mkF m 79 #[.val (.int p0), .val (.int p1), .val (.int p2), .val (.int p3), .val (.long (own_F1 (0 : Int32) (0 : Int32))), .second, .val (.long (own_F1 p0 p1)), .second, .val (.long (own_F1 p2 p1)), .second, .val (.long (own_F1 p2 p3)), .second, .val (.int (0 : Int32)), .val (.int (1 : Int32)), .unset] [(.long (p1.toInt64)), (.long (20 : Int64)), (.long ((own_F1 p2 p1) - (own_F1 p2 p3)))])) _
        refine XS.iloadN X4.here hx rfl (hb hby at_79) rfl ?_
        show Steps p.tables e below (T4.setTop (mkF m 80 #[.val (.int p0), .val (.int p1), .val (.int p2), .val (.int p3), .val (.long (own_F1 (0 : Int32) (0 : Int32))), .second, .val (.long (own_F1 p0 p1)), .second, .val (.long (own_F1 p2 p1)), .second, .val (.long (own_F1 p2 p3)), .second, .val (.int (0 : Int32)), .val (.int (1 : Int32)), .unset] [(.int p3), (.long (p1.toInt64)), (.long (20 : Int64)), (.long ((own_F1 p2 p1) - (own_F1 p2 p3)))])) _
        refine XS.i2l X4.here hx rfl (hb hby at_80) rfl ?_
        show Steps p.tables e below (T4.setTop (mkF m 81 #[.val (.int p0), .val (.int p1), .val (.int p2), .val (.int p3), .val (.long (own_F1 (0 : Int32) (0 : Int32))), .second, .val (.long (own_F1 p0 p1)), .second, .val (.long (own_F1 p2 p1)), .second, .val (.long (own_F1 p2 p3)), .second, .val (.int (0 : Int32)), .val (.int (1 : Int32)), .unset] [(.long (p3.toInt64)), (.long (p1.toInt64)), (.long (20 : Int64)), (.long ((own_F1 p2 p1) - (own_F1 p2 p3)))])) _
        refine XS.lsub X4.here hx rfl (hb hby at_81) rfl ?_
        show Steps p.tables e below (T4.setTop (mkF m 82 #[.val (.int p0), .val (.int p1), .val (.int p2), .val (.int p3), .val (.long (own_F1 (0 : Int32) (0 : Int32))), .second, .val (.long (own_F1 p0 p1)), .second, .val (.long (own_F1 p2 p1)), .second, .val (.long (own_F1 p2 p3)), .second, .val (.int (0 : Int32)), .val (.int (1 : Int32)), .unset] [(.long ((p1.toInt64) - (p3.toInt64))), (.long (20 : Int64)), (.long ((own_F1 p2 p1) - (own_F1 p2 p3)))])) _
        refine XS.lmul X4.here hx rfl (hb hby at_82) rfl ?_
        show Steps p.tables e below (T4.setTop (mkF m 83 #[.val (.int p0), .val (.int p1), .val (.int p2), .val (.int p3), .val (.long (own_F1 (0 : Int32) (0 : Int32))), .second, .val (.long (own_F1 p0 p1)), .second, .val (.long (own_F1 p2 p1)), .second, .val (.long (own_F1 p2 p3)), .second, .val (.int (0 : Int32)), .val (.int (1 : Int32)), .unset] [(.long ((20 : Int64) * ((p1.toInt64) - (p3.toInt64)))), (.long ((own_F1 p2 p1) - (own_F1 p2 p3)))])) _
        refine XS.lcmp X4.here hx rfl (hb hby at_83) rfl ?_
        show Steps p.tables e below (T4.setTop (mkF m 84 #[.val (.int p0), .val (.int p1), .val (.int p2), .val (.int p3), .val (.long (own_F1 (0 : Int32) (0 : Int32))), .second, .val (.long (own_F1 p0 p1)), .second, .val (.long (own_F1 p2 p1)), .second, .val (.long (own_F1 p2 p3)), .second, .val (.int (0 : Int32)), .val (.int (1 : Int32)), .unset] [(.int (lcmpW ((own_F1 p2 p1) - (own_F1 p2 p3)) ((20 : Int64) * ((p1.toInt64) - (p3.toInt64)))))])) _
        exact k
      by_cases hc84_10 : ((own_F1 p2 p1) - (own_F1 p2 p3)) = ((20 : Int64) * ((p1.toInt64) - (p3.toInt64)))
      · skip
        refine own_go (T' := T4) (f' := (mkF m 114 #[.val (.int p0), .val (.int p1), .val (.int p2), .val (.int p3), .val (.long (own_F1 (0 : Int32) (0 : Int32))), .second, .val (.long (own_F1 p0 p1)), .second, .val (.long (own_F1 p2 p1)), .second, .val (.long (own_F1 p2 p3)), .second, .val (.int (0 : Int32)), .val (.int (1 : Int32)), .val (.int (1 : Int32))] [(.int (0 : Int32))])) (fun t k => ?_) ?_
        · show Steps p.tables e below (T4.setTop (mkF m 84 #[.val (.int p0), .val (.int p1), .val (.int p2), .val (.int p3), .val (.long (own_F1 (0 : Int32) (0 : Int32))), .second, .val (.long (own_F1 p0 p1)), .second, .val (.long (own_F1 p2 p1)), .second, .val (.long (own_F1 p2 p3)), .second, .val (.int (0 : Int32)), .val (.int (1 : Int32)), .unset] [(.int (lcmpW ((own_F1 p2 p1) - (own_F1 p2 p3)) ((20 : Int64) * ((p1.toInt64) - (p3.toInt64)))))])) _
          refine XS.ifNo X4.here hx rfl (hb hby at_84) rfl ((if0 _ _).trans (teq ((lw_eq ((own_F1 p2 p1) - (own_F1 p2 p3)) ((20 : Int64) * ((p1.toInt64) - (p3.toInt64)))).mpr hc84_10)).2) ?_
          show Steps p.tables e below (T4.setTop (mkF m 87 #[.val (.int p0), .val (.int p1), .val (.int p2), .val (.int p3), .val (.long (own_F1 (0 : Int32) (0 : Int32))), .second, .val (.long (own_F1 p0 p1)), .second, .val (.long (own_F1 p2 p1)), .second, .val (.long (own_F1 p2 p3)), .second, .val (.int (0 : Int32)), .val (.int (1 : Int32)), .unset] [])) _
          refine XS.iconst X4.here hx rfl (hb hby at_87) ?_
          show Steps p.tables e below (T4.setTop (mkF m 88 #[.val (.int p0), .val (.int p1), .val (.int p2), .val (.int p3), .val (.long (own_F1 (0 : Int32) (0 : Int32))), .second, .val (.long (own_F1 p0 p1)), .second, .val (.long (own_F1 p2 p1)), .second, .val (.long (own_F1 p2 p3)), .second, .val (.int (0 : Int32)), .val (.int (1 : Int32)), .unset] [(.int (1 : Int32))])) _
          refine XS.goto X4.here hx rfl (pc0 := 88) (pc' := 92) rfl (hb hby at_88) (by decide) (by decide) ?_
          show Steps p.tables e below (T4.setTop (mkF m 92 #[.val (.int p0), .val (.int p1), .val (.int p2), .val (.int p3), .val (.long (own_F1 (0 : Int32) (0 : Int32))), .second, .val (.long (own_F1 p0 p1)), .second, .val (.long (own_F1 p2 p1)), .second, .val (.long (own_F1 p2 p3)), .second, .val (.int (0 : Int32)), .val (.int (1 : Int32)), .unset] [(.int (1 : Int32))])) _
          refine XS.istore X4.here hx rfl (hb hby at_92) rfl (l' := #[.val (.int p0), .val (.int p1), .val (.int p2), .val (.int p3), .val (.long (own_F1 (0 : Int32) (0 : Int32))), .second, .val (.long (own_F1 p0 p1)), .second, .val (.long (own_F1 p2 p1)), .second, .val (.long (own_F1 p2 p3)), .second, .val (.int (0 : Int32)), .val (.int (1 : Int32)), .val (.int (1 : Int32))]) rfl ?_
          show Steps p.tables e below (T4.setTop (mkF m 94 #[.val (.int p0), .val (.int p1), .val (.int p2), .val (.int p3), .val (.long (own_F1 (0 : Int32) (0 : Int32))), .second, .val (.long (own_F1 p0 p1)), .second, .val (.long (own_F1 p2 p1)), .second, .val (.long (own_F1 p2 p3)), .second, .val (.int (0 : Int32)), .val (.int (1 : Int32)), .val (.int (1 : Int32))] [])) _
          refine XS.iload X4.here hx rfl (hb hby at_94) rfl ?_
          show Steps p.tables e below (T4.setTop (mkF m 96 #[.val (.int p0), .val (.int p1), .val (.int p2), .val (.int p3), .val (.long (own_F1 (0 : Int32) (0 : Int32))), .second, .val (.long (own_F1 p0 p1)), .second, .val (.long (own_F1 p2 p1)), .second, .val (.long (own_F1 p2 p3)), .second, .val (.int (0 : Int32)), .val (.int (1 : Int32)), .val (.int (1 : Int32))] [(.int (0 : Int32))])) _
          refine XS.ifYes X4.here hx rfl (pc0 := 96) (pc' := 113) rfl (hb hby at_96) rfl ((if0 _ _).trans (teq (by decide : (0 : Int32) = (0 : Int32))).1) (by decide) (by decide) ?_
          show Steps p.tables e below (T4.setTop (mkF m 113 #[.val (.int p0), .val (.int p1), .val (.int p2), .val (.int p3), .val (.long (own_F1 (0 : Int32) (0 : Int32))), .second, .val (.long (own_F1 p0 p1)), .second, .val (.long (own_F1 p2 p1)), .second, .val (.long (own_F1 p2 p3)), .second, .val (.int (0 : Int32)), .val (.int (1 : Int32)), .val (.int (1 : Int32))] [])) _
          refine XS.iconst X4.here hx rfl (hb hby at_113) ?_
          show Steps p.tables e below (T4.setTop (mkF m 114 #[.val (.int p0), .val (.int p1), .val (.int p2), .val (.int p3), .val (.long (own_F1 (0 : Int32) (0 : Int32))), .second, .val (.long (own_F1 p0 p1)), .second, .val (.long (own_F1 p2 p1)), .second, .val (.long (own_F1 p2 p3)), .second, .val (.int (0 : Int32)), .val (.int (1 : Int32)), .val (.int (1 : Int32))] [(.int (0 : Int32))])) _
          exact k
        obtain ⟨fs, hr, hrun, hended, hW, hsame⟩ := X4.leave (v := some (.int (0 : Int32))) (fun h => by rw [Bd.returns] at h; cases h)
        refine ⟨_, _, ?_, hrun, hended, _, _, rfl, ?_, ⟨_, rfl⟩, hW, hsame.mono (by decide) (by decide)⟩
        · exact retN X4 hx (t := .boolean) Bd.returns (by simp) (hb hby at_114) hr
        · show own_Q0 Z p0 p1 p2 p3 h0 n0 _ T4.heap _
          rw [h4q]
          exact ⟨(congrArg (fun z => some (Value.int z)) ((by rw [own_F0, if_neg hc34_5, if_pos hc59_9, if_pos hc84_10] : (0 : Int32) = own_F0 p0 p1 p2 p3).trans (own_law p0 p1 p2 p3))), N4⟩
      · skip
        refine own_go (T' := T4) (f' := (mkF m 114 #[.val (.int p0), .val (.int p1), .val (.int p2), .val (.int p3), .val (.long (own_F1 (0 : Int32) (0 : Int32))), .second, .val (.long (own_F1 p0 p1)), .second, .val (.long (own_F1 p2 p1)), .second, .val (.long (own_F1 p2 p3)), .second, .val (.int (0 : Int32)), .val (.int (1 : Int32)), .val (.int (0 : Int32))] [(.int (0 : Int32))])) (fun t k => ?_) ?_
        · show Steps p.tables e below (T4.setTop (mkF m 84 #[.val (.int p0), .val (.int p1), .val (.int p2), .val (.int p3), .val (.long (own_F1 (0 : Int32) (0 : Int32))), .second, .val (.long (own_F1 p0 p1)), .second, .val (.long (own_F1 p2 p1)), .second, .val (.long (own_F1 p2 p3)), .second, .val (.int (0 : Int32)), .val (.int (1 : Int32)), .unset] [(.int (lcmpW ((own_F1 p2 p1) - (own_F1 p2 p3)) ((20 : Int64) * ((p1.toInt64) - (p3.toInt64)))))])) _
          refine XS.ifYes X4.here hx rfl (pc0 := 84) (pc' := 91) rfl (hb hby at_84) rfl ((if0 _ _).trans (feq (fun q => hc84_10 ((lw_eq ((own_F1 p2 p1) - (own_F1 p2 p3)) ((20 : Int64) * ((p1.toInt64) - (p3.toInt64)))).mp q))).2) (by decide) (by decide) ?_
          show Steps p.tables e below (T4.setTop (mkF m 91 #[.val (.int p0), .val (.int p1), .val (.int p2), .val (.int p3), .val (.long (own_F1 (0 : Int32) (0 : Int32))), .second, .val (.long (own_F1 p0 p1)), .second, .val (.long (own_F1 p2 p1)), .second, .val (.long (own_F1 p2 p3)), .second, .val (.int (0 : Int32)), .val (.int (1 : Int32)), .unset] [])) _
          refine XS.iconst X4.here hx rfl (hb hby at_91) ?_
          show Steps p.tables e below (T4.setTop (mkF m 92 #[.val (.int p0), .val (.int p1), .val (.int p2), .val (.int p3), .val (.long (own_F1 (0 : Int32) (0 : Int32))), .second, .val (.long (own_F1 p0 p1)), .second, .val (.long (own_F1 p2 p1)), .second, .val (.long (own_F1 p2 p3)), .second, .val (.int (0 : Int32)), .val (.int (1 : Int32)), .unset] [(.int (0 : Int32))])) _
          refine XS.istore X4.here hx rfl (hb hby at_92) rfl (l' := #[.val (.int p0), .val (.int p1), .val (.int p2), .val (.int p3), .val (.long (own_F1 (0 : Int32) (0 : Int32))), .second, .val (.long (own_F1 p0 p1)), .second, .val (.long (own_F1 p2 p1)), .second, .val (.long (own_F1 p2 p3)), .second, .val (.int (0 : Int32)), .val (.int (1 : Int32)), .val (.int (0 : Int32))]) rfl ?_
          show Steps p.tables e below (T4.setTop (mkF m 94 #[.val (.int p0), .val (.int p1), .val (.int p2), .val (.int p3), .val (.long (own_F1 (0 : Int32) (0 : Int32))), .second, .val (.long (own_F1 p0 p1)), .second, .val (.long (own_F1 p2 p1)), .second, .val (.long (own_F1 p2 p3)), .second, .val (.int (0 : Int32)), .val (.int (1 : Int32)), .val (.int (0 : Int32))] [])) _
          refine XS.iload X4.here hx rfl (hb hby at_94) rfl ?_
          show Steps p.tables e below (T4.setTop (mkF m 96 #[.val (.int p0), .val (.int p1), .val (.int p2), .val (.int p3), .val (.long (own_F1 (0 : Int32) (0 : Int32))), .second, .val (.long (own_F1 p0 p1)), .second, .val (.long (own_F1 p2 p1)), .second, .val (.long (own_F1 p2 p3)), .second, .val (.int (0 : Int32)), .val (.int (1 : Int32)), .val (.int (0 : Int32))] [(.int (0 : Int32))])) _
          refine XS.ifYes X4.here hx rfl (pc0 := 96) (pc' := 113) rfl (hb hby at_96) rfl ((if0 _ _).trans (teq (by decide : (0 : Int32) = (0 : Int32))).1) (by decide) (by decide) ?_
          show Steps p.tables e below (T4.setTop (mkF m 113 #[.val (.int p0), .val (.int p1), .val (.int p2), .val (.int p3), .val (.long (own_F1 (0 : Int32) (0 : Int32))), .second, .val (.long (own_F1 p0 p1)), .second, .val (.long (own_F1 p2 p1)), .second, .val (.long (own_F1 p2 p3)), .second, .val (.int (0 : Int32)), .val (.int (1 : Int32)), .val (.int (0 : Int32))] [])) _
          refine XS.iconst X4.here hx rfl (hb hby at_113) ?_
          show Steps p.tables e below (T4.setTop (mkF m 114 #[.val (.int p0), .val (.int p1), .val (.int p2), .val (.int p3), .val (.long (own_F1 (0 : Int32) (0 : Int32))), .second, .val (.long (own_F1 p0 p1)), .second, .val (.long (own_F1 p2 p1)), .second, .val (.long (own_F1 p2 p3)), .second, .val (.int (0 : Int32)), .val (.int (1 : Int32)), .val (.int (0 : Int32))] [(.int (0 : Int32))])) _
          exact k
        obtain ⟨fs, hr, hrun, hended, hW, hsame⟩ := X4.leave (v := some (.int (0 : Int32))) (fun h => by rw [Bd.returns] at h; cases h)
        refine ⟨_, _, ?_, hrun, hended, _, _, rfl, ?_, ⟨_, rfl⟩, hW, hsame.mono (by decide) (by decide)⟩
        · exact retN X4 hx (t := .boolean) Bd.returns (by simp) (hb hby at_114) hr
        · show own_Q0 Z p0 p1 p2 p3 h0 n0 _ T4.heap _
          rw [h4q]
          exact ⟨(congrArg (fun z => some (Value.int z)) ((by rw [own_F0, if_neg hc34_5, if_pos hc59_9, if_neg hc84_10] : (0 : Int32) = own_F0 p0 p1 p2 p3).trans (own_law p0 p1 p2 p3))), N4⟩
    · skip
      refine own_go (T' := T4) (f' := (mkF m 84 #[.val (.int p0), .val (.int p1), .val (.int p2), .val (.int p3), .val (.long (own_F1 (0 : Int32) (0 : Int32))), .second, .val (.long (own_F1 p0 p1)), .second, .val (.long (own_F1 p2 p1)), .second, .val (.long (own_F1 p2 p3)), .second, .val (.int (0 : Int32)), .val (.int (0 : Int32)), .unset] [(.int (lcmpW ((own_F1 p2 p1) - (own_F1 p2 p3)) ((20 : Int64) * ((p1.toInt64) - (p3.toInt64)))))])) (fun t k => ?_) ?_
      · show Steps p.tables e below (T4.setTop (mkF m 59 #[.val (.int p0), .val (.int p1), .val (.int p2), .val (.int p3), .val (.long (own_F1 (0 : Int32) (0 : Int32))), .second, .val (.long (own_F1 p0 p1)), .second, .val (.long (own_F1 p2 p1)), .second, .val (.long (own_F1 p2 p3)), .second, .val (.int (0 : Int32)), .unset, .unset] [(.int (lcmpW ((own_F1 p0 p1) - (own_F1 p2 p1)) ((4 : Int64) * ((p0.toInt64) - (p2.toInt64)))))])) _
        refine XS.ifYes X4.here hx rfl (pc0 := 59) (pc' := 66) rfl (hb hby at_59) rfl ((if0 _ _).trans (feq (fun q => hc59_9 ((lw_eq ((own_F1 p0 p1) - (own_F1 p2 p1)) ((4 : Int64) * ((p0.toInt64) - (p2.toInt64)))).mp q))).2) (by decide) (by decide) ?_
        show Steps p.tables e below (T4.setTop (mkF m 66 #[.val (.int p0), .val (.int p1), .val (.int p2), .val (.int p3), .val (.long (own_F1 (0 : Int32) (0 : Int32))), .second, .val (.long (own_F1 p0 p1)), .second, .val (.long (own_F1 p2 p1)), .second, .val (.long (own_F1 p2 p3)), .second, .val (.int (0 : Int32)), .unset, .unset] [])) _
        refine XS.iconst X4.here hx rfl (hb hby at_66) ?_
        show Steps p.tables e below (T4.setTop (mkF m 67 #[.val (.int p0), .val (.int p1), .val (.int p2), .val (.int p3), .val (.long (own_F1 (0 : Int32) (0 : Int32))), .second, .val (.long (own_F1 p0 p1)), .second, .val (.long (own_F1 p2 p1)), .second, .val (.long (own_F1 p2 p3)), .second, .val (.int (0 : Int32)), .unset, .unset] [(.int (0 : Int32))])) _
        refine XS.istore X4.here hx rfl (hb hby at_67) rfl (l' := #[.val (.int p0), .val (.int p1), .val (.int p2), .val (.int p3), .val (.long (own_F1 (0 : Int32) (0 : Int32))), .second, .val (.long (own_F1 p0 p1)), .second, .val (.long (own_F1 p2 p1)), .second, .val (.long (own_F1 p2 p3)), .second, .val (.int (0 : Int32)), .val (.int (0 : Int32)), .unset]) rfl ?_
        show Steps p.tables e below (T4.setTop (mkF m 69 #[.val (.int p0), .val (.int p1), .val (.int p2), .val (.int p3), .val (.long (own_F1 (0 : Int32) (0 : Int32))), .second, .val (.long (own_F1 p0 p1)), .second, .val (.long (own_F1 p2 p1)), .second, .val (.long (own_F1 p2 p3)), .second, .val (.int (0 : Int32)), .val (.int (0 : Int32)), .unset] [])) _
        refine XS.lload X4.here hx rfl (hb hby at_69) rfl ?_
        show Steps p.tables e below (T4.setTop (mkF m 71 #[.val (.int p0), .val (.int p1), .val (.int p2), .val (.int p3), .val (.long (own_F1 (0 : Int32) (0 : Int32))), .second, .val (.long (own_F1 p0 p1)), .second, .val (.long (own_F1 p2 p1)), .second, .val (.long (own_F1 p2 p3)), .second, .val (.int (0 : Int32)), .val (.int (0 : Int32)), .unset] [(.long (own_F1 p2 p1))])) _
        refine XS.lload X4.here hx rfl (hb hby at_71) rfl ?_
        show Steps p.tables e below (T4.setTop (mkF m 73 #[.val (.int p0), .val (.int p1), .val (.int p2), .val (.int p3), .val (.long (own_F1 (0 : Int32) (0 : Int32))), .second, .val (.long (own_F1 p0 p1)), .second, .val (.long (own_F1 p2 p1)), .second, .val (.long (own_F1 p2 p3)), .second, .val (.int (0 : Int32)), .val (.int (0 : Int32)), .unset] [(.long (own_F1 p2 p3)), (.long (own_F1 p2 p1))])) _
        refine XS.lsub X4.here hx rfl (hb hby at_73) rfl ?_
        show Steps p.tables e below (T4.setTop (mkF m 74 #[.val (.int p0), .val (.int p1), .val (.int p2), .val (.int p3), .val (.long (own_F1 (0 : Int32) (0 : Int32))), .second, .val (.long (own_F1 p0 p1)), .second, .val (.long (own_F1 p2 p1)), .second, .val (.long (own_F1 p2 p3)), .second, .val (.int (0 : Int32)), .val (.int (0 : Int32)), .unset] [(.long ((own_F1 p2 p1) - (own_F1 p2 p3)))])) _
        refine X4.ldc2Long hx hown (mvT hZ (hw _ (List.mem_of_getElem? (i := 9) rfl))) (g := (mkF m 74 #[.val (.int p0), .val (.int p1), .val (.int p2), .val (.int p3), .val (.long (own_F1 (0 : Int32) (0 : Int32))), .second, .val (.long (own_F1 p0 p1)), .second, .val (.long (own_F1 p2 p1)), .second, .val (.long (own_F1 p2 p3)), .second, .val (.int (0 : Int32)), .val (.int (0 : Int32)), .unset] [(.long ((own_F1 p2 p1) - (own_F1 p2 p3)))])) rfl (hb hby at_74) _ ?_
        show Steps p.tables e below (T4.setTop (mkF m 77 #[.val (.int p0), .val (.int p1), .val (.int p2), .val (.int p3), .val (.long (own_F1 (0 : Int32) (0 : Int32))), .second, .val (.long (own_F1 p0 p1)), .second, .val (.long (own_F1 p2 p1)), .second, .val (.long (own_F1 p2 p3)), .second, .val (.int (0 : Int32)), .val (.int (0 : Int32)), .unset] [(.long (20 : Int64)), (.long ((own_F1 p2 p1) - (own_F1 p2 p3)))])) _
        refine XS.iloadN X4.here hx rfl (hb hby at_77) rfl ?_
        show Steps p.tables e below (T4.setTop (mkF m 78 #[.val (.int p0), .val (.int p1), .val (.int p2), .val (.int p3), .val (.long (own_F1 (0 : Int32) (0 : Int32))), .second, .val (.long (own_F1 p0 p1)), .second, .val (.long (own_F1 p2 p1)), .second, .val (.long (own_F1 p2 p3)), .second, .val (.int (0 : Int32)), .val (.int (0 : Int32)), .unset] [(.int p1), (.long (20 : Int64)), (.long ((own_F1 p2 p1) - (own_F1 p2 p3)))])) _
        refine XS.i2l X4.here hx rfl (hb hby at_78) rfl ?_
        show Steps p.tables e below (T4.setTop (mkF m 79 #[.val (.int p0), .val (.int p1), .val (.int p2), .val (.int p3), .val (.long (own_F1 (0 : Int32) (0 : Int32))), .second, .val (.long (own_F1 p0 p1)), .second, .val (.long (own_F1 p2 p1)), .second, .val (.long (own_F1 p2 p3)), .second, .val (.int (0 : Int32)), .val (.int (0 : Int32)), .unset] [(.long (p1.toInt64)), (.long (20 : Int64)), (.long ((own_F1 p2 p1) - (own_F1 p2 p3)))])) _
        refine XS.iloadN X4.here hx rfl (hb hby at_79) rfl ?_
        show Steps p.tables e below (T4.setTop (mkF m 80 #[.val (.int p0), .val (.int p1), .val (.int p2), .val (.int p3), .val (.long (own_F1 (0 : Int32) (0 : Int32))), .second, .val (.long (own_F1 p0 p1)), .second, .val (.long (own_F1 p2 p1)), .second, .val (.long (own_F1 p2 p3)), .second, .val (.int (0 : Int32)), .val (.int (0 : Int32)), .unset] [(.int p3), (.long (p1.toInt64)), (.long (20 : Int64)), (.long ((own_F1 p2 p1) - (own_F1 p2 p3)))])) _
        refine XS.i2l X4.here hx rfl (hb hby at_80) rfl ?_
        show Steps p.tables e below (T4.setTop (mkF m 81 #[.val (.int p0), .val (.int p1), .val (.int p2), .val (.int p3), .val (.long (own_F1 (0 : Int32) (0 : Int32))), .second, .val (.long (own_F1 p0 p1)), .second, .val (.long (own_F1 p2 p1)), .second, .val (.long (own_F1 p2 p3)), .second, .val (.int (0 : Int32)), .val (.int (0 : Int32)), .unset] [(.long (p3.toInt64)), (.long (p1.toInt64)), (.long (20 : Int64)), (.long ((own_F1 p2 p1) - (own_F1 p2 p3)))])) _
        refine XS.lsub X4.here hx rfl (hb hby at_81) rfl ?_
        show Steps p.tables e below (T4.setTop (mkF m 82 #[.val (.int p0), .val (.int p1), .val (.int p2), .val (.int p3), .val (.long (own_F1 (0 : Int32) (0 : Int32))), .second, .val (.long (own_F1 p0 p1)), .second, .val (.long (own_F1 p2 p1)), .second, .val (.long (own_F1 p2 p3)), .second, .val (.int (0 : Int32)), .val (.int (0 : Int32)), .unset] [(.long ((p1.toInt64) - (p3.toInt64))), (.long (20 : Int64)), (.long ((own_F1 p2 p1) - (own_F1 p2 p3)))])) _
        refine XS.lmul X4.here hx rfl (hb hby at_82) rfl ?_
        show Steps p.tables e below (T4.setTop (mkF m 83 #[.val (.int p0), .val (.int p1), .val (.int p2), .val (.int p3), .val (.long (own_F1 (0 : Int32) (0 : Int32))), .second, .val (.long (own_F1 p0 p1)), .second, .val (.long (own_F1 p2 p1)), .second, .val (.long (own_F1 p2 p3)), .second, .val (.int (0 : Int32)), .val (.int (0 : Int32)), .unset] [(.long ((20 : Int64) * ((p1.toInt64) - (p3.toInt64)))), (.long ((own_F1 p2 p1) - (own_F1 p2 p3)))])) _
        refine XS.lcmp X4.here hx rfl (hb hby at_83) rfl ?_
        show Steps p.tables e below (T4.setTop (mkF m 84 #[.val (.int p0), .val (.int p1), .val (.int p2), .val (.int p3), .val (.long (own_F1 (0 : Int32) (0 : Int32))), .second, .val (.long (own_F1 p0 p1)), .second, .val (.long (own_F1 p2 p1)), .second, .val (.long (own_F1 p2 p3)), .second, .val (.int (0 : Int32)), .val (.int (0 : Int32)), .unset] [(.int (lcmpW ((own_F1 p2 p1) - (own_F1 p2 p3)) ((20 : Int64) * ((p1.toInt64) - (p3.toInt64)))))])) _
        exact k
      by_cases hc84_11 : ((own_F1 p2 p1) - (own_F1 p2 p3)) = ((20 : Int64) * ((p1.toInt64) - (p3.toInt64)))
      · skip
        refine own_go (T' := T4) (f' := (mkF m 114 #[.val (.int p0), .val (.int p1), .val (.int p2), .val (.int p3), .val (.long (own_F1 (0 : Int32) (0 : Int32))), .second, .val (.long (own_F1 p0 p1)), .second, .val (.long (own_F1 p2 p1)), .second, .val (.long (own_F1 p2 p3)), .second, .val (.int (0 : Int32)), .val (.int (0 : Int32)), .val (.int (1 : Int32))] [(.int (0 : Int32))])) (fun t k => ?_) ?_
        · show Steps p.tables e below (T4.setTop (mkF m 84 #[.val (.int p0), .val (.int p1), .val (.int p2), .val (.int p3), .val (.long (own_F1 (0 : Int32) (0 : Int32))), .second, .val (.long (own_F1 p0 p1)), .second, .val (.long (own_F1 p2 p1)), .second, .val (.long (own_F1 p2 p3)), .second, .val (.int (0 : Int32)), .val (.int (0 : Int32)), .unset] [(.int (lcmpW ((own_F1 p2 p1) - (own_F1 p2 p3)) ((20 : Int64) * ((p1.toInt64) - (p3.toInt64)))))])) _
          refine XS.ifNo X4.here hx rfl (hb hby at_84) rfl ((if0 _ _).trans (teq ((lw_eq ((own_F1 p2 p1) - (own_F1 p2 p3)) ((20 : Int64) * ((p1.toInt64) - (p3.toInt64)))).mpr hc84_11)).2) ?_
          show Steps p.tables e below (T4.setTop (mkF m 87 #[.val (.int p0), .val (.int p1), .val (.int p2), .val (.int p3), .val (.long (own_F1 (0 : Int32) (0 : Int32))), .second, .val (.long (own_F1 p0 p1)), .second, .val (.long (own_F1 p2 p1)), .second, .val (.long (own_F1 p2 p3)), .second, .val (.int (0 : Int32)), .val (.int (0 : Int32)), .unset] [])) _
          refine XS.iconst X4.here hx rfl (hb hby at_87) ?_
          show Steps p.tables e below (T4.setTop (mkF m 88 #[.val (.int p0), .val (.int p1), .val (.int p2), .val (.int p3), .val (.long (own_F1 (0 : Int32) (0 : Int32))), .second, .val (.long (own_F1 p0 p1)), .second, .val (.long (own_F1 p2 p1)), .second, .val (.long (own_F1 p2 p3)), .second, .val (.int (0 : Int32)), .val (.int (0 : Int32)), .unset] [(.int (1 : Int32))])) _
          refine XS.goto X4.here hx rfl (pc0 := 88) (pc' := 92) rfl (hb hby at_88) (by decide) (by decide) ?_
          show Steps p.tables e below (T4.setTop (mkF m 92 #[.val (.int p0), .val (.int p1), .val (.int p2), .val (.int p3), .val (.long (own_F1 (0 : Int32) (0 : Int32))), .second, .val (.long (own_F1 p0 p1)), .second, .val (.long (own_F1 p2 p1)), .second, .val (.long (own_F1 p2 p3)), .second, .val (.int (0 : Int32)), .val (.int (0 : Int32)), .unset] [(.int (1 : Int32))])) _
          refine XS.istore X4.here hx rfl (hb hby at_92) rfl (l' := #[.val (.int p0), .val (.int p1), .val (.int p2), .val (.int p3), .val (.long (own_F1 (0 : Int32) (0 : Int32))), .second, .val (.long (own_F1 p0 p1)), .second, .val (.long (own_F1 p2 p1)), .second, .val (.long (own_F1 p2 p3)), .second, .val (.int (0 : Int32)), .val (.int (0 : Int32)), .val (.int (1 : Int32))]) rfl ?_
          show Steps p.tables e below (T4.setTop (mkF m 94 #[.val (.int p0), .val (.int p1), .val (.int p2), .val (.int p3), .val (.long (own_F1 (0 : Int32) (0 : Int32))), .second, .val (.long (own_F1 p0 p1)), .second, .val (.long (own_F1 p2 p1)), .second, .val (.long (own_F1 p2 p3)), .second, .val (.int (0 : Int32)), .val (.int (0 : Int32)), .val (.int (1 : Int32))] [])) _
          refine XS.iload X4.here hx rfl (hb hby at_94) rfl ?_
          show Steps p.tables e below (T4.setTop (mkF m 96 #[.val (.int p0), .val (.int p1), .val (.int p2), .val (.int p3), .val (.long (own_F1 (0 : Int32) (0 : Int32))), .second, .val (.long (own_F1 p0 p1)), .second, .val (.long (own_F1 p2 p1)), .second, .val (.long (own_F1 p2 p3)), .second, .val (.int (0 : Int32)), .val (.int (0 : Int32)), .val (.int (1 : Int32))] [(.int (0 : Int32))])) _
          refine XS.ifYes X4.here hx rfl (pc0 := 96) (pc' := 113) rfl (hb hby at_96) rfl ((if0 _ _).trans (teq (by decide : (0 : Int32) = (0 : Int32))).1) (by decide) (by decide) ?_
          show Steps p.tables e below (T4.setTop (mkF m 113 #[.val (.int p0), .val (.int p1), .val (.int p2), .val (.int p3), .val (.long (own_F1 (0 : Int32) (0 : Int32))), .second, .val (.long (own_F1 p0 p1)), .second, .val (.long (own_F1 p2 p1)), .second, .val (.long (own_F1 p2 p3)), .second, .val (.int (0 : Int32)), .val (.int (0 : Int32)), .val (.int (1 : Int32))] [])) _
          refine XS.iconst X4.here hx rfl (hb hby at_113) ?_
          show Steps p.tables e below (T4.setTop (mkF m 114 #[.val (.int p0), .val (.int p1), .val (.int p2), .val (.int p3), .val (.long (own_F1 (0 : Int32) (0 : Int32))), .second, .val (.long (own_F1 p0 p1)), .second, .val (.long (own_F1 p2 p1)), .second, .val (.long (own_F1 p2 p3)), .second, .val (.int (0 : Int32)), .val (.int (0 : Int32)), .val (.int (1 : Int32))] [(.int (0 : Int32))])) _
          exact k
        obtain ⟨fs, hr, hrun, hended, hW, hsame⟩ := X4.leave (v := some (.int (0 : Int32))) (fun h => by rw [Bd.returns] at h; cases h)
        refine ⟨_, _, ?_, hrun, hended, _, _, rfl, ?_, ⟨_, rfl⟩, hW, hsame.mono (by decide) (by decide)⟩
        · exact retN X4 hx (t := .boolean) Bd.returns (by simp) (hb hby at_114) hr
        · show own_Q0 Z p0 p1 p2 p3 h0 n0 _ T4.heap _
          rw [h4q]
          exact ⟨(congrArg (fun z => some (Value.int z)) ((by rw [own_F0, if_neg hc34_5, if_neg hc59_9, if_pos hc84_11] : (0 : Int32) = own_F0 p0 p1 p2 p3).trans (own_law p0 p1 p2 p3))), N4⟩
      · skip
        refine own_go (T' := T4) (f' := (mkF m 114 #[.val (.int p0), .val (.int p1), .val (.int p2), .val (.int p3), .val (.long (own_F1 (0 : Int32) (0 : Int32))), .second, .val (.long (own_F1 p0 p1)), .second, .val (.long (own_F1 p2 p1)), .second, .val (.long (own_F1 p2 p3)), .second, .val (.int (0 : Int32)), .val (.int (0 : Int32)), .val (.int (0 : Int32))] [(.int (0 : Int32))])) (fun t k => ?_) ?_
        · show Steps p.tables e below (T4.setTop (mkF m 84 #[.val (.int p0), .val (.int p1), .val (.int p2), .val (.int p3), .val (.long (own_F1 (0 : Int32) (0 : Int32))), .second, .val (.long (own_F1 p0 p1)), .second, .val (.long (own_F1 p2 p1)), .second, .val (.long (own_F1 p2 p3)), .second, .val (.int (0 : Int32)), .val (.int (0 : Int32)), .unset] [(.int (lcmpW ((own_F1 p2 p1) - (own_F1 p2 p3)) ((20 : Int64) * ((p1.toInt64) - (p3.toInt64)))))])) _
          refine XS.ifYes X4.here hx rfl (pc0 := 84) (pc' := 91) rfl (hb hby at_84) rfl ((if0 _ _).trans (feq (fun q => hc84_11 ((lw_eq ((own_F1 p2 p1) - (own_F1 p2 p3)) ((20 : Int64) * ((p1.toInt64) - (p3.toInt64)))).mp q))).2) (by decide) (by decide) ?_
          show Steps p.tables e below (T4.setTop (mkF m 91 #[.val (.int p0), .val (.int p1), .val (.int p2), .val (.int p3), .val (.long (own_F1 (0 : Int32) (0 : Int32))), .second, .val (.long (own_F1 p0 p1)), .second, .val (.long (own_F1 p2 p1)), .second, .val (.long (own_F1 p2 p3)), .second, .val (.int (0 : Int32)), .val (.int (0 : Int32)), .unset] [])) _
          refine XS.iconst X4.here hx rfl (hb hby at_91) ?_
          show Steps p.tables e below (T4.setTop (mkF m 92 #[.val (.int p0), .val (.int p1), .val (.int p2), .val (.int p3), .val (.long (own_F1 (0 : Int32) (0 : Int32))), .second, .val (.long (own_F1 p0 p1)), .second, .val (.long (own_F1 p2 p1)), .second, .val (.long (own_F1 p2 p3)), .second, .val (.int (0 : Int32)), .val (.int (0 : Int32)), .unset] [(.int (0 : Int32))])) _
          refine XS.istore X4.here hx rfl (hb hby at_92) rfl (l' := #[.val (.int p0), .val (.int p1), .val (.int p2), .val (.int p3), .val (.long (own_F1 (0 : Int32) (0 : Int32))), .second, .val (.long (own_F1 p0 p1)), .second, .val (.long (own_F1 p2 p1)), .second, .val (.long (own_F1 p2 p3)), .second, .val (.int (0 : Int32)), .val (.int (0 : Int32)), .val (.int (0 : Int32))]) rfl ?_
          show Steps p.tables e below (T4.setTop (mkF m 94 #[.val (.int p0), .val (.int p1), .val (.int p2), .val (.int p3), .val (.long (own_F1 (0 : Int32) (0 : Int32))), .second, .val (.long (own_F1 p0 p1)), .second, .val (.long (own_F1 p2 p1)), .second, .val (.long (own_F1 p2 p3)), .second, .val (.int (0 : Int32)), .val (.int (0 : Int32)), .val (.int (0 : Int32))] [])) _
          refine XS.iload X4.here hx rfl (hb hby at_94) rfl ?_
          show Steps p.tables e below (T4.setTop (mkF m 96 #[.val (.int p0), .val (.int p1), .val (.int p2), .val (.int p3), .val (.long (own_F1 (0 : Int32) (0 : Int32))), .second, .val (.long (own_F1 p0 p1)), .second, .val (.long (own_F1 p2 p1)), .second, .val (.long (own_F1 p2 p3)), .second, .val (.int (0 : Int32)), .val (.int (0 : Int32)), .val (.int (0 : Int32))] [(.int (0 : Int32))])) _
          refine XS.ifYes X4.here hx rfl (pc0 := 96) (pc' := 113) rfl (hb hby at_96) rfl ((if0 _ _).trans (teq (by decide : (0 : Int32) = (0 : Int32))).1) (by decide) (by decide) ?_
          show Steps p.tables e below (T4.setTop (mkF m 113 #[.val (.int p0), .val (.int p1), .val (.int p2), .val (.int p3), .val (.long (own_F1 (0 : Int32) (0 : Int32))), .second, .val (.long (own_F1 p0 p1)), .second, .val (.long (own_F1 p2 p1)), .second, .val (.long (own_F1 p2 p3)), .second, .val (.int (0 : Int32)), .val (.int (0 : Int32)), .val (.int (0 : Int32))] [])) _
          refine XS.iconst X4.here hx rfl (hb hby at_113) ?_
          show Steps p.tables e below (T4.setTop (mkF m 114 #[.val (.int p0), .val (.int p1), .val (.int p2), .val (.int p3), .val (.long (own_F1 (0 : Int32) (0 : Int32))), .second, .val (.long (own_F1 p0 p1)), .second, .val (.long (own_F1 p2 p1)), .second, .val (.long (own_F1 p2 p3)), .second, .val (.int (0 : Int32)), .val (.int (0 : Int32)), .val (.int (0 : Int32))] [(.int (0 : Int32))])) _
          exact k
        obtain ⟨fs, hr, hrun, hended, hW, hsame⟩ := X4.leave (v := some (.int (0 : Int32))) (fun h => by rw [Bd.returns] at h; cases h)
        refine ⟨_, _, ?_, hrun, hended, _, _, rfl, ?_, ⟨_, rfl⟩, hW, hsame.mono (by decide) (by decide)⟩
        · exact retN X4 hx (t := .boolean) Bd.returns (by simp) (hb hby at_114) hr
        · show own_Q0 Z p0 p1 p2 p3 h0 n0 _ T4.heap _
          rw [h4q]
          exact ⟨(congrArg (fun z => some (Value.int z)) ((by rw [own_F0, if_neg hc34_5, if_neg hc59_9, if_neg hc84_11] : (0 : Int32) = own_F0 p0 p1 p2 p3).trans (own_law p0 p1 p2 p3))), N4⟩
set_option maxRecDepth 65536 in
set_option maxHeartbeats 40000000 in
theorem comes_1 {Post : Tables → Env → Array Value → State → Outcome → State → Prop} (hpost : ∀ tb e args s v u, (limb_1_1.after args s (.returned v) u = true ∧ limb_1_2.after args s (.returned v) u = true ∧ True) → FrameEnd s (.returned v) u (Jvm.fieldLocs frame_1_writes args s ++ Jvm.arrayLocs frame_1_arrays args s ++ Jvm.staticLocs frame_1_statics s) 0 0 → Post tb e args s (.returned v) u) :
    ArmFor flags0 classFile x code maxLocals ret World_1 tables_1 room_1 Calls_1 rest_1 Pre_1 Post := by
  intro l hfl _ _ p e ha hc hk s m args below hf hA hF happ hP
  obtain ⟨hcalls, hrest, hpre⟩ := hP
  obtain ⟨-, -, -, hnamed, -, -, -, hat⟩ := (Spec.applies_iff hf).mp happ
  obtain ⟨hg, hn⟩ := and_e (Cond.before_iff.mp (show (Jvm.Cond.and given_1 narrow_1).before args s = true from hpre))
  obtain ⟨hcnt, g0⟩ := and_e hg
  obtain ⟨k0, g1⟩ := and_e g0
  obtain ⟨k1, g2⟩ := and_e g1
  obtain ⟨k2, g3⟩ := and_e g2
  have k3 := g3
  obtain ⟨w0, w1, w2, w3, rfl⟩ : ∃ w0 w1 w2 w3 : Value, args = #[w0, w1, w2, w3] := by
    have hs : args.size = 4 := by simpa [Cond.value, given_1] using hcnt
    obtain ⟨L⟩ := args
    match L, hs with
    | [w0, w1, w2, w3], _ => exact ⟨w0, w1, w2, w3, rfl⟩
  have hw := fun d (hd : d ∈ tables_1) => atoms_spec (ws := Jvm.Cond.code x code maxLocals ret :: tables_1) hat d (List.mem_cons_of_mem _ hd)
  obtain ⟨i0, e0⟩ := is_v k0
  obtain rfl : w0 = (.int i0) := Option.some.inj e0
  obtain ⟨i1, e1⟩ := is_v k1
  obtain rfl : w1 = (.int i1) := Option.some.inj e1
  obtain ⟨i2, e2⟩ := is_v k2
  obtain rfl : w2 = (.int i2) := Option.some.inj e2
  obtain ⟨i3, e3⟩ := is_v k3
  obtain rfl : w3 = (.int i3) := Option.some.inj e3
  obtain ⟨n, o, h1, h2, h3, _, L, rfl, ⟨hv, N⟩, hq⟩ := own_rm0 l s _ hw tables_1 i0 i1 i2 i3 s.heap s.heap.size (Nat.le_refl _)  p e ha hc hk s m _ below hf ((Spec.applies_iff_loose hf).mp happ).1 ⟨rfl, State.Warmed39.refl s, rfl⟩ trivial
  subst hv
  refine ⟨n, _, h1, h2, h3, hpost _ _ _ _ _ _ ⟨Cond.after_iff.mpr rfl, Cond.after_iff.mpr (eq_i res_at (Term.int_eval (1)) rfl), trivial⟩ ⟨hq.1, hq.2.1, (hq.2.2.sift fun y hy => Or.inr (N y hy)).mono (by decide) (by decide)⟩⟩
theorem main_1_1 : Claimed_1_1 := comes_1 fun _ _ _ _ _ _ h hF => ⟨h.1, hF⟩
theorem main_1_2 : Claimed_1_2 := comes_1 fun _ _ _ _ _ _ h hF => ⟨h.2.1, hF⟩
end Jvm.Pilot.@@N@@
namespace Jvm.Pilot.@@N@@
open Jvm Jvm.ClassFile Sem Op Lib Jvm.Free Jvm.Stand Jvm.Pilot.@@N@@.Jvm.D
/-! MADE BY PROGRAM (witnessworld.py) out of the Statement's table words and the real class files: 7 classes; the members and pool entries that the words name. The judged class is class 1, her method 1. -/
namespace start1
open Jvm.ClassFile
def u (s : String) : CpInfo := .utf8 (stringToUtf16 s)
/-- a pool by its gaps: so many unusable entries, then the entry; so many at the end -/
def gap : Nat → List CpInfo → List CpInfo
  | 0, r => r
  | n + 1, r => .unusable :: gap n r
def poolList (es : List (Nat × CpInfo)) (last : Nat) : List CpInfo := es.foldr (fun e r => gap e.1 (e.2 :: r)) (gap last [])
def pool (es : List (Nat × CpInfo)) (last : Nat) : Array CpInfo := ⟨poolList es last⟩
def fileOf (pool : Array CpInfo) (this : Nat) (attrs : Array Attribute := #[]) (ms : Array MethodInfo := #[]) (fl : Nat := 33) (sup : Nat := 0) (ifs : Array Nat := #[]) (fds : Array FieldInfo := #[]) : ClassFile where
  minorVersion := 0
  majorVersion := 65
  constantPool := pool
  accessFlags := fl
  thisClass := this
  superClass := sup
  interfaces := ifs
  fields := fds
  methods := ms
  attributes := attrs
def plain (name : String) (sup : Option ClassId) : Class where
  name := name
  kind := .ordinary
  loader := none
  accessFlags := 33
  super := sup
  interfaces := #[]
  cf := none
  fields := #[]
  methods := #[]
  instanceTypes := #[]
  staticTypes := #[]
  resolved := #[]
  callSites := []
  init := .initialized
  statics := none
  mirror := none

def pool0 : Array CpInfo := pool [(5, u "<init>"), (0, u "()V"), (1, .class_ 10), (1, u "java/lang/Object")] 113

def k0m0 : Method := { name := "<init>", desc := "()V", sig := { parameters := [], returnType := none }, accessFlags := 1, code := none }
/-- java/lang/Object -/
def k0 : Class := { plain "java/lang/Object" none with
  accessFlags := 33
  interfaces := #[]
  cf := some (fileOf pool0 8 #[] #[{ accessFlags := 1, nameIndex := 5, descriptorIndex := 6, attributes := #[] }] 33 0 #[] #[])
  fields := #[]
  methods := #[k0m0]
  instanceTypes := #[]
  staticTypes := #[]
  resolved := Array.replicate 124 none
  statics := none }

def pool1 : Array CpInfo := pool [(2, .class_ 4), (1, u "java/lang/Object"), (0, u "<init>"), (0, u "()V"), (0, .methodref 8 9), (0, .class_ 10), (0, .nameAndType 11 12), (0, u "com/example/wushan/wushan/store/IndexFile"), (0, u "size"), (0, u "(II)J"), (0, .long 40), (1, .long 4), (1, .long 20), (1, .class_ 20), (0, u "com/example/wushan/wushan/store/IndexFileSizePinLaw"), (2, u "law"), (0, u "(IIII)Z")] 3

def k1m0 : Method := { name := "<init>", desc := "()V", sig := { parameters := [], returnType := none }, accessFlags := 1, code := none }
def k1c1 : Code := { maxStack := 8, maxLocals := 15, code := code, exceptionTable := #[], attributes := #[] }
def k1m1 : Method := { name := "law", desc := "(IIII)Z", sig := { parameters := [.int, .int, .int, .int], returnType := some .boolean }, accessFlags := 9, code := some k1c1 }
/-- com/example/wushan/wushan/store/IndexFileSizePinLaw -/
def k1 : Class := { plain "com/example/wushan/wushan/store/IndexFileSizePinLaw" (some 0) with
  accessFlags := 49
  interfaces := #[]
  cf := some (fileOf pool1 19 #[] #[{ accessFlags := 1, nameIndex := 5, descriptorIndex := 6, attributes := #[] }, { accessFlags := 9, nameIndex := 23, descriptorIndex := 24, attributes := #[] }] 49 2 #[] #[])
  fields := #[]
  methods := #[k1m0, k1m1]
  instanceTypes := #[]
  staticTypes := #[]
  resolved := Array.replicate 28 none
  statics := none }

def pool2 : Array CpInfo := pool [(2, .class_ 4), (1, u "java/lang/Object"), (3, .class_ 10), (1, u "com/example/wushan/wushan/store/IndexFile"), (0, u "slotsTrusted"), (0, u "Z"), (2, u "file"), (0, u "Lcom/example/wushan/wushan/io/MappedFile;"), (2, u "slots"), (0, u "I"), (2, u "entries"), (0, .long 40), (1, .long 4), (1, .long 20), (150, u "HEADER_SIZE"), (2, u "SLOT_SIZE"), (1, u "ENTRY_SIZE"), (1, u "BEGIN_TIME"), (1, u "END_TIME"), (1, u "BEGIN_OFFSET"), (1, u "END_OFFSET"), (1, u "SLOTS_IN_USE"), (1, u "INDEX_COUNT"), (1, u "OFFSET_FIELD"), (0, u "SECONDS_FIELD"), (1, u "BEFORE_FIELD"), (0, u "RELINK_PASS"), (3, u "size"), (0, u "(II)J")] 26

def k2c0 : Code := { maxStack := 6, maxLocals := 2, code := prog_60_method_2_code, exceptionTable := #[], attributes := #[] }
def k2m0 : Method := { name := "size", desc := "(II)J", sig := { parameters := [.int, .int], returnType := some .long }, accessFlags := 8, code := some k2c0 }
/-- com/example/wushan/wushan/store/IndexFile -/
def k2 : Class := { plain "com/example/wushan/wushan/store/IndexFile" (some 0) with
  accessFlags := 32
  interfaces := #[]
  cf := some (fileOf pool2 8 #[] #[{ accessFlags := 8, nameIndex := 206, descriptorIndex := 207, attributes := #[] }] 32 2 #[] #[{ accessFlags := 24, nameIndex := 179, descriptorIndex := 20, attributes := #[] }, { accessFlags := 24, nameIndex := 182, descriptorIndex := 20, attributes := #[] }, { accessFlags := 24, nameIndex := 184, descriptorIndex := 20, attributes := #[] }, { accessFlags := 26, nameIndex := 186, descriptorIndex := 20, attributes := #[] }, { accessFlags := 26, nameIndex := 188, descriptorIndex := 20, attributes := #[] }, { accessFlags := 26, nameIndex := 190, descriptorIndex := 20, attributes := #[] }, { accessFlags := 26, nameIndex := 192, descriptorIndex := 20, attributes := #[] }, { accessFlags := 26, nameIndex := 194, descriptorIndex := 20, attributes := #[] }, { accessFlags := 26, nameIndex := 196, descriptorIndex := 20, attributes := #[] }, { accessFlags := 26, nameIndex := 198, descriptorIndex := 20, attributes := #[] }, { accessFlags := 26, nameIndex := 199, descriptorIndex := 20, attributes := #[] }, { accessFlags := 26, nameIndex := 201, descriptorIndex := 20, attributes := #[] }, { accessFlags := 26, nameIndex := 202, descriptorIndex := 20, attributes := #[] }, { accessFlags := 18, nameIndex := 15, descriptorIndex := 16, attributes := #[] }, { accessFlags := 18, nameIndex := 19, descriptorIndex := 20, attributes := #[] }, { accessFlags := 18, nameIndex := 23, descriptorIndex := 20, attributes := #[] }, { accessFlags := 2, nameIndex := 11, descriptorIndex := 12, attributes := #[] }])
  fields := #[{ name := "HEADER_SIZE", type := .int, accessFlags := 24, slot := 0, constantValue := 0 }, { name := "SLOT_SIZE", type := .int, accessFlags := 24, slot := 1, constantValue := 0 }, { name := "ENTRY_SIZE", type := .int, accessFlags := 24, slot := 2, constantValue := 0 }, { name := "BEGIN_TIME", type := .int, accessFlags := 26, slot := 3, constantValue := 0 }, { name := "END_TIME", type := .int, accessFlags := 26, slot := 4, constantValue := 0 }, { name := "BEGIN_OFFSET", type := .int, accessFlags := 26, slot := 5, constantValue := 0 }, { name := "END_OFFSET", type := .int, accessFlags := 26, slot := 6, constantValue := 0 }, { name := "SLOTS_IN_USE", type := .int, accessFlags := 26, slot := 7, constantValue := 0 }, { name := "INDEX_COUNT", type := .int, accessFlags := 26, slot := 8, constantValue := 0 }, { name := "OFFSET_FIELD", type := .int, accessFlags := 26, slot := 9, constantValue := 0 }, { name := "SECONDS_FIELD", type := .int, accessFlags := 26, slot := 10, constantValue := 0 }, { name := "BEFORE_FIELD", type := .int, accessFlags := 26, slot := 11, constantValue := 0 }, { name := "RELINK_PASS", type := .int, accessFlags := 26, slot := 12, constantValue := 0 }, { name := "file", type := (.object "com/example/wushan/wushan/io/MappedFile"), accessFlags := 18, slot := 0, constantValue := 0 }, { name := "slots", type := .int, accessFlags := 18, slot := 1, constantValue := 0 }, { name := "entries", type := .int, accessFlags := 18, slot := 2, constantValue := 0 }, { name := "slotsTrusted", type := .boolean, accessFlags := 2, slot := 3, constantValue := 0 }]
  methods := #[k2m0]
  instanceTypes := #[(.object "com/example/wushan/wushan/io/MappedFile"), .int, .int, .boolean]
  staticTypes := #[.int, .int, .int, .int, .int, .int, .int, .int, .int, .int, .int, .int, .int]
  resolved := Array.replicate 234 none
  statics := none }

def pool3 : Array CpInfo := pool [(1, u "java/lang/Cloneable"), (0, .class_ 1), (0, u "java/lang/Object"), (0, .class_ 3)] 3

/-- java/lang/Cloneable -/
def k3 : Class := { plain "java/lang/Cloneable" (some 0) with
  accessFlags := 1537
  interfaces := #[]
  cf := some (fileOf pool3 2 #[] #[] 1537 4 #[] #[])
  fields := #[]
  methods := #[]
  instanceTypes := #[]
  staticTypes := #[]
  resolved := Array.replicate 8 none
  statics := none }

def pool4 : Array CpInfo := pool [(1, u "java/io/Serializable"), (0, .class_ 1), (0, u "java/lang/Object"), (0, .class_ 3)] 3

/-- java/io/Serializable -/
def k4 : Class := { plain "java/io/Serializable" (some 0) with
  accessFlags := 1537
  interfaces := #[]
  cf := some (fileOf pool4 2 #[] #[] 1537 4 #[] #[])
  fields := #[]
  methods := #[]
  instanceTypes := #[]
  staticTypes := #[]
  resolved := Array.replicate 8 none
  statics := none }

/-- the primitive byte -/
def k5 : Class := { plain "byte" none with kind := .primitive 'B', accessFlags := 0x411 }
/-- [B -/
def k6 : Class := { plain "[B" (some 0) with kind := .array 5 .byte, interfaces := #[3, 4], accessFlags := 1041 }

def heap : Heap := #[]
def classes : Array Class := #[k0, k1, k2, k3, k4, k5, k6]
def interned : List (Array UInt16 × Addr) := []
def slotsUsed : Nat := 0
def theMethod : MethodId := ⟨1, 1⟩
def args0 : Array Value := #[.int 5, .int 5, .int 5, .int 5]
def aboutOver (below : List Frame) : State where
  vm := { classes := classes, interned := interned.toArray }
  heap := heap
  slotsUsed := slotsUsed
  threads := #[{ frames := .invoking theMethod args0 :: below }]
def below0 : List Frame := [.native { method := ⟨0, 0⟩, args := #[] }]
def about1 : State := aboutOver below0
def p0 : Program := .bare "" "" ""
def e0 : Env := launch0.env 0 0 0
theorem w_frames : about1.frames = Frame.invoking theMethod args0 :: below0 := rfl
set_option maxRecDepth 65536 in
theorem w_args : argsFit about1.vm theMethod args0 = true := by decide +kernel
set_option maxRecDepth 65536 in
theorem w_heap : heapFits about1 = true := by decide +kernel
set_option maxRecDepth 65536 in
theorem w_runnable : about1.curStatus? = some .runnable := by decide +kernel
set_option maxRecDepth 65536 in
theorem w_alone : about1.alone = true := by decide +kernel
set_option maxRecDepth 65536 in
theorem w_named : about1.methodNamed? x = some theMethod := by decide +kernel
set_option maxRecDepth 65536 in
theorem w_hears : about1.hears theMethod below0 = true := by decide +kernel
set_option maxRecDepth 65536 in
theorem w_ripe : about1.ripe theMethod args0 below0 = true := by decide +kernel
theorem w_running : about1.status = .running := rfl
set_option maxRecDepth 65536 in
theorem w_room : about1.hasRoom e0.platform room_1 = true :=
  launch0.hasRoom_least _ room_1 (by decide +kernel) (by decide +kernel) (by decide +kernel) (by decide +kernel) (by decide +kernel) (by decide +kernel)
theorem allAtoms_all (ts : List Jvm.Cond) (a : Array Jvm.Value) (st : Jvm.State) : (allAtoms ts).before a st = ts.all (fun c => c.before a st) := by
  induction ts with
  | nil => rfl
  | cons c t ih =>
    show (Jvm.Cond.and c (allAtoms t)).before a st = _
    rw [Jvm.Cond.before_and, ih, List.all_cons]
def words1 : List Jvm.Cond := Jvm.Cond.code x code maxLocals ret :: tables_1
/-- a 'code' word, met by the world's own term for the bytes: nothing is compared byte by byte -/
theorem code_word {y : MethodName} {bytes : ByteArray} {mx : Nat} {rt : Option FieldType} {a : Array Value} {s : State} {m : MethodId} {meth : Method} {c : Code} (h1 : s.methodNamed? y = some m) (h2 : s.vm.method? m = some meth) (h3 : meth.code = some c) (h4 : c.code = bytes)
    (h5 : (c.maxLocals == mx && c.exceptionTable.isEmpty && decide (c.maxStack ≤ mostOperands) && decide (meth.sig.returnType = rt) && !meth.locks && decide (parseMethodDescriptor y.desc = some meth.sig)) = true) : (Jvm.Cond.code y bytes mx rt).before a s = true := by
  simp only [Bool.and_eq_true, beq_iff_eq, Bool.not_eq_true', decide_eq_true_eq] at h5
  obtain ⟨⟨⟨⟨⟨g1, g2⟩, g3⟩, g4⟩, g5⟩, g6⟩ := h5
  simp [Cond.before, Cond.holds, Cond.value, h1, h2, h3, h4, g1, g2, g3, g4, g5, g6]
def isCode : Jvm.Cond → Bool
  | .code _ _ _ _ => true
  | _ => false
theorem all_split {L : List Jvm.Cond} {P : Jvm.Cond → Bool} (h1 : L.all (fun c => isCode c || P c) = true) (h2 : ∀ c ∈ L.filter isCode, P c = true) : L.all P = true := by
  refine List.all_eq_true.mpr fun c hc => ?_
  have h := List.all_eq_true.mp h1 c hc
  rcases Bool.eq_false_or_eq_true (isCode c) with hi | hi
  · exact h2 c (List.mem_filter.mpr ⟨hc, hi⟩)
  · simpa [hi] using h
set_option maxRecDepth 65536 in
theorem w_c0 : (Jvm.Cond.code x code maxLocals ret).before args0 about1 = true := code_word (m := ⟨1, 1⟩) (meth := k1m1) (c := k1c1) (by decide +kernel) rfl rfl rfl (by decide +kernel)
set_option maxRecDepth 65536 in
theorem w_c1 : (Jvm.Cond.code ({ cls := "com/example/wushan/wushan/store/IndexFile", name := "size", desc := "(II)J" } : Jvm.MethodName) prog_60_method_2_code (2 : Nat) (Option.some Jvm.ClassFile.FieldType.long)).before args0 about1 = true := code_word (m := ⟨2, 0⟩) (meth := k2m0) (c := k2c0) (by decide +kernel) rfl rfl rfl (by decide +kernel)
def codes1 : List Jvm.Cond := [Jvm.Cond.code x code maxLocals ret, Jvm.Cond.code ({ cls := "com/example/wushan/wushan/store/IndexFile", name := "size", desc := "(II)J" } : Jvm.MethodName) prog_60_method_2_code (2 : Nat) (Option.some Jvm.ClassFile.FieldType.long)]
set_option maxRecDepth 65536 in
theorem codes_eq : words1.filter isCode = codes1 := rfl
theorem w_codes : ∀ c ∈ words1.filter isCode, c.before args0 about1 = true := by
  rw [codes_eq]
  intro c hc
  simp only [codes1, List.mem_cons, List.not_mem_nil, or_false] at hc
  rcases hc with rfl | rfl
  · exact w_c0
  · exact w_c1
set_option maxRecDepth 65536 in
theorem w_t1 : words1.all (fun c => isCode c || c.before args0 about1) = true := by decide +kernel
theorem w_tables : (allAtoms (Jvm.Cond.code x code maxLocals ret :: tables_1)).before args0 about1 = true := by
  rw [allAtoms_all]
  show words1.all (fun c => c.before args0 about1) = true
  refine all_split ?_ w_codes
  rw [w_t1]
set_option maxRecDepth 65536 in
theorem w_case : (Jvm.Cond.and given_1 narrow_1).before args0 about1 = true := by decide +kernel
theorem w_applies : (headSpec (Jvm.Cond.code x code maxLocals ret :: tables_1) room_1).applies x e0.platform about1 = true :=
  (Spec.applies_iff w_frames).mpr ⟨w_running, w_runnable, w_alone, w_named, w_hears, w_ripe, w_room, w_tables⟩
theorem atStart : AtStart classFile x code maxLocals ret World_1 tables_1 room_1 Calls_1 rest_1 Pre_1 launch0 p0 e0 about1 theMethod args0 below0 :=
  ⟨lists_1, trivial, launch0.admits_env _ _ _, launch0.least_env, fairChoices_fair.cas, fairChoices_fair.clock, w_frames, w_args, w_heap, w_applies, trivial, trivial, w_case⟩
end start1
theorem witness_1 : WitnessClaimed_1 := ⟨start1.p0, start1.e0, start1.about1, start1.theMethod, start1.args0, start1.below0, start1.atStart⟩
end Jvm.Pilot.@@N@@
