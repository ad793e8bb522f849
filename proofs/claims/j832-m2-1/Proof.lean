import JvmDerived
import JvmDerived.Pilot.@@N@@Statement
import JvmDerived.Pilot.@@N@@Code
set_option linter.unusedVariables false
set_option linter.unusedSimpArgs false
namespace Jvm.RoadKit
open Sem ClassFile Op Lib Jvm.Stand Jvm.Free Jvm.LawKit
section New
variable {p : Program} {l : Launch} {e : Env} {R : Room} {s : State} {m : MethodId} {args : Array Value} {below : List Frame} {meth : Method} {c : Code} {T : State} {locs : List Loc} {cells slots : Nat}
theorem retI (X : Stand p l e R s m args below meth c T locs cells slots) (hx : p.tables.exec = Jvm.exec) {pc : Nat} {Ls : Array Slot} {z : Int32} {rest : List Value} (hret : meth.sig.returnType = some .int) (hd : decode c.code pc = .ok (.ireturn, 1)) {fs : List Frame}
    (hl : ∀ (f : JFrame) (acts : List Action), f.method = m → f.locked = none → f.entered = [] → (doReturn e (T.setTop f) acts (some (.int z))).1 = T.setFrames fs) : Steps p.tables e below (T.setTop (mkF m pc Ls (.int z :: rest))) (T.setFrames fs) := by
  have hm' : T.vm.method? m = some meth := X.method'
  have hn : narrow .int (.int z) = .int z := rfl
  show Steps p.tables e below (T.setTop { method := m, pc := pc, locals := Ls, stack := _ :: rest, locked := none }) _
  jvm_step X.here [X.here.top, hx, hd, hm', hret, hn]
  first | (intro acts; rw [hl _ acts rfl rfl rfl]) | rw [hl _ _ rfl rfl rfl]
  exact Steps.refl _
end New
end Jvm.RoadKit
namespace Jvm.Pilot.@@N@@
open Jvm Jvm.ClassFile Sem Op Lib Jvm.Free Jvm.Stand Jvm.LawKit Jvm.RoadKit Bundle Jvm.Pilot.@@N@@.Jvm.D
theorem d1_0 : decode prog_33_method_3_code 0 = .ok (.lload_n 0, 1) := by decide +kernel
theorem d1_1 : decode prog_33_method_3_code 1 = .ok (.lload_n 0, 1) := by decide +kernel
theorem d1_2 : decode prog_33_method_3_code 2 = .ok (.lmul, 1) := by decide +kernel
theorem d1_3 : decode prog_33_method_3_code 3 = .ok (.lload_n 2, 1) := by decide +kernel
theorem d1_4 : decode prog_33_method_3_code 4 = .ok (.lcmp, 1) := by decide +kernel
theorem d1_5 : decode prog_33_method_3_code 5 = .ok (.ifCond .le 7, 3) := by decide +kernel
theorem d1_8 : decode prog_33_method_3_code 8 = .ok (.iconst 1, 1) := by decide +kernel
theorem d1_9 : decode prog_33_method_3_code 9 = .ok (.goto 4, 3) := by decide +kernel
theorem d1_12 : decode prog_33_method_3_code 12 = .ok (.iconst 0, 1) := by decide +kernel
theorem d1_13 : decode prog_33_method_3_code 13 = .ok (.ireturn, 1) := by decide +kernel
theorem pn_1 : plainName "com/example/evolvent/evolvent/LayeredMap" = true := by first | (simp [plainName, overriddenIn]; done) | decide +kernel
theorem ef_1 (m : MethodId) (q0 : Int64) (q1 : Int64) : entryFrame m #[(.long q0), (.long q1)] 4 = mkF m 0 #[.val (.long q0), .second, .val (.long q1), .second] [] := by first | (simp [entryFrame, mkF, argsToLocals, Value.category]; done) | rfl
def own_f1 (q0 : Int64) (q1 : Int64) : Int32 := (if q1 < (q0 * q0) then (1 : Int32) else (0 : Int32))
def Q1 (Z : State) (q0 : Int64) (q1 : Int64) (h0 : Heap) (n0 : Nat) (v : Option Value) (h : Heap) (L : List Loc) : Prop := v = some (.int (own_f1 q0 q1)) ∧ Fr n0 L ∧ h = h0
set_option maxRecDepth 65536 in
set_option maxHeartbeats 40000000 in
theorem rm1 (l : Launch) (Z : State) (a0 : Array Value) (hw : ∀ d ∈ tables_1, d.before a0 Z = true) (ws : List Jvm.Cond) (q0 : Int64) (q1 : Int64) (h0 : Heap) (n0 : Nat) (Z0 : n0 ≤ h0.size) :
    MetFree l (⟨"com/example/evolvent/evolvent/LayeredMap", "folds", "(JJ)Z"⟩ : MethodName) (head1 (Jvm.Cond.code (⟨"com/example/evolvent/evolvent/LayeredMap", "folds", "(JJ)Z"⟩ : MethodName) prog_33_method_3_code 4 (some .boolean) :: ws) ({ frames := 0, cells := 0, slots := 0, locals := 0 } : Room)) (fun a U => a = #[(.long q0), (.long q1)] ∧ Z.Warmed39 U.vm ∧ U.heap = h0) (fun _ _ _ _ _ => True) (fun _ U o U' => ∃ v L, o = .returned v ∧ Q1 Z q0 q1 h0 n0 v U'.heap L ∧ FrameEnd U o U' L ({ frames := 0, cells := 0, slots := 0, locals := 0 } : Room).cells ({ frames := 0, cells := 0, slots := 0, locals := 0 } : Room).slots) := by
  refine MetFree.of_bodySF (plainFor_of_name pn_1) hisR ?_
  intro p e s m args below meth c s₁ Bd hml0 hP hK
  obtain ⟨rfl, hZ, hh⟩ := hP
  have hx := Bd.exec
  have hby := Bd.bytes
  have hml : c.maxLocals = 4 := hml0
  have hown : s.vm.findClass "com/example/evolvent/evolvent/LayeredMap" = some m.cls := findClass_of_methodNamed Bd.named
  have hnm := (name_of_methodNamed Bd.named Bd.method).1
  have X0 : Stand p l e ({ frames := 0, cells := 0, slots := 0, locals := 0 } : Room) s m #[(.long q0), (.long q1)] below meth c s₁ [] 0 0 := Stand.of_body Bd
  have e0 : s₁.heap = h0 := by rw [← hh, Bd.state]; rfl
  have N0 := Fr.nil n0
  obtain ⟨P, pre0, fin⟩ : ∃ P : State → Prop, (∀ t, Steps p.tables e below (s₁.setTop (mkF m 0 #[.val (.long q0), .second, .val (.long q1), .second] [])) t → P t) ∧ (∀ t, P t → Steps p.tables e below (s₁.setTop (entryFrame m #[(.long q0), (.long q1)] 4)) t) := ⟨fun t => Steps p.tables e below (s₁.setTop (entryFrame m #[(.long q0), (.long q1)] 4)) t, fun t k => castTop (ef_1 m q0 q1) k, fun t k => k⟩
  have K0 : Keep h0 h0 [] := Keep.refl _ _
  have pre1 : ∀ t, Steps p.tables e below (s₁.setTop (mkF m 5 #[.val (.long q0), .second, .val (.long q1), .second] [(.int (lcmpW (q0 * q0) q1))])) t → P t := fun t k => pre0 t (by
      show Steps p.tables e below (s₁.setTop (mkF m 0 #[.val (.long q0), .second, .val (.long q1), .second] [])) _
      refine XS.lloadN X0.here hx rfl (hb hby d1_0) rfl ?_
      show Steps p.tables e below (s₁.setTop (mkF m 1 #[.val (.long q0), .second, .val (.long q1), .second] [(.long q0)])) _
      refine XS.lloadN X0.here hx rfl (hb hby d1_1) rfl ?_
      show Steps p.tables e below (s₁.setTop (mkF m 2 #[.val (.long q0), .second, .val (.long q1), .second] [(.long q0), (.long q0)])) _
      refine XS.lmul X0.here hx rfl (hb hby d1_2) rfl ?_
      show Steps p.tables e below (s₁.setTop (mkF m 3 #[.val (.long q0), .second, .val (.long q1), .second] [(.long (q0 * q0))])) _
      refine XS.lloadN X0.here hx rfl (hb hby d1_3) rfl ?_
      show Steps p.tables e below (s₁.setTop (mkF m 4 #[.val (.long q0), .second, .val (.long q1), .second] [(.long q1), (.long (q0 * q0))])) _
      refine XS.lcmp X0.here hx rfl (hb hby d1_4) rfl ?_
      exact k)
  obtain ⟨T6, L6, v5, X6, e6, N6, hv5, pre6⟩ : ∃ (T' : State) (L' : List Loc) (v5 : Int32), Stand p l e ({ frames := 0, cells := 0, slots := 0, locals := 0 } : Room) s m #[(.long q0), (.long q1)] below meth c T' L' 0 0 ∧ T'.heap = h0 ∧ Fr n0 L' ∧ v5 = (if q1 < (q0 * q0) then (1 : Int32) else (0 : Int32)) ∧ (∀ t, Steps p.tables e below (T'.setTop (mkF m 13 #[.val (.long q0), .second, .val (.long q1), .second] [(.int v5)])) t → P t) := by
    by_cases hc2 : q1 < (q0 * q0)
    · have pre3 : ∀ t, Steps p.tables e below (s₁.setTop (mkF m 13 #[.val (.long q0), .second, .val (.long q1), .second] [(.int (1 : Int32))])) t → P t := fun t k => pre1 t (by
          show Steps p.tables e below (s₁.setTop (mkF m 5 #[.val (.long q0), .second, .val (.long q1), .second] [(.int (lcmpW (q0 * q0) q1))])) _
          refine XS.ifNo X0.here hx rfl (hb hby d1_5) rfl ((if0 _ _).trans (tlt ((lw_gt _ _).mpr hc2)).2.2.2) ?_
          show Steps p.tables e below (s₁.setTop (mkF m 8 #[.val (.long q0), .second, .val (.long q1), .second] [])) _
          refine XS.iconst X0.here hx rfl (hb hby d1_8) ?_
          show Steps p.tables e below (s₁.setTop (mkF m 9 #[.val (.long q0), .second, .val (.long q1), .second] [(.int (1 : Int32))])) _
          refine XS.goto X0.here hx rfl (pc0 := 9) (pc' := 13) rfl (hb hby d1_9) (by decide) (by decide) ?_
          exact k)
      exact ⟨_, _, (1 : Int32), X0, e0, N0, (by first | (rw [if_pos hc2]; done) | simp only [if_pos hc2] | simp [if_pos hc2]), pre3⟩
    · have pre4 : ∀ t, Steps p.tables e below (s₁.setTop (mkF m 13 #[.val (.long q0), .second, .val (.long q1), .second] [(.int (0 : Int32))])) t → P t := fun t k => pre1 t (by
          show Steps p.tables e below (s₁.setTop (mkF m 5 #[.val (.long q0), .second, .val (.long q1), .second] [(.int (lcmpW (q0 * q0) q1))])) _
          refine XS.ifYes X0.here hx rfl (pc0 := 5) (pc' := 12) rfl (hb hby d1_5) rfl ((if0 _ _).trans (flt (fun q => hc2 ((lw_gt _ _).mp q))).2.2.2) (by decide) (by decide) ?_
          show Steps p.tables e below (s₁.setTop (mkF m 12 #[.val (.long q0), .second, .val (.long q1), .second] [])) _
          refine XS.iconst X0.here hx rfl (hb hby d1_12) ?_
          exact k)
      exact ⟨_, _, (0 : Int32), X0, e0, N0, (by first | (rw [if_neg hc2]; done) | simp only [if_neg hc2] | simp [if_neg hc2]), pre4⟩
  obtain ⟨fs, hr, hrun, hended, hW, hsame⟩ := X6.leave (v := some (.int v5)) (fun h => by rw [Bd.returns] at h; cases h)
  refine ⟨_, _, fin _ (pre6 _ ?_), hrun, hended, _, _, rfl, ?_, ⟨_, rfl⟩, hW, hsame.mono (by decide) (by decide)⟩
  · show Steps p.tables e below (T6.setTop (mkF m 13 #[.val (.long q0), .second, .val (.long q1), .second] [(.int v5)])) _
    have hnar : nar .boolean v5 = v5 := by subst hv5; first | rfl | (split <;> rfl) | ((try simp only []); (repeat' split) <;> rfl)
    exact retN X6 hx (t := .boolean) Bd.returns (by simp) (hb hby d1_13) (by rw [hnar]; exact hr)
  · show Q1 Z q0 q1 h0 n0 _ T6.heap _
    rw [e6]
    exact ⟨(by subst hv5; first | rfl | simp only [own_f1]), N6, rfl⟩
theorem d2_0 : decode method_2_code 0 = .ok (.lload_n 0, 1) := by decide +kernel
theorem d2_1 : decode method_2_code 1 = .ok (.lconst 0, 1) := by decide +kernel
theorem d2_2 : decode method_2_code 2 = .ok (.lcmp, 1) := by decide +kernel
theorem d2_3 : decode method_2_code 3 = .ok (.ifCond .ne 5, 3) := by decide +kernel
theorem d2_6 : decode method_2_code 6 = .ok (.iconst 0, 1) := by decide +kernel
theorem d2_7 : decode method_2_code 7 = .ok (.ireturn, 1) := by decide +kernel
theorem d2_8 : decode method_2_code 8 = .ok (.lload_n 0, 1) := by decide +kernel
theorem d2_9 : decode method_2_code 9 = .ok (.lload_n 2, 1) := by decide +kernel
theorem d2_10 : decode method_2_code 10 = .ok (.lload_n 0, 1) := by decide +kernel
theorem d2_11 : decode method_2_code 11 = .ok (.ldiv, 1) := by decide +kernel
theorem d2_12 : decode method_2_code 12 = .ok (.lcmp, 1) := by decide +kernel
theorem d2_13 : decode method_2_code 13 = .ok (.ifCond .le 7, 3) := by decide +kernel
theorem d2_16 : decode method_2_code 16 = .ok (.iconst 1, 1) := by decide +kernel
theorem d2_17 : decode method_2_code 17 = .ok (.goto 4, 3) := by decide +kernel
theorem d2_20 : decode method_2_code 20 = .ok (.iconst 0, 1) := by decide +kernel
theorem d2_21 : decode method_2_code 21 = .ok (.ireturn, 1) := by decide +kernel
theorem pn_2 : plainName "com/example/evolvent/evolvent/LayeredMapFoldsPinLaw" = true := by first | (simp [plainName, overriddenIn]; done) | decide +kernel
theorem ef_2 (m : MethodId) (q0 : Int64) (q1 : Int64) : entryFrame m #[(.long q0), (.long q1)] 4 = mkF m 0 #[.val (.long q0), .second, .val (.long q1), .second] [] := by first | (simp [entryFrame, mkF, argsToLocals, Value.category]; done) | rfl
def own_f2 (q0 : Int64) (q1 : Int64) : Int32 := (if q0 = (0 : Int64) then (0 : Int32) else (if (q1 / q0) < q0 then (1 : Int32) else (0 : Int32)))
def Q2 (Z : State) (q0 : Int64) (q1 : Int64) (h0 : Heap) (n0 : Nat) (v : Option Value) (h : Heap) (L : List Loc) : Prop := v = some (.int (own_f2 q0 q1)) ∧ Fr n0 L ∧ h = h0
set_option maxRecDepth 65536 in
set_option maxHeartbeats 40000000 in
theorem rm2 (l : Launch) (Z : State) (a0 : Array Value) (hw : ∀ d ∈ tables_1, d.before a0 Z = true) (ws : List Jvm.Cond) (q0 : Int64) (q1 : Int64) (h0 : Heap) (n0 : Nat) (Z0 : n0 ≤ h0.size) :
    MetFree l (⟨"com/example/evolvent/evolvent/LayeredMapFoldsPinLaw", "outgrowsRoot", "(JJ)Z"⟩ : MethodName) (head1 (Jvm.Cond.code (⟨"com/example/evolvent/evolvent/LayeredMapFoldsPinLaw", "outgrowsRoot", "(JJ)Z"⟩ : MethodName) method_2_code 4 (some .boolean) :: ws) ({ frames := 0, cells := 0, slots := 0, locals := 0 } : Room)) (fun a U => a = #[(.long q0), (.long q1)] ∧ Z.Warmed39 U.vm ∧ U.heap = h0) (fun _ _ _ _ _ => True) (fun _ U o U' => ∃ v L, o = .returned v ∧ Q2 Z q0 q1 h0 n0 v U'.heap L ∧ FrameEnd U o U' L ({ frames := 0, cells := 0, slots := 0, locals := 0 } : Room).cells ({ frames := 0, cells := 0, slots := 0, locals := 0 } : Room).slots) := by
  refine MetFree.of_bodySF (plainFor_of_name pn_2) hisR ?_
  intro p e s m args below meth c s₁ Bd hml0 hP hK
  obtain ⟨rfl, hZ, hh⟩ := hP
  have hx := Bd.exec
  have hby := Bd.bytes
  have hml : c.maxLocals = 4 := hml0
  have hown : s.vm.findClass "com/example/evolvent/evolvent/LayeredMapFoldsPinLaw" = some m.cls := findClass_of_methodNamed Bd.named
  have hnm := (name_of_methodNamed Bd.named Bd.method).1
  have X0 : Stand p l e ({ frames := 0, cells := 0, slots := 0, locals := 0 } : Room) s m #[(.long q0), (.long q1)] below meth c s₁ [] 0 0 := Stand.of_body Bd
  have e0 : s₁.heap = h0 := by rw [← hh, Bd.state]; rfl
  have N0 := Fr.nil n0
  obtain ⟨P, pre0, fin⟩ : ∃ P : State → Prop, (∀ t, Steps p.tables e below (s₁.setTop (mkF m 0 #[.val (.long q0), .second, .val (.long q1), .second] [])) t → P t) ∧ (∀ t, P t → Steps p.tables e below (s₁.setTop (entryFrame m #[(.long q0), (.long q1)] 4)) t) := ⟨fun t => Steps p.tables e below (s₁.setTop (entryFrame m #[(.long q0), (.long q1)] 4)) t, fun t k => castTop (ef_2 m q0 q1) k, fun t k => k⟩
  have K0 : Keep h0 h0 [] := Keep.refl _ _
  have pre1 : ∀ t, Steps p.tables e below (s₁.setTop (mkF m 3 #[.val (.long q0), .second, .val (.long q1), .second] [(.int (lcmpW q0 (0 : Int64)))])) t → P t := fun t k => pre0 t (by
      show Steps p.tables e below (s₁.setTop (mkF m 0 #[.val (.long q0), .second, .val (.long q1), .second] [])) _
      refine XS.lloadN X0.here hx rfl (hb hby d2_0) rfl ?_
      show Steps p.tables e below (s₁.setTop (mkF m 1 #[.val (.long q0), .second, .val (.long q1), .second] [(.long q0)])) _
      refine XS.lconst X0.here hx rfl (hb hby d2_1) ?_
      show Steps p.tables e below (s₁.setTop (mkF m 2 #[.val (.long q0), .second, .val (.long q1), .second] [(.long (0 : Int64)), (.long q0)])) _
      refine XS.lcmp X0.here hx rfl (hb hby d2_2) rfl ?_
      exact k)
  by_cases hc2 : q0 = (0 : Int64)
  · have pre3 : ∀ t, Steps p.tables e below (s₁.setTop (mkF m 7 #[.val (.long q0), .second, .val (.long q1), .second] [(.int (0 : Int32))])) t → P t := fun t k => pre1 t (by
        show Steps p.tables e below (s₁.setTop (mkF m 3 #[.val (.long q0), .second, .val (.long q1), .second] [(.int (lcmpW q0 (0 : Int64)))])) _
        refine XS.ifNo X0.here hx rfl (hb hby d2_3) rfl ((if0 _ _).trans (teq ((lw_eq _ _).mpr hc2)).2) ?_
        show Steps p.tables e below (s₁.setTop (mkF m 6 #[.val (.long q0), .second, .val (.long q1), .second] [])) _
        refine XS.iconst X0.here hx rfl (hb hby d2_6) ?_
        exact k)
    obtain ⟨fs, hr, hrun, hended, hW, hsame⟩ := X0.leave (v := some (.int (0 : Int32))) (fun h => by rw [Bd.returns] at h; cases h)
    refine ⟨_, _, fin _ (pre3 _ ?_), hrun, hended, _, _, rfl, ?_, ⟨_, rfl⟩, hW, hsame.mono (by decide) (by decide)⟩
    · show Steps p.tables e below (s₁.setTop (mkF m 7 #[.val (.long q0), .second, .val (.long q1), .second] [(.int (0 : Int32))])) _
      exact retN X0 hx (t := .boolean) Bd.returns (by simp) (hb hby d2_7) hr
    · show Q2 Z q0 q1 h0 n0 _ s₁.heap _
      rw [e0]
      exact ⟨(by first | (unfold own_f2; rw [if_pos hc2]; done) | simp only [own_f2, if_pos hc2] | simp [own_f2, if_pos hc2]), N0, rfl⟩
  · have pre4 : ∀ t, Steps p.tables e below (s₁.setTop (mkF m 13 #[.val (.long q0), .second, .val (.long q1), .second] [(.int (lcmpW q0 (q1 / q0)))])) t → P t := fun t k => pre1 t (by
        show Steps p.tables e below (s₁.setTop (mkF m 3 #[.val (.long q0), .second, .val (.long q1), .second] [(.int (lcmpW q0 (0 : Int64)))])) _
        refine XS.ifYes X0.here hx rfl (pc0 := 3) (pc' := 8) rfl (hb hby d2_3) rfl ((if0 _ _).trans (feq (fun q => hc2 ((lw_eq _ _).mp q))).2) (by decide) (by decide) ?_
        show Steps p.tables e below (s₁.setTop (mkF m 8 #[.val (.long q0), .second, .val (.long q1), .second] [])) _
        refine XS.lloadN X0.here hx rfl (hb hby d2_8) rfl ?_
        show Steps p.tables e below (s₁.setTop (mkF m 9 #[.val (.long q0), .second, .val (.long q1), .second] [(.long q0)])) _
        refine XS.lloadN X0.here hx rfl (hb hby d2_9) rfl ?_
        show Steps p.tables e below (s₁.setTop (mkF m 10 #[.val (.long q0), .second, .val (.long q1), .second] [(.long q1), (.long q0)])) _
        refine XS.lloadN X0.here hx rfl (hb hby d2_10) rfl ?_
        show Steps p.tables e below (s₁.setTop (mkF m 11 #[.val (.long q0), .second, .val (.long q1), .second] [(.long q0), (.long q1), (.long q0)])) _
        refine XS.ldiv X0.here hx rfl (hb hby d2_11) rfl hc2 ?_
        show Steps p.tables e below (s₁.setTop (mkF m 12 #[.val (.long q0), .second, .val (.long q1), .second] [(.long (q1 / q0)), (.long q0)])) _
        refine XS.lcmp X0.here hx rfl (hb hby d2_12) rfl ?_
        exact k)
    obtain ⟨T9, L9, v8, X9, e9, N9, hv8, pre9⟩ : ∃ (T' : State) (L' : List Loc) (v8 : Int32), Stand p l e ({ frames := 0, cells := 0, slots := 0, locals := 0 } : Room) s m #[(.long q0), (.long q1)] below meth c T' L' 0 0 ∧ T'.heap = h0 ∧ Fr n0 L' ∧ v8 = (if (q1 / q0) < q0 then (1 : Int32) else (0 : Int32)) ∧ (∀ t, Steps p.tables e below (T'.setTop (mkF m 21 #[.val (.long q0), .second, .val (.long q1), .second] [(.int v8)])) t → P t) := by
      by_cases hc5 : (q1 / q0) < q0
      · have pre6 : ∀ t, Steps p.tables e below (s₁.setTop (mkF m 21 #[.val (.long q0), .second, .val (.long q1), .second] [(.int (1 : Int32))])) t → P t := fun t k => pre4 t (by
            show Steps p.tables e below (s₁.setTop (mkF m 13 #[.val (.long q0), .second, .val (.long q1), .second] [(.int (lcmpW q0 (q1 / q0)))])) _
            refine XS.ifNo X0.here hx rfl (hb hby d2_13) rfl ((if0 _ _).trans (tlt ((lw_gt _ _).mpr hc5)).2.2.2) ?_
            show Steps p.tables e below (s₁.setTop (mkF m 16 #[.val (.long q0), .second, .val (.long q1), .second] [])) _
            refine XS.iconst X0.here hx rfl (hb hby d2_16) ?_
            show Steps p.tables e below (s₁.setTop (mkF m 17 #[.val (.long q0), .second, .val (.long q1), .second] [(.int (1 : Int32))])) _
            refine XS.goto X0.here hx rfl (pc0 := 17) (pc' := 21) rfl (hb hby d2_17) (by decide) (by decide) ?_
            exact k)
        exact ⟨_, _, (1 : Int32), X0, e0, N0, (by first | (rw [if_pos hc5]; done) | simp only [if_pos hc5] | simp [if_pos hc5]), pre6⟩
      · have pre7 : ∀ t, Steps p.tables e below (s₁.setTop (mkF m 21 #[.val (.long q0), .second, .val (.long q1), .second] [(.int (0 : Int32))])) t → P t := fun t k => pre4 t (by
            show Steps p.tables e below (s₁.setTop (mkF m 13 #[.val (.long q0), .second, .val (.long q1), .second] [(.int (lcmpW q0 (q1 / q0)))])) _
            refine XS.ifYes X0.here hx rfl (pc0 := 13) (pc' := 20) rfl (hb hby d2_13) rfl ((if0 _ _).trans (flt (fun q => hc5 ((lw_gt _ _).mp q))).2.2.2) (by decide) (by decide) ?_
            show Steps p.tables e below (s₁.setTop (mkF m 20 #[.val (.long q0), .second, .val (.long q1), .second] [])) _
            refine XS.iconst X0.here hx rfl (hb hby d2_20) ?_
            exact k)
        exact ⟨_, _, (0 : Int32), X0, e0, N0, (by first | (rw [if_neg hc5]; done) | simp only [if_neg hc5] | simp [if_neg hc5]), pre7⟩
    obtain ⟨fs, hr, hrun, hended, hW, hsame⟩ := X9.leave (v := some (.int v8)) (fun h => by rw [Bd.returns] at h; cases h)
    refine ⟨_, _, fin _ (pre9 _ ?_), hrun, hended, _, _, rfl, ?_, ⟨_, rfl⟩, hW, hsame.mono (by decide) (by decide)⟩
    · show Steps p.tables e below (T9.setTop (mkF m 21 #[.val (.long q0), .second, .val (.long q1), .second] [(.int v8)])) _
      have hnar : nar .boolean v8 = v8 := by subst hv8; first | rfl | (split <;> rfl) | ((try simp only []); (repeat' split) <;> rfl)
      exact retN X9 hx (t := .boolean) Bd.returns (by simp) (hb hby d2_21) (by rw [hnar]; exact hr)
    · show Q2 Z q0 q1 h0 n0 _ T9.heap _
      rw [e9]
      exact ⟨(by subst hv8; first | (unfold own_f2; rw [if_neg hc2]; done) | simp only [own_f2, if_neg hc2] | simp [own_f2, if_neg hc2]), N9, rfl⟩
theorem own_pd0 : parseMethodDescriptor "(JJ)Z" = some ⟨[.long, .long], some .boolean⟩ := by decide +kernel
theorem pn_0 : plainName "com/example/evolvent/evolvent/LayeredMapFoldsPinLaw" = true := by first | (simp [plainName, overriddenIn]; done) | decide +kernel
theorem ef_0 (m : MethodId) (q0 : Int64) (q1 : Int64) : entryFrame m #[(.long q0), (.long q1)] maxLocals = mkF m 0 #[.val (.long q0), .second, .val (.long q1), .second, .unset, .unset, .unset, .unset, .unset, .unset, .unset] [] := by first | (simp [entryFrame, mkF, argsToLocals, Value.category, maxLocals]; done) | rfl
def own_f0 (q0 : Int64) (q1 : Int64) : Int32 := (let v2 : Int64 := (q0 &&& (2147483647 : Int64)); (let v5 : Int64 := (q1 &&& (2147483647 : Int64)); (let v9 : Int32 := (own_f1 v2 v5); (let v13 : Int32 := (own_f2 v2 v5); (let v18 : Int32 := (if v9 = v13 then (1 : Int32) else (0 : Int32)); (let v21 : Int64 := (v2 * v2); (let v33 : Int32 := (if v18 = (0 : Int32) then (0 : Int32) else (let v28 : Int32 := (own_f1 v2 v21); (if v28 = (0 : Int32) then (1 : Int32) else (0 : Int32)))); (if v2 < (1 : Int64) then v33 else (if v33 = (0 : Int32) then (0 : Int32) else (let v43 : Int32 := (own_f1 v2 (v21 - (1 : Int64))); (if v43 = (0 : Int32) then (0 : Int32) else (1 : Int32))))))))))))
def Q0 (Z : State) (q0 : Int64) (q1 : Int64) (h0 : Heap) (n0 : Nat) (v : Option Value) (h : Heap) (L : List Loc) : Prop := v = some (.int (own_f0 q0 q1)) ∧ Fr n0 L
set_option maxRecDepth 65536 in
set_option maxHeartbeats 40000000 in
theorem rm0 (l : Launch) (Z : State) (a0 : Array Value) (hw : ∀ d ∈ tables_1, d.before a0 Z = true) (ws : List Jvm.Cond) (q0 : Int64) (q1 : Int64) (h0 : Heap) (n0 : Nat) (Z0 : n0 ≤ h0.size) :
    MetFree l x (head1 (Jvm.Cond.code x code maxLocals ret :: ws) room_1) (fun a U => a = #[(.long q0), (.long q1)] ∧ Z.Warmed39 U.vm ∧ U.heap = h0) (fun _ _ _ _ _ => True) (fun _ U o U' => ∃ v L, o = .returned v ∧ Q0 Z q0 q1 h0 n0 v U'.heap L ∧ FrameEnd U o U' L room_1.cells room_1.slots) := by
  refine MetFree.of_bodySF (plainFor_of_name pn_0) hisR ?_
  intro p e s m args below meth c s₁ Bd hml0 hP hK
  obtain ⟨rfl, hZ, hh⟩ := hP
  have hx := Bd.exec
  have hby := Bd.bytes
  have hml : c.maxLocals = 11 := hml0
  have hown : s.vm.findClass "com/example/evolvent/evolvent/LayeredMapFoldsPinLaw" = some m.cls := findClass_of_methodNamed Bd.named
  have hnm := (name_of_methodNamed Bd.named Bd.method).1
  have X0 : Stand p l e room_1 s m #[(.long q0), (.long q1)] below meth c s₁ [] 0 0 := Stand.of_body Bd
  have e0 : s₁.heap = h0 := by rw [← hh, Bd.state]; rfl
  have N0 := Fr.nil n0
  obtain ⟨P, pre0, fin⟩ : ∃ P : State → Prop, (∀ t, Steps p.tables e below (s₁.setTop (mkF m 0 #[.val (.long q0), .second, .val (.long q1), .second, .unset, .unset, .unset, .unset, .unset, .unset, .unset] [])) t → P t) ∧ (∀ t, P t → Steps p.tables e below (s₁.setTop (entryFrame m #[(.long q0), (.long q1)] maxLocals)) t) := ⟨fun t => Steps p.tables e below (s₁.setTop (entryFrame m #[(.long q0), (.long q1)] maxLocals)) t, fun t k => castTop (ef_0 m q0 q1) k, fun t k => k⟩
  have K0 : Keep h0 h0 [] := Keep.refl _ _
  have pre1 : ∀ t, Steps p.tables e below (s₁.setTop (mkF m 7 #[.val (.long q0), .second, .val (.long q1), .second, .val (.long (q0 &&& (2147483647 : Int64))), .second, .unset, .unset, .unset, .unset, .unset] [])) t → P t := fun t k => pre0 t (by
      show Steps p.tables e below (s₁.setTop (mkF m 0 #[.val (.long q0), .second, .val (.long q1), .second, .unset, .unset, .unset, .unset, .unset, .unset, .unset] [])) _
      refine XS.lloadN X0.here hx rfl (hb hby at_0) rfl ?_
      show Steps p.tables e below (s₁.setTop (mkF m 1 #[.val (.long q0), .second, .val (.long q1), .second, .unset, .unset, .unset, .unset, .unset, .unset, .unset] [(.long q0)])) _
      refine X0.ldc2Long hx hown (mvT hZ (hw _ (List.mem_of_getElem? (i := 0) rfl))) (g := (mkF m 1 #[.val (.long q0), .second, .val (.long q1), .second, .unset, .unset, .unset, .unset, .unset, .unset, .unset] [(.long q0)])) rfl (hb hby at_1) _ ?_
      show Steps p.tables e below (s₁.setTop (mkF m 4 #[.val (.long q0), .second, .val (.long q1), .second, .unset, .unset, .unset, .unset, .unset, .unset, .unset] [(.long (2147483647 : Int64)), (.long q0)])) _
      refine XS.land X0.here hx rfl (hb hby at_4) rfl ?_
      show Steps p.tables e below (s₁.setTop (mkF m 5 #[.val (.long q0), .second, .val (.long q1), .second, .unset, .unset, .unset, .unset, .unset, .unset, .unset] [(.long (q0 &&& (2147483647 : Int64)))])) _
      refine XS.lstore X0.here hx rfl (hb hby at_5) rfl (l' := #[.val (.long q0), .second, .val (.long q1), .second, .val (.long (q0 &&& (2147483647 : Int64))), .second, .unset, .unset, .unset, .unset, .unset]) rfl ?_
      exact k)
  obtain ⟨v2, hv2⟩ : ∃ z : Int64, z = (q0 &&& (2147483647 : Int64)) := ⟨_, rfl⟩
  have pre3 : ∀ t, Steps p.tables e below (s₁.setTop (mkF m 7 #[.val (.long q0), .second, .val (.long q1), .second, .val (.long v2), .second, .unset, .unset, .unset, .unset, .unset] [])) t → P t := fun t k => pre1 t (by subst hv2; exact k)
  have pre4 : ∀ t, Steps p.tables e below (s₁.setTop (mkF m 14 #[.val (.long q0), .second, .val (.long q1), .second, .val (.long v2), .second, .val (.long (q1 &&& (2147483647 : Int64))), .second, .unset, .unset, .unset] [])) t → P t := fun t k => pre3 t (by
      show Steps p.tables e below (s₁.setTop (mkF m 7 #[.val (.long q0), .second, .val (.long q1), .second, .val (.long v2), .second, .unset, .unset, .unset, .unset, .unset] [])) _
      refine XS.lloadN X0.here hx rfl (hb hby at_7) rfl ?_
      show Steps p.tables e below (s₁.setTop (mkF m 8 #[.val (.long q0), .second, .val (.long q1), .second, .val (.long v2), .second, .unset, .unset, .unset, .unset, .unset] [(.long q1)])) _
      refine X0.ldc2Long hx hown (mvT hZ (hw _ (List.mem_of_getElem? (i := 0) rfl))) (g := (mkF m 8 #[.val (.long q0), .second, .val (.long q1), .second, .val (.long v2), .second, .unset, .unset, .unset, .unset, .unset] [(.long q1)])) rfl (hb hby at_8) _ ?_
      show Steps p.tables e below (s₁.setTop (mkF m 11 #[.val (.long q0), .second, .val (.long q1), .second, .val (.long v2), .second, .unset, .unset, .unset, .unset, .unset] [(.long (2147483647 : Int64)), (.long q1)])) _
      refine XS.land X0.here hx rfl (hb hby at_11) rfl ?_
      show Steps p.tables e below (s₁.setTop (mkF m 12 #[.val (.long q0), .second, .val (.long q1), .second, .val (.long v2), .second, .unset, .unset, .unset, .unset, .unset] [(.long (q1 &&& (2147483647 : Int64)))])) _
      refine XS.lstore X0.here hx rfl (hb hby at_12) rfl (l' := #[.val (.long q0), .second, .val (.long q1), .second, .val (.long v2), .second, .val (.long (q1 &&& (2147483647 : Int64))), .second, .unset, .unset, .unset]) rfl ?_
      exact k)
  obtain ⟨v5, hv5⟩ : ∃ z : Int64, z = (q1 &&& (2147483647 : Int64)) := ⟨_, rfl⟩
  have pre6 : ∀ t, Steps p.tables e below (s₁.setTop (mkF m 14 #[.val (.long q0), .second, .val (.long q1), .second, .val (.long v2), .second, .val (.long v5), .second, .unset, .unset, .unset] [])) t → P t := fun t k => pre4 t (by subst hv5; exact k)
  have pre7 : ∀ t, Steps p.tables e below (s₁.setTop (mkF m 18 #[.val (.long q0), .second, .val (.long q1), .second, .val (.long v2), .second, .val (.long v5), .second, .unset, .unset, .unset] [(.long v5), (.long v2)])) t → P t := fun t k => pre6 t (by
      show Steps p.tables e below (s₁.setTop (mkF m 14 #[.val (.long q0), .second, .val (.long q1), .second, .val (.long v2), .second, .val (.long v5), .second, .unset, .unset, .unset] [])) _
      refine XS.lload X0.here hx rfl (hb hby at_14) rfl ?_
      show Steps p.tables e below (s₁.setTop (mkF m 16 #[.val (.long q0), .second, .val (.long q1), .second, .val (.long v2), .second, .val (.long v5), .second, .unset, .unset, .unset] [(.long v2)])) _
      refine XS.lload X0.here hx rfl (hb hby at_16) rfl ?_
      exact k)
  obtain ⟨_, _, ⟨T8, L8, k8, n8⟩, -, X8, ⟨Lc8, hQ8, l8, y8, z8⟩, st8⟩ := Jvm.LawKit.callS X0 hx (y := (⟨"com/example/evolvent/evolvent/LayeredMap", "folds", "(JJ)Z"⟩ : MethodName)) hown (mvT hZ (hw _ (List.mem_of_getElem? (i := 1) rfl))) (mvT hZ (hw _ (List.mem_of_getElem? (i := 2) rfl))) (mvT hZ (hw _ (List.mem_of_getElem? (i := 3) rfl))) (mvT hZ (hw _ (List.mem_of_getElem? (i := 4) rfl))) (by decide) (backOf (W := 0) (rm1 l Z a0 hw [] v2 v5 h0 n0 Z0 ) hZ (hw _ (List.mem_of_getElem? (i := 4) rfl)) (hw _ (List.mem_of_getElem? (i := 3) rfl)) (by decide) (by decide)) (g := (mkF m 18 #[.val (.long q0), .second, .val (.long q1), .second, .val (.long v2), .second, .val (.long v5), .second, .unset, .unset, .unset] [(.long v5), (.long v2)])) rfl (by rw [hml]; rfl) (argsL := [(.long v2), (.long v5)]) (rest := []) (lenOf own_pd0 rfl) rfl (by show 2 * 0 + _ ≤ _; exact Nat.le_of_eq rfl) (hb hby at_18) (fun _ _ => ⟨rfl, e0, (by decide : 0 + 0 ≤ _), (by decide : 0 + 0 ≤ _)⟩)
  dsimp only [Pt.U, Pt.locs, Pt.cells, Pt.slots] at X8 l8 y8 z8 st8 hQ8
  subst l8 y8 z8
  obtain ⟨rfl, N8q, e8⟩ := hQ8
  have N8 := Fr.app N0 N8q
  have pre8 : ∀ t, Steps p.tables e below (T8.setTop (mkF m 21 #[.val (.long q0), .second, .val (.long q1), .second, .val (.long v2), .second, .val (.long v5), .second, .unset, .unset, .unset] [(.int (own_f1 v2 v5))])) t → P t := fun t k => pre7 t (st8 _ k)
  obtain ⟨v9, hv9⟩ : ∃ z : Int32, z = (own_f1 v2 v5) := ⟨_, rfl⟩
  have pre10 : ∀ t, Steps p.tables e below (T8.setTop (mkF m 21 #[.val (.long q0), .second, .val (.long q1), .second, .val (.long v2), .second, .val (.long v5), .second, .unset, .unset, .unset] [(.int v9)])) t → P t := fun t k => pre8 t (by subst hv9; exact k)
  have pre11 : ∀ t, Steps p.tables e below (T8.setTop (mkF m 25 #[.val (.long q0), .second, .val (.long q1), .second, .val (.long v2), .second, .val (.long v5), .second, .unset, .unset, .unset] [(.long v5), (.long v2), (.int v9)])) t → P t := fun t k => pre10 t (by
      show Steps p.tables e below (T8.setTop (mkF m 21 #[.val (.long q0), .second, .val (.long q1), .second, .val (.long v2), .second, .val (.long v5), .second, .unset, .unset, .unset] [(.int v9)])) _
      refine XS.lload X8.here hx rfl (hb hby at_21) rfl ?_
      show Steps p.tables e below (T8.setTop (mkF m 23 #[.val (.long q0), .second, .val (.long q1), .second, .val (.long v2), .second, .val (.long v5), .second, .unset, .unset, .unset] [(.long v2), (.int v9)])) _
      refine XS.lload X8.here hx rfl (hb hby at_23) rfl ?_
      exact k)
  obtain ⟨_, _, ⟨T12, L12, k12, n12⟩, -, X12, ⟨Lc12, hQ12, l12, y12, z12⟩, st12⟩ := Jvm.LawKit.callS X8 hx (y := (⟨"com/example/evolvent/evolvent/LayeredMapFoldsPinLaw", "outgrowsRoot", "(JJ)Z"⟩ : MethodName)) hown (mvT hZ (hw _ (List.mem_of_getElem? (i := 5) rfl))) (mvT hZ (hw _ (List.mem_of_getElem? (i := 6) rfl))) (mvT hZ (hw _ (List.mem_of_getElem? (i := 7) rfl))) (mvT hZ (hw _ (List.mem_of_getElem? (i := 8) rfl))) (by decide) (backOf (W := 1) (rm2 l Z a0 hw [] v2 v5 h0 n0 Z0 ) hZ (hw _ (List.mem_of_getElem? (i := 8) rfl)) (hw _ (List.mem_of_getElem? (i := 7) rfl)) (by decide) (by decide)) (g := (mkF m 25 #[.val (.long q0), .second, .val (.long q1), .second, .val (.long v2), .second, .val (.long v5), .second, .unset, .unset, .unset] [(.long v5), (.long v2), (.int v9)])) rfl (by rw [hml]; rfl) (argsL := [(.long v2), (.long v5)]) (rest := [(.int v9)]) (lenOf own_pd0 rfl) rfl (by show 2 * 0 + _ ≤ _; exact Nat.le_of_eq rfl) (hb hby at_25) (fun _ _ => ⟨rfl, e8, (by decide : 0 + 0 ≤ _), (by decide : 0 + 0 ≤ _)⟩)
  dsimp only [Pt.U, Pt.locs, Pt.cells, Pt.slots] at X12 l12 y12 z12 st12 hQ12
  subst l12 y12 z12
  obtain ⟨rfl, N12q, e12⟩ := hQ12
  have N12 := Fr.app N8 N12q
  have pre12 : ∀ t, Steps p.tables e below (T12.setTop (mkF m 28 #[.val (.long q0), .second, .val (.long q1), .second, .val (.long v2), .second, .val (.long v5), .second, .unset, .unset, .unset] [(.int (own_f2 v2 v5)), (.int v9)])) t → P t := fun t k => pre11 t (st12 _ k)
  obtain ⟨v13, hv13⟩ : ∃ z : Int32, z = (own_f2 v2 v5) := ⟨_, rfl⟩
  have pre14 : ∀ t, Steps p.tables e below (T12.setTop (mkF m 28 #[.val (.long q0), .second, .val (.long q1), .second, .val (.long v2), .second, .val (.long v5), .second, .unset, .unset, .unset] [(.int v13), (.int v9)])) t → P t := fun t k => pre12 t (by subst hv13; exact k)
  obtain ⟨T19, L19, v18, X19, e19, N19, hv18, pre19⟩ : ∃ (T' : State) (L' : List Loc) (v18 : Int32), Stand p l e room_1 s m #[(.long q0), (.long q1)] below meth c T' L' 0 0 ∧ T'.heap = h0 ∧ Fr n0 L' ∧ v18 = (if v9 = v13 then (1 : Int32) else (0 : Int32)) ∧ (∀ t, Steps p.tables e below (T'.setTop (mkF m 36 #[.val (.long q0), .second, .val (.long q1), .second, .val (.long v2), .second, .val (.long v5), .second, .unset, .unset, .unset] [(.int v18)])) t → P t) := by
    by_cases hc15 : v9 = v13
    · have pre16 : ∀ t, Steps p.tables e below (T12.setTop (mkF m 36 #[.val (.long q0), .second, .val (.long q1), .second, .val (.long v2), .second, .val (.long v5), .second, .unset, .unset, .unset] [(.int (1 : Int32))])) t → P t := fun t k => pre14 t (by
          show Steps p.tables e below (T12.setTop (mkF m 28 #[.val (.long q0), .second, .val (.long q1), .second, .val (.long v2), .second, .val (.long v5), .second, .unset, .unset, .unset] [(.int v13), (.int v9)])) _
          refine XS.icmpNo X12.here hx rfl (hb hby at_28) rfl (teq hc15).2 ?_
          show Steps p.tables e below (T12.setTop (mkF m 31 #[.val (.long q0), .second, .val (.long q1), .second, .val (.long v2), .second, .val (.long v5), .second, .unset, .unset, .unset] [])) _
          refine XS.iconst X12.here hx rfl (hb hby at_31) ?_
          show Steps p.tables e below (T12.setTop (mkF m 32 #[.val (.long q0), .second, .val (.long q1), .second, .val (.long v2), .second, .val (.long v5), .second, .unset, .unset, .unset] [(.int (1 : Int32))])) _
          refine XS.goto X12.here hx rfl (pc0 := 32) (pc' := 36) rfl (hb hby at_32) (by decide) (by decide) ?_
          exact k)
      exact ⟨_, _, (1 : Int32), X12, e12, N12, (by first | (rw [if_pos hc15]; done) | simp only [if_pos hc15] | simp [if_pos hc15]), pre16⟩
    · have pre17 : ∀ t, Steps p.tables e below (T12.setTop (mkF m 36 #[.val (.long q0), .second, .val (.long q1), .second, .val (.long v2), .second, .val (.long v5), .second, .unset, .unset, .unset] [(.int (0 : Int32))])) t → P t := fun t k => pre14 t (by
          show Steps p.tables e below (T12.setTop (mkF m 28 #[.val (.long q0), .second, .val (.long q1), .second, .val (.long v2), .second, .val (.long v5), .second, .unset, .unset, .unset] [(.int v13), (.int v9)])) _
          refine XS.icmpYes X12.here hx rfl (pc0 := 28) (pc' := 35) rfl (hb hby at_28) rfl (feq hc15).2 (by decide) (by decide) ?_
          show Steps p.tables e below (T12.setTop (mkF m 35 #[.val (.long q0), .second, .val (.long q1), .second, .val (.long v2), .second, .val (.long v5), .second, .unset, .unset, .unset] [])) _
          refine XS.iconst X12.here hx rfl (hb hby at_35) ?_
          exact k)
      exact ⟨_, _, (0 : Int32), X12, e12, N12, (by first | (rw [if_neg hc15]; done) | simp only [if_neg hc15] | simp [if_neg hc15]), pre17⟩
  have pre20 : ∀ t, Steps p.tables e below (T19.setTop (mkF m 45 #[.val (.long q0), .second, .val (.long q1), .second, .val (.long v2), .second, .val (.long v5), .second, .val (.int v18), .val (.long (v2 * v2)), .second] [])) t → P t := fun t k => pre19 t (by
      show Steps p.tables e below (T19.setTop (mkF m 36 #[.val (.long q0), .second, .val (.long q1), .second, .val (.long v2), .second, .val (.long v5), .second, .unset, .unset, .unset] [(.int v18)])) _
      refine XS.istore X19.here hx rfl (hb hby at_36) rfl (l' := #[.val (.long q0), .second, .val (.long q1), .second, .val (.long v2), .second, .val (.long v5), .second, .val (.int v18), .unset, .unset]) rfl ?_
      show Steps p.tables e below (T19.setTop (mkF m 38 #[.val (.long q0), .second, .val (.long q1), .second, .val (.long v2), .second, .val (.long v5), .second, .val (.int v18), .unset, .unset] [])) _
      refine XS.lload X19.here hx rfl (hb hby at_38) rfl ?_
      show Steps p.tables e below (T19.setTop (mkF m 40 #[.val (.long q0), .second, .val (.long q1), .second, .val (.long v2), .second, .val (.long v5), .second, .val (.int v18), .unset, .unset] [(.long v2)])) _
      refine XS.lload X19.here hx rfl (hb hby at_40) rfl ?_
      show Steps p.tables e below (T19.setTop (mkF m 42 #[.val (.long q0), .second, .val (.long q1), .second, .val (.long v2), .second, .val (.long v5), .second, .val (.int v18), .unset, .unset] [(.long v2), (.long v2)])) _
      refine XS.lmul X19.here hx rfl (hb hby at_42) rfl ?_
      show Steps p.tables e below (T19.setTop (mkF m 43 #[.val (.long q0), .second, .val (.long q1), .second, .val (.long v2), .second, .val (.long v5), .second, .val (.int v18), .unset, .unset] [(.long (v2 * v2))])) _
      refine XS.lstore X19.here hx rfl (hb hby at_43) rfl (l' := #[.val (.long q0), .second, .val (.long q1), .second, .val (.long v2), .second, .val (.long v5), .second, .val (.int v18), .val (.long (v2 * v2)), .second]) rfl ?_
      exact k)
  obtain ⟨v21, hv21⟩ : ∃ z : Int64, z = (v2 * v2) := ⟨_, rfl⟩
  have pre22 : ∀ t, Steps p.tables e below (T19.setTop (mkF m 45 #[.val (.long q0), .second, .val (.long q1), .second, .val (.long v2), .second, .val (.long v5), .second, .val (.int v18), .val (.long v21), .second] [])) t → P t := fun t k => pre20 t (by subst hv21; exact k)
  have pre23 : ∀ t, Steps p.tables e below (T19.setTop (mkF m 47 #[.val (.long q0), .second, .val (.long q1), .second, .val (.long v2), .second, .val (.long v5), .second, .val (.int v18), .val (.long v21), .second] [(.int v18)])) t → P t := fun t k => pre22 t (by
      show Steps p.tables e below (T19.setTop (mkF m 45 #[.val (.long q0), .second, .val (.long q1), .second, .val (.long v2), .second, .val (.long v5), .second, .val (.int v18), .val (.long v21), .second] [])) _
      refine XS.iload X19.here hx rfl (hb hby at_45) rfl ?_
      exact k)
  obtain ⟨T34, L34, v33, X34, e34, N34, hv33, pre34⟩ : ∃ (T' : State) (L' : List Loc) (v33 : Int32), Stand p l e room_1 s m #[(.long q0), (.long q1)] below meth c T' L' 0 0 ∧ T'.heap = h0 ∧ Fr n0 L' ∧ v33 = (if v18 = (0 : Int32) then (0 : Int32) else (let v28 : Int32 := (own_f1 v2 v21); (if v28 = (0 : Int32) then (1 : Int32) else (0 : Int32)))) ∧ (∀ t, Steps p.tables e below (T'.setTop (mkF m 65 #[.val (.long q0), .second, .val (.long q1), .second, .val (.long v2), .second, .val (.long v5), .second, .val (.int v18), .val (.long v21), .second] [(.int v33)])) t → P t) := by
    by_cases hc24 : v18 = (0 : Int32)
    · have pre25 : ∀ t, Steps p.tables e below (T19.setTop (mkF m 65 #[.val (.long q0), .second, .val (.long q1), .second, .val (.long v2), .second, .val (.long v5), .second, .val (.int v18), .val (.long v21), .second] [(.int (0 : Int32))])) t → P t := fun t k => pre23 t (by
          show Steps p.tables e below (T19.setTop (mkF m 47 #[.val (.long q0), .second, .val (.long q1), .second, .val (.long v2), .second, .val (.long v5), .second, .val (.int v18), .val (.long v21), .second] [(.int v18)])) _
          refine XS.ifYes X19.here hx rfl (pc0 := 47) (pc' := 64) rfl (hb hby at_47) rfl ((if0 _ _).trans (teq hc24).1) (by decide) (by decide) ?_
          show Steps p.tables e below (T19.setTop (mkF m 64 #[.val (.long q0), .second, .val (.long q1), .second, .val (.long v2), .second, .val (.long v5), .second, .val (.int v18), .val (.long v21), .second] [])) _
          refine XS.iconst X19.here hx rfl (hb hby at_64) ?_
          exact k)
      exact ⟨_, _, (0 : Int32), X19, e19, N19, (by first | (rw [if_pos hc24]; done) | simp only [if_pos hc24] | simp [if_pos hc24]), pre25⟩
    · have pre26 : ∀ t, Steps p.tables e below (T19.setTop (mkF m 54 #[.val (.long q0), .second, .val (.long q1), .second, .val (.long v2), .second, .val (.long v5), .second, .val (.int v18), .val (.long v21), .second] [(.long v21), (.long v2)])) t → P t := fun t k => pre23 t (by
          show Steps p.tables e below (T19.setTop (mkF m 47 #[.val (.long q0), .second, .val (.long q1), .second, .val (.long v2), .second, .val (.long v5), .second, .val (.int v18), .val (.long v21), .second] [(.int v18)])) _
          refine XS.ifNo X19.here hx rfl (hb hby at_47) rfl ((if0 _ _).trans (feq hc24).1) ?_
          show Steps p.tables e below (T19.setTop (mkF m 50 #[.val (.long q0), .second, .val (.long q1), .second, .val (.long v2), .second, .val (.long v5), .second, .val (.int v18), .val (.long v21), .second] [])) _
          refine XS.lload X19.here hx rfl (hb hby at_50) rfl ?_
          show Steps p.tables e below (T19.setTop (mkF m 52 #[.val (.long q0), .second, .val (.long q1), .second, .val (.long v2), .second, .val (.long v5), .second, .val (.int v18), .val (.long v21), .second] [(.long v2)])) _
          refine XS.lload X19.here hx rfl (hb hby at_52) rfl ?_
          exact k)
      obtain ⟨_, _, ⟨T27, L27, k27, n27⟩, -, X27, ⟨Lc27, hQ27, l27, y27, z27⟩, st27⟩ := Jvm.LawKit.callS X19 hx (y := (⟨"com/example/evolvent/evolvent/LayeredMap", "folds", "(JJ)Z"⟩ : MethodName)) hown (mvT hZ (hw _ (List.mem_of_getElem? (i := 1) rfl))) (mvT hZ (hw _ (List.mem_of_getElem? (i := 2) rfl))) (mvT hZ (hw _ (List.mem_of_getElem? (i := 3) rfl))) (mvT hZ (hw _ (List.mem_of_getElem? (i := 4) rfl))) (by decide) (backOf (W := 0) (rm1 l Z a0 hw [] v2 v21 h0 n0 Z0 ) hZ (hw _ (List.mem_of_getElem? (i := 4) rfl)) (hw _ (List.mem_of_getElem? (i := 3) rfl)) (by decide) (by decide)) (g := (mkF m 54 #[.val (.long q0), .second, .val (.long q1), .second, .val (.long v2), .second, .val (.long v5), .second, .val (.int v18), .val (.long v21), .second] [(.long v21), (.long v2)])) rfl (by rw [hml]; rfl) (argsL := [(.long v2), (.long v21)]) (rest := []) (lenOf own_pd0 rfl) rfl (by show 2 * 0 + _ ≤ _; exact Nat.le_of_eq rfl) (hb hby at_54) (fun _ _ => ⟨rfl, e19, (by decide : 0 + 0 ≤ _), (by decide : 0 + 0 ≤ _)⟩)
      dsimp only [Pt.U, Pt.locs, Pt.cells, Pt.slots] at X27 l27 y27 z27 st27 hQ27
      subst l27 y27 z27
      obtain ⟨rfl, N27q, e27⟩ := hQ27
      have N27 := Fr.app N19 N27q
      have pre27 : ∀ t, Steps p.tables e below (T27.setTop (mkF m 57 #[.val (.long q0), .second, .val (.long q1), .second, .val (.long v2), .second, .val (.long v5), .second, .val (.int v18), .val (.long v21), .second] [(.int (own_f1 v2 v21))])) t → P t := fun t k => pre26 t (st27 _ k)
      obtain ⟨v28, hv28⟩ : ∃ z : Int32, z = (own_f1 v2 v21) := ⟨_, rfl⟩
      have pre29 : ∀ t, Steps p.tables e below (T27.setTop (mkF m 57 #[.val (.long q0), .second, .val (.long q1), .second, .val (.long v2), .second, .val (.long v5), .second, .val (.int v18), .val (.long v21), .second] [(.int v28)])) t → P t := fun t k => pre27 t (by subst hv28; exact k)
      by_cases hc30 : v28 = (0 : Int32)
      · have pre31 : ∀ t, Steps p.tables e below (T27.setTop (mkF m 65 #[.val (.long q0), .second, .val (.long q1), .second, .val (.long v2), .second, .val (.long v5), .second, .val (.int v18), .val (.long v21), .second] [(.int (1 : Int32))])) t → P t := fun t k => pre29 t (by
            show Steps p.tables e below (T27.setTop (mkF m 57 #[.val (.long q0), .second, .val (.long q1), .second, .val (.long v2), .second, .val (.long v5), .second, .val (.int v18), .val (.long v21), .second] [(.int v28)])) _
            refine XS.ifNo X27.here hx rfl (hb hby at_57) rfl ((if0 _ _).trans (teq hc30).2) ?_
            show Steps p.tables e below (T27.setTop (mkF m 60 #[.val (.long q0), .second, .val (.long q1), .second, .val (.long v2), .second, .val (.long v5), .second, .val (.int v18), .val (.long v21), .second] [])) _
            refine XS.iconst X27.here hx rfl (hb hby at_60) ?_
            show Steps p.tables e below (T27.setTop (mkF m 61 #[.val (.long q0), .second, .val (.long q1), .second, .val (.long v2), .second, .val (.long v5), .second, .val (.int v18), .val (.long v21), .second] [(.int (1 : Int32))])) _
            refine XS.goto X27.here hx rfl (pc0 := 61) (pc' := 65) rfl (hb hby at_61) (by decide) (by decide) ?_
            exact k)
        exact ⟨_, _, (1 : Int32), X27, e27, N27, (by subst hv28; first | (rw [if_neg hc24, if_pos hc30]; done) | simp only [if_neg hc24, if_pos hc30] | simp [if_neg hc24, if_pos hc30]), pre31⟩
      · have pre32 : ∀ t, Steps p.tables e below (T27.setTop (mkF m 65 #[.val (.long q0), .second, .val (.long q1), .second, .val (.long v2), .second, .val (.long v5), .second, .val (.int v18), .val (.long v21), .second] [(.int (0 : Int32))])) t → P t := fun t k => pre29 t (by
            show Steps p.tables e below (T27.setTop (mkF m 57 #[.val (.long q0), .second, .val (.long q1), .second, .val (.long v2), .second, .val (.long v5), .second, .val (.int v18), .val (.long v21), .second] [(.int v28)])) _
            refine XS.ifYes X27.here hx rfl (pc0 := 57) (pc' := 64) rfl (hb hby at_57) rfl ((if0 _ _).trans (feq hc30).2) (by decide) (by decide) ?_
            show Steps p.tables e below (T27.setTop (mkF m 64 #[.val (.long q0), .second, .val (.long q1), .second, .val (.long v2), .second, .val (.long v5), .second, .val (.int v18), .val (.long v21), .second] [])) _
            refine XS.iconst X27.here hx rfl (hb hby at_64) ?_
            exact k)
        exact ⟨_, _, (0 : Int32), X27, e27, N27, (by subst hv28; first | (rw [if_neg hc24, if_neg hc30]; done) | simp only [if_neg hc24, if_neg hc30] | simp [if_neg hc24, if_neg hc30]), pre32⟩
  have pre35 : ∀ t, Steps p.tables e below (T34.setTop (mkF m 71 #[.val (.long q0), .second, .val (.long q1), .second, .val (.long v2), .second, .val (.long v5), .second, .val (.int v33), .val (.long v21), .second] [(.int (lcmpW v2 (1 : Int64)))])) t → P t := fun t k => pre34 t (by
      show Steps p.tables e below (T34.setTop (mkF m 65 #[.val (.long q0), .second, .val (.long q1), .second, .val (.long v2), .second, .val (.long v5), .second, .val (.int v18), .val (.long v21), .second] [(.int v33)])) _
      refine XS.istore X34.here hx rfl (hb hby at_65) rfl (l' := #[.val (.long q0), .second, .val (.long q1), .second, .val (.long v2), .second, .val (.long v5), .second, .val (.int v33), .val (.long v21), .second]) rfl ?_
      show Steps p.tables e below (T34.setTop (mkF m 67 #[.val (.long q0), .second, .val (.long q1), .second, .val (.long v2), .second, .val (.long v5), .second, .val (.int v33), .val (.long v21), .second] [])) _
      refine XS.lload X34.here hx rfl (hb hby at_67) rfl ?_
      show Steps p.tables e below (T34.setTop (mkF m 69 #[.val (.long q0), .second, .val (.long q1), .second, .val (.long v2), .second, .val (.long v5), .second, .val (.int v33), .val (.long v21), .second] [(.long v2)])) _
      refine XS.lconst X34.here hx rfl (hb hby at_69) ?_
      show Steps p.tables e below (T34.setTop (mkF m 70 #[.val (.long q0), .second, .val (.long q1), .second, .val (.long v2), .second, .val (.long v5), .second, .val (.int v33), .val (.long v21), .second] [(.long (1 : Int64)), (.long v2)])) _
      refine XS.lcmp X34.here hx rfl (hb hby at_70) rfl ?_
      exact k)
  obtain ⟨T52, L52, v51, X52, e52, N52, hv51, pre52⟩ : ∃ (T' : State) (L' : List Loc) (v51 : Int32), Stand p l e room_1 s m #[(.long q0), (.long q1)] below meth c T' L' 0 0 ∧ T'.heap = h0 ∧ Fr n0 L' ∧ v51 = (if v2 < (1 : Int64) then v33 else (if v33 = (0 : Int32) then (0 : Int32) else (let v43 : Int32 := (own_f1 v2 (v21 - (1 : Int64))); (if v43 = (0 : Int32) then (0 : Int32) else (1 : Int32))))) ∧ (∀ t, Steps p.tables e below (T'.setTop (mkF m 98 #[.val (.long q0), .second, .val (.long q1), .second, .val (.long v2), .second, .val (.long v5), .second, .val (.int v51), .val (.long v21), .second] [])) t → P t) := by
    by_cases hc36 : v2 < (1 : Int64)
    · have pre37 : ∀ t, Steps p.tables e below (T34.setTop (mkF m 98 #[.val (.long q0), .second, .val (.long q1), .second, .val (.long v2), .second, .val (.long v5), .second, .val (.int v33), .val (.long v21), .second] [])) t → P t := fun t k => pre35 t (by
          show Steps p.tables e below (T34.setTop (mkF m 71 #[.val (.long q0), .second, .val (.long q1), .second, .val (.long v2), .second, .val (.long v5), .second, .val (.int v33), .val (.long v21), .second] [(.int (lcmpW v2 (1 : Int64)))])) _
          refine XS.ifYes X34.here hx rfl (pc0 := 71) (pc' := 98) rfl (hb hby at_71) rfl ((if0 _ _).trans (tlt ((lw_lt _ _).mpr hc36)).1) (by decide) (by decide) ?_
          exact k)
      exact ⟨_, _, v33, X34, e34, N34, (by first | (rw [if_pos hc36]; done) | simp only [if_pos hc36] | simp [if_pos hc36]), pre37⟩
    · have pre38 : ∀ t, Steps p.tables e below (T34.setTop (mkF m 76 #[.val (.long q0), .second, .val (.long q1), .second, .val (.long v2), .second, .val (.long v5), .second, .val (.int v33), .val (.long v21), .second] [(.int v33)])) t → P t := fun t k => pre35 t (by
          show Steps p.tables e below (T34.setTop (mkF m 71 #[.val (.long q0), .second, .val (.long q1), .second, .val (.long v2), .second, .val (.long v5), .second, .val (.int v33), .val (.long v21), .second] [(.int (lcmpW v2 (1 : Int64)))])) _
          refine XS.ifNo X34.here hx rfl (hb hby at_71) rfl ((if0 _ _).trans (flt (fun q => hc36 ((lw_lt _ _).mp q))).1) ?_
          show Steps p.tables e below (T34.setTop (mkF m 74 #[.val (.long q0), .second, .val (.long q1), .second, .val (.long v2), .second, .val (.long v5), .second, .val (.int v33), .val (.long v21), .second] [])) _
          refine XS.iload X34.here hx rfl (hb hby at_74) rfl ?_
          exact k)
      obtain ⟨T49, L49, v48, X49, e49, N49, hv48, pre49⟩ : ∃ (T' : State) (L' : List Loc) (v48 : Int32), Stand p l e room_1 s m #[(.long q0), (.long q1)] below meth c T' L' 0 0 ∧ T'.heap = h0 ∧ Fr n0 L' ∧ v48 = (if v33 = (0 : Int32) then (0 : Int32) else (let v43 : Int32 := (own_f1 v2 (v21 - (1 : Int64))); (if v43 = (0 : Int32) then (0 : Int32) else (1 : Int32)))) ∧ (∀ t, Steps p.tables e below (T'.setTop (mkF m 96 #[.val (.long q0), .second, .val (.long q1), .second, .val (.long v2), .second, .val (.long v5), .second, .val (.int v33), .val (.long v21), .second] [(.int v48)])) t → P t) := by
        by_cases hc39 : v33 = (0 : Int32)
        · have pre40 : ∀ t, Steps p.tables e below (T34.setTop (mkF m 96 #[.val (.long q0), .second, .val (.long q1), .second, .val (.long v2), .second, .val (.long v5), .second, .val (.int v33), .val (.long v21), .second] [(.int (0 : Int32))])) t → P t := fun t k => pre38 t (by
              show Steps p.tables e below (T34.setTop (mkF m 76 #[.val (.long q0), .second, .val (.long q1), .second, .val (.long v2), .second, .val (.long v5), .second, .val (.int v33), .val (.long v21), .second] [(.int v33)])) _
              refine XS.ifYes X34.here hx rfl (pc0 := 76) (pc' := 95) rfl (hb hby at_76) rfl ((if0 _ _).trans (teq hc39).1) (by decide) (by decide) ?_
              show Steps p.tables e below (T34.setTop (mkF m 95 #[.val (.long q0), .second, .val (.long q1), .second, .val (.long v2), .second, .val (.long v5), .second, .val (.int v33), .val (.long v21), .second] [])) _
              refine XS.iconst X34.here hx rfl (hb hby at_95) ?_
              exact k)
          exact ⟨_, _, (0 : Int32), X34, e34, N34, (by first | (rw [if_pos hc39]; done) | simp only [if_pos hc39] | simp [if_pos hc39]), pre40⟩
        · have pre41 : ∀ t, Steps p.tables e below (T34.setTop (mkF m 85 #[.val (.long q0), .second, .val (.long q1), .second, .val (.long v2), .second, .val (.long v5), .second, .val (.int v33), .val (.long v21), .second] [(.long (v21 - (1 : Int64))), (.long v2)])) t → P t := fun t k => pre38 t (by
              show Steps p.tables e below (T34.setTop (mkF m 76 #[.val (.long q0), .second, .val (.long q1), .second, .val (.long v2), .second, .val (.long v5), .second, .val (.int v33), .val (.long v21), .second] [(.int v33)])) _
              refine XS.ifNo X34.here hx rfl (hb hby at_76) rfl ((if0 _ _).trans (feq hc39).1) ?_
              show Steps p.tables e below (T34.setTop (mkF m 79 #[.val (.long q0), .second, .val (.long q1), .second, .val (.long v2), .second, .val (.long v5), .second, .val (.int v33), .val (.long v21), .second] [])) _
              refine XS.lload X34.here hx rfl (hb hby at_79) rfl ?_
              show Steps p.tables e below (T34.setTop (mkF m 81 #[.val (.long q0), .second, .val (.long q1), .second, .val (.long v2), .second, .val (.long v5), .second, .val (.int v33), .val (.long v21), .second] [(.long v2)])) _
              refine XS.lload X34.here hx rfl (hb hby at_81) rfl ?_
              show Steps p.tables e below (T34.setTop (mkF m 83 #[.val (.long q0), .second, .val (.long q1), .second, .val (.long v2), .second, .val (.long v5), .second, .val (.int v33), .val (.long v21), .second] [(.long v21), (.long v2)])) _
              refine XS.lconst X34.here hx rfl (hb hby at_83) ?_
              show Steps p.tables e below (T34.setTop (mkF m 84 #[.val (.long q0), .second, .val (.long q1), .second, .val (.long v2), .second, .val (.long v5), .second, .val (.int v33), .val (.long v21), .second] [(.long (1 : Int64)), (.long v21), (.long v2)])) _
              refine XS.lsub X34.here hx rfl (hb hby at_84) rfl ?_
              exact k)
          obtain ⟨_, _, ⟨T42, L42, k42, n42⟩, -, X42, ⟨Lc42, hQ42, l42, y42, z42⟩, st42⟩ := Jvm.LawKit.callS X34 hx (y := (⟨"com/example/evolvent/evolvent/LayeredMap", "folds", "(JJ)Z"⟩ : MethodName)) hown (mvT hZ (hw _ (List.mem_of_getElem? (i := 1) rfl))) (mvT hZ (hw _ (List.mem_of_getElem? (i := 2) rfl))) (mvT hZ (hw _ (List.mem_of_getElem? (i := 3) rfl))) (mvT hZ (hw _ (List.mem_of_getElem? (i := 4) rfl))) (by decide) (backOf (W := 0) (rm1 l Z a0 hw [] v2 (v21 - (1 : Int64)) h0 n0 Z0 ) hZ (hw _ (List.mem_of_getElem? (i := 4) rfl)) (hw _ (List.mem_of_getElem? (i := 3) rfl)) (by decide) (by decide)) (g := (mkF m 85 #[.val (.long q0), .second, .val (.long q1), .second, .val (.long v2), .second, .val (.long v5), .second, .val (.int v33), .val (.long v21), .second] [(.long (v21 - (1 : Int64))), (.long v2)])) rfl (by rw [hml]; rfl) (argsL := [(.long v2), (.long (v21 - (1 : Int64)))]) (rest := []) (lenOf own_pd0 rfl) rfl (by show 2 * 0 + _ ≤ _; exact Nat.le_of_eq rfl) (hb hby at_85) (fun _ _ => ⟨rfl, e34, (by decide : 0 + 0 ≤ _), (by decide : 0 + 0 ≤ _)⟩)
          dsimp only [Pt.U, Pt.locs, Pt.cells, Pt.slots] at X42 l42 y42 z42 st42 hQ42
          subst l42 y42 z42
          obtain ⟨rfl, N42q, e42⟩ := hQ42
          have N42 := Fr.app N34 N42q
          have pre42 : ∀ t, Steps p.tables e below (T42.setTop (mkF m 88 #[.val (.long q0), .second, .val (.long q1), .second, .val (.long v2), .second, .val (.long v5), .second, .val (.int v33), .val (.long v21), .second] [(.int (own_f1 v2 (v21 - (1 : Int64))))])) t → P t := fun t k => pre41 t (st42 _ k)
          obtain ⟨v43, hv43⟩ : ∃ z : Int32, z = (own_f1 v2 (v21 - (1 : Int64))) := ⟨_, rfl⟩
          have pre44 : ∀ t, Steps p.tables e below (T42.setTop (mkF m 88 #[.val (.long q0), .second, .val (.long q1), .second, .val (.long v2), .second, .val (.long v5), .second, .val (.int v33), .val (.long v21), .second] [(.int v43)])) t → P t := fun t k => pre42 t (by subst hv43; exact k)
          by_cases hc45 : v43 = (0 : Int32)
          · have pre46 : ∀ t, Steps p.tables e below (T42.setTop (mkF m 96 #[.val (.long q0), .second, .val (.long q1), .second, .val (.long v2), .second, .val (.long v5), .second, .val (.int v33), .val (.long v21), .second] [(.int (0 : Int32))])) t → P t := fun t k => pre44 t (by
                show Steps p.tables e below (T42.setTop (mkF m 88 #[.val (.long q0), .second, .val (.long q1), .second, .val (.long v2), .second, .val (.long v5), .second, .val (.int v33), .val (.long v21), .second] [(.int v43)])) _
                refine XS.ifYes X42.here hx rfl (pc0 := 88) (pc' := 95) rfl (hb hby at_88) rfl ((if0 _ _).trans (teq hc45).1) (by decide) (by decide) ?_
                show Steps p.tables e below (T42.setTop (mkF m 95 #[.val (.long q0), .second, .val (.long q1), .second, .val (.long v2), .second, .val (.long v5), .second, .val (.int v33), .val (.long v21), .second] [])) _
                refine XS.iconst X42.here hx rfl (hb hby at_95) ?_
                exact k)
            exact ⟨_, _, (0 : Int32), X42, e42, N42, (by subst hv43; first | (rw [if_neg hc39, if_pos hc45]; done) | simp only [if_neg hc39, if_pos hc45] | simp [if_neg hc39, if_pos hc45]), pre46⟩
          · have pre47 : ∀ t, Steps p.tables e below (T42.setTop (mkF m 96 #[.val (.long q0), .second, .val (.long q1), .second, .val (.long v2), .second, .val (.long v5), .second, .val (.int v33), .val (.long v21), .second] [(.int (1 : Int32))])) t → P t := fun t k => pre44 t (by
                show Steps p.tables e below (T42.setTop (mkF m 88 #[.val (.long q0), .second, .val (.long q1), .second, .val (.long v2), .second, .val (.long v5), .second, .val (.int v33), .val (.long v21), .second] [(.int v43)])) _
                refine XS.ifNo X42.here hx rfl (hb hby at_88) rfl ((if0 _ _).trans (feq hc45).1) ?_
                show Steps p.tables e below (T42.setTop (mkF m 91 #[.val (.long q0), .second, .val (.long q1), .second, .val (.long v2), .second, .val (.long v5), .second, .val (.int v33), .val (.long v21), .second] [])) _
                refine XS.iconst X42.here hx rfl (hb hby at_91) ?_
                show Steps p.tables e below (T42.setTop (mkF m 92 #[.val (.long q0), .second, .val (.long q1), .second, .val (.long v2), .second, .val (.long v5), .second, .val (.int v33), .val (.long v21), .second] [(.int (1 : Int32))])) _
                refine XS.goto X42.here hx rfl (pc0 := 92) (pc' := 96) rfl (hb hby at_92) (by decide) (by decide) ?_
                exact k)
            exact ⟨_, _, (1 : Int32), X42, e42, N42, (by subst hv43; first | (rw [if_neg hc39, if_neg hc45]; done) | simp only [if_neg hc39, if_neg hc45] | simp [if_neg hc39, if_neg hc45]), pre47⟩
      have pre50 : ∀ t, Steps p.tables e below (T49.setTop (mkF m 98 #[.val (.long q0), .second, .val (.long q1), .second, .val (.long v2), .second, .val (.long v5), .second, .val (.int v48), .val (.long v21), .second] [])) t → P t := fun t k => pre49 t (by
          show Steps p.tables e below (T49.setTop (mkF m 96 #[.val (.long q0), .second, .val (.long q1), .second, .val (.long v2), .second, .val (.long v5), .second, .val (.int v33), .val (.long v21), .second] [(.int v48)])) _
          refine XS.istore X49.here hx rfl (hb hby at_96) rfl (l' := #[.val (.long q0), .second, .val (.long q1), .second, .val (.long v2), .second, .val (.long v5), .second, .val (.int v48), .val (.long v21), .second]) rfl ?_
          exact k)
      exact ⟨_, _, v48, X49, e49, N49, (by subst hv48; first | (rw [if_neg hc36]; done) | simp only [if_neg hc36] | simp [if_neg hc36]), pre50⟩
  have pre53 : ∀ t, Steps p.tables e below (T52.setTop (mkF m 100 #[.val (.long q0), .second, .val (.long q1), .second, .val (.long v2), .second, .val (.long v5), .second, .val (.int v51), .val (.long v21), .second] [(.int v51)])) t → P t := fun t k => pre52 t (by
      show Steps p.tables e below (T52.setTop (mkF m 98 #[.val (.long q0), .second, .val (.long q1), .second, .val (.long v2), .second, .val (.long v5), .second, .val (.int v51), .val (.long v21), .second] [])) _
      refine XS.iload X52.here hx rfl (hb hby at_98) rfl ?_
      exact k)
  obtain ⟨fs, hr, hrun, hended, hW, hsame⟩ := X52.leave (v := some (.int v51)) (fun h => by rw [Bd.returns] at h; cases h)
  refine ⟨_, _, fin _ (pre53 _ ?_), hrun, hended, _, _, rfl, ?_, ⟨_, rfl⟩, hW, hsame.mono (by decide) (by decide)⟩
  · show Steps p.tables e below (T52.setTop (mkF m 100 #[.val (.long q0), .second, .val (.long q1), .second, .val (.long v2), .second, .val (.long v5), .second, .val (.int v51), .val (.long v21), .second] [(.int v51)])) _
    have hnar : nar .boolean v51 = v51 := by subst hv2 hv5 hv9 hv13 hv18 hv21 hv33 hv51; first | rfl | (split <;> rfl) | ((try simp only []); (repeat' split) <;> rfl)
    exact retN X52 hx (t := .boolean) Bd.returns (by simp) (hb hby at_100) (by rw [hnar]; exact hr)
  · show Q0 Z q0 q1 h0 n0 _ T52.heap _
    rw [e52]
    exact ⟨(by subst hv2 hv5 hv9 hv13 hv18 hv21 hv33 hv51; first | rfl | simp only [own_f0]), N52⟩
theorem own_sq (x : Int) (h0 : 0 ≤ x) (h : x < 2147483648) : 0 ≤ x * x ∧ x * x < 4611686018427387904 := by
  constructor
  · exact Int.mul_nonneg h0 h0
  · have : x * x ≤ 2147483647 * 2147483647 := Int.mul_le_mul (by omega) (by omega) h0 (by omega)
    omega
theorem own_same (x y : Int64) (hx : 0 ≤ x.toInt ∧ x.toInt < 2147483648) (hy : 0 ≤ y.toInt ∧ y.toInt < 2147483648) : own_f1 x y = own_f2 x y := by
  have hs := own_sq x.toInt hx.1 hx.2
  have h3 := c_lmul x x
  have h4 := rng64 (x * x)
  have e : (x * x).toInt = x.toInt * x.toInt := by omega
  have h0 : (0 : Int64).toInt = 0 := by decide
  unfold own_f1 own_f2
  by_cases c : x = 0
  · subst c
    rw [if_pos rfl, if_neg]
    rw [Int64.lt_iff_toInt_lt]
    have : ((0 : Int64) * 0).toInt = 0 := by decide
    omega
  · rw [if_neg c]
    have cp : 0 < x.toInt := by
      rw [← Int64.toInt_inj] at c
      omega
    have hd := (c_ldiv y x x.toInt rfl (by rintro rfl; revert cp; decide)).1 hy.1
    have key : (y < x * x) ↔ (y / x < x) := by
      rw [Int64.lt_iff_toInt_lt, Int64.lt_iff_toInt_lt, e, hd]
      exact (Int.ediv_lt_iff_lt_mul cp).symm
    simp only [key]
theorem own_law (a b : Int64) : own_f0 a b = 1 := by
  have h1 := c_maskL a 2147483647 31 (by decide) (by decide)
  have h2 := c_maskL b 2147483647 31 (by decide) (by decide)
  unfold own_f0
  generalize (a &&& 2147483647) = x at *
  generalize (b &&& 2147483647) = y at *
  have hx : 0 ≤ x.toInt ∧ x.toInt < 2147483648 := by omega
  have hy : 0 ≤ y.toInt ∧ y.toInt < 2147483648 := by omega
  have hs := own_sq x.toInt hx.1 hx.2
  have h3 := c_lmul x x
  have h4 := rng64 (x * x)
  have e : (x * x).toInt = x.toInt * x.toInt := by omega
  have h5 := c_lsub (x * x) 1
  have h6 : (1 : Int64).toInt = 1 := by decide
  have k1 : own_f1 x (x * x) = 0 := by
    unfold own_f1
    rw [if_neg]
    rw [Int64.lt_iff_toInt_lt]
    omega
  have k2 : own_f1 x (x * x - 1) = 1 := by
    unfold own_f1
    rw [if_pos]
    rw [Int64.lt_iff_toInt_lt]
    have := rng64 (x * x - 1)
    omega
  simp only [own_same x y hx hy, k1, k2]
  simp
set_option maxRecDepth 65536 in
set_option maxHeartbeats 40000000 in
theorem comes_1 {Post : Tables → Env → Array Value → State → Outcome → State → Prop} (hpost : ∀ tb e args s v u, (limb_1_1.after args s (.returned v) u = true ∧ limb_1_2.after args s (.returned v) u = true ∧ True) → FrameEnd s (.returned v) u (Jvm.fieldLocs frame_1_writes args s ++ Jvm.arrayLocs frame_1_arrays args s ++ Jvm.staticLocs frame_1_statics s) 0 0 → Post tb e args s (.returned v) u) :
    ArmFor flags0 classFile x code maxLocals ret World_1 tables_1 room_1 Calls_1 rest_1 Pre_1 Post := by
  intro l hfl _ _ p e ha hc hk s m args below hf hA hF happ hP
  obtain ⟨hcalls, hrest, hpre⟩ := hP
  obtain ⟨-, -, -, hnamed, -, -, -, hat⟩ := (Spec.applies_iff hf).mp happ
  obtain ⟨hg, hn⟩ := and_e (Cond.before_iff.mp (show (Jvm.Cond.and given_1 narrow_1).before args s = true from hpre))
  obtain ⟨hg1, hg2⟩ := and_e hg
  obtain ⟨hg3, hg4⟩ := and_e hg2
  obtain ⟨w0, w1, rfl⟩ : ∃ w0 w1 : Value, args = #[w0, w1] := by
    have hs : args.size = 2 := by simpa [Cond.value, given_1] using hg1
    obtain ⟨L⟩ := args
    match L, hs with
    | [w0, w1], _ => exact ⟨w0, w1, rfl⟩
  have hw := fun d (hd : d ∈ tables_1) => atoms_spec (ws := Jvm.Cond.code x code maxLocals ret :: tables_1) hat d (List.mem_cons_of_mem _ hd)
  have hfit : Fit s := fun {y c} hc i hi => by
    obtain ⟨ha, rfl⟩ := Array.getElem?_eq_some_iff.mp hc
    have q := List.all_eq_true.mp ((Array.all_eq_true_iff_forall_mem.mp hF) _ (Array.getElem_mem ha)) i (List.mem_range.mpr hi)
    simpa [Array.getElem?_eq_getElem hi] using q
  obtain ⟨i0, ei0⟩ := isL_v hg3
  obtain rfl : w0 = (.long i0) := Option.some.inj ei0
  obtain ⟨i1, ei1⟩ := isL_v hg4
  obtain rfl : w1 = (.long i1) := Option.some.inj ei1
  obtain ⟨n, o, h1, h2, h3, _, L, rfl, ⟨rfl, N⟩, hq⟩ := rm0 l s _ hw tables_1 i0 i1 s.heap s.heap.size (Nat.le_refl _) p e ha hc hk s m _ below hf ((Spec.applies_iff_loose hf).mp happ).1 ⟨rfl, State.Warmed39.refl s, rfl⟩ trivial
  refine ⟨n, _, h1, h2, h3, hpost _ _ _ _ _ _ ⟨Cond.after_iff.mpr rfl, Cond.after_iff.mpr (eq_i res_at (Term.int_eval (1)) (by rw [own_law])), trivial⟩ ⟨hq.1, hq.2.1, (hq.2.2.sift fun y hy => Or.inr (N y hy)).mono (by decide) (by decide)⟩⟩
theorem main_1_1 : Claimed_1_1 := comes_1 fun _ _ _ _ _ _ h hF => ⟨h.1, hF⟩
theorem main_1_2 : Claimed_1_2 := comes_1 fun _ _ _ _ _ _ h hF => ⟨h.2.1, hF⟩
end Jvm.Pilot.@@N@@
namespace Jvm.Pilot.@@N@@
open Jvm Jvm.ClassFile Sem Op Lib Jvm.Free Jvm.Stand Jvm.Pilot.@@N@@.Jvm.D
/-! MADE BY PROGRAM (witnessworld.py) out of the Statement's table words and the real class files: 9 classes; the members and pool entries that the words name. The judged class is class 1, her method 2. -/
namespace start1
open Jvm.ClassFile
def u (s : String) : CpInfo := .utf8 (stringToUtf16 s)
/-- a pool by its gaps: so many unusable entries, then the entry; so many at the end -/
def gap : Nat → List CpInfo → List CpInfo
  | 0, r => r
  | n + 1, r => .unusable :: gap n r
def poolList (es : List (Nat × CpInfo)) (last : Nat) : List CpInfo := es.foldr (fun e r => gap e.1 (e.2 :: r)) (gap last [])
def pool (es : List (Nat × CpInfo)) (last : Nat) : Array CpInfo := ⟨poolList es last⟩
def fileOf (pool : Array CpInfo) (this : Nat) (attrs : Array Attribute := #[]) (ms : Array MethodInfo := #[]) (fl : Nat := 33) (sup : Nat := 0) (ifs : Array Nat := #[]) (fds : Array FieldInfo := #[]) : ClassFile where
  minorVersion := 0
  majorVersion := 65
  constantPool := pool
  accessFlags := fl
  thisClass := this
  superClass := sup
  interfaces := ifs
  fields := fds
  methods := ms
  attributes := attrs
def plain (name : String) (sup : Option ClassId) : Class where
  name := name
  kind := .ordinary
  loader := none
  accessFlags := 33
  super := sup
  interfaces := #[]
  cf := none
  fields := #[]
  methods := #[]
  instanceTypes := #[]
  staticTypes := #[]
  resolved := #[]
  callSites := []
  init := .initialized
  statics := none
  mirror := none

def pool0 : Array CpInfo := pool [(5, u "<init>"), (0, u "()V"), (1, .class_ 10), (1, u "java/lang/Object")] 113

def k0m0 : Method := { name := "<init>", desc := "()V", sig := { parameters := [], returnType := none }, accessFlags := 1, code := none }
/-- java/lang/Object -/
def k0 : Class := { plain "java/lang/Object" none with
  accessFlags := 33
  interfaces := #[]
  cf := some (fileOf pool0 8 #[] #[{ accessFlags := 1, nameIndex := 5, descriptorIndex := 6, attributes := #[] }] 33 0 #[] #[])
  fields := #[]
  methods := #[k0m0]
  instanceTypes := #[]
  staticTypes := #[]
  resolved := Array.replicate 124 none
  statics := none }

def pool1 : Array CpInfo := pool [(2, .class_ 4), (1, u "java/lang/Object"), (0, u "<init>"), (0, u "()V"), (0, .long 2147483647), (1, .methodref 10 11), (0, .class_ 12), (0, .nameAndType 13 14), (0, u "com/example/evolvent/evolvent/LayeredMap"), (0, u "folds"), (0, u "(JJ)Z"), (0, .methodref 16 17), (0, .class_ 18), (0, .nameAndType 19 14), (0, u "com/example/evolvent/evolvent/LayeredMapFoldsPinLaw"), (0, u "outgrowsRoot"), (3, u "law")] 2

def k1m0 : Method := { name := "<init>", desc := "()V", sig := { parameters := [], returnType := none }, accessFlags := 1, code := none }
def k1c1 : Code := { maxStack := 6, maxLocals := 4, code := method_2_code, exceptionTable := #[], attributes := #[] }
def k1m1 : Method := { name := "outgrowsRoot", desc := "(JJ)Z", sig := { parameters := [.long, .long], returnType := some .boolean }, accessFlags := 10, code := some k1c1 }
def k1c2 : Code := { maxStack := 6, maxLocals := 11, code := code, exceptionTable := #[], attributes := #[] }
def k1m2 : Method := { name := "law", desc := "(JJ)Z", sig := { parameters := [.long, .long], returnType := some .boolean }, accessFlags := 9, code := some k1c2 }
/-- com/example/evolvent/evolvent/LayeredMapFoldsPinLaw -/
def k1 : Class := { plain "com/example/evolvent/evolvent/LayeredMapFoldsPinLaw" (some 0) with
  accessFlags := 49
  interfaces := #[]
  cf := some (fileOf pool1 16 #[] #[{ accessFlags := 1, nameIndex := 5, descriptorIndex := 6, attributes := #[] }, { accessFlags := 10, nameIndex := 19, descriptorIndex := 14, attributes := #[] }, { accessFlags := 9, nameIndex := 23, descriptorIndex := 14, attributes := #[] }] 49 2 #[] #[])
  fields := #[]
  methods := #[k1m0, k1m1, k1m2]
  instanceTypes := #[]
  staticTypes := #[]
  resolved := Array.replicate 26 none
  statics := none }

def pool2 : Array CpInfo := pool [(2, .class_ 4), (1, u "java/lang/Object"), (3, .class_ 10), (1, u "com/example/evolvent/evolvent/LayeredMap"), (0, u "base"), (0, u "Ljava/util/Map;"), (2, u "layer"), (36, u "folds"), (0, u "(JJ)Z")] 56

def k2c0 : Code := { maxStack := 4, maxLocals := 4, code := prog_33_method_3_code, exceptionTable := #[], attributes := #[] }
def k2m0 : Method := { name := "folds", desc := "(JJ)Z", sig := { parameters := [.long, .long], returnType := some .boolean }, accessFlags := 8, code := some k2c0 }
/-- com/example/evolvent/evolvent/LayeredMap -/
def k2 : Class := { plain "com/example/evolvent/evolvent/LayeredMap" (some 0) with
  accessFlags := 48
  interfaces := #[]
  cf := some (fileOf pool2 8 #[] #[{ accessFlags := 8, nameIndex := 52, descriptorIndex := 53, attributes := #[] }] 48 2 #[] #[{ accessFlags := 18, nameIndex := 11, descriptorIndex := 12, attributes := #[] }, { accessFlags := 18, nameIndex := 15, descriptorIndex := 12, attributes := #[] }])
  fields := #[{ name := "base", type := (.object "java/util/Map"), accessFlags := 18, slot := 0, constantValue := 0 }, { name := "layer", type := (.object "java/util/Map"), accessFlags := 18, slot := 1, constantValue := 0 }]
  methods := #[k2m0]
  instanceTypes := #[(.object "java/util/Map"), (.object "java/util/Map")]
  staticTypes := #[]
  resolved := Array.replicate 110 none
  statics := none }

def pool3 : Array CpInfo := pool [(1, u "java/lang/Cloneable"), (0, .class_ 1), (0, u "java/lang/Object"), (0, .class_ 3)] 3

/-- java/lang/Cloneable -/
def k3 : Class := { plain "java/lang/Cloneable" (some 0) with
  accessFlags := 1537
  interfaces := #[]
  cf := some (fileOf pool3 2 #[] #[] 1537 4 #[] #[])
  fields := #[]
  methods := #[]
  instanceTypes := #[]
  staticTypes := #[]
  resolved := Array.replicate 8 none
  statics := none }

def pool4 : Array CpInfo := pool [(1, u "java/io/Serializable"), (0, .class_ 1), (0, u "java/lang/Object"), (0, .class_ 3)] 3

/-- java/io/Serializable -/
def k4 : Class := { plain "java/io/Serializable" (some 0) with
  accessFlags := 1537
  interfaces := #[]
  cf := some (fileOf pool4 2 #[] #[] 1537 4 #[] #[])
  fields := #[]
  methods := #[]
  instanceTypes := #[]
  staticTypes := #[]
  resolved := Array.replicate 8 none
  statics := none }

/-- the primitive byte -/
def k5 : Class := { plain "byte" none with kind := .primitive 'B', accessFlags := 0x411 }
/-- [B -/
def k6 : Class := { plain "[B" (some 0) with kind := .array 5 .byte, interfaces := #[3, 4], accessFlags := 1041 }

/-- the primitive int -/
def k7 : Class := { plain "int" none with kind := .primitive 'I', accessFlags := 0x411 }
/-- [I -/
def k8 : Class := { plain "[I" (some 0) with kind := .array 7 .int, interfaces := #[3, 4], accessFlags := 1041 }

def heap : Heap := #[]
def classes : Array Class := #[k0, k1, k2, k3, k4, k5, k6, k7, k8]
def interned : List (Array UInt16 × Addr) := []
def slotsUsed : Nat := 0
def theMethod : MethodId := ⟨1, 2⟩
def args0 : Array Value := #[.long 5, .long 7]
def aboutOver (below : List Frame) : State where
  vm := { classes := classes, interned := interned.toArray }
  heap := heap
  slotsUsed := slotsUsed
  threads := #[{ frames := .invoking theMethod args0 :: below }]
def below0 : List Frame := [.native { method := ⟨0, 0⟩, args := #[] }]
def about1 : State := aboutOver below0
def p0 : Program := .bare "" "" ""
def e0 : Env := launch0.env 0 0 0
theorem w_frames : about1.frames = Frame.invoking theMethod args0 :: below0 := rfl
set_option maxRecDepth 65536 in
theorem w_args : argsFit about1.vm theMethod args0 = true := by decide +kernel
set_option maxRecDepth 65536 in
theorem w_heap : heapFits about1 = true := by decide +kernel
set_option maxRecDepth 65536 in
theorem w_runnable : about1.curStatus? = some .runnable := by decide +kernel
set_option maxRecDepth 65536 in
theorem w_alone : about1.alone = true := by decide +kernel
set_option maxRecDepth 65536 in
theorem w_named : about1.methodNamed? x = some theMethod := by decide +kernel
set_option maxRecDepth 65536 in
theorem w_hears : about1.hears theMethod below0 = true := by decide +kernel
set_option maxRecDepth 65536 in
theorem w_ripe : about1.ripe theMethod args0 below0 = true := by decide +kernel
theorem w_running : about1.status = .running := rfl
set_option maxRecDepth 65536 in
theorem w_room : about1.hasRoom e0.platform room_1 = true :=
  launch0.hasRoom_least _ room_1 (by decide +kernel) (by decide +kernel) (by decide +kernel) (by decide +kernel) (by decide +kernel) (by decide +kernel)
theorem allAtoms_all (ts : List Jvm.Cond) (a : Array Jvm.Value) (st : Jvm.State) : (allAtoms ts).before a st = ts.all (fun c => c.before a st) := by
  induction ts with
  | nil => rfl
  | cons c t ih =>
    show (Jvm.Cond.and c (allAtoms t)).before a st = _
    rw [Jvm.Cond.before_and, ih, List.all_cons]
def words1 : List Jvm.Cond := Jvm.Cond.code x code maxLocals ret :: tables_1
/-- a 'code' word, met by the world's own term for the bytes: nothing is compared byte by byte -/
theorem code_word {y : MethodName} {bytes : ByteArray} {mx : Nat} {rt : Option FieldType} {a : Array Value} {s : State} {m : MethodId} {meth : Method} {c : Code} (h1 : s.methodNamed? y = some m) (h2 : s.vm.method? m = some meth) (h3 : meth.code = some c) (h4 : c.code = bytes)
    (h5 : (c.maxLocals == mx && c.exceptionTable.isEmpty && decide (c.maxStack ≤ mostOperands) && decide (meth.sig.returnType = rt) && !meth.locks && decide (parseMethodDescriptor y.desc = some meth.sig)) = true) : (Jvm.Cond.code y bytes mx rt).before a s = true := by
  simp only [Bool.and_eq_true, beq_iff_eq, Bool.not_eq_true', decide_eq_true_eq] at h5
  obtain ⟨⟨⟨⟨⟨g1, g2⟩, g3⟩, g4⟩, g5⟩, g6⟩ := h5
  simp [Cond.before, Cond.holds, Cond.value, h1, h2, h3, h4, g1, g2, g3, g4, g5, g6]
def isCode : Jvm.Cond → Bool
  | .code _ _ _ _ => true
  | _ => false
theorem all_split {L : List Jvm.Cond} {P : Jvm.Cond → Bool} (h1 : L.all (fun c => isCode c || P c) = true) (h2 : ∀ c ∈ L.filter isCode, P c = true) : L.all P = true := by
  refine List.all_eq_true.mpr fun c hc => ?_
  have h := List.all_eq_true.mp h1 c hc
  rcases Bool.eq_false_or_eq_true (isCode c) with hi | hi
  · exact h2 c (List.mem_filter.mpr ⟨hc, hi⟩)
  · simpa [hi] using h
set_option maxRecDepth 65536 in
theorem w_c0 : (Jvm.Cond.code x code maxLocals ret).before args0 about1 = true := code_word (m := ⟨1, 2⟩) (meth := k1m2) (c := k1c2) (by decide +kernel) rfl rfl rfl (by decide +kernel)
set_option maxRecDepth 65536 in
theorem w_c1 : (Jvm.Cond.code ({ cls := "com/example/evolvent/evolvent/LayeredMap", name := "folds", desc := "(JJ)Z" } : Jvm.MethodName) prog_33_method_3_code (4 : Nat) (Option.some Jvm.ClassFile.FieldType.boolean)).before args0 about1 = true := code_word (m := ⟨2, 0⟩) (meth := k2m0) (c := k2c0) (by decide +kernel) rfl rfl rfl (by decide +kernel)
set_option maxRecDepth 65536 in
theorem w_c2 : (Jvm.Cond.code ({ cls := "com/example/evolvent/evolvent/LayeredMapFoldsPinLaw", name := "outgrowsRoot", desc := "(JJ)Z" } : Jvm.MethodName) method_2_code (4 : Nat) (Option.some Jvm.ClassFile.FieldType.boolean)).before args0 about1 = true := code_word (m := ⟨1, 1⟩) (meth := k1m1) (c := k1c1) (by decide +kernel) rfl rfl rfl (by decide +kernel)
def codes1 : List Jvm.Cond := [Jvm.Cond.code x code maxLocals ret, Jvm.Cond.code ({ cls := "com/example/evolvent/evolvent/LayeredMap", name := "folds", desc := "(JJ)Z" } : Jvm.MethodName) prog_33_method_3_code (4 : Nat) (Option.some Jvm.ClassFile.FieldType.boolean), Jvm.Cond.code ({ cls := "com/example/evolvent/evolvent/LayeredMapFoldsPinLaw", name := "outgrowsRoot", desc := "(JJ)Z" } : Jvm.MethodName) method_2_code (4 : Nat) (Option.some Jvm.ClassFile.FieldType.boolean)]
set_option maxRecDepth 65536 in
theorem codes_eq : words1.filter isCode = codes1 := rfl
theorem w_codes : ∀ c ∈ words1.filter isCode, c.before args0 about1 = true := by
  rw [codes_eq]
  intro c hc
  simp only [codes1, List.mem_cons, List.not_mem_nil, or_false] at hc
  rcases hc with rfl | rfl | rfl
  · exact w_c0
  · exact w_c1
  · exact w_c2
set_option maxRecDepth 65536 in
theorem w_t1 : words1.all (fun c => isCode c || c.before args0 about1) = true := by decide +kernel
theorem w_tables : (allAtoms (Jvm.Cond.code x code maxLocals ret :: tables_1)).before args0 about1 = true := by
  rw [allAtoms_all]
  show words1.all (fun c => c.before args0 about1) = true
  refine all_split ?_ w_codes
  rw [w_t1]
set_option maxRecDepth 65536 in
theorem w_case : (Jvm.Cond.and given_1 narrow_1).before args0 about1 = true := by decide +kernel
theorem w_applies : (headSpec (Jvm.Cond.code x code maxLocals ret :: tables_1) room_1).applies x e0.platform about1 = true :=
  (Spec.applies_iff w_frames).mpr ⟨w_running, w_runnable, w_alone, w_named, w_hears, w_ripe, w_room, w_tables⟩
theorem atStart : AtStart classFile x code maxLocals ret World_1 tables_1 room_1 Calls_1 rest_1 Pre_1 launch0 p0 e0 about1 theMethod args0 below0 :=
  ⟨lists_1, trivial, launch0.admits_env _ _ _, launch0.least_env, fairChoices_fair.cas, fairChoices_fair.clock, w_frames, w_args, w_heap, w_applies, trivial, trivial, w_case⟩
end start1
theorem witness_1 : WitnessClaimed_1 := ⟨start1.p0, start1.e0, start1.about1, start1.theMethod, start1.args0, start1.below0, start1.atStart⟩
end Jvm.Pilot.@@N@@
