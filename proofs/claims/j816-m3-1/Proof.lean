import JvmDerived
import JvmDerived.Pilot.@@N@@Statement
import JvmDerived.Pilot.@@N@@Code
set_option linter.unusedVariables false
set_option linter.unusedSimpArgs false
namespace Jvm.RoadKit
open Sem ClassFile Op Lib Jvm.Stand Jvm.Free Jvm.LawKit
section New
variable {p : Program} {l : Launch} {e : Env} {R : Room} {s : State} {m : MethodId} {args : Array Value} {below : List Frame} {meth : Method} {c : Code} {T : State} {locs : List Loc} {cells slots : Nat}
theorem retI (X : Stand p l e R s m args below meth c T locs cells slots) (hx : p.tables.exec = Jvm.exec) {pc : Nat} {Ls : Array Slot} {z : Int32} {rest : List Value} (hret : meth.sig.returnType = some .int) (hd : decode c.code pc = .ok (.ireturn, 1)) {fs : List Frame}
    (hl : ∀ (f : JFrame) (acts : List Action), f.method = m → f.locked = none → f.entered = [] → (doReturn e (T.setTop f) acts (some (.int z))).1 = T.setFrames fs) : Steps p.tables e below (T.setTop (mkF m pc Ls (.int z :: rest))) (T.setFrames fs) := by
  have hm' : T.vm.method? m = some meth := X.method'
  have hn : narrow .int (.int z) = .int z := rfl
  show Steps p.tables e below (T.setTop { method := m, pc := pc, locals := Ls, stack := _ :: rest, locked := none }) _
  jvm_step X.here [X.here.top, hx, hd, hm', hret, hn]
  first | (intro acts; rw [hl _ acts rfl rfl rfl]) | rw [hl _ _ rfl rfl rfl]
  exact Steps.refl _
end New
end Jvm.RoadKit
namespace Jvm.Pilot.@@N@@
open Jvm Jvm.ClassFile Sem Op Lib Jvm.Free Jvm.Stand Jvm.LawKit Jvm.RoadKit Bundle Jvm.Pilot.@@N@@.Jvm.D
theorem d2_0 : decode jdk_30_method_1_code 0 = .ok (.aload_n 0, 1) := by decide +kernel
theorem d2_1 : decode jdk_30_method_1_code 1 = .ok (.invokespecial 1, 3) := by decide +kernel
theorem d2_4 : decode jdk_30_method_1_code 4 = .ok (.return_, 1) := by decide +kernel
theorem pn_2 : plainName "java/lang/Record" = true := by first | (simp [plainName, overriddenIn]; done) | decide +kernel
theorem ef_2 (m : MethodId) (o0 : Addr) : entryFrame m #[(.ref o0)] 1 = mkF m 0 #[.val (.ref o0)] [] := by first | (simp [entryFrame, mkF, argsToLocals, Value.category]; done) | rfl
def Q2 (Z : State) (o0 : Addr) (h0 : Heap) (n0 : Nat) (v : Option Value) (h : Heap) (L : List Loc) : Prop := v = none ∧ Fr n0 L ∧ h = h0
set_option maxRecDepth 65536 in
set_option maxHeartbeats 40000000 in
theorem rm2 (l : Launch) (Z : State) (a0 : Array Value) (hw : ∀ d ∈ tables_1, d.before a0 Z = true) (ws : List Jvm.Cond) (o0 : Addr) (h0 : Heap) (n0 : Nat) (Z0 : n0 ≤ h0.size) :
    MetFree l (⟨"java/lang/Record", "<init>", "()V"⟩ : MethodName) (head1 (Jvm.Cond.code (⟨"java/lang/Record", "<init>", "()V"⟩ : MethodName) jdk_30_method_1_code 1 none :: ws) ({ frames := 1, cells := 0, slots := 0, locals := 12 } : Room)) (fun a U => a = #[(.ref o0)] ∧ Z.Warmed39 U.vm ∧ U.heap = h0) (fun _ _ _ _ _ => True) (fun _ U o U' => ∃ v L, o = .returned v ∧ Q2 Z o0 h0 n0 v U'.heap L ∧ FrameEnd U o U' L ({ frames := 1, cells := 0, slots := 0, locals := 12 } : Room).cells ({ frames := 1, cells := 0, slots := 0, locals := 12 } : Room).slots) := by
  refine MetFree.of_bodySF (plainFor_of_name pn_2) hisR ?_
  intro p e s m args below meth c s₁ Bd hml0 hP hK
  obtain ⟨rfl, hZ, hh⟩ := hP
  have hx := Bd.exec
  have hby := Bd.bytes
  have hml : c.maxLocals = 1 := hml0
  have hown : s.vm.findClass "java/lang/Record" = some m.cls := findClass_of_methodNamed Bd.named
  have hnm := (name_of_methodNamed Bd.named Bd.method).1
  have X0 : Stand p l e ({ frames := 1, cells := 0, slots := 0, locals := 12 } : Room) s m #[(.ref o0)] below meth c s₁ [] 0 0 := Stand.of_body Bd
  have e0 : s₁.heap = h0 := by rw [← hh, Bd.state]; rfl
  have N0 := Fr.nil n0
  obtain ⟨P, pre0, fin⟩ : ∃ P : State → Prop, (∀ t, Steps p.tables e below (s₁.setTop (mkF m 0 #[.val (.ref o0)] [])) t → P t) ∧ (∀ t, P t → Steps p.tables e below (s₁.setTop (entryFrame m #[(.ref o0)] 1)) t) := ⟨fun t => Steps p.tables e below (s₁.setTop (entryFrame m #[(.ref o0)] 1)) t, fun t k => castTop (ef_2 m o0) k, fun t k => k⟩
  have K0 : Keep h0 h0 [] := Keep.refl _ _
  have pre1 : ∀ t, Steps p.tables e below (s₁.setTop (mkF m 1 #[.val (.ref o0)] [(.ref o0)])) t → P t := fun t k => pre0 t (by
      show Steps p.tables e below (s₁.setTop (mkF m 0 #[.val (.ref o0)] [])) _
      refine XS.aloadN X0.here hx rfl (hb hby d2_0) rfl rfl ?_
      exact k)
  obtain ⟨T2, X2, e2, st2⟩ := initO X0 hx hZ hown (hw _ (List.mem_of_getElem? (i := 11) rfl)) (hw _ (List.mem_of_getElem? (i := 12) rfl)) (hw _ (List.mem_of_getElem? (i := 13) rfl)) e0 (g := (mkF m 1 #[.val (.ref o0)] [(.ref o0)])) rfl (by rw [hml]; rfl) rfl (hb hby d2_1) (by decide) (W := 0) (by show 2 * 0 + _ ≤ _; exact Nat.le_of_eq rfl) (by decide)
  have pre2 : ∀ t, Steps p.tables e below (T2.setTop (mkF m 4 #[.val (.ref o0)] [])) t → P t := fun t k => pre1 t (st2 _ k)
  obtain ⟨fs, hr, hrun, hended, hW, hsame⟩ := X2.leave (v := none) (fun _ => rfl)
  refine ⟨_, _, fin _ (pre2 _ ?_), hrun, hended, _, _, rfl, ?_, ⟨_, rfl⟩, hW, hsame.mono (by decide) (by decide)⟩
  · show Steps p.tables e below (T2.setTop (mkF m 4 #[.val (.ref o0)] [])) _
    exact X2.returnOut hx Bd.returns (hb hby d2_4) hr
  · show Q2 Z o0 h0 n0 _ T2.heap _
    rw [e2]
    exact ⟨rfl, N0, rfl⟩
theorem own_pd0 : parseMethodDescriptor "()V" = some ⟨[], none⟩ := by decide +kernel
theorem d1_0 : decode prog_11_method_1_code 0 = .ok (.aload_n 0, 1) := by decide +kernel
theorem d1_1 : decode prog_11_method_1_code 1 = .ok (.invokespecial 1, 3) := by decide +kernel
theorem d1_4 : decode prog_11_method_1_code 4 = .ok (.aload_n 0, 1) := by decide +kernel
theorem d1_5 : decode prog_11_method_1_code 5 = .ok (.lload_n 1, 1) := by decide +kernel
theorem d1_6 : decode prog_11_method_1_code 6 = .ok (.putfield 7, 3) := by decide +kernel
theorem d1_9 : decode prog_11_method_1_code 9 = .ok (.aload_n 0, 1) := by decide +kernel
theorem d1_10 : decode prog_11_method_1_code 10 = .ok (.lload_n 3, 1) := by decide +kernel
theorem d1_11 : decode prog_11_method_1_code 11 = .ok (.putfield 13, 3) := by decide +kernel
theorem d1_14 : decode prog_11_method_1_code 14 = .ok (.return_, 1) := by decide +kernel
theorem pn_1 : plainName "com/example/fairmark/fairmark/TimeRange" = true := by first | (simp [plainName, overriddenIn]; done) | decide +kernel
theorem ef_1 (m : MethodId) (o0 : Addr) (q1 : Int64) (q2 : Int64) : entryFrame m #[(.ref o0), (.long q1), (.long q2)] 5 = mkF m 0 #[.val (.ref o0), .val (.long q1), .second, .val (.long q2), .second] [] := by first | (simp [entryFrame, mkF, argsToLocals, Value.category]; done) | rfl
def Q1 (Z : State) (o0 : Addr) (q1 : Int64) (q2 : Int64) (h0 : Heap) (n0 : Nat) (v : Option Value) (h : Heap) (L : List Loc) : Prop := v = none ∧ Fr n0 L ∧ Keep h0 h [o0] ∧ Exa Z h o0 "com/example/fairmark/fairmark/TimeRange" ∧ Fld Z h o0 "com/example/fairmark/fairmark/TimeRange" "startMs" "J" (.long q1) ∧ Fld Z h o0 "com/example/fairmark/fairmark/TimeRange" "endMs" "J" (.long q2)
set_option maxRecDepth 65536 in
set_option maxHeartbeats 40000000 in
theorem rm1 (l : Launch) (Z : State) (a0 : Array Value) (hw : ∀ d ∈ tables_1, d.before a0 Z = true) (ws : List Jvm.Cond) (o0 : Addr) (q1 : Int64) (q2 : Int64) (h0 : Heap) (n0 : Nat) (Z0 : n0 ≤ h0.size) (E_o0 : Exa Z h0 o0 "com/example/fairmark/fairmark/TimeRange") (F_startMs_o0 : Fld Z h0 o0 "com/example/fairmark/fairmark/TimeRange" "startMs" "J" (.long (0 : Int64))) (F_endMs_o0 : Fld Z h0 o0 "com/example/fairmark/fairmark/TimeRange" "endMs" "J" (.long (0 : Int64))) (g_o0 : n0 ≤ o0) :
    MetFree l (⟨"com/example/fairmark/fairmark/TimeRange", "<init>", "(JJ)V"⟩ : MethodName) (head1 (Jvm.Cond.code (⟨"com/example/fairmark/fairmark/TimeRange", "<init>", "(JJ)V"⟩ : MethodName) prog_11_method_1_code 5 none :: ws) ({ frames := 2, cells := 0, slots := 0, locals := 24 } : Room)) (fun a U => a = #[(.ref o0), (.long q1), (.long q2)] ∧ Z.Warmed39 U.vm ∧ U.heap = h0) (fun _ _ _ _ _ => True) (fun _ U o U' => ∃ v L, o = .returned v ∧ Q1 Z o0 q1 q2 h0 n0 v U'.heap L ∧ FrameEnd U o U' L ({ frames := 2, cells := 0, slots := 0, locals := 24 } : Room).cells ({ frames := 2, cells := 0, slots := 0, locals := 24 } : Room).slots) := by
  refine MetFree.of_bodySF (plainFor_of_name pn_1) hisR ?_
  intro p e s m args below meth c s₁ Bd hml0 hP hK
  obtain ⟨rfl, hZ, hh⟩ := hP
  have hx := Bd.exec
  have hby := Bd.bytes
  have hml : c.maxLocals = 5 := hml0
  have hown : s.vm.findClass "com/example/fairmark/fairmark/TimeRange" = some m.cls := findClass_of_methodNamed Bd.named
  have hnm := (name_of_methodNamed Bd.named Bd.method).1
  have X0 : Stand p l e ({ frames := 2, cells := 0, slots := 0, locals := 24 } : Room) s m #[(.ref o0), (.long q1), (.long q2)] below meth c s₁ [] 0 0 := Stand.of_body Bd
  have e0 : s₁.heap = h0 := by rw [← hh, Bd.state]; rfl
  have N0 := Fr.nil n0
  obtain ⟨P, pre0, fin⟩ : ∃ P : State → Prop, (∀ t, Steps p.tables e below (s₁.setTop (mkF m 0 #[.val (.ref o0), .val (.long q1), .second, .val (.long q2), .second] [])) t → P t) ∧ (∀ t, P t → Steps p.tables e below (s₁.setTop (entryFrame m #[(.ref o0), (.long q1), (.long q2)] 5)) t) := ⟨fun t => Steps p.tables e below (s₁.setTop (entryFrame m #[(.ref o0), (.long q1), (.long q2)] 5)) t, fun t k => castTop (ef_1 m o0 q1 q2) k, fun t k => k⟩
  have K0 : Keep h0 h0 [o0] := Keep.refl _ _
  have pre1 : ∀ t, Steps p.tables e below (s₁.setTop (mkF m 1 #[.val (.ref o0), .val (.long q1), .second, .val (.long q2), .second] [(.ref o0)])) t → P t := fun t k => pre0 t (by
      show Steps p.tables e below (s₁.setTop (mkF m 0 #[.val (.ref o0), .val (.long q1), .second, .val (.long q2), .second] [])) _
      refine XS.aloadN X0.here hx rfl (hb hby d1_0) rfl rfl ?_
      exact k)
  obtain ⟨_, _, ⟨T2, L2, k2, n2⟩, -, X2, ⟨Lc2, hQ2, l2, y2, z2⟩, st2⟩ := X0.specialBack hx (y := (⟨"java/lang/Record", "<init>", "()V"⟩ : MethodName)) rfl hown (mvT hZ (hw _ (List.mem_of_getElem? (i := 6) rfl))) (mvT hZ (hw _ (List.mem_of_getElem? (i := 7) rfl))) (mvT hZ (hw _ (List.mem_of_getElem? (i := 10) rfl))) (by decide) (backOf (W := 0) (rm2 l Z a0 hw [] o0 h0 n0 Z0 ) hZ (hw _ (List.mem_of_getElem? (i := 10) rfl)) (hw _ (List.mem_of_getElem? (i := 9) rfl)) (by decide) (by decide)) (g := (mkF m 1 #[.val (.ref o0), .val (.long q1), .second, .val (.long q2), .second] [(.ref o0)])) rfl (by rw [hml]; rfl) (Steps.refl _) (a := o0) (argsL := []) (rest := []) (lenOf own_pd0 rfl) rfl (by show 2 * 0 + _ ≤ _; exact Nat.le_of_eq rfl) (hb hby d1_1) (fun _ _ => ⟨rfl, e0, (by decide : 0 + 0 ≤ _), (by decide : 0 + 0 ≤ _)⟩)
  dsimp only [Pt.U, Pt.locs, Pt.cells, Pt.slots] at X2 l2 y2 z2 st2 hQ2
  subst l2 y2 z2
  obtain ⟨rfl, N2q, e2⟩ := hQ2
  have N2 := Fr.app N0 N2q
  have pre2 : ∀ t, Steps p.tables e below (T2.setTop (mkF m 4 #[.val (.ref o0), .val (.long q1), .second, .val (.long q2), .second] [])) t → P t := fun t k => pre1 t (st2.trans k)
  have pre3 : ∀ t, Steps p.tables e below (T2.setTop (mkF m 6 #[.val (.ref o0), .val (.long q1), .second, .val (.long q2), .second] [(.long q1), (.ref o0)])) t → P t := fun t k => pre2 t (by
      show Steps p.tables e below (T2.setTop (mkF m 4 #[.val (.ref o0), .val (.long q1), .second, .val (.long q2), .second] [])) _
      refine XS.aloadN X2.here hx rfl (hb hby d1_4) rfl rfl ?_
      show Steps p.tables e below (T2.setTop (mkF m 5 #[.val (.ref o0), .val (.long q1), .second, .val (.long q2), .second] [(.ref o0)])) _
      refine XS.lloadN X2.here hx rfl (hb hby d1_5) rfl ?_
      exact k)
  obtain ⟨T4, h4, X4, e4, W4, st4⟩ := putF X2 hx hZ hown (host := "") (Or.inl (hw _ (List.mem_of_getElem? (i := 14) rfl))) Via.refl e2 F_startMs_o0 E_o0 (Or.inr ⟨(hw _ (List.mem_of_getElem? (i := 15) rfl)), rfl, hnm⟩) (hw _ (List.mem_of_getElem? (i := 1) rfl)) (ty := .long) (by decide) rfl rfl (g := (mkF m 6 #[.val (.ref o0), .val (.long q1), .second, .val (.long q2), .second] [(.long q1), (.ref o0)])) rfl rfl (hb hby d1_6)
  have pre4 : ∀ t, Steps p.tables e below (T4.setTop (mkF m 9 #[.val (.ref o0), .val (.long q1), .second, .val (.long q2), .second] [])) t → P t := fun t k => pre3 t (st4 _ k)
  have Fw4 := F_startMs_o0.same W4
  have c5 : n0 ≤ h4.size := Nat.le_trans Z0 (Keep.of_wr W4).1
  have c6 : Exa Z h4 o0 "com/example/fairmark/fairmark/TimeRange" := E_o0.wr W4
  have c7 : Fld Z h4 o0 "com/example/fairmark/fairmark/TimeRange" "endMs" "J" (.long (0 : Int64)) := F_endMs_o0.other W4 (Or.inr (slot_ne (Or.inr (hw _ (List.mem_of_getElem? (i := 17) rfl))) (Or.inr (hw _ (List.mem_of_getElem? (i := 15) rfl))) (by decide) (t := .long) (t' := .long) (by decide) (by decide)))
  have K8 : Keep h0 h4 [o0] := K0.wr W4 (Or.inl (List.mem_of_getElem? (i := 0) rfl))
  have N4 := Fr.snoc X4 N2 g_o0
  have pre9 : ∀ t, Steps p.tables e below (T4.setTop (mkF m 11 #[.val (.ref o0), .val (.long q1), .second, .val (.long q2), .second] [(.long q2), (.ref o0)])) t → P t := fun t k => pre4 t (by
      show Steps p.tables e below (T4.setTop (mkF m 9 #[.val (.ref o0), .val (.long q1), .second, .val (.long q2), .second] [])) _
      refine XS.aloadN X4.here hx rfl (hb hby d1_9) rfl rfl ?_
      show Steps p.tables e below (T4.setTop (mkF m 10 #[.val (.ref o0), .val (.long q1), .second, .val (.long q2), .second] [(.ref o0)])) _
      refine XS.lloadN X4.here hx rfl (hb hby d1_10) rfl ?_
      exact k)
  obtain ⟨T10, h10, X10, e10, W10, st10⟩ := putF X4 hx hZ hown (host := "") (Or.inl (hw _ (List.mem_of_getElem? (i := 16) rfl))) Via.refl e4 c7 c6 (Or.inr ⟨(hw _ (List.mem_of_getElem? (i := 17) rfl)), rfl, hnm⟩) (hw _ (List.mem_of_getElem? (i := 1) rfl)) (ty := .long) (by decide) rfl rfl (g := (mkF m 11 #[.val (.ref o0), .val (.long q1), .second, .val (.long q2), .second] [(.long q2), (.ref o0)])) rfl rfl (hb hby d1_11)
  have pre10 : ∀ t, Steps p.tables e below (T10.setTop (mkF m 14 #[.val (.ref o0), .val (.long q1), .second, .val (.long q2), .second] [])) t → P t := fun t k => pre9 t (st10 _ k)
  have Fw10 := c7.same W10
  have c11 : n0 ≤ h10.size := Nat.le_trans c5 (Keep.of_wr W10).1
  have c12 : Exa Z h10 o0 "com/example/fairmark/fairmark/TimeRange" := c6.wr W10
  have c13 : Fld Z h10 o0 "com/example/fairmark/fairmark/TimeRange" "startMs" "J" (.long q1) := Fw4.other W10 (Or.inr (slot_ne (Or.inr (hw _ (List.mem_of_getElem? (i := 15) rfl))) (Or.inr (hw _ (List.mem_of_getElem? (i := 17) rfl))) (by decide) (t := .long) (t' := .long) (by decide) (by decide)))
  have K14 : Keep h0 h10 [o0] := K8.wr W10 (Or.inl (List.mem_of_getElem? (i := 0) rfl))
  have N10 := Fr.snoc X10 N4 g_o0
  obtain ⟨fs, hr, hrun, hended, hW, hsame⟩ := X10.leave (v := none) (fun _ => rfl)
  refine ⟨_, _, fin _ (pre10 _ ?_), hrun, hended, _, _, rfl, ?_, ⟨_, rfl⟩, hW, hsame.mono (by decide) (by decide)⟩
  · show Steps p.tables e below (T10.setTop (mkF m 14 #[.val (.ref o0), .val (.long q1), .second, .val (.long q2), .second] [])) _
    exact X10.returnOut hx Bd.returns (hb hby d1_14) hr
  · show Q1 Z o0 q1 q2 h0 n0 _ T10.heap _
    rw [e10]
    exact ⟨rfl, N10, K14, c12, c13, Fw10⟩
theorem d4_0 : decode prog_11_method_3_code 0 = .ok (.aload_n 0, 1) := by decide +kernel
theorem d4_1 : decode prog_11_method_3_code 1 = .ok (.getfield 7, 3) := by decide +kernel
theorem d4_4 : decode prog_11_method_3_code 4 = .ok (.lload_n 1, 1) := by decide +kernel
theorem d4_5 : decode prog_11_method_3_code 5 = .ok (.lcmp, 1) := by decide +kernel
theorem d4_6 : decode prog_11_method_3_code 6 = .ok (.ifCond .gt 16, 3) := by decide +kernel
theorem d4_9 : decode prog_11_method_3_code 9 = .ok (.lload_n 1, 1) := by decide +kernel
theorem d4_10 : decode prog_11_method_3_code 10 = .ok (.aload_n 0, 1) := by decide +kernel
theorem d4_11 : decode prog_11_method_3_code 11 = .ok (.getfield 13, 3) := by decide +kernel
theorem d4_14 : decode prog_11_method_3_code 14 = .ok (.lcmp, 1) := by decide +kernel
theorem d4_15 : decode prog_11_method_3_code 15 = .ok (.ifCond .gt 7, 3) := by decide +kernel
theorem d4_18 : decode prog_11_method_3_code 18 = .ok (.iconst 1, 1) := by decide +kernel
theorem d4_19 : decode prog_11_method_3_code 19 = .ok (.goto 4, 3) := by decide +kernel
theorem d4_22 : decode prog_11_method_3_code 22 = .ok (.iconst 0, 1) := by decide +kernel
theorem d4_23 : decode prog_11_method_3_code 23 = .ok (.ireturn, 1) := by decide +kernel
theorem pn_4 : plainName "com/example/fairmark/fairmark/TimeRange" = true := by first | (simp [plainName, overriddenIn]; done) | decide +kernel
theorem ef_4 (m : MethodId) (o0 : Addr) (q1 : Int64) : entryFrame m #[(.ref o0), (.long q1)] 3 = mkF m 0 #[.val (.ref o0), .val (.long q1), .second] [] := by first | (simp [entryFrame, mkF, argsToLocals, Value.category]; done) | rfl
def own_f4 (q1 : Int64) (w_startMs_o0 : Int64) (w_endMs_o0 : Int64) : Int32 := (if q1 < w_startMs_o0 then (0 : Int32) else (if w_endMs_o0 < q1 then (0 : Int32) else (1 : Int32)))
def Q4 (Z : State) (o0 : Addr) (q1 : Int64) (w_startMs_o0 : Int64) (w_endMs_o0 : Int64) (h0 : Heap) (n0 : Nat) (v : Option Value) (h : Heap) (L : List Loc) : Prop := v = some (.int (own_f4 q1 w_startMs_o0 w_endMs_o0)) ∧ Fr n0 L ∧ h = h0
set_option maxRecDepth 65536 in
set_option maxHeartbeats 40000000 in
theorem rm4 (l : Launch) (Z : State) (a0 : Array Value) (hw : ∀ d ∈ tables_1, d.before a0 Z = true) (ws : List Jvm.Cond) (o0 : Addr) (q1 : Int64) (w_startMs_o0 : Int64) (w_endMs_o0 : Int64) (h0 : Heap) (n0 : Nat) (Z0 : n0 ≤ h0.size) (F_startMs_o0 : Fld Z h0 o0 "com/example/fairmark/fairmark/TimeRange" "startMs" "J" (.long w_startMs_o0)) (F_endMs_o0 : Fld Z h0 o0 "com/example/fairmark/fairmark/TimeRange" "endMs" "J" (.long w_endMs_o0)) :
    MetFree l (⟨"com/example/fairmark/fairmark/TimeRange", "holds", "(J)Z"⟩ : MethodName) (head1 (Jvm.Cond.code (⟨"com/example/fairmark/fairmark/TimeRange", "holds", "(J)Z"⟩ : MethodName) prog_11_method_3_code 3 (some .boolean) :: ws) ({ frames := 0, cells := 0, slots := 0, locals := 0 } : Room)) (fun a U => a = #[(.ref o0), (.long q1)] ∧ Z.Warmed39 U.vm ∧ U.heap = h0) (fun _ _ _ _ _ => True) (fun _ U o U' => ∃ v L, o = .returned v ∧ Q4 Z o0 q1 w_startMs_o0 w_endMs_o0 h0 n0 v U'.heap L ∧ FrameEnd U o U' L ({ frames := 0, cells := 0, slots := 0, locals := 0 } : Room).cells ({ frames := 0, cells := 0, slots := 0, locals := 0 } : Room).slots) := by
  refine MetFree.of_bodySF (plainFor_of_name pn_4) hisR ?_
  intro p e s m args below meth c s₁ Bd hml0 hP hK
  obtain ⟨rfl, hZ, hh⟩ := hP
  have hx := Bd.exec
  have hby := Bd.bytes
  have hml : c.maxLocals = 3 := hml0
  have hown : s.vm.findClass "com/example/fairmark/fairmark/TimeRange" = some m.cls := findClass_of_methodNamed Bd.named
  have hnm := (name_of_methodNamed Bd.named Bd.method).1
  have X0 : Stand p l e ({ frames := 0, cells := 0, slots := 0, locals := 0 } : Room) s m #[(.ref o0), (.long q1)] below meth c s₁ [] 0 0 := Stand.of_body Bd
  have e0 : s₁.heap = h0 := by rw [← hh, Bd.state]; rfl
  have N0 := Fr.nil n0
  obtain ⟨P, pre0, fin⟩ : ∃ P : State → Prop, (∀ t, Steps p.tables e below (s₁.setTop (mkF m 0 #[.val (.ref o0), .val (.long q1), .second] [])) t → P t) ∧ (∀ t, P t → Steps p.tables e below (s₁.setTop (entryFrame m #[(.ref o0), (.long q1)] 3)) t) := ⟨fun t => Steps p.tables e below (s₁.setTop (entryFrame m #[(.ref o0), (.long q1)] 3)) t, fun t k => castTop (ef_4 m o0 q1) k, fun t k => k⟩
  have K0 : Keep h0 h0 [] := Keep.refl _ _
  have pre1 : ∀ t, Steps p.tables e below (s₁.setTop (mkF m 1 #[.val (.ref o0), .val (.long q1), .second] [(.ref o0)])) t → P t := fun t k => pre0 t (by
      show Steps p.tables e below (s₁.setTop (mkF m 0 #[.val (.ref o0), .val (.long q1), .second] [])) _
      refine XS.aloadN X0.here hx rfl (hb hby d4_0) rfl rfl ?_
      exact k)
  obtain ⟨T2, X2, e2, st2⟩ := getF X0 hx hZ hown (host := "") (Or.inl (hw _ (List.mem_of_getElem? (i := 14) rfl))) Via.refl e0 F_startMs_o0 (g := (mkF m 1 #[.val (.ref o0), .val (.long q1), .second] [(.ref o0)])) rfl rfl (hb hby d4_1)
  have pre2 : ∀ t, Steps p.tables e below (T2.setTop (mkF m 4 #[.val (.ref o0), .val (.long q1), .second] [(.long w_startMs_o0)])) t → P t := fun t k => pre1 t (st2 _ k)
  have pre3 : ∀ t, Steps p.tables e below (T2.setTop (mkF m 6 #[.val (.ref o0), .val (.long q1), .second] [(.int (lcmpW w_startMs_o0 q1))])) t → P t := fun t k => pre2 t (by
      show Steps p.tables e below (T2.setTop (mkF m 4 #[.val (.ref o0), .val (.long q1), .second] [(.long w_startMs_o0)])) _
      refine XS.lloadN X2.here hx rfl (hb hby d4_4) rfl ?_
      show Steps p.tables e below (T2.setTop (mkF m 5 #[.val (.ref o0), .val (.long q1), .second] [(.long q1), (.long w_startMs_o0)])) _
      refine XS.lcmp X2.here hx rfl (hb hby d4_5) rfl ?_
      exact k)
  obtain ⟨T13, L13, v12, X13, e13, N13, hv12, pre13⟩ : ∃ (T' : State) (L' : List Loc) (v12 : Int32), Stand p l e ({ frames := 0, cells := 0, slots := 0, locals := 0 } : Room) s m #[(.ref o0), (.long q1)] below meth c T' L' 0 0 ∧ T'.heap = h0 ∧ Fr n0 L' ∧ v12 = (if q1 < w_startMs_o0 then (0 : Int32) else (if w_endMs_o0 < q1 then (0 : Int32) else (1 : Int32))) ∧ (∀ t, Steps p.tables e below (T'.setTop (mkF m 23 #[.val (.ref o0), .val (.long q1), .second] [(.int v12)])) t → P t) := by
    by_cases hc4 : q1 < w_startMs_o0
    · have pre5 : ∀ t, Steps p.tables e below (T2.setTop (mkF m 23 #[.val (.ref o0), .val (.long q1), .second] [(.int (0 : Int32))])) t → P t := fun t k => pre3 t (by
          show Steps p.tables e below (T2.setTop (mkF m 6 #[.val (.ref o0), .val (.long q1), .second] [(.int (lcmpW w_startMs_o0 q1))])) _
          refine XS.ifYes X2.here hx rfl (pc0 := 6) (pc' := 22) rfl (hb hby d4_6) rfl ((if0 _ _).trans (tlt ((lw_gt _ _).mpr hc4)).2.2.1) (by decide) (by decide) ?_
          show Steps p.tables e below (T2.setTop (mkF m 22 #[.val (.ref o0), .val (.long q1), .second] [])) _
          refine XS.iconst X2.here hx rfl (hb hby d4_22) ?_
          exact k)
      exact ⟨_, _, (0 : Int32), X2, e2, N0, (by first | (rw [if_pos hc4]; done) | simp only [if_pos hc4] | simp [if_pos hc4]), pre5⟩
    · have pre6 : ∀ t, Steps p.tables e below (T2.setTop (mkF m 11 #[.val (.ref o0), .val (.long q1), .second] [(.ref o0), (.long q1)])) t → P t := fun t k => pre3 t (by
          show Steps p.tables e below (T2.setTop (mkF m 6 #[.val (.ref o0), .val (.long q1), .second] [(.int (lcmpW w_startMs_o0 q1))])) _
          refine XS.ifNo X2.here hx rfl (hb hby d4_6) rfl ((if0 _ _).trans (flt (fun q => hc4 ((lw_gt _ _).mp q))).2.2.1) ?_
          show Steps p.tables e below (T2.setTop (mkF m 9 #[.val (.ref o0), .val (.long q1), .second] [])) _
          refine XS.lloadN X2.here hx rfl (hb hby d4_9) rfl ?_
          show Steps p.tables e below (T2.setTop (mkF m 10 #[.val (.ref o0), .val (.long q1), .second] [(.long q1)])) _
          refine XS.aloadN X2.here hx rfl (hb hby d4_10) rfl rfl ?_
          exact k)
      obtain ⟨T7, X7, e7, st7⟩ := getF X2 hx hZ hown (host := "") (Or.inl (hw _ (List.mem_of_getElem? (i := 16) rfl))) Via.refl e2 F_endMs_o0 (g := (mkF m 11 #[.val (.ref o0), .val (.long q1), .second] [(.ref o0), (.long q1)])) rfl rfl (hb hby d4_11)
      have pre7 : ∀ t, Steps p.tables e below (T7.setTop (mkF m 14 #[.val (.ref o0), .val (.long q1), .second] [(.long w_endMs_o0), (.long q1)])) t → P t := fun t k => pre6 t (st7 _ k)
      have pre8 : ∀ t, Steps p.tables e below (T7.setTop (mkF m 15 #[.val (.ref o0), .val (.long q1), .second] [(.int (lcmpW q1 w_endMs_o0))])) t → P t := fun t k => pre7 t (by
          show Steps p.tables e below (T7.setTop (mkF m 14 #[.val (.ref o0), .val (.long q1), .second] [(.long w_endMs_o0), (.long q1)])) _
          refine XS.lcmp X7.here hx rfl (hb hby d4_14) rfl ?_
          exact k)
      by_cases hc9 : w_endMs_o0 < q1
      · have pre10 : ∀ t, Steps p.tables e below (T7.setTop (mkF m 23 #[.val (.ref o0), .val (.long q1), .second] [(.int (0 : Int32))])) t → P t := fun t k => pre8 t (by
            show Steps p.tables e below (T7.setTop (mkF m 15 #[.val (.ref o0), .val (.long q1), .second] [(.int (lcmpW q1 w_endMs_o0))])) _
            refine XS.ifYes X7.here hx rfl (pc0 := 15) (pc' := 22) rfl (hb hby d4_15) rfl ((if0 _ _).trans (tlt ((lw_gt _ _).mpr hc9)).2.2.1) (by decide) (by decide) ?_
            show Steps p.tables e below (T7.setTop (mkF m 22 #[.val (.ref o0), .val (.long q1), .second] [])) _
            refine XS.iconst X7.here hx rfl (hb hby d4_22) ?_
            exact k)
        exact ⟨_, _, (0 : Int32), X7, e7, N0, (by first | (rw [if_neg hc4, if_pos hc9]; done) | simp only [if_neg hc4, if_pos hc9] | simp [if_neg hc4, if_pos hc9]), pre10⟩
      · have pre11 : ∀ t, Steps p.tables e below (T7.setTop (mkF m 23 #[.val (.ref o0), .val (.long q1), .second] [(.int (1 : Int32))])) t → P t := fun t k => pre8 t (by
            show Steps p.tables e below (T7.setTop (mkF m 15 #[.val (.ref o0), .val (.long q1), .second] [(.int (lcmpW q1 w_endMs_o0))])) _
            refine XS.ifNo X7.here hx rfl (hb hby d4_15) rfl ((if0 _ _).trans (flt (fun q => hc9 ((lw_gt _ _).mp q))).2.2.1) ?_
            show Steps p.tables e below (T7.setTop (mkF m 18 #[.val (.ref o0), .val (.long q1), .second] [])) _
            refine XS.iconst X7.here hx rfl (hb hby d4_18) ?_
            show Steps p.tables e below (T7.setTop (mkF m 19 #[.val (.ref o0), .val (.long q1), .second] [(.int (1 : Int32))])) _
            refine XS.goto X7.here hx rfl (pc0 := 19) (pc' := 23) rfl (hb hby d4_19) (by decide) (by decide) ?_
            exact k)
        exact ⟨_, _, (1 : Int32), X7, e7, N0, (by first | (rw [if_neg hc4, if_neg hc9]; done) | simp only [if_neg hc4, if_neg hc9] | simp [if_neg hc4, if_neg hc9]), pre11⟩
  obtain ⟨fs, hr, hrun, hended, hW, hsame⟩ := X13.leave (v := some (.int v12)) (fun h => by rw [Bd.returns] at h; cases h)
  refine ⟨_, _, fin _ (pre13 _ ?_), hrun, hended, _, _, rfl, ?_, ⟨_, rfl⟩, hW, hsame.mono (by decide) (by decide)⟩
  · show Steps p.tables e below (T13.setTop (mkF m 23 #[.val (.ref o0), .val (.long q1), .second] [(.int v12)])) _
    have hnar : nar .boolean v12 = v12 := by subst hv12; first | rfl | (split <;> rfl) | ((try simp only []); (repeat' split) <;> rfl)
    exact retN X13 hx (t := .boolean) Bd.returns (by simp) (hb hby d4_23) (by rw [hnar]; exact hr)
  · show Q4 Z o0 q1 w_startMs_o0 w_endMs_o0 h0 n0 _ T13.heap _
    rw [e13]
    exact ⟨(by subst hv12; first | rfl | simp only [own_f4]), N13, rfl⟩
theorem d5_0 : decode jdk_29_method_70_code 0 = .ok (.lload_n 0, 1) := by decide +kernel
theorem d5_1 : decode jdk_29_method_70_code 1 = .ok (.lload_n 2, 1) := by decide +kernel
theorem d5_2 : decode jdk_29_method_70_code 2 = .ok (.lcmp, 1) := by decide +kernel
theorem d5_3 : decode jdk_29_method_70_code 3 = .ok (.ifCond .gt 7, 3) := by decide +kernel
theorem d5_6 : decode jdk_29_method_70_code 6 = .ok (.lload_n 0, 1) := by decide +kernel
theorem d5_7 : decode jdk_29_method_70_code 7 = .ok (.goto 4, 3) := by decide +kernel
theorem d5_10 : decode jdk_29_method_70_code 10 = .ok (.lload_n 2, 1) := by decide +kernel
theorem d5_11 : decode jdk_29_method_70_code 11 = .ok (.lreturn, 1) := by decide +kernel
theorem ef_5 (m : MethodId) (q0 : Int64) (q1 : Int64) : entryFrame m #[(.long q0), (.long q1)] 4 = mkF m 0 #[.val (.long q0), .second, .val (.long q1), .second] [] := by first | (simp [entryFrame, mkF, argsToLocals, Value.category]; done) | rfl
def own_f5 (q0 : Int64) (q1 : Int64) : Int64 := (if q1 < q0 then q1 else q0)
def Q5 (Z : State) (q0 : Int64) (q1 : Int64) (h0 : Heap) (n0 : Nat) (v : Option Value) (h : Heap) (L : List Loc) : Prop := v = some (.long (own_f5 q0 q1)) ∧ Fr n0 L ∧ h = h0
set_option maxRecDepth 65536 in
set_option maxHeartbeats 40000000 in
theorem rm5 (l : Launch) (Z : State) (a0 : Array Value) (hw : ∀ d ∈ tables_1, d.before a0 Z = true) (ws : List Jvm.Cond) (q0 : Int64) (q1 : Int64) (h0 : Heap) (n0 : Nat) (Z0 : n0 ≤ h0.size) :
    MetFree l (⟨"java/lang/Math", "min", "(JJ)J"⟩ : MethodName) (head1 (Jvm.Cond.code (⟨"java/lang/Math", "min", "(JJ)J"⟩ : MethodName) jdk_29_method_70_code 4 (some .long) :: ws) ({ frames := 0, cells := 0, slots := 0, locals := 0 } : Room)) (fun a U => a = #[(.long q0), (.long q1)] ∧ Z.Warmed39 U.vm ∧ U.heap = h0) (fun _ _ _ _ _ => True) (fun _ U o U' => ∃ v L, o = .returned v ∧ Q5 Z q0 q1 h0 n0 v U'.heap L ∧ FrameEnd U o U' L ({ frames := 0, cells := 0, slots := 0, locals := 0 } : Room).cells ({ frames := 0, cells := 0, slots := 0, locals := 0 } : Room).slots) := by
  refine MetFree.of_bodySF (Jvm.Free.JP.mathPlain rfl (by decide +kernel)) hisR ?_
  intro p e s m args below meth c s₁ Bd hml0 hP hK
  obtain ⟨rfl, hZ, hh⟩ := hP
  have hx := Bd.exec
  have hby := Bd.bytes
  have hml : c.maxLocals = 4 := hml0
  have hown : s.vm.findClass "java/lang/Math" = some m.cls := findClass_of_methodNamed Bd.named
  have hnm := (name_of_methodNamed Bd.named Bd.method).1
  have X0 : Stand p l e ({ frames := 0, cells := 0, slots := 0, locals := 0 } : Room) s m #[(.long q0), (.long q1)] below meth c s₁ [] 0 0 := Stand.of_body Bd
  have e0 : s₁.heap = h0 := by rw [← hh, Bd.state]; rfl
  have N0 := Fr.nil n0
  obtain ⟨P, pre0, fin⟩ : ∃ P : State → Prop, (∀ t, Steps p.tables e below (s₁.setTop (mkF m 0 #[.val (.long q0), .second, .val (.long q1), .second] [])) t → P t) ∧ (∀ t, P t → Steps p.tables e below (s₁.setTop (entryFrame m #[(.long q0), (.long q1)] 4)) t) := ⟨fun t => Steps p.tables e below (s₁.setTop (entryFrame m #[(.long q0), (.long q1)] 4)) t, fun t k => castTop (ef_5 m q0 q1) k, fun t k => k⟩
  have K0 : Keep h0 h0 [] := Keep.refl _ _
  have pre1 : ∀ t, Steps p.tables e below (s₁.setTop (mkF m 3 #[.val (.long q0), .second, .val (.long q1), .second] [(.int (lcmpW q0 q1))])) t → P t := fun t k => pre0 t (by
      show Steps p.tables e below (s₁.setTop (mkF m 0 #[.val (.long q0), .second, .val (.long q1), .second] [])) _
      refine XS.lloadN X0.here hx rfl (hb hby d5_0) rfl ?_
      show Steps p.tables e below (s₁.setTop (mkF m 1 #[.val (.long q0), .second, .val (.long q1), .second] [(.long q0)])) _
      refine XS.lloadN X0.here hx rfl (hb hby d5_1) rfl ?_
      show Steps p.tables e below (s₁.setTop (mkF m 2 #[.val (.long q0), .second, .val (.long q1), .second] [(.long q1), (.long q0)])) _
      refine XS.lcmp X0.here hx rfl (hb hby d5_2) rfl ?_
      exact k)
  obtain ⟨T6, L6, v5, X6, e6, N6, hv5, pre6⟩ : ∃ (T' : State) (L' : List Loc) (v5 : Int64), Stand p l e ({ frames := 0, cells := 0, slots := 0, locals := 0 } : Room) s m #[(.long q0), (.long q1)] below meth c T' L' 0 0 ∧ T'.heap = h0 ∧ Fr n0 L' ∧ v5 = (if q1 < q0 then q1 else q0) ∧ (∀ t, Steps p.tables e below (T'.setTop (mkF m 11 #[.val (.long q0), .second, .val (.long q1), .second] [(.long v5)])) t → P t) := by
    by_cases hc2 : q1 < q0
    · have pre3 : ∀ t, Steps p.tables e below (s₁.setTop (mkF m 11 #[.val (.long q0), .second, .val (.long q1), .second] [(.long q1)])) t → P t := fun t k => pre1 t (by
          show Steps p.tables e below (s₁.setTop (mkF m 3 #[.val (.long q0), .second, .val (.long q1), .second] [(.int (lcmpW q0 q1))])) _
          refine XS.ifYes X0.here hx rfl (pc0 := 3) (pc' := 10) rfl (hb hby d5_3) rfl ((if0 _ _).trans (tlt ((lw_gt _ _).mpr hc2)).2.2.1) (by decide) (by decide) ?_
          show Steps p.tables e below (s₁.setTop (mkF m 10 #[.val (.long q0), .second, .val (.long q1), .second] [])) _
          refine XS.lloadN X0.here hx rfl (hb hby d5_10) rfl ?_
          exact k)
      exact ⟨_, _, q1, X0, e0, N0, (by first | (rw [if_pos hc2]; done) | simp only [if_pos hc2] | simp [if_pos hc2]), pre3⟩
    · have pre4 : ∀ t, Steps p.tables e below (s₁.setTop (mkF m 11 #[.val (.long q0), .second, .val (.long q1), .second] [(.long q0)])) t → P t := fun t k => pre1 t (by
          show Steps p.tables e below (s₁.setTop (mkF m 3 #[.val (.long q0), .second, .val (.long q1), .second] [(.int (lcmpW q0 q1))])) _
          refine XS.ifNo X0.here hx rfl (hb hby d5_3) rfl ((if0 _ _).trans (flt (fun q => hc2 ((lw_gt _ _).mp q))).2.2.1) ?_
          show Steps p.tables e below (s₁.setTop (mkF m 6 #[.val (.long q0), .second, .val (.long q1), .second] [])) _
          refine XS.lloadN X0.here hx rfl (hb hby d5_6) rfl ?_
          show Steps p.tables e below (s₁.setTop (mkF m 7 #[.val (.long q0), .second, .val (.long q1), .second] [(.long q0)])) _
          refine XS.goto X0.here hx rfl (pc0 := 7) (pc' := 11) rfl (hb hby d5_7) (by decide) (by decide) ?_
          exact k)
      exact ⟨_, _, q0, X0, e0, N0, (by first | (rw [if_neg hc2]; done) | simp only [if_neg hc2] | simp [if_neg hc2]), pre4⟩
  obtain ⟨fs, hr, hrun, hended, hW, hsame⟩ := X6.leave (v := some (.long v5)) (fun h => by rw [Bd.returns] at h; cases h)
  refine ⟨_, _, fin _ (pre6 _ ?_), hrun, hended, _, _, rfl, ?_, ⟨_, rfl⟩, hW, hsame.mono (by decide) (by decide)⟩
  · show Steps p.tables e below (T6.setTop (mkF m 11 #[.val (.long q0), .second, .val (.long q1), .second] [(.long v5)])) _
    jvm_step X6.here [X6.here.top, hx, (hb hby d5_11), X6.method', Bd.returns, narrow]
    first | (intro acts; rw [hr _ acts rfl rfl rfl]) | rw [hr _ _ rfl rfl rfl]
    exact Steps.refl _
  · show Q5 Z q0 q1 h0 n0 _ T6.heap _
    rw [e6]
    exact ⟨(by subst hv5; first | rfl | simp only [own_f5]), N6, rfl⟩
theorem d6_0 : decode jdk_29_method_66_code 0 = .ok (.lload_n 0, 1) := by decide +kernel
theorem d6_1 : decode jdk_29_method_66_code 1 = .ok (.lload_n 2, 1) := by decide +kernel
theorem d6_2 : decode jdk_29_method_66_code 2 = .ok (.lcmp, 1) := by decide +kernel
theorem d6_3 : decode jdk_29_method_66_code 3 = .ok (.ifCond .lt 7, 3) := by decide +kernel
theorem d6_6 : decode jdk_29_method_66_code 6 = .ok (.lload_n 0, 1) := by decide +kernel
theorem d6_7 : decode jdk_29_method_66_code 7 = .ok (.goto 4, 3) := by decide +kernel
theorem d6_10 : decode jdk_29_method_66_code 10 = .ok (.lload_n 2, 1) := by decide +kernel
theorem d6_11 : decode jdk_29_method_66_code 11 = .ok (.lreturn, 1) := by decide +kernel
theorem ef_6 (m : MethodId) (q0 : Int64) (q1 : Int64) : entryFrame m #[(.long q0), (.long q1)] 4 = mkF m 0 #[.val (.long q0), .second, .val (.long q1), .second] [] := by first | (simp [entryFrame, mkF, argsToLocals, Value.category]; done) | rfl
def own_f6 (q0 : Int64) (q1 : Int64) : Int64 := (if q0 < q1 then q1 else q0)
def Q6 (Z : State) (q0 : Int64) (q1 : Int64) (h0 : Heap) (n0 : Nat) (v : Option Value) (h : Heap) (L : List Loc) : Prop := v = some (.long (own_f6 q0 q1)) ∧ Fr n0 L ∧ h = h0
set_option maxRecDepth 65536 in
set_option maxHeartbeats 40000000 in
theorem rm6 (l : Launch) (Z : State) (a0 : Array Value) (hw : ∀ d ∈ tables_1, d.before a0 Z = true) (ws : List Jvm.Cond) (q0 : Int64) (q1 : Int64) (h0 : Heap) (n0 : Nat) (Z0 : n0 ≤ h0.size) :
    MetFree l (⟨"java/lang/Math", "max", "(JJ)J"⟩ : MethodName) (head1 (Jvm.Cond.code (⟨"java/lang/Math", "max", "(JJ)J"⟩ : MethodName) jdk_29_method_66_code 4 (some .long) :: ws) ({ frames := 0, cells := 0, slots := 0, locals := 0 } : Room)) (fun a U => a = #[(.long q0), (.long q1)] ∧ Z.Warmed39 U.vm ∧ U.heap = h0) (fun _ _ _ _ _ => True) (fun _ U o U' => ∃ v L, o = .returned v ∧ Q6 Z q0 q1 h0 n0 v U'.heap L ∧ FrameEnd U o U' L ({ frames := 0, cells := 0, slots := 0, locals := 0 } : Room).cells ({ frames := 0, cells := 0, slots := 0, locals := 0 } : Room).slots) := by
  refine MetFree.of_bodySF (Jvm.Free.JP.mathPlain rfl (by decide +kernel)) hisR ?_
  intro p e s m args below meth c s₁ Bd hml0 hP hK
  obtain ⟨rfl, hZ, hh⟩ := hP
  have hx := Bd.exec
  have hby := Bd.bytes
  have hml : c.maxLocals = 4 := hml0
  have hown : s.vm.findClass "java/lang/Math" = some m.cls := findClass_of_methodNamed Bd.named
  have hnm := (name_of_methodNamed Bd.named Bd.method).1
  have X0 : Stand p l e ({ frames := 0, cells := 0, slots := 0, locals := 0 } : Room) s m #[(.long q0), (.long q1)] below meth c s₁ [] 0 0 := Stand.of_body Bd
  have e0 : s₁.heap = h0 := by rw [← hh, Bd.state]; rfl
  have N0 := Fr.nil n0
  obtain ⟨P, pre0, fin⟩ : ∃ P : State → Prop, (∀ t, Steps p.tables e below (s₁.setTop (mkF m 0 #[.val (.long q0), .second, .val (.long q1), .second] [])) t → P t) ∧ (∀ t, P t → Steps p.tables e below (s₁.setTop (entryFrame m #[(.long q0), (.long q1)] 4)) t) := ⟨fun t => Steps p.tables e below (s₁.setTop (entryFrame m #[(.long q0), (.long q1)] 4)) t, fun t k => castTop (ef_6 m q0 q1) k, fun t k => k⟩
  have K0 : Keep h0 h0 [] := Keep.refl _ _
  have pre1 : ∀ t, Steps p.tables e below (s₁.setTop (mkF m 3 #[.val (.long q0), .second, .val (.long q1), .second] [(.int (lcmpW q0 q1))])) t → P t := fun t k => pre0 t (by
      show Steps p.tables e below (s₁.setTop (mkF m 0 #[.val (.long q0), .second, .val (.long q1), .second] [])) _
      refine XS.lloadN X0.here hx rfl (hb hby d6_0) rfl ?_
      show Steps p.tables e below (s₁.setTop (mkF m 1 #[.val (.long q0), .second, .val (.long q1), .second] [(.long q0)])) _
      refine XS.lloadN X0.here hx rfl (hb hby d6_1) rfl ?_
      show Steps p.tables e below (s₁.setTop (mkF m 2 #[.val (.long q0), .second, .val (.long q1), .second] [(.long q1), (.long q0)])) _
      refine XS.lcmp X0.here hx rfl (hb hby d6_2) rfl ?_
      exact k)
  obtain ⟨T6, L6, v5, X6, e6, N6, hv5, pre6⟩ : ∃ (T' : State) (L' : List Loc) (v5 : Int64), Stand p l e ({ frames := 0, cells := 0, slots := 0, locals := 0 } : Room) s m #[(.long q0), (.long q1)] below meth c T' L' 0 0 ∧ T'.heap = h0 ∧ Fr n0 L' ∧ v5 = (if q0 < q1 then q1 else q0) ∧ (∀ t, Steps p.tables e below (T'.setTop (mkF m 11 #[.val (.long q0), .second, .val (.long q1), .second] [(.long v5)])) t → P t) := by
    by_cases hc2 : q0 < q1
    · have pre3 : ∀ t, Steps p.tables e below (s₁.setTop (mkF m 11 #[.val (.long q0), .second, .val (.long q1), .second] [(.long q1)])) t → P t := fun t k => pre1 t (by
          show Steps p.tables e below (s₁.setTop (mkF m 3 #[.val (.long q0), .second, .val (.long q1), .second] [(.int (lcmpW q0 q1))])) _
          refine XS.ifYes X0.here hx rfl (pc0 := 3) (pc' := 10) rfl (hb hby d6_3) rfl ((if0 _ _).trans (tlt ((lw_lt _ _).mpr hc2)).1) (by decide) (by decide) ?_
          show Steps p.tables e below (s₁.setTop (mkF m 10 #[.val (.long q0), .second, .val (.long q1), .second] [])) _
          refine XS.lloadN X0.here hx rfl (hb hby d6_10) rfl ?_
          exact k)
      exact ⟨_, _, q1, X0, e0, N0, (by first | (rw [if_pos hc2]; done) | simp only [if_pos hc2] | simp [if_pos hc2]), pre3⟩
    · have pre4 : ∀ t, Steps p.tables e below (s₁.setTop (mkF m 11 #[.val (.long q0), .second, .val (.long q1), .second] [(.long q0)])) t → P t := fun t k => pre1 t (by
          show Steps p.tables e below (s₁.setTop (mkF m 3 #[.val (.long q0), .second, .val (.long q1), .second] [(.int (lcmpW q0 q1))])) _
          refine XS.ifNo X0.here hx rfl (hb hby d6_3) rfl ((if0 _ _).trans (flt (fun q => hc2 ((lw_lt _ _).mp q))).1) ?_
          show Steps p.tables e below (s₁.setTop (mkF m 6 #[.val (.long q0), .second, .val (.long q1), .second] [])) _
          refine XS.lloadN X0.here hx rfl (hb hby d6_6) rfl ?_
          show Steps p.tables e below (s₁.setTop (mkF m 7 #[.val (.long q0), .second, .val (.long q1), .second] [(.long q0)])) _
          refine XS.goto X0.here hx rfl (pc0 := 7) (pc' := 11) rfl (hb hby d6_7) (by decide) (by decide) ?_
          exact k)
      exact ⟨_, _, q0, X0, e0, N0, (by first | (rw [if_neg hc2]; done) | simp only [if_neg hc2] | simp [if_neg hc2]), pre4⟩
  obtain ⟨fs, hr, hrun, hended, hW, hsame⟩ := X6.leave (v := some (.long v5)) (fun h => by rw [Bd.returns] at h; cases h)
  refine ⟨_, _, fin _ (pre6 _ ?_), hrun, hended, _, _, rfl, ?_, ⟨_, rfl⟩, hW, hsame.mono (by decide) (by decide)⟩
  · show Steps p.tables e below (T6.setTop (mkF m 11 #[.val (.long q0), .second, .val (.long q1), .second] [(.long v5)])) _
    jvm_step X6.here [X6.here.top, hx, (hb hby d6_11), X6.method', Bd.returns, narrow]
    first | (intro acts; rw [hr _ acts rfl rfl rfl]) | rw [hr _ _ rfl rfl rfl]
    exact Steps.refl _
  · show Q6 Z q0 q1 h0 n0 _ T6.heap _
    rw [e6]
    exact ⟨(by subst hv5; first | rfl | simp only [own_f6]), N6, rfl⟩
theorem own_pd1 : parseMethodDescriptor "(JJ)V" = some ⟨[.long, .long], none⟩ := by decide +kernel
theorem own_pd2 : parseMethodDescriptor "(JJ)J" = some ⟨[.long, .long], some .long⟩ := by decide +kernel
theorem own_pd3 : parseMethodDescriptor "(J)Z" = some ⟨[.long], some .boolean⟩ := by decide +kernel
theorem pn_0 : plainName "com/example/fairmark/fairmark/TimeRangeHoldsPinLaw" = true := by first | (simp [plainName, overriddenIn]; done) | decide +kernel
theorem ef_0 (m : MethodId) (q0 : Int64) (q1 : Int64) (q2 : Int64) (p3 : Int32) : entryFrame m #[(.long q0), (.long q1), (.long q2), (.int p3)] maxLocals = mkF m 0 #[.val (.long q0), .second, .val (.long q1), .second, .val (.long q2), .second, .val (.int p3), .unset, .unset, .unset, .unset, .unset, .unset, .unset, .unset] [] := by first | (simp [entryFrame, mkF, argsToLocals, Value.category, maxLocals]; done) | rfl
def own_f0 (q0 : Int64) (q1 : Int64) (q2 : Int64) (p3 : Int32) : Int32 := (let v2 : Int32 := (p3 &&& (3 : Int32)); (let v5 : Int64 := (((p3 >>> ((2 : Int32) &&& 31)) &&& (3 : Int32)).toInt64); (let v20 : Int64 := (if v2 = (0 : Int32) then ((q0 + v5) - (1 : Int64)) else (if v2 = (1 : Int32) then ((q1 + v5) - (2 : Int64)) else q2)); (let v34 : Int32 := (if q1 < q0 then (0 : Int32) else (1 : Int32)); (let v53 : Int32 := (if v34 = (0 : Int32) then (0 : Int32) else (let v41 : Int64 := (own_f5 v20 q1); (let v44 : Int64 := (own_f6 q0 v41); (if v44 = v20 then (1 : Int32) else (0 : Int32))))); (let v57 : Int32 := (own_f4 v20 q0 q1); (if v57 = v53 then (let v63 : Int32 := (own_f4 q0 q0 q1); (if v63 = v34 then (let v69 : Int32 := (own_f4 q1 q0 q1); (if v69 = v34 then (1 : Int32) else (0 : Int32))) else (0 : Int32))) else (0 : Int32))))))))
def Q0 (Z : State) (q0 : Int64) (q1 : Int64) (q2 : Int64) (p3 : Int32) (h0 : Heap) (n0 : Nat) (v : Option Value) (h : Heap) (L : List Loc) : Prop := v = some (.int (own_f0 q0 q1 q2 p3)) ∧ Fr n0 L
set_option maxRecDepth 65536 in
set_option maxHeartbeats 40000000 in
theorem rm0 (l : Launch) (Z : State) (a0 : Array Value) (hw : ∀ d ∈ tables_1, d.before a0 Z = true) (ws : List Jvm.Cond) (q0 : Int64) (q1 : Int64) (q2 : Int64) (p3 : Int32) (h0 : Heap) (n0 : Nat) (Z0 : n0 ≤ h0.size) :
    MetFree l x (head1 (Jvm.Cond.code x code maxLocals ret :: ws) room_1) (fun a U => a = #[(.long q0), (.long q1), (.long q2), (.int p3)] ∧ Z.Warmed39 U.vm ∧ U.heap = h0) (fun _ _ _ _ _ => True) (fun _ U o U' => ∃ v L, o = .returned v ∧ Q0 Z q0 q1 q2 p3 h0 n0 v U'.heap L ∧ FrameEnd U o U' L room_1.cells room_1.slots) := by
  refine MetFree.of_bodySF (plainFor_of_name pn_0) hisR ?_
  intro p e s m args below meth c s₁ Bd hml0 hP hK
  obtain ⟨rfl, hZ, hh⟩ := hP
  have hx := Bd.exec
  have hby := Bd.bytes
  have hml : c.maxLocals = 15 := hml0
  have hown : s.vm.findClass "com/example/fairmark/fairmark/TimeRangeHoldsPinLaw" = some m.cls := findClass_of_methodNamed Bd.named
  have hnm := (name_of_methodNamed Bd.named Bd.method).1
  have X0 : Stand p l e room_1 s m #[(.long q0), (.long q1), (.long q2), (.int p3)] below meth c s₁ [] 0 0 := Stand.of_body Bd
  have e0 : s₁.heap = h0 := by rw [← hh, Bd.state]; rfl
  have N0 := Fr.nil n0
  obtain ⟨P, pre0, fin⟩ : ∃ P : State → Prop, (∀ t, Steps p.tables e below (s₁.setTop (mkF m 0 #[.val (.long q0), .second, .val (.long q1), .second, .val (.long q2), .second, .val (.int p3), .unset, .unset, .unset, .unset, .unset, .unset, .unset, .unset] [])) t → P t) ∧ (∀ t, P t → Steps p.tables e below (s₁.setTop (entryFrame m #[(.long q0), (.long q1), (.long q2), (.int p3)] maxLocals)) t) := ⟨fun t => Steps p.tables e below (s₁.setTop (entryFrame m #[(.long q0), (.long q1), (.long q2), (.int p3)] maxLocals)) t, fun t k => castTop (ef_0 m q0 q1 q2 p3) k, fun t k => k⟩
  have K0 : Keep h0 h0 [] := Keep.refl _ _
  have pre1 : ∀ t, Steps p.tables e below (s₁.setTop (mkF m 6 #[.val (.long q0), .second, .val (.long q1), .second, .val (.long q2), .second, .val (.int p3), .val (.int (p3 &&& (3 : Int32))), .unset, .unset, .unset, .unset, .unset, .unset, .unset] [])) t → P t := fun t k => pre0 t (by
      show Steps p.tables e below (s₁.setTop (mkF m 0 #[.val (.long q0), .second, .val (.long q1), .second, .val (.long q2), .second, .val (.int p3), .unset, .unset, .unset, .unset, .unset, .unset, .unset, .unset] [])) _
      refine XS.iload X0.here hx rfl (hb hby at_0) rfl ?_
      show Steps p.tables e below (s₁.setTop (mkF m 2 #[.val (.long q0), .second, .val (.long q1), .second, .val (.long q2), .second, .val (.int p3), .unset, .unset, .unset, .unset, .unset, .unset, .unset, .unset] [(.int p3)])) _
      refine XS.iconst X0.here hx rfl (hb hby at_2) ?_
      show Steps p.tables e below (s₁.setTop (mkF m 3 #[.val (.long q0), .second, .val (.long q1), .second, .val (.long q2), .second, .val (.int p3), .unset, .unset, .unset, .unset, .unset, .unset, .unset, .unset] [(.int (3 : Int32)), (.int p3)])) _
      refine XS.iand X0.here hx rfl (hb hby at_3) rfl ?_
      show Steps p.tables e below (s₁.setTop (mkF m 4 #[.val (.long q0), .second, .val (.long q1), .second, .val (.long q2), .second, .val (.int p3), .unset, .unset, .unset, .unset, .unset, .unset, .unset, .unset] [(.int (p3 &&& (3 : Int32)))])) _
      refine XS.istore X0.here hx rfl (hb hby at_4) rfl (l' := #[.val (.long q0), .second, .val (.long q1), .second, .val (.long q2), .second, .val (.int p3), .val (.int (p3 &&& (3 : Int32))), .unset, .unset, .unset, .unset, .unset, .unset, .unset]) rfl ?_
      exact k)
  obtain ⟨v2, hv2⟩ : ∃ z : Int32, z = (p3 &&& (3 : Int32)) := ⟨_, rfl⟩
  have pre3 : ∀ t, Steps p.tables e below (s₁.setTop (mkF m 6 #[.val (.long q0), .second, .val (.long q1), .second, .val (.long q2), .second, .val (.int p3), .val (.int v2), .unset, .unset, .unset, .unset, .unset, .unset, .unset] [])) t → P t := fun t k => pre1 t (by subst hv2; exact k)
  have pre4 : ∀ t, Steps p.tables e below (s₁.setTop (mkF m 15 #[.val (.long q0), .second, .val (.long q1), .second, .val (.long q2), .second, .val (.int p3), .val (.int v2), .val (.long (((p3 >>> ((2 : Int32) &&& 31)) &&& (3 : Int32)).toInt64)), .second, .unset, .unset, .unset, .unset, .unset] [])) t → P t := fun t k => pre3 t (by
      show Steps p.tables e below (s₁.setTop (mkF m 6 #[.val (.long q0), .second, .val (.long q1), .second, .val (.long q2), .second, .val (.int p3), .val (.int v2), .unset, .unset, .unset, .unset, .unset, .unset, .unset] [])) _
      refine XS.iload X0.here hx rfl (hb hby at_6) rfl ?_
      show Steps p.tables e below (s₁.setTop (mkF m 8 #[.val (.long q0), .second, .val (.long q1), .second, .val (.long q2), .second, .val (.int p3), .val (.int v2), .unset, .unset, .unset, .unset, .unset, .unset, .unset] [(.int p3)])) _
      refine XS.iconst X0.here hx rfl (hb hby at_8) ?_
      show Steps p.tables e below (s₁.setTop (mkF m 9 #[.val (.long q0), .second, .val (.long q1), .second, .val (.long q2), .second, .val (.int p3), .val (.int v2), .unset, .unset, .unset, .unset, .unset, .unset, .unset] [(.int (2 : Int32)), (.int p3)])) _
      refine XS.ishr X0.here hx rfl (hb hby at_9) rfl ?_
      show Steps p.tables e below (s₁.setTop (mkF m 10 #[.val (.long q0), .second, .val (.long q1), .second, .val (.long q2), .second, .val (.int p3), .val (.int v2), .unset, .unset, .unset, .unset, .unset, .unset, .unset] [(.int (p3 >>> ((2 : Int32) &&& 31)))])) _
      refine XS.iconst X0.here hx rfl (hb hby at_10) ?_
      show Steps p.tables e below (s₁.setTop (mkF m 11 #[.val (.long q0), .second, .val (.long q1), .second, .val (.long q2), .second, .val (.int p3), .val (.int v2), .unset, .unset, .unset, .unset, .unset, .unset, .unset] [(.int (3 : Int32)), (.int (p3 >>> ((2 : Int32) &&& 31)))])) _
      refine XS.iand X0.here hx rfl (hb hby at_11) rfl ?_
      show Steps p.tables e below (s₁.setTop (mkF m 12 #[.val (.long q0), .second, .val (.long q1), .second, .val (.long q2), .second, .val (.int p3), .val (.int v2), .unset, .unset, .unset, .unset, .unset, .unset, .unset] [(.int ((p3 >>> ((2 : Int32) &&& 31)) &&& (3 : Int32)))])) _
      refine XS.i2l X0.here hx rfl (hb hby at_12) rfl ?_
      show Steps p.tables e below (s₁.setTop (mkF m 13 #[.val (.long q0), .second, .val (.long q1), .second, .val (.long q2), .second, .val (.int p3), .val (.int v2), .unset, .unset, .unset, .unset, .unset, .unset, .unset] [(.long (((p3 >>> ((2 : Int32) &&& 31)) &&& (3 : Int32)).toInt64))])) _
      refine XS.lstore X0.here hx rfl (hb hby at_13) rfl (l' := #[.val (.long q0), .second, .val (.long q1), .second, .val (.long q2), .second, .val (.int p3), .val (.int v2), .val (.long (((p3 >>> ((2 : Int32) &&& 31)) &&& (3 : Int32)).toInt64)), .second, .unset, .unset, .unset, .unset, .unset]) rfl ?_
      exact k)
  obtain ⟨v5, hv5⟩ : ∃ z : Int64, z = (((p3 >>> ((2 : Int32) &&& 31)) &&& (3 : Int32)).toInt64) := ⟨_, rfl⟩
  have pre6 : ∀ t, Steps p.tables e below (s₁.setTop (mkF m 15 #[.val (.long q0), .second, .val (.long q1), .second, .val (.long q2), .second, .val (.int p3), .val (.int v2), .val (.long v5), .second, .unset, .unset, .unset, .unset, .unset] [])) t → P t := fun t k => pre4 t (by subst hv5; exact k)
  have pre7 : ∀ t, Steps p.tables e below (s₁.setTop (mkF m 17 #[.val (.long q0), .second, .val (.long q1), .second, .val (.long q2), .second, .val (.int p3), .val (.int v2), .val (.long v5), .second, .unset, .unset, .unset, .unset, .unset] [(.int v2)])) t → P t := fun t k => pre6 t (by
      show Steps p.tables e below (s₁.setTop (mkF m 15 #[.val (.long q0), .second, .val (.long q1), .second, .val (.long q2), .second, .val (.int p3), .val (.int v2), .val (.long v5), .second, .unset, .unset, .unset, .unset, .unset] [])) _
      refine XS.iload X0.here hx rfl (hb hby at_15) rfl ?_
      exact k)
  obtain ⟨T21, L21, v20, X21, e21, N21, hv20, pre21⟩ : ∃ (T' : State) (L' : List Loc) (v20 : Int64), Stand p l e room_1 s m #[(.long q0), (.long q1), (.long q2), (.int p3)] below meth c T' L' 0 0 ∧ T'.heap = h0 ∧ Fr n0 L' ∧ v20 = (if v2 = (0 : Int32) then ((q0 + v5) - (1 : Int64)) else (if v2 = (1 : Int32) then ((q1 + v5) - (2 : Int64)) else q2)) ∧ (∀ t, Steps p.tables e below (T'.setTop (mkF m 54 #[.val (.long q0), .second, .val (.long q1), .second, .val (.long q2), .second, .val (.int p3), .val (.int v2), .val (.long v5), .second, .val (.long v20), .second, .unset, .unset, .unset] [])) t → P t) := by
    by_cases hc8 : v2 = (0 : Int32)
    · have pre9 : ∀ t, Steps p.tables e below (s₁.setTop (mkF m 28 #[.val (.long q0), .second, .val (.long q1), .second, .val (.long q2), .second, .val (.int p3), .val (.int v2), .val (.long v5), .second, .val (.long ((q0 + v5) - (1 : Int64))), .second, .unset, .unset, .unset] [])) t → P t := fun t k => pre7 t (by
          show Steps p.tables e below (s₁.setTop (mkF m 17 #[.val (.long q0), .second, .val (.long q1), .second, .val (.long q2), .second, .val (.int p3), .val (.int v2), .val (.long v5), .second, .unset, .unset, .unset, .unset, .unset] [(.int v2)])) _
          refine XS.ifNo X0.here hx rfl (hb hby at_17) rfl ((if0 _ _).trans (teq hc8).2) ?_
          show Steps p.tables e below (s₁.setTop (mkF m 20 #[.val (.long q0), .second, .val (.long q1), .second, .val (.long q2), .second, .val (.int p3), .val (.int v2), .val (.long v5), .second, .unset, .unset, .unset, .unset, .unset] [])) _
          refine XS.lloadN X0.here hx rfl (hb hby at_20) rfl ?_
          show Steps p.tables e below (s₁.setTop (mkF m 21 #[.val (.long q0), .second, .val (.long q1), .second, .val (.long q2), .second, .val (.int p3), .val (.int v2), .val (.long v5), .second, .unset, .unset, .unset, .unset, .unset] [(.long q0)])) _
          refine XS.lload X0.here hx rfl (hb hby at_21) rfl ?_
          show Steps p.tables e below (s₁.setTop (mkF m 23 #[.val (.long q0), .second, .val (.long q1), .second, .val (.long q2), .second, .val (.int p3), .val (.int v2), .val (.long v5), .second, .unset, .unset, .unset, .unset, .unset] [(.long v5), (.long q0)])) _
          refine XS.ladd X0.here hx rfl (hb hby at_23) rfl ?_
          show Steps p.tables e below (s₁.setTop (mkF m 24 #[.val (.long q0), .second, .val (.long q1), .second, .val (.long q2), .second, .val (.int p3), .val (.int v2), .val (.long v5), .second, .unset, .unset, .unset, .unset, .unset] [(.long (q0 + v5))])) _
          refine XS.lconst X0.here hx rfl (hb hby at_24) ?_
          show Steps p.tables e below (s₁.setTop (mkF m 25 #[.val (.long q0), .second, .val (.long q1), .second, .val (.long q2), .second, .val (.int p3), .val (.int v2), .val (.long v5), .second, .unset, .unset, .unset, .unset, .unset] [(.long (1 : Int64)), (.long (q0 + v5))])) _
          refine XS.lsub X0.here hx rfl (hb hby at_25) rfl ?_
          show Steps p.tables e below (s₁.setTop (mkF m 26 #[.val (.long q0), .second, .val (.long q1), .second, .val (.long q2), .second, .val (.int p3), .val (.int v2), .val (.long v5), .second, .unset, .unset, .unset, .unset, .unset] [(.long ((q0 + v5) - (1 : Int64)))])) _
          refine XS.lstore X0.here hx rfl (hb hby at_26) rfl (l' := #[.val (.long q0), .second, .val (.long q1), .second, .val (.long q2), .second, .val (.int p3), .val (.int v2), .val (.long v5), .second, .val (.long ((q0 + v5) - (1 : Int64))), .second, .unset, .unset, .unset]) rfl ?_
          exact k)
      obtain ⟨v10, hv10⟩ : ∃ z : Int64, z = ((q0 + v5) - (1 : Int64)) := ⟨_, rfl⟩
      have pre11 : ∀ t, Steps p.tables e below (s₁.setTop (mkF m 28 #[.val (.long q0), .second, .val (.long q1), .second, .val (.long q2), .second, .val (.int p3), .val (.int v2), .val (.long v5), .second, .val (.long v10), .second, .unset, .unset, .unset] [])) t → P t := fun t k => pre9 t (by subst hv10; exact k)
      have pre12 : ∀ t, Steps p.tables e below (s₁.setTop (mkF m 54 #[.val (.long q0), .second, .val (.long q1), .second, .val (.long q2), .second, .val (.int p3), .val (.int v2), .val (.long v5), .second, .val (.long v10), .second, .unset, .unset, .unset] [])) t → P t := fun t k => pre11 t (by
          show Steps p.tables e below (s₁.setTop (mkF m 28 #[.val (.long q0), .second, .val (.long q1), .second, .val (.long q2), .second, .val (.int p3), .val (.int v2), .val (.long v5), .second, .val (.long v10), .second, .unset, .unset, .unset] [])) _
          refine XS.goto X0.here hx rfl (pc0 := 28) (pc' := 54) rfl (hb hby at_28) (by decide) (by decide) ?_
          exact k)
      exact ⟨_, _, v10, X0, e0, N0, (by subst hv10; first | (rw [if_pos hc8]; done) | simp only [if_pos hc8] | simp [if_pos hc8]), pre12⟩
    · have pre13 : ∀ t, Steps p.tables e below (s₁.setTop (mkF m 34 #[.val (.long q0), .second, .val (.long q1), .second, .val (.long q2), .second, .val (.int p3), .val (.int v2), .val (.long v5), .second, .unset, .unset, .unset, .unset, .unset] [(.int (1 : Int32)), (.int v2)])) t → P t := fun t k => pre7 t (by
          show Steps p.tables e below (s₁.setTop (mkF m 17 #[.val (.long q0), .second, .val (.long q1), .second, .val (.long q2), .second, .val (.int p3), .val (.int v2), .val (.long v5), .second, .unset, .unset, .unset, .unset, .unset] [(.int v2)])) _
          refine XS.ifYes X0.here hx rfl (pc0 := 17) (pc' := 31) rfl (hb hby at_17) rfl ((if0 _ _).trans (feq hc8).2) (by decide) (by decide) ?_
          show Steps p.tables e below (s₁.setTop (mkF m 31 #[.val (.long q0), .second, .val (.long q1), .second, .val (.long q2), .second, .val (.int p3), .val (.int v2), .val (.long v5), .second, .unset, .unset, .unset, .unset, .unset] [])) _
          refine XS.iload X0.here hx rfl (hb hby at_31) rfl ?_
          show Steps p.tables e below (s₁.setTop (mkF m 33 #[.val (.long q0), .second, .val (.long q1), .second, .val (.long q2), .second, .val (.int p3), .val (.int v2), .val (.long v5), .second, .unset, .unset, .unset, .unset, .unset] [(.int v2)])) _
          refine XS.iconst X0.here hx rfl (hb hby at_33) ?_
          exact k)
      by_cases hc14 : v2 = (1 : Int32)
      · have pre15 : ∀ t, Steps p.tables e below (s₁.setTop (mkF m 47 #[.val (.long q0), .second, .val (.long q1), .second, .val (.long q2), .second, .val (.int p3), .val (.int v2), .val (.long v5), .second, .val (.long ((q1 + v5) - (2 : Int64))), .second, .unset, .unset, .unset] [])) t → P t := fun t k => pre13 t (by
            show Steps p.tables e below (s₁.setTop (mkF m 34 #[.val (.long q0), .second, .val (.long q1), .second, .val (.long q2), .second, .val (.int p3), .val (.int v2), .val (.long v5), .second, .unset, .unset, .unset, .unset, .unset] [(.int (1 : Int32)), (.int v2)])) _
            refine XS.icmpNo X0.here hx rfl (hb hby at_34) rfl (teq hc14).2 ?_
            show Steps p.tables e below (s₁.setTop (mkF m 37 #[.val (.long q0), .second, .val (.long q1), .second, .val (.long q2), .second, .val (.int p3), .val (.int v2), .val (.long v5), .second, .unset, .unset, .unset, .unset, .unset] [])) _
            refine XS.lloadN X0.here hx rfl (hb hby at_37) rfl ?_
            show Steps p.tables e below (s₁.setTop (mkF m 38 #[.val (.long q0), .second, .val (.long q1), .second, .val (.long q2), .second, .val (.int p3), .val (.int v2), .val (.long v5), .second, .unset, .unset, .unset, .unset, .unset] [(.long q1)])) _
            refine XS.lload X0.here hx rfl (hb hby at_38) rfl ?_
            show Steps p.tables e below (s₁.setTop (mkF m 40 #[.val (.long q0), .second, .val (.long q1), .second, .val (.long q2), .second, .val (.int p3), .val (.int v2), .val (.long v5), .second, .unset, .unset, .unset, .unset, .unset] [(.long v5), (.long q1)])) _
            refine XS.ladd X0.here hx rfl (hb hby at_40) rfl ?_
            show Steps p.tables e below (s₁.setTop (mkF m 41 #[.val (.long q0), .second, .val (.long q1), .second, .val (.long q2), .second, .val (.int p3), .val (.int v2), .val (.long v5), .second, .unset, .unset, .unset, .unset, .unset] [(.long (q1 + v5))])) _
            refine X0.ldc2Long hx hown (mvT hZ (hw _ (List.mem_of_getElem? (i := 30) rfl))) (g := (mkF m 41 #[.val (.long q0), .second, .val (.long q1), .second, .val (.long q2), .second, .val (.int p3), .val (.int v2), .val (.long v5), .second, .unset, .unset, .unset, .unset, .unset] [(.long (q1 + v5))])) rfl (hb hby at_41) _ ?_
            show Steps p.tables e below (s₁.setTop (mkF m 44 #[.val (.long q0), .second, .val (.long q1), .second, .val (.long q2), .second, .val (.int p3), .val (.int v2), .val (.long v5), .second, .unset, .unset, .unset, .unset, .unset] [(.long (2 : Int64)), (.long (q1 + v5))])) _
            refine XS.lsub X0.here hx rfl (hb hby at_44) rfl ?_
            show Steps p.tables e below (s₁.setTop (mkF m 45 #[.val (.long q0), .second, .val (.long q1), .second, .val (.long q2), .second, .val (.int p3), .val (.int v2), .val (.long v5), .second, .unset, .unset, .unset, .unset, .unset] [(.long ((q1 + v5) - (2 : Int64)))])) _
            refine XS.lstore X0.here hx rfl (hb hby at_45) rfl (l' := #[.val (.long q0), .second, .val (.long q1), .second, .val (.long q2), .second, .val (.int p3), .val (.int v2), .val (.long v5), .second, .val (.long ((q1 + v5) - (2 : Int64))), .second, .unset, .unset, .unset]) rfl ?_
            exact k)
        obtain ⟨v16, hv16⟩ : ∃ z : Int64, z = ((q1 + v5) - (2 : Int64)) := ⟨_, rfl⟩
        have pre17 : ∀ t, Steps p.tables e below (s₁.setTop (mkF m 47 #[.val (.long q0), .second, .val (.long q1), .second, .val (.long q2), .second, .val (.int p3), .val (.int v2), .val (.long v5), .second, .val (.long v16), .second, .unset, .unset, .unset] [])) t → P t := fun t k => pre15 t (by subst hv16; exact k)
        have pre18 : ∀ t, Steps p.tables e below (s₁.setTop (mkF m 54 #[.val (.long q0), .second, .val (.long q1), .second, .val (.long q2), .second, .val (.int p3), .val (.int v2), .val (.long v5), .second, .val (.long v16), .second, .unset, .unset, .unset] [])) t → P t := fun t k => pre17 t (by
            show Steps p.tables e below (s₁.setTop (mkF m 47 #[.val (.long q0), .second, .val (.long q1), .second, .val (.long q2), .second, .val (.int p3), .val (.int v2), .val (.long v5), .second, .val (.long v16), .second, .unset, .unset, .unset] [])) _
            refine XS.goto X0.here hx rfl (pc0 := 47) (pc' := 54) rfl (hb hby at_47) (by decide) (by decide) ?_
            exact k)
        exact ⟨_, _, v16, X0, e0, N0, (by subst hv16; first | (rw [if_neg hc8, if_pos hc14]; done) | simp only [if_neg hc8, if_pos hc14] | simp [if_neg hc8, if_pos hc14]), pre18⟩
      · have pre19 : ∀ t, Steps p.tables e below (s₁.setTop (mkF m 54 #[.val (.long q0), .second, .val (.long q1), .second, .val (.long q2), .second, .val (.int p3), .val (.int v2), .val (.long v5), .second, .val (.long q2), .second, .unset, .unset, .unset] [])) t → P t := fun t k => pre13 t (by
            show Steps p.tables e below (s₁.setTop (mkF m 34 #[.val (.long q0), .second, .val (.long q1), .second, .val (.long q2), .second, .val (.int p3), .val (.int v2), .val (.long v5), .second, .unset, .unset, .unset, .unset, .unset] [(.int (1 : Int32)), (.int v2)])) _
            refine XS.icmpYes X0.here hx rfl (pc0 := 34) (pc' := 50) rfl (hb hby at_34) rfl (feq hc14).2 (by decide) (by decide) ?_
            show Steps p.tables e below (s₁.setTop (mkF m 50 #[.val (.long q0), .second, .val (.long q1), .second, .val (.long q2), .second, .val (.int p3), .val (.int v2), .val (.long v5), .second, .unset, .unset, .unset, .unset, .unset] [])) _
            refine XS.lload X0.here hx rfl (hb hby at_50) rfl ?_
            show Steps p.tables e below (s₁.setTop (mkF m 52 #[.val (.long q0), .second, .val (.long q1), .second, .val (.long q2), .second, .val (.int p3), .val (.int v2), .val (.long v5), .second, .unset, .unset, .unset, .unset, .unset] [(.long q2)])) _
            refine XS.lstore X0.here hx rfl (hb hby at_52) rfl (l' := #[.val (.long q0), .second, .val (.long q1), .second, .val (.long q2), .second, .val (.int p3), .val (.int v2), .val (.long v5), .second, .val (.long q2), .second, .unset, .unset, .unset]) rfl ?_
            exact k)
        exact ⟨_, _, q2, X0, e0, N0, (by first | (rw [if_neg hc8, if_neg hc14]; done) | simp only [if_neg hc8, if_neg hc14] | simp [if_neg hc8, if_neg hc14]), pre19⟩
  obtain ⟨T22, h22, X22, e22, E22, A22, D22, -, st22⟩ := newO X21 hx hZ hown (hw _ (List.mem_of_getElem? (i := 0) rfl)) (hw _ (List.mem_of_getElem? (i := 1) rfl)) (hw _ (List.mem_of_getElem? (i := 2) rfl)) e21 (g := (mkF m 54 #[.val (.long q0), .second, .val (.long q1), .second, .val (.long q2), .second, .val (.int p3), .val (.int v2), .val (.long v5), .second, .val (.long v20), .second, .unset, .unset, .unset] [])) rfl (hb hby at_54) (by decide) (by decide)
  obtain ⟨b22, g22⟩ : ∃ z, z = h0.size := ⟨_, rfl⟩
  have g_b22 : n0 ≤ b22 := Nat.le_trans Z0 (Nat.le_of_eq g22.symm)
  have sz_b22 : h0.size ≤ b22 := Nat.le_trans K0.1 (Nat.le_of_eq g22.symm)
  rw [← g22] at A22 D22 st22
  have pre22 : ∀ t, Steps p.tables e below (T22.setTop (mkF m 57 #[.val (.long q0), .second, .val (.long q1), .second, .val (.long q2), .second, .val (.int p3), .val (.int v2), .val (.long v5), .second, .val (.long v20), .second, .unset, .unset, .unset] [(.ref b22)])) t → P t := fun t k => pre21 t (st22 _ k)
  have c23 : n0 ≤ h22.size := Nat.le_trans Z0 E22.1
  have K24 : Keep h0 h22 [] := K0.ext E22
  have F22_startMs : Fld Z h22 b22 "com/example/fairmark/fairmark/TimeRange" "startMs" "J" (.long (0 : Int64)) := D22 (Or.inr (hw _ (List.mem_of_getElem? (i := 15) rfl))) (ty := .long) (by decide)
  have F22_endMs : Fld Z h22 b22 "com/example/fairmark/fairmark/TimeRange" "endMs" "J" (.long (0 : Int64)) := D22 (Or.inr (hw _ (List.mem_of_getElem? (i := 17) rfl))) (ty := .long) (by decide)
  have pre25 : ∀ t, Steps p.tables e below (T22.setTop (mkF m 60 #[.val (.long q0), .second, .val (.long q1), .second, .val (.long q2), .second, .val (.int p3), .val (.int v2), .val (.long v5), .second, .val (.long v20), .second, .unset, .unset, .unset] [(.long q1), (.long q0), (.ref b22), (.ref b22)])) t → P t := fun t k => pre22 t (by
      show Steps p.tables e below (T22.setTop (mkF m 57 #[.val (.long q0), .second, .val (.long q1), .second, .val (.long q2), .second, .val (.int p3), .val (.int v2), .val (.long v5), .second, .val (.long v20), .second, .unset, .unset, .unset] [(.ref b22)])) _
      refine XS.dup X22.here hx rfl (hb hby at_57) rfl rfl ?_
      show Steps p.tables e below (T22.setTop (mkF m 58 #[.val (.long q0), .second, .val (.long q1), .second, .val (.long q2), .second, .val (.int p3), .val (.int v2), .val (.long v5), .second, .val (.long v20), .second, .unset, .unset, .unset] [(.ref b22), (.ref b22)])) _
      refine XS.lloadN X22.here hx rfl (hb hby at_58) rfl ?_
      show Steps p.tables e below (T22.setTop (mkF m 59 #[.val (.long q0), .second, .val (.long q1), .second, .val (.long q2), .second, .val (.int p3), .val (.int v2), .val (.long v5), .second, .val (.long v20), .second, .unset, .unset, .unset] [(.long q0), (.ref b22), (.ref b22)])) _
      refine XS.lloadN X22.here hx rfl (hb hby at_59) rfl ?_
      exact k)
  obtain ⟨_, _, ⟨T26, L26, k26, n26⟩, -, X26, ⟨Lc26, hQ26, l26, y26, z26⟩, st26⟩ := X22.specialBack hx (y := (⟨"com/example/fairmark/fairmark/TimeRange", "<init>", "(JJ)V"⟩ : MethodName)) rfl hown (mvT hZ (hw _ (List.mem_of_getElem? (i := 3) rfl))) (mvT hZ (hw _ (List.mem_of_getElem? (i := 4) rfl))) (mvT hZ (hw _ (List.mem_of_getElem? (i := 5) rfl))) (by decide) (backOf (W := 1) (rm1 l Z a0 hw [] b22 q0 q1 h22 n0 c23 A22 F22_startMs F22_endMs g_b22) hZ (hw _ (List.mem_of_getElem? (i := 5) rfl)) (hw _ (List.mem_of_getElem? (i := 2) rfl)) (by decide) (by decide)) (g := (mkF m 60 #[.val (.long q0), .second, .val (.long q1), .second, .val (.long q2), .second, .val (.int p3), .val (.int v2), .val (.long v5), .second, .val (.long v20), .second, .unset, .unset, .unset] [(.long q1), (.long q0), (.ref b22), (.ref b22)])) rfl (by rw [hml]; rfl) (Steps.refl _) (a := b22) (argsL := [(.long q0), (.long q1)]) (rest := [(.ref b22)]) (lenOf own_pd1 rfl) rfl (by show 2 * 0 + _ ≤ _; exact Nat.le_of_eq rfl) (hb hby at_60) (fun _ _ => ⟨rfl, e22, (by decide : 1 + 0 ≤ _), (by decide : 2 + 0 ≤ _)⟩)
  dsimp only [Pt.U, Pt.locs, Pt.cells, Pt.slots] at X26 l26 y26 z26 st26 hQ26
  subst l26 y26 z26
  obtain ⟨rfl, N26q, K26, EE26, FF26_0, FF26_1⟩ := hQ26
  have c27 : n0 ≤ T26.heap.size := Nat.le_trans c23 K26.1
  have c28 : Exa Z T26.heap b22 "com/example/fairmark/fairmark/TimeRange" := A22.keep K26
  have K29 : Keep h0 T26.heap [] := K24.trans K26 (allS (P := fun x => x ∈ ([] : List Addr) ∨ h0.size ≤ x) (Or.inr sz_b22) all0)
  have N26 := Fr.app N21 N26q
  have pre26 : ∀ t, Steps p.tables e below (T26.setTop (mkF m 63 #[.val (.long q0), .second, .val (.long q1), .second, .val (.long q2), .second, .val (.int p3), .val (.int v2), .val (.long v5), .second, .val (.long v20), .second, .unset, .unset, .unset] [(.ref b22)])) t → P t := fun t k => pre25 t (st26.trans k)
  have pre30 : ∀ t, Steps p.tables e below (T26.setTop (mkF m 68 #[.val (.long q0), .second, .val (.long q1), .second, .val (.long q2), .second, .val (.int p3), .val (.int v2), .val (.long v5), .second, .val (.long v20), .second, .val (.ref b22), .unset, .unset] [(.int (lcmpW q0 q1))])) t → P t := fun t k => pre26 t (by
      show Steps p.tables e below (T26.setTop (mkF m 63 #[.val (.long q0), .second, .val (.long q1), .second, .val (.long q2), .second, .val (.int p3), .val (.int v2), .val (.long v5), .second, .val (.long v20), .second, .unset, .unset, .unset] [(.ref b22)])) _
      refine XS.astore X26.here hx rfl (hb hby at_63) rfl rfl (l' := #[.val (.long q0), .second, .val (.long q1), .second, .val (.long q2), .second, .val (.int p3), .val (.int v2), .val (.long v5), .second, .val (.long v20), .second, .val (.ref b22), .unset, .unset]) rfl ?_
      show Steps p.tables e below (T26.setTop (mkF m 65 #[.val (.long q0), .second, .val (.long q1), .second, .val (.long q2), .second, .val (.int p3), .val (.int v2), .val (.long v5), .second, .val (.long v20), .second, .val (.ref b22), .unset, .unset] [])) _
      refine XS.lloadN X26.here hx rfl (hb hby at_65) rfl ?_
      show Steps p.tables e below (T26.setTop (mkF m 66 #[.val (.long q0), .second, .val (.long q1), .second, .val (.long q2), .second, .val (.int p3), .val (.int v2), .val (.long v5), .second, .val (.long v20), .second, .val (.ref b22), .unset, .unset] [(.long q0)])) _
      refine XS.lloadN X26.here hx rfl (hb hby at_66) rfl ?_
      show Steps p.tables e below (T26.setTop (mkF m 67 #[.val (.long q0), .second, .val (.long q1), .second, .val (.long q2), .second, .val (.int p3), .val (.int v2), .val (.long v5), .second, .val (.long v20), .second, .val (.ref b22), .unset, .unset] [(.long q1), (.long q0)])) _
      refine XS.lcmp X26.here hx rfl (hb hby at_67) rfl ?_
      exact k)
  obtain ⟨T35, L35, v34, X35, e35, N35, hv34, pre35⟩ : ∃ (T' : State) (L' : List Loc) (v34 : Int32), Stand p l e room_1 s m #[(.long q0), (.long q1), (.long q2), (.int p3)] below meth c T' L' 1 2 ∧ T'.heap = T26.heap ∧ Fr n0 L' ∧ v34 = (if q1 < q0 then (0 : Int32) else (1 : Int32)) ∧ (∀ t, Steps p.tables e below (T'.setTop (mkF m 76 #[.val (.long q0), .second, .val (.long q1), .second, .val (.long q2), .second, .val (.int p3), .val (.int v2), .val (.long v5), .second, .val (.long v20), .second, .val (.ref b22), .unset, .unset] [(.int v34)])) t → P t) := by
    by_cases hc31 : q1 < q0
    · have pre32 : ∀ t, Steps p.tables e below (T26.setTop (mkF m 76 #[.val (.long q0), .second, .val (.long q1), .second, .val (.long q2), .second, .val (.int p3), .val (.int v2), .val (.long v5), .second, .val (.long v20), .second, .val (.ref b22), .unset, .unset] [(.int (0 : Int32))])) t → P t := fun t k => pre30 t (by
          show Steps p.tables e below (T26.setTop (mkF m 68 #[.val (.long q0), .second, .val (.long q1), .second, .val (.long q2), .second, .val (.int p3), .val (.int v2), .val (.long v5), .second, .val (.long v20), .second, .val (.ref b22), .unset, .unset] [(.int (lcmpW q0 q1))])) _
          refine XS.ifYes X26.here hx rfl (pc0 := 68) (pc' := 75) rfl (hb hby at_68) rfl ((if0 _ _).trans (tlt ((lw_gt _ _).mpr hc31)).2.2.1) (by decide) (by decide) ?_
          show Steps p.tables e below (T26.setTop (mkF m 75 #[.val (.long q0), .second, .val (.long q1), .second, .val (.long q2), .second, .val (.int p3), .val (.int v2), .val (.long v5), .second, .val (.long v20), .second, .val (.ref b22), .unset, .unset] [])) _
          refine XS.iconst X26.here hx rfl (hb hby at_75) ?_
          exact k)
      exact ⟨_, _, (0 : Int32), X26, rfl, N26, (by first | (rw [if_pos hc31]; done) | simp only [if_pos hc31] | simp [if_pos hc31]), pre32⟩
    · have pre33 : ∀ t, Steps p.tables e below (T26.setTop (mkF m 76 #[.val (.long q0), .second, .val (.long q1), .second, .val (.long q2), .second, .val (.int p3), .val (.int v2), .val (.long v5), .second, .val (.long v20), .second, .val (.ref b22), .unset, .unset] [(.int (1 : Int32))])) t → P t := fun t k => pre30 t (by
          show Steps p.tables e below (T26.setTop (mkF m 68 #[.val (.long q0), .second, .val (.long q1), .second, .val (.long q2), .second, .val (.int p3), .val (.int v2), .val (.long v5), .second, .val (.long v20), .second, .val (.ref b22), .unset, .unset] [(.int (lcmpW q0 q1))])) _
          refine XS.ifNo X26.here hx rfl (hb hby at_68) rfl ((if0 _ _).trans (flt (fun q => hc31 ((lw_gt _ _).mp q))).2.2.1) ?_
          show Steps p.tables e below (T26.setTop (mkF m 71 #[.val (.long q0), .second, .val (.long q1), .second, .val (.long q2), .second, .val (.int p3), .val (.int v2), .val (.long v5), .second, .val (.long v20), .second, .val (.ref b22), .unset, .unset] [])) _
          refine XS.iconst X26.here hx rfl (hb hby at_71) ?_
          show Steps p.tables e below (T26.setTop (mkF m 72 #[.val (.long q0), .second, .val (.long q1), .second, .val (.long q2), .second, .val (.int p3), .val (.int v2), .val (.long v5), .second, .val (.long v20), .second, .val (.ref b22), .unset, .unset] [(.int (1 : Int32))])) _
          refine XS.goto X26.here hx rfl (pc0 := 72) (pc' := 76) rfl (hb hby at_72) (by decide) (by decide) ?_
          exact k)
      exact ⟨_, _, (1 : Int32), X26, rfl, N26, (by first | (rw [if_neg hc31]; done) | simp only [if_neg hc31] | simp [if_neg hc31]), pre33⟩
  have pre36 : ∀ t, Steps p.tables e below (T35.setTop (mkF m 80 #[.val (.long q0), .second, .val (.long q1), .second, .val (.long q2), .second, .val (.int p3), .val (.int v2), .val (.long v5), .second, .val (.long v20), .second, .val (.ref b22), .val (.int v34), .unset] [(.int v34)])) t → P t := fun t k => pre35 t (by
      show Steps p.tables e below (T35.setTop (mkF m 76 #[.val (.long q0), .second, .val (.long q1), .second, .val (.long q2), .second, .val (.int p3), .val (.int v2), .val (.long v5), .second, .val (.long v20), .second, .val (.ref b22), .unset, .unset] [(.int v34)])) _
      refine XS.istore X35.here hx rfl (hb hby at_76) rfl (l' := #[.val (.long q0), .second, .val (.long q1), .second, .val (.long q2), .second, .val (.int p3), .val (.int v2), .val (.long v5), .second, .val (.long v20), .second, .val (.ref b22), .val (.int v34), .unset]) rfl ?_
      show Steps p.tables e below (T35.setTop (mkF m 78 #[.val (.long q0), .second, .val (.long q1), .second, .val (.long q2), .second, .val (.int p3), .val (.int v2), .val (.long v5), .second, .val (.long v20), .second, .val (.ref b22), .val (.int v34), .unset] [])) _
      refine XS.iload X35.here hx rfl (hb hby at_78) rfl ?_
      exact k)
  obtain ⟨T54, L54, v53, X54, e54, N54, hv53, pre54⟩ : ∃ (T' : State) (L' : List Loc) (v53 : Int32), Stand p l e room_1 s m #[(.long q0), (.long q1), (.long q2), (.int p3)] below meth c T' L' 1 2 ∧ T'.heap = T26.heap ∧ Fr n0 L' ∧ v53 = (if v34 = (0 : Int32) then (0 : Int32) else (let v41 : Int64 := (own_f5 v20 q1); (let v44 : Int64 := (own_f6 q0 v41); (if v44 = v20 then (1 : Int32) else (0 : Int32))))) ∧ (∀ t, Steps p.tables e below (T'.setTop (mkF m 112 #[.val (.long q0), .second, .val (.long q1), .second, .val (.long q2), .second, .val (.int p3), .val (.int v2), .val (.long v5), .second, .val (.long v20), .second, .val (.ref b22), .val (.int v34), .val (.int v53)] [])) t → P t) := by
    by_cases hc37 : v34 = (0 : Int32)
    · have pre38 : ∀ t, Steps p.tables e below (T35.setTop (mkF m 112 #[.val (.long q0), .second, .val (.long q1), .second, .val (.long q2), .second, .val (.int p3), .val (.int v2), .val (.long v5), .second, .val (.long v20), .second, .val (.ref b22), .val (.int v34), .val (.int (0 : Int32))] [])) t → P t := fun t k => pre36 t (by
          show Steps p.tables e below (T35.setTop (mkF m 80 #[.val (.long q0), .second, .val (.long q1), .second, .val (.long q2), .second, .val (.int p3), .val (.int v2), .val (.long v5), .second, .val (.long v20), .second, .val (.ref b22), .val (.int v34), .unset] [(.int v34)])) _
          refine XS.ifNo X35.here hx rfl (hb hby at_80) rfl ((if0 _ _).trans (teq hc37).2) ?_
          show Steps p.tables e below (T35.setTop (mkF m 83 #[.val (.long q0), .second, .val (.long q1), .second, .val (.long q2), .second, .val (.int p3), .val (.int v2), .val (.long v5), .second, .val (.long v20), .second, .val (.ref b22), .val (.int v34), .unset] [])) _
          refine XS.iconst X35.here hx rfl (hb hby at_83) ?_
          show Steps p.tables e below (T35.setTop (mkF m 84 #[.val (.long q0), .second, .val (.long q1), .second, .val (.long q2), .second, .val (.int p3), .val (.int v2), .val (.long v5), .second, .val (.long v20), .second, .val (.ref b22), .val (.int v34), .unset] [(.int (0 : Int32))])) _
          refine XS.istore X35.here hx rfl (hb hby at_84) rfl (l' := #[.val (.long q0), .second, .val (.long q1), .second, .val (.long q2), .second, .val (.int p3), .val (.int v2), .val (.long v5), .second, .val (.long v20), .second, .val (.ref b22), .val (.int v34), .val (.int (0 : Int32))]) rfl ?_
          show Steps p.tables e below (T35.setTop (mkF m 86 #[.val (.long q0), .second, .val (.long q1), .second, .val (.long q2), .second, .val (.int p3), .val (.int v2), .val (.long v5), .second, .val (.long v20), .second, .val (.ref b22), .val (.int v34), .val (.int (0 : Int32))] [])) _
          refine XS.goto X35.here hx rfl (pc0 := 86) (pc' := 112) rfl (hb hby at_86) (by decide) (by decide) ?_
          exact k)
      exact ⟨_, _, (0 : Int32), X35, e35, N35, (by first | (rw [if_pos hc37]; done) | simp only [if_pos hc37] | simp [if_pos hc37]), pre38⟩
    · have pre39 : ∀ t, Steps p.tables e below (T35.setTop (mkF m 93 #[.val (.long q0), .second, .val (.long q1), .second, .val (.long q2), .second, .val (.int p3), .val (.int v2), .val (.long v5), .second, .val (.long v20), .second, .val (.ref b22), .val (.int v34), .unset] [(.long q1), (.long v20), (.long q0)])) t → P t := fun t k => pre36 t (by
          show Steps p.tables e below (T35.setTop (mkF m 80 #[.val (.long q0), .second, .val (.long q1), .second, .val (.long q2), .second, .val (.int p3), .val (.int v2), .val (.long v5), .second, .val (.long v20), .second, .val (.ref b22), .val (.int v34), .unset] [(.int v34)])) _
          refine XS.ifYes X35.here hx rfl (pc0 := 80) (pc' := 89) rfl (hb hby at_80) rfl ((if0 _ _).trans (feq hc37).2) (by decide) (by decide) ?_
          show Steps p.tables e below (T35.setTop (mkF m 89 #[.val (.long q0), .second, .val (.long q1), .second, .val (.long q2), .second, .val (.int p3), .val (.int v2), .val (.long v5), .second, .val (.long v20), .second, .val (.ref b22), .val (.int v34), .unset] [])) _
          refine XS.lloadN X35.here hx rfl (hb hby at_89) rfl ?_
          show Steps p.tables e below (T35.setTop (mkF m 90 #[.val (.long q0), .second, .val (.long q1), .second, .val (.long q2), .second, .val (.int p3), .val (.int v2), .val (.long v5), .second, .val (.long v20), .second, .val (.ref b22), .val (.int v34), .unset] [(.long q0)])) _
          refine XS.lload X35.here hx rfl (hb hby at_90) rfl ?_
          show Steps p.tables e below (T35.setTop (mkF m 92 #[.val (.long q0), .second, .val (.long q1), .second, .val (.long q2), .second, .val (.int p3), .val (.int v2), .val (.long v5), .second, .val (.long v20), .second, .val (.ref b22), .val (.int v34), .unset] [(.long v20), (.long q0)])) _
          refine XS.lloadN X35.here hx rfl (hb hby at_92) rfl ?_
          exact k)
      obtain ⟨_, _, ⟨T40, L40, k40, n40⟩, -, X40, ⟨Lc40, hQ40, l40, y40, z40⟩, st40⟩ := Jvm.LawKit.callS X35 hx (y := (⟨"java/lang/Math", "min", "(JJ)J"⟩ : MethodName)) hown (mvT hZ (hw _ (List.mem_of_getElem? (i := 23) rfl))) (mvT hZ (hw _ (List.mem_of_getElem? (i := 24) rfl))) (mvT hZ (hw _ (List.mem_of_getElem? (i := 25) rfl))) (mvT hZ (hw _ (List.mem_of_getElem? (i := 26) rfl))) (by decide) (backOf (W := 2) (rm5 l Z a0 hw [] v20 q1 T26.heap n0 c27 ) hZ (hw _ (List.mem_of_getElem? (i := 26) rfl)) (hw _ (List.mem_of_getElem? (i := 25) rfl)) (by decide) (by decide)) (g := (mkF m 93 #[.val (.long q0), .second, .val (.long q1), .second, .val (.long q2), .second, .val (.int p3), .val (.int v2), .val (.long v5), .second, .val (.long v20), .second, .val (.ref b22), .val (.int v34), .unset] [(.long q1), (.long v20), (.long q0)])) rfl (by rw [hml]; rfl) (argsL := [(.long v20), (.long q1)]) (rest := [(.long q0)]) (lenOf own_pd2 rfl) rfl (by show 2 * 0 + _ ≤ _; exact Nat.le_of_eq rfl) (hb hby at_93) (fun _ _ => ⟨rfl, e35, (by decide : 1 + 0 ≤ _), (by decide : 2 + 0 ≤ _)⟩)
      dsimp only [Pt.U, Pt.locs, Pt.cells, Pt.slots] at X40 l40 y40 z40 st40 hQ40
      subst l40 y40 z40
      obtain ⟨rfl, N40q, e40⟩ := hQ40
      have N40 := Fr.app N35 N40q
      have pre40 : ∀ t, Steps p.tables e below (T40.setTop (mkF m 96 #[.val (.long q0), .second, .val (.long q1), .second, .val (.long q2), .second, .val (.int p3), .val (.int v2), .val (.long v5), .second, .val (.long v20), .second, .val (.ref b22), .val (.int v34), .unset] [(.long (own_f5 v20 q1)), (.long q0)])) t → P t := fun t k => pre39 t (st40 _ k)
      obtain ⟨v41, hv41⟩ : ∃ z : Int64, z = (own_f5 v20 q1) := ⟨_, rfl⟩
      have pre42 : ∀ t, Steps p.tables e below (T40.setTop (mkF m 96 #[.val (.long q0), .second, .val (.long q1), .second, .val (.long q2), .second, .val (.int p3), .val (.int v2), .val (.long v5), .second, .val (.long v20), .second, .val (.ref b22), .val (.int v34), .unset] [(.long v41), (.long q0)])) t → P t := fun t k => pre40 t (by subst hv41; exact k)
      obtain ⟨_, _, ⟨T43, L43, k43, n43⟩, -, X43, ⟨Lc43, hQ43, l43, y43, z43⟩, st43⟩ := Jvm.LawKit.callS X40 hx (y := (⟨"java/lang/Math", "max", "(JJ)J"⟩ : MethodName)) hown (mvT hZ (hw _ (List.mem_of_getElem? (i := 27) rfl))) (mvT hZ (hw _ (List.mem_of_getElem? (i := 28) rfl))) (mvT hZ (hw _ (List.mem_of_getElem? (i := 25) rfl))) (mvT hZ (hw _ (List.mem_of_getElem? (i := 29) rfl))) (by decide) (backOf (W := 0) (rm6 l Z a0 hw [] q0 v41 T26.heap n0 c27 ) hZ (hw _ (List.mem_of_getElem? (i := 29) rfl)) (hw _ (List.mem_of_getElem? (i := 25) rfl)) (by decide) (by decide)) (g := (mkF m 96 #[.val (.long q0), .second, .val (.long q1), .second, .val (.long q2), .second, .val (.int p3), .val (.int v2), .val (.long v5), .second, .val (.long v20), .second, .val (.ref b22), .val (.int v34), .unset] [(.long v41), (.long q0)])) rfl (by rw [hml]; rfl) (argsL := [(.long q0), (.long v41)]) (rest := []) (lenOf own_pd2 rfl) rfl (by show 2 * 0 + _ ≤ _; exact Nat.le_of_eq rfl) (hb hby at_96) (fun _ _ => ⟨rfl, e40, (by decide : 1 + 0 ≤ _), (by decide : 2 + 0 ≤ _)⟩)
      dsimp only [Pt.U, Pt.locs, Pt.cells, Pt.slots] at X43 l43 y43 z43 st43 hQ43
      subst l43 y43 z43
      obtain ⟨rfl, N43q, e43⟩ := hQ43
      have N43 := Fr.app N40 N43q
      have pre43 : ∀ t, Steps p.tables e below (T43.setTop (mkF m 99 #[.val (.long q0), .second, .val (.long q1), .second, .val (.long q2), .second, .val (.int p3), .val (.int v2), .val (.long v5), .second, .val (.long v20), .second, .val (.ref b22), .val (.int v34), .unset] [(.long (own_f6 q0 v41))])) t → P t := fun t k => pre42 t (st43 _ k)
      obtain ⟨v44, hv44⟩ : ∃ z : Int64, z = (own_f6 q0 v41) := ⟨_, rfl⟩
      have pre45 : ∀ t, Steps p.tables e below (T43.setTop (mkF m 99 #[.val (.long q0), .second, .val (.long q1), .second, .val (.long q2), .second, .val (.int p3), .val (.int v2), .val (.long v5), .second, .val (.long v20), .second, .val (.ref b22), .val (.int v34), .unset] [(.long v44)])) t → P t := fun t k => pre43 t (by subst hv44; exact k)
      have pre46 : ∀ t, Steps p.tables e below (T43.setTop (mkF m 102 #[.val (.long q0), .second, .val (.long q1), .second, .val (.long q2), .second, .val (.int p3), .val (.int v2), .val (.long v5), .second, .val (.long v20), .second, .val (.ref b22), .val (.int v34), .unset] [(.int (lcmpW v44 v20))])) t → P t := fun t k => pre45 t (by
          show Steps p.tables e below (T43.setTop (mkF m 99 #[.val (.long q0), .second, .val (.long q1), .second, .val (.long q2), .second, .val (.int p3), .val (.int v2), .val (.long v5), .second, .val (.long v20), .second, .val (.ref b22), .val (.int v34), .unset] [(.long v44)])) _
          refine XS.lload X43.here hx rfl (hb hby at_99) rfl ?_
          show Steps p.tables e below (T43.setTop (mkF m 101 #[.val (.long q0), .second, .val (.long q1), .second, .val (.long q2), .second, .val (.int p3), .val (.int v2), .val (.long v5), .second, .val (.long v20), .second, .val (.ref b22), .val (.int v34), .unset] [(.long v20), (.long v44)])) _
          refine XS.lcmp X43.here hx rfl (hb hby at_101) rfl ?_
          exact k)
      obtain ⟨T51, L51, v50, X51, e51, N51, hv50, pre51⟩ : ∃ (T' : State) (L' : List Loc) (v50 : Int32), Stand p l e room_1 s m #[(.long q0), (.long q1), (.long q2), (.int p3)] below meth c T' L' 1 2 ∧ T'.heap = T26.heap ∧ Fr n0 L' ∧ v50 = (if v44 = v20 then (1 : Int32) else (0 : Int32)) ∧ (∀ t, Steps p.tables e below (T'.setTop (mkF m 110 #[.val (.long q0), .second, .val (.long q1), .second, .val (.long q2), .second, .val (.int p3), .val (.int v2), .val (.long v5), .second, .val (.long v20), .second, .val (.ref b22), .val (.int v34), .unset] [(.int v50)])) t → P t) := by
        by_cases hc47 : v44 = v20
        · have pre48 : ∀ t, Steps p.tables e below (T43.setTop (mkF m 110 #[.val (.long q0), .second, .val (.long q1), .second, .val (.long q2), .second, .val (.int p3), .val (.int v2), .val (.long v5), .second, .val (.long v20), .second, .val (.ref b22), .val (.int v34), .unset] [(.int (1 : Int32))])) t → P t := fun t k => pre46 t (by
              show Steps p.tables e below (T43.setTop (mkF m 102 #[.val (.long q0), .second, .val (.long q1), .second, .val (.long q2), .second, .val (.int p3), .val (.int v2), .val (.long v5), .second, .val (.long v20), .second, .val (.ref b22), .val (.int v34), .unset] [(.int (lcmpW v44 v20))])) _
              refine XS.ifNo X43.here hx rfl (hb hby at_102) rfl ((if0 _ _).trans (teq ((lw_eq _ _).mpr hc47)).2) ?_
              show Steps p.tables e below (T43.setTop (mkF m 105 #[.val (.long q0), .second, .val (.long q1), .second, .val (.long q2), .second, .val (.int p3), .val (.int v2), .val (.long v5), .second, .val (.long v20), .second, .val (.ref b22), .val (.int v34), .unset] [])) _
              refine XS.iconst X43.here hx rfl (hb hby at_105) ?_
              show Steps p.tables e below (T43.setTop (mkF m 106 #[.val (.long q0), .second, .val (.long q1), .second, .val (.long q2), .second, .val (.int p3), .val (.int v2), .val (.long v5), .second, .val (.long v20), .second, .val (.ref b22), .val (.int v34), .unset] [(.int (1 : Int32))])) _
              refine XS.goto X43.here hx rfl (pc0 := 106) (pc' := 110) rfl (hb hby at_106) (by decide) (by decide) ?_
              exact k)
          exact ⟨_, _, (1 : Int32), X43, e43, N43, (by first | (rw [if_pos hc47]; done) | simp only [if_pos hc47] | simp [if_pos hc47]), pre48⟩
        · have pre49 : ∀ t, Steps p.tables e below (T43.setTop (mkF m 110 #[.val (.long q0), .second, .val (.long q1), .second, .val (.long q2), .second, .val (.int p3), .val (.int v2), .val (.long v5), .second, .val (.long v20), .second, .val (.ref b22), .val (.int v34), .unset] [(.int (0 : Int32))])) t → P t := fun t k => pre46 t (by
              show Steps p.tables e below (T43.setTop (mkF m 102 #[.val (.long q0), .second, .val (.long q1), .second, .val (.long q2), .second, .val (.int p3), .val (.int v2), .val (.long v5), .second, .val (.long v20), .second, .val (.ref b22), .val (.int v34), .unset] [(.int (lcmpW v44 v20))])) _
              refine XS.ifYes X43.here hx rfl (pc0 := 102) (pc' := 109) rfl (hb hby at_102) rfl ((if0 _ _).trans (feq (fun q => hc47 ((lw_eq _ _).mp q))).2) (by decide) (by decide) ?_
              show Steps p.tables e below (T43.setTop (mkF m 109 #[.val (.long q0), .second, .val (.long q1), .second, .val (.long q2), .second, .val (.int p3), .val (.int v2), .val (.long v5), .second, .val (.long v20), .second, .val (.ref b22), .val (.int v34), .unset] [])) _
              refine XS.iconst X43.here hx rfl (hb hby at_109) ?_
              exact k)
          exact ⟨_, _, (0 : Int32), X43, e43, N43, (by first | (rw [if_neg hc47]; done) | simp only [if_neg hc47] | simp [if_neg hc47]), pre49⟩
      have pre52 : ∀ t, Steps p.tables e below (T51.setTop (mkF m 112 #[.val (.long q0), .second, .val (.long q1), .second, .val (.long q2), .second, .val (.int p3), .val (.int v2), .val (.long v5), .second, .val (.long v20), .second, .val (.ref b22), .val (.int v34), .val (.int v50)] [])) t → P t := fun t k => pre51 t (by
          show Steps p.tables e below (T51.setTop (mkF m 110 #[.val (.long q0), .second, .val (.long q1), .second, .val (.long q2), .second, .val (.int p3), .val (.int v2), .val (.long v5), .second, .val (.long v20), .second, .val (.ref b22), .val (.int v34), .unset] [(.int v50)])) _
          refine XS.istore X51.here hx rfl (hb hby at_110) rfl (l' := #[.val (.long q0), .second, .val (.long q1), .second, .val (.long q2), .second, .val (.int p3), .val (.int v2), .val (.long v5), .second, .val (.long v20), .second, .val (.ref b22), .val (.int v34), .val (.int v50)]) rfl ?_
          exact k)
      exact ⟨_, _, v50, X51, e51, N51, (by subst hv41 hv44 hv50; first | (rw [if_neg hc37]; done) | simp only [if_neg hc37] | simp [if_neg hc37]), pre52⟩
  have pre55 : ∀ t, Steps p.tables e below (T54.setTop (mkF m 116 #[.val (.long q0), .second, .val (.long q1), .second, .val (.long q2), .second, .val (.int p3), .val (.int v2), .val (.long v5), .second, .val (.long v20), .second, .val (.ref b22), .val (.int v34), .val (.int v53)] [(.long v20), (.ref b22)])) t → P t := fun t k => pre54 t (by
      show Steps p.tables e below (T54.setTop (mkF m 112 #[.val (.long q0), .second, .val (.long q1), .second, .val (.long q2), .second, .val (.int p3), .val (.int v2), .val (.long v5), .second, .val (.long v20), .second, .val (.ref b22), .val (.int v34), .val (.int v53)] [])) _
      refine XS.aload X54.here hx rfl (hb hby at_112) rfl rfl ?_
      show Steps p.tables e below (T54.setTop (mkF m 114 #[.val (.long q0), .second, .val (.long q1), .second, .val (.long q2), .second, .val (.int p3), .val (.int v2), .val (.long v5), .second, .val (.long v20), .second, .val (.ref b22), .val (.int v34), .val (.int v53)] [(.ref b22)])) _
      refine XS.lload X54.here hx rfl (hb hby at_114) rfl ?_
      exact k)
  obtain ⟨cq56, kq56, q56a, q56b, q56c⟩ := isOf hZ e54 EE26
  obtain ⟨_, _, ⟨T56, L56, k56, n56⟩, -, X56, ⟨Lc56, hQ56, l56, y56, z56⟩, st56⟩ := X54.virtualBack hx (y := (⟨"com/example/fairmark/fairmark/TimeRange", "holds", "(J)Z"⟩ : MethodName)) (z := (⟨"com/example/fairmark/fairmark/TimeRange", "holds", "(J)Z"⟩ : MethodName)) hown (mvT hZ (hw _ (List.mem_of_getElem? (i := 18) rfl))) (mvT hZ (hw _ (List.mem_of_getElem? (i := 19) rfl))) (notFace_of_selects (args := #[]) (mvT hZ (hw _ (List.mem_of_getElem? (i := 21) rfl)))) (mvT hZ (hw _ (List.mem_of_getElem? (i := 21) rfl))) (mvT hZ (hw _ (List.mem_of_getElem? (i := 20) rfl))) (by decide) (backOf (W := 0) (rm4 l Z a0 hw [] b22 v20 q0 q1 T26.heap n0 c27 FF26_0 FF26_1) hZ (hw _ (List.mem_of_getElem? (i := 22) rfl)) (hw _ (List.mem_of_getElem? (i := 2) rfl)) (by decide) (by decide)) q56a q56c (g := (mkF m 116 #[.val (.long q0), .second, .val (.long q1), .second, .val (.long q2), .second, .val (.int p3), .val (.int v2), .val (.long v5), .second, .val (.long v20), .second, .val (.ref b22), .val (.int v34), .val (.int v53)] [(.long v20), (.ref b22)])) rfl (by rw [hml]; rfl) (Steps.refl _) (argsL := [(.long v20)]) (rest := []) (lenOf own_pd3 rfl) rfl (by show 2 * 0 + _ ≤ _; exact Nat.le_of_eq rfl) (hb hby at_116) (fun _ _ => ⟨rfl, e54, (by decide : 1 + 0 ≤ _), (by decide : 2 + 0 ≤ _)⟩)
  dsimp only [Pt.U, Pt.locs, Pt.cells, Pt.slots] at X56 l56 y56 z56 st56 hQ56
  subst l56 y56 z56
  obtain ⟨rfl, N56q, e56⟩ := hQ56
  have N56 := Fr.app N54 N56q
  have pre56 : ∀ t, Steps p.tables e below (T56.setTop (mkF m 119 #[.val (.long q0), .second, .val (.long q1), .second, .val (.long q2), .second, .val (.int p3), .val (.int v2), .val (.long v5), .second, .val (.long v20), .second, .val (.ref b22), .val (.int v34), .val (.int v53)] [(.int (own_f4 v20 q0 q1))])) t → P t := fun t k => pre55 t (st56.trans k)
  obtain ⟨v57, hv57⟩ : ∃ z : Int32, z = (own_f4 v20 q0 q1) := ⟨_, rfl⟩
  have pre58 : ∀ t, Steps p.tables e below (T56.setTop (mkF m 119 #[.val (.long q0), .second, .val (.long q1), .second, .val (.long q2), .second, .val (.int p3), .val (.int v2), .val (.long v5), .second, .val (.long v20), .second, .val (.ref b22), .val (.int v34), .val (.int v53)] [(.int v57)])) t → P t := fun t k => pre56 t (by subst hv57; exact k)
  have pre59 : ∀ t, Steps p.tables e below (T56.setTop (mkF m 121 #[.val (.long q0), .second, .val (.long q1), .second, .val (.long q2), .second, .val (.int p3), .val (.int v2), .val (.long v5), .second, .val (.long v20), .second, .val (.ref b22), .val (.int v34), .val (.int v53)] [(.int v53), (.int v57)])) t → P t := fun t k => pre58 t (by
      show Steps p.tables e below (T56.setTop (mkF m 119 #[.val (.long q0), .second, .val (.long q1), .second, .val (.long q2), .second, .val (.int p3), .val (.int v2), .val (.long v5), .second, .val (.long v20), .second, .val (.ref b22), .val (.int v34), .val (.int v53)] [(.int v57)])) _
      refine XS.iload X56.here hx rfl (hb hby at_119) rfl ?_
      exact k)
  obtain ⟨T78, L78, v77, X78, e78, N78, hv77, pre78⟩ : ∃ (T' : State) (L' : List Loc) (v77 : Int32), Stand p l e room_1 s m #[(.long q0), (.long q1), (.long q2), (.int p3)] below meth c T' L' 1 2 ∧ T'.heap = T26.heap ∧ Fr n0 L' ∧ v77 = (if v57 = v53 then (let v63 : Int32 := (own_f4 q0 q0 q1); (if v63 = v34 then (let v69 : Int32 := (own_f4 q1 q0 q1); (if v69 = v34 then (1 : Int32) else (0 : Int32))) else (0 : Int32))) else (0 : Int32)) ∧ (∀ t, Steps p.tables e below (T'.setTop (mkF m 151 #[.val (.long q0), .second, .val (.long q1), .second, .val (.long q2), .second, .val (.int p3), .val (.int v2), .val (.long v5), .second, .val (.long v20), .second, .val (.ref b22), .val (.int v34), .val (.int v53)] [(.int v77)])) t → P t) := by
    by_cases hc60 : v57 = v53
    · have pre61 : ∀ t, Steps p.tables e below (T56.setTop (mkF m 127 #[.val (.long q0), .second, .val (.long q1), .second, .val (.long q2), .second, .val (.int p3), .val (.int v2), .val (.long v5), .second, .val (.long v20), .second, .val (.ref b22), .val (.int v34), .val (.int v53)] [(.long q0), (.ref b22)])) t → P t := fun t k => pre59 t (by
          show Steps p.tables e below (T56.setTop (mkF m 121 #[.val (.long q0), .second, .val (.long q1), .second, .val (.long q2), .second, .val (.int p3), .val (.int v2), .val (.long v5), .second, .val (.long v20), .second, .val (.ref b22), .val (.int v34), .val (.int v53)] [(.int v53), (.int v57)])) _
          refine XS.icmpNo X56.here hx rfl (hb hby at_121) rfl (teq hc60).2 ?_
          show Steps p.tables e below (T56.setTop (mkF m 124 #[.val (.long q0), .second, .val (.long q1), .second, .val (.long q2), .second, .val (.int p3), .val (.int v2), .val (.long v5), .second, .val (.long v20), .second, .val (.ref b22), .val (.int v34), .val (.int v53)] [])) _
          refine XS.aload X56.here hx rfl (hb hby at_124) rfl rfl ?_
          show Steps p.tables e below (T56.setTop (mkF m 126 #[.val (.long q0), .second, .val (.long q1), .second, .val (.long q2), .second, .val (.int p3), .val (.int v2), .val (.long v5), .second, .val (.long v20), .second, .val (.ref b22), .val (.int v34), .val (.int v53)] [(.ref b22)])) _
          refine XS.lloadN X56.here hx rfl (hb hby at_126) rfl ?_
          exact k)
      obtain ⟨cq62, kq62, q62a, q62b, q62c⟩ := isOf hZ e56 EE26
      obtain ⟨_, _, ⟨T62, L62, k62, n62⟩, -, X62, ⟨Lc62, hQ62, l62, y62, z62⟩, st62⟩ := X56.virtualBack hx (y := (⟨"com/example/fairmark/fairmark/TimeRange", "holds", "(J)Z"⟩ : MethodName)) (z := (⟨"com/example/fairmark/fairmark/TimeRange", "holds", "(J)Z"⟩ : MethodName)) hown (mvT hZ (hw _ (List.mem_of_getElem? (i := 18) rfl))) (mvT hZ (hw _ (List.mem_of_getElem? (i := 19) rfl))) (notFace_of_selects (args := #[]) (mvT hZ (hw _ (List.mem_of_getElem? (i := 21) rfl)))) (mvT hZ (hw _ (List.mem_of_getElem? (i := 21) rfl))) (mvT hZ (hw _ (List.mem_of_getElem? (i := 20) rfl))) (by decide) (backOf (W := 0) (rm4 l Z a0 hw [] b22 q0 q0 q1 T26.heap n0 c27 FF26_0 FF26_1) hZ (hw _ (List.mem_of_getElem? (i := 22) rfl)) (hw _ (List.mem_of_getElem? (i := 2) rfl)) (by decide) (by decide)) q62a q62c (g := (mkF m 127 #[.val (.long q0), .second, .val (.long q1), .second, .val (.long q2), .second, .val (.int p3), .val (.int v2), .val (.long v5), .second, .val (.long v20), .second, .val (.ref b22), .val (.int v34), .val (.int v53)] [(.long q0), (.ref b22)])) rfl (by rw [hml]; rfl) (Steps.refl _) (argsL := [(.long q0)]) (rest := []) (lenOf own_pd3 rfl) rfl (by show 2 * 0 + _ ≤ _; exact Nat.le_of_eq rfl) (hb hby at_127) (fun _ _ => ⟨rfl, e56, (by decide : 1 + 0 ≤ _), (by decide : 2 + 0 ≤ _)⟩)
      dsimp only [Pt.U, Pt.locs, Pt.cells, Pt.slots] at X62 l62 y62 z62 st62 hQ62
      subst l62 y62 z62
      obtain ⟨rfl, N62q, e62⟩ := hQ62
      have N62 := Fr.app N56 N62q
      have pre62 : ∀ t, Steps p.tables e below (T62.setTop (mkF m 130 #[.val (.long q0), .second, .val (.long q1), .second, .val (.long q2), .second, .val (.int p3), .val (.int v2), .val (.long v5), .second, .val (.long v20), .second, .val (.ref b22), .val (.int v34), .val (.int v53)] [(.int (own_f4 q0 q0 q1))])) t → P t := fun t k => pre61 t (st62.trans k)
      obtain ⟨v63, hv63⟩ : ∃ z : Int32, z = (own_f4 q0 q0 q1) := ⟨_, rfl⟩
      have pre64 : ∀ t, Steps p.tables e below (T62.setTop (mkF m 130 #[.val (.long q0), .second, .val (.long q1), .second, .val (.long q2), .second, .val (.int p3), .val (.int v2), .val (.long v5), .second, .val (.long v20), .second, .val (.ref b22), .val (.int v34), .val (.int v53)] [(.int v63)])) t → P t := fun t k => pre62 t (by subst hv63; exact k)
      have pre65 : ∀ t, Steps p.tables e below (T62.setTop (mkF m 132 #[.val (.long q0), .second, .val (.long q1), .second, .val (.long q2), .second, .val (.int p3), .val (.int v2), .val (.long v5), .second, .val (.long v20), .second, .val (.ref b22), .val (.int v34), .val (.int v53)] [(.int v34), (.int v63)])) t → P t := fun t k => pre64 t (by
          show Steps p.tables e below (T62.setTop (mkF m 130 #[.val (.long q0), .second, .val (.long q1), .second, .val (.long q2), .second, .val (.int p3), .val (.int v2), .val (.long v5), .second, .val (.long v20), .second, .val (.ref b22), .val (.int v34), .val (.int v53)] [(.int v63)])) _
          refine XS.iload X62.here hx rfl (hb hby at_130) rfl ?_
          exact k)
      by_cases hc66 : v63 = v34
      · have pre67 : ∀ t, Steps p.tables e below (T62.setTop (mkF m 138 #[.val (.long q0), .second, .val (.long q1), .second, .val (.long q2), .second, .val (.int p3), .val (.int v2), .val (.long v5), .second, .val (.long v20), .second, .val (.ref b22), .val (.int v34), .val (.int v53)] [(.long q1), (.ref b22)])) t → P t := fun t k => pre65 t (by
            show Steps p.tables e below (T62.setTop (mkF m 132 #[.val (.long q0), .second, .val (.long q1), .second, .val (.long q2), .second, .val (.int p3), .val (.int v2), .val (.long v5), .second, .val (.long v20), .second, .val (.ref b22), .val (.int v34), .val (.int v53)] [(.int v34), (.int v63)])) _
            refine XS.icmpNo X62.here hx rfl (hb hby at_132) rfl (teq hc66).2 ?_
            show Steps p.tables e below (T62.setTop (mkF m 135 #[.val (.long q0), .second, .val (.long q1), .second, .val (.long q2), .second, .val (.int p3), .val (.int v2), .val (.long v5), .second, .val (.long v20), .second, .val (.ref b22), .val (.int v34), .val (.int v53)] [])) _
            refine XS.aload X62.here hx rfl (hb hby at_135) rfl rfl ?_
            show Steps p.tables e below (T62.setTop (mkF m 137 #[.val (.long q0), .second, .val (.long q1), .second, .val (.long q2), .second, .val (.int p3), .val (.int v2), .val (.long v5), .second, .val (.long v20), .second, .val (.ref b22), .val (.int v34), .val (.int v53)] [(.ref b22)])) _
            refine XS.lloadN X62.here hx rfl (hb hby at_137) rfl ?_
            exact k)
        obtain ⟨cq68, kq68, q68a, q68b, q68c⟩ := isOf hZ e62 EE26
        obtain ⟨_, _, ⟨T68, L68, k68, n68⟩, -, X68, ⟨Lc68, hQ68, l68, y68, z68⟩, st68⟩ := X62.virtualBack hx (y := (⟨"com/example/fairmark/fairmark/TimeRange", "holds", "(J)Z"⟩ : MethodName)) (z := (⟨"com/example/fairmark/fairmark/TimeRange", "holds", "(J)Z"⟩ : MethodName)) hown (mvT hZ (hw _ (List.mem_of_getElem? (i := 18) rfl))) (mvT hZ (hw _ (List.mem_of_getElem? (i := 19) rfl))) (notFace_of_selects (args := #[]) (mvT hZ (hw _ (List.mem_of_getElem? (i := 21) rfl)))) (mvT hZ (hw _ (List.mem_of_getElem? (i := 21) rfl))) (mvT hZ (hw _ (List.mem_of_getElem? (i := 20) rfl))) (by decide) (backOf (W := 0) (rm4 l Z a0 hw [] b22 q1 q0 q1 T26.heap n0 c27 FF26_0 FF26_1) hZ (hw _ (List.mem_of_getElem? (i := 22) rfl)) (hw _ (List.mem_of_getElem? (i := 2) rfl)) (by decide) (by decide)) q68a q68c (g := (mkF m 138 #[.val (.long q0), .second, .val (.long q1), .second, .val (.long q2), .second, .val (.int p3), .val (.int v2), .val (.long v5), .second, .val (.long v20), .second, .val (.ref b22), .val (.int v34), .val (.int v53)] [(.long q1), (.ref b22)])) rfl (by rw [hml]; rfl) (Steps.refl _) (argsL := [(.long q1)]) (rest := []) (lenOf own_pd3 rfl) rfl (by show 2 * 0 + _ ≤ _; exact Nat.le_of_eq rfl) (hb hby at_138) (fun _ _ => ⟨rfl, e62, (by decide : 1 + 0 ≤ _), (by decide : 2 + 0 ≤ _)⟩)
        dsimp only [Pt.U, Pt.locs, Pt.cells, Pt.slots] at X68 l68 y68 z68 st68 hQ68
        subst l68 y68 z68
        obtain ⟨rfl, N68q, e68⟩ := hQ68
        have N68 := Fr.app N62 N68q
        have pre68 : ∀ t, Steps p.tables e below (T68.setTop (mkF m 141 #[.val (.long q0), .second, .val (.long q1), .second, .val (.long q2), .second, .val (.int p3), .val (.int v2), .val (.long v5), .second, .val (.long v20), .second, .val (.ref b22), .val (.int v34), .val (.int v53)] [(.int (own_f4 q1 q0 q1))])) t → P t := fun t k => pre67 t (st68.trans k)
        obtain ⟨v69, hv69⟩ : ∃ z : Int32, z = (own_f4 q1 q0 q1) := ⟨_, rfl⟩
        have pre70 : ∀ t, Steps p.tables e below (T68.setTop (mkF m 141 #[.val (.long q0), .second, .val (.long q1), .second, .val (.long q2), .second, .val (.int p3), .val (.int v2), .val (.long v5), .second, .val (.long v20), .second, .val (.ref b22), .val (.int v34), .val (.int v53)] [(.int v69)])) t → P t := fun t k => pre68 t (by subst hv69; exact k)
        have pre71 : ∀ t, Steps p.tables e below (T68.setTop (mkF m 143 #[.val (.long q0), .second, .val (.long q1), .second, .val (.long q2), .second, .val (.int p3), .val (.int v2), .val (.long v5), .second, .val (.long v20), .second, .val (.ref b22), .val (.int v34), .val (.int v53)] [(.int v34), (.int v69)])) t → P t := fun t k => pre70 t (by
            show Steps p.tables e below (T68.setTop (mkF m 141 #[.val (.long q0), .second, .val (.long q1), .second, .val (.long q2), .second, .val (.int p3), .val (.int v2), .val (.long v5), .second, .val (.long v20), .second, .val (.ref b22), .val (.int v34), .val (.int v53)] [(.int v69)])) _
            refine XS.iload X68.here hx rfl (hb hby at_141) rfl ?_
            exact k)
        by_cases hc72 : v69 = v34
        · have pre73 : ∀ t, Steps p.tables e below (T68.setTop (mkF m 151 #[.val (.long q0), .second, .val (.long q1), .second, .val (.long q2), .second, .val (.int p3), .val (.int v2), .val (.long v5), .second, .val (.long v20), .second, .val (.ref b22), .val (.int v34), .val (.int v53)] [(.int (1 : Int32))])) t → P t := fun t k => pre71 t (by
              show Steps p.tables e below (T68.setTop (mkF m 143 #[.val (.long q0), .second, .val (.long q1), .second, .val (.long q2), .second, .val (.int p3), .val (.int v2), .val (.long v5), .second, .val (.long v20), .second, .val (.ref b22), .val (.int v34), .val (.int v53)] [(.int v34), (.int v69)])) _
              refine XS.icmpNo X68.here hx rfl (hb hby at_143) rfl (teq hc72).2 ?_
              show Steps p.tables e below (T68.setTop (mkF m 146 #[.val (.long q0), .second, .val (.long q1), .second, .val (.long q2), .second, .val (.int p3), .val (.int v2), .val (.long v5), .second, .val (.long v20), .second, .val (.ref b22), .val (.int v34), .val (.int v53)] [])) _
              refine XS.iconst X68.here hx rfl (hb hby at_146) ?_
              show Steps p.tables e below (T68.setTop (mkF m 147 #[.val (.long q0), .second, .val (.long q1), .second, .val (.long q2), .second, .val (.int p3), .val (.int v2), .val (.long v5), .second, .val (.long v20), .second, .val (.ref b22), .val (.int v34), .val (.int v53)] [(.int (1 : Int32))])) _
              refine XS.goto X68.here hx rfl (pc0 := 147) (pc' := 151) rfl (hb hby at_147) (by decide) (by decide) ?_
              exact k)
          exact ⟨_, _, (1 : Int32), X68, e68, N68, (by subst hv63 hv69; first | (rw [if_pos hc60, if_pos hc66, if_pos hc72]; done) | simp only [if_pos hc60, if_pos hc66, if_pos hc72] | simp [if_pos hc60, if_pos hc66, if_pos hc72]), pre73⟩
        · have pre74 : ∀ t, Steps p.tables e below (T68.setTop (mkF m 151 #[.val (.long q0), .second, .val (.long q1), .second, .val (.long q2), .second, .val (.int p3), .val (.int v2), .val (.long v5), .second, .val (.long v20), .second, .val (.ref b22), .val (.int v34), .val (.int v53)] [(.int (0 : Int32))])) t → P t := fun t k => pre71 t (by
              show Steps p.tables e below (T68.setTop (mkF m 143 #[.val (.long q0), .second, .val (.long q1), .second, .val (.long q2), .second, .val (.int p3), .val (.int v2), .val (.long v5), .second, .val (.long v20), .second, .val (.ref b22), .val (.int v34), .val (.int v53)] [(.int v34), (.int v69)])) _
              refine XS.icmpYes X68.here hx rfl (pc0 := 143) (pc' := 150) rfl (hb hby at_143) rfl (feq hc72).2 (by decide) (by decide) ?_
              show Steps p.tables e below (T68.setTop (mkF m 150 #[.val (.long q0), .second, .val (.long q1), .second, .val (.long q2), .second, .val (.int p3), .val (.int v2), .val (.long v5), .second, .val (.long v20), .second, .val (.ref b22), .val (.int v34), .val (.int v53)] [])) _
              refine XS.iconst X68.here hx rfl (hb hby at_150) ?_
              exact k)
          exact ⟨_, _, (0 : Int32), X68, e68, N68, (by subst hv63 hv69; first | (rw [if_pos hc60, if_pos hc66, if_neg hc72]; done) | simp only [if_pos hc60, if_pos hc66, if_neg hc72] | simp [if_pos hc60, if_pos hc66, if_neg hc72]), pre74⟩
      · have pre75 : ∀ t, Steps p.tables e below (T62.setTop (mkF m 151 #[.val (.long q0), .second, .val (.long q1), .second, .val (.long q2), .second, .val (.int p3), .val (.int v2), .val (.long v5), .second, .val (.long v20), .second, .val (.ref b22), .val (.int v34), .val (.int v53)] [(.int (0 : Int32))])) t → P t := fun t k => pre65 t (by
            show Steps p.tables e below (T62.setTop (mkF m 132 #[.val (.long q0), .second, .val (.long q1), .second, .val (.long q2), .second, .val (.int p3), .val (.int v2), .val (.long v5), .second, .val (.long v20), .second, .val (.ref b22), .val (.int v34), .val (.int v53)] [(.int v34), (.int v63)])) _
            refine XS.icmpYes X62.here hx rfl (pc0 := 132) (pc' := 150) rfl (hb hby at_132) rfl (feq hc66).2 (by decide) (by decide) ?_
            show Steps p.tables e below (T62.setTop (mkF m 150 #[.val (.long q0), .second, .val (.long q1), .second, .val (.long q2), .second, .val (.int p3), .val (.int v2), .val (.long v5), .second, .val (.long v20), .second, .val (.ref b22), .val (.int v34), .val (.int v53)] [])) _
            refine XS.iconst X62.here hx rfl (hb hby at_150) ?_
            exact k)
        exact ⟨_, _, (0 : Int32), X62, e62, N62, (by subst hv63; first | (rw [if_pos hc60, if_neg hc66]; done) | simp only [if_pos hc60, if_neg hc66] | simp [if_pos hc60, if_neg hc66]), pre75⟩
    · have pre76 : ∀ t, Steps p.tables e below (T56.setTop (mkF m 151 #[.val (.long q0), .second, .val (.long q1), .second, .val (.long q2), .second, .val (.int p3), .val (.int v2), .val (.long v5), .second, .val (.long v20), .second, .val (.ref b22), .val (.int v34), .val (.int v53)] [(.int (0 : Int32))])) t → P t := fun t k => pre59 t (by
          show Steps p.tables e below (T56.setTop (mkF m 121 #[.val (.long q0), .second, .val (.long q1), .second, .val (.long q2), .second, .val (.int p3), .val (.int v2), .val (.long v5), .second, .val (.long v20), .second, .val (.ref b22), .val (.int v34), .val (.int v53)] [(.int v53), (.int v57)])) _
          refine XS.icmpYes X56.here hx rfl (pc0 := 121) (pc' := 150) rfl (hb hby at_121) rfl (feq hc60).2 (by decide) (by decide) ?_
          show Steps p.tables e below (T56.setTop (mkF m 150 #[.val (.long q0), .second, .val (.long q1), .second, .val (.long q2), .second, .val (.int p3), .val (.int v2), .val (.long v5), .second, .val (.long v20), .second, .val (.ref b22), .val (.int v34), .val (.int v53)] [])) _
          refine XS.iconst X56.here hx rfl (hb hby at_150) ?_
          exact k)
      exact ⟨_, _, (0 : Int32), X56, e56, N56, (by first | (rw [if_neg hc60]; done) | simp only [if_neg hc60] | simp [if_neg hc60]), pre76⟩
  obtain ⟨fs, hr, hrun, hended, hW, hsame⟩ := X78.leave (v := some (.int v77)) (fun h => by rw [Bd.returns] at h; cases h)
  refine ⟨_, _, fin _ (pre78 _ ?_), hrun, hended, _, _, rfl, ?_, ⟨_, rfl⟩, hW, hsame.mono (by decide) (by decide)⟩
  · show Steps p.tables e below (T78.setTop (mkF m 151 #[.val (.long q0), .second, .val (.long q1), .second, .val (.long q2), .second, .val (.int p3), .val (.int v2), .val (.long v5), .second, .val (.long v20), .second, .val (.ref b22), .val (.int v34), .val (.int v53)] [(.int v77)])) _
    have hnar : nar .boolean v77 = v77 := by subst hv2 hv5 hv20 hv34 hv53 hv57 hv77; first | rfl | (split <;> rfl) | ((try simp only []); (repeat' split) <;> rfl)
    exact retN X78 hx (t := .boolean) Bd.returns (by simp) (hb hby at_151) (by rw [hnar]; exact hr)
  · show Q0 Z q0 q1 q2 p3 h0 n0 _ T78.heap _
    rw [e78]
    exact ⟨(by subst hv2 hv5 hv20 hv34 hv53 hv57 hv77; first | rfl | simp only [own_f0]), N78⟩
theorem own_law (a b c : Int64) (d : Int32) : own_f0 a b c d = 1 := by
  unfold own_f0
  simp only []
  generalize (if (d &&& 3) = (0 : Int32) then _ else _) = t
  unfold own_f4 own_f5 own_f6
  have na : ¬ a < a := by rw [Int64.lt_iff_toInt_lt]; omega
  have nb : ¬ b < b := by rw [Int64.lt_iff_toInt_lt]; omega
  by_cases q : b < a
  · have k : (if t < a then (0 : Int32) else if b < t then 0 else 1) = 0 := by
      by_cases u : t < a
      · rw [if_pos u]
      · have w : b < t := by rw [Int64.lt_iff_toInt_lt] at q u ⊢; omega
        rw [if_neg u, if_pos w]
    simp [q, k, na]
  · have k : (if t < a then (0 : Int32) else if b < t then 0 else 1) = (if (if a < (if b < t then b else t) then (if b < t then b else t) else a) = t then 1 else 0) := by
      by_cases u : t < a
      · have w : ¬ b < t := by rw [Int64.lt_iff_toInt_lt] at q u ⊢; omega
        have w2 : ¬ a < t := by rw [Int64.lt_iff_toInt_lt] at u ⊢; omega
        have w3 : ¬ a = t := by rw [Int64.lt_iff_toInt_lt] at u; rw [← Int64.toInt_inj]; omega
        rw [if_pos u, if_neg w, if_neg w2, if_neg w3]
      · by_cases w : b < t
        · rw [if_neg u, if_pos w, if_pos w]
          have w3 : ¬ (if a < b then b else a) = t := by
            rw [Int64.lt_iff_toInt_lt] at w
            split
            · rw [← Int64.toInt_inj]; omega
            · rw [Int64.lt_iff_toInt_lt] at q; rw [← Int64.toInt_inj]; omega
          rw [if_neg w3]
        · rw [if_neg u, if_neg w, if_neg w]
          have w3 : (if a < t then t else a) = t := by
            split
            · rfl
            · next z => rw [Int64.lt_iff_toInt_lt] at z u; rw [← Int64.toInt_inj]; omega
          rw [if_pos w3]
    rw [k]
    simp [q, na, nb]
set_option maxRecDepth 65536 in
set_option maxHeartbeats 40000000 in
theorem comes_1 {Post : Tables → Env → Array Value → State → Outcome → State → Prop} (hpost : ∀ tb e args s v u, (limb_1_1.after args s (.returned v) u = true ∧ limb_1_2.after args s (.returned v) u = true ∧ True) → FrameEnd s (.returned v) u (Jvm.fieldLocs frame_1_writes args s ++ Jvm.arrayLocs frame_1_arrays args s ++ Jvm.staticLocs frame_1_statics s) 16 128 → Post tb e args s (.returned v) u) :
    ArmFor flags0 classFile x code maxLocals ret World_1 tables_1 room_1 Calls_1 rest_1 Pre_1 Post := by
  intro l hfl _ _ p e ha hc hk s m args below hf hA hF happ hP
  obtain ⟨hcalls, hrest, hpre⟩ := hP
  obtain ⟨-, -, -, hnamed, -, -, -, hat⟩ := (Spec.applies_iff hf).mp happ
  obtain ⟨hg, hn⟩ := and_e (Cond.before_iff.mp (show (Jvm.Cond.and given_1 narrow_1).before args s = true from hpre))
  obtain ⟨hg1, hg2⟩ := and_e hg
  obtain ⟨hg3, hg4⟩ := and_e hg2
  obtain ⟨hg5, hg6⟩ := and_e hg4
  obtain ⟨hg7, hg8⟩ := and_e hg6
  obtain ⟨w0, w1, w2, w3, rfl⟩ : ∃ w0 w1 w2 w3 : Value, args = #[w0, w1, w2, w3] := by
    have hs : args.size = 4 := by simpa [Cond.value, given_1] using hg1
    obtain ⟨L⟩ := args
    match L, hs with
    | [w0, w1, w2, w3], _ => exact ⟨w0, w1, w2, w3, rfl⟩
  have hw := fun d (hd : d ∈ tables_1) => atoms_spec (ws := Jvm.Cond.code x code maxLocals ret :: tables_1) hat d (List.mem_cons_of_mem _ hd)
  have hfit : Fit s := fun {y c} hc i hi => by
    obtain ⟨ha, rfl⟩ := Array.getElem?_eq_some_iff.mp hc
    have q := List.all_eq_true.mp ((Array.all_eq_true_iff_forall_mem.mp hF) _ (Array.getElem_mem ha)) i (List.mem_range.mpr hi)
    simpa [Array.getElem?_eq_getElem hi] using q
  obtain ⟨i0, ei0⟩ := isL_v hg3
  obtain rfl : w0 = (.long i0) := Option.some.inj ei0
  obtain ⟨i1, ei1⟩ := isL_v hg5
  obtain rfl : w1 = (.long i1) := Option.some.inj ei1
  obtain ⟨i2, ei2⟩ := isL_v hg7
  obtain rfl : w2 = (.long i2) := Option.some.inj ei2
  obtain ⟨i3, ei3⟩ := is_v hg8
  obtain rfl : w3 = (.int i3) := Option.some.inj ei3
  obtain ⟨n, o, h1, h2, h3, _, L, rfl, ⟨rfl, N⟩, hq⟩ := rm0 l s _ hw tables_1 i0 i1 i2 i3 s.heap s.heap.size (Nat.le_refl _) p e ha hc hk s m _ below hf ((Spec.applies_iff_loose hf).mp happ).1 ⟨rfl, State.Warmed39.refl s, rfl⟩ trivial
  refine ⟨n, _, h1, h2, h3, hpost _ _ _ _ _ _ ⟨Cond.after_iff.mpr rfl, Cond.after_iff.mpr (eq_i res_at (Term.int_eval (1)) (by rw [own_law])), trivial⟩ ⟨hq.1, hq.2.1, (hq.2.2.sift fun y hy => Or.inr (N y hy)).mono (by decide) (by decide)⟩⟩
theorem main_1_1 : Claimed_1_1 := comes_1 fun _ _ _ _ _ _ h hF => ⟨h.1, hF⟩
theorem main_1_2 : Claimed_1_2 := comes_1 fun _ _ _ _ _ _ h hF => ⟨h.2.1, hF⟩
end Jvm.Pilot.@@N@@
namespace Jvm.Pilot.@@N@@
open Jvm Jvm.ClassFile Sem Op Lib Jvm.Free Jvm.Stand Jvm.Pilot.@@N@@.Jvm.D
/-! MADE BY PROGRAM (witnessworld.py) out of the Statement's table words and the real class files: 11 classes; the members and pool entries that the words name. The judged class is class 1, her method 1. -/
namespace start1
open Jvm.ClassFile
def u (s : String) : CpInfo := .utf8 (stringToUtf16 s)
/-- a pool by its gaps: so many unusable entries, then the entry; so many at the end -/
def gap : Nat → List CpInfo → List CpInfo
  | 0, r => r
  | n + 1, r => .unusable :: gap n r
def poolList (es : List (Nat × CpInfo)) (last : Nat) : List CpInfo := es.foldr (fun e r => gap e.1 (e.2 :: r)) (gap last [])
def pool (es : List (Nat × CpInfo)) (last : Nat) : Array CpInfo := ⟨poolList es last⟩
def fileOf (pool : Array CpInfo) (this : Nat) (attrs : Array Attribute := #[]) (ms : Array MethodInfo := #[]) (fl : Nat := 33) (sup : Nat := 0) (ifs : Array Nat := #[]) (fds : Array FieldInfo := #[]) : ClassFile where
  minorVersion := 0
  majorVersion := 65
  constantPool := pool
  accessFlags := fl
  thisClass := this
  superClass := sup
  interfaces := ifs
  fields := fds
  methods := ms
  attributes := attrs
def plain (name : String) (sup : Option ClassId) : Class where
  name := name
  kind := .ordinary
  loader := none
  accessFlags := 33
  super := sup
  interfaces := #[]
  cf := none
  fields := #[]
  methods := #[]
  instanceTypes := #[]
  staticTypes := #[]
  resolved := #[]
  callSites := []
  init := .initialized
  statics := none
  mirror := none

def pool0 : Array CpInfo := pool [(5, u "<init>"), (0, u "()V"), (1, .class_ 10), (1, u "java/lang/Object")] 113

def k0c0 : Code := { maxStack := 0, maxLocals := 1, code := object_method_1_code, exceptionTable := #[], attributes := #[] }
def k0m0 : Method := { name := "<init>", desc := "()V", sig := { parameters := [], returnType := none }, accessFlags := 1, code := some k0c0 }
/-- java/lang/Object -/
def k0 : Class := { plain "java/lang/Object" none with
  accessFlags := 33
  interfaces := #[]
  cf := some (fileOf pool0 8 #[] #[{ accessFlags := 1, nameIndex := 5, descriptorIndex := 6, attributes := #[] }] 33 0 #[] #[])
  fields := #[]
  methods := #[k0m0]
  instanceTypes := #[]
  staticTypes := #[]
  resolved := Array.replicate 124 none
  statics := none }

def pool1 : Array CpInfo := pool [(2, .class_ 4), (1, u "java/lang/Object"), (0, u "<init>"), (0, u "()V"), (0, .long 2), (1, .class_ 10), (0, u "com/example/fairmark/fairmark/TimeRange"), (0, .methodref 9 12), (0, .nameAndType 5 13), (0, u "(JJ)V"), (0, .methodref 15 16), (0, .class_ 17), (0, .nameAndType 18 19), (0, u "java/lang/Math"), (0, u "min"), (0, u "(JJ)J"), (0, .methodref 15 21), (0, .nameAndType 22 19), (0, u "max"), (0, .methodref 9 24), (0, .nameAndType 25 26), (0, u "holds"), (0, u "(J)Z"), (0, .class_ 28), (0, u "com/example/fairmark/fairmark/TimeRangeHoldsPinLaw"), (2, u "law"), (0, u "(JJJI)Z")] 3

def k1m0 : Method := { name := "<init>", desc := "()V", sig := { parameters := [], returnType := none }, accessFlags := 1, code := none }
def k1c1 : Code := { maxStack := 6, maxLocals := 15, code := code, exceptionTable := #[], attributes := #[] }
def k1m1 : Method := { name := "law", desc := "(JJJI)Z", sig := { parameters := [.long, .long, .long, .int], returnType := some .boolean }, accessFlags := 9, code := some k1c1 }
/-- com/example/fairmark/fairmark/TimeRangeHoldsPinLaw -/
def k1 : Class := { plain "com/example/fairmark/fairmark/TimeRangeHoldsPinLaw" (some 0) with
  accessFlags := 49
  interfaces := #[]
  cf := some (fileOf pool1 27 #[] #[{ accessFlags := 1, nameIndex := 5, descriptorIndex := 6, attributes := #[] }, { accessFlags := 9, nameIndex := 31, descriptorIndex := 32, attributes := #[] }] 49 2 #[] #[])
  fields := #[]
  methods := #[k1m0, k1m1]
  instanceTypes := #[]
  staticTypes := #[]
  resolved := Array.replicate 36 none
  statics := none }

def pool2 : Array CpInfo := pool [(1, .methodref 2 3), (0, .class_ 4), (0, .nameAndType 5 6), (0, u "java/lang/Object"), (0, u "<init>"), (0, u "()V"), (0, .class_ 8), (0, u "java/lang/Record")] 13

def k2c0 : Code := { maxStack := 1, maxLocals := 1, code := jdk_30_method_1_code, exceptionTable := #[], attributes := #[] }
def k2m0 : Method := { name := "<init>", desc := "()V", sig := { parameters := [], returnType := none }, accessFlags := 4, code := some k2c0 }
/-- java/lang/Record -/
def k2 : Class := { plain "java/lang/Record" (some 0) with
  accessFlags := 1057
  interfaces := #[]
  cf := some (fileOf pool2 7 #[] #[{ accessFlags := 4, nameIndex := 5, descriptorIndex := 6, attributes := #[] }] 1057 2 #[] #[])
  fields := #[]
  methods := #[k2m0]
  instanceTypes := #[]
  staticTypes := #[]
  resolved := Array.replicate 22 none
  statics := none }

def pool3 : Array CpInfo := pool [(1, .methodref 2 3), (0, .class_ 4), (0, .nameAndType 5 6), (0, u "java/lang/Record"), (0, u "<init>"), (0, u "()V"), (0, .fieldref 8 9), (0, .class_ 10), (0, .nameAndType 11 12), (0, u "com/example/fairmark/fairmark/TimeRange"), (0, u "startMs"), (0, u "J"), (0, .fieldref 8 14), (0, .nameAndType 15 12), (0, u "endMs"), (26, u "(JJ)V"), (12, u "DEFAULT_SPAN_MS"), (1, u "MAX_SPAN_MS"), (7, u "holds"), (0, u "(J)Z")] 24

def k3c0 : Code := { maxStack := 3, maxLocals := 5, code := prog_11_method_1_code, exceptionTable := #[], attributes := #[] }
def k3m0 : Method := { name := "<init>", desc := "(JJ)V", sig := { parameters := [.long, .long], returnType := none }, accessFlags := 0, code := some k3c0 }
def k3c1 : Code := { maxStack := 4, maxLocals := 3, code := prog_11_method_3_code, exceptionTable := #[], attributes := #[] }
def k3m1 : Method := { name := "holds", desc := "(J)Z", sig := { parameters := [.long], returnType := some .boolean }, accessFlags := 0, code := some k3c1 }
/-- com/example/fairmark/fairmark/TimeRange -/
def k3 : Class := { plain "com/example/fairmark/fairmark/TimeRange" (some 2) with
  accessFlags := 48
  interfaces := #[]
  cf := some (fileOf pool3 8 #[] #[{ accessFlags := 0, nameIndex := 5, descriptorIndex := 42, attributes := #[] }, { accessFlags := 0, nameIndex := 65, descriptorIndex := 66, attributes := #[] }] 48 2 #[] #[{ accessFlags := 18, nameIndex := 11, descriptorIndex := 12, attributes := #[] }, { accessFlags := 18, nameIndex := 15, descriptorIndex := 12, attributes := #[] }, { accessFlags := 24, nameIndex := 55, descriptorIndex := 12, attributes := #[] }, { accessFlags := 24, nameIndex := 57, descriptorIndex := 12, attributes := #[] }])
  fields := #[{ name := "startMs", type := .long, accessFlags := 18, slot := 0, constantValue := 0 }, { name := "endMs", type := .long, accessFlags := 18, slot := 1, constantValue := 0 }, { name := "DEFAULT_SPAN_MS", type := .long, accessFlags := 24, slot := 0, constantValue := 0 }, { name := "MAX_SPAN_MS", type := .long, accessFlags := 24, slot := 1, constantValue := 0 }]
  methods := #[k3m0, k3m1]
  instanceTypes := #[.long, .long]
  staticTypes := #[.long, .long]
  resolved := Array.replicate 91 none
  statics := none }

def pool4 : Array CpInfo := pool [(1, .class_ 2), (0, u "java/lang/Math"), (1, .class_ 6), (1, u "java/lang/Object"), (0, u "<init>"), (0, u "()V"), (89, .class_ 100), (1, u "java/lang/Math$RandomNumberGeneratorHolder"), (20, u "(JJ)J"), (50, u "negativeZeroFloatBits"), (0, u "J"), (2, u "negativeZeroDoubleBits"), (21, u "max"), (2, u "min"), (43, u "$assertionsDisabled"), (0, u "Z"), (91, u "twoToTheDoubleScaleDown"), (0, u "D"), (4, u "twoToTheDoubleScaleUp"), (9, u "E"), (3, u "PI"), (2, u "TAU"), (2, u "DEGREES_TO_RADIANS"), (0, u "RADIANS_TO_DEGREES")] 94

def k4m0 : Method := { name := "<init>", desc := "()V", sig := { parameters := [], returnType := none }, accessFlags := 2, code := none }
def k4c1 : Code := { maxStack := 4, maxLocals := 4, code := jdk_29_method_66_code, exceptionTable := #[], attributes := #[] }
def k4m1 : Method := { name := "max", desc := "(JJ)J", sig := { parameters := [.long, .long], returnType := some .long }, accessFlags := 9, code := some k4c1 }
def k4c2 : Code := { maxStack := 4, maxLocals := 4, code := jdk_29_method_70_code, exceptionTable := #[], attributes := #[] }
def k4m2 : Method := { name := "min", desc := "(JJ)J", sig := { parameters := [.long, .long], returnType := some .long }, accessFlags := 9, code := some k4c2 }
/-- java/lang/Math -/
def k4 : Class := { plain "java/lang/Math" (some 0) with
  accessFlags := 49
  interfaces := #[]
  cf := some (fileOf pool4 1 #[.nestMembers #[98]] #[{ accessFlags := 2, nameIndex := 7, descriptorIndex := 8, attributes := #[] }, { accessFlags := 9, nameIndex := 198, descriptorIndex := 121, attributes := #[] }, { accessFlags := 9, nameIndex := 201, descriptorIndex := 121, attributes := #[] }] 49 4 #[] #[{ accessFlags := 25, nameIndex := 354, descriptorIndex := 339, attributes := #[] }, { accessFlags := 25, nameIndex := 358, descriptorIndex := 339, attributes := #[] }, { accessFlags := 25, nameIndex := 361, descriptorIndex := 339, attributes := #[] }, { accessFlags := 26, nameIndex := 364, descriptorIndex := 339, attributes := #[] }, { accessFlags := 26, nameIndex := 365, descriptorIndex := 339, attributes := #[] }, { accessFlags := 26, nameIndex := 172, descriptorIndex := 173, attributes := #[] }, { accessFlags := 26, nameIndex := 176, descriptorIndex := 173, attributes := #[] }, { accessFlags := 8, nameIndex := 344, descriptorIndex := 339, attributes := #[] }, { accessFlags := 8, nameIndex := 338, descriptorIndex := 339, attributes := #[] }, { accessFlags := 4120, nameIndex := 245, descriptorIndex := 246, attributes := #[] }])
  fields := #[{ name := "E", type := .double, accessFlags := 25, slot := 0, constantValue := 0 }, { name := "PI", type := .double, accessFlags := 25, slot := 1, constantValue := 0 }, { name := "TAU", type := .double, accessFlags := 25, slot := 2, constantValue := 0 }, { name := "DEGREES_TO_RADIANS", type := .double, accessFlags := 26, slot := 3, constantValue := 0 }, { name := "RADIANS_TO_DEGREES", type := .double, accessFlags := 26, slot := 4, constantValue := 0 }, { name := "negativeZeroFloatBits", type := .long, accessFlags := 26, slot := 5, constantValue := 0 }, { name := "negativeZeroDoubleBits", type := .long, accessFlags := 26, slot := 6, constantValue := 0 }, { name := "twoToTheDoubleScaleUp", type := .double, accessFlags := 8, slot := 7, constantValue := 0 }, { name := "twoToTheDoubleScaleDown", type := .double, accessFlags := 8, slot := 8, constantValue := 0 }, { name := "$assertionsDisabled", type := .boolean, accessFlags := 4120, slot := 9, constantValue := 0 }]
  methods := #[k4m0, k4m1, k4m2]
  instanceTypes := #[]
  staticTypes := #[.double, .double, .double, .double, .double, .long, .long, .double, .double, .boolean]
  resolved := Array.replicate 460 none
  statics := none }

def pool5 : Array CpInfo := pool [(1, u "java/lang/Cloneable"), (0, .class_ 1), (0, u "java/lang/Object"), (0, .class_ 3)] 3

/-- java/lang/Cloneable -/
def k5 : Class := { plain "java/lang/Cloneable" (some 0) with
  accessFlags := 1537
  interfaces := #[]
  cf := some (fileOf pool5 2 #[] #[] 1537 4 #[] #[])
  fields := #[]
  methods := #[]
  instanceTypes := #[]
  staticTypes := #[]
  resolved := Array.replicate 8 none
  statics := none }

def pool6 : Array CpInfo := pool [(1, u "java/io/Serializable"), (0, .class_ 1), (0, u "java/lang/Object"), (0, .class_ 3)] 3

/-- java/io/Serializable -/
def k6 : Class := { plain "java/io/Serializable" (some 0) with
  accessFlags := 1537
  interfaces := #[]
  cf := some (fileOf pool6 2 #[] #[] 1537 4 #[] #[])
  fields := #[]
  methods := #[]
  instanceTypes := #[]
  staticTypes := #[]
  resolved := Array.replicate 8 none
  statics := none }

/-- the primitive byte -/
def k7 : Class := { plain "byte" none with kind := .primitive 'B', accessFlags := 0x411 }
/-- [B -/
def k8 : Class := { plain "[B" (some 0) with kind := .array 7 .byte, interfaces := #[5, 6], accessFlags := 1041 }

/-- the primitive int -/
def k9 : Class := { plain "int" none with kind := .primitive 'I', accessFlags := 0x411 }
/-- [I -/
def k10 : Class := { plain "[I" (some 0) with kind := .array 9 .int, interfaces := #[5, 6], accessFlags := 1041 }

def heap : Heap := #[]
def classes : Array Class := #[k0, k1, k2, k3, k4, k5, k6, k7, k8, k9, k10]
def interned : List (Array UInt16 × Addr) := []
def slotsUsed : Nat := 0
def theMethod : MethodId := ⟨1, 1⟩
def args0 : Array Value := #[.long 5, .long 7, .long 3, .int 0]
def aboutOver (below : List Frame) : State where
  vm := { classes := classes, interned := interned.toArray }
  heap := heap
  slotsUsed := slotsUsed
  threads := #[{ frames := .invoking theMethod args0 :: below }]
def below0 : List Frame := [.native { method := ⟨0, 0⟩, args := #[] }]
def about1 : State := aboutOver below0
def p0 : Program := .bare "" "" ""
def e0 : Env := launch0.env 0 0 0
theorem w_frames : about1.frames = Frame.invoking theMethod args0 :: below0 := rfl
set_option maxRecDepth 65536 in
theorem w_args : argsFit about1.vm theMethod args0 = true := by decide +kernel
set_option maxRecDepth 65536 in
theorem w_heap : heapFits about1 = true := by decide +kernel
set_option maxRecDepth 65536 in
theorem w_runnable : about1.curStatus? = some .runnable := by decide +kernel
set_option maxRecDepth 65536 in
theorem w_alone : about1.alone = true := by decide +kernel
set_option maxRecDepth 65536 in
theorem w_named : about1.methodNamed? x = some theMethod := by decide +kernel
set_option maxRecDepth 65536 in
theorem w_hears : about1.hears theMethod below0 = true := by decide +kernel
set_option maxRecDepth 65536 in
theorem w_ripe : about1.ripe theMethod args0 below0 = true := by decide +kernel
theorem w_running : about1.status = .running := rfl
set_option maxRecDepth 65536 in
theorem w_room : about1.hasRoom e0.platform room_1 = true :=
  launch0.hasRoom_least _ room_1 (by decide +kernel) (by decide +kernel) (by decide +kernel) (by decide +kernel) (by decide +kernel) (by decide +kernel)
theorem allAtoms_all (ts : List Jvm.Cond) (a : Array Jvm.Value) (st : Jvm.State) : (allAtoms ts).before a st = ts.all (fun c => c.before a st) := by
  induction ts with
  | nil => rfl
  | cons c t ih =>
    show (Jvm.Cond.and c (allAtoms t)).before a st = _
    rw [Jvm.Cond.before_and, ih, List.all_cons]
def words1 : List Jvm.Cond := Jvm.Cond.code x code maxLocals ret :: tables_1
/-- a 'code' word, met by the world's own term for the bytes: nothing is compared byte by byte -/
theorem code_word {y : MethodName} {bytes : ByteArray} {mx : Nat} {rt : Option FieldType} {a : Array Value} {s : State} {m : MethodId} {meth : Method} {c : Code} (h1 : s.methodNamed? y = some m) (h2 : s.vm.method? m = some meth) (h3 : meth.code = some c) (h4 : c.code = bytes)
    (h5 : (c.maxLocals == mx && c.exceptionTable.isEmpty && decide (c.maxStack ≤ mostOperands) && decide (meth.sig.returnType = rt) && !meth.locks && decide (parseMethodDescriptor y.desc = some meth.sig)) = true) : (Jvm.Cond.code y bytes mx rt).before a s = true := by
  simp only [Bool.and_eq_true, beq_iff_eq, Bool.not_eq_true', decide_eq_true_eq] at h5
  obtain ⟨⟨⟨⟨⟨g1, g2⟩, g3⟩, g4⟩, g5⟩, g6⟩ := h5
  simp [Cond.before, Cond.holds, Cond.value, h1, h2, h3, h4, g1, g2, g3, g4, g5, g6]
def isCode : Jvm.Cond → Bool
  | .code _ _ _ _ => true
  | _ => false
theorem all_split {L : List Jvm.Cond} {P : Jvm.Cond → Bool} (h1 : L.all (fun c => isCode c || P c) = true) (h2 : ∀ c ∈ L.filter isCode, P c = true) : L.all P = true := by
  refine List.all_eq_true.mpr fun c hc => ?_
  have h := List.all_eq_true.mp h1 c hc
  rcases Bool.eq_false_or_eq_true (isCode c) with hi | hi
  · exact h2 c (List.mem_filter.mpr ⟨hc, hi⟩)
  · simpa [hi] using h
set_option maxRecDepth 65536 in
theorem w_c0 : (Jvm.Cond.code x code maxLocals ret).before args0 about1 = true := code_word (m := ⟨1, 1⟩) (meth := k1m1) (c := k1c1) (by decide +kernel) rfl rfl rfl (by decide +kernel)
set_option maxRecDepth 65536 in
theorem w_c1 : (Jvm.Cond.code ({ cls := "com/example/fairmark/fairmark/TimeRange", name := "<init>", desc := "(JJ)V" } : Jvm.MethodName) prog_11_method_1_code (5 : Nat) (Option.none : Option Jvm.ClassFile.FieldType)).before args0 about1 = true := code_word (m := ⟨3, 0⟩) (meth := k3m0) (c := k3c0) (by decide +kernel) rfl rfl rfl (by decide +kernel)
set_option maxRecDepth 65536 in
theorem w_c2 : (Jvm.Cond.code ({ cls := "java/lang/Record", name := "<init>", desc := "()V" } : Jvm.MethodName) jdk_30_method_1_code (1 : Nat) (Option.none : Option Jvm.ClassFile.FieldType)).before args0 about1 = true := code_word (m := ⟨2, 0⟩) (meth := k2m0) (c := k2c0) (by decide +kernel) rfl rfl rfl (by decide +kernel)
set_option maxRecDepth 65536 in
theorem w_c3 : (Jvm.Cond.code ({ cls := "java/lang/Object", name := "<init>", desc := "()V" } : Jvm.MethodName) object_method_1_code (1 : Nat) (Option.none : Option Jvm.ClassFile.FieldType)).before args0 about1 = true := code_word (m := ⟨0, 0⟩) (meth := k0m0) (c := k0c0) (by decide +kernel) rfl rfl rfl (by decide +kernel)
set_option maxRecDepth 65536 in
theorem w_c4 : (Jvm.Cond.code ({ cls := "com/example/fairmark/fairmark/TimeRange", name := "holds", desc := "(J)Z" } : Jvm.MethodName) prog_11_method_3_code (3 : Nat) (Option.some Jvm.ClassFile.FieldType.boolean)).before args0 about1 = true := code_word (m := ⟨3, 1⟩) (meth := k3m1) (c := k3c1) (by decide +kernel) rfl rfl rfl (by decide +kernel)
set_option maxRecDepth 65536 in
theorem w_c5 : (Jvm.Cond.code ({ cls := "java/lang/Math", name := "min", desc := "(JJ)J" } : Jvm.MethodName) jdk_29_method_70_code (4 : Nat) (Option.some Jvm.ClassFile.FieldType.long)).before args0 about1 = true := code_word (m := ⟨4, 2⟩) (meth := k4m2) (c := k4c2) (by decide +kernel) rfl rfl rfl (by decide +kernel)
set_option maxRecDepth 65536 in
theorem w_c6 : (Jvm.Cond.code ({ cls := "java/lang/Math", name := "max", desc := "(JJ)J" } : Jvm.MethodName) jdk_29_method_66_code (4 : Nat) (Option.some Jvm.ClassFile.FieldType.long)).before args0 about1 = true := code_word (m := ⟨4, 1⟩) (meth := k4m1) (c := k4c1) (by decide +kernel) rfl rfl rfl (by decide +kernel)
def codes1 : List Jvm.Cond := [Jvm.Cond.code x code maxLocals ret, Jvm.Cond.code ({ cls := "com/example/fairmark/fairmark/TimeRange", name := "<init>", desc := "(JJ)V" } : Jvm.MethodName) prog_11_method_1_code (5 : Nat) (Option.none : Option Jvm.ClassFile.FieldType), Jvm.Cond.code ({ cls := "java/lang/Record", name := "<init>", desc := "()V" } : Jvm.MethodName) jdk_30_method_1_code (1 : Nat) (Option.none : Option Jvm.ClassFile.FieldType), Jvm.Cond.code ({ cls := "java/lang/Object", name := "<init>", desc := "()V" } : Jvm.MethodName) object_method_1_code (1 : Nat) (Option.none : Option Jvm.ClassFile.FieldType), Jvm.Cond.code ({ cls := "com/example/fairmark/fairmark/TimeRange", name := "holds", desc := "(J)Z" } : Jvm.MethodName) prog_11_method_3_code (3 : Nat) (Option.some Jvm.ClassFile.FieldType.boolean), Jvm.Cond.code ({ cls := "java/lang/Math", name := "min", desc := "(JJ)J" } : Jvm.MethodName) jdk_29_method_70_code (4 : Nat) (Option.some Jvm.ClassFile.FieldType.long), Jvm.Cond.code ({ cls := "java/lang/Math", name := "max", desc := "(JJ)J" } : Jvm.MethodName) jdk_29_method_66_code (4 : Nat) (Option.some Jvm.ClassFile.FieldType.long)]
set_option maxRecDepth 65536 in
theorem codes_eq : words1.filter isCode = codes1 := rfl
theorem w_codes : ∀ c ∈ words1.filter isCode, c.before args0 about1 = true := by
  rw [codes_eq]
  intro c hc
  simp only [codes1, List.mem_cons, List.not_mem_nil, or_false] at hc
  rcases hc with rfl | rfl | rfl | rfl | rfl | rfl | rfl
  · exact w_c0
  · exact w_c1
  · exact w_c2
  · exact w_c3
  · exact w_c4
  · exact w_c5
  · exact w_c6
set_option maxRecDepth 65536 in
theorem w_t1 : (words1.take 24).all (fun c => isCode c || c.before args0 about1) = true := by decide +kernel
set_option maxRecDepth 65536 in
theorem w_t2 : (words1.drop 24).all (fun c => isCode c || c.before args0 about1) = true := by decide +kernel
theorem w_tables : (allAtoms (Jvm.Cond.code x code maxLocals ret :: tables_1)).before args0 about1 = true := by
  rw [allAtoms_all]
  show words1.all (fun c => c.before args0 about1) = true
  refine all_split ?_ w_codes
  rw [← List.take_append_drop 24 words1, List.all_append, w_t1, w_t2]
  rfl
set_option maxRecDepth 65536 in
theorem w_case : (Jvm.Cond.and given_1 narrow_1).before args0 about1 = true := by decide +kernel
theorem w_applies : (headSpec (Jvm.Cond.code x code maxLocals ret :: tables_1) room_1).applies x e0.platform about1 = true :=
  (Spec.applies_iff w_frames).mpr ⟨w_running, w_runnable, w_alone, w_named, w_hears, w_ripe, w_room, w_tables⟩
theorem atStart : AtStart classFile x code maxLocals ret World_1 tables_1 room_1 Calls_1 rest_1 Pre_1 launch0 p0 e0 about1 theMethod args0 below0 :=
  ⟨lists_1, trivial, launch0.admits_env _ _ _, launch0.least_env, fairChoices_fair.cas, fairChoices_fair.clock, w_frames, w_args, w_heap, w_applies, trivial, trivial, w_case⟩
end start1
theorem witness_1 : WitnessClaimed_1 := ⟨start1.p0, start1.e0, start1.about1, start1.theMethod, start1.args0, start1.below0, start1.atStart⟩
end Jvm.Pilot.@@N@@
