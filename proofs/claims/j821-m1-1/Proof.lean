import JvmDerived
import JvmDerived.Pilot.@@N@@Statement
import JvmDerived.Pilot.@@N@@Code
set_option linter.unusedVariables false
set_option linter.unusedSimpArgs false
namespace Jvm.RoadKit
open Sem ClassFile Op Lib Jvm.Stand Jvm.Free Jvm.LawKit
section New
variable {p : Program} {l : Launch} {e : Env} {R : Room} {s : State} {m : MethodId} {args : Array Value} {below : List Frame} {meth : Method} {c : Code} {T : State} {locs : List Loc} {cells slots : Nat}
theorem retI (X : Stand p l e R s m args below meth c T locs cells slots) (hx : p.tables.exec = Jvm.exec) {pc : Nat} {Ls : Array Slot} {z : Int32} {rest : List Value} (hret : meth.sig.returnType = some .int) (hd : decode c.code pc = .ok (.ireturn, 1)) {fs : List Frame}
    (hl : ∀ (f : JFrame) (acts : List Action), f.method = m → f.locked = none → f.entered = [] → (doReturn e (T.setTop f) acts (some (.int z))).1 = T.setFrames fs) : Steps p.tables e below (T.setTop (mkF m pc Ls (.int z :: rest))) (T.setFrames fs) := by
  have hm' : T.vm.method? m = some meth := X.method'
  have hn : narrow .int (.int z) = .int z := rfl
  show Steps p.tables e below (T.setTop { method := m, pc := pc, locals := Ls, stack := _ :: rest, locked := none }) _
  jvm_step X.here [X.here.top, hx, hd, hm', hret, hn]
  first | (intro acts; rw [hl _ acts rfl rfl rfl]) | rw [hl _ _ rfl rfl rfl]
  exact Steps.refl _
end New
end Jvm.RoadKit
namespace Jvm.Pilot.@@N@@
open Jvm Jvm.ClassFile Sem Op Lib Jvm.Free Jvm.Stand Jvm.LawKit Jvm.RoadKit Bundle Jvm.Pilot.@@N@@.Jvm.D
theorem own_nn (x : Int64) : ¬ (x &&& (9223372036854775807 : Int64)) < (0 : Int64) := by
  have h := c_maskL x 9223372036854775807 63 (by decide) (by decide)
  rw [Int64.lt_iff_toInt_lt]
  have h0 : (0 : Int64).toInt = 0 := by decide
  omega
theorem own_max1 (m v : Int32) (hv : v = m &&& (2147483647 : Int32)) (w : Int32) (hw : w = if v = (0 : Int32) then (1 : Int32) else v) : ¬ w < (1 : Int32) := by
  subst hw hv
  have h := c_mask m 2147483647 31 (by decide) (by decide)
  split
  · decide
  · next q =>
    rw [← Int32.toInt_inj] at q
    rw [Int32.lt_iff_toInt_lt]
    have h0 : (0 : Int32).toInt = 0 := by decide
    have h1 : (1 : Int32).toInt = 1 := by decide
    omega
theorem d1_0 : decode prog_26_method_1_code 0 = .ok (.aload_n 0, 1) := by decide +kernel
theorem d1_1 : decode prog_26_method_1_code 1 = .ok (.invokespecial 1, 3) := by decide +kernel
theorem d1_4 : decode prog_26_method_1_code 4 = .ok (.iload_n 1, 1) := by decide +kernel
theorem d1_5 : decode prog_26_method_1_code 5 = .ok (.iconst 1, 1) := by decide +kernel
theorem d1_6 : decode prog_26_method_1_code 6 = .ok (.if_icmp .ge 17, 3) := by decide +kernel
theorem d1_23 : decode prog_26_method_1_code 23 = .ok (.lload_n 2, 1) := by decide +kernel
theorem d1_24 : decode prog_26_method_1_code 24 = .ok (.lconst 0, 1) := by decide +kernel
theorem d1_25 : decode prog_26_method_1_code 25 = .ok (.lcmp, 1) := by decide +kernel
theorem d1_26 : decode prog_26_method_1_code 26 = .ok (.ifCond .ge 17, 3) := by decide +kernel
theorem d1_43 : decode prog_26_method_1_code 43 = .ok (.aload_n 0, 1) := by decide +kernel
theorem d1_44 : decode prog_26_method_1_code 44 = .ok (.iload_n 1, 1) := by decide +kernel
theorem d1_45 : decode prog_26_method_1_code 45 = .ok (.putfield 19, 3) := by decide +kernel
theorem d1_48 : decode prog_26_method_1_code 48 = .ok (.aload_n 0, 1) := by decide +kernel
theorem d1_49 : decode prog_26_method_1_code 49 = .ok (.lload_n 2, 1) := by decide +kernel
theorem d1_50 : decode prog_26_method_1_code 50 = .ok (.putfield 25, 3) := by decide +kernel
theorem d1_53 : decode prog_26_method_1_code 53 = .ok (.return_, 1) := by decide +kernel
theorem pn_1 : plainName "com/example/xmax/xmax/retry/RetryPolicy" = true := by first | (simp [plainName, overriddenIn]; done) | decide +kernel
theorem ef_1 (m : MethodId) (o0 : Addr) (p1 : Int32) (q2 : Int64) : entryFrame m #[(.ref o0), (.int p1), (.long q2)] 4 = mkF m 0 #[.val (.ref o0), .val (.int p1), .val (.long q2), .second] [] := by first | (simp [entryFrame, mkF, argsToLocals, Value.category]; done) | rfl
def Q1 (Z : State) (o0 : Addr) (p1 : Int32) (q2 : Int64) (h0 : Heap) (n0 : Nat) (v : Option Value) (h : Heap) (L : List Loc) : Prop := v = none ∧ Fr n0 L ∧ Keep h0 h [o0] ∧ Exa Z h o0 "com/example/xmax/xmax/retry/RetryPolicy" ∧ Fld Z h o0 "com/example/xmax/xmax/retry/RetryPolicy" "maxAttempts" "I" (.int p1) ∧ Fld Z h o0 "com/example/xmax/xmax/retry/RetryPolicy" "retryDelayMillis" "J" (.long q2)
set_option maxRecDepth 65536 in
set_option maxHeartbeats 40000000 in
theorem rm1 (l : Launch) (Z : State) (a0 : Array Value) (hw : ∀ d ∈ tables_1, d.before a0 Z = true) (ws : List Jvm.Cond) (o0 : Addr) (p1 : Int32) (q2 : Int64) (h0 : Heap) (n0 : Nat) (Z0 : n0 ≤ h0.size) (E_o0 : Exa Z h0 o0 "com/example/xmax/xmax/retry/RetryPolicy") (F_maxAttempts_o0 : Fld Z h0 o0 "com/example/xmax/xmax/retry/RetryPolicy" "maxAttempts" "I" (.int (0 : Int32))) (F_retryDelayMillis_o0 : Fld Z h0 o0 "com/example/xmax/xmax/retry/RetryPolicy" "retryDelayMillis" "J" (.long (0 : Int64))) (g_o0 : n0 ≤ o0) (hm1 : ¬ p1 < (1 : Int32)) (hd0 : ¬ q2 < (0 : Int64)) :
    MetFree l (⟨"com/example/xmax/xmax/retry/RetryPolicy", "<init>", "(IJ)V"⟩ : MethodName) (head1 (Jvm.Cond.code (⟨"com/example/xmax/xmax/retry/RetryPolicy", "<init>", "(IJ)V"⟩ : MethodName) prog_26_method_1_code 4 none :: ws) ({ frames := 1, cells := 0, slots := 0, locals := 12 } : Room)) (fun a U => a = #[(.ref o0), (.int p1), (.long q2)] ∧ Z.Warmed39 U.vm ∧ U.heap = h0) (fun _ _ _ _ _ => True) (fun _ U o U' => ∃ v L, o = .returned v ∧ Q1 Z o0 p1 q2 h0 n0 v U'.heap L ∧ FrameEnd U o U' L ({ frames := 1, cells := 0, slots := 0, locals := 12 } : Room).cells ({ frames := 1, cells := 0, slots := 0, locals := 12 } : Room).slots) := by
  refine MetFree.of_bodySF (plainFor_of_name pn_1) hisR ?_
  intro p e s m args below meth c s₁ Bd hml0 hP hK
  obtain ⟨rfl, hZ, hh⟩ := hP
  have hx := Bd.exec
  have hby := Bd.bytes
  have hml : c.maxLocals = 4 := hml0
  have hown : s.vm.findClass "com/example/xmax/xmax/retry/RetryPolicy" = some m.cls := findClass_of_methodNamed Bd.named
  have hnm := (name_of_methodNamed Bd.named Bd.method).1
  have X0 : Stand p l e ({ frames := 1, cells := 0, slots := 0, locals := 12 } : Room) s m #[(.ref o0), (.int p1), (.long q2)] below meth c s₁ [] 0 0 := Stand.of_body Bd
  have e0 : s₁.heap = h0 := by rw [← hh, Bd.state]; rfl
  have N0 := Fr.nil n0
  obtain ⟨P, pre0, fin⟩ : ∃ P : State → Prop, (∀ t, Steps p.tables e below (s₁.setTop (mkF m 0 #[.val (.ref o0), .val (.int p1), .val (.long q2), .second] [])) t → P t) ∧ (∀ t, P t → Steps p.tables e below (s₁.setTop (entryFrame m #[(.ref o0), (.int p1), (.long q2)] 4)) t) := ⟨fun t => Steps p.tables e below (s₁.setTop (entryFrame m #[(.ref o0), (.int p1), (.long q2)] 4)) t, fun t k => castTop (ef_1 m o0 p1 q2) k, fun t k => k⟩
  have K0 : Keep h0 h0 [o0] := Keep.refl _ _
  have pre1 : ∀ t, Steps p.tables e below (s₁.setTop (mkF m 1 #[.val (.ref o0), .val (.int p1), .val (.long q2), .second] [(.ref o0)])) t → P t := fun t k => pre0 t (by
      show Steps p.tables e below (s₁.setTop (mkF m 0 #[.val (.ref o0), .val (.int p1), .val (.long q2), .second] [])) _
      refine XS.aloadN X0.here hx rfl (hb hby d1_0) rfl rfl ?_
      exact k)
  obtain ⟨T2, X2, e2, st2⟩ := initO X0 hx hZ hown (hw _ (List.mem_of_getElem? (i := 8) rfl)) (hw _ (List.mem_of_getElem? (i := 9) rfl)) (hw _ (List.mem_of_getElem? (i := 10) rfl)) e0 (g := (mkF m 1 #[.val (.ref o0), .val (.int p1), .val (.long q2), .second] [(.ref o0)])) rfl (by rw [hml]; rfl) rfl (hb hby d1_1) (by decide) (W := 0) (by show 2 * 0 + _ ≤ _; exact Nat.le_of_eq rfl) (by decide)
  have pre2 : ∀ t, Steps p.tables e below (T2.setTop (mkF m 4 #[.val (.ref o0), .val (.int p1), .val (.long q2), .second] [])) t → P t := fun t k => pre1 t (st2 _ k)
  have pre3 : ∀ t, Steps p.tables e below (T2.setTop (mkF m 45 #[.val (.ref o0), .val (.int p1), .val (.long q2), .second] [(.int p1), (.ref o0)])) t → P t := fun t k => pre2 t (by
      show Steps p.tables e below (T2.setTop (mkF m 4 #[.val (.ref o0), .val (.int p1), .val (.long q2), .second] [])) _
      refine XS.iloadN X2.here hx rfl (hb hby d1_4) rfl ?_
      show Steps p.tables e below (T2.setTop (mkF m 5 #[.val (.ref o0), .val (.int p1), .val (.long q2), .second] [(.int p1)])) _
      refine XS.iconst X2.here hx rfl (hb hby d1_5) ?_
      show Steps p.tables e below (T2.setTop (mkF m 6 #[.val (.ref o0), .val (.int p1), .val (.long q2), .second] [(.int (1 : Int32)), (.int p1)])) _
      refine XS.icmpYes X2.here hx rfl (pc0 := 6) (pc' := 23) rfl (hb hby d1_6) rfl (flt (show ¬ (p1 < (1 : Int32)) from hm1)).2.1 (by decide) (by decide) ?_
      show Steps p.tables e below (T2.setTop (mkF m 23 #[.val (.ref o0), .val (.int p1), .val (.long q2), .second] [])) _
      refine XS.lloadN X2.here hx rfl (hb hby d1_23) rfl ?_
      show Steps p.tables e below (T2.setTop (mkF m 24 #[.val (.ref o0), .val (.int p1), .val (.long q2), .second] [(.long q2)])) _
      refine XS.lconst X2.here hx rfl (hb hby d1_24) ?_
      show Steps p.tables e below (T2.setTop (mkF m 25 #[.val (.ref o0), .val (.int p1), .val (.long q2), .second] [(.long (0 : Int64)), (.long q2)])) _
      refine XS.lcmp X2.here hx rfl (hb hby d1_25) rfl ?_
      show Steps p.tables e below (T2.setTop (mkF m 26 #[.val (.ref o0), .val (.int p1), .val (.long q2), .second] [(.int (lcmpW q2 (0 : Int64)))])) _
      refine XS.ifYes X2.here hx rfl (pc0 := 26) (pc' := 43) rfl (hb hby d1_26) rfl ((if0 _ _).trans (flt (fun q => (show ¬ (q2 < (0 : Int64)) from hd0) ((lw_lt _ _).mp q))).2.1) (by decide) (by decide) ?_
      show Steps p.tables e below (T2.setTop (mkF m 43 #[.val (.ref o0), .val (.int p1), .val (.long q2), .second] [])) _
      refine XS.aloadN X2.here hx rfl (hb hby d1_43) rfl rfl ?_
      show Steps p.tables e below (T2.setTop (mkF m 44 #[.val (.ref o0), .val (.int p1), .val (.long q2), .second] [(.ref o0)])) _
      refine XS.iloadN X2.here hx rfl (hb hby d1_44) rfl ?_
      exact k)
  obtain ⟨T4, h4, X4, e4, W4, st4⟩ := putF X2 hx hZ hown (host := "") (Or.inl (hw _ (List.mem_of_getElem? (i := 11) rfl))) Via.refl e2 F_maxAttempts_o0 E_o0 (Or.inr ⟨(hw _ (List.mem_of_getElem? (i := 12) rfl)), rfl, hnm⟩) (hw _ (List.mem_of_getElem? (i := 3) rfl)) (ty := .int) (by decide) rfl rfl (g := (mkF m 45 #[.val (.ref o0), .val (.int p1), .val (.long q2), .second] [(.int p1), (.ref o0)])) rfl rfl (hb hby d1_45)
  have pre4 : ∀ t, Steps p.tables e below (T4.setTop (mkF m 48 #[.val (.ref o0), .val (.int p1), .val (.long q2), .second] [])) t → P t := fun t k => pre3 t (st4 _ k)
  have Fw4 := F_maxAttempts_o0.same W4
  have c5 : n0 ≤ h4.size := Nat.le_trans Z0 (Keep.of_wr W4).1
  have c6 : Exa Z h4 o0 "com/example/xmax/xmax/retry/RetryPolicy" := E_o0.wr W4
  have c7 : Fld Z h4 o0 "com/example/xmax/xmax/retry/RetryPolicy" "retryDelayMillis" "J" (.long (0 : Int64)) := F_retryDelayMillis_o0.other W4 (Or.inr (slot_ne (Or.inr (hw _ (List.mem_of_getElem? (i := 14) rfl))) (Or.inr (hw _ (List.mem_of_getElem? (i := 12) rfl))) (by decide) (t := .long) (t' := .int) (by decide) (by decide)))
  have K8 : Keep h0 h4 [o0] := K0.wr W4 (Or.inl (List.mem_of_getElem? (i := 0) rfl))
  have N4 := Fr.snoc X4 N0 g_o0
  have pre9 : ∀ t, Steps p.tables e below (T4.setTop (mkF m 50 #[.val (.ref o0), .val (.int p1), .val (.long q2), .second] [(.long q2), (.ref o0)])) t → P t := fun t k => pre4 t (by
      show Steps p.tables e below (T4.setTop (mkF m 48 #[.val (.ref o0), .val (.int p1), .val (.long q2), .second] [])) _
      refine XS.aloadN X4.here hx rfl (hb hby d1_48) rfl rfl ?_
      show Steps p.tables e below (T4.setTop (mkF m 49 #[.val (.ref o0), .val (.int p1), .val (.long q2), .second] [(.ref o0)])) _
      refine XS.lloadN X4.here hx rfl (hb hby d1_49) rfl ?_
      exact k)
  obtain ⟨T10, h10, X10, e10, W10, st10⟩ := putF X4 hx hZ hown (host := "") (Or.inl (hw _ (List.mem_of_getElem? (i := 13) rfl))) Via.refl e4 c7 c6 (Or.inr ⟨(hw _ (List.mem_of_getElem? (i := 14) rfl)), rfl, hnm⟩) (hw _ (List.mem_of_getElem? (i := 3) rfl)) (ty := .long) (by decide) rfl rfl (g := (mkF m 50 #[.val (.ref o0), .val (.int p1), .val (.long q2), .second] [(.long q2), (.ref o0)])) rfl rfl (hb hby d1_50)
  have pre10 : ∀ t, Steps p.tables e below (T10.setTop (mkF m 53 #[.val (.ref o0), .val (.int p1), .val (.long q2), .second] [])) t → P t := fun t k => pre9 t (st10 _ k)
  have Fw10 := c7.same W10
  have c11 : n0 ≤ h10.size := Nat.le_trans c5 (Keep.of_wr W10).1
  have c12 : Exa Z h10 o0 "com/example/xmax/xmax/retry/RetryPolicy" := c6.wr W10
  have c13 : Fld Z h10 o0 "com/example/xmax/xmax/retry/RetryPolicy" "maxAttempts" "I" (.int p1) := Fw4.other W10 (Or.inr (slot_ne (Or.inr (hw _ (List.mem_of_getElem? (i := 12) rfl))) (Or.inr (hw _ (List.mem_of_getElem? (i := 14) rfl))) (by decide) (t := .int) (t' := .long) (by decide) (by decide)))
  have K14 : Keep h0 h10 [o0] := K8.wr W10 (Or.inl (List.mem_of_getElem? (i := 0) rfl))
  have N10 := Fr.snoc X10 N4 g_o0
  obtain ⟨fs, hr, hrun, hended, hW, hsame⟩ := X10.leave (v := none) (fun _ => rfl)
  refine ⟨_, _, fin _ (pre10 _ ?_), hrun, hended, _, _, rfl, ?_, ⟨_, rfl⟩, hW, hsame.mono (by decide) (by decide)⟩
  · show Steps p.tables e below (T10.setTop (mkF m 53 #[.val (.ref o0), .val (.int p1), .val (.long q2), .second] [])) _
    exact X10.returnOut hx Bd.returns (hb hby d1_53) hr
  · show Q1 Z o0 p1 q2 h0 n0 _ T10.heap _
    rw [e10]
    exact ⟨rfl, N10, K14, c12, c13, Fw10⟩
theorem d3_0 : decode prog_26_method_4_code 0 = .ok (.iload_n 1, 1) := by decide +kernel
theorem d3_1 : decode prog_26_method_4_code 1 = .ok (.aload_n 0, 1) := by decide +kernel
theorem d3_2 : decode prog_26_method_4_code 2 = .ok (.getfield 19, 3) := by decide +kernel
theorem d3_5 : decode prog_26_method_4_code 5 = .ok (.if_icmp .lt 7, 3) := by decide +kernel
theorem d3_8 : decode prog_26_method_4_code 8 = .ok (.iconst 1, 1) := by decide +kernel
theorem d3_9 : decode prog_26_method_4_code 9 = .ok (.goto 4, 3) := by decide +kernel
theorem d3_12 : decode prog_26_method_4_code 12 = .ok (.iconst 0, 1) := by decide +kernel
theorem d3_13 : decode prog_26_method_4_code 13 = .ok (.ireturn, 1) := by decide +kernel
theorem pn_3 : plainName "com/example/xmax/xmax/retry/RetryPolicy" = true := by first | (simp [plainName, overriddenIn]; done) | decide +kernel
theorem ef_3 (m : MethodId) (o0 : Addr) (p1 : Int32) : entryFrame m #[(.ref o0), (.int p1)] 2 = mkF m 0 #[.val (.ref o0), .val (.int p1)] [] := by first | (simp [entryFrame, mkF, argsToLocals, Value.category]; done) | rfl
def own_f3 (p1 : Int32) (w_maxAttempts_o0 : Int32) : Int32 := (if p1 < w_maxAttempts_o0 then (0 : Int32) else (1 : Int32))
def Q3 (Z : State) (o0 : Addr) (p1 : Int32) (w_maxAttempts_o0 : Int32) (h0 : Heap) (n0 : Nat) (v : Option Value) (h : Heap) (L : List Loc) : Prop := v = some (.int (own_f3 p1 w_maxAttempts_o0)) ∧ Fr n0 L ∧ h = h0
set_option maxRecDepth 65536 in
set_option maxHeartbeats 40000000 in
theorem rm3 (l : Launch) (Z : State) (a0 : Array Value) (hw : ∀ d ∈ tables_1, d.before a0 Z = true) (ws : List Jvm.Cond) (o0 : Addr) (p1 : Int32) (w_maxAttempts_o0 : Int32) (h0 : Heap) (n0 : Nat) (Z0 : n0 ≤ h0.size) (F_maxAttempts_o0 : Fld Z h0 o0 "com/example/xmax/xmax/retry/RetryPolicy" "maxAttempts" "I" (.int w_maxAttempts_o0)) :
    MetFree l (⟨"com/example/xmax/xmax/retry/RetryPolicy", "exhausted", "(I)Z"⟩ : MethodName) (head1 (Jvm.Cond.code (⟨"com/example/xmax/xmax/retry/RetryPolicy", "exhausted", "(I)Z"⟩ : MethodName) prog_26_method_4_code 2 (some .boolean) :: ws) ({ frames := 0, cells := 0, slots := 0, locals := 0 } : Room)) (fun a U => a = #[(.ref o0), (.int p1)] ∧ Z.Warmed39 U.vm ∧ U.heap = h0) (fun _ _ _ _ _ => True) (fun _ U o U' => ∃ v L, o = .returned v ∧ Q3 Z o0 p1 w_maxAttempts_o0 h0 n0 v U'.heap L ∧ FrameEnd U o U' L ({ frames := 0, cells := 0, slots := 0, locals := 0 } : Room).cells ({ frames := 0, cells := 0, slots := 0, locals := 0 } : Room).slots) := by
  refine MetFree.of_bodySF (plainFor_of_name pn_3) hisR ?_
  intro p e s m args below meth c s₁ Bd hml0 hP hK
  obtain ⟨rfl, hZ, hh⟩ := hP
  have hx := Bd.exec
  have hby := Bd.bytes
  have hml : c.maxLocals = 2 := hml0
  have hown : s.vm.findClass "com/example/xmax/xmax/retry/RetryPolicy" = some m.cls := findClass_of_methodNamed Bd.named
  have hnm := (name_of_methodNamed Bd.named Bd.method).1
  have X0 : Stand p l e ({ frames := 0, cells := 0, slots := 0, locals := 0 } : Room) s m #[(.ref o0), (.int p1)] below meth c s₁ [] 0 0 := Stand.of_body Bd
  have e0 : s₁.heap = h0 := by rw [← hh, Bd.state]; rfl
  have N0 := Fr.nil n0
  obtain ⟨P, pre0, fin⟩ : ∃ P : State → Prop, (∀ t, Steps p.tables e below (s₁.setTop (mkF m 0 #[.val (.ref o0), .val (.int p1)] [])) t → P t) ∧ (∀ t, P t → Steps p.tables e below (s₁.setTop (entryFrame m #[(.ref o0), (.int p1)] 2)) t) := ⟨fun t => Steps p.tables e below (s₁.setTop (entryFrame m #[(.ref o0), (.int p1)] 2)) t, fun t k => castTop (ef_3 m o0 p1) k, fun t k => k⟩
  have K0 : Keep h0 h0 [] := Keep.refl _ _
  have pre1 : ∀ t, Steps p.tables e below (s₁.setTop (mkF m 2 #[.val (.ref o0), .val (.int p1)] [(.ref o0), (.int p1)])) t → P t := fun t k => pre0 t (by
      show Steps p.tables e below (s₁.setTop (mkF m 0 #[.val (.ref o0), .val (.int p1)] [])) _
      refine XS.iloadN X0.here hx rfl (hb hby d3_0) rfl ?_
      show Steps p.tables e below (s₁.setTop (mkF m 1 #[.val (.ref o0), .val (.int p1)] [(.int p1)])) _
      refine XS.aloadN X0.here hx rfl (hb hby d3_1) rfl rfl ?_
      exact k)
  obtain ⟨T2, X2, e2, st2⟩ := getF X0 hx hZ hown (host := "") (Or.inl (hw _ (List.mem_of_getElem? (i := 11) rfl))) Via.refl e0 F_maxAttempts_o0 (g := (mkF m 2 #[.val (.ref o0), .val (.int p1)] [(.ref o0), (.int p1)])) rfl rfl (hb hby d3_2)
  have pre2 : ∀ t, Steps p.tables e below (T2.setTop (mkF m 5 #[.val (.ref o0), .val (.int p1)] [(.int w_maxAttempts_o0), (.int p1)])) t → P t := fun t k => pre1 t (st2 _ k)
  obtain ⟨T7, L7, v6, X7, e7, N7, hv6, pre7⟩ : ∃ (T' : State) (L' : List Loc) (v6 : Int32), Stand p l e ({ frames := 0, cells := 0, slots := 0, locals := 0 } : Room) s m #[(.ref o0), (.int p1)] below meth c T' L' 0 0 ∧ T'.heap = h0 ∧ Fr n0 L' ∧ v6 = (if p1 < w_maxAttempts_o0 then (0 : Int32) else (1 : Int32)) ∧ (∀ t, Steps p.tables e below (T'.setTop (mkF m 13 #[.val (.ref o0), .val (.int p1)] [(.int v6)])) t → P t) := by
    by_cases hc3 : p1 < w_maxAttempts_o0
    · have pre4 : ∀ t, Steps p.tables e below (T2.setTop (mkF m 13 #[.val (.ref o0), .val (.int p1)] [(.int (0 : Int32))])) t → P t := fun t k => pre2 t (by
          show Steps p.tables e below (T2.setTop (mkF m 5 #[.val (.ref o0), .val (.int p1)] [(.int w_maxAttempts_o0), (.int p1)])) _
          refine XS.icmpYes X2.here hx rfl (pc0 := 5) (pc' := 12) rfl (hb hby d3_5) rfl (tlt hc3).1 (by decide) (by decide) ?_
          show Steps p.tables e below (T2.setTop (mkF m 12 #[.val (.ref o0), .val (.int p1)] [])) _
          refine XS.iconst X2.here hx rfl (hb hby d3_12) ?_
          exact k)
      exact ⟨_, _, (0 : Int32), X2, e2, N0, (by first | (rw [if_pos hc3]; done) | simp only [if_pos hc3] | simp [if_pos hc3]), pre4⟩
    · have pre5 : ∀ t, Steps p.tables e below (T2.setTop (mkF m 13 #[.val (.ref o0), .val (.int p1)] [(.int (1 : Int32))])) t → P t := fun t k => pre2 t (by
          show Steps p.tables e below (T2.setTop (mkF m 5 #[.val (.ref o0), .val (.int p1)] [(.int w_maxAttempts_o0), (.int p1)])) _
          refine XS.icmpNo X2.here hx rfl (hb hby d3_5) rfl (flt hc3).1 ?_
          show Steps p.tables e below (T2.setTop (mkF m 8 #[.val (.ref o0), .val (.int p1)] [])) _
          refine XS.iconst X2.here hx rfl (hb hby d3_8) ?_
          show Steps p.tables e below (T2.setTop (mkF m 9 #[.val (.ref o0), .val (.int p1)] [(.int (1 : Int32))])) _
          refine XS.goto X2.here hx rfl (pc0 := 9) (pc' := 13) rfl (hb hby d3_9) (by decide) (by decide) ?_
          exact k)
      exact ⟨_, _, (1 : Int32), X2, e2, N0, (by first | (rw [if_neg hc3]; done) | simp only [if_neg hc3] | simp [if_neg hc3]), pre5⟩
  obtain ⟨fs, hr, hrun, hended, hW, hsame⟩ := X7.leave (v := some (.int v6)) (fun h => by rw [Bd.returns] at h; cases h)
  refine ⟨_, _, fin _ (pre7 _ ?_), hrun, hended, _, _, rfl, ?_, ⟨_, rfl⟩, hW, hsame.mono (by decide) (by decide)⟩
  · show Steps p.tables e below (T7.setTop (mkF m 13 #[.val (.ref o0), .val (.int p1)] [(.int v6)])) _
    have hnar : nar .boolean v6 = v6 := by subst hv6; first | rfl | (split <;> rfl) | ((try simp only []); (repeat' split) <;> rfl)
    exact retN X7 hx (t := .boolean) Bd.returns (by simp) (hb hby d3_13) (by rw [hnar]; exact hr)
  · show Q3 Z o0 p1 w_maxAttempts_o0 h0 n0 _ T7.heap _
    rw [e7]
    exact ⟨(by subst hv6; first | rfl | simp only [own_f3]), N7, rfl⟩
theorem d4_0 : decode jdk_29_method_69_code 0 = .ok (.iload_n 0, 1) := by decide +kernel
theorem d4_1 : decode jdk_29_method_69_code 1 = .ok (.iload_n 1, 1) := by decide +kernel
theorem d4_2 : decode jdk_29_method_69_code 2 = .ok (.if_icmp .gt 7, 3) := by decide +kernel
theorem d4_5 : decode jdk_29_method_69_code 5 = .ok (.iload_n 0, 1) := by decide +kernel
theorem d4_6 : decode jdk_29_method_69_code 6 = .ok (.goto 4, 3) := by decide +kernel
theorem d4_9 : decode jdk_29_method_69_code 9 = .ok (.iload_n 1, 1) := by decide +kernel
theorem d4_10 : decode jdk_29_method_69_code 10 = .ok (.ireturn, 1) := by decide +kernel
theorem ef_4 (m : MethodId) (p0 : Int32) (p1 : Int32) : entryFrame m #[(.int p0), (.int p1)] 2 = mkF m 0 #[.val (.int p0), .val (.int p1)] [] := by first | (simp [entryFrame, mkF, argsToLocals, Value.category]; done) | rfl
def own_f4 (p0 : Int32) (p1 : Int32) : Int32 := (if p1 < p0 then p1 else p0)
def Q4 (Z : State) (p0 : Int32) (p1 : Int32) (h0 : Heap) (n0 : Nat) (v : Option Value) (h : Heap) (L : List Loc) : Prop := v = some (.int (own_f4 p0 p1)) ∧ Fr n0 L ∧ h = h0
set_option maxRecDepth 65536 in
set_option maxHeartbeats 40000000 in
theorem rm4 (l : Launch) (Z : State) (a0 : Array Value) (hw : ∀ d ∈ tables_1, d.before a0 Z = true) (ws : List Jvm.Cond) (p0 : Int32) (p1 : Int32) (h0 : Heap) (n0 : Nat) (Z0 : n0 ≤ h0.size) :
    MetFree l (⟨"java/lang/Math", "min", "(II)I"⟩ : MethodName) (head1 (Jvm.Cond.code (⟨"java/lang/Math", "min", "(II)I"⟩ : MethodName) jdk_29_method_69_code 2 (some .int) :: ws) ({ frames := 0, cells := 0, slots := 0, locals := 0 } : Room)) (fun a U => a = #[(.int p0), (.int p1)] ∧ Z.Warmed39 U.vm ∧ U.heap = h0) (fun _ _ _ _ _ => True) (fun _ U o U' => ∃ v L, o = .returned v ∧ Q4 Z p0 p1 h0 n0 v U'.heap L ∧ FrameEnd U o U' L ({ frames := 0, cells := 0, slots := 0, locals := 0 } : Room).cells ({ frames := 0, cells := 0, slots := 0, locals := 0 } : Room).slots) := by
  refine MetFree.of_bodySF (Jvm.Free.JP.mathPlain rfl (by decide +kernel)) hisR ?_
  intro p e s m args below meth c s₁ Bd hml0 hP hK
  obtain ⟨rfl, hZ, hh⟩ := hP
  have hx := Bd.exec
  have hby := Bd.bytes
  have hml : c.maxLocals = 2 := hml0
  have hown : s.vm.findClass "java/lang/Math" = some m.cls := findClass_of_methodNamed Bd.named
  have hnm := (name_of_methodNamed Bd.named Bd.method).1
  have X0 : Stand p l e ({ frames := 0, cells := 0, slots := 0, locals := 0 } : Room) s m #[(.int p0), (.int p1)] below meth c s₁ [] 0 0 := Stand.of_body Bd
  have e0 : s₁.heap = h0 := by rw [← hh, Bd.state]; rfl
  have N0 := Fr.nil n0
  obtain ⟨P, pre0, fin⟩ : ∃ P : State → Prop, (∀ t, Steps p.tables e below (s₁.setTop (mkF m 0 #[.val (.int p0), .val (.int p1)] [])) t → P t) ∧ (∀ t, P t → Steps p.tables e below (s₁.setTop (entryFrame m #[(.int p0), (.int p1)] 2)) t) := ⟨fun t => Steps p.tables e below (s₁.setTop (entryFrame m #[(.int p0), (.int p1)] 2)) t, fun t k => castTop (ef_4 m p0 p1) k, fun t k => k⟩
  have K0 : Keep h0 h0 [] := Keep.refl _ _
  have pre1 : ∀ t, Steps p.tables e below (s₁.setTop (mkF m 2 #[.val (.int p0), .val (.int p1)] [(.int p1), (.int p0)])) t → P t := fun t k => pre0 t (by
      show Steps p.tables e below (s₁.setTop (mkF m 0 #[.val (.int p0), .val (.int p1)] [])) _
      refine XS.iloadN X0.here hx rfl (hb hby d4_0) rfl ?_
      show Steps p.tables e below (s₁.setTop (mkF m 1 #[.val (.int p0), .val (.int p1)] [(.int p0)])) _
      refine XS.iloadN X0.here hx rfl (hb hby d4_1) rfl ?_
      exact k)
  obtain ⟨T6, L6, v5, X6, e6, N6, hv5, pre6⟩ : ∃ (T' : State) (L' : List Loc) (v5 : Int32), Stand p l e ({ frames := 0, cells := 0, slots := 0, locals := 0 } : Room) s m #[(.int p0), (.int p1)] below meth c T' L' 0 0 ∧ T'.heap = h0 ∧ Fr n0 L' ∧ v5 = (if p1 < p0 then p1 else p0) ∧ (∀ t, Steps p.tables e below (T'.setTop (mkF m 10 #[.val (.int p0), .val (.int p1)] [(.int v5)])) t → P t) := by
    by_cases hc2 : p1 < p0
    · have pre3 : ∀ t, Steps p.tables e below (s₁.setTop (mkF m 10 #[.val (.int p0), .val (.int p1)] [(.int p1)])) t → P t := fun t k => pre1 t (by
          show Steps p.tables e below (s₁.setTop (mkF m 2 #[.val (.int p0), .val (.int p1)] [(.int p1), (.int p0)])) _
          refine XS.icmpYes X0.here hx rfl (pc0 := 2) (pc' := 9) rfl (hb hby d4_2) rfl (tlt hc2).2.2.1 (by decide) (by decide) ?_
          show Steps p.tables e below (s₁.setTop (mkF m 9 #[.val (.int p0), .val (.int p1)] [])) _
          refine XS.iloadN X0.here hx rfl (hb hby d4_9) rfl ?_
          exact k)
      exact ⟨_, _, p1, X0, e0, N0, (by first | (rw [if_pos hc2]; done) | simp only [if_pos hc2] | simp [if_pos hc2]), pre3⟩
    · have pre4 : ∀ t, Steps p.tables e below (s₁.setTop (mkF m 10 #[.val (.int p0), .val (.int p1)] [(.int p0)])) t → P t := fun t k => pre1 t (by
          show Steps p.tables e below (s₁.setTop (mkF m 2 #[.val (.int p0), .val (.int p1)] [(.int p1), (.int p0)])) _
          refine XS.icmpNo X0.here hx rfl (hb hby d4_2) rfl (flt hc2).2.2.1 ?_
          show Steps p.tables e below (s₁.setTop (mkF m 5 #[.val (.int p0), .val (.int p1)] [])) _
          refine XS.iloadN X0.here hx rfl (hb hby d4_5) rfl ?_
          show Steps p.tables e below (s₁.setTop (mkF m 6 #[.val (.int p0), .val (.int p1)] [(.int p0)])) _
          refine XS.goto X0.here hx rfl (pc0 := 6) (pc' := 10) rfl (hb hby d4_6) (by decide) (by decide) ?_
          exact k)
      exact ⟨_, _, p0, X0, e0, N0, (by first | (rw [if_neg hc2]; done) | simp only [if_neg hc2] | simp [if_neg hc2]), pre4⟩
  obtain ⟨fs, hr, hrun, hended, hW, hsame⟩ := X6.leave (v := some (.int v5)) (fun h => by rw [Bd.returns] at h; cases h)
  refine ⟨_, _, fin _ (pre6 _ ?_), hrun, hended, _, _, rfl, ?_, ⟨_, rfl⟩, hW, hsame.mono (by decide) (by decide)⟩
  · show Steps p.tables e below (T6.setTop (mkF m 10 #[.val (.int p0), .val (.int p1)] [(.int v5)])) _
    exact retI X6 hx Bd.returns (hb hby d4_10) hr
  · show Q4 Z p0 p1 h0 n0 _ T6.heap _
    rw [e6]
    exact ⟨(by subst hv5; first | rfl | simp only [own_f4]), N6, rfl⟩
theorem d5_0 : decode jdk_29_method_65_code 0 = .ok (.iload_n 0, 1) := by decide +kernel
theorem d5_1 : decode jdk_29_method_65_code 1 = .ok (.iload_n 1, 1) := by decide +kernel
theorem d5_2 : decode jdk_29_method_65_code 2 = .ok (.if_icmp .lt 7, 3) := by decide +kernel
theorem d5_5 : decode jdk_29_method_65_code 5 = .ok (.iload_n 0, 1) := by decide +kernel
theorem d5_6 : decode jdk_29_method_65_code 6 = .ok (.goto 4, 3) := by decide +kernel
theorem d5_9 : decode jdk_29_method_65_code 9 = .ok (.iload_n 1, 1) := by decide +kernel
theorem d5_10 : decode jdk_29_method_65_code 10 = .ok (.ireturn, 1) := by decide +kernel
theorem ef_5 (m : MethodId) (p0 : Int32) (p1 : Int32) : entryFrame m #[(.int p0), (.int p1)] 2 = mkF m 0 #[.val (.int p0), .val (.int p1)] [] := by first | (simp [entryFrame, mkF, argsToLocals, Value.category]; done) | rfl
def own_f5 (p0 : Int32) (p1 : Int32) : Int32 := (if p0 < p1 then p1 else p0)
def Q5 (Z : State) (p0 : Int32) (p1 : Int32) (h0 : Heap) (n0 : Nat) (v : Option Value) (h : Heap) (L : List Loc) : Prop := v = some (.int (own_f5 p0 p1)) ∧ Fr n0 L ∧ h = h0
set_option maxRecDepth 65536 in
set_option maxHeartbeats 40000000 in
theorem rm5 (l : Launch) (Z : State) (a0 : Array Value) (hw : ∀ d ∈ tables_1, d.before a0 Z = true) (ws : List Jvm.Cond) (p0 : Int32) (p1 : Int32) (h0 : Heap) (n0 : Nat) (Z0 : n0 ≤ h0.size) :
    MetFree l (⟨"java/lang/Math", "max", "(II)I"⟩ : MethodName) (head1 (Jvm.Cond.code (⟨"java/lang/Math", "max", "(II)I"⟩ : MethodName) jdk_29_method_65_code 2 (some .int) :: ws) ({ frames := 0, cells := 0, slots := 0, locals := 0 } : Room)) (fun a U => a = #[(.int p0), (.int p1)] ∧ Z.Warmed39 U.vm ∧ U.heap = h0) (fun _ _ _ _ _ => True) (fun _ U o U' => ∃ v L, o = .returned v ∧ Q5 Z p0 p1 h0 n0 v U'.heap L ∧ FrameEnd U o U' L ({ frames := 0, cells := 0, slots := 0, locals := 0 } : Room).cells ({ frames := 0, cells := 0, slots := 0, locals := 0 } : Room).slots) := by
  refine MetFree.of_bodySF (Jvm.Free.JP.mathPlain rfl (by decide +kernel)) hisR ?_
  intro p e s m args below meth c s₁ Bd hml0 hP hK
  obtain ⟨rfl, hZ, hh⟩ := hP
  have hx := Bd.exec
  have hby := Bd.bytes
  have hml : c.maxLocals = 2 := hml0
  have hown : s.vm.findClass "java/lang/Math" = some m.cls := findClass_of_methodNamed Bd.named
  have hnm := (name_of_methodNamed Bd.named Bd.method).1
  have X0 : Stand p l e ({ frames := 0, cells := 0, slots := 0, locals := 0 } : Room) s m #[(.int p0), (.int p1)] below meth c s₁ [] 0 0 := Stand.of_body Bd
  have e0 : s₁.heap = h0 := by rw [← hh, Bd.state]; rfl
  have N0 := Fr.nil n0
  obtain ⟨P, pre0, fin⟩ : ∃ P : State → Prop, (∀ t, Steps p.tables e below (s₁.setTop (mkF m 0 #[.val (.int p0), .val (.int p1)] [])) t → P t) ∧ (∀ t, P t → Steps p.tables e below (s₁.setTop (entryFrame m #[(.int p0), (.int p1)] 2)) t) := ⟨fun t => Steps p.tables e below (s₁.setTop (entryFrame m #[(.int p0), (.int p1)] 2)) t, fun t k => castTop (ef_5 m p0 p1) k, fun t k => k⟩
  have K0 : Keep h0 h0 [] := Keep.refl _ _
  have pre1 : ∀ t, Steps p.tables e below (s₁.setTop (mkF m 2 #[.val (.int p0), .val (.int p1)] [(.int p1), (.int p0)])) t → P t := fun t k => pre0 t (by
      show Steps p.tables e below (s₁.setTop (mkF m 0 #[.val (.int p0), .val (.int p1)] [])) _
      refine XS.iloadN X0.here hx rfl (hb hby d5_0) rfl ?_
      show Steps p.tables e below (s₁.setTop (mkF m 1 #[.val (.int p0), .val (.int p1)] [(.int p0)])) _
      refine XS.iloadN X0.here hx rfl (hb hby d5_1) rfl ?_
      exact k)
  obtain ⟨T6, L6, v5, X6, e6, N6, hv5, pre6⟩ : ∃ (T' : State) (L' : List Loc) (v5 : Int32), Stand p l e ({ frames := 0, cells := 0, slots := 0, locals := 0 } : Room) s m #[(.int p0), (.int p1)] below meth c T' L' 0 0 ∧ T'.heap = h0 ∧ Fr n0 L' ∧ v5 = (if p0 < p1 then p1 else p0) ∧ (∀ t, Steps p.tables e below (T'.setTop (mkF m 10 #[.val (.int p0), .val (.int p1)] [(.int v5)])) t → P t) := by
    by_cases hc2 : p0 < p1
    · have pre3 : ∀ t, Steps p.tables e below (s₁.setTop (mkF m 10 #[.val (.int p0), .val (.int p1)] [(.int p1)])) t → P t := fun t k => pre1 t (by
          show Steps p.tables e below (s₁.setTop (mkF m 2 #[.val (.int p0), .val (.int p1)] [(.int p1), (.int p0)])) _
          refine XS.icmpYes X0.here hx rfl (pc0 := 2) (pc' := 9) rfl (hb hby d5_2) rfl (tlt hc2).1 (by decide) (by decide) ?_
          show Steps p.tables e below (s₁.setTop (mkF m 9 #[.val (.int p0), .val (.int p1)] [])) _
          refine XS.iloadN X0.here hx rfl (hb hby d5_9) rfl ?_
          exact k)
      exact ⟨_, _, p1, X0, e0, N0, (by first | (rw [if_pos hc2]; done) | simp only [if_pos hc2] | simp [if_pos hc2]), pre3⟩
    · have pre4 : ∀ t, Steps p.tables e below (s₁.setTop (mkF m 10 #[.val (.int p0), .val (.int p1)] [(.int p0)])) t → P t := fun t k => pre1 t (by
          show Steps p.tables e below (s₁.setTop (mkF m 2 #[.val (.int p0), .val (.int p1)] [(.int p1), (.int p0)])) _
          refine XS.icmpNo X0.here hx rfl (hb hby d5_2) rfl (flt hc2).1 ?_
          show Steps p.tables e below (s₁.setTop (mkF m 5 #[.val (.int p0), .val (.int p1)] [])) _
          refine XS.iloadN X0.here hx rfl (hb hby d5_5) rfl ?_
          show Steps p.tables e below (s₁.setTop (mkF m 6 #[.val (.int p0), .val (.int p1)] [(.int p0)])) _
          refine XS.goto X0.here hx rfl (pc0 := 6) (pc' := 10) rfl (hb hby d5_6) (by decide) (by decide) ?_
          exact k)
      exact ⟨_, _, p0, X0, e0, N0, (by first | (rw [if_neg hc2]; done) | simp only [if_neg hc2] | simp [if_neg hc2]), pre4⟩
  obtain ⟨fs, hr, hrun, hended, hW, hsame⟩ := X6.leave (v := some (.int v5)) (fun h => by rw [Bd.returns] at h; cases h)
  refine ⟨_, _, fin _ (pre6 _ ?_), hrun, hended, _, _, rfl, ?_, ⟨_, rfl⟩, hW, hsame.mono (by decide) (by decide)⟩
  · show Steps p.tables e below (T6.setTop (mkF m 10 #[.val (.int p0), .val (.int p1)] [(.int v5)])) _
    exact retI X6 hx Bd.returns (hb hby d5_10) hr
  · show Q5 Z p0 p1 h0 n0 _ T6.heap _
    rw [e6]
    exact ⟨(by subst hv5; first | rfl | simp only [own_f5]), N6, rfl⟩
theorem own_pd0 : parseMethodDescriptor "(IJ)V" = some ⟨[.int, .long], none⟩ := by decide +kernel
theorem own_pd1 : parseMethodDescriptor "(I)Z" = some ⟨[.int], some .boolean⟩ := by decide +kernel
theorem own_pd2 : parseMethodDescriptor "(II)I" = some ⟨[.int, .int], some .int⟩ := by decide +kernel
theorem pn_0 : plainName "com/example/xmax/xmax/retry/RetryPolicyExhaustedPinLaw" = true := by first | (simp [plainName, overriddenIn]; done) | decide +kernel
theorem ef_0 (m : MethodId) (p0 : Int32) (q1 : Int64) (p2 : Int32) (p3 : Int32) : entryFrame m #[(.int p0), (.long q1), (.int p2), (.int p3)] maxLocals = mkF m 0 #[.val (.int p0), .val (.long q1), .second, .val (.int p2), .val (.int p3), .unset, .unset, .unset, .unset, .unset, .unset, .unset, .unset, .unset, .unset, .unset] [] := by first | (simp [entryFrame, mkF, argsToLocals, Value.category, maxLocals]; done) | rfl
def own_f0 (p0 : Int32) (q1 : Int64) (p2 : Int32) (p3 : Int32) : Int32 := (let v2 : Int32 := (p0 &&& (2147483647 : Int32)); (let v8 : Int32 := (if v2 = (0 : Int32) then (1 : Int32) else v2); (let v23 : Int32 := (own_f3 v8 v8); (let v27 : Int32 := (own_f3 (v8 - (1 : Int32)) v8); (let v31 : Int32 := (own_f4 p2 p3); (let v35 : Int32 := (own_f5 p2 p3); (let v39 : Int32 := (own_f3 v31 v8); (let v43 : Int32 := (own_f3 v35 v8); (let v52 : Int32 := (if v39 = (0 : Int32) then (1 : Int32) else (if v43 = (0 : Int32) then (0 : Int32) else (1 : Int32))); (if v23 = (0 : Int32) then (0 : Int32) else (if v27 = (0 : Int32) then (if v52 = (0 : Int32) then (0 : Int32) else (1 : Int32)) else (0 : Int32))))))))))))
def Q0 (Z : State) (p0 : Int32) (q1 : Int64) (p2 : Int32) (p3 : Int32) (h0 : Heap) (n0 : Nat) (v : Option Value) (h : Heap) (L : List Loc) : Prop := v = some (.int (own_f0 p0 q1 p2 p3)) ∧ Fr n0 L
set_option maxRecDepth 65536 in
set_option maxHeartbeats 40000000 in
theorem rm0 (l : Launch) (Z : State) (a0 : Array Value) (hw : ∀ d ∈ tables_1, d.before a0 Z = true) (ws : List Jvm.Cond) (p0 : Int32) (q1 : Int64) (p2 : Int32) (p3 : Int32) (h0 : Heap) (n0 : Nat) (Z0 : n0 ≤ h0.size) :
    MetFree l x (head1 (Jvm.Cond.code x code maxLocals ret :: ws) room_1) (fun a U => a = #[(.int p0), (.long q1), (.int p2), (.int p3)] ∧ Z.Warmed39 U.vm ∧ U.heap = h0) (fun _ _ _ _ _ => True) (fun _ U o U' => ∃ v L, o = .returned v ∧ Q0 Z p0 q1 p2 p3 h0 n0 v U'.heap L ∧ FrameEnd U o U' L room_1.cells room_1.slots) := by
  refine MetFree.of_bodySF (plainFor_of_name pn_0) hisR ?_
  intro p e s m args below meth c s₁ Bd hml0 hP hK
  obtain ⟨rfl, hZ, hh⟩ := hP
  have hx := Bd.exec
  have hby := Bd.bytes
  have hml : c.maxLocals = 16 := hml0
  have hown : s.vm.findClass "com/example/xmax/xmax/retry/RetryPolicyExhaustedPinLaw" = some m.cls := findClass_of_methodNamed Bd.named
  have hnm := (name_of_methodNamed Bd.named Bd.method).1
  have X0 : Stand p l e room_1 s m #[(.int p0), (.long q1), (.int p2), (.int p3)] below meth c s₁ [] 0 0 := Stand.of_body Bd
  have e0 : s₁.heap = h0 := by rw [← hh, Bd.state]; rfl
  have N0 := Fr.nil n0
  obtain ⟨P, pre0, fin⟩ : ∃ P : State → Prop, (∀ t, Steps p.tables e below (s₁.setTop (mkF m 0 #[.val (.int p0), .val (.long q1), .second, .val (.int p2), .val (.int p3), .unset, .unset, .unset, .unset, .unset, .unset, .unset, .unset, .unset, .unset, .unset] [])) t → P t) ∧ (∀ t, P t → Steps p.tables e below (s₁.setTop (entryFrame m #[(.int p0), (.long q1), (.int p2), (.int p3)] maxLocals)) t) := ⟨fun t => Steps p.tables e below (s₁.setTop (entryFrame m #[(.int p0), (.long q1), (.int p2), (.int p3)] maxLocals)) t, fun t k => castTop (ef_0 m p0 q1 p2 p3) k, fun t k => k⟩
  have K0 : Keep h0 h0 [] := Keep.refl _ _
  have pre1 : ∀ t, Steps p.tables e below (s₁.setTop (mkF m 6 #[.val (.int p0), .val (.long q1), .second, .val (.int p2), .val (.int p3), .val (.int (p0 &&& (2147483647 : Int32))), .unset, .unset, .unset, .unset, .unset, .unset, .unset, .unset, .unset, .unset] [])) t → P t := fun t k => pre0 t (by
      show Steps p.tables e below (s₁.setTop (mkF m 0 #[.val (.int p0), .val (.long q1), .second, .val (.int p2), .val (.int p3), .unset, .unset, .unset, .unset, .unset, .unset, .unset, .unset, .unset, .unset, .unset] [])) _
      refine XS.iloadN X0.here hx rfl (hb hby at_0) rfl ?_
      show Steps p.tables e below (s₁.setTop (mkF m 1 #[.val (.int p0), .val (.long q1), .second, .val (.int p2), .val (.int p3), .unset, .unset, .unset, .unset, .unset, .unset, .unset, .unset, .unset, .unset, .unset] [(.int p0)])) _
      refine X0.ldcInt hx hown (mvT hZ (hw _ (List.mem_of_getElem? (i := 0) rfl))) (g := (mkF m 1 #[.val (.int p0), .val (.long q1), .second, .val (.int p2), .val (.int p3), .unset, .unset, .unset, .unset, .unset, .unset, .unset, .unset, .unset, .unset, .unset] [(.int p0)])) rfl (hb hby at_1) _ ?_
      show Steps p.tables e below (s₁.setTop (mkF m 3 #[.val (.int p0), .val (.long q1), .second, .val (.int p2), .val (.int p3), .unset, .unset, .unset, .unset, .unset, .unset, .unset, .unset, .unset, .unset, .unset] [(.int (2147483647 : Int32)), (.int p0)])) _
      refine XS.iand X0.here hx rfl (hb hby at_3) rfl ?_
      show Steps p.tables e below (s₁.setTop (mkF m 4 #[.val (.int p0), .val (.long q1), .second, .val (.int p2), .val (.int p3), .unset, .unset, .unset, .unset, .unset, .unset, .unset, .unset, .unset, .unset, .unset] [(.int (p0 &&& (2147483647 : Int32)))])) _
      refine XS.istore X0.here hx rfl (hb hby at_4) rfl (l' := #[.val (.int p0), .val (.long q1), .second, .val (.int p2), .val (.int p3), .val (.int (p0 &&& (2147483647 : Int32))), .unset, .unset, .unset, .unset, .unset, .unset, .unset, .unset, .unset, .unset]) rfl ?_
      exact k)
  obtain ⟨v2, hv2⟩ : ∃ z : Int32, z = (p0 &&& (2147483647 : Int32)) := ⟨_, rfl⟩
  have pre3 : ∀ t, Steps p.tables e below (s₁.setTop (mkF m 6 #[.val (.int p0), .val (.long q1), .second, .val (.int p2), .val (.int p3), .val (.int v2), .unset, .unset, .unset, .unset, .unset, .unset, .unset, .unset, .unset, .unset] [])) t → P t := fun t k => pre1 t (by subst hv2; exact k)
  have pre4 : ∀ t, Steps p.tables e below (s₁.setTop (mkF m 8 #[.val (.int p0), .val (.long q1), .second, .val (.int p2), .val (.int p3), .val (.int v2), .unset, .unset, .unset, .unset, .unset, .unset, .unset, .unset, .unset, .unset] [(.int v2)])) t → P t := fun t k => pre3 t (by
      show Steps p.tables e below (s₁.setTop (mkF m 6 #[.val (.int p0), .val (.long q1), .second, .val (.int p2), .val (.int p3), .val (.int v2), .unset, .unset, .unset, .unset, .unset, .unset, .unset, .unset, .unset, .unset] [])) _
      refine XS.iload X0.here hx rfl (hb hby at_6) rfl ?_
      exact k)
  obtain ⟨T9, L9, v8, X9, e9, N9, hv8, pre9⟩ : ∃ (T' : State) (L' : List Loc) (v8 : Int32), Stand p l e room_1 s m #[(.int p0), (.long q1), (.int p2), (.int p3)] below meth c T' L' 0 0 ∧ T'.heap = h0 ∧ Fr n0 L' ∧ v8 = (if v2 = (0 : Int32) then (1 : Int32) else v2) ∧ (∀ t, Steps p.tables e below (T'.setTop (mkF m 14 #[.val (.int p0), .val (.long q1), .second, .val (.int p2), .val (.int p3), .val (.int v8), .unset, .unset, .unset, .unset, .unset, .unset, .unset, .unset, .unset, .unset] [])) t → P t) := by
    by_cases hc5 : v2 = (0 : Int32)
    · have pre6 : ∀ t, Steps p.tables e below (s₁.setTop (mkF m 14 #[.val (.int p0), .val (.long q1), .second, .val (.int p2), .val (.int p3), .val (.int (1 : Int32)), .unset, .unset, .unset, .unset, .unset, .unset, .unset, .unset, .unset, .unset] [])) t → P t := fun t k => pre4 t (by
          show Steps p.tables e below (s₁.setTop (mkF m 8 #[.val (.int p0), .val (.long q1), .second, .val (.int p2), .val (.int p3), .val (.int v2), .unset, .unset, .unset, .unset, .unset, .unset, .unset, .unset, .unset, .unset] [(.int v2)])) _
          refine XS.ifNo X0.here hx rfl (hb hby at_8) rfl ((if0 _ _).trans (teq hc5).2) ?_
          show Steps p.tables e below (s₁.setTop (mkF m 11 #[.val (.int p0), .val (.long q1), .second, .val (.int p2), .val (.int p3), .val (.int v2), .unset, .unset, .unset, .unset, .unset, .unset, .unset, .unset, .unset, .unset] [])) _
          refine XS.iconst X0.here hx rfl (hb hby at_11) ?_
          show Steps p.tables e below (s₁.setTop (mkF m 12 #[.val (.int p0), .val (.long q1), .second, .val (.int p2), .val (.int p3), .val (.int v2), .unset, .unset, .unset, .unset, .unset, .unset, .unset, .unset, .unset, .unset] [(.int (1 : Int32))])) _
          refine XS.istore X0.here hx rfl (hb hby at_12) rfl (l' := #[.val (.int p0), .val (.long q1), .second, .val (.int p2), .val (.int p3), .val (.int (1 : Int32)), .unset, .unset, .unset, .unset, .unset, .unset, .unset, .unset, .unset, .unset]) rfl ?_
          exact k)
      exact ⟨_, _, (1 : Int32), X0, e0, N0, (by first | (rw [if_pos hc5]; done) | simp only [if_pos hc5] | simp [if_pos hc5]), pre6⟩
    · have pre7 : ∀ t, Steps p.tables e below (s₁.setTop (mkF m 14 #[.val (.int p0), .val (.long q1), .second, .val (.int p2), .val (.int p3), .val (.int v2), .unset, .unset, .unset, .unset, .unset, .unset, .unset, .unset, .unset, .unset] [])) t → P t := fun t k => pre4 t (by
          show Steps p.tables e below (s₁.setTop (mkF m 8 #[.val (.int p0), .val (.long q1), .second, .val (.int p2), .val (.int p3), .val (.int v2), .unset, .unset, .unset, .unset, .unset, .unset, .unset, .unset, .unset, .unset] [(.int v2)])) _
          refine XS.ifYes X0.here hx rfl (pc0 := 8) (pc' := 14) rfl (hb hby at_8) rfl ((if0 _ _).trans (feq hc5).2) (by decide) (by decide) ?_
          exact k)
      exact ⟨_, _, v2, X0, e0, N0, (by first | (rw [if_neg hc5]; done) | simp only [if_neg hc5] | simp [if_neg hc5]), pre7⟩
  have pre10 : ∀ t, Steps p.tables e below (T9.setTop (mkF m 21 #[.val (.int p0), .val (.long q1), .second, .val (.int p2), .val (.int p3), .val (.int v8), .val (.long (q1 &&& (9223372036854775807 : Int64))), .second, .unset, .unset, .unset, .unset, .unset, .unset, .unset, .unset] [])) t → P t := fun t k => pre9 t (by
      show Steps p.tables e below (T9.setTop (mkF m 14 #[.val (.int p0), .val (.long q1), .second, .val (.int p2), .val (.int p3), .val (.int v8), .unset, .unset, .unset, .unset, .unset, .unset, .unset, .unset, .unset, .unset] [])) _
      refine XS.lloadN X9.here hx rfl (hb hby at_14) rfl ?_
      show Steps p.tables e below (T9.setTop (mkF m 15 #[.val (.int p0), .val (.long q1), .second, .val (.int p2), .val (.int p3), .val (.int v8), .unset, .unset, .unset, .unset, .unset, .unset, .unset, .unset, .unset, .unset] [(.long q1)])) _
      refine X9.ldc2Long hx hown (mvT hZ (hw _ (List.mem_of_getElem? (i := 1) rfl))) (g := (mkF m 15 #[.val (.int p0), .val (.long q1), .second, .val (.int p2), .val (.int p3), .val (.int v8), .unset, .unset, .unset, .unset, .unset, .unset, .unset, .unset, .unset, .unset] [(.long q1)])) rfl (hb hby at_15) _ ?_
      show Steps p.tables e below (T9.setTop (mkF m 18 #[.val (.int p0), .val (.long q1), .second, .val (.int p2), .val (.int p3), .val (.int v8), .unset, .unset, .unset, .unset, .unset, .unset, .unset, .unset, .unset, .unset] [(.long (9223372036854775807 : Int64)), (.long q1)])) _
      refine XS.land X9.here hx rfl (hb hby at_18) rfl ?_
      show Steps p.tables e below (T9.setTop (mkF m 19 #[.val (.int p0), .val (.long q1), .second, .val (.int p2), .val (.int p3), .val (.int v8), .unset, .unset, .unset, .unset, .unset, .unset, .unset, .unset, .unset, .unset] [(.long (q1 &&& (9223372036854775807 : Int64)))])) _
      refine XS.lstore X9.here hx rfl (hb hby at_19) rfl (l' := #[.val (.int p0), .val (.long q1), .second, .val (.int p2), .val (.int p3), .val (.int v8), .val (.long (q1 &&& (9223372036854775807 : Int64))), .second, .unset, .unset, .unset, .unset, .unset, .unset, .unset, .unset]) rfl ?_
      exact k)
  obtain ⟨v11, hv11⟩ : ∃ z : Int64, z = (q1 &&& (9223372036854775807 : Int64)) := ⟨_, rfl⟩
  have pre12 : ∀ t, Steps p.tables e below (T9.setTop (mkF m 21 #[.val (.int p0), .val (.long q1), .second, .val (.int p2), .val (.int p3), .val (.int v8), .val (.long v11), .second, .unset, .unset, .unset, .unset, .unset, .unset, .unset, .unset] [])) t → P t := fun t k => pre10 t (by subst hv11; exact k)
  obtain ⟨T13, h13, X13, e13, E13, A13, D13, -, st13⟩ := newO X9 hx hZ hown (hw _ (List.mem_of_getElem? (i := 2) rfl)) (hw _ (List.mem_of_getElem? (i := 3) rfl)) (hw _ (List.mem_of_getElem? (i := 4) rfl)) e9 (g := (mkF m 21 #[.val (.int p0), .val (.long q1), .second, .val (.int p2), .val (.int p3), .val (.int v8), .val (.long v11), .second, .unset, .unset, .unset, .unset, .unset, .unset, .unset, .unset] [])) rfl (hb hby at_21) (by decide) (by decide)
  obtain ⟨b13, g13⟩ : ∃ z, z = h0.size := ⟨_, rfl⟩
  have g_b13 : n0 ≤ b13 := Nat.le_trans Z0 (Nat.le_of_eq g13.symm)
  have sz_b13 : h0.size ≤ b13 := Nat.le_trans K0.1 (Nat.le_of_eq g13.symm)
  rw [← g13] at A13 D13 st13
  have pre13 : ∀ t, Steps p.tables e below (T13.setTop (mkF m 24 #[.val (.int p0), .val (.long q1), .second, .val (.int p2), .val (.int p3), .val (.int v8), .val (.long v11), .second, .unset, .unset, .unset, .unset, .unset, .unset, .unset, .unset] [(.ref b13)])) t → P t := fun t k => pre12 t (st13 _ k)
  have c14 : n0 ≤ h13.size := Nat.le_trans Z0 E13.1
  have K15 : Keep h0 h13 [] := K0.ext E13
  have F13_maxAttempts : Fld Z h13 b13 "com/example/xmax/xmax/retry/RetryPolicy" "maxAttempts" "I" (.int (0 : Int32)) := D13 (Or.inr (hw _ (List.mem_of_getElem? (i := 12) rfl))) (ty := .int) (by decide)
  have F13_retryDelayMillis : Fld Z h13 b13 "com/example/xmax/xmax/retry/RetryPolicy" "retryDelayMillis" "J" (.long (0 : Int64)) := D13 (Or.inr (hw _ (List.mem_of_getElem? (i := 14) rfl))) (ty := .long) (by decide)
  have pre16 : ∀ t, Steps p.tables e below (T13.setTop (mkF m 29 #[.val (.int p0), .val (.long q1), .second, .val (.int p2), .val (.int p3), .val (.int v8), .val (.long v11), .second, .unset, .unset, .unset, .unset, .unset, .unset, .unset, .unset] [(.long v11), (.int v8), (.ref b13), (.ref b13)])) t → P t := fun t k => pre13 t (by
      show Steps p.tables e below (T13.setTop (mkF m 24 #[.val (.int p0), .val (.long q1), .second, .val (.int p2), .val (.int p3), .val (.int v8), .val (.long v11), .second, .unset, .unset, .unset, .unset, .unset, .unset, .unset, .unset] [(.ref b13)])) _
      refine XS.dup X13.here hx rfl (hb hby at_24) rfl rfl ?_
      show Steps p.tables e below (T13.setTop (mkF m 25 #[.val (.int p0), .val (.long q1), .second, .val (.int p2), .val (.int p3), .val (.int v8), .val (.long v11), .second, .unset, .unset, .unset, .unset, .unset, .unset, .unset, .unset] [(.ref b13), (.ref b13)])) _
      refine XS.iload X13.here hx rfl (hb hby at_25) rfl ?_
      show Steps p.tables e below (T13.setTop (mkF m 27 #[.val (.int p0), .val (.long q1), .second, .val (.int p2), .val (.int p3), .val (.int v8), .val (.long v11), .second, .unset, .unset, .unset, .unset, .unset, .unset, .unset, .unset] [(.int v8), (.ref b13), (.ref b13)])) _
      refine XS.lload X13.here hx rfl (hb hby at_27) rfl ?_
      exact k)
  obtain ⟨_, _, ⟨T17, L17, k17, n17⟩, -, X17, ⟨Lc17, hQ17, l17, y17, z17⟩, st17⟩ := X13.specialBack hx (y := (⟨"com/example/xmax/xmax/retry/RetryPolicy", "<init>", "(IJ)V"⟩ : MethodName)) rfl hown (mvT hZ (hw _ (List.mem_of_getElem? (i := 5) rfl))) (mvT hZ (hw _ (List.mem_of_getElem? (i := 6) rfl))) (mvT hZ (hw _ (List.mem_of_getElem? (i := 7) rfl))) (by decide) (backOf (W := 1) (rm1 l Z a0 hw [] b13 v8 v11 h13 n0 c14 A13 F13_maxAttempts F13_retryDelayMillis g_b13 (own_max1 _ _ hv2 _ hv8) (by subst hv11; exact own_nn _)) hZ (hw _ (List.mem_of_getElem? (i := 7) rfl)) (hw _ (List.mem_of_getElem? (i := 4) rfl)) (by decide) (by decide)) (g := (mkF m 29 #[.val (.int p0), .val (.long q1), .second, .val (.int p2), .val (.int p3), .val (.int v8), .val (.long v11), .second, .unset, .unset, .unset, .unset, .unset, .unset, .unset, .unset] [(.long v11), (.int v8), (.ref b13), (.ref b13)])) rfl (by rw [hml]; rfl) (Steps.refl _) (a := b13) (argsL := [(.int v8), (.long v11)]) (rest := [(.ref b13)]) (lenOf own_pd0 rfl) rfl (by show 2 * 0 + _ ≤ _; exact Nat.le_of_eq rfl) (hb hby at_29) (fun _ _ => ⟨rfl, e13, (by decide : 1 + 0 ≤ _), (by decide : 2 + 0 ≤ _)⟩)
  dsimp only [Pt.U, Pt.locs, Pt.cells, Pt.slots] at X17 l17 y17 z17 st17 hQ17
  subst l17 y17 z17
  obtain ⟨rfl, N17q, K17, EE17, FF17_0, FF17_1⟩ := hQ17
  have c18 : n0 ≤ T17.heap.size := Nat.le_trans c14 K17.1
  have c19 : Exa Z T17.heap b13 "com/example/xmax/xmax/retry/RetryPolicy" := A13.keep K17
  have K20 : Keep h0 T17.heap [] := K15.trans K17 (allS (P := fun x => x ∈ ([] : List Addr) ∨ h0.size ≤ x) (Or.inr sz_b13) all0)
  have N17 := Fr.app N9 N17q
  have pre17 : ∀ t, Steps p.tables e below (T17.setTop (mkF m 32 #[.val (.int p0), .val (.long q1), .second, .val (.int p2), .val (.int p3), .val (.int v8), .val (.long v11), .second, .unset, .unset, .unset, .unset, .unset, .unset, .unset, .unset] [(.ref b13)])) t → P t := fun t k => pre16 t (st17.trans k)
  have pre21 : ∀ t, Steps p.tables e below (T17.setTop (mkF m 38 #[.val (.int p0), .val (.long q1), .second, .val (.int p2), .val (.int p3), .val (.int v8), .val (.long v11), .second, .val (.ref b13), .unset, .unset, .unset, .unset, .unset, .unset, .unset] [(.int v8), (.ref b13)])) t → P t := fun t k => pre17 t (by
      show Steps p.tables e below (T17.setTop (mkF m 32 #[.val (.int p0), .val (.long q1), .second, .val (.int p2), .val (.int p3), .val (.int v8), .val (.long v11), .second, .unset, .unset, .unset, .unset, .unset, .unset, .unset, .unset] [(.ref b13)])) _
      refine XS.astore X17.here hx rfl (hb hby at_32) rfl rfl (l' := #[.val (.int p0), .val (.long q1), .second, .val (.int p2), .val (.int p3), .val (.int v8), .val (.long v11), .second, .val (.ref b13), .unset, .unset, .unset, .unset, .unset, .unset, .unset]) rfl ?_
      show Steps p.tables e below (T17.setTop (mkF m 34 #[.val (.int p0), .val (.long q1), .second, .val (.int p2), .val (.int p3), .val (.int v8), .val (.long v11), .second, .val (.ref b13), .unset, .unset, .unset, .unset, .unset, .unset, .unset] [])) _
      refine XS.aload X17.here hx rfl (hb hby at_34) rfl rfl ?_
      show Steps p.tables e below (T17.setTop (mkF m 36 #[.val (.int p0), .val (.long q1), .second, .val (.int p2), .val (.int p3), .val (.int v8), .val (.long v11), .second, .val (.ref b13), .unset, .unset, .unset, .unset, .unset, .unset, .unset] [(.ref b13)])) _
      refine XS.iload X17.here hx rfl (hb hby at_36) rfl ?_
      exact k)
  obtain ⟨cq22, kq22, q22a, q22b, q22c⟩ := isOf hZ rfl EE17
  obtain ⟨_, _, ⟨T22, L22, k22, n22⟩, -, X22, ⟨Lc22, hQ22, l22, y22, z22⟩, st22⟩ := X17.virtualBack hx (y := (⟨"com/example/xmax/xmax/retry/RetryPolicy", "exhausted", "(I)Z"⟩ : MethodName)) (z := (⟨"com/example/xmax/xmax/retry/RetryPolicy", "exhausted", "(I)Z"⟩ : MethodName)) hown (mvT hZ (hw _ (List.mem_of_getElem? (i := 15) rfl))) (mvT hZ (hw _ (List.mem_of_getElem? (i := 16) rfl))) (notFace_of_selects (args := #[]) (mvT hZ (hw _ (List.mem_of_getElem? (i := 18) rfl)))) (mvT hZ (hw _ (List.mem_of_getElem? (i := 18) rfl))) (mvT hZ (hw _ (List.mem_of_getElem? (i := 17) rfl))) (by decide) (backOf (W := 0) (rm3 l Z a0 hw [] b13 v8 v8 T17.heap n0 c18 FF17_0) hZ (hw _ (List.mem_of_getElem? (i := 19) rfl)) (hw _ (List.mem_of_getElem? (i := 4) rfl)) (by decide) (by decide)) q22a q22c (g := (mkF m 38 #[.val (.int p0), .val (.long q1), .second, .val (.int p2), .val (.int p3), .val (.int v8), .val (.long v11), .second, .val (.ref b13), .unset, .unset, .unset, .unset, .unset, .unset, .unset] [(.int v8), (.ref b13)])) rfl (by rw [hml]; rfl) (Steps.refl _) (argsL := [(.int v8)]) (rest := []) (lenOf own_pd1 rfl) rfl (by show 2 * 0 + _ ≤ _; exact Nat.le_of_eq rfl) (hb hby at_38) (fun _ _ => ⟨rfl, rfl, (by decide : 1 + 0 ≤ _), (by decide : 2 + 0 ≤ _)⟩)
  dsimp only [Pt.U, Pt.locs, Pt.cells, Pt.slots] at X22 l22 y22 z22 st22 hQ22
  subst l22 y22 z22
  obtain ⟨rfl, N22q, e22⟩ := hQ22
  have N22 := Fr.app N17 N22q
  have pre22 : ∀ t, Steps p.tables e below (T22.setTop (mkF m 41 #[.val (.int p0), .val (.long q1), .second, .val (.int p2), .val (.int p3), .val (.int v8), .val (.long v11), .second, .val (.ref b13), .unset, .unset, .unset, .unset, .unset, .unset, .unset] [(.int (own_f3 v8 v8))])) t → P t := fun t k => pre21 t (st22.trans k)
  obtain ⟨v23, hv23⟩ : ∃ z : Int32, z = (own_f3 v8 v8) := ⟨_, rfl⟩
  have pre24 : ∀ t, Steps p.tables e below (T22.setTop (mkF m 41 #[.val (.int p0), .val (.long q1), .second, .val (.int p2), .val (.int p3), .val (.int v8), .val (.long v11), .second, .val (.ref b13), .unset, .unset, .unset, .unset, .unset, .unset, .unset] [(.int v23)])) t → P t := fun t k => pre22 t (by subst hv23; exact k)
  have pre25 : ∀ t, Steps p.tables e below (T22.setTop (mkF m 49 #[.val (.int p0), .val (.long q1), .second, .val (.int p2), .val (.int p3), .val (.int v8), .val (.long v11), .second, .val (.ref b13), .val (.int v23), .unset, .unset, .unset, .unset, .unset, .unset] [(.int (v8 - (1 : Int32))), (.ref b13)])) t → P t := fun t k => pre24 t (by
      show Steps p.tables e below (T22.setTop (mkF m 41 #[.val (.int p0), .val (.long q1), .second, .val (.int p2), .val (.int p3), .val (.int v8), .val (.long v11), .second, .val (.ref b13), .unset, .unset, .unset, .unset, .unset, .unset, .unset] [(.int v23)])) _
      refine XS.istore X22.here hx rfl (hb hby at_41) rfl (l' := #[.val (.int p0), .val (.long q1), .second, .val (.int p2), .val (.int p3), .val (.int v8), .val (.long v11), .second, .val (.ref b13), .val (.int v23), .unset, .unset, .unset, .unset, .unset, .unset]) rfl ?_
      show Steps p.tables e below (T22.setTop (mkF m 43 #[.val (.int p0), .val (.long q1), .second, .val (.int p2), .val (.int p3), .val (.int v8), .val (.long v11), .second, .val (.ref b13), .val (.int v23), .unset, .unset, .unset, .unset, .unset, .unset] [])) _
      refine XS.aload X22.here hx rfl (hb hby at_43) rfl rfl ?_
      show Steps p.tables e below (T22.setTop (mkF m 45 #[.val (.int p0), .val (.long q1), .second, .val (.int p2), .val (.int p3), .val (.int v8), .val (.long v11), .second, .val (.ref b13), .val (.int v23), .unset, .unset, .unset, .unset, .unset, .unset] [(.ref b13)])) _
      refine XS.iload X22.here hx rfl (hb hby at_45) rfl ?_
      show Steps p.tables e below (T22.setTop (mkF m 47 #[.val (.int p0), .val (.long q1), .second, .val (.int p2), .val (.int p3), .val (.int v8), .val (.long v11), .second, .val (.ref b13), .val (.int v23), .unset, .unset, .unset, .unset, .unset, .unset] [(.int v8), (.ref b13)])) _
      refine XS.iconst X22.here hx rfl (hb hby at_47) ?_
      show Steps p.tables e below (T22.setTop (mkF m 48 #[.val (.int p0), .val (.long q1), .second, .val (.int p2), .val (.int p3), .val (.int v8), .val (.long v11), .second, .val (.ref b13), .val (.int v23), .unset, .unset, .unset, .unset, .unset, .unset] [(.int (1 : Int32)), (.int v8), (.ref b13)])) _
      refine XS.isub X22.here hx rfl (hb hby at_48) rfl ?_
      exact k)
  obtain ⟨cq26, kq26, q26a, q26b, q26c⟩ := isOf hZ e22 EE17
  obtain ⟨_, _, ⟨T26, L26, k26, n26⟩, -, X26, ⟨Lc26, hQ26, l26, y26, z26⟩, st26⟩ := X22.virtualBack hx (y := (⟨"com/example/xmax/xmax/retry/RetryPolicy", "exhausted", "(I)Z"⟩ : MethodName)) (z := (⟨"com/example/xmax/xmax/retry/RetryPolicy", "exhausted", "(I)Z"⟩ : MethodName)) hown (mvT hZ (hw _ (List.mem_of_getElem? (i := 15) rfl))) (mvT hZ (hw _ (List.mem_of_getElem? (i := 16) rfl))) (notFace_of_selects (args := #[]) (mvT hZ (hw _ (List.mem_of_getElem? (i := 18) rfl)))) (mvT hZ (hw _ (List.mem_of_getElem? (i := 18) rfl))) (mvT hZ (hw _ (List.mem_of_getElem? (i := 17) rfl))) (by decide) (backOf (W := 0) (rm3 l Z a0 hw [] b13 (v8 - (1 : Int32)) v8 T17.heap n0 c18 FF17_0) hZ (hw _ (List.mem_of_getElem? (i := 19) rfl)) (hw _ (List.mem_of_getElem? (i := 4) rfl)) (by decide) (by decide)) q26a q26c (g := (mkF m 49 #[.val (.int p0), .val (.long q1), .second, .val (.int p2), .val (.int p3), .val (.int v8), .val (.long v11), .second, .val (.ref b13), .val (.int v23), .unset, .unset, .unset, .unset, .unset, .unset] [(.int (v8 - (1 : Int32))), (.ref b13)])) rfl (by rw [hml]; rfl) (Steps.refl _) (argsL := [(.int (v8 - (1 : Int32)))]) (rest := []) (lenOf own_pd1 rfl) rfl (by show 2 * 0 + _ ≤ _; exact Nat.le_of_eq rfl) (hb hby at_49) (fun _ _ => ⟨rfl, e22, (by decide : 1 + 0 ≤ _), (by decide : 2 + 0 ≤ _)⟩)
  dsimp only [Pt.U, Pt.locs, Pt.cells, Pt.slots] at X26 l26 y26 z26 st26 hQ26
  subst l26 y26 z26
  obtain ⟨rfl, N26q, e26⟩ := hQ26
  have N26 := Fr.app N22 N26q
  have pre26 : ∀ t, Steps p.tables e below (T26.setTop (mkF m 52 #[.val (.int p0), .val (.long q1), .second, .val (.int p2), .val (.int p3), .val (.int v8), .val (.long v11), .second, .val (.ref b13), .val (.int v23), .unset, .unset, .unset, .unset, .unset, .unset] [(.int (own_f3 (v8 - (1 : Int32)) v8))])) t → P t := fun t k => pre25 t (st26.trans k)
  obtain ⟨v27, hv27⟩ : ∃ z : Int32, z = (own_f3 (v8 - (1 : Int32)) v8) := ⟨_, rfl⟩
  have pre28 : ∀ t, Steps p.tables e below (T26.setTop (mkF m 52 #[.val (.int p0), .val (.long q1), .second, .val (.int p2), .val (.int p3), .val (.int v8), .val (.long v11), .second, .val (.ref b13), .val (.int v23), .unset, .unset, .unset, .unset, .unset, .unset] [(.int v27)])) t → P t := fun t k => pre26 t (by subst hv27; exact k)
  have pre29 : ∀ t, Steps p.tables e below (T26.setTop (mkF m 57 #[.val (.int p0), .val (.long q1), .second, .val (.int p2), .val (.int p3), .val (.int v8), .val (.long v11), .second, .val (.ref b13), .val (.int v23), .val (.int v27), .unset, .unset, .unset, .unset, .unset] [(.int p3), (.int p2)])) t → P t := fun t k => pre28 t (by
      show Steps p.tables e below (T26.setTop (mkF m 52 #[.val (.int p0), .val (.long q1), .second, .val (.int p2), .val (.int p3), .val (.int v8), .val (.long v11), .second, .val (.ref b13), .val (.int v23), .unset, .unset, .unset, .unset, .unset, .unset] [(.int v27)])) _
      refine XS.istore X26.here hx rfl (hb hby at_52) rfl (l' := #[.val (.int p0), .val (.long q1), .second, .val (.int p2), .val (.int p3), .val (.int v8), .val (.long v11), .second, .val (.ref b13), .val (.int v23), .val (.int v27), .unset, .unset, .unset, .unset, .unset]) rfl ?_
      show Steps p.tables e below (T26.setTop (mkF m 54 #[.val (.int p0), .val (.long q1), .second, .val (.int p2), .val (.int p3), .val (.int v8), .val (.long v11), .second, .val (.ref b13), .val (.int v23), .val (.int v27), .unset, .unset, .unset, .unset, .unset] [])) _
      refine XS.iloadN X26.here hx rfl (hb hby at_54) rfl ?_
      show Steps p.tables e below (T26.setTop (mkF m 55 #[.val (.int p0), .val (.long q1), .second, .val (.int p2), .val (.int p3), .val (.int v8), .val (.long v11), .second, .val (.ref b13), .val (.int v23), .val (.int v27), .unset, .unset, .unset, .unset, .unset] [(.int p2)])) _
      refine XS.iload X26.here hx rfl (hb hby at_55) rfl ?_
      exact k)
  obtain ⟨_, _, ⟨T30, L30, k30, n30⟩, -, X30, ⟨Lc30, hQ30, l30, y30, z30⟩, st30⟩ := Jvm.LawKit.callS X26 hx (y := (⟨"java/lang/Math", "min", "(II)I"⟩ : MethodName)) hown (mvT hZ (hw _ (List.mem_of_getElem? (i := 20) rfl))) (mvT hZ (hw _ (List.mem_of_getElem? (i := 21) rfl))) (mvT hZ (hw _ (List.mem_of_getElem? (i := 22) rfl))) (mvT hZ (hw _ (List.mem_of_getElem? (i := 23) rfl))) (by decide) (backOf (W := 0) (rm4 l Z a0 hw [] p2 p3 T17.heap n0 c18 ) hZ (hw _ (List.mem_of_getElem? (i := 23) rfl)) (hw _ (List.mem_of_getElem? (i := 22) rfl)) (by decide) (by decide)) (g := (mkF m 57 #[.val (.int p0), .val (.long q1), .second, .val (.int p2), .val (.int p3), .val (.int v8), .val (.long v11), .second, .val (.ref b13), .val (.int v23), .val (.int v27), .unset, .unset, .unset, .unset, .unset] [(.int p3), (.int p2)])) rfl (by rw [hml]; rfl) (argsL := [(.int p2), (.int p3)]) (rest := []) (lenOf own_pd2 rfl) rfl (by show 2 * 0 + _ ≤ _; exact Nat.le_of_eq rfl) (hb hby at_57) (fun _ _ => ⟨rfl, e26, (by decide : 1 + 0 ≤ _), (by decide : 2 + 0 ≤ _)⟩)
  dsimp only [Pt.U, Pt.locs, Pt.cells, Pt.slots] at X30 l30 y30 z30 st30 hQ30
  subst l30 y30 z30
  obtain ⟨rfl, N30q, e30⟩ := hQ30
  have N30 := Fr.app N26 N30q
  have pre30 : ∀ t, Steps p.tables e below (T30.setTop (mkF m 60 #[.val (.int p0), .val (.long q1), .second, .val (.int p2), .val (.int p3), .val (.int v8), .val (.long v11), .second, .val (.ref b13), .val (.int v23), .val (.int v27), .unset, .unset, .unset, .unset, .unset] [(.int (own_f4 p2 p3))])) t → P t := fun t k => pre29 t (st30 _ k)
  obtain ⟨v31, hv31⟩ : ∃ z : Int32, z = (own_f4 p2 p3) := ⟨_, rfl⟩
  have pre32 : ∀ t, Steps p.tables e below (T30.setTop (mkF m 60 #[.val (.int p0), .val (.long q1), .second, .val (.int p2), .val (.int p3), .val (.int v8), .val (.long v11), .second, .val (.ref b13), .val (.int v23), .val (.int v27), .unset, .unset, .unset, .unset, .unset] [(.int v31)])) t → P t := fun t k => pre30 t (by subst hv31; exact k)
  have pre33 : ∀ t, Steps p.tables e below (T30.setTop (mkF m 65 #[.val (.int p0), .val (.long q1), .second, .val (.int p2), .val (.int p3), .val (.int v8), .val (.long v11), .second, .val (.ref b13), .val (.int v23), .val (.int v27), .val (.int v31), .unset, .unset, .unset, .unset] [(.int p3), (.int p2)])) t → P t := fun t k => pre32 t (by
      show Steps p.tables e below (T30.setTop (mkF m 60 #[.val (.int p0), .val (.long q1), .second, .val (.int p2), .val (.int p3), .val (.int v8), .val (.long v11), .second, .val (.ref b13), .val (.int v23), .val (.int v27), .unset, .unset, .unset, .unset, .unset] [(.int v31)])) _
      refine XS.istore X30.here hx rfl (hb hby at_60) rfl (l' := #[.val (.int p0), .val (.long q1), .second, .val (.int p2), .val (.int p3), .val (.int v8), .val (.long v11), .second, .val (.ref b13), .val (.int v23), .val (.int v27), .val (.int v31), .unset, .unset, .unset, .unset]) rfl ?_
      show Steps p.tables e below (T30.setTop (mkF m 62 #[.val (.int p0), .val (.long q1), .second, .val (.int p2), .val (.int p3), .val (.int v8), .val (.long v11), .second, .val (.ref b13), .val (.int v23), .val (.int v27), .val (.int v31), .unset, .unset, .unset, .unset] [])) _
      refine XS.iloadN X30.here hx rfl (hb hby at_62) rfl ?_
      show Steps p.tables e below (T30.setTop (mkF m 63 #[.val (.int p0), .val (.long q1), .second, .val (.int p2), .val (.int p3), .val (.int v8), .val (.long v11), .second, .val (.ref b13), .val (.int v23), .val (.int v27), .val (.int v31), .unset, .unset, .unset, .unset] [(.int p2)])) _
      refine XS.iload X30.here hx rfl (hb hby at_63) rfl ?_
      exact k)
  obtain ⟨_, _, ⟨T34, L34, k34, n34⟩, -, X34, ⟨Lc34, hQ34, l34, y34, z34⟩, st34⟩ := Jvm.LawKit.callS X30 hx (y := (⟨"java/lang/Math", "max", "(II)I"⟩ : MethodName)) hown (mvT hZ (hw _ (List.mem_of_getElem? (i := 24) rfl))) (mvT hZ (hw _ (List.mem_of_getElem? (i := 25) rfl))) (mvT hZ (hw _ (List.mem_of_getElem? (i := 22) rfl))) (mvT hZ (hw _ (List.mem_of_getElem? (i := 26) rfl))) (by decide) (backOf (W := 0) (rm5 l Z a0 hw [] p2 p3 T17.heap n0 c18 ) hZ (hw _ (List.mem_of_getElem? (i := 26) rfl)) (hw _ (List.mem_of_getElem? (i := 22) rfl)) (by decide) (by decide)) (g := (mkF m 65 #[.val (.int p0), .val (.long q1), .second, .val (.int p2), .val (.int p3), .val (.int v8), .val (.long v11), .second, .val (.ref b13), .val (.int v23), .val (.int v27), .val (.int v31), .unset, .unset, .unset, .unset] [(.int p3), (.int p2)])) rfl (by rw [hml]; rfl) (argsL := [(.int p2), (.int p3)]) (rest := []) (lenOf own_pd2 rfl) rfl (by show 2 * 0 + _ ≤ _; exact Nat.le_of_eq rfl) (hb hby at_65) (fun _ _ => ⟨rfl, e30, (by decide : 1 + 0 ≤ _), (by decide : 2 + 0 ≤ _)⟩)
  dsimp only [Pt.U, Pt.locs, Pt.cells, Pt.slots] at X34 l34 y34 z34 st34 hQ34
  subst l34 y34 z34
  obtain ⟨rfl, N34q, e34⟩ := hQ34
  have N34 := Fr.app N30 N34q
  have pre34 : ∀ t, Steps p.tables e below (T34.setTop (mkF m 68 #[.val (.int p0), .val (.long q1), .second, .val (.int p2), .val (.int p3), .val (.int v8), .val (.long v11), .second, .val (.ref b13), .val (.int v23), .val (.int v27), .val (.int v31), .unset, .unset, .unset, .unset] [(.int (own_f5 p2 p3))])) t → P t := fun t k => pre33 t (st34 _ k)
  obtain ⟨v35, hv35⟩ : ∃ z : Int32, z = (own_f5 p2 p3) := ⟨_, rfl⟩
  have pre36 : ∀ t, Steps p.tables e below (T34.setTop (mkF m 68 #[.val (.int p0), .val (.long q1), .second, .val (.int p2), .val (.int p3), .val (.int v8), .val (.long v11), .second, .val (.ref b13), .val (.int v23), .val (.int v27), .val (.int v31), .unset, .unset, .unset, .unset] [(.int v35)])) t → P t := fun t k => pre34 t (by subst hv35; exact k)
  have pre37 : ∀ t, Steps p.tables e below (T34.setTop (mkF m 74 #[.val (.int p0), .val (.long q1), .second, .val (.int p2), .val (.int p3), .val (.int v8), .val (.long v11), .second, .val (.ref b13), .val (.int v23), .val (.int v27), .val (.int v31), .val (.int v35), .unset, .unset, .unset] [(.int v31), (.ref b13)])) t → P t := fun t k => pre36 t (by
      show Steps p.tables e below (T34.setTop (mkF m 68 #[.val (.int p0), .val (.long q1), .second, .val (.int p2), .val (.int p3), .val (.int v8), .val (.long v11), .second, .val (.ref b13), .val (.int v23), .val (.int v27), .val (.int v31), .unset, .unset, .unset, .unset] [(.int v35)])) _
      refine XS.istore X34.here hx rfl (hb hby at_68) rfl (l' := #[.val (.int p0), .val (.long q1), .second, .val (.int p2), .val (.int p3), .val (.int v8), .val (.long v11), .second, .val (.ref b13), .val (.int v23), .val (.int v27), .val (.int v31), .val (.int v35), .unset, .unset, .unset]) rfl ?_
      show Steps p.tables e below (T34.setTop (mkF m 70 #[.val (.int p0), .val (.long q1), .second, .val (.int p2), .val (.int p3), .val (.int v8), .val (.long v11), .second, .val (.ref b13), .val (.int v23), .val (.int v27), .val (.int v31), .val (.int v35), .unset, .unset, .unset] [])) _
      refine XS.aload X34.here hx rfl (hb hby at_70) rfl rfl ?_
      show Steps p.tables e below (T34.setTop (mkF m 72 #[.val (.int p0), .val (.long q1), .second, .val (.int p2), .val (.int p3), .val (.int v8), .val (.long v11), .second, .val (.ref b13), .val (.int v23), .val (.int v27), .val (.int v31), .val (.int v35), .unset, .unset, .unset] [(.ref b13)])) _
      refine XS.iload X34.here hx rfl (hb hby at_72) rfl ?_
      exact k)
  obtain ⟨cq38, kq38, q38a, q38b, q38c⟩ := isOf hZ e34 EE17
  obtain ⟨_, _, ⟨T38, L38, k38, n38⟩, -, X38, ⟨Lc38, hQ38, l38, y38, z38⟩, st38⟩ := X34.virtualBack hx (y := (⟨"com/example/xmax/xmax/retry/RetryPolicy", "exhausted", "(I)Z"⟩ : MethodName)) (z := (⟨"com/example/xmax/xmax/retry/RetryPolicy", "exhausted", "(I)Z"⟩ : MethodName)) hown (mvT hZ (hw _ (List.mem_of_getElem? (i := 15) rfl))) (mvT hZ (hw _ (List.mem_of_getElem? (i := 16) rfl))) (notFace_of_selects (args := #[]) (mvT hZ (hw _ (List.mem_of_getElem? (i := 18) rfl)))) (mvT hZ (hw _ (List.mem_of_getElem? (i := 18) rfl))) (mvT hZ (hw _ (List.mem_of_getElem? (i := 17) rfl))) (by decide) (backOf (W := 0) (rm3 l Z a0 hw [] b13 v31 v8 T17.heap n0 c18 FF17_0) hZ (hw _ (List.mem_of_getElem? (i := 19) rfl)) (hw _ (List.mem_of_getElem? (i := 4) rfl)) (by decide) (by decide)) q38a q38c (g := (mkF m 74 #[.val (.int p0), .val (.long q1), .second, .val (.int p2), .val (.int p3), .val (.int v8), .val (.long v11), .second, .val (.ref b13), .val (.int v23), .val (.int v27), .val (.int v31), .val (.int v35), .unset, .unset, .unset] [(.int v31), (.ref b13)])) rfl (by rw [hml]; rfl) (Steps.refl _) (argsL := [(.int v31)]) (rest := []) (lenOf own_pd1 rfl) rfl (by show 2 * 0 + _ ≤ _; exact Nat.le_of_eq rfl) (hb hby at_74) (fun _ _ => ⟨rfl, e34, (by decide : 1 + 0 ≤ _), (by decide : 2 + 0 ≤ _)⟩)
  dsimp only [Pt.U, Pt.locs, Pt.cells, Pt.slots] at X38 l38 y38 z38 st38 hQ38
  subst l38 y38 z38
  obtain ⟨rfl, N38q, e38⟩ := hQ38
  have N38 := Fr.app N34 N38q
  have pre38 : ∀ t, Steps p.tables e below (T38.setTop (mkF m 77 #[.val (.int p0), .val (.long q1), .second, .val (.int p2), .val (.int p3), .val (.int v8), .val (.long v11), .second, .val (.ref b13), .val (.int v23), .val (.int v27), .val (.int v31), .val (.int v35), .unset, .unset, .unset] [(.int (own_f3 v31 v8))])) t → P t := fun t k => pre37 t (st38.trans k)
  obtain ⟨v39, hv39⟩ : ∃ z : Int32, z = (own_f3 v31 v8) := ⟨_, rfl⟩
  have pre40 : ∀ t, Steps p.tables e below (T38.setTop (mkF m 77 #[.val (.int p0), .val (.long q1), .second, .val (.int p2), .val (.int p3), .val (.int v8), .val (.long v11), .second, .val (.ref b13), .val (.int v23), .val (.int v27), .val (.int v31), .val (.int v35), .unset, .unset, .unset] [(.int v39)])) t → P t := fun t k => pre38 t (by subst hv39; exact k)
  have pre41 : ∀ t, Steps p.tables e below (T38.setTop (mkF m 83 #[.val (.int p0), .val (.long q1), .second, .val (.int p2), .val (.int p3), .val (.int v8), .val (.long v11), .second, .val (.ref b13), .val (.int v23), .val (.int v27), .val (.int v31), .val (.int v35), .val (.int v39), .unset, .unset] [(.int v35), (.ref b13)])) t → P t := fun t k => pre40 t (by
      show Steps p.tables e below (T38.setTop (mkF m 77 #[.val (.int p0), .val (.long q1), .second, .val (.int p2), .val (.int p3), .val (.int v8), .val (.long v11), .second, .val (.ref b13), .val (.int v23), .val (.int v27), .val (.int v31), .val (.int v35), .unset, .unset, .unset] [(.int v39)])) _
      refine XS.istore X38.here hx rfl (hb hby at_77) rfl (l' := #[.val (.int p0), .val (.long q1), .second, .val (.int p2), .val (.int p3), .val (.int v8), .val (.long v11), .second, .val (.ref b13), .val (.int v23), .val (.int v27), .val (.int v31), .val (.int v35), .val (.int v39), .unset, .unset]) rfl ?_
      show Steps p.tables e below (T38.setTop (mkF m 79 #[.val (.int p0), .val (.long q1), .second, .val (.int p2), .val (.int p3), .val (.int v8), .val (.long v11), .second, .val (.ref b13), .val (.int v23), .val (.int v27), .val (.int v31), .val (.int v35), .val (.int v39), .unset, .unset] [])) _
      refine XS.aload X38.here hx rfl (hb hby at_79) rfl rfl ?_
      show Steps p.tables e below (T38.setTop (mkF m 81 #[.val (.int p0), .val (.long q1), .second, .val (.int p2), .val (.int p3), .val (.int v8), .val (.long v11), .second, .val (.ref b13), .val (.int v23), .val (.int v27), .val (.int v31), .val (.int v35), .val (.int v39), .unset, .unset] [(.ref b13)])) _
      refine XS.iload X38.here hx rfl (hb hby at_81) rfl ?_
      exact k)
  obtain ⟨cq42, kq42, q42a, q42b, q42c⟩ := isOf hZ e38 EE17
  obtain ⟨_, _, ⟨T42, L42, k42, n42⟩, -, X42, ⟨Lc42, hQ42, l42, y42, z42⟩, st42⟩ := X38.virtualBack hx (y := (⟨"com/example/xmax/xmax/retry/RetryPolicy", "exhausted", "(I)Z"⟩ : MethodName)) (z := (⟨"com/example/xmax/xmax/retry/RetryPolicy", "exhausted", "(I)Z"⟩ : MethodName)) hown (mvT hZ (hw _ (List.mem_of_getElem? (i := 15) rfl))) (mvT hZ (hw _ (List.mem_of_getElem? (i := 16) rfl))) (notFace_of_selects (args := #[]) (mvT hZ (hw _ (List.mem_of_getElem? (i := 18) rfl)))) (mvT hZ (hw _ (List.mem_of_getElem? (i := 18) rfl))) (mvT hZ (hw _ (List.mem_of_getElem? (i := 17) rfl))) (by decide) (backOf (W := 0) (rm3 l Z a0 hw [] b13 v35 v8 T17.heap n0 c18 FF17_0) hZ (hw _ (List.mem_of_getElem? (i := 19) rfl)) (hw _ (List.mem_of_getElem? (i := 4) rfl)) (by decide) (by decide)) q42a q42c (g := (mkF m 83 #[.val (.int p0), .val (.long q1), .second, .val (.int p2), .val (.int p3), .val (.int v8), .val (.long v11), .second, .val (.ref b13), .val (.int v23), .val (.int v27), .val (.int v31), .val (.int v35), .val (.int v39), .unset, .unset] [(.int v35), (.ref b13)])) rfl (by rw [hml]; rfl) (Steps.refl _) (argsL := [(.int v35)]) (rest := []) (lenOf own_pd1 rfl) rfl (by show 2 * 0 + _ ≤ _; exact Nat.le_of_eq rfl) (hb hby at_83) (fun _ _ => ⟨rfl, e38, (by decide : 1 + 0 ≤ _), (by decide : 2 + 0 ≤ _)⟩)
  dsimp only [Pt.U, Pt.locs, Pt.cells, Pt.slots] at X42 l42 y42 z42 st42 hQ42
  subst l42 y42 z42
  obtain ⟨rfl, N42q, e42⟩ := hQ42
  have N42 := Fr.app N38 N42q
  have pre42 : ∀ t, Steps p.tables e below (T42.setTop (mkF m 86 #[.val (.int p0), .val (.long q1), .second, .val (.int p2), .val (.int p3), .val (.int v8), .val (.long v11), .second, .val (.ref b13), .val (.int v23), .val (.int v27), .val (.int v31), .val (.int v35), .val (.int v39), .unset, .unset] [(.int (own_f3 v35 v8))])) t → P t := fun t k => pre41 t (st42.trans k)
  obtain ⟨v43, hv43⟩ : ∃ z : Int32, z = (own_f3 v35 v8) := ⟨_, rfl⟩
  have pre44 : ∀ t, Steps p.tables e below (T42.setTop (mkF m 86 #[.val (.int p0), .val (.long q1), .second, .val (.int p2), .val (.int p3), .val (.int v8), .val (.long v11), .second, .val (.ref b13), .val (.int v23), .val (.int v27), .val (.int v31), .val (.int v35), .val (.int v39), .unset, .unset] [(.int v43)])) t → P t := fun t k => pre42 t (by subst hv43; exact k)
  have pre45 : ∀ t, Steps p.tables e below (T42.setTop (mkF m 90 #[.val (.int p0), .val (.long q1), .second, .val (.int p2), .val (.int p3), .val (.int v8), .val (.long v11), .second, .val (.ref b13), .val (.int v23), .val (.int v27), .val (.int v31), .val (.int v35), .val (.int v39), .val (.int v43), .unset] [(.int v39)])) t → P t := fun t k => pre44 t (by
      show Steps p.tables e below (T42.setTop (mkF m 86 #[.val (.int p0), .val (.long q1), .second, .val (.int p2), .val (.int p3), .val (.int v8), .val (.long v11), .second, .val (.ref b13), .val (.int v23), .val (.int v27), .val (.int v31), .val (.int v35), .val (.int v39), .unset, .unset] [(.int v43)])) _
      refine XS.istore X42.here hx rfl (hb hby at_86) rfl (l' := #[.val (.int p0), .val (.long q1), .second, .val (.int p2), .val (.int p3), .val (.int v8), .val (.long v11), .second, .val (.ref b13), .val (.int v23), .val (.int v27), .val (.int v31), .val (.int v35), .val (.int v39), .val (.int v43), .unset]) rfl ?_
      show Steps p.tables e below (T42.setTop (mkF m 88 #[.val (.int p0), .val (.long q1), .second, .val (.int p2), .val (.int p3), .val (.int v8), .val (.long v11), .second, .val (.ref b13), .val (.int v23), .val (.int v27), .val (.int v31), .val (.int v35), .val (.int v39), .val (.int v43), .unset] [])) _
      refine XS.iload X42.here hx rfl (hb hby at_88) rfl ?_
      exact k)
  obtain ⟨T53, L53, v52, X53, e53, N53, hv52, pre53⟩ : ∃ (T' : State) (L' : List Loc) (v52 : Int32), Stand p l e room_1 s m #[(.int p0), (.long q1), (.int p2), (.int p3)] below meth c T' L' 1 2 ∧ T'.heap = T17.heap ∧ Fr n0 L' ∧ v52 = (if v39 = (0 : Int32) then (1 : Int32) else (if v43 = (0 : Int32) then (0 : Int32) else (1 : Int32))) ∧ (∀ t, Steps p.tables e below (T'.setTop (mkF m 103 #[.val (.int p0), .val (.long q1), .second, .val (.int p2), .val (.int p3), .val (.int v8), .val (.long v11), .second, .val (.ref b13), .val (.int v23), .val (.int v27), .val (.int v31), .val (.int v35), .val (.int v39), .val (.int v43), .unset] [(.int v52)])) t → P t) := by
    by_cases hc46 : v39 = (0 : Int32)
    · have pre47 : ∀ t, Steps p.tables e below (T42.setTop (mkF m 103 #[.val (.int p0), .val (.long q1), .second, .val (.int p2), .val (.int p3), .val (.int v8), .val (.long v11), .second, .val (.ref b13), .val (.int v23), .val (.int v27), .val (.int v31), .val (.int v35), .val (.int v39), .val (.int v43), .unset] [(.int (1 : Int32))])) t → P t := fun t k => pre45 t (by
          show Steps p.tables e below (T42.setTop (mkF m 90 #[.val (.int p0), .val (.long q1), .second, .val (.int p2), .val (.int p3), .val (.int v8), .val (.long v11), .second, .val (.ref b13), .val (.int v23), .val (.int v27), .val (.int v31), .val (.int v35), .val (.int v39), .val (.int v43), .unset] [(.int v39)])) _
          refine XS.ifYes X42.here hx rfl (pc0 := 90) (pc' := 98) rfl (hb hby at_90) rfl ((if0 _ _).trans (teq hc46).1) (by decide) (by decide) ?_
          show Steps p.tables e below (T42.setTop (mkF m 98 #[.val (.int p0), .val (.long q1), .second, .val (.int p2), .val (.int p3), .val (.int v8), .val (.long v11), .second, .val (.ref b13), .val (.int v23), .val (.int v27), .val (.int v31), .val (.int v35), .val (.int v39), .val (.int v43), .unset] [])) _
          refine XS.iconst X42.here hx rfl (hb hby at_98) ?_
          show Steps p.tables e below (T42.setTop (mkF m 99 #[.val (.int p0), .val (.long q1), .second, .val (.int p2), .val (.int p3), .val (.int v8), .val (.long v11), .second, .val (.ref b13), .val (.int v23), .val (.int v27), .val (.int v31), .val (.int v35), .val (.int v39), .val (.int v43), .unset] [(.int (1 : Int32))])) _
          refine XS.goto X42.here hx rfl (pc0 := 99) (pc' := 103) rfl (hb hby at_99) (by decide) (by decide) ?_
          exact k)
      exact ⟨_, _, (1 : Int32), X42, e42, N42, (by first | (rw [if_pos hc46]; done) | simp only [if_pos hc46] | simp [if_pos hc46]), pre47⟩
    · have pre48 : ∀ t, Steps p.tables e below (T42.setTop (mkF m 95 #[.val (.int p0), .val (.long q1), .second, .val (.int p2), .val (.int p3), .val (.int v8), .val (.long v11), .second, .val (.ref b13), .val (.int v23), .val (.int v27), .val (.int v31), .val (.int v35), .val (.int v39), .val (.int v43), .unset] [(.int v43)])) t → P t := fun t k => pre45 t (by
          show Steps p.tables e below (T42.setTop (mkF m 90 #[.val (.int p0), .val (.long q1), .second, .val (.int p2), .val (.int p3), .val (.int v8), .val (.long v11), .second, .val (.ref b13), .val (.int v23), .val (.int v27), .val (.int v31), .val (.int v35), .val (.int v39), .val (.int v43), .unset] [(.int v39)])) _
          refine XS.ifNo X42.here hx rfl (hb hby at_90) rfl ((if0 _ _).trans (feq hc46).1) ?_
          show Steps p.tables e below (T42.setTop (mkF m 93 #[.val (.int p0), .val (.long q1), .second, .val (.int p2), .val (.int p3), .val (.int v8), .val (.long v11), .second, .val (.ref b13), .val (.int v23), .val (.int v27), .val (.int v31), .val (.int v35), .val (.int v39), .val (.int v43), .unset] [])) _
          refine XS.iload X42.here hx rfl (hb hby at_93) rfl ?_
          exact k)
      by_cases hc49 : v43 = (0 : Int32)
      · have pre50 : ∀ t, Steps p.tables e below (T42.setTop (mkF m 103 #[.val (.int p0), .val (.long q1), .second, .val (.int p2), .val (.int p3), .val (.int v8), .val (.long v11), .second, .val (.ref b13), .val (.int v23), .val (.int v27), .val (.int v31), .val (.int v35), .val (.int v39), .val (.int v43), .unset] [(.int (0 : Int32))])) t → P t := fun t k => pre48 t (by
            show Steps p.tables e below (T42.setTop (mkF m 95 #[.val (.int p0), .val (.long q1), .second, .val (.int p2), .val (.int p3), .val (.int v8), .val (.long v11), .second, .val (.ref b13), .val (.int v23), .val (.int v27), .val (.int v31), .val (.int v35), .val (.int v39), .val (.int v43), .unset] [(.int v43)])) _
            refine XS.ifYes X42.here hx rfl (pc0 := 95) (pc' := 102) rfl (hb hby at_95) rfl ((if0 _ _).trans (teq hc49).1) (by decide) (by decide) ?_
            show Steps p.tables e below (T42.setTop (mkF m 102 #[.val (.int p0), .val (.long q1), .second, .val (.int p2), .val (.int p3), .val (.int v8), .val (.long v11), .second, .val (.ref b13), .val (.int v23), .val (.int v27), .val (.int v31), .val (.int v35), .val (.int v39), .val (.int v43), .unset] [])) _
            refine XS.iconst X42.here hx rfl (hb hby at_102) ?_
            exact k)
        exact ⟨_, _, (0 : Int32), X42, e42, N42, (by first | (rw [if_neg hc46, if_pos hc49]; done) | simp only [if_neg hc46, if_pos hc49] | simp [if_neg hc46, if_pos hc49]), pre50⟩
      · have pre51 : ∀ t, Steps p.tables e below (T42.setTop (mkF m 103 #[.val (.int p0), .val (.long q1), .second, .val (.int p2), .val (.int p3), .val (.int v8), .val (.long v11), .second, .val (.ref b13), .val (.int v23), .val (.int v27), .val (.int v31), .val (.int v35), .val (.int v39), .val (.int v43), .unset] [(.int (1 : Int32))])) t → P t := fun t k => pre48 t (by
            show Steps p.tables e below (T42.setTop (mkF m 95 #[.val (.int p0), .val (.long q1), .second, .val (.int p2), .val (.int p3), .val (.int v8), .val (.long v11), .second, .val (.ref b13), .val (.int v23), .val (.int v27), .val (.int v31), .val (.int v35), .val (.int v39), .val (.int v43), .unset] [(.int v43)])) _
            refine XS.ifNo X42.here hx rfl (hb hby at_95) rfl ((if0 _ _).trans (feq hc49).1) ?_
            show Steps p.tables e below (T42.setTop (mkF m 98 #[.val (.int p0), .val (.long q1), .second, .val (.int p2), .val (.int p3), .val (.int v8), .val (.long v11), .second, .val (.ref b13), .val (.int v23), .val (.int v27), .val (.int v31), .val (.int v35), .val (.int v39), .val (.int v43), .unset] [])) _
            refine XS.iconst X42.here hx rfl (hb hby at_98) ?_
            show Steps p.tables e below (T42.setTop (mkF m 99 #[.val (.int p0), .val (.long q1), .second, .val (.int p2), .val (.int p3), .val (.int v8), .val (.long v11), .second, .val (.ref b13), .val (.int v23), .val (.int v27), .val (.int v31), .val (.int v35), .val (.int v39), .val (.int v43), .unset] [(.int (1 : Int32))])) _
            refine XS.goto X42.here hx rfl (pc0 := 99) (pc' := 103) rfl (hb hby at_99) (by decide) (by decide) ?_
            exact k)
        exact ⟨_, _, (1 : Int32), X42, e42, N42, (by first | (rw [if_neg hc46, if_neg hc49]; done) | simp only [if_neg hc46, if_neg hc49] | simp [if_neg hc46, if_neg hc49]), pre51⟩
  have pre54 : ∀ t, Steps p.tables e below (T53.setTop (mkF m 107 #[.val (.int p0), .val (.long q1), .second, .val (.int p2), .val (.int p3), .val (.int v8), .val (.long v11), .second, .val (.ref b13), .val (.int v23), .val (.int v27), .val (.int v31), .val (.int v35), .val (.int v39), .val (.int v43), .val (.int v52)] [(.int v23)])) t → P t := fun t k => pre53 t (by
      show Steps p.tables e below (T53.setTop (mkF m 103 #[.val (.int p0), .val (.long q1), .second, .val (.int p2), .val (.int p3), .val (.int v8), .val (.long v11), .second, .val (.ref b13), .val (.int v23), .val (.int v27), .val (.int v31), .val (.int v35), .val (.int v39), .val (.int v43), .unset] [(.int v52)])) _
      refine XS.istore X53.here hx rfl (hb hby at_103) rfl (l' := #[.val (.int p0), .val (.long q1), .second, .val (.int p2), .val (.int p3), .val (.int v8), .val (.long v11), .second, .val (.ref b13), .val (.int v23), .val (.int v27), .val (.int v31), .val (.int v35), .val (.int v39), .val (.int v43), .val (.int v52)]) rfl ?_
      show Steps p.tables e below (T53.setTop (mkF m 105 #[.val (.int p0), .val (.long q1), .second, .val (.int p2), .val (.int p3), .val (.int v8), .val (.long v11), .second, .val (.ref b13), .val (.int v23), .val (.int v27), .val (.int v31), .val (.int v35), .val (.int v39), .val (.int v43), .val (.int v52)] [])) _
      refine XS.iload X53.here hx rfl (hb hby at_105) rfl ?_
      exact k)
  obtain ⟨T65, L65, v64, X65, e65, N65, hv64, pre65⟩ : ∃ (T' : State) (L' : List Loc) (v64 : Int32), Stand p l e room_1 s m #[(.int p0), (.long q1), (.int p2), (.int p3)] below meth c T' L' 1 2 ∧ T'.heap = T17.heap ∧ Fr n0 L' ∧ v64 = (if v23 = (0 : Int32) then (0 : Int32) else (if v27 = (0 : Int32) then (if v52 = (0 : Int32) then (0 : Int32) else (1 : Int32)) else (0 : Int32))) ∧ (∀ t, Steps p.tables e below (T'.setTop (mkF m 125 #[.val (.int p0), .val (.long q1), .second, .val (.int p2), .val (.int p3), .val (.int v8), .val (.long v11), .second, .val (.ref b13), .val (.int v23), .val (.int v27), .val (.int v31), .val (.int v35), .val (.int v39), .val (.int v43), .val (.int v52)] [(.int v64)])) t → P t) := by
    by_cases hc55 : v23 = (0 : Int32)
    · have pre56 : ∀ t, Steps p.tables e below (T53.setTop (mkF m 125 #[.val (.int p0), .val (.long q1), .second, .val (.int p2), .val (.int p3), .val (.int v8), .val (.long v11), .second, .val (.ref b13), .val (.int v23), .val (.int v27), .val (.int v31), .val (.int v35), .val (.int v39), .val (.int v43), .val (.int v52)] [(.int (0 : Int32))])) t → P t := fun t k => pre54 t (by
          show Steps p.tables e below (T53.setTop (mkF m 107 #[.val (.int p0), .val (.long q1), .second, .val (.int p2), .val (.int p3), .val (.int v8), .val (.long v11), .second, .val (.ref b13), .val (.int v23), .val (.int v27), .val (.int v31), .val (.int v35), .val (.int v39), .val (.int v43), .val (.int v52)] [(.int v23)])) _
          refine XS.ifYes X53.here hx rfl (pc0 := 107) (pc' := 124) rfl (hb hby at_107) rfl ((if0 _ _).trans (teq hc55).1) (by decide) (by decide) ?_
          show Steps p.tables e below (T53.setTop (mkF m 124 #[.val (.int p0), .val (.long q1), .second, .val (.int p2), .val (.int p3), .val (.int v8), .val (.long v11), .second, .val (.ref b13), .val (.int v23), .val (.int v27), .val (.int v31), .val (.int v35), .val (.int v39), .val (.int v43), .val (.int v52)] [])) _
          refine XS.iconst X53.here hx rfl (hb hby at_124) ?_
          exact k)
      exact ⟨_, _, (0 : Int32), X53, e53, N53, (by first | (rw [if_pos hc55]; done) | simp only [if_pos hc55] | simp [if_pos hc55]), pre56⟩
    · have pre57 : ∀ t, Steps p.tables e below (T53.setTop (mkF m 112 #[.val (.int p0), .val (.long q1), .second, .val (.int p2), .val (.int p3), .val (.int v8), .val (.long v11), .second, .val (.ref b13), .val (.int v23), .val (.int v27), .val (.int v31), .val (.int v35), .val (.int v39), .val (.int v43), .val (.int v52)] [(.int v27)])) t → P t := fun t k => pre54 t (by
          show Steps p.tables e below (T53.setTop (mkF m 107 #[.val (.int p0), .val (.long q1), .second, .val (.int p2), .val (.int p3), .val (.int v8), .val (.long v11), .second, .val (.ref b13), .val (.int v23), .val (.int v27), .val (.int v31), .val (.int v35), .val (.int v39), .val (.int v43), .val (.int v52)] [(.int v23)])) _
          refine XS.ifNo X53.here hx rfl (hb hby at_107) rfl ((if0 _ _).trans (feq hc55).1) ?_
          show Steps p.tables e below (T53.setTop (mkF m 110 #[.val (.int p0), .val (.long q1), .second, .val (.int p2), .val (.int p3), .val (.int v8), .val (.long v11), .second, .val (.ref b13), .val (.int v23), .val (.int v27), .val (.int v31), .val (.int v35), .val (.int v39), .val (.int v43), .val (.int v52)] [])) _
          refine XS.iload X53.here hx rfl (hb hby at_110) rfl ?_
          exact k)
      by_cases hc58 : v27 = (0 : Int32)
      · have pre59 : ∀ t, Steps p.tables e below (T53.setTop (mkF m 117 #[.val (.int p0), .val (.long q1), .second, .val (.int p2), .val (.int p3), .val (.int v8), .val (.long v11), .second, .val (.ref b13), .val (.int v23), .val (.int v27), .val (.int v31), .val (.int v35), .val (.int v39), .val (.int v43), .val (.int v52)] [(.int v52)])) t → P t := fun t k => pre57 t (by
            show Steps p.tables e below (T53.setTop (mkF m 112 #[.val (.int p0), .val (.long q1), .second, .val (.int p2), .val (.int p3), .val (.int v8), .val (.long v11), .second, .val (.ref b13), .val (.int v23), .val (.int v27), .val (.int v31), .val (.int v35), .val (.int v39), .val (.int v43), .val (.int v52)] [(.int v27)])) _
            refine XS.ifNo X53.here hx rfl (hb hby at_112) rfl ((if0 _ _).trans (teq hc58).2) ?_
            show Steps p.tables e below (T53.setTop (mkF m 115 #[.val (.int p0), .val (.long q1), .second, .val (.int p2), .val (.int p3), .val (.int v8), .val (.long v11), .second, .val (.ref b13), .val (.int v23), .val (.int v27), .val (.int v31), .val (.int v35), .val (.int v39), .val (.int v43), .val (.int v52)] [])) _
            refine XS.iload X53.here hx rfl (hb hby at_115) rfl ?_
            exact k)
        by_cases hc60 : v52 = (0 : Int32)
        · have pre61 : ∀ t, Steps p.tables e below (T53.setTop (mkF m 125 #[.val (.int p0), .val (.long q1), .second, .val (.int p2), .val (.int p3), .val (.int v8), .val (.long v11), .second, .val (.ref b13), .val (.int v23), .val (.int v27), .val (.int v31), .val (.int v35), .val (.int v39), .val (.int v43), .val (.int v52)] [(.int (0 : Int32))])) t → P t := fun t k => pre59 t (by
              show Steps p.tables e below (T53.setTop (mkF m 117 #[.val (.int p0), .val (.long q1), .second, .val (.int p2), .val (.int p3), .val (.int v8), .val (.long v11), .second, .val (.ref b13), .val (.int v23), .val (.int v27), .val (.int v31), .val (.int v35), .val (.int v39), .val (.int v43), .val (.int v52)] [(.int v52)])) _
              refine XS.ifYes X53.here hx rfl (pc0 := 117) (pc' := 124) rfl (hb hby at_117) rfl ((if0 _ _).trans (teq hc60).1) (by decide) (by decide) ?_
              show Steps p.tables e below (T53.setTop (mkF m 124 #[.val (.int p0), .val (.long q1), .second, .val (.int p2), .val (.int p3), .val (.int v8), .val (.long v11), .second, .val (.ref b13), .val (.int v23), .val (.int v27), .val (.int v31), .val (.int v35), .val (.int v39), .val (.int v43), .val (.int v52)] [])) _
              refine XS.iconst X53.here hx rfl (hb hby at_124) ?_
              exact k)
          exact ⟨_, _, (0 : Int32), X53, e53, N53, (by first | (rw [if_neg hc55, if_pos hc58, if_pos hc60]; done) | simp only [if_neg hc55, if_pos hc58, if_pos hc60] | simp [if_neg hc55, if_pos hc58, if_pos hc60]), pre61⟩
        · have pre62 : ∀ t, Steps p.tables e below (T53.setTop (mkF m 125 #[.val (.int p0), .val (.long q1), .second, .val (.int p2), .val (.int p3), .val (.int v8), .val (.long v11), .second, .val (.ref b13), .val (.int v23), .val (.int v27), .val (.int v31), .val (.int v35), .val (.int v39), .val (.int v43), .val (.int v52)] [(.int (1 : Int32))])) t → P t := fun t k => pre59 t (by
              show Steps p.tables e below (T53.setTop (mkF m 117 #[.val (.int p0), .val (.long q1), .second, .val (.int p2), .val (.int p3), .val (.int v8), .val (.long v11), .second, .val (.ref b13), .val (.int v23), .val (.int v27), .val (.int v31), .val (.int v35), .val (.int v39), .val (.int v43), .val (.int v52)] [(.int v52)])) _
              refine XS.ifNo X53.here hx rfl (hb hby at_117) rfl ((if0 _ _).trans (feq hc60).1) ?_
              show Steps p.tables e below (T53.setTop (mkF m 120 #[.val (.int p0), .val (.long q1), .second, .val (.int p2), .val (.int p3), .val (.int v8), .val (.long v11), .second, .val (.ref b13), .val (.int v23), .val (.int v27), .val (.int v31), .val (.int v35), .val (.int v39), .val (.int v43), .val (.int v52)] [])) _
              refine XS.iconst X53.here hx rfl (hb hby at_120) ?_
              show Steps p.tables e below (T53.setTop (mkF m 121 #[.val (.int p0), .val (.long q1), .second, .val (.int p2), .val (.int p3), .val (.int v8), .val (.long v11), .second, .val (.ref b13), .val (.int v23), .val (.int v27), .val (.int v31), .val (.int v35), .val (.int v39), .val (.int v43), .val (.int v52)] [(.int (1 : Int32))])) _
              refine XS.goto X53.here hx rfl (pc0 := 121) (pc' := 125) rfl (hb hby at_121) (by decide) (by decide) ?_
              exact k)
          exact ⟨_, _, (1 : Int32), X53, e53, N53, (by first | (rw [if_neg hc55, if_pos hc58, if_neg hc60]; done) | simp only [if_neg hc55, if_pos hc58, if_neg hc60] | simp [if_neg hc55, if_pos hc58, if_neg hc60]), pre62⟩
      · have pre63 : ∀ t, Steps p.tables e below (T53.setTop (mkF m 125 #[.val (.int p0), .val (.long q1), .second, .val (.int p2), .val (.int p3), .val (.int v8), .val (.long v11), .second, .val (.ref b13), .val (.int v23), .val (.int v27), .val (.int v31), .val (.int v35), .val (.int v39), .val (.int v43), .val (.int v52)] [(.int (0 : Int32))])) t → P t := fun t k => pre57 t (by
            show Steps p.tables e below (T53.setTop (mkF m 112 #[.val (.int p0), .val (.long q1), .second, .val (.int p2), .val (.int p3), .val (.int v8), .val (.long v11), .second, .val (.ref b13), .val (.int v23), .val (.int v27), .val (.int v31), .val (.int v35), .val (.int v39), .val (.int v43), .val (.int v52)] [(.int v27)])) _
            refine XS.ifYes X53.here hx rfl (pc0 := 112) (pc' := 124) rfl (hb hby at_112) rfl ((if0 _ _).trans (feq hc58).2) (by decide) (by decide) ?_
            show Steps p.tables e below (T53.setTop (mkF m 124 #[.val (.int p0), .val (.long q1), .second, .val (.int p2), .val (.int p3), .val (.int v8), .val (.long v11), .second, .val (.ref b13), .val (.int v23), .val (.int v27), .val (.int v31), .val (.int v35), .val (.int v39), .val (.int v43), .val (.int v52)] [])) _
            refine XS.iconst X53.here hx rfl (hb hby at_124) ?_
            exact k)
        exact ⟨_, _, (0 : Int32), X53, e53, N53, (by first | (rw [if_neg hc55, if_neg hc58]; done) | simp only [if_neg hc55, if_neg hc58] | simp [if_neg hc55, if_neg hc58]), pre63⟩
  obtain ⟨fs, hr, hrun, hended, hW, hsame⟩ := X65.leave (v := some (.int v64)) (fun h => by rw [Bd.returns] at h; cases h)
  refine ⟨_, _, fin _ (pre65 _ ?_), hrun, hended, _, _, rfl, ?_, ⟨_, rfl⟩, hW, hsame.mono (by decide) (by decide)⟩
  · show Steps p.tables e below (T65.setTop (mkF m 125 #[.val (.int p0), .val (.long q1), .second, .val (.int p2), .val (.int p3), .val (.int v8), .val (.long v11), .second, .val (.ref b13), .val (.int v23), .val (.int v27), .val (.int v31), .val (.int v35), .val (.int v39), .val (.int v43), .val (.int v52)] [(.int v64)])) _
    have hnar : nar .boolean v64 = v64 := by subst hv2 hv8 hv11 hv23 hv27 hv31 hv35 hv39 hv43 hv52 hv64; first | rfl | (split <;> rfl) | ((try simp only []); (repeat' split) <;> rfl)
    exact retN X65 hx (t := .boolean) Bd.returns (by simp) (hb hby at_125) (by rw [hnar]; exact hr)
  · show Q0 Z p0 q1 p2 p3 h0 n0 _ T65.heap _
    rw [e65]
    exact ⟨(by subst hv2 hv8 hv11 hv23 hv27 hv31 hv35 hv39 hv43 hv52 hv64; first | rfl | simp only [own_f0]), N65⟩
theorem own_law (a : Int32) (b : Int64) (c d : Int32) : own_f0 a b c d = 1 := by
  have h1 := c_mask a 2147483647 31 (by decide) (by decide)
  unfold own_f0
  generalize (a &&& 2147483647) = x at *
  simp only []
  have e0 : (0 : Int32).toInt = 0 := by decide
  have e1 : (1 : Int32).toInt = 1 := by decide
  have hm : 0 < (if x = (0 : Int32) then (1 : Int32) else x).toInt := by
    split
    · decide
    · next q =>
      rw [← Int32.toInt_inj] at q
      omega
  generalize (if x = (0 : Int32) then (1 : Int32) else x) = m at *
  have h2 := c_isub m 1
  have h3 := rng32 (m - 1)
  have h4 := rng32 m
  have k1 : own_f3 m m = 1 := by
    unfold own_f3
    rw [if_neg]
    rw [Int32.lt_iff_toInt_lt]; omega
  have k2 : own_f3 (m - 1) m = 0 := by
    unfold own_f3
    rw [if_pos]
    rw [Int32.lt_iff_toInt_lt]; omega
  have k3 : own_f3 (own_f5 c d) m = 0 → own_f3 (own_f4 c d) m = 0 := by
    unfold own_f3 own_f4 own_f5
    intro h
    have h' : (if c < d then d else c) < m := by
      by_cases q : (if c < d then d else c) < m
      · exact q
      · rw [if_neg q] at h; exact absurd h (by decide)
    rw [if_pos]
    by_cases q : d < c
    · have q' : ¬ c < d := by rw [Int32.lt_iff_toInt_lt] at q ⊢; omega
      rw [if_neg q'] at h'
      rw [if_pos q]
      rw [Int32.lt_iff_toInt_lt] at q h' ⊢; omega
    · rw [if_neg q]
      by_cases q' : c < d
      · rw [if_pos q'] at h'
        rw [Int32.lt_iff_toInt_lt] at q' h' ⊢; omega
      · rw [if_neg q'] at h'
        exact h'
  simp only [k1, k2]
  by_cases q : own_f3 (own_f4 c d) m = 0
  · simp [q]
  · have q' : ¬ own_f3 (own_f5 c d) m = 0 := fun z => q (k3 z)
    simp [q, q']
set_option maxRecDepth 65536 in
set_option maxHeartbeats 40000000 in
theorem comes_1 {Post : Tables → Env → Array Value → State → Outcome → State → Prop} (hpost : ∀ tb e args s v u, (limb_1_1.after args s (.returned v) u = true ∧ limb_1_2.after args s (.returned v) u = true ∧ True) → FrameEnd s (.returned v) u (Jvm.fieldLocs frame_1_writes args s ++ Jvm.arrayLocs frame_1_arrays args s ++ Jvm.staticLocs frame_1_statics s) 16 128 → Post tb e args s (.returned v) u) :
    ArmFor flags0 classFile x code maxLocals ret World_1 tables_1 room_1 Calls_1 rest_1 Pre_1 Post := by
  intro l hfl _ _ p e ha hc hk s m args below hf hA hF happ hP
  obtain ⟨hcalls, hrest, hpre⟩ := hP
  obtain ⟨-, -, -, hnamed, -, -, -, hat⟩ := (Spec.applies_iff hf).mp happ
  obtain ⟨hg, hn⟩ := and_e (Cond.before_iff.mp (show (Jvm.Cond.and given_1 narrow_1).before args s = true from hpre))
  obtain ⟨hg1, hg2⟩ := and_e hg
  obtain ⟨hg3, hg4⟩ := and_e hg2
  obtain ⟨hg5, hg6⟩ := and_e hg4
  obtain ⟨hg7, hg8⟩ := and_e hg6
  obtain ⟨w0, w1, w2, w3, rfl⟩ : ∃ w0 w1 w2 w3 : Value, args = #[w0, w1, w2, w3] := by
    have hs : args.size = 4 := by simpa [Cond.value, given_1] using hg1
    obtain ⟨L⟩ := args
    match L, hs with
    | [w0, w1, w2, w3], _ => exact ⟨w0, w1, w2, w3, rfl⟩
  have hw := fun d (hd : d ∈ tables_1) => atoms_spec (ws := Jvm.Cond.code x code maxLocals ret :: tables_1) hat d (List.mem_cons_of_mem _ hd)
  have hfit : Fit s := fun {y c} hc i hi => by
    obtain ⟨ha, rfl⟩ := Array.getElem?_eq_some_iff.mp hc
    have q := List.all_eq_true.mp ((Array.all_eq_true_iff_forall_mem.mp hF) _ (Array.getElem_mem ha)) i (List.mem_range.mpr hi)
    simpa [Array.getElem?_eq_getElem hi] using q
  obtain ⟨i0, ei0⟩ := is_v hg3
  obtain rfl : w0 = (.int i0) := Option.some.inj ei0
  obtain ⟨i1, ei1⟩ := isL_v hg5
  obtain rfl : w1 = (.long i1) := Option.some.inj ei1
  obtain ⟨i2, ei2⟩ := is_v hg7
  obtain rfl : w2 = (.int i2) := Option.some.inj ei2
  obtain ⟨i3, ei3⟩ := is_v hg8
  obtain rfl : w3 = (.int i3) := Option.some.inj ei3
  obtain ⟨n, o, h1, h2, h3, _, L, rfl, ⟨rfl, N⟩, hq⟩ := rm0 l s _ hw tables_1 i0 i1 i2 i3 s.heap s.heap.size (Nat.le_refl _) p e ha hc hk s m _ below hf ((Spec.applies_iff_loose hf).mp happ).1 ⟨rfl, State.Warmed39.refl s, rfl⟩ trivial
  refine ⟨n, _, h1, h2, h3, hpost _ _ _ _ _ _ ⟨Cond.after_iff.mpr rfl, Cond.after_iff.mpr (eq_i res_at (Term.int_eval (1)) (by rw [own_law])), trivial⟩ ⟨hq.1, hq.2.1, (hq.2.2.sift fun y hy => Or.inr (N y hy)).mono (by decide) (by decide)⟩⟩
theorem main_1_1 : Claimed_1_1 := comes_1 fun _ _ _ _ _ _ h hF => ⟨h.1, hF⟩
theorem main_1_2 : Claimed_1_2 := comes_1 fun _ _ _ _ _ _ h hF => ⟨h.2.1, hF⟩
end Jvm.Pilot.@@N@@
namespace Jvm.Pilot.@@N@@
open Jvm Jvm.ClassFile Sem Op Lib Jvm.Free Jvm.Stand Jvm.Pilot.@@N@@.Jvm.D
/-! MADE BY PROGRAM (witnessworld.py) out of the Statement's table words and the real class files: 10 classes; the members and pool entries that the words name. The judged class is class 1, her method 1. -/
namespace start1
open Jvm.ClassFile
def u (s : String) : CpInfo := .utf8 (stringToUtf16 s)
/-- a pool by its gaps: so many unusable entries, then the entry; so many at the end -/
def gap : Nat → List CpInfo → List CpInfo
  | 0, r => r
  | n + 1, r => .unusable :: gap n r
def poolList (es : List (Nat × CpInfo)) (last : Nat) : List CpInfo := es.foldr (fun e r => gap e.1 (e.2 :: r)) (gap last [])
def pool (es : List (Nat × CpInfo)) (last : Nat) : Array CpInfo := ⟨poolList es last⟩
def fileOf (pool : Array CpInfo) (this : Nat) (attrs : Array Attribute := #[]) (ms : Array MethodInfo := #[]) (fl : Nat := 33) (sup : Nat := 0) (ifs : Array Nat := #[]) (fds : Array FieldInfo := #[]) : ClassFile where
  minorVersion := 0
  majorVersion := 65
  constantPool := pool
  accessFlags := fl
  thisClass := this
  superClass := sup
  interfaces := ifs
  fields := fds
  methods := ms
  attributes := attrs
def plain (name : String) (sup : Option ClassId) : Class where
  name := name
  kind := .ordinary
  loader := none
  accessFlags := 33
  super := sup
  interfaces := #[]
  cf := none
  fields := #[]
  methods := #[]
  instanceTypes := #[]
  staticTypes := #[]
  resolved := #[]
  callSites := []
  init := .initialized
  statics := none
  mirror := none

def pool0 : Array CpInfo := pool [(5, u "<init>"), (0, u "()V"), (1, .class_ 10), (1, u "java/lang/Object")] 113

def k0c0 : Code := { maxStack := 0, maxLocals := 1, code := object_method_1_code, exceptionTable := #[], attributes := #[] }
def k0m0 : Method := { name := "<init>", desc := "()V", sig := { parameters := [], returnType := none }, accessFlags := 1, code := some k0c0 }
/-- java/lang/Object -/
def k0 : Class := { plain "java/lang/Object" none with
  accessFlags := 33
  interfaces := #[]
  cf := some (fileOf pool0 8 #[] #[{ accessFlags := 1, nameIndex := 5, descriptorIndex := 6, attributes := #[] }] 33 0 #[] #[])
  fields := #[]
  methods := #[k0m0]
  instanceTypes := #[]
  staticTypes := #[]
  resolved := Array.replicate 124 none
  statics := none }

def pool1 : Array CpInfo := pool [(2, .class_ 4), (1, u "java/lang/Object"), (0, u "<init>"), (0, u "()V"), (0, .integer 2147483647), (2, .long 9223372036854775807), (1, .class_ 13), (0, u "com/example/xmax/xmax/retry/RetryPolicy"), (0, .methodref 12 15), (0, .nameAndType 5 16), (0, u "(IJ)V"), (0, .methodref 12 18), (0, .nameAndType 19 20), (0, u "exhausted"), (0, u "(I)Z"), (0, .methodref 22 23), (0, .class_ 24), (0, .nameAndType 25 26), (0, u "java/lang/Math"), (0, u "min"), (0, u "(II)I"), (0, .methodref 22 28), (0, .nameAndType 29 26), (0, u "max"), (0, .class_ 31), (0, u "com/example/xmax/xmax/retry/RetryPolicyExhaustedPinLaw"), (2, u "law"), (0, u "(IJII)Z")] 3

def k1m0 : Method := { name := "<init>", desc := "()V", sig := { parameters := [], returnType := none }, accessFlags := 1, code := none }
def k1c1 : Code := { maxStack := 5, maxLocals := 16, code := code, exceptionTable := #[], attributes := #[] }
def k1m1 : Method := { name := "law", desc := "(IJII)Z", sig := { parameters := [.int, .long, .int, .int], returnType := some .boolean }, accessFlags := 9, code := some k1c1 }
/-- com/example/xmax/xmax/retry/RetryPolicyExhaustedPinLaw -/
def k1 : Class := { plain "com/example/xmax/xmax/retry/RetryPolicyExhaustedPinLaw" (some 0) with
  accessFlags := 49
  interfaces := #[]
  cf := some (fileOf pool1 30 #[] #[{ accessFlags := 1, nameIndex := 5, descriptorIndex := 6, attributes := #[] }, { accessFlags := 9, nameIndex := 34, descriptorIndex := 35, attributes := #[] }] 49 2 #[] #[])
  fields := #[]
  methods := #[k1m0, k1m1]
  instanceTypes := #[]
  staticTypes := #[]
  resolved := Array.replicate 39 none
  statics := none }

def pool2 : Array CpInfo := pool [(1, .methodref 2 3), (0, .class_ 4), (0, .nameAndType 5 6), (0, u "java/lang/Object"), (0, u "<init>"), (0, u "()V"), (12, .fieldref 20 21), (0, .class_ 22), (0, .nameAndType 23 24), (0, u "com/example/xmax/xmax/retry/RetryPolicy"), (0, u "maxAttempts"), (0, u "I"), (0, .fieldref 20 26), (0, .nameAndType 27 28), (0, u "retryDelayMillis"), (0, u "J"), (13, u "(IJ)V"), (2, u "DEFAULT"), (0, u "Lcom/example/xmax/xmax/retry/RetryPolicy;"), (5, u "exhausted"), (0, u "(I)Z")] 24

def k2c0 : Code := { maxStack := 4, maxLocals := 4, code := prog_26_method_1_code, exceptionTable := #[], attributes := #[] }
def k2m0 : Method := { name := "<init>", desc := "(IJ)V", sig := { parameters := [.int, .long], returnType := none }, accessFlags := 1, code := some k2c0 }
def k2c1 : Code := { maxStack := 2, maxLocals := 2, code := prog_26_method_4_code, exceptionTable := #[], attributes := #[] }
def k2m1 : Method := { name := "exhausted", desc := "(I)Z", sig := { parameters := [.int], returnType := some .boolean }, accessFlags := 1, code := some k2c1 }
/-- com/example/xmax/xmax/retry/RetryPolicy -/
def k2 : Class := { plain "com/example/xmax/xmax/retry/RetryPolicy" (some 0) with
  accessFlags := 49
  interfaces := #[]
  cf := some (fileOf pool2 20 #[] #[{ accessFlags := 1, nameIndex := 5, descriptorIndex := 42, attributes := #[] }, { accessFlags := 1, nameIndex := 52, descriptorIndex := 53, attributes := #[] }] 49 2 #[] #[{ accessFlags := 25, nameIndex := 45, descriptorIndex := 46, attributes := #[] }, { accessFlags := 18, nameIndex := 23, descriptorIndex := 24, attributes := #[] }, { accessFlags := 18, nameIndex := 27, descriptorIndex := 28, attributes := #[] }])
  fields := #[{ name := "DEFAULT", type := (.object "com/example/xmax/xmax/retry/RetryPolicy"), accessFlags := 25, slot := 0, constantValue := 0 }, { name := "maxAttempts", type := .int, accessFlags := 18, slot := 0, constantValue := 0 }, { name := "retryDelayMillis", type := .long, accessFlags := 18, slot := 1, constantValue := 0 }]
  methods := #[k2m0, k2m1]
  instanceTypes := #[.int, .long]
  staticTypes := #[(.object "com/example/xmax/xmax/retry/RetryPolicy")]
  resolved := Array.replicate 78 none
  statics := none }

def pool3 : Array CpInfo := pool [(1, .class_ 2), (0, u "java/lang/Math"), (1, .class_ 6), (1, u "java/lang/Object"), (0, u "<init>"), (0, u "()V"), (89, .class_ 100), (1, u "java/lang/Math$RandomNumberGeneratorHolder"), (71, u "negativeZeroFloatBits"), (0, u "J"), (2, u "negativeZeroDoubleBits"), (21, u "max"), (2, u "min"), (43, u "$assertionsDisabled"), (0, u "Z"), (88, u "(II)I"), (2, u "twoToTheDoubleScaleDown"), (0, u "D"), (4, u "twoToTheDoubleScaleUp"), (9, u "E"), (3, u "PI"), (2, u "TAU"), (2, u "DEGREES_TO_RADIANS"), (0, u "RADIANS_TO_DEGREES")] 94

def k3m0 : Method := { name := "<init>", desc := "()V", sig := { parameters := [], returnType := none }, accessFlags := 2, code := none }
def k3c1 : Code := { maxStack := 2, maxLocals := 2, code := jdk_29_method_65_code, exceptionTable := #[], attributes := #[] }
def k3m1 : Method := { name := "max", desc := "(II)I", sig := { parameters := [.int, .int], returnType := some .int }, accessFlags := 9, code := some k3c1 }
def k3c2 : Code := { maxStack := 2, maxLocals := 2, code := jdk_29_method_69_code, exceptionTable := #[], attributes := #[] }
def k3m2 : Method := { name := "min", desc := "(II)I", sig := { parameters := [.int, .int], returnType := some .int }, accessFlags := 9, code := some k3c2 }
/-- java/lang/Math -/
def k3 : Class := { plain "java/lang/Math" (some 0) with
  accessFlags := 49
  interfaces := #[]
  cf := some (fileOf pool3 1 #[.nestMembers #[98]] #[{ accessFlags := 2, nameIndex := 7, descriptorIndex := 8, attributes := #[] }, { accessFlags := 9, nameIndex := 198, descriptorIndex := 335, attributes := #[] }, { accessFlags := 9, nameIndex := 201, descriptorIndex := 335, attributes := #[] }] 49 4 #[] #[{ accessFlags := 25, nameIndex := 354, descriptorIndex := 339, attributes := #[] }, { accessFlags := 25, nameIndex := 358, descriptorIndex := 339, attributes := #[] }, { accessFlags := 25, nameIndex := 361, descriptorIndex := 339, attributes := #[] }, { accessFlags := 26, nameIndex := 364, descriptorIndex := 339, attributes := #[] }, { accessFlags := 26, nameIndex := 365, descriptorIndex := 339, attributes := #[] }, { accessFlags := 26, nameIndex := 172, descriptorIndex := 173, attributes := #[] }, { accessFlags := 26, nameIndex := 176, descriptorIndex := 173, attributes := #[] }, { accessFlags := 8, nameIndex := 344, descriptorIndex := 339, attributes := #[] }, { accessFlags := 8, nameIndex := 338, descriptorIndex := 339, attributes := #[] }, { accessFlags := 4120, nameIndex := 245, descriptorIndex := 246, attributes := #[] }])
  fields := #[{ name := "E", type := .double, accessFlags := 25, slot := 0, constantValue := 0 }, { name := "PI", type := .double, accessFlags := 25, slot := 1, constantValue := 0 }, { name := "TAU", type := .double, accessFlags := 25, slot := 2, constantValue := 0 }, { name := "DEGREES_TO_RADIANS", type := .double, accessFlags := 26, slot := 3, constantValue := 0 }, { name := "RADIANS_TO_DEGREES", type := .double, accessFlags := 26, slot := 4, constantValue := 0 }, { name := "negativeZeroFloatBits", type := .long, accessFlags := 26, slot := 5, constantValue := 0 }, { name := "negativeZeroDoubleBits", type := .long, accessFlags := 26, slot := 6, constantValue := 0 }, { name := "twoToTheDoubleScaleUp", type := .double, accessFlags := 8, slot := 7, constantValue := 0 }, { name := "twoToTheDoubleScaleDown", type := .double, accessFlags := 8, slot := 8, constantValue := 0 }, { name := "$assertionsDisabled", type := .boolean, accessFlags := 4120, slot := 9, constantValue := 0 }]
  methods := #[k3m0, k3m1, k3m2]
  instanceTypes := #[]
  staticTypes := #[.double, .double, .double, .double, .double, .long, .long, .double, .double, .boolean]
  resolved := Array.replicate 460 none
  statics := none }

def pool4 : Array CpInfo := pool [(1, u "java/lang/Cloneable"), (0, .class_ 1), (0, u "java/lang/Object"), (0, .class_ 3)] 3

/-- java/lang/Cloneable -/
def k4 : Class := { plain "java/lang/Cloneable" (some 0) with
  accessFlags := 1537
  interfaces := #[]
  cf := some (fileOf pool4 2 #[] #[] 1537 4 #[] #[])
  fields := #[]
  methods := #[]
  instanceTypes := #[]
  staticTypes := #[]
  resolved := Array.replicate 8 none
  statics := none }

def pool5 : Array CpInfo := pool [(1, u "java/io/Serializable"), (0, .class_ 1), (0, u "java/lang/Object"), (0, .class_ 3)] 3

/-- java/io/Serializable -/
def k5 : Class := { plain "java/io/Serializable" (some 0) with
  accessFlags := 1537
  interfaces := #[]
  cf := some (fileOf pool5 2 #[] #[] 1537 4 #[] #[])
  fields := #[]
  methods := #[]
  instanceTypes := #[]
  staticTypes := #[]
  resolved := Array.replicate 8 none
  statics := none }

/-- the primitive byte -/
def k6 : Class := { plain "byte" none with kind := .primitive 'B', accessFlags := 0x411 }
/-- [B -/
def k7 : Class := { plain "[B" (some 0) with kind := .array 6 .byte, interfaces := #[4, 5], accessFlags := 1041 }

/-- the primitive int -/
def k8 : Class := { plain "int" none with kind := .primitive 'I', accessFlags := 0x411 }
/-- [I -/
def k9 : Class := { plain "[I" (some 0) with kind := .array 8 .int, interfaces := #[4, 5], accessFlags := 1041 }

def heap : Heap := #[]
def classes : Array Class := #[k0, k1, k2, k3, k4, k5, k6, k7, k8, k9]
def interned : List (Array UInt16 × Addr) := []
def slotsUsed : Nat := 0
def theMethod : MethodId := ⟨1, 1⟩
def args0 : Array Value := #[.int 5, .long 7, .int 3, .int 0]
def aboutOver (below : List Frame) : State where
  vm := { classes := classes, interned := interned.toArray }
  heap := heap
  slotsUsed := slotsUsed
  threads := #[{ frames := .invoking theMethod args0 :: below }]
def below0 : List Frame := [.native { method := ⟨0, 0⟩, args := #[] }]
def about1 : State := aboutOver below0
def p0 : Program := .bare "" "" ""
def e0 : Env := launch0.env 0 0 0
theorem w_frames : about1.frames = Frame.invoking theMethod args0 :: below0 := rfl
set_option maxRecDepth 65536 in
theorem w_args : argsFit about1.vm theMethod args0 = true := by decide +kernel
set_option maxRecDepth 65536 in
theorem w_heap : heapFits about1 = true := by decide +kernel
set_option maxRecDepth 65536 in
theorem w_runnable : about1.curStatus? = some .runnable := by decide +kernel
set_option maxRecDepth 65536 in
theorem w_alone : about1.alone = true := by decide +kernel
set_option maxRecDepth 65536 in
theorem w_named : about1.methodNamed? x = some theMethod := by decide +kernel
set_option maxRecDepth 65536 in
theorem w_hears : about1.hears theMethod below0 = true := by decide +kernel
set_option maxRecDepth 65536 in
theorem w_ripe : about1.ripe theMethod args0 below0 = true := by decide +kernel
theorem w_running : about1.status = .running := rfl
set_option maxRecDepth 65536 in
theorem w_room : about1.hasRoom e0.platform room_1 = true :=
  launch0.hasRoom_least _ room_1 (by decide +kernel) (by decide +kernel) (by decide +kernel) (by decide +kernel) (by decide +kernel) (by decide +kernel)
theorem allAtoms_all (ts : List Jvm.Cond) (a : Array Jvm.Value) (st : Jvm.State) : (allAtoms ts).before a st = ts.all (fun c => c.before a st) := by
  induction ts with
  | nil => rfl
  | cons c t ih =>
    show (Jvm.Cond.and c (allAtoms t)).before a st = _
    rw [Jvm.Cond.before_and, ih, List.all_cons]
def words1 : List Jvm.Cond := Jvm.Cond.code x code maxLocals ret :: tables_1
/-- a 'code' word, met by the world's own term for the bytes: nothing is compared byte by byte -/
theorem code_word {y : MethodName} {bytes : ByteArray} {mx : Nat} {rt : Option FieldType} {a : Array Value} {s : State} {m : MethodId} {meth : Method} {c : Code} (h1 : s.methodNamed? y = some m) (h2 : s.vm.method? m = some meth) (h3 : meth.code = some c) (h4 : c.code = bytes)
    (h5 : (c.maxLocals == mx && c.exceptionTable.isEmpty && decide (c.maxStack ≤ mostOperands) && decide (meth.sig.returnType = rt) && !meth.locks && decide (parseMethodDescriptor y.desc = some meth.sig)) = true) : (Jvm.Cond.code y bytes mx rt).before a s = true := by
  simp only [Bool.and_eq_true, beq_iff_eq, Bool.not_eq_true', decide_eq_true_eq] at h5
  obtain ⟨⟨⟨⟨⟨g1, g2⟩, g3⟩, g4⟩, g5⟩, g6⟩ := h5
  simp [Cond.before, Cond.holds, Cond.value, h1, h2, h3, h4, g1, g2, g3, g4, g5, g6]
def isCode : Jvm.Cond → Bool
  | .code _ _ _ _ => true
  | _ => false
theorem all_split {L : List Jvm.Cond} {P : Jvm.Cond → Bool} (h1 : L.all (fun c => isCode c || P c) = true) (h2 : ∀ c ∈ L.filter isCode, P c = true) : L.all P = true := by
  refine List.all_eq_true.mpr fun c hc => ?_
  have h := List.all_eq_true.mp h1 c hc
  rcases Bool.eq_false_or_eq_true (isCode c) with hi | hi
  · exact h2 c (List.mem_filter.mpr ⟨hc, hi⟩)
  · simpa [hi] using h
set_option maxRecDepth 65536 in
theorem w_c0 : (Jvm.Cond.code x code maxLocals ret).before args0 about1 = true := code_word (m := ⟨1, 1⟩) (meth := k1m1) (c := k1c1) (by decide +kernel) rfl rfl rfl (by decide +kernel)
set_option maxRecDepth 65536 in
theorem w_c1 : (Jvm.Cond.code ({ cls := "com/example/xmax/xmax/retry/RetryPolicy", name := "<init>", desc := "(IJ)V" } : Jvm.MethodName) prog_26_method_1_code (4 : Nat) (Option.none : Option Jvm.ClassFile.FieldType)).before args0 about1 = true := code_word (m := ⟨2, 0⟩) (meth := k2m0) (c := k2c0) (by decide +kernel) rfl rfl rfl (by decide +kernel)
set_option maxRecDepth 65536 in
theorem w_c2 : (Jvm.Cond.code ({ cls := "java/lang/Object", name := "<init>", desc := "()V" } : Jvm.MethodName) object_method_1_code (1 : Nat) (Option.none : Option Jvm.ClassFile.FieldType)).before args0 about1 = true := code_word (m := ⟨0, 0⟩) (meth := k0m0) (c := k0c0) (by decide +kernel) rfl rfl rfl (by decide +kernel)
set_option maxRecDepth 65536 in
theorem w_c3 : (Jvm.Cond.code ({ cls := "com/example/xmax/xmax/retry/RetryPolicy", name := "exhausted", desc := "(I)Z" } : Jvm.MethodName) prog_26_method_4_code (2 : Nat) (Option.some Jvm.ClassFile.FieldType.boolean)).before args0 about1 = true := code_word (m := ⟨2, 1⟩) (meth := k2m1) (c := k2c1) (by decide +kernel) rfl rfl rfl (by decide +kernel)
set_option maxRecDepth 65536 in
theorem w_c4 : (Jvm.Cond.code ({ cls := "java/lang/Math", name := "min", desc := "(II)I" } : Jvm.MethodName) jdk_29_method_69_code (2 : Nat) (Option.some Jvm.ClassFile.FieldType.int)).before args0 about1 = true := code_word (m := ⟨3, 2⟩) (meth := k3m2) (c := k3c2) (by decide +kernel) rfl rfl rfl (by decide +kernel)
set_option maxRecDepth 65536 in
theorem w_c5 : (Jvm.Cond.code ({ cls := "java/lang/Math", name := "max", desc := "(II)I" } : Jvm.MethodName) jdk_29_method_65_code (2 : Nat) (Option.some Jvm.ClassFile.FieldType.int)).before args0 about1 = true := code_word (m := ⟨3, 1⟩) (meth := k3m1) (c := k3c1) (by decide +kernel) rfl rfl rfl (by decide +kernel)
def codes1 : List Jvm.Cond := [Jvm.Cond.code x code maxLocals ret, Jvm.Cond.code ({ cls := "com/example/xmax/xmax/retry/RetryPolicy", name := "<init>", desc := "(IJ)V" } : Jvm.MethodName) prog_26_method_1_code (4 : Nat) (Option.none : Option Jvm.ClassFile.FieldType), Jvm.Cond.code ({ cls := "java/lang/Object", name := "<init>", desc := "()V" } : Jvm.MethodName) object_method_1_code (1 : Nat) (Option.none : Option Jvm.ClassFile.FieldType), Jvm.Cond.code ({ cls := "com/example/xmax/xmax/retry/RetryPolicy", name := "exhausted", desc := "(I)Z" } : Jvm.MethodName) prog_26_method_4_code (2 : Nat) (Option.some Jvm.ClassFile.FieldType.boolean), Jvm.Cond.code ({ cls := "java/lang/Math", name := "min", desc := "(II)I" } : Jvm.MethodName) jdk_29_method_69_code (2 : Nat) (Option.some Jvm.ClassFile.FieldType.int), Jvm.Cond.code ({ cls := "java/lang/Math", name := "max", desc := "(II)I" } : Jvm.MethodName) jdk_29_method_65_code (2 : Nat) (Option.some Jvm.ClassFile.FieldType.int)]
set_option maxRecDepth 65536 in
theorem codes_eq : words1.filter isCode = codes1 := rfl
theorem w_codes : ∀ c ∈ words1.filter isCode, c.before args0 about1 = true := by
  rw [codes_eq]
  intro c hc
  simp only [codes1, List.mem_cons, List.not_mem_nil, or_false] at hc
  rcases hc with rfl | rfl | rfl | rfl | rfl | rfl
  · exact w_c0
  · exact w_c1
  · exact w_c2
  · exact w_c3
  · exact w_c4
  · exact w_c5
set_option maxRecDepth 65536 in
theorem w_t1 : (words1.take 24).all (fun c => isCode c || c.before args0 about1) = true := by decide +kernel
set_option maxRecDepth 65536 in
theorem w_t2 : (words1.drop 24).all (fun c => isCode c || c.before args0 about1) = true := by decide +kernel
theorem w_tables : (allAtoms (Jvm.Cond.code x code maxLocals ret :: tables_1)).before args0 about1 = true := by
  rw [allAtoms_all]
  show words1.all (fun c => c.before args0 about1) = true
  refine all_split ?_ w_codes
  rw [← List.take_append_drop 24 words1, List.all_append, w_t1, w_t2]
  rfl
set_option maxRecDepth 65536 in
theorem w_case : (Jvm.Cond.and given_1 narrow_1).before args0 about1 = true := by decide +kernel
theorem w_applies : (headSpec (Jvm.Cond.code x code maxLocals ret :: tables_1) room_1).applies x e0.platform about1 = true :=
  (Spec.applies_iff w_frames).mpr ⟨w_running, w_runnable, w_alone, w_named, w_hears, w_ripe, w_room, w_tables⟩
theorem atStart : AtStart classFile x code maxLocals ret World_1 tables_1 room_1 Calls_1 rest_1 Pre_1 launch0 p0 e0 about1 theMethod args0 below0 :=
  ⟨lists_1, trivial, launch0.admits_env _ _ _, launch0.least_env, fairChoices_fair.cas, fairChoices_fair.clock, w_frames, w_args, w_heap, w_applies, trivial, trivial, w_case⟩
end start1
theorem witness_1 : WitnessClaimed_1 := ⟨start1.p0, start1.e0, start1.about1, start1.theMethod, start1.args0, start1.below0, start1.atStart⟩
end Jvm.Pilot.@@N@@
