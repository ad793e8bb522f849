import JvmDerived
import JvmDerived.Pilot.@@N@@Statement
import JvmDerived.Pilot.@@N@@Code
set_option linter.unusedVariables false
set_option linter.unusedSimpArgs false
namespace Jvm.RoadKit
open Sem ClassFile Op Lib Jvm.Stand Jvm.Free Jvm.LawKit
section New
variable {p : Program} {l : Launch} {e : Env} {R : Room} {s : State} {m : MethodId} {args : Array Value} {below : List Frame} {meth : Method} {c : Code} {T : State} {locs : List Loc} {cells slots : Nat}
theorem retI (X : Stand p l e R s m args below meth c T locs cells slots) (hx : p.tables.exec = Jvm.exec) {pc : Nat} {Ls : Array Slot} {z : Int32} {rest : List Value} (hret : meth.sig.returnType = some .int) (hd : decode c.code pc = .ok (.ireturn, 1)) {fs : List Frame}
    (hl : ∀ (f : JFrame) (acts : List Action), f.method = m → f.locked = none → f.entered = [] → (doReturn e (T.setTop f) acts (some (.int z))).1 = T.setFrames fs) : Steps p.tables e below (T.setTop (mkF m pc Ls (.int z :: rest))) (T.setFrames fs) := by
  have hm' : T.vm.method? m = some meth := X.method'
  have hn : narrow .int (.int z) = .int z := rfl
  show Steps p.tables e below (T.setTop { method := m, pc := pc, locals := Ls, stack := _ :: rest, locked := none }) _
  jvm_step X.here [X.here.top, hx, hd, hm', hret, hn]
  first | (intro acts; rw [hl _ acts rfl rfl rfl]) | rw [hl _ _ rfl rfl rfl]
  exact Steps.refl _
end New
end Jvm.RoadKit
namespace Jvm.Pilot.@@N@@
open Jvm Jvm.ClassFile Sem Op Lib Jvm.Free Jvm.Stand Jvm.LawKit Jvm.RoadKit Bundle Jvm.Pilot.@@N@@.Jvm.D
theorem d5_0 : decode jdk_29_method_65_code 0 = .ok (.iload_n 0, 1) := by decide +kernel
theorem d5_1 : decode jdk_29_method_65_code 1 = .ok (.iload_n 1, 1) := by decide +kernel
theorem d5_2 : decode jdk_29_method_65_code 2 = .ok (.if_icmp .lt 7, 3) := by decide +kernel
theorem d5_5 : decode jdk_29_method_65_code 5 = .ok (.iload_n 0, 1) := by decide +kernel
theorem d5_6 : decode jdk_29_method_65_code 6 = .ok (.goto 4, 3) := by decide +kernel
theorem d5_9 : decode jdk_29_method_65_code 9 = .ok (.iload_n 1, 1) := by decide +kernel
theorem d5_10 : decode jdk_29_method_65_code 10 = .ok (.ireturn, 1) := by decide +kernel
theorem ef_5 (m : MethodId) (p0 : Int32) (p1 : Int32) : entryFrame m #[(.int p0), (.int p1)] 2 = mkF m 0 #[.val (.int p0), .val (.int p1)] [] := by first | (simp [entryFrame, mkF, argsToLocals, Value.category]; done) | rfl
def own_f5 (p0 : Int32) (p1 : Int32) : Int32 := (if p0 < p1 then p1 else p0)
def Q5 (Z : State) (p0 : Int32) (p1 : Int32) (h0 : Heap) (n0 : Nat) (v : Option Value) (h : Heap) (L : List Loc) : Prop := v = some (.int (own_f5 p0 p1)) ∧ Fr n0 L ∧ h = h0
set_option maxRecDepth 65536 in
set_option maxHeartbeats 40000000 in
theorem rm5 (l : Launch) (Z : State) (a0 : Array Value) (hw : ∀ d ∈ tables_1, d.before a0 Z = true) (ws : List Jvm.Cond) (p0 : Int32) (p1 : Int32) (h0 : Heap) (n0 : Nat) (Z0 : n0 ≤ h0.size) :
    MetFree l (⟨"java/lang/Math", "max", "(II)I"⟩ : MethodName) (head1 (Jvm.Cond.code (⟨"java/lang/Math", "max", "(II)I"⟩ : MethodName) jdk_29_method_65_code 2 (some .int) :: ws) ({ frames := 0, cells := 0, slots := 0, locals := 0 } : Room)) (fun a U => a = #[(.int p0), (.int p1)] ∧ Z.Warmed39 U.vm ∧ U.heap = h0) (fun _ _ _ _ _ => True) (fun _ U o U' => ∃ v L, o = .returned v ∧ Q5 Z p0 p1 h0 n0 v U'.heap L ∧ FrameEnd U o U' L ({ frames := 0, cells := 0, slots := 0, locals := 0 } : Room).cells ({ frames := 0, cells := 0, slots := 0, locals := 0 } : Room).slots) := by
  refine MetFree.of_bodySF (Jvm.Free.JP.mathPlain rfl (by decide +kernel)) hisR ?_
  intro p e s m args below meth c s₁ Bd hml0 hP hK
  obtain ⟨rfl, hZ, hh⟩ := hP
  have hx := Bd.exec
  have hby := Bd.bytes
  have hml : c.maxLocals = 2 := hml0
  have hown : s.vm.findClass "java/lang/Math" = some m.cls := findClass_of_methodNamed Bd.named
  have hnm := (name_of_methodNamed Bd.named Bd.method).1
  have X0 : Stand p l e ({ frames := 0, cells := 0, slots := 0, locals := 0 } : Room) s m #[(.int p0), (.int p1)] below meth c s₁ [] 0 0 := Stand.of_body Bd
  have e0 : s₁.heap = h0 := by rw [← hh, Bd.state]; rfl
  have N0 := Fr.nil n0
  obtain ⟨P, pre0, fin⟩ : ∃ P : State → Prop, (∀ t, Steps p.tables e below (s₁.setTop (mkF m 0 #[.val (.int p0), .val (.int p1)] [])) t → P t) ∧ (∀ t, P t → Steps p.tables e below (s₁.setTop (entryFrame m #[(.int p0), (.int p1)] 2)) t) := ⟨fun t => Steps p.tables e below (s₁.setTop (entryFrame m #[(.int p0), (.int p1)] 2)) t, fun t k => castTop (ef_5 m p0 p1) k, fun t k => k⟩
  have K0 : Keep h0 h0 [] := Keep.refl _ _
  have pre1 : ∀ t, Steps p.tables e below (s₁.setTop (mkF m 2 #[.val (.int p0), .val (.int p1)] [(.int p1), (.int p0)])) t → P t := fun t k => pre0 t (by
      show Steps p.tables e below (s₁.setTop (mkF m 0 #[.val (.int p0), .val (.int p1)] [])) _
      refine XS.iloadN X0.here hx rfl (hb hby d5_0) rfl ?_
      show Steps p.tables e below (s₁.setTop (mkF m 1 #[.val (.int p0), .val (.int p1)] [(.int p0)])) _
      refine XS.iloadN X0.here hx rfl (hb hby d5_1) rfl ?_
      exact k)
  obtain ⟨T6, L6, v5, X6, e6, N6, hv5, pre6⟩ : ∃ (T' : State) (L' : List Loc) (v5 : Int32), Stand p l e ({ frames := 0, cells := 0, slots := 0, locals := 0 } : Room) s m #[(.int p0), (.int p1)] below meth c T' L' 0 0 ∧ T'.heap = h0 ∧ Fr n0 L' ∧ v5 = (if p0 < p1 then p1 else p0) ∧ (∀ t, Steps p.tables e below (T'.setTop (mkF m 10 #[.val (.int p0), .val (.int p1)] [(.int v5)])) t → P t) := by
    by_cases hc2 : p0 < p1
    · have pre3 : ∀ t, Steps p.tables e below (s₁.setTop (mkF m 10 #[.val (.int p0), .val (.int p1)] [(.int p1)])) t → P t := fun t k => pre1 t (by
          show Steps p.tables e below (s₁.setTop (mkF m 2 #[.val (.int p0), .val (.int p1)] [(.int p1), (.int p0)])) _
          refine XS.icmpYes X0.here hx rfl (pc0 := 2) (pc' := 9) rfl (hb hby d5_2) rfl (tlt hc2).1 (by decide) (by decide) ?_
          show Steps p.tables e below (s₁.setTop (mkF m 9 #[.val (.int p0), .val (.int p1)] [])) _
          refine XS.iloadN X0.here hx rfl (hb hby d5_9) rfl ?_
          exact k)
      exact ⟨_, _, p1, X0, e0, N0, (by first | (rw [if_pos hc2]; done) | simp only [if_pos hc2] | simp [if_pos hc2]), pre3⟩
    · have pre4 : ∀ t, Steps p.tables e below (s₁.setTop (mkF m 10 #[.val (.int p0), .val (.int p1)] [(.int p0)])) t → P t := fun t k => pre1 t (by
          show Steps p.tables e below (s₁.setTop (mkF m 2 #[.val (.int p0), .val (.int p1)] [(.int p1), (.int p0)])) _
          refine XS.icmpNo X0.here hx rfl (hb hby d5_2) rfl (flt hc2).1 ?_
          show Steps p.tables e below (s₁.setTop (mkF m 5 #[.val (.int p0), .val (.int p1)] [])) _
          refine XS.iloadN X0.here hx rfl (hb hby d5_5) rfl ?_
          show Steps p.tables e below (s₁.setTop (mkF m 6 #[.val (.int p0), .val (.int p1)] [(.int p0)])) _
          refine XS.goto X0.here hx rfl (pc0 := 6) (pc' := 10) rfl (hb hby d5_6) (by decide) (by decide) ?_
          exact k)
      exact ⟨_, _, p0, X0, e0, N0, (by first | (rw [if_neg hc2]; done) | simp only [if_neg hc2] | simp [if_neg hc2]), pre4⟩
  obtain ⟨fs, hr, hrun, hended, hW, hsame⟩ := X6.leave (v := some (.int v5)) (fun h => by rw [Bd.returns] at h; cases h)
  refine ⟨_, _, fin _ (pre6 _ ?_), hrun, hended, _, _, rfl, ?_, ⟨_, rfl⟩, hW, hsame.mono (by decide) (by decide)⟩
  · show Steps p.tables e below (T6.setTop (mkF m 10 #[.val (.int p0), .val (.int p1)] [(.int v5)])) _
    exact retI X6 hx Bd.returns (hb hby d5_10) hr
  · show Q5 Z p0 p1 h0 n0 _ T6.heap _
    rw [e6]
    exact ⟨(by subst hv5; first | rfl | simp only [own_f5]), N6, rfl⟩
theorem d2_0 : decode jdk_30_method_1_code 0 = .ok (.aload_n 0, 1) := by decide +kernel
theorem d2_1 : decode jdk_30_method_1_code 1 = .ok (.invokespecial 1, 3) := by decide +kernel
theorem d2_4 : decode jdk_30_method_1_code 4 = .ok (.return_, 1) := by decide +kernel
theorem pn_2 : plainName "java/lang/Record" = true := by first | (simp [plainName, overriddenIn]; done) | decide +kernel
theorem ef_2 (m : MethodId) (o0 : Addr) : entryFrame m #[(.ref o0)] 1 = mkF m 0 #[.val (.ref o0)] [] := by first | (simp [entryFrame, mkF, argsToLocals, Value.category]; done) | rfl
def Q2 (Z : State) (o0 : Addr) (h0 : Heap) (n0 : Nat) (v : Option Value) (h : Heap) (L : List Loc) : Prop := v = none ∧ Fr n0 L ∧ h = h0
set_option maxRecDepth 65536 in
set_option maxHeartbeats 40000000 in
theorem rm2 (l : Launch) (Z : State) (a0 : Array Value) (hw : ∀ d ∈ tables_1, d.before a0 Z = true) (ws : List Jvm.Cond) (o0 : Addr) (h0 : Heap) (n0 : Nat) (Z0 : n0 ≤ h0.size) :
    MetFree l (⟨"java/lang/Record", "<init>", "()V"⟩ : MethodName) (head1 (Jvm.Cond.code (⟨"java/lang/Record", "<init>", "()V"⟩ : MethodName) jdk_30_method_1_code 1 none :: ws) ({ frames := 1, cells := 0, slots := 0, locals := 12 } : Room)) (fun a U => a = #[(.ref o0)] ∧ Z.Warmed39 U.vm ∧ U.heap = h0) (fun _ _ _ _ _ => True) (fun _ U o U' => ∃ v L, o = .returned v ∧ Q2 Z o0 h0 n0 v U'.heap L ∧ FrameEnd U o U' L ({ frames := 1, cells := 0, slots := 0, locals := 12 } : Room).cells ({ frames := 1, cells := 0, slots := 0, locals := 12 } : Room).slots) := by
  refine MetFree.of_bodySF (plainFor_of_name pn_2) hisR ?_
  intro p e s m args below meth c s₁ Bd hml0 hP hK
  obtain ⟨rfl, hZ, hh⟩ := hP
  have hx := Bd.exec
  have hby := Bd.bytes
  have hml : c.maxLocals = 1 := hml0
  have hown : s.vm.findClass "java/lang/Record" = some m.cls := findClass_of_methodNamed Bd.named
  have hnm := (name_of_methodNamed Bd.named Bd.method).1
  have X0 : Stand p l e ({ frames := 1, cells := 0, slots := 0, locals := 12 } : Room) s m #[(.ref o0)] below meth c s₁ [] 0 0 := Stand.of_body Bd
  have e0 : s₁.heap = h0 := by rw [← hh, Bd.state]; rfl
  have N0 := Fr.nil n0
  obtain ⟨P, pre0, fin⟩ : ∃ P : State → Prop, (∀ t, Steps p.tables e below (s₁.setTop (mkF m 0 #[.val (.ref o0)] [])) t → P t) ∧ (∀ t, P t → Steps p.tables e below (s₁.setTop (entryFrame m #[(.ref o0)] 1)) t) := ⟨fun t => Steps p.tables e below (s₁.setTop (entryFrame m #[(.ref o0)] 1)) t, fun t k => castTop (ef_2 m o0) k, fun t k => k⟩
  have K0 : Keep h0 h0 [] := Keep.refl _ _
  have pre1 : ∀ t, Steps p.tables e below (s₁.setTop (mkF m 1 #[.val (.ref o0)] [(.ref o0)])) t → P t := fun t k => pre0 t (by
      show Steps p.tables e below (s₁.setTop (mkF m 0 #[.val (.ref o0)] [])) _
      refine XS.aloadN X0.here hx rfl (hb hby d2_0) rfl rfl ?_
      exact k)
  obtain ⟨T2, X2, e2, st2⟩ := initO X0 hx hZ hown (hw _ (List.mem_of_getElem? (i := 20) rfl)) (hw _ (List.mem_of_getElem? (i := 21) rfl)) (hw _ (List.mem_of_getElem? (i := 22) rfl)) e0 (g := (mkF m 1 #[.val (.ref o0)] [(.ref o0)])) rfl (by rw [hml]; rfl) rfl (hb hby d2_1) (by decide) (W := 0) (by show 2 * 0 + _ ≤ _; exact Nat.le_of_eq rfl) (by decide)
  have pre2 : ∀ t, Steps p.tables e below (T2.setTop (mkF m 4 #[.val (.ref o0)] [])) t → P t := fun t k => pre1 t (st2 _ k)
  obtain ⟨fs, hr, hrun, hended, hW, hsame⟩ := X2.leave (v := none) (fun _ => rfl)
  refine ⟨_, _, fin _ (pre2 _ ?_), hrun, hended, _, _, rfl, ?_, ⟨_, rfl⟩, hW, hsame.mono (by decide) (by decide)⟩
  · show Steps p.tables e below (T2.setTop (mkF m 4 #[.val (.ref o0)] [])) _
    exact X2.returnOut hx Bd.returns (hb hby d2_4) hr
  · show Q2 Z o0 h0 n0 _ T2.heap _
    rw [e2]
    exact ⟨rfl, N0, rfl⟩
theorem own_pd0 : parseMethodDescriptor "()V" = some ⟨[], none⟩ := by decide +kernel
theorem d1_0 : decode prog_96_method_1_code 0 = .ok (.aload_n 0, 1) := by decide +kernel
theorem d1_1 : decode prog_96_method_1_code 1 = .ok (.invokespecial 1, 3) := by decide +kernel
theorem d1_4 : decode prog_96_method_1_code 4 = .ok (.aload_n 0, 1) := by decide +kernel
theorem d1_5 : decode prog_96_method_1_code 5 = .ok (.aload_n 1, 1) := by decide +kernel
theorem d1_6 : decode prog_96_method_1_code 6 = .ok (.putfield 7, 3) := by decide +kernel
theorem d1_9 : decode prog_96_method_1_code 9 = .ok (.aload_n 0, 1) := by decide +kernel
theorem d1_10 : decode prog_96_method_1_code 10 = .ok (.iload_n 2, 1) := by decide +kernel
theorem d1_11 : decode prog_96_method_1_code 11 = .ok (.putfield 13, 3) := by decide +kernel
theorem d1_14 : decode prog_96_method_1_code 14 = .ok (.aload_n 0, 1) := by decide +kernel
theorem d1_15 : decode prog_96_method_1_code 15 = .ok (.iload_n 3, 1) := by decide +kernel
theorem d1_16 : decode prog_96_method_1_code 16 = .ok (.putfield 17, 3) := by decide +kernel
theorem d1_19 : decode prog_96_method_1_code 19 = .ok (.aload_n 0, 1) := by decide +kernel
theorem d1_20 : decode prog_96_method_1_code 20 = .ok (.iload 4, 2) := by decide +kernel
theorem d1_22 : decode prog_96_method_1_code 22 = .ok (.putfield 21, 3) := by decide +kernel
theorem d1_25 : decode prog_96_method_1_code 25 = .ok (.aload_n 0, 1) := by decide +kernel
theorem d1_26 : decode prog_96_method_1_code 26 = .ok (.iload 5, 2) := by decide +kernel
theorem d1_28 : decode prog_96_method_1_code 28 = .ok (.putfield 24, 3) := by decide +kernel
theorem d1_31 : decode prog_96_method_1_code 31 = .ok (.aload_n 0, 1) := by decide +kernel
theorem d1_32 : decode prog_96_method_1_code 32 = .ok (.iload 6, 2) := by decide +kernel
theorem d1_34 : decode prog_96_method_1_code 34 = .ok (.putfield 27, 3) := by decide +kernel
theorem d1_37 : decode prog_96_method_1_code 37 = .ok (.aload_n 0, 1) := by decide +kernel
theorem d1_38 : decode prog_96_method_1_code 38 = .ok (.iload 7, 2) := by decide +kernel
theorem d1_40 : decode prog_96_method_1_code 40 = .ok (.putfield 30, 3) := by decide +kernel
theorem d1_43 : decode prog_96_method_1_code 43 = .ok (.aload_n 0, 1) := by decide +kernel
theorem d1_44 : decode prog_96_method_1_code 44 = .ok (.iload 8, 2) := by decide +kernel
theorem d1_46 : decode prog_96_method_1_code 46 = .ok (.putfield 33, 3) := by decide +kernel
theorem d1_49 : decode prog_96_method_1_code 49 = .ok (.aload_n 0, 1) := by decide +kernel
theorem d1_50 : decode prog_96_method_1_code 50 = .ok (.iload 9, 2) := by decide +kernel
theorem d1_52 : decode prog_96_method_1_code 52 = .ok (.putfield 36, 3) := by decide +kernel
theorem d1_55 : decode prog_96_method_1_code 55 = .ok (.aload_n 0, 1) := by decide +kernel
theorem d1_56 : decode prog_96_method_1_code 56 = .ok (.iload 10, 2) := by decide +kernel
theorem d1_58 : decode prog_96_method_1_code 58 = .ok (.putfield 39, 3) := by decide +kernel
theorem d1_61 : decode prog_96_method_1_code 61 = .ok (.aload_n 0, 1) := by decide +kernel
theorem d1_62 : decode prog_96_method_1_code 62 = .ok (.iload 11, 2) := by decide +kernel
theorem d1_64 : decode prog_96_method_1_code 64 = .ok (.putfield 42, 3) := by decide +kernel
theorem d1_67 : decode prog_96_method_1_code 67 = .ok (.aload_n 0, 1) := by decide +kernel
theorem d1_68 : decode prog_96_method_1_code 68 = .ok (.dload 12, 2) := by decide +kernel
theorem d1_70 : decode prog_96_method_1_code 70 = .ok (.putfield 45, 3) := by decide +kernel
theorem d1_73 : decode prog_96_method_1_code 73 = .ok (.aload_n 0, 1) := by decide +kernel
theorem d1_74 : decode prog_96_method_1_code 74 = .ok (.dload 14, 2) := by decide +kernel
theorem d1_76 : decode prog_96_method_1_code 76 = .ok (.putfield 49, 3) := by decide +kernel
theorem d1_79 : decode prog_96_method_1_code 79 = .ok (.aload_n 0, 1) := by decide +kernel
theorem d1_80 : decode prog_96_method_1_code 80 = .ok (.dload 16, 2) := by decide +kernel
theorem d1_82 : decode prog_96_method_1_code 82 = .ok (.putfield 52, 3) := by decide +kernel
theorem d1_85 : decode prog_96_method_1_code 85 = .ok (.aload_n 0, 1) := by decide +kernel
theorem d1_86 : decode prog_96_method_1_code 86 = .ok (.iload 18, 2) := by decide +kernel
theorem d1_88 : decode prog_96_method_1_code 88 = .ok (.putfield 55, 3) := by decide +kernel
theorem d1_91 : decode prog_96_method_1_code 91 = .ok (.aload_n 0, 1) := by decide +kernel
theorem d1_92 : decode prog_96_method_1_code 92 = .ok (.iload 19, 2) := by decide +kernel
theorem d1_94 : decode prog_96_method_1_code 94 = .ok (.putfield 58, 3) := by decide +kernel
theorem d1_97 : decode prog_96_method_1_code 97 = .ok (.return_, 1) := by decide +kernel
theorem pn_1 : plainName "com/example/incarico/incarico/load/LoadConfig" = true := by first | (simp [plainName, overriddenIn]; done) | decide +kernel
theorem ef_1 (m : MethodId) (o0 : Addr) (o1 : Addr) (p2 : Int32) (p3 : Int32) (p4 : Int32) (p5 : Int32) (p6 : Int32) (p7 : Int32) (p8 : Int32) (p9 : Int32) (p10 : Int32) (p11 : Int32) (u12 : UInt64) (u13 : UInt64) (u14 : UInt64) (p15 : Int32) (p16 : Int32) : entryFrame m #[(.ref o0), (.ref o1), (.int p2), (.int p3), (.int p4), (.int p5), (.int p6), (.int p7), (.int p8), (.int p9), (.int p10), (.int p11), (.double u12), (.double u13), (.double u14), (.int p15), (.int p16)] 20 = mkF m 0 #[.val (.ref o0), .val (.ref o1), .val (.int p2), .val (.int p3), .val (.int p4), .val (.int p5), .val (.int p6), .val (.int p7), .val (.int p8), .val (.int p9), .val (.int p10), .val (.int p11), .val (.double u12), .second, .val (.double u13), .second, .val (.double u14), .second, .val (.int p15), .val (.int p16)] [] := by first | (simp [entryFrame, mkF, argsToLocals, Value.category]; done) | rfl
def Q1 (Z : State) (o0 : Addr) (o1 : Addr) (p2 : Int32) (p3 : Int32) (p4 : Int32) (p5 : Int32) (p6 : Int32) (p7 : Int32) (p8 : Int32) (p9 : Int32) (p10 : Int32) (p11 : Int32) (u12 : UInt64) (u13 : UInt64) (u14 : UInt64) (p15 : Int32) (p16 : Int32) (h0 : Heap) (n0 : Nat) (v : Option Value) (h : Heap) (L : List Loc) : Prop := v = none ∧ Fr n0 L ∧ Keep h0 h [o0] ∧ Exa Z h o0 "com/example/incarico/incarico/load/LoadConfig" ∧ Fld Z h o0 "com/example/incarico/incarico/load/LoadConfig" "serverClassPath" "Ljava/lang/String;" (.ref o1) ∧ Fld Z h o0 "com/example/incarico/incarico/load/LoadConfig" "inMemory" "Z" (.int (nar .boolean p2)) ∧ Fld Z h o0 "com/example/incarico/incarico/load/LoadConfig" "members" "I" (.int p3) ∧ Fld Z h o0 "com/example/incarico/incarico/load/LoadConfig" "groups" "I" (.int p4) ∧ Fld Z h o0 "com/example/incarico/incarico/load/LoadConfig" "partitions" "I" (.int p5) ∧ Fld Z h o0 "com/example/incarico/incarico/load/LoadConfig" "growTo" "I" (.int p6) ∧ Fld Z h o0 "com/example/incarico/incarico/load/LoadConfig" "heartbeatIntervalMs" "I" (.int p7) ∧ Fld Z h o0 "com/example/incarico/incarico/load/LoadConfig" "sessionTimeoutMs" "I" (.int p8) ∧ Fld Z h o0 "com/example/incarico/incarico/load/LoadConfig" "joinS" "I" (.int p9) ∧ Fld Z h o0 "com/example/incarico/incarico/load/LoadConfig" "measureS" "I" (.int p10) ∧ Fld Z h o0 "com/example/incarico/incarico/load/LoadConfig" "growAtS" "I" (.int p11) ∧ Fld Z h o0 "com/example/incarico/incarico/load/LoadConfig" "metadataRate" "D" (.double u12) ∧ Fld Z h o0 "com/example/incarico/incarico/load/LoadConfig" "commitRate" "D" (.double u13) ∧ Fld Z h o0 "com/example/incarico/incarico/load/LoadConfig" "p99LimitMs" "D" (.double u14) ∧ Fld Z h o0 "com/example/incarico/incarico/load/LoadConfig" "pauseAtS" "I" (.int p15) ∧ Fld Z h o0 "com/example/incarico/incarico/load/LoadConfig" "pauseS" "I" (.int p16)
set_option maxRecDepth 65536 in
set_option maxHeartbeats 40000000 in
theorem rm1 (l : Launch) (Z : State) (a0 : Array Value) (hw : ∀ d ∈ tables_1, d.before a0 Z = true) (ws : List Jvm.Cond) (o0 : Addr) (o1 : Addr) (p2 : Int32) (p3 : Int32) (p4 : Int32) (p5 : Int32) (p6 : Int32) (p7 : Int32) (p8 : Int32) (p9 : Int32) (p10 : Int32) (p11 : Int32) (u12 : UInt64) (u13 : UInt64) (u14 : UInt64) (p15 : Int32) (p16 : Int32) (h0 : Heap) (n0 : Nat) (Z0 : n0 ≤ h0.size) (E_o0 : Exa Z h0 o0 "com/example/incarico/incarico/load/LoadConfig") (F_serverClassPath_o0 : Fld Z h0 o0 "com/example/incarico/incarico/load/LoadConfig" "serverClassPath" "Ljava/lang/String;" .null) (F_inMemory_o0 : Fld Z h0 o0 "com/example/incarico/incarico/load/LoadConfig" "inMemory" "Z" (.int (0 : Int32))) (F_members_o0 : Fld Z h0 o0 "com/example/incarico/incarico/load/LoadConfig" "members" "I" (.int (0 : Int32))) (F_groups_o0 : Fld Z h0 o0 "com/example/incarico/incarico/load/LoadConfig" "groups" "I" (.int (0 : Int32))) (F_partitions_o0 : Fld Z h0 o0 "com/example/incarico/incarico/load/LoadConfig" "partitions" "I" (.int (0 : Int32))) (F_growTo_o0 : Fld Z h0 o0 "com/example/incarico/incarico/load/LoadConfig" "growTo" "I" (.int (0 : Int32))) (F_heartbeatIntervalMs_o0 : Fld Z h0 o0 "com/example/incarico/incarico/load/LoadConfig" "heartbeatIntervalMs" "I" (.int (0 : Int32))) (F_sessionTimeoutMs_o0 : Fld Z h0 o0 "com/example/incarico/incarico/load/LoadConfig" "sessionTimeoutMs" "I" (.int (0 : Int32))) (F_joinS_o0 : Fld Z h0 o0 "com/example/incarico/incarico/load/LoadConfig" "joinS" "I" (.int (0 : Int32))) (F_measureS_o0 : Fld Z h0 o0 "com/example/incarico/incarico/load/LoadConfig" "measureS" "I" (.int (0 : Int32))) (F_growAtS_o0 : Fld Z h0 o0 "com/example/incarico/incarico/load/LoadConfig" "growAtS" "I" (.int (0 : Int32))) (F_metadataRate_o0 : Fld Z h0 o0 "com/example/incarico/incarico/load/LoadConfig" "metadataRate" "D" (.double 0)) (F_commitRate_o0 : Fld Z h0 o0 "com/example/incarico/incarico/load/LoadConfig" "commitRate" "D" (.double 0)) (F_p99LimitMs_o0 : Fld Z h0 o0 "com/example/incarico/incarico/load/LoadConfig" "p99LimitMs" "D" (.double 0)) (F_pauseAtS_o0 : Fld Z h0 o0 "com/example/incarico/incarico/load/LoadConfig" "pauseAtS" "I" (.int (0 : Int32))) (F_pauseS_o0 : Fld Z h0 o0 "com/example/incarico/incarico/load/LoadConfig" "pauseS" "I" (.int (0 : Int32))) (g_o0 : n0 ≤ o0) :
    MetFree l (⟨"com/example/incarico/incarico/load/LoadConfig", "<init>", "(Ljava/lang/String;ZIIIIIIIIIDDDII)V"⟩ : MethodName) (head1 (Jvm.Cond.code (⟨"com/example/incarico/incarico/load/LoadConfig", "<init>", "(Ljava/lang/String;ZIIIIIIIIIDDDII)V"⟩ : MethodName) prog_96_method_1_code 20 none :: ws) ({ frames := 2, cells := 0, slots := 0, locals := 24 } : Room)) (fun a U => a = #[(.ref o0), (.ref o1), (.int p2), (.int p3), (.int p4), (.int p5), (.int p6), (.int p7), (.int p8), (.int p9), (.int p10), (.int p11), (.double u12), (.double u13), (.double u14), (.int p15), (.int p16)] ∧ Z.Warmed39 U.vm ∧ U.heap = h0) (fun _ _ _ _ _ => True) (fun _ U o U' => ∃ v L, o = .returned v ∧ Q1 Z o0 o1 p2 p3 p4 p5 p6 p7 p8 p9 p10 p11 u12 u13 u14 p15 p16 h0 n0 v U'.heap L ∧ FrameEnd U o U' L ({ frames := 2, cells := 0, slots := 0, locals := 24 } : Room).cells ({ frames := 2, cells := 0, slots := 0, locals := 24 } : Room).slots) := by
  refine MetFree.of_bodySF (plainFor_of_name pn_1) hisR ?_
  intro p e s m args below meth c s₁ Bd hml0 hP hK
  obtain ⟨rfl, hZ, hh⟩ := hP
  have hx := Bd.exec
  have hby := Bd.bytes
  have hml : c.maxLocals = 20 := hml0
  have hown : s.vm.findClass "com/example/incarico/incarico/load/LoadConfig" = some m.cls := findClass_of_methodNamed Bd.named
  have hnm := (name_of_methodNamed Bd.named Bd.method).1
  have X0 : Stand p l e ({ frames := 2, cells := 0, slots := 0, locals := 24 } : Room) s m #[(.ref o0), (.ref o1), (.int p2), (.int p3), (.int p4), (.int p5), (.int p6), (.int p7), (.int p8), (.int p9), (.int p10), (.int p11), (.double u12), (.double u13), (.double u14), (.int p15), (.int p16)] below meth c s₁ [] 0 0 := Stand.of_body Bd
  have e0 : s₁.heap = h0 := by rw [← hh, Bd.state]; rfl
  have N0 := Fr.nil n0
  obtain ⟨P, pre0, fin⟩ : ∃ P : State → Prop, (∀ t, Steps p.tables e below (s₁.setTop (mkF m 0 #[.val (.ref o0), .val (.ref o1), .val (.int p2), .val (.int p3), .val (.int p4), .val (.int p5), .val (.int p6), .val (.int p7), .val (.int p8), .val (.int p9), .val (.int p10), .val (.int p11), .val (.double u12), .second, .val (.double u13), .second, .val (.double u14), .second, .val (.int p15), .val (.int p16)] [])) t → P t) ∧ (∀ t, P t → Steps p.tables e below (s₁.setTop (entryFrame m #[(.ref o0), (.ref o1), (.int p2), (.int p3), (.int p4), (.int p5), (.int p6), (.int p7), (.int p8), (.int p9), (.int p10), (.int p11), (.double u12), (.double u13), (.double u14), (.int p15), (.int p16)] 20)) t) := ⟨fun t => Steps p.tables e below (s₁.setTop (entryFrame m #[(.ref o0), (.ref o1), (.int p2), (.int p3), (.int p4), (.int p5), (.int p6), (.int p7), (.int p8), (.int p9), (.int p10), (.int p11), (.double u12), (.double u13), (.double u14), (.int p15), (.int p16)] 20)) t, fun t k => castTop (ef_1 m o0 o1 p2 p3 p4 p5 p6 p7 p8 p9 p10 p11 u12 u13 u14 p15 p16) k, fun t k => k⟩
  have K0 : Keep h0 h0 [o0] := Keep.refl _ _
  have pre1 : ∀ t, Steps p.tables e below (s₁.setTop (mkF m 1 #[.val (.ref o0), .val (.ref o1), .val (.int p2), .val (.int p3), .val (.int p4), .val (.int p5), .val (.int p6), .val (.int p7), .val (.int p8), .val (.int p9), .val (.int p10), .val (.int p11), .val (.double u12), .second, .val (.double u13), .second, .val (.double u14), .second, .val (.int p15), .val (.int p16)] [(.ref o0)])) t → P t := fun t k => pre0 t (by
      show Steps p.tables e below (s₁.setTop (mkF m 0 #[.val (.ref o0), .val (.ref o1), .val (.int p2), .val (.int p3), .val (.int p4), .val (.int p5), .val (.int p6), .val (.int p7), .val (.int p8), .val (.int p9), .val (.int p10), .val (.int p11), .val (.double u12), .second, .val (.double u13), .second, .val (.double u14), .second, .val (.int p15), .val (.int p16)] [])) _
      refine XS.aloadN X0.here hx rfl (hb hby d1_0) rfl rfl ?_
      exact k)
  obtain ⟨_, _, ⟨T2, L2, k2, n2⟩, -, X2, ⟨Lc2, hQ2, l2, y2, z2⟩, st2⟩ := X0.specialBack hx (y := (⟨"java/lang/Record", "<init>", "()V"⟩ : MethodName)) rfl hown (mvT hZ (hw _ (List.mem_of_getElem? (i := 15) rfl))) (mvT hZ (hw _ (List.mem_of_getElem? (i := 16) rfl))) (mvT hZ (hw _ (List.mem_of_getElem? (i := 19) rfl))) (by decide) (backOf (W := 0) (rm2 l Z a0 hw [] o0 h0 n0 Z0 ) hZ (hw _ (List.mem_of_getElem? (i := 19) rfl)) (hw _ (List.mem_of_getElem? (i := 18) rfl)) (by decide) (by decide)) (g := (mkF m 1 #[.val (.ref o0), .val (.ref o1), .val (.int p2), .val (.int p3), .val (.int p4), .val (.int p5), .val (.int p6), .val (.int p7), .val (.int p8), .val (.int p9), .val (.int p10), .val (.int p11), .val (.double u12), .second, .val (.double u13), .second, .val (.double u14), .second, .val (.int p15), .val (.int p16)] [(.ref o0)])) rfl (by rw [hml]; rfl) (Steps.refl _) (a := o0) (argsL := []) (rest := []) (lenOf own_pd0 rfl) rfl (by show 2 * 0 + _ ≤ _; exact Nat.le_of_eq rfl) (hb hby d1_1) (fun _ _ => ⟨rfl, e0, (by decide : 0 + 0 ≤ _), (by decide : 0 + 0 ≤ _)⟩)
  dsimp only [Pt.U, Pt.locs, Pt.cells, Pt.slots] at X2 l2 y2 z2 st2 hQ2
  subst l2 y2 z2
  obtain ⟨rfl, N2q, e2⟩ := hQ2
  have N2 := Fr.app N0 N2q
  have pre2 : ∀ t, Steps p.tables e below (T2.setTop (mkF m 4 #[.val (.ref o0), .val (.ref o1), .val (.int p2), .val (.int p3), .val (.int p4), .val (.int p5), .val (.int p6), .val (.int p7), .val (.int p8), .val (.int p9), .val (.int p10), .val (.int p11), .val (.double u12), .second, .val (.double u13), .second, .val (.double u14), .second, .val (.int p15), .val (.int p16)] [])) t → P t := fun t k => pre1 t (st2.trans k)
  have pre3 : ∀ t, Steps p.tables e below (T2.setTop (mkF m 6 #[.val (.ref o0), .val (.ref o1), .val (.int p2), .val (.int p3), .val (.int p4), .val (.int p5), .val (.int p6), .val (.int p7), .val (.int p8), .val (.int p9), .val (.int p10), .val (.int p11), .val (.double u12), .second, .val (.double u13), .second, .val (.double u14), .second, .val (.int p15), .val (.int p16)] [(.ref o1), (.ref o0)])) t → P t := fun t k => pre2 t (by
      show Steps p.tables e below (T2.setTop (mkF m 4 #[.val (.ref o0), .val (.ref o1), .val (.int p2), .val (.int p3), .val (.int p4), .val (.int p5), .val (.int p6), .val (.int p7), .val (.int p8), .val (.int p9), .val (.int p10), .val (.int p11), .val (.double u12), .second, .val (.double u13), .second, .val (.double u14), .second, .val (.int p15), .val (.int p16)] [])) _
      refine XS.aloadN X2.here hx rfl (hb hby d1_4) rfl rfl ?_
      show Steps p.tables e below (T2.setTop (mkF m 5 #[.val (.ref o0), .val (.ref o1), .val (.int p2), .val (.int p3), .val (.int p4), .val (.int p5), .val (.int p6), .val (.int p7), .val (.int p8), .val (.int p9), .val (.int p10), .val (.int p11), .val (.double u12), .second, .val (.double u13), .second, .val (.double u14), .second, .val (.int p15), .val (.int p16)] [(.ref o0)])) _
      refine XS.aloadN X2.here hx rfl (hb hby d1_5) rfl rfl ?_
      exact k)
  obtain ⟨T4, h4, X4, e4, W4, st4⟩ := putF X2 hx hZ hown (host := "") (Or.inl (hw _ (List.mem_of_getElem? (i := 23) rfl))) Via.refl e2 F_serverClassPath_o0 E_o0 (Or.inr ⟨(hw _ (List.mem_of_getElem? (i := 24) rfl)), rfl, hnm⟩) (hw _ (List.mem_of_getElem? (i := 2) rfl)) (ty := (.object "java/lang/String")) (by decide) rfl rfl (g := (mkF m 6 #[.val (.ref o0), .val (.ref o1), .val (.int p2), .val (.int p3), .val (.int p4), .val (.int p5), .val (.int p6), .val (.int p7), .val (.int p8), .val (.int p9), .val (.int p10), .val (.int p11), .val (.double u12), .second, .val (.double u13), .second, .val (.double u14), .second, .val (.int p15), .val (.int p16)] [(.ref o1), (.ref o0)])) rfl rfl (hb hby d1_6)
  have pre4 : ∀ t, Steps p.tables e below (T4.setTop (mkF m 9 #[.val (.ref o0), .val (.ref o1), .val (.int p2), .val (.int p3), .val (.int p4), .val (.int p5), .val (.int p6), .val (.int p7), .val (.int p8), .val (.int p9), .val (.int p10), .val (.int p11), .val (.double u12), .second, .val (.double u13), .second, .val (.double u14), .second, .val (.int p15), .val (.int p16)] [])) t → P t := fun t k => pre3 t (st4 _ k)
  have Fw4 := F_serverClassPath_o0.same W4
  have c5 : n0 ≤ h4.size := Nat.le_trans Z0 (Keep.of_wr W4).1
  have c6 : Exa Z h4 o0 "com/example/incarico/incarico/load/LoadConfig" := E_o0.wr W4
  have c7 : Fld Z h4 o0 "com/example/incarico/incarico/load/LoadConfig" "inMemory" "Z" (.int (0 : Int32)) := F_inMemory_o0.other W4 (Or.inr (slot_ne (Or.inr (hw _ (List.mem_of_getElem? (i := 26) rfl))) (Or.inr (hw _ (List.mem_of_getElem? (i := 24) rfl))) (by decide) (t := .boolean) (t' := (.object "java/lang/String")) (by decide) (by decide)))
  have c8 : Fld Z h4 o0 "com/example/incarico/incarico/load/LoadConfig" "members" "I" (.int (0 : Int32)) := F_members_o0.other W4 (Or.inr (slot_ne (Or.inr (hw _ (List.mem_of_getElem? (i := 28) rfl))) (Or.inr (hw _ (List.mem_of_getElem? (i := 24) rfl))) (by decide) (t := .int) (t' := (.object "java/lang/String")) (by decide) (by decide)))
  have c9 : Fld Z h4 o0 "com/example/incarico/incarico/load/LoadConfig" "groups" "I" (.int (0 : Int32)) := F_groups_o0.other W4 (Or.inr (slot_ne (Or.inr (hw _ (List.mem_of_getElem? (i := 30) rfl))) (Or.inr (hw _ (List.mem_of_getElem? (i := 24) rfl))) (by decide) (t := .int) (t' := (.object "java/lang/String")) (by decide) (by decide)))
  have c10 : Fld Z h4 o0 "com/example/incarico/incarico/load/LoadConfig" "partitions" "I" (.int (0 : Int32)) := F_partitions_o0.other W4 (Or.inr (slot_ne (Or.inr (hw _ (List.mem_of_getElem? (i := 32) rfl))) (Or.inr (hw _ (List.mem_of_getElem? (i := 24) rfl))) (by decide) (t := .int) (t' := (.object "java/lang/String")) (by decide) (by decide)))
  have c11 : Fld Z h4 o0 "com/example/incarico/incarico/load/LoadConfig" "growTo" "I" (.int (0 : Int32)) := F_growTo_o0.other W4 (Or.inr (slot_ne (Or.inr (hw _ (List.mem_of_getElem? (i := 34) rfl))) (Or.inr (hw _ (List.mem_of_getElem? (i := 24) rfl))) (by decide) (t := .int) (t' := (.object "java/lang/String")) (by decide) (by decide)))
  have c12 : Fld Z h4 o0 "com/example/incarico/incarico/load/LoadConfig" "heartbeatIntervalMs" "I" (.int (0 : Int32)) := F_heartbeatIntervalMs_o0.other W4 (Or.inr (slot_ne (Or.inr (hw _ (List.mem_of_getElem? (i := 36) rfl))) (Or.inr (hw _ (List.mem_of_getElem? (i := 24) rfl))) (by decide) (t := .int) (t' := (.object "java/lang/String")) (by decide) (by decide)))
  have c13 : Fld Z h4 o0 "com/example/incarico/incarico/load/LoadConfig" "sessionTimeoutMs" "I" (.int (0 : Int32)) := F_sessionTimeoutMs_o0.other W4 (Or.inr (slot_ne (Or.inr (hw _ (List.mem_of_getElem? (i := 38) rfl))) (Or.inr (hw _ (List.mem_of_getElem? (i := 24) rfl))) (by decide) (t := .int) (t' := (.object "java/lang/String")) (by decide) (by decide)))
  have c14 : Fld Z h4 o0 "com/example/incarico/incarico/load/LoadConfig" "joinS" "I" (.int (0 : Int32)) := F_joinS_o0.other W4 (Or.inr (slot_ne (Or.inr (hw _ (List.mem_of_getElem? (i := 40) rfl))) (Or.inr (hw _ (List.mem_of_getElem? (i := 24) rfl))) (by decide) (t := .int) (t' := (.object "java/lang/String")) (by decide) (by decide)))
  have c15 : Fld Z h4 o0 "com/example/incarico/incarico/load/LoadConfig" "measureS" "I" (.int (0 : Int32)) := F_measureS_o0.other W4 (Or.inr (slot_ne (Or.inr (hw _ (List.mem_of_getElem? (i := 42) rfl))) (Or.inr (hw _ (List.mem_of_getElem? (i := 24) rfl))) (by decide) (t := .int) (t' := (.object "java/lang/String")) (by decide) (by decide)))
  have c16 : Fld Z h4 o0 "com/example/incarico/incarico/load/LoadConfig" "growAtS" "I" (.int (0 : Int32)) := F_growAtS_o0.other W4 (Or.inr (slot_ne (Or.inr (hw _ (List.mem_of_getElem? (i := 44) rfl))) (Or.inr (hw _ (List.mem_of_getElem? (i := 24) rfl))) (by decide) (t := .int) (t' := (.object "java/lang/String")) (by decide) (by decide)))
  have c17 : Fld Z h4 o0 "com/example/incarico/incarico/load/LoadConfig" "metadataRate" "D" (.double 0) := F_metadataRate_o0.other W4 (Or.inr (slot_ne (Or.inr (hw _ (List.mem_of_getElem? (i := 46) rfl))) (Or.inr (hw _ (List.mem_of_getElem? (i := 24) rfl))) (by decide) (t := .double) (t' := (.object "java/lang/String")) (by decide) (by decide)))
  have c18 : Fld Z h4 o0 "com/example/incarico/incarico/load/LoadConfig" "commitRate" "D" (.double 0) := F_commitRate_o0.other W4 (Or.inr (slot_ne (Or.inr (hw _ (List.mem_of_getElem? (i := 48) rfl))) (Or.inr (hw _ (List.mem_of_getElem? (i := 24) rfl))) (by decide) (t := .double) (t' := (.object "java/lang/String")) (by decide) (by decide)))
  have c19 : Fld Z h4 o0 "com/example/incarico/incarico/load/LoadConfig" "p99LimitMs" "D" (.double 0) := F_p99LimitMs_o0.other W4 (Or.inr (slot_ne (Or.inr (hw _ (List.mem_of_getElem? (i := 50) rfl))) (Or.inr (hw _ (List.mem_of_getElem? (i := 24) rfl))) (by decide) (t := .double) (t' := (.object "java/lang/String")) (by decide) (by decide)))
  have c20 : Fld Z h4 o0 "com/example/incarico/incarico/load/LoadConfig" "pauseAtS" "I" (.int (0 : Int32)) := F_pauseAtS_o0.other W4 (Or.inr (slot_ne (Or.inr (hw _ (List.mem_of_getElem? (i := 52) rfl))) (Or.inr (hw _ (List.mem_of_getElem? (i := 24) rfl))) (by decide) (t := .int) (t' := (.object "java/lang/String")) (by decide) (by decide)))
  have c21 : Fld Z h4 o0 "com/example/incarico/incarico/load/LoadConfig" "pauseS" "I" (.int (0 : Int32)) := F_pauseS_o0.other W4 (Or.inr (slot_ne (Or.inr (hw _ (List.mem_of_getElem? (i := 54) rfl))) (Or.inr (hw _ (List.mem_of_getElem? (i := 24) rfl))) (by decide) (t := .int) (t' := (.object "java/lang/String")) (by decide) (by decide)))
  have K22 : Keep h0 h4 [o0] := K0.wr W4 (Or.inl (List.mem_of_getElem? (i := 0) rfl))
  have N4 := Fr.snoc X4 N2 g_o0
  have pre23 : ∀ t, Steps p.tables e below (T4.setTop (mkF m 11 #[.val (.ref o0), .val (.ref o1), .val (.int p2), .val (.int p3), .val (.int p4), .val (.int p5), .val (.int p6), .val (.int p7), .val (.int p8), .val (.int p9), .val (.int p10), .val (.int p11), .val (.double u12), .second, .val (.double u13), .second, .val (.double u14), .second, .val (.int p15), .val (.int p16)] [(.int p2), (.ref o0)])) t → P t := fun t k => pre4 t (by
      show Steps p.tables e below (T4.setTop (mkF m 9 #[.val (.ref o0), .val (.ref o1), .val (.int p2), .val (.int p3), .val (.int p4), .val (.int p5), .val (.int p6), .val (.int p7), .val (.int p8), .val (.int p9), .val (.int p10), .val (.int p11), .val (.double u12), .second, .val (.double u13), .second, .val (.double u14), .second, .val (.int p15), .val (.int p16)] [])) _
      refine XS.aloadN X4.here hx rfl (hb hby d1_9) rfl rfl ?_
      show Steps p.tables e below (T4.setTop (mkF m 10 #[.val (.ref o0), .val (.ref o1), .val (.int p2), .val (.int p3), .val (.int p4), .val (.int p5), .val (.int p6), .val (.int p7), .val (.int p8), .val (.int p9), .val (.int p10), .val (.int p11), .val (.double u12), .second, .val (.double u13), .second, .val (.double u14), .second, .val (.int p15), .val (.int p16)] [(.ref o0)])) _
      refine XS.iloadN X4.here hx rfl (hb hby d1_10) rfl ?_
      exact k)
  obtain ⟨T24, h24, X24, e24, W24, st24⟩ := putFN X4 hx hZ hown (hw _ (List.mem_of_getElem? (i := 25) rfl)) Via.refl e4 c7 c6 (Or.inr ⟨(hw _ (List.mem_of_getElem? (i := 26) rfl)), rfl, hnm⟩) (hw _ (List.mem_of_getElem? (i := 2) rfl)) (ty := .boolean) (v' := (.int (nar .boolean p2))) (by decide) rfl (fits_nar_bool _) (g := (mkF m 11 #[.val (.ref o0), .val (.ref o1), .val (.int p2), .val (.int p3), .val (.int p4), .val (.int p5), .val (.int p6), .val (.int p7), .val (.int p8), .val (.int p9), .val (.int p10), .val (.int p11), .val (.double u12), .second, .val (.double u13), .second, .val (.double u14), .second, .val (.int p15), .val (.int p16)] [(.int p2), (.ref o0)])) rfl rfl (hb hby d1_11)
  have pre24 : ∀ t, Steps p.tables e below (T24.setTop (mkF m 14 #[.val (.ref o0), .val (.ref o1), .val (.int p2), .val (.int p3), .val (.int p4), .val (.int p5), .val (.int p6), .val (.int p7), .val (.int p8), .val (.int p9), .val (.int p10), .val (.int p11), .val (.double u12), .second, .val (.double u13), .second, .val (.double u14), .second, .val (.int p15), .val (.int p16)] [])) t → P t := fun t k => pre23 t (st24 _ k)
  have Fw24 := c7.same W24
  have c25 : n0 ≤ h24.size := Nat.le_trans c5 (Keep.of_wr W24).1
  have c26 : Exa Z h24 o0 "com/example/incarico/incarico/load/LoadConfig" := c6.wr W24
  have c27 : Fld Z h24 o0 "com/example/incarico/incarico/load/LoadConfig" "members" "I" (.int (0 : Int32)) := c8.other W24 (Or.inr (slot_ne (Or.inr (hw _ (List.mem_of_getElem? (i := 28) rfl))) (Or.inr (hw _ (List.mem_of_getElem? (i := 26) rfl))) (by decide) (t := .int) (t' := .boolean) (by decide) (by decide)))
  have c28 : Fld Z h24 o0 "com/example/incarico/incarico/load/LoadConfig" "groups" "I" (.int (0 : Int32)) := c9.other W24 (Or.inr (slot_ne (Or.inr (hw _ (List.mem_of_getElem? (i := 30) rfl))) (Or.inr (hw _ (List.mem_of_getElem? (i := 26) rfl))) (by decide) (t := .int) (t' := .boolean) (by decide) (by decide)))
  have c29 : Fld Z h24 o0 "com/example/incarico/incarico/load/LoadConfig" "partitions" "I" (.int (0 : Int32)) := c10.other W24 (Or.inr (slot_ne (Or.inr (hw _ (List.mem_of_getElem? (i := 32) rfl))) (Or.inr (hw _ (List.mem_of_getElem? (i := 26) rfl))) (by decide) (t := .int) (t' := .boolean) (by decide) (by decide)))
  have c30 : Fld Z h24 o0 "com/example/incarico/incarico/load/LoadConfig" "growTo" "I" (.int (0 : Int32)) := c11.other W24 (Or.inr (slot_ne (Or.inr (hw _ (List.mem_of_getElem? (i := 34) rfl))) (Or.inr (hw _ (List.mem_of_getElem? (i := 26) rfl))) (by decide) (t := .int) (t' := .boolean) (by decide) (by decide)))
  have c31 : Fld Z h24 o0 "com/example/incarico/incarico/load/LoadConfig" "heartbeatIntervalMs" "I" (.int (0 : Int32)) := c12.other W24 (Or.inr (slot_ne (Or.inr (hw _ (List.mem_of_getElem? (i := 36) rfl))) (Or.inr (hw _ (List.mem_of_getElem? (i := 26) rfl))) (by decide) (t := .int) (t' := .boolean) (by decide) (by decide)))
  have c32 : Fld Z h24 o0 "com/example/incarico/incarico/load/LoadConfig" "sessionTimeoutMs" "I" (.int (0 : Int32)) := c13.other W24 (Or.inr (slot_ne (Or.inr (hw _ (List.mem_of_getElem? (i := 38) rfl))) (Or.inr (hw _ (List.mem_of_getElem? (i := 26) rfl))) (by decide) (t := .int) (t' := .boolean) (by decide) (by decide)))
  have c33 : Fld Z h24 o0 "com/example/incarico/incarico/load/LoadConfig" "joinS" "I" (.int (0 : Int32)) := c14.other W24 (Or.inr (slot_ne (Or.inr (hw _ (List.mem_of_getElem? (i := 40) rfl))) (Or.inr (hw _ (List.mem_of_getElem? (i := 26) rfl))) (by decide) (t := .int) (t' := .boolean) (by decide) (by decide)))
  have c34 : Fld Z h24 o0 "com/example/incarico/incarico/load/LoadConfig" "measureS" "I" (.int (0 : Int32)) := c15.other W24 (Or.inr (slot_ne (Or.inr (hw _ (List.mem_of_getElem? (i := 42) rfl))) (Or.inr (hw _ (List.mem_of_getElem? (i := 26) rfl))) (by decide) (t := .int) (t' := .boolean) (by decide) (by decide)))
  have c35 : Fld Z h24 o0 "com/example/incarico/incarico/load/LoadConfig" "growAtS" "I" (.int (0 : Int32)) := c16.other W24 (Or.inr (slot_ne (Or.inr (hw _ (List.mem_of_getElem? (i := 44) rfl))) (Or.inr (hw _ (List.mem_of_getElem? (i := 26) rfl))) (by decide) (t := .int) (t' := .boolean) (by decide) (by decide)))
  have c36 : Fld Z h24 o0 "com/example/incarico/incarico/load/LoadConfig" "metadataRate" "D" (.double 0) := c17.other W24 (Or.inr (slot_ne (Or.inr (hw _ (List.mem_of_getElem? (i := 46) rfl))) (Or.inr (hw _ (List.mem_of_getElem? (i := 26) rfl))) (by decide) (t := .double) (t' := .boolean) (by decide) (by decide)))
  have c37 : Fld Z h24 o0 "com/example/incarico/incarico/load/LoadConfig" "commitRate" "D" (.double 0) := c18.other W24 (Or.inr (slot_ne (Or.inr (hw _ (List.mem_of_getElem? (i := 48) rfl))) (Or.inr (hw _ (List.mem_of_getElem? (i := 26) rfl))) (by decide) (t := .double) (t' := .boolean) (by decide) (by decide)))
  have c38 : Fld Z h24 o0 "com/example/incarico/incarico/load/LoadConfig" "p99LimitMs" "D" (.double 0) := c19.other W24 (Or.inr (slot_ne (Or.inr (hw _ (List.mem_of_getElem? (i := 50) rfl))) (Or.inr (hw _ (List.mem_of_getElem? (i := 26) rfl))) (by decide) (t := .double) (t' := .boolean) (by decide) (by decide)))
  have c39 : Fld Z h24 o0 "com/example/incarico/incarico/load/LoadConfig" "pauseAtS" "I" (.int (0 : Int32)) := c20.other W24 (Or.inr (slot_ne (Or.inr (hw _ (List.mem_of_getElem? (i := 52) rfl))) (Or.inr (hw _ (List.mem_of_getElem? (i := 26) rfl))) (by decide) (t := .int) (t' := .boolean) (by decide) (by decide)))
  have c40 : Fld Z h24 o0 "com/example/incarico/incarico/load/LoadConfig" "pauseS" "I" (.int (0 : Int32)) := c21.other W24 (Or.inr (slot_ne (Or.inr (hw _ (List.mem_of_getElem? (i := 54) rfl))) (Or.inr (hw _ (List.mem_of_getElem? (i := 26) rfl))) (by decide) (t := .int) (t' := .boolean) (by decide) (by decide)))
  have c41 : Fld Z h24 o0 "com/example/incarico/incarico/load/LoadConfig" "serverClassPath" "Ljava/lang/String;" (.ref o1) := Fw4.other W24 (Or.inr (slot_ne (Or.inr (hw _ (List.mem_of_getElem? (i := 24) rfl))) (Or.inr (hw _ (List.mem_of_getElem? (i := 26) rfl))) (by decide) (t := (.object "java/lang/String")) (t' := .boolean) (by decide) (by decide)))
  have K42 : Keep h0 h24 [o0] := K22.wr W24 (Or.inl (List.mem_of_getElem? (i := 0) rfl))
  have N24 := Fr.snoc X24 N4 g_o0
  have pre43 : ∀ t, Steps p.tables e below (T24.setTop (mkF m 16 #[.val (.ref o0), .val (.ref o1), .val (.int p2), .val (.int p3), .val (.int p4), .val (.int p5), .val (.int p6), .val (.int p7), .val (.int p8), .val (.int p9), .val (.int p10), .val (.int p11), .val (.double u12), .second, .val (.double u13), .second, .val (.double u14), .second, .val (.int p15), .val (.int p16)] [(.int p3), (.ref o0)])) t → P t := fun t k => pre24 t (by
      show Steps p.tables e below (T24.setTop (mkF m 14 #[.val (.ref o0), .val (.ref o1), .val (.int p2), .val (.int p3), .val (.int p4), .val (.int p5), .val (.int p6), .val (.int p7), .val (.int p8), .val (.int p9), .val (.int p10), .val (.int p11), .val (.double u12), .second, .val (.double u13), .second, .val (.double u14), .second, .val (.int p15), .val (.int p16)] [])) _
      refine XS.aloadN X24.here hx rfl (hb hby d1_14) rfl rfl ?_
      show Steps p.tables e below (T24.setTop (mkF m 15 #[.val (.ref o0), .val (.ref o1), .val (.int p2), .val (.int p3), .val (.int p4), .val (.int p5), .val (.int p6), .val (.int p7), .val (.int p8), .val (.int p9), .val (.int p10), .val (.int p11), .val (.double u12), .second, .val (.double u13), .second, .val (.double u14), .second, .val (.int p15), .val (.int p16)] [(.ref o0)])) _
      refine XS.iloadN X24.here hx rfl (hb hby d1_15) rfl ?_
      exact k)
  obtain ⟨T44, h44, X44, e44, W44, st44⟩ := putF X24 hx hZ hown (host := "") (Or.inl (hw _ (List.mem_of_getElem? (i := 27) rfl))) Via.refl e24 c27 c26 (Or.inr ⟨(hw _ (List.mem_of_getElem? (i := 28) rfl)), rfl, hnm⟩) (hw _ (List.mem_of_getElem? (i := 2) rfl)) (ty := .int) (by decide) rfl rfl (g := (mkF m 16 #[.val (.ref o0), .val (.ref o1), .val (.int p2), .val (.int p3), .val (.int p4), .val (.int p5), .val (.int p6), .val (.int p7), .val (.int p8), .val (.int p9), .val (.int p10), .val (.int p11), .val (.double u12), .second, .val (.double u13), .second, .val (.double u14), .second, .val (.int p15), .val (.int p16)] [(.int p3), (.ref o0)])) rfl rfl (hb hby d1_16)
  have pre44 : ∀ t, Steps p.tables e below (T44.setTop (mkF m 19 #[.val (.ref o0), .val (.ref o1), .val (.int p2), .val (.int p3), .val (.int p4), .val (.int p5), .val (.int p6), .val (.int p7), .val (.int p8), .val (.int p9), .val (.int p10), .val (.int p11), .val (.double u12), .second, .val (.double u13), .second, .val (.double u14), .second, .val (.int p15), .val (.int p16)] [])) t → P t := fun t k => pre43 t (st44 _ k)
  have Fw44 := c27.same W44
  have c45 : n0 ≤ h44.size := Nat.le_trans c25 (Keep.of_wr W44).1
  have c46 : Exa Z h44 o0 "com/example/incarico/incarico/load/LoadConfig" := c26.wr W44
  have c47 : Fld Z h44 o0 "com/example/incarico/incarico/load/LoadConfig" "groups" "I" (.int (0 : Int32)) := c28.other W44 (Or.inr (slot_ne (Or.inr (hw _ (List.mem_of_getElem? (i := 30) rfl))) (Or.inr (hw _ (List.mem_of_getElem? (i := 28) rfl))) (by decide) (t := .int) (t' := .int) (by decide) (by decide)))
  have c48 : Fld Z h44 o0 "com/example/incarico/incarico/load/LoadConfig" "partitions" "I" (.int (0 : Int32)) := c29.other W44 (Or.inr (slot_ne (Or.inr (hw _ (List.mem_of_getElem? (i := 32) rfl))) (Or.inr (hw _ (List.mem_of_getElem? (i := 28) rfl))) (by decide) (t := .int) (t' := .int) (by decide) (by decide)))
  have c49 : Fld Z h44 o0 "com/example/incarico/incarico/load/LoadConfig" "growTo" "I" (.int (0 : Int32)) := c30.other W44 (Or.inr (slot_ne (Or.inr (hw _ (List.mem_of_getElem? (i := 34) rfl))) (Or.inr (hw _ (List.mem_of_getElem? (i := 28) rfl))) (by decide) (t := .int) (t' := .int) (by decide) (by decide)))
  have c50 : Fld Z h44 o0 "com/example/incarico/incarico/load/LoadConfig" "heartbeatIntervalMs" "I" (.int (0 : Int32)) := c31.other W44 (Or.inr (slot_ne (Or.inr (hw _ (List.mem_of_getElem? (i := 36) rfl))) (Or.inr (hw _ (List.mem_of_getElem? (i := 28) rfl))) (by decide) (t := .int) (t' := .int) (by decide) (by decide)))
  have c51 : Fld Z h44 o0 "com/example/incarico/incarico/load/LoadConfig" "sessionTimeoutMs" "I" (.int (0 : Int32)) := c32.other W44 (Or.inr (slot_ne (Or.inr (hw _ (List.mem_of_getElem? (i := 38) rfl))) (Or.inr (hw _ (List.mem_of_getElem? (i := 28) rfl))) (by decide) (t := .int) (t' := .int) (by decide) (by decide)))
  have c52 : Fld Z h44 o0 "com/example/incarico/incarico/load/LoadConfig" "joinS" "I" (.int (0 : Int32)) := c33.other W44 (Or.inr (slot_ne (Or.inr (hw _ (List.mem_of_getElem? (i := 40) rfl))) (Or.inr (hw _ (List.mem_of_getElem? (i := 28) rfl))) (by decide) (t := .int) (t' := .int) (by decide) (by decide)))
  have c53 : Fld Z h44 o0 "com/example/incarico/incarico/load/LoadConfig" "measureS" "I" (.int (0 : Int32)) := c34.other W44 (Or.inr (slot_ne (Or.inr (hw _ (List.mem_of_getElem? (i := 42) rfl))) (Or.inr (hw _ (List.mem_of_getElem? (i := 28) rfl))) (by decide) (t := .int) (t' := .int) (by decide) (by decide)))
  have c54 : Fld Z h44 o0 "com/example/incarico/incarico/load/LoadConfig" "growAtS" "I" (.int (0 : Int32)) := c35.other W44 (Or.inr (slot_ne (Or.inr (hw _ (List.mem_of_getElem? (i := 44) rfl))) (Or.inr (hw _ (List.mem_of_getElem? (i := 28) rfl))) (by decide) (t := .int) (t' := .int) (by decide) (by decide)))
  have c55 : Fld Z h44 o0 "com/example/incarico/incarico/load/LoadConfig" "metadataRate" "D" (.double 0) := c36.other W44 (Or.inr (slot_ne (Or.inr (hw _ (List.mem_of_getElem? (i := 46) rfl))) (Or.inr (hw _ (List.mem_of_getElem? (i := 28) rfl))) (by decide) (t := .double) (t' := .int) (by decide) (by decide)))
  have c56 : Fld Z h44 o0 "com/example/incarico/incarico/load/LoadConfig" "commitRate" "D" (.double 0) := c37.other W44 (Or.inr (slot_ne (Or.inr (hw _ (List.mem_of_getElem? (i := 48) rfl))) (Or.inr (hw _ (List.mem_of_getElem? (i := 28) rfl))) (by decide) (t := .double) (t' := .int) (by decide) (by decide)))
  have c57 : Fld Z h44 o0 "com/example/incarico/incarico/load/LoadConfig" "p99LimitMs" "D" (.double 0) := c38.other W44 (Or.inr (slot_ne (Or.inr (hw _ (List.mem_of_getElem? (i := 50) rfl))) (Or.inr (hw _ (List.mem_of_getElem? (i := 28) rfl))) (by decide) (t := .double) (t' := .int) (by decide) (by decide)))
  have c58 : Fld Z h44 o0 "com/example/incarico/incarico/load/LoadConfig" "pauseAtS" "I" (.int (0 : Int32)) := c39.other W44 (Or.inr (slot_ne (Or.inr (hw _ (List.mem_of_getElem? (i := 52) rfl))) (Or.inr (hw _ (List.mem_of_getElem? (i := 28) rfl))) (by decide) (t := .int) (t' := .int) (by decide) (by decide)))
  have c59 : Fld Z h44 o0 "com/example/incarico/incarico/load/LoadConfig" "pauseS" "I" (.int (0 : Int32)) := c40.other W44 (Or.inr (slot_ne (Or.inr (hw _ (List.mem_of_getElem? (i := 54) rfl))) (Or.inr (hw _ (List.mem_of_getElem? (i := 28) rfl))) (by decide) (t := .int) (t' := .int) (by decide) (by decide)))
  have c60 : Fld Z h44 o0 "com/example/incarico/incarico/load/LoadConfig" "serverClassPath" "Ljava/lang/String;" (.ref o1) := c41.other W44 (Or.inr (slot_ne (Or.inr (hw _ (List.mem_of_getElem? (i := 24) rfl))) (Or.inr (hw _ (List.mem_of_getElem? (i := 28) rfl))) (by decide) (t := (.object "java/lang/String")) (t' := .int) (by decide) (by decide)))
  have c61 : Fld Z h44 o0 "com/example/incarico/incarico/load/LoadConfig" "inMemory" "Z" (.int (nar .boolean p2)) := Fw24.other W44 (Or.inr (slot_ne (Or.inr (hw _ (List.mem_of_getElem? (i := 26) rfl))) (Or.inr (hw _ (List.mem_of_getElem? (i := 28) rfl))) (by decide) (t := .boolean) (t' := .int) (by decide) (by decide)))
  have K62 : Keep h0 h44 [o0] := K42.wr W44 (Or.inl (List.mem_of_getElem? (i := 0) rfl))
  have N44 := Fr.snoc X44 N24 g_o0
  have pre63 : ∀ t, Steps p.tables e below (T44.setTop (mkF m 22 #[.val (.ref o0), .val (.ref o1), .val (.int p2), .val (.int p3), .val (.int p4), .val (.int p5), .val (.int p6), .val (.int p7), .val (.int p8), .val (.int p9), .val (.int p10), .val (.int p11), .val (.double u12), .second, .val (.double u13), .second, .val (.double u14), .second, .val (.int p15), .val (.int p16)] [(.int p4), (.ref o0)])) t → P t := fun t k => pre44 t (by
      show Steps p.tables e below (T44.setTop (mkF m 19 #[.val (.ref o0), .val (.ref o1), .val (.int p2), .val (.int p3), .val (.int p4), .val (.int p5), .val (.int p6), .val (.int p7), .val (.int p8), .val (.int p9), .val (.int p10), .val (.int p11), .val (.double u12), .second, .val (.double u13), .second, .val (.double u14), .second, .val (.int p15), .val (.int p16)] [])) _
      refine XS.aloadN X44.here hx rfl (hb hby d1_19) rfl rfl ?_
      show Steps p.tables e below (T44.setTop (mkF m 20 #[.val (.ref o0), .val (.ref o1), .val (.int p2), .val (.int p3), .val (.int p4), .val (.int p5), .val (.int p6), .val (.int p7), .val (.int p8), .val (.int p9), .val (.int p10), .val (.int p11), .val (.double u12), .second, .val (.double u13), .second, .val (.double u14), .second, .val (.int p15), .val (.int p16)] [(.ref o0)])) _
      refine XS.iload X44.here hx rfl (hb hby d1_20) rfl ?_
      exact k)
  obtain ⟨T64, h64, X64, e64, W64, st64⟩ := putF X44 hx hZ hown (host := "") (Or.inl (hw _ (List.mem_of_getElem? (i := 29) rfl))) Via.refl e44 c47 c46 (Or.inr ⟨(hw _ (List.mem_of_getElem? (i := 30) rfl)), rfl, hnm⟩) (hw _ (List.mem_of_getElem? (i := 2) rfl)) (ty := .int) (by decide) rfl rfl (g := (mkF m 22 #[.val (.ref o0), .val (.ref o1), .val (.int p2), .val (.int p3), .val (.int p4), .val (.int p5), .val (.int p6), .val (.int p7), .val (.int p8), .val (.int p9), .val (.int p10), .val (.int p11), .val (.double u12), .second, .val (.double u13), .second, .val (.double u14), .second, .val (.int p15), .val (.int p16)] [(.int p4), (.ref o0)])) rfl rfl (hb hby d1_22)
  have pre64 : ∀ t, Steps p.tables e below (T64.setTop (mkF m 25 #[.val (.ref o0), .val (.ref o1), .val (.int p2), .val (.int p3), .val (.int p4), .val (.int p5), .val (.int p6), .val (.int p7), .val (.int p8), .val (.int p9), .val (.int p10), .val (.int p11), .val (.double u12), .second, .val (.double u13), .second, .val (.double u14), .second, .val (.int p15), .val (.int p16)] [])) t → P t := fun t k => pre63 t (st64 _ k)
  have Fw64 := c47.same W64
  have c65 : n0 ≤ h64.size := Nat.le_trans c45 (Keep.of_wr W64).1
  have c66 : Exa Z h64 o0 "com/example/incarico/incarico/load/LoadConfig" := c46.wr W64
  have c67 : Fld Z h64 o0 "com/example/incarico/incarico/load/LoadConfig" "partitions" "I" (.int (0 : Int32)) := c48.other W64 (Or.inr (slot_ne (Or.inr (hw _ (List.mem_of_getElem? (i := 32) rfl))) (Or.inr (hw _ (List.mem_of_getElem? (i := 30) rfl))) (by decide) (t := .int) (t' := .int) (by decide) (by decide)))
  have c68 : Fld Z h64 o0 "com/example/incarico/incarico/load/LoadConfig" "growTo" "I" (.int (0 : Int32)) := c49.other W64 (Or.inr (slot_ne (Or.inr (hw _ (List.mem_of_getElem? (i := 34) rfl))) (Or.inr (hw _ (List.mem_of_getElem? (i := 30) rfl))) (by decide) (t := .int) (t' := .int) (by decide) (by decide)))
  have c69 : Fld Z h64 o0 "com/example/incarico/incarico/load/LoadConfig" "heartbeatIntervalMs" "I" (.int (0 : Int32)) := c50.other W64 (Or.inr (slot_ne (Or.inr (hw _ (List.mem_of_getElem? (i := 36) rfl))) (Or.inr (hw _ (List.mem_of_getElem? (i := 30) rfl))) (by decide) (t := .int) (t' := .int) (by decide) (by decide)))
  have c70 : Fld Z h64 o0 "com/example/incarico/incarico/load/LoadConfig" "sessionTimeoutMs" "I" (.int (0 : Int32)) := c51.other W64 (Or.inr (slot_ne (Or.inr (hw _ (List.mem_of_getElem? (i := 38) rfl))) (Or.inr (hw _ (List.mem_of_getElem? (i := 30) rfl))) (by decide) (t := .int) (t' := .int) (by decide) (by decide)))
  have c71 : Fld Z h64 o0 "com/example/incarico/incarico/load/LoadConfig" "joinS" "I" (.int (0 : Int32)) := c52.other W64 (Or.inr (slot_ne (Or.inr (hw _ (List.mem_of_getElem? (i := 40) rfl))) (Or.inr (hw _ (List.mem_of_getElem? (i := 30) rfl))) (by decide) (t := .int) (t' := .int) (by decide) (by decide)))
  have c72 : Fld Z h64 o0 "com/example/incarico/incarico/load/LoadConfig" "measureS" "I" (.int (0 : Int32)) := c53.other W64 (Or.inr (slot_ne (Or.inr (hw _ (List.mem_of_getElem? (i := 42) rfl))) (Or.inr (hw _ (List.mem_of_getElem? (i := 30) rfl))) (by decide) (t := .int) (t' := .int) (by decide) (by decide)))
  have c73 : Fld Z h64 o0 "com/example/incarico/incarico/load/LoadConfig" "growAtS" "I" (.int (0 : Int32)) := c54.other W64 (Or.inr (slot_ne (Or.inr (hw _ (List.mem_of_getElem? (i := 44) rfl))) (Or.inr (hw _ (List.mem_of_getElem? (i := 30) rfl))) (by decide) (t := .int) (t' := .int) (by decide) (by decide)))
  have c74 : Fld Z h64 o0 "com/example/incarico/incarico/load/LoadConfig" "metadataRate" "D" (.double 0) := c55.other W64 (Or.inr (slot_ne (Or.inr (hw _ (List.mem_of_getElem? (i := 46) rfl))) (Or.inr (hw _ (List.mem_of_getElem? (i := 30) rfl))) (by decide) (t := .double) (t' := .int) (by decide) (by decide)))
  have c75 : Fld Z h64 o0 "com/example/incarico/incarico/load/LoadConfig" "commitRate" "D" (.double 0) := c56.other W64 (Or.inr (slot_ne (Or.inr (hw _ (List.mem_of_getElem? (i := 48) rfl))) (Or.inr (hw _ (List.mem_of_getElem? (i := 30) rfl))) (by decide) (t := .double) (t' := .int) (by decide) (by decide)))
  have c76 : Fld Z h64 o0 "com/example/incarico/incarico/load/LoadConfig" "p99LimitMs" "D" (.double 0) := c57.other W64 (Or.inr (slot_ne (Or.inr (hw _ (List.mem_of_getElem? (i := 50) rfl))) (Or.inr (hw _ (List.mem_of_getElem? (i := 30) rfl))) (by decide) (t := .double) (t' := .int) (by decide) (by decide)))
  have c77 : Fld Z h64 o0 "com/example/incarico/incarico/load/LoadConfig" "pauseAtS" "I" (.int (0 : Int32)) := c58.other W64 (Or.inr (slot_ne (Or.inr (hw _ (List.mem_of_getElem? (i := 52) rfl))) (Or.inr (hw _ (List.mem_of_getElem? (i := 30) rfl))) (by decide) (t := .int) (t' := .int) (by decide) (by decide)))
  have c78 : Fld Z h64 o0 "com/example/incarico/incarico/load/LoadConfig" "pauseS" "I" (.int (0 : Int32)) := c59.other W64 (Or.inr (slot_ne (Or.inr (hw _ (List.mem_of_getElem? (i := 54) rfl))) (Or.inr (hw _ (List.mem_of_getElem? (i := 30) rfl))) (by decide) (t := .int) (t' := .int) (by decide) (by decide)))
  have c79 : Fld Z h64 o0 "com/example/incarico/incarico/load/LoadConfig" "serverClassPath" "Ljava/lang/String;" (.ref o1) := c60.other W64 (Or.inr (slot_ne (Or.inr (hw _ (List.mem_of_getElem? (i := 24) rfl))) (Or.inr (hw _ (List.mem_of_getElem? (i := 30) rfl))) (by decide) (t := (.object "java/lang/String")) (t' := .int) (by decide) (by decide)))
  have c80 : Fld Z h64 o0 "com/example/incarico/incarico/load/LoadConfig" "inMemory" "Z" (.int (nar .boolean p2)) := c61.other W64 (Or.inr (slot_ne (Or.inr (hw _ (List.mem_of_getElem? (i := 26) rfl))) (Or.inr (hw _ (List.mem_of_getElem? (i := 30) rfl))) (by decide) (t := .boolean) (t' := .int) (by decide) (by decide)))
  have c81 : Fld Z h64 o0 "com/example/incarico/incarico/load/LoadConfig" "members" "I" (.int p3) := Fw44.other W64 (Or.inr (slot_ne (Or.inr (hw _ (List.mem_of_getElem? (i := 28) rfl))) (Or.inr (hw _ (List.mem_of_getElem? (i := 30) rfl))) (by decide) (t := .int) (t' := .int) (by decide) (by decide)))
  have K82 : Keep h0 h64 [o0] := K62.wr W64 (Or.inl (List.mem_of_getElem? (i := 0) rfl))
  have N64 := Fr.snoc X64 N44 g_o0
  have pre83 : ∀ t, Steps p.tables e below (T64.setTop (mkF m 28 #[.val (.ref o0), .val (.ref o1), .val (.int p2), .val (.int p3), .val (.int p4), .val (.int p5), .val (.int p6), .val (.int p7), .val (.int p8), .val (.int p9), .val (.int p10), .val (.int p11), .val (.double u12), .second, .val (.double u13), .second, .val (.double u14), .second, .val (.int p15), .val (.int p16)] [(.int p5), (.ref o0)])) t → P t := fun t k => pre64 t (by
      show Steps p.tables e below (T64.setTop (mkF m 25 #[.val (.ref o0), .val (.ref o1), .val (.int p2), .val (.int p3), .val (.int p4), .val (.int p5), .val (.int p6), .val (.int p7), .val (.int p8), .val (.int p9), .val (.int p10), .val (.int p11), .val (.double u12), .second, .val (.double u13), .second, .val (.double u14), .second, .val (.int p15), .val (.int p16)] [])) _
      refine XS.aloadN X64.here hx rfl (hb hby d1_25) rfl rfl ?_
      show Steps p.tables e below (T64.setTop (mkF m 26 #[.val (.ref o0), .val (.ref o1), .val (.int p2), .val (.int p3), .val (.int p4), .val (.int p5), .val (.int p6), .val (.int p7), .val (.int p8), .val (.int p9), .val (.int p10), .val (.int p11), .val (.double u12), .second, .val (.double u13), .second, .val (.double u14), .second, .val (.int p15), .val (.int p16)] [(.ref o0)])) _
      refine XS.iload X64.here hx rfl (hb hby d1_26) rfl ?_
      exact k)
  obtain ⟨T84, h84, X84, e84, W84, st84⟩ := putF X64 hx hZ hown (host := "") (Or.inl (hw _ (List.mem_of_getElem? (i := 31) rfl))) Via.refl e64 c67 c66 (Or.inr ⟨(hw _ (List.mem_of_getElem? (i := 32) rfl)), rfl, hnm⟩) (hw _ (List.mem_of_getElem? (i := 2) rfl)) (ty := .int) (by decide) rfl rfl (g := (mkF m 28 #[.val (.ref o0), .val (.ref o1), .val (.int p2), .val (.int p3), .val (.int p4), .val (.int p5), .val (.int p6), .val (.int p7), .val (.int p8), .val (.int p9), .val (.int p10), .val (.int p11), .val (.double u12), .second, .val (.double u13), .second, .val (.double u14), .second, .val (.int p15), .val (.int p16)] [(.int p5), (.ref o0)])) rfl rfl (hb hby d1_28)
  have pre84 : ∀ t, Steps p.tables e below (T84.setTop (mkF m 31 #[.val (.ref o0), .val (.ref o1), .val (.int p2), .val (.int p3), .val (.int p4), .val (.int p5), .val (.int p6), .val (.int p7), .val (.int p8), .val (.int p9), .val (.int p10), .val (.int p11), .val (.double u12), .second, .val (.double u13), .second, .val (.double u14), .second, .val (.int p15), .val (.int p16)] [])) t → P t := fun t k => pre83 t (st84 _ k)
  have Fw84 := c67.same W84
  have c85 : n0 ≤ h84.size := Nat.le_trans c65 (Keep.of_wr W84).1
  have c86 : Exa Z h84 o0 "com/example/incarico/incarico/load/LoadConfig" := c66.wr W84
  have c87 : Fld Z h84 o0 "com/example/incarico/incarico/load/LoadConfig" "growTo" "I" (.int (0 : Int32)) := c68.other W84 (Or.inr (slot_ne (Or.inr (hw _ (List.mem_of_getElem? (i := 34) rfl))) (Or.inr (hw _ (List.mem_of_getElem? (i := 32) rfl))) (by decide) (t := .int) (t' := .int) (by decide) (by decide)))
  have c88 : Fld Z h84 o0 "com/example/incarico/incarico/load/LoadConfig" "heartbeatIntervalMs" "I" (.int (0 : Int32)) := c69.other W84 (Or.inr (slot_ne (Or.inr (hw _ (List.mem_of_getElem? (i := 36) rfl))) (Or.inr (hw _ (List.mem_of_getElem? (i := 32) rfl))) (by decide) (t := .int) (t' := .int) (by decide) (by decide)))
  have c89 : Fld Z h84 o0 "com/example/incarico/incarico/load/LoadConfig" "sessionTimeoutMs" "I" (.int (0 : Int32)) := c70.other W84 (Or.inr (slot_ne (Or.inr (hw _ (List.mem_of_getElem? (i := 38) rfl))) (Or.inr (hw _ (List.mem_of_getElem? (i := 32) rfl))) (by decide) (t := .int) (t' := .int) (by decide) (by decide)))
  have c90 : Fld Z h84 o0 "com/example/incarico/incarico/load/LoadConfig" "joinS" "I" (.int (0 : Int32)) := c71.other W84 (Or.inr (slot_ne (Or.inr (hw _ (List.mem_of_getElem? (i := 40) rfl))) (Or.inr (hw _ (List.mem_of_getElem? (i := 32) rfl))) (by decide) (t := .int) (t' := .int) (by decide) (by decide)))
  have c91 : Fld Z h84 o0 "com/example/incarico/incarico/load/LoadConfig" "measureS" "I" (.int (0 : Int32)) := c72.other W84 (Or.inr (slot_ne (Or.inr (hw _ (List.mem_of_getElem? (i := 42) rfl))) (Or.inr (hw _ (List.mem_of_getElem? (i := 32) rfl))) (by decide) (t := .int) (t' := .int) (by decide) (by decide)))
  have c92 : Fld Z h84 o0 "com/example/incarico/incarico/load/LoadConfig" "growAtS" "I" (.int (0 : Int32)) := c73.other W84 (Or.inr (slot_ne (Or.inr (hw _ (List.mem_of_getElem? (i := 44) rfl))) (Or.inr (hw _ (List.mem_of_getElem? (i := 32) rfl))) (by decide) (t := .int) (t' := .int) (by decide) (by decide)))
  have c93 : Fld Z h84 o0 "com/example/incarico/incarico/load/LoadConfig" "metadataRate" "D" (.double 0) := c74.other W84 (Or.inr (slot_ne (Or.inr (hw _ (List.mem_of_getElem? (i := 46) rfl))) (Or.inr (hw _ (List.mem_of_getElem? (i := 32) rfl))) (by decide) (t := .double) (t' := .int) (by decide) (by decide)))
  have c94 : Fld Z h84 o0 "com/example/incarico/incarico/load/LoadConfig" "commitRate" "D" (.double 0) := c75.other W84 (Or.inr (slot_ne (Or.inr (hw _ (List.mem_of_getElem? (i := 48) rfl))) (Or.inr (hw _ (List.mem_of_getElem? (i := 32) rfl))) (by decide) (t := .double) (t' := .int) (by decide) (by decide)))
  have c95 : Fld Z h84 o0 "com/example/incarico/incarico/load/LoadConfig" "p99LimitMs" "D" (.double 0) := c76.other W84 (Or.inr (slot_ne (Or.inr (hw _ (List.mem_of_getElem? (i := 50) rfl))) (Or.inr (hw _ (List.mem_of_getElem? (i := 32) rfl))) (by decide) (t := .double) (t' := .int) (by decide) (by decide)))
  have c96 : Fld Z h84 o0 "com/example/incarico/incarico/load/LoadConfig" "pauseAtS" "I" (.int (0 : Int32)) := c77.other W84 (Or.inr (slot_ne (Or.inr (hw _ (List.mem_of_getElem? (i := 52) rfl))) (Or.inr (hw _ (List.mem_of_getElem? (i := 32) rfl))) (by decide) (t := .int) (t' := .int) (by decide) (by decide)))
  have c97 : Fld Z h84 o0 "com/example/incarico/incarico/load/LoadConfig" "pauseS" "I" (.int (0 : Int32)) := c78.other W84 (Or.inr (slot_ne (Or.inr (hw _ (List.mem_of_getElem? (i := 54) rfl))) (Or.inr (hw _ (List.mem_of_getElem? (i := 32) rfl))) (by decide) (t := .int) (t' := .int) (by decide) (by decide)))
  have c98 : Fld Z h84 o0 "com/example/incarico/incarico/load/LoadConfig" "serverClassPath" "Ljava/lang/String;" (.ref o1) := c79.other W84 (Or.inr (slot_ne (Or.inr (hw _ (List.mem_of_getElem? (i := 24) rfl))) (Or.inr (hw _ (List.mem_of_getElem? (i := 32) rfl))) (by decide) (t := (.object "java/lang/String")) (t' := .int) (by decide) (by decide)))
  have c99 : Fld Z h84 o0 "com/example/incarico/incarico/load/LoadConfig" "inMemory" "Z" (.int (nar .boolean p2)) := c80.other W84 (Or.inr (slot_ne (Or.inr (hw _ (List.mem_of_getElem? (i := 26) rfl))) (Or.inr (hw _ (List.mem_of_getElem? (i := 32) rfl))) (by decide) (t := .boolean) (t' := .int) (by decide) (by decide)))
  have c100 : Fld Z h84 o0 "com/example/incarico/incarico/load/LoadConfig" "members" "I" (.int p3) := c81.other W84 (Or.inr (slot_ne (Or.inr (hw _ (List.mem_of_getElem? (i := 28) rfl))) (Or.inr (hw _ (List.mem_of_getElem? (i := 32) rfl))) (by decide) (t := .int) (t' := .int) (by decide) (by decide)))
  have c101 : Fld Z h84 o0 "com/example/incarico/incarico/load/LoadConfig" "groups" "I" (.int p4) := Fw64.other W84 (Or.inr (slot_ne (Or.inr (hw _ (List.mem_of_getElem? (i := 30) rfl))) (Or.inr (hw _ (List.mem_of_getElem? (i := 32) rfl))) (by decide) (t := .int) (t' := .int) (by decide) (by decide)))
  have K102 : Keep h0 h84 [o0] := K82.wr W84 (Or.inl (List.mem_of_getElem? (i := 0) rfl))
  have N84 := Fr.snoc X84 N64 g_o0
  have pre103 : ∀ t, Steps p.tables e below (T84.setTop (mkF m 34 #[.val (.ref o0), .val (.ref o1), .val (.int p2), .val (.int p3), .val (.int p4), .val (.int p5), .val (.int p6), .val (.int p7), .val (.int p8), .val (.int p9), .val (.int p10), .val (.int p11), .val (.double u12), .second, .val (.double u13), .second, .val (.double u14), .second, .val (.int p15), .val (.int p16)] [(.int p6), (.ref o0)])) t → P t := fun t k => pre84 t (by
      show Steps p.tables e below (T84.setTop (mkF m 31 #[.val (.ref o0), .val (.ref o1), .val (.int p2), .val (.int p3), .val (.int p4), .val (.int p5), .val (.int p6), .val (.int p7), .val (.int p8), .val (.int p9), .val (.int p10), .val (.int p11), .val (.double u12), .second, .val (.double u13), .second, .val (.double u14), .second, .val (.int p15), .val (.int p16)] [])) _
      refine XS.aloadN X84.here hx rfl (hb hby d1_31) rfl rfl ?_
      show Steps p.tables e below (T84.setTop (mkF m 32 #[.val (.ref o0), .val (.ref o1), .val (.int p2), .val (.int p3), .val (.int p4), .val (.int p5), .val (.int p6), .val (.int p7), .val (.int p8), .val (.int p9), .val (.int p10), .val (.int p11), .val (.double u12), .second, .val (.double u13), .second, .val (.double u14), .second, .val (.int p15), .val (.int p16)] [(.ref o0)])) _
      refine XS.iload X84.here hx rfl (hb hby d1_32) rfl ?_
      exact k)
  obtain ⟨T104, h104, X104, e104, W104, st104⟩ := putF X84 hx hZ hown (host := "") (Or.inl (hw _ (List.mem_of_getElem? (i := 33) rfl))) Via.refl e84 c87 c86 (Or.inr ⟨(hw _ (List.mem_of_getElem? (i := 34) rfl)), rfl, hnm⟩) (hw _ (List.mem_of_getElem? (i := 2) rfl)) (ty := .int) (by decide) rfl rfl (g := (mkF m 34 #[.val (.ref o0), .val (.ref o1), .val (.int p2), .val (.int p3), .val (.int p4), .val (.int p5), .val (.int p6), .val (.int p7), .val (.int p8), .val (.int p9), .val (.int p10), .val (.int p11), .val (.double u12), .second, .val (.double u13), .second, .val (.double u14), .second, .val (.int p15), .val (.int p16)] [(.int p6), (.ref o0)])) rfl rfl (hb hby d1_34)
  have pre104 : ∀ t, Steps p.tables e below (T104.setTop (mkF m 37 #[.val (.ref o0), .val (.ref o1), .val (.int p2), .val (.int p3), .val (.int p4), .val (.int p5), .val (.int p6), .val (.int p7), .val (.int p8), .val (.int p9), .val (.int p10), .val (.int p11), .val (.double u12), .second, .val (.double u13), .second, .val (.double u14), .second, .val (.int p15), .val (.int p16)] [])) t → P t := fun t k => pre103 t (st104 _ k)
  have Fw104 := c87.same W104
  have c105 : n0 ≤ h104.size := Nat.le_trans c85 (Keep.of_wr W104).1
  have c106 : Exa Z h104 o0 "com/example/incarico/incarico/load/LoadConfig" := c86.wr W104
  have c107 : Fld Z h104 o0 "com/example/incarico/incarico/load/LoadConfig" "heartbeatIntervalMs" "I" (.int (0 : Int32)) := c88.other W104 (Or.inr (slot_ne (Or.inr (hw _ (List.mem_of_getElem? (i := 36) rfl))) (Or.inr (hw _ (List.mem_of_getElem? (i := 34) rfl))) (by decide) (t := .int) (t' := .int) (by decide) (by decide)))
  have c108 : Fld Z h104 o0 "com/example/incarico/incarico/load/LoadConfig" "sessionTimeoutMs" "I" (.int (0 : Int32)) := c89.other W104 (Or.inr (slot_ne (Or.inr (hw _ (List.mem_of_getElem? (i := 38) rfl))) (Or.inr (hw _ (List.mem_of_getElem? (i := 34) rfl))) (by decide) (t := .int) (t' := .int) (by decide) (by decide)))
  have c109 : Fld Z h104 o0 "com/example/incarico/incarico/load/LoadConfig" "joinS" "I" (.int (0 : Int32)) := c90.other W104 (Or.inr (slot_ne (Or.inr (hw _ (List.mem_of_getElem? (i := 40) rfl))) (Or.inr (hw _ (List.mem_of_getElem? (i := 34) rfl))) (by decide) (t := .int) (t' := .int) (by decide) (by decide)))
  have c110 : Fld Z h104 o0 "com/example/incarico/incarico/load/LoadConfig" "measureS" "I" (.int (0 : Int32)) := c91.other W104 (Or.inr (slot_ne (Or.inr (hw _ (List.mem_of_getElem? (i := 42) rfl))) (Or.inr (hw _ (List.mem_of_getElem? (i := 34) rfl))) (by decide) (t := .int) (t' := .int) (by decide) (by decide)))
  have c111 : Fld Z h104 o0 "com/example/incarico/incarico/load/LoadConfig" "growAtS" "I" (.int (0 : Int32)) := c92.other W104 (Or.inr (slot_ne (Or.inr (hw _ (List.mem_of_getElem? (i := 44) rfl))) (Or.inr (hw _ (List.mem_of_getElem? (i := 34) rfl))) (by decide) (t := .int) (t' := .int) (by decide) (by decide)))
  have c112 : Fld Z h104 o0 "com/example/incarico/incarico/load/LoadConfig" "metadataRate" "D" (.double 0) := c93.other W104 (Or.inr (slot_ne (Or.inr (hw _ (List.mem_of_getElem? (i := 46) rfl))) (Or.inr (hw _ (List.mem_of_getElem? (i := 34) rfl))) (by decide) (t := .double) (t' := .int) (by decide) (by decide)))
  have c113 : Fld Z h104 o0 "com/example/incarico/incarico/load/LoadConfig" "commitRate" "D" (.double 0) := c94.other W104 (Or.inr (slot_ne (Or.inr (hw _ (List.mem_of_getElem? (i := 48) rfl))) (Or.inr (hw _ (List.mem_of_getElem? (i := 34) rfl))) (by decide) (t := .double) (t' := .int) (by decide) (by decide)))
  have c114 : Fld Z h104 o0 "com/example/incarico/incarico/load/LoadConfig" "p99LimitMs" "D" (.double 0) := c95.other W104 (Or.inr (slot_ne (Or.inr (hw _ (List.mem_of_getElem? (i := 50) rfl))) (Or.inr (hw _ (List.mem_of_getElem? (i := 34) rfl))) (by decide) (t := .double) (t' := .int) (by decide) (by decide)))
  have c115 : Fld Z h104 o0 "com/example/incarico/incarico/load/LoadConfig" "pauseAtS" "I" (.int (0 : Int32)) := c96.other W104 (Or.inr (slot_ne (Or.inr (hw _ (List.mem_of_getElem? (i := 52) rfl))) (Or.inr (hw _ (List.mem_of_getElem? (i := 34) rfl))) (by decide) (t := .int) (t' := .int) (by decide) (by decide)))
  have c116 : Fld Z h104 o0 "com/example/incarico/incarico/load/LoadConfig" "pauseS" "I" (.int (0 : Int32)) := c97.other W104 (Or.inr (slot_ne (Or.inr (hw _ (List.mem_of_getElem? (i := 54) rfl))) (Or.inr (hw _ (List.mem_of_getElem? (i := 34) rfl))) (by decide) (t := .int) (t' := .int) (by decide) (by decide)))
  have c117 : Fld Z h104 o0 "com/example/incarico/incarico/load/LoadConfig" "serverClassPath" "Ljava/lang/String;" (.ref o1) := c98.other W104 (Or.inr (slot_ne (Or.inr (hw _ (List.mem_of_getElem? (i := 24) rfl))) (Or.inr (hw _ (List.mem_of_getElem? (i := 34) rfl))) (by decide) (t := (.object "java/lang/String")) (t' := .int) (by decide) (by decide)))
  have c118 : Fld Z h104 o0 "com/example/incarico/incarico/load/LoadConfig" "inMemory" "Z" (.int (nar .boolean p2)) := c99.other W104 (Or.inr (slot_ne (Or.inr (hw _ (List.mem_of_getElem? (i := 26) rfl))) (Or.inr (hw _ (List.mem_of_getElem? (i := 34) rfl))) (by decide) (t := .boolean) (t' := .int) (by decide) (by decide)))
  have c119 : Fld Z h104 o0 "com/example/incarico/incarico/load/LoadConfig" "members" "I" (.int p3) := c100.other W104 (Or.inr (slot_ne (Or.inr (hw _ (List.mem_of_getElem? (i := 28) rfl))) (Or.inr (hw _ (List.mem_of_getElem? (i := 34) rfl))) (by decide) (t := .int) (t' := .int) (by decide) (by decide)))
  have c120 : Fld Z h104 o0 "com/example/incarico/incarico/load/LoadConfig" "groups" "I" (.int p4) := c101.other W104 (Or.inr (slot_ne (Or.inr (hw _ (List.mem_of_getElem? (i := 30) rfl))) (Or.inr (hw _ (List.mem_of_getElem? (i := 34) rfl))) (by decide) (t := .int) (t' := .int) (by decide) (by decide)))
  have c121 : Fld Z h104 o0 "com/example/incarico/incarico/load/LoadConfig" "partitions" "I" (.int p5) := Fw84.other W104 (Or.inr (slot_ne (Or.inr (hw _ (List.mem_of_getElem? (i := 32) rfl))) (Or.inr (hw _ (List.mem_of_getElem? (i := 34) rfl))) (by decide) (t := .int) (t' := .int) (by decide) (by decide)))
  have K122 : Keep h0 h104 [o0] := K102.wr W104 (Or.inl (List.mem_of_getElem? (i := 0) rfl))
  have N104 := Fr.snoc X104 N84 g_o0
  have pre123 : ∀ t, Steps p.tables e below (T104.setTop (mkF m 40 #[.val (.ref o0), .val (.ref o1), .val (.int p2), .val (.int p3), .val (.int p4), .val (.int p5), .val (.int p6), .val (.int p7), .val (.int p8), .val (.int p9), .val (.int p10), .val (.int p11), .val (.double u12), .second, .val (.double u13), .second, .val (.double u14), .second, .val (.int p15), .val (.int p16)] [(.int p7), (.ref o0)])) t → P t := fun t k => pre104 t (by
      show Steps p.tables e below (T104.setTop (mkF m 37 #[.val (.ref o0), .val (.ref o1), .val (.int p2), .val (.int p3), .val (.int p4), .val (.int p5), .val (.int p6), .val (.int p7), .val (.int p8), .val (.int p9), .val (.int p10), .val (.int p11), .val (.double u12), .second, .val (.double u13), .second, .val (.double u14), .second, .val (.int p15), .val (.int p16)] [])) _
      refine XS.aloadN X104.here hx rfl (hb hby d1_37) rfl rfl ?_
      show Steps p.tables e below (T104.setTop (mkF m 38 #[.val (.ref o0), .val (.ref o1), .val (.int p2), .val (.int p3), .val (.int p4), .val (.int p5), .val (.int p6), .val (.int p7), .val (.int p8), .val (.int p9), .val (.int p10), .val (.int p11), .val (.double u12), .second, .val (.double u13), .second, .val (.double u14), .second, .val (.int p15), .val (.int p16)] [(.ref o0)])) _
      refine XS.iload X104.here hx rfl (hb hby d1_38) rfl ?_
      exact k)
  obtain ⟨T124, h124, X124, e124, W124, st124⟩ := putF X104 hx hZ hown (host := "") (Or.inl (hw _ (List.mem_of_getElem? (i := 35) rfl))) Via.refl e104 c107 c106 (Or.inr ⟨(hw _ (List.mem_of_getElem? (i := 36) rfl)), rfl, hnm⟩) (hw _ (List.mem_of_getElem? (i := 2) rfl)) (ty := .int) (by decide) rfl rfl (g := (mkF m 40 #[.val (.ref o0), .val (.ref o1), .val (.int p2), .val (.int p3), .val (.int p4), .val (.int p5), .val (.int p6), .val (.int p7), .val (.int p8), .val (.int p9), .val (.int p10), .val (.int p11), .val (.double u12), .second, .val (.double u13), .second, .val (.double u14), .second, .val (.int p15), .val (.int p16)] [(.int p7), (.ref o0)])) rfl rfl (hb hby d1_40)
  have pre124 : ∀ t, Steps p.tables e below (T124.setTop (mkF m 43 #[.val (.ref o0), .val (.ref o1), .val (.int p2), .val (.int p3), .val (.int p4), .val (.int p5), .val (.int p6), .val (.int p7), .val (.int p8), .val (.int p9), .val (.int p10), .val (.int p11), .val (.double u12), .second, .val (.double u13), .second, .val (.double u14), .second, .val (.int p15), .val (.int p16)] [])) t → P t := fun t k => pre123 t (st124 _ k)
  have Fw124 := c107.same W124
  have c125 : n0 ≤ h124.size := Nat.le_trans c105 (Keep.of_wr W124).1
  have c126 : Exa Z h124 o0 "com/example/incarico/incarico/load/LoadConfig" := c106.wr W124
  have c127 : Fld Z h124 o0 "com/example/incarico/incarico/load/LoadConfig" "sessionTimeoutMs" "I" (.int (0 : Int32)) := c108.other W124 (Or.inr (slot_ne (Or.inr (hw _ (List.mem_of_getElem? (i := 38) rfl))) (Or.inr (hw _ (List.mem_of_getElem? (i := 36) rfl))) (by decide) (t := .int) (t' := .int) (by decide) (by decide)))
  have c128 : Fld Z h124 o0 "com/example/incarico/incarico/load/LoadConfig" "joinS" "I" (.int (0 : Int32)) := c109.other W124 (Or.inr (slot_ne (Or.inr (hw _ (List.mem_of_getElem? (i := 40) rfl))) (Or.inr (hw _ (List.mem_of_getElem? (i := 36) rfl))) (by decide) (t := .int) (t' := .int) (by decide) (by decide)))
  have c129 : Fld Z h124 o0 "com/example/incarico/incarico/load/LoadConfig" "measureS" "I" (.int (0 : Int32)) := c110.other W124 (Or.inr (slot_ne (Or.inr (hw _ (List.mem_of_getElem? (i := 42) rfl))) (Or.inr (hw _ (List.mem_of_getElem? (i := 36) rfl))) (by decide) (t := .int) (t' := .int) (by decide) (by decide)))
  have c130 : Fld Z h124 o0 "com/example/incarico/incarico/load/LoadConfig" "growAtS" "I" (.int (0 : Int32)) := c111.other W124 (Or.inr (slot_ne (Or.inr (hw _ (List.mem_of_getElem? (i := 44) rfl))) (Or.inr (hw _ (List.mem_of_getElem? (i := 36) rfl))) (by decide) (t := .int) (t' := .int) (by decide) (by decide)))
  have c131 : Fld Z h124 o0 "com/example/incarico/incarico/load/LoadConfig" "metadataRate" "D" (.double 0) := c112.other W124 (Or.inr (slot_ne (Or.inr (hw _ (List.mem_of_getElem? (i := 46) rfl))) (Or.inr (hw _ (List.mem_of_getElem? (i := 36) rfl))) (by decide) (t := .double) (t' := .int) (by decide) (by decide)))
  have c132 : Fld Z h124 o0 "com/example/incarico/incarico/load/LoadConfig" "commitRate" "D" (.double 0) := c113.other W124 (Or.inr (slot_ne (Or.inr (hw _ (List.mem_of_getElem? (i := 48) rfl))) (Or.inr (hw _ (List.mem_of_getElem? (i := 36) rfl))) (by decide) (t := .double) (t' := .int) (by decide) (by decide)))
  have c133 : Fld Z h124 o0 "com/example/incarico/incarico/load/LoadConfig" "p99LimitMs" "D" (.double 0) := c114.other W124 (Or.inr (slot_ne (Or.inr (hw _ (List.mem_of_getElem? (i := 50) rfl))) (Or.inr (hw _ (List.mem_of_getElem? (i := 36) rfl))) (by decide) (t := .double) (t' := .int) (by decide) (by decide)))
  have c134 : Fld Z h124 o0 "com/example/incarico/incarico/load/LoadConfig" "pauseAtS" "I" (.int (0 : Int32)) := c115.other W124 (Or.inr (slot_ne (Or.inr (hw _ (List.mem_of_getElem? (i := 52) rfl))) (Or.inr (hw _ (List.mem_of_getElem? (i := 36) rfl))) (by decide) (t := .int) (t' := .int) (by decide) (by decide)))
  have c135 : Fld Z h124 o0 "com/example/incarico/incarico/load/LoadConfig" "pauseS" "I" (.int (0 : Int32)) := c116.other W124 (Or.inr (slot_ne (Or.inr (hw _ (List.mem_of_getElem? (i := 54) rfl))) (Or.inr (hw _ (List.mem_of_getElem? (i := 36) rfl))) (by decide) (t := .int) (t' := .int) (by decide) (by decide)))
  have c136 : Fld Z h124 o0 "com/example/incarico/incarico/load/LoadConfig" "serverClassPath" "Ljava/lang/String;" (.ref o1) := c117.other W124 (Or.inr (slot_ne (Or.inr (hw _ (List.mem_of_getElem? (i := 24) rfl))) (Or.inr (hw _ (List.mem_of_getElem? (i := 36) rfl))) (by decide) (t := (.object "java/lang/String")) (t' := .int) (by decide) (by decide)))
  have c137 : Fld Z h124 o0 "com/example/incarico/incarico/load/LoadConfig" "inMemory" "Z" (.int (nar .boolean p2)) := c118.other W124 (Or.inr (slot_ne (Or.inr (hw _ (List.mem_of_getElem? (i := 26) rfl))) (Or.inr (hw _ (List.mem_of_getElem? (i := 36) rfl))) (by decide) (t := .boolean) (t' := .int) (by decide) (by decide)))
  have c138 : Fld Z h124 o0 "com/example/incarico/incarico/load/LoadConfig" "members" "I" (.int p3) := c119.other W124 (Or.inr (slot_ne (Or.inr (hw _ (List.mem_of_getElem? (i := 28) rfl))) (Or.inr (hw _ (List.mem_of_getElem? (i := 36) rfl))) (by decide) (t := .int) (t' := .int) (by decide) (by decide)))
  have c139 : Fld Z h124 o0 "com/example/incarico/incarico/load/LoadConfig" "groups" "I" (.int p4) := c120.other W124 (Or.inr (slot_ne (Or.inr (hw _ (List.mem_of_getElem? (i := 30) rfl))) (Or.inr (hw _ (List.mem_of_getElem? (i := 36) rfl))) (by decide) (t := .int) (t' := .int) (by decide) (by decide)))
  have c140 : Fld Z h124 o0 "com/example/incarico/incarico/load/LoadConfig" "partitions" "I" (.int p5) := c121.other W124 (Or.inr (slot_ne (Or.inr (hw _ (List.mem_of_getElem? (i := 32) rfl))) (Or.inr (hw _ (List.mem_of_getElem? (i := 36) rfl))) (by decide) (t := .int) (t' := .int) (by decide) (by decide)))
  have c141 : Fld Z h124 o0 "com/example/incarico/incarico/load/LoadConfig" "growTo" "I" (.int p6) := Fw104.other W124 (Or.inr (slot_ne (Or.inr (hw _ (List.mem_of_getElem? (i := 34) rfl))) (Or.inr (hw _ (List.mem_of_getElem? (i := 36) rfl))) (by decide) (t := .int) (t' := .int) (by decide) (by decide)))
  have K142 : Keep h0 h124 [o0] := K122.wr W124 (Or.inl (List.mem_of_getElem? (i := 0) rfl))
  have N124 := Fr.snoc X124 N104 g_o0
  have pre143 : ∀ t, Steps p.tables e below (T124.setTop (mkF m 46 #[.val (.ref o0), .val (.ref o1), .val (.int p2), .val (.int p3), .val (.int p4), .val (.int p5), .val (.int p6), .val (.int p7), .val (.int p8), .val (.int p9), .val (.int p10), .val (.int p11), .val (.double u12), .second, .val (.double u13), .second, .val (.double u14), .second, .val (.int p15), .val (.int p16)] [(.int p8), (.ref o0)])) t → P t := fun t k => pre124 t (by
      show Steps p.tables e below (T124.setTop (mkF m 43 #[.val (.ref o0), .val (.ref o1), .val (.int p2), .val (.int p3), .val (.int p4), .val (.int p5), .val (.int p6), .val (.int p7), .val (.int p8), .val (.int p9), .val (.int p10), .val (.int p11), .val (.double u12), .second, .val (.double u13), .second, .val (.double u14), .second, .val (.int p15), .val (.int p16)] [])) _
      refine XS.aloadN X124.here hx rfl (hb hby d1_43) rfl rfl ?_
      show Steps p.tables e below (T124.setTop (mkF m 44 #[.val (.ref o0), .val (.ref o1), .val (.int p2), .val (.int p3), .val (.int p4), .val (.int p5), .val (.int p6), .val (.int p7), .val (.int p8), .val (.int p9), .val (.int p10), .val (.int p11), .val (.double u12), .second, .val (.double u13), .second, .val (.double u14), .second, .val (.int p15), .val (.int p16)] [(.ref o0)])) _
      refine XS.iload X124.here hx rfl (hb hby d1_44) rfl ?_
      exact k)
  obtain ⟨T144, h144, X144, e144, W144, st144⟩ := putF X124 hx hZ hown (host := "") (Or.inl (hw _ (List.mem_of_getElem? (i := 37) rfl))) Via.refl e124 c127 c126 (Or.inr ⟨(hw _ (List.mem_of_getElem? (i := 38) rfl)), rfl, hnm⟩) (hw _ (List.mem_of_getElem? (i := 2) rfl)) (ty := .int) (by decide) rfl rfl (g := (mkF m 46 #[.val (.ref o0), .val (.ref o1), .val (.int p2), .val (.int p3), .val (.int p4), .val (.int p5), .val (.int p6), .val (.int p7), .val (.int p8), .val (.int p9), .val (.int p10), .val (.int p11), .val (.double u12), .second, .val (.double u13), .second, .val (.double u14), .second, .val (.int p15), .val (.int p16)] [(.int p8), (.ref o0)])) rfl rfl (hb hby d1_46)
  have pre144 : ∀ t, Steps p.tables e below (T144.setTop (mkF m 49 #[.val (.ref o0), .val (.ref o1), .val (.int p2), .val (.int p3), .val (.int p4), .val (.int p5), .val (.int p6), .val (.int p7), .val (.int p8), .val (.int p9), .val (.int p10), .val (.int p11), .val (.double u12), .second, .val (.double u13), .second, .val (.double u14), .second, .val (.int p15), .val (.int p16)] [])) t → P t := fun t k => pre143 t (st144 _ k)
  have Fw144 := c127.same W144
  have c145 : n0 ≤ h144.size := Nat.le_trans c125 (Keep.of_wr W144).1
  have c146 : Exa Z h144 o0 "com/example/incarico/incarico/load/LoadConfig" := c126.wr W144
  have c147 : Fld Z h144 o0 "com/example/incarico/incarico/load/LoadConfig" "joinS" "I" (.int (0 : Int32)) := c128.other W144 (Or.inr (slot_ne (Or.inr (hw _ (List.mem_of_getElem? (i := 40) rfl))) (Or.inr (hw _ (List.mem_of_getElem? (i := 38) rfl))) (by decide) (t := .int) (t' := .int) (by decide) (by decide)))
  have c148 : Fld Z h144 o0 "com/example/incarico/incarico/load/LoadConfig" "measureS" "I" (.int (0 : Int32)) := c129.other W144 (Or.inr (slot_ne (Or.inr (hw _ (List.mem_of_getElem? (i := 42) rfl))) (Or.inr (hw _ (List.mem_of_getElem? (i := 38) rfl))) (by decide) (t := .int) (t' := .int) (by decide) (by decide)))
  have c149 : Fld Z h144 o0 "com/example/incarico/incarico/load/LoadConfig" "growAtS" "I" (.int (0 : Int32)) := c130.other W144 (Or.inr (slot_ne (Or.inr (hw _ (List.mem_of_getElem? (i := 44) rfl))) (Or.inr (hw _ (List.mem_of_getElem? (i := 38) rfl))) (by decide) (t := .int) (t' := .int) (by decide) (by decide)))
  have c150 : Fld Z h144 o0 "com/example/incarico/incarico/load/LoadConfig" "metadataRate" "D" (.double 0) := c131.other W144 (Or.inr (slot_ne (Or.inr (hw _ (List.mem_of_getElem? (i := 46) rfl))) (Or.inr (hw _ (List.mem_of_getElem? (i := 38) rfl))) (by decide) (t := .double) (t' := .int) (by decide) (by decide)))
  have c151 : Fld Z h144 o0 "com/example/incarico/incarico/load/LoadConfig" "commitRate" "D" (.double 0) := c132.other W144 (Or.inr (slot_ne (Or.inr (hw _ (List.mem_of_getElem? (i := 48) rfl))) (Or.inr (hw _ (List.mem_of_getElem? (i := 38) rfl))) (by decide) (t := .double) (t' := .int) (by decide) (by decide)))
  have c152 : Fld Z h144 o0 "com/example/incarico/incarico/load/LoadConfig" "p99LimitMs" "D" (.double 0) := c133.other W144 (Or.inr (slot_ne (Or.inr (hw _ (List.mem_of_getElem? (i := 50) rfl))) (Or.inr (hw _ (List.mem_of_getElem? (i := 38) rfl))) (by decide) (t := .double) (t' := .int) (by decide) (by decide)))
  have c153 : Fld Z h144 o0 "com/example/incarico/incarico/load/LoadConfig" "pauseAtS" "I" (.int (0 : Int32)) := c134.other W144 (Or.inr (slot_ne (Or.inr (hw _ (List.mem_of_getElem? (i := 52) rfl))) (Or.inr (hw _ (List.mem_of_getElem? (i := 38) rfl))) (by decide) (t := .int) (t' := .int) (by decide) (by decide)))
  have c154 : Fld Z h144 o0 "com/example/incarico/incarico/load/LoadConfig" "pauseS" "I" (.int (0 : Int32)) := c135.other W144 (Or.inr (slot_ne (Or.inr (hw _ (List.mem_of_getElem? (i := 54) rfl))) (Or.inr (hw _ (List.mem_of_getElem? (i := 38) rfl))) (by decide) (t := .int) (t' := .int) (by decide) (by decide)))
  have c155 : Fld Z h144 o0 "com/example/incarico/incarico/load/LoadConfig" "serverClassPath" "Ljava/lang/String;" (.ref o1) := c136.other W144 (Or.inr (slot_ne (Or.inr (hw _ (List.mem_of_getElem? (i := 24) rfl))) (Or.inr (hw _ (List.mem_of_getElem? (i := 38) rfl))) (by decide) (t := (.object "java/lang/String")) (t' := .int) (by decide) (by decide)))
  have c156 : Fld Z h144 o0 "com/example/incarico/incarico/load/LoadConfig" "inMemory" "Z" (.int (nar .boolean p2)) := c137.other W144 (Or.inr (slot_ne (Or.inr (hw _ (List.mem_of_getElem? (i := 26) rfl))) (Or.inr (hw _ (List.mem_of_getElem? (i := 38) rfl))) (by decide) (t := .boolean) (t' := .int) (by decide) (by decide)))
  have c157 : Fld Z h144 o0 "com/example/incarico/incarico/load/LoadConfig" "members" "I" (.int p3) := c138.other W144 (Or.inr (slot_ne (Or.inr (hw _ (List.mem_of_getElem? (i := 28) rfl))) (Or.inr (hw _ (List.mem_of_getElem? (i := 38) rfl))) (by decide) (t := .int) (t' := .int) (by decide) (by decide)))
  have c158 : Fld Z h144 o0 "com/example/incarico/incarico/load/LoadConfig" "groups" "I" (.int p4) := c139.other W144 (Or.inr (slot_ne (Or.inr (hw _ (List.mem_of_getElem? (i := 30) rfl))) (Or.inr (hw _ (List.mem_of_getElem? (i := 38) rfl))) (by decide) (t := .int) (t' := .int) (by decide) (by decide)))
  have c159 : Fld Z h144 o0 "com/example/incarico/incarico/load/LoadConfig" "partitions" "I" (.int p5) := c140.other W144 (Or.inr (slot_ne (Or.inr (hw _ (List.mem_of_getElem? (i := 32) rfl))) (Or.inr (hw _ (List.mem_of_getElem? (i := 38) rfl))) (by decide) (t := .int) (t' := .int) (by decide) (by decide)))
  have c160 : Fld Z h144 o0 "com/example/incarico/incarico/load/LoadConfig" "growTo" "I" (.int p6) := c141.other W144 (Or.inr (slot_ne (Or.inr (hw _ (List.mem_of_getElem? (i := 34) rfl))) (Or.inr (hw _ (List.mem_of_getElem? (i := 38) rfl))) (by decide) (t := .int) (t' := .int) (by decide) (by decide)))
  have c161 : Fld Z h144 o0 "com/example/incarico/incarico/load/LoadConfig" "heartbeatIntervalMs" "I" (.int p7) := Fw124.other W144 (Or.inr (slot_ne (Or.inr (hw _ (List.mem_of_getElem? (i := 36) rfl))) (Or.inr (hw _ (List.mem_of_getElem? (i := 38) rfl))) (by decide) (t := .int) (t' := .int) (by decide) (by decide)))
  have K162 : Keep h0 h144 [o0] := K142.wr W144 (Or.inl (List.mem_of_getElem? (i := 0) rfl))
  have N144 := Fr.snoc X144 N124 g_o0
  have pre163 : ∀ t, Steps p.tables e below (T144.setTop (mkF m 52 #[.val (.ref o0), .val (.ref o1), .val (.int p2), .val (.int p3), .val (.int p4), .val (.int p5), .val (.int p6), .val (.int p7), .val (.int p8), .val (.int p9), .val (.int p10), .val (.int p11), .val (.double u12), .second, .val (.double u13), .second, .val (.double u14), .second, .val (.int p15), .val (.int p16)] [(.int p9), (.ref o0)])) t → P t := fun t k => pre144 t (by
      show Steps p.tables e below (T144.setTop (mkF m 49 #[.val (.ref o0), .val (.ref o1), .val (.int p2), .val (.int p3), .val (.int p4), .val (.int p5), .val (.int p6), .val (.int p7), .val (.int p8), .val (.int p9), .val (.int p10), .val (.int p11), .val (.double u12), .second, .val (.double u13), .second, .val (.double u14), .second, .val (.int p15), .val (.int p16)] [])) _
      refine XS.aloadN X144.here hx rfl (hb hby d1_49) rfl rfl ?_
      show Steps p.tables e below (T144.setTop (mkF m 50 #[.val (.ref o0), .val (.ref o1), .val (.int p2), .val (.int p3), .val (.int p4), .val (.int p5), .val (.int p6), .val (.int p7), .val (.int p8), .val (.int p9), .val (.int p10), .val (.int p11), .val (.double u12), .second, .val (.double u13), .second, .val (.double u14), .second, .val (.int p15), .val (.int p16)] [(.ref o0)])) _
      refine XS.iload X144.here hx rfl (hb hby d1_50) rfl ?_
      exact k)
  obtain ⟨T164, h164, X164, e164, W164, st164⟩ := putF X144 hx hZ hown (host := "") (Or.inl (hw _ (List.mem_of_getElem? (i := 39) rfl))) Via.refl e144 c147 c146 (Or.inr ⟨(hw _ (List.mem_of_getElem? (i := 40) rfl)), rfl, hnm⟩) (hw _ (List.mem_of_getElem? (i := 2) rfl)) (ty := .int) (by decide) rfl rfl (g := (mkF m 52 #[.val (.ref o0), .val (.ref o1), .val (.int p2), .val (.int p3), .val (.int p4), .val (.int p5), .val (.int p6), .val (.int p7), .val (.int p8), .val (.int p9), .val (.int p10), .val (.int p11), .val (.double u12), .second, .val (.double u13), .second, .val (.double u14), .second, .val (.int p15), .val (.int p16)] [(.int p9), (.ref o0)])) rfl rfl (hb hby d1_52)
  have pre164 : ∀ t, Steps p.tables e below (T164.setTop (mkF m 55 #[.val (.ref o0), .val (.ref o1), .val (.int p2), .val (.int p3), .val (.int p4), .val (.int p5), .val (.int p6), .val (.int p7), .val (.int p8), .val (.int p9), .val (.int p10), .val (.int p11), .val (.double u12), .second, .val (.double u13), .second, .val (.double u14), .second, .val (.int p15), .val (.int p16)] [])) t → P t := fun t k => pre163 t (st164 _ k)
  have Fw164 := c147.same W164
  have c165 : n0 ≤ h164.size := Nat.le_trans c145 (Keep.of_wr W164).1
  have c166 : Exa Z h164 o0 "com/example/incarico/incarico/load/LoadConfig" := c146.wr W164
  have c167 : Fld Z h164 o0 "com/example/incarico/incarico/load/LoadConfig" "measureS" "I" (.int (0 : Int32)) := c148.other W164 (Or.inr (slot_ne (Or.inr (hw _ (List.mem_of_getElem? (i := 42) rfl))) (Or.inr (hw _ (List.mem_of_getElem? (i := 40) rfl))) (by decide) (t := .int) (t' := .int) (by decide) (by decide)))
  have c168 : Fld Z h164 o0 "com/example/incarico/incarico/load/LoadConfig" "growAtS" "I" (.int (0 : Int32)) := c149.other W164 (Or.inr (slot_ne (Or.inr (hw _ (List.mem_of_getElem? (i := 44) rfl))) (Or.inr (hw _ (List.mem_of_getElem? (i := 40) rfl))) (by decide) (t := .int) (t' := .int) (by decide) (by decide)))
  have c169 : Fld Z h164 o0 "com/example/incarico/incarico/load/LoadConfig" "metadataRate" "D" (.double 0) := c150.other W164 (Or.inr (slot_ne (Or.inr (hw _ (List.mem_of_getElem? (i := 46) rfl))) (Or.inr (hw _ (List.mem_of_getElem? (i := 40) rfl))) (by decide) (t := .double) (t' := .int) (by decide) (by decide)))
  have c170 : Fld Z h164 o0 "com/example/incarico/incarico/load/LoadConfig" "commitRate" "D" (.double 0) := c151.other W164 (Or.inr (slot_ne (Or.inr (hw _ (List.mem_of_getElem? (i := 48) rfl))) (Or.inr (hw _ (List.mem_of_getElem? (i := 40) rfl))) (by decide) (t := .double) (t' := .int) (by decide) (by decide)))
  have c171 : Fld Z h164 o0 "com/example/incarico/incarico/load/LoadConfig" "p99LimitMs" "D" (.double 0) := c152.other W164 (Or.inr (slot_ne (Or.inr (hw _ (List.mem_of_getElem? (i := 50) rfl))) (Or.inr (hw _ (List.mem_of_getElem? (i := 40) rfl))) (by decide) (t := .double) (t' := .int) (by decide) (by decide)))
  have c172 : Fld Z h164 o0 "com/example/incarico/incarico/load/LoadConfig" "pauseAtS" "I" (.int (0 : Int32)) := c153.other W164 (Or.inr (slot_ne (Or.inr (hw _ (List.mem_of_getElem? (i := 52) rfl))) (Or.inr (hw _ (List.mem_of_getElem? (i := 40) rfl))) (by decide) (t := .int) (t' := .int) (by decide) (by decide)))
  have c173 : Fld Z h164 o0 "com/example/incarico/incarico/load/LoadConfig" "pauseS" "I" (.int (0 : Int32)) := c154.other W164 (Or.inr (slot_ne (Or.inr (hw _ (List.mem_of_getElem? (i := 54) rfl))) (Or.inr (hw _ (List.mem_of_getElem? (i := 40) rfl))) (by decide) (t := .int) (t' := .int) (by decide) (by decide)))
  have c174 : Fld Z h164 o0 "com/example/incarico/incarico/load/LoadConfig" "serverClassPath" "Ljava/lang/String;" (.ref o1) := c155.other W164 (Or.inr (slot_ne (Or.inr (hw _ (List.mem_of_getElem? (i := 24) rfl))) (Or.inr (hw _ (List.mem_of_getElem? (i := 40) rfl))) (by decide) (t := (.object "java/lang/String")) (t' := .int) (by decide) (by decide)))
  have c175 : Fld Z h164 o0 "com/example/incarico/incarico/load/LoadConfig" "inMemory" "Z" (.int (nar .boolean p2)) := c156.other W164 (Or.inr (slot_ne (Or.inr (hw _ (List.mem_of_getElem? (i := 26) rfl))) (Or.inr (hw _ (List.mem_of_getElem? (i := 40) rfl))) (by decide) (t := .boolean) (t' := .int) (by decide) (by decide)))
  have c176 : Fld Z h164 o0 "com/example/incarico/incarico/load/LoadConfig" "members" "I" (.int p3) := c157.other W164 (Or.inr (slot_ne (Or.inr (hw _ (List.mem_of_getElem? (i := 28) rfl))) (Or.inr (hw _ (List.mem_of_getElem? (i := 40) rfl))) (by decide) (t := .int) (t' := .int) (by decide) (by decide)))
  have c177 : Fld Z h164 o0 "com/example/incarico/incarico/load/LoadConfig" "groups" "I" (.int p4) := c158.other W164 (Or.inr (slot_ne (Or.inr (hw _ (List.mem_of_getElem? (i := 30) rfl))) (Or.inr (hw _ (List.mem_of_getElem? (i := 40) rfl))) (by decide) (t := .int) (t' := .int) (by decide) (by decide)))
  have c178 : Fld Z h164 o0 "com/example/incarico/incarico/load/LoadConfig" "partitions" "I" (.int p5) := c159.other W164 (Or.inr (slot_ne (Or.inr (hw _ (List.mem_of_getElem? (i := 32) rfl))) (Or.inr (hw _ (List.mem_of_getElem? (i := 40) rfl))) (by decide) (t := .int) (t' := .int) (by decide) (by decide)))
  have c179 : Fld Z h164 o0 "com/example/incarico/incarico/load/LoadConfig" "growTo" "I" (.int p6) := c160.other W164 (Or.inr (slot_ne (Or.inr (hw _ (List.mem_of_getElem? (i := 34) rfl))) (Or.inr (hw _ (List.mem_of_getElem? (i := 40) rfl))) (by decide) (t := .int) (t' := .int) (by decide) (by decide)))
  have c180 : Fld Z h164 o0 "com/example/incarico/incarico/load/LoadConfig" "heartbeatIntervalMs" "I" (.int p7) := c161.other W164 (Or.inr (slot_ne (Or.inr (hw _ (List.mem_of_getElem? (i := 36) rfl))) (Or.inr (hw _ (List.mem_of_getElem? (i := 40) rfl))) (by decide) (t := .int) (t' := .int) (by decide) (by decide)))
  have c181 : Fld Z h164 o0 "com/example/incarico/incarico/load/LoadConfig" "sessionTimeoutMs" "I" (.int p8) := Fw144.other W164 (Or.inr (slot_ne (Or.inr (hw _ (List.mem_of_getElem? (i := 38) rfl))) (Or.inr (hw _ (List.mem_of_getElem? (i := 40) rfl))) (by decide) (t := .int) (t' := .int) (by decide) (by decide)))
  have K182 : Keep h0 h164 [o0] := K162.wr W164 (Or.inl (List.mem_of_getElem? (i := 0) rfl))
  have N164 := Fr.snoc X164 N144 g_o0
  have pre183 : ∀ t, Steps p.tables e below (T164.setTop (mkF m 58 #[.val (.ref o0), .val (.ref o1), .val (.int p2), .val (.int p3), .val (.int p4), .val (.int p5), .val (.int p6), .val (.int p7), .val (.int p8), .val (.int p9), .val (.int p10), .val (.int p11), .val (.double u12), .second, .val (.double u13), .second, .val (.double u14), .second, .val (.int p15), .val (.int p16)] [(.int p10), (.ref o0)])) t → P t := fun t k => pre164 t (by
      show Steps p.tables e below (T164.setTop (mkF m 55 #[.val (.ref o0), .val (.ref o1), .val (.int p2), .val (.int p3), .val (.int p4), .val (.int p5), .val (.int p6), .val (.int p7), .val (.int p8), .val (.int p9), .val (.int p10), .val (.int p11), .val (.double u12), .second, .val (.double u13), .second, .val (.double u14), .second, .val (.int p15), .val (.int p16)] [])) _
      refine XS.aloadN X164.here hx rfl (hb hby d1_55) rfl rfl ?_
      show Steps p.tables e below (T164.setTop (mkF m 56 #[.val (.ref o0), .val (.ref o1), .val (.int p2), .val (.int p3), .val (.int p4), .val (.int p5), .val (.int p6), .val (.int p7), .val (.int p8), .val (.int p9), .val (.int p10), .val (.int p11), .val (.double u12), .second, .val (.double u13), .second, .val (.double u14), .second, .val (.int p15), .val (.int p16)] [(.ref o0)])) _
      refine XS.iload X164.here hx rfl (hb hby d1_56) rfl ?_
      exact k)
  obtain ⟨T184, h184, X184, e184, W184, st184⟩ := putF X164 hx hZ hown (host := "") (Or.inl (hw _ (List.mem_of_getElem? (i := 41) rfl))) Via.refl e164 c167 c166 (Or.inr ⟨(hw _ (List.mem_of_getElem? (i := 42) rfl)), rfl, hnm⟩) (hw _ (List.mem_of_getElem? (i := 2) rfl)) (ty := .int) (by decide) rfl rfl (g := (mkF m 58 #[.val (.ref o0), .val (.ref o1), .val (.int p2), .val (.int p3), .val (.int p4), .val (.int p5), .val (.int p6), .val (.int p7), .val (.int p8), .val (.int p9), .val (.int p10), .val (.int p11), .val (.double u12), .second, .val (.double u13), .second, .val (.double u14), .second, .val (.int p15), .val (.int p16)] [(.int p10), (.ref o0)])) rfl rfl (hb hby d1_58)
  have pre184 : ∀ t, Steps p.tables e below (T184.setTop (mkF m 61 #[.val (.ref o0), .val (.ref o1), .val (.int p2), .val (.int p3), .val (.int p4), .val (.int p5), .val (.int p6), .val (.int p7), .val (.int p8), .val (.int p9), .val (.int p10), .val (.int p11), .val (.double u12), .second, .val (.double u13), .second, .val (.double u14), .second, .val (.int p15), .val (.int p16)] [])) t → P t := fun t k => pre183 t (st184 _ k)
  have Fw184 := c167.same W184
  have c185 : n0 ≤ h184.size := Nat.le_trans c165 (Keep.of_wr W184).1
  have c186 : Exa Z h184 o0 "com/example/incarico/incarico/load/LoadConfig" := c166.wr W184
  have c187 : Fld Z h184 o0 "com/example/incarico/incarico/load/LoadConfig" "growAtS" "I" (.int (0 : Int32)) := c168.other W184 (Or.inr (slot_ne (Or.inr (hw _ (List.mem_of_getElem? (i := 44) rfl))) (Or.inr (hw _ (List.mem_of_getElem? (i := 42) rfl))) (by decide) (t := .int) (t' := .int) (by decide) (by decide)))
  have c188 : Fld Z h184 o0 "com/example/incarico/incarico/load/LoadConfig" "metadataRate" "D" (.double 0) := c169.other W184 (Or.inr (slot_ne (Or.inr (hw _ (List.mem_of_getElem? (i := 46) rfl))) (Or.inr (hw _ (List.mem_of_getElem? (i := 42) rfl))) (by decide) (t := .double) (t' := .int) (by decide) (by decide)))
  have c189 : Fld Z h184 o0 "com/example/incarico/incarico/load/LoadConfig" "commitRate" "D" (.double 0) := c170.other W184 (Or.inr (slot_ne (Or.inr (hw _ (List.mem_of_getElem? (i := 48) rfl))) (Or.inr (hw _ (List.mem_of_getElem? (i := 42) rfl))) (by decide) (t := .double) (t' := .int) (by decide) (by decide)))
  have c190 : Fld Z h184 o0 "com/example/incarico/incarico/load/LoadConfig" "p99LimitMs" "D" (.double 0) := c171.other W184 (Or.inr (slot_ne (Or.inr (hw _ (List.mem_of_getElem? (i := 50) rfl))) (Or.inr (hw _ (List.mem_of_getElem? (i := 42) rfl))) (by decide) (t := .double) (t' := .int) (by decide) (by decide)))
  have c191 : Fld Z h184 o0 "com/example/incarico/incarico/load/LoadConfig" "pauseAtS" "I" (.int (0 : Int32)) := c172.other W184 (Or.inr (slot_ne (Or.inr (hw _ (List.mem_of_getElem? (i := 52) rfl))) (Or.inr (hw _ (List.mem_of_getElem? (i := 42) rfl))) (by decide) (t := .int) (t' := .int) (by decide) (by decide)))
  have c192 : Fld Z h184 o0 "com/example/incarico/incarico/load/LoadConfig" "pauseS" "I" (.int (0 : Int32)) := c173.other W184 (Or.inr (slot_ne (Or.inr (hw _ (List.mem_of_getElem? (i := 54) rfl))) (Or.inr (hw _ (List.mem_of_getElem? (i := 42) rfl))) (by decide) (t := .int) (t' := .int) (by decide) (by decide)))
  have c193 : Fld Z h184 o0 "com/example/incarico/incarico/load/LoadConfig" "serverClassPath" "Ljava/lang/String;" (.ref o1) := c174.other W184 (Or.inr (slot_ne (Or.inr (hw _ (List.mem_of_getElem? (i := 24) rfl))) (Or.inr (hw _ (List.mem_of_getElem? (i := 42) rfl))) (by decide) (t := (.object "java/lang/String")) (t' := .int) (by decide) (by decide)))
  have c194 : Fld Z h184 o0 "com/example/incarico/incarico/load/LoadConfig" "inMemory" "Z" (.int (nar .boolean p2)) := c175.other W184 (Or.inr (slot_ne (Or.inr (hw _ (List.mem_of_getElem? (i := 26) rfl))) (Or.inr (hw _ (List.mem_of_getElem? (i := 42) rfl))) (by decide) (t := .boolean) (t' := .int) (by decide) (by decide)))
  have c195 : Fld Z h184 o0 "com/example/incarico/incarico/load/LoadConfig" "members" "I" (.int p3) := c176.other W184 (Or.inr (slot_ne (Or.inr (hw _ (List.mem_of_getElem? (i := 28) rfl))) (Or.inr (hw _ (List.mem_of_getElem? (i := 42) rfl))) (by decide) (t := .int) (t' := .int) (by decide) (by decide)))
  have c196 : Fld Z h184 o0 "com/example/incarico/incarico/load/LoadConfig" "groups" "I" (.int p4) := c177.other W184 (Or.inr (slot_ne (Or.inr (hw _ (List.mem_of_getElem? (i := 30) rfl))) (Or.inr (hw _ (List.mem_of_getElem? (i := 42) rfl))) (by decide) (t := .int) (t' := .int) (by decide) (by decide)))
  have c197 : Fld Z h184 o0 "com/example/incarico/incarico/load/LoadConfig" "partitions" "I" (.int p5) := c178.other W184 (Or.inr (slot_ne (Or.inr (hw _ (List.mem_of_getElem? (i := 32) rfl))) (Or.inr (hw _ (List.mem_of_getElem? (i := 42) rfl))) (by decide) (t := .int) (t' := .int) (by decide) (by decide)))
  have c198 : Fld Z h184 o0 "com/example/incarico/incarico/load/LoadConfig" "growTo" "I" (.int p6) := c179.other W184 (Or.inr (slot_ne (Or.inr (hw _ (List.mem_of_getElem? (i := 34) rfl))) (Or.inr (hw _ (List.mem_of_getElem? (i := 42) rfl))) (by decide) (t := .int) (t' := .int) (by decide) (by decide)))
  have c199 : Fld Z h184 o0 "com/example/incarico/incarico/load/LoadConfig" "heartbeatIntervalMs" "I" (.int p7) := c180.other W184 (Or.inr (slot_ne (Or.inr (hw _ (List.mem_of_getElem? (i := 36) rfl))) (Or.inr (hw _ (List.mem_of_getElem? (i := 42) rfl))) (by decide) (t := .int) (t' := .int) (by decide) (by decide)))
  have c200 : Fld Z h184 o0 "com/example/incarico/incarico/load/LoadConfig" "sessionTimeoutMs" "I" (.int p8) := c181.other W184 (Or.inr (slot_ne (Or.inr (hw _ (List.mem_of_getElem? (i := 38) rfl))) (Or.inr (hw _ (List.mem_of_getElem? (i := 42) rfl))) (by decide) (t := .int) (t' := .int) (by decide) (by decide)))
  have c201 : Fld Z h184 o0 "com/example/incarico/incarico/load/LoadConfig" "joinS" "I" (.int p9) := Fw164.other W184 (Or.inr (slot_ne (Or.inr (hw _ (List.mem_of_getElem? (i := 40) rfl))) (Or.inr (hw _ (List.mem_of_getElem? (i := 42) rfl))) (by decide) (t := .int) (t' := .int) (by decide) (by decide)))
  have K202 : Keep h0 h184 [o0] := K182.wr W184 (Or.inl (List.mem_of_getElem? (i := 0) rfl))
  have N184 := Fr.snoc X184 N164 g_o0
  have pre203 : ∀ t, Steps p.tables e below (T184.setTop (mkF m 64 #[.val (.ref o0), .val (.ref o1), .val (.int p2), .val (.int p3), .val (.int p4), .val (.int p5), .val (.int p6), .val (.int p7), .val (.int p8), .val (.int p9), .val (.int p10), .val (.int p11), .val (.double u12), .second, .val (.double u13), .second, .val (.double u14), .second, .val (.int p15), .val (.int p16)] [(.int p11), (.ref o0)])) t → P t := fun t k => pre184 t (by
      show Steps p.tables e below (T184.setTop (mkF m 61 #[.val (.ref o0), .val (.ref o1), .val (.int p2), .val (.int p3), .val (.int p4), .val (.int p5), .val (.int p6), .val (.int p7), .val (.int p8), .val (.int p9), .val (.int p10), .val (.int p11), .val (.double u12), .second, .val (.double u13), .second, .val (.double u14), .second, .val (.int p15), .val (.int p16)] [])) _
      refine XS.aloadN X184.here hx rfl (hb hby d1_61) rfl rfl ?_
      show Steps p.tables e below (T184.setTop (mkF m 62 #[.val (.ref o0), .val (.ref o1), .val (.int p2), .val (.int p3), .val (.int p4), .val (.int p5), .val (.int p6), .val (.int p7), .val (.int p8), .val (.int p9), .val (.int p10), .val (.int p11), .val (.double u12), .second, .val (.double u13), .second, .val (.double u14), .second, .val (.int p15), .val (.int p16)] [(.ref o0)])) _
      refine XS.iload X184.here hx rfl (hb hby d1_62) rfl ?_
      exact k)
  obtain ⟨T204, h204, X204, e204, W204, st204⟩ := putF X184 hx hZ hown (host := "") (Or.inl (hw _ (List.mem_of_getElem? (i := 43) rfl))) Via.refl e184 c187 c186 (Or.inr ⟨(hw _ (List.mem_of_getElem? (i := 44) rfl)), rfl, hnm⟩) (hw _ (List.mem_of_getElem? (i := 2) rfl)) (ty := .int) (by decide) rfl rfl (g := (mkF m 64 #[.val (.ref o0), .val (.ref o1), .val (.int p2), .val (.int p3), .val (.int p4), .val (.int p5), .val (.int p6), .val (.int p7), .val (.int p8), .val (.int p9), .val (.int p10), .val (.int p11), .val (.double u12), .second, .val (.double u13), .second, .val (.double u14), .second, .val (.int p15), .val (.int p16)] [(.int p11), (.ref o0)])) rfl rfl (hb hby d1_64)
  have pre204 : ∀ t, Steps p.tables e below (T204.setTop (mkF m 67 #[.val (.ref o0), .val (.ref o1), .val (.int p2), .val (.int p3), .val (.int p4), .val (.int p5), .val (.int p6), .val (.int p7), .val (.int p8), .val (.int p9), .val (.int p10), .val (.int p11), .val (.double u12), .second, .val (.double u13), .second, .val (.double u14), .second, .val (.int p15), .val (.int p16)] [])) t → P t := fun t k => pre203 t (st204 _ k)
  have Fw204 := c187.same W204
  have c205 : n0 ≤ h204.size := Nat.le_trans c185 (Keep.of_wr W204).1
  have c206 : Exa Z h204 o0 "com/example/incarico/incarico/load/LoadConfig" := c186.wr W204
  have c207 : Fld Z h204 o0 "com/example/incarico/incarico/load/LoadConfig" "metadataRate" "D" (.double 0) := c188.other W204 (Or.inr (slot_ne (Or.inr (hw _ (List.mem_of_getElem? (i := 46) rfl))) (Or.inr (hw _ (List.mem_of_getElem? (i := 44) rfl))) (by decide) (t := .double) (t' := .int) (by decide) (by decide)))
  have c208 : Fld Z h204 o0 "com/example/incarico/incarico/load/LoadConfig" "commitRate" "D" (.double 0) := c189.other W204 (Or.inr (slot_ne (Or.inr (hw _ (List.mem_of_getElem? (i := 48) rfl))) (Or.inr (hw _ (List.mem_of_getElem? (i := 44) rfl))) (by decide) (t := .double) (t' := .int) (by decide) (by decide)))
  have c209 : Fld Z h204 o0 "com/example/incarico/incarico/load/LoadConfig" "p99LimitMs" "D" (.double 0) := c190.other W204 (Or.inr (slot_ne (Or.inr (hw _ (List.mem_of_getElem? (i := 50) rfl))) (Or.inr (hw _ (List.mem_of_getElem? (i := 44) rfl))) (by decide) (t := .double) (t' := .int) (by decide) (by decide)))
  have c210 : Fld Z h204 o0 "com/example/incarico/incarico/load/LoadConfig" "pauseAtS" "I" (.int (0 : Int32)) := c191.other W204 (Or.inr (slot_ne (Or.inr (hw _ (List.mem_of_getElem? (i := 52) rfl))) (Or.inr (hw _ (List.mem_of_getElem? (i := 44) rfl))) (by decide) (t := .int) (t' := .int) (by decide) (by decide)))
  have c211 : Fld Z h204 o0 "com/example/incarico/incarico/load/LoadConfig" "pauseS" "I" (.int (0 : Int32)) := c192.other W204 (Or.inr (slot_ne (Or.inr (hw _ (List.mem_of_getElem? (i := 54) rfl))) (Or.inr (hw _ (List.mem_of_getElem? (i := 44) rfl))) (by decide) (t := .int) (t' := .int) (by decide) (by decide)))
  have c212 : Fld Z h204 o0 "com/example/incarico/incarico/load/LoadConfig" "serverClassPath" "Ljava/lang/String;" (.ref o1) := c193.other W204 (Or.inr (slot_ne (Or.inr (hw _ (List.mem_of_getElem? (i := 24) rfl))) (Or.inr (hw _ (List.mem_of_getElem? (i := 44) rfl))) (by decide) (t := (.object "java/lang/String")) (t' := .int) (by decide) (by decide)))
  have c213 : Fld Z h204 o0 "com/example/incarico/incarico/load/LoadConfig" "inMemory" "Z" (.int (nar .boolean p2)) := c194.other W204 (Or.inr (slot_ne (Or.inr (hw _ (List.mem_of_getElem? (i := 26) rfl))) (Or.inr (hw _ (List.mem_of_getElem? (i := 44) rfl))) (by decide) (t := .boolean) (t' := .int) (by decide) (by decide)))
  have c214 : Fld Z h204 o0 "com/example/incarico/incarico/load/LoadConfig" "members" "I" (.int p3) := c195.other W204 (Or.inr (slot_ne (Or.inr (hw _ (List.mem_of_getElem? (i := 28) rfl))) (Or.inr (hw _ (List.mem_of_getElem? (i := 44) rfl))) (by decide) (t := .int) (t' := .int) (by decide) (by decide)))
  have c215 : Fld Z h204 o0 "com/example/incarico/incarico/load/LoadConfig" "groups" "I" (.int p4) := c196.other W204 (Or.inr (slot_ne (Or.inr (hw _ (List.mem_of_getElem? (i := 30) rfl))) (Or.inr (hw _ (List.mem_of_getElem? (i := 44) rfl))) (by decide) (t := .int) (t' := .int) (by decide) (by decide)))
  have c216 : Fld Z h204 o0 "com/example/incarico/incarico/load/LoadConfig" "partitions" "I" (.int p5) := c197.other W204 (Or.inr (slot_ne (Or.inr (hw _ (List.mem_of_getElem? (i := 32) rfl))) (Or.inr (hw _ (List.mem_of_getElem? (i := 44) rfl))) (by decide) (t := .int) (t' := .int) (by decide) (by decide)))
  have c217 : Fld Z h204 o0 "com/example/incarico/incarico/load/LoadConfig" "growTo" "I" (.int p6) := c198.other W204 (Or.inr (slot_ne (Or.inr (hw _ (List.mem_of_getElem? (i := 34) rfl))) (Or.inr (hw _ (List.mem_of_getElem? (i := 44) rfl))) (by decide) (t := .int) (t' := .int) (by decide) (by decide)))
  have c218 : Fld Z h204 o0 "com/example/incarico/incarico/load/LoadConfig" "heartbeatIntervalMs" "I" (.int p7) := c199.other W204 (Or.inr (slot_ne (Or.inr (hw _ (List.mem_of_getElem? (i := 36) rfl))) (Or.inr (hw _ (List.mem_of_getElem? (i := 44) rfl))) (by decide) (t := .int) (t' := .int) (by decide) (by decide)))
  have c219 : Fld Z h204 o0 "com/example/incarico/incarico/load/LoadConfig" "sessionTimeoutMs" "I" (.int p8) := c200.other W204 (Or.inr (slot_ne (Or.inr (hw _ (List.mem_of_getElem? (i := 38) rfl))) (Or.inr (hw _ (List.mem_of_getElem? (i := 44) rfl))) (by decide) (t := .int) (t' := .int) (by decide) (by decide)))
  have c220 : Fld Z h204 o0 "com/example/incarico/incarico/load/LoadConfig" "joinS" "I" (.int p9) := c201.other W204 (Or.inr (slot_ne (Or.inr (hw _ (List.mem_of_getElem? (i := 40) rfl))) (Or.inr (hw _ (List.mem_of_getElem? (i := 44) rfl))) (by decide) (t := .int) (t' := .int) (by decide) (by decide)))
  have c221 : Fld Z h204 o0 "com/example/incarico/incarico/load/LoadConfig" "measureS" "I" (.int p10) := Fw184.other W204 (Or.inr (slot_ne (Or.inr (hw _ (List.mem_of_getElem? (i := 42) rfl))) (Or.inr (hw _ (List.mem_of_getElem? (i := 44) rfl))) (by decide) (t := .int) (t' := .int) (by decide) (by decide)))
  have K222 : Keep h0 h204 [o0] := K202.wr W204 (Or.inl (List.mem_of_getElem? (i := 0) rfl))
  have N204 := Fr.snoc X204 N184 g_o0
  have pre223 : ∀ t, Steps p.tables e below (T204.setTop (mkF m 70 #[.val (.ref o0), .val (.ref o1), .val (.int p2), .val (.int p3), .val (.int p4), .val (.int p5), .val (.int p6), .val (.int p7), .val (.int p8), .val (.int p9), .val (.int p10), .val (.int p11), .val (.double u12), .second, .val (.double u13), .second, .val (.double u14), .second, .val (.int p15), .val (.int p16)] [(.double u12), (.ref o0)])) t → P t := fun t k => pre204 t (by
      show Steps p.tables e below (T204.setTop (mkF m 67 #[.val (.ref o0), .val (.ref o1), .val (.int p2), .val (.int p3), .val (.int p4), .val (.int p5), .val (.int p6), .val (.int p7), .val (.int p8), .val (.int p9), .val (.int p10), .val (.int p11), .val (.double u12), .second, .val (.double u13), .second, .val (.double u14), .second, .val (.int p15), .val (.int p16)] [])) _
      refine XS.aloadN X204.here hx rfl (hb hby d1_67) rfl rfl ?_
      show Steps p.tables e below (T204.setTop (mkF m 68 #[.val (.ref o0), .val (.ref o1), .val (.int p2), .val (.int p3), .val (.int p4), .val (.int p5), .val (.int p6), .val (.int p7), .val (.int p8), .val (.int p9), .val (.int p10), .val (.int p11), .val (.double u12), .second, .val (.double u13), .second, .val (.double u14), .second, .val (.int p15), .val (.int p16)] [(.ref o0)])) _
      refine XS.dload X204.here hx rfl (hb hby d1_68) rfl ?_
      exact k)
  obtain ⟨T224, h224, X224, e224, W224, st224⟩ := putF X204 hx hZ hown (host := "") (Or.inl (hw _ (List.mem_of_getElem? (i := 45) rfl))) Via.refl e204 c207 c206 (Or.inr ⟨(hw _ (List.mem_of_getElem? (i := 46) rfl)), rfl, hnm⟩) (hw _ (List.mem_of_getElem? (i := 2) rfl)) (ty := .double) (by decide) rfl rfl (g := (mkF m 70 #[.val (.ref o0), .val (.ref o1), .val (.int p2), .val (.int p3), .val (.int p4), .val (.int p5), .val (.int p6), .val (.int p7), .val (.int p8), .val (.int p9), .val (.int p10), .val (.int p11), .val (.double u12), .second, .val (.double u13), .second, .val (.double u14), .second, .val (.int p15), .val (.int p16)] [(.double u12), (.ref o0)])) rfl rfl (hb hby d1_70)
  have pre224 : ∀ t, Steps p.tables e below (T224.setTop (mkF m 73 #[.val (.ref o0), .val (.ref o1), .val (.int p2), .val (.int p3), .val (.int p4), .val (.int p5), .val (.int p6), .val (.int p7), .val (.int p8), .val (.int p9), .val (.int p10), .val (.int p11), .val (.double u12), .second, .val (.double u13), .second, .val (.double u14), .second, .val (.int p15), .val (.int p16)] [])) t → P t := fun t k => pre223 t (st224 _ k)
  have Fw224 := c207.same W224
  have c225 : n0 ≤ h224.size := Nat.le_trans c205 (Keep.of_wr W224).1
  have c226 : Exa Z h224 o0 "com/example/incarico/incarico/load/LoadConfig" := c206.wr W224
  have c227 : Fld Z h224 o0 "com/example/incarico/incarico/load/LoadConfig" "commitRate" "D" (.double 0) := c208.other W224 (Or.inr (slot_ne (Or.inr (hw _ (List.mem_of_getElem? (i := 48) rfl))) (Or.inr (hw _ (List.mem_of_getElem? (i := 46) rfl))) (by decide) (t := .double) (t' := .double) (by decide) (by decide)))
  have c228 : Fld Z h224 o0 "com/example/incarico/incarico/load/LoadConfig" "p99LimitMs" "D" (.double 0) := c209.other W224 (Or.inr (slot_ne (Or.inr (hw _ (List.mem_of_getElem? (i := 50) rfl))) (Or.inr (hw _ (List.mem_of_getElem? (i := 46) rfl))) (by decide) (t := .double) (t' := .double) (by decide) (by decide)))
  have c229 : Fld Z h224 o0 "com/example/incarico/incarico/load/LoadConfig" "pauseAtS" "I" (.int (0 : Int32)) := c210.other W224 (Or.inr (slot_ne (Or.inr (hw _ (List.mem_of_getElem? (i := 52) rfl))) (Or.inr (hw _ (List.mem_of_getElem? (i := 46) rfl))) (by decide) (t := .int) (t' := .double) (by decide) (by decide)))
  have c230 : Fld Z h224 o0 "com/example/incarico/incarico/load/LoadConfig" "pauseS" "I" (.int (0 : Int32)) := c211.other W224 (Or.inr (slot_ne (Or.inr (hw _ (List.mem_of_getElem? (i := 54) rfl))) (Or.inr (hw _ (List.mem_of_getElem? (i := 46) rfl))) (by decide) (t := .int) (t' := .double) (by decide) (by decide)))
  have c231 : Fld Z h224 o0 "com/example/incarico/incarico/load/LoadConfig" "serverClassPath" "Ljava/lang/String;" (.ref o1) := c212.other W224 (Or.inr (slot_ne (Or.inr (hw _ (List.mem_of_getElem? (i := 24) rfl))) (Or.inr (hw _ (List.mem_of_getElem? (i := 46) rfl))) (by decide) (t := (.object "java/lang/String")) (t' := .double) (by decide) (by decide)))
  have c232 : Fld Z h224 o0 "com/example/incarico/incarico/load/LoadConfig" "inMemory" "Z" (.int (nar .boolean p2)) := c213.other W224 (Or.inr (slot_ne (Or.inr (hw _ (List.mem_of_getElem? (i := 26) rfl))) (Or.inr (hw _ (List.mem_of_getElem? (i := 46) rfl))) (by decide) (t := .boolean) (t' := .double) (by decide) (by decide)))
  have c233 : Fld Z h224 o0 "com/example/incarico/incarico/load/LoadConfig" "members" "I" (.int p3) := c214.other W224 (Or.inr (slot_ne (Or.inr (hw _ (List.mem_of_getElem? (i := 28) rfl))) (Or.inr (hw _ (List.mem_of_getElem? (i := 46) rfl))) (by decide) (t := .int) (t' := .double) (by decide) (by decide)))
  have c234 : Fld Z h224 o0 "com/example/incarico/incarico/load/LoadConfig" "groups" "I" (.int p4) := c215.other W224 (Or.inr (slot_ne (Or.inr (hw _ (List.mem_of_getElem? (i := 30) rfl))) (Or.inr (hw _ (List.mem_of_getElem? (i := 46) rfl))) (by decide) (t := .int) (t' := .double) (by decide) (by decide)))
  have c235 : Fld Z h224 o0 "com/example/incarico/incarico/load/LoadConfig" "partitions" "I" (.int p5) := c216.other W224 (Or.inr (slot_ne (Or.inr (hw _ (List.mem_of_getElem? (i := 32) rfl))) (Or.inr (hw _ (List.mem_of_getElem? (i := 46) rfl))) (by decide) (t := .int) (t' := .double) (by decide) (by decide)))
  have c236 : Fld Z h224 o0 "com/example/incarico/incarico/load/LoadConfig" "growTo" "I" (.int p6) := c217.other W224 (Or.inr (slot_ne (Or.inr (hw _ (List.mem_of_getElem? (i := 34) rfl))) (Or.inr (hw _ (List.mem_of_getElem? (i := 46) rfl))) (by decide) (t := .int) (t' := .double) (by decide) (by decide)))
  have c237 : Fld Z h224 o0 "com/example/incarico/incarico/load/LoadConfig" "heartbeatIntervalMs" "I" (.int p7) := c218.other W224 (Or.inr (slot_ne (Or.inr (hw _ (List.mem_of_getElem? (i := 36) rfl))) (Or.inr (hw _ (List.mem_of_getElem? (i := 46) rfl))) (by decide) (t := .int) (t' := .double) (by decide) (by decide)))
  have c238 : Fld Z h224 o0 "com/example/incarico/incarico/load/LoadConfig" "sessionTimeoutMs" "I" (.int p8) := c219.other W224 (Or.inr (slot_ne (Or.inr (hw _ (List.mem_of_getElem? (i := 38) rfl))) (Or.inr (hw _ (List.mem_of_getElem? (i := 46) rfl))) (by decide) (t := .int) (t' := .double) (by decide) (by decide)))
  have c239 : Fld Z h224 o0 "com/example/incarico/incarico/load/LoadConfig" "joinS" "I" (.int p9) := c220.other W224 (Or.inr (slot_ne (Or.inr (hw _ (List.mem_of_getElem? (i := 40) rfl))) (Or.inr (hw _ (List.mem_of_getElem? (i := 46) rfl))) (by decide) (t := .int) (t' := .double) (by decide) (by decide)))
  have c240 : Fld Z h224 o0 "com/example/incarico/incarico/load/LoadConfig" "measureS" "I" (.int p10) := c221.other W224 (Or.inr (slot_ne (Or.inr (hw _ (List.mem_of_getElem? (i := 42) rfl))) (Or.inr (hw _ (List.mem_of_getElem? (i := 46) rfl))) (by decide) (t := .int) (t' := .double) (by decide) (by decide)))
  have c241 : Fld Z h224 o0 "com/example/incarico/incarico/load/LoadConfig" "growAtS" "I" (.int p11) := Fw204.other W224 (Or.inr (slot_ne (Or.inr (hw _ (List.mem_of_getElem? (i := 44) rfl))) (Or.inr (hw _ (List.mem_of_getElem? (i := 46) rfl))) (by decide) (t := .int) (t' := .double) (by decide) (by decide)))
  have K242 : Keep h0 h224 [o0] := K222.wr W224 (Or.inl (List.mem_of_getElem? (i := 0) rfl))
  have N224 := Fr.snoc X224 N204 g_o0
  have pre243 : ∀ t, Steps p.tables e below (T224.setTop (mkF m 76 #[.val (.ref o0), .val (.ref o1), .val (.int p2), .val (.int p3), .val (.int p4), .val (.int p5), .val (.int p6), .val (.int p7), .val (.int p8), .val (.int p9), .val (.int p10), .val (.int p11), .val (.double u12), .second, .val (.double u13), .second, .val (.double u14), .second, .val (.int p15), .val (.int p16)] [(.double u13), (.ref o0)])) t → P t := fun t k => pre224 t (by
      show Steps p.tables e below (T224.setTop (mkF m 73 #[.val (.ref o0), .val (.ref o1), .val (.int p2), .val (.int p3), .val (.int p4), .val (.int p5), .val (.int p6), .val (.int p7), .val (.int p8), .val (.int p9), .val (.int p10), .val (.int p11), .val (.double u12), .second, .val (.double u13), .second, .val (.double u14), .second, .val (.int p15), .val (.int p16)] [])) _
      refine XS.aloadN X224.here hx rfl (hb hby d1_73) rfl rfl ?_
      show Steps p.tables e below (T224.setTop (mkF m 74 #[.val (.ref o0), .val (.ref o1), .val (.int p2), .val (.int p3), .val (.int p4), .val (.int p5), .val (.int p6), .val (.int p7), .val (.int p8), .val (.int p9), .val (.int p10), .val (.int p11), .val (.double u12), .second, .val (.double u13), .second, .val (.double u14), .second, .val (.int p15), .val (.int p16)] [(.ref o0)])) _
      refine XS.dload X224.here hx rfl (hb hby d1_74) rfl ?_
      exact k)
  obtain ⟨T244, h244, X244, e244, W244, st244⟩ := putF X224 hx hZ hown (host := "") (Or.inl (hw _ (List.mem_of_getElem? (i := 47) rfl))) Via.refl e224 c227 c226 (Or.inr ⟨(hw _ (List.mem_of_getElem? (i := 48) rfl)), rfl, hnm⟩) (hw _ (List.mem_of_getElem? (i := 2) rfl)) (ty := .double) (by decide) rfl rfl (g := (mkF m 76 #[.val (.ref o0), .val (.ref o1), .val (.int p2), .val (.int p3), .val (.int p4), .val (.int p5), .val (.int p6), .val (.int p7), .val (.int p8), .val (.int p9), .val (.int p10), .val (.int p11), .val (.double u12), .second, .val (.double u13), .second, .val (.double u14), .second, .val (.int p15), .val (.int p16)] [(.double u13), (.ref o0)])) rfl rfl (hb hby d1_76)
  have pre244 : ∀ t, Steps p.tables e below (T244.setTop (mkF m 79 #[.val (.ref o0), .val (.ref o1), .val (.int p2), .val (.int p3), .val (.int p4), .val (.int p5), .val (.int p6), .val (.int p7), .val (.int p8), .val (.int p9), .val (.int p10), .val (.int p11), .val (.double u12), .second, .val (.double u13), .second, .val (.double u14), .second, .val (.int p15), .val (.int p16)] [])) t → P t := fun t k => pre243 t (st244 _ k)
  have Fw244 := c227.same W244
  have c245 : n0 ≤ h244.size := Nat.le_trans c225 (Keep.of_wr W244).1
  have c246 : Exa Z h244 o0 "com/example/incarico/incarico/load/LoadConfig" := c226.wr W244
  have c247 : Fld Z h244 o0 "com/example/incarico/incarico/load/LoadConfig" "p99LimitMs" "D" (.double 0) := c228.other W244 (Or.inr (slot_ne (Or.inr (hw _ (List.mem_of_getElem? (i := 50) rfl))) (Or.inr (hw _ (List.mem_of_getElem? (i := 48) rfl))) (by decide) (t := .double) (t' := .double) (by decide) (by decide)))
  have c248 : Fld Z h244 o0 "com/example/incarico/incarico/load/LoadConfig" "pauseAtS" "I" (.int (0 : Int32)) := c229.other W244 (Or.inr (slot_ne (Or.inr (hw _ (List.mem_of_getElem? (i := 52) rfl))) (Or.inr (hw _ (List.mem_of_getElem? (i := 48) rfl))) (by decide) (t := .int) (t' := .double) (by decide) (by decide)))
  have c249 : Fld Z h244 o0 "com/example/incarico/incarico/load/LoadConfig" "pauseS" "I" (.int (0 : Int32)) := c230.other W244 (Or.inr (slot_ne (Or.inr (hw _ (List.mem_of_getElem? (i := 54) rfl))) (Or.inr (hw _ (List.mem_of_getElem? (i := 48) rfl))) (by decide) (t := .int) (t' := .double) (by decide) (by decide)))
  have c250 : Fld Z h244 o0 "com/example/incarico/incarico/load/LoadConfig" "serverClassPath" "Ljava/lang/String;" (.ref o1) := c231.other W244 (Or.inr (slot_ne (Or.inr (hw _ (List.mem_of_getElem? (i := 24) rfl))) (Or.inr (hw _ (List.mem_of_getElem? (i := 48) rfl))) (by decide) (t := (.object "java/lang/String")) (t' := .double) (by decide) (by decide)))
  have c251 : Fld Z h244 o0 "com/example/incarico/incarico/load/LoadConfig" "inMemory" "Z" (.int (nar .boolean p2)) := c232.other W244 (Or.inr (slot_ne (Or.inr (hw _ (List.mem_of_getElem? (i := 26) rfl))) (Or.inr (hw _ (List.mem_of_getElem? (i := 48) rfl))) (by decide) (t := .boolean) (t' := .double) (by decide) (by decide)))
  have c252 : Fld Z h244 o0 "com/example/incarico/incarico/load/LoadConfig" "members" "I" (.int p3) := c233.other W244 (Or.inr (slot_ne (Or.inr (hw _ (List.mem_of_getElem? (i := 28) rfl))) (Or.inr (hw _ (List.mem_of_getElem? (i := 48) rfl))) (by decide) (t := .int) (t' := .double) (by decide) (by decide)))
  have c253 : Fld Z h244 o0 "com/example/incarico/incarico/load/LoadConfig" "groups" "I" (.int p4) := c234.other W244 (Or.inr (slot_ne (Or.inr (hw _ (List.mem_of_getElem? (i := 30) rfl))) (Or.inr (hw _ (List.mem_of_getElem? (i := 48) rfl))) (by decide) (t := .int) (t' := .double) (by decide) (by decide)))
  have c254 : Fld Z h244 o0 "com/example/incarico/incarico/load/LoadConfig" "partitions" "I" (.int p5) := c235.other W244 (Or.inr (slot_ne (Or.inr (hw _ (List.mem_of_getElem? (i := 32) rfl))) (Or.inr (hw _ (List.mem_of_getElem? (i := 48) rfl))) (by decide) (t := .int) (t' := .double) (by decide) (by decide)))
  have c255 : Fld Z h244 o0 "com/example/incarico/incarico/load/LoadConfig" "growTo" "I" (.int p6) := c236.other W244 (Or.inr (slot_ne (Or.inr (hw _ (List.mem_of_getElem? (i := 34) rfl))) (Or.inr (hw _ (List.mem_of_getElem? (i := 48) rfl))) (by decide) (t := .int) (t' := .double) (by decide) (by decide)))
  have c256 : Fld Z h244 o0 "com/example/incarico/incarico/load/LoadConfig" "heartbeatIntervalMs" "I" (.int p7) := c237.other W244 (Or.inr (slot_ne (Or.inr (hw _ (List.mem_of_getElem? (i := 36) rfl))) (Or.inr (hw _ (List.mem_of_getElem? (i := 48) rfl))) (by decide) (t := .int) (t' := .double) (by decide) (by decide)))
  have c257 : Fld Z h244 o0 "com/example/incarico/incarico/load/LoadConfig" "sessionTimeoutMs" "I" (.int p8) := c238.other W244 (Or.inr (slot_ne (Or.inr (hw _ (List.mem_of_getElem? (i := 38) rfl))) (Or.inr (hw _ (List.mem_of_getElem? (i := 48) rfl))) (by decide) (t := .int) (t' := .double) (by decide) (by decide)))
  have c258 : Fld Z h244 o0 "com/example/incarico/incarico/load/LoadConfig" "joinS" "I" (.int p9) := c239.other W244 (Or.inr (slot_ne (Or.inr (hw _ (List.mem_of_getElem? (i := 40) rfl))) (Or.inr (hw _ (List.mem_of_getElem? (i := 48) rfl))) (by decide) (t := .int) (t' := .double) (by decide) (by decide)))
  have c259 : Fld Z h244 o0 "com/example/incarico/incarico/load/LoadConfig" "measureS" "I" (.int p10) := c240.other W244 (Or.inr (slot_ne (Or.inr (hw _ (List.mem_of_getElem? (i := 42) rfl))) (Or.inr (hw _ (List.mem_of_getElem? (i := 48) rfl))) (by decide) (t := .int) (t' := .double) (by decide) (by decide)))
  have c260 : Fld Z h244 o0 "com/example/incarico/incarico/load/LoadConfig" "growAtS" "I" (.int p11) := c241.other W244 (Or.inr (slot_ne (Or.inr (hw _ (List.mem_of_getElem? (i := 44) rfl))) (Or.inr (hw _ (List.mem_of_getElem? (i := 48) rfl))) (by decide) (t := .int) (t' := .double) (by decide) (by decide)))
  have c261 : Fld Z h244 o0 "com/example/incarico/incarico/load/LoadConfig" "metadataRate" "D" (.double u12) := Fw224.other W244 (Or.inr (slot_ne (Or.inr (hw _ (List.mem_of_getElem? (i := 46) rfl))) (Or.inr (hw _ (List.mem_of_getElem? (i := 48) rfl))) (by decide) (t := .double) (t' := .double) (by decide) (by decide)))
  have K262 : Keep h0 h244 [o0] := K242.wr W244 (Or.inl (List.mem_of_getElem? (i := 0) rfl))
  have N244 := Fr.snoc X244 N224 g_o0
  have pre263 : ∀ t, Steps p.tables e below (T244.setTop (mkF m 82 #[.val (.ref o0), .val (.ref o1), .val (.int p2), .val (.int p3), .val (.int p4), .val (.int p5), .val (.int p6), .val (.int p7), .val (.int p8), .val (.int p9), .val (.int p10), .val (.int p11), .val (.double u12), .second, .val (.double u13), .second, .val (.double u14), .second, .val (.int p15), .val (.int p16)] [(.double u14), (.ref o0)])) t → P t := fun t k => pre244 t (by
      show Steps p.tables e below (T244.setTop (mkF m 79 #[.val (.ref o0), .val (.ref o1), .val (.int p2), .val (.int p3), .val (.int p4), .val (.int p5), .val (.int p6), .val (.int p7), .val (.int p8), .val (.int p9), .val (.int p10), .val (.int p11), .val (.double u12), .second, .val (.double u13), .second, .val (.double u14), .second, .val (.int p15), .val (.int p16)] [])) _
      refine XS.aloadN X244.here hx rfl (hb hby d1_79) rfl rfl ?_
      show Steps p.tables e below (T244.setTop (mkF m 80 #[.val (.ref o0), .val (.ref o1), .val (.int p2), .val (.int p3), .val (.int p4), .val (.int p5), .val (.int p6), .val (.int p7), .val (.int p8), .val (.int p9), .val (.int p10), .val (.int p11), .val (.double u12), .second, .val (.double u13), .second, .val (.double u14), .second, .val (.int p15), .val (.int p16)] [(.ref o0)])) _
      refine XS.dload X244.here hx rfl (hb hby d1_80) rfl ?_
      exact k)
  obtain ⟨T264, h264, X264, e264, W264, st264⟩ := putF X244 hx hZ hown (host := "") (Or.inl (hw _ (List.mem_of_getElem? (i := 49) rfl))) Via.refl e244 c247 c246 (Or.inr ⟨(hw _ (List.mem_of_getElem? (i := 50) rfl)), rfl, hnm⟩) (hw _ (List.mem_of_getElem? (i := 2) rfl)) (ty := .double) (by decide) rfl rfl (g := (mkF m 82 #[.val (.ref o0), .val (.ref o1), .val (.int p2), .val (.int p3), .val (.int p4), .val (.int p5), .val (.int p6), .val (.int p7), .val (.int p8), .val (.int p9), .val (.int p10), .val (.int p11), .val (.double u12), .second, .val (.double u13), .second, .val (.double u14), .second, .val (.int p15), .val (.int p16)] [(.double u14), (.ref o0)])) rfl rfl (hb hby d1_82)
  have pre264 : ∀ t, Steps p.tables e below (T264.setTop (mkF m 85 #[.val (.ref o0), .val (.ref o1), .val (.int p2), .val (.int p3), .val (.int p4), .val (.int p5), .val (.int p6), .val (.int p7), .val (.int p8), .val (.int p9), .val (.int p10), .val (.int p11), .val (.double u12), .second, .val (.double u13), .second, .val (.double u14), .second, .val (.int p15), .val (.int p16)] [])) t → P t := fun t k => pre263 t (st264 _ k)
  have Fw264 := c247.same W264
  have c265 : n0 ≤ h264.size := Nat.le_trans c245 (Keep.of_wr W264).1
  have c266 : Exa Z h264 o0 "com/example/incarico/incarico/load/LoadConfig" := c246.wr W264
  have c267 : Fld Z h264 o0 "com/example/incarico/incarico/load/LoadConfig" "pauseAtS" "I" (.int (0 : Int32)) := c248.other W264 (Or.inr (slot_ne (Or.inr (hw _ (List.mem_of_getElem? (i := 52) rfl))) (Or.inr (hw _ (List.mem_of_getElem? (i := 50) rfl))) (by decide) (t := .int) (t' := .double) (by decide) (by decide)))
  have c268 : Fld Z h264 o0 "com/example/incarico/incarico/load/LoadConfig" "pauseS" "I" (.int (0 : Int32)) := c249.other W264 (Or.inr (slot_ne (Or.inr (hw _ (List.mem_of_getElem? (i := 54) rfl))) (Or.inr (hw _ (List.mem_of_getElem? (i := 50) rfl))) (by decide) (t := .int) (t' := .double) (by decide) (by decide)))
  have c269 : Fld Z h264 o0 "com/example/incarico/incarico/load/LoadConfig" "serverClassPath" "Ljava/lang/String;" (.ref o1) := c250.other W264 (Or.inr (slot_ne (Or.inr (hw _ (List.mem_of_getElem? (i := 24) rfl))) (Or.inr (hw _ (List.mem_of_getElem? (i := 50) rfl))) (by decide) (t := (.object "java/lang/String")) (t' := .double) (by decide) (by decide)))
  have c270 : Fld Z h264 o0 "com/example/incarico/incarico/load/LoadConfig" "inMemory" "Z" (.int (nar .boolean p2)) := c251.other W264 (Or.inr (slot_ne (Or.inr (hw _ (List.mem_of_getElem? (i := 26) rfl))) (Or.inr (hw _ (List.mem_of_getElem? (i := 50) rfl))) (by decide) (t := .boolean) (t' := .double) (by decide) (by decide)))
  have c271 : Fld Z h264 o0 "com/example/incarico/incarico/load/LoadConfig" "members" "I" (.int p3) := c252.other W264 (Or.inr (slot_ne (Or.inr (hw _ (List.mem_of_getElem? (i := 28) rfl))) (Or.inr (hw _ (List.mem_of_getElem? (i := 50) rfl))) (by decide) (t := .int) (t' := .double) (by decide) (by decide)))
  have c272 : Fld Z h264 o0 "com/example/incarico/incarico/load/LoadConfig" "groups" "I" (.int p4) := c253.other W264 (Or.inr (slot_ne (Or.inr (hw _ (List.mem_of_getElem? (i := 30) rfl))) (Or.inr (hw _ (List.mem_of_getElem? (i := 50) rfl))) (by decide) (t := .int) (t' := .double) (by decide) (by decide)))
  have c273 : Fld Z h264 o0 "com/example/incarico/incarico/load/LoadConfig" "partitions" "I" (.int p5) := c254.other W264 (Or.inr (slot_ne (Or.inr (hw _ (List.mem_of_getElem? (i := 32) rfl))) (Or.inr (hw _ (List.mem_of_getElem? (i := 50) rfl))) (by decide) (t := .int) (t' := .double) (by decide) (by decide)))
  have c274 : Fld Z h264 o0 "com/example/incarico/incarico/load/LoadConfig" "growTo" "I" (.int p6) := c255.other W264 (Or.inr (slot_ne (Or.inr (hw _ (List.mem_of_getElem? (i := 34) rfl))) (Or.inr (hw _ (List.mem_of_getElem? (i := 50) rfl))) (by decide) (t := .int) (t' := .double) (by decide) (by decide)))
  have c275 : Fld Z h264 o0 "com/example/incarico/incarico/load/LoadConfig" "heartbeatIntervalMs" "I" (.int p7) := c256.other W264 (Or.inr (slot_ne (Or.inr (hw _ (List.mem_of_getElem? (i := 36) rfl))) (Or.inr (hw _ (List.mem_of_getElem? (i := 50) rfl))) (by decide) (t := .int) (t' := .double) (by decide) (by decide)))
  have c276 : Fld Z h264 o0 "com/example/incarico/incarico/load/LoadConfig" "sessionTimeoutMs" "I" (.int p8) := c257.other W264 (Or.inr (slot_ne (Or.inr (hw _ (List.mem_of_getElem? (i := 38) rfl))) (Or.inr (hw _ (List.mem_of_getElem? (i := 50) rfl))) (by decide) (t := .int) (t' := .double) (by decide) (by decide)))
  have c277 : Fld Z h264 o0 "com/example/incarico/incarico/load/LoadConfig" "joinS" "I" (.int p9) := c258.other W264 (Or.inr (slot_ne (Or.inr (hw _ (List.mem_of_getElem? (i := 40) rfl))) (Or.inr (hw _ (List.mem_of_getElem? (i := 50) rfl))) (by decide) (t := .int) (t' := .double) (by decide) (by decide)))
  have c278 : Fld Z h264 o0 "com/example/incarico/incarico/load/LoadConfig" "measureS" "I" (.int p10) := c259.other W264 (Or.inr (slot_ne (Or.inr (hw _ (List.mem_of_getElem? (i := 42) rfl))) (Or.inr (hw _ (List.mem_of_getElem? (i := 50) rfl))) (by decide) (t := .int) (t' := .double) (by decide) (by decide)))
  have c279 : Fld Z h264 o0 "com/example/incarico/incarico/load/LoadConfig" "growAtS" "I" (.int p11) := c260.other W264 (Or.inr (slot_ne (Or.inr (hw _ (List.mem_of_getElem? (i := 44) rfl))) (Or.inr (hw _ (List.mem_of_getElem? (i := 50) rfl))) (by decide) (t := .int) (t' := .double) (by decide) (by decide)))
  have c280 : Fld Z h264 o0 "com/example/incarico/incarico/load/LoadConfig" "metadataRate" "D" (.double u12) := c261.other W264 (Or.inr (slot_ne (Or.inr (hw _ (List.mem_of_getElem? (i := 46) rfl))) (Or.inr (hw _ (List.mem_of_getElem? (i := 50) rfl))) (by decide) (t := .double) (t' := .double) (by decide) (by decide)))
  have c281 : Fld Z h264 o0 "com/example/incarico/incarico/load/LoadConfig" "commitRate" "D" (.double u13) := Fw244.other W264 (Or.inr (slot_ne (Or.inr (hw _ (List.mem_of_getElem? (i := 48) rfl))) (Or.inr (hw _ (List.mem_of_getElem? (i := 50) rfl))) (by decide) (t := .double) (t' := .double) (by decide) (by decide)))
  have K282 : Keep h0 h264 [o0] := K262.wr W264 (Or.inl (List.mem_of_getElem? (i := 0) rfl))
  have N264 := Fr.snoc X264 N244 g_o0
  have pre283 : ∀ t, Steps p.tables e below (T264.setTop (mkF m 88 #[.val (.ref o0), .val (.ref o1), .val (.int p2), .val (.int p3), .val (.int p4), .val (.int p5), .val (.int p6), .val (.int p7), .val (.int p8), .val (.int p9), .val (.int p10), .val (.int p11), .val (.double u12), .second, .val (.double u13), .second, .val (.double u14), .second, .val (.int p15), .val (.int p16)] [(.int p15), (.ref o0)])) t → P t := fun t k => pre264 t (by
      show Steps p.tables e below (T264.setTop (mkF m 85 #[.val (.ref o0), .val (.ref o1), .val (.int p2), .val (.int p3), .val (.int p4), .val (.int p5), .val (.int p6), .val (.int p7), .val (.int p8), .val (.int p9), .val (.int p10), .val (.int p11), .val (.double u12), .second, .val (.double u13), .second, .val (.double u14), .second, .val (.int p15), .val (.int p16)] [])) _
      refine XS.aloadN X264.here hx rfl (hb hby d1_85) rfl rfl ?_
      show Steps p.tables e below (T264.setTop (mkF m 86 #[.val (.ref o0), .val (.ref o1), .val (.int p2), .val (.int p3), .val (.int p4), .val (.int p5), .val (.int p6), .val (.int p7), .val (.int p8), .val (.int p9), .val (.int p10), .val (.int p11), .val (.double u12), .second, .val (.double u13), .second, .val (.double u14), .second, .val (.int p15), .val (.int p16)] [(.ref o0)])) _
      refine XS.iload X264.here hx rfl (hb hby d1_86) rfl ?_
      exact k)
  obtain ⟨T284, h284, X284, e284, W284, st284⟩ := putF X264 hx hZ hown (host := "") (Or.inl (hw _ (List.mem_of_getElem? (i := 51) rfl))) Via.refl e264 c267 c266 (Or.inr ⟨(hw _ (List.mem_of_getElem? (i := 52) rfl)), rfl, hnm⟩) (hw _ (List.mem_of_getElem? (i := 2) rfl)) (ty := .int) (by decide) rfl rfl (g := (mkF m 88 #[.val (.ref o0), .val (.ref o1), .val (.int p2), .val (.int p3), .val (.int p4), .val (.int p5), .val (.int p6), .val (.int p7), .val (.int p8), .val (.int p9), .val (.int p10), .val (.int p11), .val (.double u12), .second, .val (.double u13), .second, .val (.double u14), .second, .val (.int p15), .val (.int p16)] [(.int p15), (.ref o0)])) rfl rfl (hb hby d1_88)
  have pre284 : ∀ t, Steps p.tables e below (T284.setTop (mkF m 91 #[.val (.ref o0), .val (.ref o1), .val (.int p2), .val (.int p3), .val (.int p4), .val (.int p5), .val (.int p6), .val (.int p7), .val (.int p8), .val (.int p9), .val (.int p10), .val (.int p11), .val (.double u12), .second, .val (.double u13), .second, .val (.double u14), .second, .val (.int p15), .val (.int p16)] [])) t → P t := fun t k => pre283 t (st284 _ k)
  have Fw284 := c267.same W284
  have c285 : n0 ≤ h284.size := Nat.le_trans c265 (Keep.of_wr W284).1
  have c286 : Exa Z h284 o0 "com/example/incarico/incarico/load/LoadConfig" := c266.wr W284
  have c287 : Fld Z h284 o0 "com/example/incarico/incarico/load/LoadConfig" "pauseS" "I" (.int (0 : Int32)) := c268.other W284 (Or.inr (slot_ne (Or.inr (hw _ (List.mem_of_getElem? (i := 54) rfl))) (Or.inr (hw _ (List.mem_of_getElem? (i := 52) rfl))) (by decide) (t := .int) (t' := .int) (by decide) (by decide)))
  have c288 : Fld Z h284 o0 "com/example/incarico/incarico/load/LoadConfig" "serverClassPath" "Ljava/lang/String;" (.ref o1) := c269.other W284 (Or.inr (slot_ne (Or.inr (hw _ (List.mem_of_getElem? (i := 24) rfl))) (Or.inr (hw _ (List.mem_of_getElem? (i := 52) rfl))) (by decide) (t := (.object "java/lang/String")) (t' := .int) (by decide) (by decide)))
  have c289 : Fld Z h284 o0 "com/example/incarico/incarico/load/LoadConfig" "inMemory" "Z" (.int (nar .boolean p2)) := c270.other W284 (Or.inr (slot_ne (Or.inr (hw _ (List.mem_of_getElem? (i := 26) rfl))) (Or.inr (hw _ (List.mem_of_getElem? (i := 52) rfl))) (by decide) (t := .boolean) (t' := .int) (by decide) (by decide)))
  have c290 : Fld Z h284 o0 "com/example/incarico/incarico/load/LoadConfig" "members" "I" (.int p3) := c271.other W284 (Or.inr (slot_ne (Or.inr (hw _ (List.mem_of_getElem? (i := 28) rfl))) (Or.inr (hw _ (List.mem_of_getElem? (i := 52) rfl))) (by decide) (t := .int) (t' := .int) (by decide) (by decide)))
  have c291 : Fld Z h284 o0 "com/example/incarico/incarico/load/LoadConfig" "groups" "I" (.int p4) := c272.other W284 (Or.inr (slot_ne (Or.inr (hw _ (List.mem_of_getElem? (i := 30) rfl))) (Or.inr (hw _ (List.mem_of_getElem? (i := 52) rfl))) (by decide) (t := .int) (t' := .int) (by decide) (by decide)))
  have c292 : Fld Z h284 o0 "com/example/incarico/incarico/load/LoadConfig" "partitions" "I" (.int p5) := c273.other W284 (Or.inr (slot_ne (Or.inr (hw _ (List.mem_of_getElem? (i := 32) rfl))) (Or.inr (hw _ (List.mem_of_getElem? (i := 52) rfl))) (by decide) (t := .int) (t' := .int) (by decide) (by decide)))
  have c293 : Fld Z h284 o0 "com/example/incarico/incarico/load/LoadConfig" "growTo" "I" (.int p6) := c274.other W284 (Or.inr (slot_ne (Or.inr (hw _ (List.mem_of_getElem? (i := 34) rfl))) (Or.inr (hw _ (List.mem_of_getElem? (i := 52) rfl))) (by decide) (t := .int) (t' := .int) (by decide) (by decide)))
  have c294 : Fld Z h284 o0 "com/example/incarico/incarico/load/LoadConfig" "heartbeatIntervalMs" "I" (.int p7) := c275.other W284 (Or.inr (slot_ne (Or.inr (hw _ (List.mem_of_getElem? (i := 36) rfl))) (Or.inr (hw _ (List.mem_of_getElem? (i := 52) rfl))) (by decide) (t := .int) (t' := .int) (by decide) (by decide)))
  have c295 : Fld Z h284 o0 "com/example/incarico/incarico/load/LoadConfig" "sessionTimeoutMs" "I" (.int p8) := c276.other W284 (Or.inr (slot_ne (Or.inr (hw _ (List.mem_of_getElem? (i := 38) rfl))) (Or.inr (hw _ (List.mem_of_getElem? (i := 52) rfl))) (by decide) (t := .int) (t' := .int) (by decide) (by decide)))
  have c296 : Fld Z h284 o0 "com/example/incarico/incarico/load/LoadConfig" "joinS" "I" (.int p9) := c277.other W284 (Or.inr (slot_ne (Or.inr (hw _ (List.mem_of_getElem? (i := 40) rfl))) (Or.inr (hw _ (List.mem_of_getElem? (i := 52) rfl))) (by decide) (t := .int) (t' := .int) (by decide) (by decide)))
  have c297 : Fld Z h284 o0 "com/example/incarico/incarico/load/LoadConfig" "measureS" "I" (.int p10) := c278.other W284 (Or.inr (slot_ne (Or.inr (hw _ (List.mem_of_getElem? (i := 42) rfl))) (Or.inr (hw _ (List.mem_of_getElem? (i := 52) rfl))) (by decide) (t := .int) (t' := .int) (by decide) (by decide)))
  have c298 : Fld Z h284 o0 "com/example/incarico/incarico/load/LoadConfig" "growAtS" "I" (.int p11) := c279.other W284 (Or.inr (slot_ne (Or.inr (hw _ (List.mem_of_getElem? (i := 44) rfl))) (Or.inr (hw _ (List.mem_of_getElem? (i := 52) rfl))) (by decide) (t := .int) (t' := .int) (by decide) (by decide)))
  have c299 : Fld Z h284 o0 "com/example/incarico/incarico/load/LoadConfig" "metadataRate" "D" (.double u12) := c280.other W284 (Or.inr (slot_ne (Or.inr (hw _ (List.mem_of_getElem? (i := 46) rfl))) (Or.inr (hw _ (List.mem_of_getElem? (i := 52) rfl))) (by decide) (t := .double) (t' := .int) (by decide) (by decide)))
  have c300 : Fld Z h284 o0 "com/example/incarico/incarico/load/LoadConfig" "commitRate" "D" (.double u13) := c281.other W284 (Or.inr (slot_ne (Or.inr (hw _ (List.mem_of_getElem? (i := 48) rfl))) (Or.inr (hw _ (List.mem_of_getElem? (i := 52) rfl))) (by decide) (t := .double) (t' := .int) (by decide) (by decide)))
  have c301 : Fld Z h284 o0 "com/example/incarico/incarico/load/LoadConfig" "p99LimitMs" "D" (.double u14) := Fw264.other W284 (Or.inr (slot_ne (Or.inr (hw _ (List.mem_of_getElem? (i := 50) rfl))) (Or.inr (hw _ (List.mem_of_getElem? (i := 52) rfl))) (by decide) (t := .double) (t' := .int) (by decide) (by decide)))
  have K302 : Keep h0 h284 [o0] := K282.wr W284 (Or.inl (List.mem_of_getElem? (i := 0) rfl))
  have N284 := Fr.snoc X284 N264 g_o0
  have pre303 : ∀ t, Steps p.tables e below (T284.setTop (mkF m 94 #[.val (.ref o0), .val (.ref o1), .val (.int p2), .val (.int p3), .val (.int p4), .val (.int p5), .val (.int p6), .val (.int p7), .val (.int p8), .val (.int p9), .val (.int p10), .val (.int p11), .val (.double u12), .second, .val (.double u13), .second, .val (.double u14), .second, .val (.int p15), .val (.int p16)] [(.int p16), (.ref o0)])) t → P t := fun t k => pre284 t (by
      show Steps p.tables e below (T284.setTop (mkF m 91 #[.val (.ref o0), .val (.ref o1), .val (.int p2), .val (.int p3), .val (.int p4), .val (.int p5), .val (.int p6), .val (.int p7), .val (.int p8), .val (.int p9), .val (.int p10), .val (.int p11), .val (.double u12), .second, .val (.double u13), .second, .val (.double u14), .second, .val (.int p15), .val (.int p16)] [])) _
      refine XS.aloadN X284.here hx rfl (hb hby d1_91) rfl rfl ?_
      show Steps p.tables e below (T284.setTop (mkF m 92 #[.val (.ref o0), .val (.ref o1), .val (.int p2), .val (.int p3), .val (.int p4), .val (.int p5), .val (.int p6), .val (.int p7), .val (.int p8), .val (.int p9), .val (.int p10), .val (.int p11), .val (.double u12), .second, .val (.double u13), .second, .val (.double u14), .second, .val (.int p15), .val (.int p16)] [(.ref o0)])) _
      refine XS.iload X284.here hx rfl (hb hby d1_92) rfl ?_
      exact k)
  obtain ⟨T304, h304, X304, e304, W304, st304⟩ := putF X284 hx hZ hown (host := "") (Or.inl (hw _ (List.mem_of_getElem? (i := 53) rfl))) Via.refl e284 c287 c286 (Or.inr ⟨(hw _ (List.mem_of_getElem? (i := 54) rfl)), rfl, hnm⟩) (hw _ (List.mem_of_getElem? (i := 2) rfl)) (ty := .int) (by decide) rfl rfl (g := (mkF m 94 #[.val (.ref o0), .val (.ref o1), .val (.int p2), .val (.int p3), .val (.int p4), .val (.int p5), .val (.int p6), .val (.int p7), .val (.int p8), .val (.int p9), .val (.int p10), .val (.int p11), .val (.double u12), .second, .val (.double u13), .second, .val (.double u14), .second, .val (.int p15), .val (.int p16)] [(.int p16), (.ref o0)])) rfl rfl (hb hby d1_94)
  have pre304 : ∀ t, Steps p.tables e below (T304.setTop (mkF m 97 #[.val (.ref o0), .val (.ref o1), .val (.int p2), .val (.int p3), .val (.int p4), .val (.int p5), .val (.int p6), .val (.int p7), .val (.int p8), .val (.int p9), .val (.int p10), .val (.int p11), .val (.double u12), .second, .val (.double u13), .second, .val (.double u14), .second, .val (.int p15), .val (.int p16)] [])) t → P t := fun t k => pre303 t (st304 _ k)
  have Fw304 := c287.same W304
  have c305 : n0 ≤ h304.size := Nat.le_trans c285 (Keep.of_wr W304).1
  have c306 : Exa Z h304 o0 "com/example/incarico/incarico/load/LoadConfig" := c286.wr W304
  have c307 : Fld Z h304 o0 "com/example/incarico/incarico/load/LoadConfig" "serverClassPath" "Ljava/lang/String;" (.ref o1) := c288.other W304 (Or.inr (slot_ne (Or.inr (hw _ (List.mem_of_getElem? (i := 24) rfl))) (Or.inr (hw _ (List.mem_of_getElem? (i := 54) rfl))) (by decide) (t := (.object "java/lang/String")) (t' := .int) (by decide) (by decide)))
  have c308 : Fld Z h304 o0 "com/example/incarico/incarico/load/LoadConfig" "inMemory" "Z" (.int (nar .boolean p2)) := c289.other W304 (Or.inr (slot_ne (Or.inr (hw _ (List.mem_of_getElem? (i := 26) rfl))) (Or.inr (hw _ (List.mem_of_getElem? (i := 54) rfl))) (by decide) (t := .boolean) (t' := .int) (by decide) (by decide)))
  have c309 : Fld Z h304 o0 "com/example/incarico/incarico/load/LoadConfig" "members" "I" (.int p3) := c290.other W304 (Or.inr (slot_ne (Or.inr (hw _ (List.mem_of_getElem? (i := 28) rfl))) (Or.inr (hw _ (List.mem_of_getElem? (i := 54) rfl))) (by decide) (t := .int) (t' := .int) (by decide) (by decide)))
  have c310 : Fld Z h304 o0 "com/example/incarico/incarico/load/LoadConfig" "groups" "I" (.int p4) := c291.other W304 (Or.inr (slot_ne (Or.inr (hw _ (List.mem_of_getElem? (i := 30) rfl))) (Or.inr (hw _ (List.mem_of_getElem? (i := 54) rfl))) (by decide) (t := .int) (t' := .int) (by decide) (by decide)))
  have c311 : Fld Z h304 o0 "com/example/incarico/incarico/load/LoadConfig" "partitions" "I" (.int p5) := c292.other W304 (Or.inr (slot_ne (Or.inr (hw _ (List.mem_of_getElem? (i := 32) rfl))) (Or.inr (hw _ (List.mem_of_getElem? (i := 54) rfl))) (by decide) (t := .int) (t' := .int) (by decide) (by decide)))
  have c312 : Fld Z h304 o0 "com/example/incarico/incarico/load/LoadConfig" "growTo" "I" (.int p6) := c293.other W304 (Or.inr (slot_ne (Or.inr (hw _ (List.mem_of_getElem? (i := 34) rfl))) (Or.inr (hw _ (List.mem_of_getElem? (i := 54) rfl))) (by decide) (t := .int) (t' := .int) (by decide) (by decide)))
  have c313 : Fld Z h304 o0 "com/example/incarico/incarico/load/LoadConfig" "heartbeatIntervalMs" "I" (.int p7) := c294.other W304 (Or.inr (slot_ne (Or.inr (hw _ (List.mem_of_getElem? (i := 36) rfl))) (Or.inr (hw _ (List.mem_of_getElem? (i := 54) rfl))) (by decide) (t := .int) (t' := .int) (by decide) (by decide)))
  have c314 : Fld Z h304 o0 "com/example/incarico/incarico/load/LoadConfig" "sessionTimeoutMs" "I" (.int p8) := c295.other W304 (Or.inr (slot_ne (Or.inr (hw _ (List.mem_of_getElem? (i := 38) rfl))) (Or.inr (hw _ (List.mem_of_getElem? (i := 54) rfl))) (by decide) (t := .int) (t' := .int) (by decide) (by decide)))
  have c315 : Fld Z h304 o0 "com/example/incarico/incarico/load/LoadConfig" "joinS" "I" (.int p9) := c296.other W304 (Or.inr (slot_ne (Or.inr (hw _ (List.mem_of_getElem? (i := 40) rfl))) (Or.inr (hw _ (List.mem_of_getElem? (i := 54) rfl))) (by decide) (t := .int) (t' := .int) (by decide) (by decide)))
  have c316 : Fld Z h304 o0 "com/example/incarico/incarico/load/LoadConfig" "measureS" "I" (.int p10) := c297.other W304 (Or.inr (slot_ne (Or.inr (hw _ (List.mem_of_getElem? (i := 42) rfl))) (Or.inr (hw _ (List.mem_of_getElem? (i := 54) rfl))) (by decide) (t := .int) (t' := .int) (by decide) (by decide)))
  have c317 : Fld Z h304 o0 "com/example/incarico/incarico/load/LoadConfig" "growAtS" "I" (.int p11) := c298.other W304 (Or.inr (slot_ne (Or.inr (hw _ (List.mem_of_getElem? (i := 44) rfl))) (Or.inr (hw _ (List.mem_of_getElem? (i := 54) rfl))) (by decide) (t := .int) (t' := .int) (by decide) (by decide)))
  have c318 : Fld Z h304 o0 "com/example/incarico/incarico/load/LoadConfig" "metadataRate" "D" (.double u12) := c299.other W304 (Or.inr (slot_ne (Or.inr (hw _ (List.mem_of_getElem? (i := 46) rfl))) (Or.inr (hw _ (List.mem_of_getElem? (i := 54) rfl))) (by decide) (t := .double) (t' := .int) (by decide) (by decide)))
  have c319 : Fld Z h304 o0 "com/example/incarico/incarico/load/LoadConfig" "commitRate" "D" (.double u13) := c300.other W304 (Or.inr (slot_ne (Or.inr (hw _ (List.mem_of_getElem? (i := 48) rfl))) (Or.inr (hw _ (List.mem_of_getElem? (i := 54) rfl))) (by decide) (t := .double) (t' := .int) (by decide) (by decide)))
  have c320 : Fld Z h304 o0 "com/example/incarico/incarico/load/LoadConfig" "p99LimitMs" "D" (.double u14) := c301.other W304 (Or.inr (slot_ne (Or.inr (hw _ (List.mem_of_getElem? (i := 50) rfl))) (Or.inr (hw _ (List.mem_of_getElem? (i := 54) rfl))) (by decide) (t := .double) (t' := .int) (by decide) (by decide)))
  have c321 : Fld Z h304 o0 "com/example/incarico/incarico/load/LoadConfig" "pauseAtS" "I" (.int p15) := Fw284.other W304 (Or.inr (slot_ne (Or.inr (hw _ (List.mem_of_getElem? (i := 52) rfl))) (Or.inr (hw _ (List.mem_of_getElem? (i := 54) rfl))) (by decide) (t := .int) (t' := .int) (by decide) (by decide)))
  have K322 : Keep h0 h304 [o0] := K302.wr W304 (Or.inl (List.mem_of_getElem? (i := 0) rfl))
  have N304 := Fr.snoc X304 N284 g_o0
  obtain ⟨fs, hr, hrun, hended, hW, hsame⟩ := X304.leave (v := none) (fun _ => rfl)
  refine ⟨_, _, fin _ (pre304 _ ?_), hrun, hended, _, _, rfl, ?_, ⟨_, rfl⟩, hW, hsame.mono (by decide) (by decide)⟩
  · show Steps p.tables e below (T304.setTop (mkF m 97 #[.val (.ref o0), .val (.ref o1), .val (.int p2), .val (.int p3), .val (.int p4), .val (.int p5), .val (.int p6), .val (.int p7), .val (.int p8), .val (.int p9), .val (.int p10), .val (.int p11), .val (.double u12), .second, .val (.double u13), .second, .val (.double u14), .second, .val (.int p15), .val (.int p16)] [])) _
    exact X304.returnOut hx Bd.returns (hb hby d1_97) hr
  · show Q1 Z o0 o1 p2 p3 p4 p5 p6 p7 p8 p9 p10 p11 u12 u13 u14 p15 p16 h0 n0 _ T304.heap _
    rw [e304]
    exact ⟨rfl, N304, K322, c306, c307, c308, c309, c310, c311, c312, c313, c314, c315, c316, c317, c318, c319, c320, c321, Fw304⟩
theorem d4_0 : decode prog_96_method_5_code 0 = .ok (.aload_n 0, 1) := by decide +kernel
theorem d4_1 : decode prog_96_method_5_code 1 = .ok (.getfield 17, 3) := by decide +kernel
theorem d4_4 : decode prog_96_method_5_code 4 = .ok (.aload_n 0, 1) := by decide +kernel
theorem d4_5 : decode prog_96_method_5_code 5 = .ok (.getfield 21, 3) := by decide +kernel
theorem d4_8 : decode prog_96_method_5_code 8 = .ok (.idiv, 1) := by decide +kernel
theorem d4_9 : decode prog_96_method_5_code 9 = .ok (.iload_n 1, 1) := by decide +kernel
theorem d4_10 : decode prog_96_method_5_code 10 = .ok (.aload_n 0, 1) := by decide +kernel
theorem d4_11 : decode prog_96_method_5_code 11 = .ok (.getfield 17, 3) := by decide +kernel
theorem d4_14 : decode prog_96_method_5_code 14 = .ok (.aload_n 0, 1) := by decide +kernel
theorem d4_15 : decode prog_96_method_5_code 15 = .ok (.getfield 21, 3) := by decide +kernel
theorem d4_18 : decode prog_96_method_5_code 18 = .ok (.irem, 1) := by decide +kernel
theorem d4_19 : decode prog_96_method_5_code 19 = .ok (.if_icmp .ge 7, 3) := by decide +kernel
theorem d4_22 : decode prog_96_method_5_code 22 = .ok (.iconst 1, 1) := by decide +kernel
theorem d4_23 : decode prog_96_method_5_code 23 = .ok (.goto 4, 3) := by decide +kernel
theorem d4_26 : decode prog_96_method_5_code 26 = .ok (.iconst 0, 1) := by decide +kernel
theorem d4_27 : decode prog_96_method_5_code 27 = .ok (.iadd, 1) := by decide +kernel
theorem d4_28 : decode prog_96_method_5_code 28 = .ok (.ireturn, 1) := by decide +kernel
theorem pn_4 : plainName "com/example/incarico/incarico/load/LoadConfig" = true := by first | (simp [plainName, overriddenIn]; done) | decide +kernel
theorem ef_4 (m : MethodId) (o0 : Addr) (p1 : Int32) : entryFrame m #[(.ref o0), (.int p1)] 2 = mkF m 0 #[.val (.ref o0), .val (.int p1)] [] := by first | (simp [entryFrame, mkF, argsToLocals, Value.category]; done) | rfl
def own_f4 (p1 : Int32) (w_members_o0 : Int32) (w_groups_o0 : Int32) : Int32 := (let v13 : Int32 := (if p1 < (w_members_o0 % w_groups_o0) then (1 : Int32) else (0 : Int32)); ((w_members_o0 / w_groups_o0) + v13))
def Q4 (Z : State) (o0 : Addr) (p1 : Int32) (w_members_o0 : Int32) (w_groups_o0 : Int32) (h0 : Heap) (n0 : Nat) (v : Option Value) (h : Heap) (L : List Loc) : Prop := v = some (.int (own_f4 p1 w_members_o0 w_groups_o0)) ∧ Fr n0 L ∧ h = h0
set_option maxRecDepth 65536 in
set_option maxHeartbeats 40000000 in
theorem rm4 (l : Launch) (Z : State) (a0 : Array Value) (hw : ∀ d ∈ tables_1, d.before a0 Z = true) (ws : List Jvm.Cond) (o0 : Addr) (p1 : Int32) (w_members_o0 : Int32) (w_groups_o0 : Int32) (h0 : Heap) (n0 : Nat) (Z0 : n0 ≤ h0.size) (F_members_o0 : Fld Z h0 o0 "com/example/incarico/incarico/load/LoadConfig" "members" "I" (.int w_members_o0)) (F_groups_o0 : Fld Z h0 o0 "com/example/incarico/incarico/load/LoadConfig" "groups" "I" (.int w_groups_o0)) (hg0 : ¬ w_groups_o0 = (0 : Int32)) :
    MetFree l (⟨"com/example/incarico/incarico/load/LoadConfig", "membersOf", "(I)I"⟩ : MethodName) (head1 (Jvm.Cond.code (⟨"com/example/incarico/incarico/load/LoadConfig", "membersOf", "(I)I"⟩ : MethodName) prog_96_method_5_code 2 (some .int) :: ws) ({ frames := 0, cells := 0, slots := 0, locals := 0 } : Room)) (fun a U => a = #[(.ref o0), (.int p1)] ∧ Z.Warmed39 U.vm ∧ U.heap = h0) (fun _ _ _ _ _ => True) (fun _ U o U' => ∃ v L, o = .returned v ∧ Q4 Z o0 p1 w_members_o0 w_groups_o0 h0 n0 v U'.heap L ∧ FrameEnd U o U' L ({ frames := 0, cells := 0, slots := 0, locals := 0 } : Room).cells ({ frames := 0, cells := 0, slots := 0, locals := 0 } : Room).slots) := by
  refine MetFree.of_bodySF (plainFor_of_name pn_4) hisR ?_
  intro p e s m args below meth c s₁ Bd hml0 hP hK
  obtain ⟨rfl, hZ, hh⟩ := hP
  have hx := Bd.exec
  have hby := Bd.bytes
  have hml : c.maxLocals = 2 := hml0
  have hown : s.vm.findClass "com/example/incarico/incarico/load/LoadConfig" = some m.cls := findClass_of_methodNamed Bd.named
  have hnm := (name_of_methodNamed Bd.named Bd.method).1
  have X0 : Stand p l e ({ frames := 0, cells := 0, slots := 0, locals := 0 } : Room) s m #[(.ref o0), (.int p1)] below meth c s₁ [] 0 0 := Stand.of_body Bd
  have e0 : s₁.heap = h0 := by rw [← hh, Bd.state]; rfl
  have N0 := Fr.nil n0
  obtain ⟨P, pre0, fin⟩ : ∃ P : State → Prop, (∀ t, Steps p.tables e below (s₁.setTop (mkF m 0 #[.val (.ref o0), .val (.int p1)] [])) t → P t) ∧ (∀ t, P t → Steps p.tables e below (s₁.setTop (entryFrame m #[(.ref o0), (.int p1)] 2)) t) := ⟨fun t => Steps p.tables e below (s₁.setTop (entryFrame m #[(.ref o0), (.int p1)] 2)) t, fun t k => castTop (ef_4 m o0 p1) k, fun t k => k⟩
  have K0 : Keep h0 h0 [] := Keep.refl _ _
  have pre1 : ∀ t, Steps p.tables e below (s₁.setTop (mkF m 1 #[.val (.ref o0), .val (.int p1)] [(.ref o0)])) t → P t := fun t k => pre0 t (by
      show Steps p.tables e below (s₁.setTop (mkF m 0 #[.val (.ref o0), .val (.int p1)] [])) _
      refine XS.aloadN X0.here hx rfl (hb hby d4_0) rfl rfl ?_
      exact k)
  obtain ⟨T2, X2, e2, st2⟩ := getF X0 hx hZ hown (host := "") (Or.inl (hw _ (List.mem_of_getElem? (i := 27) rfl))) Via.refl e0 F_members_o0 (g := (mkF m 1 #[.val (.ref o0), .val (.int p1)] [(.ref o0)])) rfl rfl (hb hby d4_1)
  have pre2 : ∀ t, Steps p.tables e below (T2.setTop (mkF m 4 #[.val (.ref o0), .val (.int p1)] [(.int w_members_o0)])) t → P t := fun t k => pre1 t (st2 _ k)
  have pre3 : ∀ t, Steps p.tables e below (T2.setTop (mkF m 5 #[.val (.ref o0), .val (.int p1)] [(.ref o0), (.int w_members_o0)])) t → P t := fun t k => pre2 t (by
      show Steps p.tables e below (T2.setTop (mkF m 4 #[.val (.ref o0), .val (.int p1)] [(.int w_members_o0)])) _
      refine XS.aloadN X2.here hx rfl (hb hby d4_4) rfl rfl ?_
      exact k)
  obtain ⟨T4, X4, e4, st4⟩ := getF X2 hx hZ hown (host := "") (Or.inl (hw _ (List.mem_of_getElem? (i := 29) rfl))) Via.refl e2 F_groups_o0 (g := (mkF m 5 #[.val (.ref o0), .val (.int p1)] [(.ref o0), (.int w_members_o0)])) rfl rfl (hb hby d4_5)
  have pre4 : ∀ t, Steps p.tables e below (T4.setTop (mkF m 8 #[.val (.ref o0), .val (.int p1)] [(.int w_groups_o0), (.int w_members_o0)])) t → P t := fun t k => pre3 t (st4 _ k)
  have pre5 : ∀ t, Steps p.tables e below (T4.setTop (mkF m 11 #[.val (.ref o0), .val (.int p1)] [(.ref o0), (.int p1), (.int (w_members_o0 / w_groups_o0))])) t → P t := fun t k => pre4 t (by
      show Steps p.tables e below (T4.setTop (mkF m 8 #[.val (.ref o0), .val (.int p1)] [(.int w_groups_o0), (.int w_members_o0)])) _
      refine XS.idiv X4.here hx rfl (hb hby d4_8) rfl hg0 ?_
      show Steps p.tables e below (T4.setTop (mkF m 9 #[.val (.ref o0), .val (.int p1)] [(.int (w_members_o0 / w_groups_o0))])) _
      refine XS.iloadN X4.here hx rfl (hb hby d4_9) rfl ?_
      show Steps p.tables e below (T4.setTop (mkF m 10 #[.val (.ref o0), .val (.int p1)] [(.int p1), (.int (w_members_o0 / w_groups_o0))])) _
      refine XS.aloadN X4.here hx rfl (hb hby d4_10) rfl rfl ?_
      exact k)
  obtain ⟨T6, X6, e6, st6⟩ := getF X4 hx hZ hown (host := "") (Or.inl (hw _ (List.mem_of_getElem? (i := 27) rfl))) Via.refl e4 F_members_o0 (g := (mkF m 11 #[.val (.ref o0), .val (.int p1)] [(.ref o0), (.int p1), (.int (w_members_o0 / w_groups_o0))])) rfl rfl (hb hby d4_11)
  have pre6 : ∀ t, Steps p.tables e below (T6.setTop (mkF m 14 #[.val (.ref o0), .val (.int p1)] [(.int w_members_o0), (.int p1), (.int (w_members_o0 / w_groups_o0))])) t → P t := fun t k => pre5 t (st6 _ k)
  have pre7 : ∀ t, Steps p.tables e below (T6.setTop (mkF m 15 #[.val (.ref o0), .val (.int p1)] [(.ref o0), (.int w_members_o0), (.int p1), (.int (w_members_o0 / w_groups_o0))])) t → P t := fun t k => pre6 t (by
      show Steps p.tables e below (T6.setTop (mkF m 14 #[.val (.ref o0), .val (.int p1)] [(.int w_members_o0), (.int p1), (.int (w_members_o0 / w_groups_o0))])) _
      refine XS.aloadN X6.here hx rfl (hb hby d4_14) rfl rfl ?_
      exact k)
  obtain ⟨T8, X8, e8, st8⟩ := getF X6 hx hZ hown (host := "") (Or.inl (hw _ (List.mem_of_getElem? (i := 29) rfl))) Via.refl e6 F_groups_o0 (g := (mkF m 15 #[.val (.ref o0), .val (.int p1)] [(.ref o0), (.int w_members_o0), (.int p1), (.int (w_members_o0 / w_groups_o0))])) rfl rfl (hb hby d4_15)
  have pre8 : ∀ t, Steps p.tables e below (T8.setTop (mkF m 18 #[.val (.ref o0), .val (.int p1)] [(.int w_groups_o0), (.int w_members_o0), (.int p1), (.int (w_members_o0 / w_groups_o0))])) t → P t := fun t k => pre7 t (st8 _ k)
  have pre9 : ∀ t, Steps p.tables e below (T8.setTop (mkF m 19 #[.val (.ref o0), .val (.int p1)] [(.int (w_members_o0 % w_groups_o0)), (.int p1), (.int (w_members_o0 / w_groups_o0))])) t → P t := fun t k => pre8 t (by
      show Steps p.tables e below (T8.setTop (mkF m 18 #[.val (.ref o0), .val (.int p1)] [(.int w_groups_o0), (.int w_members_o0), (.int p1), (.int (w_members_o0 / w_groups_o0))])) _
      refine iremM X8 hx rfl (hb hby d4_18) rfl hg0 ?_
      exact k)
  obtain ⟨T14, L14, v13, X14, e14, N14, hv13, pre14⟩ : ∃ (T' : State) (L' : List Loc) (v13 : Int32), Stand p l e ({ frames := 0, cells := 0, slots := 0, locals := 0 } : Room) s m #[(.ref o0), (.int p1)] below meth c T' L' 0 0 ∧ T'.heap = h0 ∧ Fr n0 L' ∧ v13 = (if p1 < (w_members_o0 % w_groups_o0) then (1 : Int32) else (0 : Int32)) ∧ (∀ t, Steps p.tables e below (T'.setTop (mkF m 27 #[.val (.ref o0), .val (.int p1)] [(.int v13), (.int (w_members_o0 / w_groups_o0))])) t → P t) := by
    by_cases hc10 : p1 < (w_members_o0 % w_groups_o0)
    · have pre11 : ∀ t, Steps p.tables e below (T8.setTop (mkF m 27 #[.val (.ref o0), .val (.int p1)] [(.int (1 : Int32)), (.int (w_members_o0 / w_groups_o0))])) t → P t := fun t k => pre9 t (by
          show Steps p.tables e below (T8.setTop (mkF m 19 #[.val (.ref o0), .val (.int p1)] [(.int (w_members_o0 % w_groups_o0)), (.int p1), (.int (w_members_o0 / w_groups_o0))])) _
          refine XS.icmpNo X8.here hx rfl (hb hby d4_19) rfl (tlt hc10).2.1 ?_
          show Steps p.tables e below (T8.setTop (mkF m 22 #[.val (.ref o0), .val (.int p1)] [(.int (w_members_o0 / w_groups_o0))])) _
          refine XS.iconst X8.here hx rfl (hb hby d4_22) ?_
          show Steps p.tables e below (T8.setTop (mkF m 23 #[.val (.ref o0), .val (.int p1)] [(.int (1 : Int32)), (.int (w_members_o0 / w_groups_o0))])) _
          refine XS.goto X8.here hx rfl (pc0 := 23) (pc' := 27) rfl (hb hby d4_23) (by decide) (by decide) ?_
          exact k)
      exact ⟨_, _, (1 : Int32), X8, e8, N0, (by first | (rw [if_pos hc10]; done) | simp only [if_pos hc10] | simp [if_pos hc10]), pre11⟩
    · have pre12 : ∀ t, Steps p.tables e below (T8.setTop (mkF m 27 #[.val (.ref o0), .val (.int p1)] [(.int (0 : Int32)), (.int (w_members_o0 / w_groups_o0))])) t → P t := fun t k => pre9 t (by
          show Steps p.tables e below (T8.setTop (mkF m 19 #[.val (.ref o0), .val (.int p1)] [(.int (w_members_o0 % w_groups_o0)), (.int p1), (.int (w_members_o0 / w_groups_o0))])) _
          refine XS.icmpYes X8.here hx rfl (pc0 := 19) (pc' := 26) rfl (hb hby d4_19) rfl (flt hc10).2.1 (by decide) (by decide) ?_
          show Steps p.tables e below (T8.setTop (mkF m 26 #[.val (.ref o0), .val (.int p1)] [(.int (w_members_o0 / w_groups_o0))])) _
          refine XS.iconst X8.here hx rfl (hb hby d4_26) ?_
          exact k)
      exact ⟨_, _, (0 : Int32), X8, e8, N0, (by first | (rw [if_neg hc10]; done) | simp only [if_neg hc10] | simp [if_neg hc10]), pre12⟩
  have pre15 : ∀ t, Steps p.tables e below (T14.setTop (mkF m 28 #[.val (.ref o0), .val (.int p1)] [(.int ((w_members_o0 / w_groups_o0) + v13))])) t → P t := fun t k => pre14 t (by
      show Steps p.tables e below (T14.setTop (mkF m 27 #[.val (.ref o0), .val (.int p1)] [(.int v13), (.int (w_members_o0 / w_groups_o0))])) _
      refine XS.iadd X14.here hx rfl (hb hby d4_27) rfl ?_
      exact k)
  obtain ⟨fs, hr, hrun, hended, hW, hsame⟩ := X14.leave (v := some (.int ((w_members_o0 / w_groups_o0) + v13))) (fun h => by rw [Bd.returns] at h; cases h)
  refine ⟨_, _, fin _ (pre15 _ ?_), hrun, hended, _, _, rfl, ?_, ⟨_, rfl⟩, hW, hsame.mono (by decide) (by decide)⟩
  · show Steps p.tables e below (T14.setTop (mkF m 28 #[.val (.ref o0), .val (.int p1)] [(.int ((w_members_o0 / w_groups_o0) + v13))])) _
    exact retI X14 hx Bd.returns (hb hby d4_28) hr
  · show Q4 Z o0 p1 w_members_o0 w_groups_o0 h0 n0 _ T14.heap _
    rw [e14]
    exact ⟨(by subst hv13; first | rfl | simp only [own_f4]), N14, rfl⟩
theorem own_gr (f g : Int32) : 1 ≤ (if (f &&& (1 : Int32)) = (0 : Int32) then (own_f5 (1 : Int32) (g &&& (2147483647 : Int32))) else (((g &&& (2147483647 : Int32)) % (8 : Int32)) + (1 : Int32))).toInt := by
  have h := c_mask g 2147483647 31 (by decide) (by decide)
  have e1 : (1 : Int32).toInt = 1 := by decide
  generalize (g &&& 2147483647) = x at *
  split
  · unfold own_f5
    split
    · next q => rw [Int32.lt_iff_toInt_lt] at q; omega
    · decide
  · have h1 := (c_irem x 8 8 (by decide)).1 (by omega)
    have h2 := c_iadd (x % 8) 1
    have h3 := rng32 (x % 8 + 1)
    omega
theorem own_g0 (f g : Int32) : ¬ (if (f &&& (1 : Int32)) = (0 : Int32) then (own_f5 (1 : Int32) (g &&& (2147483647 : Int32))) else (((g &&& (2147483647 : Int32)) % (8 : Int32)) + (1 : Int32))) = (0 : Int32) := by
  have h := own_gr f g
  have e0 : (0 : Int32).toInt = 0 := by decide
  rw [← Int32.toInt_inj]
  omega
theorem own_pd1 : parseMethodDescriptor "(II)I" = some ⟨[.int, .int], some .int⟩ := by decide +kernel
theorem own_pd2 : parseMethodDescriptor "(Ljava/lang/String;ZIIIIIIIIIDDDII)V" = some ⟨[(.object "java/lang/String"), .boolean, .int, .int, .int, .int, .int, .int, .int, .int, .int, .double, .double, .double, .int, .int], none⟩ := by decide +kernel
theorem own_pd3 : parseMethodDescriptor "(I)I" = some ⟨[.int], some .int⟩ := by decide +kernel
theorem pn_0 : plainName "com/example/incarico/incarico/load/LoadConfigMembersOfPinLaw" = true := by first | (simp [plainName, overriddenIn]; done) | decide +kernel
theorem ef_0 (m : MethodId) (p0 : Int32) (p1 : Int32) (p2 : Int32) (p3 : Int32) : entryFrame m #[(.int p0), (.int p1), (.int p2), (.int p3)] maxLocals = mkF m 0 #[.val (.int p0), .val (.int p1), .val (.int p2), .val (.int p3), .unset, .unset, .unset, .unset, .unset, .unset] [] := by first | (simp [entryFrame, mkF, argsToLocals, Value.category, maxLocals]; done) | rfl
def own_f0 (p0 : Int32) (p1 : Int32) (p2 : Int32) (p3 : Int32) : Int32 := (let v5 : Int32 := (if (p3 &&& (2 : Int32)) = (0 : Int32) then (p0 &&& (2147483647 : Int32)) else (p0 &&& (15 : Int32))); (let v8 : Int32 := (p1 &&& (2147483647 : Int32)); (let v17 : Int32 := (if (p3 &&& (1 : Int32)) = (0 : Int32) then (own_f5 (1 : Int32) v8) else ((v8 % (8 : Int32)) + (1 : Int32))); (let v20 : Int32 := ((p2 &&& (2147483647 : Int32)) % v17); (let v56 : Int32 := (if v20 < v5 then ((((v5 - (1 : Int32)) - v20) / v17) + (1 : Int32)) else (0 : Int32)); (let v60 : Int32 := (own_f4 v20 v5 v17); (if v60 = v56 then (1 : Int32) else (0 : Int32))))))))
def Q0 (Z : State) (p0 : Int32) (p1 : Int32) (p2 : Int32) (p3 : Int32) (h0 : Heap) (n0 : Nat) (v : Option Value) (h : Heap) (L : List Loc) : Prop := v = some (.int (own_f0 p0 p1 p2 p3)) ∧ Fr n0 L
set_option maxRecDepth 65536 in
set_option maxHeartbeats 40000000 in
theorem rm0 (l : Launch) (Z : State) (a0 : Array Value) (hw : ∀ d ∈ tables_1, d.before a0 Z = true) (ws : List Jvm.Cond) (p0 : Int32) (p1 : Int32) (p2 : Int32) (p3 : Int32) (h0 : Heap) (n0 : Nat) (Z0 : n0 ≤ h0.size) :
    MetFree l x (head1 (Jvm.Cond.code x code maxLocals ret :: ws) room_1) (fun a U => a = #[(.int p0), (.int p1), (.int p2), (.int p3)] ∧ Z.Warmed39 U.vm ∧ U.heap = h0) (fun _ _ _ _ _ => True) (fun _ U o U' => ∃ v L, o = .returned v ∧ Q0 Z p0 p1 p2 p3 h0 n0 v U'.heap L ∧ ReturnedEndW U o U' L room_1.cells room_1.slots) := by
  refine MetFree.of_bodySF (plainFor_of_name pn_0) hisR ?_
  intro p e s m args below meth c s₁ Bd hml0 hP hK
  obtain ⟨rfl, hZ, hh⟩ := hP
  have hx := Bd.exec
  have hby := Bd.bytes
  have hml : c.maxLocals = 10 := hml0
  have hown : s.vm.findClass "com/example/incarico/incarico/load/LoadConfigMembersOfPinLaw" = some m.cls := findClass_of_methodNamed Bd.named
  have hnm := (name_of_methodNamed Bd.named Bd.method).1
  have X0 : Stand p l e room_1 s m #[(.int p0), (.int p1), (.int p2), (.int p3)] below meth c s₁ [] 0 0 := Stand.of_body Bd
  have e0 : s₁.heap = h0 := by rw [← hh, Bd.state]; rfl
  have N0 := Fr.nil n0
  obtain ⟨P, pre0, fin⟩ : ∃ P : State → Prop, (∀ t, Steps p.tables e below (s₁.setTop (mkF m 0 #[.val (.int p0), .val (.int p1), .val (.int p2), .val (.int p3), .unset, .unset, .unset, .unset, .unset, .unset] [])) t → P t) ∧ (∀ t, P t → Steps p.tables e below (s₁.setTop (entryFrame m #[(.int p0), (.int p1), (.int p2), (.int p3)] maxLocals)) t) := ⟨fun t => Steps p.tables e below (s₁.setTop (entryFrame m #[(.int p0), (.int p1), (.int p2), (.int p3)] maxLocals)) t, fun t k => castTop (ef_0 m p0 p1 p2 p3) k, fun t k => k⟩
  have K0 : Keep h0 h0 [] := Keep.refl _ _
  have pre1 : ∀ t, Steps p.tables e below (s₁.setTop (mkF m 3 #[.val (.int p0), .val (.int p1), .val (.int p2), .val (.int p3), .unset, .unset, .unset, .unset, .unset, .unset] [(.int (p3 &&& (2 : Int32)))])) t → P t := fun t k => pre0 t (by
      show Steps p.tables e below (s₁.setTop (mkF m 0 #[.val (.int p0), .val (.int p1), .val (.int p2), .val (.int p3), .unset, .unset, .unset, .unset, .unset, .unset] [])) _
      refine XS.iloadN X0.here hx rfl (hb hby at_0) rfl ?_
      show Steps p.tables e below (s₁.setTop (mkF m 1 #[.val (.int p0), .val (.int p1), .val (.int p2), .val (.int p3), .unset, .unset, .unset, .unset, .unset, .unset] [(.int p3)])) _
      refine XS.iconst X0.here hx rfl (hb hby at_1) ?_
      show Steps p.tables e below (s₁.setTop (mkF m 2 #[.val (.int p0), .val (.int p1), .val (.int p2), .val (.int p3), .unset, .unset, .unset, .unset, .unset, .unset] [(.int (2 : Int32)), (.int p3)])) _
      refine XS.iand X0.here hx rfl (hb hby at_2) rfl ?_
      exact k)
  obtain ⟨T6, L6, v5, X6, e6, N6, hv5, pre6⟩ : ∃ (T' : State) (L' : List Loc) (v5 : Int32), Stand p l e room_1 s m #[(.int p0), (.int p1), (.int p2), (.int p3)] below meth c T' L' 0 0 ∧ T'.heap = h0 ∧ Fr n0 L' ∧ v5 = (if (p3 &&& (2 : Int32)) = (0 : Int32) then (p0 &&& (2147483647 : Int32)) else (p0 &&& (15 : Int32))) ∧ (∀ t, Steps p.tables e below (T'.setTop (mkF m 17 #[.val (.int p0), .val (.int p1), .val (.int p2), .val (.int p3), .unset, .unset, .unset, .unset, .unset, .unset] [(.int v5)])) t → P t) := by
    by_cases hc2 : (p3 &&& (2 : Int32)) = (0 : Int32)
    · have pre3 : ∀ t, Steps p.tables e below (s₁.setTop (mkF m 17 #[.val (.int p0), .val (.int p1), .val (.int p2), .val (.int p3), .unset, .unset, .unset, .unset, .unset, .unset] [(.int (p0 &&& (2147483647 : Int32)))])) t → P t := fun t k => pre1 t (by
          show Steps p.tables e below (s₁.setTop (mkF m 3 #[.val (.int p0), .val (.int p1), .val (.int p2), .val (.int p3), .unset, .unset, .unset, .unset, .unset, .unset] [(.int (p3 &&& (2 : Int32)))])) _
          refine XS.ifYes X0.here hx rfl (pc0 := 3) (pc' := 13) rfl (hb hby at_3) rfl ((if0 _ _).trans (teq hc2).1) (by decide) (by decide) ?_
          show Steps p.tables e below (s₁.setTop (mkF m 13 #[.val (.int p0), .val (.int p1), .val (.int p2), .val (.int p3), .unset, .unset, .unset, .unset, .unset, .unset] [])) _
          refine XS.iloadN X0.here hx rfl (hb hby at_13) rfl ?_
          show Steps p.tables e below (s₁.setTop (mkF m 14 #[.val (.int p0), .val (.int p1), .val (.int p2), .val (.int p3), .unset, .unset, .unset, .unset, .unset, .unset] [(.int p0)])) _
          refine X0.ldcInt hx hown (mvT hZ (hw _ (List.mem_of_getElem? (i := 0) rfl))) (g := (mkF m 14 #[.val (.int p0), .val (.int p1), .val (.int p2), .val (.int p3), .unset, .unset, .unset, .unset, .unset, .unset] [(.int p0)])) rfl (hb hby at_14) _ ?_
          show Steps p.tables e below (s₁.setTop (mkF m 16 #[.val (.int p0), .val (.int p1), .val (.int p2), .val (.int p3), .unset, .unset, .unset, .unset, .unset, .unset] [(.int (2147483647 : Int32)), (.int p0)])) _
          refine XS.iand X0.here hx rfl (hb hby at_16) rfl ?_
          exact k)
      exact ⟨_, _, (p0 &&& (2147483647 : Int32)), X0, e0, N0, (by first | (rw [if_pos hc2]; done) | simp only [if_pos hc2] | simp [if_pos hc2]), pre3⟩
    · have pre4 : ∀ t, Steps p.tables e below (s₁.setTop (mkF m 17 #[.val (.int p0), .val (.int p1), .val (.int p2), .val (.int p3), .unset, .unset, .unset, .unset, .unset, .unset] [(.int (p0 &&& (15 : Int32)))])) t → P t := fun t k => pre1 t (by
          show Steps p.tables e below (s₁.setTop (mkF m 3 #[.val (.int p0), .val (.int p1), .val (.int p2), .val (.int p3), .unset, .unset, .unset, .unset, .unset, .unset] [(.int (p3 &&& (2 : Int32)))])) _
          refine XS.ifNo X0.here hx rfl (hb hby at_3) rfl ((if0 _ _).trans (feq hc2).1) ?_
          show Steps p.tables e below (s₁.setTop (mkF m 6 #[.val (.int p0), .val (.int p1), .val (.int p2), .val (.int p3), .unset, .unset, .unset, .unset, .unset, .unset] [])) _
          refine XS.iloadN X0.here hx rfl (hb hby at_6) rfl ?_
          show Steps p.tables e below (s₁.setTop (mkF m 7 #[.val (.int p0), .val (.int p1), .val (.int p2), .val (.int p3), .unset, .unset, .unset, .unset, .unset, .unset] [(.int p0)])) _
          refine XS.bipush X0.here hx rfl (hb hby at_7) ?_
          show Steps p.tables e below (s₁.setTop (mkF m 9 #[.val (.int p0), .val (.int p1), .val (.int p2), .val (.int p3), .unset, .unset, .unset, .unset, .unset, .unset] [(.int (15 : Int32)), (.int p0)])) _
          refine XS.iand X0.here hx rfl (hb hby at_9) rfl ?_
          show Steps p.tables e below (s₁.setTop (mkF m 10 #[.val (.int p0), .val (.int p1), .val (.int p2), .val (.int p3), .unset, .unset, .unset, .unset, .unset, .unset] [(.int (p0 &&& (15 : Int32)))])) _
          refine XS.goto X0.here hx rfl (pc0 := 10) (pc' := 17) rfl (hb hby at_10) (by decide) (by decide) ?_
          exact k)
      exact ⟨_, _, (p0 &&& (15 : Int32)), X0, e0, N0, (by first | (rw [if_neg hc2]; done) | simp only [if_neg hc2] | simp [if_neg hc2]), pre4⟩
  have pre7 : ∀ t, Steps p.tables e below (T6.setTop (mkF m 25 #[.val (.int p0), .val (.int p1), .val (.int p2), .val (.int p3), .val (.int v5), .val (.int (p1 &&& (2147483647 : Int32))), .unset, .unset, .unset, .unset] [])) t → P t := fun t k => pre6 t (by
      show Steps p.tables e below (T6.setTop (mkF m 17 #[.val (.int p0), .val (.int p1), .val (.int p2), .val (.int p3), .unset, .unset, .unset, .unset, .unset, .unset] [(.int v5)])) _
      refine XS.istore X6.here hx rfl (hb hby at_17) rfl (l' := #[.val (.int p0), .val (.int p1), .val (.int p2), .val (.int p3), .val (.int v5), .unset, .unset, .unset, .unset, .unset]) rfl ?_
      show Steps p.tables e below (T6.setTop (mkF m 19 #[.val (.int p0), .val (.int p1), .val (.int p2), .val (.int p3), .val (.int v5), .unset, .unset, .unset, .unset, .unset] [])) _
      refine XS.iloadN X6.here hx rfl (hb hby at_19) rfl ?_
      show Steps p.tables e below (T6.setTop (mkF m 20 #[.val (.int p0), .val (.int p1), .val (.int p2), .val (.int p3), .val (.int v5), .unset, .unset, .unset, .unset, .unset] [(.int p1)])) _
      refine X6.ldcInt hx hown (mvT hZ (hw _ (List.mem_of_getElem? (i := 0) rfl))) (g := (mkF m 20 #[.val (.int p0), .val (.int p1), .val (.int p2), .val (.int p3), .val (.int v5), .unset, .unset, .unset, .unset, .unset] [(.int p1)])) rfl (hb hby at_20) _ ?_
      show Steps p.tables e below (T6.setTop (mkF m 22 #[.val (.int p0), .val (.int p1), .val (.int p2), .val (.int p3), .val (.int v5), .unset, .unset, .unset, .unset, .unset] [(.int (2147483647 : Int32)), (.int p1)])) _
      refine XS.iand X6.here hx rfl (hb hby at_22) rfl ?_
      show Steps p.tables e below (T6.setTop (mkF m 23 #[.val (.int p0), .val (.int p1), .val (.int p2), .val (.int p3), .val (.int v5), .unset, .unset, .unset, .unset, .unset] [(.int (p1 &&& (2147483647 : Int32)))])) _
      refine XS.istore X6.here hx rfl (hb hby at_23) rfl (l' := #[.val (.int p0), .val (.int p1), .val (.int p2), .val (.int p3), .val (.int v5), .val (.int (p1 &&& (2147483647 : Int32))), .unset, .unset, .unset, .unset]) rfl ?_
      exact k)
  obtain ⟨v8, hv8⟩ : ∃ z : Int32, z = (p1 &&& (2147483647 : Int32)) := ⟨_, rfl⟩
  have pre9 : ∀ t, Steps p.tables e below (T6.setTop (mkF m 25 #[.val (.int p0), .val (.int p1), .val (.int p2), .val (.int p3), .val (.int v5), .val (.int v8), .unset, .unset, .unset, .unset] [])) t → P t := fun t k => pre7 t (by subst hv8; exact k)
  have pre10 : ∀ t, Steps p.tables e below (T6.setTop (mkF m 28 #[.val (.int p0), .val (.int p1), .val (.int p2), .val (.int p3), .val (.int v5), .val (.int v8), .unset, .unset, .unset, .unset] [(.int (p3 &&& (1 : Int32)))])) t → P t := fun t k => pre9 t (by
      show Steps p.tables e below (T6.setTop (mkF m 25 #[.val (.int p0), .val (.int p1), .val (.int p2), .val (.int p3), .val (.int v5), .val (.int v8), .unset, .unset, .unset, .unset] [])) _
      refine XS.iloadN X6.here hx rfl (hb hby at_25) rfl ?_
      show Steps p.tables e below (T6.setTop (mkF m 26 #[.val (.int p0), .val (.int p1), .val (.int p2), .val (.int p3), .val (.int v5), .val (.int v8), .unset, .unset, .unset, .unset] [(.int p3)])) _
      refine XS.iconst X6.here hx rfl (hb hby at_26) ?_
      show Steps p.tables e below (T6.setTop (mkF m 27 #[.val (.int p0), .val (.int p1), .val (.int p2), .val (.int p3), .val (.int v5), .val (.int v8), .unset, .unset, .unset, .unset] [(.int (1 : Int32)), (.int p3)])) _
      refine XS.iand X6.here hx rfl (hb hby at_27) rfl ?_
      exact k)
  obtain ⟨T18, L18, v17, X18, e18, N18, hv17, pre18⟩ : ∃ (T' : State) (L' : List Loc) (v17 : Int32), Stand p l e room_1 s m #[(.int p0), (.int p1), (.int p2), (.int p3)] below meth c T' L' 0 0 ∧ T'.heap = h0 ∧ Fr n0 L' ∧ v17 = (if (p3 &&& (1 : Int32)) = (0 : Int32) then (own_f5 (1 : Int32) v8) else ((v8 % (8 : Int32)) + (1 : Int32))) ∧ (∀ t, Steps p.tables e below (T'.setTop (mkF m 47 #[.val (.int p0), .val (.int p1), .val (.int p2), .val (.int p3), .val (.int v5), .val (.int v8), .unset, .unset, .unset, .unset] [(.int v17)])) t → P t) := by
    by_cases hc11 : (p3 &&& (1 : Int32)) = (0 : Int32)
    · have pre12 : ∀ t, Steps p.tables e below (T6.setTop (mkF m 44 #[.val (.int p0), .val (.int p1), .val (.int p2), .val (.int p3), .val (.int v5), .val (.int v8), .unset, .unset, .unset, .unset] [(.int v8), (.int (1 : Int32))])) t → P t := fun t k => pre10 t (by
          show Steps p.tables e below (T6.setTop (mkF m 28 #[.val (.int p0), .val (.int p1), .val (.int p2), .val (.int p3), .val (.int v5), .val (.int v8), .unset, .unset, .unset, .unset] [(.int (p3 &&& (1 : Int32)))])) _
          refine XS.ifYes X6.here hx rfl (pc0 := 28) (pc' := 41) rfl (hb hby at_28) rfl ((if0 _ _).trans (teq hc11).1) (by decide) (by decide) ?_
          show Steps p.tables e below (T6.setTop (mkF m 41 #[.val (.int p0), .val (.int p1), .val (.int p2), .val (.int p3), .val (.int v5), .val (.int v8), .unset, .unset, .unset, .unset] [])) _
          refine XS.iconst X6.here hx rfl (hb hby at_41) ?_
          show Steps p.tables e below (T6.setTop (mkF m 42 #[.val (.int p0), .val (.int p1), .val (.int p2), .val (.int p3), .val (.int v5), .val (.int v8), .unset, .unset, .unset, .unset] [(.int (1 : Int32))])) _
          refine XS.iload X6.here hx rfl (hb hby at_42) rfl ?_
          exact k)
      obtain ⟨_, _, ⟨T13, L13, k13, n13⟩, -, X13, ⟨Lc13, hQ13, l13, y13, z13⟩, st13⟩ := Jvm.LawKit.callS X6 hx (y := (⟨"java/lang/Math", "max", "(II)I"⟩ : MethodName)) hown (mvT hZ (hw _ (List.mem_of_getElem? (i := 60) rfl))) (mvT hZ (hw _ (List.mem_of_getElem? (i := 61) rfl))) (mvT hZ (hw _ (List.mem_of_getElem? (i := 62) rfl))) (mvT hZ (hw _ (List.mem_of_getElem? (i := 63) rfl))) (by decide) (backOf (W := 0) (rm5 l Z a0 hw [] (1 : Int32) v8 h0 n0 Z0 ) hZ (hw _ (List.mem_of_getElem? (i := 63) rfl)) (hw _ (List.mem_of_getElem? (i := 62) rfl)) (by decide) (by decide)) (g := (mkF m 44 #[.val (.int p0), .val (.int p1), .val (.int p2), .val (.int p3), .val (.int v5), .val (.int v8), .unset, .unset, .unset, .unset] [(.int v8), (.int (1 : Int32))])) rfl (by rw [hml]; rfl) (argsL := [(.int (1 : Int32)), (.int v8)]) (rest := []) (lenOf own_pd1 rfl) rfl (by show 2 * 0 + _ ≤ _; exact Nat.le_of_eq rfl) (hb hby at_44) (fun _ _ => ⟨rfl, e6, (by decide : 0 + 0 ≤ _), (by decide : 0 + 0 ≤ _)⟩)
      dsimp only [Pt.U, Pt.locs, Pt.cells, Pt.slots] at X13 l13 y13 z13 st13 hQ13
      subst l13 y13 z13
      obtain ⟨rfl, N13q, e13⟩ := hQ13
      have N13 := Fr.app N6 N13q
      have pre13 : ∀ t, Steps p.tables e below (T13.setTop (mkF m 47 #[.val (.int p0), .val (.int p1), .val (.int p2), .val (.int p3), .val (.int v5), .val (.int v8), .unset, .unset, .unset, .unset] [(.int (own_f5 (1 : Int32) v8))])) t → P t := fun t k => pre12 t (st13 _ k)
      obtain ⟨v14, hv14⟩ : ∃ z : Int32, z = (own_f5 (1 : Int32) v8) := ⟨_, rfl⟩
      have pre15 : ∀ t, Steps p.tables e below (T13.setTop (mkF m 47 #[.val (.int p0), .val (.int p1), .val (.int p2), .val (.int p3), .val (.int v5), .val (.int v8), .unset, .unset, .unset, .unset] [(.int v14)])) t → P t := fun t k => pre13 t (by subst hv14; exact k)
      exact ⟨_, _, v14, X13, e13, N13, (by subst hv14; first | (rw [if_pos hc11]; done) | simp only [if_pos hc11] | simp [if_pos hc11]), pre15⟩
    · have pre16 : ∀ t, Steps p.tables e below (T6.setTop (mkF m 47 #[.val (.int p0), .val (.int p1), .val (.int p2), .val (.int p3), .val (.int v5), .val (.int v8), .unset, .unset, .unset, .unset] [(.int ((v8 % (8 : Int32)) + (1 : Int32)))])) t → P t := fun t k => pre10 t (by
          show Steps p.tables e below (T6.setTop (mkF m 28 #[.val (.int p0), .val (.int p1), .val (.int p2), .val (.int p3), .val (.int v5), .val (.int v8), .unset, .unset, .unset, .unset] [(.int (p3 &&& (1 : Int32)))])) _
          refine XS.ifNo X6.here hx rfl (hb hby at_28) rfl ((if0 _ _).trans (feq hc11).1) ?_
          show Steps p.tables e below (T6.setTop (mkF m 31 #[.val (.int p0), .val (.int p1), .val (.int p2), .val (.int p3), .val (.int v5), .val (.int v8), .unset, .unset, .unset, .unset] [])) _
          refine XS.iload X6.here hx rfl (hb hby at_31) rfl ?_
          show Steps p.tables e below (T6.setTop (mkF m 33 #[.val (.int p0), .val (.int p1), .val (.int p2), .val (.int p3), .val (.int v5), .val (.int v8), .unset, .unset, .unset, .unset] [(.int v8)])) _
          refine XS.bipush X6.here hx rfl (hb hby at_33) ?_
          show Steps p.tables e below (T6.setTop (mkF m 35 #[.val (.int p0), .val (.int p1), .val (.int p2), .val (.int p3), .val (.int v5), .val (.int v8), .unset, .unset, .unset, .unset] [(.int (8 : Int32)), (.int v8)])) _
          refine iremM X6 hx rfl (hb hby at_35) rfl (by decide) ?_
          show Steps p.tables e below (T6.setTop (mkF m 36 #[.val (.int p0), .val (.int p1), .val (.int p2), .val (.int p3), .val (.int v5), .val (.int v8), .unset, .unset, .unset, .unset] [(.int (v8 % (8 : Int32)))])) _
          refine XS.iconst X6.here hx rfl (hb hby at_36) ?_
          show Steps p.tables e below (T6.setTop (mkF m 37 #[.val (.int p0), .val (.int p1), .val (.int p2), .val (.int p3), .val (.int v5), .val (.int v8), .unset, .unset, .unset, .unset] [(.int (1 : Int32)), (.int (v8 % (8 : Int32)))])) _
          refine XS.iadd X6.here hx rfl (hb hby at_37) rfl ?_
          show Steps p.tables e below (T6.setTop (mkF m 38 #[.val (.int p0), .val (.int p1), .val (.int p2), .val (.int p3), .val (.int v5), .val (.int v8), .unset, .unset, .unset, .unset] [(.int ((v8 % (8 : Int32)) + (1 : Int32)))])) _
          refine XS.goto X6.here hx rfl (pc0 := 38) (pc' := 47) rfl (hb hby at_38) (by decide) (by decide) ?_
          exact k)
      exact ⟨_, _, ((v8 % (8 : Int32)) + (1 : Int32)), X6, e6, N6, (by first | (rw [if_neg hc11]; done) | simp only [if_neg hc11] | simp [if_neg hc11]), pre16⟩
  have pre19 : ∀ t, Steps p.tables e below (T18.setTop (mkF m 58 #[.val (.int p0), .val (.int p1), .val (.int p2), .val (.int p3), .val (.int v5), .val (.int v8), .val (.int v17), .val (.int ((p2 &&& (2147483647 : Int32)) % v17)), .unset, .unset] [])) t → P t := fun t k => pre18 t (by
      show Steps p.tables e below (T18.setTop (mkF m 47 #[.val (.int p0), .val (.int p1), .val (.int p2), .val (.int p3), .val (.int v5), .val (.int v8), .unset, .unset, .unset, .unset] [(.int v17)])) _
      refine XS.istore X18.here hx rfl (hb hby at_47) rfl (l' := #[.val (.int p0), .val (.int p1), .val (.int p2), .val (.int p3), .val (.int v5), .val (.int v8), .val (.int v17), .unset, .unset, .unset]) rfl ?_
      show Steps p.tables e below (T18.setTop (mkF m 49 #[.val (.int p0), .val (.int p1), .val (.int p2), .val (.int p3), .val (.int v5), .val (.int v8), .val (.int v17), .unset, .unset, .unset] [])) _
      refine XS.iloadN X18.here hx rfl (hb hby at_49) rfl ?_
      show Steps p.tables e below (T18.setTop (mkF m 50 #[.val (.int p0), .val (.int p1), .val (.int p2), .val (.int p3), .val (.int v5), .val (.int v8), .val (.int v17), .unset, .unset, .unset] [(.int p2)])) _
      refine X18.ldcInt hx hown (mvT hZ (hw _ (List.mem_of_getElem? (i := 0) rfl))) (g := (mkF m 50 #[.val (.int p0), .val (.int p1), .val (.int p2), .val (.int p3), .val (.int v5), .val (.int v8), .val (.int v17), .unset, .unset, .unset] [(.int p2)])) rfl (hb hby at_50) _ ?_
      show Steps p.tables e below (T18.setTop (mkF m 52 #[.val (.int p0), .val (.int p1), .val (.int p2), .val (.int p3), .val (.int v5), .val (.int v8), .val (.int v17), .unset, .unset, .unset] [(.int (2147483647 : Int32)), (.int p2)])) _
      refine XS.iand X18.here hx rfl (hb hby at_52) rfl ?_
      show Steps p.tables e below (T18.setTop (mkF m 53 #[.val (.int p0), .val (.int p1), .val (.int p2), .val (.int p3), .val (.int v5), .val (.int v8), .val (.int v17), .unset, .unset, .unset] [(.int (p2 &&& (2147483647 : Int32)))])) _
      refine XS.iload X18.here hx rfl (hb hby at_53) rfl ?_
      show Steps p.tables e below (T18.setTop (mkF m 55 #[.val (.int p0), .val (.int p1), .val (.int p2), .val (.int p3), .val (.int v5), .val (.int v8), .val (.int v17), .unset, .unset, .unset] [(.int v17), (.int (p2 &&& (2147483647 : Int32)))])) _
      refine iremM X18 hx rfl (hb hby at_55) rfl (by subst hv8 hv17; exact own_g0 _ _) ?_
      show Steps p.tables e below (T18.setTop (mkF m 56 #[.val (.int p0), .val (.int p1), .val (.int p2), .val (.int p3), .val (.int v5), .val (.int v8), .val (.int v17), .unset, .unset, .unset] [(.int ((p2 &&& (2147483647 : Int32)) % v17))])) _
      refine XS.istore X18.here hx rfl (hb hby at_56) rfl (l' := #[.val (.int p0), .val (.int p1), .val (.int p2), .val (.int p3), .val (.int v5), .val (.int v8), .val (.int v17), .val (.int ((p2 &&& (2147483647 : Int32)) % v17)), .unset, .unset]) rfl ?_
      exact k)
  obtain ⟨v20, hv20⟩ : ∃ z : Int32, z = ((p2 &&& (2147483647 : Int32)) % v17) := ⟨_, rfl⟩
  have pre21 : ∀ t, Steps p.tables e below (T18.setTop (mkF m 58 #[.val (.int p0), .val (.int p1), .val (.int p2), .val (.int p3), .val (.int v5), .val (.int v8), .val (.int v17), .val (.int v20), .unset, .unset] [])) t → P t := fun t k => pre19 t (by subst hv20; exact k)
  obtain ⟨T22, h22, X22, e22, E22, A22, D22, -, st22⟩ := newO X18 hx hZ hown (hw _ (List.mem_of_getElem? (i := 1) rfl)) (hw _ (List.mem_of_getElem? (i := 2) rfl)) (hw _ (List.mem_of_getElem? (i := 3) rfl)) e18 (g := (mkF m 58 #[.val (.int p0), .val (.int p1), .val (.int p2), .val (.int p3), .val (.int v5), .val (.int v8), .val (.int v17), .val (.int v20), .unset, .unset] [])) rfl (hb hby at_58) (by decide) (by decide)
  obtain ⟨b22, g22⟩ : ∃ z, z = h0.size := ⟨_, rfl⟩
  have g_b22 : n0 ≤ b22 := Nat.le_trans Z0 (Nat.le_of_eq g22.symm)
  have sz_b22 : h0.size ≤ b22 := Nat.le_trans K0.1 (Nat.le_of_eq g22.symm)
  rw [← g22] at A22 D22 st22
  have pre22 : ∀ t, Steps p.tables e below (T22.setTop (mkF m 61 #[.val (.int p0), .val (.int p1), .val (.int p2), .val (.int p3), .val (.int v5), .val (.int v8), .val (.int v17), .val (.int v20), .unset, .unset] [(.ref b22)])) t → P t := fun t k => pre21 t (st22 _ k)
  have c23 : n0 ≤ h22.size := Nat.le_trans Z0 E22.1
  have K24 : Keep h0 h22 [] := K0.ext E22
  have F22_serverClassPath : Fld Z h22 b22 "com/example/incarico/incarico/load/LoadConfig" "serverClassPath" "Ljava/lang/String;" .null := D22 (Or.inr (hw _ (List.mem_of_getElem? (i := 24) rfl))) (ty := (.object "java/lang/String")) (by decide)
  have F22_inMemory : Fld Z h22 b22 "com/example/incarico/incarico/load/LoadConfig" "inMemory" "Z" (.int (0 : Int32)) := D22 (Or.inr (hw _ (List.mem_of_getElem? (i := 26) rfl))) (ty := .boolean) (by decide)
  have F22_members : Fld Z h22 b22 "com/example/incarico/incarico/load/LoadConfig" "members" "I" (.int (0 : Int32)) := D22 (Or.inr (hw _ (List.mem_of_getElem? (i := 28) rfl))) (ty := .int) (by decide)
  have F22_groups : Fld Z h22 b22 "com/example/incarico/incarico/load/LoadConfig" "groups" "I" (.int (0 : Int32)) := D22 (Or.inr (hw _ (List.mem_of_getElem? (i := 30) rfl))) (ty := .int) (by decide)
  have F22_partitions : Fld Z h22 b22 "com/example/incarico/incarico/load/LoadConfig" "partitions" "I" (.int (0 : Int32)) := D22 (Or.inr (hw _ (List.mem_of_getElem? (i := 32) rfl))) (ty := .int) (by decide)
  have F22_growTo : Fld Z h22 b22 "com/example/incarico/incarico/load/LoadConfig" "growTo" "I" (.int (0 : Int32)) := D22 (Or.inr (hw _ (List.mem_of_getElem? (i := 34) rfl))) (ty := .int) (by decide)
  have F22_heartbeatIntervalMs : Fld Z h22 b22 "com/example/incarico/incarico/load/LoadConfig" "heartbeatIntervalMs" "I" (.int (0 : Int32)) := D22 (Or.inr (hw _ (List.mem_of_getElem? (i := 36) rfl))) (ty := .int) (by decide)
  have F22_sessionTimeoutMs : Fld Z h22 b22 "com/example/incarico/incarico/load/LoadConfig" "sessionTimeoutMs" "I" (.int (0 : Int32)) := D22 (Or.inr (hw _ (List.mem_of_getElem? (i := 38) rfl))) (ty := .int) (by decide)
  have F22_joinS : Fld Z h22 b22 "com/example/incarico/incarico/load/LoadConfig" "joinS" "I" (.int (0 : Int32)) := D22 (Or.inr (hw _ (List.mem_of_getElem? (i := 40) rfl))) (ty := .int) (by decide)
  have F22_measureS : Fld Z h22 b22 "com/example/incarico/incarico/load/LoadConfig" "measureS" "I" (.int (0 : Int32)) := D22 (Or.inr (hw _ (List.mem_of_getElem? (i := 42) rfl))) (ty := .int) (by decide)
  have F22_growAtS : Fld Z h22 b22 "com/example/incarico/incarico/load/LoadConfig" "growAtS" "I" (.int (0 : Int32)) := D22 (Or.inr (hw _ (List.mem_of_getElem? (i := 44) rfl))) (ty := .int) (by decide)
  have F22_metadataRate : Fld Z h22 b22 "com/example/incarico/incarico/load/LoadConfig" "metadataRate" "D" (.double 0) := D22 (Or.inr (hw _ (List.mem_of_getElem? (i := 46) rfl))) (ty := .double) (by decide)
  have F22_commitRate : Fld Z h22 b22 "com/example/incarico/incarico/load/LoadConfig" "commitRate" "D" (.double 0) := D22 (Or.inr (hw _ (List.mem_of_getElem? (i := 48) rfl))) (ty := .double) (by decide)
  have F22_p99LimitMs : Fld Z h22 b22 "com/example/incarico/incarico/load/LoadConfig" "p99LimitMs" "D" (.double 0) := D22 (Or.inr (hw _ (List.mem_of_getElem? (i := 50) rfl))) (ty := .double) (by decide)
  have F22_pauseAtS : Fld Z h22 b22 "com/example/incarico/incarico/load/LoadConfig" "pauseAtS" "I" (.int (0 : Int32)) := D22 (Or.inr (hw _ (List.mem_of_getElem? (i := 52) rfl))) (ty := .int) (by decide)
  have F22_pauseS : Fld Z h22 b22 "com/example/incarico/incarico/load/LoadConfig" "pauseS" "I" (.int (0 : Int32)) := D22 (Or.inr (hw _ (List.mem_of_getElem? (i := 54) rfl))) (ty := .int) (by decide)
  have pre25 : ∀ t, Steps p.tables e below (T22.setTop (mkF m 62 #[.val (.int p0), .val (.int p1), .val (.int p2), .val (.int p3), .val (.int v5), .val (.int v8), .val (.int v17), .val (.int v20), .unset, .unset] [(.ref b22), (.ref b22)])) t → P t := fun t k => pre22 t (by
      show Steps p.tables e below (T22.setTop (mkF m 61 #[.val (.int p0), .val (.int p1), .val (.int p2), .val (.int p3), .val (.int v5), .val (.int v8), .val (.int v17), .val (.int v20), .unset, .unset] [(.ref b22)])) _
      refine XS.dup X22.here hx rfl (hb hby at_61) rfl rfl ?_
      exact k)
  have wS : ∀ a ∈ Bundle.stringAtoms, a.before a0 Z = true := by
    intro d hd
    simp only [Bundle.stringAtoms, List.mem_cons, List.not_mem_nil, or_false] at hd
    rcases hd with rfl | rfl | rfl | rfl | rfl | rfl | rfl
    · exact (hw _ (List.mem_of_getElem? (i := 5) rfl))
    · exact (hw _ (List.mem_of_getElem? (i := 6) rfl))
    · exact (hw _ (List.mem_of_getElem? (i := 7) rfl))
    · exact (hw _ (List.mem_of_getElem? (i := 8) rfl))
    · exact (hw _ (List.mem_of_getElem? (i := 9) rfl))
    · exact (hw _ (List.mem_of_getElem? (i := 10) rfl))
    · exact (hw _ (List.mem_of_getElem? (i := 11) rfl))
  obtain ⟨a26, T26, h26, k26, X26, e26, E26, hS26, hk26, hZ, hown, st26⟩ := ldcS (s := s) (vm0 := s.vm) X22 hx hZ hown (hw _ (List.mem_of_getElem? (i := 4) rfl)) wS e22 (k0 := 0) ((State.WarmedH.refl s).since 0) (Nat.zero_le _) (g := (mkF m 62 #[.val (.int p0), .val (.int p1), .val (.int p2), .val (.int p3), .val (.int v5), .val (.int v8), .val (.int v17), .val (.int v20), .unset, .unset] [(.ref b22), (.ref b22)])) rfl (hb hby at_62) (n := 8) (by decide) (by decide) (by decide) (by decide)
  have pre26 : ∀ t, Steps p.tables e below (T26.setTop (mkF m 64 #[.val (.int p0), .val (.int p1), .val (.int p2), .val (.int p3), .val (.int v5), .val (.int v8), .val (.int v17), .val (.int v20), .unset, .unset] [(.ref a26), (.ref b22), (.ref b22)])) t → P t := fun t k => pre25 t (st26 _ k)
  have c27 : n0 ≤ h26.size := Nat.le_trans c23 E26.1
  have c28 : Exa Z h26 b22 "com/example/incarico/incarico/load/LoadConfig" := A22.ext E26
  have c29 : Fld Z h26 b22 "com/example/incarico/incarico/load/LoadConfig" "serverClassPath" "Ljava/lang/String;" .null := F22_serverClassPath.ext E26
  have c30 : Fld Z h26 b22 "com/example/incarico/incarico/load/LoadConfig" "inMemory" "Z" (.int (0 : Int32)) := F22_inMemory.ext E26
  have c31 : Fld Z h26 b22 "com/example/incarico/incarico/load/LoadConfig" "members" "I" (.int (0 : Int32)) := F22_members.ext E26
  have c32 : Fld Z h26 b22 "com/example/incarico/incarico/load/LoadConfig" "groups" "I" (.int (0 : Int32)) := F22_groups.ext E26
  have c33 : Fld Z h26 b22 "com/example/incarico/incarico/load/LoadConfig" "partitions" "I" (.int (0 : Int32)) := F22_partitions.ext E26
  have c34 : Fld Z h26 b22 "com/example/incarico/incarico/load/LoadConfig" "growTo" "I" (.int (0 : Int32)) := F22_growTo.ext E26
  have c35 : Fld Z h26 b22 "com/example/incarico/incarico/load/LoadConfig" "heartbeatIntervalMs" "I" (.int (0 : Int32)) := F22_heartbeatIntervalMs.ext E26
  have c36 : Fld Z h26 b22 "com/example/incarico/incarico/load/LoadConfig" "sessionTimeoutMs" "I" (.int (0 : Int32)) := F22_sessionTimeoutMs.ext E26
  have c37 : Fld Z h26 b22 "com/example/incarico/incarico/load/LoadConfig" "joinS" "I" (.int (0 : Int32)) := F22_joinS.ext E26
  have c38 : Fld Z h26 b22 "com/example/incarico/incarico/load/LoadConfig" "measureS" "I" (.int (0 : Int32)) := F22_measureS.ext E26
  have c39 : Fld Z h26 b22 "com/example/incarico/incarico/load/LoadConfig" "growAtS" "I" (.int (0 : Int32)) := F22_growAtS.ext E26
  have c40 : Fld Z h26 b22 "com/example/incarico/incarico/load/LoadConfig" "metadataRate" "D" (.double 0) := F22_metadataRate.ext E26
  have c41 : Fld Z h26 b22 "com/example/incarico/incarico/load/LoadConfig" "commitRate" "D" (.double 0) := F22_commitRate.ext E26
  have c42 : Fld Z h26 b22 "com/example/incarico/incarico/load/LoadConfig" "p99LimitMs" "D" (.double 0) := F22_p99LimitMs.ext E26
  have c43 : Fld Z h26 b22 "com/example/incarico/incarico/load/LoadConfig" "pauseAtS" "I" (.int (0 : Int32)) := F22_pauseAtS.ext E26
  have c44 : Fld Z h26 b22 "com/example/incarico/incarico/load/LoadConfig" "pauseS" "I" (.int (0 : Int32)) := F22_pauseS.ext E26
  have K45 : Keep h0 h26 [] := K24.ext E26
  have pre46 : ∀ t, Steps p.tables e below (T26.setTop (mkF m 85 #[.val (.int p0), .val (.int p1), .val (.int p2), .val (.int p3), .val (.int v5), .val (.int v8), .val (.int v17), .val (.int v20), .unset, .unset] [(.int (0 : Int32)), (.int (-1 : Int32)), (.double FP.dconst1), (.double FP.dconst1), (.double FP.dconst1), (.int (0 : Int32)), (.int (1 : Int32)), (.int (1 : Int32)), (.int (10000 : Int32)), (.int (1000 : Int32)), (.int (1 : Int32)), (.int (1 : Int32)), (.int v17), (.int v5), (.int (0 : Int32)), (.ref a26), (.ref b22), (.ref b22)])) t → P t := fun t k => pre26 t (by
      show Steps p.tables e below (T26.setTop (mkF m 64 #[.val (.int p0), .val (.int p1), .val (.int p2), .val (.int p3), .val (.int v5), .val (.int v8), .val (.int v17), .val (.int v20), .unset, .unset] [(.ref a26), (.ref b22), (.ref b22)])) _
      refine XS.iconst X26.here hx rfl (hb hby at_64) ?_
      show Steps p.tables e below (T26.setTop (mkF m 65 #[.val (.int p0), .val (.int p1), .val (.int p2), .val (.int p3), .val (.int v5), .val (.int v8), .val (.int v17), .val (.int v20), .unset, .unset] [(.int (0 : Int32)), (.ref a26), (.ref b22), (.ref b22)])) _
      refine XS.iload X26.here hx rfl (hb hby at_65) rfl ?_
      show Steps p.tables e below (T26.setTop (mkF m 67 #[.val (.int p0), .val (.int p1), .val (.int p2), .val (.int p3), .val (.int v5), .val (.int v8), .val (.int v17), .val (.int v20), .unset, .unset] [(.int v5), (.int (0 : Int32)), (.ref a26), (.ref b22), (.ref b22)])) _
      refine XS.iload X26.here hx rfl (hb hby at_67) rfl ?_
      show Steps p.tables e below (T26.setTop (mkF m 69 #[.val (.int p0), .val (.int p1), .val (.int p2), .val (.int p3), .val (.int v5), .val (.int v8), .val (.int v17), .val (.int v20), .unset, .unset] [(.int v17), (.int v5), (.int (0 : Int32)), (.ref a26), (.ref b22), (.ref b22)])) _
      refine XS.iconst X26.here hx rfl (hb hby at_69) ?_
      show Steps p.tables e below (T26.setTop (mkF m 70 #[.val (.int p0), .val (.int p1), .val (.int p2), .val (.int p3), .val (.int v5), .val (.int v8), .val (.int v17), .val (.int v20), .unset, .unset] [(.int (1 : Int32)), (.int v17), (.int v5), (.int (0 : Int32)), (.ref a26), (.ref b22), (.ref b22)])) _
      refine XS.iconst X26.here hx rfl (hb hby at_70) ?_
      show Steps p.tables e below (T26.setTop (mkF m 71 #[.val (.int p0), .val (.int p1), .val (.int p2), .val (.int p3), .val (.int v5), .val (.int v8), .val (.int v17), .val (.int v20), .unset, .unset] [(.int (1 : Int32)), (.int (1 : Int32)), (.int v17), (.int v5), (.int (0 : Int32)), (.ref a26), (.ref b22), (.ref b22)])) _
      refine XS.sipush X26.here hx rfl (hb hby at_71) ?_
      show Steps p.tables e below (T26.setTop (mkF m 74 #[.val (.int p0), .val (.int p1), .val (.int p2), .val (.int p3), .val (.int v5), .val (.int v8), .val (.int v17), .val (.int v20), .unset, .unset] [(.int (1000 : Int32)), (.int (1 : Int32)), (.int (1 : Int32)), (.int v17), (.int v5), (.int (0 : Int32)), (.ref a26), (.ref b22), (.ref b22)])) _
      refine XS.sipush X26.here hx rfl (hb hby at_74) ?_
      show Steps p.tables e below (T26.setTop (mkF m 77 #[.val (.int p0), .val (.int p1), .val (.int p2), .val (.int p3), .val (.int v5), .val (.int v8), .val (.int v17), .val (.int v20), .unset, .unset] [(.int (10000 : Int32)), (.int (1000 : Int32)), (.int (1 : Int32)), (.int (1 : Int32)), (.int v17), (.int v5), (.int (0 : Int32)), (.ref a26), (.ref b22), (.ref b22)])) _
      refine XS.iconst X26.here hx rfl (hb hby at_77) ?_
      show Steps p.tables e below (T26.setTop (mkF m 78 #[.val (.int p0), .val (.int p1), .val (.int p2), .val (.int p3), .val (.int v5), .val (.int v8), .val (.int v17), .val (.int v20), .unset, .unset] [(.int (1 : Int32)), (.int (10000 : Int32)), (.int (1000 : Int32)), (.int (1 : Int32)), (.int (1 : Int32)), (.int v17), (.int v5), (.int (0 : Int32)), (.ref a26), (.ref b22), (.ref b22)])) _
      refine XS.iconst X26.here hx rfl (hb hby at_78) ?_
      show Steps p.tables e below (T26.setTop (mkF m 79 #[.val (.int p0), .val (.int p1), .val (.int p2), .val (.int p3), .val (.int v5), .val (.int v8), .val (.int v17), .val (.int v20), .unset, .unset] [(.int (1 : Int32)), (.int (1 : Int32)), (.int (10000 : Int32)), (.int (1000 : Int32)), (.int (1 : Int32)), (.int (1 : Int32)), (.int v17), (.int v5), (.int (0 : Int32)), (.ref a26), (.ref b22), (.ref b22)])) _
      refine XS.iconst X26.here hx rfl (hb hby at_79) ?_
      show Steps p.tables e below (T26.setTop (mkF m 80 #[.val (.int p0), .val (.int p1), .val (.int p2), .val (.int p3), .val (.int v5), .val (.int v8), .val (.int v17), .val (.int v20), .unset, .unset] [(.int (0 : Int32)), (.int (1 : Int32)), (.int (1 : Int32)), (.int (10000 : Int32)), (.int (1000 : Int32)), (.int (1 : Int32)), (.int (1 : Int32)), (.int v17), (.int v5), (.int (0 : Int32)), (.ref a26), (.ref b22), (.ref b22)])) _
      refine XS.dconst1 X26.here hx rfl (hb hby at_80) rfl ?_
      show Steps p.tables e below (T26.setTop (mkF m 81 #[.val (.int p0), .val (.int p1), .val (.int p2), .val (.int p3), .val (.int v5), .val (.int v8), .val (.int v17), .val (.int v20), .unset, .unset] [(.double FP.dconst1), (.int (0 : Int32)), (.int (1 : Int32)), (.int (1 : Int32)), (.int (10000 : Int32)), (.int (1000 : Int32)), (.int (1 : Int32)), (.int (1 : Int32)), (.int v17), (.int v5), (.int (0 : Int32)), (.ref a26), (.ref b22), (.ref b22)])) _
      refine XS.dconst1 X26.here hx rfl (hb hby at_81) rfl ?_
      show Steps p.tables e below (T26.setTop (mkF m 82 #[.val (.int p0), .val (.int p1), .val (.int p2), .val (.int p3), .val (.int v5), .val (.int v8), .val (.int v17), .val (.int v20), .unset, .unset] [(.double FP.dconst1), (.double FP.dconst1), (.int (0 : Int32)), (.int (1 : Int32)), (.int (1 : Int32)), (.int (10000 : Int32)), (.int (1000 : Int32)), (.int (1 : Int32)), (.int (1 : Int32)), (.int v17), (.int v5), (.int (0 : Int32)), (.ref a26), (.ref b22), (.ref b22)])) _
      refine XS.dconst1 X26.here hx rfl (hb hby at_82) rfl ?_
      show Steps p.tables e below (T26.setTop (mkF m 83 #[.val (.int p0), .val (.int p1), .val (.int p2), .val (.int p3), .val (.int v5), .val (.int v8), .val (.int v17), .val (.int v20), .unset, .unset] [(.double FP.dconst1), (.double FP.dconst1), (.double FP.dconst1), (.int (0 : Int32)), (.int (1 : Int32)), (.int (1 : Int32)), (.int (10000 : Int32)), (.int (1000 : Int32)), (.int (1 : Int32)), (.int (1 : Int32)), (.int v17), (.int v5), (.int (0 : Int32)), (.ref a26), (.ref b22), (.ref b22)])) _
      refine XS.iconst X26.here hx rfl (hb hby at_83) ?_
      show Steps p.tables e below (T26.setTop (mkF m 84 #[.val (.int p0), .val (.int p1), .val (.int p2), .val (.int p3), .val (.int v5), .val (.int v8), .val (.int v17), .val (.int v20), .unset, .unset] [(.int (-1 : Int32)), (.double FP.dconst1), (.double FP.dconst1), (.double FP.dconst1), (.int (0 : Int32)), (.int (1 : Int32)), (.int (1 : Int32)), (.int (10000 : Int32)), (.int (1000 : Int32)), (.int (1 : Int32)), (.int (1 : Int32)), (.int v17), (.int v5), (.int (0 : Int32)), (.ref a26), (.ref b22), (.ref b22)])) _
      refine XS.iconst X26.here hx rfl (hb hby at_84) ?_
      exact k)
  obtain ⟨_, _, ⟨T47, L47, k47, n47⟩, -, X47, ⟨Lc47, hQ47, l47, y47, z47⟩, st47⟩ := X26.specialBack hx (y := (⟨"com/example/incarico/incarico/load/LoadConfig", "<init>", "(Ljava/lang/String;ZIIIIIIIIIDDDII)V"⟩ : MethodName)) rfl hown (mvT hZ (hw _ (List.mem_of_getElem? (i := 12) rfl))) (mvT hZ (hw _ (List.mem_of_getElem? (i := 13) rfl))) (mvT hZ (hw _ (List.mem_of_getElem? (i := 14) rfl))) (by decide) (backOf (W := 1) (rm1 l Z a0 hw [] b22 a26 (0 : Int32) v5 v17 (1 : Int32) (1 : Int32) (1000 : Int32) (10000 : Int32) (1 : Int32) (1 : Int32) (0 : Int32) FP.dconst1 FP.dconst1 FP.dconst1 (-1 : Int32) (0 : Int32) h26 n0 c27 c28 c29 c30 c31 c32 c33 c34 c35 c36 c37 c38 c39 c40 c41 c42 c43 c44 g_b22) hZ (hw _ (List.mem_of_getElem? (i := 14) rfl)) (hw _ (List.mem_of_getElem? (i := 3) rfl)) (by decide) (by decide)) (g := (mkF m 85 #[.val (.int p0), .val (.int p1), .val (.int p2), .val (.int p3), .val (.int v5), .val (.int v8), .val (.int v17), .val (.int v20), .unset, .unset] [(.int (0 : Int32)), (.int (-1 : Int32)), (.double FP.dconst1), (.double FP.dconst1), (.double FP.dconst1), (.int (0 : Int32)), (.int (1 : Int32)), (.int (1 : Int32)), (.int (10000 : Int32)), (.int (1000 : Int32)), (.int (1 : Int32)), (.int (1 : Int32)), (.int v17), (.int v5), (.int (0 : Int32)), (.ref a26), (.ref b22), (.ref b22)])) rfl (by rw [hml]; rfl) (Steps.refl _) (a := b22) (argsL := [(.ref a26), (.int (0 : Int32)), (.int v5), (.int v17), (.int (1 : Int32)), (.int (1 : Int32)), (.int (1000 : Int32)), (.int (10000 : Int32)), (.int (1 : Int32)), (.int (1 : Int32)), (.int (0 : Int32)), (.double FP.dconst1), (.double FP.dconst1), (.double FP.dconst1), (.int (-1 : Int32)), (.int (0 : Int32))]) (rest := [(.ref b22)]) (lenOf own_pd2 rfl) rfl (by show 2 * 0 + _ ≤ _; exact Nat.le_of_eq rfl) (hb hby at_85) (fun _ _ => ⟨rfl, e26, (by decide : 3 + 0 ≤ _), (by decide : 28 + 0 ≤ _)⟩)
  dsimp only [Pt.U, Pt.locs, Pt.cells, Pt.slots] at X47 l47 y47 z47 st47 hQ47
  subst l47 y47 z47
  obtain ⟨rfl, N47q, K47, EE47, FF47_0, FF47_1, FF47_2, FF47_3, FF47_4, FF47_5, FF47_6, FF47_7, FF47_8, FF47_9, FF47_10, FF47_11, FF47_12, FF47_13, FF47_14, FF47_15⟩ := hQ47
  have c48 : n0 ≤ T47.heap.size := Nat.le_trans c27 K47.1
  have c49 : Exa Z T47.heap b22 "com/example/incarico/incarico/load/LoadConfig" := c28.keep K47
  have c50 : k26 ≤ T47.heap.size := Nat.le_trans hk26 K47.1
  have K51 : Keep h0 T47.heap [] := K45.trans K47 (allS (P := fun x => x ∈ ([] : List Addr) ∨ h0.size ≤ x) (Or.inr sz_b22) all0)
  have N47 := Fr.app N18 N47q
  have pre47 : ∀ t, Steps p.tables e below (T47.setTop (mkF m 88 #[.val (.int p0), .val (.int p1), .val (.int p2), .val (.int p3), .val (.int v5), .val (.int v8), .val (.int v17), .val (.int v20), .unset, .unset] [(.ref b22)])) t → P t := fun t k => pre46 t (st47.trans k)
  have pre52 : ∀ t, Steps p.tables e below (T47.setTop (mkF m 94 #[.val (.int p0), .val (.int p1), .val (.int p2), .val (.int p3), .val (.int v5), .val (.int v8), .val (.int v17), .val (.int v20), .val (.ref b22), .unset] [(.int v5), (.int v20)])) t → P t := fun t k => pre47 t (by
      show Steps p.tables e below (T47.setTop (mkF m 88 #[.val (.int p0), .val (.int p1), .val (.int p2), .val (.int p3), .val (.int v5), .val (.int v8), .val (.int v17), .val (.int v20), .unset, .unset] [(.ref b22)])) _
      refine XS.astore X47.here hx rfl (hb hby at_88) rfl rfl (l' := #[.val (.int p0), .val (.int p1), .val (.int p2), .val (.int p3), .val (.int v5), .val (.int v8), .val (.int v17), .val (.int v20), .val (.ref b22), .unset]) rfl ?_
      show Steps p.tables e below (T47.setTop (mkF m 90 #[.val (.int p0), .val (.int p1), .val (.int p2), .val (.int p3), .val (.int v5), .val (.int v8), .val (.int v17), .val (.int v20), .val (.ref b22), .unset] [])) _
      refine XS.iload X47.here hx rfl (hb hby at_90) rfl ?_
      show Steps p.tables e below (T47.setTop (mkF m 92 #[.val (.int p0), .val (.int p1), .val (.int p2), .val (.int p3), .val (.int v5), .val (.int v8), .val (.int v17), .val (.int v20), .val (.ref b22), .unset] [(.int v20)])) _
      refine XS.iload X47.here hx rfl (hb hby at_92) rfl ?_
      exact k)
  obtain ⟨T57, L57, v56, X57, e57, N57, hv56, pre57⟩ : ∃ (T' : State) (L' : List Loc) (v56 : Int32), Stand p l e room_1 (s.setVm T26.vm) m #[(.int p0), (.int p1), (.int p2), (.int p3)] below meth c T' L' 3 28 ∧ T'.heap = T47.heap ∧ Fr n0 L' ∧ v56 = (if v20 < v5 then ((((v5 - (1 : Int32)) - v20) / v17) + (1 : Int32)) else (0 : Int32)) ∧ (∀ t, Steps p.tables e below (T'.setTop (mkF m 113 #[.val (.int p0), .val (.int p1), .val (.int p2), .val (.int p3), .val (.int v5), .val (.int v8), .val (.int v17), .val (.int v20), .val (.ref b22), .unset] [(.int v56)])) t → P t) := by
    by_cases hc53 : v20 < v5
    · have pre54 : ∀ t, Steps p.tables e below (T47.setTop (mkF m 113 #[.val (.int p0), .val (.int p1), .val (.int p2), .val (.int p3), .val (.int v5), .val (.int v8), .val (.int v17), .val (.int v20), .val (.ref b22), .unset] [(.int ((((v5 - (1 : Int32)) - v20) / v17) + (1 : Int32)))])) t → P t := fun t k => pre52 t (by
          show Steps p.tables e below (T47.setTop (mkF m 94 #[.val (.int p0), .val (.int p1), .val (.int p2), .val (.int p3), .val (.int v5), .val (.int v8), .val (.int v17), .val (.int v20), .val (.ref b22), .unset] [(.int v5), (.int v20)])) _
          refine XS.icmpNo X47.here hx rfl (hb hby at_94) rfl (tlt hc53).2.1 ?_
          show Steps p.tables e below (T47.setTop (mkF m 97 #[.val (.int p0), .val (.int p1), .val (.int p2), .val (.int p3), .val (.int v5), .val (.int v8), .val (.int v17), .val (.int v20), .val (.ref b22), .unset] [])) _
          refine XS.iload X47.here hx rfl (hb hby at_97) rfl ?_
          show Steps p.tables e below (T47.setTop (mkF m 99 #[.val (.int p0), .val (.int p1), .val (.int p2), .val (.int p3), .val (.int v5), .val (.int v8), .val (.int v17), .val (.int v20), .val (.ref b22), .unset] [(.int v5)])) _
          refine XS.iconst X47.here hx rfl (hb hby at_99) ?_
          show Steps p.tables e below (T47.setTop (mkF m 100 #[.val (.int p0), .val (.int p1), .val (.int p2), .val (.int p3), .val (.int v5), .val (.int v8), .val (.int v17), .val (.int v20), .val (.ref b22), .unset] [(.int (1 : Int32)), (.int v5)])) _
          refine XS.isub X47.here hx rfl (hb hby at_100) rfl ?_
          show Steps p.tables e below (T47.setTop (mkF m 101 #[.val (.int p0), .val (.int p1), .val (.int p2), .val (.int p3), .val (.int v5), .val (.int v8), .val (.int v17), .val (.int v20), .val (.ref b22), .unset] [(.int (v5 - (1 : Int32)))])) _
          refine XS.iload X47.here hx rfl (hb hby at_101) rfl ?_
          show Steps p.tables e below (T47.setTop (mkF m 103 #[.val (.int p0), .val (.int p1), .val (.int p2), .val (.int p3), .val (.int v5), .val (.int v8), .val (.int v17), .val (.int v20), .val (.ref b22), .unset] [(.int v20), (.int (v5 - (1 : Int32)))])) _
          refine XS.isub X47.here hx rfl (hb hby at_103) rfl ?_
          show Steps p.tables e below (T47.setTop (mkF m 104 #[.val (.int p0), .val (.int p1), .val (.int p2), .val (.int p3), .val (.int v5), .val (.int v8), .val (.int v17), .val (.int v20), .val (.ref b22), .unset] [(.int ((v5 - (1 : Int32)) - v20))])) _
          refine XS.iload X47.here hx rfl (hb hby at_104) rfl ?_
          show Steps p.tables e below (T47.setTop (mkF m 106 #[.val (.int p0), .val (.int p1), .val (.int p2), .val (.int p3), .val (.int v5), .val (.int v8), .val (.int v17), .val (.int v20), .val (.ref b22), .unset] [(.int v17), (.int ((v5 - (1 : Int32)) - v20))])) _
          refine XS.idiv X47.here hx rfl (hb hby at_106) rfl (by subst hv8 hv17; exact own_g0 _ _) ?_
          show Steps p.tables e below (T47.setTop (mkF m 107 #[.val (.int p0), .val (.int p1), .val (.int p2), .val (.int p3), .val (.int v5), .val (.int v8), .val (.int v17), .val (.int v20), .val (.ref b22), .unset] [(.int (((v5 - (1 : Int32)) - v20) / v17))])) _
          refine XS.iconst X47.here hx rfl (hb hby at_107) ?_
          show Steps p.tables e below (T47.setTop (mkF m 108 #[.val (.int p0), .val (.int p1), .val (.int p2), .val (.int p3), .val (.int v5), .val (.int v8), .val (.int v17), .val (.int v20), .val (.ref b22), .unset] [(.int (1 : Int32)), (.int (((v5 - (1 : Int32)) - v20) / v17))])) _
          refine XS.iadd X47.here hx rfl (hb hby at_108) rfl ?_
          show Steps p.tables e below (T47.setTop (mkF m 109 #[.val (.int p0), .val (.int p1), .val (.int p2), .val (.int p3), .val (.int v5), .val (.int v8), .val (.int v17), .val (.int v20), .val (.ref b22), .unset] [(.int ((((v5 - (1 : Int32)) - v20) / v17) + (1 : Int32)))])) _
          refine XS.goto X47.here hx rfl (pc0 := 109) (pc' := 113) rfl (hb hby at_109) (by decide) (by decide) ?_
          exact k)
      exact ⟨_, _, ((((v5 - (1 : Int32)) - v20) / v17) + (1 : Int32)), X47, rfl, N47, (by first | (rw [if_pos hc53]; done) | simp only [if_pos hc53] | simp [if_pos hc53]), pre54⟩
    · have pre55 : ∀ t, Steps p.tables e below (T47.setTop (mkF m 113 #[.val (.int p0), .val (.int p1), .val (.int p2), .val (.int p3), .val (.int v5), .val (.int v8), .val (.int v17), .val (.int v20), .val (.ref b22), .unset] [(.int (0 : Int32))])) t → P t := fun t k => pre52 t (by
          show Steps p.tables e below (T47.setTop (mkF m 94 #[.val (.int p0), .val (.int p1), .val (.int p2), .val (.int p3), .val (.int v5), .val (.int v8), .val (.int v17), .val (.int v20), .val (.ref b22), .unset] [(.int v5), (.int v20)])) _
          refine XS.icmpYes X47.here hx rfl (pc0 := 94) (pc' := 112) rfl (hb hby at_94) rfl (flt hc53).2.1 (by decide) (by decide) ?_
          show Steps p.tables e below (T47.setTop (mkF m 112 #[.val (.int p0), .val (.int p1), .val (.int p2), .val (.int p3), .val (.int v5), .val (.int v8), .val (.int v17), .val (.int v20), .val (.ref b22), .unset] [])) _
          refine XS.iconst X47.here hx rfl (hb hby at_112) ?_
          exact k)
      exact ⟨_, _, (0 : Int32), X47, rfl, N47, (by first | (rw [if_neg hc53]; done) | simp only [if_neg hc53] | simp [if_neg hc53]), pre55⟩
  have pre58 : ∀ t, Steps p.tables e below (T57.setTop (mkF m 119 #[.val (.int p0), .val (.int p1), .val (.int p2), .val (.int p3), .val (.int v5), .val (.int v8), .val (.int v17), .val (.int v20), .val (.ref b22), .val (.int v56)] [(.int v20), (.ref b22)])) t → P t := fun t k => pre57 t (by
      show Steps p.tables e below (T57.setTop (mkF m 113 #[.val (.int p0), .val (.int p1), .val (.int p2), .val (.int p3), .val (.int v5), .val (.int v8), .val (.int v17), .val (.int v20), .val (.ref b22), .unset] [(.int v56)])) _
      refine XS.istore X57.here hx rfl (hb hby at_113) rfl (l' := #[.val (.int p0), .val (.int p1), .val (.int p2), .val (.int p3), .val (.int v5), .val (.int v8), .val (.int v17), .val (.int v20), .val (.ref b22), .val (.int v56)]) rfl ?_
      show Steps p.tables e below (T57.setTop (mkF m 115 #[.val (.int p0), .val (.int p1), .val (.int p2), .val (.int p3), .val (.int v5), .val (.int v8), .val (.int v17), .val (.int v20), .val (.ref b22), .val (.int v56)] [])) _
      refine XS.aload X57.here hx rfl (hb hby at_115) rfl rfl ?_
      show Steps p.tables e below (T57.setTop (mkF m 117 #[.val (.int p0), .val (.int p1), .val (.int p2), .val (.int p3), .val (.int v5), .val (.int v8), .val (.int v17), .val (.int v20), .val (.ref b22), .val (.int v56)] [(.ref b22)])) _
      refine XS.iload X57.here hx rfl (hb hby at_117) rfl ?_
      exact k)
  obtain ⟨cq59, kq59, q59a, q59b, q59c⟩ := isOf hZ e57 EE47
  obtain ⟨_, _, ⟨T59, L59, k59, n59⟩, -, X59, ⟨Lc59, hQ59, l59, y59, z59⟩, st59⟩ := X57.virtualBack hx (y := (⟨"com/example/incarico/incarico/load/LoadConfig", "membersOf", "(I)I"⟩ : MethodName)) (z := (⟨"com/example/incarico/incarico/load/LoadConfig", "membersOf", "(I)I"⟩ : MethodName)) hown (mvT hZ (hw _ (List.mem_of_getElem? (i := 55) rfl))) (mvT hZ (hw _ (List.mem_of_getElem? (i := 56) rfl))) (notFace_of_selects (args := #[]) (mvT hZ (hw _ (List.mem_of_getElem? (i := 58) rfl)))) (mvT hZ (hw _ (List.mem_of_getElem? (i := 58) rfl))) (mvT hZ (hw _ (List.mem_of_getElem? (i := 57) rfl))) (by decide) (backOf (W := 0) (rm4 l Z a0 hw [] b22 v20 v5 v17 T47.heap n0 c48 FF47_2 FF47_3 (by subst hv8 hv17; exact own_g0 _ _)) hZ (hw _ (List.mem_of_getElem? (i := 59) rfl)) (hw _ (List.mem_of_getElem? (i := 3) rfl)) (by decide) (by decide)) q59a q59c (g := (mkF m 119 #[.val (.int p0), .val (.int p1), .val (.int p2), .val (.int p3), .val (.int v5), .val (.int v8), .val (.int v17), .val (.int v20), .val (.ref b22), .val (.int v56)] [(.int v20), (.ref b22)])) rfl (by rw [hml]; rfl) (Steps.refl _) (argsL := [(.int v20)]) (rest := []) (lenOf own_pd3 rfl) rfl (by show 2 * 0 + _ ≤ _; exact Nat.le_of_eq rfl) (hb hby at_119) (fun _ _ => ⟨rfl, e57, (by decide : 3 + 0 ≤ _), (by decide : 28 + 0 ≤ _)⟩)
  dsimp only [Pt.U, Pt.locs, Pt.cells, Pt.slots] at X59 l59 y59 z59 st59 hQ59
  subst l59 y59 z59
  obtain ⟨rfl, N59q, e59⟩ := hQ59
  have N59 := Fr.app N57 N59q
  have pre59 : ∀ t, Steps p.tables e below (T59.setTop (mkF m 122 #[.val (.int p0), .val (.int p1), .val (.int p2), .val (.int p3), .val (.int v5), .val (.int v8), .val (.int v17), .val (.int v20), .val (.ref b22), .val (.int v56)] [(.int (own_f4 v20 v5 v17))])) t → P t := fun t k => pre58 t (st59.trans k)
  obtain ⟨v60, hv60⟩ : ∃ z : Int32, z = (own_f4 v20 v5 v17) := ⟨_, rfl⟩
  have pre61 : ∀ t, Steps p.tables e below (T59.setTop (mkF m 122 #[.val (.int p0), .val (.int p1), .val (.int p2), .val (.int p3), .val (.int v5), .val (.int v8), .val (.int v17), .val (.int v20), .val (.ref b22), .val (.int v56)] [(.int v60)])) t → P t := fun t k => pre59 t (by subst hv60; exact k)
  have pre62 : ∀ t, Steps p.tables e below (T59.setTop (mkF m 124 #[.val (.int p0), .val (.int p1), .val (.int p2), .val (.int p3), .val (.int v5), .val (.int v8), .val (.int v17), .val (.int v20), .val (.ref b22), .val (.int v56)] [(.int v56), (.int v60)])) t → P t := fun t k => pre61 t (by
      show Steps p.tables e below (T59.setTop (mkF m 122 #[.val (.int p0), .val (.int p1), .val (.int p2), .val (.int p3), .val (.int v5), .val (.int v8), .val (.int v17), .val (.int v20), .val (.ref b22), .val (.int v56)] [(.int v60)])) _
      refine XS.iload X59.here hx rfl (hb hby at_122) rfl ?_
      exact k)
  obtain ⟨T67, L67, v66, X67, e67, N67, hv66, pre67⟩ : ∃ (T' : State) (L' : List Loc) (v66 : Int32), Stand p l e room_1 (s.setVm T26.vm) m #[(.int p0), (.int p1), (.int p2), (.int p3)] below meth c T' L' 3 28 ∧ T'.heap = T47.heap ∧ Fr n0 L' ∧ v66 = (if v60 = v56 then (1 : Int32) else (0 : Int32)) ∧ (∀ t, Steps p.tables e below (T'.setTop (mkF m 132 #[.val (.int p0), .val (.int p1), .val (.int p2), .val (.int p3), .val (.int v5), .val (.int v8), .val (.int v17), .val (.int v20), .val (.ref b22), .val (.int v56)] [(.int v66)])) t → P t) := by
    by_cases hc63 : v60 = v56
    · have pre64 : ∀ t, Steps p.tables e below (T59.setTop (mkF m 132 #[.val (.int p0), .val (.int p1), .val (.int p2), .val (.int p3), .val (.int v5), .val (.int v8), .val (.int v17), .val (.int v20), .val (.ref b22), .val (.int v56)] [(.int (1 : Int32))])) t → P t := fun t k => pre62 t (by
          show Steps p.tables e below (T59.setTop (mkF m 124 #[.val (.int p0), .val (.int p1), .val (.int p2), .val (.int p3), .val (.int v5), .val (.int v8), .val (.int v17), .val (.int v20), .val (.ref b22), .val (.int v56)] [(.int v56), (.int v60)])) _
          refine XS.icmpNo X59.here hx rfl (hb hby at_124) rfl (teq hc63).2 ?_
          show Steps p.tables e below (T59.setTop (mkF m 127 #[.val (.int p0), .val (.int p1), .val (.int p2), .val (.int p3), .val (.int v5), .val (.int v8), .val (.int v17), .val (.int v20), .val (.ref b22), .val (.int v56)] [])) _
          refine XS.iconst X59.here hx rfl (hb hby at_127) ?_
          show Steps p.tables e below (T59.setTop (mkF m 128 #[.val (.int p0), .val (.int p1), .val (.int p2), .val (.int p3), .val (.int v5), .val (.int v8), .val (.int v17), .val (.int v20), .val (.ref b22), .val (.int v56)] [(.int (1 : Int32))])) _
          refine XS.goto X59.here hx rfl (pc0 := 128) (pc' := 132) rfl (hb hby at_128) (by decide) (by decide) ?_
          exact k)
      exact ⟨_, _, (1 : Int32), X59, e59, N59, (by first | (rw [if_pos hc63]; done) | simp only [if_pos hc63] | simp [if_pos hc63]), pre64⟩
    · have pre65 : ∀ t, Steps p.tables e below (T59.setTop (mkF m 132 #[.val (.int p0), .val (.int p1), .val (.int p2), .val (.int p3), .val (.int v5), .val (.int v8), .val (.int v17), .val (.int v20), .val (.ref b22), .val (.int v56)] [(.int (0 : Int32))])) t → P t := fun t k => pre62 t (by
          show Steps p.tables e below (T59.setTop (mkF m 124 #[.val (.int p0), .val (.int p1), .val (.int p2), .val (.int p3), .val (.int v5), .val (.int v8), .val (.int v17), .val (.int v20), .val (.ref b22), .val (.int v56)] [(.int v56), (.int v60)])) _
          refine XS.icmpYes X59.here hx rfl (pc0 := 124) (pc' := 131) rfl (hb hby at_124) rfl (feq hc63).2 (by decide) (by decide) ?_
          show Steps p.tables e below (T59.setTop (mkF m 131 #[.val (.int p0), .val (.int p1), .val (.int p2), .val (.int p3), .val (.int v5), .val (.int v8), .val (.int v17), .val (.int v20), .val (.ref b22), .val (.int v56)] [])) _
          refine XS.iconst X59.here hx rfl (hb hby at_131) ?_
          exact k)
      exact ⟨_, _, (0 : Int32), X59, e59, N59, (by first | (rw [if_neg hc63]; done) | simp only [if_neg hc63] | simp [if_neg hc63]), pre65⟩
  obtain ⟨fs, hr, hrun, hended, hRW⟩ := X67.leaveW hS26 (by rw [e67]; exact c50) (v := some (.int v66)) (fun h => by rw [Bd.returns] at h; cases h)
  refine ⟨_, _, fin _ (pre67 _ ?_), hrun, hended, _, _, rfl, ?_, hRW.1, hRW.2.1, hRW.2.2.1, hRW.2.2.2.mono (by decide) (by decide)⟩
  · show Steps p.tables e below (T67.setTop (mkF m 132 #[.val (.int p0), .val (.int p1), .val (.int p2), .val (.int p3), .val (.int v5), .val (.int v8), .val (.int v17), .val (.int v20), .val (.ref b22), .val (.int v56)] [(.int v66)])) _
    have hnar : nar .boolean v66 = v66 := by subst hv5 hv8 hv17 hv20 hv56 hv60 hv66; first | rfl | (split <;> rfl) | ((try simp only []); (repeat' split) <;> rfl)
    exact retN X67 hx (t := .boolean) Bd.returns (by simp) (hb hby at_132) (by rw [hnar]; exact hr)
  · show Q0 Z p0 p1 p2 p3 h0 n0 _ T67.heap _
    rw [e67]
    exact ⟨(by subst hv5 hv8 hv17 hv20 hv56 hv60 hv66; first | rfl | simp only [own_f0]), N67⟩
theorem own_div (a g k : Int) (hg : 0 < g) (h1 : g * k ≤ a) (h2 : a < g * k + g) : a / g = k := by
  have h3 := Int.le_ediv_of_mul_le hg (show k * g ≤ a by rw [Int.mul_comm]; exact h1)
  have h4 := Int.ediv_lt_of_lt_mul hg (show a < (k + 1) * g by rw [Int.add_mul, Int.mul_comm]; omega)
  omega
theorem own_mod (H g : Int32) (h0 : 0 ≤ H.toInt) (hg : 1 ≤ g.toInt) : 0 ≤ (H % g).toInt ∧ (H % g).toInt < g.toInt := by
  have h := (c_iremV H g).1 h0 (by omega)
  omega
theorem own_key (m g h : Int32) (hm : 0 ≤ m.toInt) (hg : 1 ≤ g.toInt) (h0 : 0 ≤ h.toInt) (h1 : h.toInt < g.toInt) :
    own_f4 h m g = (if h < m then ((((m - (1 : Int32)) - h) / g) + (1 : Int32)) else (0 : Int32)) := by
  have e1 : (1 : Int32).toInt = 1 := by decide
  have e0 : (0 : Int32).toInt = 0 := by decide
  have hgm : g ≠ -1 := by rintro rfl; revert hg; decide
  have rm := rng32 m
  have q1 := (c_idiv m g g.toInt rfl hgm).1 hm
  have q2 := (c_irem m g g.toInt rfl).1 hm
  have q3 := Int.mul_ediv_add_emod m.toInt g.toInt
  have q4 := Int.emod_nonneg m.toInt (show g.toInt ≠ 0 by omega)
  have q5 := Int.emod_lt_of_pos m.toInt (show 0 < g.toInt by omega)
  have q6 : 0 ≤ m.toInt / g.toInt := Int.ediv_nonneg hm (by omega)
  have q7 : m.toInt / g.toInt ≤ m.toInt := Int.ediv_le_self _ hm
  unfold own_f4
  simp only []
  have s1 := c_isub m 1
  have s2 := rng32 (m - 1)
  have s3 := c_isub (m - 1) h
  have s4 := rng32 (m - 1 - h)
  have rg := rng32 g
  by_cases c : h < m % g
  · rw [if_pos c]
    rw [Int32.lt_iff_toInt_lt, q2] at c
    have hp : 0 ≤ g.toInt * (m.toInt / g.toInt) := Int.mul_nonneg (by omega) q6
    have c2 : h < m := by rw [Int32.lt_iff_toInt_lt]; omega
    rw [if_pos c2]
    congr 1
    rw [← Int32.toInt_inj]
    have q8 := (c_idiv (m - 1 - h) g g.toInt rfl hgm).1 (by omega)
    rw [q8, q1]
    have e : (m - 1 - h).toInt = m.toInt - 1 - h.toInt := by omega
    rw [e]
    exact (own_div _ _ _ (by omega) (by omega) (by omega)).symm
  · rw [if_neg c]
    rw [Int32.lt_iff_toInt_lt, q2] at c
    by_cases c2 : h < m
    · rw [if_pos c2]
      rw [Int32.lt_iff_toInt_lt] at c2
      rw [← Int32.toInt_inj]
      have q8 := (c_idiv (m - 1 - h) g g.toInt rfl hgm).1 (by omega)
      have e : (m - 1 - h).toInt = m.toInt - 1 - h.toInt := by omega
      rw [e] at q8
      have e2 : g.toInt * (m.toInt / g.toInt - 1) = g.toInt * (m.toInt / g.toInt) - g.toInt := by rw [Int.mul_sub]; omega
      have q9 : (m.toInt - 1 - h.toInt) / g.toInt = m.toInt / g.toInt - 1 := own_div _ _ _ (by omega) (by omega) (by omega)
      rw [q9] at q8
      have s5 := c_iadd ((m - 1 - h) / g) 1
      have s6 := rng32 ((m - 1 - h) / g + 1)
      have s7 := c_iadd (m / g) 0
      have s8 := rng32 (m / g + 0)
      omega
    · rw [if_neg c2]
      rw [Int32.lt_iff_toInt_lt] at c2
      rw [← Int32.toInt_inj]
      have q9 : m.toInt / g.toInt = 0 := own_div _ _ _ (by omega) (by omega) (by omega)
      have s7 := c_iadd (m / g) 0
      have s8 := rng32 (m / g + 0)
      omega
theorem own_law (a b c d : Int32) : own_f0 a b c d = 1 := by
  have h1 := c_mask a 2147483647 31 (by decide) (by decide)
  have h2 := c_mask a 15 4 (by decide) (by decide)
  have h3 := c_mask c 2147483647 31 (by decide) (by decide)
  have hg := own_gr d b
  unfold own_f0
  simp only []
  have hm : 0 ≤ (if (d &&& (2 : Int32)) = (0 : Int32) then (a &&& (2147483647 : Int32)) else (a &&& (15 : Int32))).toInt := by split <;> omega
  generalize (if (d &&& (2 : Int32)) = (0 : Int32) then (a &&& (2147483647 : Int32)) else (a &&& (15 : Int32))) = m at *
  generalize (if (d &&& (1 : Int32)) = (0 : Int32) then (own_f5 (1 : Int32) (b &&& (2147483647 : Int32))) else (((b &&& (2147483647 : Int32)) % (8 : Int32)) + (1 : Int32))) = g at *
  have h4 := own_mod (c &&& 2147483647) g (by omega) hg
  rw [own_key m g _ hm hg h4.1 h4.2, if_pos rfl]
set_option maxRecDepth 65536 in
set_option maxHeartbeats 40000000 in
theorem comes_1 {Post : Tables → Env → Array Value → State → Outcome → State → Prop} (hpost : ∀ tb e args s v u, (limb_1_1.after args s (.returned v) u = true ∧ limb_1_2.after args s (.returned v) u = true ∧ True) → ReturnedEndW s (.returned v) u (Jvm.fieldLocs frame_1_writes args s ++ Jvm.arrayLocs frame_1_arrays args s ++ Jvm.staticLocs frame_1_statics s) 16 1152 → Post tb e args s (.returned v) u) :
    ArmFor flags0 classFile x code maxLocals ret World_1 tables_1 room_1 Calls_1 rest_1 Pre_1 Post := by
  intro l hfl _ _ p e ha hc hk s m args below hf hA hF happ hP
  obtain ⟨hcalls, hrest, hpre⟩ := hP
  obtain ⟨-, -, -, hnamed, -, -, -, hat⟩ := (Spec.applies_iff hf).mp happ
  obtain ⟨hg, hn⟩ := and_e (Cond.before_iff.mp (show (Jvm.Cond.and given_1 narrow_1).before args s = true from hpre))
  obtain ⟨hg1, hg2⟩ := and_e hg
  obtain ⟨hg3, hg4⟩ := and_e hg2
  obtain ⟨hg5, hg6⟩ := and_e hg4
  obtain ⟨hg7, hg8⟩ := and_e hg6
  obtain ⟨w0, w1, w2, w3, rfl⟩ : ∃ w0 w1 w2 w3 : Value, args = #[w0, w1, w2, w3] := by
    have hs : args.size = 4 := by simpa [Cond.value, given_1] using hg1
    obtain ⟨L⟩ := args
    match L, hs with
    | [w0, w1, w2, w3], _ => exact ⟨w0, w1, w2, w3, rfl⟩
  have hw := fun d (hd : d ∈ tables_1) => atoms_spec (ws := Jvm.Cond.code x code maxLocals ret :: tables_1) hat d (List.mem_cons_of_mem _ hd)
  have hfit : Fit s := fun {y c} hc i hi => by
    obtain ⟨ha, rfl⟩ := Array.getElem?_eq_some_iff.mp hc
    have q := List.all_eq_true.mp ((Array.all_eq_true_iff_forall_mem.mp hF) _ (Array.getElem_mem ha)) i (List.mem_range.mpr hi)
    simpa [Array.getElem?_eq_getElem hi] using q
  obtain ⟨i0, ei0⟩ := is_v hg3
  obtain rfl : w0 = (.int i0) := Option.some.inj ei0
  obtain ⟨i1, ei1⟩ := is_v hg5
  obtain rfl : w1 = (.int i1) := Option.some.inj ei1
  obtain ⟨i2, ei2⟩ := is_v hg7
  obtain rfl : w2 = (.int i2) := Option.some.inj ei2
  obtain ⟨i3, ei3⟩ := is_v hg8
  obtain rfl : w3 = (.int i3) := Option.some.inj ei3
  obtain ⟨n, o, h1, h2, h3, _, L, rfl, ⟨rfl, N⟩, hq⟩ := rm0 l s _ hw tables_1 i0 i1 i2 i3 s.heap s.heap.size (Nat.le_refl _) p e ha hc hk s m _ below hf ((Spec.applies_iff_loose hf).mp happ).1 ⟨rfl, State.Warmed39.refl s, rfl⟩ trivial
  refine ⟨n, _, h1, h2, h3, hpost _ _ _ _ _ _ ⟨Cond.after_iff.mpr rfl, Cond.after_iff.mpr (eq_i res_at (Term.int_eval (1)) (by rw [own_law])), trivial⟩ ⟨hq.1, hq.2.1, hq.2.2.1, (hq.2.2.2.sift fun y hy => Or.inr (N y hy)).mono (by decide) (by decide)⟩⟩
theorem main_1_1 : Claimed_1_1 := comes_1 fun _ _ _ _ _ _ h hF => ⟨h.1, hF⟩
theorem main_1_2 : Claimed_1_2 := comes_1 fun _ _ _ _ _ _ h hF => ⟨h.2.1, hF⟩
end Jvm.Pilot.@@N@@
namespace Jvm.Pilot.@@N@@
open Jvm Jvm.ClassFile Sem Op Lib Jvm.Free Jvm.Stand Jvm.Pilot.@@N@@.Jvm.D
/-! MADE BY PROGRAM (witnessworld.py) out of the Statement's table words and the real class files: 16 classes; the members and pool entries that the words name. The judged class is class 1, her method 1. -/
namespace start1
open Jvm.ClassFile
def u (s : String) : CpInfo := .utf8 (stringToUtf16 s)
/-- a pool by its gaps: so many unusable entries, then the entry; so many at the end -/
def gap : Nat → List CpInfo → List CpInfo
  | 0, r => r
  | n + 1, r => .unusable :: gap n r
def poolList (es : List (Nat × CpInfo)) (last : Nat) : List CpInfo := es.foldr (fun e r => gap e.1 (e.2 :: r)) (gap last [])
def pool (es : List (Nat × CpInfo)) (last : Nat) : Array CpInfo := ⟨poolList es last⟩
def fileOf (pool : Array CpInfo) (this : Nat) (attrs : Array Attribute := #[]) (ms : Array MethodInfo := #[]) (fl : Nat := 33) (sup : Nat := 0) (ifs : Array Nat := #[]) (fds : Array FieldInfo := #[]) : ClassFile where
  minorVersion := 0
  majorVersion := 65
  constantPool := pool
  accessFlags := fl
  thisClass := this
  superClass := sup
  interfaces := ifs
  fields := fds
  methods := ms
  attributes := attrs
def plain (name : String) (sup : Option ClassId) : Class where
  name := name
  kind := .ordinary
  loader := none
  accessFlags := 33
  super := sup
  interfaces := #[]
  cf := none
  fields := #[]
  methods := #[]
  instanceTypes := #[]
  staticTypes := #[]
  resolved := #[]
  callSites := []
  init := .initialized
  statics := none
  mirror := none

def pool0 : Array CpInfo := pool [(5, u "<init>"), (0, u "()V"), (1, .class_ 10), (1, u "java/lang/Object")] 113

def k0c0 : Code := { maxStack := 0, maxLocals := 1, code := object_method_1_code, exceptionTable := #[], attributes := #[] }
def k0m0 : Method := { name := "<init>", desc := "()V", sig := { parameters := [], returnType := none }, accessFlags := 1, code := some k0c0 }
/-- java/lang/Object -/
def k0 : Class := { plain "java/lang/Object" none with
  accessFlags := 33
  interfaces := #[]
  cf := some (fileOf pool0 8 #[] #[{ accessFlags := 1, nameIndex := 5, descriptorIndex := 6, attributes := #[] }] 33 0 #[] #[])
  fields := #[]
  methods := #[k0m0]
  instanceTypes := #[]
  staticTypes := #[]
  resolved := Array.replicate 124 none
  statics := none }

def pool1 : Array CpInfo := pool [(2, .class_ 4), (1, u "java/lang/Object"), (0, u "<init>"), (0, u "()V"), (0, .integer 2147483647), (0, .methodref 9 10), (0, .class_ 11), (0, .nameAndType 12 13), (0, u "java/lang/Math"), (0, u "max"), (0, u "(II)I"), (0, .class_ 15), (0, u "com/example/incarico/incarico/load/LoadConfig"), (0, .string 17), (0, u "cp"), (0, .methodref 14 19), (0, .nameAndType 5 20), (0, u "(Ljava/lang/String;ZIIIIIIIIIDDDII)V"), (0, .methodref 14 22), (0, .nameAndType 23 24), (0, u "membersOf"), (0, u "(I)I"), (0, .class_ 26), (0, u "com/example/incarico/incarico/load/LoadConfigMembersOfPinLaw"), (2, u "law"), (0, u "(IIII)Z")] 3

def k1m0 : Method := { name := "<init>", desc := "()V", sig := { parameters := [], returnType := none }, accessFlags := 1, code := none }
def k1c1 : Code := { maxStack := 21, maxLocals := 10, code := code, exceptionTable := #[], attributes := #[] }
def k1m1 : Method := { name := "law", desc := "(IIII)Z", sig := { parameters := [.int, .int, .int, .int], returnType := some .boolean }, accessFlags := 9, code := some k1c1 }
/-- com/example/incarico/incarico/load/LoadConfigMembersOfPinLaw -/
def k1 : Class := { plain "com/example/incarico/incarico/load/LoadConfigMembersOfPinLaw" (some 0) with
  accessFlags := 49
  interfaces := #[]
  cf := some (fileOf pool1 25 #[] #[{ accessFlags := 1, nameIndex := 5, descriptorIndex := 6, attributes := #[] }, { accessFlags := 9, nameIndex := 29, descriptorIndex := 30, attributes := #[] }] 49 2 #[] #[])
  fields := #[]
  methods := #[k1m0, k1m1]
  instanceTypes := #[]
  staticTypes := #[]
  resolved := Array.replicate 34 none
  statics := none }

def pool2 : Array CpInfo := pool [(1, .methodref 2 3), (0, .class_ 4), (0, .nameAndType 5 6), (0, u "java/lang/Object"), (0, u "<init>"), (0, u "()V"), (0, .class_ 8), (0, u "java/lang/Record")] 13

def k2c0 : Code := { maxStack := 1, maxLocals := 1, code := jdk_30_method_1_code, exceptionTable := #[], attributes := #[] }
def k2m0 : Method := { name := "<init>", desc := "()V", sig := { parameters := [], returnType := none }, accessFlags := 4, code := some k2c0 }
/-- java/lang/Record -/
def k2 : Class := { plain "java/lang/Record" (some 0) with
  accessFlags := 1057
  interfaces := #[]
  cf := some (fileOf pool2 7 #[] #[{ accessFlags := 4, nameIndex := 5, descriptorIndex := 6, attributes := #[] }] 1057 2 #[] #[])
  fields := #[]
  methods := #[k2m0]
  instanceTypes := #[]
  staticTypes := #[]
  resolved := Array.replicate 22 none
  statics := none }

def pool3 : Array CpInfo := pool [(1, .methodref 2 3), (0, .class_ 4), (0, .nameAndType 5 6), (0, u "java/lang/Record"), (0, u "<init>"), (0, u "()V"), (0, .fieldref 8 9), (0, .class_ 10), (0, .nameAndType 11 12), (0, u "com/example/incarico/incarico/load/LoadConfig"), (0, u "serverClassPath"), (0, u "Ljava/lang/String;"), (0, .fieldref 8 14), (0, .nameAndType 15 16), (0, u "inMemory"), (0, u "Z"), (0, .fieldref 8 18), (0, .nameAndType 19 20), (0, u "members"), (0, u "I"), (0, .fieldref 8 22), (0, .nameAndType 23 20), (0, u "groups"), (0, .fieldref 8 25), (0, .nameAndType 26 20), (0, u "partitions"), (0, .fieldref 8 28), (0, .nameAndType 29 20), (0, u "growTo"), (0, .fieldref 8 31), (0, .nameAndType 32 20), (0, u "heartbeatIntervalMs"), (0, .fieldref 8 34), (0, .nameAndType 35 20), (0, u "sessionTimeoutMs"), (0, .fieldref 8 37), (0, .nameAndType 38 20), (0, u "joinS"), (0, .fieldref 8 40), (0, .nameAndType 41 20), (0, u "measureS"), (0, .fieldref 8 43), (0, .nameAndType 44 20), (0, u "growAtS"), (0, .fieldref 8 46), (0, .nameAndType 47 48), (0, u "metadataRate"), (0, u "D"), (0, .fieldref 8 50), (0, .nameAndType 51 48), (0, u "commitRate"), (0, .fieldref 8 53), (0, .nameAndType 54 48), (0, u "p99LimitMs"), (0, .fieldref 8 56), (0, .nameAndType 57 20), (0, u "pauseAtS"), (0, .fieldref 8 59), (0, .nameAndType 60 20), (0, u "pauseS"), (47, u "GROWN_TOPIC"), (1, u "OTHER_TOPIC"), (0, u "NO_PAUSE"), (1, u "(Ljava/lang/String;ZIIIIIIIIIDDDII)V"), (10, u "membersOf"), (0, u "(I)I")] 49

def k3c0 : Code := { maxStack := 3, maxLocals := 20, code := prog_96_method_1_code, exceptionTable := #[], attributes := #[] }
def k3m0 : Method := { name := "<init>", desc := "(Ljava/lang/String;ZIIIIIIIIIDDDII)V", sig := { parameters := [(.object "java/lang/String"), .boolean, .int, .int, .int, .int, .int, .int, .int, .int, .int, .double, .double, .double, .int, .int], returnType := none }, accessFlags := 0, code := some k3c0 }
def k3c1 : Code := { maxStack := 4, maxLocals := 2, code := prog_96_method_5_code, exceptionTable := #[], attributes := #[] }
def k3m1 : Method := { name := "membersOf", desc := "(I)I", sig := { parameters := [.int], returnType := some .int }, accessFlags := 0, code := some k3c1 }
/-- com/example/incarico/incarico/load/LoadConfig -/
def k3 : Class := { plain "com/example/incarico/incarico/load/LoadConfig" (some 2) with
  accessFlags := 48
  interfaces := #[]
  cf := some (fileOf pool3 8 #[] #[{ accessFlags := 0, nameIndex := 5, descriptorIndex := 113, attributes := #[] }, { accessFlags := 0, nameIndex := 124, descriptorIndex := 125, attributes := #[] }] 48 2 #[] #[{ accessFlags := 18, nameIndex := 11, descriptorIndex := 12, attributes := #[] }, { accessFlags := 18, nameIndex := 15, descriptorIndex := 16, attributes := #[] }, { accessFlags := 18, nameIndex := 19, descriptorIndex := 20, attributes := #[] }, { accessFlags := 18, nameIndex := 23, descriptorIndex := 20, attributes := #[] }, { accessFlags := 18, nameIndex := 26, descriptorIndex := 20, attributes := #[] }, { accessFlags := 18, nameIndex := 29, descriptorIndex := 20, attributes := #[] }, { accessFlags := 18, nameIndex := 32, descriptorIndex := 20, attributes := #[] }, { accessFlags := 18, nameIndex := 35, descriptorIndex := 20, attributes := #[] }, { accessFlags := 18, nameIndex := 38, descriptorIndex := 20, attributes := #[] }, { accessFlags := 18, nameIndex := 41, descriptorIndex := 20, attributes := #[] }, { accessFlags := 18, nameIndex := 44, descriptorIndex := 20, attributes := #[] }, { accessFlags := 18, nameIndex := 47, descriptorIndex := 48, attributes := #[] }, { accessFlags := 18, nameIndex := 51, descriptorIndex := 48, attributes := #[] }, { accessFlags := 18, nameIndex := 54, descriptorIndex := 48, attributes := #[] }, { accessFlags := 18, nameIndex := 57, descriptorIndex := 20, attributes := #[] }, { accessFlags := 18, nameIndex := 60, descriptorIndex := 20, attributes := #[] }, { accessFlags := 24, nameIndex := 108, descriptorIndex := 12, attributes := #[] }, { accessFlags := 24, nameIndex := 110, descriptorIndex := 12, attributes := #[] }, { accessFlags := 24, nameIndex := 111, descriptorIndex := 20, attributes := #[] }])
  fields := #[{ name := "serverClassPath", type := (.object "java/lang/String"), accessFlags := 18, slot := 0, constantValue := 0 }, { name := "inMemory", type := .boolean, accessFlags := 18, slot := 1, constantValue := 0 }, { name := "members", type := .int, accessFlags := 18, slot := 2, constantValue := 0 }, { name := "groups", type := .int, accessFlags := 18, slot := 3, constantValue := 0 }, { name := "partitions", type := .int, accessFlags := 18, slot := 4, constantValue := 0 }, { name := "growTo", type := .int, accessFlags := 18, slot := 5, constantValue := 0 }, { name := "heartbeatIntervalMs", type := .int, accessFlags := 18, slot := 6, constantValue := 0 }, { name := "sessionTimeoutMs", type := .int, accessFlags := 18, slot := 7, constantValue := 0 }, { name := "joinS", type := .int, accessFlags := 18, slot := 8, constantValue := 0 }, { name := "measureS", type := .int, accessFlags := 18, slot := 9, constantValue := 0 }, { name := "growAtS", type := .int, accessFlags := 18, slot := 10, constantValue := 0 }, { name := "metadataRate", type := .double, accessFlags := 18, slot := 11, constantValue := 0 }, { name := "commitRate", type := .double, accessFlags := 18, slot := 12, constantValue := 0 }, { name := "p99LimitMs", type := .double, accessFlags := 18, slot := 13, constantValue := 0 }, { name := "pauseAtS", type := .int, accessFlags := 18, slot := 14, constantValue := 0 }, { name := "pauseS", type := .int, accessFlags := 18, slot := 15, constantValue := 0 }, { name := "GROWN_TOPIC", type := (.object "java/lang/String"), accessFlags := 24, slot := 0, constantValue := 0 }, { name := "OTHER_TOPIC", type := (.object "java/lang/String"), accessFlags := 24, slot := 1, constantValue := 0 }, { name := "NO_PAUSE", type := .int, accessFlags := 24, slot := 2, constantValue := 0 }]
  methods := #[k3m0, k3m1]
  instanceTypes := #[(.object "java/lang/String"), .boolean, .int, .int, .int, .int, .int, .int, .int, .int, .int, .double, .double, .double, .int, .int]
  staticTypes := #[(.object "java/lang/String"), (.object "java/lang/String"), .int]
  resolved := Array.replicate 175 none
  statics := none }

def pool4 : Array CpInfo := pool [(1, .class_ 2), (0, u "java/io/Serializable"), (0, .class_ 4), (0, u "java/lang/Object")] 2

/-- java/io/Serializable -/
def k4 : Class := { plain "java/io/Serializable" (some 0) with
  accessFlags := 1537
  interfaces := #[]
  cf := some (fileOf pool4 1 #[] #[] 1537 3 #[] #[])
  fields := #[]
  methods := #[]
  instanceTypes := #[]
  staticTypes := #[]
  resolved := Array.replicate 7 none
  statics := none }

def pool5 : Array CpInfo := pool [(1, .class_ 2), (0, u "java/lang/Comparable"), (0, .class_ 4), (0, u "java/lang/Object")] 7

/-- java/lang/Comparable -/
def k5 : Class := { plain "java/lang/Comparable" (some 0) with
  accessFlags := 1537
  interfaces := #[]
  cf := some (fileOf pool5 1 #[] #[] 1537 3 #[] #[])
  fields := #[]
  methods := #[]
  instanceTypes := #[]
  staticTypes := #[]
  resolved := Array.replicate 12 none
  statics := none }

def pool6 : Array CpInfo := pool [(2, .class_ 4), (1, u "java/lang/CharSequence"), (42, .class_ 48), (0, u "java/lang/CharSequence$1CodePointIterator"), (10, .class_ 60), (0, u "java/lang/CharSequence$1CharIterator"), (5, .class_ 67), (0, u "java/lang/Object")] 63

/-- java/lang/CharSequence -/
def k6 : Class := { plain "java/lang/CharSequence" (some 0) with
  accessFlags := 1537
  interfaces := #[]
  cf := some (fileOf pool6 2 #[.nestMembers #[47, 59]] #[] 1537 66 #[] #[])
  fields := #[]
  methods := #[]
  instanceTypes := #[]
  staticTypes := #[]
  resolved := Array.replicate 131 none
  statics := none }

def pool7 : Array CpInfo := pool [(1, .class_ 2), (0, u "java/lang/constant/Constable"), (0, .class_ 4), (0, u "java/lang/Object")] 6

/-- java/lang/constant/Constable -/
def k7 : Class := { plain "java/lang/constant/Constable" (some 0) with
  accessFlags := 1537
  interfaces := #[]
  cf := some (fileOf pool7 1 #[] #[] 1537 3 #[] #[])
  fields := #[]
  methods := #[]
  instanceTypes := #[]
  staticTypes := #[]
  resolved := Array.replicate 11 none
  statics := none }

def pool8 : Array CpInfo := pool [(1, .class_ 2), (0, u "java/lang/constant/ConstantDesc"), (0, .class_ 4), (0, u "java/lang/Object")] 32

/-- java/lang/constant/ConstantDesc -/
def k8 : Class := { plain "java/lang/constant/ConstantDesc" (some 0) with
  accessFlags := 1537
  interfaces := #[]
  cf := some (fileOf pool8 1 #[] #[] 1537 3 #[] #[])
  fields := #[]
  methods := #[]
  instanceTypes := #[]
  staticTypes := #[]
  resolved := Array.replicate 37 none
  statics := none }

def pool9 : Array CpInfo := pool [(2, .class_ 4), (1, u "java/lang/Object"), (0, u "<init>"), (0, u "()V"), (3, .class_ 12), (1, u "java/lang/String"), (0, u "value"), (0, u "[B"), (2, u "coder"), (0, u "B"), (2, u "hash"), (0, u "I"), (2, u "hashIsZero"), (0, u "Z"), (13, u "COMPACT_STRINGS"), (534, .class_ 576), (0, u "java/lang/CharSequence"), (22, u "CASE_INSENSITIVE_ORDER"), (0, u "Ljava/util/Comparator;"), (500, u "serialPersistentFields"), (0, u "[Ljava/io/ObjectStreamField;"), (0, .class_ 1104), (0, u "java/lang/String$CaseInsensitiveComparator"), (1, .class_ 1107), (0, u "java/io/Serializable"), (0, .class_ 1109), (0, u "java/lang/Comparable"), (0, .class_ 1111), (0, u "java/lang/constant/Constable"), (0, .class_ 1113), (0, u "java/lang/constant/ConstantDesc"), (2, u "serialVersionUID"), (0, u "J"), (3, u "REPL"), (0, u "C"), (2, u "LATIN1"), (1, u "UTF16")] 323

def k9m0 : Method := { name := "<init>", desc := "()V", sig := { parameters := [], returnType := none }, accessFlags := 1, code := none }
/-- java/lang/String -/
def k9 : Class := { plain "java/lang/String" (some 0) with
  accessFlags := 49
  interfaces := #[4, 5, 6, 7, 8]
  cf := some (fileOf pool9 10 #[.nestMembers #[1103]] #[{ accessFlags := 1, nameIndex := 5, descriptorIndex := 6, attributes := #[] }] 49 2 #[1106, 1108, 575, 1110, 1112] #[{ accessFlags := 18, nameIndex := 13, descriptorIndex := 14, attributes := #[] }, { accessFlags := 18, nameIndex := 17, descriptorIndex := 18, attributes := #[] }, { accessFlags := 2, nameIndex := 21, descriptorIndex := 22, attributes := #[] }, { accessFlags := 2, nameIndex := 25, descriptorIndex := 26, attributes := #[] }, { accessFlags := 26, nameIndex := 1116, descriptorIndex := 1117, attributes := #[] }, { accessFlags := 24, nameIndex := 40, descriptorIndex := 26, attributes := #[] }, { accessFlags := 26, nameIndex := 1101, descriptorIndex := 1102, attributes := #[] }, { accessFlags := 26, nameIndex := 1121, descriptorIndex := 1122, attributes := #[] }, { accessFlags := 25, nameIndex := 599, descriptorIndex := 600, attributes := #[] }, { accessFlags := 24, nameIndex := 1125, descriptorIndex := 18, attributes := #[] }, { accessFlags := 24, nameIndex := 1127, descriptorIndex := 18, attributes := #[] }])
  fields := #[{ name := "value", type := (.array .byte), accessFlags := 18, slot := 0, constantValue := 0 }, { name := "coder", type := .byte, accessFlags := 18, slot := 1, constantValue := 0 }, { name := "hash", type := .int, accessFlags := 2, slot := 2, constantValue := 0 }, { name := "hashIsZero", type := .boolean, accessFlags := 2, slot := 3, constantValue := 0 }, { name := "serialVersionUID", type := .long, accessFlags := 26, slot := 0, constantValue := 0 }, { name := "COMPACT_STRINGS", type := .boolean, accessFlags := 24, slot := 1, constantValue := 0 }, { name := "serialPersistentFields", type := (.array (.object "java/io/ObjectStreamField")), accessFlags := 26, slot := 2, constantValue := 0 }, { name := "REPL", type := .char, accessFlags := 26, slot := 3, constantValue := 0 }, { name := "CASE_INSENSITIVE_ORDER", type := (.object "java/util/Comparator"), accessFlags := 25, slot := 4, constantValue := 0 }, { name := "LATIN1", type := .byte, accessFlags := 24, slot := 5, constantValue := 0 }, { name := "UTF16", type := .byte, accessFlags := 24, slot := 6, constantValue := 0 }]
  methods := #[k9m0]
  instanceTypes := #[(.array .byte), .byte, .int, .boolean]
  staticTypes := #[.long, .boolean, (.array (.object "java/io/ObjectStreamField")), .char, (.object "java/util/Comparator"), .byte, .byte]
  resolved := Array.replicate 1451 none
  statics := none }

def pool10 : Array CpInfo := pool [(1, .class_ 2), (0, u "java/lang/Math"), (1, .class_ 6), (1, u "java/lang/Object"), (0, u "<init>"), (0, u "()V"), (89, .class_ 100), (1, u "java/lang/Math$RandomNumberGeneratorHolder"), (71, u "negativeZeroFloatBits"), (0, u "J"), (2, u "negativeZeroDoubleBits"), (21, u "max"), (46, u "$assertionsDisabled"), (0, u "Z"), (88, u "(II)I"), (2, u "twoToTheDoubleScaleDown"), (0, u "D"), (4, u "twoToTheDoubleScaleUp"), (9, u "E"), (3, u "PI"), (2, u "TAU"), (2, u "DEGREES_TO_RADIANS"), (0, u "RADIANS_TO_DEGREES")] 94

def k10m0 : Method := { name := "<init>", desc := "()V", sig := { parameters := [], returnType := none }, accessFlags := 2, code := none }
def k10c1 : Code := { maxStack := 2, maxLocals := 2, code := jdk_29_method_65_code, exceptionTable := #[], attributes := #[] }
def k10m1 : Method := { name := "max", desc := "(II)I", sig := { parameters := [.int, .int], returnType := some .int }, accessFlags := 9, code := some k10c1 }
/-- java/lang/Math -/
def k10 : Class := { plain "java/lang/Math" (some 0) with
  accessFlags := 49
  interfaces := #[]
  cf := some (fileOf pool10 1 #[.nestMembers #[98]] #[{ accessFlags := 2, nameIndex := 7, descriptorIndex := 8, attributes := #[] }, { accessFlags := 9, nameIndex := 198, descriptorIndex := 335, attributes := #[] }] 49 4 #[] #[{ accessFlags := 25, nameIndex := 354, descriptorIndex := 339, attributes := #[] }, { accessFlags := 25, nameIndex := 358, descriptorIndex := 339, attributes := #[] }, { accessFlags := 25, nameIndex := 361, descriptorIndex := 339, attributes := #[] }, { accessFlags := 26, nameIndex := 364, descriptorIndex := 339, attributes := #[] }, { accessFlags := 26, nameIndex := 365, descriptorIndex := 339, attributes := #[] }, { accessFlags := 26, nameIndex := 172, descriptorIndex := 173, attributes := #[] }, { accessFlags := 26, nameIndex := 176, descriptorIndex := 173, attributes := #[] }, { accessFlags := 8, nameIndex := 344, descriptorIndex := 339, attributes := #[] }, { accessFlags := 8, nameIndex := 338, descriptorIndex := 339, attributes := #[] }, { accessFlags := 4120, nameIndex := 245, descriptorIndex := 246, attributes := #[] }])
  fields := #[{ name := "E", type := .double, accessFlags := 25, slot := 0, constantValue := 0 }, { name := "PI", type := .double, accessFlags := 25, slot := 1, constantValue := 0 }, { name := "TAU", type := .double, accessFlags := 25, slot := 2, constantValue := 0 }, { name := "DEGREES_TO_RADIANS", type := .double, accessFlags := 26, slot := 3, constantValue := 0 }, { name := "RADIANS_TO_DEGREES", type := .double, accessFlags := 26, slot := 4, constantValue := 0 }, { name := "negativeZeroFloatBits", type := .long, accessFlags := 26, slot := 5, constantValue := 0 }, { name := "negativeZeroDoubleBits", type := .long, accessFlags := 26, slot := 6, constantValue := 0 }, { name := "twoToTheDoubleScaleUp", type := .double, accessFlags := 8, slot := 7, constantValue := 0 }, { name := "twoToTheDoubleScaleDown", type := .double, accessFlags := 8, slot := 8, constantValue := 0 }, { name := "$assertionsDisabled", type := .boolean, accessFlags := 4120, slot := 9, constantValue := 0 }]
  methods := #[k10m0, k10m1]
  instanceTypes := #[]
  staticTypes := #[.double, .double, .double, .double, .double, .long, .long, .double, .double, .boolean]
  resolved := Array.replicate 460 none
  statics := none }

def pool11 : Array CpInfo := pool [(1, u "java/lang/Cloneable"), (0, .class_ 1), (0, u "java/lang/Object"), (0, .class_ 3)] 3

/-- java/lang/Cloneable -/
def k11 : Class := { plain "java/lang/Cloneable" (some 0) with
  accessFlags := 1537
  interfaces := #[]
  cf := some (fileOf pool11 2 #[] #[] 1537 4 #[] #[])
  fields := #[]
  methods := #[]
  instanceTypes := #[]
  staticTypes := #[]
  resolved := Array.replicate 8 none
  statics := none }

/-- the primitive byte -/
def k12 : Class := { plain "byte" none with kind := .primitive 'B', accessFlags := 0x411 }
/-- [B -/
def k13 : Class := { plain "[B" (some 0) with kind := .array 12 .byte, interfaces := #[11, 4], accessFlags := 1041 }

/-- the primitive int -/
def k14 : Class := { plain "int" none with kind := .primitive 'I', accessFlags := 0x411 }
/-- [I -/
def k15 : Class := { plain "[I" (some 0) with kind := .array 14 .int, interfaces := #[11, 4], accessFlags := 1041 }

def heap : Heap := #[]
def classes : Array Class := #[k0, k1, k2, k3, k4, k5, k6, k7, k8, k9, k10, k11, k12, k13, k14, k15]
def interned : List (Array UInt16 × Addr) := []
def slotsUsed : Nat := 0
def theMethod : MethodId := ⟨1, 1⟩
def args0 : Array Value := #[.int 5, .int 7, .int 3, .int 0]
def aboutOver (below : List Frame) : State where
  vm := { classes := classes, interned := interned.toArray }
  heap := heap
  slotsUsed := slotsUsed
  threads := #[{ frames := .invoking theMethod args0 :: below }]
def below0 : List Frame := [.native { method := ⟨0, 0⟩, args := #[] }]
def about1 : State := aboutOver below0
def p0 : Program := .bare "" "" ""
def e0 : Env := launch0.env 0 0 0
theorem w_frames : about1.frames = Frame.invoking theMethod args0 :: below0 := rfl
set_option maxRecDepth 65536 in
theorem w_args : argsFit about1.vm theMethod args0 = true := by decide +kernel
set_option maxRecDepth 65536 in
theorem w_heap : heapFits about1 = true := by decide +kernel
set_option maxRecDepth 65536 in
theorem w_runnable : about1.curStatus? = some .runnable := by decide +kernel
set_option maxRecDepth 65536 in
theorem w_alone : about1.alone = true := by decide +kernel
set_option maxRecDepth 65536 in
theorem w_named : about1.methodNamed? x = some theMethod := by decide +kernel
set_option maxRecDepth 65536 in
theorem w_hears : about1.hears theMethod below0 = true := by decide +kernel
set_option maxRecDepth 65536 in
theorem w_ripe : about1.ripe theMethod args0 below0 = true := by decide +kernel
theorem w_running : about1.status = .running := rfl
set_option maxRecDepth 65536 in
theorem w_room : about1.hasRoom e0.platform room_1 = true :=
  launch0.hasRoom_least _ room_1 (by decide +kernel) (by decide +kernel) (by decide +kernel) (by decide +kernel) (by decide +kernel) (by decide +kernel)
theorem allAtoms_all (ts : List Jvm.Cond) (a : Array Jvm.Value) (st : Jvm.State) : (allAtoms ts).before a st = ts.all (fun c => c.before a st) := by
  induction ts with
  | nil => rfl
  | cons c t ih =>
    show (Jvm.Cond.and c (allAtoms t)).before a st = _
    rw [Jvm.Cond.before_and, ih, List.all_cons]
def words1 : List Jvm.Cond := Jvm.Cond.code x code maxLocals ret :: tables_1
/-- a 'code' word, met by the world's own term for the bytes: nothing is compared byte by byte -/
theorem code_word {y : MethodName} {bytes : ByteArray} {mx : Nat} {rt : Option FieldType} {a : Array Value} {s : State} {m : MethodId} {meth : Method} {c : Code} (h1 : s.methodNamed? y = some m) (h2 : s.vm.method? m = some meth) (h3 : meth.code = some c) (h4 : c.code = bytes)
    (h5 : (c.maxLocals == mx && c.exceptionTable.isEmpty && decide (c.maxStack ≤ mostOperands) && decide (meth.sig.returnType = rt) && !meth.locks && decide (parseMethodDescriptor y.desc = some meth.sig)) = true) : (Jvm.Cond.code y bytes mx rt).before a s = true := by
  simp only [Bool.and_eq_true, beq_iff_eq, Bool.not_eq_true', decide_eq_true_eq] at h5
  obtain ⟨⟨⟨⟨⟨g1, g2⟩, g3⟩, g4⟩, g5⟩, g6⟩ := h5
  simp [Cond.before, Cond.holds, Cond.value, h1, h2, h3, h4, g1, g2, g3, g4, g5, g6]
def isCode : Jvm.Cond → Bool
  | .code _ _ _ _ => true
  | _ => false
theorem all_split {L : List Jvm.Cond} {P : Jvm.Cond → Bool} (h1 : L.all (fun c => isCode c || P c) = true) (h2 : ∀ c ∈ L.filter isCode, P c = true) : L.all P = true := by
  refine List.all_eq_true.mpr fun c hc => ?_
  have h := List.all_eq_true.mp h1 c hc
  rcases Bool.eq_false_or_eq_true (isCode c) with hi | hi
  · exact h2 c (List.mem_filter.mpr ⟨hc, hi⟩)
  · simpa [hi] using h
set_option maxRecDepth 65536 in
theorem w_c0 : (Jvm.Cond.code x code maxLocals ret).before args0 about1 = true := code_word (m := ⟨1, 1⟩) (meth := k1m1) (c := k1c1) (by decide +kernel) rfl rfl rfl (by decide +kernel)
set_option maxRecDepth 65536 in
theorem w_c1 : (Jvm.Cond.code ({ cls := "com/example/incarico/incarico/load/LoadConfig", name := "<init>", desc := "(Ljava/lang/String;ZIIIIIIIIIDDDII)V" } : Jvm.MethodName) prog_96_method_1_code (20 : Nat) (Option.none : Option Jvm.ClassFile.FieldType)).before args0 about1 = true := code_word (m := ⟨3, 0⟩) (meth := k3m0) (c := k3c0) (by decide +kernel) rfl rfl rfl (by decide +kernel)
set_option maxRecDepth 65536 in
theorem w_c2 : (Jvm.Cond.code ({ cls := "java/lang/Record", name := "<init>", desc := "()V" } : Jvm.MethodName) jdk_30_method_1_code (1 : Nat) (Option.none : Option Jvm.ClassFile.FieldType)).before args0 about1 = true := code_word (m := ⟨2, 0⟩) (meth := k2m0) (c := k2c0) (by decide +kernel) rfl rfl rfl (by decide +kernel)
set_option maxRecDepth 65536 in
theorem w_c3 : (Jvm.Cond.code ({ cls := "java/lang/Object", name := "<init>", desc := "()V" } : Jvm.MethodName) object_method_1_code (1 : Nat) (Option.none : Option Jvm.ClassFile.FieldType)).before args0 about1 = true := code_word (m := ⟨0, 0⟩) (meth := k0m0) (c := k0c0) (by decide +kernel) rfl rfl rfl (by decide +kernel)
set_option maxRecDepth 65536 in
theorem w_c4 : (Jvm.Cond.code ({ cls := "com/example/incarico/incarico/load/LoadConfig", name := "membersOf", desc := "(I)I" } : Jvm.MethodName) prog_96_method_5_code (2 : Nat) (Option.some Jvm.ClassFile.FieldType.int)).before args0 about1 = true := code_word (m := ⟨3, 1⟩) (meth := k3m1) (c := k3c1) (by decide +kernel) rfl rfl rfl (by decide +kernel)
set_option maxRecDepth 65536 in
theorem w_c5 : (Jvm.Cond.code ({ cls := "java/lang/Math", name := "max", desc := "(II)I" } : Jvm.MethodName) jdk_29_method_65_code (2 : Nat) (Option.some Jvm.ClassFile.FieldType.int)).before args0 about1 = true := code_word (m := ⟨10, 1⟩) (meth := k10m1) (c := k10c1) (by decide +kernel) rfl rfl rfl (by decide +kernel)
def codes1 : List Jvm.Cond := [Jvm.Cond.code x code maxLocals ret, Jvm.Cond.code ({ cls := "com/example/incarico/incarico/load/LoadConfig", name := "<init>", desc := "(Ljava/lang/String;ZIIIIIIIIIDDDII)V" } : Jvm.MethodName) prog_96_method_1_code (20 : Nat) (Option.none : Option Jvm.ClassFile.FieldType), Jvm.Cond.code ({ cls := "java/lang/Record", name := "<init>", desc := "()V" } : Jvm.MethodName) jdk_30_method_1_code (1 : Nat) (Option.none : Option Jvm.ClassFile.FieldType), Jvm.Cond.code ({ cls := "java/lang/Object", name := "<init>", desc := "()V" } : Jvm.MethodName) object_method_1_code (1 : Nat) (Option.none : Option Jvm.ClassFile.FieldType), Jvm.Cond.code ({ cls := "com/example/incarico/incarico/load/LoadConfig", name := "membersOf", desc := "(I)I" } : Jvm.MethodName) prog_96_method_5_code (2 : Nat) (Option.some Jvm.ClassFile.FieldType.int), Jvm.Cond.code ({ cls := "java/lang/Math", name := "max", desc := "(II)I" } : Jvm.MethodName) jdk_29_method_65_code (2 : Nat) (Option.some Jvm.ClassFile.FieldType.int)]
set_option maxRecDepth 65536 in
theorem codes_eq : words1.filter isCode = codes1 := rfl
theorem w_codes : ∀ c ∈ words1.filter isCode, c.before args0 about1 = true := by
  rw [codes_eq]
  intro c hc
  simp only [codes1, List.mem_cons, List.not_mem_nil, or_false] at hc
  rcases hc with rfl | rfl | rfl | rfl | rfl | rfl
  · exact w_c0
  · exact w_c1
  · exact w_c2
  · exact w_c3
  · exact w_c4
  · exact w_c5
set_option maxRecDepth 65536 in
theorem w_t1 : (words1.take 24).all (fun c => isCode c || c.before args0 about1) = true := by decide +kernel
set_option maxRecDepth 65536 in
theorem w_t2 : ((words1.drop 24).take 24).all (fun c => isCode c || c.before args0 about1) = true := by decide +kernel
set_option maxRecDepth 65536 in
theorem w_t3 : ((words1.drop 24).drop 24).all (fun c => isCode c || c.before args0 about1) = true := by decide +kernel
theorem w_tables : (allAtoms (Jvm.Cond.code x code maxLocals ret :: tables_1)).before args0 about1 = true := by
  rw [allAtoms_all]
  show words1.all (fun c => c.before args0 about1) = true
  refine all_split ?_ w_codes
  rw [← List.take_append_drop 24 words1, List.all_append, w_t1, ← List.take_append_drop 24 (words1.drop 24), List.all_append, w_t2, w_t3]
  rfl
set_option maxRecDepth 65536 in
theorem w_case : (Jvm.Cond.and given_1 narrow_1).before args0 about1 = true := by decide +kernel
theorem w_applies : (headSpec (Jvm.Cond.code x code maxLocals ret :: tables_1) room_1).applies x e0.platform about1 = true :=
  (Spec.applies_iff w_frames).mpr ⟨w_running, w_runnable, w_alone, w_named, w_hears, w_ripe, w_room, w_tables⟩
theorem atStart : AtStart classFile x code maxLocals ret World_1 tables_1 room_1 Calls_1 rest_1 Pre_1 launch0 p0 e0 about1 theMethod args0 below0 :=
  ⟨lists_1, trivial, launch0.admits_env _ _ _, launch0.least_env, fairChoices_fair.cas, fairChoices_fair.clock, w_frames, w_args, w_heap, w_applies, trivial, trivial, w_case⟩
end start1
theorem witness_1 : WitnessClaimed_1 := ⟨start1.p0, start1.e0, start1.about1, start1.theMethod, start1.args0, start1.below0, start1.atStart⟩
end Jvm.Pilot.@@N@@
