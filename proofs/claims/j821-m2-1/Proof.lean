import JvmDerived
import JvmDerived.Pilot.@@N@@Statement
import JvmDerived.Pilot.@@N@@Code
set_option linter.unusedVariables false
set_option linter.unusedSimpArgs false
namespace Jvm.RoadKit
open Sem ClassFile Op Lib Jvm.Stand Jvm.Free Jvm.LawKit
section New
variable {p : Program} {l : Launch} {e : Env} {R : Room} {s : State} {m : MethodId} {args : Array Value} {below : List Frame} {meth : Method} {c : Code} {T : State} {locs : List Loc} {cells slots : Nat}
theorem retI (X : Stand p l e R s m args below meth c T locs cells slots) (hx : p.tables.exec = Jvm.exec) {pc : Nat} {Ls : Array Slot} {z : Int32} {rest : List Value} (hret : meth.sig.returnType = some .int) (hd : decode c.code pc = .ok (.ireturn, 1)) {fs : List Frame}
    (hl : ∀ (f : JFrame) (acts : List Action), f.method = m → f.locked = none → f.entered = [] → (doReturn e (T.setTop f) acts (some (.int z))).1 = T.setFrames fs) : Steps p.tables e below (T.setTop (mkF m pc Ls (.int z :: rest))) (T.setFrames fs) := by
  have hm' : T.vm.method? m = some meth := X.method'
  have hn : narrow .int (.int z) = .int z := rfl
  show Steps p.tables e below (T.setTop { method := m, pc := pc, locals := Ls, stack := _ :: rest, locked := none }) _
  jvm_step X.here [X.here.top, hx, hd, hm', hret, hn]
  first | (intro acts; rw [hl _ acts rfl rfl rfl]) | rw [hl _ _ rfl rfl rfl]
  exact Steps.refl _
end New
end Jvm.RoadKit
namespace Jvm.Pilot.@@N@@
open Jvm Jvm.ClassFile Sem Op Lib Jvm.Free Jvm.Stand Jvm.LawKit Jvm.RoadKit Bundle Jvm.Pilot.@@N@@.Jvm.D
theorem d1_0 : decode jdk_29_method_65_code 0 = .ok (.iload_n 0, 1) := by decide +kernel
theorem d1_1 : decode jdk_29_method_65_code 1 = .ok (.iload_n 1, 1) := by decide +kernel
theorem d1_2 : decode jdk_29_method_65_code 2 = .ok (.if_icmp .lt 7, 3) := by decide +kernel
theorem d1_5 : decode jdk_29_method_65_code 5 = .ok (.iload_n 0, 1) := by decide +kernel
theorem d1_6 : decode jdk_29_method_65_code 6 = .ok (.goto 4, 3) := by decide +kernel
theorem d1_9 : decode jdk_29_method_65_code 9 = .ok (.iload_n 1, 1) := by decide +kernel
theorem d1_10 : decode jdk_29_method_65_code 10 = .ok (.ireturn, 1) := by decide +kernel
theorem ef_1 (m : MethodId) (p0 : Int32) (p1 : Int32) : entryFrame m #[(.int p0), (.int p1)] 2 = mkF m 0 #[.val (.int p0), .val (.int p1)] [] := by first | (simp [entryFrame, mkF, argsToLocals, Value.category]; done) | rfl
def own_f1 (p0 : Int32) (p1 : Int32) : Int32 := (if p0 < p1 then p1 else p0)
def Q1 (Z : State) (p0 : Int32) (p1 : Int32) (h0 : Heap) (n0 : Nat) (v : Option Value) (h : Heap) (L : List Loc) : Prop := v = some (.int (own_f1 p0 p1)) ∧ Fr n0 L ∧ h = h0
set_option maxRecDepth 65536 in
set_option maxHeartbeats 40000000 in
theorem rm1 (l : Launch) (Z : State) (a0 : Array Value) (hw : ∀ d ∈ tables_1, d.before a0 Z = true) (ws : List Jvm.Cond) (p0 : Int32) (p1 : Int32) (h0 : Heap) (n0 : Nat) (Z0 : n0 ≤ h0.size) :
    MetFree l (⟨"java/lang/Math", "max", "(II)I"⟩ : MethodName) (head1 (Jvm.Cond.code (⟨"java/lang/Math", "max", "(II)I"⟩ : MethodName) jdk_29_method_65_code 2 (some .int) :: ws) ({ frames := 0, cells := 0, slots := 0, locals := 0 } : Room)) (fun a U => a = #[(.int p0), (.int p1)] ∧ Z.Warmed39 U.vm ∧ U.heap = h0) (fun _ _ _ _ _ => True) (fun _ U o U' => ∃ v L, o = .returned v ∧ Q1 Z p0 p1 h0 n0 v U'.heap L ∧ FrameEnd U o U' L ({ frames := 0, cells := 0, slots := 0, locals := 0 } : Room).cells ({ frames := 0, cells := 0, slots := 0, locals := 0 } : Room).slots) := by
  refine MetFree.of_bodySF (Jvm.Free.JP.mathPlain rfl (by decide +kernel)) hisR ?_
  intro p e s m args below meth c s₁ Bd hml0 hP hK
  obtain ⟨rfl, hZ, hh⟩ := hP
  have hx := Bd.exec
  have hby := Bd.bytes
  have hml : c.maxLocals = 2 := hml0
  have hown : s.vm.findClass "java/lang/Math" = some m.cls := findClass_of_methodNamed Bd.named
  have hnm := (name_of_methodNamed Bd.named Bd.method).1
  have X0 : Stand p l e ({ frames := 0, cells := 0, slots := 0, locals := 0 } : Room) s m #[(.int p0), (.int p1)] below meth c s₁ [] 0 0 := Stand.of_body Bd
  have e0 : s₁.heap = h0 := by rw [← hh, Bd.state]; rfl
  have N0 := Fr.nil n0
  obtain ⟨P, pre0, fin⟩ : ∃ P : State → Prop, (∀ t, Steps p.tables e below (s₁.setTop (mkF m 0 #[.val (.int p0), .val (.int p1)] [])) t → P t) ∧ (∀ t, P t → Steps p.tables e below (s₁.setTop (entryFrame m #[(.int p0), (.int p1)] 2)) t) := ⟨fun t => Steps p.tables e below (s₁.setTop (entryFrame m #[(.int p0), (.int p1)] 2)) t, fun t k => castTop (ef_1 m p0 p1) k, fun t k => k⟩
  have K0 : Keep h0 h0 [] := Keep.refl _ _
  have pre1 : ∀ t, Steps p.tables e below (s₁.setTop (mkF m 2 #[.val (.int p0), .val (.int p1)] [(.int p1), (.int p0)])) t → P t := fun t k => pre0 t (by
      show Steps p.tables e below (s₁.setTop (mkF m 0 #[.val (.int p0), .val (.int p1)] [])) _
      refine XS.iloadN X0.here hx rfl (hb hby d1_0) rfl ?_
      show Steps p.tables e below (s₁.setTop (mkF m 1 #[.val (.int p0), .val (.int p1)] [(.int p0)])) _
      refine XS.iloadN X0.here hx rfl (hb hby d1_1) rfl ?_
      exact k)
  obtain ⟨T6, L6, v5, X6, e6, N6, hv5, pre6⟩ : ∃ (T' : State) (L' : List Loc) (v5 : Int32), Stand p l e ({ frames := 0, cells := 0, slots := 0, locals := 0 } : Room) s m #[(.int p0), (.int p1)] below meth c T' L' 0 0 ∧ T'.heap = h0 ∧ Fr n0 L' ∧ v5 = (if p0 < p1 then p1 else p0) ∧ (∀ t, Steps p.tables e below (T'.setTop (mkF m 10 #[.val (.int p0), .val (.int p1)] [(.int v5)])) t → P t) := by
    by_cases hc2 : p0 < p1
    · have pre3 : ∀ t, Steps p.tables e below (s₁.setTop (mkF m 10 #[.val (.int p0), .val (.int p1)] [(.int p1)])) t → P t := fun t k => pre1 t (by
          show Steps p.tables e below (s₁.setTop (mkF m 2 #[.val (.int p0), .val (.int p1)] [(.int p1), (.int p0)])) _
          refine XS.icmpYes X0.here hx rfl (pc0 := 2) (pc' := 9) rfl (hb hby d1_2) rfl (tlt hc2).1 (by decide) (by decide) ?_
          show Steps p.tables e below (s₁.setTop (mkF m 9 #[.val (.int p0), .val (.int p1)] [])) _
          refine XS.iloadN X0.here hx rfl (hb hby d1_9) rfl ?_
          exact k)
      exact ⟨_, _, p1, X0, e0, N0, (by first | (rw [if_pos hc2]; done) | simp only [if_pos hc2] | simp [if_pos hc2]), pre3⟩
    · have pre4 : ∀ t, Steps p.tables e below (s₁.setTop (mkF m 10 #[.val (.int p0), .val (.int p1)] [(.int p0)])) t → P t := fun t k => pre1 t (by
          show Steps p.tables e below (s₁.setTop (mkF m 2 #[.val (.int p0), .val (.int p1)] [(.int p1), (.int p0)])) _
          refine XS.icmpNo X0.here hx rfl (hb hby d1_2) rfl (flt hc2).1 ?_
          show Steps p.tables e below (s₁.setTop (mkF m 5 #[.val (.int p0), .val (.int p1)] [])) _
          refine XS.iloadN X0.here hx rfl (hb hby d1_5) rfl ?_
          show Steps p.tables e below (s₁.setTop (mkF m 6 #[.val (.int p0), .val (.int p1)] [(.int p0)])) _
          refine XS.goto X0.here hx rfl (pc0 := 6) (pc' := 10) rfl (hb hby d1_6) (by decide) (by decide) ?_
          exact k)
      exact ⟨_, _, p0, X0, e0, N0, (by first | (rw [if_neg hc2]; done) | simp only [if_neg hc2] | simp [if_neg hc2]), pre4⟩
  obtain ⟨fs, hr, hrun, hended, hW, hsame⟩ := X6.leave (v := some (.int v5)) (fun h => by rw [Bd.returns] at h; cases h)
  refine ⟨_, _, fin _ (pre6 _ ?_), hrun, hended, _, _, rfl, ?_, ⟨_, rfl⟩, hW, hsame.mono (by decide) (by decide)⟩
  · show Steps p.tables e below (T6.setTop (mkF m 10 #[.val (.int p0), .val (.int p1)] [(.int v5)])) _
    exact retI X6 hx Bd.returns (hb hby d1_10) hr
  · show Q1 Z p0 p1 h0 n0 _ T6.heap _
    rw [e6]
    exact ⟨(by subst hv5; first | rfl | simp only [own_f1]), N6, rfl⟩
theorem d6_0 : decode jdk_33_method_47_code 0 = .ok (.iload_n 0, 1) := by decide +kernel
theorem d6_1 : decode jdk_33_method_47_code 1 = .ok (.ifCond .gt 14, 3) := by decide +kernel
theorem d6_4 : decode jdk_33_method_47_code 4 = .ok (.iload_n 0, 1) := by decide +kernel
theorem d6_5 : decode jdk_33_method_47_code 5 = .ok (.ifCond .ne 8, 3) := by decide +kernel
theorem d6_8 : decode jdk_33_method_47_code 8 = .ok (.bipush 32, 2) := by decide +kernel
theorem d6_10 : decode jdk_33_method_47_code 10 = .ok (.goto 4, 3) := by decide +kernel
theorem d6_13 : decode jdk_33_method_47_code 13 = .ok (.iconst 0, 1) := by decide +kernel
theorem d6_14 : decode jdk_33_method_47_code 14 = .ok (.ireturn, 1) := by decide +kernel
theorem d6_15 : decode jdk_33_method_47_code 15 = .ok (.bipush 31, 2) := by decide +kernel
theorem d6_17 : decode jdk_33_method_47_code 17 = .ok (.istore_n 1, 1) := by decide +kernel
theorem d6_18 : decode jdk_33_method_47_code 18 = .ok (.iload_n 0, 1) := by decide +kernel
theorem d6_19 : decode jdk_33_method_47_code 19 = .ok (.ldc_w 264, 3) := by decide +kernel
theorem d6_22 : decode jdk_33_method_47_code 22 = .ok (.if_icmp .lt 11, 3) := by decide +kernel
theorem d6_25 : decode jdk_33_method_47_code 25 = .ok (.iinc 1 (-16), 3) := by decide +kernel
theorem d6_28 : decode jdk_33_method_47_code 28 = .ok (.iload_n 0, 1) := by decide +kernel
theorem d6_29 : decode jdk_33_method_47_code 29 = .ok (.bipush 16, 2) := by decide +kernel
theorem d6_31 : decode jdk_33_method_47_code 31 = .ok (.iushr, 1) := by decide +kernel
theorem d6_32 : decode jdk_33_method_47_code 32 = .ok (.istore_n 0, 1) := by decide +kernel
theorem d6_33 : decode jdk_33_method_47_code 33 = .ok (.iload_n 0, 1) := by decide +kernel
theorem d6_34 : decode jdk_33_method_47_code 34 = .ok (.sipush 256, 3) := by decide +kernel
theorem d6_37 : decode jdk_33_method_47_code 37 = .ok (.if_icmp .lt 11, 3) := by decide +kernel
theorem d6_40 : decode jdk_33_method_47_code 40 = .ok (.iinc 1 (-8), 3) := by decide +kernel
theorem d6_43 : decode jdk_33_method_47_code 43 = .ok (.iload_n 0, 1) := by decide +kernel
theorem d6_44 : decode jdk_33_method_47_code 44 = .ok (.bipush 8, 2) := by decide +kernel
theorem d6_46 : decode jdk_33_method_47_code 46 = .ok (.iushr, 1) := by decide +kernel
theorem d6_47 : decode jdk_33_method_47_code 47 = .ok (.istore_n 0, 1) := by decide +kernel
theorem d6_48 : decode jdk_33_method_47_code 48 = .ok (.iload_n 0, 1) := by decide +kernel
theorem d6_49 : decode jdk_33_method_47_code 49 = .ok (.bipush 16, 2) := by decide +kernel
theorem d6_51 : decode jdk_33_method_47_code 51 = .ok (.if_icmp .lt 10, 3) := by decide +kernel
theorem d6_54 : decode jdk_33_method_47_code 54 = .ok (.iinc 1 (-4), 3) := by decide +kernel
theorem d6_57 : decode jdk_33_method_47_code 57 = .ok (.iload_n 0, 1) := by decide +kernel
theorem d6_58 : decode jdk_33_method_47_code 58 = .ok (.iconst 4, 1) := by decide +kernel
theorem d6_59 : decode jdk_33_method_47_code 59 = .ok (.iushr, 1) := by decide +kernel
theorem d6_60 : decode jdk_33_method_47_code 60 = .ok (.istore_n 0, 1) := by decide +kernel
theorem d6_61 : decode jdk_33_method_47_code 61 = .ok (.iload_n 0, 1) := by decide +kernel
theorem d6_62 : decode jdk_33_method_47_code 62 = .ok (.iconst 4, 1) := by decide +kernel
theorem d6_63 : decode jdk_33_method_47_code 63 = .ok (.if_icmp .lt 10, 3) := by decide +kernel
theorem d6_66 : decode jdk_33_method_47_code 66 = .ok (.iinc 1 (-2), 3) := by decide +kernel
theorem d6_69 : decode jdk_33_method_47_code 69 = .ok (.iload_n 0, 1) := by decide +kernel
theorem d6_70 : decode jdk_33_method_47_code 70 = .ok (.iconst 2, 1) := by decide +kernel
theorem d6_71 : decode jdk_33_method_47_code 71 = .ok (.iushr, 1) := by decide +kernel
theorem d6_72 : decode jdk_33_method_47_code 72 = .ok (.istore_n 0, 1) := by decide +kernel
theorem d6_73 : decode jdk_33_method_47_code 73 = .ok (.iload_n 1, 1) := by decide +kernel
theorem d6_74 : decode jdk_33_method_47_code 74 = .ok (.iload_n 0, 1) := by decide +kernel
theorem d6_75 : decode jdk_33_method_47_code 75 = .ok (.iconst 1, 1) := by decide +kernel
theorem d6_76 : decode jdk_33_method_47_code 76 = .ok (.iushr, 1) := by decide +kernel
theorem d6_77 : decode jdk_33_method_47_code 77 = .ok (.isub, 1) := by decide +kernel
theorem d6_78 : decode jdk_33_method_47_code 78 = .ok (.ireturn, 1) := by decide +kernel
theorem pn_6 : plainName "java/lang/Integer" = true := by first | (simp [plainName, overriddenIn]; done) | decide +kernel
theorem ef_6 (m : MethodId) (p0 : Int32) : entryFrame m #[(.int p0)] 2 = mkF m 0 #[.val (.int p0), .unset] [] := by first | (simp [entryFrame, mkF, argsToLocals, Value.category]; done) | rfl
def own_f6 (p0 : Int32) : Int32 := (if (0 : Int32) < p0 then (let v11 : Int32 := (if p0 < (65536 : Int32) then p0 else ((p0.toUInt32 >>> ((16 : Int32) &&& 31).toUInt32).toInt32)); (let v12 : Int32 := (if p0 < (65536 : Int32) then (31 : Int32) else (15 : Int32)); (let v23 : Int32 := (if v11 < (256 : Int32) then v11 else ((v11.toUInt32 >>> ((8 : Int32) &&& 31).toUInt32).toInt32)); (let v24 : Int32 := (if v11 < (256 : Int32) then v12 else (v12 + (-8 : Int32))); (let v35 : Int32 := (if v23 < (16 : Int32) then v23 else ((v23.toUInt32 >>> ((4 : Int32) &&& 31).toUInt32).toInt32)); (let v36 : Int32 := (if v23 < (16 : Int32) then v24 else (v24 + (-4 : Int32))); (let v47 : Int32 := (if v35 < (4 : Int32) then v35 else ((v35.toUInt32 >>> ((2 : Int32) &&& 31).toUInt32).toInt32)); (let v48 : Int32 := (if v35 < (4 : Int32) then v36 else (v36 + (-2 : Int32))); (v48 - ((v47.toUInt32 >>> ((1 : Int32) &&& 31).toUInt32).toInt32)))))))))) else (if p0 = (0 : Int32) then (32 : Int32) else (0 : Int32)))
def Q6 (Z : State) (p0 : Int32) (h0 : Heap) (n0 : Nat) (v : Option Value) (h : Heap) (L : List Loc) : Prop := v = some (.int (own_f6 p0)) ∧ Fr n0 L ∧ h = h0
set_option maxRecDepth 65536 in
set_option maxHeartbeats 40000000 in
theorem rm6 (l : Launch) (Z : State) (a0 : Array Value) (hw : ∀ d ∈ tables_1, d.before a0 Z = true) (ws : List Jvm.Cond) (p0 : Int32) (h0 : Heap) (n0 : Nat) (Z0 : n0 ≤ h0.size) :
    MetFree l (⟨"java/lang/Integer", "numberOfLeadingZeros", "(I)I"⟩ : MethodName) (head1 (Jvm.Cond.code (⟨"java/lang/Integer", "numberOfLeadingZeros", "(I)I"⟩ : MethodName) jdk_33_method_47_code 2 (some .int) :: ws) ({ frames := 0, cells := 0, slots := 0, locals := 0 } : Room)) (fun a U => a = #[(.int p0)] ∧ Z.Warmed39 U.vm ∧ U.heap = h0) (fun _ _ _ _ _ => True) (fun _ U o U' => ∃ v L, o = .returned v ∧ Q6 Z p0 h0 n0 v U'.heap L ∧ FrameEnd U o U' L ({ frames := 0, cells := 0, slots := 0, locals := 0 } : Room).cells ({ frames := 0, cells := 0, slots := 0, locals := 0 } : Room).slots) := by
  refine MetFree.of_bodySF (plainFor_of_name pn_6) hisR ?_
  intro p e s m args below meth c s₁ Bd hml0 hP hK
  obtain ⟨rfl, hZ, hh⟩ := hP
  have hx := Bd.exec
  have hby := Bd.bytes
  have hml : c.maxLocals = 2 := hml0
  have hown : s.vm.findClass "java/lang/Integer" = some m.cls := findClass_of_methodNamed Bd.named
  have hnm := (name_of_methodNamed Bd.named Bd.method).1
  have X0 : Stand p l e ({ frames := 0, cells := 0, slots := 0, locals := 0 } : Room) s m #[(.int p0)] below meth c s₁ [] 0 0 := Stand.of_body Bd
  have e0 : s₁.heap = h0 := by rw [← hh, Bd.state]; rfl
  have N0 := Fr.nil n0
  obtain ⟨P, pre0, fin⟩ : ∃ P : State → Prop, (∀ t, Steps p.tables e below (s₁.setTop (mkF m 0 #[.val (.int p0), .unset] [])) t → P t) ∧ (∀ t, P t → Steps p.tables e below (s₁.setTop (entryFrame m #[(.int p0)] 2)) t) := ⟨fun t => Steps p.tables e below (s₁.setTop (entryFrame m #[(.int p0)] 2)) t, fun t k => castTop (ef_6 m p0) k, fun t k => k⟩
  have K0 : Keep h0 h0 [] := Keep.refl _ _
  have pre1 : ∀ t, Steps p.tables e below (s₁.setTop (mkF m 1 #[.val (.int p0), .unset] [(.int p0)])) t → P t := fun t k => pre0 t (by
      show Steps p.tables e below (s₁.setTop (mkF m 0 #[.val (.int p0), .unset] [])) _
      refine XS.iloadN X0.here hx rfl (hb hby d6_0) rfl ?_
      exact k)
  by_cases hc2 : (0 : Int32) < p0
  · have pre3 : ∀ t, Steps p.tables e below (s₁.setTop (mkF m 22 #[.val (.int p0), .val (.int (31 : Int32))] [(.int (65536 : Int32)), (.int p0)])) t → P t := fun t k => pre1 t (by
        show Steps p.tables e below (s₁.setTop (mkF m 1 #[.val (.int p0), .unset] [(.int p0)])) _
        refine XS.ifYes X0.here hx rfl (pc0 := 1) (pc' := 15) rfl (hb hby d6_1) rfl ((if0 _ _).trans (tlt hc2).2.2.1) (by decide) (by decide) ?_
        show Steps p.tables e below (s₁.setTop (mkF m 15 #[.val (.int p0), .unset] [])) _
        refine XS.bipush X0.here hx rfl (hb hby d6_15) ?_
        show Steps p.tables e below (s₁.setTop (mkF m 17 #[.val (.int p0), .unset] [(.int (31 : Int32))])) _
        refine XS.istoreN X0.here hx rfl (hb hby d6_17) rfl (l' := #[.val (.int p0), .val (.int (31 : Int32))]) rfl ?_
        show Steps p.tables e below (s₁.setTop (mkF m 18 #[.val (.int p0), .val (.int (31 : Int32))] [])) _
        refine XS.iloadN X0.here hx rfl (hb hby d6_18) rfl ?_
        show Steps p.tables e below (s₁.setTop (mkF m 19 #[.val (.int p0), .val (.int (31 : Int32))] [(.int p0)])) _
        refine X0.ldcwInt hx hown (mvT hZ (hw _ (List.mem_of_getElem? (i := 32) rfl))) (g := (mkF m 19 #[.val (.int p0), .val (.int (31 : Int32))] [(.int p0)])) rfl (hb hby d6_19) _ ?_
        exact k)
    obtain ⟨T13, L13, v11, v12, X13, e13, N13, hv11, hv12, pre13⟩ : ∃ (T' : State) (L' : List Loc) (v11 : Int32) (v12 : Int32), Stand p l e ({ frames := 0, cells := 0, slots := 0, locals := 0 } : Room) s m #[(.int p0)] below meth c T' L' 0 0 ∧ T'.heap = h0 ∧ Fr n0 L' ∧ v11 = (if p0 < (65536 : Int32) then p0 else ((p0.toUInt32 >>> ((16 : Int32) &&& 31).toUInt32).toInt32)) ∧ v12 = (if p0 < (65536 : Int32) then (31 : Int32) else (15 : Int32)) ∧ (∀ t, Steps p.tables e below (T'.setTop (mkF m 33 #[.val (.int v11), .val (.int v12)] [])) t → P t) := by
      by_cases hc4 : p0 < (65536 : Int32)
      · have pre5 : ∀ t, Steps p.tables e below (s₁.setTop (mkF m 33 #[.val (.int p0), .val (.int (31 : Int32))] [])) t → P t := fun t k => pre3 t (by
            show Steps p.tables e below (s₁.setTop (mkF m 22 #[.val (.int p0), .val (.int (31 : Int32))] [(.int (65536 : Int32)), (.int p0)])) _
            refine XS.icmpYes X0.here hx rfl (pc0 := 22) (pc' := 33) rfl (hb hby d6_22) rfl (tlt hc4).1 (by decide) (by decide) ?_
            exact k)
        exact ⟨_, _, p0, (31 : Int32), X0, e0, N0, (by first | (rw [if_pos hc4]; done) | simp only [if_pos hc4] | simp [if_pos hc4]), (by first | (rw [if_pos hc4]; done) | simp only [if_pos hc4] | simp [if_pos hc4]), pre5⟩
      · have pre6 : ∀ t, Steps p.tables e below (s₁.setTop (mkF m 28 #[.val (.int p0), .val (.int ((31 : Int32) + (-16 : Int32)))] [])) t → P t := fun t k => pre3 t (by
            show Steps p.tables e below (s₁.setTop (mkF m 22 #[.val (.int p0), .val (.int (31 : Int32))] [(.int (65536 : Int32)), (.int p0)])) _
            refine XS.icmpNo X0.here hx rfl (hb hby d6_22) rfl (flt hc4).1 ?_
            show Steps p.tables e below (s₁.setTop (mkF m 25 #[.val (.int p0), .val (.int (31 : Int32))] [])) _
            refine XS.iinc X0.here hx rfl (hb hby d6_25) rfl (l' := #[.val (.int p0), .val (.int ((31 : Int32) + (-16 : Int32)))]) rfl ?_
            exact k)
        have pre7 : ∀ t, Steps p.tables e below (s₁.setTop (mkF m 28 #[.val (.int p0), .val (.int (15 : Int32))] [])) t → P t := fun t k => pre6 t (by rw [show ((31 : Int32) + (-16 : Int32)) = (15 : Int32) from by decide]; exact k)
        have pre8 : ∀ t, Steps p.tables e below (s₁.setTop (mkF m 33 #[.val (.int ((p0.toUInt32 >>> ((16 : Int32) &&& 31).toUInt32).toInt32)), .val (.int (15 : Int32))] [])) t → P t := fun t k => pre7 t (by
            show Steps p.tables e below (s₁.setTop (mkF m 28 #[.val (.int p0), .val (.int (15 : Int32))] [])) _
            refine XS.iloadN X0.here hx rfl (hb hby d6_28) rfl ?_
            show Steps p.tables e below (s₁.setTop (mkF m 29 #[.val (.int p0), .val (.int (15 : Int32))] [(.int p0)])) _
            refine XS.bipush X0.here hx rfl (hb hby d6_29) ?_
            show Steps p.tables e below (s₁.setTop (mkF m 31 #[.val (.int p0), .val (.int (15 : Int32))] [(.int (16 : Int32)), (.int p0)])) _
            refine XS.iushr X0.here hx rfl (hb hby d6_31) rfl ?_
            show Steps p.tables e below (s₁.setTop (mkF m 32 #[.val (.int p0), .val (.int (15 : Int32))] [(.int ((p0.toUInt32 >>> ((16 : Int32) &&& 31).toUInt32).toInt32))])) _
            refine XS.istoreN X0.here hx rfl (hb hby d6_32) rfl (l' := #[.val (.int ((p0.toUInt32 >>> ((16 : Int32) &&& 31).toUInt32).toInt32)), .val (.int (15 : Int32))]) rfl ?_
            exact k)
        obtain ⟨v9, hv9⟩ : ∃ z : Int32, z = ((p0.toUInt32 >>> ((16 : Int32) &&& 31).toUInt32).toInt32) := ⟨_, rfl⟩
        have pre10 : ∀ t, Steps p.tables e below (s₁.setTop (mkF m 33 #[.val (.int v9), .val (.int (15 : Int32))] [])) t → P t := fun t k => pre8 t (by subst hv9; exact k)
        exact ⟨_, _, v9, (15 : Int32), X0, e0, N0, (by subst hv9; first | (rw [if_neg hc4]; done) | simp only [if_neg hc4] | simp [if_neg hc4]), (by subst hv9; first | (rw [if_neg hc4]; done) | simp only [if_neg hc4] | simp [if_neg hc4]), pre10⟩
    have pre14 : ∀ t, Steps p.tables e below (T13.setTop (mkF m 37 #[.val (.int v11), .val (.int v12)] [(.int (256 : Int32)), (.int v11)])) t → P t := fun t k => pre13 t (by
        show Steps p.tables e below (T13.setTop (mkF m 33 #[.val (.int v11), .val (.int v12)] [])) _
        refine XS.iloadN X13.here hx rfl (hb hby d6_33) rfl ?_
        show Steps p.tables e below (T13.setTop (mkF m 34 #[.val (.int v11), .val (.int v12)] [(.int v11)])) _
        refine XS.sipush X13.here hx rfl (hb hby d6_34) ?_
        exact k)
    obtain ⟨T25, L25, v23, v24, X25, e25, N25, hv23, hv24, pre25⟩ : ∃ (T' : State) (L' : List Loc) (v23 : Int32) (v24 : Int32), Stand p l e ({ frames := 0, cells := 0, slots := 0, locals := 0 } : Room) s m #[(.int p0)] below meth c T' L' 0 0 ∧ T'.heap = h0 ∧ Fr n0 L' ∧ v23 = (if v11 < (256 : Int32) then v11 else ((v11.toUInt32 >>> ((8 : Int32) &&& 31).toUInt32).toInt32)) ∧ v24 = (if v11 < (256 : Int32) then v12 else (v12 + (-8 : Int32))) ∧ (∀ t, Steps p.tables e below (T'.setTop (mkF m 48 #[.val (.int v23), .val (.int v24)] [])) t → P t) := by
      by_cases hc15 : v11 < (256 : Int32)
      · have pre16 : ∀ t, Steps p.tables e below (T13.setTop (mkF m 48 #[.val (.int v11), .val (.int v12)] [])) t → P t := fun t k => pre14 t (by
            show Steps p.tables e below (T13.setTop (mkF m 37 #[.val (.int v11), .val (.int v12)] [(.int (256 : Int32)), (.int v11)])) _
            refine XS.icmpYes X13.here hx rfl (pc0 := 37) (pc' := 48) rfl (hb hby d6_37) rfl (tlt hc15).1 (by decide) (by decide) ?_
            exact k)
        exact ⟨_, _, v11, v12, X13, e13, N13, (by first | (rw [if_pos hc15]; done) | simp only [if_pos hc15] | simp [if_pos hc15]), (by first | (rw [if_pos hc15]; done) | simp only [if_pos hc15] | simp [if_pos hc15]), pre16⟩
      · have pre17 : ∀ t, Steps p.tables e below (T13.setTop (mkF m 43 #[.val (.int v11), .val (.int (v12 + (-8 : Int32)))] [])) t → P t := fun t k => pre14 t (by
            show Steps p.tables e below (T13.setTop (mkF m 37 #[.val (.int v11), .val (.int v12)] [(.int (256 : Int32)), (.int v11)])) _
            refine XS.icmpNo X13.here hx rfl (hb hby d6_37) rfl (flt hc15).1 ?_
            show Steps p.tables e below (T13.setTop (mkF m 40 #[.val (.int v11), .val (.int v12)] [])) _
            refine XS.iinc X13.here hx rfl (hb hby d6_40) rfl (l' := #[.val (.int v11), .val (.int (v12 + (-8 : Int32)))]) rfl ?_
            exact k)
        obtain ⟨v18, hv18⟩ : ∃ z : Int32, z = (v12 + (-8 : Int32)) := ⟨_, rfl⟩
        have pre19 : ∀ t, Steps p.tables e below (T13.setTop (mkF m 43 #[.val (.int v11), .val (.int v18)] [])) t → P t := fun t k => pre17 t (by subst hv18; exact k)
        have pre20 : ∀ t, Steps p.tables e below (T13.setTop (mkF m 48 #[.val (.int ((v11.toUInt32 >>> ((8 : Int32) &&& 31).toUInt32).toInt32)), .val (.int v18)] [])) t → P t := fun t k => pre19 t (by
            show Steps p.tables e below (T13.setTop (mkF m 43 #[.val (.int v11), .val (.int v18)] [])) _
            refine XS.iloadN X13.here hx rfl (hb hby d6_43) rfl ?_
            show Steps p.tables e below (T13.setTop (mkF m 44 #[.val (.int v11), .val (.int v18)] [(.int v11)])) _
            refine XS.bipush X13.here hx rfl (hb hby d6_44) ?_
            show Steps p.tables e below (T13.setTop (mkF m 46 #[.val (.int v11), .val (.int v18)] [(.int (8 : Int32)), (.int v11)])) _
            refine XS.iushr X13.here hx rfl (hb hby d6_46) rfl ?_
            show Steps p.tables e below (T13.setTop (mkF m 47 #[.val (.int v11), .val (.int v18)] [(.int ((v11.toUInt32 >>> ((8 : Int32) &&& 31).toUInt32).toInt32))])) _
            refine XS.istoreN X13.here hx rfl (hb hby d6_47) rfl (l' := #[.val (.int ((v11.toUInt32 >>> ((8 : Int32) &&& 31).toUInt32).toInt32)), .val (.int v18)]) rfl ?_
            exact k)
        obtain ⟨v21, hv21⟩ : ∃ z : Int32, z = ((v11.toUInt32 >>> ((8 : Int32) &&& 31).toUInt32).toInt32) := ⟨_, rfl⟩
        have pre22 : ∀ t, Steps p.tables e below (T13.setTop (mkF m 48 #[.val (.int v21), .val (.int v18)] [])) t → P t := fun t k => pre20 t (by subst hv21; exact k)
        exact ⟨_, _, v21, v18, X13, e13, N13, (by subst hv18 hv21; first | (rw [if_neg hc15]; done) | simp only [if_neg hc15] | simp [if_neg hc15]), (by subst hv18 hv21; first | (rw [if_neg hc15]; done) | simp only [if_neg hc15] | simp [if_neg hc15]), pre22⟩
    have pre26 : ∀ t, Steps p.tables e below (T25.setTop (mkF m 51 #[.val (.int v23), .val (.int v24)] [(.int (16 : Int32)), (.int v23)])) t → P t := fun t k => pre25 t (by
        show Steps p.tables e below (T25.setTop (mkF m 48 #[.val (.int v23), .val (.int v24)] [])) _
        refine XS.iloadN X25.here hx rfl (hb hby d6_48) rfl ?_
        show Steps p.tables e below (T25.setTop (mkF m 49 #[.val (.int v23), .val (.int v24)] [(.int v23)])) _
        refine XS.bipush X25.here hx rfl (hb hby d6_49) ?_
        exact k)
    obtain ⟨T37, L37, v35, v36, X37, e37, N37, hv35, hv36, pre37⟩ : ∃ (T' : State) (L' : List Loc) (v35 : Int32) (v36 : Int32), Stand p l e ({ frames := 0, cells := 0, slots := 0, locals := 0 } : Room) s m #[(.int p0)] below meth c T' L' 0 0 ∧ T'.heap = h0 ∧ Fr n0 L' ∧ v35 = (if v23 < (16 : Int32) then v23 else ((v23.toUInt32 >>> ((4 : Int32) &&& 31).toUInt32).toInt32)) ∧ v36 = (if v23 < (16 : Int32) then v24 else (v24 + (-4 : Int32))) ∧ (∀ t, Steps p.tables e below (T'.setTop (mkF m 61 #[.val (.int v35), .val (.int v36)] [])) t → P t) := by
      by_cases hc27 : v23 < (16 : Int32)
      · have pre28 : ∀ t, Steps p.tables e below (T25.setTop (mkF m 61 #[.val (.int v23), .val (.int v24)] [])) t → P t := fun t k => pre26 t (by
            show Steps p.tables e below (T25.setTop (mkF m 51 #[.val (.int v23), .val (.int v24)] [(.int (16 : Int32)), (.int v23)])) _
            refine XS.icmpYes X25.here hx rfl (pc0 := 51) (pc' := 61) rfl (hb hby d6_51) rfl (tlt hc27).1 (by decide) (by decide) ?_
            exact k)
        exact ⟨_, _, v23, v24, X25, e25, N25, (by first | (rw [if_pos hc27]; done) | simp only [if_pos hc27] | simp [if_pos hc27]), (by first | (rw [if_pos hc27]; done) | simp only [if_pos hc27] | simp [if_pos hc27]), pre28⟩
      · have pre29 : ∀ t, Steps p.tables e below (T25.setTop (mkF m 57 #[.val (.int v23), .val (.int (v24 + (-4 : Int32)))] [])) t → P t := fun t k => pre26 t (by
            show Steps p.tables e below (T25.setTop (mkF m 51 #[.val (.int v23), .val (.int v24)] [(.int (16 : Int32)), (.int v23)])) _
            refine XS.icmpNo X25.here hx rfl (hb hby d6_51) rfl (flt hc27).1 ?_
            show Steps p.tables e below (T25.setTop (mkF m 54 #[.val (.int v23), .val (.int v24)] [])) _
            refine XS.iinc X25.here hx rfl (hb hby d6_54) rfl (l' := #[.val (.int v23), .val (.int (v24 + (-4 : Int32)))]) rfl ?_
            exact k)
        obtain ⟨v30, hv30⟩ : ∃ z : Int32, z = (v24 + (-4 : Int32)) := ⟨_, rfl⟩
        have pre31 : ∀ t, Steps p.tables e below (T25.setTop (mkF m 57 #[.val (.int v23), .val (.int v30)] [])) t → P t := fun t k => pre29 t (by subst hv30; exact k)
        have pre32 : ∀ t, Steps p.tables e below (T25.setTop (mkF m 61 #[.val (.int ((v23.toUInt32 >>> ((4 : Int32) &&& 31).toUInt32).toInt32)), .val (.int v30)] [])) t → P t := fun t k => pre31 t (by
            show Steps p.tables e below (T25.setTop (mkF m 57 #[.val (.int v23), .val (.int v30)] [])) _
            refine XS.iloadN X25.here hx rfl (hb hby d6_57) rfl ?_
            show Steps p.tables e below (T25.setTop (mkF m 58 #[.val (.int v23), .val (.int v30)] [(.int v23)])) _
            refine XS.iconst X25.here hx rfl (hb hby d6_58) ?_
            show Steps p.tables e below (T25.setTop (mkF m 59 #[.val (.int v23), .val (.int v30)] [(.int (4 : Int32)), (.int v23)])) _
            refine XS.iushr X25.here hx rfl (hb hby d6_59) rfl ?_
            show Steps p.tables e below (T25.setTop (mkF m 60 #[.val (.int v23), .val (.int v30)] [(.int ((v23.toUInt32 >>> ((4 : Int32) &&& 31).toUInt32).toInt32))])) _
            refine XS.istoreN X25.here hx rfl (hb hby d6_60) rfl (l' := #[.val (.int ((v23.toUInt32 >>> ((4 : Int32) &&& 31).toUInt32).toInt32)), .val (.int v30)]) rfl ?_
            exact k)
        obtain ⟨v33, hv33⟩ : ∃ z : Int32, z = ((v23.toUInt32 >>> ((4 : Int32) &&& 31).toUInt32).toInt32) := ⟨_, rfl⟩
        have pre34 : ∀ t, Steps p.tables e below (T25.setTop (mkF m 61 #[.val (.int v33), .val (.int v30)] [])) t → P t := fun t k => pre32 t (by subst hv33; exact k)
        exact ⟨_, _, v33, v30, X25, e25, N25, (by subst hv30 hv33; first | (rw [if_neg hc27]; done) | simp only [if_neg hc27] | simp [if_neg hc27]), (by subst hv30 hv33; first | (rw [if_neg hc27]; done) | simp only [if_neg hc27] | simp [if_neg hc27]), pre34⟩
    have pre38 : ∀ t, Steps p.tables e below (T37.setTop (mkF m 63 #[.val (.int v35), .val (.int v36)] [(.int (4 : Int32)), (.int v35)])) t → P t := fun t k => pre37 t (by
        show Steps p.tables e below (T37.setTop (mkF m 61 #[.val (.int v35), .val (.int v36)] [])) _
        refine XS.iloadN X37.here hx rfl (hb hby d6_61) rfl ?_
        show Steps p.tables e below (T37.setTop (mkF m 62 #[.val (.int v35), .val (.int v36)] [(.int v35)])) _
        refine XS.iconst X37.here hx rfl (hb hby d6_62) ?_
        exact k)
    obtain ⟨T49, L49, v47, v48, X49, e49, N49, hv47, hv48, pre49⟩ : ∃ (T' : State) (L' : List Loc) (v47 : Int32) (v48 : Int32), Stand p l e ({ frames := 0, cells := 0, slots := 0, locals := 0 } : Room) s m #[(.int p0)] below meth c T' L' 0 0 ∧ T'.heap = h0 ∧ Fr n0 L' ∧ v47 = (if v35 < (4 : Int32) then v35 else ((v35.toUInt32 >>> ((2 : Int32) &&& 31).toUInt32).toInt32)) ∧ v48 = (if v35 < (4 : Int32) then v36 else (v36 + (-2 : Int32))) ∧ (∀ t, Steps p.tables e below (T'.setTop (mkF m 73 #[.val (.int v47), .val (.int v48)] [])) t → P t) := by
      by_cases hc39 : v35 < (4 : Int32)
      · have pre40 : ∀ t, Steps p.tables e below (T37.setTop (mkF m 73 #[.val (.int v35), .val (.int v36)] [])) t → P t := fun t k => pre38 t (by
            show Steps p.tables e below (T37.setTop (mkF m 63 #[.val (.int v35), .val (.int v36)] [(.int (4 : Int32)), (.int v35)])) _
            refine XS.icmpYes X37.here hx rfl (pc0 := 63) (pc' := 73) rfl (hb hby d6_63) rfl (tlt hc39).1 (by decide) (by decide) ?_
            exact k)
        exact ⟨_, _, v35, v36, X37, e37, N37, (by first | (rw [if_pos hc39]; done) | simp only [if_pos hc39] | simp [if_pos hc39]), (by first | (rw [if_pos hc39]; done) | simp only [if_pos hc39] | simp [if_pos hc39]), pre40⟩
      · have pre41 : ∀ t, Steps p.tables e below (T37.setTop (mkF m 69 #[.val (.int v35), .val (.int (v36 + (-2 : Int32)))] [])) t → P t := fun t k => pre38 t (by
            show Steps p.tables e below (T37.setTop (mkF m 63 #[.val (.int v35), .val (.int v36)] [(.int (4 : Int32)), (.int v35)])) _
            refine XS.icmpNo X37.here hx rfl (hb hby d6_63) rfl (flt hc39).1 ?_
            show Steps p.tables e below (T37.setTop (mkF m 66 #[.val (.int v35), .val (.int v36)] [])) _
            refine XS.iinc X37.here hx rfl (hb hby d6_66) rfl (l' := #[.val (.int v35), .val (.int (v36 + (-2 : Int32)))]) rfl ?_
            exact k)
        obtain ⟨v42, hv42⟩ : ∃ z : Int32, z = (v36 + (-2 : Int32)) := ⟨_, rfl⟩
        have pre43 : ∀ t, Steps p.tables e below (T37.setTop (mkF m 69 #[.val (.int v35), .val (.int v42)] [])) t → P t := fun t k => pre41 t (by subst hv42; exact k)
        have pre44 : ∀ t, Steps p.tables e below (T37.setTop (mkF m 73 #[.val (.int ((v35.toUInt32 >>> ((2 : Int32) &&& 31).toUInt32).toInt32)), .val (.int v42)] [])) t → P t := fun t k => pre43 t (by
            show Steps p.tables e below (T37.setTop (mkF m 69 #[.val (.int v35), .val (.int v42)] [])) _
            refine XS.iloadN X37.here hx rfl (hb hby d6_69) rfl ?_
            show Steps p.tables e below (T37.setTop (mkF m 70 #[.val (.int v35), .val (.int v42)] [(.int v35)])) _
            refine XS.iconst X37.here hx rfl (hb hby d6_70) ?_
            show Steps p.tables e below (T37.setTop (mkF m 71 #[.val (.int v35), .val (.int v42)] [(.int (2 : Int32)), (.int v35)])) _
            refine XS.iushr X37.here hx rfl (hb hby d6_71) rfl ?_
            show Steps p.tables e below (T37.setTop (mkF m 72 #[.val (.int v35), .val (.int v42)] [(.int ((v35.toUInt32 >>> ((2 : Int32) &&& 31).toUInt32).toInt32))])) _
            refine XS.istoreN X37.here hx rfl (hb hby d6_72) rfl (l' := #[.val (.int ((v35.toUInt32 >>> ((2 : Int32) &&& 31).toUInt32).toInt32)), .val (.int v42)]) rfl ?_
            exact k)
        obtain ⟨v45, hv45⟩ : ∃ z : Int32, z = ((v35.toUInt32 >>> ((2 : Int32) &&& 31).toUInt32).toInt32) := ⟨_, rfl⟩
        have pre46 : ∀ t, Steps p.tables e below (T37.setTop (mkF m 73 #[.val (.int v45), .val (.int v42)] [])) t → P t := fun t k => pre44 t (by subst hv45; exact k)
        exact ⟨_, _, v45, v42, X37, e37, N37, (by subst hv42 hv45; first | (rw [if_neg hc39]; done) | simp only [if_neg hc39] | simp [if_neg hc39]), (by subst hv42 hv45; first | (rw [if_neg hc39]; done) | simp only [if_neg hc39] | simp [if_neg hc39]), pre46⟩
    have pre50 : ∀ t, Steps p.tables e below (T49.setTop (mkF m 78 #[.val (.int v47), .val (.int v48)] [(.int (v48 - ((v47.toUInt32 >>> ((1 : Int32) &&& 31).toUInt32).toInt32)))])) t → P t := fun t k => pre49 t (by
        show Steps p.tables e below (T49.setTop (mkF m 73 #[.val (.int v47), .val (.int v48)] [])) _
        refine XS.iloadN X49.here hx rfl (hb hby d6_73) rfl ?_
        show Steps p.tables e below (T49.setTop (mkF m 74 #[.val (.int v47), .val (.int v48)] [(.int v48)])) _
        refine XS.iloadN X49.here hx rfl (hb hby d6_74) rfl ?_
        show Steps p.tables e below (T49.setTop (mkF m 75 #[.val (.int v47), .val (.int v48)] [(.int v47), (.int v48)])) _
        refine XS.iconst X49.here hx rfl (hb hby d6_75) ?_
        show Steps p.tables e below (T49.setTop (mkF m 76 #[.val (.int v47), .val (.int v48)] [(.int (1 : Int32)), (.int v47), (.int v48)])) _
        refine XS.iushr X49.here hx rfl (hb hby d6_76) rfl ?_
        show Steps p.tables e below (T49.setTop (mkF m 77 #[.val (.int v47), .val (.int v48)] [(.int ((v47.toUInt32 >>> ((1 : Int32) &&& 31).toUInt32).toInt32)), (.int v48)])) _
        refine XS.isub X49.here hx rfl (hb hby d6_77) rfl ?_
        exact k)
    obtain ⟨fs, hr, hrun, hended, hW, hsame⟩ := X49.leave (v := some (.int (v48 - ((v47.toUInt32 >>> ((1 : Int32) &&& 31).toUInt32).toInt32)))) (fun h => by rw [Bd.returns] at h; cases h)
    refine ⟨_, _, fin _ (pre50 _ ?_), hrun, hended, _, _, rfl, ?_, ⟨_, rfl⟩, hW, hsame.mono (by decide) (by decide)⟩
    · show Steps p.tables e below (T49.setTop (mkF m 78 #[.val (.int v47), .val (.int v48)] [(.int (v48 - ((v47.toUInt32 >>> ((1 : Int32) &&& 31).toUInt32).toInt32)))])) _
      exact retI X49 hx Bd.returns (hb hby d6_78) hr
    · show Q6 Z p0 h0 n0 _ T49.heap _
      rw [e49]
      exact ⟨(by subst hv11 hv12 hv23 hv24 hv35 hv36 hv47 hv48; first | (unfold own_f6; rw [if_pos hc2]; done) | simp only [own_f6, if_pos hc2] | simp [own_f6, if_pos hc2]), N49, rfl⟩
  · have pre51 : ∀ t, Steps p.tables e below (s₁.setTop (mkF m 5 #[.val (.int p0), .unset] [(.int p0)])) t → P t := fun t k => pre1 t (by
        show Steps p.tables e below (s₁.setTop (mkF m 1 #[.val (.int p0), .unset] [(.int p0)])) _
        refine XS.ifNo X0.here hx rfl (hb hby d6_1) rfl ((if0 _ _).trans (flt hc2).2.2.1) ?_
        show Steps p.tables e below (s₁.setTop (mkF m 4 #[.val (.int p0), .unset] [])) _
        refine XS.iloadN X0.here hx rfl (hb hby d6_4) rfl ?_
        exact k)
    obtain ⟨T56, L56, v55, X56, e56, N56, hv55, pre56⟩ : ∃ (T' : State) (L' : List Loc) (v55 : Int32), Stand p l e ({ frames := 0, cells := 0, slots := 0, locals := 0 } : Room) s m #[(.int p0)] below meth c T' L' 0 0 ∧ T'.heap = h0 ∧ Fr n0 L' ∧ v55 = (if p0 = (0 : Int32) then (32 : Int32) else (0 : Int32)) ∧ (∀ t, Steps p.tables e below (T'.setTop (mkF m 14 #[.val (.int p0), .unset] [(.int v55)])) t → P t) := by
      by_cases hc52 : p0 = (0 : Int32)
      · have pre53 : ∀ t, Steps p.tables e below (s₁.setTop (mkF m 14 #[.val (.int p0), .unset] [(.int (32 : Int32))])) t → P t := fun t k => pre51 t (by
            show Steps p.tables e below (s₁.setTop (mkF m 5 #[.val (.int p0), .unset] [(.int p0)])) _
            refine XS.ifNo X0.here hx rfl (hb hby d6_5) rfl ((if0 _ _).trans (teq hc52).2) ?_
            show Steps p.tables e below (s₁.setTop (mkF m 8 #[.val (.int p0), .unset] [])) _
            refine XS.bipush X0.here hx rfl (hb hby d6_8) ?_
            show Steps p.tables e below (s₁.setTop (mkF m 10 #[.val (.int p0), .unset] [(.int (32 : Int32))])) _
            refine XS.goto X0.here hx rfl (pc0 := 10) (pc' := 14) rfl (hb hby d6_10) (by decide) (by decide) ?_
            exact k)
        exact ⟨_, _, (32 : Int32), X0, e0, N0, (by first | (rw [if_pos hc52]; done) | simp only [if_pos hc52] | simp [if_pos hc52]), pre53⟩
      · have pre54 : ∀ t, Steps p.tables e below (s₁.setTop (mkF m 14 #[.val (.int p0), .unset] [(.int (0 : Int32))])) t → P t := fun t k => pre51 t (by
            show Steps p.tables e below (s₁.setTop (mkF m 5 #[.val (.int p0), .unset] [(.int p0)])) _
            refine XS.ifYes X0.here hx rfl (pc0 := 5) (pc' := 13) rfl (hb hby d6_5) rfl ((if0 _ _).trans (feq hc52).2) (by decide) (by decide) ?_
            show Steps p.tables e below (s₁.setTop (mkF m 13 #[.val (.int p0), .unset] [])) _
            refine XS.iconst X0.here hx rfl (hb hby d6_13) ?_
            exact k)
        exact ⟨_, _, (0 : Int32), X0, e0, N0, (by first | (rw [if_neg hc52]; done) | simp only [if_neg hc52] | simp [if_neg hc52]), pre54⟩
    obtain ⟨fs, hr, hrun, hended, hW, hsame⟩ := X56.leave (v := some (.int v55)) (fun h => by rw [Bd.returns] at h; cases h)
    refine ⟨_, _, fin _ (pre56 _ ?_), hrun, hended, _, _, rfl, ?_, ⟨_, rfl⟩, hW, hsame.mono (by decide) (by decide)⟩
    · show Steps p.tables e below (T56.setTop (mkF m 14 #[.val (.int p0), .unset] [(.int v55)])) _
      exact retI X56 hx Bd.returns (hb hby d6_14) hr
    · show Q6 Z p0 h0 n0 _ T56.heap _
      rw [e56]
      exact ⟨(by subst hv55; first | (unfold own_f6; rw [if_neg hc2]; done) | simp only [own_f6, if_neg hc2] | simp [own_f6, if_neg hc2]), N56, rfl⟩
theorem own_pd0 : parseMethodDescriptor "(I)I" = some ⟨[.int], some .int⟩ := by decide +kernel
theorem d5_0 : decode jdk_35_method_48_code 0 = .ok (.lload_n 0, 1) := by decide +kernel
theorem d5_1 : decode jdk_35_method_48_code 1 = .ok (.bipush 32, 2) := by decide +kernel
theorem d5_3 : decode jdk_35_method_48_code 3 = .ok (.lushr, 1) := by decide +kernel
theorem d5_4 : decode jdk_35_method_48_code 4 = .ok (.l2i, 1) := by decide +kernel
theorem d5_5 : decode jdk_35_method_48_code 5 = .ok (.istore_n 2, 1) := by decide +kernel
theorem d5_6 : decode jdk_35_method_48_code 6 = .ok (.iload_n 2, 1) := by decide +kernel
theorem d5_7 : decode jdk_35_method_48_code 7 = .ok (.ifCond .ne 14, 3) := by decide +kernel
theorem d5_10 : decode jdk_35_method_48_code 10 = .ok (.bipush 32, 2) := by decide +kernel
theorem d5_12 : decode jdk_35_method_48_code 12 = .ok (.lload_n 0, 1) := by decide +kernel
theorem d5_13 : decode jdk_35_method_48_code 13 = .ok (.l2i, 1) := by decide +kernel
theorem d5_14 : decode jdk_35_method_48_code 14 = .ok (.invokestatic 308, 3) := by decide +kernel
theorem d5_17 : decode jdk_35_method_48_code 17 = .ok (.iadd, 1) := by decide +kernel
theorem d5_18 : decode jdk_35_method_48_code 18 = .ok (.goto 7, 3) := by decide +kernel
theorem d5_21 : decode jdk_35_method_48_code 21 = .ok (.iload_n 2, 1) := by decide +kernel
theorem d5_22 : decode jdk_35_method_48_code 22 = .ok (.invokestatic 308, 3) := by decide +kernel
theorem d5_25 : decode jdk_35_method_48_code 25 = .ok (.ireturn, 1) := by decide +kernel
theorem pn_5 : plainName "java/lang/Long" = true := by first | (simp [plainName, overriddenIn]; done) | decide +kernel
theorem ef_5 (m : MethodId) (q0 : Int64) : entryFrame m #[(.long q0)] 3 = mkF m 0 #[.val (.long q0), .second, .unset] [] := by first | (simp [entryFrame, mkF, argsToLocals, Value.category]; done) | rfl
def own_f5 (q0 : Int64) : Int32 := (let v2 : Int32 := (((q0.toUInt64 >>> ((32 : Int32) &&& 0x3f).toInt64.toUInt64).toInt64).toInt32); (if v2 = (0 : Int32) then (let v8 : Int32 := (own_f6 (q0.toInt32)); ((32 : Int32) + v8)) else (own_f6 v2)))
def Q5 (Z : State) (q0 : Int64) (h0 : Heap) (n0 : Nat) (v : Option Value) (h : Heap) (L : List Loc) : Prop := v = some (.int (own_f5 q0)) ∧ Fr n0 L ∧ h = h0
set_option maxRecDepth 65536 in
set_option maxHeartbeats 40000000 in
theorem rm5 (l : Launch) (Z : State) (a0 : Array Value) (hw : ∀ d ∈ tables_1, d.before a0 Z = true) (ws : List Jvm.Cond) (q0 : Int64) (h0 : Heap) (n0 : Nat) (Z0 : n0 ≤ h0.size) :
    MetFree l (⟨"java/lang/Long", "numberOfLeadingZeros", "(J)I"⟩ : MethodName) (head1 (Jvm.Cond.code (⟨"java/lang/Long", "numberOfLeadingZeros", "(J)I"⟩ : MethodName) jdk_35_method_48_code 3 (some .int) :: ws) ({ frames := 1, cells := 0, slots := 0, locals := 14 } : Room)) (fun a U => a = #[(.long q0)] ∧ Z.Warmed39 U.vm ∧ U.heap = h0) (fun _ _ _ _ _ => True) (fun _ U o U' => ∃ v L, o = .returned v ∧ Q5 Z q0 h0 n0 v U'.heap L ∧ FrameEnd U o U' L ({ frames := 1, cells := 0, slots := 0, locals := 14 } : Room).cells ({ frames := 1, cells := 0, slots := 0, locals := 14 } : Room).slots) := by
  refine MetFree.of_bodySF (plainFor_of_name pn_5) hisR ?_
  intro p e s m args below meth c s₁ Bd hml0 hP hK
  obtain ⟨rfl, hZ, hh⟩ := hP
  have hx := Bd.exec
  have hby := Bd.bytes
  have hml : c.maxLocals = 3 := hml0
  have hown : s.vm.findClass "java/lang/Long" = some m.cls := findClass_of_methodNamed Bd.named
  have hnm := (name_of_methodNamed Bd.named Bd.method).1
  have X0 : Stand p l e ({ frames := 1, cells := 0, slots := 0, locals := 14 } : Room) s m #[(.long q0)] below meth c s₁ [] 0 0 := Stand.of_body Bd
  have e0 : s₁.heap = h0 := by rw [← hh, Bd.state]; rfl
  have N0 := Fr.nil n0
  obtain ⟨P, pre0, fin⟩ : ∃ P : State → Prop, (∀ t, Steps p.tables e below (s₁.setTop (mkF m 0 #[.val (.long q0), .second, .unset] [])) t → P t) ∧ (∀ t, P t → Steps p.tables e below (s₁.setTop (entryFrame m #[(.long q0)] 3)) t) := ⟨fun t => Steps p.tables e below (s₁.setTop (entryFrame m #[(.long q0)] 3)) t, fun t k => castTop (ef_5 m q0) k, fun t k => k⟩
  have K0 : Keep h0 h0 [] := Keep.refl _ _
  have pre1 : ∀ t, Steps p.tables e below (s₁.setTop (mkF m 6 #[.val (.long q0), .second, .val (.int (((q0.toUInt64 >>> ((32 : Int32) &&& 0x3f).toInt64.toUInt64).toInt64).toInt32))] [])) t → P t := fun t k => pre0 t (by
      show Steps p.tables e below (s₁.setTop (mkF m 0 #[.val (.long q0), .second, .unset] [])) _
      refine XS.lloadN X0.here hx rfl (hb hby d5_0) rfl ?_
      show Steps p.tables e below (s₁.setTop (mkF m 1 #[.val (.long q0), .second, .unset] [(.long q0)])) _
      refine XS.bipush X0.here hx rfl (hb hby d5_1) ?_
      show Steps p.tables e below (s₁.setTop (mkF m 3 #[.val (.long q0), .second, .unset] [(.int (32 : Int32)), (.long q0)])) _
      refine XS.lushr X0.here hx rfl (hb hby d5_3) rfl ?_
      show Steps p.tables e below (s₁.setTop (mkF m 4 #[.val (.long q0), .second, .unset] [(.long ((q0.toUInt64 >>> ((32 : Int32) &&& 0x3f).toInt64.toUInt64).toInt64))])) _
      refine XS.l2i X0.here hx rfl (hb hby d5_4) rfl ?_
      show Steps p.tables e below (s₁.setTop (mkF m 5 #[.val (.long q0), .second, .unset] [(.int (((q0.toUInt64 >>> ((32 : Int32) &&& 0x3f).toInt64.toUInt64).toInt64).toInt32))])) _
      refine XS.istoreN X0.here hx rfl (hb hby d5_5) rfl (l' := #[.val (.long q0), .second, .val (.int (((q0.toUInt64 >>> ((32 : Int32) &&& 0x3f).toInt64.toUInt64).toInt64).toInt32))]) rfl ?_
      exact k)
  obtain ⟨v2, hv2⟩ : ∃ z : Int32, z = (((q0.toUInt64 >>> ((32 : Int32) &&& 0x3f).toInt64.toUInt64).toInt64).toInt32) := ⟨_, rfl⟩
  have pre3 : ∀ t, Steps p.tables e below (s₁.setTop (mkF m 6 #[.val (.long q0), .second, .val (.int v2)] [])) t → P t := fun t k => pre1 t (by subst hv2; exact k)
  have pre4 : ∀ t, Steps p.tables e below (s₁.setTop (mkF m 7 #[.val (.long q0), .second, .val (.int v2)] [(.int v2)])) t → P t := fun t k => pre3 t (by
      show Steps p.tables e below (s₁.setTop (mkF m 6 #[.val (.long q0), .second, .val (.int v2)] [])) _
      refine XS.iloadN X0.here hx rfl (hb hby d5_6) rfl ?_
      exact k)
  obtain ⟨T16, L16, v15, X16, e16, N16, hv15, pre16⟩ : ∃ (T' : State) (L' : List Loc) (v15 : Int32), Stand p l e ({ frames := 1, cells := 0, slots := 0, locals := 14 } : Room) s m #[(.long q0)] below meth c T' L' 0 0 ∧ T'.heap = h0 ∧ Fr n0 L' ∧ v15 = (if v2 = (0 : Int32) then (let v8 : Int32 := (own_f6 (q0.toInt32)); ((32 : Int32) + v8)) else (own_f6 v2)) ∧ (∀ t, Steps p.tables e below (T'.setTop (mkF m 25 #[.val (.long q0), .second, .val (.int v2)] [(.int v15)])) t → P t) := by
    by_cases hc5 : v2 = (0 : Int32)
    · have pre6 : ∀ t, Steps p.tables e below (s₁.setTop (mkF m 14 #[.val (.long q0), .second, .val (.int v2)] [(.int (q0.toInt32)), (.int (32 : Int32))])) t → P t := fun t k => pre4 t (by
          show Steps p.tables e below (s₁.setTop (mkF m 7 #[.val (.long q0), .second, .val (.int v2)] [(.int v2)])) _
          refine XS.ifNo X0.here hx rfl (hb hby d5_7) rfl ((if0 _ _).trans (teq hc5).2) ?_
          show Steps p.tables e below (s₁.setTop (mkF m 10 #[.val (.long q0), .second, .val (.int v2)] [])) _
          refine XS.bipush X0.here hx rfl (hb hby d5_10) ?_
          show Steps p.tables e below (s₁.setTop (mkF m 12 #[.val (.long q0), .second, .val (.int v2)] [(.int (32 : Int32))])) _
          refine XS.lloadN X0.here hx rfl (hb hby d5_12) rfl ?_
          show Steps p.tables e below (s₁.setTop (mkF m 13 #[.val (.long q0), .second, .val (.int v2)] [(.long q0), (.int (32 : Int32))])) _
          refine XS.l2i X0.here hx rfl (hb hby d5_13) rfl ?_
          exact k)
      obtain ⟨_, _, ⟨T7, L7, k7, n7⟩, -, X7, ⟨Lc7, hQ7, l7, y7, z7⟩, st7⟩ := Jvm.LawKit.callS X0 hx (y := (⟨"java/lang/Integer", "numberOfLeadingZeros", "(I)I"⟩ : MethodName)) hown (mvT hZ (hw _ (List.mem_of_getElem? (i := 28) rfl))) (mvT hZ (hw _ (List.mem_of_getElem? (i := 29) rfl))) (mvT hZ (hw _ (List.mem_of_getElem? (i := 30) rfl))) (mvT hZ (hw _ (List.mem_of_getElem? (i := 31) rfl))) (by decide) (backOf (W := 1) (rm6 l Z a0 hw [] (q0.toInt32) h0 n0 Z0 ) hZ (hw _ (List.mem_of_getElem? (i := 31) rfl)) (hw _ (List.mem_of_getElem? (i := 30) rfl)) (by decide) (by decide)) (g := (mkF m 14 #[.val (.long q0), .second, .val (.int v2)] [(.int (q0.toInt32)), (.int (32 : Int32))])) rfl (by rw [hml]; rfl) (argsL := [(.int (q0.toInt32))]) (rest := [(.int (32 : Int32))]) (lenOf own_pd0 rfl) rfl (by show 2 * 0 + _ ≤ _; exact Nat.le_of_eq rfl) (hb hby d5_14) (fun _ _ => ⟨rfl, e0, (by decide : 0 + 0 ≤ _), (by decide : 0 + 0 ≤ _)⟩)
      dsimp only [Pt.U, Pt.locs, Pt.cells, Pt.slots] at X7 l7 y7 z7 st7 hQ7
      subst l7 y7 z7
      obtain ⟨rfl, N7q, e7⟩ := hQ7
      have N7 := Fr.app N0 N7q
      have pre7 : ∀ t, Steps p.tables e below (T7.setTop (mkF m 17 #[.val (.long q0), .second, .val (.int v2)] [(.int (own_f6 (q0.toInt32))), (.int (32 : Int32))])) t → P t := fun t k => pre6 t (st7 _ k)
      obtain ⟨v8, hv8⟩ : ∃ z : Int32, z = (own_f6 (q0.toInt32)) := ⟨_, rfl⟩
      have pre9 : ∀ t, Steps p.tables e below (T7.setTop (mkF m 17 #[.val (.long q0), .second, .val (.int v2)] [(.int v8), (.int (32 : Int32))])) t → P t := fun t k => pre7 t (by subst hv8; exact k)
      have pre10 : ∀ t, Steps p.tables e below (T7.setTop (mkF m 25 #[.val (.long q0), .second, .val (.int v2)] [(.int ((32 : Int32) + v8))])) t → P t := fun t k => pre9 t (by
          show Steps p.tables e below (T7.setTop (mkF m 17 #[.val (.long q0), .second, .val (.int v2)] [(.int v8), (.int (32 : Int32))])) _
          refine XS.iadd X7.here hx rfl (hb hby d5_17) rfl ?_
          show Steps p.tables e below (T7.setTop (mkF m 18 #[.val (.long q0), .second, .val (.int v2)] [(.int ((32 : Int32) + v8))])) _
          refine XS.goto X7.here hx rfl (pc0 := 18) (pc' := 25) rfl (hb hby d5_18) (by decide) (by decide) ?_
          exact k)
      exact ⟨_, _, ((32 : Int32) + v8), X7, e7, N7, (by subst hv8; first | (rw [if_pos hc5]; done) | simp only [if_pos hc5] | simp [if_pos hc5]), pre10⟩
    · have pre11 : ∀ t, Steps p.tables e below (s₁.setTop (mkF m 22 #[.val (.long q0), .second, .val (.int v2)] [(.int v2)])) t → P t := fun t k => pre4 t (by
          show Steps p.tables e below (s₁.setTop (mkF m 7 #[.val (.long q0), .second, .val (.int v2)] [(.int v2)])) _
          refine XS.ifYes X0.here hx rfl (pc0 := 7) (pc' := 21) rfl (hb hby d5_7) rfl ((if0 _ _).trans (feq hc5).2) (by decide) (by decide) ?_
          show Steps p.tables e below (s₁.setTop (mkF m 21 #[.val (.long q0), .second, .val (.int v2)] [])) _
          refine XS.iloadN X0.here hx rfl (hb hby d5_21) rfl ?_
          exact k)
      obtain ⟨_, _, ⟨T12, L12, k12, n12⟩, -, X12, ⟨Lc12, hQ12, l12, y12, z12⟩, st12⟩ := Jvm.LawKit.callS X0 hx (y := (⟨"java/lang/Integer", "numberOfLeadingZeros", "(I)I"⟩ : MethodName)) hown (mvT hZ (hw _ (List.mem_of_getElem? (i := 28) rfl))) (mvT hZ (hw _ (List.mem_of_getElem? (i := 29) rfl))) (mvT hZ (hw _ (List.mem_of_getElem? (i := 30) rfl))) (mvT hZ (hw _ (List.mem_of_getElem? (i := 31) rfl))) (by decide) (backOf (W := 0) (rm6 l Z a0 hw [] v2 h0 n0 Z0 ) hZ (hw _ (List.mem_of_getElem? (i := 31) rfl)) (hw _ (List.mem_of_getElem? (i := 30) rfl)) (by decide) (by decide)) (g := (mkF m 22 #[.val (.long q0), .second, .val (.int v2)] [(.int v2)])) rfl (by rw [hml]; rfl) (argsL := [(.int v2)]) (rest := []) (lenOf own_pd0 rfl) rfl (by show 2 * 0 + _ ≤ _; exact Nat.le_of_eq rfl) (hb hby d5_22) (fun _ _ => ⟨rfl, e0, (by decide : 0 + 0 ≤ _), (by decide : 0 + 0 ≤ _)⟩)
      dsimp only [Pt.U, Pt.locs, Pt.cells, Pt.slots] at X12 l12 y12 z12 st12 hQ12
      subst l12 y12 z12
      obtain ⟨rfl, N12q, e12⟩ := hQ12
      have N12 := Fr.app N0 N12q
      have pre12 : ∀ t, Steps p.tables e below (T12.setTop (mkF m 25 #[.val (.long q0), .second, .val (.int v2)] [(.int (own_f6 v2))])) t → P t := fun t k => pre11 t (st12 _ k)
      obtain ⟨v13, hv13⟩ : ∃ z : Int32, z = (own_f6 v2) := ⟨_, rfl⟩
      have pre14 : ∀ t, Steps p.tables e below (T12.setTop (mkF m 25 #[.val (.long q0), .second, .val (.int v2)] [(.int v13)])) t → P t := fun t k => pre12 t (by subst hv13; exact k)
      exact ⟨_, _, v13, X12, e12, N12, (by subst hv13; first | (rw [if_neg hc5]; done) | simp only [if_neg hc5] | simp [if_neg hc5]), pre14⟩
  obtain ⟨fs, hr, hrun, hended, hW, hsame⟩ := X16.leave (v := some (.int v15)) (fun h => by rw [Bd.returns] at h; cases h)
  refine ⟨_, _, fin _ (pre16 _ ?_), hrun, hended, _, _, rfl, ?_, ⟨_, rfl⟩, hW, hsame.mono (by decide) (by decide)⟩
  · show Steps p.tables e below (T16.setTop (mkF m 25 #[.val (.long q0), .second, .val (.int v2)] [(.int v15)])) _
    exact retI X16 hx Bd.returns (hb hby d5_25) hr
  · show Q5 Z q0 h0 n0 _ T16.heap _
    rw [e16]
    exact ⟨(by subst hv2 hv15; first | rfl | simp only [own_f5]), N16, rfl⟩
theorem d7_0 : decode method_2_code 0 = .ok (.lload_n 0, 1) := by decide +kernel
theorem d7_1 : decode method_2_code 1 = .ok (.ldc2_w 9, 3) := by decide +kernel
theorem d7_4 : decode method_2_code 4 = .ok (.lcmp, 1) := by decide +kernel
theorem d7_5 : decode method_2_code 5 = .ok (.ifCond .le 7, 3) := by decide +kernel
theorem d7_8 : decode method_2_code 8 = .ok (.ldc2_w 11, 3) := by decide +kernel
theorem d7_11 : decode method_2_code 11 = .ok (.lreturn, 1) := by decide +kernel
theorem d7_12 : decode method_2_code 12 = .ok (.lload_n 0, 1) := by decide +kernel
theorem d7_13 : decode method_2_code 13 = .ok (.ldc2_w 13, 3) := by decide +kernel
theorem d7_16 : decode method_2_code 16 = .ok (.lmul, 1) := by decide +kernel
theorem d7_17 : decode method_2_code 17 = .ok (.lreturn, 1) := by decide +kernel
theorem pn_7 : plainName "com/example/xmax/xmax/retry/RetryPolicyDelayMillisAfterPinLaw" = true := by first | (simp [plainName, overriddenIn]; done) | decide +kernel
theorem ef_7 (m : MethodId) (q0 : Int64) : entryFrame m #[(.long q0)] 2 = mkF m 0 #[.val (.long q0), .second] [] := by first | (simp [entryFrame, mkF, argsToLocals, Value.category]; done) | rfl
def own_f7 (q0 : Int64) : Int64 := (if (4611686018427387903 : Int64) < q0 then (9223372036854775807 : Int64) else (q0 * (2 : Int64)))
def Q7 (Z : State) (q0 : Int64) (h0 : Heap) (n0 : Nat) (v : Option Value) (h : Heap) (L : List Loc) : Prop := v = some (.long (own_f7 q0)) ∧ Fr n0 L ∧ h = h0
set_option maxRecDepth 65536 in
set_option maxHeartbeats 40000000 in
theorem rm7 (l : Launch) (Z : State) (a0 : Array Value) (hw : ∀ d ∈ tables_1, d.before a0 Z = true) (ws : List Jvm.Cond) (q0 : Int64) (h0 : Heap) (n0 : Nat) (Z0 : n0 ≤ h0.size) :
    MetFree l (⟨"com/example/xmax/xmax/retry/RetryPolicyDelayMillisAfterPinLaw", "saturatingDouble", "(J)J"⟩ : MethodName) (head1 (Jvm.Cond.code (⟨"com/example/xmax/xmax/retry/RetryPolicyDelayMillisAfterPinLaw", "saturatingDouble", "(J)J"⟩ : MethodName) method_2_code 2 (some .long) :: ws) ({ frames := 0, cells := 0, slots := 0, locals := 0 } : Room)) (fun a U => a = #[(.long q0)] ∧ Z.Warmed39 U.vm ∧ U.heap = h0) (fun _ _ _ _ _ => True) (fun _ U o U' => ∃ v L, o = .returned v ∧ Q7 Z q0 h0 n0 v U'.heap L ∧ FrameEnd U o U' L ({ frames := 0, cells := 0, slots := 0, locals := 0 } : Room).cells ({ frames := 0, cells := 0, slots := 0, locals := 0 } : Room).slots) := by
  refine MetFree.of_bodySF (plainFor_of_name pn_7) hisR ?_
  intro p e s m args below meth c s₁ Bd hml0 hP hK
  obtain ⟨rfl, hZ, hh⟩ := hP
  have hx := Bd.exec
  have hby := Bd.bytes
  have hml : c.maxLocals = 2 := hml0
  have hown : s.vm.findClass "com/example/xmax/xmax/retry/RetryPolicyDelayMillisAfterPinLaw" = some m.cls := findClass_of_methodNamed Bd.named
  have hnm := (name_of_methodNamed Bd.named Bd.method).1
  have X0 : Stand p l e ({ frames := 0, cells := 0, slots := 0, locals := 0 } : Room) s m #[(.long q0)] below meth c s₁ [] 0 0 := Stand.of_body Bd
  have e0 : s₁.heap = h0 := by rw [← hh, Bd.state]; rfl
  have N0 := Fr.nil n0
  obtain ⟨P, pre0, fin⟩ : ∃ P : State → Prop, (∀ t, Steps p.tables e below (s₁.setTop (mkF m 0 #[.val (.long q0), .second] [])) t → P t) ∧ (∀ t, P t → Steps p.tables e below (s₁.setTop (entryFrame m #[(.long q0)] 2)) t) := ⟨fun t => Steps p.tables e below (s₁.setTop (entryFrame m #[(.long q0)] 2)) t, fun t k => castTop (ef_7 m q0) k, fun t k => k⟩
  have K0 : Keep h0 h0 [] := Keep.refl _ _
  have pre1 : ∀ t, Steps p.tables e below (s₁.setTop (mkF m 5 #[.val (.long q0), .second] [(.int (lcmpW q0 (4611686018427387903 : Int64)))])) t → P t := fun t k => pre0 t (by
      show Steps p.tables e below (s₁.setTop (mkF m 0 #[.val (.long q0), .second] [])) _
      refine XS.lloadN X0.here hx rfl (hb hby d7_0) rfl ?_
      show Steps p.tables e below (s₁.setTop (mkF m 1 #[.val (.long q0), .second] [(.long q0)])) _
      refine X0.ldc2Long hx hown (mvT hZ (hw _ (List.mem_of_getElem? (i := 37) rfl))) (g := (mkF m 1 #[.val (.long q0), .second] [(.long q0)])) rfl (hb hby d7_1) _ ?_
      show Steps p.tables e below (s₁.setTop (mkF m 4 #[.val (.long q0), .second] [(.long (4611686018427387903 : Int64)), (.long q0)])) _
      refine XS.lcmp X0.here hx rfl (hb hby d7_4) rfl ?_
      exact k)
  by_cases hc2 : (4611686018427387903 : Int64) < q0
  · have pre3 : ∀ t, Steps p.tables e below (s₁.setTop (mkF m 11 #[.val (.long q0), .second] [(.long (9223372036854775807 : Int64))])) t → P t := fun t k => pre1 t (by
        show Steps p.tables e below (s₁.setTop (mkF m 5 #[.val (.long q0), .second] [(.int (lcmpW q0 (4611686018427387903 : Int64)))])) _
        refine XS.ifNo X0.here hx rfl (hb hby d7_5) rfl ((if0 _ _).trans (tlt ((lw_gt _ _).mpr hc2)).2.2.2) ?_
        show Steps p.tables e below (s₁.setTop (mkF m 8 #[.val (.long q0), .second] [])) _
        refine X0.ldc2Long hx hown (mvT hZ (hw _ (List.mem_of_getElem? (i := 39) rfl))) (g := (mkF m 8 #[.val (.long q0), .second] [])) rfl (hb hby d7_8) _ ?_
        exact k)
    obtain ⟨fs, hr, hrun, hended, hW, hsame⟩ := X0.leave (v := some (.long (9223372036854775807 : Int64))) (fun h => by rw [Bd.returns] at h; cases h)
    refine ⟨_, _, fin _ (pre3 _ ?_), hrun, hended, _, _, rfl, ?_, ⟨_, rfl⟩, hW, hsame.mono (by decide) (by decide)⟩
    · show Steps p.tables e below (s₁.setTop (mkF m 11 #[.val (.long q0), .second] [(.long (9223372036854775807 : Int64))])) _
      exact retOut X0 hx Bd.returns rfl (Or.inr (Or.inl ⟨rfl, rfl, _, rfl⟩)) (hb hby d7_11) hr
    · show Q7 Z q0 h0 n0 _ s₁.heap _
      rw [e0]
      exact ⟨(by first | (unfold own_f7; rw [if_pos hc2]; done) | simp only [own_f7, if_pos hc2] | simp [own_f7, if_pos hc2]), N0, rfl⟩
  · have pre4 : ∀ t, Steps p.tables e below (s₁.setTop (mkF m 17 #[.val (.long q0), .second] [(.long (q0 * (2 : Int64)))])) t → P t := fun t k => pre1 t (by
        show Steps p.tables e below (s₁.setTop (mkF m 5 #[.val (.long q0), .second] [(.int (lcmpW q0 (4611686018427387903 : Int64)))])) _
        refine XS.ifYes X0.here hx rfl (pc0 := 5) (pc' := 12) rfl (hb hby d7_5) rfl ((if0 _ _).trans (flt (fun q => hc2 ((lw_gt _ _).mp q))).2.2.2) (by decide) (by decide) ?_
        show Steps p.tables e below (s₁.setTop (mkF m 12 #[.val (.long q0), .second] [])) _
        refine XS.lloadN X0.here hx rfl (hb hby d7_12) rfl ?_
        show Steps p.tables e below (s₁.setTop (mkF m 13 #[.val (.long q0), .second] [(.long q0)])) _
        refine X0.ldc2Long hx hown (mvT hZ (hw _ (List.mem_of_getElem? (i := 38) rfl))) (g := (mkF m 13 #[.val (.long q0), .second] [(.long q0)])) rfl (hb hby d7_13) _ ?_
        show Steps p.tables e below (s₁.setTop (mkF m 16 #[.val (.long q0), .second] [(.long (2 : Int64)), (.long q0)])) _
        refine XS.lmul X0.here hx rfl (hb hby d7_16) rfl ?_
        exact k)
    obtain ⟨fs, hr, hrun, hended, hW, hsame⟩ := X0.leave (v := some (.long (q0 * (2 : Int64)))) (fun h => by rw [Bd.returns] at h; cases h)
    refine ⟨_, _, fin _ (pre4 _ ?_), hrun, hended, _, _, rfl, ?_, ⟨_, rfl⟩, hW, hsame.mono (by decide) (by decide)⟩
    · show Steps p.tables e below (s₁.setTop (mkF m 17 #[.val (.long q0), .second] [(.long (q0 * (2 : Int64)))])) _
      exact retOut X0 hx Bd.returns rfl (Or.inr (Or.inl ⟨rfl, rfl, _, rfl⟩)) (hb hby d7_17) hr
    · show Q7 Z q0 h0 n0 _ s₁.heap _
      rw [e0]
      exact ⟨(by first | (unfold own_f7; rw [if_neg hc2]; done) | simp only [own_f7, if_neg hc2] | simp [own_f7, if_neg hc2]), N0, rfl⟩
theorem d2_0 : decode prog_26_method_1_code 0 = .ok (.aload_n 0, 1) := by decide +kernel
theorem d2_1 : decode prog_26_method_1_code 1 = .ok (.invokespecial 1, 3) := by decide +kernel
theorem d2_4 : decode prog_26_method_1_code 4 = .ok (.iload_n 1, 1) := by decide +kernel
theorem d2_5 : decode prog_26_method_1_code 5 = .ok (.iconst 1, 1) := by decide +kernel
theorem d2_6 : decode prog_26_method_1_code 6 = .ok (.if_icmp .ge 17, 3) := by decide +kernel
theorem d2_23 : decode prog_26_method_1_code 23 = .ok (.lload_n 2, 1) := by decide +kernel
theorem d2_24 : decode prog_26_method_1_code 24 = .ok (.lconst 0, 1) := by decide +kernel
theorem d2_25 : decode prog_26_method_1_code 25 = .ok (.lcmp, 1) := by decide +kernel
theorem d2_26 : decode prog_26_method_1_code 26 = .ok (.ifCond .ge 17, 3) := by decide +kernel
theorem d2_43 : decode prog_26_method_1_code 43 = .ok (.aload_n 0, 1) := by decide +kernel
theorem d2_44 : decode prog_26_method_1_code 44 = .ok (.iload_n 1, 1) := by decide +kernel
theorem d2_45 : decode prog_26_method_1_code 45 = .ok (.putfield 19, 3) := by decide +kernel
theorem d2_48 : decode prog_26_method_1_code 48 = .ok (.aload_n 0, 1) := by decide +kernel
theorem d2_49 : decode prog_26_method_1_code 49 = .ok (.lload_n 2, 1) := by decide +kernel
theorem d2_50 : decode prog_26_method_1_code 50 = .ok (.putfield 25, 3) := by decide +kernel
theorem d2_53 : decode prog_26_method_1_code 53 = .ok (.return_, 1) := by decide +kernel
theorem pn_2 : plainName "com/example/xmax/xmax/retry/RetryPolicy" = true := by first | (simp [plainName, overriddenIn]; done) | decide +kernel
theorem ef_2 (m : MethodId) (o0 : Addr) (p1 : Int32) (q2 : Int64) : entryFrame m #[(.ref o0), (.int p1), (.long q2)] 4 = mkF m 0 #[.val (.ref o0), .val (.int p1), .val (.long q2), .second] [] := by first | (simp [entryFrame, mkF, argsToLocals, Value.category]; done) | rfl
def Q2 (Z : State) (o0 : Addr) (p1 : Int32) (q2 : Int64) (h0 : Heap) (n0 : Nat) (v : Option Value) (h : Heap) (L : List Loc) : Prop := v = none ∧ Fr n0 L ∧ Keep h0 h [o0] ∧ Exa Z h o0 "com/example/xmax/xmax/retry/RetryPolicy" ∧ Fld Z h o0 "com/example/xmax/xmax/retry/RetryPolicy" "maxAttempts" "I" (.int p1) ∧ Fld Z h o0 "com/example/xmax/xmax/retry/RetryPolicy" "retryDelayMillis" "J" (.long q2)
set_option maxRecDepth 65536 in
set_option maxHeartbeats 40000000 in
theorem rm2 (l : Launch) (Z : State) (a0 : Array Value) (hw : ∀ d ∈ tables_1, d.before a0 Z = true) (ws : List Jvm.Cond) (o0 : Addr) (p1 : Int32) (q2 : Int64) (h0 : Heap) (n0 : Nat) (Z0 : n0 ≤ h0.size) (E_o0 : Exa Z h0 o0 "com/example/xmax/xmax/retry/RetryPolicy") (F_maxAttempts_o0 : Fld Z h0 o0 "com/example/xmax/xmax/retry/RetryPolicy" "maxAttempts" "I" (.int (0 : Int32))) (F_retryDelayMillis_o0 : Fld Z h0 o0 "com/example/xmax/xmax/retry/RetryPolicy" "retryDelayMillis" "J" (.long (0 : Int64))) (g_o0 : n0 ≤ o0) (hm1 : ¬ p1 < (1 : Int32)) (hd0 : ¬ q2 < (0 : Int64)) :
    MetFree l (⟨"com/example/xmax/xmax/retry/RetryPolicy", "<init>", "(IJ)V"⟩ : MethodName) (head1 (Jvm.Cond.code (⟨"com/example/xmax/xmax/retry/RetryPolicy", "<init>", "(IJ)V"⟩ : MethodName) prog_26_method_1_code 4 none :: ws) ({ frames := 1, cells := 0, slots := 0, locals := 12 } : Room)) (fun a U => a = #[(.ref o0), (.int p1), (.long q2)] ∧ Z.Warmed39 U.vm ∧ U.heap = h0) (fun _ _ _ _ _ => True) (fun _ U o U' => ∃ v L, o = .returned v ∧ Q2 Z o0 p1 q2 h0 n0 v U'.heap L ∧ FrameEnd U o U' L ({ frames := 1, cells := 0, slots := 0, locals := 12 } : Room).cells ({ frames := 1, cells := 0, slots := 0, locals := 12 } : Room).slots) := by
  refine MetFree.of_bodySF (plainFor_of_name pn_2) hisR ?_
  intro p e s m args below meth c s₁ Bd hml0 hP hK
  obtain ⟨rfl, hZ, hh⟩ := hP
  have hx := Bd.exec
  have hby := Bd.bytes
  have hml : c.maxLocals = 4 := hml0
  have hown : s.vm.findClass "com/example/xmax/xmax/retry/RetryPolicy" = some m.cls := findClass_of_methodNamed Bd.named
  have hnm := (name_of_methodNamed Bd.named Bd.method).1
  have X0 : Stand p l e ({ frames := 1, cells := 0, slots := 0, locals := 12 } : Room) s m #[(.ref o0), (.int p1), (.long q2)] below meth c s₁ [] 0 0 := Stand.of_body Bd
  have e0 : s₁.heap = h0 := by rw [← hh, Bd.state]; rfl
  have N0 := Fr.nil n0
  obtain ⟨P, pre0, fin⟩ : ∃ P : State → Prop, (∀ t, Steps p.tables e below (s₁.setTop (mkF m 0 #[.val (.ref o0), .val (.int p1), .val (.long q2), .second] [])) t → P t) ∧ (∀ t, P t → Steps p.tables e below (s₁.setTop (entryFrame m #[(.ref o0), (.int p1), (.long q2)] 4)) t) := ⟨fun t => Steps p.tables e below (s₁.setTop (entryFrame m #[(.ref o0), (.int p1), (.long q2)] 4)) t, fun t k => castTop (ef_2 m o0 p1 q2) k, fun t k => k⟩
  have K0 : Keep h0 h0 [o0] := Keep.refl _ _
  have pre1 : ∀ t, Steps p.tables e below (s₁.setTop (mkF m 1 #[.val (.ref o0), .val (.int p1), .val (.long q2), .second] [(.ref o0)])) t → P t := fun t k => pre0 t (by
      show Steps p.tables e below (s₁.setTop (mkF m 0 #[.val (.ref o0), .val (.int p1), .val (.long q2), .second] [])) _
      refine XS.aloadN X0.here hx rfl (hb hby d2_0) rfl rfl ?_
      exact k)
  obtain ⟨T2, X2, e2, st2⟩ := initO X0 hx hZ hown (hw _ (List.mem_of_getElem? (i := 12) rfl)) (hw _ (List.mem_of_getElem? (i := 13) rfl)) (hw _ (List.mem_of_getElem? (i := 14) rfl)) e0 (g := (mkF m 1 #[.val (.ref o0), .val (.int p1), .val (.long q2), .second] [(.ref o0)])) rfl (by rw [hml]; rfl) rfl (hb hby d2_1) (by decide) (W := 0) (by show 2 * 0 + _ ≤ _; exact Nat.le_of_eq rfl) (by decide)
  have pre2 : ∀ t, Steps p.tables e below (T2.setTop (mkF m 4 #[.val (.ref o0), .val (.int p1), .val (.long q2), .second] [])) t → P t := fun t k => pre1 t (st2 _ k)
  have pre3 : ∀ t, Steps p.tables e below (T2.setTop (mkF m 45 #[.val (.ref o0), .val (.int p1), .val (.long q2), .second] [(.int p1), (.ref o0)])) t → P t := fun t k => pre2 t (by
      show Steps p.tables e below (T2.setTop (mkF m 4 #[.val (.ref o0), .val (.int p1), .val (.long q2), .second] [])) _
      refine XS.iloadN X2.here hx rfl (hb hby d2_4) rfl ?_
      show Steps p.tables e below (T2.setTop (mkF m 5 #[.val (.ref o0), .val (.int p1), .val (.long q2), .second] [(.int p1)])) _
      refine XS.iconst X2.here hx rfl (hb hby d2_5) ?_
      show Steps p.tables e below (T2.setTop (mkF m 6 #[.val (.ref o0), .val (.int p1), .val (.long q2), .second] [(.int (1 : Int32)), (.int p1)])) _
      refine XS.icmpYes X2.here hx rfl (pc0 := 6) (pc' := 23) rfl (hb hby d2_6) rfl (flt (show ¬ (p1 < (1 : Int32)) from hm1)).2.1 (by decide) (by decide) ?_
      show Steps p.tables e below (T2.setTop (mkF m 23 #[.val (.ref o0), .val (.int p1), .val (.long q2), .second] [])) _
      refine XS.lloadN X2.here hx rfl (hb hby d2_23) rfl ?_
      show Steps p.tables e below (T2.setTop (mkF m 24 #[.val (.ref o0), .val (.int p1), .val (.long q2), .second] [(.long q2)])) _
      refine XS.lconst X2.here hx rfl (hb hby d2_24) ?_
      show Steps p.tables e below (T2.setTop (mkF m 25 #[.val (.ref o0), .val (.int p1), .val (.long q2), .second] [(.long (0 : Int64)), (.long q2)])) _
      refine XS.lcmp X2.here hx rfl (hb hby d2_25) rfl ?_
      show Steps p.tables e below (T2.setTop (mkF m 26 #[.val (.ref o0), .val (.int p1), .val (.long q2), .second] [(.int (lcmpW q2 (0 : Int64)))])) _
      refine XS.ifYes X2.here hx rfl (pc0 := 26) (pc' := 43) rfl (hb hby d2_26) rfl ((if0 _ _).trans (flt (fun q => (show ¬ (q2 < (0 : Int64)) from hd0) ((lw_lt _ _).mp q))).2.1) (by decide) (by decide) ?_
      show Steps p.tables e below (T2.setTop (mkF m 43 #[.val (.ref o0), .val (.int p1), .val (.long q2), .second] [])) _
      refine XS.aloadN X2.here hx rfl (hb hby d2_43) rfl rfl ?_
      show Steps p.tables e below (T2.setTop (mkF m 44 #[.val (.ref o0), .val (.int p1), .val (.long q2), .second] [(.ref o0)])) _
      refine XS.iloadN X2.here hx rfl (hb hby d2_44) rfl ?_
      exact k)
  obtain ⟨T4, h4, X4, e4, W4, st4⟩ := putF X2 hx hZ hown (host := "") (Or.inl (hw _ (List.mem_of_getElem? (i := 15) rfl))) Via.refl e2 F_maxAttempts_o0 E_o0 (Or.inr ⟨(hw _ (List.mem_of_getElem? (i := 16) rfl)), rfl, hnm⟩) (hw _ (List.mem_of_getElem? (i := 7) rfl)) (ty := .int) (by decide) rfl rfl (g := (mkF m 45 #[.val (.ref o0), .val (.int p1), .val (.long q2), .second] [(.int p1), (.ref o0)])) rfl rfl (hb hby d2_45)
  have pre4 : ∀ t, Steps p.tables e below (T4.setTop (mkF m 48 #[.val (.ref o0), .val (.int p1), .val (.long q2), .second] [])) t → P t := fun t k => pre3 t (st4 _ k)
  have Fw4 := F_maxAttempts_o0.same W4
  have c5 : n0 ≤ h4.size := Nat.le_trans Z0 (Keep.of_wr W4).1
  have c6 : Exa Z h4 o0 "com/example/xmax/xmax/retry/RetryPolicy" := E_o0.wr W4
  have c7 : Fld Z h4 o0 "com/example/xmax/xmax/retry/RetryPolicy" "retryDelayMillis" "J" (.long (0 : Int64)) := F_retryDelayMillis_o0.other W4 (Or.inr (slot_ne (Or.inr (hw _ (List.mem_of_getElem? (i := 18) rfl))) (Or.inr (hw _ (List.mem_of_getElem? (i := 16) rfl))) (by decide) (t := .long) (t' := .int) (by decide) (by decide)))
  have K8 : Keep h0 h4 [o0] := K0.wr W4 (Or.inl (List.mem_of_getElem? (i := 0) rfl))
  have N4 := Fr.snoc X4 N0 g_o0
  have pre9 : ∀ t, Steps p.tables e below (T4.setTop (mkF m 50 #[.val (.ref o0), .val (.int p1), .val (.long q2), .second] [(.long q2), (.ref o0)])) t → P t := fun t k => pre4 t (by
      show Steps p.tables e below (T4.setTop (mkF m 48 #[.val (.ref o0), .val (.int p1), .val (.long q2), .second] [])) _
      refine XS.aloadN X4.here hx rfl (hb hby d2_48) rfl rfl ?_
      show Steps p.tables e below (T4.setTop (mkF m 49 #[.val (.ref o0), .val (.int p1), .val (.long q2), .second] [(.ref o0)])) _
      refine XS.lloadN X4.here hx rfl (hb hby d2_49) rfl ?_
      exact k)
  obtain ⟨T10, h10, X10, e10, W10, st10⟩ := putF X4 hx hZ hown (host := "") (Or.inl (hw _ (List.mem_of_getElem? (i := 17) rfl))) Via.refl e4 c7 c6 (Or.inr ⟨(hw _ (List.mem_of_getElem? (i := 18) rfl)), rfl, hnm⟩) (hw _ (List.mem_of_getElem? (i := 7) rfl)) (ty := .long) (by decide) rfl rfl (g := (mkF m 50 #[.val (.ref o0), .val (.int p1), .val (.long q2), .second] [(.long q2), (.ref o0)])) rfl rfl (hb hby d2_50)
  have pre10 : ∀ t, Steps p.tables e below (T10.setTop (mkF m 53 #[.val (.ref o0), .val (.int p1), .val (.long q2), .second] [])) t → P t := fun t k => pre9 t (st10 _ k)
  have Fw10 := c7.same W10
  have c11 : n0 ≤ h10.size := Nat.le_trans c5 (Keep.of_wr W10).1
  have c12 : Exa Z h10 o0 "com/example/xmax/xmax/retry/RetryPolicy" := c6.wr W10
  have c13 : Fld Z h10 o0 "com/example/xmax/xmax/retry/RetryPolicy" "maxAttempts" "I" (.int p1) := Fw4.other W10 (Or.inr (slot_ne (Or.inr (hw _ (List.mem_of_getElem? (i := 16) rfl))) (Or.inr (hw _ (List.mem_of_getElem? (i := 18) rfl))) (by decide) (t := .int) (t' := .long) (by decide) (by decide)))
  have K14 : Keep h0 h10 [o0] := K8.wr W10 (Or.inl (List.mem_of_getElem? (i := 0) rfl))
  have N10 := Fr.snoc X10 N4 g_o0
  obtain ⟨fs, hr, hrun, hended, hW, hsame⟩ := X10.leave (v := none) (fun _ => rfl)
  refine ⟨_, _, fin _ (pre10 _ ?_), hrun, hended, _, _, rfl, ?_, ⟨_, rfl⟩, hW, hsame.mono (by decide) (by decide)⟩
  · show Steps p.tables e below (T10.setTop (mkF m 53 #[.val (.ref o0), .val (.int p1), .val (.long q2), .second] [])) _
    exact X10.returnOut hx Bd.returns (hb hby d2_53) hr
  · show Q2 Z o0 p1 q2 h0 n0 _ T10.heap _
    rw [e10]
    exact ⟨rfl, N10, K14, c12, c13, Fw10⟩
theorem own_pd1 : parseMethodDescriptor "(J)I" = some ⟨[.long], some .int⟩ := by decide +kernel
theorem d4_0 : decode prog_26_method_5_code 0 = .ok (.iload_n 1, 1) := by decide +kernel
theorem d4_1 : decode prog_26_method_5_code 1 = .ok (.iconst 1, 1) := by decide +kernel
theorem d4_2 : decode prog_26_method_5_code 2 = .ok (.if_icmp .ge 17, 3) := by decide +kernel
theorem d4_19 : decode prog_26_method_5_code 19 = .ok (.iload_n 1, 1) := by decide +kernel
theorem d4_20 : decode prog_26_method_5_code 20 = .ok (.iconst 1, 1) := by decide +kernel
theorem d4_21 : decode prog_26_method_5_code 21 = .ok (.isub, 1) := by decide +kernel
theorem d4_22 : decode prog_26_method_5_code 22 = .ok (.istore_n 2, 1) := by decide +kernel
theorem d4_23 : decode prog_26_method_5_code 23 = .ok (.iload_n 2, 1) := by decide +kernel
theorem d4_24 : decode prog_26_method_5_code 24 = .ok (.aload_n 0, 1) := by decide +kernel
theorem d4_25 : decode prog_26_method_5_code 25 = .ok (.getfield 25, 3) := by decide +kernel
theorem d4_28 : decode prog_26_method_5_code 28 = .ok (.invokestatic 30, 3) := by decide +kernel
theorem d4_31 : decode prog_26_method_5_code 31 = .ok (.if_icmp .lt 20, 3) := by decide +kernel
theorem d4_34 : decode prog_26_method_5_code 34 = .ok (.aload_n 0, 1) := by decide +kernel
theorem d4_35 : decode prog_26_method_5_code 35 = .ok (.getfield 25, 3) := by decide +kernel
theorem d4_38 : decode prog_26_method_5_code 38 = .ok (.lconst 0, 1) := by decide +kernel
theorem d4_39 : decode prog_26_method_5_code 39 = .ok (.lcmp, 1) := by decide +kernel
theorem d4_40 : decode prog_26_method_5_code 40 = .ok (.ifCond .ne 7, 3) := by decide +kernel
theorem d4_43 : decode prog_26_method_5_code 43 = .ok (.lconst 0, 1) := by decide +kernel
theorem d4_44 : decode prog_26_method_5_code 44 = .ok (.goto 6, 3) := by decide +kernel
theorem d4_47 : decode prog_26_method_5_code 47 = .ok (.ldc2_w 36, 3) := by decide +kernel
theorem d4_50 : decode prog_26_method_5_code 50 = .ok (.lreturn, 1) := by decide +kernel
theorem d4_51 : decode prog_26_method_5_code 51 = .ok (.aload_n 0, 1) := by decide +kernel
theorem d4_52 : decode prog_26_method_5_code 52 = .ok (.getfield 25, 3) := by decide +kernel
theorem d4_55 : decode prog_26_method_5_code 55 = .ok (.iload_n 2, 1) := by decide +kernel
theorem d4_56 : decode prog_26_method_5_code 56 = .ok (.lshl, 1) := by decide +kernel
theorem d4_57 : decode prog_26_method_5_code 57 = .ok (.lreturn, 1) := by decide +kernel
theorem pn_4 : plainName "com/example/xmax/xmax/retry/RetryPolicy" = true := by first | (simp [plainName, overriddenIn]; done) | decide +kernel
theorem ef_4 (m : MethodId) (o0 : Addr) (p1 : Int32) : entryFrame m #[(.ref o0), (.int p1)] 3 = mkF m 0 #[.val (.ref o0), .val (.int p1), .unset] [] := by first | (simp [entryFrame, mkF, argsToLocals, Value.category]; done) | rfl
def own_f4 (p1 : Int32) (w_retryDelayMillis_o0 : Int64) : Int64 := (let v2 : Int32 := (p1 - (1 : Int32)); (let v7 : Int32 := (own_f5 w_retryDelayMillis_o0); (if v2 < v7 then (w_retryDelayMillis_o0 <<< (v2 &&& 0x3f).toInt64) else (if w_retryDelayMillis_o0 = (0 : Int64) then (0 : Int64) else (9223372036854775807 : Int64)))))
def Q4 (Z : State) (o0 : Addr) (p1 : Int32) (w_retryDelayMillis_o0 : Int64) (h0 : Heap) (n0 : Nat) (v : Option Value) (h : Heap) (L : List Loc) : Prop := v = some (.long (own_f4 p1 w_retryDelayMillis_o0)) ∧ Fr n0 L ∧ h = h0
set_option maxRecDepth 65536 in
set_option maxHeartbeats 40000000 in
theorem rm4 (l : Launch) (Z : State) (a0 : Array Value) (hw : ∀ d ∈ tables_1, d.before a0 Z = true) (ws : List Jvm.Cond) (o0 : Addr) (p1 : Int32) (w_retryDelayMillis_o0 : Int64) (h0 : Heap) (n0 : Nat) (Z0 : n0 ≤ h0.size) (F_retryDelayMillis_o0 : Fld Z h0 o0 "com/example/xmax/xmax/retry/RetryPolicy" "retryDelayMillis" "J" (.long w_retryDelayMillis_o0)) (hn1 : ¬ p1 < (1 : Int32)) :
    MetFree l (⟨"com/example/xmax/xmax/retry/RetryPolicy", "delayMillisAfter", "(I)J"⟩ : MethodName) (head1 (Jvm.Cond.code (⟨"com/example/xmax/xmax/retry/RetryPolicy", "delayMillisAfter", "(I)J"⟩ : MethodName) prog_26_method_5_code 3 (some .long) :: ws) ({ frames := 2, cells := 0, slots := 0, locals := 29 } : Room)) (fun a U => a = #[(.ref o0), (.int p1)] ∧ Z.Warmed39 U.vm ∧ U.heap = h0) (fun _ _ _ _ _ => True) (fun _ U o U' => ∃ v L, o = .returned v ∧ Q4 Z o0 p1 w_retryDelayMillis_o0 h0 n0 v U'.heap L ∧ FrameEnd U o U' L ({ frames := 2, cells := 0, slots := 0, locals := 29 } : Room).cells ({ frames := 2, cells := 0, slots := 0, locals := 29 } : Room).slots) := by
  refine MetFree.of_bodySF (plainFor_of_name pn_4) hisR ?_
  intro p e s m args below meth c s₁ Bd hml0 hP hK
  obtain ⟨rfl, hZ, hh⟩ := hP
  have hx := Bd.exec
  have hby := Bd.bytes
  have hml : c.maxLocals = 3 := hml0
  have hown : s.vm.findClass "com/example/xmax/xmax/retry/RetryPolicy" = some m.cls := findClass_of_methodNamed Bd.named
  have hnm := (name_of_methodNamed Bd.named Bd.method).1
  have X0 : Stand p l e ({ frames := 2, cells := 0, slots := 0, locals := 29 } : Room) s m #[(.ref o0), (.int p1)] below meth c s₁ [] 0 0 := Stand.of_body Bd
  have e0 : s₁.heap = h0 := by rw [← hh, Bd.state]; rfl
  have N0 := Fr.nil n0
  obtain ⟨P, pre0, fin⟩ : ∃ P : State → Prop, (∀ t, Steps p.tables e below (s₁.setTop (mkF m 0 #[.val (.ref o0), .val (.int p1), .unset] [])) t → P t) ∧ (∀ t, P t → Steps p.tables e below (s₁.setTop (entryFrame m #[(.ref o0), (.int p1)] 3)) t) := ⟨fun t => Steps p.tables e below (s₁.setTop (entryFrame m #[(.ref o0), (.int p1)] 3)) t, fun t k => castTop (ef_4 m o0 p1) k, fun t k => k⟩
  have K0 : Keep h0 h0 [] := Keep.refl _ _
  have pre1 : ∀ t, Steps p.tables e below (s₁.setTop (mkF m 23 #[.val (.ref o0), .val (.int p1), .val (.int (p1 - (1 : Int32)))] [])) t → P t := fun t k => pre0 t (by
      show Steps p.tables e below (s₁.setTop (mkF m 0 #[.val (.ref o0), .val (.int p1), .unset] [])) _
      refine XS.iloadN X0.here hx rfl (hb hby d4_0) rfl ?_
      show Steps p.tables e below (s₁.setTop (mkF m 1 #[.val (.ref o0), .val (.int p1), .unset] [(.int p1)])) _
      refine XS.iconst X0.here hx rfl (hb hby d4_1) ?_
      show Steps p.tables e below (s₁.setTop (mkF m 2 #[.val (.ref o0), .val (.int p1), .unset] [(.int (1 : Int32)), (.int p1)])) _
      refine XS.icmpYes X0.here hx rfl (pc0 := 2) (pc' := 19) rfl (hb hby d4_2) rfl (flt (show ¬ (p1 < (1 : Int32)) from hn1)).2.1 (by decide) (by decide) ?_
      show Steps p.tables e below (s₁.setTop (mkF m 19 #[.val (.ref o0), .val (.int p1), .unset] [])) _
      refine XS.iloadN X0.here hx rfl (hb hby d4_19) rfl ?_
      show Steps p.tables e below (s₁.setTop (mkF m 20 #[.val (.ref o0), .val (.int p1), .unset] [(.int p1)])) _
      refine XS.iconst X0.here hx rfl (hb hby d4_20) ?_
      show Steps p.tables e below (s₁.setTop (mkF m 21 #[.val (.ref o0), .val (.int p1), .unset] [(.int (1 : Int32)), (.int p1)])) _
      refine XS.isub X0.here hx rfl (hb hby d4_21) rfl ?_
      show Steps p.tables e below (s₁.setTop (mkF m 22 #[.val (.ref o0), .val (.int p1), .unset] [(.int (p1 - (1 : Int32)))])) _
      refine XS.istoreN X0.here hx rfl (hb hby d4_22) rfl (l' := #[.val (.ref o0), .val (.int p1), .val (.int (p1 - (1 : Int32)))]) rfl ?_
      exact k)
  obtain ⟨v2, hv2⟩ : ∃ z : Int32, z = (p1 - (1 : Int32)) := ⟨_, rfl⟩
  have pre3 : ∀ t, Steps p.tables e below (s₁.setTop (mkF m 23 #[.val (.ref o0), .val (.int p1), .val (.int v2)] [])) t → P t := fun t k => pre1 t (by subst hv2; exact k)
  have pre4 : ∀ t, Steps p.tables e below (s₁.setTop (mkF m 25 #[.val (.ref o0), .val (.int p1), .val (.int v2)] [(.ref o0), (.int v2)])) t → P t := fun t k => pre3 t (by
      show Steps p.tables e below (s₁.setTop (mkF m 23 #[.val (.ref o0), .val (.int p1), .val (.int v2)] [])) _
      refine XS.iloadN X0.here hx rfl (hb hby d4_23) rfl ?_
      show Steps p.tables e below (s₁.setTop (mkF m 24 #[.val (.ref o0), .val (.int p1), .val (.int v2)] [(.int v2)])) _
      refine XS.aloadN X0.here hx rfl (hb hby d4_24) rfl rfl ?_
      exact k)
  obtain ⟨T5, X5, e5, st5⟩ := getF X0 hx hZ hown (host := "") (Or.inl (hw _ (List.mem_of_getElem? (i := 17) rfl))) Via.refl e0 F_retryDelayMillis_o0 (g := (mkF m 25 #[.val (.ref o0), .val (.int p1), .val (.int v2)] [(.ref o0), (.int v2)])) rfl rfl (hb hby d4_25)
  have pre5 : ∀ t, Steps p.tables e below (T5.setTop (mkF m 28 #[.val (.ref o0), .val (.int p1), .val (.int v2)] [(.long w_retryDelayMillis_o0), (.int v2)])) t → P t := fun t k => pre4 t (st5 _ k)
  obtain ⟨_, _, ⟨T6, L6, k6, n6⟩, -, X6, ⟨Lc6, hQ6, l6, y6, z6⟩, st6⟩ := Jvm.LawKit.callS X5 hx (y := (⟨"java/lang/Long", "numberOfLeadingZeros", "(J)I"⟩ : MethodName)) hown (mvT hZ (hw _ (List.mem_of_getElem? (i := 24) rfl))) (mvT hZ (hw _ (List.mem_of_getElem? (i := 25) rfl))) (mvT hZ (hw _ (List.mem_of_getElem? (i := 26) rfl))) (mvT hZ (hw _ (List.mem_of_getElem? (i := 27) rfl))) (by decide) (backOf (W := 1) (rm5 l Z a0 hw [] w_retryDelayMillis_o0 h0 n0 Z0 ) hZ (hw _ (List.mem_of_getElem? (i := 27) rfl)) (hw _ (List.mem_of_getElem? (i := 26) rfl)) (by decide) (by decide)) (g := (mkF m 28 #[.val (.ref o0), .val (.int p1), .val (.int v2)] [(.long w_retryDelayMillis_o0), (.int v2)])) rfl (by rw [hml]; rfl) (argsL := [(.long w_retryDelayMillis_o0)]) (rest := [(.int v2)]) (lenOf own_pd1 rfl) rfl (by show 2 * 0 + _ ≤ _; exact Nat.le_of_eq rfl) (hb hby d4_28) (fun _ _ => ⟨rfl, e5, (by decide : 0 + 0 ≤ _), (by decide : 0 + 0 ≤ _)⟩)
  dsimp only [Pt.U, Pt.locs, Pt.cells, Pt.slots] at X6 l6 y6 z6 st6 hQ6
  subst l6 y6 z6
  obtain ⟨rfl, N6q, e6⟩ := hQ6
  have N6 := Fr.app N0 N6q
  have pre6 : ∀ t, Steps p.tables e below (T6.setTop (mkF m 31 #[.val (.ref o0), .val (.int p1), .val (.int v2)] [(.int (own_f5 w_retryDelayMillis_o0)), (.int v2)])) t → P t := fun t k => pre5 t (st6 _ k)
  obtain ⟨v7, hv7⟩ : ∃ z : Int32, z = (own_f5 w_retryDelayMillis_o0) := ⟨_, rfl⟩
  have pre8 : ∀ t, Steps p.tables e below (T6.setTop (mkF m 31 #[.val (.ref o0), .val (.int p1), .val (.int v2)] [(.int v7), (.int v2)])) t → P t := fun t k => pre6 t (by subst hv7; exact k)
  by_cases hc9 : v2 < v7
  · have pre10 : ∀ t, Steps p.tables e below (T6.setTop (mkF m 52 #[.val (.ref o0), .val (.int p1), .val (.int v2)] [(.ref o0)])) t → P t := fun t k => pre8 t (by
        show Steps p.tables e below (T6.setTop (mkF m 31 #[.val (.ref o0), .val (.int p1), .val (.int v2)] [(.int v7), (.int v2)])) _
        refine XS.icmpYes X6.here hx rfl (pc0 := 31) (pc' := 51) rfl (hb hby d4_31) rfl (tlt hc9).1 (by decide) (by decide) ?_
        show Steps p.tables e below (T6.setTop (mkF m 51 #[.val (.ref o0), .val (.int p1), .val (.int v2)] [])) _
        refine XS.aloadN X6.here hx rfl (hb hby d4_51) rfl rfl ?_
        exact k)
    obtain ⟨T11, X11, e11, st11⟩ := getF X6 hx hZ hown (host := "") (Or.inl (hw _ (List.mem_of_getElem? (i := 17) rfl))) Via.refl e6 F_retryDelayMillis_o0 (g := (mkF m 52 #[.val (.ref o0), .val (.int p1), .val (.int v2)] [(.ref o0)])) rfl rfl (hb hby d4_52)
    have pre11 : ∀ t, Steps p.tables e below (T11.setTop (mkF m 55 #[.val (.ref o0), .val (.int p1), .val (.int v2)] [(.long w_retryDelayMillis_o0)])) t → P t := fun t k => pre10 t (st11 _ k)
    have pre12 : ∀ t, Steps p.tables e below (T11.setTop (mkF m 57 #[.val (.ref o0), .val (.int p1), .val (.int v2)] [(.long (w_retryDelayMillis_o0 <<< (v2 &&& 0x3f).toInt64))])) t → P t := fun t k => pre11 t (by
        show Steps p.tables e below (T11.setTop (mkF m 55 #[.val (.ref o0), .val (.int p1), .val (.int v2)] [(.long w_retryDelayMillis_o0)])) _
        refine XS.iloadN X11.here hx rfl (hb hby d4_55) rfl ?_
        show Steps p.tables e below (T11.setTop (mkF m 56 #[.val (.ref o0), .val (.int p1), .val (.int v2)] [(.int v2), (.long w_retryDelayMillis_o0)])) _
        refine XS.lshl X11.here hx rfl (hb hby d4_56) rfl ?_
        exact k)
    obtain ⟨fs, hr, hrun, hended, hW, hsame⟩ := X11.leave (v := some (.long (w_retryDelayMillis_o0 <<< (v2 &&& 0x3f).toInt64))) (fun h => by rw [Bd.returns] at h; cases h)
    refine ⟨_, _, fin _ (pre12 _ ?_), hrun, hended, _, _, rfl, ?_, ⟨_, rfl⟩, hW, hsame.mono (by decide) (by decide)⟩
    · show Steps p.tables e below (T11.setTop (mkF m 57 #[.val (.ref o0), .val (.int p1), .val (.int v2)] [(.long (w_retryDelayMillis_o0 <<< (v2 &&& 0x3f).toInt64))])) _
      exact retOut X11 hx Bd.returns rfl (Or.inr (Or.inl ⟨rfl, rfl, _, rfl⟩)) (hb hby d4_57) hr
    · show Q4 Z o0 p1 w_retryDelayMillis_o0 h0 n0 _ T11.heap _
      rw [e11]
      exact ⟨(by subst hv2 hv7; first | (unfold own_f4; rw [if_pos hc9]; done) | simp only [own_f4, if_pos hc9] | simp [own_f4, if_pos hc9]), N6, rfl⟩
  · have pre13 : ∀ t, Steps p.tables e below (T6.setTop (mkF m 35 #[.val (.ref o0), .val (.int p1), .val (.int v2)] [(.ref o0)])) t → P t := fun t k => pre8 t (by
        show Steps p.tables e below (T6.setTop (mkF m 31 #[.val (.ref o0), .val (.int p1), .val (.int v2)] [(.int v7), (.int v2)])) _
        refine XS.icmpNo X6.here hx rfl (hb hby d4_31) rfl (flt hc9).1 ?_
        show Steps p.tables e below (T6.setTop (mkF m 34 #[.val (.ref o0), .val (.int p1), .val (.int v2)] [])) _
        refine XS.aloadN X6.here hx rfl (hb hby d4_34) rfl rfl ?_
        exact k)
    obtain ⟨T14, X14, e14, st14⟩ := getF X6 hx hZ hown (host := "") (Or.inl (hw _ (List.mem_of_getElem? (i := 17) rfl))) Via.refl e6 F_retryDelayMillis_o0 (g := (mkF m 35 #[.val (.ref o0), .val (.int p1), .val (.int v2)] [(.ref o0)])) rfl rfl (hb hby d4_35)
    have pre14 : ∀ t, Steps p.tables e below (T14.setTop (mkF m 38 #[.val (.ref o0), .val (.int p1), .val (.int v2)] [(.long w_retryDelayMillis_o0)])) t → P t := fun t k => pre13 t (st14 _ k)
    have pre15 : ∀ t, Steps p.tables e below (T14.setTop (mkF m 40 #[.val (.ref o0), .val (.int p1), .val (.int v2)] [(.int (lcmpW w_retryDelayMillis_o0 (0 : Int64)))])) t → P t := fun t k => pre14 t (by
        show Steps p.tables e below (T14.setTop (mkF m 38 #[.val (.ref o0), .val (.int p1), .val (.int v2)] [(.long w_retryDelayMillis_o0)])) _
        refine XS.lconst X14.here hx rfl (hb hby d4_38) ?_
        show Steps p.tables e below (T14.setTop (mkF m 39 #[.val (.ref o0), .val (.int p1), .val (.int v2)] [(.long (0 : Int64)), (.long w_retryDelayMillis_o0)])) _
        refine XS.lcmp X14.here hx rfl (hb hby d4_39) rfl ?_
        exact k)
    obtain ⟨T20, L20, v19, X20, e20, N20, hv19, pre20⟩ : ∃ (T' : State) (L' : List Loc) (v19 : Int64), Stand p l e ({ frames := 2, cells := 0, slots := 0, locals := 29 } : Room) s m #[(.ref o0), (.int p1)] below meth c T' L' 0 0 ∧ T'.heap = h0 ∧ Fr n0 L' ∧ v19 = (if w_retryDelayMillis_o0 = (0 : Int64) then (0 : Int64) else (9223372036854775807 : Int64)) ∧ (∀ t, Steps p.tables e below (T'.setTop (mkF m 50 #[.val (.ref o0), .val (.int p1), .val (.int v2)] [(.long v19)])) t → P t) := by
      by_cases hc16 : w_retryDelayMillis_o0 = (0 : Int64)
      · have pre17 : ∀ t, Steps p.tables e below (T14.setTop (mkF m 50 #[.val (.ref o0), .val (.int p1), .val (.int v2)] [(.long (0 : Int64))])) t → P t := fun t k => pre15 t (by
            show Steps p.tables e below (T14.setTop (mkF m 40 #[.val (.ref o0), .val (.int p1), .val (.int v2)] [(.int (lcmpW w_retryDelayMillis_o0 (0 : Int64)))])) _
            refine XS.ifNo X14.here hx rfl (hb hby d4_40) rfl ((if0 _ _).trans (teq ((lw_eq _ _).mpr hc16)).2) ?_
            show Steps p.tables e below (T14.setTop (mkF m 43 #[.val (.ref o0), .val (.int p1), .val (.int v2)] [])) _
            refine XS.lconst X14.here hx rfl (hb hby d4_43) ?_
            show Steps p.tables e below (T14.setTop (mkF m 44 #[.val (.ref o0), .val (.int p1), .val (.int v2)] [(.long (0 : Int64))])) _
            refine XS.goto X14.here hx rfl (pc0 := 44) (pc' := 50) rfl (hb hby d4_44) (by decide) (by decide) ?_
            exact k)
        exact ⟨_, _, (0 : Int64), X14, e14, N6, (by first | (rw [if_pos hc16]; done) | simp only [if_pos hc16] | simp [if_pos hc16]), pre17⟩
      · have pre18 : ∀ t, Steps p.tables e below (T14.setTop (mkF m 50 #[.val (.ref o0), .val (.int p1), .val (.int v2)] [(.long (9223372036854775807 : Int64))])) t → P t := fun t k => pre15 t (by
            show Steps p.tables e below (T14.setTop (mkF m 40 #[.val (.ref o0), .val (.int p1), .val (.int v2)] [(.int (lcmpW w_retryDelayMillis_o0 (0 : Int64)))])) _
            refine XS.ifYes X14.here hx rfl (pc0 := 40) (pc' := 47) rfl (hb hby d4_40) rfl ((if0 _ _).trans (feq (fun q => hc16 ((lw_eq _ _).mp q))).2) (by decide) (by decide) ?_
            show Steps p.tables e below (T14.setTop (mkF m 47 #[.val (.ref o0), .val (.int p1), .val (.int v2)] [])) _
            refine X14.ldc2Long hx hown (mvT hZ (hw _ (List.mem_of_getElem? (i := 41) rfl))) (g := (mkF m 47 #[.val (.ref o0), .val (.int p1), .val (.int v2)] [])) rfl (hb hby d4_47) _ ?_
            exact k)
        exact ⟨_, _, (9223372036854775807 : Int64), X14, e14, N6, (by first | (rw [if_neg hc16]; done) | simp only [if_neg hc16] | simp [if_neg hc16]), pre18⟩
    obtain ⟨fs, hr, hrun, hended, hW, hsame⟩ := X20.leave (v := some (.long v19)) (fun h => by rw [Bd.returns] at h; cases h)
    refine ⟨_, _, fin _ (pre20 _ ?_), hrun, hended, _, _, rfl, ?_, ⟨_, rfl⟩, hW, hsame.mono (by decide) (by decide)⟩
    · show Steps p.tables e below (T20.setTop (mkF m 50 #[.val (.ref o0), .val (.int p1), .val (.int v2)] [(.long v19)])) _
      exact retOut X20 hx Bd.returns rfl (Or.inr (Or.inl ⟨rfl, rfl, _, rfl⟩)) (hb hby d4_50) hr
    · show Q4 Z o0 p1 w_retryDelayMillis_o0 h0 n0 _ T20.heap _
      rw [e20]
      exact ⟨(by subst hv2 hv7 hv19; first | (unfold own_f4; rw [if_neg hc9]; done) | simp only [own_f4, if_neg hc9] | simp [own_f4, if_neg hc9]), N20, rfl⟩
theorem own_max1 (a : Int32) : ¬ own_f1 (1 : Int32) (a &&& (2147483647 : Int32)) < (1 : Int32) := by
  unfold own_f1
  split
  · next q => rw [Int32.lt_iff_toInt_lt] at q ⊢; omega
  · decide
theorem own_dn (m : Int32) (d : Int64) : 0 ≤ (if (m &&& (1 : Int32)) = (0 : Int32) then (d &&& (65535 : Int64)) else (d &&& (9223372036854775807 : Int64))).toInt := by
  have h1 := c_maskL d 65535 16 (by decide) (by decide)
  have h2 := c_maskL d 9223372036854775807 63 (by decide) (by decide)
  split <;> omega
theorem own_nn (m : Int32) (d : Int64) : ¬ (if (m &&& (1 : Int32)) = (0 : Int32) then (d &&& (65535 : Int64)) else (d &&& (9223372036854775807 : Int64))) < (0 : Int64) := by
  have h := own_dn m d
  have h0 : (0 : Int64).toInt = 0 := by decide
  rw [Int64.lt_iff_toInt_lt]
  omega
theorem own_nr (m a : Int32) : 1 ≤ (if (m &&& (2 : Int32)) = (0 : Int32) then ((a &&& (127 : Int32)) + (1 : Int32)) else (((a &&& (2147483647 : Int32)) % (2147483646 : Int32)) + (1 : Int32))).toInt ∧ (if (m &&& (2 : Int32)) = (0 : Int32) then ((a &&& (127 : Int32)) + (1 : Int32)) else (((a &&& (2147483647 : Int32)) % (2147483646 : Int32)) + (1 : Int32))).toInt ≤ 2147483646 := by
  have h1 := c_mask a 127 7 (by decide) (by decide)
  have h2 := c_mask a 2147483647 31 (by decide) (by decide)
  have e1 : (1 : Int32).toInt = 1 := by decide
  split
  · have h3 := c_iadd (a &&& 127) 1
    have h4 := rng32 ((a &&& 127) + 1)
    omega
  · have h5 := (c_irem (a &&& 2147483647) 2147483646 2147483646 (by decide)).1 (by omega)
    have h3 := c_iadd ((a &&& 2147483647) % 2147483646) 1
    have h4 := rng32 ((a &&& 2147483647) % 2147483646 + 1)
    omega
theorem own_n1 (m a : Int32) : ¬ (if (m &&& (2 : Int32)) = (0 : Int32) then ((a &&& (127 : Int32)) + (1 : Int32)) else (((a &&& (2147483647 : Int32)) % (2147483646 : Int32)) + (1 : Int32))) < (1 : Int32) := by
  have h := own_nr m a
  have e1 : (1 : Int32).toInt = 1 := by decide
  rw [Int32.lt_iff_toInt_lt]
  omega
theorem own_n2 (m a : Int32) : ¬ (if (m &&& (2 : Int32)) = (0 : Int32) then ((a &&& (127 : Int32)) + (1 : Int32)) else (((a &&& (2147483647 : Int32)) % (2147483646 : Int32)) + (1 : Int32))) + (1 : Int32) < (1 : Int32) := by
  have h := own_nr m a
  have e1 : (1 : Int32).toInt = 1 := by decide
  generalize (if (m &&& (2 : Int32)) = (0 : Int32) then ((a &&& (127 : Int32)) + (1 : Int32)) else (((a &&& (2147483647 : Int32)) % (2147483646 : Int32)) + (1 : Int32))) = n at *
  have h3 := c_iadd n 1
  have h4 := rng32 (n + 1)
  rw [Int32.lt_iff_toInt_lt]
  omega
theorem own_pd2 : parseMethodDescriptor "(II)I" = some ⟨[.int, .int], some .int⟩ := by decide +kernel
theorem own_pd3 : parseMethodDescriptor "(IJ)V" = some ⟨[.int, .long], none⟩ := by decide +kernel
theorem own_pd4 : parseMethodDescriptor "(I)J" = some ⟨[.int], some .long⟩ := by decide +kernel
theorem own_pd5 : parseMethodDescriptor "(J)J" = some ⟨[.long], some .long⟩ := by decide +kernel
theorem pn_0 : plainName "com/example/xmax/xmax/retry/RetryPolicyDelayMillisAfterPinLaw" = true := by first | (simp [plainName, overriddenIn]; done) | decide +kernel
theorem ef_0 (m : MethodId) (p0 : Int32) (q1 : Int64) (p2 : Int32) (p3 : Int32) : entryFrame m #[(.int p0), (.long q1), (.int p2), (.int p3)] maxLocals = mkF m 0 #[.val (.int p0), .val (.long q1), .second, .val (.int p2), .val (.int p3), .unset, .unset, .unset, .unset, .unset, .unset, .unset, .unset, .unset, .unset, .unset] [] := by first | (simp [entryFrame, mkF, argsToLocals, Value.category, maxLocals]; done) | rfl
def own_f0 (p0 : Int32) (q1 : Int64) (p2 : Int32) (p3 : Int32) : Int32 := (let v9 : Int64 := (if (p3 &&& (1 : Int32)) = (0 : Int32) then (q1 &&& (65535 : Int64)) else (q1 &&& (9223372036854775807 : Int64))); (let v15 : Int32 := (if (p3 &&& (2 : Int32)) = (0 : Int32) then ((p2 &&& (127 : Int32)) + (1 : Int32)) else (((p2 &&& (2147483647 : Int32)) % (2147483646 : Int32)) + (1 : Int32))); (let v28 : Int64 := (own_f4 (1 : Int32) v9); (let v32 : Int64 := (own_f4 v15 v9); (let v36 : Int64 := (own_f4 (v15 + (1 : Int32)) v9); (if v28 = v9 then (if v32 < (0 : Int64) then (0 : Int32) else (if v36 < (0 : Int64) then (0 : Int32) else (let v48 : Int64 := (own_f7 v32); (if v36 = v48 then (1 : Int32) else (0 : Int32))))) else (0 : Int32)))))))
def Q0 (Z : State) (p0 : Int32) (q1 : Int64) (p2 : Int32) (p3 : Int32) (h0 : Heap) (n0 : Nat) (v : Option Value) (h : Heap) (L : List Loc) : Prop := v = some (.int (own_f0 p0 q1 p2 p3)) ∧ Fr n0 L
set_option maxRecDepth 65536 in
set_option maxHeartbeats 40000000 in
theorem rm0 (l : Launch) (Z : State) (a0 : Array Value) (hw : ∀ d ∈ tables_1, d.before a0 Z = true) (ws : List Jvm.Cond) (p0 : Int32) (q1 : Int64) (p2 : Int32) (p3 : Int32) (h0 : Heap) (n0 : Nat) (Z0 : n0 ≤ h0.size) :
    MetFree l x (head1 (Jvm.Cond.code x code maxLocals ret :: ws) room_1) (fun a U => a = #[(.int p0), (.long q1), (.int p2), (.int p3)] ∧ Z.Warmed39 U.vm ∧ U.heap = h0) (fun _ _ _ _ _ => True) (fun _ U o U' => ∃ v L, o = .returned v ∧ Q0 Z p0 q1 p2 p3 h0 n0 v U'.heap L ∧ FrameEnd U o U' L room_1.cells room_1.slots) := by
  refine MetFree.of_bodySF (plainFor_of_name pn_0) hisR ?_
  intro p e s m args below meth c s₁ Bd hml0 hP hK
  obtain ⟨rfl, hZ, hh⟩ := hP
  have hx := Bd.exec
  have hby := Bd.bytes
  have hml : c.maxLocals = 16 := hml0
  have hown : s.vm.findClass "com/example/xmax/xmax/retry/RetryPolicyDelayMillisAfterPinLaw" = some m.cls := findClass_of_methodNamed Bd.named
  have hnm := (name_of_methodNamed Bd.named Bd.method).1
  have X0 : Stand p l e room_1 s m #[(.int p0), (.long q1), (.int p2), (.int p3)] below meth c s₁ [] 0 0 := Stand.of_body Bd
  have e0 : s₁.heap = h0 := by rw [← hh, Bd.state]; rfl
  have N0 := Fr.nil n0
  obtain ⟨P, pre0, fin⟩ : ∃ P : State → Prop, (∀ t, Steps p.tables e below (s₁.setTop (mkF m 0 #[.val (.int p0), .val (.long q1), .second, .val (.int p2), .val (.int p3), .unset, .unset, .unset, .unset, .unset, .unset, .unset, .unset, .unset, .unset, .unset] [])) t → P t) ∧ (∀ t, P t → Steps p.tables e below (s₁.setTop (entryFrame m #[(.int p0), (.long q1), (.int p2), (.int p3)] maxLocals)) t) := ⟨fun t => Steps p.tables e below (s₁.setTop (entryFrame m #[(.int p0), (.long q1), (.int p2), (.int p3)] maxLocals)) t, fun t k => castTop (ef_0 m p0 q1 p2 p3) k, fun t k => k⟩
  have K0 : Keep h0 h0 [] := Keep.refl _ _
  have pre1 : ∀ t, Steps p.tables e below (s₁.setTop (mkF m 5 #[.val (.int p0), .val (.long q1), .second, .val (.int p2), .val (.int p3), .unset, .unset, .unset, .unset, .unset, .unset, .unset, .unset, .unset, .unset, .unset] [(.int (p0 &&& (2147483647 : Int32))), (.int (1 : Int32))])) t → P t := fun t k => pre0 t (by
      show Steps p.tables e below (s₁.setTop (mkF m 0 #[.val (.int p0), .val (.long q1), .second, .val (.int p2), .val (.int p3), .unset, .unset, .unset, .unset, .unset, .unset, .unset, .unset, .unset, .unset, .unset] [])) _
      refine XS.iconst X0.here hx rfl (hb hby at_0) ?_
      show Steps p.tables e below (s₁.setTop (mkF m 1 #[.val (.int p0), .val (.long q1), .second, .val (.int p2), .val (.int p3), .unset, .unset, .unset, .unset, .unset, .unset, .unset, .unset, .unset, .unset, .unset] [(.int (1 : Int32))])) _
      refine XS.iloadN X0.here hx rfl (hb hby at_1) rfl ?_
      show Steps p.tables e below (s₁.setTop (mkF m 2 #[.val (.int p0), .val (.long q1), .second, .val (.int p2), .val (.int p3), .unset, .unset, .unset, .unset, .unset, .unset, .unset, .unset, .unset, .unset, .unset] [(.int p0), (.int (1 : Int32))])) _
      refine X0.ldcInt hx hown (mvT hZ (hw _ (List.mem_of_getElem? (i := 0) rfl))) (g := (mkF m 2 #[.val (.int p0), .val (.long q1), .second, .val (.int p2), .val (.int p3), .unset, .unset, .unset, .unset, .unset, .unset, .unset, .unset, .unset, .unset, .unset] [(.int p0), (.int (1 : Int32))])) rfl (hb hby at_2) _ ?_
      show Steps p.tables e below (s₁.setTop (mkF m 4 #[.val (.int p0), .val (.long q1), .second, .val (.int p2), .val (.int p3), .unset, .unset, .unset, .unset, .unset, .unset, .unset, .unset, .unset, .unset, .unset] [(.int (2147483647 : Int32)), (.int p0), (.int (1 : Int32))])) _
      refine XS.iand X0.here hx rfl (hb hby at_4) rfl ?_
      exact k)
  obtain ⟨_, _, ⟨T2, L2, k2, n2⟩, -, X2, ⟨Lc2, hQ2, l2, y2, z2⟩, st2⟩ := Jvm.LawKit.callS X0 hx (y := (⟨"java/lang/Math", "max", "(II)I"⟩ : MethodName)) hown (mvT hZ (hw _ (List.mem_of_getElem? (i := 1) rfl))) (mvT hZ (hw _ (List.mem_of_getElem? (i := 2) rfl))) (mvT hZ (hw _ (List.mem_of_getElem? (i := 3) rfl))) (mvT hZ (hw _ (List.mem_of_getElem? (i := 4) rfl))) (by decide) (backOf (W := 0) (rm1 l Z a0 hw [] (1 : Int32) (p0 &&& (2147483647 : Int32)) h0 n0 Z0 ) hZ (hw _ (List.mem_of_getElem? (i := 4) rfl)) (hw _ (List.mem_of_getElem? (i := 3) rfl)) (by decide) (by decide)) (g := (mkF m 5 #[.val (.int p0), .val (.long q1), .second, .val (.int p2), .val (.int p3), .unset, .unset, .unset, .unset, .unset, .unset, .unset, .unset, .unset, .unset, .unset] [(.int (p0 &&& (2147483647 : Int32))), (.int (1 : Int32))])) rfl (by rw [hml]; rfl) (argsL := [(.int (1 : Int32)), (.int (p0 &&& (2147483647 : Int32)))]) (rest := []) (lenOf own_pd2 rfl) rfl (by show 2 * 0 + _ ≤ _; exact Nat.le_of_eq rfl) (hb hby at_5) (fun _ _ => ⟨rfl, e0, (by decide : 0 + 0 ≤ _), (by decide : 0 + 0 ≤ _)⟩)
  dsimp only [Pt.U, Pt.locs, Pt.cells, Pt.slots] at X2 l2 y2 z2 st2 hQ2
  subst l2 y2 z2
  obtain ⟨rfl, N2q, e2⟩ := hQ2
  have N2 := Fr.app N0 N2q
  have pre2 : ∀ t, Steps p.tables e below (T2.setTop (mkF m 8 #[.val (.int p0), .val (.long q1), .second, .val (.int p2), .val (.int p3), .unset, .unset, .unset, .unset, .unset, .unset, .unset, .unset, .unset, .unset, .unset] [(.int (own_f1 (1 : Int32) (p0 &&& (2147483647 : Int32))))])) t → P t := fun t k => pre1 t (st2 _ k)
  obtain ⟨v3, hv3⟩ : ∃ z : Int32, z = (own_f1 (1 : Int32) (p0 &&& (2147483647 : Int32))) := ⟨_, rfl⟩
  have pre4 : ∀ t, Steps p.tables e below (T2.setTop (mkF m 8 #[.val (.int p0), .val (.long q1), .second, .val (.int p2), .val (.int p3), .unset, .unset, .unset, .unset, .unset, .unset, .unset, .unset, .unset, .unset, .unset] [(.int v3)])) t → P t := fun t k => pre2 t (by subst hv3; exact k)
  have pre5 : ∀ t, Steps p.tables e below (T2.setTop (mkF m 14 #[.val (.int p0), .val (.long q1), .second, .val (.int p2), .val (.int p3), .val (.int v3), .unset, .unset, .unset, .unset, .unset, .unset, .unset, .unset, .unset, .unset] [(.int (p3 &&& (1 : Int32)))])) t → P t := fun t k => pre4 t (by
      show Steps p.tables e below (T2.setTop (mkF m 8 #[.val (.int p0), .val (.long q1), .second, .val (.int p2), .val (.int p3), .unset, .unset, .unset, .unset, .unset, .unset, .unset, .unset, .unset, .unset, .unset] [(.int v3)])) _
      refine XS.istore X2.here hx rfl (hb hby at_8) rfl (l' := #[.val (.int p0), .val (.long q1), .second, .val (.int p2), .val (.int p3), .val (.int v3), .unset, .unset, .unset, .unset, .unset, .unset, .unset, .unset, .unset, .unset]) rfl ?_
      show Steps p.tables e below (T2.setTop (mkF m 10 #[.val (.int p0), .val (.long q1), .second, .val (.int p2), .val (.int p3), .val (.int v3), .unset, .unset, .unset, .unset, .unset, .unset, .unset, .unset, .unset, .unset] [])) _
      refine XS.iload X2.here hx rfl (hb hby at_10) rfl ?_
      show Steps p.tables e below (T2.setTop (mkF m 12 #[.val (.int p0), .val (.long q1), .second, .val (.int p2), .val (.int p3), .val (.int v3), .unset, .unset, .unset, .unset, .unset, .unset, .unset, .unset, .unset, .unset] [(.int p3)])) _
      refine XS.iconst X2.here hx rfl (hb hby at_12) ?_
      show Steps p.tables e below (T2.setTop (mkF m 13 #[.val (.int p0), .val (.long q1), .second, .val (.int p2), .val (.int p3), .val (.int v3), .unset, .unset, .unset, .unset, .unset, .unset, .unset, .unset, .unset, .unset] [(.int (1 : Int32)), (.int p3)])) _
      refine XS.iand X2.here hx rfl (hb hby at_13) rfl ?_
      exact k)
  obtain ⟨T10, L10, v9, X10, e10, N10, hv9, pre10⟩ : ∃ (T' : State) (L' : List Loc) (v9 : Int64), Stand p l e room_1 s m #[(.int p0), (.long q1), (.int p2), (.int p3)] below meth c T' L' 0 0 ∧ T'.heap = h0 ∧ Fr n0 L' ∧ v9 = (if (p3 &&& (1 : Int32)) = (0 : Int32) then (q1 &&& (65535 : Int64)) else (q1 &&& (9223372036854775807 : Int64))) ∧ (∀ t, Steps p.tables e below (T'.setTop (mkF m 30 #[.val (.int p0), .val (.long q1), .second, .val (.int p2), .val (.int p3), .val (.int v3), .unset, .unset, .unset, .unset, .unset, .unset, .unset, .unset, .unset, .unset] [(.long v9)])) t → P t) := by
    by_cases hc6 : (p3 &&& (1 : Int32)) = (0 : Int32)
    · have pre7 : ∀ t, Steps p.tables e below (T2.setTop (mkF m 30 #[.val (.int p0), .val (.long q1), .second, .val (.int p2), .val (.int p3), .val (.int v3), .unset, .unset, .unset, .unset, .unset, .unset, .unset, .unset, .unset, .unset] [(.long (q1 &&& (65535 : Int64)))])) t → P t := fun t k => pre5 t (by
          show Steps p.tables e below (T2.setTop (mkF m 14 #[.val (.int p0), .val (.long q1), .second, .val (.int p2), .val (.int p3), .val (.int v3), .unset, .unset, .unset, .unset, .unset, .unset, .unset, .unset, .unset, .unset] [(.int (p3 &&& (1 : Int32)))])) _
          refine XS.ifYes X2.here hx rfl (pc0 := 14) (pc' := 25) rfl (hb hby at_14) rfl ((if0 _ _).trans (teq hc6).1) (by decide) (by decide) ?_
          show Steps p.tables e below (T2.setTop (mkF m 25 #[.val (.int p0), .val (.long q1), .second, .val (.int p2), .val (.int p3), .val (.int v3), .unset, .unset, .unset, .unset, .unset, .unset, .unset, .unset, .unset, .unset] [])) _
          refine XS.lloadN X2.here hx rfl (hb hby at_25) rfl ?_
          show Steps p.tables e below (T2.setTop (mkF m 26 #[.val (.int p0), .val (.long q1), .second, .val (.int p2), .val (.int p3), .val (.int v3), .unset, .unset, .unset, .unset, .unset, .unset, .unset, .unset, .unset, .unset] [(.long q1)])) _
          refine X2.ldc2Long hx hown (mvT hZ (hw _ (List.mem_of_getElem? (i := 5) rfl))) (g := (mkF m 26 #[.val (.int p0), .val (.long q1), .second, .val (.int p2), .val (.int p3), .val (.int v3), .unset, .unset, .unset, .unset, .unset, .unset, .unset, .unset, .unset, .unset] [(.long q1)])) rfl (hb hby at_26) _ ?_
          show Steps p.tables e below (T2.setTop (mkF m 29 #[.val (.int p0), .val (.long q1), .second, .val (.int p2), .val (.int p3), .val (.int v3), .unset, .unset, .unset, .unset, .unset, .unset, .unset, .unset, .unset, .unset] [(.long (65535 : Int64)), (.long q1)])) _
          refine XS.land X2.here hx rfl (hb hby at_29) rfl ?_
          exact k)
      exact ⟨_, _, (q1 &&& (65535 : Int64)), X2, e2, N2, (by first | (rw [if_pos hc6]; done) | simp only [if_pos hc6] | simp [if_pos hc6]), pre7⟩
    · have pre8 : ∀ t, Steps p.tables e below (T2.setTop (mkF m 30 #[.val (.int p0), .val (.long q1), .second, .val (.int p2), .val (.int p3), .val (.int v3), .unset, .unset, .unset, .unset, .unset, .unset, .unset, .unset, .unset, .unset] [(.long (q1 &&& (9223372036854775807 : Int64)))])) t → P t := fun t k => pre5 t (by
          show Steps p.tables e below (T2.setTop (mkF m 14 #[.val (.int p0), .val (.long q1), .second, .val (.int p2), .val (.int p3), .val (.int v3), .unset, .unset, .unset, .unset, .unset, .unset, .unset, .unset, .unset, .unset] [(.int (p3 &&& (1 : Int32)))])) _
          refine XS.ifNo X2.here hx rfl (hb hby at_14) rfl ((if0 _ _).trans (feq hc6).1) ?_
          show Steps p.tables e below (T2.setTop (mkF m 17 #[.val (.int p0), .val (.long q1), .second, .val (.int p2), .val (.int p3), .val (.int v3), .unset, .unset, .unset, .unset, .unset, .unset, .unset, .unset, .unset, .unset] [])) _
          refine XS.lloadN X2.here hx rfl (hb hby at_17) rfl ?_
          show Steps p.tables e below (T2.setTop (mkF m 18 #[.val (.int p0), .val (.long q1), .second, .val (.int p2), .val (.int p3), .val (.int v3), .unset, .unset, .unset, .unset, .unset, .unset, .unset, .unset, .unset, .unset] [(.long q1)])) _
          refine X2.ldc2Long hx hown (mvT hZ (hw _ (List.mem_of_getElem? (i := 39) rfl))) (g := (mkF m 18 #[.val (.int p0), .val (.long q1), .second, .val (.int p2), .val (.int p3), .val (.int v3), .unset, .unset, .unset, .unset, .unset, .unset, .unset, .unset, .unset, .unset] [(.long q1)])) rfl (hb hby at_18) _ ?_
          show Steps p.tables e below (T2.setTop (mkF m 21 #[.val (.int p0), .val (.long q1), .second, .val (.int p2), .val (.int p3), .val (.int v3), .unset, .unset, .unset, .unset, .unset, .unset, .unset, .unset, .unset, .unset] [(.long (9223372036854775807 : Int64)), (.long q1)])) _
          refine XS.land X2.here hx rfl (hb hby at_21) rfl ?_
          show Steps p.tables e below (T2.setTop (mkF m 22 #[.val (.int p0), .val (.long q1), .second, .val (.int p2), .val (.int p3), .val (.int v3), .unset, .unset, .unset, .unset, .unset, .unset, .unset, .unset, .unset, .unset] [(.long (q1 &&& (9223372036854775807 : Int64)))])) _
          refine XS.goto X2.here hx rfl (pc0 := 22) (pc' := 30) rfl (hb hby at_22) (by decide) (by decide) ?_
          exact k)
      exact ⟨_, _, (q1 &&& (9223372036854775807 : Int64)), X2, e2, N2, (by first | (rw [if_neg hc6]; done) | simp only [if_neg hc6] | simp [if_neg hc6]), pre8⟩
  have pre11 : ∀ t, Steps p.tables e below (T10.setTop (mkF m 36 #[.val (.int p0), .val (.long q1), .second, .val (.int p2), .val (.int p3), .val (.int v3), .val (.long v9), .second, .unset, .unset, .unset, .unset, .unset, .unset, .unset, .unset] [(.int (p3 &&& (2 : Int32)))])) t → P t := fun t k => pre10 t (by
      show Steps p.tables e below (T10.setTop (mkF m 30 #[.val (.int p0), .val (.long q1), .second, .val (.int p2), .val (.int p3), .val (.int v3), .unset, .unset, .unset, .unset, .unset, .unset, .unset, .unset, .unset, .unset] [(.long v9)])) _
      refine XS.lstore X10.here hx rfl (hb hby at_30) rfl (l' := #[.val (.int p0), .val (.long q1), .second, .val (.int p2), .val (.int p3), .val (.int v3), .val (.long v9), .second, .unset, .unset, .unset, .unset, .unset, .unset, .unset, .unset]) rfl ?_
      show Steps p.tables e below (T10.setTop (mkF m 32 #[.val (.int p0), .val (.long q1), .second, .val (.int p2), .val (.int p3), .val (.int v3), .val (.long v9), .second, .unset, .unset, .unset, .unset, .unset, .unset, .unset, .unset] [])) _
      refine XS.iload X10.here hx rfl (hb hby at_32) rfl ?_
      show Steps p.tables e below (T10.setTop (mkF m 34 #[.val (.int p0), .val (.long q1), .second, .val (.int p2), .val (.int p3), .val (.int v3), .val (.long v9), .second, .unset, .unset, .unset, .unset, .unset, .unset, .unset, .unset] [(.int p3)])) _
      refine XS.iconst X10.here hx rfl (hb hby at_34) ?_
      show Steps p.tables e below (T10.setTop (mkF m 35 #[.val (.int p0), .val (.long q1), .second, .val (.int p2), .val (.int p3), .val (.int v3), .val (.long v9), .second, .unset, .unset, .unset, .unset, .unset, .unset, .unset, .unset] [(.int (2 : Int32)), (.int p3)])) _
      refine XS.iand X10.here hx rfl (hb hby at_35) rfl ?_
      exact k)
  obtain ⟨T16, L16, v15, X16, e16, N16, hv15, pre16⟩ : ∃ (T' : State) (L' : List Loc) (v15 : Int32), Stand p l e room_1 s m #[(.int p0), (.long q1), (.int p2), (.int p3)] below meth c T' L' 0 0 ∧ T'.heap = h0 ∧ Fr n0 L' ∧ v15 = (if (p3 &&& (2 : Int32)) = (0 : Int32) then ((p2 &&& (127 : Int32)) + (1 : Int32)) else (((p2 &&& (2147483647 : Int32)) % (2147483646 : Int32)) + (1 : Int32))) ∧ (∀ t, Steps p.tables e below (T'.setTop (mkF m 57 #[.val (.int p0), .val (.long q1), .second, .val (.int p2), .val (.int p3), .val (.int v3), .val (.long v9), .second, .unset, .unset, .unset, .unset, .unset, .unset, .unset, .unset] [(.int v15)])) t → P t) := by
    by_cases hc12 : (p3 &&& (2 : Int32)) = (0 : Int32)
    · have pre13 : ∀ t, Steps p.tables e below (T10.setTop (mkF m 57 #[.val (.int p0), .val (.long q1), .second, .val (.int p2), .val (.int p3), .val (.int v3), .val (.long v9), .second, .unset, .unset, .unset, .unset, .unset, .unset, .unset, .unset] [(.int ((p2 &&& (127 : Int32)) + (1 : Int32)))])) t → P t := fun t k => pre11 t (by
          show Steps p.tables e below (T10.setTop (mkF m 36 #[.val (.int p0), .val (.long q1), .second, .val (.int p2), .val (.int p3), .val (.int v3), .val (.long v9), .second, .unset, .unset, .unset, .unset, .unset, .unset, .unset, .unset] [(.int (p3 &&& (2 : Int32)))])) _
          refine XS.ifYes X10.here hx rfl (pc0 := 36) (pc' := 51) rfl (hb hby at_36) rfl ((if0 _ _).trans (teq hc12).1) (by decide) (by decide) ?_
          show Steps p.tables e below (T10.setTop (mkF m 51 #[.val (.int p0), .val (.long q1), .second, .val (.int p2), .val (.int p3), .val (.int v3), .val (.long v9), .second, .unset, .unset, .unset, .unset, .unset, .unset, .unset, .unset] [])) _
          refine XS.iloadN X10.here hx rfl (hb hby at_51) rfl ?_
          show Steps p.tables e below (T10.setTop (mkF m 52 #[.val (.int p0), .val (.long q1), .second, .val (.int p2), .val (.int p3), .val (.int v3), .val (.long v9), .second, .unset, .unset, .unset, .unset, .unset, .unset, .unset, .unset] [(.int p2)])) _
          refine XS.bipush X10.here hx rfl (hb hby at_52) ?_
          show Steps p.tables e below (T10.setTop (mkF m 54 #[.val (.int p0), .val (.long q1), .second, .val (.int p2), .val (.int p3), .val (.int v3), .val (.long v9), .second, .unset, .unset, .unset, .unset, .unset, .unset, .unset, .unset] [(.int (127 : Int32)), (.int p2)])) _
          refine XS.iand X10.here hx rfl (hb hby at_54) rfl ?_
          show Steps p.tables e below (T10.setTop (mkF m 55 #[.val (.int p0), .val (.long q1), .second, .val (.int p2), .val (.int p3), .val (.int v3), .val (.long v9), .second, .unset, .unset, .unset, .unset, .unset, .unset, .unset, .unset] [(.int (p2 &&& (127 : Int32)))])) _
          refine XS.iconst X10.here hx rfl (hb hby at_55) ?_
          show Steps p.tables e below (T10.setTop (mkF m 56 #[.val (.int p0), .val (.long q1), .second, .val (.int p2), .val (.int p3), .val (.int v3), .val (.long v9), .second, .unset, .unset, .unset, .unset, .unset, .unset, .unset, .unset] [(.int (1 : Int32)), (.int (p2 &&& (127 : Int32)))])) _
          refine XS.iadd X10.here hx rfl (hb hby at_56) rfl ?_
          exact k)
      exact ⟨_, _, ((p2 &&& (127 : Int32)) + (1 : Int32)), X10, e10, N10, (by first | (rw [if_pos hc12]; done) | simp only [if_pos hc12] | simp [if_pos hc12]), pre13⟩
    · have pre14 : ∀ t, Steps p.tables e below (T10.setTop (mkF m 57 #[.val (.int p0), .val (.long q1), .second, .val (.int p2), .val (.int p3), .val (.int v3), .val (.long v9), .second, .unset, .unset, .unset, .unset, .unset, .unset, .unset, .unset] [(.int (((p2 &&& (2147483647 : Int32)) % (2147483646 : Int32)) + (1 : Int32)))])) t → P t := fun t k => pre11 t (by
          show Steps p.tables e below (T10.setTop (mkF m 36 #[.val (.int p0), .val (.long q1), .second, .val (.int p2), .val (.int p3), .val (.int v3), .val (.long v9), .second, .unset, .unset, .unset, .unset, .unset, .unset, .unset, .unset] [(.int (p3 &&& (2 : Int32)))])) _
          refine XS.ifNo X10.here hx rfl (hb hby at_36) rfl ((if0 _ _).trans (feq hc12).1) ?_
          show Steps p.tables e below (T10.setTop (mkF m 39 #[.val (.int p0), .val (.long q1), .second, .val (.int p2), .val (.int p3), .val (.int v3), .val (.long v9), .second, .unset, .unset, .unset, .unset, .unset, .unset, .unset, .unset] [])) _
          refine XS.iloadN X10.here hx rfl (hb hby at_39) rfl ?_
          show Steps p.tables e below (T10.setTop (mkF m 40 #[.val (.int p0), .val (.long q1), .second, .val (.int p2), .val (.int p3), .val (.int v3), .val (.long v9), .second, .unset, .unset, .unset, .unset, .unset, .unset, .unset, .unset] [(.int p2)])) _
          refine X10.ldcInt hx hown (mvT hZ (hw _ (List.mem_of_getElem? (i := 0) rfl))) (g := (mkF m 40 #[.val (.int p0), .val (.long q1), .second, .val (.int p2), .val (.int p3), .val (.int v3), .val (.long v9), .second, .unset, .unset, .unset, .unset, .unset, .unset, .unset, .unset] [(.int p2)])) rfl (hb hby at_40) _ ?_
          show Steps p.tables e below (T10.setTop (mkF m 42 #[.val (.int p0), .val (.long q1), .second, .val (.int p2), .val (.int p3), .val (.int v3), .val (.long v9), .second, .unset, .unset, .unset, .unset, .unset, .unset, .unset, .unset] [(.int (2147483647 : Int32)), (.int p2)])) _
          refine XS.iand X10.here hx rfl (hb hby at_42) rfl ?_
          show Steps p.tables e below (T10.setTop (mkF m 43 #[.val (.int p0), .val (.long q1), .second, .val (.int p2), .val (.int p3), .val (.int v3), .val (.long v9), .second, .unset, .unset, .unset, .unset, .unset, .unset, .unset, .unset] [(.int (p2 &&& (2147483647 : Int32)))])) _
          refine X10.ldcInt hx hown (mvT hZ (hw _ (List.mem_of_getElem? (i := 40) rfl))) (g := (mkF m 43 #[.val (.int p0), .val (.long q1), .second, .val (.int p2), .val (.int p3), .val (.int v3), .val (.long v9), .second, .unset, .unset, .unset, .unset, .unset, .unset, .unset, .unset] [(.int (p2 &&& (2147483647 : Int32)))])) rfl (hb hby at_43) _ ?_
          show Steps p.tables e below (T10.setTop (mkF m 45 #[.val (.int p0), .val (.long q1), .second, .val (.int p2), .val (.int p3), .val (.int v3), .val (.long v9), .second, .unset, .unset, .unset, .unset, .unset, .unset, .unset, .unset] [(.int (2147483646 : Int32)), (.int (p2 &&& (2147483647 : Int32)))])) _
          refine iremM X10 hx rfl (hb hby at_45) rfl (by decide) ?_
          show Steps p.tables e below (T10.setTop (mkF m 46 #[.val (.int p0), .val (.long q1), .second, .val (.int p2), .val (.int p3), .val (.int v3), .val (.long v9), .second, .unset, .unset, .unset, .unset, .unset, .unset, .unset, .unset] [(.int ((p2 &&& (2147483647 : Int32)) % (2147483646 : Int32)))])) _
          refine XS.iconst X10.here hx rfl (hb hby at_46) ?_
          show Steps p.tables e below (T10.setTop (mkF m 47 #[.val (.int p0), .val (.long q1), .second, .val (.int p2), .val (.int p3), .val (.int v3), .val (.long v9), .second, .unset, .unset, .unset, .unset, .unset, .unset, .unset, .unset] [(.int (1 : Int32)), (.int ((p2 &&& (2147483647 : Int32)) % (2147483646 : Int32)))])) _
          refine XS.iadd X10.here hx rfl (hb hby at_47) rfl ?_
          show Steps p.tables e below (T10.setTop (mkF m 48 #[.val (.int p0), .val (.long q1), .second, .val (.int p2), .val (.int p3), .val (.int v3), .val (.long v9), .second, .unset, .unset, .unset, .unset, .unset, .unset, .unset, .unset] [(.int (((p2 &&& (2147483647 : Int32)) % (2147483646 : Int32)) + (1 : Int32)))])) _
          refine XS.goto X10.here hx rfl (pc0 := 48) (pc' := 57) rfl (hb hby at_48) (by decide) (by decide) ?_
          exact k)
      exact ⟨_, _, (((p2 &&& (2147483647 : Int32)) % (2147483646 : Int32)) + (1 : Int32)), X10, e10, N10, (by first | (rw [if_neg hc12]; done) | simp only [if_neg hc12] | simp [if_neg hc12]), pre14⟩
  have pre17 : ∀ t, Steps p.tables e below (T16.setTop (mkF m 59 #[.val (.int p0), .val (.long q1), .second, .val (.int p2), .val (.int p3), .val (.int v3), .val (.long v9), .second, .val (.int v15), .unset, .unset, .unset, .unset, .unset, .unset, .unset] [])) t → P t := fun t k => pre16 t (by
      show Steps p.tables e below (T16.setTop (mkF m 57 #[.val (.int p0), .val (.long q1), .second, .val (.int p2), .val (.int p3), .val (.int v3), .val (.long v9), .second, .unset, .unset, .unset, .unset, .unset, .unset, .unset, .unset] [(.int v15)])) _
      refine XS.istore X16.here hx rfl (hb hby at_57) rfl (l' := #[.val (.int p0), .val (.long q1), .second, .val (.int p2), .val (.int p3), .val (.int v3), .val (.long v9), .second, .val (.int v15), .unset, .unset, .unset, .unset, .unset, .unset, .unset]) rfl ?_
      exact k)
  obtain ⟨T18, h18, X18, e18, E18, A18, D18, -, st18⟩ := newO X16 hx hZ hown (hw _ (List.mem_of_getElem? (i := 6) rfl)) (hw _ (List.mem_of_getElem? (i := 7) rfl)) (hw _ (List.mem_of_getElem? (i := 8) rfl)) e16 (g := (mkF m 59 #[.val (.int p0), .val (.long q1), .second, .val (.int p2), .val (.int p3), .val (.int v3), .val (.long v9), .second, .val (.int v15), .unset, .unset, .unset, .unset, .unset, .unset, .unset] [])) rfl (hb hby at_59) (by decide) (by decide)
  obtain ⟨b18, g18⟩ : ∃ z, z = h0.size := ⟨_, rfl⟩
  have g_b18 : n0 ≤ b18 := Nat.le_trans Z0 (Nat.le_of_eq g18.symm)
  have sz_b18 : h0.size ≤ b18 := Nat.le_trans K0.1 (Nat.le_of_eq g18.symm)
  rw [← g18] at A18 D18 st18
  have pre18 : ∀ t, Steps p.tables e below (T18.setTop (mkF m 62 #[.val (.int p0), .val (.long q1), .second, .val (.int p2), .val (.int p3), .val (.int v3), .val (.long v9), .second, .val (.int v15), .unset, .unset, .unset, .unset, .unset, .unset, .unset] [(.ref b18)])) t → P t := fun t k => pre17 t (st18 _ k)
  have c19 : n0 ≤ h18.size := Nat.le_trans Z0 E18.1
  have K20 : Keep h0 h18 [] := K0.ext E18
  have F18_maxAttempts : Fld Z h18 b18 "com/example/xmax/xmax/retry/RetryPolicy" "maxAttempts" "I" (.int (0 : Int32)) := D18 (Or.inr (hw _ (List.mem_of_getElem? (i := 16) rfl))) (ty := .int) (by decide)
  have F18_retryDelayMillis : Fld Z h18 b18 "com/example/xmax/xmax/retry/RetryPolicy" "retryDelayMillis" "J" (.long (0 : Int64)) := D18 (Or.inr (hw _ (List.mem_of_getElem? (i := 18) rfl))) (ty := .long) (by decide)
  have pre21 : ∀ t, Steps p.tables e below (T18.setTop (mkF m 67 #[.val (.int p0), .val (.long q1), .second, .val (.int p2), .val (.int p3), .val (.int v3), .val (.long v9), .second, .val (.int v15), .unset, .unset, .unset, .unset, .unset, .unset, .unset] [(.long v9), (.int v3), (.ref b18), (.ref b18)])) t → P t := fun t k => pre18 t (by
      show Steps p.tables e below (T18.setTop (mkF m 62 #[.val (.int p0), .val (.long q1), .second, .val (.int p2), .val (.int p3), .val (.int v3), .val (.long v9), .second, .val (.int v15), .unset, .unset, .unset, .unset, .unset, .unset, .unset] [(.ref b18)])) _
      refine XS.dup X18.here hx rfl (hb hby at_62) rfl rfl ?_
      show Steps p.tables e below (T18.setTop (mkF m 63 #[.val (.int p0), .val (.long q1), .second, .val (.int p2), .val (.int p3), .val (.int v3), .val (.long v9), .second, .val (.int v15), .unset, .unset, .unset, .unset, .unset, .unset, .unset] [(.ref b18), (.ref b18)])) _
      refine XS.iload X18.here hx rfl (hb hby at_63) rfl ?_
      show Steps p.tables e below (T18.setTop (mkF m 65 #[.val (.int p0), .val (.long q1), .second, .val (.int p2), .val (.int p3), .val (.int v3), .val (.long v9), .second, .val (.int v15), .unset, .unset, .unset, .unset, .unset, .unset, .unset] [(.int v3), (.ref b18), (.ref b18)])) _
      refine XS.lload X18.here hx rfl (hb hby at_65) rfl ?_
      exact k)
  obtain ⟨_, _, ⟨T22, L22, k22, n22⟩, -, X22, ⟨Lc22, hQ22, l22, y22, z22⟩, st22⟩ := X18.specialBack hx (y := (⟨"com/example/xmax/xmax/retry/RetryPolicy", "<init>", "(IJ)V"⟩ : MethodName)) rfl hown (mvT hZ (hw _ (List.mem_of_getElem? (i := 9) rfl))) (mvT hZ (hw _ (List.mem_of_getElem? (i := 10) rfl))) (mvT hZ (hw _ (List.mem_of_getElem? (i := 11) rfl))) (by decide) (backOf (W := 1) (rm2 l Z a0 hw [] b18 v3 v9 h18 n0 c19 A18 F18_maxAttempts F18_retryDelayMillis g_b18 (by subst hv3; exact own_max1 _) (by subst hv9; exact own_nn _ _)) hZ (hw _ (List.mem_of_getElem? (i := 11) rfl)) (hw _ (List.mem_of_getElem? (i := 8) rfl)) (by decide) (by decide)) (g := (mkF m 67 #[.val (.int p0), .val (.long q1), .second, .val (.int p2), .val (.int p3), .val (.int v3), .val (.long v9), .second, .val (.int v15), .unset, .unset, .unset, .unset, .unset, .unset, .unset] [(.long v9), (.int v3), (.ref b18), (.ref b18)])) rfl (by rw [hml]; rfl) (Steps.refl _) (a := b18) (argsL := [(.int v3), (.long v9)]) (rest := [(.ref b18)]) (lenOf own_pd3 rfl) rfl (by show 2 * 0 + _ ≤ _; exact Nat.le_of_eq rfl) (hb hby at_67) (fun _ _ => ⟨rfl, e18, (by decide : 1 + 0 ≤ _), (by decide : 2 + 0 ≤ _)⟩)
  dsimp only [Pt.U, Pt.locs, Pt.cells, Pt.slots] at X22 l22 y22 z22 st22 hQ22
  subst l22 y22 z22
  obtain ⟨rfl, N22q, K22, EE22, FF22_0, FF22_1⟩ := hQ22
  have c23 : n0 ≤ T22.heap.size := Nat.le_trans c19 K22.1
  have c24 : Exa Z T22.heap b18 "com/example/xmax/xmax/retry/RetryPolicy" := A18.keep K22
  have K25 : Keep h0 T22.heap [] := K20.trans K22 (allS (P := fun x => x ∈ ([] : List Addr) ∨ h0.size ≤ x) (Or.inr sz_b18) all0)
  have N22 := Fr.app N16 N22q
  have pre22 : ∀ t, Steps p.tables e below (T22.setTop (mkF m 70 #[.val (.int p0), .val (.long q1), .second, .val (.int p2), .val (.int p3), .val (.int v3), .val (.long v9), .second, .val (.int v15), .unset, .unset, .unset, .unset, .unset, .unset, .unset] [(.ref b18)])) t → P t := fun t k => pre21 t (st22.trans k)
  have pre26 : ∀ t, Steps p.tables e below (T22.setTop (mkF m 75 #[.val (.int p0), .val (.long q1), .second, .val (.int p2), .val (.int p3), .val (.int v3), .val (.long v9), .second, .val (.int v15), .val (.ref b18), .unset, .unset, .unset, .unset, .unset, .unset] [(.int (1 : Int32)), (.ref b18)])) t → P t := fun t k => pre22 t (by
      show Steps p.tables e below (T22.setTop (mkF m 70 #[.val (.int p0), .val (.long q1), .second, .val (.int p2), .val (.int p3), .val (.int v3), .val (.long v9), .second, .val (.int v15), .unset, .unset, .unset, .unset, .unset, .unset, .unset] [(.ref b18)])) _
      refine XS.astore X22.here hx rfl (hb hby at_70) rfl rfl (l' := #[.val (.int p0), .val (.long q1), .second, .val (.int p2), .val (.int p3), .val (.int v3), .val (.long v9), .second, .val (.int v15), .val (.ref b18), .unset, .unset, .unset, .unset, .unset, .unset]) rfl ?_
      show Steps p.tables e below (T22.setTop (mkF m 72 #[.val (.int p0), .val (.long q1), .second, .val (.int p2), .val (.int p3), .val (.int v3), .val (.long v9), .second, .val (.int v15), .val (.ref b18), .unset, .unset, .unset, .unset, .unset, .unset] [])) _
      refine XS.aload X22.here hx rfl (hb hby at_72) rfl rfl ?_
      show Steps p.tables e below (T22.setTop (mkF m 74 #[.val (.int p0), .val (.long q1), .second, .val (.int p2), .val (.int p3), .val (.int v3), .val (.long v9), .second, .val (.int v15), .val (.ref b18), .unset, .unset, .unset, .unset, .unset, .unset] [(.ref b18)])) _
      refine XS.iconst X22.here hx rfl (hb hby at_74) ?_
      exact k)
  obtain ⟨cq27, kq27, q27a, q27b, q27c⟩ := isOf hZ rfl EE22
  obtain ⟨_, _, ⟨T27, L27, k27, n27⟩, -, X27, ⟨Lc27, hQ27, l27, y27, z27⟩, st27⟩ := X22.virtualBack hx (y := (⟨"com/example/xmax/xmax/retry/RetryPolicy", "delayMillisAfter", "(I)J"⟩ : MethodName)) (z := (⟨"com/example/xmax/xmax/retry/RetryPolicy", "delayMillisAfter", "(I)J"⟩ : MethodName)) hown (mvT hZ (hw _ (List.mem_of_getElem? (i := 19) rfl))) (mvT hZ (hw _ (List.mem_of_getElem? (i := 20) rfl))) (notFace_of_selects (args := #[]) (mvT hZ (hw _ (List.mem_of_getElem? (i := 22) rfl)))) (mvT hZ (hw _ (List.mem_of_getElem? (i := 22) rfl))) (mvT hZ (hw _ (List.mem_of_getElem? (i := 21) rfl))) (by decide) (backOf (W := 0) (rm4 l Z a0 hw [] b18 (1 : Int32) v9 T22.heap n0 c23 FF22_1 (by decide)) hZ (hw _ (List.mem_of_getElem? (i := 23) rfl)) (hw _ (List.mem_of_getElem? (i := 8) rfl)) (by decide) (by decide)) q27a q27c (g := (mkF m 75 #[.val (.int p0), .val (.long q1), .second, .val (.int p2), .val (.int p3), .val (.int v3), .val (.long v9), .second, .val (.int v15), .val (.ref b18), .unset, .unset, .unset, .unset, .unset, .unset] [(.int (1 : Int32)), (.ref b18)])) rfl (by rw [hml]; rfl) (Steps.refl _) (argsL := [(.int (1 : Int32))]) (rest := []) (lenOf own_pd4 rfl) rfl (by show 2 * 0 + _ ≤ _; exact Nat.le_of_eq rfl) (hb hby at_75) (fun _ _ => ⟨rfl, rfl, (by decide : 1 + 0 ≤ _), (by decide : 2 + 0 ≤ _)⟩)
  dsimp only [Pt.U, Pt.locs, Pt.cells, Pt.slots] at X27 l27 y27 z27 st27 hQ27
  subst l27 y27 z27
  obtain ⟨rfl, N27q, e27⟩ := hQ27
  have N27 := Fr.app N22 N27q
  have pre27 : ∀ t, Steps p.tables e below (T27.setTop (mkF m 78 #[.val (.int p0), .val (.long q1), .second, .val (.int p2), .val (.int p3), .val (.int v3), .val (.long v9), .second, .val (.int v15), .val (.ref b18), .unset, .unset, .unset, .unset, .unset, .unset] [(.long (own_f4 (1 : Int32) v9))])) t → P t := fun t k => pre26 t (st27.trans k)
  obtain ⟨v28, hv28⟩ : ∃ z : Int64, z = (own_f4 (1 : Int32) v9) := ⟨_, rfl⟩
  have pre29 : ∀ t, Steps p.tables e below (T27.setTop (mkF m 78 #[.val (.int p0), .val (.long q1), .second, .val (.int p2), .val (.int p3), .val (.int v3), .val (.long v9), .second, .val (.int v15), .val (.ref b18), .unset, .unset, .unset, .unset, .unset, .unset] [(.long v28)])) t → P t := fun t k => pre27 t (by subst hv28; exact k)
  have pre30 : ∀ t, Steps p.tables e below (T27.setTop (mkF m 84 #[.val (.int p0), .val (.long q1), .second, .val (.int p2), .val (.int p3), .val (.int v3), .val (.long v9), .second, .val (.int v15), .val (.ref b18), .val (.long v28), .second, .unset, .unset, .unset, .unset] [(.int v15), (.ref b18)])) t → P t := fun t k => pre29 t (by
      show Steps p.tables e below (T27.setTop (mkF m 78 #[.val (.int p0), .val (.long q1), .second, .val (.int p2), .val (.int p3), .val (.int v3), .val (.long v9), .second, .val (.int v15), .val (.ref b18), .unset, .unset, .unset, .unset, .unset, .unset] [(.long v28)])) _
      refine XS.lstore X27.here hx rfl (hb hby at_78) rfl (l' := #[.val (.int p0), .val (.long q1), .second, .val (.int p2), .val (.int p3), .val (.int v3), .val (.long v9), .second, .val (.int v15), .val (.ref b18), .val (.long v28), .second, .unset, .unset, .unset, .unset]) rfl ?_
      show Steps p.tables e below (T27.setTop (mkF m 80 #[.val (.int p0), .val (.long q1), .second, .val (.int p2), .val (.int p3), .val (.int v3), .val (.long v9), .second, .val (.int v15), .val (.ref b18), .val (.long v28), .second, .unset, .unset, .unset, .unset] [])) _
      refine XS.aload X27.here hx rfl (hb hby at_80) rfl rfl ?_
      show Steps p.tables e below (T27.setTop (mkF m 82 #[.val (.int p0), .val (.long q1), .second, .val (.int p2), .val (.int p3), .val (.int v3), .val (.long v9), .second, .val (.int v15), .val (.ref b18), .val (.long v28), .second, .unset, .unset, .unset, .unset] [(.ref b18)])) _
      refine XS.iload X27.here hx rfl (hb hby at_82) rfl ?_
      exact k)
  obtain ⟨cq31, kq31, q31a, q31b, q31c⟩ := isOf hZ e27 EE22
  obtain ⟨_, _, ⟨T31, L31, k31, n31⟩, -, X31, ⟨Lc31, hQ31, l31, y31, z31⟩, st31⟩ := X27.virtualBack hx (y := (⟨"com/example/xmax/xmax/retry/RetryPolicy", "delayMillisAfter", "(I)J"⟩ : MethodName)) (z := (⟨"com/example/xmax/xmax/retry/RetryPolicy", "delayMillisAfter", "(I)J"⟩ : MethodName)) hown (mvT hZ (hw _ (List.mem_of_getElem? (i := 19) rfl))) (mvT hZ (hw _ (List.mem_of_getElem? (i := 20) rfl))) (notFace_of_selects (args := #[]) (mvT hZ (hw _ (List.mem_of_getElem? (i := 22) rfl)))) (mvT hZ (hw _ (List.mem_of_getElem? (i := 22) rfl))) (mvT hZ (hw _ (List.mem_of_getElem? (i := 21) rfl))) (by decide) (backOf (W := 0) (rm4 l Z a0 hw [] b18 v15 v9 T22.heap n0 c23 FF22_1 (by subst hv15; exact own_n1 _ _)) hZ (hw _ (List.mem_of_getElem? (i := 23) rfl)) (hw _ (List.mem_of_getElem? (i := 8) rfl)) (by decide) (by decide)) q31a q31c (g := (mkF m 84 #[.val (.int p0), .val (.long q1), .second, .val (.int p2), .val (.int p3), .val (.int v3), .val (.long v9), .second, .val (.int v15), .val (.ref b18), .val (.long v28), .second, .unset, .unset, .unset, .unset] [(.int v15), (.ref b18)])) rfl (by rw [hml]; rfl) (Steps.refl _) (argsL := [(.int v15)]) (rest := []) (lenOf own_pd4 rfl) rfl (by show 2 * 0 + _ ≤ _; exact Nat.le_of_eq rfl) (hb hby at_84) (fun _ _ => ⟨rfl, e27, (by decide : 1 + 0 ≤ _), (by decide : 2 + 0 ≤ _)⟩)
  dsimp only [Pt.U, Pt.locs, Pt.cells, Pt.slots] at X31 l31 y31 z31 st31 hQ31
  subst l31 y31 z31
  obtain ⟨rfl, N31q, e31⟩ := hQ31
  have N31 := Fr.app N27 N31q
  have pre31 : ∀ t, Steps p.tables e below (T31.setTop (mkF m 87 #[.val (.int p0), .val (.long q1), .second, .val (.int p2), .val (.int p3), .val (.int v3), .val (.long v9), .second, .val (.int v15), .val (.ref b18), .val (.long v28), .second, .unset, .unset, .unset, .unset] [(.long (own_f4 v15 v9))])) t → P t := fun t k => pre30 t (st31.trans k)
  obtain ⟨v32, hv32⟩ : ∃ z : Int64, z = (own_f4 v15 v9) := ⟨_, rfl⟩
  have pre33 : ∀ t, Steps p.tables e below (T31.setTop (mkF m 87 #[.val (.int p0), .val (.long q1), .second, .val (.int p2), .val (.int p3), .val (.int v3), .val (.long v9), .second, .val (.int v15), .val (.ref b18), .val (.long v28), .second, .unset, .unset, .unset, .unset] [(.long v32)])) t → P t := fun t k => pre31 t (by subst hv32; exact k)
  have pre34 : ∀ t, Steps p.tables e below (T31.setTop (mkF m 95 #[.val (.int p0), .val (.long q1), .second, .val (.int p2), .val (.int p3), .val (.int v3), .val (.long v9), .second, .val (.int v15), .val (.ref b18), .val (.long v28), .second, .val (.long v32), .second, .unset, .unset] [(.int (v15 + (1 : Int32))), (.ref b18)])) t → P t := fun t k => pre33 t (by
      show Steps p.tables e below (T31.setTop (mkF m 87 #[.val (.int p0), .val (.long q1), .second, .val (.int p2), .val (.int p3), .val (.int v3), .val (.long v9), .second, .val (.int v15), .val (.ref b18), .val (.long v28), .second, .unset, .unset, .unset, .unset] [(.long v32)])) _
      refine XS.lstore X31.here hx rfl (hb hby at_87) rfl (l' := #[.val (.int p0), .val (.long q1), .second, .val (.int p2), .val (.int p3), .val (.int v3), .val (.long v9), .second, .val (.int v15), .val (.ref b18), .val (.long v28), .second, .val (.long v32), .second, .unset, .unset]) rfl ?_
      show Steps p.tables e below (T31.setTop (mkF m 89 #[.val (.int p0), .val (.long q1), .second, .val (.int p2), .val (.int p3), .val (.int v3), .val (.long v9), .second, .val (.int v15), .val (.ref b18), .val (.long v28), .second, .val (.long v32), .second, .unset, .unset] [])) _
      refine XS.aload X31.here hx rfl (hb hby at_89) rfl rfl ?_
      show Steps p.tables e below (T31.setTop (mkF m 91 #[.val (.int p0), .val (.long q1), .second, .val (.int p2), .val (.int p3), .val (.int v3), .val (.long v9), .second, .val (.int v15), .val (.ref b18), .val (.long v28), .second, .val (.long v32), .second, .unset, .unset] [(.ref b18)])) _
      refine XS.iload X31.here hx rfl (hb hby at_91) rfl ?_
      show Steps p.tables e below (T31.setTop (mkF m 93 #[.val (.int p0), .val (.long q1), .second, .val (.int p2), .val (.int p3), .val (.int v3), .val (.long v9), .second, .val (.int v15), .val (.ref b18), .val (.long v28), .second, .val (.long v32), .second, .unset, .unset] [(.int v15), (.ref b18)])) _
      refine XS.iconst X31.here hx rfl (hb hby at_93) ?_
      show Steps p.tables e below (T31.setTop (mkF m 94 #[.val (.int p0), .val (.long q1), .second, .val (.int p2), .val (.int p3), .val (.int v3), .val (.long v9), .second, .val (.int v15), .val (.ref b18), .val (.long v28), .second, .val (.long v32), .second, .unset, .unset] [(.int (1 : Int32)), (.int v15), (.ref b18)])) _
      refine XS.iadd X31.here hx rfl (hb hby at_94) rfl ?_
      exact k)
  obtain ⟨cq35, kq35, q35a, q35b, q35c⟩ := isOf hZ e31 EE22
  obtain ⟨_, _, ⟨T35, L35, k35, n35⟩, -, X35, ⟨Lc35, hQ35, l35, y35, z35⟩, st35⟩ := X31.virtualBack hx (y := (⟨"com/example/xmax/xmax/retry/RetryPolicy", "delayMillisAfter", "(I)J"⟩ : MethodName)) (z := (⟨"com/example/xmax/xmax/retry/RetryPolicy", "delayMillisAfter", "(I)J"⟩ : MethodName)) hown (mvT hZ (hw _ (List.mem_of_getElem? (i := 19) rfl))) (mvT hZ (hw _ (List.mem_of_getElem? (i := 20) rfl))) (notFace_of_selects (args := #[]) (mvT hZ (hw _ (List.mem_of_getElem? (i := 22) rfl)))) (mvT hZ (hw _ (List.mem_of_getElem? (i := 22) rfl))) (mvT hZ (hw _ (List.mem_of_getElem? (i := 21) rfl))) (by decide) (backOf (W := 0) (rm4 l Z a0 hw [] b18 (v15 + (1 : Int32)) v9 T22.heap n0 c23 FF22_1 (by subst hv15; exact own_n2 _ _)) hZ (hw _ (List.mem_of_getElem? (i := 23) rfl)) (hw _ (List.mem_of_getElem? (i := 8) rfl)) (by decide) (by decide)) q35a q35c (g := (mkF m 95 #[.val (.int p0), .val (.long q1), .second, .val (.int p2), .val (.int p3), .val (.int v3), .val (.long v9), .second, .val (.int v15), .val (.ref b18), .val (.long v28), .second, .val (.long v32), .second, .unset, .unset] [(.int (v15 + (1 : Int32))), (.ref b18)])) rfl (by rw [hml]; rfl) (Steps.refl _) (argsL := [(.int (v15 + (1 : Int32)))]) (rest := []) (lenOf own_pd4 rfl) rfl (by show 2 * 0 + _ ≤ _; exact Nat.le_of_eq rfl) (hb hby at_95) (fun _ _ => ⟨rfl, e31, (by decide : 1 + 0 ≤ _), (by decide : 2 + 0 ≤ _)⟩)
  dsimp only [Pt.U, Pt.locs, Pt.cells, Pt.slots] at X35 l35 y35 z35 st35 hQ35
  subst l35 y35 z35
  obtain ⟨rfl, N35q, e35⟩ := hQ35
  have N35 := Fr.app N31 N35q
  have pre35 : ∀ t, Steps p.tables e below (T35.setTop (mkF m 98 #[.val (.int p0), .val (.long q1), .second, .val (.int p2), .val (.int p3), .val (.int v3), .val (.long v9), .second, .val (.int v15), .val (.ref b18), .val (.long v28), .second, .val (.long v32), .second, .unset, .unset] [(.long (own_f4 (v15 + (1 : Int32)) v9))])) t → P t := fun t k => pre34 t (st35.trans k)
  obtain ⟨v36, hv36⟩ : ∃ z : Int64, z = (own_f4 (v15 + (1 : Int32)) v9) := ⟨_, rfl⟩
  have pre37 : ∀ t, Steps p.tables e below (T35.setTop (mkF m 98 #[.val (.int p0), .val (.long q1), .second, .val (.int p2), .val (.int p3), .val (.int v3), .val (.long v9), .second, .val (.int v15), .val (.ref b18), .val (.long v28), .second, .val (.long v32), .second, .unset, .unset] [(.long v36)])) t → P t := fun t k => pre35 t (by subst hv36; exact k)
  have pre38 : ∀ t, Steps p.tables e below (T35.setTop (mkF m 105 #[.val (.int p0), .val (.long q1), .second, .val (.int p2), .val (.int p3), .val (.int v3), .val (.long v9), .second, .val (.int v15), .val (.ref b18), .val (.long v28), .second, .val (.long v32), .second, .val (.long v36), .second] [(.int (lcmpW v28 v9))])) t → P t := fun t k => pre37 t (by
      show Steps p.tables e below (T35.setTop (mkF m 98 #[.val (.int p0), .val (.long q1), .second, .val (.int p2), .val (.int p3), .val (.int v3), .val (.long v9), .second, .val (.int v15), .val (.ref b18), .val (.long v28), .second, .val (.long v32), .second, .unset, .unset] [(.long v36)])) _
      refine XS.lstore X35.here hx rfl (hb hby at_98) rfl (l' := #[.val (.int p0), .val (.long q1), .second, .val (.int p2), .val (.int p3), .val (.int v3), .val (.long v9), .second, .val (.int v15), .val (.ref b18), .val (.long v28), .second, .val (.long v32), .second, .val (.long v36), .second]) rfl ?_
      show Steps p.tables e below (T35.setTop (mkF m 100 #[.val (.int p0), .val (.long q1), .second, .val (.int p2), .val (.int p3), .val (.int v3), .val (.long v9), .second, .val (.int v15), .val (.ref b18), .val (.long v28), .second, .val (.long v32), .second, .val (.long v36), .second] [])) _
      refine XS.lload X35.here hx rfl (hb hby at_100) rfl ?_
      show Steps p.tables e below (T35.setTop (mkF m 102 #[.val (.int p0), .val (.long q1), .second, .val (.int p2), .val (.int p3), .val (.int v3), .val (.long v9), .second, .val (.int v15), .val (.ref b18), .val (.long v28), .second, .val (.long v32), .second, .val (.long v36), .second] [(.long v28)])) _
      refine XS.lload X35.here hx rfl (hb hby at_102) rfl ?_
      show Steps p.tables e below (T35.setTop (mkF m 104 #[.val (.int p0), .val (.long q1), .second, .val (.int p2), .val (.int p3), .val (.int v3), .val (.long v9), .second, .val (.int v15), .val (.ref b18), .val (.long v28), .second, .val (.long v32), .second, .val (.long v36), .second] [(.long v9), (.long v28)])) _
      refine XS.lcmp X35.here hx rfl (hb hby at_104) rfl ?_
      exact k)
  obtain ⟨T56, L56, v55, X56, e56, N56, hv55, pre56⟩ : ∃ (T' : State) (L' : List Loc) (v55 : Int32), Stand p l e room_1 s m #[(.int p0), (.long q1), (.int p2), (.int p3)] below meth c T' L' 1 2 ∧ T'.heap = T22.heap ∧ Fr n0 L' ∧ v55 = (if v28 = v9 then (if v32 < (0 : Int64) then (0 : Int32) else (if v36 < (0 : Int64) then (0 : Int32) else (let v48 : Int64 := (own_f7 v32); (if v36 = v48 then (1 : Int32) else (0 : Int32))))) else (0 : Int32)) ∧ (∀ t, Steps p.tables e below (T'.setTop (mkF m 138 #[.val (.int p0), .val (.long q1), .second, .val (.int p2), .val (.int p3), .val (.int v3), .val (.long v9), .second, .val (.int v15), .val (.ref b18), .val (.long v28), .second, .val (.long v32), .second, .val (.long v36), .second] [(.int v55)])) t → P t) := by
    by_cases hc39 : v28 = v9
    · have pre40 : ∀ t, Steps p.tables e below (T35.setTop (mkF m 112 #[.val (.int p0), .val (.long q1), .second, .val (.int p2), .val (.int p3), .val (.int v3), .val (.long v9), .second, .val (.int v15), .val (.ref b18), .val (.long v28), .second, .val (.long v32), .second, .val (.long v36), .second] [(.int (lcmpW v32 (0 : Int64)))])) t → P t := fun t k => pre38 t (by
          show Steps p.tables e below (T35.setTop (mkF m 105 #[.val (.int p0), .val (.long q1), .second, .val (.int p2), .val (.int p3), .val (.int v3), .val (.long v9), .second, .val (.int v15), .val (.ref b18), .val (.long v28), .second, .val (.long v32), .second, .val (.long v36), .second] [(.int (lcmpW v28 v9))])) _
          refine XS.ifNo X35.here hx rfl (hb hby at_105) rfl ((if0 _ _).trans (teq ((lw_eq _ _).mpr hc39)).2) ?_
          show Steps p.tables e below (T35.setTop (mkF m 108 #[.val (.int p0), .val (.long q1), .second, .val (.int p2), .val (.int p3), .val (.int v3), .val (.long v9), .second, .val (.int v15), .val (.ref b18), .val (.long v28), .second, .val (.long v32), .second, .val (.long v36), .second] [])) _
          refine XS.lload X35.here hx rfl (hb hby at_108) rfl ?_
          show Steps p.tables e below (T35.setTop (mkF m 110 #[.val (.int p0), .val (.long q1), .second, .val (.int p2), .val (.int p3), .val (.int v3), .val (.long v9), .second, .val (.int v15), .val (.ref b18), .val (.long v28), .second, .val (.long v32), .second, .val (.long v36), .second] [(.long v32)])) _
          refine XS.lconst X35.here hx rfl (hb hby at_110) ?_
          show Steps p.tables e below (T35.setTop (mkF m 111 #[.val (.int p0), .val (.long q1), .second, .val (.int p2), .val (.int p3), .val (.int v3), .val (.long v9), .second, .val (.int v15), .val (.ref b18), .val (.long v28), .second, .val (.long v32), .second, .val (.long v36), .second] [(.long (0 : Int64)), (.long v32)])) _
          refine XS.lcmp X35.here hx rfl (hb hby at_111) rfl ?_
          exact k)
      by_cases hc41 : v32 < (0 : Int64)
      · have pre42 : ∀ t, Steps p.tables e below (T35.setTop (mkF m 138 #[.val (.int p0), .val (.long q1), .second, .val (.int p2), .val (.int p3), .val (.int v3), .val (.long v9), .second, .val (.int v15), .val (.ref b18), .val (.long v28), .second, .val (.long v32), .second, .val (.long v36), .second] [(.int (0 : Int32))])) t → P t := fun t k => pre40 t (by
            show Steps p.tables e below (T35.setTop (mkF m 112 #[.val (.int p0), .val (.long q1), .second, .val (.int p2), .val (.int p3), .val (.int v3), .val (.long v9), .second, .val (.int v15), .val (.ref b18), .val (.long v28), .second, .val (.long v32), .second, .val (.long v36), .second] [(.int (lcmpW v32 (0 : Int64)))])) _
            refine XS.ifYes X35.here hx rfl (pc0 := 112) (pc' := 137) rfl (hb hby at_112) rfl ((if0 _ _).trans (tlt ((lw_lt _ _).mpr hc41)).1) (by decide) (by decide) ?_
            show Steps p.tables e below (T35.setTop (mkF m 137 #[.val (.int p0), .val (.long q1), .second, .val (.int p2), .val (.int p3), .val (.int v3), .val (.long v9), .second, .val (.int v15), .val (.ref b18), .val (.long v28), .second, .val (.long v32), .second, .val (.long v36), .second] [])) _
            refine XS.iconst X35.here hx rfl (hb hby at_137) ?_
            exact k)
        exact ⟨_, _, (0 : Int32), X35, e35, N35, (by first | (rw [if_pos hc39, if_pos hc41]; done) | simp only [if_pos hc39, if_pos hc41] | simp [if_pos hc39, if_pos hc41]), pre42⟩
      · have pre43 : ∀ t, Steps p.tables e below (T35.setTop (mkF m 119 #[.val (.int p0), .val (.long q1), .second, .val (.int p2), .val (.int p3), .val (.int v3), .val (.long v9), .second, .val (.int v15), .val (.ref b18), .val (.long v28), .second, .val (.long v32), .second, .val (.long v36), .second] [(.int (lcmpW v36 (0 : Int64)))])) t → P t := fun t k => pre40 t (by
            show Steps p.tables e below (T35.setTop (mkF m 112 #[.val (.int p0), .val (.long q1), .second, .val (.int p2), .val (.int p3), .val (.int v3), .val (.long v9), .second, .val (.int v15), .val (.ref b18), .val (.long v28), .second, .val (.long v32), .second, .val (.long v36), .second] [(.int (lcmpW v32 (0 : Int64)))])) _
            refine XS.ifNo X35.here hx rfl (hb hby at_112) rfl ((if0 _ _).trans (flt (fun q => hc41 ((lw_lt _ _).mp q))).1) ?_
            show Steps p.tables e below (T35.setTop (mkF m 115 #[.val (.int p0), .val (.long q1), .second, .val (.int p2), .val (.int p3), .val (.int v3), .val (.long v9), .second, .val (.int v15), .val (.ref b18), .val (.long v28), .second, .val (.long v32), .second, .val (.long v36), .second] [])) _
            refine XS.lload X35.here hx rfl (hb hby at_115) rfl ?_
            show Steps p.tables e below (T35.setTop (mkF m 117 #[.val (.int p0), .val (.long q1), .second, .val (.int p2), .val (.int p3), .val (.int v3), .val (.long v9), .second, .val (.int v15), .val (.ref b18), .val (.long v28), .second, .val (.long v32), .second, .val (.long v36), .second] [(.long v36)])) _
            refine XS.lconst X35.here hx rfl (hb hby at_117) ?_
            show Steps p.tables e below (T35.setTop (mkF m 118 #[.val (.int p0), .val (.long q1), .second, .val (.int p2), .val (.int p3), .val (.int v3), .val (.long v9), .second, .val (.int v15), .val (.ref b18), .val (.long v28), .second, .val (.long v32), .second, .val (.long v36), .second] [(.long (0 : Int64)), (.long v36)])) _
            refine XS.lcmp X35.here hx rfl (hb hby at_118) rfl ?_
            exact k)
        by_cases hc44 : v36 < (0 : Int64)
        · have pre45 : ∀ t, Steps p.tables e below (T35.setTop (mkF m 138 #[.val (.int p0), .val (.long q1), .second, .val (.int p2), .val (.int p3), .val (.int v3), .val (.long v9), .second, .val (.int v15), .val (.ref b18), .val (.long v28), .second, .val (.long v32), .second, .val (.long v36), .second] [(.int (0 : Int32))])) t → P t := fun t k => pre43 t (by
              show Steps p.tables e below (T35.setTop (mkF m 119 #[.val (.int p0), .val (.long q1), .second, .val (.int p2), .val (.int p3), .val (.int v3), .val (.long v9), .second, .val (.int v15), .val (.ref b18), .val (.long v28), .second, .val (.long v32), .second, .val (.long v36), .second] [(.int (lcmpW v36 (0 : Int64)))])) _
              refine XS.ifYes X35.here hx rfl (pc0 := 119) (pc' := 137) rfl (hb hby at_119) rfl ((if0 _ _).trans (tlt ((lw_lt _ _).mpr hc44)).1) (by decide) (by decide) ?_
              show Steps p.tables e below (T35.setTop (mkF m 137 #[.val (.int p0), .val (.long q1), .second, .val (.int p2), .val (.int p3), .val (.int v3), .val (.long v9), .second, .val (.int v15), .val (.ref b18), .val (.long v28), .second, .val (.long v32), .second, .val (.long v36), .second] [])) _
              refine XS.iconst X35.here hx rfl (hb hby at_137) ?_
              exact k)
          exact ⟨_, _, (0 : Int32), X35, e35, N35, (by first | (rw [if_pos hc39, if_neg hc41, if_pos hc44]; done) | simp only [if_pos hc39, if_neg hc41, if_pos hc44] | simp [if_pos hc39, if_neg hc41, if_pos hc44]), pre45⟩
        · have pre46 : ∀ t, Steps p.tables e below (T35.setTop (mkF m 126 #[.val (.int p0), .val (.long q1), .second, .val (.int p2), .val (.int p3), .val (.int v3), .val (.long v9), .second, .val (.int v15), .val (.ref b18), .val (.long v28), .second, .val (.long v32), .second, .val (.long v36), .second] [(.long v32), (.long v36)])) t → P t := fun t k => pre43 t (by
              show Steps p.tables e below (T35.setTop (mkF m 119 #[.val (.int p0), .val (.long q1), .second, .val (.int p2), .val (.int p3), .val (.int v3), .val (.long v9), .second, .val (.int v15), .val (.ref b18), .val (.long v28), .second, .val (.long v32), .second, .val (.long v36), .second] [(.int (lcmpW v36 (0 : Int64)))])) _
              refine XS.ifNo X35.here hx rfl (hb hby at_119) rfl ((if0 _ _).trans (flt (fun q => hc44 ((lw_lt _ _).mp q))).1) ?_
              show Steps p.tables e below (T35.setTop (mkF m 122 #[.val (.int p0), .val (.long q1), .second, .val (.int p2), .val (.int p3), .val (.int v3), .val (.long v9), .second, .val (.int v15), .val (.ref b18), .val (.long v28), .second, .val (.long v32), .second, .val (.long v36), .second] [])) _
              refine XS.lload X35.here hx rfl (hb hby at_122) rfl ?_
              show Steps p.tables e below (T35.setTop (mkF m 124 #[.val (.int p0), .val (.long q1), .second, .val (.int p2), .val (.int p3), .val (.int v3), .val (.long v9), .second, .val (.int v15), .val (.ref b18), .val (.long v28), .second, .val (.long v32), .second, .val (.long v36), .second] [(.long v36)])) _
              refine XS.lload X35.here hx rfl (hb hby at_124) rfl ?_
              exact k)
          obtain ⟨_, _, ⟨T47, L47, k47, n47⟩, -, X47, ⟨Lc47, hQ47, l47, y47, z47⟩, st47⟩ := Jvm.LawKit.callS X35 hx (y := (⟨"com/example/xmax/xmax/retry/RetryPolicyDelayMillisAfterPinLaw", "saturatingDouble", "(J)J"⟩ : MethodName)) hown (mvT hZ (hw _ (List.mem_of_getElem? (i := 33) rfl))) (mvT hZ (hw _ (List.mem_of_getElem? (i := 34) rfl))) (mvT hZ (hw _ (List.mem_of_getElem? (i := 35) rfl))) (mvT hZ (hw _ (List.mem_of_getElem? (i := 36) rfl))) (by decide) (backOf (W := 2) (rm7 l Z a0 hw [] v32 T22.heap n0 c23 ) hZ (hw _ (List.mem_of_getElem? (i := 36) rfl)) (hw _ (List.mem_of_getElem? (i := 35) rfl)) (by decide) (by decide)) (g := (mkF m 126 #[.val (.int p0), .val (.long q1), .second, .val (.int p2), .val (.int p3), .val (.int v3), .val (.long v9), .second, .val (.int v15), .val (.ref b18), .val (.long v28), .second, .val (.long v32), .second, .val (.long v36), .second] [(.long v32), (.long v36)])) rfl (by rw [hml]; rfl) (argsL := [(.long v32)]) (rest := [(.long v36)]) (lenOf own_pd5 rfl) rfl (by show 2 * 0 + _ ≤ _; exact Nat.le_of_eq rfl) (hb hby at_126) (fun _ _ => ⟨rfl, e35, (by decide : 1 + 0 ≤ _), (by decide : 2 + 0 ≤ _)⟩)
          dsimp only [Pt.U, Pt.locs, Pt.cells, Pt.slots] at X47 l47 y47 z47 st47 hQ47
          subst l47 y47 z47
          obtain ⟨rfl, N47q, e47⟩ := hQ47
          have N47 := Fr.app N35 N47q
          have pre47 : ∀ t, Steps p.tables e below (T47.setTop (mkF m 129 #[.val (.int p0), .val (.long q1), .second, .val (.int p2), .val (.int p3), .val (.int v3), .val (.long v9), .second, .val (.int v15), .val (.ref b18), .val (.long v28), .second, .val (.long v32), .second, .val (.long v36), .second] [(.long (own_f7 v32)), (.long v36)])) t → P t := fun t k => pre46 t (st47 _ k)
          obtain ⟨v48, hv48⟩ : ∃ z : Int64, z = (own_f7 v32) := ⟨_, rfl⟩
          have pre49 : ∀ t, Steps p.tables e below (T47.setTop (mkF m 129 #[.val (.int p0), .val (.long q1), .second, .val (.int p2), .val (.int p3), .val (.int v3), .val (.long v9), .second, .val (.int v15), .val (.ref b18), .val (.long v28), .second, .val (.long v32), .second, .val (.long v36), .second] [(.long v48), (.long v36)])) t → P t := fun t k => pre47 t (by subst hv48; exact k)
          have pre50 : ∀ t, Steps p.tables e below (T47.setTop (mkF m 130 #[.val (.int p0), .val (.long q1), .second, .val (.int p2), .val (.int p3), .val (.int v3), .val (.long v9), .second, .val (.int v15), .val (.ref b18), .val (.long v28), .second, .val (.long v32), .second, .val (.long v36), .second] [(.int (lcmpW v36 v48))])) t → P t := fun t k => pre49 t (by
              show Steps p.tables e below (T47.setTop (mkF m 129 #[.val (.int p0), .val (.long q1), .second, .val (.int p2), .val (.int p3), .val (.int v3), .val (.long v9), .second, .val (.int v15), .val (.ref b18), .val (.long v28), .second, .val (.long v32), .second, .val (.long v36), .second] [(.long v48), (.long v36)])) _
              refine XS.lcmp X47.here hx rfl (hb hby at_129) rfl ?_
              exact k)
          by_cases hc51 : v36 = v48
          · have pre52 : ∀ t, Steps p.tables e below (T47.setTop (mkF m 138 #[.val (.int p0), .val (.long q1), .second, .val (.int p2), .val (.int p3), .val (.int v3), .val (.long v9), .second, .val (.int v15), .val (.ref b18), .val (.long v28), .second, .val (.long v32), .second, .val (.long v36), .second] [(.int (1 : Int32))])) t → P t := fun t k => pre50 t (by
                show Steps p.tables e below (T47.setTop (mkF m 130 #[.val (.int p0), .val (.long q1), .second, .val (.int p2), .val (.int p3), .val (.int v3), .val (.long v9), .second, .val (.int v15), .val (.ref b18), .val (.long v28), .second, .val (.long v32), .second, .val (.long v36), .second] [(.int (lcmpW v36 v48))])) _
                refine XS.ifNo X47.here hx rfl (hb hby at_130) rfl ((if0 _ _).trans (teq ((lw_eq _ _).mpr hc51)).2) ?_
                show Steps p.tables e below (T47.setTop (mkF m 133 #[.val (.int p0), .val (.long q1), .second, .val (.int p2), .val (.int p3), .val (.int v3), .val (.long v9), .second, .val (.int v15), .val (.ref b18), .val (.long v28), .second, .val (.long v32), .second, .val (.long v36), .second] [])) _
                refine XS.iconst X47.here hx rfl (hb hby at_133) ?_
                show Steps p.tables e below (T47.setTop (mkF m 134 #[.val (.int p0), .val (.long q1), .second, .val (.int p2), .val (.int p3), .val (.int v3), .val (.long v9), .second, .val (.int v15), .val (.ref b18), .val (.long v28), .second, .val (.long v32), .second, .val (.long v36), .second] [(.int (1 : Int32))])) _
                refine XS.goto X47.here hx rfl (pc0 := 134) (pc' := 138) rfl (hb hby at_134) (by decide) (by decide) ?_
                exact k)
            exact ⟨_, _, (1 : Int32), X47, e47, N47, (by subst hv48; first | (rw [if_pos hc39, if_neg hc41, if_neg hc44, if_pos hc51]; done) | simp only [if_pos hc39, if_neg hc41, if_neg hc44, if_pos hc51] | simp [if_pos hc39, if_neg hc41, if_neg hc44, if_pos hc51]), pre52⟩
          · have pre53 : ∀ t, Steps p.tables e below (T47.setTop (mkF m 138 #[.val (.int p0), .val (.long q1), .second, .val (.int p2), .val (.int p3), .val (.int v3), .val (.long v9), .second, .val (.int v15), .val (.ref b18), .val (.long v28), .second, .val (.long v32), .second, .val (.long v36), .second] [(.int (0 : Int32))])) t → P t := fun t k => pre50 t (by
                show Steps p.tables e below (T47.setTop (mkF m 130 #[.val (.int p0), .val (.long q1), .second, .val (.int p2), .val (.int p3), .val (.int v3), .val (.long v9), .second, .val (.int v15), .val (.ref b18), .val (.long v28), .second, .val (.long v32), .second, .val (.long v36), .second] [(.int (lcmpW v36 v48))])) _
                refine XS.ifYes X47.here hx rfl (pc0 := 130) (pc' := 137) rfl (hb hby at_130) rfl ((if0 _ _).trans (feq (fun q => hc51 ((lw_eq _ _).mp q))).2) (by decide) (by decide) ?_
                show Steps p.tables e below (T47.setTop (mkF m 137 #[.val (.int p0), .val (.long q1), .second, .val (.int p2), .val (.int p3), .val (.int v3), .val (.long v9), .second, .val (.int v15), .val (.ref b18), .val (.long v28), .second, .val (.long v32), .second, .val (.long v36), .second] [])) _
                refine XS.iconst X47.here hx rfl (hb hby at_137) ?_
                exact k)
            exact ⟨_, _, (0 : Int32), X47, e47, N47, (by subst hv48; first | (rw [if_pos hc39, if_neg hc41, if_neg hc44, if_neg hc51]; done) | simp only [if_pos hc39, if_neg hc41, if_neg hc44, if_neg hc51] | simp [if_pos hc39, if_neg hc41, if_neg hc44, if_neg hc51]), pre53⟩
    · have pre54 : ∀ t, Steps p.tables e below (T35.setTop (mkF m 138 #[.val (.int p0), .val (.long q1), .second, .val (.int p2), .val (.int p3), .val (.int v3), .val (.long v9), .second, .val (.int v15), .val (.ref b18), .val (.long v28), .second, .val (.long v32), .second, .val (.long v36), .second] [(.int (0 : Int32))])) t → P t := fun t k => pre38 t (by
          show Steps p.tables e below (T35.setTop (mkF m 105 #[.val (.int p0), .val (.long q1), .second, .val (.int p2), .val (.int p3), .val (.int v3), .val (.long v9), .second, .val (.int v15), .val (.ref b18), .val (.long v28), .second, .val (.long v32), .second, .val (.long v36), .second] [(.int (lcmpW v28 v9))])) _
          refine XS.ifYes X35.here hx rfl (pc0 := 105) (pc' := 137) rfl (hb hby at_105) rfl ((if0 _ _).trans (feq (fun q => hc39 ((lw_eq _ _).mp q))).2) (by decide) (by decide) ?_
          show Steps p.tables e below (T35.setTop (mkF m 137 #[.val (.int p0), .val (.long q1), .second, .val (.int p2), .val (.int p3), .val (.int v3), .val (.long v9), .second, .val (.int v15), .val (.ref b18), .val (.long v28), .second, .val (.long v32), .second, .val (.long v36), .second] [])) _
          refine XS.iconst X35.here hx rfl (hb hby at_137) ?_
          exact k)
      exact ⟨_, _, (0 : Int32), X35, e35, N35, (by first | (rw [if_neg hc39]; done) | simp only [if_neg hc39] | simp [if_neg hc39]), pre54⟩
  obtain ⟨fs, hr, hrun, hended, hW, hsame⟩ := X56.leave (v := some (.int v55)) (fun h => by rw [Bd.returns] at h; cases h)
  refine ⟨_, _, fin _ (pre56 _ ?_), hrun, hended, _, _, rfl, ?_, ⟨_, rfl⟩, hW, hsame.mono (by decide) (by decide)⟩
  · show Steps p.tables e below (T56.setTop (mkF m 138 #[.val (.int p0), .val (.long q1), .second, .val (.int p2), .val (.int p3), .val (.int v3), .val (.long v9), .second, .val (.int v15), .val (.ref b18), .val (.long v28), .second, .val (.long v32), .second, .val (.long v36), .second] [(.int v55)])) _
    have hnar : nar .boolean v55 = v55 := by subst hv3 hv9 hv15 hv28 hv32 hv36 hv55; first | rfl | (split <;> rfl) | ((try simp only []); (repeat' split) <;> rfl)
    exact retN X56 hx (t := .boolean) Bd.returns (by simp) (hb hby at_138) (by rw [hnar]; exact hr)
  · show Q0 Z p0 q1 p2 p3 h0 n0 _ T56.heap _
    rw [e56]
    exact ⟨(by subst hv3 hv9 hv15 hv28 hv32 hv36 hv55; first | rfl | simp only [own_f0]), N56⟩
def own_St (i : Int) (x n : Int32) (W : Int) (J : Nat) : Prop := ∃ j : Nat, j ≤ J ∧ n.toInt = 31 - (j : Int) ∧ x.toInt * 2 ^ j ≤ i ∧ i < (x.toInt + 1) * 2 ^ j ∧ 1 ≤ x.toInt ∧ x.toInt < W
theorem own_stage {i : Int} {x n : Int32} {J : Nat} {W : Int} (B z s : Int32) (sh : Nat) (hJ : J + sh ≤ 31) (hB : B.toInt = 2 ^ sh) (hW : W ≤ 2 ^ sh * 2 ^ sh) (hz : z.toInt = - (sh : Int)) (hs : s.toBitVec.toNat % 32 = sh) (h0 : 0 < sh) (h : own_St i x n W J) :
    own_St i (if x < B then x else ((x.toUInt32 >>> (s &&& 31).toUInt32).toInt32)) (if x < B then n else (n + z)) (2 ^ sh) (J + sh) := by
  obtain ⟨j, hj, hn, h1, h2, h3, h4⟩ := h
  by_cases c : x < B
  · rw [if_pos c, if_pos c]
    rw [Int32.lt_iff_toInt_lt] at c
    exact ⟨j, by omega, hn, h1, h2, h3, by omega⟩
  · rw [if_neg c, if_neg c]
    rw [Int32.lt_iff_toInt_lt] at c
    have e1 := c_iushr x s sh hs h0
    have e2 := c_iadd n z
    have e3 := rng32 (n + z)
    have hx := rng32 x
    generalize ((x.toUInt32 >>> (s &&& 31).toUInt32).toInt32) = y at *
    have e4 : y.toInt = x.toInt / 2 ^ sh := by
      rw [e1, Int.emod_eq_of_lt (by omega) (by omega)]
      norm_cast
    have hp : (0 : Int) < 2 ^ sh := Int.pow_pos (by decide)
    have hm : (0 : Int) < 2 ^ j := Int.pow_pos (by decide)
    have e5 := Int.mul_ediv_add_emod x.toInt (2 ^ sh)
    have e6 := Int.emod_nonneg x.toInt (show (2 ^ sh : Int) ≠ 0 by omega)
    have e7 := Int.emod_lt_of_pos x.toInt hp
    rw [← e4] at e5
    have e8 : y.toInt * 2 ^ sh ≤ x.toInt := by rw [Int.mul_comm]; omega
    have e9 : x.toInt + 1 ≤ (y.toInt + 1) * 2 ^ sh := by rw [Int.add_mul, Int.mul_comm]; omega
    refine ⟨j + sh, by omega, by omega, ?_, ?_, ?_, ?_⟩
    · have : y.toInt * 2 ^ (j + sh) = y.toInt * 2 ^ sh * 2 ^ j := by rw [Int.pow_add, Int.mul_assoc, Int.mul_comm (2 ^ j)]
      rw [this]
      exact Int.le_trans (Int.mul_le_mul_of_nonneg_right e8 (by omega)) h1
    · have : (y.toInt + 1) * 2 ^ (j + sh) = (y.toInt + 1) * 2 ^ sh * 2 ^ j := by rw [Int.pow_add, Int.mul_assoc, Int.mul_comm (2 ^ j)]
      rw [this]
      exact Int.lt_of_lt_of_le h2 (Int.mul_le_mul_of_nonneg_right e9 (by omega))
    · rw [e4]
      exact Int.le_ediv_of_mul_le hp (by omega)
    · rw [e4]
      exact Int.ediv_lt_of_lt_mul hp (by omega)
theorem own_last {i : Int} {x n : Int32} (hi : i < 2147483648) (h : own_St i x n (2 ^ 2) (0 + 16 + 8 + 4 + 2)) : ∃ k : Nat, k ≤ 30 ∧ (n - ((x.toUInt32 >>> ((1 : Int32) &&& 31).toUInt32).toInt32)).toInt = 31 - (k : Int) ∧ 2 ^ k ≤ i ∧ i < 2 ^ (k + 1) := by
  obtain ⟨j, hj, hn, h1, h2, h3, h4⟩ := h
  have e1 := c_iushr x 1 1 (by decide) (by decide)
  generalize ((x.toUInt32 >>> ((1 : Int32) &&& 31).toUInt32).toInt32) = y at *
  have e2 := c_isub n y
  have e3 := rng32 (n - y)
  have hx := rng32 x
  have hp : (0 : Int) < 2 ^ j := Int.pow_pos (by decide)
  have ep : (2 : Int) ^ (j + 1) = 2 * 2 ^ j := by rw [Int.pow_succ, Int.mul_comm]
  have ep2 : (2 : Int) ^ (j + 1 + 1) = 4 * 2 ^ j := by rw [Int.pow_succ, ep]; omega
  by_cases c1 : x.toInt = 1
  · rw [c1] at h1 h2
    refine ⟨j, ?_, by omega, by omega, by omega⟩
    omega
  · have lo : 2 * 2 ^ j ≤ i := Int.le_trans (Int.mul_le_mul_of_nonneg_right (by omega) (by omega)) h1
    have hi2 : i < 4 * 2 ^ j := Int.lt_of_lt_of_le h2 (Int.mul_le_mul_of_nonneg_right (by omega) (by omega))
    refine ⟨j + 1, ?_, by omega, by omega, by omega⟩
    have : j ≠ 30 := by
      rintro rfl
      have : (2 : Int) ^ 30 = 1073741824 := by decide
      omega
    omega
theorem own_nlz32 (i : Int32) (h : 0 < i.toInt) : ∃ k : Nat, k ≤ 30 ∧ (own_f6 i).toInt = 31 - (k : Int) ∧ 2 ^ k ≤ i.toInt ∧ i.toInt < 2 ^ (k + 1) := by
  have e0 : (0 : Int32).toInt = 0 := by decide
  have c : (0 : Int32) < i := by rw [Int32.lt_iff_toInt_lt]; omega
  unfold own_f6
  rw [if_pos c]
  have hi := rng32 i
  have s0 : own_St i.toInt i 31 2147483648 0 := ⟨0, by omega, by decide, by omega, by omega, by omega, by omega⟩
  have s1 := own_stage (65536 : Int32) (-16) 16 16 (by decide) (by decide) (by decide) (by decide) (by decide) (by decide) s0
  have s2 := own_stage (256 : Int32) (-8) 8 8 (by decide) (by decide) (by decide) (by decide) (by decide) (by decide) s1
  have s3 := own_stage (16 : Int32) (-4) 4 4 (by decide) (by decide) (by decide) (by decide) (by decide) (by decide) s2
  have s4 := own_stage (4 : Int32) (-2) 2 2 (by decide) (by decide) (by decide) (by decide) (by decide) (by decide) s3
  exact own_last (by omega) s4
theorem own_nlz64 (d : Int64) (h : 0 < d.toInt) : ∃ k : Nat, k ≤ 62 ∧ (own_f5 d).toInt = 63 - (k : Int) ∧ 2 ^ k ≤ d.toInt ∧ d.toInt < 2 ^ (k + 1) := by
  have e0 : (0 : Int32).toInt = 0 := by decide
  have e32 : (32 : Int32).toInt = 32 := by decide
  have e1 := c_lushr d 32 32 (by decide) (by decide)
  have hd := rng64 d
  unfold own_f5
  generalize ((d.toUInt64 >>> ((32 : Int32) &&& 0x3f).toInt64.toUInt64).toInt64) = u at *
  have e2 := c_l2i u
  have e3 := rng32 u.toInt32
  generalize u.toInt32 = x at *
  have ex : x.toInt = d.toInt / 4294967296 := by
    have e4 : ((2 ^ 32 : Nat) : Int) = 4294967296 := by decide
    rw [e4] at e1
    omega
  by_cases c : x = 0
  · simp only [c, if_true]
    rw [c] at ex
    have e4 := c_l2i d
    have e5 := rng32 d.toInt32
    by_cases q : d.toInt < 2147483648
    · obtain ⟨k, k1, k2, k3, k4⟩ := own_nlz32 d.toInt32 (by omega)
      have e6 := c_iadd 32 (own_f6 d.toInt32)
      have e7 := rng32 (32 + own_f6 d.toInt32)
      have e8 : d.toInt32.toInt = d.toInt := by omega
      rw [e8] at k3 k4
      exact ⟨k, by omega, by omega, k3, k4⟩
    · have z : own_f6 d.toInt32 = 0 := by
        unfold own_f6
        rw [if_neg (by rw [Int32.lt_iff_toInt_lt]; omega), if_neg (by rw [← Int32.toInt_inj]; omega)]
      rw [z]
      refine ⟨31, by decide, by decide, ?_, ?_⟩
      · have : (2 : Int) ^ 31 = 2147483648 := by decide
        omega
      · have : (2 : Int) ^ (31 + 1) = 4294967296 := by decide
        omega
  · simp only [c, if_false]
    rw [← Int32.toInt_inj] at c
    obtain ⟨k, k1, k2, k3, k4⟩ := own_nlz32 x (by omega)
    refine ⟨k + 32, by omega, by omega, ?_, ?_⟩
    · have : (2 : Int) ^ (k + 32) = 2 ^ k * 4294967296 := by rw [Int.pow_add]; rfl
      omega
    · have : (2 : Int) ^ (k + 32 + 1) = 2 ^ (k + 1) * 4294967296 := by rw [show k + 32 + 1 = (k + 1) + 32 by omega, Int.pow_add]; rfl
      omega
theorem own_toNat (s : Int32) (t : Nat) (h : s.toInt = t) : s.toBitVec.toNat = t := by
  have h1 : s.toBitVec.toInt = t := h
  rw [BitVec.toInt_eq_toNat_cond] at h1
  have h2 := s.toBitVec.isLt
  split at h1 <;> omega
theorem own_f4_pos (n : Int32) (d : Int64) (k t : Nat) (hn : n.toInt = t + 1) (hk : k ≤ 62) (h : (own_f5 d).toInt = 63 - (k : Int)) (h1 : 2 ^ k ≤ d.toInt) (h2 : d.toInt < 2 ^ (k + 1)) :
    (t < 63 - k → (own_f4 n d).toInt = d.toInt * 2 ^ t ∧ d.toInt * 2 ^ t < 9223372036854775808) ∧ (63 - k ≤ t → own_f4 n d = 9223372036854775807) := by
  have hp : (0 : Int) < 2 ^ k := Int.pow_pos (by decide)
  have e1 : (1 : Int32).toInt = 1 := by decide
  have h3 := c_isub n 1
  have h4 := rng32 n
  have h5 := rng32 (n - 1)
  have e0 : (0 : Int64).toInt = 0 := by decide
  unfold own_f4
  generalize n - 1 = s at *
  have hs : s.toInt = t := by omega
  simp only []
  constructor
  · intro ht
    have c : s < own_f5 d := by rw [Int32.lt_iff_toInt_lt]; omega
    rw [if_pos c]
    have e2 := c_lshl d s t (by rw [own_toNat s t hs]; omega)
    have e3 := rng64 (d <<< (s &&& 0x3f).toInt64)
    generalize d <<< (s &&& 0x3f).toInt64 = u at *
    have e4 : ((2 ^ t : Nat) : Int) = 2 ^ t := by norm_cast
    rw [e4] at e2
    have pt : (0 : Int) < 2 ^ t := Int.pow_pos (by decide)
    have b1 : d.toInt * 2 ^ t < 2 ^ (k + 1) * 2 ^ t := Int.mul_lt_mul_of_pos_right h2 pt
    have b2 : (2 : Int) ^ (k + 1) * 2 ^ t ≤ 2 ^ 63 := by
      rw [← Int.pow_add]
      have := Nat.pow_le_pow_right (show 0 < 2 by decide) (show k + 1 + t ≤ 63 by omega)
      exact_mod_cast this
    have b3 : (2 : Int) ^ 63 = 9223372036854775808 := by decide
    have b4 : 0 ≤ d.toInt * 2 ^ t := Int.mul_nonneg (by omega) (by omega)
    generalize d.toInt * 2 ^ t = w at *
    omega
  · intro ht
    have c : ¬ s < own_f5 d := by rw [Int32.lt_iff_toInt_lt]; omega
    rw [if_neg c, if_neg]
    rw [← Int64.toInt_inj]
    omega
theorem own_f4_zero (n : Int32) : own_f4 n 0 = 0 := by
  unfold own_f4
  simp only []
  split
  · rw [← Int64.toInt_inj]
    have e2 := c_lshl 0 (n - 1) _ rfl
    have e3 := rng64 ((0 : Int64) <<< ((n - 1) &&& 0x3f).toInt64)
    have e0 : (0 : Int64).toInt = 0 := by decide
    rw [e0, Int.zero_mul] at e2
    omega
  · simp
theorem own_law (a : Int32) (b : Int64) (c m : Int32) : own_f0 a b c m = 1 := by
  have hd := own_dn m b
  have hn := own_nr m c
  unfold own_f0
  simp only []
  generalize (if (m &&& (1 : Int32)) = (0 : Int32) then (b &&& (65535 : Int64)) else (b &&& (9223372036854775807 : Int64))) = d at *
  generalize (if (m &&& (2 : Int32)) = (0 : Int32) then ((c &&& (127 : Int32)) + (1 : Int32)) else (((c &&& (2147483647 : Int32)) % (2147483646 : Int32)) + (1 : Int32))) = n at *
  by_cases z : d = 0
  · subst z
    simp only [own_f4_zero]
    unfold own_f7
    decide
  · have e0 : (0 : Int64).toInt = 0 := by decide
    rw [← Int64.toInt_inj] at z
    obtain ⟨k, k1, k2, k3, k4⟩ := own_nlz64 d (by omega)
    have h3 := c_iadd n 1
    have h4 := rng32 (n + 1)
    have e1 : (1 : Int32).toInt = 1 := by decide
    obtain ⟨t, ht⟩ : ∃ t : Nat, n.toInt = t + 1 := ⟨(n.toInt - 1).toNat, by omega⟩
    have p0 := own_f4_pos 1 d k 0 (by omega) k1 k2 k3 k4
    have p1 := own_f4_pos n d k t ht k1 k2 k3 k4
    have p2 := own_f4_pos (n + 1) d k (t + 1) (by omega) k1 k2 k3 k4
    have q0 : own_f4 1 d = d := by
      rw [← Int64.toInt_inj]
      have := (p0.1 (by omega)).1
      rw [this]
      omega
    have ep : d.toInt * 2 ^ (t + 1) = 2 * (d.toInt * 2 ^ t) := by rw [Int.pow_succ, ← Int.mul_assoc, Int.mul_comm]
    have pt : (0 : Int) < 2 ^ t := Int.pow_pos (by decide)
    have b4 : 0 ≤ d.toInt * 2 ^ t := Int.mul_nonneg (by omega) (by omega)
    have em : (9223372036854775807 : Int64).toInt = 9223372036854775807 := by decide
    have eh : (4611686018427387903 : Int64).toInt = 4611686018427387903 := by decide
    have e2 : (2 : Int64).toInt = 2 := by decide
    rw [q0, if_pos rfl]
    by_cases c1 : t < 63 - k
    · obtain ⟨r1, r2⟩ := p1.1 c1
      generalize own_f4 n d = u at *
      have g1 : ¬ u < 0 := by rw [Int64.lt_iff_toInt_lt]; omega
      rw [if_neg g1]
      by_cases c2 : t + 1 < 63 - k
      · obtain ⟨s1, s2⟩ := p2.1 c2
        generalize own_f4 (n + 1) d = w at *
        have g2 : ¬ w < 0 := by rw [Int64.lt_iff_toInt_lt]; omega
        have g3 : ¬ (4611686018427387903 : Int64) < u := by rw [Int64.lt_iff_toInt_lt]; omega
        rw [if_neg g2]
        unfold own_f7
        rw [if_neg g3, if_pos]
        rw [← Int64.toInt_inj]
        have g4 := c_lmul u 2
        rw [e2] at g4
        have g5 := rng64 (u * 2)
        omega
      · have s1 := p2.2 (by omega)
        rw [s1]
        have b5 : (2 : Int) ^ k * 2 ^ t ≤ d.toInt * 2 ^ t := Int.mul_le_mul_of_nonneg_right k3 (by omega)
        have b6 : (2 : Int) ^ k * 2 ^ t = 4611686018427387904 := by
          rw [← Int.pow_add, show k + t = 62 by omega]
          decide
        have g3 : (4611686018427387903 : Int64) < u := by rw [Int64.lt_iff_toInt_lt]; omega
        unfold own_f7
        rw [if_pos g3]
        decide
    · have r1 := p1.2 (by omega)
      have s1 := p2.2 (by omega)
      rw [r1, s1]
      decide
set_option maxRecDepth 65536 in
set_option maxHeartbeats 40000000 in
theorem comes_1 {Post : Tables → Env → Array Value → State → Outcome → State → Prop} (hpost : ∀ tb e args s v u, (limb_1_1.after args s (.returned v) u = true ∧ limb_1_2.after args s (.returned v) u = true ∧ True) → FrameEnd s (.returned v) u (Jvm.fieldLocs frame_1_writes args s ++ Jvm.arrayLocs frame_1_arrays args s ++ Jvm.staticLocs frame_1_statics s) 16 128 → Post tb e args s (.returned v) u) :
    ArmFor flags0 classFile x code maxLocals ret World_1 tables_1 room_1 Calls_1 rest_1 Pre_1 Post := by
  intro l hfl _ _ p e ha hc hk s m args below hf hA hF happ hP
  obtain ⟨hcalls, hrest, hpre⟩ := hP
  obtain ⟨-, -, -, hnamed, -, -, -, hat⟩ := (Spec.applies_iff hf).mp happ
  obtain ⟨hg, hn⟩ := and_e (Cond.before_iff.mp (show (Jvm.Cond.and given_1 narrow_1).before args s = true from hpre))
  obtain ⟨hg1, hg2⟩ := and_e hg
  obtain ⟨hg3, hg4⟩ := and_e hg2
  obtain ⟨hg5, hg6⟩ := and_e hg4
  obtain ⟨hg7, hg8⟩ := and_e hg6
  obtain ⟨w0, w1, w2, w3, rfl⟩ : ∃ w0 w1 w2 w3 : Value, args = #[w0, w1, w2, w3] := by
    have hs : args.size = 4 := by simpa [Cond.value, given_1] using hg1
    obtain ⟨L⟩ := args
    match L, hs with
    | [w0, w1, w2, w3], _ => exact ⟨w0, w1, w2, w3, rfl⟩
  have hw := fun d (hd : d ∈ tables_1) => atoms_spec (ws := Jvm.Cond.code x code maxLocals ret :: tables_1) hat d (List.mem_cons_of_mem _ hd)
  have hfit : Fit s := fun {y c} hc i hi => by
    obtain ⟨ha, rfl⟩ := Array.getElem?_eq_some_iff.mp hc
    have q := List.all_eq_true.mp ((Array.all_eq_true_iff_forall_mem.mp hF) _ (Array.getElem_mem ha)) i (List.mem_range.mpr hi)
    simpa [Array.getElem?_eq_getElem hi] using q
  obtain ⟨i0, ei0⟩ := is_v hg3
  obtain rfl : w0 = (.int i0) := Option.some.inj ei0
  obtain ⟨i1, ei1⟩ := isL_v hg5
  obtain rfl : w1 = (.long i1) := Option.some.inj ei1
  obtain ⟨i2, ei2⟩ := is_v hg7
  obtain rfl : w2 = (.int i2) := Option.some.inj ei2
  obtain ⟨i3, ei3⟩ := is_v hg8
  obtain rfl : w3 = (.int i3) := Option.some.inj ei3
  obtain ⟨n, o, h1, h2, h3, _, L, rfl, ⟨rfl, N⟩, hq⟩ := rm0 l s _ hw tables_1 i0 i1 i2 i3 s.heap s.heap.size (Nat.le_refl _) p e ha hc hk s m _ below hf ((Spec.applies_iff_loose hf).mp happ).1 ⟨rfl, State.Warmed39.refl s, rfl⟩ trivial
  refine ⟨n, _, h1, h2, h3, hpost _ _ _ _ _ _ ⟨Cond.after_iff.mpr rfl, Cond.after_iff.mpr (eq_i res_at (Term.int_eval (1)) (by rw [own_law])), trivial⟩ ⟨hq.1, hq.2.1, (hq.2.2.sift fun y hy => Or.inr (N y hy)).mono (by decide) (by decide)⟩⟩
theorem main_1_1 : Claimed_1_1 := comes_1 fun _ _ _ _ _ _ h hF => ⟨h.1, hF⟩
theorem main_1_2 : Claimed_1_2 := comes_1 fun _ _ _ _ _ _ h hF => ⟨h.2.1, hF⟩
end Jvm.Pilot.@@N@@
namespace Jvm.Pilot.@@N@@
open Jvm Jvm.ClassFile Sem Op Lib Jvm.Free Jvm.Stand Jvm.Pilot.@@N@@.Jvm.D
/-! MADE BY PROGRAM (witnessworld.py) out of the Statement's table words and the real class files: 16 classes; the members and pool entries that the words name. The judged class is class 1, her method 2. -/
namespace start1
open Jvm.ClassFile
def u (s : String) : CpInfo := .utf8 (stringToUtf16 s)
/-- a pool by its gaps: so many unusable entries, then the entry; so many at the end -/
def gap : Nat → List CpInfo → List CpInfo
  | 0, r => r
  | n + 1, r => .unusable :: gap n r
def poolList (es : List (Nat × CpInfo)) (last : Nat) : List CpInfo := es.foldr (fun e r => gap e.1 (e.2 :: r)) (gap last [])
def pool (es : List (Nat × CpInfo)) (last : Nat) : Array CpInfo := ⟨poolList es last⟩
def fileOf (pool : Array CpInfo) (this : Nat) (attrs : Array Attribute := #[]) (ms : Array MethodInfo := #[]) (fl : Nat := 33) (sup : Nat := 0) (ifs : Array Nat := #[]) (fds : Array FieldInfo := #[]) : ClassFile where
  minorVersion := 0
  majorVersion := 65
  constantPool := pool
  accessFlags := fl
  thisClass := this
  superClass := sup
  interfaces := ifs
  fields := fds
  methods := ms
  attributes := attrs
def plain (name : String) (sup : Option ClassId) : Class where
  name := name
  kind := .ordinary
  loader := none
  accessFlags := 33
  super := sup
  interfaces := #[]
  cf := none
  fields := #[]
  methods := #[]
  instanceTypes := #[]
  staticTypes := #[]
  resolved := #[]
  callSites := []
  init := .initialized
  statics := none
  mirror := none

def pool0 : Array CpInfo := pool [(5, u "<init>"), (0, u "()V"), (1, .class_ 10), (1, u "java/lang/Object")] 113

def k0c0 : Code := { maxStack := 0, maxLocals := 1, code := object_method_1_code, exceptionTable := #[], attributes := #[] }
def k0m0 : Method := { name := "<init>", desc := "()V", sig := { parameters := [], returnType := none }, accessFlags := 1, code := some k0c0 }
/-- java/lang/Object -/
def k0 : Class := { plain "java/lang/Object" none with
  accessFlags := 33
  interfaces := #[]
  cf := some (fileOf pool0 8 #[] #[{ accessFlags := 1, nameIndex := 5, descriptorIndex := 6, attributes := #[] }] 33 0 #[] #[])
  fields := #[]
  methods := #[k0m0]
  instanceTypes := #[]
  staticTypes := #[]
  resolved := Array.replicate 124 none
  statics := none }

def pool1 : Array CpInfo := pool [(2, .class_ 4), (1, u "java/lang/Object"), (0, u "<init>"), (0, u "()V"), (2, .long 4611686018427387903), (1, .long 9223372036854775807), (1, .long 2), (1, .integer 2147483647), (0, .methodref 17 18), (0, .class_ 19), (0, .nameAndType 20 21), (0, u "java/lang/Math"), (0, u "max"), (0, u "(II)I"), (0, .long 65535), (1, .integer 2147483646), (0, .class_ 26), (0, u "com/example/xmax/xmax/retry/RetryPolicy"), (0, .methodref 25 28), (0, .nameAndType 5 29), (0, u "(IJ)V"), (0, .methodref 25 31), (0, .nameAndType 32 33), (0, u "delayMillisAfter"), (0, u "(I)J"), (0, .methodref 35 36), (0, .class_ 37), (0, .nameAndType 38 39), (0, u "com/example/xmax/xmax/retry/RetryPolicyDelayMillisAfterPinLaw"), (0, u "saturatingDouble"), (0, u "(J)J"), (3, u "law"), (0, u "(IJII)Z")] 2

def k1m0 : Method := { name := "<init>", desc := "()V", sig := { parameters := [], returnType := none }, accessFlags := 1, code := none }
def k1c1 : Code := { maxStack := 4, maxLocals := 2, code := method_2_code, exceptionTable := #[], attributes := #[] }
def k1m1 : Method := { name := "saturatingDouble", desc := "(J)J", sig := { parameters := [.long], returnType := some .long }, accessFlags := 10, code := some k1c1 }
def k1c2 : Code := { maxStack := 5, maxLocals := 16, code := code, exceptionTable := #[], attributes := #[] }
def k1m2 : Method := { name := "law", desc := "(IJII)Z", sig := { parameters := [.int, .long, .int, .int], returnType := some .boolean }, accessFlags := 9, code := some k1c2 }
/-- com/example/xmax/xmax/retry/RetryPolicyDelayMillisAfterPinLaw -/
def k1 : Class := { plain "com/example/xmax/xmax/retry/RetryPolicyDelayMillisAfterPinLaw" (some 0) with
  accessFlags := 49
  interfaces := #[]
  cf := some (fileOf pool1 35 #[] #[{ accessFlags := 1, nameIndex := 5, descriptorIndex := 6, attributes := #[] }, { accessFlags := 10, nameIndex := 38, descriptorIndex := 39, attributes := #[] }, { accessFlags := 9, nameIndex := 43, descriptorIndex := 44, attributes := #[] }] 49 2 #[] #[])
  fields := #[]
  methods := #[k1m0, k1m1, k1m2]
  instanceTypes := #[]
  staticTypes := #[]
  resolved := Array.replicate 47 none
  statics := none }

def pool2 : Array CpInfo := pool [(1, .class_ 2), (0, u "java/lang/Math"), (1, .class_ 6), (1, u "java/lang/Object"), (0, u "<init>"), (0, u "()V"), (89, .class_ 100), (1, u "java/lang/Math$RandomNumberGeneratorHolder"), (71, u "negativeZeroFloatBits"), (0, u "J"), (2, u "negativeZeroDoubleBits"), (21, u "max"), (46, u "$assertionsDisabled"), (0, u "Z"), (88, u "(II)I"), (2, u "twoToTheDoubleScaleDown"), (0, u "D"), (4, u "twoToTheDoubleScaleUp"), (9, u "E"), (3, u "PI"), (2, u "TAU"), (2, u "DEGREES_TO_RADIANS"), (0, u "RADIANS_TO_DEGREES")] 94

def k2m0 : Method := { name := "<init>", desc := "()V", sig := { parameters := [], returnType := none }, accessFlags := 2, code := none }
def k2c1 : Code := { maxStack := 2, maxLocals := 2, code := jdk_29_method_65_code, exceptionTable := #[], attributes := #[] }
def k2m1 : Method := { name := "max", desc := "(II)I", sig := { parameters := [.int, .int], returnType := some .int }, accessFlags := 9, code := some k2c1 }
/-- java/lang/Math -/
def k2 : Class := { plain "java/lang/Math" (some 0) with
  accessFlags := 49
  interfaces := #[]
  cf := some (fileOf pool2 1 #[.nestMembers #[98]] #[{ accessFlags := 2, nameIndex := 7, descriptorIndex := 8, attributes := #[] }, { accessFlags := 9, nameIndex := 198, descriptorIndex := 335, attributes := #[] }] 49 4 #[] #[{ accessFlags := 25, nameIndex := 354, descriptorIndex := 339, attributes := #[] }, { accessFlags := 25, nameIndex := 358, descriptorIndex := 339, attributes := #[] }, { accessFlags := 25, nameIndex := 361, descriptorIndex := 339, attributes := #[] }, { accessFlags := 26, nameIndex := 364, descriptorIndex := 339, attributes := #[] }, { accessFlags := 26, nameIndex := 365, descriptorIndex := 339, attributes := #[] }, { accessFlags := 26, nameIndex := 172, descriptorIndex := 173, attributes := #[] }, { accessFlags := 26, nameIndex := 176, descriptorIndex := 173, attributes := #[] }, { accessFlags := 8, nameIndex := 344, descriptorIndex := 339, attributes := #[] }, { accessFlags := 8, nameIndex := 338, descriptorIndex := 339, attributes := #[] }, { accessFlags := 4120, nameIndex := 245, descriptorIndex := 246, attributes := #[] }])
  fields := #[{ name := "E", type := .double, accessFlags := 25, slot := 0, constantValue := 0 }, { name := "PI", type := .double, accessFlags := 25, slot := 1, constantValue := 0 }, { name := "TAU", type := .double, accessFlags := 25, slot := 2, constantValue := 0 }, { name := "DEGREES_TO_RADIANS", type := .double, accessFlags := 26, slot := 3, constantValue := 0 }, { name := "RADIANS_TO_DEGREES", type := .double, accessFlags := 26, slot := 4, constantValue := 0 }, { name := "negativeZeroFloatBits", type := .long, accessFlags := 26, slot := 5, constantValue := 0 }, { name := "negativeZeroDoubleBits", type := .long, accessFlags := 26, slot := 6, constantValue := 0 }, { name := "twoToTheDoubleScaleUp", type := .double, accessFlags := 8, slot := 7, constantValue := 0 }, { name := "twoToTheDoubleScaleDown", type := .double, accessFlags := 8, slot := 8, constantValue := 0 }, { name := "$assertionsDisabled", type := .boolean, accessFlags := 4120, slot := 9, constantValue := 0 }]
  methods := #[k2m0, k2m1]
  instanceTypes := #[]
  staticTypes := #[.double, .double, .double, .double, .double, .long, .long, .double, .double, .boolean]
  resolved := Array.replicate 460 none
  statics := none }

def pool3 : Array CpInfo := pool [(1, .methodref 2 3), (0, .class_ 4), (0, .nameAndType 5 6), (0, u "java/lang/Object"), (0, u "<init>"), (0, u "()V"), (12, .fieldref 20 21), (0, .class_ 22), (0, .nameAndType 23 24), (0, u "com/example/xmax/xmax/retry/RetryPolicy"), (0, u "maxAttempts"), (0, u "I"), (0, .fieldref 20 26), (0, .nameAndType 27 28), (0, u "retryDelayMillis"), (0, u "J"), (1, .methodref 31 32), (0, .class_ 33), (0, .nameAndType 34 35), (0, u "java/lang/Long"), (0, u "numberOfLeadingZeros"), (0, u "(J)I"), (0, .long 9223372036854775807), (5, u "(IJ)V"), (2, u "DEFAULT"), (0, u "Lcom/example/xmax/xmax/retry/RetryPolicy;"), (7, u "delayMillisAfter"), (0, u "(I)J")] 22

def k3c0 : Code := { maxStack := 4, maxLocals := 4, code := prog_26_method_1_code, exceptionTable := #[], attributes := #[] }
def k3m0 : Method := { name := "<init>", desc := "(IJ)V", sig := { parameters := [.int, .long], returnType := none }, accessFlags := 1, code := some k3c0 }
def k3c1 : Code := { maxStack := 4, maxLocals := 3, code := prog_26_method_5_code, exceptionTable := #[], attributes := #[] }
def k3m1 : Method := { name := "delayMillisAfter", desc := "(I)J", sig := { parameters := [.int], returnType := some .long }, accessFlags := 1, code := some k3c1 }
/-- com/example/xmax/xmax/retry/RetryPolicy -/
def k3 : Class := { plain "com/example/xmax/xmax/retry/RetryPolicy" (some 0) with
  accessFlags := 49
  interfaces := #[]
  cf := some (fileOf pool3 20 #[] #[{ accessFlags := 1, nameIndex := 5, descriptorIndex := 42, attributes := #[] }, { accessFlags := 1, nameIndex := 54, descriptorIndex := 55, attributes := #[] }] 49 2 #[] #[{ accessFlags := 25, nameIndex := 45, descriptorIndex := 46, attributes := #[] }, { accessFlags := 18, nameIndex := 23, descriptorIndex := 24, attributes := #[] }, { accessFlags := 18, nameIndex := 27, descriptorIndex := 28, attributes := #[] }])
  fields := #[{ name := "DEFAULT", type := (.object "com/example/xmax/xmax/retry/RetryPolicy"), accessFlags := 25, slot := 0, constantValue := 0 }, { name := "maxAttempts", type := .int, accessFlags := 18, slot := 0, constantValue := 0 }, { name := "retryDelayMillis", type := .long, accessFlags := 18, slot := 1, constantValue := 0 }]
  methods := #[k3m0, k3m1]
  instanceTypes := #[.int, .long]
  staticTypes := #[(.object "com/example/xmax/xmax/retry/RetryPolicy")]
  resolved := Array.replicate 78 none
  statics := none }

def pool4 : Array CpInfo := pool [(1, .class_ 2), (0, u "java/io/Serializable"), (0, .class_ 4), (0, u "java/lang/Object")] 2

/-- java/io/Serializable -/
def k4 : Class := { plain "java/io/Serializable" (some 0) with
  accessFlags := 1537
  interfaces := #[]
  cf := some (fileOf pool4 1 #[] #[] 1537 3 #[] #[])
  fields := #[]
  methods := #[]
  instanceTypes := #[]
  staticTypes := #[]
  resolved := Array.replicate 7 none
  statics := none }

def pool5 : Array CpInfo := pool [(2, .class_ 4), (1, u "java/lang/Object"), (0, u "<init>"), (0, u "()V"), (1, .class_ 10), (1, u "java/lang/Number"), (2, .class_ 14), (0, u "java/io/Serializable"), (0, u "serialVersionUID"), (0, u "J")] 20

def k5m0 : Method := { name := "<init>", desc := "()V", sig := { parameters := [], returnType := none }, accessFlags := 1, code := none }
/-- java/lang/Number -/
def k5 : Class := { plain "java/lang/Number" (some 0) with
  accessFlags := 1057
  interfaces := #[4]
  cf := some (fileOf pool5 8 #[] #[{ accessFlags := 1, nameIndex := 5, descriptorIndex := 6, attributes := #[] }] 1057 2 #[13] #[{ accessFlags := 26, nameIndex := 15, descriptorIndex := 16, attributes := #[] }])
  fields := #[{ name := "serialVersionUID", type := .long, accessFlags := 26, slot := 0, constantValue := 0 }]
  methods := #[k5m0]
  instanceTypes := #[]
  staticTypes := #[.long]
  resolved := Array.replicate 37 none
  statics := none }

def pool6 : Array CpInfo := pool [(1, .class_ 2), (0, u "java/lang/Comparable"), (0, .class_ 4), (0, u "java/lang/Object")] 7

/-- java/lang/Comparable -/
def k6 : Class := { plain "java/lang/Comparable" (some 0) with
  accessFlags := 1537
  interfaces := #[]
  cf := some (fileOf pool6 1 #[] #[] 1537 3 #[] #[])
  fields := #[]
  methods := #[]
  instanceTypes := #[]
  staticTypes := #[]
  resolved := Array.replicate 12 none
  statics := none }

def pool7 : Array CpInfo := pool [(1, .class_ 2), (0, u "java/lang/constant/Constable"), (0, .class_ 4), (0, u "java/lang/Object")] 6

/-- java/lang/constant/Constable -/
def k7 : Class := { plain "java/lang/constant/Constable" (some 0) with
  accessFlags := 1537
  interfaces := #[]
  cf := some (fileOf pool7 1 #[] #[] 1537 3 #[] #[])
  fields := #[]
  methods := #[]
  instanceTypes := #[]
  staticTypes := #[]
  resolved := Array.replicate 11 none
  statics := none }

def pool8 : Array CpInfo := pool [(1, .class_ 2), (0, u "java/lang/constant/ConstantDesc"), (0, .class_ 4), (0, u "java/lang/Object")] 32

/-- java/lang/constant/ConstantDesc -/
def k8 : Class := { plain "java/lang/constant/ConstantDesc" (some 0) with
  accessFlags := 1537
  interfaces := #[]
  cf := some (fileOf pool8 1 #[] #[] 1537 3 #[] #[])
  fields := #[]
  methods := #[]
  instanceTypes := #[]
  staticTypes := #[]
  resolved := Array.replicate 37 none
  statics := none }

def pool9 : Array CpInfo := pool [(1, .class_ 2), (0, u "java/lang/Long"), (15, .class_ 20), (1, u "java/lang/Integer"), (79, u "numberOfLeadingZeros"), (0, u "(J)I"), (133, .class_ 237), (1, u "java/lang/Long$LongCache"), (33, .class_ 272), (0, u "java/lang/Number"), (2, u "value"), (0, u "J"), (31, .methodref 18 309), (0, .nameAndType 100 310), (0, u "(I)I"), (50, u "TYPE"), (0, u "Ljava/lang/Class;"), (0, .class_ 364), (0, u "java/lang/Comparable"), (0, .class_ 366), (0, u "java/lang/constant/Constable"), (0, .class_ 368), (0, u "java/lang/constant/ConstantDesc"), (0, u "MIN_VALUE"), (1, u "MAX_VALUE"), (4, u "SIZE"), (0, u "I"), (1, u "BYTES"), (1, u "serialVersionUID")] 142

def k9c0 : Code := { maxStack := 3, maxLocals := 3, code := jdk_35_method_48_code, exceptionTable := #[], attributes := #[] }
def k9m0 : Method := { name := "numberOfLeadingZeros", desc := "(J)I", sig := { parameters := [.long], returnType := some .int }, accessFlags := 9, code := some k9c0 }
/-- java/lang/Long -/
def k9 : Class := { plain "java/lang/Long" (some 5) with
  accessFlags := 49
  interfaces := #[6, 7, 8]
  cf := some (fileOf pool9 1 #[.nestMembers #[235]] #[{ accessFlags := 9, nameIndex := 100, descriptorIndex := 101, attributes := #[] }] 49 271 #[363, 365, 367] #[{ accessFlags := 25, nameIndex := 369, descriptorIndex := 276, attributes := #[] }, { accessFlags := 25, nameIndex := 371, descriptorIndex := 276, attributes := #[] }, { accessFlags := 25, nameIndex := 361, descriptorIndex := 362, attributes := #[] }, { accessFlags := 18, nameIndex := 275, descriptorIndex := 276, attributes := #[] }, { accessFlags := 25, nameIndex := 376, descriptorIndex := 377, attributes := #[] }, { accessFlags := 25, nameIndex := 379, descriptorIndex := 377, attributes := #[] }, { accessFlags := 26, nameIndex := 381, descriptorIndex := 276, attributes := #[] }])
  fields := #[{ name := "MIN_VALUE", type := .long, accessFlags := 25, slot := 0, constantValue := 0 }, { name := "MAX_VALUE", type := .long, accessFlags := 25, slot := 1, constantValue := 0 }, { name := "TYPE", type := (.object "java/lang/Class"), accessFlags := 25, slot := 2, constantValue := 0 }, { name := "value", type := .long, accessFlags := 18, slot := 0, constantValue := 0 }, { name := "SIZE", type := .int, accessFlags := 25, slot := 3, constantValue := 0 }, { name := "BYTES", type := .int, accessFlags := 25, slot := 4, constantValue := 0 }, { name := "serialVersionUID", type := .long, accessFlags := 26, slot := 5, constantValue := 0 }]
  methods := #[k9m0]
  instanceTypes := #[.long]
  staticTypes := #[.long, .long, (.object "java/lang/Class"), .int, .int, .long]
  resolved := Array.replicate 524 none
  statics := none }

def pool10 : Array CpInfo := pool [(1, .class_ 2), (0, u "java/lang/Integer"), (16, u "digits"), (0, u "[C"), (32, u "numberOfLeadingZeros"), (0, u "(I)I"), (30, u "DigitOnes"), (0, u "[B"), (2, u "DigitTens"), (99, .class_ 190), (0, u "java/lang/Integer$IntegerCache"), (3, u "I"), (8, .class_ 204), (0, u "java/lang/Number"), (2, u "value"), (56, .integer 65536), (37, u "TYPE"), (0, u "Ljava/lang/Class;"), (0, .class_ 305), (0, u "java/lang/Comparable"), (0, .class_ 307), (0, u "java/lang/constant/Constable"), (0, .class_ 309), (0, u "java/lang/constant/ConstantDesc"), (0, u "MIN_VALUE"), (1, u "MAX_VALUE"), (3, u "SIZE"), (1, u "BYTES"), (1, u "serialVersionUID"), (0, u "J")] 131

def k10c0 : Code := { maxStack := 3, maxLocals := 2, code := jdk_33_method_47_code, exceptionTable := #[], attributes := #[] }
def k10m0 : Method := { name := "numberOfLeadingZeros", desc := "(I)I", sig := { parameters := [.int], returnType := some .int }, accessFlags := 9, code := some k10c0 }
/-- java/lang/Integer -/
def k10 : Class := { plain "java/lang/Integer" (some 5) with
  accessFlags := 49
  interfaces := #[6, 7, 8]
  cf := some (fileOf pool10 1 #[.nestMembers #[189]] #[{ accessFlags := 9, nameIndex := 53, descriptorIndex := 54, attributes := #[] }] 49 203 #[304, 306, 308] #[{ accessFlags := 25, nameIndex := 310, descriptorIndex := 194, attributes := #[] }, { accessFlags := 25, nameIndex := 312, descriptorIndex := 194, attributes := #[] }, { accessFlags := 25, nameIndex := 302, descriptorIndex := 303, attributes := #[] }, { accessFlags := 24, nameIndex := 19, descriptorIndex := 20, attributes := #[] }, { accessFlags := 24, nameIndex := 89, descriptorIndex := 86, attributes := #[] }, { accessFlags := 24, nameIndex := 85, descriptorIndex := 86, attributes := #[] }, { accessFlags := 18, nameIndex := 207, descriptorIndex := 194, attributes := #[] }, { accessFlags := 25, nameIndex := 316, descriptorIndex := 194, attributes := #[] }, { accessFlags := 25, nameIndex := 318, descriptorIndex := 194, attributes := #[] }, { accessFlags := 26, nameIndex := 320, descriptorIndex := 321, attributes := #[] }])
  fields := #[{ name := "MIN_VALUE", type := .int, accessFlags := 25, slot := 0, constantValue := 0 }, { name := "MAX_VALUE", type := .int, accessFlags := 25, slot := 1, constantValue := 0 }, { name := "TYPE", type := (.object "java/lang/Class"), accessFlags := 25, slot := 2, constantValue := 0 }, { name := "digits", type := (.array .char), accessFlags := 24, slot := 3, constantValue := 0 }, { name := "DigitTens", type := (.array .byte), accessFlags := 24, slot := 4, constantValue := 0 }, { name := "DigitOnes", type := (.array .byte), accessFlags := 24, slot := 5, constantValue := 0 }, { name := "value", type := .int, accessFlags := 18, slot := 0, constantValue := 0 }, { name := "SIZE", type := .int, accessFlags := 25, slot := 6, constantValue := 0 }, { name := "BYTES", type := .int, accessFlags := 25, slot := 7, constantValue := 0 }, { name := "serialVersionUID", type := .long, accessFlags := 26, slot := 8, constantValue := 0 }]
  methods := #[k10m0]
  instanceTypes := #[.int]
  staticTypes := #[.int, .int, (.object "java/lang/Class"), (.array .char), (.array .byte), (.array .byte), .int, .int, .long]
  resolved := Array.replicate 453 none
  statics := none }

def pool11 : Array CpInfo := pool [(1, u "java/lang/Cloneable"), (0, .class_ 1), (0, u "java/lang/Object"), (0, .class_ 3)] 3

/-- java/lang/Cloneable -/
def k11 : Class := { plain "java/lang/Cloneable" (some 0) with
  accessFlags := 1537
  interfaces := #[]
  cf := some (fileOf pool11 2 #[] #[] 1537 4 #[] #[])
  fields := #[]
  methods := #[]
  instanceTypes := #[]
  staticTypes := #[]
  resolved := Array.replicate 8 none
  statics := none }

/-- the primitive byte -/
def k12 : Class := { plain "byte" none with kind := .primitive 'B', accessFlags := 0x411 }
/-- [B -/
def k13 : Class := { plain "[B" (some 0) with kind := .array 12 .byte, interfaces := #[11, 4], accessFlags := 1041 }

/-- the primitive int -/
def k14 : Class := { plain "int" none with kind := .primitive 'I', accessFlags := 0x411 }
/-- [I -/
def k15 : Class := { plain "[I" (some 0) with kind := .array 14 .int, interfaces := #[11, 4], accessFlags := 1041 }

def heap : Heap := #[]
def classes : Array Class := #[k0, k1, k2, k3, k4, k5, k6, k7, k8, k9, k10, k11, k12, k13, k14, k15]
def interned : List (Array UInt16 × Addr) := []
def slotsUsed : Nat := 0
def theMethod : MethodId := ⟨1, 2⟩
def args0 : Array Value := #[.int 5, .long 7, .int 3, .int 0]
def aboutOver (below : List Frame) : State where
  vm := { classes := classes, interned := interned.toArray }
  heap := heap
  slotsUsed := slotsUsed
  threads := #[{ frames := .invoking theMethod args0 :: below }]
def below0 : List Frame := [.native { method := ⟨0, 0⟩, args := #[] }]
def about1 : State := aboutOver below0
def p0 : Program := .bare "" "" ""
def e0 : Env := launch0.env 0 0 0
theorem w_frames : about1.frames = Frame.invoking theMethod args0 :: below0 := rfl
set_option maxRecDepth 65536 in
theorem w_args : argsFit about1.vm theMethod args0 = true := by decide +kernel
set_option maxRecDepth 65536 in
theorem w_heap : heapFits about1 = true := by decide +kernel
set_option maxRecDepth 65536 in
theorem w_runnable : about1.curStatus? = some .runnable := by decide +kernel
set_option maxRecDepth 65536 in
theorem w_alone : about1.alone = true := by decide +kernel
set_option maxRecDepth 65536 in
theorem w_named : about1.methodNamed? x = some theMethod := by decide +kernel
set_option maxRecDepth 65536 in
theorem w_hears : about1.hears theMethod below0 = true := by decide +kernel
set_option maxRecDepth 65536 in
theorem w_ripe : about1.ripe theMethod args0 below0 = true := by decide +kernel
theorem w_running : about1.status = .running := rfl
set_option maxRecDepth 65536 in
theorem w_room : about1.hasRoom e0.platform room_1 = true :=
  launch0.hasRoom_least _ room_1 (by decide +kernel) (by decide +kernel) (by decide +kernel) (by decide +kernel) (by decide +kernel) (by decide +kernel)
theorem allAtoms_all (ts : List Jvm.Cond) (a : Array Jvm.Value) (st : Jvm.State) : (allAtoms ts).before a st = ts.all (fun c => c.before a st) := by
  induction ts with
  | nil => rfl
  | cons c t ih =>
    show (Jvm.Cond.and c (allAtoms t)).before a st = _
    rw [Jvm.Cond.before_and, ih, List.all_cons]
def words1 : List Jvm.Cond := Jvm.Cond.code x code maxLocals ret :: tables_1
/-- a 'code' word, met by the world's own term for the bytes: nothing is compared byte by byte -/
theorem code_word {y : MethodName} {bytes : ByteArray} {mx : Nat} {rt : Option FieldType} {a : Array Value} {s : State} {m : MethodId} {meth : Method} {c : Code} (h1 : s.methodNamed? y = some m) (h2 : s.vm.method? m = some meth) (h3 : meth.code = some c) (h4 : c.code = bytes)
    (h5 : (c.maxLocals == mx && c.exceptionTable.isEmpty && decide (c.maxStack ≤ mostOperands) && decide (meth.sig.returnType = rt) && !meth.locks && decide (parseMethodDescriptor y.desc = some meth.sig)) = true) : (Jvm.Cond.code y bytes mx rt).before a s = true := by
  simp only [Bool.and_eq_true, beq_iff_eq, Bool.not_eq_true', decide_eq_true_eq] at h5
  obtain ⟨⟨⟨⟨⟨g1, g2⟩, g3⟩, g4⟩, g5⟩, g6⟩ := h5
  simp [Cond.before, Cond.holds, Cond.value, h1, h2, h3, h4, g1, g2, g3, g4, g5, g6]
def isCode : Jvm.Cond → Bool
  | .code _ _ _ _ => true
  | _ => false
theorem all_split {L : List Jvm.Cond} {P : Jvm.Cond → Bool} (h1 : L.all (fun c => isCode c || P c) = true) (h2 : ∀ c ∈ L.filter isCode, P c = true) : L.all P = true := by
  refine List.all_eq_true.mpr fun c hc => ?_
  have h := List.all_eq_true.mp h1 c hc
  rcases Bool.eq_false_or_eq_true (isCode c) with hi | hi
  · exact h2 c (List.mem_filter.mpr ⟨hc, hi⟩)
  · simpa [hi] using h
set_option maxRecDepth 65536 in
theorem w_c0 : (Jvm.Cond.code x code maxLocals ret).before args0 about1 = true := code_word (m := ⟨1, 2⟩) (meth := k1m2) (c := k1c2) (by decide +kernel) rfl rfl rfl (by decide +kernel)
set_option maxRecDepth 65536 in
theorem w_c1 : (Jvm.Cond.code ({ cls := "java/lang/Math", name := "max", desc := "(II)I" } : Jvm.MethodName) jdk_29_method_65_code (2 : Nat) (Option.some Jvm.ClassFile.FieldType.int)).before args0 about1 = true := code_word (m := ⟨2, 1⟩) (meth := k2m1) (c := k2c1) (by decide +kernel) rfl rfl rfl (by decide +kernel)
set_option maxRecDepth 65536 in
theorem w_c2 : (Jvm.Cond.code ({ cls := "com/example/xmax/xmax/retry/RetryPolicy", name := "<init>", desc := "(IJ)V" } : Jvm.MethodName) prog_26_method_1_code (4 : Nat) (Option.none : Option Jvm.ClassFile.FieldType)).before args0 about1 = true := code_word (m := ⟨3, 0⟩) (meth := k3m0) (c := k3c0) (by decide +kernel) rfl rfl rfl (by decide +kernel)
set_option maxRecDepth 65536 in
theorem w_c3 : (Jvm.Cond.code ({ cls := "java/lang/Object", name := "<init>", desc := "()V" } : Jvm.MethodName) object_method_1_code (1 : Nat) (Option.none : Option Jvm.ClassFile.FieldType)).before args0 about1 = true := code_word (m := ⟨0, 0⟩) (meth := k0m0) (c := k0c0) (by decide +kernel) rfl rfl rfl (by decide +kernel)
set_option maxRecDepth 65536 in
theorem w_c4 : (Jvm.Cond.code ({ cls := "com/example/xmax/xmax/retry/RetryPolicy", name := "delayMillisAfter", desc := "(I)J" } : Jvm.MethodName) prog_26_method_5_code (3 : Nat) (Option.some Jvm.ClassFile.FieldType.long)).before args0 about1 = true := code_word (m := ⟨3, 1⟩) (meth := k3m1) (c := k3c1) (by decide +kernel) rfl rfl rfl (by decide +kernel)
set_option maxRecDepth 65536 in
theorem w_c5 : (Jvm.Cond.code ({ cls := "java/lang/Long", name := "numberOfLeadingZeros", desc := "(J)I" } : Jvm.MethodName) jdk_35_method_48_code (3 : Nat) (Option.some Jvm.ClassFile.FieldType.int)).before args0 about1 = true := code_word (m := ⟨9, 0⟩) (meth := k9m0) (c := k9c0) (by decide +kernel) rfl rfl rfl (by decide +kernel)
set_option maxRecDepth 65536 in
theorem w_c6 : (Jvm.Cond.code ({ cls := "java/lang/Integer", name := "numberOfLeadingZeros", desc := "(I)I" } : Jvm.MethodName) jdk_33_method_47_code (2 : Nat) (Option.some Jvm.ClassFile.FieldType.int)).before args0 about1 = true := code_word (m := ⟨10, 0⟩) (meth := k10m0) (c := k10c0) (by decide +kernel) rfl rfl rfl (by decide +kernel)
set_option maxRecDepth 65536 in
theorem w_c7 : (Jvm.Cond.code ({ cls := "com/example/xmax/xmax/retry/RetryPolicyDelayMillisAfterPinLaw", name := "saturatingDouble", desc := "(J)J" } : Jvm.MethodName) method_2_code (2 : Nat) (Option.some Jvm.ClassFile.FieldType.long)).before args0 about1 = true := code_word (m := ⟨1, 1⟩) (meth := k1m1) (c := k1c1) (by decide +kernel) rfl rfl rfl (by decide +kernel)
def codes1 : List Jvm.Cond := [Jvm.Cond.code x code maxLocals ret, Jvm.Cond.code ({ cls := "java/lang/Math", name := "max", desc := "(II)I" } : Jvm.MethodName) jdk_29_method_65_code (2 : Nat) (Option.some Jvm.ClassFile.FieldType.int), Jvm.Cond.code ({ cls := "com/example/xmax/xmax/retry/RetryPolicy", name := "<init>", desc := "(IJ)V" } : Jvm.MethodName) prog_26_method_1_code (4 : Nat) (Option.none : Option Jvm.ClassFile.FieldType), Jvm.Cond.code ({ cls := "java/lang/Object", name := "<init>", desc := "()V" } : Jvm.MethodName) object_method_1_code (1 : Nat) (Option.none : Option Jvm.ClassFile.FieldType), Jvm.Cond.code ({ cls := "com/example/xmax/xmax/retry/RetryPolicy", name := "delayMillisAfter", desc := "(I)J" } : Jvm.MethodName) prog_26_method_5_code (3 : Nat) (Option.some Jvm.ClassFile.FieldType.long), Jvm.Cond.code ({ cls := "java/lang/Long", name := "numberOfLeadingZeros", desc := "(J)I" } : Jvm.MethodName) jdk_35_method_48_code (3 : Nat) (Option.some Jvm.ClassFile.FieldType.int), Jvm.Cond.code ({ cls := "java/lang/Integer", name := "numberOfLeadingZeros", desc := "(I)I" } : Jvm.MethodName) jdk_33_method_47_code (2 : Nat) (Option.some Jvm.ClassFile.FieldType.int), Jvm.Cond.code ({ cls := "com/example/xmax/xmax/retry/RetryPolicyDelayMillisAfterPinLaw", name := "saturatingDouble", desc := "(J)J" } : Jvm.MethodName) method_2_code (2 : Nat) (Option.some Jvm.ClassFile.FieldType.long)]
set_option maxRecDepth 65536 in
theorem codes_eq : words1.filter isCode = codes1 := rfl
theorem w_codes : ∀ c ∈ words1.filter isCode, c.before args0 about1 = true := by
  rw [codes_eq]
  intro c hc
  simp only [codes1, List.mem_cons, List.not_mem_nil, or_false] at hc
  rcases hc with rfl | rfl | rfl | rfl | rfl | rfl | rfl | rfl
  · exact w_c0
  · exact w_c1
  · exact w_c2
  · exact w_c3
  · exact w_c4
  · exact w_c5
  · exact w_c6
  · exact w_c7
set_option maxRecDepth 65536 in
theorem w_t1 : (words1.take 24).all (fun c => isCode c || c.before args0 about1) = true := by decide +kernel
set_option maxRecDepth 65536 in
theorem w_t2 : (words1.drop 24).all (fun c => isCode c || c.before args0 about1) = true := by decide +kernel
theorem w_tables : (allAtoms (Jvm.Cond.code x code maxLocals ret :: tables_1)).before args0 about1 = true := by
  rw [allAtoms_all]
  show words1.all (fun c => c.before args0 about1) = true
  refine all_split ?_ w_codes
  rw [← List.take_append_drop 24 words1, List.all_append, w_t1, w_t2]
  rfl
set_option maxRecDepth 65536 in
theorem w_case : (Jvm.Cond.and given_1 narrow_1).before args0 about1 = true := by decide +kernel
theorem w_applies : (headSpec (Jvm.Cond.code x code maxLocals ret :: tables_1) room_1).applies x e0.platform about1 = true :=
  (Spec.applies_iff w_frames).mpr ⟨w_running, w_runnable, w_alone, w_named, w_hears, w_ripe, w_room, w_tables⟩
theorem atStart : AtStart classFile x code maxLocals ret World_1 tables_1 room_1 Calls_1 rest_1 Pre_1 launch0 p0 e0 about1 theMethod args0 below0 :=
  ⟨lists_1, trivial, launch0.admits_env _ _ _, launch0.least_env, fairChoices_fair.cas, fairChoices_fair.clock, w_frames, w_args, w_heap, w_applies, trivial, trivial, w_case⟩
end start1
theorem witness_1 : WitnessClaimed_1 := ⟨start1.p0, start1.e0, start1.about1, start1.theMethod, start1.args0, start1.below0, start1.atStart⟩
end Jvm.Pilot.@@N@@
