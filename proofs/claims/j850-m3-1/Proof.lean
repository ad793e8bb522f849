import JvmDerived
import JvmDerived.Pilot.@@N@@Statement
import JvmDerived.Pilot.@@N@@Code
set_option linter.unusedVariables false
set_option linter.unusedSimpArgs false
namespace Jvm.RoadKit
open Sem ClassFile Op Lib Jvm.Stand Jvm.Free Jvm.LawKit
section New
variable {p : Program} {l : Launch} {e : Env} {R : Room} {s : State} {m : MethodId} {args : Array Value} {below : List Frame} {meth : Method} {c : Code} {T : State} {locs : List Loc} {cells slots : Nat}
theorem retI (X : Stand p l e R s m args below meth c T locs cells slots) (hx : p.tables.exec = Jvm.exec) {pc : Nat} {Ls : Array Slot} {z : Int32} {rest : List Value} (hret : meth.sig.returnType = some .int) (hd : decode c.code pc = .ok (.ireturn, 1)) {fs : List Frame}
    (hl : ∀ (f : JFrame) (acts : List Action), f.method = m → f.locked = none → f.entered = [] → (doReturn e (T.setTop f) acts (some (.int z))).1 = T.setFrames fs) : Steps p.tables e below (T.setTop (mkF m pc Ls (.int z :: rest))) (T.setFrames fs) := by
  have hm' : T.vm.method? m = some meth := X.method'
  have hn : narrow .int (.int z) = .int z := rfl
  show Steps p.tables e below (T.setTop { method := m, pc := pc, locals := Ls, stack := _ :: rest, locked := none }) _
  jvm_step X.here [X.here.top, hx, hd, hm', hret, hn]
  first | (intro acts; rw [hl _ acts rfl rfl rfl]) | rw [hl _ _ rfl rfl rfl]
  exact Steps.refl _
end New
end Jvm.RoadKit
namespace Jvm.Pilot.@@N@@
open Jvm Jvm.ClassFile Sem Op Lib Jvm.Free Jvm.Stand Jvm.LawKit Jvm.RoadKit Bundle Jvm.Pilot.@@N@@.Jvm.D
def own_K (Z : State) (h : Heap) (a : Addr) (lo hi : Int32) : Prop := Exa Z h a "com/example/incarico/incarico/protocol/ApiKey" ∧ Fld Z h a "com/example/incarico/incarico/protocol/ApiKey" "lowestVersion" "S" (.int lo) ∧ Fld Z h a "com/example/incarico/incarico/protocol/ApiKey" "highestVersion" "S" (.int hi)
theorem d1_0 : decode method_3_code 0 = .ok (.iload_n 0, 1) := by decide +kernel
theorem d1_1 : decode method_3_code 1 = .ok (.ifCond .ne 5, 3) := by decide +kernel
theorem d1_4 : decode method_3_code 4 = .ok (.iconst 1, 1) := by decide +kernel
theorem d1_5 : decode method_3_code 5 = .ok (.ireturn, 1) := by decide +kernel
theorem d1_6 : decode method_3_code 6 = .ok (.iload_n 0, 1) := by decide +kernel
theorem d1_7 : decode method_3_code 7 = .ok (.iconst 1, 1) := by decide +kernel
theorem d1_8 : decode method_3_code 8 = .ok (.if_icmp .ne 5, 3) := by decide +kernel
theorem d1_11 : decode method_3_code 11 = .ok (.iconst 2, 1) := by decide +kernel
theorem d1_12 : decode method_3_code 12 = .ok (.ireturn, 1) := by decide +kernel
theorem d1_13 : decode method_3_code 13 = .ok (.iload_n 0, 1) := by decide +kernel
theorem d1_14 : decode method_3_code 14 = .ok (.iconst 2, 1) := by decide +kernel
theorem d1_15 : decode method_3_code 15 = .ok (.if_icmp .ne 5, 3) := by decide +kernel
theorem d1_18 : decode method_3_code 18 = .ok (.iconst 1, 1) := by decide +kernel
theorem d1_19 : decode method_3_code 19 = .ok (.ireturn, 1) := by decide +kernel
theorem d1_20 : decode method_3_code 20 = .ok (.iconst 0, 1) := by decide +kernel
theorem d1_21 : decode method_3_code 21 = .ok (.ireturn, 1) := by decide +kernel
theorem pn_1 : plainName "com/example/incarico/incarico/protocol/ApiKeySupportsPinLaw" = true := by first | (simp [plainName, overriddenIn]; done) | decide +kernel
theorem ef_1 (m : MethodId) (p0 : Int32) : entryFrame m #[(.int p0)] 1 = mkF m 0 #[.val (.int p0)] [] := by first | (simp [entryFrame, mkF, argsToLocals, Value.category]; done) | rfl
def own_f1 (p0 : Int32) : Int32 := (if p0 = (0 : Int32) then (1 : Int32) else (if p0 = (1 : Int32) then (2 : Int32) else (if p0 = (2 : Int32) then (1 : Int32) else (0 : Int32))))
def Q1 (Z : State) (p0 : Int32) (h0 : Heap) (n0 : Nat) (v : Option Value) (h : Heap) (L : List Loc) : Prop := v = some (.int (own_f1 p0)) ∧ Fr n0 L ∧ h = h0
set_option maxRecDepth 65536 in
set_option maxHeartbeats 40000000 in
theorem rm1 (l : Launch) (Z : State) (a0 : Array Value) (hw : ∀ d ∈ tables_1, d.before a0 Z = true) (ws : List Jvm.Cond) (p0 : Int32) (h0 : Heap) (n0 : Nat) (Z0 : n0 ≤ h0.size) :
    MetFree l (⟨"com/example/incarico/incarico/protocol/ApiKeySupportsPinLaw", "lowOf", "(I)I"⟩ : MethodName) (head1 (Jvm.Cond.code (⟨"com/example/incarico/incarico/protocol/ApiKeySupportsPinLaw", "lowOf", "(I)I"⟩ : MethodName) method_3_code 1 (some .int) :: ws) ({ frames := 0, cells := 0, slots := 0, locals := 0 } : Room)) (fun a U => a = #[(.int p0)] ∧ Z.Warmed39 U.vm ∧ U.heap = h0) (fun _ _ _ _ _ => True) (fun _ U o U' => ∃ v L, o = .returned v ∧ Q1 Z p0 h0 n0 v U'.heap L ∧ FrameEnd U o U' L ({ frames := 0, cells := 0, slots := 0, locals := 0 } : Room).cells ({ frames := 0, cells := 0, slots := 0, locals := 0 } : Room).slots) := by
  refine MetFree.of_bodySF (plainFor_of_name pn_1) hisR ?_
  intro p e s m args below meth c s₁ Bd hml0 hP hK
  obtain ⟨rfl, hZ, hh⟩ := hP
  have hx := Bd.exec
  have hby := Bd.bytes
  have hml : c.maxLocals = 1 := hml0
  have hown : s.vm.findClass "com/example/incarico/incarico/protocol/ApiKeySupportsPinLaw" = some m.cls := findClass_of_methodNamed Bd.named
  have hnm := (name_of_methodNamed Bd.named Bd.method).1
  have X0 : Stand p l e ({ frames := 0, cells := 0, slots := 0, locals := 0 } : Room) s m #[(.int p0)] below meth c s₁ [] 0 0 := Stand.of_body Bd
  have e0 : s₁.heap = h0 := by rw [← hh, Bd.state]; rfl
  have N0 := Fr.nil n0
  obtain ⟨P, pre0, fin⟩ : ∃ P : State → Prop, (∀ t, Steps p.tables e below (s₁.setTop (mkF m 0 #[.val (.int p0)] [])) t → P t) ∧ (∀ t, P t → Steps p.tables e below (s₁.setTop (entryFrame m #[(.int p0)] 1)) t) := ⟨fun t => Steps p.tables e below (s₁.setTop (entryFrame m #[(.int p0)] 1)) t, fun t k => castTop (ef_1 m p0) k, fun t k => k⟩
  have K0 : Keep h0 h0 [] := Keep.refl _ _
  have pre1 : ∀ t, Steps p.tables e below (s₁.setTop (mkF m 1 #[.val (.int p0)] [(.int p0)])) t → P t := fun t k => pre0 t (by
      show Steps p.tables e below (s₁.setTop (mkF m 0 #[.val (.int p0)] [])) _
      refine XS.iloadN X0.here hx rfl (hb hby d1_0) rfl ?_
      exact k)
  by_cases hc2 : p0 = (0 : Int32)
  · have pre3 : ∀ t, Steps p.tables e below (s₁.setTop (mkF m 5 #[.val (.int p0)] [(.int (1 : Int32))])) t → P t := fun t k => pre1 t (by
        show Steps p.tables e below (s₁.setTop (mkF m 1 #[.val (.int p0)] [(.int p0)])) _
        refine XS.ifNo X0.here hx rfl (hb hby d1_1) rfl ((if0 _ _).trans (teq hc2).2) ?_
        show Steps p.tables e below (s₁.setTop (mkF m 4 #[.val (.int p0)] [])) _
        refine XS.iconst X0.here hx rfl (hb hby d1_4) ?_
        exact k)
    obtain ⟨fs, hr, hrun, hended, hW, hsame⟩ := X0.leave (v := some (.int (1 : Int32))) (fun h => by rw [Bd.returns] at h; cases h)
    refine ⟨_, _, fin _ (pre3 _ ?_), hrun, hended, _, _, rfl, ?_, ⟨_, rfl⟩, hW, hsame.mono (by decide) (by decide)⟩
    · show Steps p.tables e below (s₁.setTop (mkF m 5 #[.val (.int p0)] [(.int (1 : Int32))])) _
      exact retI X0 hx Bd.returns (hb hby d1_5) hr
    · show Q1 Z p0 h0 n0 _ s₁.heap _
      rw [e0]
      exact ⟨(by first | (unfold own_f1; rw [if_pos hc2]; done) | simp only [own_f1, if_pos hc2] | simp [own_f1, if_pos hc2]), N0, rfl⟩
  · have pre4 : ∀ t, Steps p.tables e below (s₁.setTop (mkF m 8 #[.val (.int p0)] [(.int (1 : Int32)), (.int p0)])) t → P t := fun t k => pre1 t (by
        show Steps p.tables e below (s₁.setTop (mkF m 1 #[.val (.int p0)] [(.int p0)])) _
        refine XS.ifYes X0.here hx rfl (pc0 := 1) (pc' := 6) rfl (hb hby d1_1) rfl ((if0 _ _).trans (feq hc2).2) (by decide) (by decide) ?_
        show Steps p.tables e below (s₁.setTop (mkF m 6 #[.val (.int p0)] [])) _
        refine XS.iloadN X0.here hx rfl (hb hby d1_6) rfl ?_
        show Steps p.tables e below (s₁.setTop (mkF m 7 #[.val (.int p0)] [(.int p0)])) _
        refine XS.iconst X0.here hx rfl (hb hby d1_7) ?_
        exact k)
    by_cases hc5 : p0 = (1 : Int32)
    · have pre6 : ∀ t, Steps p.tables e below (s₁.setTop (mkF m 12 #[.val (.int p0)] [(.int (2 : Int32))])) t → P t := fun t k => pre4 t (by
          show Steps p.tables e below (s₁.setTop (mkF m 8 #[.val (.int p0)] [(.int (1 : Int32)), (.int p0)])) _
          refine XS.icmpNo X0.here hx rfl (hb hby d1_8) rfl (teq hc5).2 ?_
          show Steps p.tables e below (s₁.setTop (mkF m 11 #[.val (.int p0)] [])) _
          refine XS.iconst X0.here hx rfl (hb hby d1_11) ?_
          exact k)
      obtain ⟨fs, hr, hrun, hended, hW, hsame⟩ := X0.leave (v := some (.int (2 : Int32))) (fun h => by rw [Bd.returns] at h; cases h)
      refine ⟨_, _, fin _ (pre6 _ ?_), hrun, hended, _, _, rfl, ?_, ⟨_, rfl⟩, hW, hsame.mono (by decide) (by decide)⟩
      · show Steps p.tables e below (s₁.setTop (mkF m 12 #[.val (.int p0)] [(.int (2 : Int32))])) _
        exact retI X0 hx Bd.returns (hb hby d1_12) hr
      · show Q1 Z p0 h0 n0 _ s₁.heap _
        rw [e0]
        exact ⟨(by first | (unfold own_f1; rw [if_neg hc2, if_pos hc5]; done) | simp only [own_f1, if_neg hc2, if_pos hc5] | simp [own_f1, if_neg hc2, if_pos hc5]), N0, rfl⟩
    · have pre7 : ∀ t, Steps p.tables e below (s₁.setTop (mkF m 15 #[.val (.int p0)] [(.int (2 : Int32)), (.int p0)])) t → P t := fun t k => pre4 t (by
          show Steps p.tables e below (s₁.setTop (mkF m 8 #[.val (.int p0)] [(.int (1 : Int32)), (.int p0)])) _
          refine XS.icmpYes X0.here hx rfl (pc0 := 8) (pc' := 13) rfl (hb hby d1_8) rfl (feq hc5).2 (by decide) (by decide) ?_
          show Steps p.tables e below (s₁.setTop (mkF m 13 #[.val (.int p0)] [])) _
          refine XS.iloadN X0.here hx rfl (hb hby d1_13) rfl ?_
          show Steps p.tables e below (s₁.setTop (mkF m 14 #[.val (.int p0)] [(.int p0)])) _
          refine XS.iconst X0.here hx rfl (hb hby d1_14) ?_
          exact k)
      by_cases hc8 : p0 = (2 : Int32)
      · have pre9 : ∀ t, Steps p.tables e below (s₁.setTop (mkF m 19 #[.val (.int p0)] [(.int (1 : Int32))])) t → P t := fun t k => pre7 t (by
            show Steps p.tables e below (s₁.setTop (mkF m 15 #[.val (.int p0)] [(.int (2 : Int32)), (.int p0)])) _
            refine XS.icmpNo X0.here hx rfl (hb hby d1_15) rfl (teq hc8).2 ?_
            show Steps p.tables e below (s₁.setTop (mkF m 18 #[.val (.int p0)] [])) _
            refine XS.iconst X0.here hx rfl (hb hby d1_18) ?_
            exact k)
        obtain ⟨fs, hr, hrun, hended, hW, hsame⟩ := X0.leave (v := some (.int (1 : Int32))) (fun h => by rw [Bd.returns] at h; cases h)
        refine ⟨_, _, fin _ (pre9 _ ?_), hrun, hended, _, _, rfl, ?_, ⟨_, rfl⟩, hW, hsame.mono (by decide) (by decide)⟩
        · show Steps p.tables e below (s₁.setTop (mkF m 19 #[.val (.int p0)] [(.int (1 : Int32))])) _
          exact retI X0 hx Bd.returns (hb hby d1_19) hr
        · show Q1 Z p0 h0 n0 _ s₁.heap _
          rw [e0]
          exact ⟨(by first | (unfold own_f1; rw [if_neg hc2, if_neg hc5, if_pos hc8]; done) | simp only [own_f1, if_neg hc2, if_neg hc5, if_pos hc8] | simp [own_f1, if_neg hc2, if_neg hc5, if_pos hc8]), N0, rfl⟩
      · have pre10 : ∀ t, Steps p.tables e below (s₁.setTop (mkF m 21 #[.val (.int p0)] [(.int (0 : Int32))])) t → P t := fun t k => pre7 t (by
            show Steps p.tables e below (s₁.setTop (mkF m 15 #[.val (.int p0)] [(.int (2 : Int32)), (.int p0)])) _
            refine XS.icmpYes X0.here hx rfl (pc0 := 15) (pc' := 20) rfl (hb hby d1_15) rfl (feq hc8).2 (by decide) (by decide) ?_
            show Steps p.tables e below (s₁.setTop (mkF m 20 #[.val (.int p0)] [])) _
            refine XS.iconst X0.here hx rfl (hb hby d1_20) ?_
            exact k)
        obtain ⟨fs, hr, hrun, hended, hW, hsame⟩ := X0.leave (v := some (.int (0 : Int32))) (fun h => by rw [Bd.returns] at h; cases h)
        refine ⟨_, _, fin _ (pre10 _ ?_), hrun, hended, _, _, rfl, ?_, ⟨_, rfl⟩, hW, hsame.mono (by decide) (by decide)⟩
        · show Steps p.tables e below (s₁.setTop (mkF m 21 #[.val (.int p0)] [(.int (0 : Int32))])) _
          exact retI X0 hx Bd.returns (hb hby d1_21) hr
        · show Q1 Z p0 h0 n0 _ s₁.heap _
          rw [e0]
          exact ⟨(by first | (unfold own_f1; rw [if_neg hc2, if_neg hc5, if_neg hc8]; done) | simp only [own_f1, if_neg hc2, if_neg hc5, if_neg hc8] | simp [own_f1, if_neg hc2, if_neg hc5, if_neg hc8]), N0, rfl⟩
theorem d2_0 : decode method_4_code 0 = .ok (.iload_n 0, 1) := by decide +kernel
theorem d2_1 : decode method_4_code 1 = .ok (.ifCond .ne 6, 3) := by decide +kernel
theorem d2_4 : decode method_4_code 4 = .ok (.bipush 13, 2) := by decide +kernel
theorem d2_6 : decode method_4_code 6 = .ok (.ireturn, 1) := by decide +kernel
theorem d2_7 : decode method_4_code 7 = .ok (.iload_n 0, 1) := by decide +kernel
theorem d2_8 : decode method_4_code 8 = .ok (.iconst 1, 1) := by decide +kernel
theorem d2_9 : decode method_4_code 9 = .ok (.if_icmp .ne 6, 3) := by decide +kernel
theorem d2_12 : decode method_4_code 12 = .ok (.bipush 10, 2) := by decide +kernel
theorem d2_14 : decode method_4_code 14 = .ok (.ireturn, 1) := by decide +kernel
theorem d2_15 : decode method_4_code 15 = .ok (.iload_n 0, 1) := by decide +kernel
theorem d2_16 : decode method_4_code 16 = .ok (.iconst 2, 1) := by decide +kernel
theorem d2_17 : decode method_4_code 17 = .ok (.if_icmp .ne 6, 3) := by decide +kernel
theorem d2_20 : decode method_4_code 20 = .ok (.bipush 10, 2) := by decide +kernel
theorem d2_22 : decode method_4_code 22 = .ok (.ireturn, 1) := by decide +kernel
theorem d2_23 : decode method_4_code 23 = .ok (.iload_n 0, 1) := by decide +kernel
theorem d2_24 : decode method_4_code 24 = .ok (.iconst 3, 1) := by decide +kernel
theorem d2_25 : decode method_4_code 25 = .ok (.if_icmp .ne 6, 3) := by decide +kernel
theorem d2_28 : decode method_4_code 28 = .ok (.bipush 6, 2) := by decide +kernel
theorem d2_30 : decode method_4_code 30 = .ok (.ireturn, 1) := by decide +kernel
theorem d2_31 : decode method_4_code 31 = .ok (.iload_n 0, 1) := by decide +kernel
theorem d2_32 : decode method_4_code 32 = .ok (.iconst 4, 1) := by decide +kernel
theorem d2_33 : decode method_4_code 33 = .ok (.if_icmp .ne 6, 3) := by decide +kernel
theorem d2_36 : decode method_4_code 36 = .ok (.bipush 9, 2) := by decide +kernel
theorem d2_38 : decode method_4_code 38 = .ok (.ireturn, 1) := by decide +kernel
theorem d2_39 : decode method_4_code 39 = .ok (.iload_n 0, 1) := by decide +kernel
theorem d2_40 : decode method_4_code 40 = .ok (.iconst 5, 1) := by decide +kernel
theorem d2_41 : decode method_4_code 41 = .ok (.if_icmp .ne 5, 3) := by decide +kernel
theorem d2_44 : decode method_4_code 44 = .ok (.iconst 4, 1) := by decide +kernel
theorem d2_45 : decode method_4_code 45 = .ok (.ireturn, 1) := by decide +kernel
theorem d2_46 : decode method_4_code 46 = .ok (.iload_n 0, 1) := by decide +kernel
theorem d2_47 : decode method_4_code 47 = .ok (.bipush 6, 2) := by decide +kernel
theorem d2_49 : decode method_4_code 49 = .ok (.if_icmp .ne 5, 3) := by decide +kernel
theorem d2_52 : decode method_4_code 52 = .ok (.iconst 5, 1) := by decide +kernel
theorem d2_53 : decode method_4_code 53 = .ok (.ireturn, 1) := by decide +kernel
theorem d2_54 : decode method_4_code 54 = .ok (.iload_n 0, 1) := by decide +kernel
theorem d2_55 : decode method_4_code 55 = .ok (.bipush 7, 2) := by decide +kernel
theorem d2_57 : decode method_4_code 57 = .ok (.if_icmp .ne 5, 3) := by decide +kernel
theorem d2_60 : decode method_4_code 60 = .ok (.iconst 5, 1) := by decide +kernel
theorem d2_61 : decode method_4_code 61 = .ok (.ireturn, 1) := by decide +kernel
theorem d2_62 : decode method_4_code 62 = .ok (.iload_n 0, 1) := by decide +kernel
theorem d2_63 : decode method_4_code 63 = .ok (.bipush 8, 2) := by decide +kernel
theorem d2_65 : decode method_4_code 65 = .ok (.if_icmp .ne 6, 3) := by decide +kernel
theorem d2_68 : decode method_4_code 68 = .ok (.bipush 6, 2) := by decide +kernel
theorem d2_70 : decode method_4_code 70 = .ok (.ireturn, 1) := by decide +kernel
theorem d2_71 : decode method_4_code 71 = .ok (.iload_n 0, 1) := by decide +kernel
theorem d2_72 : decode method_4_code 72 = .ok (.bipush 9, 2) := by decide +kernel
theorem d2_74 : decode method_4_code 74 = .ok (.if_icmp .ne 5, 3) := by decide +kernel
theorem d2_77 : decode method_4_code 77 = .ok (.iconst 5, 1) := by decide +kernel
theorem d2_78 : decode method_4_code 78 = .ok (.ireturn, 1) := by decide +kernel
theorem d2_79 : decode method_4_code 79 = .ok (.iload_n 0, 1) := by decide +kernel
theorem d2_80 : decode method_4_code 80 = .ok (.bipush 10, 2) := by decide +kernel
theorem d2_82 : decode method_4_code 82 = .ok (.if_icmp .ne 5, 3) := by decide +kernel
theorem d2_85 : decode method_4_code 85 = .ok (.iconst 4, 1) := by decide +kernel
theorem d2_86 : decode method_4_code 86 = .ok (.ireturn, 1) := by decide +kernel
theorem d2_87 : decode method_4_code 87 = .ok (.iload_n 0, 1) := by decide +kernel
theorem d2_88 : decode method_4_code 88 = .ok (.bipush 11, 2) := by decide +kernel
theorem d2_90 : decode method_4_code 90 = .ok (.if_icmp .ne 5, 3) := by decide +kernel
theorem d2_93 : decode method_4_code 93 = .ok (.iconst 3, 1) := by decide +kernel
theorem d2_94 : decode method_4_code 94 = .ok (.ireturn, 1) := by decide +kernel
theorem d2_95 : decode method_4_code 95 = .ok (.iload_n 0, 1) := by decide +kernel
theorem d2_96 : decode method_4_code 96 = .ok (.bipush 12, 2) := by decide +kernel
theorem d2_98 : decode method_4_code 98 = .ok (.if_icmp .ne 5, 3) := by decide +kernel
theorem d2_101 : decode method_4_code 101 = .ok (.iconst 2, 1) := by decide +kernel
theorem d2_102 : decode method_4_code 102 = .ok (.ireturn, 1) := by decide +kernel
theorem d2_103 : decode method_4_code 103 = .ok (.iload_n 0, 1) := by decide +kernel
theorem d2_104 : decode method_4_code 104 = .ok (.bipush 13, 2) := by decide +kernel
theorem d2_106 : decode method_4_code 106 = .ok (.if_icmp .ne 5, 3) := by decide +kernel
theorem d2_109 : decode method_4_code 109 = .ok (.iconst 0, 1) := by decide +kernel
theorem d2_110 : decode method_4_code 110 = .ok (.ireturn, 1) := by decide +kernel
theorem d2_111 : decode method_4_code 111 = .ok (.iconst 1, 1) := by decide +kernel
theorem d2_112 : decode method_4_code 112 = .ok (.ireturn, 1) := by decide +kernel
theorem pn_2 : plainName "com/example/incarico/incarico/protocol/ApiKeySupportsPinLaw" = true := by first | (simp [plainName, overriddenIn]; done) | decide +kernel
theorem ef_2 (m : MethodId) (p0 : Int32) : entryFrame m #[(.int p0)] 1 = mkF m 0 #[.val (.int p0)] [] := by first | (simp [entryFrame, mkF, argsToLocals, Value.category]; done) | rfl
def own_f2 (p0 : Int32) : Int32 := (if p0 = (0 : Int32) then (13 : Int32) else (if p0 = (1 : Int32) then (10 : Int32) else (if p0 = (2 : Int32) then (10 : Int32) else (if p0 = (3 : Int32) then (6 : Int32) else (if p0 = (4 : Int32) then (9 : Int32) else (if p0 = (5 : Int32) then (4 : Int32) else (if p0 = (6 : Int32) then (5 : Int32) else (if p0 = (7 : Int32) then (5 : Int32) else (if p0 = (8 : Int32) then (6 : Int32) else (if p0 = (9 : Int32) then (5 : Int32) else (if p0 = (10 : Int32) then (4 : Int32) else (if p0 = (11 : Int32) then (3 : Int32) else (if p0 = (12 : Int32) then (2 : Int32) else (if p0 = (13 : Int32) then (0 : Int32) else (1 : Int32)))))))))))))))
def Q2 (Z : State) (p0 : Int32) (h0 : Heap) (n0 : Nat) (v : Option Value) (h : Heap) (L : List Loc) : Prop := v = some (.int (own_f2 p0)) ∧ Fr n0 L ∧ h = h0
set_option maxRecDepth 65536 in
set_option maxHeartbeats 40000000 in
theorem rm2 (l : Launch) (Z : State) (a0 : Array Value) (hw : ∀ d ∈ tables_1, d.before a0 Z = true) (ws : List Jvm.Cond) (p0 : Int32) (h0 : Heap) (n0 : Nat) (Z0 : n0 ≤ h0.size) :
    MetFree l (⟨"com/example/incarico/incarico/protocol/ApiKeySupportsPinLaw", "highOf", "(I)I"⟩ : MethodName) (head1 (Jvm.Cond.code (⟨"com/example/incarico/incarico/protocol/ApiKeySupportsPinLaw", "highOf", "(I)I"⟩ : MethodName) method_4_code 1 (some .int) :: ws) ({ frames := 0, cells := 0, slots := 0, locals := 0 } : Room)) (fun a U => a = #[(.int p0)] ∧ Z.Warmed39 U.vm ∧ U.heap = h0) (fun _ _ _ _ _ => True) (fun _ U o U' => ∃ v L, o = .returned v ∧ Q2 Z p0 h0 n0 v U'.heap L ∧ FrameEnd U o U' L ({ frames := 0, cells := 0, slots := 0, locals := 0 } : Room).cells ({ frames := 0, cells := 0, slots := 0, locals := 0 } : Room).slots) := by
  refine MetFree.of_bodySF (plainFor_of_name pn_2) hisR ?_
  intro p e s m args below meth c s₁ Bd hml0 hP hK
  obtain ⟨rfl, hZ, hh⟩ := hP
  have hx := Bd.exec
  have hby := Bd.bytes
  have hml : c.maxLocals = 1 := hml0
  have hown : s.vm.findClass "com/example/incarico/incarico/protocol/ApiKeySupportsPinLaw" = some m.cls := findClass_of_methodNamed Bd.named
  have hnm := (name_of_methodNamed Bd.named Bd.method).1
  have X0 : Stand p l e ({ frames := 0, cells := 0, slots := 0, locals := 0 } : Room) s m #[(.int p0)] below meth c s₁ [] 0 0 := Stand.of_body Bd
  have e0 : s₁.heap = h0 := by rw [← hh, Bd.state]; rfl
  have N0 := Fr.nil n0
  obtain ⟨P, pre0, fin⟩ : ∃ P : State → Prop, (∀ t, Steps p.tables e below (s₁.setTop (mkF m 0 #[.val (.int p0)] [])) t → P t) ∧ (∀ t, P t → Steps p.tables e below (s₁.setTop (entryFrame m #[(.int p0)] 1)) t) := ⟨fun t => Steps p.tables e below (s₁.setTop (entryFrame m #[(.int p0)] 1)) t, fun t k => castTop (ef_2 m p0) k, fun t k => k⟩
  have K0 : Keep h0 h0 [] := Keep.refl _ _
  have pre1 : ∀ t, Steps p.tables e below (s₁.setTop (mkF m 1 #[.val (.int p0)] [(.int p0)])) t → P t := fun t k => pre0 t (by
      show Steps p.tables e below (s₁.setTop (mkF m 0 #[.val (.int p0)] [])) _
      refine XS.iloadN X0.here hx rfl (hb hby d2_0) rfl ?_
      exact k)
  by_cases hc2 : p0 = (0 : Int32)
  · have pre3 : ∀ t, Steps p.tables e below (s₁.setTop (mkF m 6 #[.val (.int p0)] [(.int (13 : Int32))])) t → P t := fun t k => pre1 t (by
        show Steps p.tables e below (s₁.setTop (mkF m 1 #[.val (.int p0)] [(.int p0)])) _
        refine XS.ifNo X0.here hx rfl (hb hby d2_1) rfl ((if0 _ _).trans (teq hc2).2) ?_
        show Steps p.tables e below (s₁.setTop (mkF m 4 #[.val (.int p0)] [])) _
        refine XS.bipush X0.here hx rfl (hb hby d2_4) ?_
        exact k)
    obtain ⟨fs, hr, hrun, hended, hW, hsame⟩ := X0.leave (v := some (.int (13 : Int32))) (fun h => by rw [Bd.returns] at h; cases h)
    refine ⟨_, _, fin _ (pre3 _ ?_), hrun, hended, _, _, rfl, ?_, ⟨_, rfl⟩, hW, hsame.mono (by decide) (by decide)⟩
    · show Steps p.tables e below (s₁.setTop (mkF m 6 #[.val (.int p0)] [(.int (13 : Int32))])) _
      exact retI X0 hx Bd.returns (hb hby d2_6) hr
    · show Q2 Z p0 h0 n0 _ s₁.heap _
      rw [e0]
      exact ⟨(by first | (unfold own_f2; rw [if_pos hc2]; done) | simp only [own_f2, if_pos hc2] | simp [own_f2, if_pos hc2]), N0, rfl⟩
  · have pre4 : ∀ t, Steps p.tables e below (s₁.setTop (mkF m 9 #[.val (.int p0)] [(.int (1 : Int32)), (.int p0)])) t → P t := fun t k => pre1 t (by
        show Steps p.tables e below (s₁.setTop (mkF m 1 #[.val (.int p0)] [(.int p0)])) _
        refine XS.ifYes X0.here hx rfl (pc0 := 1) (pc' := 7) rfl (hb hby d2_1) rfl ((if0 _ _).trans (feq hc2).2) (by decide) (by decide) ?_
        show Steps p.tables e below (s₁.setTop (mkF m 7 #[.val (.int p0)] [])) _
        refine XS.iloadN X0.here hx rfl (hb hby d2_7) rfl ?_
        show Steps p.tables e below (s₁.setTop (mkF m 8 #[.val (.int p0)] [(.int p0)])) _
        refine XS.iconst X0.here hx rfl (hb hby d2_8) ?_
        exact k)
    by_cases hc5 : p0 = (1 : Int32)
    · have pre6 : ∀ t, Steps p.tables e below (s₁.setTop (mkF m 14 #[.val (.int p0)] [(.int (10 : Int32))])) t → P t := fun t k => pre4 t (by
          show Steps p.tables e below (s₁.setTop (mkF m 9 #[.val (.int p0)] [(.int (1 : Int32)), (.int p0)])) _
          refine XS.icmpNo X0.here hx rfl (hb hby d2_9) rfl (teq hc5).2 ?_
          show Steps p.tables e below (s₁.setTop (mkF m 12 #[.val (.int p0)] [])) _
          refine XS.bipush X0.here hx rfl (hb hby d2_12) ?_
          exact k)
      obtain ⟨fs, hr, hrun, hended, hW, hsame⟩ := X0.leave (v := some (.int (10 : Int32))) (fun h => by rw [Bd.returns] at h; cases h)
      refine ⟨_, _, fin _ (pre6 _ ?_), hrun, hended, _, _, rfl, ?_, ⟨_, rfl⟩, hW, hsame.mono (by decide) (by decide)⟩
      · show Steps p.tables e below (s₁.setTop (mkF m 14 #[.val (.int p0)] [(.int (10 : Int32))])) _
        exact retI X0 hx Bd.returns (hb hby d2_14) hr
      · show Q2 Z p0 h0 n0 _ s₁.heap _
        rw [e0]
        exact ⟨(by first | (unfold own_f2; rw [if_neg hc2, if_pos hc5]; done) | simp only [own_f2, if_neg hc2, if_pos hc5] | simp [own_f2, if_neg hc2, if_pos hc5]), N0, rfl⟩
    · have pre7 : ∀ t, Steps p.tables e below (s₁.setTop (mkF m 17 #[.val (.int p0)] [(.int (2 : Int32)), (.int p0)])) t → P t := fun t k => pre4 t (by
          show Steps p.tables e below (s₁.setTop (mkF m 9 #[.val (.int p0)] [(.int (1 : Int32)), (.int p0)])) _
          refine XS.icmpYes X0.here hx rfl (pc0 := 9) (pc' := 15) rfl (hb hby d2_9) rfl (feq hc5).2 (by decide) (by decide) ?_
          show Steps p.tables e below (s₁.setTop (mkF m 15 #[.val (.int p0)] [])) _
          refine XS.iloadN X0.here hx rfl (hb hby d2_15) rfl ?_
          show Steps p.tables e below (s₁.setTop (mkF m 16 #[.val (.int p0)] [(.int p0)])) _
          refine XS.iconst X0.here hx rfl (hb hby d2_16) ?_
          exact k)
      by_cases hc8 : p0 = (2 : Int32)
      · have pre9 : ∀ t, Steps p.tables e below (s₁.setTop (mkF m 22 #[.val (.int p0)] [(.int (10 : Int32))])) t → P t := fun t k => pre7 t (by
            show Steps p.tables e below (s₁.setTop (mkF m 17 #[.val (.int p0)] [(.int (2 : Int32)), (.int p0)])) _
            refine XS.icmpNo X0.here hx rfl (hb hby d2_17) rfl (teq hc8).2 ?_
            show Steps p.tables e below (s₁.setTop (mkF m 20 #[.val (.int p0)] [])) _
            refine XS.bipush X0.here hx rfl (hb hby d2_20) ?_
            exact k)
        obtain ⟨fs, hr, hrun, hended, hW, hsame⟩ := X0.leave (v := some (.int (10 : Int32))) (fun h => by rw [Bd.returns] at h; cases h)
        refine ⟨_, _, fin _ (pre9 _ ?_), hrun, hended, _, _, rfl, ?_, ⟨_, rfl⟩, hW, hsame.mono (by decide) (by decide)⟩
        · show Steps p.tables e below (s₁.setTop (mkF m 22 #[.val (.int p0)] [(.int (10 : Int32))])) _
          exact retI X0 hx Bd.returns (hb hby d2_22) hr
        · show Q2 Z p0 h0 n0 _ s₁.heap _
          rw [e0]
          exact ⟨(by first | (unfold own_f2; rw [if_neg hc2, if_neg hc5, if_pos hc8]; done) | simp only [own_f2, if_neg hc2, if_neg hc5, if_pos hc8] | simp [own_f2, if_neg hc2, if_neg hc5, if_pos hc8]), N0, rfl⟩
      · have pre10 : ∀ t, Steps p.tables e below (s₁.setTop (mkF m 25 #[.val (.int p0)] [(.int (3 : Int32)), (.int p0)])) t → P t := fun t k => pre7 t (by
            show Steps p.tables e below (s₁.setTop (mkF m 17 #[.val (.int p0)] [(.int (2 : Int32)), (.int p0)])) _
            refine XS.icmpYes X0.here hx rfl (pc0 := 17) (pc' := 23) rfl (hb hby d2_17) rfl (feq hc8).2 (by decide) (by decide) ?_
            show Steps p.tables e below (s₁.setTop (mkF m 23 #[.val (.int p0)] [])) _
            refine XS.iloadN X0.here hx rfl (hb hby d2_23) rfl ?_
            show Steps p.tables e below (s₁.setTop (mkF m 24 #[.val (.int p0)] [(.int p0)])) _
            refine XS.iconst X0.here hx rfl (hb hby d2_24) ?_
            exact k)
        by_cases hc11 : p0 = (3 : Int32)
        · have pre12 : ∀ t, Steps p.tables e below (s₁.setTop (mkF m 30 #[.val (.int p0)] [(.int (6 : Int32))])) t → P t := fun t k => pre10 t (by
              show Steps p.tables e below (s₁.setTop (mkF m 25 #[.val (.int p0)] [(.int (3 : Int32)), (.int p0)])) _
              refine XS.icmpNo X0.here hx rfl (hb hby d2_25) rfl (teq hc11).2 ?_
              show Steps p.tables e below (s₁.setTop (mkF m 28 #[.val (.int p0)] [])) _
              refine XS.bipush X0.here hx rfl (hb hby d2_28) ?_
              exact k)
          obtain ⟨fs, hr, hrun, hended, hW, hsame⟩ := X0.leave (v := some (.int (6 : Int32))) (fun h => by rw [Bd.returns] at h; cases h)
          refine ⟨_, _, fin _ (pre12 _ ?_), hrun, hended, _, _, rfl, ?_, ⟨_, rfl⟩, hW, hsame.mono (by decide) (by decide)⟩
          · show Steps p.tables e below (s₁.setTop (mkF m 30 #[.val (.int p0)] [(.int (6 : Int32))])) _
            exact retI X0 hx Bd.returns (hb hby d2_30) hr
          · show Q2 Z p0 h0 n0 _ s₁.heap _
            rw [e0]
            exact ⟨(by first | (unfold own_f2; rw [if_neg hc2, if_neg hc5, if_neg hc8, if_pos hc11]; done) | simp only [own_f2, if_neg hc2, if_neg hc5, if_neg hc8, if_pos hc11] | simp [own_f2, if_neg hc2, if_neg hc5, if_neg hc8, if_pos hc11]), N0, rfl⟩
        · have pre13 : ∀ t, Steps p.tables e below (s₁.setTop (mkF m 33 #[.val (.int p0)] [(.int (4 : Int32)), (.int p0)])) t → P t := fun t k => pre10 t (by
              show Steps p.tables e below (s₁.setTop (mkF m 25 #[.val (.int p0)] [(.int (3 : Int32)), (.int p0)])) _
              refine XS.icmpYes X0.here hx rfl (pc0 := 25) (pc' := 31) rfl (hb hby d2_25) rfl (feq hc11).2 (by decide) (by decide) ?_
              show Steps p.tables e below (s₁.setTop (mkF m 31 #[.val (.int p0)] [])) _
              refine XS.iloadN X0.here hx rfl (hb hby d2_31) rfl ?_
              show Steps p.tables e below (s₁.setTop (mkF m 32 #[.val (.int p0)] [(.int p0)])) _
              refine XS.iconst X0.here hx rfl (hb hby d2_32) ?_
              exact k)
          by_cases hc14 : p0 = (4 : Int32)
          · have pre15 : ∀ t, Steps p.tables e below (s₁.setTop (mkF m 38 #[.val (.int p0)] [(.int (9 : Int32))])) t → P t := fun t k => pre13 t (by
                show Steps p.tables e below (s₁.setTop (mkF m 33 #[.val (.int p0)] [(.int (4 : Int32)), (.int p0)])) _
                refine XS.icmpNo X0.here hx rfl (hb hby d2_33) rfl (teq hc14).2 ?_
                show Steps p.tables e below (s₁.setTop (mkF m 36 #[.val (.int p0)] [])) _
                refine XS.bipush X0.here hx rfl (hb hby d2_36) ?_
                exact k)
            obtain ⟨fs, hr, hrun, hended, hW, hsame⟩ := X0.leave (v := some (.int (9 : Int32))) (fun h => by rw [Bd.returns] at h; cases h)
            refine ⟨_, _, fin _ (pre15 _ ?_), hrun, hended, _, _, rfl, ?_, ⟨_, rfl⟩, hW, hsame.mono (by decide) (by decide)⟩
            · show Steps p.tables e below (s₁.setTop (mkF m 38 #[.val (.int p0)] [(.int (9 : Int32))])) _
              exact retI X0 hx Bd.returns (hb hby d2_38) hr
            · show Q2 Z p0 h0 n0 _ s₁.heap _
              rw [e0]
              exact ⟨(by first | (unfold own_f2; rw [if_neg hc2, if_neg hc5, if_neg hc8, if_neg hc11, if_pos hc14]; done) | simp only [own_f2, if_neg hc2, if_neg hc5, if_neg hc8, if_neg hc11, if_pos hc14] | simp [own_f2, if_neg hc2, if_neg hc5, if_neg hc8, if_neg hc11, if_pos hc14]), N0, rfl⟩
          · have pre16 : ∀ t, Steps p.tables e below (s₁.setTop (mkF m 41 #[.val (.int p0)] [(.int (5 : Int32)), (.int p0)])) t → P t := fun t k => pre13 t (by
                show Steps p.tables e below (s₁.setTop (mkF m 33 #[.val (.int p0)] [(.int (4 : Int32)), (.int p0)])) _
                refine XS.icmpYes X0.here hx rfl (pc0 := 33) (pc' := 39) rfl (hb hby d2_33) rfl (feq hc14).2 (by decide) (by decide) ?_
                show Steps p.tables e below (s₁.setTop (mkF m 39 #[.val (.int p0)] [])) _
                refine XS.iloadN X0.here hx rfl (hb hby d2_39) rfl ?_
                show Steps p.tables e below (s₁.setTop (mkF m 40 #[.val (.int p0)] [(.int p0)])) _
                refine XS.iconst X0.here hx rfl (hb hby d2_40) ?_
                exact k)
            by_cases hc17 : p0 = (5 : Int32)
            · have pre18 : ∀ t, Steps p.tables e below (s₁.setTop (mkF m 45 #[.val (.int p0)] [(.int (4 : Int32))])) t → P t := fun t k => pre16 t (by
                  show Steps p.tables e below (s₁.setTop (mkF m 41 #[.val (.int p0)] [(.int (5 : Int32)), (.int p0)])) _
                  refine XS.icmpNo X0.here hx rfl (hb hby d2_41) rfl (teq hc17).2 ?_
                  show Steps p.tables e below (s₁.setTop (mkF m 44 #[.val (.int p0)] [])) _
                  refine XS.iconst X0.here hx rfl (hb hby d2_44) ?_
                  exact k)
              obtain ⟨fs, hr, hrun, hended, hW, hsame⟩ := X0.leave (v := some (.int (4 : Int32))) (fun h => by rw [Bd.returns] at h; cases h)
              refine ⟨_, _, fin _ (pre18 _ ?_), hrun, hended, _, _, rfl, ?_, ⟨_, rfl⟩, hW, hsame.mono (by decide) (by decide)⟩
              · show Steps p.tables e below (s₁.setTop (mkF m 45 #[.val (.int p0)] [(.int (4 : Int32))])) _
                exact retI X0 hx Bd.returns (hb hby d2_45) hr
              · show Q2 Z p0 h0 n0 _ s₁.heap _
                rw [e0]
                exact ⟨(by first | (unfold own_f2; rw [if_neg hc2, if_neg hc5, if_neg hc8, if_neg hc11, if_neg hc14, if_pos hc17]; done) | simp only [own_f2, if_neg hc2, if_neg hc5, if_neg hc8, if_neg hc11, if_neg hc14, if_pos hc17] | simp [own_f2, if_neg hc2, if_neg hc5, if_neg hc8, if_neg hc11, if_neg hc14, if_pos hc17]), N0, rfl⟩
            · have pre19 : ∀ t, Steps p.tables e below (s₁.setTop (mkF m 49 #[.val (.int p0)] [(.int (6 : Int32)), (.int p0)])) t → P t := fun t k => pre16 t (by
                  show Steps p.tables e below (s₁.setTop (mkF m 41 #[.val (.int p0)] [(.int (5 : Int32)), (.int p0)])) _
                  refine XS.icmpYes X0.here hx rfl (pc0 := 41) (pc' := 46) rfl (hb hby d2_41) rfl (feq hc17).2 (by decide) (by decide) ?_
                  show Steps p.tables e below (s₁.setTop (mkF m 46 #[.val (.int p0)] [])) _
                  refine XS.iloadN X0.here hx rfl (hb hby d2_46) rfl ?_
                  show Steps p.tables e below (s₁.setTop (mkF m 47 #[.val (.int p0)] [(.int p0)])) _
                  refine XS.bipush X0.here hx rfl (hb hby d2_47) ?_
                  exact k)
              by_cases hc20 : p0 = (6 : Int32)
              · have pre21 : ∀ t, Steps p.tables e below (s₁.setTop (mkF m 53 #[.val (.int p0)] [(.int (5 : Int32))])) t → P t := fun t k => pre19 t (by
                    show Steps p.tables e below (s₁.setTop (mkF m 49 #[.val (.int p0)] [(.int (6 : Int32)), (.int p0)])) _
                    refine XS.icmpNo X0.here hx rfl (hb hby d2_49) rfl (teq hc20).2 ?_
                    show Steps p.tables e below (s₁.setTop (mkF m 52 #[.val (.int p0)] [])) _
                    refine XS.iconst X0.here hx rfl (hb hby d2_52) ?_
                    exact k)
                obtain ⟨fs, hr, hrun, hended, hW, hsame⟩ := X0.leave (v := some (.int (5 : Int32))) (fun h => by rw [Bd.returns] at h; cases h)
                refine ⟨_, _, fin _ (pre21 _ ?_), hrun, hended, _, _, rfl, ?_, ⟨_, rfl⟩, hW, hsame.mono (by decide) (by decide)⟩
                · show Steps p.tables e below (s₁.setTop (mkF m 53 #[.val (.int p0)] [(.int (5 : Int32))])) _
                  exact retI X0 hx Bd.returns (hb hby d2_53) hr
                · show Q2 Z p0 h0 n0 _ s₁.heap _
                  rw [e0]
                  exact ⟨(by first | (unfold own_f2; rw [if_neg hc2, if_neg hc5, if_neg hc8, if_neg hc11, if_neg hc14, if_neg hc17, if_pos hc20]; done) | simp only [own_f2, if_neg hc2, if_neg hc5, if_neg hc8, if_neg hc11, if_neg hc14, if_neg hc17, if_pos hc20] | simp [own_f2, if_neg hc2, if_neg hc5, if_neg hc8, if_neg hc11, if_neg hc14, if_neg hc17, if_pos hc20]), N0, rfl⟩
              · have pre22 : ∀ t, Steps p.tables e below (s₁.setTop (mkF m 57 #[.val (.int p0)] [(.int (7 : Int32)), (.int p0)])) t → P t := fun t k => pre19 t (by
                    show Steps p.tables e below (s₁.setTop (mkF m 49 #[.val (.int p0)] [(.int (6 : Int32)), (.int p0)])) _
                    refine XS.icmpYes X0.here hx rfl (pc0 := 49) (pc' := 54) rfl (hb hby d2_49) rfl (feq hc20).2 (by decide) (by decide) ?_
                    show Steps p.tables e below (s₁.setTop (mkF m 54 #[.val (.int p0)] [])) _
                    refine XS.iloadN X0.here hx rfl (hb hby d2_54) rfl ?_
                    show Steps p.tables e below (s₁.setTop (mkF m 55 #[.val (.int p0)] [(.int p0)])) _
                    refine XS.bipush X0.here hx rfl (hb hby d2_55) ?_
                    exact k)
                by_cases hc23 : p0 = (7 : Int32)
                · have pre24 : ∀ t, Steps p.tables e below (s₁.setTop (mkF m 61 #[.val (.int p0)] [(.int (5 : Int32))])) t → P t := fun t k => pre22 t (by
                      show Steps p.tables e below (s₁.setTop (mkF m 57 #[.val (.int p0)] [(.int (7 : Int32)), (.int p0)])) _
                      refine XS.icmpNo X0.here hx rfl (hb hby d2_57) rfl (teq hc23).2 ?_
                      show Steps p.tables e below (s₁.setTop (mkF m 60 #[.val (.int p0)] [])) _
                      refine XS.iconst X0.here hx rfl (hb hby d2_60) ?_
                      exact k)
                  obtain ⟨fs, hr, hrun, hended, hW, hsame⟩ := X0.leave (v := some (.int (5 : Int32))) (fun h => by rw [Bd.returns] at h; cases h)
                  refine ⟨_, _, fin _ (pre24 _ ?_), hrun, hended, _, _, rfl, ?_, ⟨_, rfl⟩, hW, hsame.mono (by decide) (by decide)⟩
                  · show Steps p.tables e below (s₁.setTop (mkF m 61 #[.val (.int p0)] [(.int (5 : Int32))])) _
                    exact retI X0 hx Bd.returns (hb hby d2_61) hr
                  · show Q2 Z p0 h0 n0 _ s₁.heap _
                    rw [e0]
                    exact ⟨(by first | (unfold own_f2; rw [if_neg hc2, if_neg hc5, if_neg hc8, if_neg hc11, if_neg hc14, if_neg hc17, if_neg hc20, if_pos hc23]; done) | simp only [own_f2, if_neg hc2, if_neg hc5, if_neg hc8, if_neg hc11, if_neg hc14, if_neg hc17, if_neg hc20, if_pos hc23] | simp [own_f2, if_neg hc2, if_neg hc5, if_neg hc8, if_neg hc11, if_neg hc14, if_neg hc17, if_neg hc20, if_pos hc23]), N0, rfl⟩
                · have pre25 : ∀ t, Steps p.tables e below (s₁.setTop (mkF m 65 #[.val (.int p0)] [(.int (8 : Int32)), (.int p0)])) t → P t := fun t k => pre22 t (by
                      show Steps p.tables e below (s₁.setTop (mkF m 57 #[.val (.int p0)] [(.int (7 : Int32)), (.int p0)])) _
                      refine XS.icmpYes X0.here hx rfl (pc0 := 57) (pc' := 62) rfl (hb hby d2_57) rfl (feq hc23).2 (by decide) (by decide) ?_
                      show Steps p.tables e below (s₁.setTop (mkF m 62 #[.val (.int p0)] [])) _
                      refine XS.iloadN X0.here hx rfl (hb hby d2_62) rfl ?_
                      show Steps p.tables e below (s₁.setTop (mkF m 63 #[.val (.int p0)] [(.int p0)])) _
                      refine XS.bipush X0.here hx rfl (hb hby d2_63) ?_
                      exact k)
                  by_cases hc26 : p0 = (8 : Int32)
                  · have pre27 : ∀ t, Steps p.tables e below (s₁.setTop (mkF m 70 #[.val (.int p0)] [(.int (6 : Int32))])) t → P t := fun t k => pre25 t (by
                        show Steps p.tables e below (s₁.setTop (mkF m 65 #[.val (.int p0)] [(.int (8 : Int32)), (.int p0)])) _
                        refine XS.icmpNo X0.here hx rfl (hb hby d2_65) rfl (teq hc26).2 ?_
                        show Steps p.tables e below (s₁.setTop (mkF m 68 #[.val (.int p0)] [])) _
                        refine XS.bipush X0.here hx rfl (hb hby d2_68) ?_
                        exact k)
                    obtain ⟨fs, hr, hrun, hended, hW, hsame⟩ := X0.leave (v := some (.int (6 : Int32))) (fun h => by rw [Bd.returns] at h; cases h)
                    refine ⟨_, _, fin _ (pre27 _ ?_), hrun, hended, _, _, rfl, ?_, ⟨_, rfl⟩, hW, hsame.mono (by decide) (by decide)⟩
                    · show Steps p.tables e below (s₁.setTop (mkF m 70 #[.val (.int p0)] [(.int (6 : Int32))])) _
                      exact retI X0 hx Bd.returns (hb hby d2_70) hr
                    · show Q2 Z p0 h0 n0 _ s₁.heap _
                      rw [e0]
                      exact ⟨(by first | (unfold own_f2; rw [if_neg hc2, if_neg hc5, if_neg hc8, if_neg hc11, if_neg hc14, if_neg hc17, if_neg hc20, if_neg hc23, if_pos hc26]; done) | simp only [own_f2, if_neg hc2, if_neg hc5, if_neg hc8, if_neg hc11, if_neg hc14, if_neg hc17, if_neg hc20, if_neg hc23, if_pos hc26] | simp [own_f2, if_neg hc2, if_neg hc5, if_neg hc8, if_neg hc11, if_neg hc14, if_neg hc17, if_neg hc20, if_neg hc23, if_pos hc26]), N0, rfl⟩
                  · have pre28 : ∀ t, Steps p.tables e below (s₁.setTop (mkF m 74 #[.val (.int p0)] [(.int (9 : Int32)), (.int p0)])) t → P t := fun t k => pre25 t (by
                        show Steps p.tables e below (s₁.setTop (mkF m 65 #[.val (.int p0)] [(.int (8 : Int32)), (.int p0)])) _
                        refine XS.icmpYes X0.here hx rfl (pc0 := 65) (pc' := 71) rfl (hb hby d2_65) rfl (feq hc26).2 (by decide) (by decide) ?_
                        show Steps p.tables e below (s₁.setTop (mkF m 71 #[.val (.int p0)] [])) _
                        refine XS.iloadN X0.here hx rfl (hb hby d2_71) rfl ?_
                        show Steps p.tables e below (s₁.setTop (mkF m 72 #[.val (.int p0)] [(.int p0)])) _
                        refine XS.bipush X0.here hx rfl (hb hby d2_72) ?_
                        exact k)
                    by_cases hc29 : p0 = (9 : Int32)
                    · have pre30 : ∀ t, Steps p.tables e below (s₁.setTop (mkF m 78 #[.val (.int p0)] [(.int (5 : Int32))])) t → P t := fun t k => pre28 t (by
                          show Steps p.tables e below (s₁.setTop (mkF m 74 #[.val (.int p0)] [(.int (9 : Int32)), (.int p0)])) _
                          refine XS.icmpNo X0.here hx rfl (hb hby d2_74) rfl (teq hc29).2 ?_
                          show Steps p.tables e below (s₁.setTop (mkF m 77 #[.val (.int p0)] [])) _
                          refine XS.iconst X0.here hx rfl (hb hby d2_77) ?_
                          exact k)
                      obtain ⟨fs, hr, hrun, hended, hW, hsame⟩ := X0.leave (v := some (.int (5 : Int32))) (fun h => by rw [Bd.returns] at h; cases h)
                      refine ⟨_, _, fin _ (pre30 _ ?_), hrun, hended, _, _, rfl, ?_, ⟨_, rfl⟩, hW, hsame.mono (by decide) (by decide)⟩
                      · show Steps p.tables e below (s₁.setTop (mkF m 78 #[.val (.int p0)] [(.int (5 : Int32))])) _
                        exact retI X0 hx Bd.returns (hb hby d2_78) hr
                      · show Q2 Z p0 h0 n0 _ s₁.heap _
                        rw [e0]
                        exact ⟨(by first | (unfold own_f2; rw [if_neg hc2, if_neg hc5, if_neg hc8, if_neg hc11, if_neg hc14, if_neg hc17, if_neg hc20, if_neg hc23, if_neg hc26, if_pos hc29]; done) | simp only [own_f2, if_neg hc2, if_neg hc5, if_neg hc8, if_neg hc11, if_neg hc14, if_neg hc17, if_neg hc20, if_neg hc23, if_neg hc26, if_pos hc29] | simp [own_f2, if_neg hc2, if_neg hc5, if_neg hc8, if_neg hc11, if_neg hc14, if_neg hc17, if_neg hc20, if_neg hc23, if_neg hc26, if_pos hc29]), N0, rfl⟩
                    · have pre31 : ∀ t, Steps p.tables e below (s₁.setTop (mkF m 82 #[.val (.int p0)] [(.int (10 : Int32)), (.int p0)])) t → P t := fun t k => pre28 t (by
                          show Steps p.tables e below (s₁.setTop (mkF m 74 #[.val (.int p0)] [(.int (9 : Int32)), (.int p0)])) _
                          refine XS.icmpYes X0.here hx rfl (pc0 := 74) (pc' := 79) rfl (hb hby d2_74) rfl (feq hc29).2 (by decide) (by decide) ?_
                          show Steps p.tables e below (s₁.setTop (mkF m 79 #[.val (.int p0)] [])) _
                          refine XS.iloadN X0.here hx rfl (hb hby d2_79) rfl ?_
                          show Steps p.tables e below (s₁.setTop (mkF m 80 #[.val (.int p0)] [(.int p0)])) _
                          refine XS.bipush X0.here hx rfl (hb hby d2_80) ?_
                          exact k)
                      by_cases hc32 : p0 = (10 : Int32)
                      · have pre33 : ∀ t, Steps p.tables e below (s₁.setTop (mkF m 86 #[.val (.int p0)] [(.int (4 : Int32))])) t → P t := fun t k => pre31 t (by
                            show Steps p.tables e below (s₁.setTop (mkF m 82 #[.val (.int p0)] [(.int (10 : Int32)), (.int p0)])) _
                            refine XS.icmpNo X0.here hx rfl (hb hby d2_82) rfl (teq hc32).2 ?_
                            show Steps p.tables e below (s₁.setTop (mkF m 85 #[.val (.int p0)] [])) _
                            refine XS.iconst X0.here hx rfl (hb hby d2_85) ?_
                            exact k)
                        obtain ⟨fs, hr, hrun, hended, hW, hsame⟩ := X0.leave (v := some (.int (4 : Int32))) (fun h => by rw [Bd.returns] at h; cases h)
                        refine ⟨_, _, fin _ (pre33 _ ?_), hrun, hended, _, _, rfl, ?_, ⟨_, rfl⟩, hW, hsame.mono (by decide) (by decide)⟩
                        · show Steps p.tables e below (s₁.setTop (mkF m 86 #[.val (.int p0)] [(.int (4 : Int32))])) _
                          exact retI X0 hx Bd.returns (hb hby d2_86) hr
                        · show Q2 Z p0 h0 n0 _ s₁.heap _
                          rw [e0]
                          exact ⟨(by first | (unfold own_f2; rw [if_neg hc2, if_neg hc5, if_neg hc8, if_neg hc11, if_neg hc14, if_neg hc17, if_neg hc20, if_neg hc23, if_neg hc26, if_neg hc29, if_pos hc32]; done) | simp only [own_f2, if_neg hc2, if_neg hc5, if_neg hc8, if_neg hc11, if_neg hc14, if_neg hc17, if_neg hc20, if_neg hc23, if_neg hc26, if_neg hc29, if_pos hc32] | simp [own_f2, if_neg hc2, if_neg hc5, if_neg hc8, if_neg hc11, if_neg hc14, if_neg hc17, if_neg hc20, if_neg hc23, if_neg hc26, if_neg hc29, if_pos hc32]), N0, rfl⟩
                      · have pre34 : ∀ t, Steps p.tables e below (s₁.setTop (mkF m 90 #[.val (.int p0)] [(.int (11 : Int32)), (.int p0)])) t → P t := fun t k => pre31 t (by
                            show Steps p.tables e below (s₁.setTop (mkF m 82 #[.val (.int p0)] [(.int (10 : Int32)), (.int p0)])) _
                            refine XS.icmpYes X0.here hx rfl (pc0 := 82) (pc' := 87) rfl (hb hby d2_82) rfl (feq hc32).2 (by decide) (by decide) ?_
                            show Steps p.tables e below (s₁.setTop (mkF m 87 #[.val (.int p0)] [])) _
                            refine XS.iloadN X0.here hx rfl (hb hby d2_87) rfl ?_
                            show Steps p.tables e below (s₁.setTop (mkF m 88 #[.val (.int p0)] [(.int p0)])) _
                            refine XS.bipush X0.here hx rfl (hb hby d2_88) ?_
                            exact k)
                        by_cases hc35 : p0 = (11 : Int32)
                        · have pre36 : ∀ t, Steps p.tables e below (s₁.setTop (mkF m 94 #[.val (.int p0)] [(.int (3 : Int32))])) t → P t := fun t k => pre34 t (by
                              show Steps p.tables e below (s₁.setTop (mkF m 90 #[.val (.int p0)] [(.int (11 : Int32)), (.int p0)])) _
                              refine XS.icmpNo X0.here hx rfl (hb hby d2_90) rfl (teq hc35).2 ?_
                              show Steps p.tables e below (s₁.setTop (mkF m 93 #[.val (.int p0)] [])) _
                              refine XS.iconst X0.here hx rfl (hb hby d2_93) ?_
                              exact k)
                          obtain ⟨fs, hr, hrun, hended, hW, hsame⟩ := X0.leave (v := some (.int (3 : Int32))) (fun h => by rw [Bd.returns] at h; cases h)
                          refine ⟨_, _, fin _ (pre36 _ ?_), hrun, hended, _, _, rfl, ?_, ⟨_, rfl⟩, hW, hsame.mono (by decide) (by decide)⟩
                          · show Steps p.tables e below (s₁.setTop (mkF m 94 #[.val (.int p0)] [(.int (3 : Int32))])) _
                            exact retI X0 hx Bd.returns (hb hby d2_94) hr
                          · show Q2 Z p0 h0 n0 _ s₁.heap _
                            rw [e0]
                            exact ⟨(by first | (unfold own_f2; rw [if_neg hc2, if_neg hc5, if_neg hc8, if_neg hc11, if_neg hc14, if_neg hc17, if_neg hc20, if_neg hc23, if_neg hc26, if_neg hc29, if_neg hc32, if_pos hc35]; done) | simp only [own_f2, if_neg hc2, if_neg hc5, if_neg hc8, if_neg hc11, if_neg hc14, if_neg hc17, if_neg hc20, if_neg hc23, if_neg hc26, if_neg hc29, if_neg hc32, if_pos hc35] | simp [own_f2, if_neg hc2, if_neg hc5, if_neg hc8, if_neg hc11, if_neg hc14, if_neg hc17, if_neg hc20, if_neg hc23, if_neg hc26, if_neg hc29, if_neg hc32, if_pos hc35]), N0, rfl⟩
                        · have pre37 : ∀ t, Steps p.tables e below (s₁.setTop (mkF m 98 #[.val (.int p0)] [(.int (12 : Int32)), (.int p0)])) t → P t := fun t k => pre34 t (by
                              show Steps p.tables e below (s₁.setTop (mkF m 90 #[.val (.int p0)] [(.int (11 : Int32)), (.int p0)])) _
                              refine XS.icmpYes X0.here hx rfl (pc0 := 90) (pc' := 95) rfl (hb hby d2_90) rfl (feq hc35).2 (by decide) (by decide) ?_
                              show Steps p.tables e below (s₁.setTop (mkF m 95 #[.val (.int p0)] [])) _
                              refine XS.iloadN X0.here hx rfl (hb hby d2_95) rfl ?_
                              show Steps p.tables e below (s₁.setTop (mkF m 96 #[.val (.int p0)] [(.int p0)])) _
                              refine XS.bipush X0.here hx rfl (hb hby d2_96) ?_
                              exact k)
                          by_cases hc38 : p0 = (12 : Int32)
                          · have pre39 : ∀ t, Steps p.tables e below (s₁.setTop (mkF m 102 #[.val (.int p0)] [(.int (2 : Int32))])) t → P t := fun t k => pre37 t (by
                                show Steps p.tables e below (s₁.setTop (mkF m 98 #[.val (.int p0)] [(.int (12 : Int32)), (.int p0)])) _
                                refine XS.icmpNo X0.here hx rfl (hb hby d2_98) rfl (teq hc38).2 ?_
                                show Steps p.tables e below (s₁.setTop (mkF m 101 #[.val (.int p0)] [])) _
                                refine XS.iconst X0.here hx rfl (hb hby d2_101) ?_
                                exact k)
                            obtain ⟨fs, hr, hrun, hended, hW, hsame⟩ := X0.leave (v := some (.int (2 : Int32))) (fun h => by rw [Bd.returns] at h; cases h)
                            refine ⟨_, _, fin _ (pre39 _ ?_), hrun, hended, _, _, rfl, ?_, ⟨_, rfl⟩, hW, hsame.mono (by decide) (by decide)⟩
                            · show Steps p.tables e below (s₁.setTop (mkF m 102 #[.val (.int p0)] [(.int (2 : Int32))])) _
                              exact retI X0 hx Bd.returns (hb hby d2_102) hr
                            · show Q2 Z p0 h0 n0 _ s₁.heap _
                              rw [e0]
                              exact ⟨(by first | (unfold own_f2; rw [if_neg hc2, if_neg hc5, if_neg hc8, if_neg hc11, if_neg hc14, if_neg hc17, if_neg hc20, if_neg hc23, if_neg hc26, if_neg hc29, if_neg hc32, if_neg hc35, if_pos hc38]; done) | simp only [own_f2, if_neg hc2, if_neg hc5, if_neg hc8, if_neg hc11, if_neg hc14, if_neg hc17, if_neg hc20, if_neg hc23, if_neg hc26, if_neg hc29, if_neg hc32, if_neg hc35, if_pos hc38] | simp [own_f2, if_neg hc2, if_neg hc5, if_neg hc8, if_neg hc11, if_neg hc14, if_neg hc17, if_neg hc20, if_neg hc23, if_neg hc26, if_neg hc29, if_neg hc32, if_neg hc35, if_pos hc38]), N0, rfl⟩
                          · have pre40 : ∀ t, Steps p.tables e below (s₁.setTop (mkF m 106 #[.val (.int p0)] [(.int (13 : Int32)), (.int p0)])) t → P t := fun t k => pre37 t (by
                                show Steps p.tables e below (s₁.setTop (mkF m 98 #[.val (.int p0)] [(.int (12 : Int32)), (.int p0)])) _
                                refine XS.icmpYes X0.here hx rfl (pc0 := 98) (pc' := 103) rfl (hb hby d2_98) rfl (feq hc38).2 (by decide) (by decide) ?_
                                show Steps p.tables e below (s₁.setTop (mkF m 103 #[.val (.int p0)] [])) _
                                refine XS.iloadN X0.here hx rfl (hb hby d2_103) rfl ?_
                                show Steps p.tables e below (s₁.setTop (mkF m 104 #[.val (.int p0)] [(.int p0)])) _
                                refine XS.bipush X0.here hx rfl (hb hby d2_104) ?_
                                exact k)
                            by_cases hc41 : p0 = (13 : Int32)
                            · have pre42 : ∀ t, Steps p.tables e below (s₁.setTop (mkF m 110 #[.val (.int p0)] [(.int (0 : Int32))])) t → P t := fun t k => pre40 t (by
                                  show Steps p.tables e below (s₁.setTop (mkF m 106 #[.val (.int p0)] [(.int (13 : Int32)), (.int p0)])) _
                                  refine XS.icmpNo X0.here hx rfl (hb hby d2_106) rfl (teq hc41).2 ?_
                                  show Steps p.tables e below (s₁.setTop (mkF m 109 #[.val (.int p0)] [])) _
                                  refine XS.iconst X0.here hx rfl (hb hby d2_109) ?_
                                  exact k)
                              obtain ⟨fs, hr, hrun, hended, hW, hsame⟩ := X0.leave (v := some (.int (0 : Int32))) (fun h => by rw [Bd.returns] at h; cases h)
                              refine ⟨_, _, fin _ (pre42 _ ?_), hrun, hended, _, _, rfl, ?_, ⟨_, rfl⟩, hW, hsame.mono (by decide) (by decide)⟩
                              · show Steps p.tables e below (s₁.setTop (mkF m 110 #[.val (.int p0)] [(.int (0 : Int32))])) _
                                exact retI X0 hx Bd.returns (hb hby d2_110) hr
                              · show Q2 Z p0 h0 n0 _ s₁.heap _
                                rw [e0]
                                exact ⟨(by first | (unfold own_f2; rw [if_neg hc2, if_neg hc5, if_neg hc8, if_neg hc11, if_neg hc14, if_neg hc17, if_neg hc20, if_neg hc23, if_neg hc26, if_neg hc29, if_neg hc32, if_neg hc35, if_neg hc38, if_pos hc41]; done) | simp only [own_f2, if_neg hc2, if_neg hc5, if_neg hc8, if_neg hc11, if_neg hc14, if_neg hc17, if_neg hc20, if_neg hc23, if_neg hc26, if_neg hc29, if_neg hc32, if_neg hc35, if_neg hc38, if_pos hc41] | simp [own_f2, if_neg hc2, if_neg hc5, if_neg hc8, if_neg hc11, if_neg hc14, if_neg hc17, if_neg hc20, if_neg hc23, if_neg hc26, if_neg hc29, if_neg hc32, if_neg hc35, if_neg hc38, if_pos hc41]), N0, rfl⟩
                            · have pre43 : ∀ t, Steps p.tables e below (s₁.setTop (mkF m 112 #[.val (.int p0)] [(.int (1 : Int32))])) t → P t := fun t k => pre40 t (by
                                  show Steps p.tables e below (s₁.setTop (mkF m 106 #[.val (.int p0)] [(.int (13 : Int32)), (.int p0)])) _
                                  refine XS.icmpYes X0.here hx rfl (pc0 := 106) (pc' := 111) rfl (hb hby d2_106) rfl (feq hc41).2 (by decide) (by decide) ?_
                                  show Steps p.tables e below (s₁.setTop (mkF m 111 #[.val (.int p0)] [])) _
                                  refine XS.iconst X0.here hx rfl (hb hby d2_111) ?_
                                  exact k)
                              obtain ⟨fs, hr, hrun, hended, hW, hsame⟩ := X0.leave (v := some (.int (1 : Int32))) (fun h => by rw [Bd.returns] at h; cases h)
                              refine ⟨_, _, fin _ (pre43 _ ?_), hrun, hended, _, _, rfl, ?_, ⟨_, rfl⟩, hW, hsame.mono (by decide) (by decide)⟩
                              · show Steps p.tables e below (s₁.setTop (mkF m 112 #[.val (.int p0)] [(.int (1 : Int32))])) _
                                exact retI X0 hx Bd.returns (hb hby d2_112) hr
                              · show Q2 Z p0 h0 n0 _ s₁.heap _
                                rw [e0]
                                exact ⟨(by first | (unfold own_f2; rw [if_neg hc2, if_neg hc5, if_neg hc8, if_neg hc11, if_neg hc14, if_neg hc17, if_neg hc20, if_neg hc23, if_neg hc26, if_neg hc29, if_neg hc32, if_neg hc35, if_neg hc38, if_neg hc41]; done) | simp only [own_f2, if_neg hc2, if_neg hc5, if_neg hc8, if_neg hc11, if_neg hc14, if_neg hc17, if_neg hc20, if_neg hc23, if_neg hc26, if_neg hc29, if_neg hc32, if_neg hc35, if_neg hc38, if_neg hc41] | simp [own_f2, if_neg hc2, if_neg hc5, if_neg hc8, if_neg hc11, if_neg hc14, if_neg hc17, if_neg hc20, if_neg hc23, if_neg hc26, if_neg hc29, if_neg hc32, if_neg hc35, if_neg hc38, if_neg hc41]), N0, rfl⟩
theorem d3_0 : decode method_2_code 0 = .ok (.iload_n 0, 1) := by decide +kernel
theorem d3_1 : decode method_2_code 1 = .ok (.ifCond .ne 7, 3) := by decide +kernel
theorem d3_4 : decode method_2_code 4 = .ok (.getstatic 7, 3) := by decide +kernel
theorem d3_7 : decode method_2_code 7 = .ok (.areturn, 1) := by decide +kernel
theorem d3_8 : decode method_2_code 8 = .ok (.iload_n 0, 1) := by decide +kernel
theorem d3_9 : decode method_2_code 9 = .ok (.iconst 1, 1) := by decide +kernel
theorem d3_10 : decode method_2_code 10 = .ok (.if_icmp .ne 7, 3) := by decide +kernel
theorem d3_13 : decode method_2_code 13 = .ok (.getstatic 13, 3) := by decide +kernel
theorem d3_16 : decode method_2_code 16 = .ok (.areturn, 1) := by decide +kernel
theorem d3_17 : decode method_2_code 17 = .ok (.iload_n 0, 1) := by decide +kernel
theorem d3_18 : decode method_2_code 18 = .ok (.iconst 2, 1) := by decide +kernel
theorem d3_19 : decode method_2_code 19 = .ok (.if_icmp .ne 7, 3) := by decide +kernel
theorem d3_22 : decode method_2_code 22 = .ok (.getstatic 16, 3) := by decide +kernel
theorem d3_25 : decode method_2_code 25 = .ok (.areturn, 1) := by decide +kernel
theorem d3_26 : decode method_2_code 26 = .ok (.iload_n 0, 1) := by decide +kernel
theorem d3_27 : decode method_2_code 27 = .ok (.iconst 3, 1) := by decide +kernel
theorem d3_28 : decode method_2_code 28 = .ok (.if_icmp .ne 7, 3) := by decide +kernel
theorem d3_31 : decode method_2_code 31 = .ok (.getstatic 19, 3) := by decide +kernel
theorem d3_34 : decode method_2_code 34 = .ok (.areturn, 1) := by decide +kernel
theorem d3_35 : decode method_2_code 35 = .ok (.iload_n 0, 1) := by decide +kernel
theorem d3_36 : decode method_2_code 36 = .ok (.iconst 4, 1) := by decide +kernel
theorem d3_37 : decode method_2_code 37 = .ok (.if_icmp .ne 7, 3) := by decide +kernel
theorem d3_40 : decode method_2_code 40 = .ok (.getstatic 22, 3) := by decide +kernel
theorem d3_43 : decode method_2_code 43 = .ok (.areturn, 1) := by decide +kernel
theorem d3_44 : decode method_2_code 44 = .ok (.iload_n 0, 1) := by decide +kernel
theorem d3_45 : decode method_2_code 45 = .ok (.iconst 5, 1) := by decide +kernel
theorem d3_46 : decode method_2_code 46 = .ok (.if_icmp .ne 7, 3) := by decide +kernel
theorem d3_49 : decode method_2_code 49 = .ok (.getstatic 25, 3) := by decide +kernel
theorem d3_52 : decode method_2_code 52 = .ok (.areturn, 1) := by decide +kernel
theorem d3_53 : decode method_2_code 53 = .ok (.iload_n 0, 1) := by decide +kernel
theorem d3_54 : decode method_2_code 54 = .ok (.bipush 6, 2) := by decide +kernel
theorem d3_56 : decode method_2_code 56 = .ok (.if_icmp .ne 7, 3) := by decide +kernel
theorem d3_59 : decode method_2_code 59 = .ok (.getstatic 28, 3) := by decide +kernel
theorem d3_62 : decode method_2_code 62 = .ok (.areturn, 1) := by decide +kernel
theorem d3_63 : decode method_2_code 63 = .ok (.iload_n 0, 1) := by decide +kernel
theorem d3_64 : decode method_2_code 64 = .ok (.bipush 7, 2) := by decide +kernel
theorem d3_66 : decode method_2_code 66 = .ok (.if_icmp .ne 7, 3) := by decide +kernel
theorem d3_69 : decode method_2_code 69 = .ok (.getstatic 31, 3) := by decide +kernel
theorem d3_72 : decode method_2_code 72 = .ok (.areturn, 1) := by decide +kernel
theorem d3_73 : decode method_2_code 73 = .ok (.iload_n 0, 1) := by decide +kernel
theorem d3_74 : decode method_2_code 74 = .ok (.bipush 8, 2) := by decide +kernel
theorem d3_76 : decode method_2_code 76 = .ok (.if_icmp .ne 7, 3) := by decide +kernel
theorem d3_79 : decode method_2_code 79 = .ok (.getstatic 34, 3) := by decide +kernel
theorem d3_82 : decode method_2_code 82 = .ok (.areturn, 1) := by decide +kernel
theorem d3_83 : decode method_2_code 83 = .ok (.iload_n 0, 1) := by decide +kernel
theorem d3_84 : decode method_2_code 84 = .ok (.bipush 9, 2) := by decide +kernel
theorem d3_86 : decode method_2_code 86 = .ok (.if_icmp .ne 7, 3) := by decide +kernel
theorem d3_89 : decode method_2_code 89 = .ok (.getstatic 37, 3) := by decide +kernel
theorem d3_92 : decode method_2_code 92 = .ok (.areturn, 1) := by decide +kernel
theorem d3_93 : decode method_2_code 93 = .ok (.iload_n 0, 1) := by decide +kernel
theorem d3_94 : decode method_2_code 94 = .ok (.bipush 10, 2) := by decide +kernel
theorem d3_96 : decode method_2_code 96 = .ok (.if_icmp .ne 7, 3) := by decide +kernel
theorem d3_99 : decode method_2_code 99 = .ok (.getstatic 40, 3) := by decide +kernel
theorem d3_102 : decode method_2_code 102 = .ok (.areturn, 1) := by decide +kernel
theorem d3_103 : decode method_2_code 103 = .ok (.iload_n 0, 1) := by decide +kernel
theorem d3_104 : decode method_2_code 104 = .ok (.bipush 11, 2) := by decide +kernel
theorem d3_106 : decode method_2_code 106 = .ok (.if_icmp .ne 7, 3) := by decide +kernel
theorem d3_109 : decode method_2_code 109 = .ok (.getstatic 43, 3) := by decide +kernel
theorem d3_112 : decode method_2_code 112 = .ok (.areturn, 1) := by decide +kernel
theorem d3_113 : decode method_2_code 113 = .ok (.iload_n 0, 1) := by decide +kernel
theorem d3_114 : decode method_2_code 114 = .ok (.bipush 12, 2) := by decide +kernel
theorem d3_116 : decode method_2_code 116 = .ok (.if_icmp .ne 7, 3) := by decide +kernel
theorem d3_119 : decode method_2_code 119 = .ok (.getstatic 46, 3) := by decide +kernel
theorem d3_122 : decode method_2_code 122 = .ok (.areturn, 1) := by decide +kernel
theorem d3_123 : decode method_2_code 123 = .ok (.iload_n 0, 1) := by decide +kernel
theorem d3_124 : decode method_2_code 124 = .ok (.bipush 13, 2) := by decide +kernel
theorem d3_126 : decode method_2_code 126 = .ok (.if_icmp .ne 7, 3) := by decide +kernel
theorem d3_129 : decode method_2_code 129 = .ok (.getstatic 49, 3) := by decide +kernel
theorem d3_132 : decode method_2_code 132 = .ok (.areturn, 1) := by decide +kernel
theorem d3_133 : decode method_2_code 133 = .ok (.iload_n 0, 1) := by decide +kernel
theorem d3_134 : decode method_2_code 134 = .ok (.bipush 14, 2) := by decide +kernel
theorem d3_136 : decode method_2_code 136 = .ok (.if_icmp .ne 7, 3) := by decide +kernel
theorem d3_139 : decode method_2_code 139 = .ok (.getstatic 52, 3) := by decide +kernel
theorem d3_142 : decode method_2_code 142 = .ok (.areturn, 1) := by decide +kernel
theorem d3_143 : decode method_2_code 143 = .ok (.getstatic 55, 3) := by decide +kernel
theorem d3_146 : decode method_2_code 146 = .ok (.areturn, 1) := by decide +kernel
theorem pn_3 : plainName "com/example/incarico/incarico/protocol/ApiKeySupportsPinLaw" = true := by first | (simp [plainName, overriddenIn]; done) | decide +kernel
theorem ef_3 (m : MethodId) (p0 : Int32) : entryFrame m #[(.int p0)] 1 = mkF m 0 #[.val (.int p0)] [] := by first | (simp [entryFrame, mkF, argsToLocals, Value.category]; done) | rfl
def own_f3 (p0 : Int32) (s_METADATA : Addr) (s_OFFSET_COMMIT : Addr) (s_OFFSET_FETCH : Addr) (s_FIND_COORDINATOR : Addr) (s_JOIN_GROUP : Addr) (s_HEARTBEAT : Addr) (s_LEAVE_GROUP : Addr) (s_SYNC_GROUP : Addr) (s_DESCRIBE_GROUPS : Addr) (s_LIST_GROUPS : Addr) (s_API_VERSIONS : Addr) (s_CREATE_PARTITIONS : Addr) (s_DELETE_GROUPS : Addr) (s_OFFSET_DELETE : Addr) (s_CONSUMER_GROUP_HEARTBEAT : Addr) (s_CONSUMER_GROUP_DESCRIBE : Addr) : Addr := (if p0 = (0 : Int32) then s_METADATA else (if p0 = (1 : Int32) then s_OFFSET_COMMIT else (if p0 = (2 : Int32) then s_OFFSET_FETCH else (if p0 = (3 : Int32) then s_FIND_COORDINATOR else (if p0 = (4 : Int32) then s_JOIN_GROUP else (if p0 = (5 : Int32) then s_HEARTBEAT else (if p0 = (6 : Int32) then s_LEAVE_GROUP else (if p0 = (7 : Int32) then s_SYNC_GROUP else (if p0 = (8 : Int32) then s_DESCRIBE_GROUPS else (if p0 = (9 : Int32) then s_LIST_GROUPS else (if p0 = (10 : Int32) then s_API_VERSIONS else (if p0 = (11 : Int32) then s_CREATE_PARTITIONS else (if p0 = (12 : Int32) then s_DELETE_GROUPS else (if p0 = (13 : Int32) then s_OFFSET_DELETE else (if p0 = (14 : Int32) then s_CONSUMER_GROUP_HEARTBEAT else s_CONSUMER_GROUP_DESCRIBE)))))))))))))))
def Q3 (Z : State) (p0 : Int32) (s_METADATA : Addr) (s_OFFSET_COMMIT : Addr) (s_OFFSET_FETCH : Addr) (s_FIND_COORDINATOR : Addr) (s_JOIN_GROUP : Addr) (s_HEARTBEAT : Addr) (s_LEAVE_GROUP : Addr) (s_SYNC_GROUP : Addr) (s_DESCRIBE_GROUPS : Addr) (s_LIST_GROUPS : Addr) (s_API_VERSIONS : Addr) (s_CREATE_PARTITIONS : Addr) (s_DELETE_GROUPS : Addr) (s_OFFSET_DELETE : Addr) (s_CONSUMER_GROUP_HEARTBEAT : Addr) (s_CONSUMER_GROUP_DESCRIBE : Addr) (h0 : Heap) (n0 : Nat) (v : Option Value) (h : Heap) (L : List Loc) : Prop := v = some (.ref (own_f3 p0 s_METADATA s_OFFSET_COMMIT s_OFFSET_FETCH s_FIND_COORDINATOR s_JOIN_GROUP s_HEARTBEAT s_LEAVE_GROUP s_SYNC_GROUP s_DESCRIBE_GROUPS s_LIST_GROUPS s_API_VERSIONS s_CREATE_PARTITIONS s_DELETE_GROUPS s_OFFSET_DELETE s_CONSUMER_GROUP_HEARTBEAT s_CONSUMER_GROUP_DESCRIBE)) ∧ Fr n0 L ∧ h = h0
set_option maxRecDepth 65536 in
set_option maxHeartbeats 40000000 in
theorem rm3 (l : Launch) (Z : State) (a0 : Array Value) (hw : ∀ d ∈ tables_1, d.before a0 Z = true) (ws : List Jvm.Cond) (p0 : Int32) (s_METADATA : Addr) (s_OFFSET_COMMIT : Addr) (s_OFFSET_FETCH : Addr) (s_FIND_COORDINATOR : Addr) (s_JOIN_GROUP : Addr) (s_HEARTBEAT : Addr) (s_LEAVE_GROUP : Addr) (s_SYNC_GROUP : Addr) (s_DESCRIBE_GROUPS : Addr) (s_LIST_GROUPS : Addr) (s_API_VERSIONS : Addr) (s_CREATE_PARTITIONS : Addr) (s_DELETE_GROUPS : Addr) (s_OFFSET_DELETE : Addr) (s_CONSUMER_GROUP_HEARTBEAT : Addr) (s_CONSUMER_GROUP_DESCRIBE : Addr) (h0 : Heap) (n0 : Nat) (Z0 : n0 ≤ h0.size) (S_METADATA : Sta Z h0 "com/example/incarico/incarico/protocol/ApiKey" "METADATA" "Lcom/example/incarico/incarico/protocol/ApiKey;" (.ref s_METADATA)) (S_OFFSET_COMMIT : Sta Z h0 "com/example/incarico/incarico/protocol/ApiKey" "OFFSET_COMMIT" "Lcom/example/incarico/incarico/protocol/ApiKey;" (.ref s_OFFSET_COMMIT)) (S_OFFSET_FETCH : Sta Z h0 "com/example/incarico/incarico/protocol/ApiKey" "OFFSET_FETCH" "Lcom/example/incarico/incarico/protocol/ApiKey;" (.ref s_OFFSET_FETCH)) (S_FIND_COORDINATOR : Sta Z h0 "com/example/incarico/incarico/protocol/ApiKey" "FIND_COORDINATOR" "Lcom/example/incarico/incarico/protocol/ApiKey;" (.ref s_FIND_COORDINATOR)) (S_JOIN_GROUP : Sta Z h0 "com/example/incarico/incarico/protocol/ApiKey" "JOIN_GROUP" "Lcom/example/incarico/incarico/protocol/ApiKey;" (.ref s_JOIN_GROUP)) (S_HEARTBEAT : Sta Z h0 "com/example/incarico/incarico/protocol/ApiKey" "HEARTBEAT" "Lcom/example/incarico/incarico/protocol/ApiKey;" (.ref s_HEARTBEAT)) (S_LEAVE_GROUP : Sta Z h0 "com/example/incarico/incarico/protocol/ApiKey" "LEAVE_GROUP" "Lcom/example/incarico/incarico/protocol/ApiKey;" (.ref s_LEAVE_GROUP)) (S_SYNC_GROUP : Sta Z h0 "com/example/incarico/incarico/protocol/ApiKey" "SYNC_GROUP" "Lcom/example/incarico/incarico/protocol/ApiKey;" (.ref s_SYNC_GROUP)) (S_DESCRIBE_GROUPS : Sta Z h0 "com/example/incarico/incarico/protocol/ApiKey" "DESCRIBE_GROUPS" "Lcom/example/incarico/incarico/protocol/ApiKey;" (.ref s_DESCRIBE_GROUPS)) (S_LIST_GROUPS : Sta Z h0 "com/example/incarico/incarico/protocol/ApiKey" "LIST_GROUPS" "Lcom/example/incarico/incarico/protocol/ApiKey;" (.ref s_LIST_GROUPS)) (S_API_VERSIONS : Sta Z h0 "com/example/incarico/incarico/protocol/ApiKey" "API_VERSIONS" "Lcom/example/incarico/incarico/protocol/ApiKey;" (.ref s_API_VERSIONS)) (S_CREATE_PARTITIONS : Sta Z h0 "com/example/incarico/incarico/protocol/ApiKey" "CREATE_PARTITIONS" "Lcom/example/incarico/incarico/protocol/ApiKey;" (.ref s_CREATE_PARTITIONS)) (S_DELETE_GROUPS : Sta Z h0 "com/example/incarico/incarico/protocol/ApiKey" "DELETE_GROUPS" "Lcom/example/incarico/incarico/protocol/ApiKey;" (.ref s_DELETE_GROUPS)) (S_OFFSET_DELETE : Sta Z h0 "com/example/incarico/incarico/protocol/ApiKey" "OFFSET_DELETE" "Lcom/example/incarico/incarico/protocol/ApiKey;" (.ref s_OFFSET_DELETE)) (S_CONSUMER_GROUP_HEARTBEAT : Sta Z h0 "com/example/incarico/incarico/protocol/ApiKey" "CONSUMER_GROUP_HEARTBEAT" "Lcom/example/incarico/incarico/protocol/ApiKey;" (.ref s_CONSUMER_GROUP_HEARTBEAT)) (S_CONSUMER_GROUP_DESCRIBE : Sta Z h0 "com/example/incarico/incarico/protocol/ApiKey" "CONSUMER_GROUP_DESCRIBE" "Lcom/example/incarico/incarico/protocol/ApiKey;" (.ref s_CONSUMER_GROUP_DESCRIBE)) :
    MetFree l (⟨"com/example/incarico/incarico/protocol/ApiKeySupportsPinLaw", "pick", "(I)Lcom/example/incarico/incarico/protocol/ApiKey;"⟩ : MethodName) (head1 (Jvm.Cond.code (⟨"com/example/incarico/incarico/protocol/ApiKeySupportsPinLaw", "pick", "(I)Lcom/example/incarico/incarico/protocol/ApiKey;"⟩ : MethodName) method_2_code 1 (some (.object "com/example/incarico/incarico/protocol/ApiKey")) :: ws) ({ frames := 0, cells := 0, slots := 0, locals := 0 } : Room)) (fun a U => a = #[(.int p0)] ∧ Z.Warmed39 U.vm ∧ U.heap = h0) (fun _ _ _ _ _ => True) (fun _ U o U' => ∃ v L, o = .returned v ∧ Q3 Z p0 s_METADATA s_OFFSET_COMMIT s_OFFSET_FETCH s_FIND_COORDINATOR s_JOIN_GROUP s_HEARTBEAT s_LEAVE_GROUP s_SYNC_GROUP s_DESCRIBE_GROUPS s_LIST_GROUPS s_API_VERSIONS s_CREATE_PARTITIONS s_DELETE_GROUPS s_OFFSET_DELETE s_CONSUMER_GROUP_HEARTBEAT s_CONSUMER_GROUP_DESCRIBE h0 n0 v U'.heap L ∧ FrameEnd U o U' L ({ frames := 0, cells := 0, slots := 0, locals := 0 } : Room).cells ({ frames := 0, cells := 0, slots := 0, locals := 0 } : Room).slots) := by
  refine MetFree.of_bodySF (plainFor_of_name pn_3) hisR ?_
  intro p e s m args below meth c s₁ Bd hml0 hP hK
  obtain ⟨rfl, hZ, hh⟩ := hP
  have hx := Bd.exec
  have hby := Bd.bytes
  have hml : c.maxLocals = 1 := hml0
  have hown : s.vm.findClass "com/example/incarico/incarico/protocol/ApiKeySupportsPinLaw" = some m.cls := findClass_of_methodNamed Bd.named
  have hnm := (name_of_methodNamed Bd.named Bd.method).1
  have X0 : Stand p l e ({ frames := 0, cells := 0, slots := 0, locals := 0 } : Room) s m #[(.int p0)] below meth c s₁ [] 0 0 := Stand.of_body Bd
  have e0 : s₁.heap = h0 := by rw [← hh, Bd.state]; rfl
  have N0 := Fr.nil n0
  obtain ⟨P, pre0, fin⟩ : ∃ P : State → Prop, (∀ t, Steps p.tables e below (s₁.setTop (mkF m 0 #[.val (.int p0)] [])) t → P t) ∧ (∀ t, P t → Steps p.tables e below (s₁.setTop (entryFrame m #[(.int p0)] 1)) t) := ⟨fun t => Steps p.tables e below (s₁.setTop (entryFrame m #[(.int p0)] 1)) t, fun t k => castTop (ef_3 m p0) k, fun t k => k⟩
  have K0 : Keep h0 h0 [] := Keep.refl _ _
  have pre1 : ∀ t, Steps p.tables e below (s₁.setTop (mkF m 1 #[.val (.int p0)] [(.int p0)])) t → P t := fun t k => pre0 t (by
      show Steps p.tables e below (s₁.setTop (mkF m 0 #[.val (.int p0)] [])) _
      refine XS.iloadN X0.here hx rfl (hb hby d3_0) rfl ?_
      exact k)
  by_cases hc2 : p0 = (0 : Int32)
  · have pre3 : ∀ t, Steps p.tables e below (s₁.setTop (mkF m 4 #[.val (.int p0)] [])) t → P t := fun t k => pre1 t (by
        show Steps p.tables e below (s₁.setTop (mkF m 1 #[.val (.int p0)] [(.int p0)])) _
        refine XS.ifNo X0.here hx rfl (hb hby d3_1) rfl ((if0 _ _).trans (teq hc2).2) ?_
        exact k)
    obtain ⟨T4, X4, e4, st4⟩ := getS2 X0 hx hZ hown (host := "") (Or.inl (hw _ (List.mem_of_getElem? (i := 11) rfl))) Via.refl e0 S_METADATA (g := (mkF m 4 #[.val (.int p0)] [])) rfl (hb hby d3_4)
    have pre4 : ∀ t, Steps p.tables e below (T4.setTop (mkF m 7 #[.val (.int p0)] [(.ref s_METADATA)])) t → P t := fun t k => pre3 t (st4 _ k)
    obtain ⟨fs, hr, hrun, hended, hW, hsame⟩ := X4.leave (v := some (.ref s_METADATA)) (fun h => by rw [Bd.returns] at h; cases h)
    refine ⟨_, _, fin _ (pre4 _ ?_), hrun, hended, _, _, rfl, ?_, ⟨_, rfl⟩, hW, hsame.mono (by decide) (by decide)⟩
    · show Steps p.tables e below (T4.setTop (mkF m 7 #[.val (.int p0)] [(.ref s_METADATA)])) _
      jvm_step X4.here [X4.here.top, hx, (hb hby d3_7), X4.method', Bd.returns, Value.isRef, FieldType.isReference]
      first | (intro acts; rw [hr _ acts rfl rfl rfl]) | rw [hr _ _ rfl rfl rfl]
      exact Steps.refl _
    · show Q3 Z p0 s_METADATA s_OFFSET_COMMIT s_OFFSET_FETCH s_FIND_COORDINATOR s_JOIN_GROUP s_HEARTBEAT s_LEAVE_GROUP s_SYNC_GROUP s_DESCRIBE_GROUPS s_LIST_GROUPS s_API_VERSIONS s_CREATE_PARTITIONS s_DELETE_GROUPS s_OFFSET_DELETE s_CONSUMER_GROUP_HEARTBEAT s_CONSUMER_GROUP_DESCRIBE h0 n0 _ T4.heap _
      rw [e4]
      exact ⟨(by first | (unfold own_f3; rw [if_pos hc2]; done) | simp only [own_f3, if_pos hc2] | simp [own_f3, if_pos hc2]), N0, rfl⟩
  · have pre5 : ∀ t, Steps p.tables e below (s₁.setTop (mkF m 10 #[.val (.int p0)] [(.int (1 : Int32)), (.int p0)])) t → P t := fun t k => pre1 t (by
        show Steps p.tables e below (s₁.setTop (mkF m 1 #[.val (.int p0)] [(.int p0)])) _
        refine XS.ifYes X0.here hx rfl (pc0 := 1) (pc' := 8) rfl (hb hby d3_1) rfl ((if0 _ _).trans (feq hc2).2) (by decide) (by decide) ?_
        show Steps p.tables e below (s₁.setTop (mkF m 8 #[.val (.int p0)] [])) _
        refine XS.iloadN X0.here hx rfl (hb hby d3_8) rfl ?_
        show Steps p.tables e below (s₁.setTop (mkF m 9 #[.val (.int p0)] [(.int p0)])) _
        refine XS.iconst X0.here hx rfl (hb hby d3_9) ?_
        exact k)
    by_cases hc6 : p0 = (1 : Int32)
    · have pre7 : ∀ t, Steps p.tables e below (s₁.setTop (mkF m 13 #[.val (.int p0)] [])) t → P t := fun t k => pre5 t (by
          show Steps p.tables e below (s₁.setTop (mkF m 10 #[.val (.int p0)] [(.int (1 : Int32)), (.int p0)])) _
          refine XS.icmpNo X0.here hx rfl (hb hby d3_10) rfl (teq hc6).2 ?_
          exact k)
      obtain ⟨T8, X8, e8, st8⟩ := getS2 X0 hx hZ hown (host := "") (Or.inl (hw _ (List.mem_of_getElem? (i := 23) rfl))) Via.refl e0 S_OFFSET_COMMIT (g := (mkF m 13 #[.val (.int p0)] [])) rfl (hb hby d3_13)
      have pre8 : ∀ t, Steps p.tables e below (T8.setTop (mkF m 16 #[.val (.int p0)] [(.ref s_OFFSET_COMMIT)])) t → P t := fun t k => pre7 t (st8 _ k)
      obtain ⟨fs, hr, hrun, hended, hW, hsame⟩ := X8.leave (v := some (.ref s_OFFSET_COMMIT)) (fun h => by rw [Bd.returns] at h; cases h)
      refine ⟨_, _, fin _ (pre8 _ ?_), hrun, hended, _, _, rfl, ?_, ⟨_, rfl⟩, hW, hsame.mono (by decide) (by decide)⟩
      · show Steps p.tables e below (T8.setTop (mkF m 16 #[.val (.int p0)] [(.ref s_OFFSET_COMMIT)])) _
        jvm_step X8.here [X8.here.top, hx, (hb hby d3_16), X8.method', Bd.returns, Value.isRef, FieldType.isReference]
        first | (intro acts; rw [hr _ acts rfl rfl rfl]) | rw [hr _ _ rfl rfl rfl]
        exact Steps.refl _
      · show Q3 Z p0 s_METADATA s_OFFSET_COMMIT s_OFFSET_FETCH s_FIND_COORDINATOR s_JOIN_GROUP s_HEARTBEAT s_LEAVE_GROUP s_SYNC_GROUP s_DESCRIBE_GROUPS s_LIST_GROUPS s_API_VERSIONS s_CREATE_PARTITIONS s_DELETE_GROUPS s_OFFSET_DELETE s_CONSUMER_GROUP_HEARTBEAT s_CONSUMER_GROUP_DESCRIBE h0 n0 _ T8.heap _
        rw [e8]
        exact ⟨(by first | (unfold own_f3; rw [if_neg hc2, if_pos hc6]; done) | simp only [own_f3, if_neg hc2, if_pos hc6] | simp [own_f3, if_neg hc2, if_pos hc6]), N0, rfl⟩
    · have pre9 : ∀ t, Steps p.tables e below (s₁.setTop (mkF m 19 #[.val (.int p0)] [(.int (2 : Int32)), (.int p0)])) t → P t := fun t k => pre5 t (by
          show Steps p.tables e below (s₁.setTop (mkF m 10 #[.val (.int p0)] [(.int (1 : Int32)), (.int p0)])) _
          refine XS.icmpYes X0.here hx rfl (pc0 := 10) (pc' := 17) rfl (hb hby d3_10) rfl (feq hc6).2 (by decide) (by decide) ?_
          show Steps p.tables e below (s₁.setTop (mkF m 17 #[.val (.int p0)] [])) _
          refine XS.iloadN X0.here hx rfl (hb hby d3_17) rfl ?_
          show Steps p.tables e below (s₁.setTop (mkF m 18 #[.val (.int p0)] [(.int p0)])) _
          refine XS.iconst X0.here hx rfl (hb hby d3_18) ?_
          exact k)
      by_cases hc10 : p0 = (2 : Int32)
      · have pre11 : ∀ t, Steps p.tables e below (s₁.setTop (mkF m 22 #[.val (.int p0)] [])) t → P t := fun t k => pre9 t (by
            show Steps p.tables e below (s₁.setTop (mkF m 19 #[.val (.int p0)] [(.int (2 : Int32)), (.int p0)])) _
            refine XS.icmpNo X0.here hx rfl (hb hby d3_19) rfl (teq hc10).2 ?_
            exact k)
        obtain ⟨T12, X12, e12, st12⟩ := getS2 X0 hx hZ hown (host := "") (Or.inl (hw _ (List.mem_of_getElem? (i := 31) rfl))) Via.refl e0 S_OFFSET_FETCH (g := (mkF m 22 #[.val (.int p0)] [])) rfl (hb hby d3_22)
        have pre12 : ∀ t, Steps p.tables e below (T12.setTop (mkF m 25 #[.val (.int p0)] [(.ref s_OFFSET_FETCH)])) t → P t := fun t k => pre11 t (st12 _ k)
        obtain ⟨fs, hr, hrun, hended, hW, hsame⟩ := X12.leave (v := some (.ref s_OFFSET_FETCH)) (fun h => by rw [Bd.returns] at h; cases h)
        refine ⟨_, _, fin _ (pre12 _ ?_), hrun, hended, _, _, rfl, ?_, ⟨_, rfl⟩, hW, hsame.mono (by decide) (by decide)⟩
        · show Steps p.tables e below (T12.setTop (mkF m 25 #[.val (.int p0)] [(.ref s_OFFSET_FETCH)])) _
          jvm_step X12.here [X12.here.top, hx, (hb hby d3_25), X12.method', Bd.returns, Value.isRef, FieldType.isReference]
          first | (intro acts; rw [hr _ acts rfl rfl rfl]) | rw [hr _ _ rfl rfl rfl]
          exact Steps.refl _
        · show Q3 Z p0 s_METADATA s_OFFSET_COMMIT s_OFFSET_FETCH s_FIND_COORDINATOR s_JOIN_GROUP s_HEARTBEAT s_LEAVE_GROUP s_SYNC_GROUP s_DESCRIBE_GROUPS s_LIST_GROUPS s_API_VERSIONS s_CREATE_PARTITIONS s_DELETE_GROUPS s_OFFSET_DELETE s_CONSUMER_GROUP_HEARTBEAT s_CONSUMER_GROUP_DESCRIBE h0 n0 _ T12.heap _
          rw [e12]
          exact ⟨(by first | (unfold own_f3; rw [if_neg hc2, if_neg hc6, if_pos hc10]; done) | simp only [own_f3, if_neg hc2, if_neg hc6, if_pos hc10] | simp [own_f3, if_neg hc2, if_neg hc6, if_pos hc10]), N0, rfl⟩
      · have pre13 : ∀ t, Steps p.tables e below (s₁.setTop (mkF m 28 #[.val (.int p0)] [(.int (3 : Int32)), (.int p0)])) t → P t := fun t k => pre9 t (by
            show Steps p.tables e below (s₁.setTop (mkF m 19 #[.val (.int p0)] [(.int (2 : Int32)), (.int p0)])) _
            refine XS.icmpYes X0.here hx rfl (pc0 := 19) (pc' := 26) rfl (hb hby d3_19) rfl (feq hc10).2 (by decide) (by decide) ?_
            show Steps p.tables e below (s₁.setTop (mkF m 26 #[.val (.int p0)] [])) _
            refine XS.iloadN X0.here hx rfl (hb hby d3_26) rfl ?_
            show Steps p.tables e below (s₁.setTop (mkF m 27 #[.val (.int p0)] [(.int p0)])) _
            refine XS.iconst X0.here hx rfl (hb hby d3_27) ?_
            exact k)
        by_cases hc14 : p0 = (3 : Int32)
        · have pre15 : ∀ t, Steps p.tables e below (s₁.setTop (mkF m 31 #[.val (.int p0)] [])) t → P t := fun t k => pre13 t (by
              show Steps p.tables e below (s₁.setTop (mkF m 28 #[.val (.int p0)] [(.int (3 : Int32)), (.int p0)])) _
              refine XS.icmpNo X0.here hx rfl (hb hby d3_28) rfl (teq hc14).2 ?_
              exact k)
          obtain ⟨T16, X16, e16, st16⟩ := getS2 X0 hx hZ hown (host := "") (Or.inl (hw _ (List.mem_of_getElem? (i := 33) rfl))) Via.refl e0 S_FIND_COORDINATOR (g := (mkF m 31 #[.val (.int p0)] [])) rfl (hb hby d3_31)
          have pre16 : ∀ t, Steps p.tables e below (T16.setTop (mkF m 34 #[.val (.int p0)] [(.ref s_FIND_COORDINATOR)])) t → P t := fun t k => pre15 t (st16 _ k)
          obtain ⟨fs, hr, hrun, hended, hW, hsame⟩ := X16.leave (v := some (.ref s_FIND_COORDINATOR)) (fun h => by rw [Bd.returns] at h; cases h)
          refine ⟨_, _, fin _ (pre16 _ ?_), hrun, hended, _, _, rfl, ?_, ⟨_, rfl⟩, hW, hsame.mono (by decide) (by decide)⟩
          · show Steps p.tables e below (T16.setTop (mkF m 34 #[.val (.int p0)] [(.ref s_FIND_COORDINATOR)])) _
            jvm_step X16.here [X16.here.top, hx, (hb hby d3_34), X16.method', Bd.returns, Value.isRef, FieldType.isReference]
            first | (intro acts; rw [hr _ acts rfl rfl rfl]) | rw [hr _ _ rfl rfl rfl]
            exact Steps.refl _
          · show Q3 Z p0 s_METADATA s_OFFSET_COMMIT s_OFFSET_FETCH s_FIND_COORDINATOR s_JOIN_GROUP s_HEARTBEAT s_LEAVE_GROUP s_SYNC_GROUP s_DESCRIBE_GROUPS s_LIST_GROUPS s_API_VERSIONS s_CREATE_PARTITIONS s_DELETE_GROUPS s_OFFSET_DELETE s_CONSUMER_GROUP_HEARTBEAT s_CONSUMER_GROUP_DESCRIBE h0 n0 _ T16.heap _
            rw [e16]
            exact ⟨(by first | (unfold own_f3; rw [if_neg hc2, if_neg hc6, if_neg hc10, if_pos hc14]; done) | simp only [own_f3, if_neg hc2, if_neg hc6, if_neg hc10, if_pos hc14] | simp [own_f3, if_neg hc2, if_neg hc6, if_neg hc10, if_pos hc14]), N0, rfl⟩
        · have pre17 : ∀ t, Steps p.tables e below (s₁.setTop (mkF m 37 #[.val (.int p0)] [(.int (4 : Int32)), (.int p0)])) t → P t := fun t k => pre13 t (by
              show Steps p.tables e below (s₁.setTop (mkF m 28 #[.val (.int p0)] [(.int (3 : Int32)), (.int p0)])) _
              refine XS.icmpYes X0.here hx rfl (pc0 := 28) (pc' := 35) rfl (hb hby d3_28) rfl (feq hc14).2 (by decide) (by decide) ?_
              show Steps p.tables e below (s₁.setTop (mkF m 35 #[.val (.int p0)] [])) _
              refine XS.iloadN X0.here hx rfl (hb hby d3_35) rfl ?_
              show Steps p.tables e below (s₁.setTop (mkF m 36 #[.val (.int p0)] [(.int p0)])) _
              refine XS.iconst X0.here hx rfl (hb hby d3_36) ?_
              exact k)
          by_cases hc18 : p0 = (4 : Int32)
          · have pre19 : ∀ t, Steps p.tables e below (s₁.setTop (mkF m 40 #[.val (.int p0)] [])) t → P t := fun t k => pre17 t (by
                show Steps p.tables e below (s₁.setTop (mkF m 37 #[.val (.int p0)] [(.int (4 : Int32)), (.int p0)])) _
                refine XS.icmpNo X0.here hx rfl (hb hby d3_37) rfl (teq hc18).2 ?_
                exact k)
            obtain ⟨T20, X20, e20, st20⟩ := getS2 X0 hx hZ hown (host := "") (Or.inl (hw _ (List.mem_of_getElem? (i := 25) rfl))) Via.refl e0 S_JOIN_GROUP (g := (mkF m 40 #[.val (.int p0)] [])) rfl (hb hby d3_40)
            have pre20 : ∀ t, Steps p.tables e below (T20.setTop (mkF m 43 #[.val (.int p0)] [(.ref s_JOIN_GROUP)])) t → P t := fun t k => pre19 t (st20 _ k)
            obtain ⟨fs, hr, hrun, hended, hW, hsame⟩ := X20.leave (v := some (.ref s_JOIN_GROUP)) (fun h => by rw [Bd.returns] at h; cases h)
            refine ⟨_, _, fin _ (pre20 _ ?_), hrun, hended, _, _, rfl, ?_, ⟨_, rfl⟩, hW, hsame.mono (by decide) (by decide)⟩
            · show Steps p.tables e below (T20.setTop (mkF m 43 #[.val (.int p0)] [(.ref s_JOIN_GROUP)])) _
              jvm_step X20.here [X20.here.top, hx, (hb hby d3_43), X20.method', Bd.returns, Value.isRef, FieldType.isReference]
              first | (intro acts; rw [hr _ acts rfl rfl rfl]) | rw [hr _ _ rfl rfl rfl]
              exact Steps.refl _
            · show Q3 Z p0 s_METADATA s_OFFSET_COMMIT s_OFFSET_FETCH s_FIND_COORDINATOR s_JOIN_GROUP s_HEARTBEAT s_LEAVE_GROUP s_SYNC_GROUP s_DESCRIBE_GROUPS s_LIST_GROUPS s_API_VERSIONS s_CREATE_PARTITIONS s_DELETE_GROUPS s_OFFSET_DELETE s_CONSUMER_GROUP_HEARTBEAT s_CONSUMER_GROUP_DESCRIBE h0 n0 _ T20.heap _
              rw [e20]
              exact ⟨(by first | (unfold own_f3; rw [if_neg hc2, if_neg hc6, if_neg hc10, if_neg hc14, if_pos hc18]; done) | simp only [own_f3, if_neg hc2, if_neg hc6, if_neg hc10, if_neg hc14, if_pos hc18] | simp [own_f3, if_neg hc2, if_neg hc6, if_neg hc10, if_neg hc14, if_pos hc18]), N0, rfl⟩
          · have pre21 : ∀ t, Steps p.tables e below (s₁.setTop (mkF m 46 #[.val (.int p0)] [(.int (5 : Int32)), (.int p0)])) t → P t := fun t k => pre17 t (by
                show Steps p.tables e below (s₁.setTop (mkF m 37 #[.val (.int p0)] [(.int (4 : Int32)), (.int p0)])) _
                refine XS.icmpYes X0.here hx rfl (pc0 := 37) (pc' := 44) rfl (hb hby d3_37) rfl (feq hc18).2 (by decide) (by decide) ?_
                show Steps p.tables e below (s₁.setTop (mkF m 44 #[.val (.int p0)] [])) _
                refine XS.iloadN X0.here hx rfl (hb hby d3_44) rfl ?_
                show Steps p.tables e below (s₁.setTop (mkF m 45 #[.val (.int p0)] [(.int p0)])) _
                refine XS.iconst X0.here hx rfl (hb hby d3_45) ?_
                exact k)
            by_cases hc22 : p0 = (5 : Int32)
            · have pre23 : ∀ t, Steps p.tables e below (s₁.setTop (mkF m 49 #[.val (.int p0)] [])) t → P t := fun t k => pre21 t (by
                  show Steps p.tables e below (s₁.setTop (mkF m 46 #[.val (.int p0)] [(.int (5 : Int32)), (.int p0)])) _
                  refine XS.icmpNo X0.here hx rfl (hb hby d3_46) rfl (teq hc22).2 ?_
                  exact k)
              obtain ⟨T24, X24, e24, st24⟩ := getS2 X0 hx hZ hown (host := "") (Or.inl (hw _ (List.mem_of_getElem? (i := 45) rfl))) Via.refl e0 S_HEARTBEAT (g := (mkF m 49 #[.val (.int p0)] [])) rfl (hb hby d3_49)
              have pre24 : ∀ t, Steps p.tables e below (T24.setTop (mkF m 52 #[.val (.int p0)] [(.ref s_HEARTBEAT)])) t → P t := fun t k => pre23 t (st24 _ k)
              obtain ⟨fs, hr, hrun, hended, hW, hsame⟩ := X24.leave (v := some (.ref s_HEARTBEAT)) (fun h => by rw [Bd.returns] at h; cases h)
              refine ⟨_, _, fin _ (pre24 _ ?_), hrun, hended, _, _, rfl, ?_, ⟨_, rfl⟩, hW, hsame.mono (by decide) (by decide)⟩
              · show Steps p.tables e below (T24.setTop (mkF m 52 #[.val (.int p0)] [(.ref s_HEARTBEAT)])) _
                jvm_step X24.here [X24.here.top, hx, (hb hby d3_52), X24.method', Bd.returns, Value.isRef, FieldType.isReference]
                first | (intro acts; rw [hr _ acts rfl rfl rfl]) | rw [hr _ _ rfl rfl rfl]
                exact Steps.refl _
              · show Q3 Z p0 s_METADATA s_OFFSET_COMMIT s_OFFSET_FETCH s_FIND_COORDINATOR s_JOIN_GROUP s_HEARTBEAT s_LEAVE_GROUP s_SYNC_GROUP s_DESCRIBE_GROUPS s_LIST_GROUPS s_API_VERSIONS s_CREATE_PARTITIONS s_DELETE_GROUPS s_OFFSET_DELETE s_CONSUMER_GROUP_HEARTBEAT s_CONSUMER_GROUP_DESCRIBE h0 n0 _ T24.heap _
                rw [e24]
                exact ⟨(by first | (unfold own_f3; rw [if_neg hc2, if_neg hc6, if_neg hc10, if_neg hc14, if_neg hc18, if_pos hc22]; done) | simp only [own_f3, if_neg hc2, if_neg hc6, if_neg hc10, if_neg hc14, if_neg hc18, if_pos hc22] | simp [own_f3, if_neg hc2, if_neg hc6, if_neg hc10, if_neg hc14, if_neg hc18, if_pos hc22]), N0, rfl⟩
            · have pre25 : ∀ t, Steps p.tables e below (s₁.setTop (mkF m 56 #[.val (.int p0)] [(.int (6 : Int32)), (.int p0)])) t → P t := fun t k => pre21 t (by
                  show Steps p.tables e below (s₁.setTop (mkF m 46 #[.val (.int p0)] [(.int (5 : Int32)), (.int p0)])) _
                  refine XS.icmpYes X0.here hx rfl (pc0 := 46) (pc' := 53) rfl (hb hby d3_46) rfl (feq hc22).2 (by decide) (by decide) ?_
                  show Steps p.tables e below (s₁.setTop (mkF m 53 #[.val (.int p0)] [])) _
                  refine XS.iloadN X0.here hx rfl (hb hby d3_53) rfl ?_
                  show Steps p.tables e below (s₁.setTop (mkF m 54 #[.val (.int p0)] [(.int p0)])) _
                  refine XS.bipush X0.here hx rfl (hb hby d3_54) ?_
                  exact k)
              by_cases hc26 : p0 = (6 : Int32)
              · have pre27 : ∀ t, Steps p.tables e below (s₁.setTop (mkF m 59 #[.val (.int p0)] [])) t → P t := fun t k => pre25 t (by
                    show Steps p.tables e below (s₁.setTop (mkF m 56 #[.val (.int p0)] [(.int (6 : Int32)), (.int p0)])) _
                    refine XS.icmpNo X0.here hx rfl (hb hby d3_56) rfl (teq hc26).2 ?_
                    exact k)
                obtain ⟨T28, X28, e28, st28⟩ := getS2 X0 hx hZ hown (host := "") (Or.inl (hw _ (List.mem_of_getElem? (i := 49) rfl))) Via.refl e0 S_LEAVE_GROUP (g := (mkF m 59 #[.val (.int p0)] [])) rfl (hb hby d3_59)
                have pre28 : ∀ t, Steps p.tables e below (T28.setTop (mkF m 62 #[.val (.int p0)] [(.ref s_LEAVE_GROUP)])) t → P t := fun t k => pre27 t (st28 _ k)
                obtain ⟨fs, hr, hrun, hended, hW, hsame⟩ := X28.leave (v := some (.ref s_LEAVE_GROUP)) (fun h => by rw [Bd.returns] at h; cases h)
                refine ⟨_, _, fin _ (pre28 _ ?_), hrun, hended, _, _, rfl, ?_, ⟨_, rfl⟩, hW, hsame.mono (by decide) (by decide)⟩
                · show Steps p.tables e below (T28.setTop (mkF m 62 #[.val (.int p0)] [(.ref s_LEAVE_GROUP)])) _
                  jvm_step X28.here [X28.here.top, hx, (hb hby d3_62), X28.method', Bd.returns, Value.isRef, FieldType.isReference]
                  first | (intro acts; rw [hr _ acts rfl rfl rfl]) | rw [hr _ _ rfl rfl rfl]
                  exact Steps.refl _
                · show Q3 Z p0 s_METADATA s_OFFSET_COMMIT s_OFFSET_FETCH s_FIND_COORDINATOR s_JOIN_GROUP s_HEARTBEAT s_LEAVE_GROUP s_SYNC_GROUP s_DESCRIBE_GROUPS s_LIST_GROUPS s_API_VERSIONS s_CREATE_PARTITIONS s_DELETE_GROUPS s_OFFSET_DELETE s_CONSUMER_GROUP_HEARTBEAT s_CONSUMER_GROUP_DESCRIBE h0 n0 _ T28.heap _
                  rw [e28]
                  exact ⟨(by first | (unfold own_f3; rw [if_neg hc2, if_neg hc6, if_neg hc10, if_neg hc14, if_neg hc18, if_neg hc22, if_pos hc26]; done) | simp only [own_f3, if_neg hc2, if_neg hc6, if_neg hc10, if_neg hc14, if_neg hc18, if_neg hc22, if_pos hc26] | simp [own_f3, if_neg hc2, if_neg hc6, if_neg hc10, if_neg hc14, if_neg hc18, if_neg hc22, if_pos hc26]), N0, rfl⟩
              · have pre29 : ∀ t, Steps p.tables e below (s₁.setTop (mkF m 66 #[.val (.int p0)] [(.int (7 : Int32)), (.int p0)])) t → P t := fun t k => pre25 t (by
                    show Steps p.tables e below (s₁.setTop (mkF m 56 #[.val (.int p0)] [(.int (6 : Int32)), (.int p0)])) _
                    refine XS.icmpYes X0.here hx rfl (pc0 := 56) (pc' := 63) rfl (hb hby d3_56) rfl (feq hc26).2 (by decide) (by decide) ?_
                    show Steps p.tables e below (s₁.setTop (mkF m 63 #[.val (.int p0)] [])) _
                    refine XS.iloadN X0.here hx rfl (hb hby d3_63) rfl ?_
                    show Steps p.tables e below (s₁.setTop (mkF m 64 #[.val (.int p0)] [(.int p0)])) _
                    refine XS.bipush X0.here hx rfl (hb hby d3_64) ?_
                    exact k)
                by_cases hc30 : p0 = (7 : Int32)
                · have pre31 : ∀ t, Steps p.tables e below (s₁.setTop (mkF m 69 #[.val (.int p0)] [])) t → P t := fun t k => pre29 t (by
                      show Steps p.tables e below (s₁.setTop (mkF m 66 #[.val (.int p0)] [(.int (7 : Int32)), (.int p0)])) _
                      refine XS.icmpNo X0.here hx rfl (hb hby d3_66) rfl (teq hc30).2 ?_
                      exact k)
                  obtain ⟨T32, X32, e32, st32⟩ := getS2 X0 hx hZ hown (host := "") (Or.inl (hw _ (List.mem_of_getElem? (i := 43) rfl))) Via.refl e0 S_SYNC_GROUP (g := (mkF m 69 #[.val (.int p0)] [])) rfl (hb hby d3_69)
                  have pre32 : ∀ t, Steps p.tables e below (T32.setTop (mkF m 72 #[.val (.int p0)] [(.ref s_SYNC_GROUP)])) t → P t := fun t k => pre31 t (st32 _ k)
                  obtain ⟨fs, hr, hrun, hended, hW, hsame⟩ := X32.leave (v := some (.ref s_SYNC_GROUP)) (fun h => by rw [Bd.returns] at h; cases h)
                  refine ⟨_, _, fin _ (pre32 _ ?_), hrun, hended, _, _, rfl, ?_, ⟨_, rfl⟩, hW, hsame.mono (by decide) (by decide)⟩
                  · show Steps p.tables e below (T32.setTop (mkF m 72 #[.val (.int p0)] [(.ref s_SYNC_GROUP)])) _
                    jvm_step X32.here [X32.here.top, hx, (hb hby d3_72), X32.method', Bd.returns, Value.isRef, FieldType.isReference]
                    first | (intro acts; rw [hr _ acts rfl rfl rfl]) | rw [hr _ _ rfl rfl rfl]
                    exact Steps.refl _
                  · show Q3 Z p0 s_METADATA s_OFFSET_COMMIT s_OFFSET_FETCH s_FIND_COORDINATOR s_JOIN_GROUP s_HEARTBEAT s_LEAVE_GROUP s_SYNC_GROUP s_DESCRIBE_GROUPS s_LIST_GROUPS s_API_VERSIONS s_CREATE_PARTITIONS s_DELETE_GROUPS s_OFFSET_DELETE s_CONSUMER_GROUP_HEARTBEAT s_CONSUMER_GROUP_DESCRIBE h0 n0 _ T32.heap _
                    rw [e32]
                    exact ⟨(by first | (unfold own_f3; rw [if_neg hc2, if_neg hc6, if_neg hc10, if_neg hc14, if_neg hc18, if_neg hc22, if_neg hc26, if_pos hc30]; done) | simp only [own_f3, if_neg hc2, if_neg hc6, if_neg hc10, if_neg hc14, if_neg hc18, if_neg hc22, if_neg hc26, if_pos hc30] | simp [own_f3, if_neg hc2, if_neg hc6, if_neg hc10, if_neg hc14, if_neg hc18, if_neg hc22, if_neg hc26, if_pos hc30]), N0, rfl⟩
                · have pre33 : ∀ t, Steps p.tables e below (s₁.setTop (mkF m 76 #[.val (.int p0)] [(.int (8 : Int32)), (.int p0)])) t → P t := fun t k => pre29 t (by
                      show Steps p.tables e below (s₁.setTop (mkF m 66 #[.val (.int p0)] [(.int (7 : Int32)), (.int p0)])) _
                      refine XS.icmpYes X0.here hx rfl (pc0 := 66) (pc' := 73) rfl (hb hby d3_66) rfl (feq hc30).2 (by decide) (by decide) ?_
                      show Steps p.tables e below (s₁.setTop (mkF m 73 #[.val (.int p0)] [])) _
                      refine XS.iloadN X0.here hx rfl (hb hby d3_73) rfl ?_
                      show Steps p.tables e below (s₁.setTop (mkF m 74 #[.val (.int p0)] [(.int p0)])) _
                      refine XS.bipush X0.here hx rfl (hb hby d3_74) ?_
                      exact k)
                  by_cases hc34 : p0 = (8 : Int32)
                  · have pre35 : ∀ t, Steps p.tables e below (s₁.setTop (mkF m 79 #[.val (.int p0)] [])) t → P t := fun t k => pre33 t (by
                        show Steps p.tables e below (s₁.setTop (mkF m 76 #[.val (.int p0)] [(.int (8 : Int32)), (.int p0)])) _
                        refine XS.icmpNo X0.here hx rfl (hb hby d3_76) rfl (teq hc34).2 ?_
                        exact k)
                    obtain ⟨T36, X36, e36, st36⟩ := getS2 X0 hx hZ hown (host := "") (Or.inl (hw _ (List.mem_of_getElem? (i := 29) rfl))) Via.refl e0 S_DESCRIBE_GROUPS (g := (mkF m 79 #[.val (.int p0)] [])) rfl (hb hby d3_79)
                    have pre36 : ∀ t, Steps p.tables e below (T36.setTop (mkF m 82 #[.val (.int p0)] [(.ref s_DESCRIBE_GROUPS)])) t → P t := fun t k => pre35 t (st36 _ k)
                    obtain ⟨fs, hr, hrun, hended, hW, hsame⟩ := X36.leave (v := some (.ref s_DESCRIBE_GROUPS)) (fun h => by rw [Bd.returns] at h; cases h)
                    refine ⟨_, _, fin _ (pre36 _ ?_), hrun, hended, _, _, rfl, ?_, ⟨_, rfl⟩, hW, hsame.mono (by decide) (by decide)⟩
                    · show Steps p.tables e below (T36.setTop (mkF m 82 #[.val (.int p0)] [(.ref s_DESCRIBE_GROUPS)])) _
                      jvm_step X36.here [X36.here.top, hx, (hb hby d3_82), X36.method', Bd.returns, Value.isRef, FieldType.isReference]
                      first | (intro acts; rw [hr _ acts rfl rfl rfl]) | rw [hr _ _ rfl rfl rfl]
                      exact Steps.refl _
                    · show Q3 Z p0 s_METADATA s_OFFSET_COMMIT s_OFFSET_FETCH s_FIND_COORDINATOR s_JOIN_GROUP s_HEARTBEAT s_LEAVE_GROUP s_SYNC_GROUP s_DESCRIBE_GROUPS s_LIST_GROUPS s_API_VERSIONS s_CREATE_PARTITIONS s_DELETE_GROUPS s_OFFSET_DELETE s_CONSUMER_GROUP_HEARTBEAT s_CONSUMER_GROUP_DESCRIBE h0 n0 _ T36.heap _
                      rw [e36]
                      exact ⟨(by first | (unfold own_f3; rw [if_neg hc2, if_neg hc6, if_neg hc10, if_neg hc14, if_neg hc18, if_neg hc22, if_neg hc26, if_neg hc30, if_pos hc34]; done) | simp only [own_f3, if_neg hc2, if_neg hc6, if_neg hc10, if_neg hc14, if_neg hc18, if_neg hc22, if_neg hc26, if_neg hc30, if_pos hc34] | simp [own_f3, if_neg hc2, if_neg hc6, if_neg hc10, if_neg hc14, if_neg hc18, if_neg hc22, if_neg hc26, if_neg hc30, if_pos hc34]), N0, rfl⟩
                  · have pre37 : ∀ t, Steps p.tables e below (s₁.setTop (mkF m 86 #[.val (.int p0)] [(.int (9 : Int32)), (.int p0)])) t → P t := fun t k => pre33 t (by
                        show Steps p.tables e below (s₁.setTop (mkF m 76 #[.val (.int p0)] [(.int (8 : Int32)), (.int p0)])) _
                        refine XS.icmpYes X0.here hx rfl (pc0 := 76) (pc' := 83) rfl (hb hby d3_76) rfl (feq hc34).2 (by decide) (by decide) ?_
                        show Steps p.tables e below (s₁.setTop (mkF m 83 #[.val (.int p0)] [])) _
                        refine XS.iloadN X0.here hx rfl (hb hby d3_83) rfl ?_
                        show Steps p.tables e below (s₁.setTop (mkF m 84 #[.val (.int p0)] [(.int p0)])) _
                        refine XS.bipush X0.here hx rfl (hb hby d3_84) ?_
                        exact k)
                    by_cases hc38 : p0 = (9 : Int32)
                    · have pre39 : ∀ t, Steps p.tables e below (s₁.setTop (mkF m 89 #[.val (.int p0)] [])) t → P t := fun t k => pre37 t (by
                          show Steps p.tables e below (s₁.setTop (mkF m 86 #[.val (.int p0)] [(.int (9 : Int32)), (.int p0)])) _
                          refine XS.icmpNo X0.here hx rfl (hb hby d3_86) rfl (teq hc38).2 ?_
                          exact k)
                      obtain ⟨T40, X40, e40, st40⟩ := getS2 X0 hx hZ hown (host := "") (Or.inl (hw _ (List.mem_of_getElem? (i := 41) rfl))) Via.refl e0 S_LIST_GROUPS (g := (mkF m 89 #[.val (.int p0)] [])) rfl (hb hby d3_89)
                      have pre40 : ∀ t, Steps p.tables e below (T40.setTop (mkF m 92 #[.val (.int p0)] [(.ref s_LIST_GROUPS)])) t → P t := fun t k => pre39 t (st40 _ k)
                      obtain ⟨fs, hr, hrun, hended, hW, hsame⟩ := X40.leave (v := some (.ref s_LIST_GROUPS)) (fun h => by rw [Bd.returns] at h; cases h)
                      refine ⟨_, _, fin _ (pre40 _ ?_), hrun, hended, _, _, rfl, ?_, ⟨_, rfl⟩, hW, hsame.mono (by decide) (by decide)⟩
                      · show Steps p.tables e below (T40.setTop (mkF m 92 #[.val (.int p0)] [(.ref s_LIST_GROUPS)])) _
                        jvm_step X40.here [X40.here.top, hx, (hb hby d3_92), X40.method', Bd.returns, Value.isRef, FieldType.isReference]
                        first | (intro acts; rw [hr _ acts rfl rfl rfl]) | rw [hr _ _ rfl rfl rfl]
                        exact Steps.refl _
                      · show Q3 Z p0 s_METADATA s_OFFSET_COMMIT s_OFFSET_FETCH s_FIND_COORDINATOR s_JOIN_GROUP s_HEARTBEAT s_LEAVE_GROUP s_SYNC_GROUP s_DESCRIBE_GROUPS s_LIST_GROUPS s_API_VERSIONS s_CREATE_PARTITIONS s_DELETE_GROUPS s_OFFSET_DELETE s_CONSUMER_GROUP_HEARTBEAT s_CONSUMER_GROUP_DESCRIBE h0 n0 _ T40.heap _
                        rw [e40]
                        exact ⟨(by first | (unfold own_f3; rw [if_neg hc2, if_neg hc6, if_neg hc10, if_neg hc14, if_neg hc18, if_neg hc22, if_neg hc26, if_neg hc30, if_neg hc34, if_pos hc38]; done) | simp only [own_f3, if_neg hc2, if_neg hc6, if_neg hc10, if_neg hc14, if_neg hc18, if_neg hc22, if_neg hc26, if_neg hc30, if_neg hc34, if_pos hc38] | simp [own_f3, if_neg hc2, if_neg hc6, if_neg hc10, if_neg hc14, if_neg hc18, if_neg hc22, if_neg hc26, if_neg hc30, if_neg hc34, if_pos hc38]), N0, rfl⟩
                    · have pre41 : ∀ t, Steps p.tables e below (s₁.setTop (mkF m 96 #[.val (.int p0)] [(.int (10 : Int32)), (.int p0)])) t → P t := fun t k => pre37 t (by
                          show Steps p.tables e below (s₁.setTop (mkF m 86 #[.val (.int p0)] [(.int (9 : Int32)), (.int p0)])) _
                          refine XS.icmpYes X0.here hx rfl (pc0 := 86) (pc' := 93) rfl (hb hby d3_86) rfl (feq hc38).2 (by decide) (by decide) ?_
                          show Steps p.tables e below (s₁.setTop (mkF m 93 #[.val (.int p0)] [])) _
                          refine XS.iloadN X0.here hx rfl (hb hby d3_93) rfl ?_
                          show Steps p.tables e below (s₁.setTop (mkF m 94 #[.val (.int p0)] [(.int p0)])) _
                          refine XS.bipush X0.here hx rfl (hb hby d3_94) ?_
                          exact k)
                      by_cases hc42 : p0 = (10 : Int32)
                      · have pre43 : ∀ t, Steps p.tables e below (s₁.setTop (mkF m 99 #[.val (.int p0)] [])) t → P t := fun t k => pre41 t (by
                            show Steps p.tables e below (s₁.setTop (mkF m 96 #[.val (.int p0)] [(.int (10 : Int32)), (.int p0)])) _
                            refine XS.icmpNo X0.here hx rfl (hb hby d3_96) rfl (teq hc42).2 ?_
                            exact k)
                        obtain ⟨T44, X44, e44, st44⟩ := getS2 X0 hx hZ hown (host := "") (Or.inl (hw _ (List.mem_of_getElem? (i := 35) rfl))) Via.refl e0 S_API_VERSIONS (g := (mkF m 99 #[.val (.int p0)] [])) rfl (hb hby d3_99)
                        have pre44 : ∀ t, Steps p.tables e below (T44.setTop (mkF m 102 #[.val (.int p0)] [(.ref s_API_VERSIONS)])) t → P t := fun t k => pre43 t (st44 _ k)
                        obtain ⟨fs, hr, hrun, hended, hW, hsame⟩ := X44.leave (v := some (.ref s_API_VERSIONS)) (fun h => by rw [Bd.returns] at h; cases h)
                        refine ⟨_, _, fin _ (pre44 _ ?_), hrun, hended, _, _, rfl, ?_, ⟨_, rfl⟩, hW, hsame.mono (by decide) (by decide)⟩
                        · show Steps p.tables e below (T44.setTop (mkF m 102 #[.val (.int p0)] [(.ref s_API_VERSIONS)])) _
                          jvm_step X44.here [X44.here.top, hx, (hb hby d3_102), X44.method', Bd.returns, Value.isRef, FieldType.isReference]
                          first | (intro acts; rw [hr _ acts rfl rfl rfl]) | rw [hr _ _ rfl rfl rfl]
                          exact Steps.refl _
                        · show Q3 Z p0 s_METADATA s_OFFSET_COMMIT s_OFFSET_FETCH s_FIND_COORDINATOR s_JOIN_GROUP s_HEARTBEAT s_LEAVE_GROUP s_SYNC_GROUP s_DESCRIBE_GROUPS s_LIST_GROUPS s_API_VERSIONS s_CREATE_PARTITIONS s_DELETE_GROUPS s_OFFSET_DELETE s_CONSUMER_GROUP_HEARTBEAT s_CONSUMER_GROUP_DESCRIBE h0 n0 _ T44.heap _
                          rw [e44]
                          exact ⟨(by first | (unfold own_f3; rw [if_neg hc2, if_neg hc6, if_neg hc10, if_neg hc14, if_neg hc18, if_neg hc22, if_neg hc26, if_neg hc30, if_neg hc34, if_neg hc38, if_pos hc42]; done) | simp only [own_f3, if_neg hc2, if_neg hc6, if_neg hc10, if_neg hc14, if_neg hc18, if_neg hc22, if_neg hc26, if_neg hc30, if_neg hc34, if_neg hc38, if_pos hc42] | simp [own_f3, if_neg hc2, if_neg hc6, if_neg hc10, if_neg hc14, if_neg hc18, if_neg hc22, if_neg hc26, if_neg hc30, if_neg hc34, if_neg hc38, if_pos hc42]), N0, rfl⟩
                      · have pre45 : ∀ t, Steps p.tables e below (s₁.setTop (mkF m 106 #[.val (.int p0)] [(.int (11 : Int32)), (.int p0)])) t → P t := fun t k => pre41 t (by
                            show Steps p.tables e below (s₁.setTop (mkF m 96 #[.val (.int p0)] [(.int (10 : Int32)), (.int p0)])) _
                            refine XS.icmpYes X0.here hx rfl (pc0 := 96) (pc' := 103) rfl (hb hby d3_96) rfl (feq hc42).2 (by decide) (by decide) ?_
                            show Steps p.tables e below (s₁.setTop (mkF m 103 #[.val (.int p0)] [])) _
                            refine XS.iloadN X0.here hx rfl (hb hby d3_103) rfl ?_
                            show Steps p.tables e below (s₁.setTop (mkF m 104 #[.val (.int p0)] [(.int p0)])) _
                            refine XS.bipush X0.here hx rfl (hb hby d3_104) ?_
                            exact k)
                        by_cases hc46 : p0 = (11 : Int32)
                        · have pre47 : ∀ t, Steps p.tables e below (s₁.setTop (mkF m 109 #[.val (.int p0)] [])) t → P t := fun t k => pre45 t (by
                              show Steps p.tables e below (s₁.setTop (mkF m 106 #[.val (.int p0)] [(.int (11 : Int32)), (.int p0)])) _
                              refine XS.icmpNo X0.here hx rfl (hb hby d3_106) rfl (teq hc46).2 ?_
                              exact k)
                          obtain ⟨T48, X48, e48, st48⟩ := getS2 X0 hx hZ hown (host := "") (Or.inl (hw _ (List.mem_of_getElem? (i := 39) rfl))) Via.refl e0 S_CREATE_PARTITIONS (g := (mkF m 109 #[.val (.int p0)] [])) rfl (hb hby d3_109)
                          have pre48 : ∀ t, Steps p.tables e below (T48.setTop (mkF m 112 #[.val (.int p0)] [(.ref s_CREATE_PARTITIONS)])) t → P t := fun t k => pre47 t (st48 _ k)
                          obtain ⟨fs, hr, hrun, hended, hW, hsame⟩ := X48.leave (v := some (.ref s_CREATE_PARTITIONS)) (fun h => by rw [Bd.returns] at h; cases h)
                          refine ⟨_, _, fin _ (pre48 _ ?_), hrun, hended, _, _, rfl, ?_, ⟨_, rfl⟩, hW, hsame.mono (by decide) (by decide)⟩
                          · show Steps p.tables e below (T48.setTop (mkF m 112 #[.val (.int p0)] [(.ref s_CREATE_PARTITIONS)])) _
                            jvm_step X48.here [X48.here.top, hx, (hb hby d3_112), X48.method', Bd.returns, Value.isRef, FieldType.isReference]
                            first | (intro acts; rw [hr _ acts rfl rfl rfl]) | rw [hr _ _ rfl rfl rfl]
                            exact Steps.refl _
                          · show Q3 Z p0 s_METADATA s_OFFSET_COMMIT s_OFFSET_FETCH s_FIND_COORDINATOR s_JOIN_GROUP s_HEARTBEAT s_LEAVE_GROUP s_SYNC_GROUP s_DESCRIBE_GROUPS s_LIST_GROUPS s_API_VERSIONS s_CREATE_PARTITIONS s_DELETE_GROUPS s_OFFSET_DELETE s_CONSUMER_GROUP_HEARTBEAT s_CONSUMER_GROUP_DESCRIBE h0 n0 _ T48.heap _
                            rw [e48]
                            exact ⟨(by first | (unfold own_f3; rw [if_neg hc2, if_neg hc6, if_neg hc10, if_neg hc14, if_neg hc18, if_neg hc22, if_neg hc26, if_neg hc30, if_neg hc34, if_neg hc38, if_neg hc42, if_pos hc46]; done) | simp only [own_f3, if_neg hc2, if_neg hc6, if_neg hc10, if_neg hc14, if_neg hc18, if_neg hc22, if_neg hc26, if_neg hc30, if_neg hc34, if_neg hc38, if_neg hc42, if_pos hc46] | simp [own_f3, if_neg hc2, if_neg hc6, if_neg hc10, if_neg hc14, if_neg hc18, if_neg hc22, if_neg hc26, if_neg hc30, if_neg hc34, if_neg hc38, if_neg hc42, if_pos hc46]), N0, rfl⟩
                        · have pre49 : ∀ t, Steps p.tables e below (s₁.setTop (mkF m 116 #[.val (.int p0)] [(.int (12 : Int32)), (.int p0)])) t → P t := fun t k => pre45 t (by
                              show Steps p.tables e below (s₁.setTop (mkF m 106 #[.val (.int p0)] [(.int (11 : Int32)), (.int p0)])) _
                              refine XS.icmpYes X0.here hx rfl (pc0 := 106) (pc' := 113) rfl (hb hby d3_106) rfl (feq hc46).2 (by decide) (by decide) ?_
                              show Steps p.tables e below (s₁.setTop (mkF m 113 #[.val (.int p0)] [])) _
                              refine XS.iloadN X0.here hx rfl (hb hby d3_113) rfl ?_
                              show Steps p.tables e below (s₁.setTop (mkF m 114 #[.val (.int p0)] [(.int p0)])) _
                              refine XS.bipush X0.here hx rfl (hb hby d3_114) ?_
                              exact k)
                          by_cases hc50 : p0 = (12 : Int32)
                          · have pre51 : ∀ t, Steps p.tables e below (s₁.setTop (mkF m 119 #[.val (.int p0)] [])) t → P t := fun t k => pre49 t (by
                                show Steps p.tables e below (s₁.setTop (mkF m 116 #[.val (.int p0)] [(.int (12 : Int32)), (.int p0)])) _
                                refine XS.icmpNo X0.here hx rfl (hb hby d3_116) rfl (teq hc50).2 ?_
                                exact k)
                            obtain ⟨T52, X52, e52, st52⟩ := getS2 X0 hx hZ hown (host := "") (Or.inl (hw _ (List.mem_of_getElem? (i := 51) rfl))) Via.refl e0 S_DELETE_GROUPS (g := (mkF m 119 #[.val (.int p0)] [])) rfl (hb hby d3_119)
                            have pre52 : ∀ t, Steps p.tables e below (T52.setTop (mkF m 122 #[.val (.int p0)] [(.ref s_DELETE_GROUPS)])) t → P t := fun t k => pre51 t (st52 _ k)
                            obtain ⟨fs, hr, hrun, hended, hW, hsame⟩ := X52.leave (v := some (.ref s_DELETE_GROUPS)) (fun h => by rw [Bd.returns] at h; cases h)
                            refine ⟨_, _, fin _ (pre52 _ ?_), hrun, hended, _, _, rfl, ?_, ⟨_, rfl⟩, hW, hsame.mono (by decide) (by decide)⟩
                            · show Steps p.tables e below (T52.setTop (mkF m 122 #[.val (.int p0)] [(.ref s_DELETE_GROUPS)])) _
                              jvm_step X52.here [X52.here.top, hx, (hb hby d3_122), X52.method', Bd.returns, Value.isRef, FieldType.isReference]
                              first | (intro acts; rw [hr _ acts rfl rfl rfl]) | rw [hr _ _ rfl rfl rfl]
                              exact Steps.refl _
                            · show Q3 Z p0 s_METADATA s_OFFSET_COMMIT s_OFFSET_FETCH s_FIND_COORDINATOR s_JOIN_GROUP s_HEARTBEAT s_LEAVE_GROUP s_SYNC_GROUP s_DESCRIBE_GROUPS s_LIST_GROUPS s_API_VERSIONS s_CREATE_PARTITIONS s_DELETE_GROUPS s_OFFSET_DELETE s_CONSUMER_GROUP_HEARTBEAT s_CONSUMER_GROUP_DESCRIBE h0 n0 _ T52.heap _
                              rw [e52]
                              exact ⟨(by first | (unfold own_f3; rw [if_neg hc2, if_neg hc6, if_neg hc10, if_neg hc14, if_neg hc18, if_neg hc22, if_neg hc26, if_neg hc30, if_neg hc34, if_neg hc38, if_neg hc42, if_neg hc46, if_pos hc50]; done) | simp only [own_f3, if_neg hc2, if_neg hc6, if_neg hc10, if_neg hc14, if_neg hc18, if_neg hc22, if_neg hc26, if_neg hc30, if_neg hc34, if_neg hc38, if_neg hc42, if_neg hc46, if_pos hc50] | simp [own_f3, if_neg hc2, if_neg hc6, if_neg hc10, if_neg hc14, if_neg hc18, if_neg hc22, if_neg hc26, if_neg hc30, if_neg hc34, if_neg hc38, if_neg hc42, if_neg hc46, if_pos hc50]), N0, rfl⟩
                          · have pre53 : ∀ t, Steps p.tables e below (s₁.setTop (mkF m 126 #[.val (.int p0)] [(.int (13 : Int32)), (.int p0)])) t → P t := fun t k => pre49 t (by
                                show Steps p.tables e below (s₁.setTop (mkF m 116 #[.val (.int p0)] [(.int (12 : Int32)), (.int p0)])) _
                                refine XS.icmpYes X0.here hx rfl (pc0 := 116) (pc' := 123) rfl (hb hby d3_116) rfl (feq hc50).2 (by decide) (by decide) ?_
                                show Steps p.tables e below (s₁.setTop (mkF m 123 #[.val (.int p0)] [])) _
                                refine XS.iloadN X0.here hx rfl (hb hby d3_123) rfl ?_
                                show Steps p.tables e below (s₁.setTop (mkF m 124 #[.val (.int p0)] [(.int p0)])) _
                                refine XS.bipush X0.here hx rfl (hb hby d3_124) ?_
                                exact k)
                            by_cases hc54 : p0 = (13 : Int32)
                            · have pre55 : ∀ t, Steps p.tables e below (s₁.setTop (mkF m 129 #[.val (.int p0)] [])) t → P t := fun t k => pre53 t (by
                                  show Steps p.tables e below (s₁.setTop (mkF m 126 #[.val (.int p0)] [(.int (13 : Int32)), (.int p0)])) _
                                  refine XS.icmpNo X0.here hx rfl (hb hby d3_126) rfl (teq hc54).2 ?_
                                  exact k)
                              obtain ⟨T56, X56, e56, st56⟩ := getS2 X0 hx hZ hown (host := "") (Or.inl (hw _ (List.mem_of_getElem? (i := 37) rfl))) Via.refl e0 S_OFFSET_DELETE (g := (mkF m 129 #[.val (.int p0)] [])) rfl (hb hby d3_129)
                              have pre56 : ∀ t, Steps p.tables e below (T56.setTop (mkF m 132 #[.val (.int p0)] [(.ref s_OFFSET_DELETE)])) t → P t := fun t k => pre55 t (st56 _ k)
                              obtain ⟨fs, hr, hrun, hended, hW, hsame⟩ := X56.leave (v := some (.ref s_OFFSET_DELETE)) (fun h => by rw [Bd.returns] at h; cases h)
                              refine ⟨_, _, fin _ (pre56 _ ?_), hrun, hended, _, _, rfl, ?_, ⟨_, rfl⟩, hW, hsame.mono (by decide) (by decide)⟩
                              · show Steps p.tables e below (T56.setTop (mkF m 132 #[.val (.int p0)] [(.ref s_OFFSET_DELETE)])) _
                                jvm_step X56.here [X56.here.top, hx, (hb hby d3_132), X56.method', Bd.returns, Value.isRef, FieldType.isReference]
                                first | (intro acts; rw [hr _ acts rfl rfl rfl]) | rw [hr _ _ rfl rfl rfl]
                                exact Steps.refl _
                              · show Q3 Z p0 s_METADATA s_OFFSET_COMMIT s_OFFSET_FETCH s_FIND_COORDINATOR s_JOIN_GROUP s_HEARTBEAT s_LEAVE_GROUP s_SYNC_GROUP s_DESCRIBE_GROUPS s_LIST_GROUPS s_API_VERSIONS s_CREATE_PARTITIONS s_DELETE_GROUPS s_OFFSET_DELETE s_CONSUMER_GROUP_HEARTBEAT s_CONSUMER_GROUP_DESCRIBE h0 n0 _ T56.heap _
                                rw [e56]
                                exact ⟨(by first | (unfold own_f3; rw [if_neg hc2, if_neg hc6, if_neg hc10, if_neg hc14, if_neg hc18, if_neg hc22, if_neg hc26, if_neg hc30, if_neg hc34, if_neg hc38, if_neg hc42, if_neg hc46, if_neg hc50, if_pos hc54]; done) | simp only [own_f3, if_neg hc2, if_neg hc6, if_neg hc10, if_neg hc14, if_neg hc18, if_neg hc22, if_neg hc26, if_neg hc30, if_neg hc34, if_neg hc38, if_neg hc42, if_neg hc46, if_neg hc50, if_pos hc54] | simp [own_f3, if_neg hc2, if_neg hc6, if_neg hc10, if_neg hc14, if_neg hc18, if_neg hc22, if_neg hc26, if_neg hc30, if_neg hc34, if_neg hc38, if_neg hc42, if_neg hc46, if_neg hc50, if_pos hc54]), N0, rfl⟩
                            · have pre57 : ∀ t, Steps p.tables e below (s₁.setTop (mkF m 136 #[.val (.int p0)] [(.int (14 : Int32)), (.int p0)])) t → P t := fun t k => pre53 t (by
                                  show Steps p.tables e below (s₁.setTop (mkF m 126 #[.val (.int p0)] [(.int (13 : Int32)), (.int p0)])) _
                                  refine XS.icmpYes X0.here hx rfl (pc0 := 126) (pc' := 133) rfl (hb hby d3_126) rfl (feq hc54).2 (by decide) (by decide) ?_
                                  show Steps p.tables e below (s₁.setTop (mkF m 133 #[.val (.int p0)] [])) _
                                  refine XS.iloadN X0.here hx rfl (hb hby d3_133) rfl ?_
                                  show Steps p.tables e below (s₁.setTop (mkF m 134 #[.val (.int p0)] [(.int p0)])) _
                                  refine XS.bipush X0.here hx rfl (hb hby d3_134) ?_
                                  exact k)
                              by_cases hc58 : p0 = (14 : Int32)
                              · have pre59 : ∀ t, Steps p.tables e below (s₁.setTop (mkF m 139 #[.val (.int p0)] [])) t → P t := fun t k => pre57 t (by
                                    show Steps p.tables e below (s₁.setTop (mkF m 136 #[.val (.int p0)] [(.int (14 : Int32)), (.int p0)])) _
                                    refine XS.icmpNo X0.here hx rfl (hb hby d3_136) rfl (teq hc58).2 ?_
                                    exact k)
                                obtain ⟨T60, X60, e60, st60⟩ := getS2 X0 hx hZ hown (host := "") (Or.inl (hw _ (List.mem_of_getElem? (i := 47) rfl))) Via.refl e0 S_CONSUMER_GROUP_HEARTBEAT (g := (mkF m 139 #[.val (.int p0)] [])) rfl (hb hby d3_139)
                                have pre60 : ∀ t, Steps p.tables e below (T60.setTop (mkF m 142 #[.val (.int p0)] [(.ref s_CONSUMER_GROUP_HEARTBEAT)])) t → P t := fun t k => pre59 t (st60 _ k)
                                obtain ⟨fs, hr, hrun, hended, hW, hsame⟩ := X60.leave (v := some (.ref s_CONSUMER_GROUP_HEARTBEAT)) (fun h => by rw [Bd.returns] at h; cases h)
                                refine ⟨_, _, fin _ (pre60 _ ?_), hrun, hended, _, _, rfl, ?_, ⟨_, rfl⟩, hW, hsame.mono (by decide) (by decide)⟩
                                · show Steps p.tables e below (T60.setTop (mkF m 142 #[.val (.int p0)] [(.ref s_CONSUMER_GROUP_HEARTBEAT)])) _
                                  jvm_step X60.here [X60.here.top, hx, (hb hby d3_142), X60.method', Bd.returns, Value.isRef, FieldType.isReference]
                                  first | (intro acts; rw [hr _ acts rfl rfl rfl]) | rw [hr _ _ rfl rfl rfl]
                                  exact Steps.refl _
                                · show Q3 Z p0 s_METADATA s_OFFSET_COMMIT s_OFFSET_FETCH s_FIND_COORDINATOR s_JOIN_GROUP s_HEARTBEAT s_LEAVE_GROUP s_SYNC_GROUP s_DESCRIBE_GROUPS s_LIST_GROUPS s_API_VERSIONS s_CREATE_PARTITIONS s_DELETE_GROUPS s_OFFSET_DELETE s_CONSUMER_GROUP_HEARTBEAT s_CONSUMER_GROUP_DESCRIBE h0 n0 _ T60.heap _
                                  rw [e60]
                                  exact ⟨(by first | (unfold own_f3; rw [if_neg hc2, if_neg hc6, if_neg hc10, if_neg hc14, if_neg hc18, if_neg hc22, if_neg hc26, if_neg hc30, if_neg hc34, if_neg hc38, if_neg hc42, if_neg hc46, if_neg hc50, if_neg hc54, if_pos hc58]; done) | simp only [own_f3, if_neg hc2, if_neg hc6, if_neg hc10, if_neg hc14, if_neg hc18, if_neg hc22, if_neg hc26, if_neg hc30, if_neg hc34, if_neg hc38, if_neg hc42, if_neg hc46, if_neg hc50, if_neg hc54, if_pos hc58] | simp [own_f3, if_neg hc2, if_neg hc6, if_neg hc10, if_neg hc14, if_neg hc18, if_neg hc22, if_neg hc26, if_neg hc30, if_neg hc34, if_neg hc38, if_neg hc42, if_neg hc46, if_neg hc50, if_neg hc54, if_pos hc58]), N0, rfl⟩
                              · have pre61 : ∀ t, Steps p.tables e below (s₁.setTop (mkF m 143 #[.val (.int p0)] [])) t → P t := fun t k => pre57 t (by
                                    show Steps p.tables e below (s₁.setTop (mkF m 136 #[.val (.int p0)] [(.int (14 : Int32)), (.int p0)])) _
                                    refine XS.icmpYes X0.here hx rfl (pc0 := 136) (pc' := 143) rfl (hb hby d3_136) rfl (feq hc58).2 (by decide) (by decide) ?_
                                    exact k)
                                obtain ⟨T62, X62, e62, st62⟩ := getS2 X0 hx hZ hown (host := "") (Or.inl (hw _ (List.mem_of_getElem? (i := 27) rfl))) Via.refl e0 S_CONSUMER_GROUP_DESCRIBE (g := (mkF m 143 #[.val (.int p0)] [])) rfl (hb hby d3_143)
                                have pre62 : ∀ t, Steps p.tables e below (T62.setTop (mkF m 146 #[.val (.int p0)] [(.ref s_CONSUMER_GROUP_DESCRIBE)])) t → P t := fun t k => pre61 t (st62 _ k)
                                obtain ⟨fs, hr, hrun, hended, hW, hsame⟩ := X62.leave (v := some (.ref s_CONSUMER_GROUP_DESCRIBE)) (fun h => by rw [Bd.returns] at h; cases h)
                                refine ⟨_, _, fin _ (pre62 _ ?_), hrun, hended, _, _, rfl, ?_, ⟨_, rfl⟩, hW, hsame.mono (by decide) (by decide)⟩
                                · show Steps p.tables e below (T62.setTop (mkF m 146 #[.val (.int p0)] [(.ref s_CONSUMER_GROUP_DESCRIBE)])) _
                                  jvm_step X62.here [X62.here.top, hx, (hb hby d3_146), X62.method', Bd.returns, Value.isRef, FieldType.isReference]
                                  first | (intro acts; rw [hr _ acts rfl rfl rfl]) | rw [hr _ _ rfl rfl rfl]
                                  exact Steps.refl _
                                · show Q3 Z p0 s_METADATA s_OFFSET_COMMIT s_OFFSET_FETCH s_FIND_COORDINATOR s_JOIN_GROUP s_HEARTBEAT s_LEAVE_GROUP s_SYNC_GROUP s_DESCRIBE_GROUPS s_LIST_GROUPS s_API_VERSIONS s_CREATE_PARTITIONS s_DELETE_GROUPS s_OFFSET_DELETE s_CONSUMER_GROUP_HEARTBEAT s_CONSUMER_GROUP_DESCRIBE h0 n0 _ T62.heap _
                                  rw [e62]
                                  exact ⟨(by first | (unfold own_f3; rw [if_neg hc2, if_neg hc6, if_neg hc10, if_neg hc14, if_neg hc18, if_neg hc22, if_neg hc26, if_neg hc30, if_neg hc34, if_neg hc38, if_neg hc42, if_neg hc46, if_neg hc50, if_neg hc54, if_neg hc58]; done) | simp only [own_f3, if_neg hc2, if_neg hc6, if_neg hc10, if_neg hc14, if_neg hc18, if_neg hc22, if_neg hc26, if_neg hc30, if_neg hc34, if_neg hc38, if_neg hc42, if_neg hc46, if_neg hc50, if_neg hc54, if_neg hc58] | simp [own_f3, if_neg hc2, if_neg hc6, if_neg hc10, if_neg hc14, if_neg hc18, if_neg hc22, if_neg hc26, if_neg hc30, if_neg hc34, if_neg hc38, if_neg hc42, if_neg hc46, if_neg hc50, if_neg hc54, if_neg hc58]), N0, rfl⟩
theorem d4_0 : decode prog_108_method_8_code 0 = .ok (.iload_n 1, 1) := by decide +kernel
theorem d4_1 : decode prog_108_method_8_code 1 = .ok (.aload_n 0, 1) := by decide +kernel
theorem d4_2 : decode prog_108_method_8_code 2 = .ok (.getfield 75, 3) := by decide +kernel
theorem d4_5 : decode prog_108_method_8_code 5 = .ok (.if_icmp .lt 15, 3) := by decide +kernel
theorem d4_8 : decode prog_108_method_8_code 8 = .ok (.iload_n 1, 1) := by decide +kernel
theorem d4_9 : decode prog_108_method_8_code 9 = .ok (.aload_n 0, 1) := by decide +kernel
theorem d4_10 : decode prog_108_method_8_code 10 = .ok (.getfield 78, 3) := by decide +kernel
theorem d4_13 : decode prog_108_method_8_code 13 = .ok (.if_icmp .gt 7, 3) := by decide +kernel
theorem d4_16 : decode prog_108_method_8_code 16 = .ok (.iconst 1, 1) := by decide +kernel
theorem d4_17 : decode prog_108_method_8_code 17 = .ok (.goto 4, 3) := by decide +kernel
theorem d4_20 : decode prog_108_method_8_code 20 = .ok (.iconst 0, 1) := by decide +kernel
theorem d4_21 : decode prog_108_method_8_code 21 = .ok (.ireturn, 1) := by decide +kernel
theorem pn_4 : plainName "com/example/incarico/incarico/protocol/ApiKey" = true := by first | (simp [plainName, overriddenIn]; done) | decide +kernel
theorem ef_4 (m : MethodId) (o0 : Addr) (p1 : Int32) : entryFrame m #[(.ref o0), (.int p1)] 2 = mkF m 0 #[.val (.ref o0), .val (.int p1)] [] := by first | (simp [entryFrame, mkF, argsToLocals, Value.category]; done) | rfl
def own_f4 (p1 : Int32) (w_lowestVersion_o0 : Int32) (w_highestVersion_o0 : Int32) : Int32 := (if p1 < w_lowestVersion_o0 then (0 : Int32) else (if w_highestVersion_o0 < p1 then (0 : Int32) else (1 : Int32)))
def Q4 (Z : State) (o0 : Addr) (p1 : Int32) (w_lowestVersion_o0 : Int32) (w_highestVersion_o0 : Int32) (h0 : Heap) (n0 : Nat) (v : Option Value) (h : Heap) (L : List Loc) : Prop := v = some (.int (own_f4 p1 w_lowestVersion_o0 w_highestVersion_o0)) ∧ Fr n0 L ∧ h = h0
set_option maxRecDepth 65536 in
set_option maxHeartbeats 40000000 in
theorem rm4 (l : Launch) (Z : State) (a0 : Array Value) (hw : ∀ d ∈ tables_1, d.before a0 Z = true) (ws : List Jvm.Cond) (o0 : Addr) (p1 : Int32) (w_lowestVersion_o0 : Int32) (w_highestVersion_o0 : Int32) (h0 : Heap) (n0 : Nat) (Z0 : n0 ≤ h0.size) (F_lowestVersion_o0 : Fld Z h0 o0 "com/example/incarico/incarico/protocol/ApiKey" "lowestVersion" "S" (.int w_lowestVersion_o0)) (F_highestVersion_o0 : Fld Z h0 o0 "com/example/incarico/incarico/protocol/ApiKey" "highestVersion" "S" (.int w_highestVersion_o0)) :
    MetFree l (⟨"com/example/incarico/incarico/protocol/ApiKey", "supports", "(S)Z"⟩ : MethodName) (head1 (Jvm.Cond.code (⟨"com/example/incarico/incarico/protocol/ApiKey", "supports", "(S)Z"⟩ : MethodName) prog_108_method_8_code 2 (some .boolean) :: ws) ({ frames := 0, cells := 0, slots := 0, locals := 0 } : Room)) (fun a U => a = #[(.ref o0), (.int p1)] ∧ Z.Warmed39 U.vm ∧ U.heap = h0) (fun _ _ _ _ _ => True) (fun _ U o U' => ∃ v L, o = .returned v ∧ Q4 Z o0 p1 w_lowestVersion_o0 w_highestVersion_o0 h0 n0 v U'.heap L ∧ FrameEnd U o U' L ({ frames := 0, cells := 0, slots := 0, locals := 0 } : Room).cells ({ frames := 0, cells := 0, slots := 0, locals := 0 } : Room).slots) := by
  refine MetFree.of_bodySF (plainFor_of_name pn_4) hisR ?_
  intro p e s m args below meth c s₁ Bd hml0 hP hK
  obtain ⟨rfl, hZ, hh⟩ := hP
  have hx := Bd.exec
  have hby := Bd.bytes
  have hml : c.maxLocals = 2 := hml0
  have hown : s.vm.findClass "com/example/incarico/incarico/protocol/ApiKey" = some m.cls := findClass_of_methodNamed Bd.named
  have hnm := (name_of_methodNamed Bd.named Bd.method).1
  have X0 : Stand p l e ({ frames := 0, cells := 0, slots := 0, locals := 0 } : Room) s m #[(.ref o0), (.int p1)] below meth c s₁ [] 0 0 := Stand.of_body Bd
  have e0 : s₁.heap = h0 := by rw [← hh, Bd.state]; rfl
  have N0 := Fr.nil n0
  obtain ⟨P, pre0, fin⟩ : ∃ P : State → Prop, (∀ t, Steps p.tables e below (s₁.setTop (mkF m 0 #[.val (.ref o0), .val (.int p1)] [])) t → P t) ∧ (∀ t, P t → Steps p.tables e below (s₁.setTop (entryFrame m #[(.ref o0), (.int p1)] 2)) t) := ⟨fun t => Steps p.tables e below (s₁.setTop (entryFrame m #[(.ref o0), (.int p1)] 2)) t, fun t k => castTop (ef_4 m o0 p1) k, fun t k => k⟩
  have K0 : Keep h0 h0 [] := Keep.refl _ _
  have pre1 : ∀ t, Steps p.tables e below (s₁.setTop (mkF m 2 #[.val (.ref o0), .val (.int p1)] [(.ref o0), (.int p1)])) t → P t := fun t k => pre0 t (by
      show Steps p.tables e below (s₁.setTop (mkF m 0 #[.val (.ref o0), .val (.int p1)] [])) _
      refine XS.iloadN X0.here hx rfl (hb hby d4_0) rfl ?_
      show Steps p.tables e below (s₁.setTop (mkF m 1 #[.val (.ref o0), .val (.int p1)] [(.int p1)])) _
      refine XS.aloadN X0.here hx rfl (hb hby d4_1) rfl rfl ?_
      exact k)
  obtain ⟨T2, X2, e2, st2⟩ := getF X0 hx hZ hown (host := "") (Or.inl (hw _ (List.mem_of_getElem? (i := 19) rfl))) Via.refl e0 F_lowestVersion_o0 (g := (mkF m 2 #[.val (.ref o0), .val (.int p1)] [(.ref o0), (.int p1)])) rfl rfl (hb hby d4_2)
  have pre2 : ∀ t, Steps p.tables e below (T2.setTop (mkF m 5 #[.val (.ref o0), .val (.int p1)] [(.int w_lowestVersion_o0), (.int p1)])) t → P t := fun t k => pre1 t (st2 _ k)
  obtain ⟨T11, L11, v10, X11, e11, N11, hv10, pre11⟩ : ∃ (T' : State) (L' : List Loc) (v10 : Int32), Stand p l e ({ frames := 0, cells := 0, slots := 0, locals := 0 } : Room) s m #[(.ref o0), (.int p1)] below meth c T' L' 0 0 ∧ T'.heap = h0 ∧ Fr n0 L' ∧ v10 = (if p1 < w_lowestVersion_o0 then (0 : Int32) else (if w_highestVersion_o0 < p1 then (0 : Int32) else (1 : Int32))) ∧ (∀ t, Steps p.tables e below (T'.setTop (mkF m 21 #[.val (.ref o0), .val (.int p1)] [(.int v10)])) t → P t) := by
    by_cases hc3 : p1 < w_lowestVersion_o0
    · have pre4 : ∀ t, Steps p.tables e below (T2.setTop (mkF m 21 #[.val (.ref o0), .val (.int p1)] [(.int (0 : Int32))])) t → P t := fun t k => pre2 t (by
          show Steps p.tables e below (T2.setTop (mkF m 5 #[.val (.ref o0), .val (.int p1)] [(.int w_lowestVersion_o0), (.int p1)])) _
          refine XS.icmpYes X2.here hx rfl (pc0 := 5) (pc' := 20) rfl (hb hby d4_5) rfl (tlt hc3).1 (by decide) (by decide) ?_
          show Steps p.tables e below (T2.setTop (mkF m 20 #[.val (.ref o0), .val (.int p1)] [])) _
          refine XS.iconst X2.here hx rfl (hb hby d4_20) ?_
          exact k)
      exact ⟨_, _, (0 : Int32), X2, e2, N0, (by first | (rw [if_pos hc3]; done) | simp only [if_pos hc3] | simp [if_pos hc3]), pre4⟩
    · have pre5 : ∀ t, Steps p.tables e below (T2.setTop (mkF m 10 #[.val (.ref o0), .val (.int p1)] [(.ref o0), (.int p1)])) t → P t := fun t k => pre2 t (by
          show Steps p.tables e below (T2.setTop (mkF m 5 #[.val (.ref o0), .val (.int p1)] [(.int w_lowestVersion_o0), (.int p1)])) _
          refine XS.icmpNo X2.here hx rfl (hb hby d4_5) rfl (flt hc3).1 ?_
          show Steps p.tables e below (T2.setTop (mkF m 8 #[.val (.ref o0), .val (.int p1)] [])) _
          refine XS.iloadN X2.here hx rfl (hb hby d4_8) rfl ?_
          show Steps p.tables e below (T2.setTop (mkF m 9 #[.val (.ref o0), .val (.int p1)] [(.int p1)])) _
          refine XS.aloadN X2.here hx rfl (hb hby d4_9) rfl rfl ?_
          exact k)
      obtain ⟨T6, X6, e6, st6⟩ := getF X2 hx hZ hown (host := "") (Or.inl (hw _ (List.mem_of_getElem? (i := 21) rfl))) Via.refl e2 F_highestVersion_o0 (g := (mkF m 10 #[.val (.ref o0), .val (.int p1)] [(.ref o0), (.int p1)])) rfl rfl (hb hby d4_10)
      have pre6 : ∀ t, Steps p.tables e below (T6.setTop (mkF m 13 #[.val (.ref o0), .val (.int p1)] [(.int w_highestVersion_o0), (.int p1)])) t → P t := fun t k => pre5 t (st6 _ k)
      by_cases hc7 : w_highestVersion_o0 < p1
      · have pre8 : ∀ t, Steps p.tables e below (T6.setTop (mkF m 21 #[.val (.ref o0), .val (.int p1)] [(.int (0 : Int32))])) t → P t := fun t k => pre6 t (by
            show Steps p.tables e below (T6.setTop (mkF m 13 #[.val (.ref o0), .val (.int p1)] [(.int w_highestVersion_o0), (.int p1)])) _
            refine XS.icmpYes X6.here hx rfl (pc0 := 13) (pc' := 20) rfl (hb hby d4_13) rfl (tlt hc7).2.2.1 (by decide) (by decide) ?_
            show Steps p.tables e below (T6.setTop (mkF m 20 #[.val (.ref o0), .val (.int p1)] [])) _
            refine XS.iconst X6.here hx rfl (hb hby d4_20) ?_
            exact k)
        exact ⟨_, _, (0 : Int32), X6, e6, N0, (by first | (rw [if_neg hc3, if_pos hc7]; done) | simp only [if_neg hc3, if_pos hc7] | simp [if_neg hc3, if_pos hc7]), pre8⟩
      · have pre9 : ∀ t, Steps p.tables e below (T6.setTop (mkF m 21 #[.val (.ref o0), .val (.int p1)] [(.int (1 : Int32))])) t → P t := fun t k => pre6 t (by
            show Steps p.tables e below (T6.setTop (mkF m 13 #[.val (.ref o0), .val (.int p1)] [(.int w_highestVersion_o0), (.int p1)])) _
            refine XS.icmpNo X6.here hx rfl (hb hby d4_13) rfl (flt hc7).2.2.1 ?_
            show Steps p.tables e below (T6.setTop (mkF m 16 #[.val (.ref o0), .val (.int p1)] [])) _
            refine XS.iconst X6.here hx rfl (hb hby d4_16) ?_
            show Steps p.tables e below (T6.setTop (mkF m 17 #[.val (.ref o0), .val (.int p1)] [(.int (1 : Int32))])) _
            refine XS.goto X6.here hx rfl (pc0 := 17) (pc' := 21) rfl (hb hby d4_17) (by decide) (by decide) ?_
            exact k)
        exact ⟨_, _, (1 : Int32), X6, e6, N0, (by first | (rw [if_neg hc3, if_neg hc7]; done) | simp only [if_neg hc3, if_neg hc7] | simp [if_neg hc3, if_neg hc7]), pre9⟩
  obtain ⟨fs, hr, hrun, hended, hW, hsame⟩ := X11.leave (v := some (.int v10)) (fun h => by rw [Bd.returns] at h; cases h)
  refine ⟨_, _, fin _ (pre11 _ ?_), hrun, hended, _, _, rfl, ?_, ⟨_, rfl⟩, hW, hsame.mono (by decide) (by decide)⟩
  · show Steps p.tables e below (T11.setTop (mkF m 21 #[.val (.ref o0), .val (.int p1)] [(.int v10)])) _
    have hnar : nar .boolean v10 = v10 := by subst hv10; first | rfl | (split <;> rfl) | ((try simp only []); (repeat' split) <;> rfl)
    exact retN X11 hx (t := .boolean) Bd.returns (by simp) (hb hby d4_21) (by rw [hnar]; exact hr)
  · show Q4 Z o0 p1 w_lowestVersion_o0 w_highestVersion_o0 h0 n0 _ T11.heap _
    rw [e11]
    exact ⟨(by subst hv10; first | rfl | simp only [own_f4]), N11, rfl⟩
theorem own_pick (Z : State) (h : Heap) (k : Int32) (s_METADATA : Addr) (s_OFFSET_COMMIT : Addr) (s_OFFSET_FETCH : Addr) (s_FIND_COORDINATOR : Addr) (s_JOIN_GROUP : Addr) (s_HEARTBEAT : Addr) (s_LEAVE_GROUP : Addr) (s_SYNC_GROUP : Addr) (s_DESCRIBE_GROUPS : Addr) (s_LIST_GROUPS : Addr) (s_API_VERSIONS : Addr) (s_CREATE_PARTITIONS : Addr) (s_DELETE_GROUPS : Addr) (s_OFFSET_DELETE : Addr) (s_CONSUMER_GROUP_HEARTBEAT : Addr) (s_CONSUMER_GROUP_DESCRIBE : Addr) (H_METADATA : own_K Z h s_METADATA (1 : Int32) (13 : Int32)) (H_OFFSET_COMMIT : own_K Z h s_OFFSET_COMMIT (2 : Int32) (10 : Int32)) (H_OFFSET_FETCH : own_K Z h s_OFFSET_FETCH (1 : Int32) (10 : Int32)) (H_FIND_COORDINATOR : own_K Z h s_FIND_COORDINATOR (0 : Int32) (6 : Int32)) (H_JOIN_GROUP : own_K Z h s_JOIN_GROUP (0 : Int32) (9 : Int32)) (H_HEARTBEAT : own_K Z h s_HEARTBEAT (0 : Int32) (4 : Int32)) (H_LEAVE_GROUP : own_K Z h s_LEAVE_GROUP (0 : Int32) (5 : Int32)) (H_SYNC_GROUP : own_K Z h s_SYNC_GROUP (0 : Int32) (5 : Int32)) (H_DESCRIBE_GROUPS : own_K Z h s_DESCRIBE_GROUPS (0 : Int32) (6 : Int32)) (H_LIST_GROUPS : own_K Z h s_LIST_GROUPS (0 : Int32) (5 : Int32)) (H_API_VERSIONS : own_K Z h s_API_VERSIONS (0 : Int32) (4 : Int32)) (H_CREATE_PARTITIONS : own_K Z h s_CREATE_PARTITIONS (0 : Int32) (3 : Int32)) (H_DELETE_GROUPS : own_K Z h s_DELETE_GROUPS (0 : Int32) (2 : Int32)) (H_OFFSET_DELETE : own_K Z h s_OFFSET_DELETE (0 : Int32) (0 : Int32)) (H_CONSUMER_GROUP_HEARTBEAT : own_K Z h s_CONSUMER_GROUP_HEARTBEAT (0 : Int32) (1 : Int32)) (H_CONSUMER_GROUP_DESCRIBE : own_K Z h s_CONSUMER_GROUP_DESCRIBE (0 : Int32) (1 : Int32)) : own_K Z h (own_f3 k s_METADATA s_OFFSET_COMMIT s_OFFSET_FETCH s_FIND_COORDINATOR s_JOIN_GROUP s_HEARTBEAT s_LEAVE_GROUP s_SYNC_GROUP s_DESCRIBE_GROUPS s_LIST_GROUPS s_API_VERSIONS s_CREATE_PARTITIONS s_DELETE_GROUPS s_OFFSET_DELETE s_CONSUMER_GROUP_HEARTBEAT s_CONSUMER_GROUP_DESCRIBE) (own_f1 k) (own_f2 k) := by
  by_cases c0 : k = (0 : Int32)
  · subst c0
    have e1 : own_f1 (0 : Int32) = 1 := by decide
    have e2 : own_f2 (0 : Int32) = 13 := by decide
    rw [e1, e2]
    unfold own_f3
    first | exact H_METADATA | (simp; exact H_METADATA)
  by_cases c1 : k = (1 : Int32)
  · subst c1
    have e1 : own_f1 (1 : Int32) = 2 := by decide
    have e2 : own_f2 (1 : Int32) = 10 := by decide
    rw [e1, e2]
    unfold own_f3
    first | exact H_OFFSET_COMMIT | (simp; exact H_OFFSET_COMMIT)
  by_cases c2 : k = (2 : Int32)
  · subst c2
    have e1 : own_f1 (2 : Int32) = 1 := by decide
    have e2 : own_f2 (2 : Int32) = 10 := by decide
    rw [e1, e2]
    unfold own_f3
    first | exact H_OFFSET_FETCH | (simp; exact H_OFFSET_FETCH)
  by_cases c3 : k = (3 : Int32)
  · subst c3
    have e1 : own_f1 (3 : Int32) = 0 := by decide
    have e2 : own_f2 (3 : Int32) = 6 := by decide
    rw [e1, e2]
    unfold own_f3
    first | exact H_FIND_COORDINATOR | (simp; exact H_FIND_COORDINATOR)
  by_cases c4 : k = (4 : Int32)
  · subst c4
    have e1 : own_f1 (4 : Int32) = 0 := by decide
    have e2 : own_f2 (4 : Int32) = 9 := by decide
    rw [e1, e2]
    unfold own_f3
    first | exact H_JOIN_GROUP | (simp; exact H_JOIN_GROUP)
  by_cases c5 : k = (5 : Int32)
  · subst c5
    have e1 : own_f1 (5 : Int32) = 0 := by decide
    have e2 : own_f2 (5 : Int32) = 4 := by decide
    rw [e1, e2]
    unfold own_f3
    first | exact H_HEARTBEAT | (simp; exact H_HEARTBEAT)
  by_cases c6 : k = (6 : Int32)
  · subst c6
    have e1 : own_f1 (6 : Int32) = 0 := by decide
    have e2 : own_f2 (6 : Int32) = 5 := by decide
    rw [e1, e2]
    unfold own_f3
    first | exact H_LEAVE_GROUP | (simp; exact H_LEAVE_GROUP)
  by_cases c7 : k = (7 : Int32)
  · subst c7
    have e1 : own_f1 (7 : Int32) = 0 := by decide
    have e2 : own_f2 (7 : Int32) = 5 := by decide
    rw [e1, e2]
    unfold own_f3
    first | exact H_SYNC_GROUP | (simp; exact H_SYNC_GROUP)
  by_cases c8 : k = (8 : Int32)
  · subst c8
    have e1 : own_f1 (8 : Int32) = 0 := by decide
    have e2 : own_f2 (8 : Int32) = 6 := by decide
    rw [e1, e2]
    unfold own_f3
    first | exact H_DESCRIBE_GROUPS | (simp; exact H_DESCRIBE_GROUPS)
  by_cases c9 : k = (9 : Int32)
  · subst c9
    have e1 : own_f1 (9 : Int32) = 0 := by decide
    have e2 : own_f2 (9 : Int32) = 5 := by decide
    rw [e1, e2]
    unfold own_f3
    first | exact H_LIST_GROUPS | (simp; exact H_LIST_GROUPS)
  by_cases c10 : k = (10 : Int32)
  · subst c10
    have e1 : own_f1 (10 : Int32) = 0 := by decide
    have e2 : own_f2 (10 : Int32) = 4 := by decide
    rw [e1, e2]
    unfold own_f3
    first | exact H_API_VERSIONS | (simp; exact H_API_VERSIONS)
  by_cases c11 : k = (11 : Int32)
  · subst c11
    have e1 : own_f1 (11 : Int32) = 0 := by decide
    have e2 : own_f2 (11 : Int32) = 3 := by decide
    rw [e1, e2]
    unfold own_f3
    first | exact H_CREATE_PARTITIONS | (simp; exact H_CREATE_PARTITIONS)
  by_cases c12 : k = (12 : Int32)
  · subst c12
    have e1 : own_f1 (12 : Int32) = 0 := by decide
    have e2 : own_f2 (12 : Int32) = 2 := by decide
    rw [e1, e2]
    unfold own_f3
    first | exact H_DELETE_GROUPS | (simp; exact H_DELETE_GROUPS)
  by_cases c13 : k = (13 : Int32)
  · subst c13
    have e1 : own_f1 (13 : Int32) = 0 := by decide
    have e2 : own_f2 (13 : Int32) = 0 := by decide
    rw [e1, e2]
    unfold own_f3
    first | exact H_OFFSET_DELETE | (simp; exact H_OFFSET_DELETE)
  by_cases c14 : k = (14 : Int32)
  · subst c14
    have e1 : own_f1 (14 : Int32) = 0 := by decide
    have e2 : own_f2 (14 : Int32) = 1 := by decide
    rw [e1, e2]
    unfold own_f3
    first | exact H_CONSUMER_GROUP_HEARTBEAT | (simp; exact H_CONSUMER_GROUP_HEARTBEAT)
  unfold own_f1 own_f2 own_f3
  simp only [if_neg c0, if_neg c1, if_neg c2, if_neg c3, if_neg c4, if_neg c5, if_neg c6, if_neg c7, if_neg c8, if_neg c9, if_neg c10, if_neg c11, if_neg c12, if_neg c13, if_neg c14]
  exact H_CONSUMER_GROUP_DESCRIBE
theorem own_pd0 : parseMethodDescriptor "(I)I" = some ⟨[.int], some .int⟩ := by decide +kernel
theorem own_pd1 : parseMethodDescriptor "(I)Lcom/example/incarico/incarico/protocol/ApiKey;" = some ⟨[.int], some (.object "com/example/incarico/incarico/protocol/ApiKey")⟩ := by decide +kernel
theorem own_pd2 : parseMethodDescriptor "(S)Z" = some ⟨[.short], some .boolean⟩ := by decide +kernel
theorem pn_0 : plainName "com/example/incarico/incarico/protocol/ApiKeySupportsPinLaw" = true := by first | (simp [plainName, overriddenIn]; done) | decide +kernel
theorem ef_0 (m : MethodId) (p0 : Int32) (p1 : Int32) (p2 : Int32) : entryFrame m #[(.int p0), (.int p1), (.int p2)] maxLocals = mkF m 0 #[.val (.int p0), .val (.int p1), .val (.int p2), .unset, .unset, .unset, .unset, .unset, .unset, .unset] [] := by first | (simp [entryFrame, mkF, argsToLocals, Value.category, maxLocals]; done) | rfl
def own_f0 (p0 : Int32) (p1 : Int32) (p2 : Int32) : Int32 := (let v2 : Int32 := ((p0 &&& (2147483647 : Int32)) % (16 : Int32)); (let v6 : Int32 := (own_f1 v2); (let v10 : Int32 := (own_f2 v2); (let v13 : Int32 := (p1 &&& (7 : Int32)); (let v36 : Int32 := (if v13 = (0 : Int32) then (v6 - (1 : Int32)) else (if v13 = (1 : Int32) then v6 else (if v13 = (2 : Int32) then v10 else (if v13 = (3 : Int32) then (v10 + (1 : Int32)) else (p2.toInt16.toInt32))))); (let v39 : Int32 := (v36.toInt16.toInt32); (let v48 : Int32 := (if v36 < v6 then (0 : Int32) else (if v10 < v36 then (0 : Int32) else (1 : Int32))); (let v56 : Int32 := (own_f4 v39 (own_f1 v2) (own_f2 v2)); (if v56 = v48 then (1 : Int32) else (0 : Int32))))))))))
def Q0 (Z : State) (p0 : Int32) (p1 : Int32) (p2 : Int32) (s_METADATA : Addr) (s_OFFSET_COMMIT : Addr) (s_OFFSET_FETCH : Addr) (s_FIND_COORDINATOR : Addr) (s_JOIN_GROUP : Addr) (s_HEARTBEAT : Addr) (s_LEAVE_GROUP : Addr) (s_SYNC_GROUP : Addr) (s_DESCRIBE_GROUPS : Addr) (s_LIST_GROUPS : Addr) (s_API_VERSIONS : Addr) (s_CREATE_PARTITIONS : Addr) (s_DELETE_GROUPS : Addr) (s_OFFSET_DELETE : Addr) (s_CONSUMER_GROUP_HEARTBEAT : Addr) (s_CONSUMER_GROUP_DESCRIBE : Addr) (h0 : Heap) (n0 : Nat) (v : Option Value) (h : Heap) (L : List Loc) : Prop := v = some (.int (own_f0 p0 p1 p2)) ∧ Fr n0 L
set_option maxRecDepth 65536 in
set_option maxHeartbeats 40000000 in
theorem rm0 (l : Launch) (Z : State) (a0 : Array Value) (hw : ∀ d ∈ tables_1, d.before a0 Z = true) (ws : List Jvm.Cond) (p0 : Int32) (p1 : Int32) (p2 : Int32) (s_METADATA : Addr) (s_OFFSET_COMMIT : Addr) (s_OFFSET_FETCH : Addr) (s_FIND_COORDINATOR : Addr) (s_JOIN_GROUP : Addr) (s_HEARTBEAT : Addr) (s_LEAVE_GROUP : Addr) (s_SYNC_GROUP : Addr) (s_DESCRIBE_GROUPS : Addr) (s_LIST_GROUPS : Addr) (s_API_VERSIONS : Addr) (s_CREATE_PARTITIONS : Addr) (s_DELETE_GROUPS : Addr) (s_OFFSET_DELETE : Addr) (s_CONSUMER_GROUP_HEARTBEAT : Addr) (s_CONSUMER_GROUP_DESCRIBE : Addr) (h0 : Heap) (n0 : Nat) (Z0 : n0 ≤ h0.size) (S_METADATA : Sta Z h0 "com/example/incarico/incarico/protocol/ApiKey" "METADATA" "Lcom/example/incarico/incarico/protocol/ApiKey;" (.ref s_METADATA)) (S_OFFSET_COMMIT : Sta Z h0 "com/example/incarico/incarico/protocol/ApiKey" "OFFSET_COMMIT" "Lcom/example/incarico/incarico/protocol/ApiKey;" (.ref s_OFFSET_COMMIT)) (S_OFFSET_FETCH : Sta Z h0 "com/example/incarico/incarico/protocol/ApiKey" "OFFSET_FETCH" "Lcom/example/incarico/incarico/protocol/ApiKey;" (.ref s_OFFSET_FETCH)) (S_FIND_COORDINATOR : Sta Z h0 "com/example/incarico/incarico/protocol/ApiKey" "FIND_COORDINATOR" "Lcom/example/incarico/incarico/protocol/ApiKey;" (.ref s_FIND_COORDINATOR)) (S_JOIN_GROUP : Sta Z h0 "com/example/incarico/incarico/protocol/ApiKey" "JOIN_GROUP" "Lcom/example/incarico/incarico/protocol/ApiKey;" (.ref s_JOIN_GROUP)) (S_HEARTBEAT : Sta Z h0 "com/example/incarico/incarico/protocol/ApiKey" "HEARTBEAT" "Lcom/example/incarico/incarico/protocol/ApiKey;" (.ref s_HEARTBEAT)) (S_LEAVE_GROUP : Sta Z h0 "com/example/incarico/incarico/protocol/ApiKey" "LEAVE_GROUP" "Lcom/example/incarico/incarico/protocol/ApiKey;" (.ref s_LEAVE_GROUP)) (S_SYNC_GROUP : Sta Z h0 "com/example/incarico/incarico/protocol/ApiKey" "SYNC_GROUP" "Lcom/example/incarico/incarico/protocol/ApiKey;" (.ref s_SYNC_GROUP)) (S_DESCRIBE_GROUPS : Sta Z h0 "com/example/incarico/incarico/protocol/ApiKey" "DESCRIBE_GROUPS" "Lcom/example/incarico/incarico/protocol/ApiKey;" (.ref s_DESCRIBE_GROUPS)) (S_LIST_GROUPS : Sta Z h0 "com/example/incarico/incarico/protocol/ApiKey" "LIST_GROUPS" "Lcom/example/incarico/incarico/protocol/ApiKey;" (.ref s_LIST_GROUPS)) (S_API_VERSIONS : Sta Z h0 "com/example/incarico/incarico/protocol/ApiKey" "API_VERSIONS" "Lcom/example/incarico/incarico/protocol/ApiKey;" (.ref s_API_VERSIONS)) (S_CREATE_PARTITIONS : Sta Z h0 "com/example/incarico/incarico/protocol/ApiKey" "CREATE_PARTITIONS" "Lcom/example/incarico/incarico/protocol/ApiKey;" (.ref s_CREATE_PARTITIONS)) (S_DELETE_GROUPS : Sta Z h0 "com/example/incarico/incarico/protocol/ApiKey" "DELETE_GROUPS" "Lcom/example/incarico/incarico/protocol/ApiKey;" (.ref s_DELETE_GROUPS)) (S_OFFSET_DELETE : Sta Z h0 "com/example/incarico/incarico/protocol/ApiKey" "OFFSET_DELETE" "Lcom/example/incarico/incarico/protocol/ApiKey;" (.ref s_OFFSET_DELETE)) (S_CONSUMER_GROUP_HEARTBEAT : Sta Z h0 "com/example/incarico/incarico/protocol/ApiKey" "CONSUMER_GROUP_HEARTBEAT" "Lcom/example/incarico/incarico/protocol/ApiKey;" (.ref s_CONSUMER_GROUP_HEARTBEAT)) (S_CONSUMER_GROUP_DESCRIBE : Sta Z h0 "com/example/incarico/incarico/protocol/ApiKey" "CONSUMER_GROUP_DESCRIBE" "Lcom/example/incarico/incarico/protocol/ApiKey;" (.ref s_CONSUMER_GROUP_DESCRIBE)) (HK_METADATA : own_K Z h0 s_METADATA (1 : Int32) (13 : Int32)) (HK_OFFSET_COMMIT : own_K Z h0 s_OFFSET_COMMIT (2 : Int32) (10 : Int32)) (HK_OFFSET_FETCH : own_K Z h0 s_OFFSET_FETCH (1 : Int32) (10 : Int32)) (HK_FIND_COORDINATOR : own_K Z h0 s_FIND_COORDINATOR (0 : Int32) (6 : Int32)) (HK_JOIN_GROUP : own_K Z h0 s_JOIN_GROUP (0 : Int32) (9 : Int32)) (HK_HEARTBEAT : own_K Z h0 s_HEARTBEAT (0 : Int32) (4 : Int32)) (HK_LEAVE_GROUP : own_K Z h0 s_LEAVE_GROUP (0 : Int32) (5 : Int32)) (HK_SYNC_GROUP : own_K Z h0 s_SYNC_GROUP (0 : Int32) (5 : Int32)) (HK_DESCRIBE_GROUPS : own_K Z h0 s_DESCRIBE_GROUPS (0 : Int32) (6 : Int32)) (HK_LIST_GROUPS : own_K Z h0 s_LIST_GROUPS (0 : Int32) (5 : Int32)) (HK_API_VERSIONS : own_K Z h0 s_API_VERSIONS (0 : Int32) (4 : Int32)) (HK_CREATE_PARTITIONS : own_K Z h0 s_CREATE_PARTITIONS (0 : Int32) (3 : Int32)) (HK_DELETE_GROUPS : own_K Z h0 s_DELETE_GROUPS (0 : Int32) (2 : Int32)) (HK_OFFSET_DELETE : own_K Z h0 s_OFFSET_DELETE (0 : Int32) (0 : Int32)) (HK_CONSUMER_GROUP_HEARTBEAT : own_K Z h0 s_CONSUMER_GROUP_HEARTBEAT (0 : Int32) (1 : Int32)) (HK_CONSUMER_GROUP_DESCRIBE : own_K Z h0 s_CONSUMER_GROUP_DESCRIBE (0 : Int32) (1 : Int32)) :
    MetFree l x (head1 (Jvm.Cond.code x code maxLocals ret :: ws) room_1) (fun a U => a = #[(.int p0), (.int p1), (.int p2)] ∧ Z.Warmed39 U.vm ∧ U.heap = h0) (fun _ _ _ _ _ => True) (fun _ U o U' => ∃ v L, o = .returned v ∧ Q0 Z p0 p1 p2 s_METADATA s_OFFSET_COMMIT s_OFFSET_FETCH s_FIND_COORDINATOR s_JOIN_GROUP s_HEARTBEAT s_LEAVE_GROUP s_SYNC_GROUP s_DESCRIBE_GROUPS s_LIST_GROUPS s_API_VERSIONS s_CREATE_PARTITIONS s_DELETE_GROUPS s_OFFSET_DELETE s_CONSUMER_GROUP_HEARTBEAT s_CONSUMER_GROUP_DESCRIBE h0 n0 v U'.heap L ∧ FrameEnd U o U' L room_1.cells room_1.slots) := by
  refine MetFree.of_bodySF (plainFor_of_name pn_0) hisR ?_
  intro p e s m args below meth c s₁ Bd hml0 hP hK
  obtain ⟨rfl, hZ, hh⟩ := hP
  have hx := Bd.exec
  have hby := Bd.bytes
  have hml : c.maxLocals = 10 := hml0
  have hown : s.vm.findClass "com/example/incarico/incarico/protocol/ApiKeySupportsPinLaw" = some m.cls := findClass_of_methodNamed Bd.named
  have hnm := (name_of_methodNamed Bd.named Bd.method).1
  have X0 : Stand p l e room_1 s m #[(.int p0), (.int p1), (.int p2)] below meth c s₁ [] 0 0 := Stand.of_body Bd
  have e0 : s₁.heap = h0 := by rw [← hh, Bd.state]; rfl
  have N0 := Fr.nil n0
  obtain ⟨P, pre0, fin⟩ : ∃ P : State → Prop, (∀ t, Steps p.tables e below (s₁.setTop (mkF m 0 #[.val (.int p0), .val (.int p1), .val (.int p2), .unset, .unset, .unset, .unset, .unset, .unset, .unset] [])) t → P t) ∧ (∀ t, P t → Steps p.tables e below (s₁.setTop (entryFrame m #[(.int p0), (.int p1), (.int p2)] maxLocals)) t) := ⟨fun t => Steps p.tables e below (s₁.setTop (entryFrame m #[(.int p0), (.int p1), (.int p2)] maxLocals)) t, fun t k => castTop (ef_0 m p0 p1 p2) k, fun t k => k⟩
  have K0 : Keep h0 h0 [] := Keep.refl _ _
  have pre1 : ∀ t, Steps p.tables e below (s₁.setTop (mkF m 8 #[.val (.int p0), .val (.int p1), .val (.int p2), .val (.int ((p0 &&& (2147483647 : Int32)) % (16 : Int32))), .unset, .unset, .unset, .unset, .unset, .unset] [])) t → P t := fun t k => pre0 t (by
      show Steps p.tables e below (s₁.setTop (mkF m 0 #[.val (.int p0), .val (.int p1), .val (.int p2), .unset, .unset, .unset, .unset, .unset, .unset, .unset] [])) _
      refine XS.iloadN X0.here hx rfl (hb hby at_0) rfl ?_
      show Steps p.tables e below (s₁.setTop (mkF m 1 #[.val (.int p0), .val (.int p1), .val (.int p2), .unset, .unset, .unset, .unset, .unset, .unset, .unset] [(.int p0)])) _
      refine X0.ldcInt hx hown (mvT hZ (hw _ (List.mem_of_getElem? (i := 0) rfl))) (g := (mkF m 1 #[.val (.int p0), .val (.int p1), .val (.int p2), .unset, .unset, .unset, .unset, .unset, .unset, .unset] [(.int p0)])) rfl (hb hby at_1) _ ?_
      show Steps p.tables e below (s₁.setTop (mkF m 3 #[.val (.int p0), .val (.int p1), .val (.int p2), .unset, .unset, .unset, .unset, .unset, .unset, .unset] [(.int (2147483647 : Int32)), (.int p0)])) _
      refine XS.iand X0.here hx rfl (hb hby at_3) rfl ?_
      show Steps p.tables e below (s₁.setTop (mkF m 4 #[.val (.int p0), .val (.int p1), .val (.int p2), .unset, .unset, .unset, .unset, .unset, .unset, .unset] [(.int (p0 &&& (2147483647 : Int32)))])) _
      refine XS.bipush X0.here hx rfl (hb hby at_4) ?_
      show Steps p.tables e below (s₁.setTop (mkF m 6 #[.val (.int p0), .val (.int p1), .val (.int p2), .unset, .unset, .unset, .unset, .unset, .unset, .unset] [(.int (16 : Int32)), (.int (p0 &&& (2147483647 : Int32)))])) _
      refine iremM X0 hx rfl (hb hby at_6) rfl (by decide) ?_
      show Steps p.tables e below (s₁.setTop (mkF m 7 #[.val (.int p0), .val (.int p1), .val (.int p2), .unset, .unset, .unset, .unset, .unset, .unset, .unset] [(.int ((p0 &&& (2147483647 : Int32)) % (16 : Int32)))])) _
      refine XS.istoreN X0.here hx rfl (hb hby at_7) rfl (l' := #[.val (.int p0), .val (.int p1), .val (.int p2), .val (.int ((p0 &&& (2147483647 : Int32)) % (16 : Int32))), .unset, .unset, .unset, .unset, .unset, .unset]) rfl ?_
      exact k)
  obtain ⟨v2, hv2⟩ : ∃ z : Int32, z = ((p0 &&& (2147483647 : Int32)) % (16 : Int32)) := ⟨_, rfl⟩
  have pre3 : ∀ t, Steps p.tables e below (s₁.setTop (mkF m 8 #[.val (.int p0), .val (.int p1), .val (.int p2), .val (.int v2), .unset, .unset, .unset, .unset, .unset, .unset] [])) t → P t := fun t k => pre1 t (by subst hv2; exact k)
  have pre4 : ∀ t, Steps p.tables e below (s₁.setTop (mkF m 9 #[.val (.int p0), .val (.int p1), .val (.int p2), .val (.int v2), .unset, .unset, .unset, .unset, .unset, .unset] [(.int v2)])) t → P t := fun t k => pre3 t (by
      show Steps p.tables e below (s₁.setTop (mkF m 8 #[.val (.int p0), .val (.int p1), .val (.int p2), .val (.int v2), .unset, .unset, .unset, .unset, .unset, .unset] [])) _
      refine XS.iloadN X0.here hx rfl (hb hby at_8) rfl ?_
      exact k)
  obtain ⟨_, _, ⟨T5, L5, k5, n5⟩, -, X5, ⟨Lc5, hQ5, l5, y5, z5⟩, st5⟩ := Jvm.LawKit.callS X0 hx (y := (⟨"com/example/incarico/incarico/protocol/ApiKeySupportsPinLaw", "lowOf", "(I)I"⟩ : MethodName)) hown (mvT hZ (hw _ (List.mem_of_getElem? (i := 1) rfl))) (mvT hZ (hw _ (List.mem_of_getElem? (i := 2) rfl))) (mvT hZ (hw _ (List.mem_of_getElem? (i := 3) rfl))) (mvT hZ (hw _ (List.mem_of_getElem? (i := 4) rfl))) (by decide) (backOf (W := 0) (rm1 l Z a0 hw [] v2 h0 n0 Z0 ) hZ (hw _ (List.mem_of_getElem? (i := 4) rfl)) (hw _ (List.mem_of_getElem? (i := 3) rfl)) (by decide) (by decide)) (g := (mkF m 9 #[.val (.int p0), .val (.int p1), .val (.int p2), .val (.int v2), .unset, .unset, .unset, .unset, .unset, .unset] [(.int v2)])) rfl (by rw [hml]; rfl) (argsL := [(.int v2)]) (rest := []) (lenOf own_pd0 rfl) rfl (by show 2 * 0 + _ ≤ _; exact Nat.le_of_eq rfl) (hb hby at_9) (fun _ _ => ⟨rfl, e0, (by decide : 0 + 0 ≤ _), (by decide : 0 + 0 ≤ _)⟩)
  dsimp only [Pt.U, Pt.locs, Pt.cells, Pt.slots] at X5 l5 y5 z5 st5 hQ5
  subst l5 y5 z5
  obtain ⟨rfl, N5q, e5⟩ := hQ5
  have N5 := Fr.app N0 N5q
  have pre5 : ∀ t, Steps p.tables e below (T5.setTop (mkF m 12 #[.val (.int p0), .val (.int p1), .val (.int p2), .val (.int v2), .unset, .unset, .unset, .unset, .unset, .unset] [(.int (own_f1 v2))])) t → P t := fun t k => pre4 t (st5 _ k)
  obtain ⟨v6, hv6⟩ : ∃ z : Int32, z = (own_f1 v2) := ⟨_, rfl⟩
  have pre7 : ∀ t, Steps p.tables e below (T5.setTop (mkF m 12 #[.val (.int p0), .val (.int p1), .val (.int p2), .val (.int v2), .unset, .unset, .unset, .unset, .unset, .unset] [(.int v6)])) t → P t := fun t k => pre5 t (by subst hv6; exact k)
  have pre8 : ∀ t, Steps p.tables e below (T5.setTop (mkF m 15 #[.val (.int p0), .val (.int p1), .val (.int p2), .val (.int v2), .val (.int v6), .unset, .unset, .unset, .unset, .unset] [(.int v2)])) t → P t := fun t k => pre7 t (by
      show Steps p.tables e below (T5.setTop (mkF m 12 #[.val (.int p0), .val (.int p1), .val (.int p2), .val (.int v2), .unset, .unset, .unset, .unset, .unset, .unset] [(.int v6)])) _
      refine XS.istore X5.here hx rfl (hb hby at_12) rfl (l' := #[.val (.int p0), .val (.int p1), .val (.int p2), .val (.int v2), .val (.int v6), .unset, .unset, .unset, .unset, .unset]) rfl ?_
      show Steps p.tables e below (T5.setTop (mkF m 14 #[.val (.int p0), .val (.int p1), .val (.int p2), .val (.int v2), .val (.int v6), .unset, .unset, .unset, .unset, .unset] [])) _
      refine XS.iloadN X5.here hx rfl (hb hby at_14) rfl ?_
      exact k)
  obtain ⟨_, _, ⟨T9, L9, k9, n9⟩, -, X9, ⟨Lc9, hQ9, l9, y9, z9⟩, st9⟩ := Jvm.LawKit.callS X5 hx (y := (⟨"com/example/incarico/incarico/protocol/ApiKeySupportsPinLaw", "highOf", "(I)I"⟩ : MethodName)) hown (mvT hZ (hw _ (List.mem_of_getElem? (i := 5) rfl))) (mvT hZ (hw _ (List.mem_of_getElem? (i := 6) rfl))) (mvT hZ (hw _ (List.mem_of_getElem? (i := 3) rfl))) (mvT hZ (hw _ (List.mem_of_getElem? (i := 7) rfl))) (by decide) (backOf (W := 0) (rm2 l Z a0 hw [] v2 h0 n0 Z0 ) hZ (hw _ (List.mem_of_getElem? (i := 7) rfl)) (hw _ (List.mem_of_getElem? (i := 3) rfl)) (by decide) (by decide)) (g := (mkF m 15 #[.val (.int p0), .val (.int p1), .val (.int p2), .val (.int v2), .val (.int v6), .unset, .unset, .unset, .unset, .unset] [(.int v2)])) rfl (by rw [hml]; rfl) (argsL := [(.int v2)]) (rest := []) (lenOf own_pd0 rfl) rfl (by show 2 * 0 + _ ≤ _; exact Nat.le_of_eq rfl) (hb hby at_15) (fun _ _ => ⟨rfl, e5, (by decide : 0 + 0 ≤ _), (by decide : 0 + 0 ≤ _)⟩)
  dsimp only [Pt.U, Pt.locs, Pt.cells, Pt.slots] at X9 l9 y9 z9 st9 hQ9
  subst l9 y9 z9
  obtain ⟨rfl, N9q, e9⟩ := hQ9
  have N9 := Fr.app N5 N9q
  have pre9 : ∀ t, Steps p.tables e below (T9.setTop (mkF m 18 #[.val (.int p0), .val (.int p1), .val (.int p2), .val (.int v2), .val (.int v6), .unset, .unset, .unset, .unset, .unset] [(.int (own_f2 v2))])) t → P t := fun t k => pre8 t (st9 _ k)
  obtain ⟨v10, hv10⟩ : ∃ z : Int32, z = (own_f2 v2) := ⟨_, rfl⟩
  have pre11 : ∀ t, Steps p.tables e below (T9.setTop (mkF m 18 #[.val (.int p0), .val (.int p1), .val (.int p2), .val (.int v2), .val (.int v6), .unset, .unset, .unset, .unset, .unset] [(.int v10)])) t → P t := fun t k => pre9 t (by subst hv10; exact k)
  have pre12 : ∀ t, Steps p.tables e below (T9.setTop (mkF m 26 #[.val (.int p0), .val (.int p1), .val (.int p2), .val (.int v2), .val (.int v6), .val (.int v10), .val (.int (p1 &&& (7 : Int32))), .unset, .unset, .unset] [])) t → P t := fun t k => pre11 t (by
      show Steps p.tables e below (T9.setTop (mkF m 18 #[.val (.int p0), .val (.int p1), .val (.int p2), .val (.int v2), .val (.int v6), .unset, .unset, .unset, .unset, .unset] [(.int v10)])) _
      refine XS.istore X9.here hx rfl (hb hby at_18) rfl (l' := #[.val (.int p0), .val (.int p1), .val (.int p2), .val (.int v2), .val (.int v6), .val (.int v10), .unset, .unset, .unset, .unset]) rfl ?_
      show Steps p.tables e below (T9.setTop (mkF m 20 #[.val (.int p0), .val (.int p1), .val (.int p2), .val (.int v2), .val (.int v6), .val (.int v10), .unset, .unset, .unset, .unset] [])) _
      refine XS.iloadN X9.here hx rfl (hb hby at_20) rfl ?_
      show Steps p.tables e below (T9.setTop (mkF m 21 #[.val (.int p0), .val (.int p1), .val (.int p2), .val (.int v2), .val (.int v6), .val (.int v10), .unset, .unset, .unset, .unset] [(.int p1)])) _
      refine XS.bipush X9.here hx rfl (hb hby at_21) ?_
      show Steps p.tables e below (T9.setTop (mkF m 23 #[.val (.int p0), .val (.int p1), .val (.int p2), .val (.int v2), .val (.int v6), .val (.int v10), .unset, .unset, .unset, .unset] [(.int (7 : Int32)), (.int p1)])) _
      refine XS.iand X9.here hx rfl (hb hby at_23) rfl ?_
      show Steps p.tables e below (T9.setTop (mkF m 24 #[.val (.int p0), .val (.int p1), .val (.int p2), .val (.int v2), .val (.int v6), .val (.int v10), .unset, .unset, .unset, .unset] [(.int (p1 &&& (7 : Int32)))])) _
      refine XS.istore X9.here hx rfl (hb hby at_24) rfl (l' := #[.val (.int p0), .val (.int p1), .val (.int p2), .val (.int v2), .val (.int v6), .val (.int v10), .val (.int (p1 &&& (7 : Int32))), .unset, .unset, .unset]) rfl ?_
      exact k)
  obtain ⟨v13, hv13⟩ : ∃ z : Int32, z = (p1 &&& (7 : Int32)) := ⟨_, rfl⟩
  have pre14 : ∀ t, Steps p.tables e below (T9.setTop (mkF m 26 #[.val (.int p0), .val (.int p1), .val (.int p2), .val (.int v2), .val (.int v6), .val (.int v10), .val (.int v13), .unset, .unset, .unset] [])) t → P t := fun t k => pre12 t (by subst hv13; exact k)
  have pre15 : ∀ t, Steps p.tables e below (T9.setTop (mkF m 28 #[.val (.int p0), .val (.int p1), .val (.int p2), .val (.int v2), .val (.int v6), .val (.int v10), .val (.int v13), .unset, .unset, .unset] [(.int v13)])) t → P t := fun t k => pre14 t (by
      show Steps p.tables e below (T9.setTop (mkF m 26 #[.val (.int p0), .val (.int p1), .val (.int p2), .val (.int v2), .val (.int v6), .val (.int v10), .val (.int v13), .unset, .unset, .unset] [])) _
      refine XS.iload X9.here hx rfl (hb hby at_26) rfl ?_
      exact k)
  obtain ⟨T37, L37, v36, X37, e37, N37, hv36, pre37⟩ : ∃ (T' : State) (L' : List Loc) (v36 : Int32), Stand p l e room_1 s m #[(.int p0), (.int p1), (.int p2)] below meth c T' L' 0 0 ∧ T'.heap = h0 ∧ Fr n0 L' ∧ v36 = (if v13 = (0 : Int32) then (v6 - (1 : Int32)) else (if v13 = (1 : Int32) then v6 else (if v13 = (2 : Int32) then v10 else (if v13 = (3 : Int32) then (v10 + (1 : Int32)) else (p2.toInt16.toInt32))))) ∧ (∀ t, Steps p.tables e below (T'.setTop (mkF m 85 #[.val (.int p0), .val (.int p1), .val (.int p2), .val (.int v2), .val (.int v6), .val (.int v10), .val (.int v13), .val (.int v36), .unset, .unset] [])) t → P t) := by
    by_cases hc16 : v13 = (0 : Int32)
    · have pre17 : ∀ t, Steps p.tables e below (T9.setTop (mkF m 37 #[.val (.int p0), .val (.int p1), .val (.int p2), .val (.int v2), .val (.int v6), .val (.int v10), .val (.int v13), .val (.int (v6 - (1 : Int32))), .unset, .unset] [])) t → P t := fun t k => pre15 t (by
          show Steps p.tables e below (T9.setTop (mkF m 28 #[.val (.int p0), .val (.int p1), .val (.int p2), .val (.int v2), .val (.int v6), .val (.int v10), .val (.int v13), .unset, .unset, .unset] [(.int v13)])) _
          refine XS.ifNo X9.here hx rfl (hb hby at_28) rfl ((if0 _ _).trans (teq hc16).2) ?_
          show Steps p.tables e below (T9.setTop (mkF m 31 #[.val (.int p0), .val (.int p1), .val (.int p2), .val (.int v2), .val (.int v6), .val (.int v10), .val (.int v13), .unset, .unset, .unset] [])) _
          refine XS.iload X9.here hx rfl (hb hby at_31) rfl ?_
          show Steps p.tables e below (T9.setTop (mkF m 33 #[.val (.int p0), .val (.int p1), .val (.int p2), .val (.int v2), .val (.int v6), .val (.int v10), .val (.int v13), .unset, .unset, .unset] [(.int v6)])) _
          refine XS.iconst X9.here hx rfl (hb hby at_33) ?_
          show Steps p.tables e below (T9.setTop (mkF m 34 #[.val (.int p0), .val (.int p1), .val (.int p2), .val (.int v2), .val (.int v6), .val (.int v10), .val (.int v13), .unset, .unset, .unset] [(.int (1 : Int32)), (.int v6)])) _
          refine XS.isub X9.here hx rfl (hb hby at_34) rfl ?_
          show Steps p.tables e below (T9.setTop (mkF m 35 #[.val (.int p0), .val (.int p1), .val (.int p2), .val (.int v2), .val (.int v6), .val (.int v10), .val (.int v13), .unset, .unset, .unset] [(.int (v6 - (1 : Int32)))])) _
          refine XS.istore X9.here hx rfl (hb hby at_35) rfl (l' := #[.val (.int p0), .val (.int p1), .val (.int p2), .val (.int v2), .val (.int v6), .val (.int v10), .val (.int v13), .val (.int (v6 - (1 : Int32))), .unset, .unset]) rfl ?_
          exact k)
      obtain ⟨v18, hv18⟩ : ∃ z : Int32, z = (v6 - (1 : Int32)) := ⟨_, rfl⟩
      have pre19 : ∀ t, Steps p.tables e below (T9.setTop (mkF m 37 #[.val (.int p0), .val (.int p1), .val (.int p2), .val (.int v2), .val (.int v6), .val (.int v10), .val (.int v13), .val (.int v18), .unset, .unset] [])) t → P t := fun t k => pre17 t (by subst hv18; exact k)
      have pre20 : ∀ t, Steps p.tables e below (T9.setTop (mkF m 85 #[.val (.int p0), .val (.int p1), .val (.int p2), .val (.int v2), .val (.int v6), .val (.int v10), .val (.int v13), .val (.int v18), .unset, .unset] [])) t → P t := fun t k => pre19 t (by
          show Steps p.tables e below (T9.setTop (mkF m 37 #[.val (.int p0), .val (.int p1), .val (.int p2), .val (.int v2), .val (.int v6), .val (.int v10), .val (.int v13), .val (.int v18), .unset, .unset] [])) _
          refine XS.goto X9.here hx rfl (pc0 := 37) (pc' := 85) rfl (hb hby at_37) (by decide) (by decide) ?_
          exact k)
      exact ⟨_, _, v18, X9, e9, N9, (by subst hv18; first | (rw [if_pos hc16]; done) | simp only [if_pos hc16] | simp [if_pos hc16]), pre20⟩
    · have pre21 : ∀ t, Steps p.tables e below (T9.setTop (mkF m 43 #[.val (.int p0), .val (.int p1), .val (.int p2), .val (.int v2), .val (.int v6), .val (.int v10), .val (.int v13), .unset, .unset, .unset] [(.int (1 : Int32)), (.int v13)])) t → P t := fun t k => pre15 t (by
          show Steps p.tables e below (T9.setTop (mkF m 28 #[.val (.int p0), .val (.int p1), .val (.int p2), .val (.int v2), .val (.int v6), .val (.int v10), .val (.int v13), .unset, .unset, .unset] [(.int v13)])) _
          refine XS.ifYes X9.here hx rfl (pc0 := 28) (pc' := 40) rfl (hb hby at_28) rfl ((if0 _ _).trans (feq hc16).2) (by decide) (by decide) ?_
          show Steps p.tables e below (T9.setTop (mkF m 40 #[.val (.int p0), .val (.int p1), .val (.int p2), .val (.int v2), .val (.int v6), .val (.int v10), .val (.int v13), .unset, .unset, .unset] [])) _
          refine XS.iload X9.here hx rfl (hb hby at_40) rfl ?_
          show Steps p.tables e below (T9.setTop (mkF m 42 #[.val (.int p0), .val (.int p1), .val (.int p2), .val (.int v2), .val (.int v6), .val (.int v10), .val (.int v13), .unset, .unset, .unset] [(.int v13)])) _
          refine XS.iconst X9.here hx rfl (hb hby at_42) ?_
          exact k)
      by_cases hc22 : v13 = (1 : Int32)
      · have pre23 : ∀ t, Steps p.tables e below (T9.setTop (mkF m 85 #[.val (.int p0), .val (.int p1), .val (.int p2), .val (.int v2), .val (.int v6), .val (.int v10), .val (.int v13), .val (.int v6), .unset, .unset] [])) t → P t := fun t k => pre21 t (by
            show Steps p.tables e below (T9.setTop (mkF m 43 #[.val (.int p0), .val (.int p1), .val (.int p2), .val (.int v2), .val (.int v6), .val (.int v10), .val (.int v13), .unset, .unset, .unset] [(.int (1 : Int32)), (.int v13)])) _
            refine XS.icmpNo X9.here hx rfl (hb hby at_43) rfl (teq hc22).2 ?_
            show Steps p.tables e below (T9.setTop (mkF m 46 #[.val (.int p0), .val (.int p1), .val (.int p2), .val (.int v2), .val (.int v6), .val (.int v10), .val (.int v13), .unset, .unset, .unset] [])) _
            refine XS.iload X9.here hx rfl (hb hby at_46) rfl ?_
            show Steps p.tables e below (T9.setTop (mkF m 48 #[.val (.int p0), .val (.int p1), .val (.int p2), .val (.int v2), .val (.int v6), .val (.int v10), .val (.int v13), .unset, .unset, .unset] [(.int v6)])) _
            refine XS.istore X9.here hx rfl (hb hby at_48) rfl (l' := #[.val (.int p0), .val (.int p1), .val (.int p2), .val (.int v2), .val (.int v6), .val (.int v10), .val (.int v13), .val (.int v6), .unset, .unset]) rfl ?_
            show Steps p.tables e below (T9.setTop (mkF m 50 #[.val (.int p0), .val (.int p1), .val (.int p2), .val (.int v2), .val (.int v6), .val (.int v10), .val (.int v13), .val (.int v6), .unset, .unset] [])) _
            refine XS.goto X9.here hx rfl (pc0 := 50) (pc' := 85) rfl (hb hby at_50) (by decide) (by decide) ?_
            exact k)
        exact ⟨_, _, v6, X9, e9, N9, (by first | (rw [if_neg hc16, if_pos hc22]; done) | simp only [if_neg hc16, if_pos hc22] | simp [if_neg hc16, if_pos hc22]), pre23⟩
      · have pre24 : ∀ t, Steps p.tables e below (T9.setTop (mkF m 56 #[.val (.int p0), .val (.int p1), .val (.int p2), .val (.int v2), .val (.int v6), .val (.int v10), .val (.int v13), .unset, .unset, .unset] [(.int (2 : Int32)), (.int v13)])) t → P t := fun t k => pre21 t (by
            show Steps p.tables e below (T9.setTop (mkF m 43 #[.val (.int p0), .val (.int p1), .val (.int p2), .val (.int v2), .val (.int v6), .val (.int v10), .val (.int v13), .unset, .unset, .unset] [(.int (1 : Int32)), (.int v13)])) _
            refine XS.icmpYes X9.here hx rfl (pc0 := 43) (pc' := 53) rfl (hb hby at_43) rfl (feq hc22).2 (by decide) (by decide) ?_
            show Steps p.tables e below (T9.setTop (mkF m 53 #[.val (.int p0), .val (.int p1), .val (.int p2), .val (.int v2), .val (.int v6), .val (.int v10), .val (.int v13), .unset, .unset, .unset] [])) _
            refine XS.iload X9.here hx rfl (hb hby at_53) rfl ?_
            show Steps p.tables e below (T9.setTop (mkF m 55 #[.val (.int p0), .val (.int p1), .val (.int p2), .val (.int v2), .val (.int v6), .val (.int v10), .val (.int v13), .unset, .unset, .unset] [(.int v13)])) _
            refine XS.iconst X9.here hx rfl (hb hby at_55) ?_
            exact k)
        by_cases hc25 : v13 = (2 : Int32)
        · have pre26 : ∀ t, Steps p.tables e below (T9.setTop (mkF m 85 #[.val (.int p0), .val (.int p1), .val (.int p2), .val (.int v2), .val (.int v6), .val (.int v10), .val (.int v13), .val (.int v10), .unset, .unset] [])) t → P t := fun t k => pre24 t (by
              show Steps p.tables e below (T9.setTop (mkF m 56 #[.val (.int p0), .val (.int p1), .val (.int p2), .val (.int v2), .val (.int v6), .val (.int v10), .val (.int v13), .unset, .unset, .unset] [(.int (2 : Int32)), (.int v13)])) _
              refine XS.icmpNo X9.here hx rfl (hb hby at_56) rfl (teq hc25).2 ?_
              show Steps p.tables e below (T9.setTop (mkF m 59 #[.val (.int p0), .val (.int p1), .val (.int p2), .val (.int v2), .val (.int v6), .val (.int v10), .val (.int v13), .unset, .unset, .unset] [])) _
              refine XS.iload X9.here hx rfl (hb hby at_59) rfl ?_
              show Steps p.tables e below (T9.setTop (mkF m 61 #[.val (.int p0), .val (.int p1), .val (.int p2), .val (.int v2), .val (.int v6), .val (.int v10), .val (.int v13), .unset, .unset, .unset] [(.int v10)])) _
              refine XS.istore X9.here hx rfl (hb hby at_61) rfl (l' := #[.val (.int p0), .val (.int p1), .val (.int p2), .val (.int v2), .val (.int v6), .val (.int v10), .val (.int v13), .val (.int v10), .unset, .unset]) rfl ?_
              show Steps p.tables e below (T9.setTop (mkF m 63 #[.val (.int p0), .val (.int p1), .val (.int p2), .val (.int v2), .val (.int v6), .val (.int v10), .val (.int v13), .val (.int v10), .unset, .unset] [])) _
              refine XS.goto X9.here hx rfl (pc0 := 63) (pc' := 85) rfl (hb hby at_63) (by decide) (by decide) ?_
              exact k)
          exact ⟨_, _, v10, X9, e9, N9, (by first | (rw [if_neg hc16, if_neg hc22, if_pos hc25]; done) | simp only [if_neg hc16, if_neg hc22, if_pos hc25] | simp [if_neg hc16, if_neg hc22, if_pos hc25]), pre26⟩
        · have pre27 : ∀ t, Steps p.tables e below (T9.setTop (mkF m 69 #[.val (.int p0), .val (.int p1), .val (.int p2), .val (.int v2), .val (.int v6), .val (.int v10), .val (.int v13), .unset, .unset, .unset] [(.int (3 : Int32)), (.int v13)])) t → P t := fun t k => pre24 t (by
              show Steps p.tables e below (T9.setTop (mkF m 56 #[.val (.int p0), .val (.int p1), .val (.int p2), .val (.int v2), .val (.int v6), .val (.int v10), .val (.int v13), .unset, .unset, .unset] [(.int (2 : Int32)), (.int v13)])) _
              refine XS.icmpYes X9.here hx rfl (pc0 := 56) (pc' := 66) rfl (hb hby at_56) rfl (feq hc25).2 (by decide) (by decide) ?_
              show Steps p.tables e below (T9.setTop (mkF m 66 #[.val (.int p0), .val (.int p1), .val (.int p2), .val (.int v2), .val (.int v6), .val (.int v10), .val (.int v13), .unset, .unset, .unset] [])) _
              refine XS.iload X9.here hx rfl (hb hby at_66) rfl ?_
              show Steps p.tables e below (T9.setTop (mkF m 68 #[.val (.int p0), .val (.int p1), .val (.int p2), .val (.int v2), .val (.int v6), .val (.int v10), .val (.int v13), .unset, .unset, .unset] [(.int v13)])) _
              refine XS.iconst X9.here hx rfl (hb hby at_68) ?_
              exact k)
          by_cases hc28 : v13 = (3 : Int32)
          · have pre29 : ∀ t, Steps p.tables e below (T9.setTop (mkF m 78 #[.val (.int p0), .val (.int p1), .val (.int p2), .val (.int v2), .val (.int v6), .val (.int v10), .val (.int v13), .val (.int (v10 + (1 : Int32))), .unset, .unset] [])) t → P t := fun t k => pre27 t (by
                show Steps p.tables e below (T9.setTop (mkF m 69 #[.val (.int p0), .val (.int p1), .val (.int p2), .val (.int v2), .val (.int v6), .val (.int v10), .val (.int v13), .unset, .unset, .unset] [(.int (3 : Int32)), (.int v13)])) _
                refine XS.icmpNo X9.here hx rfl (hb hby at_69) rfl (teq hc28).2 ?_
                show Steps p.tables e below (T9.setTop (mkF m 72 #[.val (.int p0), .val (.int p1), .val (.int p2), .val (.int v2), .val (.int v6), .val (.int v10), .val (.int v13), .unset, .unset, .unset] [])) _
                refine XS.iload X9.here hx rfl (hb hby at_72) rfl ?_
                show Steps p.tables e below (T9.setTop (mkF m 74 #[.val (.int p0), .val (.int p1), .val (.int p2), .val (.int v2), .val (.int v6), .val (.int v10), .val (.int v13), .unset, .unset, .unset] [(.int v10)])) _
                refine XS.iconst X9.here hx rfl (hb hby at_74) ?_
                show Steps p.tables e below (T9.setTop (mkF m 75 #[.val (.int p0), .val (.int p1), .val (.int p2), .val (.int v2), .val (.int v6), .val (.int v10), .val (.int v13), .unset, .unset, .unset] [(.int (1 : Int32)), (.int v10)])) _
                refine XS.iadd X9.here hx rfl (hb hby at_75) rfl ?_
                show Steps p.tables e below (T9.setTop (mkF m 76 #[.val (.int p0), .val (.int p1), .val (.int p2), .val (.int v2), .val (.int v6), .val (.int v10), .val (.int v13), .unset, .unset, .unset] [(.int (v10 + (1 : Int32)))])) _
                refine XS.istore X9.here hx rfl (hb hby at_76) rfl (l' := #[.val (.int p0), .val (.int p1), .val (.int p2), .val (.int v2), .val (.int v6), .val (.int v10), .val (.int v13), .val (.int (v10 + (1 : Int32))), .unset, .unset]) rfl ?_
                exact k)
            obtain ⟨v30, hv30⟩ : ∃ z : Int32, z = (v10 + (1 : Int32)) := ⟨_, rfl⟩
            have pre31 : ∀ t, Steps p.tables e below (T9.setTop (mkF m 78 #[.val (.int p0), .val (.int p1), .val (.int p2), .val (.int v2), .val (.int v6), .val (.int v10), .val (.int v13), .val (.int v30), .unset, .unset] [])) t → P t := fun t k => pre29 t (by subst hv30; exact k)
            have pre32 : ∀ t, Steps p.tables e below (T9.setTop (mkF m 85 #[.val (.int p0), .val (.int p1), .val (.int p2), .val (.int v2), .val (.int v6), .val (.int v10), .val (.int v13), .val (.int v30), .unset, .unset] [])) t → P t := fun t k => pre31 t (by
                show Steps p.tables e below (T9.setTop (mkF m 78 #[.val (.int p0), .val (.int p1), .val (.int p2), .val (.int v2), .val (.int v6), .val (.int v10), .val (.int v13), .val (.int v30), .unset, .unset] [])) _
                refine XS.goto X9.here hx rfl (pc0 := 78) (pc' := 85) rfl (hb hby at_78) (by decide) (by decide) ?_
                exact k)
            exact ⟨_, _, v30, X9, e9, N9, (by subst hv30; first | (rw [if_neg hc16, if_neg hc22, if_neg hc25, if_pos hc28]; done) | simp only [if_neg hc16, if_neg hc22, if_neg hc25, if_pos hc28] | simp [if_neg hc16, if_neg hc22, if_neg hc25, if_pos hc28]), pre32⟩
          · have pre33 : ∀ t, Steps p.tables e below (T9.setTop (mkF m 85 #[.val (.int p0), .val (.int p1), .val (.int p2), .val (.int v2), .val (.int v6), .val (.int v10), .val (.int v13), .val (.int (p2.toInt16.toInt32)), .unset, .unset] [])) t → P t := fun t k => pre27 t (by
                show Steps p.tables e below (T9.setTop (mkF m 69 #[.val (.int p0), .val (.int p1), .val (.int p2), .val (.int v2), .val (.int v6), .val (.int v10), .val (.int v13), .unset, .unset, .unset] [(.int (3 : Int32)), (.int v13)])) _
                refine XS.icmpYes X9.here hx rfl (pc0 := 69) (pc' := 81) rfl (hb hby at_69) rfl (feq hc28).2 (by decide) (by decide) ?_
                show Steps p.tables e below (T9.setTop (mkF m 81 #[.val (.int p0), .val (.int p1), .val (.int p2), .val (.int v2), .val (.int v6), .val (.int v10), .val (.int v13), .unset, .unset, .unset] [])) _
                refine XS.iloadN X9.here hx rfl (hb hby at_81) rfl ?_
                show Steps p.tables e below (T9.setTop (mkF m 82 #[.val (.int p0), .val (.int p1), .val (.int p2), .val (.int v2), .val (.int v6), .val (.int v10), .val (.int v13), .unset, .unset, .unset] [(.int p2)])) _
                refine XS.i2s X9.here hx rfl (hb hby at_82) rfl ?_
                show Steps p.tables e below (T9.setTop (mkF m 83 #[.val (.int p0), .val (.int p1), .val (.int p2), .val (.int v2), .val (.int v6), .val (.int v10), .val (.int v13), .unset, .unset, .unset] [(.int (p2.toInt16.toInt32))])) _
                refine XS.istore X9.here hx rfl (hb hby at_83) rfl (l' := #[.val (.int p0), .val (.int p1), .val (.int p2), .val (.int v2), .val (.int v6), .val (.int v10), .val (.int v13), .val (.int (p2.toInt16.toInt32)), .unset, .unset]) rfl ?_
                exact k)
            obtain ⟨v34, hv34⟩ : ∃ z : Int32, z = (p2.toInt16.toInt32) := ⟨_, rfl⟩
            have pre35 : ∀ t, Steps p.tables e below (T9.setTop (mkF m 85 #[.val (.int p0), .val (.int p1), .val (.int p2), .val (.int v2), .val (.int v6), .val (.int v10), .val (.int v13), .val (.int v34), .unset, .unset] [])) t → P t := fun t k => pre33 t (by subst hv34; exact k)
            exact ⟨_, _, v34, X9, e9, N9, (by subst hv34; first | (rw [if_neg hc16, if_neg hc22, if_neg hc25, if_neg hc28]; done) | simp only [if_neg hc16, if_neg hc22, if_neg hc25, if_neg hc28] | simp [if_neg hc16, if_neg hc22, if_neg hc25, if_neg hc28]), pre35⟩
  have pre38 : ∀ t, Steps p.tables e below (T37.setTop (mkF m 90 #[.val (.int p0), .val (.int p1), .val (.int p2), .val (.int v2), .val (.int v6), .val (.int v10), .val (.int v13), .val (.int v36), .val (.int (v36.toInt16.toInt32)), .unset] [])) t → P t := fun t k => pre37 t (by
      show Steps p.tables e below (T37.setTop (mkF m 85 #[.val (.int p0), .val (.int p1), .val (.int p2), .val (.int v2), .val (.int v6), .val (.int v10), .val (.int v13), .val (.int v36), .unset, .unset] [])) _
      refine XS.iload X37.here hx rfl (hb hby at_85) rfl ?_
      show Steps p.tables e below (T37.setTop (mkF m 87 #[.val (.int p0), .val (.int p1), .val (.int p2), .val (.int v2), .val (.int v6), .val (.int v10), .val (.int v13), .val (.int v36), .unset, .unset] [(.int v36)])) _
      refine XS.i2s X37.here hx rfl (hb hby at_87) rfl ?_
      show Steps p.tables e below (T37.setTop (mkF m 88 #[.val (.int p0), .val (.int p1), .val (.int p2), .val (.int v2), .val (.int v6), .val (.int v10), .val (.int v13), .val (.int v36), .unset, .unset] [(.int (v36.toInt16.toInt32))])) _
      refine XS.istore X37.here hx rfl (hb hby at_88) rfl (l' := #[.val (.int p0), .val (.int p1), .val (.int p2), .val (.int v2), .val (.int v6), .val (.int v10), .val (.int v13), .val (.int v36), .val (.int (v36.toInt16.toInt32)), .unset]) rfl ?_
      exact k)
  obtain ⟨v39, hv39⟩ : ∃ z : Int32, z = (v36.toInt16.toInt32) := ⟨_, rfl⟩
  have pre40 : ∀ t, Steps p.tables e below (T37.setTop (mkF m 90 #[.val (.int p0), .val (.int p1), .val (.int p2), .val (.int v2), .val (.int v6), .val (.int v10), .val (.int v13), .val (.int v36), .val (.int v39), .unset] [])) t → P t := fun t k => pre38 t (by subst hv39; exact k)
  have pre41 : ∀ t, Steps p.tables e below (T37.setTop (mkF m 94 #[.val (.int p0), .val (.int p1), .val (.int p2), .val (.int v2), .val (.int v6), .val (.int v10), .val (.int v13), .val (.int v36), .val (.int v39), .unset] [(.int v6), (.int v36)])) t → P t := fun t k => pre40 t (by
      show Steps p.tables e below (T37.setTop (mkF m 90 #[.val (.int p0), .val (.int p1), .val (.int p2), .val (.int v2), .val (.int v6), .val (.int v10), .val (.int v13), .val (.int v36), .val (.int v39), .unset] [])) _
      refine XS.iload X37.here hx rfl (hb hby at_90) rfl ?_
      show Steps p.tables e below (T37.setTop (mkF m 92 #[.val (.int p0), .val (.int p1), .val (.int p2), .val (.int v2), .val (.int v6), .val (.int v10), .val (.int v13), .val (.int v36), .val (.int v39), .unset] [(.int v36)])) _
      refine XS.iload X37.here hx rfl (hb hby at_92) rfl ?_
      exact k)
  obtain ⟨T49, L49, v48, X49, e49, N49, hv48, pre49⟩ : ∃ (T' : State) (L' : List Loc) (v48 : Int32), Stand p l e room_1 s m #[(.int p0), (.int p1), (.int p2)] below meth c T' L' 0 0 ∧ T'.heap = h0 ∧ Fr n0 L' ∧ v48 = (if v36 < v6 then (0 : Int32) else (if v10 < v36 then (0 : Int32) else (1 : Int32))) ∧ (∀ t, Steps p.tables e below (T'.setTop (mkF m 109 #[.val (.int p0), .val (.int p1), .val (.int p2), .val (.int v2), .val (.int v6), .val (.int v10), .val (.int v13), .val (.int v36), .val (.int v39), .unset] [(.int v48)])) t → P t) := by
    by_cases hc42 : v36 < v6
    · have pre43 : ∀ t, Steps p.tables e below (T37.setTop (mkF m 109 #[.val (.int p0), .val (.int p1), .val (.int p2), .val (.int v2), .val (.int v6), .val (.int v10), .val (.int v13), .val (.int v36), .val (.int v39), .unset] [(.int (0 : Int32))])) t → P t := fun t k => pre41 t (by
          show Steps p.tables e below (T37.setTop (mkF m 94 #[.val (.int p0), .val (.int p1), .val (.int p2), .val (.int v2), .val (.int v6), .val (.int v10), .val (.int v13), .val (.int v36), .val (.int v39), .unset] [(.int v6), (.int v36)])) _
          refine XS.icmpYes X37.here hx rfl (pc0 := 94) (pc' := 108) rfl (hb hby at_94) rfl (tlt hc42).1 (by decide) (by decide) ?_
          show Steps p.tables e below (T37.setTop (mkF m 108 #[.val (.int p0), .val (.int p1), .val (.int p2), .val (.int v2), .val (.int v6), .val (.int v10), .val (.int v13), .val (.int v36), .val (.int v39), .unset] [])) _
          refine XS.iconst X37.here hx rfl (hb hby at_108) ?_
          exact k)
      exact ⟨_, _, (0 : Int32), X37, e37, N37, (by first | (rw [if_pos hc42]; done) | simp only [if_pos hc42] | simp [if_pos hc42]), pre43⟩
    · have pre44 : ∀ t, Steps p.tables e below (T37.setTop (mkF m 101 #[.val (.int p0), .val (.int p1), .val (.int p2), .val (.int v2), .val (.int v6), .val (.int v10), .val (.int v13), .val (.int v36), .val (.int v39), .unset] [(.int v10), (.int v36)])) t → P t := fun t k => pre41 t (by
          show Steps p.tables e below (T37.setTop (mkF m 94 #[.val (.int p0), .val (.int p1), .val (.int p2), .val (.int v2), .val (.int v6), .val (.int v10), .val (.int v13), .val (.int v36), .val (.int v39), .unset] [(.int v6), (.int v36)])) _
          refine XS.icmpNo X37.here hx rfl (hb hby at_94) rfl (flt hc42).1 ?_
          show Steps p.tables e below (T37.setTop (mkF m 97 #[.val (.int p0), .val (.int p1), .val (.int p2), .val (.int v2), .val (.int v6), .val (.int v10), .val (.int v13), .val (.int v36), .val (.int v39), .unset] [])) _
          refine XS.iload X37.here hx rfl (hb hby at_97) rfl ?_
          show Steps p.tables e below (T37.setTop (mkF m 99 #[.val (.int p0), .val (.int p1), .val (.int p2), .val (.int v2), .val (.int v6), .val (.int v10), .val (.int v13), .val (.int v36), .val (.int v39), .unset] [(.int v36)])) _
          refine XS.iload X37.here hx rfl (hb hby at_99) rfl ?_
          exact k)
      by_cases hc45 : v10 < v36
      · have pre46 : ∀ t, Steps p.tables e below (T37.setTop (mkF m 109 #[.val (.int p0), .val (.int p1), .val (.int p2), .val (.int v2), .val (.int v6), .val (.int v10), .val (.int v13), .val (.int v36), .val (.int v39), .unset] [(.int (0 : Int32))])) t → P t := fun t k => pre44 t (by
            show Steps p.tables e below (T37.setTop (mkF m 101 #[.val (.int p0), .val (.int p1), .val (.int p2), .val (.int v2), .val (.int v6), .val (.int v10), .val (.int v13), .val (.int v36), .val (.int v39), .unset] [(.int v10), (.int v36)])) _
            refine XS.icmpYes X37.here hx rfl (pc0 := 101) (pc' := 108) rfl (hb hby at_101) rfl (tlt hc45).2.2.1 (by decide) (by decide) ?_
            show Steps p.tables e below (T37.setTop (mkF m 108 #[.val (.int p0), .val (.int p1), .val (.int p2), .val (.int v2), .val (.int v6), .val (.int v10), .val (.int v13), .val (.int v36), .val (.int v39), .unset] [])) _
            refine XS.iconst X37.here hx rfl (hb hby at_108) ?_
            exact k)
        exact ⟨_, _, (0 : Int32), X37, e37, N37, (by first | (rw [if_neg hc42, if_pos hc45]; done) | simp only [if_neg hc42, if_pos hc45] | simp [if_neg hc42, if_pos hc45]), pre46⟩
      · have pre47 : ∀ t, Steps p.tables e below (T37.setTop (mkF m 109 #[.val (.int p0), .val (.int p1), .val (.int p2), .val (.int v2), .val (.int v6), .val (.int v10), .val (.int v13), .val (.int v36), .val (.int v39), .unset] [(.int (1 : Int32))])) t → P t := fun t k => pre44 t (by
            show Steps p.tables e below (T37.setTop (mkF m 101 #[.val (.int p0), .val (.int p1), .val (.int p2), .val (.int v2), .val (.int v6), .val (.int v10), .val (.int v13), .val (.int v36), .val (.int v39), .unset] [(.int v10), (.int v36)])) _
            refine XS.icmpNo X37.here hx rfl (hb hby at_101) rfl (flt hc45).2.2.1 ?_
            show Steps p.tables e below (T37.setTop (mkF m 104 #[.val (.int p0), .val (.int p1), .val (.int p2), .val (.int v2), .val (.int v6), .val (.int v10), .val (.int v13), .val (.int v36), .val (.int v39), .unset] [])) _
            refine XS.iconst X37.here hx rfl (hb hby at_104) ?_
            show Steps p.tables e below (T37.setTop (mkF m 105 #[.val (.int p0), .val (.int p1), .val (.int p2), .val (.int v2), .val (.int v6), .val (.int v10), .val (.int v13), .val (.int v36), .val (.int v39), .unset] [(.int (1 : Int32))])) _
            refine XS.goto X37.here hx rfl (pc0 := 105) (pc' := 109) rfl (hb hby at_105) (by decide) (by decide) ?_
            exact k)
        exact ⟨_, _, (1 : Int32), X37, e37, N37, (by first | (rw [if_neg hc42, if_neg hc45]; done) | simp only [if_neg hc42, if_neg hc45] | simp [if_neg hc42, if_neg hc45]), pre47⟩
  have pre50 : ∀ t, Steps p.tables e below (T49.setTop (mkF m 112 #[.val (.int p0), .val (.int p1), .val (.int p2), .val (.int v2), .val (.int v6), .val (.int v10), .val (.int v13), .val (.int v36), .val (.int v39), .val (.int v48)] [(.int v2)])) t → P t := fun t k => pre49 t (by
      show Steps p.tables e below (T49.setTop (mkF m 109 #[.val (.int p0), .val (.int p1), .val (.int p2), .val (.int v2), .val (.int v6), .val (.int v10), .val (.int v13), .val (.int v36), .val (.int v39), .unset] [(.int v48)])) _
      refine XS.istore X49.here hx rfl (hb hby at_109) rfl (l' := #[.val (.int p0), .val (.int p1), .val (.int p2), .val (.int v2), .val (.int v6), .val (.int v10), .val (.int v13), .val (.int v36), .val (.int v39), .val (.int v48)]) rfl ?_
      show Steps p.tables e below (T49.setTop (mkF m 111 #[.val (.int p0), .val (.int p1), .val (.int p2), .val (.int v2), .val (.int v6), .val (.int v10), .val (.int v13), .val (.int v36), .val (.int v39), .val (.int v48)] [])) _
      refine XS.iloadN X49.here hx rfl (hb hby at_111) rfl ?_
      exact k)
  obtain ⟨_, _, ⟨T51, L51, k51, n51⟩, -, X51, ⟨Lc51, hQ51, l51, y51, z51⟩, st51⟩ := Jvm.LawKit.callS X49 hx (y := (⟨"com/example/incarico/incarico/protocol/ApiKeySupportsPinLaw", "pick", "(I)Lcom/example/incarico/incarico/protocol/ApiKey;"⟩ : MethodName)) hown (mvT hZ (hw _ (List.mem_of_getElem? (i := 8) rfl))) (mvT hZ (hw _ (List.mem_of_getElem? (i := 9) rfl))) (mvT hZ (hw _ (List.mem_of_getElem? (i := 3) rfl))) (mvT hZ (hw _ (List.mem_of_getElem? (i := 10) rfl))) (by decide) (backOf (W := 0) (rm3 l Z a0 hw [] v2 s_METADATA s_OFFSET_COMMIT s_OFFSET_FETCH s_FIND_COORDINATOR s_JOIN_GROUP s_HEARTBEAT s_LEAVE_GROUP s_SYNC_GROUP s_DESCRIBE_GROUPS s_LIST_GROUPS s_API_VERSIONS s_CREATE_PARTITIONS s_DELETE_GROUPS s_OFFSET_DELETE s_CONSUMER_GROUP_HEARTBEAT s_CONSUMER_GROUP_DESCRIBE h0 n0 Z0 S_METADATA S_OFFSET_COMMIT S_OFFSET_FETCH S_FIND_COORDINATOR S_JOIN_GROUP S_HEARTBEAT S_LEAVE_GROUP S_SYNC_GROUP S_DESCRIBE_GROUPS S_LIST_GROUPS S_API_VERSIONS S_CREATE_PARTITIONS S_DELETE_GROUPS S_OFFSET_DELETE S_CONSUMER_GROUP_HEARTBEAT S_CONSUMER_GROUP_DESCRIBE) hZ (hw _ (List.mem_of_getElem? (i := 10) rfl)) (hw _ (List.mem_of_getElem? (i := 3) rfl)) (by decide) (by decide)) (g := (mkF m 112 #[.val (.int p0), .val (.int p1), .val (.int p2), .val (.int v2), .val (.int v6), .val (.int v10), .val (.int v13), .val (.int v36), .val (.int v39), .val (.int v48)] [(.int v2)])) rfl (by rw [hml]; rfl) (argsL := [(.int v2)]) (rest := []) (lenOf own_pd1 rfl) rfl (by show 2 * 0 + _ ≤ _; exact Nat.le_of_eq rfl) (hb hby at_112) (fun _ _ => ⟨rfl, e49, (by decide : 0 + 0 ≤ _), (by decide : 0 + 0 ≤ _)⟩)
  dsimp only [Pt.U, Pt.locs, Pt.cells, Pt.slots] at X51 l51 y51 z51 st51 hQ51
  subst l51 y51 z51
  obtain ⟨rfl, N51q, e51⟩ := hQ51
  have N51 := Fr.app N49 N51q
  have pre51 : ∀ t, Steps p.tables e below (T51.setTop (mkF m 115 #[.val (.int p0), .val (.int p1), .val (.int p2), .val (.int v2), .val (.int v6), .val (.int v10), .val (.int v13), .val (.int v36), .val (.int v39), .val (.int v48)] [(.ref (own_f3 v2 s_METADATA s_OFFSET_COMMIT s_OFFSET_FETCH s_FIND_COORDINATOR s_JOIN_GROUP s_HEARTBEAT s_LEAVE_GROUP s_SYNC_GROUP s_DESCRIBE_GROUPS s_LIST_GROUPS s_API_VERSIONS s_CREATE_PARTITIONS s_DELETE_GROUPS s_OFFSET_DELETE s_CONSUMER_GROUP_HEARTBEAT s_CONSUMER_GROUP_DESCRIBE))])) t → P t := fun t k => pre50 t (st51 _ k)
  obtain ⟨v52, hv52⟩ : ∃ z : Addr, z = (own_f3 v2 s_METADATA s_OFFSET_COMMIT s_OFFSET_FETCH s_FIND_COORDINATOR s_JOIN_GROUP s_HEARTBEAT s_LEAVE_GROUP s_SYNC_GROUP s_DESCRIBE_GROUPS s_LIST_GROUPS s_API_VERSIONS s_CREATE_PARTITIONS s_DELETE_GROUPS s_OFFSET_DELETE s_CONSUMER_GROUP_HEARTBEAT s_CONSUMER_GROUP_DESCRIBE) := ⟨_, rfl⟩
  have pre53 : ∀ t, Steps p.tables e below (T51.setTop (mkF m 115 #[.val (.int p0), .val (.int p1), .val (.int p2), .val (.int v2), .val (.int v6), .val (.int v10), .val (.int v13), .val (.int v36), .val (.int v39), .val (.int v48)] [(.ref v52)])) t → P t := fun t k => pre51 t (by subst hv52; exact k)
  have HKv52 : own_K Z h0 v52 (own_f1 v2) (own_f2 v2) := by subst hv52; exact own_pick _ _ v2 s_METADATA s_OFFSET_COMMIT s_OFFSET_FETCH s_FIND_COORDINATOR s_JOIN_GROUP s_HEARTBEAT s_LEAVE_GROUP s_SYNC_GROUP s_DESCRIBE_GROUPS s_LIST_GROUPS s_API_VERSIONS s_CREATE_PARTITIONS s_DELETE_GROUPS s_OFFSET_DELETE s_CONSUMER_GROUP_HEARTBEAT s_CONSUMER_GROUP_DESCRIBE HK_METADATA HK_OFFSET_COMMIT HK_OFFSET_FETCH HK_FIND_COORDINATOR HK_JOIN_GROUP HK_HEARTBEAT HK_LEAVE_GROUP HK_SYNC_GROUP HK_DESCRIBE_GROUPS HK_LIST_GROUPS HK_API_VERSIONS HK_CREATE_PARTITIONS HK_DELETE_GROUPS HK_OFFSET_DELETE HK_CONSUMER_GROUP_HEARTBEAT HK_CONSUMER_GROUP_DESCRIBE
  have pre54 : ∀ t, Steps p.tables e below (T51.setTop (mkF m 117 #[.val (.int p0), .val (.int p1), .val (.int p2), .val (.int v2), .val (.int v6), .val (.int v10), .val (.int v13), .val (.int v36), .val (.int v39), .val (.int v48)] [(.int v39), (.ref v52)])) t → P t := fun t k => pre53 t (by
      show Steps p.tables e below (T51.setTop (mkF m 115 #[.val (.int p0), .val (.int p1), .val (.int p2), .val (.int v2), .val (.int v6), .val (.int v10), .val (.int v13), .val (.int v36), .val (.int v39), .val (.int v48)] [(.ref v52)])) _
      refine XS.iload X51.here hx rfl (hb hby at_115) rfl ?_
      exact k)
  obtain ⟨cq55, kq55, q55a, q55b, q55c⟩ := isOf hZ e51 HKv52.1
  obtain ⟨_, _, ⟨T55, L55, k55, n55⟩, -, X55, ⟨Lc55, hQ55, l55, y55, z55⟩, st55⟩ := X51.virtualBack hx (y := (⟨"com/example/incarico/incarico/protocol/ApiKey", "supports", "(S)Z"⟩ : MethodName)) (z := (⟨"com/example/incarico/incarico/protocol/ApiKey", "supports", "(S)Z"⟩ : MethodName)) hown (mvT hZ (hw _ (List.mem_of_getElem? (i := 14) rfl))) (mvT hZ (hw _ (List.mem_of_getElem? (i := 15) rfl))) (notFace_of_selects (args := #[]) (mvT hZ (hw _ (List.mem_of_getElem? (i := 17) rfl)))) (mvT hZ (hw _ (List.mem_of_getElem? (i := 17) rfl))) (mvT hZ (hw _ (List.mem_of_getElem? (i := 16) rfl))) (by decide) (backOf (W := 0) (rm4 l Z a0 hw [] v52 v39 (own_f1 v2) (own_f2 v2) h0 n0 Z0 HKv52.2.1 HKv52.2.2) hZ (hw _ (List.mem_of_getElem? (i := 18) rfl)) (hw _ (List.mem_of_getElem? (i := 12) rfl)) (by decide) (by decide)) q55a q55c (g := (mkF m 117 #[.val (.int p0), .val (.int p1), .val (.int p2), .val (.int v2), .val (.int v6), .val (.int v10), .val (.int v13), .val (.int v36), .val (.int v39), .val (.int v48)] [(.int v39), (.ref v52)])) rfl (by rw [hml]; rfl) (Steps.refl _) (argsL := [(.int v39)]) (rest := []) (lenOf own_pd2 rfl) rfl (by show 2 * 0 + _ ≤ _; exact Nat.le_of_eq rfl) (hb hby at_117) (fun _ _ => ⟨rfl, e51, (by decide : 0 + 0 ≤ _), (by decide : 0 + 0 ≤ _)⟩)
  dsimp only [Pt.U, Pt.locs, Pt.cells, Pt.slots] at X55 l55 y55 z55 st55 hQ55
  subst l55 y55 z55
  obtain ⟨rfl, N55q, e55⟩ := hQ55
  have N55 := Fr.app N51 N55q
  have pre55 : ∀ t, Steps p.tables e below (T55.setTop (mkF m 120 #[.val (.int p0), .val (.int p1), .val (.int p2), .val (.int v2), .val (.int v6), .val (.int v10), .val (.int v13), .val (.int v36), .val (.int v39), .val (.int v48)] [(.int (own_f4 v39 (own_f1 v2) (own_f2 v2)))])) t → P t := fun t k => pre54 t (st55.trans k)
  obtain ⟨v56, hv56⟩ : ∃ z : Int32, z = (own_f4 v39 (own_f1 v2) (own_f2 v2)) := ⟨_, rfl⟩
  have pre57 : ∀ t, Steps p.tables e below (T55.setTop (mkF m 120 #[.val (.int p0), .val (.int p1), .val (.int p2), .val (.int v2), .val (.int v6), .val (.int v10), .val (.int v13), .val (.int v36), .val (.int v39), .val (.int v48)] [(.int v56)])) t → P t := fun t k => pre55 t (by subst hv56; exact k)
  have pre58 : ∀ t, Steps p.tables e below (T55.setTop (mkF m 122 #[.val (.int p0), .val (.int p1), .val (.int p2), .val (.int v2), .val (.int v6), .val (.int v10), .val (.int v13), .val (.int v36), .val (.int v39), .val (.int v48)] [(.int v48), (.int v56)])) t → P t := fun t k => pre57 t (by
      show Steps p.tables e below (T55.setTop (mkF m 120 #[.val (.int p0), .val (.int p1), .val (.int p2), .val (.int v2), .val (.int v6), .val (.int v10), .val (.int v13), .val (.int v36), .val (.int v39), .val (.int v48)] [(.int v56)])) _
      refine XS.iload X55.here hx rfl (hb hby at_120) rfl ?_
      exact k)
  obtain ⟨T63, L63, v62, X63, e63, N63, hv62, pre63⟩ : ∃ (T' : State) (L' : List Loc) (v62 : Int32), Stand p l e room_1 s m #[(.int p0), (.int p1), (.int p2)] below meth c T' L' 0 0 ∧ T'.heap = h0 ∧ Fr n0 L' ∧ v62 = (if v56 = v48 then (1 : Int32) else (0 : Int32)) ∧ (∀ t, Steps p.tables e below (T'.setTop (mkF m 130 #[.val (.int p0), .val (.int p1), .val (.int p2), .val (.int v2), .val (.int v6), .val (.int v10), .val (.int v13), .val (.int v36), .val (.int v39), .val (.int v48)] [(.int v62)])) t → P t) := by
    by_cases hc59 : v56 = v48
    · have pre60 : ∀ t, Steps p.tables e below (T55.setTop (mkF m 130 #[.val (.int p0), .val (.int p1), .val (.int p2), .val (.int v2), .val (.int v6), .val (.int v10), .val (.int v13), .val (.int v36), .val (.int v39), .val (.int v48)] [(.int (1 : Int32))])) t → P t := fun t k => pre58 t (by
          show Steps p.tables e below (T55.setTop (mkF m 122 #[.val (.int p0), .val (.int p1), .val (.int p2), .val (.int v2), .val (.int v6), .val (.int v10), .val (.int v13), .val (.int v36), .val (.int v39), .val (.int v48)] [(.int v48), (.int v56)])) _
          refine XS.icmpNo X55.here hx rfl (hb hby at_122) rfl (teq hc59).2 ?_
          show Steps p.tables e below (T55.setTop (mkF m 125 #[.val (.int p0), .val (.int p1), .val (.int p2), .val (.int v2), .val (.int v6), .val (.int v10), .val (.int v13), .val (.int v36), .val (.int v39), .val (.int v48)] [])) _
          refine XS.iconst X55.here hx rfl (hb hby at_125) ?_
          show Steps p.tables e below (T55.setTop (mkF m 126 #[.val (.int p0), .val (.int p1), .val (.int p2), .val (.int v2), .val (.int v6), .val (.int v10), .val (.int v13), .val (.int v36), .val (.int v39), .val (.int v48)] [(.int (1 : Int32))])) _
          refine XS.goto X55.here hx rfl (pc0 := 126) (pc' := 130) rfl (hb hby at_126) (by decide) (by decide) ?_
          exact k)
      exact ⟨_, _, (1 : Int32), X55, e55, N55, (by first | (rw [if_pos hc59]; done) | simp only [if_pos hc59] | simp [if_pos hc59]), pre60⟩
    · have pre61 : ∀ t, Steps p.tables e below (T55.setTop (mkF m 130 #[.val (.int p0), .val (.int p1), .val (.int p2), .val (.int v2), .val (.int v6), .val (.int v10), .val (.int v13), .val (.int v36), .val (.int v39), .val (.int v48)] [(.int (0 : Int32))])) t → P t := fun t k => pre58 t (by
          show Steps p.tables e below (T55.setTop (mkF m 122 #[.val (.int p0), .val (.int p1), .val (.int p2), .val (.int v2), .val (.int v6), .val (.int v10), .val (.int v13), .val (.int v36), .val (.int v39), .val (.int v48)] [(.int v48), (.int v56)])) _
          refine XS.icmpYes X55.here hx rfl (pc0 := 122) (pc' := 129) rfl (hb hby at_122) rfl (feq hc59).2 (by decide) (by decide) ?_
          show Steps p.tables e below (T55.setTop (mkF m 129 #[.val (.int p0), .val (.int p1), .val (.int p2), .val (.int v2), .val (.int v6), .val (.int v10), .val (.int v13), .val (.int v36), .val (.int v39), .val (.int v48)] [])) _
          refine XS.iconst X55.here hx rfl (hb hby at_129) ?_
          exact k)
      exact ⟨_, _, (0 : Int32), X55, e55, N55, (by first | (rw [if_neg hc59]; done) | simp only [if_neg hc59] | simp [if_neg hc59]), pre61⟩
  obtain ⟨fs, hr, hrun, hended, hW, hsame⟩ := X63.leave (v := some (.int v62)) (fun h => by rw [Bd.returns] at h; cases h)
  refine ⟨_, _, fin _ (pre63 _ ?_), hrun, hended, _, _, rfl, ?_, ⟨_, rfl⟩, hW, hsame.mono (by decide) (by decide)⟩
  · show Steps p.tables e below (T63.setTop (mkF m 130 #[.val (.int p0), .val (.int p1), .val (.int p2), .val (.int v2), .val (.int v6), .val (.int v10), .val (.int v13), .val (.int v36), .val (.int v39), .val (.int v48)] [(.int v62)])) _
    have hnar : nar .boolean v62 = v62 := by subst hv2 hv6 hv10 hv13 hv36 hv39 hv48 hv52 hv56 hv62; first | rfl | (split <;> rfl) | ((try simp only []); (repeat' split) <;> rfl)
    exact retN X63 hx (t := .boolean) Bd.returns (by simp) (hb hby at_130) (by rw [hnar]; exact hr)
  · show Q0 Z p0 p1 p2 s_METADATA s_OFFSET_COMMIT s_OFFSET_FETCH s_FIND_COORDINATOR s_JOIN_GROUP s_HEARTBEAT s_LEAVE_GROUP s_SYNC_GROUP s_DESCRIBE_GROUPS s_LIST_GROUPS s_API_VERSIONS s_CREATE_PARTITIONS s_DELETE_GROUPS s_OFFSET_DELETE s_CONSUMER_GROUP_HEARTBEAT s_CONSUMER_GROUP_DESCRIBE h0 n0 _ T63.heap _
    rw [e63]
    exact ⟨(by subst hv2 hv6 hv10 hv13 hv36 hv39 hv48 hv52 hv56 hv62; first | rfl | simp only [own_f0]), N63⟩
theorem own_eqI {t : Jvm.Term} {n : Int32} {args : Array Value} {first s : State} {o : Option Outcome} {idx : List Nat} (h : (Jvm.Cond.eq t (Jvm.Term.int n)).value args first o s idx = some true) : t.eval args first o idx s = some (.int n) := by
  simp only [Cond.value, Term.eval] at h
  cases ht : t.eval args first o idx s with
  | none => simp [ht] at h
  | some x => cases x <;> simp [ht] at h ⊢; exact h
theorem own_lo (k : Int32) : 0 ≤ (own_f1 k).toInt ∧ (own_f1 k).toInt ≤ 2 := by
  unfold own_f1
  split
  · decide
  · split
    · decide
    · split <;> decide
theorem own_ite (c : Prop) [Decidable c] (a b : Int32) (ha : 0 ≤ a.toInt ∧ a.toInt ≤ 13) (hb : 0 ≤ b.toInt ∧ b.toInt ≤ 13) : 0 ≤ (if c then a else b).toInt ∧ (if c then a else b).toInt ≤ 13 := by
  split
  · exact ha
  · exact hb
theorem own_hi (k : Int32) : 0 ≤ (own_f2 k).toInt ∧ (own_f2 k).toInt ≤ 13 := by
  unfold own_f2
  repeat (first | exact (by decide) | refine own_ite _ _ _ (by decide) ?_)
theorem own_law (a m r : Int32) : own_f0 a m r = 1 := by
  unfold own_f0
  generalize (a &&& 2147483647) % 16 = k
  simp only []
  have hl := own_lo k
  have hh := own_hi k
  generalize own_f1 k = lo at *
  generalize own_f2 k = hi at *
  have h1 := c_isub lo 1
  have h2 := rng32 (lo - 1)
  have h3 := c_iadd hi 1
  have h4 := rng32 (hi + 1)
  have h5 := c_i2s r
  have e1 : (1 : Int32).toInt = 1 := by decide
  have hv : ∀ v : Int32, -32768 ≤ v.toInt → v.toInt < 32768 → v.toInt16.toInt32 = v := by
    intro v q1 q2
    have h6 := c_i2s v
    rw [← Int32.toInt_inj]
    omega
  have key : ∀ v : Int32, -32768 ≤ v.toInt ∧ v.toInt < 32768 → (if own_f4 (v.toInt16.toInt32) lo hi = (if v < lo then (0 : Int32) else (if hi < v then (0 : Int32) else (1 : Int32))) then (1 : Int32) else (0 : Int32)) = 1 := by
    intro v q
    rw [hv v q.1 q.2]
    unfold own_f4
    simp
  refine key _ ?_
  split
  · omega
  · split
    · omega
    · split
      · omega
      · split <;> omega
set_option maxRecDepth 65536 in
set_option maxHeartbeats 40000000 in
theorem comes_1 {Post : Tables → Env → Array Value → State → Outcome → State → Prop} (hpost : ∀ tb e args s v u, (limb_1_1.after args s (.returned v) u = true ∧ limb_1_2.after args s (.returned v) u = true ∧ True) → FrameEnd s (.returned v) u (Jvm.fieldLocs frame_1_writes args s ++ Jvm.arrayLocs frame_1_arrays args s ++ Jvm.staticLocs frame_1_statics s) 0 0 → Post tb e args s (.returned v) u) :
    ArmFor flags0 classFile x code maxLocals ret World_1 tables_1 room_1 Calls_1 rest_1 Pre_1 Post := by
  intro l hfl _ _ p e ha hc hk s m args below hf hA hF happ hP
  obtain ⟨hcalls, hrest, hpre⟩ := hP
  obtain ⟨-, -, -, hnamed, -, -, -, hat⟩ := (Spec.applies_iff hf).mp happ
  obtain ⟨hg, hn⟩ := and_e (Cond.before_iff.mp (show (Jvm.Cond.and given_1 narrow_1).before args s = true from hpre))
  obtain ⟨hg1, hg2⟩ := and_e hg
  obtain ⟨hg3, hg4⟩ := and_e hg2
  obtain ⟨hg5, hg6⟩ := and_e hg4
  obtain ⟨w0, w1, w2, rfl⟩ : ∃ w0 w1 w2 : Value, args = #[w0, w1, w2] := by
    have hs : args.size = 3 := by simpa [Cond.value, given_1] using hg1
    obtain ⟨L⟩ := args
    match L, hs with
    | [w0, w1, w2], _ => exact ⟨w0, w1, w2, rfl⟩
  have hw := fun d (hd : d ∈ tables_1) => atoms_spec (ws := Jvm.Cond.code x code maxLocals ret :: tables_1) hat d (List.mem_cons_of_mem _ hd)
  have hfit : Fit s := fun {y c} hc i hi => by
    obtain ⟨ha, rfl⟩ := Array.getElem?_eq_some_iff.mp hc
    have q := List.all_eq_true.mp ((Array.all_eq_true_iff_forall_mem.mp hF) _ (Array.getElem_mem ha)) i (List.mem_range.mpr hi)
    simpa [Array.getElem?_eq_getElem hi] using q
  obtain ⟨i0, ei0⟩ := is_v hg3
  obtain rfl : w0 = (.int i0) := Option.some.inj ei0
  obtain ⟨i1, ei1⟩ := is_v hg5
  obtain rfl : w1 = (.int i1) := Option.some.inj ei1
  obtain ⟨i2, ei2⟩ := is_v hg6
  obtain rfl : w2 = (.int i2) := Option.some.inj ei2
  obtain ⟨hj1, hj2⟩ := and_e hn
  obtain ⟨hj3, hj4⟩ := and_e hj2
  obtain ⟨hj5, hj6⟩ := and_e hj4
  obtain ⟨hj7, hj8⟩ := and_e hj6
  obtain ⟨hj9, hj10⟩ := and_e hj8
  obtain ⟨hj11, hj12⟩ := and_e hj10
  obtain ⟨hj13, hj14⟩ := and_e hj12
  obtain ⟨hj15, hj16⟩ := and_e hj14
  obtain ⟨hj17, hj18⟩ := and_e hj16
  obtain ⟨hj19, hj20⟩ := and_e hj18
  obtain ⟨hj21, hj22⟩ := and_e hj20
  obtain ⟨hj23, hj24⟩ := and_e hj22
  obtain ⟨hj25, hj26⟩ := and_e hj24
  obtain ⟨hj27, hj28⟩ := and_e hj26
  obtain ⟨hj29, hj30⟩ := and_e hj28
  obtain ⟨hj31, hj32⟩ := and_e hj30
  obtain ⟨hj33, hj34⟩ := and_e hj32
  obtain ⟨hj35, hj36⟩ := and_e hj34
  obtain ⟨hj37, hj38⟩ := and_e hj36
  obtain ⟨hj39, hj40⟩ := and_e hj38
  obtain ⟨hj41, hj42⟩ := and_e hj40
  obtain ⟨hj43, hj44⟩ := and_e hj42
  obtain ⟨hj45, hj46⟩ := and_e hj44
  obtain ⟨hj47, hj48⟩ := and_e hj46
  obtain ⟨hj49, hj50⟩ := and_e hj48
  obtain ⟨hj51, hj52⟩ := and_e hj50
  obtain ⟨hj53, hj54⟩ := and_e hj52
  obtain ⟨hj55, hj56⟩ := and_e hj54
  obtain ⟨hj57, hj58⟩ := and_e hj56
  obtain ⟨hj59, hj60⟩ := and_e hj58
  obtain ⟨hj61, hj62⟩ := and_e hj60
  obtain ⟨hj63, hj64⟩ := and_e hj62
  obtain ⟨hj65, hj66⟩ := and_e hj64
  obtain ⟨hj67, hj68⟩ := and_e hj66
  obtain ⟨hj69, hj70⟩ := and_e hj68
  obtain ⟨hj71, hj72⟩ := and_e hj70
  obtain ⟨hj73, hj74⟩ := and_e hj72
  obtain ⟨hj75, hj76⟩ := and_e hj74
  obtain ⟨hj77, hj78⟩ := and_e hj76
  obtain ⟨hj79, hj80⟩ := and_e hj78
  obtain ⟨hj81, hj82⟩ := and_e hj80
  obtain ⟨hj83, hj84⟩ := and_e hj82
  obtain ⟨hj85, hj86⟩ := and_e hj84
  obtain ⟨hj87, hj88⟩ := and_e hj86
  obtain ⟨hj89, hj90⟩ := and_e hj88
  obtain ⟨hj91, hj92⟩ := and_e hj90
  obtain ⟨hj93, hj94⟩ := and_e hj92
  obtain ⟨s_METADATA, es_METADATA⟩ := exa_v hj1
  have E_METADATA := Exa.start es_METADATA hj1
  have S_METADATA := Sta.start es_METADATA (Or.inr ⟨(hw _ (List.mem_of_getElem? (i := 12) rfl)), (hw _ (List.mem_of_getElem? (i := 13) rfl))⟩)
  have F_METADATA_lowestVersion := Fld.start ((fld_at es_METADATA).symm.trans (own_eqI hj3))
  have F_METADATA_highestVersion := Fld.start ((fld_at es_METADATA).symm.trans (own_eqI hj5))
  obtain ⟨s_OFFSET_COMMIT, es_OFFSET_COMMIT⟩ := exa_v hj7
  have E_OFFSET_COMMIT := Exa.start es_OFFSET_COMMIT hj7
  have S_OFFSET_COMMIT := Sta.start es_OFFSET_COMMIT (Or.inr ⟨(hw _ (List.mem_of_getElem? (i := 12) rfl)), (hw _ (List.mem_of_getElem? (i := 24) rfl))⟩)
  have F_OFFSET_COMMIT_lowestVersion := Fld.start ((fld_at es_OFFSET_COMMIT).symm.trans (own_eqI hj9))
  have F_OFFSET_COMMIT_highestVersion := Fld.start ((fld_at es_OFFSET_COMMIT).symm.trans (own_eqI hj11))
  obtain ⟨s_OFFSET_FETCH, es_OFFSET_FETCH⟩ := exa_v hj27
  have E_OFFSET_FETCH := Exa.start es_OFFSET_FETCH hj27
  have S_OFFSET_FETCH := Sta.start es_OFFSET_FETCH (Or.inr ⟨(hw _ (List.mem_of_getElem? (i := 12) rfl)), (hw _ (List.mem_of_getElem? (i := 32) rfl))⟩)
  have F_OFFSET_FETCH_lowestVersion := Fld.start ((fld_at es_OFFSET_FETCH).symm.trans (own_eqI hj29))
  have F_OFFSET_FETCH_highestVersion := Fld.start ((fld_at es_OFFSET_FETCH).symm.trans (own_eqI hj53))
  obtain ⟨s_FIND_COORDINATOR, es_FIND_COORDINATOR⟩ := exa_v hj33
  have E_FIND_COORDINATOR := Exa.start es_FIND_COORDINATOR hj33
  have S_FIND_COORDINATOR := Sta.start es_FIND_COORDINATOR (Or.inr ⟨(hw _ (List.mem_of_getElem? (i := 12) rfl)), (hw _ (List.mem_of_getElem? (i := 34) rfl))⟩)
  have F_FIND_COORDINATOR_lowestVersion := Fld.start ((fld_at es_FIND_COORDINATOR).symm.trans (own_eqI hj35))
  have F_FIND_COORDINATOR_highestVersion := Fld.start ((fld_at es_FIND_COORDINATOR).symm.trans (own_eqI hj37))
  obtain ⟨s_JOIN_GROUP, es_JOIN_GROUP⟩ := exa_v hj13
  have E_JOIN_GROUP := Exa.start es_JOIN_GROUP hj13
  have S_JOIN_GROUP := Sta.start es_JOIN_GROUP (Or.inr ⟨(hw _ (List.mem_of_getElem? (i := 12) rfl)), (hw _ (List.mem_of_getElem? (i := 26) rfl))⟩)
  have F_JOIN_GROUP_lowestVersion := Fld.start ((fld_at es_JOIN_GROUP).symm.trans (own_eqI hj15))
  have F_JOIN_GROUP_highestVersion := Fld.start ((fld_at es_JOIN_GROUP).symm.trans (own_eqI hj17))
  obtain ⟨s_HEARTBEAT, es_HEARTBEAT⟩ := exa_v hj65
  have E_HEARTBEAT := Exa.start es_HEARTBEAT hj65
  have S_HEARTBEAT := Sta.start es_HEARTBEAT (Or.inr ⟨(hw _ (List.mem_of_getElem? (i := 12) rfl)), (hw _ (List.mem_of_getElem? (i := 46) rfl))⟩)
  have F_HEARTBEAT_lowestVersion := Fld.start ((fld_at es_HEARTBEAT).symm.trans (own_eqI hj67))
  have F_HEARTBEAT_highestVersion := Fld.start ((fld_at es_HEARTBEAT).symm.trans (own_eqI hj69))
  obtain ⟨s_LEAVE_GROUP, es_LEAVE_GROUP⟩ := exa_v hj79
  have E_LEAVE_GROUP := Exa.start es_LEAVE_GROUP hj79
  have S_LEAVE_GROUP := Sta.start es_LEAVE_GROUP (Or.inr ⟨(hw _ (List.mem_of_getElem? (i := 12) rfl)), (hw _ (List.mem_of_getElem? (i := 50) rfl))⟩)
  have F_LEAVE_GROUP_lowestVersion := Fld.start ((fld_at es_LEAVE_GROUP).symm.trans (own_eqI hj81))
  have F_LEAVE_GROUP_highestVersion := Fld.start ((fld_at es_LEAVE_GROUP).symm.trans (own_eqI hj83))
  obtain ⟨s_SYNC_GROUP, es_SYNC_GROUP⟩ := exa_v hj59
  have E_SYNC_GROUP := Exa.start es_SYNC_GROUP hj59
  have S_SYNC_GROUP := Sta.start es_SYNC_GROUP (Or.inr ⟨(hw _ (List.mem_of_getElem? (i := 12) rfl)), (hw _ (List.mem_of_getElem? (i := 44) rfl))⟩)
  have F_SYNC_GROUP_lowestVersion := Fld.start ((fld_at es_SYNC_GROUP).symm.trans (own_eqI hj61))
  have F_SYNC_GROUP_highestVersion := Fld.start ((fld_at es_SYNC_GROUP).symm.trans (own_eqI hj94))
  obtain ⟨s_DESCRIBE_GROUPS, es_DESCRIBE_GROUPS⟩ := exa_v hj23
  have E_DESCRIBE_GROUPS := Exa.start es_DESCRIBE_GROUPS hj23
  have S_DESCRIBE_GROUPS := Sta.start es_DESCRIBE_GROUPS (Or.inr ⟨(hw _ (List.mem_of_getElem? (i := 12) rfl)), (hw _ (List.mem_of_getElem? (i := 30) rfl))⟩)
  have F_DESCRIBE_GROUPS_lowestVersion := Fld.start ((fld_at es_DESCRIBE_GROUPS).symm.trans (own_eqI hj25))
  have F_DESCRIBE_GROUPS_highestVersion := Fld.start ((fld_at es_DESCRIBE_GROUPS).symm.trans (own_eqI hj31))
  obtain ⟨s_LIST_GROUPS, es_LIST_GROUPS⟩ := exa_v hj55
  have E_LIST_GROUPS := Exa.start es_LIST_GROUPS hj55
  have S_LIST_GROUPS := Sta.start es_LIST_GROUPS (Or.inr ⟨(hw _ (List.mem_of_getElem? (i := 12) rfl)), (hw _ (List.mem_of_getElem? (i := 42) rfl))⟩)
  have F_LIST_GROUPS_lowestVersion := Fld.start ((fld_at es_LIST_GROUPS).symm.trans (own_eqI hj57))
  have F_LIST_GROUPS_highestVersion := Fld.start ((fld_at es_LIST_GROUPS).symm.trans (own_eqI hj85))
  obtain ⟨s_API_VERSIONS, es_API_VERSIONS⟩ := exa_v hj39
  have E_API_VERSIONS := Exa.start es_API_VERSIONS hj39
  have S_API_VERSIONS := Sta.start es_API_VERSIONS (Or.inr ⟨(hw _ (List.mem_of_getElem? (i := 12) rfl)), (hw _ (List.mem_of_getElem? (i := 36) rfl))⟩)
  have F_API_VERSIONS_lowestVersion := Fld.start ((fld_at es_API_VERSIONS).symm.trans (own_eqI hj41))
  have F_API_VERSIONS_highestVersion := Fld.start ((fld_at es_API_VERSIONS).symm.trans (own_eqI hj43))
  obtain ⟨s_CREATE_PARTITIONS, es_CREATE_PARTITIONS⟩ := exa_v hj49
  have E_CREATE_PARTITIONS := Exa.start es_CREATE_PARTITIONS hj49
  have S_CREATE_PARTITIONS := Sta.start es_CREATE_PARTITIONS (Or.inr ⟨(hw _ (List.mem_of_getElem? (i := 12) rfl)), (hw _ (List.mem_of_getElem? (i := 40) rfl))⟩)
  have F_CREATE_PARTITIONS_lowestVersion := Fld.start ((fld_at es_CREATE_PARTITIONS).symm.trans (own_eqI hj51))
  have F_CREATE_PARTITIONS_highestVersion := Fld.start ((fld_at es_CREATE_PARTITIONS).symm.trans (own_eqI hj63))
  obtain ⟨s_DELETE_GROUPS, es_DELETE_GROUPS⟩ := exa_v hj89
  have E_DELETE_GROUPS := Exa.start es_DELETE_GROUPS hj89
  have S_DELETE_GROUPS := Sta.start es_DELETE_GROUPS (Or.inr ⟨(hw _ (List.mem_of_getElem? (i := 12) rfl)), (hw _ (List.mem_of_getElem? (i := 52) rfl))⟩)
  have F_DELETE_GROUPS_lowestVersion := Fld.start ((fld_at es_DELETE_GROUPS).symm.trans (own_eqI hj91))
  have F_DELETE_GROUPS_highestVersion := Fld.start ((fld_at es_DELETE_GROUPS).symm.trans (own_eqI hj93))
  obtain ⟨s_OFFSET_DELETE, es_OFFSET_DELETE⟩ := exa_v hj45
  have E_OFFSET_DELETE := Exa.start es_OFFSET_DELETE hj45
  have S_OFFSET_DELETE := Sta.start es_OFFSET_DELETE (Or.inr ⟨(hw _ (List.mem_of_getElem? (i := 12) rfl)), (hw _ (List.mem_of_getElem? (i := 38) rfl))⟩)
  have F_OFFSET_DELETE_lowestVersion := Fld.start ((fld_at es_OFFSET_DELETE).symm.trans (own_eqI hj47))
  have F_OFFSET_DELETE_highestVersion := Fld.start ((fld_at es_OFFSET_DELETE).symm.trans (own_eqI hj77))
  obtain ⟨s_CONSUMER_GROUP_HEARTBEAT, es_CONSUMER_GROUP_HEARTBEAT⟩ := exa_v hj71
  have E_CONSUMER_GROUP_HEARTBEAT := Exa.start es_CONSUMER_GROUP_HEARTBEAT hj71
  have S_CONSUMER_GROUP_HEARTBEAT := Sta.start es_CONSUMER_GROUP_HEARTBEAT (Or.inr ⟨(hw _ (List.mem_of_getElem? (i := 12) rfl)), (hw _ (List.mem_of_getElem? (i := 48) rfl))⟩)
  have F_CONSUMER_GROUP_HEARTBEAT_lowestVersion := Fld.start ((fld_at es_CONSUMER_GROUP_HEARTBEAT).symm.trans (own_eqI hj73))
  have F_CONSUMER_GROUP_HEARTBEAT_highestVersion := Fld.start ((fld_at es_CONSUMER_GROUP_HEARTBEAT).symm.trans (own_eqI hj75))
  obtain ⟨s_CONSUMER_GROUP_DESCRIBE, es_CONSUMER_GROUP_DESCRIBE⟩ := exa_v hj19
  have E_CONSUMER_GROUP_DESCRIBE := Exa.start es_CONSUMER_GROUP_DESCRIBE hj19
  have S_CONSUMER_GROUP_DESCRIBE := Sta.start es_CONSUMER_GROUP_DESCRIBE (Or.inr ⟨(hw _ (List.mem_of_getElem? (i := 12) rfl)), (hw _ (List.mem_of_getElem? (i := 28) rfl))⟩)
  have F_CONSUMER_GROUP_DESCRIBE_lowestVersion := Fld.start ((fld_at es_CONSUMER_GROUP_DESCRIBE).symm.trans (own_eqI hj21))
  have F_CONSUMER_GROUP_DESCRIBE_highestVersion := Fld.start ((fld_at es_CONSUMER_GROUP_DESCRIBE).symm.trans (own_eqI hj87))
  obtain ⟨n, o, h1, h2, h3, _, L, rfl, ⟨rfl, N⟩, hq⟩ := rm0 l s _ hw tables_1 i0 i1 i2 s_METADATA s_OFFSET_COMMIT s_OFFSET_FETCH s_FIND_COORDINATOR s_JOIN_GROUP s_HEARTBEAT s_LEAVE_GROUP s_SYNC_GROUP s_DESCRIBE_GROUPS s_LIST_GROUPS s_API_VERSIONS s_CREATE_PARTITIONS s_DELETE_GROUPS s_OFFSET_DELETE s_CONSUMER_GROUP_HEARTBEAT s_CONSUMER_GROUP_DESCRIBE s.heap s.heap.size (Nat.le_refl _) S_METADATA S_OFFSET_COMMIT S_OFFSET_FETCH S_FIND_COORDINATOR S_JOIN_GROUP S_HEARTBEAT S_LEAVE_GROUP S_SYNC_GROUP S_DESCRIBE_GROUPS S_LIST_GROUPS S_API_VERSIONS S_CREATE_PARTITIONS S_DELETE_GROUPS S_OFFSET_DELETE S_CONSUMER_GROUP_HEARTBEAT S_CONSUMER_GROUP_DESCRIBE ⟨E_METADATA, F_METADATA_lowestVersion, F_METADATA_highestVersion⟩ ⟨E_OFFSET_COMMIT, F_OFFSET_COMMIT_lowestVersion, F_OFFSET_COMMIT_highestVersion⟩ ⟨E_OFFSET_FETCH, F_OFFSET_FETCH_lowestVersion, F_OFFSET_FETCH_highestVersion⟩ ⟨E_FIND_COORDINATOR, F_FIND_COORDINATOR_lowestVersion, F_FIND_COORDINATOR_highestVersion⟩ ⟨E_JOIN_GROUP, F_JOIN_GROUP_lowestVersion, F_JOIN_GROUP_highestVersion⟩ ⟨E_HEARTBEAT, F_HEARTBEAT_lowestVersion, F_HEARTBEAT_highestVersion⟩ ⟨E_LEAVE_GROUP, F_LEAVE_GROUP_lowestVersion, F_LEAVE_GROUP_highestVersion⟩ ⟨E_SYNC_GROUP, F_SYNC_GROUP_lowestVersion, F_SYNC_GROUP_highestVersion⟩ ⟨E_DESCRIBE_GROUPS, F_DESCRIBE_GROUPS_lowestVersion, F_DESCRIBE_GROUPS_highestVersion⟩ ⟨E_LIST_GROUPS, F_LIST_GROUPS_lowestVersion, F_LIST_GROUPS_highestVersion⟩ ⟨E_API_VERSIONS, F_API_VERSIONS_lowestVersion, F_API_VERSIONS_highestVersion⟩ ⟨E_CREATE_PARTITIONS, F_CREATE_PARTITIONS_lowestVersion, F_CREATE_PARTITIONS_highestVersion⟩ ⟨E_DELETE_GROUPS, F_DELETE_GROUPS_lowestVersion, F_DELETE_GROUPS_highestVersion⟩ ⟨E_OFFSET_DELETE, F_OFFSET_DELETE_lowestVersion, F_OFFSET_DELETE_highestVersion⟩ ⟨E_CONSUMER_GROUP_HEARTBEAT, F_CONSUMER_GROUP_HEARTBEAT_lowestVersion, F_CONSUMER_GROUP_HEARTBEAT_highestVersion⟩ ⟨E_CONSUMER_GROUP_DESCRIBE, F_CONSUMER_GROUP_DESCRIBE_lowestVersion, F_CONSUMER_GROUP_DESCRIBE_highestVersion⟩ p e ha hc hk s m _ below hf ((Spec.applies_iff_loose hf).mp happ).1 ⟨rfl, State.Warmed39.refl s, rfl⟩ trivial
  refine ⟨n, _, h1, h2, h3, hpost _ _ _ _ _ _ ⟨Cond.after_iff.mpr rfl, Cond.after_iff.mpr (eq_i res_at (Term.int_eval (1)) (by rw [own_law])), trivial⟩ ⟨hq.1, hq.2.1, (hq.2.2.sift fun y hy => Or.inr (N y hy)).mono (by decide) (by decide)⟩⟩
theorem main_1_1 : Claimed_1_1 := comes_1 fun _ _ _ _ _ _ h hF => ⟨h.1, hF⟩
theorem main_1_2 : Claimed_1_2 := comes_1 fun _ _ _ _ _ _ h hF => ⟨h.2.1, hF⟩
end Jvm.Pilot.@@N@@
namespace Jvm.Pilot.@@N@@
open Jvm Jvm.ClassFile Sem Op Lib Jvm.Free Jvm.Stand Jvm.Pilot.@@N@@.Jvm.D
/-! MADE BY PROGRAM (witnessworld.py) out of the Statement's table words and the real class files: 12 classes; the members and pool entries that the words name. The judged class is class 1, her method 4. -/
namespace start1
open Jvm.ClassFile
def u (s : String) : CpInfo := .utf8 (stringToUtf16 s)
/-- a pool by its gaps: so many unusable entries, then the entry; so many at the end -/
def gap : Nat → List CpInfo → List CpInfo
  | 0, r => r
  | n + 1, r => .unusable :: gap n r
def poolList (es : List (Nat × CpInfo)) (last : Nat) : List CpInfo := es.foldr (fun e r => gap e.1 (e.2 :: r)) (gap last [])
def pool (es : List (Nat × CpInfo)) (last : Nat) : Array CpInfo := ⟨poolList es last⟩
def fileOf (pool : Array CpInfo) (this : Nat) (attrs : Array Attribute := #[]) (ms : Array MethodInfo := #[]) (fl : Nat := 33) (sup : Nat := 0) (ifs : Array Nat := #[]) (fds : Array FieldInfo := #[]) : ClassFile where
  minorVersion := 0
  majorVersion := 65
  constantPool := pool
  accessFlags := fl
  thisClass := this
  superClass := sup
  interfaces := ifs
  fields := fds
  methods := ms
  attributes := attrs
def plain (name : String) (sup : Option ClassId) : Class where
  name := name
  kind := .ordinary
  loader := none
  accessFlags := 33
  super := sup
  interfaces := #[]
  cf := none
  fields := #[]
  methods := #[]
  instanceTypes := #[]
  staticTypes := #[]
  resolved := #[]
  callSites := []
  init := .initialized
  statics := none
  mirror := none

def pool0 : Array CpInfo := pool [(5, u "<init>"), (0, u "()V"), (1, .class_ 10), (1, u "java/lang/Object")] 113

def k0m0 : Method := { name := "<init>", desc := "()V", sig := { parameters := [], returnType := none }, accessFlags := 1, code := none }
/-- java/lang/Object -/
def k0 : Class := { plain "java/lang/Object" none with
  accessFlags := 33
  interfaces := #[]
  cf := some (fileOf pool0 8 #[] #[{ accessFlags := 1, nameIndex := 5, descriptorIndex := 6, attributes := #[] }] 33 0 #[] #[])
  fields := #[]
  methods := #[k0m0]
  instanceTypes := #[]
  staticTypes := #[]
  resolved := Array.replicate 124 none
  statics := none }

def pool1 : Array CpInfo := pool [(2, .class_ 4), (1, u "java/lang/Object"), (0, u "<init>"), (0, u "()V"), (0, .fieldref 8 9), (0, .class_ 10), (0, .nameAndType 11 12), (0, u "com/example/incarico/incarico/protocol/ApiKey"), (0, u "METADATA"), (0, u "Lcom/example/incarico/incarico/protocol/ApiKey;"), (0, .fieldref 8 14), (0, .nameAndType 15 12), (0, u "OFFSET_COMMIT"), (0, .fieldref 8 17), (0, .nameAndType 18 12), (0, u "OFFSET_FETCH"), (0, .fieldref 8 20), (0, .nameAndType 21 12), (0, u "FIND_COORDINATOR"), (0, .fieldref 8 23), (0, .nameAndType 24 12), (0, u "JOIN_GROUP"), (0, .fieldref 8 26), (0, .nameAndType 27 12), (0, u "HEARTBEAT"), (0, .fieldref 8 29), (0, .nameAndType 30 12), (0, u "LEAVE_GROUP"), (0, .fieldref 8 32), (0, .nameAndType 33 12), (0, u "SYNC_GROUP"), (0, .fieldref 8 35), (0, .nameAndType 36 12), (0, u "DESCRIBE_GROUPS"), (0, .fieldref 8 38), (0, .nameAndType 39 12), (0, u "LIST_GROUPS"), (0, .fieldref 8 41), (0, .nameAndType 42 12), (0, u "API_VERSIONS"), (0, .fieldref 8 44), (0, .nameAndType 45 12), (0, u "CREATE_PARTITIONS"), (0, .fieldref 8 47), (0, .nameAndType 48 12), (0, u "DELETE_GROUPS"), (0, .fieldref 8 50), (0, .nameAndType 51 12), (0, u "OFFSET_DELETE"), (0, .fieldref 8 53), (0, .nameAndType 54 12), (0, u "CONSUMER_GROUP_HEARTBEAT"), (0, .fieldref 8 56), (0, .nameAndType 57 12), (0, u "CONSUMER_GROUP_DESCRIBE"), (0, .integer 2147483647), (0, .methodref 60 61), (0, .class_ 62), (0, .nameAndType 63 64), (0, u "com/example/incarico/incarico/protocol/ApiKeySupportsPinLaw"), (0, u "lowOf"), (0, u "(I)I"), (0, .methodref 60 66), (0, .nameAndType 67 64), (0, u "highOf"), (0, .methodref 60 69), (0, .nameAndType 70 71), (0, u "pick"), (0, u "(I)Lcom/example/incarico/incarico/protocol/ApiKey;"), (0, .methodref 8 73), (0, .nameAndType 74 75), (0, u "supports"), (0, u "(S)Z"), (3, u "law"), (0, u "(III)Z")] 2

def k1m0 : Method := { name := "<init>", desc := "()V", sig := { parameters := [], returnType := none }, accessFlags := 1, code := none }
def k1c1 : Code := { maxStack := 2, maxLocals := 1, code := method_2_code, exceptionTable := #[], attributes := #[] }
def k1m1 : Method := { name := "pick", desc := "(I)Lcom/example/incarico/incarico/protocol/ApiKey;", sig := { parameters := [.int], returnType := some (.object "com/example/incarico/incarico/protocol/ApiKey") }, accessFlags := 10, code := some k1c1 }
def k1c2 : Code := { maxStack := 2, maxLocals := 1, code := method_3_code, exceptionTable := #[], attributes := #[] }
def k1m2 : Method := { name := "lowOf", desc := "(I)I", sig := { parameters := [.int], returnType := some .int }, accessFlags := 10, code := some k1c2 }
def k1c3 : Code := { maxStack := 2, maxLocals := 1, code := method_4_code, exceptionTable := #[], attributes := #[] }
def k1m3 : Method := { name := "highOf", desc := "(I)I", sig := { parameters := [.int], returnType := some .int }, accessFlags := 10, code := some k1c3 }
def k1c4 : Code := { maxStack := 2, maxLocals := 10, code := code, exceptionTable := #[], attributes := #[] }
def k1m4 : Method := { name := "law", desc := "(III)Z", sig := { parameters := [.int, .int, .int], returnType := some .boolean }, accessFlags := 9, code := some k1c4 }
/-- com/example/incarico/incarico/protocol/ApiKeySupportsPinLaw -/
def k1 : Class := { plain "com/example/incarico/incarico/protocol/ApiKeySupportsPinLaw" (some 0) with
  accessFlags := 49
  interfaces := #[]
  cf := some (fileOf pool1 60 #[] #[{ accessFlags := 1, nameIndex := 5, descriptorIndex := 6, attributes := #[] }, { accessFlags := 10, nameIndex := 70, descriptorIndex := 71, attributes := #[] }, { accessFlags := 10, nameIndex := 63, descriptorIndex := 64, attributes := #[] }, { accessFlags := 10, nameIndex := 67, descriptorIndex := 64, attributes := #[] }, { accessFlags := 9, nameIndex := 79, descriptorIndex := 80, attributes := #[] }] 49 2 #[] #[])
  fields := #[]
  methods := #[k1m0, k1m1, k1m2, k1m3, k1m4]
  instanceTypes := #[]
  staticTypes := #[]
  resolved := Array.replicate 83 none
  statics := none }

def pool2 : Array CpInfo := pool [(1, .class_ 2), (0, u "java/lang/constant/Constable"), (0, .class_ 4), (0, u "java/lang/Object")] 6

/-- java/lang/constant/Constable -/
def k2 : Class := { plain "java/lang/constant/Constable" (some 0) with
  accessFlags := 1537
  interfaces := #[]
  cf := some (fileOf pool2 1 #[] #[] 1537 3 #[] #[])
  fields := #[]
  methods := #[]
  instanceTypes := #[]
  staticTypes := #[]
  resolved := Array.replicate 11 none
  statics := none }

def pool3 : Array CpInfo := pool [(1, .class_ 2), (0, u "java/lang/Comparable"), (0, .class_ 4), (0, u "java/lang/Object")] 7

/-- java/lang/Comparable -/
def k3 : Class := { plain "java/lang/Comparable" (some 0) with
  accessFlags := 1537
  interfaces := #[]
  cf := some (fileOf pool3 1 #[] #[] 1537 3 #[] #[])
  fields := #[]
  methods := #[]
  instanceTypes := #[]
  staticTypes := #[]
  resolved := Array.replicate 12 none
  statics := none }

def pool4 : Array CpInfo := pool [(1, .class_ 2), (0, u "java/io/Serializable"), (0, .class_ 4), (0, u "java/lang/Object")] 2

/-- java/io/Serializable -/
def k4 : Class := { plain "java/io/Serializable" (some 0) with
  accessFlags := 1537
  interfaces := #[]
  cf := some (fileOf pool4 1 #[] #[] 1537 3 #[] #[])
  fields := #[]
  methods := #[]
  instanceTypes := #[]
  staticTypes := #[]
  resolved := Array.replicate 7 none
  statics := none }

def pool5 : Array CpInfo := pool [(2, .class_ 4), (1, u "java/lang/Enum"), (0, u "name"), (0, u "Ljava/lang/String;"), (2, u "ordinal"), (0, u "I"), (1, .class_ 14), (1, u "java/lang/Object"), (4, u "hash"), (86, .class_ 108), (1, u "java/lang/Enum$EnumDesc"), (2, .class_ 112), (0, u "java/lang/constant/Constable"), (0, .class_ 114), (0, u "java/lang/Comparable"), (0, .class_ 116), (0, u "java/io/Serializable")] 87

/-- java/lang/Enum -/
def k5 : Class := { plain "java/lang/Enum" (some 0) with
  accessFlags := 1057
  interfaces := #[2, 3, 4]
  cf := some (fileOf pool5 2 #[.nestMembers #[106]] #[] 1057 12 #[111, 113, 115] #[{ accessFlags := 18, nameIndex := 5, descriptorIndex := 6, attributes := #[] }, { accessFlags := 18, nameIndex := 9, descriptorIndex := 10, attributes := #[] }, { accessFlags := 2, nameIndex := 19, descriptorIndex := 10, attributes := #[] }])
  fields := #[{ name := "name", type := (.object "java/lang/String"), accessFlags := 18, slot := 0, constantValue := 0 }, { name := "ordinal", type := .int, accessFlags := 18, slot := 1, constantValue := 0 }, { name := "hash", type := .int, accessFlags := 2, slot := 2, constantValue := 0 }]
  methods := #[]
  instanceTypes := #[(.object "java/lang/String"), .int, .int]
  staticTypes := #[]
  resolved := Array.replicate 204 none
  statics := none }

def pool6 : Array CpInfo := pool [(1, .class_ 2), (0, u "com/example/incarico/incarico/protocol/ApiKey"), (2, u "METADATA"), (0, u "Lcom/example/incarico/incarico/protocol/ApiKey;"), (2, u "OFFSET_COMMIT"), (2, u "OFFSET_FETCH"), (2, u "FIND_COORDINATOR"), (2, u "JOIN_GROUP"), (2, u "HEARTBEAT"), (2, u "LEAVE_GROUP"), (2, u "SYNC_GROUP"), (2, u "DESCRIBE_GROUPS"), (2, u "LIST_GROUPS"), (2, u "API_VERSIONS"), (2, u "CREATE_PARTITIONS"), (2, u "DELETE_GROUPS"), (2, u "OFFSET_DELETE"), (2, u "CONSUMER_GROUP_HEARTBEAT"), (2, u "CONSUMER_GROUP_DESCRIBE"), (2, u "$VALUES"), (0, u "[Lcom/example/incarico/incarico/protocol/ApiKey;"), (6, .class_ 64), (1, u "java/lang/Enum"), (8, u "id"), (0, u "S"), (0, .fieldref 1 76), (0, .nameAndType 77 74), (0, u "lowestVersion"), (0, .fieldref 1 79), (0, .nameAndType 80 74), (0, u "highestVersion"), (2, u "firstFlexibleVersion"), (7, u "(S)Z"), (34, u "supports")] 6

def k6c0 : Code := { maxStack := 2, maxLocals := 2, code := prog_108_method_8_code, exceptionTable := #[], attributes := #[] }
def k6m0 : Method := { name := "supports", desc := "(S)Z", sig := { parameters := [.short], returnType := some .boolean }, accessFlags := 1, code := some k6c0 }
/-- com/example/incarico/incarico/protocol/ApiKey -/
def k6 : Class := { plain "com/example/incarico/incarico/protocol/ApiKey" (some 5) with
  accessFlags := 16433
  interfaces := #[]
  cf := some (fileOf pool6 1 #[] #[{ accessFlags := 1, nameIndex := 126, descriptorIndex := 91, attributes := #[] }] 16433 62 #[] #[{ accessFlags := 16409, nameIndex := 5, descriptorIndex := 6, attributes := #[] }, { accessFlags := 16409, nameIndex := 9, descriptorIndex := 6, attributes := #[] }, { accessFlags := 16409, nameIndex := 12, descriptorIndex := 6, attributes := #[] }, { accessFlags := 16409, nameIndex := 15, descriptorIndex := 6, attributes := #[] }, { accessFlags := 16409, nameIndex := 18, descriptorIndex := 6, attributes := #[] }, { accessFlags := 16409, nameIndex := 21, descriptorIndex := 6, attributes := #[] }, { accessFlags := 16409, nameIndex := 24, descriptorIndex := 6, attributes := #[] }, { accessFlags := 16409, nameIndex := 27, descriptorIndex := 6, attributes := #[] }, { accessFlags := 16409, nameIndex := 30, descriptorIndex := 6, attributes := #[] }, { accessFlags := 16409, nameIndex := 33, descriptorIndex := 6, attributes := #[] }, { accessFlags := 16409, nameIndex := 36, descriptorIndex := 6, attributes := #[] }, { accessFlags := 16409, nameIndex := 39, descriptorIndex := 6, attributes := #[] }, { accessFlags := 16409, nameIndex := 42, descriptorIndex := 6, attributes := #[] }, { accessFlags := 16409, nameIndex := 45, descriptorIndex := 6, attributes := #[] }, { accessFlags := 16409, nameIndex := 48, descriptorIndex := 6, attributes := #[] }, { accessFlags := 16409, nameIndex := 51, descriptorIndex := 6, attributes := #[] }, { accessFlags := 18, nameIndex := 73, descriptorIndex := 74, attributes := #[] }, { accessFlags := 18, nameIndex := 77, descriptorIndex := 74, attributes := #[] }, { accessFlags := 18, nameIndex := 80, descriptorIndex := 74, attributes := #[] }, { accessFlags := 18, nameIndex := 83, descriptorIndex := 74, attributes := #[] }, { accessFlags := 4122, nameIndex := 54, descriptorIndex := 55, attributes := #[] }])
  fields := #[{ name := "METADATA", type := (.object "com/example/incarico/incarico/protocol/ApiKey"), accessFlags := 16409, slot := 0, constantValue := 0 }, { name := "OFFSET_COMMIT", type := (.object "com/example/incarico/incarico/protocol/ApiKey"), accessFlags := 16409, slot := 1, constantValue := 0 }, { name := "OFFSET_FETCH", type := (.object "com/example/incarico/incarico/protocol/ApiKey"), accessFlags := 16409, slot := 2, constantValue := 0 }, { name := "FIND_COORDINATOR", type := (.object "com/example/incarico/incarico/protocol/ApiKey"), accessFlags := 16409, slot := 3, constantValue := 0 }, { name := "JOIN_GROUP", type := (.object "com/example/incarico/incarico/protocol/ApiKey"), accessFlags := 16409, slot := 4, constantValue := 0 }, { name := "HEARTBEAT", type := (.object "com/example/incarico/incarico/protocol/ApiKey"), accessFlags := 16409, slot := 5, constantValue := 0 }, { name := "LEAVE_GROUP", type := (.object "com/example/incarico/incarico/protocol/ApiKey"), accessFlags := 16409, slot := 6, constantValue := 0 }, { name := "SYNC_GROUP", type := (.object "com/example/incarico/incarico/protocol/ApiKey"), accessFlags := 16409, slot := 7, constantValue := 0 }, { name := "DESCRIBE_GROUPS", type := (.object "com/example/incarico/incarico/protocol/ApiKey"), accessFlags := 16409, slot := 8, constantValue := 0 }, { name := "LIST_GROUPS", type := (.object "com/example/incarico/incarico/protocol/ApiKey"), accessFlags := 16409, slot := 9, constantValue := 0 }, { name := "API_VERSIONS", type := (.object "com/example/incarico/incarico/protocol/ApiKey"), accessFlags := 16409, slot := 10, constantValue := 0 }, { name := "CREATE_PARTITIONS", type := (.object "com/example/incarico/incarico/protocol/ApiKey"), accessFlags := 16409, slot := 11, constantValue := 0 }, { name := "DELETE_GROUPS", type := (.object "com/example/incarico/incarico/protocol/ApiKey"), accessFlags := 16409, slot := 12, constantValue := 0 }, { name := "OFFSET_DELETE", type := (.object "com/example/incarico/incarico/protocol/ApiKey"), accessFlags := 16409, slot := 13, constantValue := 0 }, { name := "CONSUMER_GROUP_HEARTBEAT", type := (.object "com/example/incarico/incarico/protocol/ApiKey"), accessFlags := 16409, slot := 14, constantValue := 0 }, { name := "CONSUMER_GROUP_DESCRIBE", type := (.object "com/example/incarico/incarico/protocol/ApiKey"), accessFlags := 16409, slot := 15, constantValue := 0 }, { name := "id", type := .short, accessFlags := 18, slot := 3, constantValue := 0 }, { name := "lowestVersion", type := .short, accessFlags := 18, slot := 4, constantValue := 0 }, { name := "highestVersion", type := .short, accessFlags := 18, slot := 5, constantValue := 0 }, { name := "firstFlexibleVersion", type := .short, accessFlags := 18, slot := 6, constantValue := 0 }, { name := "$VALUES", type := (.array (.object "com/example/incarico/incarico/protocol/ApiKey")), accessFlags := 4122, slot := 16, constantValue := 0 }]
  methods := #[k6m0]
  instanceTypes := #[(.object "java/lang/String"), .int, .int, .short, .short, .short, .short]
  staticTypes := #[(.object "com/example/incarico/incarico/protocol/ApiKey"), (.object "com/example/incarico/incarico/protocol/ApiKey"), (.object "com/example/incarico/incarico/protocol/ApiKey"), (.object "com/example/incarico/incarico/protocol/ApiKey"), (.object "com/example/incarico/incarico/protocol/ApiKey"), (.object "com/example/incarico/incarico/protocol/ApiKey"), (.object "com/example/incarico/incarico/protocol/ApiKey"), (.object "com/example/incarico/incarico/protocol/ApiKey"), (.object "com/example/incarico/incarico/protocol/ApiKey"), (.object "com/example/incarico/incarico/protocol/ApiKey"), (.object "com/example/incarico/incarico/protocol/ApiKey"), (.object "com/example/incarico/incarico/protocol/ApiKey"), (.object "com/example/incarico/incarico/protocol/ApiKey"), (.object "com/example/incarico/incarico/protocol/ApiKey"), (.object "com/example/incarico/incarico/protocol/ApiKey"), (.object "com/example/incarico/incarico/protocol/ApiKey"), (.array (.object "com/example/incarico/incarico/protocol/ApiKey"))]
  resolved := Array.replicate 133 none
  statics := some 0 }

def pool7 : Array CpInfo := pool [(1, u "java/lang/Cloneable"), (0, .class_ 1), (0, u "java/lang/Object"), (0, .class_ 3)] 3

/-- java/lang/Cloneable -/
def k7 : Class := { plain "java/lang/Cloneable" (some 0) with
  accessFlags := 1537
  interfaces := #[]
  cf := some (fileOf pool7 2 #[] #[] 1537 4 #[] #[])
  fields := #[]
  methods := #[]
  instanceTypes := #[]
  staticTypes := #[]
  resolved := Array.replicate 8 none
  statics := none }

/-- the primitive byte -/
def k8 : Class := { plain "byte" none with kind := .primitive 'B', accessFlags := 0x411 }
/-- [B -/
def k9 : Class := { plain "[B" (some 0) with kind := .array 8 .byte, interfaces := #[7, 4], accessFlags := 1041 }

/-- the primitive int -/
def k10 : Class := { plain "int" none with kind := .primitive 'I', accessFlags := 0x411 }
/-- [I -/
def k11 : Class := { plain "[I" (some 0) with kind := .array 10 .int, interfaces := #[7, 4], accessFlags := 1041 }

def heap : Heap := #[{ cls := 6, slots := #[.ref 1, .ref 2, .ref 3, .ref 4, .ref 5, .ref 6, .ref 7, .ref 8, .ref 9, .ref 10, .ref 11, .ref 12, .ref 13, .ref 14, .ref 15, .ref 16, .null], vm := .statics 6 },
  { cls := 6, slots := #[.null, .int 0, .int 0, .int 0, .int 1, .int 13, .int 0], vm := .none },
  { cls := 6, slots := #[.null, .int 0, .int 0, .int 0, .int 2, .int 10, .int 0], vm := .none },
  { cls := 6, slots := #[.null, .int 0, .int 0, .int 0, .int 1, .int 10, .int 0], vm := .none },
  { cls := 6, slots := #[.null, .int 0, .int 0, .int 0, .int 0, .int 6, .int 0], vm := .none },
  { cls := 6, slots := #[.null, .int 0, .int 0, .int 0, .int 0, .int 9, .int 0], vm := .none },
  { cls := 6, slots := #[.null, .int 0, .int 0, .int 0, .int 0, .int 4, .int 0], vm := .none },
  { cls := 6, slots := #[.null, .int 0, .int 0, .int 0, .int 0, .int 5, .int 0], vm := .none },
  { cls := 6, slots := #[.null, .int 0, .int 0, .int 0, .int 0, .int 5, .int 0], vm := .none },
  { cls := 6, slots := #[.null, .int 0, .int 0, .int 0, .int 0, .int 6, .int 0], vm := .none },
  { cls := 6, slots := #[.null, .int 0, .int 0, .int 0, .int 0, .int 5, .int 0], vm := .none },
  { cls := 6, slots := #[.null, .int 0, .int 0, .int 0, .int 0, .int 4, .int 0], vm := .none },
  { cls := 6, slots := #[.null, .int 0, .int 0, .int 0, .int 0, .int 3, .int 0], vm := .none },
  { cls := 6, slots := #[.null, .int 0, .int 0, .int 0, .int 0, .int 2, .int 0], vm := .none },
  { cls := 6, slots := #[.null, .int 0, .int 0, .int 0, .int 0, .int 0, .int 0], vm := .none },
  { cls := 6, slots := #[.null, .int 0, .int 0, .int 0, .int 0, .int 1, .int 0], vm := .none },
  { cls := 6, slots := #[.null, .int 0, .int 0, .int 0, .int 0, .int 1, .int 0], vm := .none }]
def classes : Array Class := #[k0, k1, k2, k3, k4, k5, k6, k7, k8, k9, k10, k11]
def interned : List (Array UInt16 × Addr) := []
def slotsUsed : Nat := 129
def theMethod : MethodId := ⟨1, 4⟩
def args0 : Array Value := #[.int 5, .int 7, .int 3]
def aboutOver (below : List Frame) : State where
  vm := { classes := classes, interned := interned.toArray }
  heap := heap
  slotsUsed := slotsUsed
  threads := #[{ frames := .invoking theMethod args0 :: below }]
def below0 : List Frame := [.native { method := ⟨0, 0⟩, args := #[] }]
def about1 : State := aboutOver below0
def p0 : Program := .bare "" "" ""
def e0 : Env := launch0.env 0 0 0
theorem w_frames : about1.frames = Frame.invoking theMethod args0 :: below0 := rfl
set_option maxRecDepth 65536 in
theorem w_args : argsFit about1.vm theMethod args0 = true := by decide +kernel
set_option maxRecDepth 65536 in
theorem w_heap : heapFits about1 = true := by decide +kernel
set_option maxRecDepth 65536 in
theorem w_runnable : about1.curStatus? = some .runnable := by decide +kernel
set_option maxRecDepth 65536 in
theorem w_alone : about1.alone = true := by decide +kernel
set_option maxRecDepth 65536 in
theorem w_named : about1.methodNamed? x = some theMethod := by decide +kernel
set_option maxRecDepth 65536 in
theorem w_hears : about1.hears theMethod below0 = true := by decide +kernel
set_option maxRecDepth 65536 in
theorem w_ripe : about1.ripe theMethod args0 below0 = true := by decide +kernel
theorem w_running : about1.status = .running := rfl
set_option maxRecDepth 65536 in
theorem w_room : about1.hasRoom e0.platform room_1 = true :=
  launch0.hasRoom_least _ room_1 (by decide +kernel) (by decide +kernel) (by decide +kernel) (by decide +kernel) (by decide +kernel) (by decide +kernel)
theorem allAtoms_all (ts : List Jvm.Cond) (a : Array Jvm.Value) (st : Jvm.State) : (allAtoms ts).before a st = ts.all (fun c => c.before a st) := by
  induction ts with
  | nil => rfl
  | cons c t ih =>
    show (Jvm.Cond.and c (allAtoms t)).before a st = _
    rw [Jvm.Cond.before_and, ih, List.all_cons]
def words1 : List Jvm.Cond := Jvm.Cond.code x code maxLocals ret :: tables_1
/-- a 'code' word, met by the world's own term for the bytes: nothing is compared byte by byte -/
theorem code_word {y : MethodName} {bytes : ByteArray} {mx : Nat} {rt : Option FieldType} {a : Array Value} {s : State} {m : MethodId} {meth : Method} {c : Code} (h1 : s.methodNamed? y = some m) (h2 : s.vm.method? m = some meth) (h3 : meth.code = some c) (h4 : c.code = bytes)
    (h5 : (c.maxLocals == mx && c.exceptionTable.isEmpty && decide (c.maxStack ≤ mostOperands) && decide (meth.sig.returnType = rt) && !meth.locks && decide (parseMethodDescriptor y.desc = some meth.sig)) = true) : (Jvm.Cond.code y bytes mx rt).before a s = true := by
  simp only [Bool.and_eq_true, beq_iff_eq, Bool.not_eq_true', decide_eq_true_eq] at h5
  obtain ⟨⟨⟨⟨⟨g1, g2⟩, g3⟩, g4⟩, g5⟩, g6⟩ := h5
  simp [Cond.before, Cond.holds, Cond.value, h1, h2, h3, h4, g1, g2, g3, g4, g5, g6]
def isCode : Jvm.Cond → Bool
  | .code _ _ _ _ => true
  | _ => false
theorem all_split {L : List Jvm.Cond} {P : Jvm.Cond → Bool} (h1 : L.all (fun c => isCode c || P c) = true) (h2 : ∀ c ∈ L.filter isCode, P c = true) : L.all P = true := by
  refine List.all_eq_true.mpr fun c hc => ?_
  have h := List.all_eq_true.mp h1 c hc
  rcases Bool.eq_false_or_eq_true (isCode c) with hi | hi
  · exact h2 c (List.mem_filter.mpr ⟨hc, hi⟩)
  · simpa [hi] using h
set_option maxRecDepth 65536 in
theorem w_c0 : (Jvm.Cond.code x code maxLocals ret).before args0 about1 = true := code_word (m := ⟨1, 4⟩) (meth := k1m4) (c := k1c4) (by decide +kernel) rfl rfl rfl (by decide +kernel)
set_option maxRecDepth 65536 in
theorem w_c1 : (Jvm.Cond.code ({ cls := "com/example/incarico/incarico/protocol/ApiKeySupportsPinLaw", name := "lowOf", desc := "(I)I" } : Jvm.MethodName) method_3_code (1 : Nat) (Option.some Jvm.ClassFile.FieldType.int)).before args0 about1 = true := code_word (m := ⟨1, 2⟩) (meth := k1m2) (c := k1c2) (by decide +kernel) rfl rfl rfl (by decide +kernel)
set_option maxRecDepth 65536 in
theorem w_c2 : (Jvm.Cond.code ({ cls := "com/example/incarico/incarico/protocol/ApiKeySupportsPinLaw", name := "highOf", desc := "(I)I" } : Jvm.MethodName) method_4_code (1 : Nat) (Option.some Jvm.ClassFile.FieldType.int)).before args0 about1 = true := code_word (m := ⟨1, 3⟩) (meth := k1m3) (c := k1c3) (by decide +kernel) rfl rfl rfl (by decide +kernel)
set_option maxRecDepth 65536 in
theorem w_c3 : (Jvm.Cond.code ({ cls := "com/example/incarico/incarico/protocol/ApiKeySupportsPinLaw", name := "pick", desc := "(I)Lcom/example/incarico/incarico/protocol/ApiKey;" } : Jvm.MethodName) method_2_code (1 : Nat) (Option.some (Jvm.ClassFile.FieldType.object "com/example/incarico/incarico/protocol/ApiKey"))).before args0 about1 = true := code_word (m := ⟨1, 1⟩) (meth := k1m1) (c := k1c1) (by decide +kernel) rfl rfl rfl (by decide +kernel)
set_option maxRecDepth 65536 in
theorem w_c4 : (Jvm.Cond.code ({ cls := "com/example/incarico/incarico/protocol/ApiKey", name := "supports", desc := "(S)Z" } : Jvm.MethodName) prog_108_method_8_code (2 : Nat) (Option.some Jvm.ClassFile.FieldType.boolean)).before args0 about1 = true := code_word (m := ⟨6, 0⟩) (meth := k6m0) (c := k6c0) (by decide +kernel) rfl rfl rfl (by decide +kernel)
def codes1 : List Jvm.Cond := [Jvm.Cond.code x code maxLocals ret, Jvm.Cond.code ({ cls := "com/example/incarico/incarico/protocol/ApiKeySupportsPinLaw", name := "lowOf", desc := "(I)I" } : Jvm.MethodName) method_3_code (1 : Nat) (Option.some Jvm.ClassFile.FieldType.int), Jvm.Cond.code ({ cls := "com/example/incarico/incarico/protocol/ApiKeySupportsPinLaw", name := "highOf", desc := "(I)I" } : Jvm.MethodName) method_4_code (1 : Nat) (Option.some Jvm.ClassFile.FieldType.int), Jvm.Cond.code ({ cls := "com/example/incarico/incarico/protocol/ApiKeySupportsPinLaw", name := "pick", desc := "(I)Lcom/example/incarico/incarico/protocol/ApiKey;" } : Jvm.MethodName) method_2_code (1 : Nat) (Option.some (Jvm.ClassFile.FieldType.object "com/example/incarico/incarico/protocol/ApiKey")), Jvm.Cond.code ({ cls := "com/example/incarico/incarico/protocol/ApiKey", name := "supports", desc := "(S)Z" } : Jvm.MethodName) prog_108_method_8_code (2 : Nat) (Option.some Jvm.ClassFile.FieldType.boolean)]
set_option maxRecDepth 65536 in
theorem codes_eq : words1.filter isCode = codes1 := rfl
theorem w_codes : ∀ c ∈ words1.filter isCode, c.before args0 about1 = true := by
  rw [codes_eq]
  intro c hc
  simp only [codes1, List.mem_cons, List.not_mem_nil, or_false] at hc
  rcases hc with rfl | rfl | rfl | rfl | rfl
  · exact w_c0
  · exact w_c1
  · exact w_c2
  · exact w_c3
  · exact w_c4
set_option maxRecDepth 65536 in
theorem w_t1 : (words1.take 24).all (fun c => isCode c || c.before args0 about1) = true := by decide +kernel
set_option maxRecDepth 65536 in
theorem w_t2 : ((words1.drop 24).take 24).all (fun c => isCode c || c.before args0 about1) = true := by decide +kernel
set_option maxRecDepth 65536 in
theorem w_t3 : ((words1.drop 24).drop 24).all (fun c => isCode c || c.before args0 about1) = true := by decide +kernel
theorem w_tables : (allAtoms (Jvm.Cond.code x code maxLocals ret :: tables_1)).before args0 about1 = true := by
  rw [allAtoms_all]
  show words1.all (fun c => c.before args0 about1) = true
  refine all_split ?_ w_codes
  rw [← List.take_append_drop 24 words1, List.all_append, w_t1, ← List.take_append_drop 24 (words1.drop 24), List.all_append, w_t2, w_t3]
  rfl
set_option maxRecDepth 65536 in
theorem w_case : (Jvm.Cond.and given_1 narrow_1).before args0 about1 = true := by decide +kernel
theorem w_applies : (headSpec (Jvm.Cond.code x code maxLocals ret :: tables_1) room_1).applies x e0.platform about1 = true :=
  (Spec.applies_iff w_frames).mpr ⟨w_running, w_runnable, w_alone, w_named, w_hears, w_ripe, w_room, w_tables⟩
theorem atStart : AtStart classFile x code maxLocals ret World_1 tables_1 room_1 Calls_1 rest_1 Pre_1 launch0 p0 e0 about1 theMethod args0 below0 :=
  ⟨lists_1, trivial, launch0.admits_env _ _ _, launch0.least_env, fairChoices_fair.cas, fairChoices_fair.clock, w_frames, w_args, w_heap, w_applies, trivial, trivial, w_case⟩
end start1
theorem witness_1 : WitnessClaimed_1 := ⟨start1.p0, start1.e0, start1.about1, start1.theMethod, start1.args0, start1.below0, start1.atStart⟩
end Jvm.Pilot.@@N@@
