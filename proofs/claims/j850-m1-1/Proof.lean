import JvmDerived
import JvmDerived.Pilot.@@N@@Statement
import JvmDerived.Pilot.@@N@@Code
set_option linter.unusedVariables false
set_option linter.unusedSimpArgs false
namespace Jvm.RoadKit
open Sem ClassFile Op Lib Jvm.Stand Jvm.Free Jvm.LawKit
section New
variable {p : Program} {l : Launch} {e : Env} {R : Room} {s : State} {m : MethodId} {args : Array Value} {below : List Frame} {meth : Method} {c : Code} {T : State} {locs : List Loc} {cells slots : Nat}
theorem retI (X : Stand p l e R s m args below meth c T locs cells slots) (hx : p.tables.exec = Jvm.exec) {pc : Nat} {Ls : Array Slot} {z : Int32} {rest : List Value} (hret : meth.sig.returnType = some .int) (hd : decode c.code pc = .ok (.ireturn, 1)) {fs : List Frame}
    (hl : ∀ (f : JFrame) (acts : List Action), f.method = m → f.locked = none → f.entered = [] → (doReturn e (T.setTop f) acts (some (.int z))).1 = T.setFrames fs) : Steps p.tables e below (T.setTop (mkF m pc Ls (.int z :: rest))) (T.setFrames fs) := by
  have hm' : T.vm.method? m = some meth := X.method'
  have hn : narrow .int (.int z) = .int z := rfl
  show Steps p.tables e below (T.setTop { method := m, pc := pc, locals := Ls, stack := _ :: rest, locked := none }) _
  jvm_step X.here [X.here.top, hx, hd, hm', hret, hn]
  first | (intro acts; rw [hl _ acts rfl rfl rfl]) | rw [hl _ _ rfl rfl rfl]
  exact Steps.refl _
end New
end Jvm.RoadKit
namespace Jvm.Pilot.@@N@@
open Jvm Jvm.ClassFile Sem Op Lib Jvm.Free Jvm.Stand Jvm.LawKit Jvm.RoadKit Bundle Jvm.Pilot.@@N@@.Jvm.D
theorem own_nn (x : Int64) : ¬ (x &&& (9223372036854775807 : Int64)) < (0 : Int64) := by
  have h := c_maskL x 9223372036854775807 63 (by decide) (by decide)
  rw [Int64.lt_iff_toInt_lt]
  have h0 : (0 : Int64).toInt = 0 := by decide
  omega
theorem own_nz (d : Int64) (h : ¬ d < (0 : Int64)) : d + (1 : Int64) ≠ 0 := fun q => by
  have h1 := c_ladd d 1
  rw [q] at h1
  rw [Int64.lt_iff_toInt_lt] at h
  have h0 : (0 : Int64).toInt = 0 := by decide
  have h2 : (1 : Int64).toInt = 1 := by decide
  have h3 := rng64 d
  omega
theorem d1_0 : decode method_2_code 0 = .ok (.iload 4, 2) := by decide +kernel
theorem d1_2 : decode method_2_code 2 = .ok (.bipush 7, 2) := by decide +kernel
theorem d1_4 : decode method_2_code 4 = .ok (.iand, 1) := by decide +kernel
theorem d1_5 : decode method_2_code 5 = .ok (.istore 5, 2) := by decide +kernel
theorem d1_7 : decode method_2_code 7 = .ok (.iload 5, 2) := by decide +kernel
theorem d1_9 : decode method_2_code 9 = .ok (.ifCond .ne 5, 3) := by decide +kernel
theorem d1_12 : decode method_2_code 12 = .ok (.lload_n 2, 1) := by decide +kernel
theorem d1_13 : decode method_2_code 13 = .ok (.lreturn, 1) := by decide +kernel
theorem d1_14 : decode method_2_code 14 = .ok (.iload 5, 2) := by decide +kernel
theorem d1_16 : decode method_2_code 16 = .ok (.iconst 1, 1) := by decide +kernel
theorem d1_17 : decode method_2_code 17 = .ok (.if_icmp .ne 5, 3) := by decide +kernel
theorem d1_20 : decode method_2_code 20 = .ok (.lconst 0, 1) := by decide +kernel
theorem d1_21 : decode method_2_code 21 = .ok (.lreturn, 1) := by decide +kernel
theorem d1_22 : decode method_2_code 22 = .ok (.iload 5, 2) := by decide +kernel
theorem d1_24 : decode method_2_code 24 = .ok (.iconst 2, 1) := by decide +kernel
theorem d1_25 : decode method_2_code 25 = .ok (.if_icmp .ne 7, 3) := by decide +kernel
theorem d1_28 : decode method_2_code 28 = .ok (.ldc2_w 7, 3) := by decide +kernel
theorem d1_31 : decode method_2_code 31 = .ok (.lreturn, 1) := by decide +kernel
theorem d1_32 : decode method_2_code 32 = .ok (.iload 5, 2) := by decide +kernel
theorem d1_34 : decode method_2_code 34 = .ok (.iconst 3, 1) := by decide +kernel
theorem d1_35 : decode method_2_code 35 = .ok (.if_icmp .ne 5, 3) := by decide +kernel
theorem d1_38 : decode method_2_code 38 = .ok (.lload_n 0, 1) := by decide +kernel
theorem d1_39 : decode method_2_code 39 = .ok (.lreturn, 1) := by decide +kernel
theorem d1_40 : decode method_2_code 40 = .ok (.iload 5, 2) := by decide +kernel
theorem d1_42 : decode method_2_code 42 = .ok (.iconst 4, 1) := by decide +kernel
theorem d1_43 : decode method_2_code 43 = .ok (.if_icmp .ne 7, 3) := by decide +kernel
theorem d1_46 : decode method_2_code 46 = .ok (.lload_n 0, 1) := by decide +kernel
theorem d1_47 : decode method_2_code 47 = .ok (.lconst 1, 1) := by decide +kernel
theorem d1_48 : decode method_2_code 48 = .ok (.lsub, 1) := by decide +kernel
theorem d1_49 : decode method_2_code 49 = .ok (.lreturn, 1) := by decide +kernel
theorem d1_50 : decode method_2_code 50 = .ok (.iload 5, 2) := by decide +kernel
theorem d1_52 : decode method_2_code 52 = .ok (.iconst 5, 1) := by decide +kernel
theorem d1_53 : decode method_2_code 53 = .ok (.if_icmp .ne 28, 3) := by decide +kernel
theorem d1_56 : decode method_2_code 56 = .ok (.lload_n 2, 1) := by decide +kernel
theorem d1_57 : decode method_2_code 57 = .ok (.ldc2_w 11, 3) := by decide +kernel
theorem d1_60 : decode method_2_code 60 = .ok (.land, 1) := by decide +kernel
theorem d1_61 : decode method_2_code 61 = .ok (.lstore 6, 2) := by decide +kernel
theorem d1_63 : decode method_2_code 63 = .ok (.lload_n 0, 1) := by decide +kernel
theorem d1_64 : decode method_2_code 64 = .ok (.ldc2_w 11, 3) := by decide +kernel
theorem d1_67 : decode method_2_code 67 = .ok (.lcmp, 1) := by decide +kernel
theorem d1_68 : decode method_2_code 68 = .ok (.ifCond .ne 6, 3) := by decide +kernel
theorem d1_71 : decode method_2_code 71 = .ok (.lload 6, 2) := by decide +kernel
theorem d1_73 : decode method_2_code 73 = .ok (.lreturn, 1) := by decide +kernel
theorem d1_74 : decode method_2_code 74 = .ok (.lload 6, 2) := by decide +kernel
theorem d1_76 : decode method_2_code 76 = .ok (.lload_n 0, 1) := by decide +kernel
theorem d1_77 : decode method_2_code 77 = .ok (.lconst 1, 1) := by decide +kernel
theorem d1_78 : decode method_2_code 78 = .ok (.ladd, 1) := by decide +kernel
theorem d1_79 : decode method_2_code 79 = .ok (.lrem, 1) := by decide +kernel
theorem d1_80 : decode method_2_code 80 = .ok (.lreturn, 1) := by decide +kernel
theorem d1_81 : decode method_2_code 81 = .ok (.iload 5, 2) := by decide +kernel
theorem d1_83 : decode method_2_code 83 = .ok (.bipush 6, 2) := by decide +kernel
theorem d1_85 : decode method_2_code 85 = .ok (.if_icmp .ne 9, 3) := by decide +kernel
theorem d1_88 : decode method_2_code 88 = .ok (.lload_n 2, 1) := by decide +kernel
theorem d1_89 : decode method_2_code 89 = .ok (.ldc2_w 11, 3) := by decide +kernel
theorem d1_92 : decode method_2_code 92 = .ok (.land, 1) := by decide +kernel
theorem d1_93 : decode method_2_code 93 = .ok (.lreturn, 1) := by decide +kernel
theorem d1_94 : decode method_2_code 94 = .ok (.lload_n 2, 1) := by decide +kernel
theorem d1_95 : decode method_2_code 95 = .ok (.ldc2_w 13, 3) := by decide +kernel
theorem d1_98 : decode method_2_code 98 = .ok (.lor, 1) := by decide +kernel
theorem d1_99 : decode method_2_code 99 = .ok (.lreturn, 1) := by decide +kernel
theorem pn_1 : plainName "com/example/incarico/incarico/load/PauseWaitNanosPinLaw" = true := by first | (simp [plainName, overriddenIn]; done) | decide +kernel
theorem ef_1 (m : MethodId) (q0 : Int64) (q1 : Int64) (p2 : Int32) : entryFrame m #[(.long q0), (.long q1), (.int p2)] 8 = mkF m 0 #[.val (.long q0), .second, .val (.long q1), .second, .val (.int p2), .unset, .unset, .unset] [] := by first | (simp [entryFrame, mkF, argsToLocals, Value.category]; done) | rfl
def own_f1 (q0 : Int64) (q1 : Int64) (p2 : Int32) : Int64 := (let v2 : Int32 := (p2 &&& (7 : Int32)); (if v2 = (0 : Int32) then q1 else (if v2 = (1 : Int32) then (0 : Int64) else (if v2 = (2 : Int32) then (-1 : Int64) else (if v2 = (3 : Int32) then q0 else (if v2 = (4 : Int32) then (q0 - (1 : Int64)) else (if v2 = (5 : Int32) then (let v22 : Int64 := (q1 &&& (9223372036854775807 : Int64)); (if q0 = (9223372036854775807 : Int64) then v22 else (v22 - (v22 / (q0 + (1 : Int64))) * (q0 + (1 : Int64))))) else (if v2 = (6 : Int32) then (q1 &&& (9223372036854775807 : Int64)) else (q1 ||| (-9223372036854775808 : Int64))))))))))
def Q1 (Z : State) (q0 : Int64) (q1 : Int64) (p2 : Int32) (h0 : Heap) (n0 : Nat) (v : Option Value) (h : Heap) (L : List Loc) : Prop := v = some (.long (own_f1 q0 q1 p2)) ∧ Fr n0 L ∧ h = h0
set_option maxRecDepth 65536 in
set_option maxHeartbeats 40000000 in
theorem rm1 (l : Launch) (Z : State) (a0 : Array Value) (hw : ∀ d ∈ tables_1, d.before a0 Z = true) (ws : List Jvm.Cond) (q0 : Int64) (q1 : Int64) (p2 : Int32) (h0 : Heap) (n0 : Nat) (Z0 : n0 ≤ h0.size) (hd0 : ¬ q0 < (0 : Int64)) :
    MetFree l (⟨"com/example/incarico/incarico/load/PauseWaitNanosPinLaw", "pickOffset", "(JJI)J"⟩ : MethodName) (head1 (Jvm.Cond.code (⟨"com/example/incarico/incarico/load/PauseWaitNanosPinLaw", "pickOffset", "(JJI)J"⟩ : MethodName) method_2_code 8 (some .long) :: ws) ({ frames := 0, cells := 0, slots := 0, locals := 0 } : Room)) (fun a U => a = #[(.long q0), (.long q1), (.int p2)] ∧ Z.Warmed39 U.vm ∧ U.heap = h0) (fun _ _ _ _ _ => True) (fun _ U o U' => ∃ v L, o = .returned v ∧ Q1 Z q0 q1 p2 h0 n0 v U'.heap L ∧ FrameEnd U o U' L ({ frames := 0, cells := 0, slots := 0, locals := 0 } : Room).cells ({ frames := 0, cells := 0, slots := 0, locals := 0 } : Room).slots) := by
  refine MetFree.of_bodySF (plainFor_of_name pn_1) hisR ?_
  intro p e s m args below meth c s₁ Bd hml0 hP hK
  obtain ⟨rfl, hZ, hh⟩ := hP
  have hx := Bd.exec
  have hby := Bd.bytes
  have hml : c.maxLocals = 8 := hml0
  have hown : s.vm.findClass "com/example/incarico/incarico/load/PauseWaitNanosPinLaw" = some m.cls := findClass_of_methodNamed Bd.named
  have hnm := (name_of_methodNamed Bd.named Bd.method).1
  have X0 : Stand p l e ({ frames := 0, cells := 0, slots := 0, locals := 0 } : Room) s m #[(.long q0), (.long q1), (.int p2)] below meth c s₁ [] 0 0 := Stand.of_body Bd
  have e0 : s₁.heap = h0 := by rw [← hh, Bd.state]; rfl
  have N0 := Fr.nil n0
  obtain ⟨P, pre0, fin⟩ : ∃ P : State → Prop, (∀ t, Steps p.tables e below (s₁.setTop (mkF m 0 #[.val (.long q0), .second, .val (.long q1), .second, .val (.int p2), .unset, .unset, .unset] [])) t → P t) ∧ (∀ t, P t → Steps p.tables e below (s₁.setTop (entryFrame m #[(.long q0), (.long q1), (.int p2)] 8)) t) := ⟨fun t => Steps p.tables e below (s₁.setTop (entryFrame m #[(.long q0), (.long q1), (.int p2)] 8)) t, fun t k => castTop (ef_1 m q0 q1 p2) k, fun t k => k⟩
  have K0 : Keep h0 h0 [] := Keep.refl _ _
  have pre1 : ∀ t, Steps p.tables e below (s₁.setTop (mkF m 7 #[.val (.long q0), .second, .val (.long q1), .second, .val (.int p2), .val (.int (p2 &&& (7 : Int32))), .unset, .unset] [])) t → P t := fun t k => pre0 t (by
      show Steps p.tables e below (s₁.setTop (mkF m 0 #[.val (.long q0), .second, .val (.long q1), .second, .val (.int p2), .unset, .unset, .unset] [])) _
      refine XS.iload X0.here hx rfl (hb hby d1_0) rfl ?_
      show Steps p.tables e below (s₁.setTop (mkF m 2 #[.val (.long q0), .second, .val (.long q1), .second, .val (.int p2), .unset, .unset, .unset] [(.int p2)])) _
      refine XS.bipush X0.here hx rfl (hb hby d1_2) ?_
      show Steps p.tables e below (s₁.setTop (mkF m 4 #[.val (.long q0), .second, .val (.long q1), .second, .val (.int p2), .unset, .unset, .unset] [(.int (7 : Int32)), (.int p2)])) _
      refine XS.iand X0.here hx rfl (hb hby d1_4) rfl ?_
      show Steps p.tables e below (s₁.setTop (mkF m 5 #[.val (.long q0), .second, .val (.long q1), .second, .val (.int p2), .unset, .unset, .unset] [(.int (p2 &&& (7 : Int32)))])) _
      refine XS.istore X0.here hx rfl (hb hby d1_5) rfl (l' := #[.val (.long q0), .second, .val (.long q1), .second, .val (.int p2), .val (.int (p2 &&& (7 : Int32))), .unset, .unset]) rfl ?_
      exact k)
  obtain ⟨v2, hv2⟩ : ∃ z : Int32, z = (p2 &&& (7 : Int32)) := ⟨_, rfl⟩
  have pre3 : ∀ t, Steps p.tables e below (s₁.setTop (mkF m 7 #[.val (.long q0), .second, .val (.long q1), .second, .val (.int p2), .val (.int v2), .unset, .unset] [])) t → P t := fun t k => pre1 t (by subst hv2; exact k)
  have pre4 : ∀ t, Steps p.tables e below (s₁.setTop (mkF m 9 #[.val (.long q0), .second, .val (.long q1), .second, .val (.int p2), .val (.int v2), .unset, .unset] [(.int v2)])) t → P t := fun t k => pre3 t (by
      show Steps p.tables e below (s₁.setTop (mkF m 7 #[.val (.long q0), .second, .val (.long q1), .second, .val (.int p2), .val (.int v2), .unset, .unset] [])) _
      refine XS.iload X0.here hx rfl (hb hby d1_7) rfl ?_
      exact k)
  by_cases hc5 : v2 = (0 : Int32)
  · have pre6 : ∀ t, Steps p.tables e below (s₁.setTop (mkF m 13 #[.val (.long q0), .second, .val (.long q1), .second, .val (.int p2), .val (.int v2), .unset, .unset] [(.long q1)])) t → P t := fun t k => pre4 t (by
        show Steps p.tables e below (s₁.setTop (mkF m 9 #[.val (.long q0), .second, .val (.long q1), .second, .val (.int p2), .val (.int v2), .unset, .unset] [(.int v2)])) _
        refine XS.ifNo X0.here hx rfl (hb hby d1_9) rfl ((if0 _ _).trans (teq hc5).2) ?_
        show Steps p.tables e below (s₁.setTop (mkF m 12 #[.val (.long q0), .second, .val (.long q1), .second, .val (.int p2), .val (.int v2), .unset, .unset] [])) _
        refine XS.lloadN X0.here hx rfl (hb hby d1_12) rfl ?_
        exact k)
    obtain ⟨fs, hr, hrun, hended, hW, hsame⟩ := X0.leave (v := some (.long q1)) (fun h => by rw [Bd.returns] at h; cases h)
    refine ⟨_, _, fin _ (pre6 _ ?_), hrun, hended, _, _, rfl, ?_, ⟨_, rfl⟩, hW, hsame.mono (by decide) (by decide)⟩
    · show Steps p.tables e below (s₁.setTop (mkF m 13 #[.val (.long q0), .second, .val (.long q1), .second, .val (.int p2), .val (.int v2), .unset, .unset] [(.long q1)])) _
      jvm_step X0.here [X0.here.top, hx, (hb hby d1_13), X0.method', Bd.returns, narrow]
      first | (intro acts; rw [hr _ acts rfl rfl rfl]) | rw [hr _ _ rfl rfl rfl]
      exact Steps.refl _
    · show Q1 Z q0 q1 p2 h0 n0 _ s₁.heap _
      rw [e0]
      exact ⟨(by subst hv2; first | (unfold own_f1; rw [if_pos hc5]; done) | simp only [own_f1, if_pos hc5] | simp [own_f1, if_pos hc5]), N0, rfl⟩
  · have pre7 : ∀ t, Steps p.tables e below (s₁.setTop (mkF m 17 #[.val (.long q0), .second, .val (.long q1), .second, .val (.int p2), .val (.int v2), .unset, .unset] [(.int (1 : Int32)), (.int v2)])) t → P t := fun t k => pre4 t (by
        show Steps p.tables e below (s₁.setTop (mkF m 9 #[.val (.long q0), .second, .val (.long q1), .second, .val (.int p2), .val (.int v2), .unset, .unset] [(.int v2)])) _
        refine XS.ifYes X0.here hx rfl (pc0 := 9) (pc' := 14) rfl (hb hby d1_9) rfl ((if0 _ _).trans (feq hc5).2) (by decide) (by decide) ?_
        show Steps p.tables e below (s₁.setTop (mkF m 14 #[.val (.long q0), .second, .val (.long q1), .second, .val (.int p2), .val (.int v2), .unset, .unset] [])) _
        refine XS.iload X0.here hx rfl (hb hby d1_14) rfl ?_
        show Steps p.tables e below (s₁.setTop (mkF m 16 #[.val (.long q0), .second, .val (.long q1), .second, .val (.int p2), .val (.int v2), .unset, .unset] [(.int v2)])) _
        refine XS.iconst X0.here hx rfl (hb hby d1_16) ?_
        exact k)
    by_cases hc8 : v2 = (1 : Int32)
    · have pre9 : ∀ t, Steps p.tables e below (s₁.setTop (mkF m 21 #[.val (.long q0), .second, .val (.long q1), .second, .val (.int p2), .val (.int v2), .unset, .unset] [(.long (0 : Int64))])) t → P t := fun t k => pre7 t (by
          show Steps p.tables e below (s₁.setTop (mkF m 17 #[.val (.long q0), .second, .val (.long q1), .second, .val (.int p2), .val (.int v2), .unset, .unset] [(.int (1 : Int32)), (.int v2)])) _
          refine XS.icmpNo X0.here hx rfl (hb hby d1_17) rfl (teq hc8).2 ?_
          show Steps p.tables e below (s₁.setTop (mkF m 20 #[.val (.long q0), .second, .val (.long q1), .second, .val (.int p2), .val (.int v2), .unset, .unset] [])) _
          refine XS.lconst X0.here hx rfl (hb hby d1_20) ?_
          exact k)
      obtain ⟨fs, hr, hrun, hended, hW, hsame⟩ := X0.leave (v := some (.long (0 : Int64))) (fun h => by rw [Bd.returns] at h; cases h)
      refine ⟨_, _, fin _ (pre9 _ ?_), hrun, hended, _, _, rfl, ?_, ⟨_, rfl⟩, hW, hsame.mono (by decide) (by decide)⟩
      · show Steps p.tables e below (s₁.setTop (mkF m 21 #[.val (.long q0), .second, .val (.long q1), .second, .val (.int p2), .val (.int v2), .unset, .unset] [(.long (0 : Int64))])) _
        jvm_step X0.here [X0.here.top, hx, (hb hby d1_21), X0.method', Bd.returns, narrow]
        first | (intro acts; rw [hr _ acts rfl rfl rfl]) | rw [hr _ _ rfl rfl rfl]
        exact Steps.refl _
      · show Q1 Z q0 q1 p2 h0 n0 _ s₁.heap _
        rw [e0]
        exact ⟨(by subst hv2; first | (unfold own_f1; rw [if_neg hc5, if_pos hc8]; done) | simp only [own_f1, if_neg hc5, if_pos hc8] | simp [own_f1, if_neg hc5, if_pos hc8]), N0, rfl⟩
    · have pre10 : ∀ t, Steps p.tables e below (s₁.setTop (mkF m 25 #[.val (.long q0), .second, .val (.long q1), .second, .val (.int p2), .val (.int v2), .unset, .unset] [(.int (2 : Int32)), (.int v2)])) t → P t := fun t k => pre7 t (by
          show Steps p.tables e below (s₁.setTop (mkF m 17 #[.val (.long q0), .second, .val (.long q1), .second, .val (.int p2), .val (.int v2), .unset, .unset] [(.int (1 : Int32)), (.int v2)])) _
          refine XS.icmpYes X0.here hx rfl (pc0 := 17) (pc' := 22) rfl (hb hby d1_17) rfl (feq hc8).2 (by decide) (by decide) ?_
          show Steps p.tables e below (s₁.setTop (mkF m 22 #[.val (.long q0), .second, .val (.long q1), .second, .val (.int p2), .val (.int v2), .unset, .unset] [])) _
          refine XS.iload X0.here hx rfl (hb hby d1_22) rfl ?_
          show Steps p.tables e below (s₁.setTop (mkF m 24 #[.val (.long q0), .second, .val (.long q1), .second, .val (.int p2), .val (.int v2), .unset, .unset] [(.int v2)])) _
          refine XS.iconst X0.here hx rfl (hb hby d1_24) ?_
          exact k)
      by_cases hc11 : v2 = (2 : Int32)
      · have pre12 : ∀ t, Steps p.tables e below (s₁.setTop (mkF m 31 #[.val (.long q0), .second, .val (.long q1), .second, .val (.int p2), .val (.int v2), .unset, .unset] [(.long (-1 : Int64))])) t → P t := fun t k => pre10 t (by
            show Steps p.tables e below (s₁.setTop (mkF m 25 #[.val (.long q0), .second, .val (.long q1), .second, .val (.int p2), .val (.int v2), .unset, .unset] [(.int (2 : Int32)), (.int v2)])) _
            refine XS.icmpNo X0.here hx rfl (hb hby d1_25) rfl (teq hc11).2 ?_
            show Steps p.tables e below (s₁.setTop (mkF m 28 #[.val (.long q0), .second, .val (.long q1), .second, .val (.int p2), .val (.int v2), .unset, .unset] [])) _
            refine X0.ldc2Long hx hown (mvT hZ (hw _ (List.mem_of_getElem? (i := 5) rfl))) (g := (mkF m 28 #[.val (.long q0), .second, .val (.long q1), .second, .val (.int p2), .val (.int v2), .unset, .unset] [])) rfl (hb hby d1_28) _ ?_
            exact k)
        obtain ⟨fs, hr, hrun, hended, hW, hsame⟩ := X0.leave (v := some (.long (-1 : Int64))) (fun h => by rw [Bd.returns] at h; cases h)
        refine ⟨_, _, fin _ (pre12 _ ?_), hrun, hended, _, _, rfl, ?_, ⟨_, rfl⟩, hW, hsame.mono (by decide) (by decide)⟩
        · show Steps p.tables e below (s₁.setTop (mkF m 31 #[.val (.long q0), .second, .val (.long q1), .second, .val (.int p2), .val (.int v2), .unset, .unset] [(.long (-1 : Int64))])) _
          jvm_step X0.here [X0.here.top, hx, (hb hby d1_31), X0.method', Bd.returns, narrow]
          first | (intro acts; rw [hr _ acts rfl rfl rfl]) | rw [hr _ _ rfl rfl rfl]
          exact Steps.refl _
        · show Q1 Z q0 q1 p2 h0 n0 _ s₁.heap _
          rw [e0]
          exact ⟨(by subst hv2; first | (unfold own_f1; rw [if_neg hc5, if_neg hc8, if_pos hc11]; done) | simp only [own_f1, if_neg hc5, if_neg hc8, if_pos hc11] | simp [own_f1, if_neg hc5, if_neg hc8, if_pos hc11]), N0, rfl⟩
      · have pre13 : ∀ t, Steps p.tables e below (s₁.setTop (mkF m 35 #[.val (.long q0), .second, .val (.long q1), .second, .val (.int p2), .val (.int v2), .unset, .unset] [(.int (3 : Int32)), (.int v2)])) t → P t := fun t k => pre10 t (by
            show Steps p.tables e below (s₁.setTop (mkF m 25 #[.val (.long q0), .second, .val (.long q1), .second, .val (.int p2), .val (.int v2), .unset, .unset] [(.int (2 : Int32)), (.int v2)])) _
            refine XS.icmpYes X0.here hx rfl (pc0 := 25) (pc' := 32) rfl (hb hby d1_25) rfl (feq hc11).2 (by decide) (by decide) ?_
            show Steps p.tables e below (s₁.setTop (mkF m 32 #[.val (.long q0), .second, .val (.long q1), .second, .val (.int p2), .val (.int v2), .unset, .unset] [])) _
            refine XS.iload X0.here hx rfl (hb hby d1_32) rfl ?_
            show Steps p.tables e below (s₁.setTop (mkF m 34 #[.val (.long q0), .second, .val (.long q1), .second, .val (.int p2), .val (.int v2), .unset, .unset] [(.int v2)])) _
            refine XS.iconst X0.here hx rfl (hb hby d1_34) ?_
            exact k)
        by_cases hc14 : v2 = (3 : Int32)
        · have pre15 : ∀ t, Steps p.tables e below (s₁.setTop (mkF m 39 #[.val (.long q0), .second, .val (.long q1), .second, .val (.int p2), .val (.int v2), .unset, .unset] [(.long q0)])) t → P t := fun t k => pre13 t (by
              show Steps p.tables e below (s₁.setTop (mkF m 35 #[.val (.long q0), .second, .val (.long q1), .second, .val (.int p2), .val (.int v2), .unset, .unset] [(.int (3 : Int32)), (.int v2)])) _
              refine XS.icmpNo X0.here hx rfl (hb hby d1_35) rfl (teq hc14).2 ?_
              show Steps p.tables e below (s₁.setTop (mkF m 38 #[.val (.long q0), .second, .val (.long q1), .second, .val (.int p2), .val (.int v2), .unset, .unset] [])) _
              refine XS.lloadN X0.here hx rfl (hb hby d1_38) rfl ?_
              exact k)
          obtain ⟨fs, hr, hrun, hended, hW, hsame⟩ := X0.leave (v := some (.long q0)) (fun h => by rw [Bd.returns] at h; cases h)
          refine ⟨_, _, fin _ (pre15 _ ?_), hrun, hended, _, _, rfl, ?_, ⟨_, rfl⟩, hW, hsame.mono (by decide) (by decide)⟩
          · show Steps p.tables e below (s₁.setTop (mkF m 39 #[.val (.long q0), .second, .val (.long q1), .second, .val (.int p2), .val (.int v2), .unset, .unset] [(.long q0)])) _
            jvm_step X0.here [X0.here.top, hx, (hb hby d1_39), X0.method', Bd.returns, narrow]
            first | (intro acts; rw [hr _ acts rfl rfl rfl]) | rw [hr _ _ rfl rfl rfl]
            exact Steps.refl _
          · show Q1 Z q0 q1 p2 h0 n0 _ s₁.heap _
            rw [e0]
            exact ⟨(by subst hv2; first | (unfold own_f1; rw [if_neg hc5, if_neg hc8, if_neg hc11, if_pos hc14]; done) | simp only [own_f1, if_neg hc5, if_neg hc8, if_neg hc11, if_pos hc14] | simp [own_f1, if_neg hc5, if_neg hc8, if_neg hc11, if_pos hc14]), N0, rfl⟩
        · have pre16 : ∀ t, Steps p.tables e below (s₁.setTop (mkF m 43 #[.val (.long q0), .second, .val (.long q1), .second, .val (.int p2), .val (.int v2), .unset, .unset] [(.int (4 : Int32)), (.int v2)])) t → P t := fun t k => pre13 t (by
              show Steps p.tables e below (s₁.setTop (mkF m 35 #[.val (.long q0), .second, .val (.long q1), .second, .val (.int p2), .val (.int v2), .unset, .unset] [(.int (3 : Int32)), (.int v2)])) _
              refine XS.icmpYes X0.here hx rfl (pc0 := 35) (pc' := 40) rfl (hb hby d1_35) rfl (feq hc14).2 (by decide) (by decide) ?_
              show Steps p.tables e below (s₁.setTop (mkF m 40 #[.val (.long q0), .second, .val (.long q1), .second, .val (.int p2), .val (.int v2), .unset, .unset] [])) _
              refine XS.iload X0.here hx rfl (hb hby d1_40) rfl ?_
              show Steps p.tables e below (s₁.setTop (mkF m 42 #[.val (.long q0), .second, .val (.long q1), .second, .val (.int p2), .val (.int v2), .unset, .unset] [(.int v2)])) _
              refine XS.iconst X0.here hx rfl (hb hby d1_42) ?_
              exact k)
          by_cases hc17 : v2 = (4 : Int32)
          · have pre18 : ∀ t, Steps p.tables e below (s₁.setTop (mkF m 49 #[.val (.long q0), .second, .val (.long q1), .second, .val (.int p2), .val (.int v2), .unset, .unset] [(.long (q0 - (1 : Int64)))])) t → P t := fun t k => pre16 t (by
                show Steps p.tables e below (s₁.setTop (mkF m 43 #[.val (.long q0), .second, .val (.long q1), .second, .val (.int p2), .val (.int v2), .unset, .unset] [(.int (4 : Int32)), (.int v2)])) _
                refine XS.icmpNo X0.here hx rfl (hb hby d1_43) rfl (teq hc17).2 ?_
                show Steps p.tables e below (s₁.setTop (mkF m 46 #[.val (.long q0), .second, .val (.long q1), .second, .val (.int p2), .val (.int v2), .unset, .unset] [])) _
                refine XS.lloadN X0.here hx rfl (hb hby d1_46) rfl ?_
                show Steps p.tables e below (s₁.setTop (mkF m 47 #[.val (.long q0), .second, .val (.long q1), .second, .val (.int p2), .val (.int v2), .unset, .unset] [(.long q0)])) _
                refine XS.lconst X0.here hx rfl (hb hby d1_47) ?_
                show Steps p.tables e below (s₁.setTop (mkF m 48 #[.val (.long q0), .second, .val (.long q1), .second, .val (.int p2), .val (.int v2), .unset, .unset] [(.long (1 : Int64)), (.long q0)])) _
                refine XS.lsub X0.here hx rfl (hb hby d1_48) rfl ?_
                exact k)
            obtain ⟨fs, hr, hrun, hended, hW, hsame⟩ := X0.leave (v := some (.long (q0 - (1 : Int64)))) (fun h => by rw [Bd.returns] at h; cases h)
            refine ⟨_, _, fin _ (pre18 _ ?_), hrun, hended, _, _, rfl, ?_, ⟨_, rfl⟩, hW, hsame.mono (by decide) (by decide)⟩
            · show Steps p.tables e below (s₁.setTop (mkF m 49 #[.val (.long q0), .second, .val (.long q1), .second, .val (.int p2), .val (.int v2), .unset, .unset] [(.long (q0 - (1 : Int64)))])) _
              jvm_step X0.here [X0.here.top, hx, (hb hby d1_49), X0.method', Bd.returns, narrow]
              first | (intro acts; rw [hr _ acts rfl rfl rfl]) | rw [hr _ _ rfl rfl rfl]
              exact Steps.refl _
            · show Q1 Z q0 q1 p2 h0 n0 _ s₁.heap _
              rw [e0]
              exact ⟨(by subst hv2; first | (unfold own_f1; rw [if_neg hc5, if_neg hc8, if_neg hc11, if_neg hc14, if_pos hc17]; done) | simp only [own_f1, if_neg hc5, if_neg hc8, if_neg hc11, if_neg hc14, if_pos hc17] | simp [own_f1, if_neg hc5, if_neg hc8, if_neg hc11, if_neg hc14, if_pos hc17]), N0, rfl⟩
          · have pre19 : ∀ t, Steps p.tables e below (s₁.setTop (mkF m 53 #[.val (.long q0), .second, .val (.long q1), .second, .val (.int p2), .val (.int v2), .unset, .unset] [(.int (5 : Int32)), (.int v2)])) t → P t := fun t k => pre16 t (by
                show Steps p.tables e below (s₁.setTop (mkF m 43 #[.val (.long q0), .second, .val (.long q1), .second, .val (.int p2), .val (.int v2), .unset, .unset] [(.int (4 : Int32)), (.int v2)])) _
                refine XS.icmpYes X0.here hx rfl (pc0 := 43) (pc' := 50) rfl (hb hby d1_43) rfl (feq hc17).2 (by decide) (by decide) ?_
                show Steps p.tables e below (s₁.setTop (mkF m 50 #[.val (.long q0), .second, .val (.long q1), .second, .val (.int p2), .val (.int v2), .unset, .unset] [])) _
                refine XS.iload X0.here hx rfl (hb hby d1_50) rfl ?_
                show Steps p.tables e below (s₁.setTop (mkF m 52 #[.val (.long q0), .second, .val (.long q1), .second, .val (.int p2), .val (.int v2), .unset, .unset] [(.int v2)])) _
                refine XS.iconst X0.here hx rfl (hb hby d1_52) ?_
                exact k)
            by_cases hc20 : v2 = (5 : Int32)
            · have pre21 : ∀ t, Steps p.tables e below (s₁.setTop (mkF m 63 #[.val (.long q0), .second, .val (.long q1), .second, .val (.int p2), .val (.int v2), .val (.long (q1 &&& (9223372036854775807 : Int64))), .second] [])) t → P t := fun t k => pre19 t (by
                  show Steps p.tables e below (s₁.setTop (mkF m 53 #[.val (.long q0), .second, .val (.long q1), .second, .val (.int p2), .val (.int v2), .unset, .unset] [(.int (5 : Int32)), (.int v2)])) _
                  refine XS.icmpNo X0.here hx rfl (hb hby d1_53) rfl (teq hc20).2 ?_
                  show Steps p.tables e below (s₁.setTop (mkF m 56 #[.val (.long q0), .second, .val (.long q1), .second, .val (.int p2), .val (.int v2), .unset, .unset] [])) _
                  refine XS.lloadN X0.here hx rfl (hb hby d1_56) rfl ?_
                  show Steps p.tables e below (s₁.setTop (mkF m 57 #[.val (.long q0), .second, .val (.long q1), .second, .val (.int p2), .val (.int v2), .unset, .unset] [(.long q1)])) _
                  refine X0.ldc2Long hx hown (mvT hZ (hw _ (List.mem_of_getElem? (i := 0) rfl))) (g := (mkF m 57 #[.val (.long q0), .second, .val (.long q1), .second, .val (.int p2), .val (.int v2), .unset, .unset] [(.long q1)])) rfl (hb hby d1_57) _ ?_
                  show Steps p.tables e below (s₁.setTop (mkF m 60 #[.val (.long q0), .second, .val (.long q1), .second, .val (.int p2), .val (.int v2), .unset, .unset] [(.long (9223372036854775807 : Int64)), (.long q1)])) _
                  refine XS.land X0.here hx rfl (hb hby d1_60) rfl ?_
                  show Steps p.tables e below (s₁.setTop (mkF m 61 #[.val (.long q0), .second, .val (.long q1), .second, .val (.int p2), .val (.int v2), .unset, .unset] [(.long (q1 &&& (9223372036854775807 : Int64)))])) _
                  refine XS.lstore X0.here hx rfl (hb hby d1_61) rfl (l' := #[.val (.long q0), .second, .val (.long q1), .second, .val (.int p2), .val (.int v2), .val (.long (q1 &&& (9223372036854775807 : Int64))), .second]) rfl ?_
                  exact k)
              obtain ⟨v22, hv22⟩ : ∃ z : Int64, z = (q1 &&& (9223372036854775807 : Int64)) := ⟨_, rfl⟩
              have pre23 : ∀ t, Steps p.tables e below (s₁.setTop (mkF m 63 #[.val (.long q0), .second, .val (.long q1), .second, .val (.int p2), .val (.int v2), .val (.long v22), .second] [])) t → P t := fun t k => pre21 t (by subst hv22; exact k)
              have pre24 : ∀ t, Steps p.tables e below (s₁.setTop (mkF m 68 #[.val (.long q0), .second, .val (.long q1), .second, .val (.int p2), .val (.int v2), .val (.long v22), .second] [(.int (lcmpW q0 (9223372036854775807 : Int64)))])) t → P t := fun t k => pre23 t (by
                  show Steps p.tables e below (s₁.setTop (mkF m 63 #[.val (.long q0), .second, .val (.long q1), .second, .val (.int p2), .val (.int v2), .val (.long v22), .second] [])) _
                  refine XS.lloadN X0.here hx rfl (hb hby d1_63) rfl ?_
                  show Steps p.tables e below (s₁.setTop (mkF m 64 #[.val (.long q0), .second, .val (.long q1), .second, .val (.int p2), .val (.int v2), .val (.long v22), .second] [(.long q0)])) _
                  refine X0.ldc2Long hx hown (mvT hZ (hw _ (List.mem_of_getElem? (i := 0) rfl))) (g := (mkF m 64 #[.val (.long q0), .second, .val (.long q1), .second, .val (.int p2), .val (.int v2), .val (.long v22), .second] [(.long q0)])) rfl (hb hby d1_64) _ ?_
                  show Steps p.tables e below (s₁.setTop (mkF m 67 #[.val (.long q0), .second, .val (.long q1), .second, .val (.int p2), .val (.int v2), .val (.long v22), .second] [(.long (9223372036854775807 : Int64)), (.long q0)])) _
                  refine XS.lcmp X0.here hx rfl (hb hby d1_67) rfl ?_
                  exact k)
              by_cases hc25 : q0 = (9223372036854775807 : Int64)
              · have pre26 : ∀ t, Steps p.tables e below (s₁.setTop (mkF m 73 #[.val (.long q0), .second, .val (.long q1), .second, .val (.int p2), .val (.int v2), .val (.long v22), .second] [(.long v22)])) t → P t := fun t k => pre24 t (by
                    show Steps p.tables e below (s₁.setTop (mkF m 68 #[.val (.long q0), .second, .val (.long q1), .second, .val (.int p2), .val (.int v2), .val (.long v22), .second] [(.int (lcmpW q0 (9223372036854775807 : Int64)))])) _
                    refine XS.ifNo X0.here hx rfl (hb hby d1_68) rfl ((if0 _ _).trans (teq ((lw_eq _ _).mpr hc25)).2) ?_
                    show Steps p.tables e below (s₁.setTop (mkF m 71 #[.val (.long q0), .second, .val (.long q1), .second, .val (.int p2), .val (.int v2), .val (.long v22), .second] [])) _
                    refine XS.lload X0.here hx rfl (hb hby d1_71) rfl ?_
                    exact k)
                obtain ⟨fs, hr, hrun, hended, hW, hsame⟩ := X0.leave (v := some (.long v22)) (fun h => by rw [Bd.returns] at h; cases h)
                refine ⟨_, _, fin _ (pre26 _ ?_), hrun, hended, _, _, rfl, ?_, ⟨_, rfl⟩, hW, hsame.mono (by decide) (by decide)⟩
                · show Steps p.tables e below (s₁.setTop (mkF m 73 #[.val (.long q0), .second, .val (.long q1), .second, .val (.int p2), .val (.int v2), .val (.long v22), .second] [(.long v22)])) _
                  jvm_step X0.here [X0.here.top, hx, (hb hby d1_73), X0.method', Bd.returns, narrow]
                  first | (intro acts; rw [hr _ acts rfl rfl rfl]) | rw [hr _ _ rfl rfl rfl]
                  exact Steps.refl _
                · show Q1 Z q0 q1 p2 h0 n0 _ s₁.heap _
                  rw [e0]
                  exact ⟨(by subst hv2 hv22; first | (unfold own_f1; rw [if_neg hc5, if_neg hc8, if_neg hc11, if_neg hc14, if_neg hc17, if_pos hc20, if_pos hc25]; done) | simp only [own_f1, if_neg hc5, if_neg hc8, if_neg hc11, if_neg hc14, if_neg hc17, if_pos hc20, if_pos hc25] | simp [own_f1, if_neg hc5, if_neg hc8, if_neg hc11, if_neg hc14, if_neg hc17, if_pos hc20, if_pos hc25]), N0, rfl⟩
              · have pre27 : ∀ t, Steps p.tables e below (s₁.setTop (mkF m 80 #[.val (.long q0), .second, .val (.long q1), .second, .val (.int p2), .val (.int v2), .val (.long v22), .second] [(.long (v22 - (v22 / (q0 + (1 : Int64))) * (q0 + (1 : Int64))))])) t → P t := fun t k => pre24 t (by
                    show Steps p.tables e below (s₁.setTop (mkF m 68 #[.val (.long q0), .second, .val (.long q1), .second, .val (.int p2), .val (.int v2), .val (.long v22), .second] [(.int (lcmpW q0 (9223372036854775807 : Int64)))])) _
                    refine XS.ifYes X0.here hx rfl (pc0 := 68) (pc' := 74) rfl (hb hby d1_68) rfl ((if0 _ _).trans (feq (fun q => hc25 ((lw_eq _ _).mp q))).2) (by decide) (by decide) ?_
                    show Steps p.tables e below (s₁.setTop (mkF m 74 #[.val (.long q0), .second, .val (.long q1), .second, .val (.int p2), .val (.int v2), .val (.long v22), .second] [])) _
                    refine XS.lload X0.here hx rfl (hb hby d1_74) rfl ?_
                    show Steps p.tables e below (s₁.setTop (mkF m 76 #[.val (.long q0), .second, .val (.long q1), .second, .val (.int p2), .val (.int v2), .val (.long v22), .second] [(.long v22)])) _
                    refine XS.lloadN X0.here hx rfl (hb hby d1_76) rfl ?_
                    show Steps p.tables e below (s₁.setTop (mkF m 77 #[.val (.long q0), .second, .val (.long q1), .second, .val (.int p2), .val (.int v2), .val (.long v22), .second] [(.long q0), (.long v22)])) _
                    refine XS.lconst X0.here hx rfl (hb hby d1_77) ?_
                    show Steps p.tables e below (s₁.setTop (mkF m 78 #[.val (.long q0), .second, .val (.long q1), .second, .val (.int p2), .val (.int v2), .val (.long v22), .second] [(.long (1 : Int64)), (.long q0), (.long v22)])) _
                    refine XS.ladd X0.here hx rfl (hb hby d1_78) rfl ?_
                    show Steps p.tables e below (s₁.setTop (mkF m 79 #[.val (.long q0), .second, .val (.long q1), .second, .val (.int p2), .val (.int v2), .val (.long v22), .second] [(.long (q0 + (1 : Int64))), (.long v22)])) _
                    refine XS.lrem X0.here hx rfl (hb hby d1_79) rfl (own_nz q0 hd0) ?_
                    exact k)
                obtain ⟨fs, hr, hrun, hended, hW, hsame⟩ := X0.leave (v := some (.long (v22 - (v22 / (q0 + (1 : Int64))) * (q0 + (1 : Int64))))) (fun h => by rw [Bd.returns] at h; cases h)
                refine ⟨_, _, fin _ (pre27 _ ?_), hrun, hended, _, _, rfl, ?_, ⟨_, rfl⟩, hW, hsame.mono (by decide) (by decide)⟩
                · show Steps p.tables e below (s₁.setTop (mkF m 80 #[.val (.long q0), .second, .val (.long q1), .second, .val (.int p2), .val (.int v2), .val (.long v22), .second] [(.long (v22 - (v22 / (q0 + (1 : Int64))) * (q0 + (1 : Int64))))])) _
                  jvm_step X0.here [X0.here.top, hx, (hb hby d1_80), X0.method', Bd.returns, narrow]
                  first | (intro acts; rw [hr _ acts rfl rfl rfl]) | rw [hr _ _ rfl rfl rfl]
                  exact Steps.refl _
                · show Q1 Z q0 q1 p2 h0 n0 _ s₁.heap _
                  rw [e0]
                  exact ⟨(by subst hv2 hv22; first | (unfold own_f1; rw [if_neg hc5, if_neg hc8, if_neg hc11, if_neg hc14, if_neg hc17, if_pos hc20, if_neg hc25]; done) | simp only [own_f1, if_neg hc5, if_neg hc8, if_neg hc11, if_neg hc14, if_neg hc17, if_pos hc20, if_neg hc25] | simp [own_f1, if_neg hc5, if_neg hc8, if_neg hc11, if_neg hc14, if_neg hc17, if_pos hc20, if_neg hc25]), N0, rfl⟩
            · have pre28 : ∀ t, Steps p.tables e below (s₁.setTop (mkF m 85 #[.val (.long q0), .second, .val (.long q1), .second, .val (.int p2), .val (.int v2), .unset, .unset] [(.int (6 : Int32)), (.int v2)])) t → P t := fun t k => pre19 t (by
                  show Steps p.tables e below (s₁.setTop (mkF m 53 #[.val (.long q0), .second, .val (.long q1), .second, .val (.int p2), .val (.int v2), .unset, .unset] [(.int (5 : Int32)), (.int v2)])) _
                  refine XS.icmpYes X0.here hx rfl (pc0 := 53) (pc' := 81) rfl (hb hby d1_53) rfl (feq hc20).2 (by decide) (by decide) ?_
                  show Steps p.tables e below (s₁.setTop (mkF m 81 #[.val (.long q0), .second, .val (.long q1), .second, .val (.int p2), .val (.int v2), .unset, .unset] [])) _
                  refine XS.iload X0.here hx rfl (hb hby d1_81) rfl ?_
                  show Steps p.tables e below (s₁.setTop (mkF m 83 #[.val (.long q0), .second, .val (.long q1), .second, .val (.int p2), .val (.int v2), .unset, .unset] [(.int v2)])) _
                  refine XS.bipush X0.here hx rfl (hb hby d1_83) ?_
                  exact k)
              by_cases hc29 : v2 = (6 : Int32)
              · have pre30 : ∀ t, Steps p.tables e below (s₁.setTop (mkF m 93 #[.val (.long q0), .second, .val (.long q1), .second, .val (.int p2), .val (.int v2), .unset, .unset] [(.long (q1 &&& (9223372036854775807 : Int64)))])) t → P t := fun t k => pre28 t (by
                    show Steps p.tables e below (s₁.setTop (mkF m 85 #[.val (.long q0), .second, .val (.long q1), .second, .val (.int p2), .val (.int v2), .unset, .unset] [(.int (6 : Int32)), (.int v2)])) _
                    refine XS.icmpNo X0.here hx rfl (hb hby d1_85) rfl (teq hc29).2 ?_
                    show Steps p.tables e below (s₁.setTop (mkF m 88 #[.val (.long q0), .second, .val (.long q1), .second, .val (.int p2), .val (.int v2), .unset, .unset] [])) _
                    refine XS.lloadN X0.here hx rfl (hb hby d1_88) rfl ?_
                    show Steps p.tables e below (s₁.setTop (mkF m 89 #[.val (.long q0), .second, .val (.long q1), .second, .val (.int p2), .val (.int v2), .unset, .unset] [(.long q1)])) _
                    refine X0.ldc2Long hx hown (mvT hZ (hw _ (List.mem_of_getElem? (i := 0) rfl))) (g := (mkF m 89 #[.val (.long q0), .second, .val (.long q1), .second, .val (.int p2), .val (.int v2), .unset, .unset] [(.long q1)])) rfl (hb hby d1_89) _ ?_
                    show Steps p.tables e below (s₁.setTop (mkF m 92 #[.val (.long q0), .second, .val (.long q1), .second, .val (.int p2), .val (.int v2), .unset, .unset] [(.long (9223372036854775807 : Int64)), (.long q1)])) _
                    refine XS.land X0.here hx rfl (hb hby d1_92) rfl ?_
                    exact k)
                obtain ⟨fs, hr, hrun, hended, hW, hsame⟩ := X0.leave (v := some (.long (q1 &&& (9223372036854775807 : Int64)))) (fun h => by rw [Bd.returns] at h; cases h)
                refine ⟨_, _, fin _ (pre30 _ ?_), hrun, hended, _, _, rfl, ?_, ⟨_, rfl⟩, hW, hsame.mono (by decide) (by decide)⟩
                · show Steps p.tables e below (s₁.setTop (mkF m 93 #[.val (.long q0), .second, .val (.long q1), .second, .val (.int p2), .val (.int v2), .unset, .unset] [(.long (q1 &&& (9223372036854775807 : Int64)))])) _
                  jvm_step X0.here [X0.here.top, hx, (hb hby d1_93), X0.method', Bd.returns, narrow]
                  first | (intro acts; rw [hr _ acts rfl rfl rfl]) | rw [hr _ _ rfl rfl rfl]
                  exact Steps.refl _
                · show Q1 Z q0 q1 p2 h0 n0 _ s₁.heap _
                  rw [e0]
                  exact ⟨(by subst hv2; first | (unfold own_f1; rw [if_neg hc5, if_neg hc8, if_neg hc11, if_neg hc14, if_neg hc17, if_neg hc20, if_pos hc29]; done) | simp only [own_f1, if_neg hc5, if_neg hc8, if_neg hc11, if_neg hc14, if_neg hc17, if_neg hc20, if_pos hc29] | simp [own_f1, if_neg hc5, if_neg hc8, if_neg hc11, if_neg hc14, if_neg hc17, if_neg hc20, if_pos hc29]), N0, rfl⟩
              · have pre31 : ∀ t, Steps p.tables e below (s₁.setTop (mkF m 99 #[.val (.long q0), .second, .val (.long q1), .second, .val (.int p2), .val (.int v2), .unset, .unset] [(.long (q1 ||| (-9223372036854775808 : Int64)))])) t → P t := fun t k => pre28 t (by
                    show Steps p.tables e below (s₁.setTop (mkF m 85 #[.val (.long q0), .second, .val (.long q1), .second, .val (.int p2), .val (.int v2), .unset, .unset] [(.int (6 : Int32)), (.int v2)])) _
                    refine XS.icmpYes X0.here hx rfl (pc0 := 85) (pc' := 94) rfl (hb hby d1_85) rfl (feq hc29).2 (by decide) (by decide) ?_
                    show Steps p.tables e below (s₁.setTop (mkF m 94 #[.val (.long q0), .second, .val (.long q1), .second, .val (.int p2), .val (.int v2), .unset, .unset] [])) _
                    refine XS.lloadN X0.here hx rfl (hb hby d1_94) rfl ?_
                    show Steps p.tables e below (s₁.setTop (mkF m 95 #[.val (.long q0), .second, .val (.long q1), .second, .val (.int p2), .val (.int v2), .unset, .unset] [(.long q1)])) _
                    refine X0.ldc2Long hx hown (mvT hZ (hw _ (List.mem_of_getElem? (i := 29) rfl))) (g := (mkF m 95 #[.val (.long q0), .second, .val (.long q1), .second, .val (.int p2), .val (.int v2), .unset, .unset] [(.long q1)])) rfl (hb hby d1_95) _ ?_
                    show Steps p.tables e below (s₁.setTop (mkF m 98 #[.val (.long q0), .second, .val (.long q1), .second, .val (.int p2), .val (.int v2), .unset, .unset] [(.long (-9223372036854775808 : Int64)), (.long q1)])) _
                    refine XS.lor X0.here hx rfl (hb hby d1_98) rfl ?_
                    exact k)
                obtain ⟨fs, hr, hrun, hended, hW, hsame⟩ := X0.leave (v := some (.long (q1 ||| (-9223372036854775808 : Int64)))) (fun h => by rw [Bd.returns] at h; cases h)
                refine ⟨_, _, fin _ (pre31 _ ?_), hrun, hended, _, _, rfl, ?_, ⟨_, rfl⟩, hW, hsame.mono (by decide) (by decide)⟩
                · show Steps p.tables e below (s₁.setTop (mkF m 99 #[.val (.long q0), .second, .val (.long q1), .second, .val (.int p2), .val (.int v2), .unset, .unset] [(.long (q1 ||| (-9223372036854775808 : Int64)))])) _
                  jvm_step X0.here [X0.here.top, hx, (hb hby d1_99), X0.method', Bd.returns, narrow]
                  first | (intro acts; rw [hr _ acts rfl rfl rfl]) | rw [hr _ _ rfl rfl rfl]
                  exact Steps.refl _
                · show Q1 Z q0 q1 p2 h0 n0 _ s₁.heap _
                  rw [e0]
                  exact ⟨(by subst hv2; first | (unfold own_f1; rw [if_neg hc5, if_neg hc8, if_neg hc11, if_neg hc14, if_neg hc17, if_neg hc20, if_neg hc29]; done) | simp only [own_f1, if_neg hc5, if_neg hc8, if_neg hc11, if_neg hc14, if_neg hc17, if_neg hc20, if_neg hc29] | simp [own_f1, if_neg hc5, if_neg hc8, if_neg hc11, if_neg hc14, if_neg hc17, if_neg hc20, if_neg hc29]), N0, rfl⟩
theorem d3_0 : decode jdk_30_method_1_code 0 = .ok (.aload_n 0, 1) := by decide +kernel
theorem d3_1 : decode jdk_30_method_1_code 1 = .ok (.invokespecial 1, 3) := by decide +kernel
theorem d3_4 : decode jdk_30_method_1_code 4 = .ok (.return_, 1) := by decide +kernel
theorem pn_3 : plainName "java/lang/Record" = true := by first | (simp [plainName, overriddenIn]; done) | decide +kernel
theorem ef_3 (m : MethodId) (o0 : Addr) : entryFrame m #[(.ref o0)] 1 = mkF m 0 #[.val (.ref o0)] [] := by first | (simp [entryFrame, mkF, argsToLocals, Value.category]; done) | rfl
def Q3 (Z : State) (o0 : Addr) (h0 : Heap) (n0 : Nat) (v : Option Value) (h : Heap) (L : List Loc) : Prop := v = none ∧ Fr n0 L ∧ h = h0
set_option maxRecDepth 65536 in
set_option maxHeartbeats 40000000 in
theorem rm3 (l : Launch) (Z : State) (a0 : Array Value) (hw : ∀ d ∈ tables_1, d.before a0 Z = true) (ws : List Jvm.Cond) (o0 : Addr) (h0 : Heap) (n0 : Nat) (Z0 : n0 ≤ h0.size) :
    MetFree l (⟨"java/lang/Record", "<init>", "()V"⟩ : MethodName) (head1 (Jvm.Cond.code (⟨"java/lang/Record", "<init>", "()V"⟩ : MethodName) jdk_30_method_1_code 1 none :: ws) ({ frames := 1, cells := 0, slots := 0, locals := 12 } : Room)) (fun a U => a = #[(.ref o0)] ∧ Z.Warmed39 U.vm ∧ U.heap = h0) (fun _ _ _ _ _ => True) (fun _ U o U' => ∃ v L, o = .returned v ∧ Q3 Z o0 h0 n0 v U'.heap L ∧ FrameEnd U o U' L ({ frames := 1, cells := 0, slots := 0, locals := 12 } : Room).cells ({ frames := 1, cells := 0, slots := 0, locals := 12 } : Room).slots) := by
  refine MetFree.of_bodySF (plainFor_of_name pn_3) hisR ?_
  intro p e s m args below meth c s₁ Bd hml0 hP hK
  obtain ⟨rfl, hZ, hh⟩ := hP
  have hx := Bd.exec
  have hby := Bd.bytes
  have hml : c.maxLocals = 1 := hml0
  have hown : s.vm.findClass "java/lang/Record" = some m.cls := findClass_of_methodNamed Bd.named
  have hnm := (name_of_methodNamed Bd.named Bd.method).1
  have X0 : Stand p l e ({ frames := 1, cells := 0, slots := 0, locals := 12 } : Room) s m #[(.ref o0)] below meth c s₁ [] 0 0 := Stand.of_body Bd
  have e0 : s₁.heap = h0 := by rw [← hh, Bd.state]; rfl
  have N0 := Fr.nil n0
  obtain ⟨P, pre0, fin⟩ : ∃ P : State → Prop, (∀ t, Steps p.tables e below (s₁.setTop (mkF m 0 #[.val (.ref o0)] [])) t → P t) ∧ (∀ t, P t → Steps p.tables e below (s₁.setTop (entryFrame m #[(.ref o0)] 1)) t) := ⟨fun t => Steps p.tables e below (s₁.setTop (entryFrame m #[(.ref o0)] 1)) t, fun t k => castTop (ef_3 m o0) k, fun t k => k⟩
  have K0 : Keep h0 h0 [] := Keep.refl _ _
  have pre1 : ∀ t, Steps p.tables e below (s₁.setTop (mkF m 1 #[.val (.ref o0)] [(.ref o0)])) t → P t := fun t k => pre0 t (by
      show Steps p.tables e below (s₁.setTop (mkF m 0 #[.val (.ref o0)] [])) _
      refine XS.aloadN X0.here hx rfl (hb hby d3_0) rfl rfl ?_
      exact k)
  obtain ⟨T2, X2, e2, st2⟩ := initO X0 hx hZ hown (hw _ (List.mem_of_getElem? (i := 17) rfl)) (hw _ (List.mem_of_getElem? (i := 18) rfl)) (hw _ (List.mem_of_getElem? (i := 19) rfl)) e0 (g := (mkF m 1 #[.val (.ref o0)] [(.ref o0)])) rfl (by rw [hml]; rfl) rfl (hb hby d3_1) (by decide) (W := 0) (by show 2 * 0 + _ ≤ _; exact Nat.le_of_eq rfl) (by decide)
  have pre2 : ∀ t, Steps p.tables e below (T2.setTop (mkF m 4 #[.val (.ref o0)] [])) t → P t := fun t k => pre1 t (st2 _ k)
  obtain ⟨fs, hr, hrun, hended, hW, hsame⟩ := X2.leave (v := none) (fun _ => rfl)
  refine ⟨_, _, fin _ (pre2 _ ?_), hrun, hended, _, _, rfl, ?_, ⟨_, rfl⟩, hW, hsame.mono (by decide) (by decide)⟩
  · show Steps p.tables e below (T2.setTop (mkF m 4 #[.val (.ref o0)] [])) _
    exact X2.returnOut hx Bd.returns (hb hby d3_4) hr
  · show Q3 Z o0 h0 n0 _ T2.heap _
    rw [e2]
    exact ⟨rfl, N0, rfl⟩
theorem own_pd0 : parseMethodDescriptor "()V" = some ⟨[], none⟩ := by decide +kernel
theorem d2_0 : decode prog_97_method_1_code 0 = .ok (.aload_n 0, 1) := by decide +kernel
theorem d2_1 : decode prog_97_method_1_code 1 = .ok (.invokespecial 1, 3) := by decide +kernel
theorem d2_4 : decode prog_97_method_1_code 4 = .ok (.aload_n 0, 1) := by decide +kernel
theorem d2_5 : decode prog_97_method_1_code 5 = .ok (.lload_n 1, 1) := by decide +kernel
theorem d2_6 : decode prog_97_method_1_code 6 = .ok (.putfield 7, 3) := by decide +kernel
theorem d2_9 : decode prog_97_method_1_code 9 = .ok (.aload_n 0, 1) := by decide +kernel
theorem d2_10 : decode prog_97_method_1_code 10 = .ok (.lload_n 3, 1) := by decide +kernel
theorem d2_11 : decode prog_97_method_1_code 11 = .ok (.putfield 13, 3) := by decide +kernel
theorem d2_14 : decode prog_97_method_1_code 14 = .ok (.return_, 1) := by decide +kernel
theorem pn_2 : plainName "com/example/incarico/incarico/load/Pause" = true := by first | (simp [plainName, overriddenIn]; done) | decide +kernel
theorem ef_2 (m : MethodId) (o0 : Addr) (q1 : Int64) (q2 : Int64) : entryFrame m #[(.ref o0), (.long q1), (.long q2)] 5 = mkF m 0 #[.val (.ref o0), .val (.long q1), .second, .val (.long q2), .second] [] := by first | (simp [entryFrame, mkF, argsToLocals, Value.category]; done) | rfl
def Q2 (Z : State) (o0 : Addr) (q1 : Int64) (q2 : Int64) (h0 : Heap) (n0 : Nat) (v : Option Value) (h : Heap) (L : List Loc) : Prop := v = none ∧ Fr n0 L ∧ Keep h0 h [o0] ∧ Exa Z h o0 "com/example/incarico/incarico/load/Pause" ∧ Fld Z h o0 "com/example/incarico/incarico/load/Pause" "startNanos" "J" (.long q1) ∧ Fld Z h o0 "com/example/incarico/incarico/load/Pause" "endNanos" "J" (.long q2)
set_option maxRecDepth 65536 in
set_option maxHeartbeats 40000000 in
theorem rm2 (l : Launch) (Z : State) (a0 : Array Value) (hw : ∀ d ∈ tables_1, d.before a0 Z = true) (ws : List Jvm.Cond) (o0 : Addr) (q1 : Int64) (q2 : Int64) (h0 : Heap) (n0 : Nat) (Z0 : n0 ≤ h0.size) (E_o0 : Exa Z h0 o0 "com/example/incarico/incarico/load/Pause") (F_startNanos_o0 : Fld Z h0 o0 "com/example/incarico/incarico/load/Pause" "startNanos" "J" (.long (0 : Int64))) (F_endNanos_o0 : Fld Z h0 o0 "com/example/incarico/incarico/load/Pause" "endNanos" "J" (.long (0 : Int64))) (g_o0 : n0 ≤ o0) :
    MetFree l (⟨"com/example/incarico/incarico/load/Pause", "<init>", "(JJ)V"⟩ : MethodName) (head1 (Jvm.Cond.code (⟨"com/example/incarico/incarico/load/Pause", "<init>", "(JJ)V"⟩ : MethodName) prog_97_method_1_code 5 none :: ws) ({ frames := 2, cells := 0, slots := 0, locals := 24 } : Room)) (fun a U => a = #[(.ref o0), (.long q1), (.long q2)] ∧ Z.Warmed39 U.vm ∧ U.heap = h0) (fun _ _ _ _ _ => True) (fun _ U o U' => ∃ v L, o = .returned v ∧ Q2 Z o0 q1 q2 h0 n0 v U'.heap L ∧ FrameEnd U o U' L ({ frames := 2, cells := 0, slots := 0, locals := 24 } : Room).cells ({ frames := 2, cells := 0, slots := 0, locals := 24 } : Room).slots) := by
  refine MetFree.of_bodySF (plainFor_of_name pn_2) hisR ?_
  intro p e s m args below meth c s₁ Bd hml0 hP hK
  obtain ⟨rfl, hZ, hh⟩ := hP
  have hx := Bd.exec
  have hby := Bd.bytes
  have hml : c.maxLocals = 5 := hml0
  have hown : s.vm.findClass "com/example/incarico/incarico/load/Pause" = some m.cls := findClass_of_methodNamed Bd.named
  have hnm := (name_of_methodNamed Bd.named Bd.method).1
  have X0 : Stand p l e ({ frames := 2, cells := 0, slots := 0, locals := 24 } : Room) s m #[(.ref o0), (.long q1), (.long q2)] below meth c s₁ [] 0 0 := Stand.of_body Bd
  have e0 : s₁.heap = h0 := by rw [← hh, Bd.state]; rfl
  have N0 := Fr.nil n0
  obtain ⟨P, pre0, fin⟩ : ∃ P : State → Prop, (∀ t, Steps p.tables e below (s₁.setTop (mkF m 0 #[.val (.ref o0), .val (.long q1), .second, .val (.long q2), .second] [])) t → P t) ∧ (∀ t, P t → Steps p.tables e below (s₁.setTop (entryFrame m #[(.ref o0), (.long q1), (.long q2)] 5)) t) := ⟨fun t => Steps p.tables e below (s₁.setTop (entryFrame m #[(.ref o0), (.long q1), (.long q2)] 5)) t, fun t k => castTop (ef_2 m o0 q1 q2) k, fun t k => k⟩
  have K0 : Keep h0 h0 [o0] := Keep.refl _ _
  have pre1 : ∀ t, Steps p.tables e below (s₁.setTop (mkF m 1 #[.val (.ref o0), .val (.long q1), .second, .val (.long q2), .second] [(.ref o0)])) t → P t := fun t k => pre0 t (by
      show Steps p.tables e below (s₁.setTop (mkF m 0 #[.val (.ref o0), .val (.long q1), .second, .val (.long q2), .second] [])) _
      refine XS.aloadN X0.here hx rfl (hb hby d2_0) rfl rfl ?_
      exact k)
  obtain ⟨_, _, ⟨T2, L2, k2, n2⟩, -, X2, ⟨Lc2, hQ2, l2, y2, z2⟩, st2⟩ := X0.specialBack hx (y := (⟨"java/lang/Record", "<init>", "()V"⟩ : MethodName)) rfl hown (mvT hZ (hw _ (List.mem_of_getElem? (i := 12) rfl))) (mvT hZ (hw _ (List.mem_of_getElem? (i := 13) rfl))) (mvT hZ (hw _ (List.mem_of_getElem? (i := 16) rfl))) (by decide) (backOf (W := 0) (rm3 l Z a0 hw [] o0 h0 n0 Z0 ) hZ (hw _ (List.mem_of_getElem? (i := 16) rfl)) (hw _ (List.mem_of_getElem? (i := 15) rfl)) (by decide) (by decide)) (g := (mkF m 1 #[.val (.ref o0), .val (.long q1), .second, .val (.long q2), .second] [(.ref o0)])) rfl (by rw [hml]; rfl) (Steps.refl _) (a := o0) (argsL := []) (rest := []) (lenOf own_pd0 rfl) rfl (by show 2 * 0 + _ ≤ _; exact Nat.le_of_eq rfl) (hb hby d2_1) (fun _ _ => ⟨rfl, e0, (by decide : 0 + 0 ≤ _), (by decide : 0 + 0 ≤ _)⟩)
  dsimp only [Pt.U, Pt.locs, Pt.cells, Pt.slots] at X2 l2 y2 z2 st2 hQ2
  subst l2 y2 z2
  obtain ⟨rfl, N2q, e2⟩ := hQ2
  have N2 := Fr.app N0 N2q
  have pre2 : ∀ t, Steps p.tables e below (T2.setTop (mkF m 4 #[.val (.ref o0), .val (.long q1), .second, .val (.long q2), .second] [])) t → P t := fun t k => pre1 t (st2.trans k)
  have pre3 : ∀ t, Steps p.tables e below (T2.setTop (mkF m 6 #[.val (.ref o0), .val (.long q1), .second, .val (.long q2), .second] [(.long q1), (.ref o0)])) t → P t := fun t k => pre2 t (by
      show Steps p.tables e below (T2.setTop (mkF m 4 #[.val (.ref o0), .val (.long q1), .second, .val (.long q2), .second] [])) _
      refine XS.aloadN X2.here hx rfl (hb hby d2_4) rfl rfl ?_
      show Steps p.tables e below (T2.setTop (mkF m 5 #[.val (.ref o0), .val (.long q1), .second, .val (.long q2), .second] [(.ref o0)])) _
      refine XS.lloadN X2.here hx rfl (hb hby d2_5) rfl ?_
      exact k)
  obtain ⟨T4, h4, X4, e4, W4, st4⟩ := putF X2 hx hZ hown (host := "") (Or.inl (hw _ (List.mem_of_getElem? (i := 20) rfl))) Via.refl e2 F_startNanos_o0 E_o0 (Or.inr ⟨(hw _ (List.mem_of_getElem? (i := 21) rfl)), rfl, hnm⟩) (hw _ (List.mem_of_getElem? (i := 7) rfl)) (ty := .long) (by decide) rfl rfl (g := (mkF m 6 #[.val (.ref o0), .val (.long q1), .second, .val (.long q2), .second] [(.long q1), (.ref o0)])) rfl rfl (hb hby d2_6)
  have pre4 : ∀ t, Steps p.tables e below (T4.setTop (mkF m 9 #[.val (.ref o0), .val (.long q1), .second, .val (.long q2), .second] [])) t → P t := fun t k => pre3 t (st4 _ k)
  have Fw4 := F_startNanos_o0.same W4
  have c5 : n0 ≤ h4.size := Nat.le_trans Z0 (Keep.of_wr W4).1
  have c6 : Exa Z h4 o0 "com/example/incarico/incarico/load/Pause" := E_o0.wr W4
  have c7 : Fld Z h4 o0 "com/example/incarico/incarico/load/Pause" "endNanos" "J" (.long (0 : Int64)) := F_endNanos_o0.other W4 (Or.inr (slot_ne (Or.inr (hw _ (List.mem_of_getElem? (i := 23) rfl))) (Or.inr (hw _ (List.mem_of_getElem? (i := 21) rfl))) (by decide) (t := .long) (t' := .long) (by decide) (by decide)))
  have K8 : Keep h0 h4 [o0] := K0.wr W4 (Or.inl (List.mem_of_getElem? (i := 0) rfl))
  have N4 := Fr.snoc X4 N2 g_o0
  have pre9 : ∀ t, Steps p.tables e below (T4.setTop (mkF m 11 #[.val (.ref o0), .val (.long q1), .second, .val (.long q2), .second] [(.long q2), (.ref o0)])) t → P t := fun t k => pre4 t (by
      show Steps p.tables e below (T4.setTop (mkF m 9 #[.val (.ref o0), .val (.long q1), .second, .val (.long q2), .second] [])) _
      refine XS.aloadN X4.here hx rfl (hb hby d2_9) rfl rfl ?_
      show Steps p.tables e below (T4.setTop (mkF m 10 #[.val (.ref o0), .val (.long q1), .second, .val (.long q2), .second] [(.ref o0)])) _
      refine XS.lloadN X4.here hx rfl (hb hby d2_10) rfl ?_
      exact k)
  obtain ⟨T10, h10, X10, e10, W10, st10⟩ := putF X4 hx hZ hown (host := "") (Or.inl (hw _ (List.mem_of_getElem? (i := 22) rfl))) Via.refl e4 c7 c6 (Or.inr ⟨(hw _ (List.mem_of_getElem? (i := 23) rfl)), rfl, hnm⟩) (hw _ (List.mem_of_getElem? (i := 7) rfl)) (ty := .long) (by decide) rfl rfl (g := (mkF m 11 #[.val (.ref o0), .val (.long q1), .second, .val (.long q2), .second] [(.long q2), (.ref o0)])) rfl rfl (hb hby d2_11)
  have pre10 : ∀ t, Steps p.tables e below (T10.setTop (mkF m 14 #[.val (.ref o0), .val (.long q1), .second, .val (.long q2), .second] [])) t → P t := fun t k => pre9 t (st10 _ k)
  have Fw10 := c7.same W10
  have c11 : n0 ≤ h10.size := Nat.le_trans c5 (Keep.of_wr W10).1
  have c12 : Exa Z h10 o0 "com/example/incarico/incarico/load/Pause" := c6.wr W10
  have c13 : Fld Z h10 o0 "com/example/incarico/incarico/load/Pause" "startNanos" "J" (.long q1) := Fw4.other W10 (Or.inr (slot_ne (Or.inr (hw _ (List.mem_of_getElem? (i := 21) rfl))) (Or.inr (hw _ (List.mem_of_getElem? (i := 23) rfl))) (by decide) (t := .long) (t' := .long) (by decide) (by decide)))
  have K14 : Keep h0 h10 [o0] := K8.wr W10 (Or.inl (List.mem_of_getElem? (i := 0) rfl))
  have N10 := Fr.snoc X10 N4 g_o0
  obtain ⟨fs, hr, hrun, hended, hW, hsame⟩ := X10.leave (v := none) (fun _ => rfl)
  refine ⟨_, _, fin _ (pre10 _ ?_), hrun, hended, _, _, rfl, ?_, ⟨_, rfl⟩, hW, hsame.mono (by decide) (by decide)⟩
  · show Steps p.tables e below (T10.setTop (mkF m 14 #[.val (.ref o0), .val (.long q1), .second, .val (.long q2), .second] [])) _
    exact X10.returnOut hx Bd.returns (hb hby d2_14) hr
  · show Q2 Z o0 q1 q2 h0 n0 _ T10.heap _
    rw [e10]
    exact ⟨rfl, N10, K14, c12, c13, Fw10⟩
theorem d5_0 : decode prog_97_method_2_code 0 = .ok (.lload_n 1, 1) := by decide +kernel
theorem d5_1 : decode prog_97_method_2_code 1 = .ok (.aload_n 0, 1) := by decide +kernel
theorem d5_2 : decode prog_97_method_2_code 2 = .ok (.getfield 7, 3) := by decide +kernel
theorem d5_5 : decode prog_97_method_2_code 5 = .ok (.lsub, 1) := by decide +kernel
theorem d5_6 : decode prog_97_method_2_code 6 = .ok (.lconst 0, 1) := by decide +kernel
theorem d5_7 : decode prog_97_method_2_code 7 = .ok (.lcmp, 1) := by decide +kernel
theorem d5_8 : decode prog_97_method_2_code 8 = .ok (.ifCond .lt 23, 3) := by decide +kernel
theorem d5_11 : decode prog_97_method_2_code 11 = .ok (.lload_n 1, 1) := by decide +kernel
theorem d5_12 : decode prog_97_method_2_code 12 = .ok (.aload_n 0, 1) := by decide +kernel
theorem d5_13 : decode prog_97_method_2_code 13 = .ok (.getfield 13, 3) := by decide +kernel
theorem d5_16 : decode prog_97_method_2_code 16 = .ok (.lsub, 1) := by decide +kernel
theorem d5_17 : decode prog_97_method_2_code 17 = .ok (.lconst 0, 1) := by decide +kernel
theorem d5_18 : decode prog_97_method_2_code 18 = .ok (.lcmp, 1) := by decide +kernel
theorem d5_19 : decode prog_97_method_2_code 19 = .ok (.ifCond .ge 12, 3) := by decide +kernel
theorem d5_22 : decode prog_97_method_2_code 22 = .ok (.aload_n 0, 1) := by decide +kernel
theorem d5_23 : decode prog_97_method_2_code 23 = .ok (.getfield 13, 3) := by decide +kernel
theorem d5_26 : decode prog_97_method_2_code 26 = .ok (.lload_n 1, 1) := by decide +kernel
theorem d5_27 : decode prog_97_method_2_code 27 = .ok (.lsub, 1) := by decide +kernel
theorem d5_28 : decode prog_97_method_2_code 28 = .ok (.goto 4, 3) := by decide +kernel
theorem d5_31 : decode prog_97_method_2_code 31 = .ok (.lconst 0, 1) := by decide +kernel
theorem d5_32 : decode prog_97_method_2_code 32 = .ok (.lreturn, 1) := by decide +kernel
theorem pn_5 : plainName "com/example/incarico/incarico/load/Pause" = true := by first | (simp [plainName, overriddenIn]; done) | decide +kernel
theorem ef_5 (m : MethodId) (o0 : Addr) (q1 : Int64) : entryFrame m #[(.ref o0), (.long q1)] 3 = mkF m 0 #[.val (.ref o0), .val (.long q1), .second] [] := by first | (simp [entryFrame, mkF, argsToLocals, Value.category]; done) | rfl
def own_f5 (q1 : Int64) (w_startNanos_o0 : Int64) (w_endNanos_o0 : Int64) : Int64 := (if (q1 - w_startNanos_o0) < (0 : Int64) then (0 : Int64) else (if (q1 - w_endNanos_o0) < (0 : Int64) then (w_endNanos_o0 - q1) else (0 : Int64)))
def Q5 (Z : State) (o0 : Addr) (q1 : Int64) (w_startNanos_o0 : Int64) (w_endNanos_o0 : Int64) (h0 : Heap) (n0 : Nat) (v : Option Value) (h : Heap) (L : List Loc) : Prop := v = some (.long (own_f5 q1 w_startNanos_o0 w_endNanos_o0)) ∧ Fr n0 L ∧ h = h0
set_option maxRecDepth 65536 in
set_option maxHeartbeats 40000000 in
theorem rm5 (l : Launch) (Z : State) (a0 : Array Value) (hw : ∀ d ∈ tables_1, d.before a0 Z = true) (ws : List Jvm.Cond) (o0 : Addr) (q1 : Int64) (w_startNanos_o0 : Int64) (w_endNanos_o0 : Int64) (h0 : Heap) (n0 : Nat) (Z0 : n0 ≤ h0.size) (F_startNanos_o0 : Fld Z h0 o0 "com/example/incarico/incarico/load/Pause" "startNanos" "J" (.long w_startNanos_o0)) (F_endNanos_o0 : Fld Z h0 o0 "com/example/incarico/incarico/load/Pause" "endNanos" "J" (.long w_endNanos_o0)) :
    MetFree l (⟨"com/example/incarico/incarico/load/Pause", "waitNanos", "(J)J"⟩ : MethodName) (head1 (Jvm.Cond.code (⟨"com/example/incarico/incarico/load/Pause", "waitNanos", "(J)J"⟩ : MethodName) prog_97_method_2_code 3 (some .long) :: ws) ({ frames := 0, cells := 0, slots := 0, locals := 0 } : Room)) (fun a U => a = #[(.ref o0), (.long q1)] ∧ Z.Warmed39 U.vm ∧ U.heap = h0) (fun _ _ _ _ _ => True) (fun _ U o U' => ∃ v L, o = .returned v ∧ Q5 Z o0 q1 w_startNanos_o0 w_endNanos_o0 h0 n0 v U'.heap L ∧ FrameEnd U o U' L ({ frames := 0, cells := 0, slots := 0, locals := 0 } : Room).cells ({ frames := 0, cells := 0, slots := 0, locals := 0 } : Room).slots) := by
  refine MetFree.of_bodySF (plainFor_of_name pn_5) hisR ?_
  intro p e s m args below meth c s₁ Bd hml0 hP hK
  obtain ⟨rfl, hZ, hh⟩ := hP
  have hx := Bd.exec
  have hby := Bd.bytes
  have hml : c.maxLocals = 3 := hml0
  have hown : s.vm.findClass "com/example/incarico/incarico/load/Pause" = some m.cls := findClass_of_methodNamed Bd.named
  have hnm := (name_of_methodNamed Bd.named Bd.method).1
  have X0 : Stand p l e ({ frames := 0, cells := 0, slots := 0, locals := 0 } : Room) s m #[(.ref o0), (.long q1)] below meth c s₁ [] 0 0 := Stand.of_body Bd
  have e0 : s₁.heap = h0 := by rw [← hh, Bd.state]; rfl
  have N0 := Fr.nil n0
  obtain ⟨P, pre0, fin⟩ : ∃ P : State → Prop, (∀ t, Steps p.tables e below (s₁.setTop (mkF m 0 #[.val (.ref o0), .val (.long q1), .second] [])) t → P t) ∧ (∀ t, P t → Steps p.tables e below (s₁.setTop (entryFrame m #[(.ref o0), (.long q1)] 3)) t) := ⟨fun t => Steps p.tables e below (s₁.setTop (entryFrame m #[(.ref o0), (.long q1)] 3)) t, fun t k => castTop (ef_5 m o0 q1) k, fun t k => k⟩
  have K0 : Keep h0 h0 [] := Keep.refl _ _
  have pre1 : ∀ t, Steps p.tables e below (s₁.setTop (mkF m 2 #[.val (.ref o0), .val (.long q1), .second] [(.ref o0), (.long q1)])) t → P t := fun t k => pre0 t (by
      show Steps p.tables e below (s₁.setTop (mkF m 0 #[.val (.ref o0), .val (.long q1), .second] [])) _
      refine XS.lloadN X0.here hx rfl (hb hby d5_0) rfl ?_
      show Steps p.tables e below (s₁.setTop (mkF m 1 #[.val (.ref o0), .val (.long q1), .second] [(.long q1)])) _
      refine XS.aloadN X0.here hx rfl (hb hby d5_1) rfl rfl ?_
      exact k)
  obtain ⟨T2, X2, e2, st2⟩ := getF X0 hx hZ hown (host := "") (Or.inl (hw _ (List.mem_of_getElem? (i := 20) rfl))) Via.refl e0 F_startNanos_o0 (g := (mkF m 2 #[.val (.ref o0), .val (.long q1), .second] [(.ref o0), (.long q1)])) rfl rfl (hb hby d5_2)
  have pre2 : ∀ t, Steps p.tables e below (T2.setTop (mkF m 5 #[.val (.ref o0), .val (.long q1), .second] [(.long w_startNanos_o0), (.long q1)])) t → P t := fun t k => pre1 t (st2 _ k)
  have pre3 : ∀ t, Steps p.tables e below (T2.setTop (mkF m 8 #[.val (.ref o0), .val (.long q1), .second] [(.int (lcmpW (q1 - w_startNanos_o0) (0 : Int64)))])) t → P t := fun t k => pre2 t (by
      show Steps p.tables e below (T2.setTop (mkF m 5 #[.val (.ref o0), .val (.long q1), .second] [(.long w_startNanos_o0), (.long q1)])) _
      refine XS.lsub X2.here hx rfl (hb hby d5_5) rfl ?_
      show Steps p.tables e below (T2.setTop (mkF m 6 #[.val (.ref o0), .val (.long q1), .second] [(.long (q1 - w_startNanos_o0))])) _
      refine XS.lconst X2.here hx rfl (hb hby d5_6) ?_
      show Steps p.tables e below (T2.setTop (mkF m 7 #[.val (.ref o0), .val (.long q1), .second] [(.long (0 : Int64)), (.long (q1 - w_startNanos_o0))])) _
      refine XS.lcmp X2.here hx rfl (hb hby d5_7) rfl ?_
      exact k)
  obtain ⟨T15, L15, v14, X15, e15, N15, hv14, pre15⟩ : ∃ (T' : State) (L' : List Loc) (v14 : Int64), Stand p l e ({ frames := 0, cells := 0, slots := 0, locals := 0 } : Room) s m #[(.ref o0), (.long q1)] below meth c T' L' 0 0 ∧ T'.heap = h0 ∧ Fr n0 L' ∧ v14 = (if (q1 - w_startNanos_o0) < (0 : Int64) then (0 : Int64) else (if (q1 - w_endNanos_o0) < (0 : Int64) then (w_endNanos_o0 - q1) else (0 : Int64))) ∧ (∀ t, Steps p.tables e below (T'.setTop (mkF m 32 #[.val (.ref o0), .val (.long q1), .second] [(.long v14)])) t → P t) := by
    by_cases hc4 : (q1 - w_startNanos_o0) < (0 : Int64)
    · have pre5 : ∀ t, Steps p.tables e below (T2.setTop (mkF m 32 #[.val (.ref o0), .val (.long q1), .second] [(.long (0 : Int64))])) t → P t := fun t k => pre3 t (by
          show Steps p.tables e below (T2.setTop (mkF m 8 #[.val (.ref o0), .val (.long q1), .second] [(.int (lcmpW (q1 - w_startNanos_o0) (0 : Int64)))])) _
          refine XS.ifYes X2.here hx rfl (pc0 := 8) (pc' := 31) rfl (hb hby d5_8) rfl ((if0 _ _).trans (tlt ((lw_lt _ _).mpr hc4)).1) (by decide) (by decide) ?_
          show Steps p.tables e below (T2.setTop (mkF m 31 #[.val (.ref o0), .val (.long q1), .second] [])) _
          refine XS.lconst X2.here hx rfl (hb hby d5_31) ?_
          exact k)
      exact ⟨_, _, (0 : Int64), X2, e2, N0, (by first | (rw [if_pos hc4]; done) | simp only [if_pos hc4] | simp [if_pos hc4]), pre5⟩
    · have pre6 : ∀ t, Steps p.tables e below (T2.setTop (mkF m 13 #[.val (.ref o0), .val (.long q1), .second] [(.ref o0), (.long q1)])) t → P t := fun t k => pre3 t (by
          show Steps p.tables e below (T2.setTop (mkF m 8 #[.val (.ref o0), .val (.long q1), .second] [(.int (lcmpW (q1 - w_startNanos_o0) (0 : Int64)))])) _
          refine XS.ifNo X2.here hx rfl (hb hby d5_8) rfl ((if0 _ _).trans (flt (fun q => hc4 ((lw_lt _ _).mp q))).1) ?_
          show Steps p.tables e below (T2.setTop (mkF m 11 #[.val (.ref o0), .val (.long q1), .second] [])) _
          refine XS.lloadN X2.here hx rfl (hb hby d5_11) rfl ?_
          show Steps p.tables e below (T2.setTop (mkF m 12 #[.val (.ref o0), .val (.long q1), .second] [(.long q1)])) _
          refine XS.aloadN X2.here hx rfl (hb hby d5_12) rfl rfl ?_
          exact k)
      obtain ⟨T7, X7, e7, st7⟩ := getF X2 hx hZ hown (host := "") (Or.inl (hw _ (List.mem_of_getElem? (i := 22) rfl))) Via.refl e2 F_endNanos_o0 (g := (mkF m 13 #[.val (.ref o0), .val (.long q1), .second] [(.ref o0), (.long q1)])) rfl rfl (hb hby d5_13)
      have pre7 : ∀ t, Steps p.tables e below (T7.setTop (mkF m 16 #[.val (.ref o0), .val (.long q1), .second] [(.long w_endNanos_o0), (.long q1)])) t → P t := fun t k => pre6 t (st7 _ k)
      have pre8 : ∀ t, Steps p.tables e below (T7.setTop (mkF m 19 #[.val (.ref o0), .val (.long q1), .second] [(.int (lcmpW (q1 - w_endNanos_o0) (0 : Int64)))])) t → P t := fun t k => pre7 t (by
          show Steps p.tables e below (T7.setTop (mkF m 16 #[.val (.ref o0), .val (.long q1), .second] [(.long w_endNanos_o0), (.long q1)])) _
          refine XS.lsub X7.here hx rfl (hb hby d5_16) rfl ?_
          show Steps p.tables e below (T7.setTop (mkF m 17 #[.val (.ref o0), .val (.long q1), .second] [(.long (q1 - w_endNanos_o0))])) _
          refine XS.lconst X7.here hx rfl (hb hby d5_17) ?_
          show Steps p.tables e below (T7.setTop (mkF m 18 #[.val (.ref o0), .val (.long q1), .second] [(.long (0 : Int64)), (.long (q1 - w_endNanos_o0))])) _
          refine XS.lcmp X7.here hx rfl (hb hby d5_18) rfl ?_
          exact k)
      by_cases hc9 : (q1 - w_endNanos_o0) < (0 : Int64)
      · have pre10 : ∀ t, Steps p.tables e below (T7.setTop (mkF m 23 #[.val (.ref o0), .val (.long q1), .second] [(.ref o0)])) t → P t := fun t k => pre8 t (by
            show Steps p.tables e below (T7.setTop (mkF m 19 #[.val (.ref o0), .val (.long q1), .second] [(.int (lcmpW (q1 - w_endNanos_o0) (0 : Int64)))])) _
            refine XS.ifNo X7.here hx rfl (hb hby d5_19) rfl ((if0 _ _).trans (tlt ((lw_lt _ _).mpr hc9)).2.1) ?_
            show Steps p.tables e below (T7.setTop (mkF m 22 #[.val (.ref o0), .val (.long q1), .second] [])) _
            refine XS.aloadN X7.here hx rfl (hb hby d5_22) rfl rfl ?_
            exact k)
        obtain ⟨T11, X11, e11, st11⟩ := getF X7 hx hZ hown (host := "") (Or.inl (hw _ (List.mem_of_getElem? (i := 22) rfl))) Via.refl e7 F_endNanos_o0 (g := (mkF m 23 #[.val (.ref o0), .val (.long q1), .second] [(.ref o0)])) rfl rfl (hb hby d5_23)
        have pre11 : ∀ t, Steps p.tables e below (T11.setTop (mkF m 26 #[.val (.ref o0), .val (.long q1), .second] [(.long w_endNanos_o0)])) t → P t := fun t k => pre10 t (st11 _ k)
        have pre12 : ∀ t, Steps p.tables e below (T11.setTop (mkF m 32 #[.val (.ref o0), .val (.long q1), .second] [(.long (w_endNanos_o0 - q1))])) t → P t := fun t k => pre11 t (by
            show Steps p.tables e below (T11.setTop (mkF m 26 #[.val (.ref o0), .val (.long q1), .second] [(.long w_endNanos_o0)])) _
            refine XS.lloadN X11.here hx rfl (hb hby d5_26) rfl ?_
            show Steps p.tables e below (T11.setTop (mkF m 27 #[.val (.ref o0), .val (.long q1), .second] [(.long q1), (.long w_endNanos_o0)])) _
            refine XS.lsub X11.here hx rfl (hb hby d5_27) rfl ?_
            show Steps p.tables e below (T11.setTop (mkF m 28 #[.val (.ref o0), .val (.long q1), .second] [(.long (w_endNanos_o0 - q1))])) _
            refine XS.goto X11.here hx rfl (pc0 := 28) (pc' := 32) rfl (hb hby d5_28) (by decide) (by decide) ?_
            exact k)
        exact ⟨_, _, (w_endNanos_o0 - q1), X11, e11, N0, (by first | (rw [if_neg hc4, if_pos hc9]; done) | simp only [if_neg hc4, if_pos hc9] | simp [if_neg hc4, if_pos hc9]), pre12⟩
      · have pre13 : ∀ t, Steps p.tables e below (T7.setTop (mkF m 32 #[.val (.ref o0), .val (.long q1), .second] [(.long (0 : Int64))])) t → P t := fun t k => pre8 t (by
            show Steps p.tables e below (T7.setTop (mkF m 19 #[.val (.ref o0), .val (.long q1), .second] [(.int (lcmpW (q1 - w_endNanos_o0) (0 : Int64)))])) _
            refine XS.ifYes X7.here hx rfl (pc0 := 19) (pc' := 31) rfl (hb hby d5_19) rfl ((if0 _ _).trans (flt (fun q => hc9 ((lw_lt _ _).mp q))).2.1) (by decide) (by decide) ?_
            show Steps p.tables e below (T7.setTop (mkF m 31 #[.val (.ref o0), .val (.long q1), .second] [])) _
            refine XS.lconst X7.here hx rfl (hb hby d5_31) ?_
            exact k)
        exact ⟨_, _, (0 : Int64), X7, e7, N0, (by first | (rw [if_neg hc4, if_neg hc9]; done) | simp only [if_neg hc4, if_neg hc9] | simp [if_neg hc4, if_neg hc9]), pre13⟩
  obtain ⟨fs, hr, hrun, hended, hW, hsame⟩ := X15.leave (v := some (.long v14)) (fun h => by rw [Bd.returns] at h; cases h)
  refine ⟨_, _, fin _ (pre15 _ ?_), hrun, hended, _, _, rfl, ?_, ⟨_, rfl⟩, hW, hsame.mono (by decide) (by decide)⟩
  · show Steps p.tables e below (T15.setTop (mkF m 32 #[.val (.ref o0), .val (.long q1), .second] [(.long v14)])) _
    jvm_step X15.here [X15.here.top, hx, (hb hby d5_32), X15.method', Bd.returns, narrow]
    first | (intro acts; rw [hr _ acts rfl rfl rfl]) | rw [hr _ _ rfl rfl rfl]
    exact Steps.refl _
  · show Q5 Z o0 q1 w_startNanos_o0 w_endNanos_o0 h0 n0 _ T15.heap _
    rw [e15]
    exact ⟨(by subst hv14; first | rfl | simp only [own_f5]), N15, rfl⟩
theorem own_pd1 : parseMethodDescriptor "(JJI)J" = some ⟨[.long, .long, .int], some .long⟩ := by decide +kernel
theorem own_pd2 : parseMethodDescriptor "(JJ)V" = some ⟨[.long, .long], none⟩ := by decide +kernel
theorem own_pd3 : parseMethodDescriptor "(J)J" = some ⟨[.long], some .long⟩ := by decide +kernel
theorem pn_0 : plainName "com/example/incarico/incarico/load/PauseWaitNanosPinLaw" = true := by first | (simp [plainName, overriddenIn]; done) | decide +kernel
theorem ef_0 (m : MethodId) (q0 : Int64) (q1 : Int64) (q2 : Int64) (p3 : Int32) : entryFrame m #[(.long q0), (.long q1), (.long q2), (.int p3)] maxLocals = mkF m 0 #[.val (.long q0), .second, .val (.long q1), .second, .val (.long q2), .second, .val (.int p3), .unset, .unset, .unset, .unset, .unset, .unset, .unset, .unset, .unset, .unset, .unset, .unset, .unset] [] := by first | (simp [entryFrame, mkF, argsToLocals, Value.category, maxLocals]; done) | rfl
def own_f0 (q0 : Int64) (q1 : Int64) (q2 : Int64) (p3 : Int32) : Int32 := (let v2 : Int64 := (q1 &&& (9223372036854775807 : Int64)); (let v6 : Int64 := (own_f1 v2 q2 p3); (let v9 : Int64 := (q0 + v2); (let v12 : Int64 := (q0 + v6); (let v24 : Int64 := (own_f5 v12 q0 v9); (let v36 : Int64 := (if v6 < (0 : Int64) then (0 : Int64) else (if v6 < v2 then (v2 - v6) else (0 : Int64))); (if v24 = v36 then (if v24 < (0 : Int64) then (0 : Int32) else (if v2 < v24 then (0 : Int32) else (1 : Int32))) else (0 : Int32))))))))
def Q0 (Z : State) (q0 : Int64) (q1 : Int64) (q2 : Int64) (p3 : Int32) (h0 : Heap) (n0 : Nat) (v : Option Value) (h : Heap) (L : List Loc) : Prop := v = some (.int (own_f0 q0 q1 q2 p3)) ∧ Fr n0 L
set_option maxRecDepth 65536 in
set_option maxHeartbeats 40000000 in
theorem rm0 (l : Launch) (Z : State) (a0 : Array Value) (hw : ∀ d ∈ tables_1, d.before a0 Z = true) (ws : List Jvm.Cond) (q0 : Int64) (q1 : Int64) (q2 : Int64) (p3 : Int32) (h0 : Heap) (n0 : Nat) (Z0 : n0 ≤ h0.size) :
    MetFree l x (head1 (Jvm.Cond.code x code maxLocals ret :: ws) room_1) (fun a U => a = #[(.long q0), (.long q1), (.long q2), (.int p3)] ∧ Z.Warmed39 U.vm ∧ U.heap = h0) (fun _ _ _ _ _ => True) (fun _ U o U' => ∃ v L, o = .returned v ∧ Q0 Z q0 q1 q2 p3 h0 n0 v U'.heap L ∧ FrameEnd U o U' L room_1.cells room_1.slots) := by
  refine MetFree.of_bodySF (plainFor_of_name pn_0) hisR ?_
  intro p e s m args below meth c s₁ Bd hml0 hP hK
  obtain ⟨rfl, hZ, hh⟩ := hP
  have hx := Bd.exec
  have hby := Bd.bytes
  have hml : c.maxLocals = 20 := hml0
  have hown : s.vm.findClass "com/example/incarico/incarico/load/PauseWaitNanosPinLaw" = some m.cls := findClass_of_methodNamed Bd.named
  have hnm := (name_of_methodNamed Bd.named Bd.method).1
  have X0 : Stand p l e room_1 s m #[(.long q0), (.long q1), (.long q2), (.int p3)] below meth c s₁ [] 0 0 := Stand.of_body Bd
  have e0 : s₁.heap = h0 := by rw [← hh, Bd.state]; rfl
  have N0 := Fr.nil n0
  obtain ⟨P, pre0, fin⟩ : ∃ P : State → Prop, (∀ t, Steps p.tables e below (s₁.setTop (mkF m 0 #[.val (.long q0), .second, .val (.long q1), .second, .val (.long q2), .second, .val (.int p3), .unset, .unset, .unset, .unset, .unset, .unset, .unset, .unset, .unset, .unset, .unset, .unset, .unset] [])) t → P t) ∧ (∀ t, P t → Steps p.tables e below (s₁.setTop (entryFrame m #[(.long q0), (.long q1), (.long q2), (.int p3)] maxLocals)) t) := ⟨fun t => Steps p.tables e below (s₁.setTop (entryFrame m #[(.long q0), (.long q1), (.long q2), (.int p3)] maxLocals)) t, fun t k => castTop (ef_0 m q0 q1 q2 p3) k, fun t k => k⟩
  have K0 : Keep h0 h0 [] := Keep.refl _ _
  have pre1 : ∀ t, Steps p.tables e below (s₁.setTop (mkF m 7 #[.val (.long q0), .second, .val (.long q1), .second, .val (.long q2), .second, .val (.int p3), .val (.long (q1 &&& (9223372036854775807 : Int64))), .second, .unset, .unset, .unset, .unset, .unset, .unset, .unset, .unset, .unset, .unset, .unset] [])) t → P t := fun t k => pre0 t (by
      show Steps p.tables e below (s₁.setTop (mkF m 0 #[.val (.long q0), .second, .val (.long q1), .second, .val (.long q2), .second, .val (.int p3), .unset, .unset, .unset, .unset, .unset, .unset, .unset, .unset, .unset, .unset, .unset, .unset, .unset] [])) _
      refine XS.lloadN X0.here hx rfl (hb hby at_0) rfl ?_
      show Steps p.tables e below (s₁.setTop (mkF m 1 #[.val (.long q0), .second, .val (.long q1), .second, .val (.long q2), .second, .val (.int p3), .unset, .unset, .unset, .unset, .unset, .unset, .unset, .unset, .unset, .unset, .unset, .unset, .unset] [(.long q1)])) _
      refine X0.ldc2Long hx hown (mvT hZ (hw _ (List.mem_of_getElem? (i := 0) rfl))) (g := (mkF m 1 #[.val (.long q0), .second, .val (.long q1), .second, .val (.long q2), .second, .val (.int p3), .unset, .unset, .unset, .unset, .unset, .unset, .unset, .unset, .unset, .unset, .unset, .unset, .unset] [(.long q1)])) rfl (hb hby at_1) _ ?_
      show Steps p.tables e below (s₁.setTop (mkF m 4 #[.val (.long q0), .second, .val (.long q1), .second, .val (.long q2), .second, .val (.int p3), .unset, .unset, .unset, .unset, .unset, .unset, .unset, .unset, .unset, .unset, .unset, .unset, .unset] [(.long (9223372036854775807 : Int64)), (.long q1)])) _
      refine XS.land X0.here hx rfl (hb hby at_4) rfl ?_
      show Steps p.tables e below (s₁.setTop (mkF m 5 #[.val (.long q0), .second, .val (.long q1), .second, .val (.long q2), .second, .val (.int p3), .unset, .unset, .unset, .unset, .unset, .unset, .unset, .unset, .unset, .unset, .unset, .unset, .unset] [(.long (q1 &&& (9223372036854775807 : Int64)))])) _
      refine XS.lstore X0.here hx rfl (hb hby at_5) rfl (l' := #[.val (.long q0), .second, .val (.long q1), .second, .val (.long q2), .second, .val (.int p3), .val (.long (q1 &&& (9223372036854775807 : Int64))), .second, .unset, .unset, .unset, .unset, .unset, .unset, .unset, .unset, .unset, .unset, .unset]) rfl ?_
      exact k)
  obtain ⟨v2, hv2⟩ : ∃ z : Int64, z = (q1 &&& (9223372036854775807 : Int64)) := ⟨_, rfl⟩
  have pre3 : ∀ t, Steps p.tables e below (s₁.setTop (mkF m 7 #[.val (.long q0), .second, .val (.long q1), .second, .val (.long q2), .second, .val (.int p3), .val (.long v2), .second, .unset, .unset, .unset, .unset, .unset, .unset, .unset, .unset, .unset, .unset, .unset] [])) t → P t := fun t k => pre1 t (by subst hv2; exact k)
  have pre4 : ∀ t, Steps p.tables e below (s₁.setTop (mkF m 13 #[.val (.long q0), .second, .val (.long q1), .second, .val (.long q2), .second, .val (.int p3), .val (.long v2), .second, .unset, .unset, .unset, .unset, .unset, .unset, .unset, .unset, .unset, .unset, .unset] [(.int p3), (.long q2), (.long v2)])) t → P t := fun t k => pre3 t (by
      show Steps p.tables e below (s₁.setTop (mkF m 7 #[.val (.long q0), .second, .val (.long q1), .second, .val (.long q2), .second, .val (.int p3), .val (.long v2), .second, .unset, .unset, .unset, .unset, .unset, .unset, .unset, .unset, .unset, .unset, .unset] [])) _
      refine XS.lload X0.here hx rfl (hb hby at_7) rfl ?_
      show Steps p.tables e below (s₁.setTop (mkF m 9 #[.val (.long q0), .second, .val (.long q1), .second, .val (.long q2), .second, .val (.int p3), .val (.long v2), .second, .unset, .unset, .unset, .unset, .unset, .unset, .unset, .unset, .unset, .unset, .unset] [(.long v2)])) _
      refine XS.lload X0.here hx rfl (hb hby at_9) rfl ?_
      show Steps p.tables e below (s₁.setTop (mkF m 11 #[.val (.long q0), .second, .val (.long q1), .second, .val (.long q2), .second, .val (.int p3), .val (.long v2), .second, .unset, .unset, .unset, .unset, .unset, .unset, .unset, .unset, .unset, .unset, .unset] [(.long q2), (.long v2)])) _
      refine XS.iload X0.here hx rfl (hb hby at_11) rfl ?_
      exact k)
  obtain ⟨_, _, ⟨T5, L5, k5, n5⟩, -, X5, ⟨Lc5, hQ5, l5, y5, z5⟩, st5⟩ := Jvm.LawKit.callS X0 hx (y := (⟨"com/example/incarico/incarico/load/PauseWaitNanosPinLaw", "pickOffset", "(JJI)J"⟩ : MethodName)) hown (mvT hZ (hw _ (List.mem_of_getElem? (i := 1) rfl))) (mvT hZ (hw _ (List.mem_of_getElem? (i := 2) rfl))) (mvT hZ (hw _ (List.mem_of_getElem? (i := 3) rfl))) (mvT hZ (hw _ (List.mem_of_getElem? (i := 4) rfl))) (by decide) (backOf (W := 0) (rm1 l Z a0 hw [] v2 q2 p3 h0 n0 Z0 (by subst hv2; exact own_nn _)) hZ (hw _ (List.mem_of_getElem? (i := 4) rfl)) (hw _ (List.mem_of_getElem? (i := 3) rfl)) (by decide) (by decide)) (g := (mkF m 13 #[.val (.long q0), .second, .val (.long q1), .second, .val (.long q2), .second, .val (.int p3), .val (.long v2), .second, .unset, .unset, .unset, .unset, .unset, .unset, .unset, .unset, .unset, .unset, .unset] [(.int p3), (.long q2), (.long v2)])) rfl (by rw [hml]; rfl) (argsL := [(.long v2), (.long q2), (.int p3)]) (rest := []) (lenOf own_pd1 rfl) rfl (by show 2 * 0 + _ ≤ _; exact Nat.le_of_eq rfl) (hb hby at_13) (fun _ _ => ⟨rfl, e0, (by decide : 0 + 0 ≤ _), (by decide : 0 + 0 ≤ _)⟩)
  dsimp only [Pt.U, Pt.locs, Pt.cells, Pt.slots] at X5 l5 y5 z5 st5 hQ5
  subst l5 y5 z5
  obtain ⟨rfl, N5q, e5⟩ := hQ5
  have N5 := Fr.app N0 N5q
  have pre5 : ∀ t, Steps p.tables e below (T5.setTop (mkF m 16 #[.val (.long q0), .second, .val (.long q1), .second, .val (.long q2), .second, .val (.int p3), .val (.long v2), .second, .unset, .unset, .unset, .unset, .unset, .unset, .unset, .unset, .unset, .unset, .unset] [(.long (own_f1 v2 q2 p3))])) t → P t := fun t k => pre4 t (st5 _ k)
  obtain ⟨v6, hv6⟩ : ∃ z : Int64, z = (own_f1 v2 q2 p3) := ⟨_, rfl⟩
  have pre7 : ∀ t, Steps p.tables e below (T5.setTop (mkF m 16 #[.val (.long q0), .second, .val (.long q1), .second, .val (.long q2), .second, .val (.int p3), .val (.long v2), .second, .unset, .unset, .unset, .unset, .unset, .unset, .unset, .unset, .unset, .unset, .unset] [(.long v6)])) t → P t := fun t k => pre5 t (by subst hv6; exact k)
  have pre8 : ∀ t, Steps p.tables e below (T5.setTop (mkF m 24 #[.val (.long q0), .second, .val (.long q1), .second, .val (.long q2), .second, .val (.int p3), .val (.long v2), .second, .val (.long v6), .second, .val (.long (q0 + v2)), .second, .unset, .unset, .unset, .unset, .unset, .unset, .unset] [])) t → P t := fun t k => pre7 t (by
      show Steps p.tables e below (T5.setTop (mkF m 16 #[.val (.long q0), .second, .val (.long q1), .second, .val (.long q2), .second, .val (.int p3), .val (.long v2), .second, .unset, .unset, .unset, .unset, .unset, .unset, .unset, .unset, .unset, .unset, .unset] [(.long v6)])) _
      refine XS.lstore X5.here hx rfl (hb hby at_16) rfl (l' := #[.val (.long q0), .second, .val (.long q1), .second, .val (.long q2), .second, .val (.int p3), .val (.long v2), .second, .val (.long v6), .second, .unset, .unset, .unset, .unset, .unset, .unset, .unset, .unset, .unset]) rfl ?_
      show Steps p.tables e below (T5.setTop (mkF m 18 #[.val (.long q0), .second, .val (.long q1), .second, .val (.long q2), .second, .val (.int p3), .val (.long v2), .second, .val (.long v6), .second, .unset, .unset, .unset, .unset, .unset, .unset, .unset, .unset, .unset] [])) _
      refine XS.lloadN X5.here hx rfl (hb hby at_18) rfl ?_
      show Steps p.tables e below (T5.setTop (mkF m 19 #[.val (.long q0), .second, .val (.long q1), .second, .val (.long q2), .second, .val (.int p3), .val (.long v2), .second, .val (.long v6), .second, .unset, .unset, .unset, .unset, .unset, .unset, .unset, .unset, .unset] [(.long q0)])) _
      refine XS.lload X5.here hx rfl (hb hby at_19) rfl ?_
      show Steps p.tables e below (T5.setTop (mkF m 21 #[.val (.long q0), .second, .val (.long q1), .second, .val (.long q2), .second, .val (.int p3), .val (.long v2), .second, .val (.long v6), .second, .unset, .unset, .unset, .unset, .unset, .unset, .unset, .unset, .unset] [(.long v2), (.long q0)])) _
      refine XS.ladd X5.here hx rfl (hb hby at_21) rfl ?_
      show Steps p.tables e below (T5.setTop (mkF m 22 #[.val (.long q0), .second, .val (.long q1), .second, .val (.long q2), .second, .val (.int p3), .val (.long v2), .second, .val (.long v6), .second, .unset, .unset, .unset, .unset, .unset, .unset, .unset, .unset, .unset] [(.long (q0 + v2))])) _
      refine XS.lstore X5.here hx rfl (hb hby at_22) rfl (l' := #[.val (.long q0), .second, .val (.long q1), .second, .val (.long q2), .second, .val (.int p3), .val (.long v2), .second, .val (.long v6), .second, .val (.long (q0 + v2)), .second, .unset, .unset, .unset, .unset, .unset, .unset, .unset]) rfl ?_
      exact k)
  obtain ⟨v9, hv9⟩ : ∃ z : Int64, z = (q0 + v2) := ⟨_, rfl⟩
  have pre10 : ∀ t, Steps p.tables e below (T5.setTop (mkF m 24 #[.val (.long q0), .second, .val (.long q1), .second, .val (.long q2), .second, .val (.int p3), .val (.long v2), .second, .val (.long v6), .second, .val (.long v9), .second, .unset, .unset, .unset, .unset, .unset, .unset, .unset] [])) t → P t := fun t k => pre8 t (by subst hv9; exact k)
  have pre11 : ∀ t, Steps p.tables e below (T5.setTop (mkF m 30 #[.val (.long q0), .second, .val (.long q1), .second, .val (.long q2), .second, .val (.int p3), .val (.long v2), .second, .val (.long v6), .second, .val (.long v9), .second, .val (.long (q0 + v6)), .second, .unset, .unset, .unset, .unset, .unset] [])) t → P t := fun t k => pre10 t (by
      show Steps p.tables e below (T5.setTop (mkF m 24 #[.val (.long q0), .second, .val (.long q1), .second, .val (.long q2), .second, .val (.int p3), .val (.long v2), .second, .val (.long v6), .second, .val (.long v9), .second, .unset, .unset, .unset, .unset, .unset, .unset, .unset] [])) _
      refine XS.lloadN X5.here hx rfl (hb hby at_24) rfl ?_
      show Steps p.tables e below (T5.setTop (mkF m 25 #[.val (.long q0), .second, .val (.long q1), .second, .val (.long q2), .second, .val (.int p3), .val (.long v2), .second, .val (.long v6), .second, .val (.long v9), .second, .unset, .unset, .unset, .unset, .unset, .unset, .unset] [(.long q0)])) _
      refine XS.lload X5.here hx rfl (hb hby at_25) rfl ?_
      show Steps p.tables e below (T5.setTop (mkF m 27 #[.val (.long q0), .second, .val (.long q1), .second, .val (.long q2), .second, .val (.int p3), .val (.long v2), .second, .val (.long v6), .second, .val (.long v9), .second, .unset, .unset, .unset, .unset, .unset, .unset, .unset] [(.long v6), (.long q0)])) _
      refine XS.ladd X5.here hx rfl (hb hby at_27) rfl ?_
      show Steps p.tables e below (T5.setTop (mkF m 28 #[.val (.long q0), .second, .val (.long q1), .second, .val (.long q2), .second, .val (.int p3), .val (.long v2), .second, .val (.long v6), .second, .val (.long v9), .second, .unset, .unset, .unset, .unset, .unset, .unset, .unset] [(.long (q0 + v6))])) _
      refine XS.lstore X5.here hx rfl (hb hby at_28) rfl (l' := #[.val (.long q0), .second, .val (.long q1), .second, .val (.long q2), .second, .val (.int p3), .val (.long v2), .second, .val (.long v6), .second, .val (.long v9), .second, .val (.long (q0 + v6)), .second, .unset, .unset, .unset, .unset, .unset]) rfl ?_
      exact k)
  obtain ⟨v12, hv12⟩ : ∃ z : Int64, z = (q0 + v6) := ⟨_, rfl⟩
  have pre13 : ∀ t, Steps p.tables e below (T5.setTop (mkF m 30 #[.val (.long q0), .second, .val (.long q1), .second, .val (.long q2), .second, .val (.int p3), .val (.long v2), .second, .val (.long v6), .second, .val (.long v9), .second, .val (.long v12), .second, .unset, .unset, .unset, .unset, .unset] [])) t → P t := fun t k => pre11 t (by subst hv12; exact k)
  obtain ⟨T14, h14, X14, e14, E14, A14, D14, -, st14⟩ := newO X5 hx hZ hown (hw _ (List.mem_of_getElem? (i := 6) rfl)) (hw _ (List.mem_of_getElem? (i := 7) rfl)) (hw _ (List.mem_of_getElem? (i := 8) rfl)) e5 (g := (mkF m 30 #[.val (.long q0), .second, .val (.long q1), .second, .val (.long q2), .second, .val (.int p3), .val (.long v2), .second, .val (.long v6), .second, .val (.long v9), .second, .val (.long v12), .second, .unset, .unset, .unset, .unset, .unset] [])) rfl (hb hby at_30) (by decide) (by decide)
  obtain ⟨b14, g14⟩ : ∃ z, z = h0.size := ⟨_, rfl⟩
  have g_b14 : n0 ≤ b14 := Nat.le_trans Z0 (Nat.le_of_eq g14.symm)
  have sz_b14 : h0.size ≤ b14 := Nat.le_trans K0.1 (Nat.le_of_eq g14.symm)
  rw [← g14] at A14 D14 st14
  have pre14 : ∀ t, Steps p.tables e below (T14.setTop (mkF m 33 #[.val (.long q0), .second, .val (.long q1), .second, .val (.long q2), .second, .val (.int p3), .val (.long v2), .second, .val (.long v6), .second, .val (.long v9), .second, .val (.long v12), .second, .unset, .unset, .unset, .unset, .unset] [(.ref b14)])) t → P t := fun t k => pre13 t (st14 _ k)
  have c15 : n0 ≤ h14.size := Nat.le_trans Z0 E14.1
  have K16 : Keep h0 h14 [] := K0.ext E14
  have F14_startNanos : Fld Z h14 b14 "com/example/incarico/incarico/load/Pause" "startNanos" "J" (.long (0 : Int64)) := D14 (Or.inr (hw _ (List.mem_of_getElem? (i := 21) rfl))) (ty := .long) (by decide)
  have F14_endNanos : Fld Z h14 b14 "com/example/incarico/incarico/load/Pause" "endNanos" "J" (.long (0 : Int64)) := D14 (Or.inr (hw _ (List.mem_of_getElem? (i := 23) rfl))) (ty := .long) (by decide)
  have pre17 : ∀ t, Steps p.tables e below (T14.setTop (mkF m 37 #[.val (.long q0), .second, .val (.long q1), .second, .val (.long q2), .second, .val (.int p3), .val (.long v2), .second, .val (.long v6), .second, .val (.long v9), .second, .val (.long v12), .second, .unset, .unset, .unset, .unset, .unset] [(.long v9), (.long q0), (.ref b14), (.ref b14)])) t → P t := fun t k => pre14 t (by
      show Steps p.tables e below (T14.setTop (mkF m 33 #[.val (.long q0), .second, .val (.long q1), .second, .val (.long q2), .second, .val (.int p3), .val (.long v2), .second, .val (.long v6), .second, .val (.long v9), .second, .val (.long v12), .second, .unset, .unset, .unset, .unset, .unset] [(.ref b14)])) _
      refine XS.dup X14.here hx rfl (hb hby at_33) rfl rfl ?_
      show Steps p.tables e below (T14.setTop (mkF m 34 #[.val (.long q0), .second, .val (.long q1), .second, .val (.long q2), .second, .val (.int p3), .val (.long v2), .second, .val (.long v6), .second, .val (.long v9), .second, .val (.long v12), .second, .unset, .unset, .unset, .unset, .unset] [(.ref b14), (.ref b14)])) _
      refine XS.lloadN X14.here hx rfl (hb hby at_34) rfl ?_
      show Steps p.tables e below (T14.setTop (mkF m 35 #[.val (.long q0), .second, .val (.long q1), .second, .val (.long q2), .second, .val (.int p3), .val (.long v2), .second, .val (.long v6), .second, .val (.long v9), .second, .val (.long v12), .second, .unset, .unset, .unset, .unset, .unset] [(.long q0), (.ref b14), (.ref b14)])) _
      refine XS.lload X14.here hx rfl (hb hby at_35) rfl ?_
      exact k)
  obtain ⟨_, _, ⟨T18, L18, k18, n18⟩, -, X18, ⟨Lc18, hQ18, l18, y18, z18⟩, st18⟩ := X14.specialBack hx (y := (⟨"com/example/incarico/incarico/load/Pause", "<init>", "(JJ)V"⟩ : MethodName)) rfl hown (mvT hZ (hw _ (List.mem_of_getElem? (i := 9) rfl))) (mvT hZ (hw _ (List.mem_of_getElem? (i := 10) rfl))) (mvT hZ (hw _ (List.mem_of_getElem? (i := 11) rfl))) (by decide) (backOf (W := 1) (rm2 l Z a0 hw [] b14 q0 v9 h14 n0 c15 A14 F14_startNanos F14_endNanos g_b14) hZ (hw _ (List.mem_of_getElem? (i := 11) rfl)) (hw _ (List.mem_of_getElem? (i := 8) rfl)) (by decide) (by decide)) (g := (mkF m 37 #[.val (.long q0), .second, .val (.long q1), .second, .val (.long q2), .second, .val (.int p3), .val (.long v2), .second, .val (.long v6), .second, .val (.long v9), .second, .val (.long v12), .second, .unset, .unset, .unset, .unset, .unset] [(.long v9), (.long q0), (.ref b14), (.ref b14)])) rfl (by rw [hml]; rfl) (Steps.refl _) (a := b14) (argsL := [(.long q0), (.long v9)]) (rest := [(.ref b14)]) (lenOf own_pd2 rfl) rfl (by show 2 * 0 + _ ≤ _; exact Nat.le_of_eq rfl) (hb hby at_37) (fun _ _ => ⟨rfl, e14, (by decide : 1 + 0 ≤ _), (by decide : 2 + 0 ≤ _)⟩)
  dsimp only [Pt.U, Pt.locs, Pt.cells, Pt.slots] at X18 l18 y18 z18 st18 hQ18
  subst l18 y18 z18
  obtain ⟨rfl, N18q, K18, EE18, FF18_0, FF18_1⟩ := hQ18
  have c19 : n0 ≤ T18.heap.size := Nat.le_trans c15 K18.1
  have c20 : Exa Z T18.heap b14 "com/example/incarico/incarico/load/Pause" := A14.keep K18
  have K21 : Keep h0 T18.heap [] := K16.trans K18 (allS (P := fun x => x ∈ ([] : List Addr) ∨ h0.size ≤ x) (Or.inr sz_b14) all0)
  have N18 := Fr.app N5 N18q
  have pre18 : ∀ t, Steps p.tables e below (T18.setTop (mkF m 40 #[.val (.long q0), .second, .val (.long q1), .second, .val (.long q2), .second, .val (.int p3), .val (.long v2), .second, .val (.long v6), .second, .val (.long v9), .second, .val (.long v12), .second, .unset, .unset, .unset, .unset, .unset] [(.ref b14)])) t → P t := fun t k => pre17 t (st18.trans k)
  have pre22 : ∀ t, Steps p.tables e below (T18.setTop (mkF m 46 #[.val (.long q0), .second, .val (.long q1), .second, .val (.long q2), .second, .val (.int p3), .val (.long v2), .second, .val (.long v6), .second, .val (.long v9), .second, .val (.long v12), .second, .val (.ref b14), .unset, .unset, .unset, .unset] [(.long v12), (.ref b14)])) t → P t := fun t k => pre18 t (by
      show Steps p.tables e below (T18.setTop (mkF m 40 #[.val (.long q0), .second, .val (.long q1), .second, .val (.long q2), .second, .val (.int p3), .val (.long v2), .second, .val (.long v6), .second, .val (.long v9), .second, .val (.long v12), .second, .unset, .unset, .unset, .unset, .unset] [(.ref b14)])) _
      refine XS.astore X18.here hx rfl (hb hby at_40) rfl rfl (l' := #[.val (.long q0), .second, .val (.long q1), .second, .val (.long q2), .second, .val (.int p3), .val (.long v2), .second, .val (.long v6), .second, .val (.long v9), .second, .val (.long v12), .second, .val (.ref b14), .unset, .unset, .unset, .unset]) rfl ?_
      show Steps p.tables e below (T18.setTop (mkF m 42 #[.val (.long q0), .second, .val (.long q1), .second, .val (.long q2), .second, .val (.int p3), .val (.long v2), .second, .val (.long v6), .second, .val (.long v9), .second, .val (.long v12), .second, .val (.ref b14), .unset, .unset, .unset, .unset] [])) _
      refine XS.aload X18.here hx rfl (hb hby at_42) rfl rfl ?_
      show Steps p.tables e below (T18.setTop (mkF m 44 #[.val (.long q0), .second, .val (.long q1), .second, .val (.long q2), .second, .val (.int p3), .val (.long v2), .second, .val (.long v6), .second, .val (.long v9), .second, .val (.long v12), .second, .val (.ref b14), .unset, .unset, .unset, .unset] [(.ref b14)])) _
      refine XS.lload X18.here hx rfl (hb hby at_44) rfl ?_
      exact k)
  obtain ⟨cq23, kq23, q23a, q23b, q23c⟩ := isOf hZ rfl EE18
  obtain ⟨_, _, ⟨T23, L23, k23, n23⟩, -, X23, ⟨Lc23, hQ23, l23, y23, z23⟩, st23⟩ := X18.virtualBack hx (y := (⟨"com/example/incarico/incarico/load/Pause", "waitNanos", "(J)J"⟩ : MethodName)) (z := (⟨"com/example/incarico/incarico/load/Pause", "waitNanos", "(J)J"⟩ : MethodName)) hown (mvT hZ (hw _ (List.mem_of_getElem? (i := 24) rfl))) (mvT hZ (hw _ (List.mem_of_getElem? (i := 25) rfl))) (notFace_of_selects (args := #[]) (mvT hZ (hw _ (List.mem_of_getElem? (i := 27) rfl)))) (mvT hZ (hw _ (List.mem_of_getElem? (i := 27) rfl))) (mvT hZ (hw _ (List.mem_of_getElem? (i := 26) rfl))) (by decide) (backOf (W := 0) (rm5 l Z a0 hw [] b14 v12 q0 v9 T18.heap n0 c19 FF18_0 FF18_1) hZ (hw _ (List.mem_of_getElem? (i := 28) rfl)) (hw _ (List.mem_of_getElem? (i := 8) rfl)) (by decide) (by decide)) q23a q23c (g := (mkF m 46 #[.val (.long q0), .second, .val (.long q1), .second, .val (.long q2), .second, .val (.int p3), .val (.long v2), .second, .val (.long v6), .second, .val (.long v9), .second, .val (.long v12), .second, .val (.ref b14), .unset, .unset, .unset, .unset] [(.long v12), (.ref b14)])) rfl (by rw [hml]; rfl) (Steps.refl _) (argsL := [(.long v12)]) (rest := []) (lenOf own_pd3 rfl) rfl (by show 2 * 0 + _ ≤ _; exact Nat.le_of_eq rfl) (hb hby at_46) (fun _ _ => ⟨rfl, rfl, (by decide : 1 + 0 ≤ _), (by decide : 2 + 0 ≤ _)⟩)
  dsimp only [Pt.U, Pt.locs, Pt.cells, Pt.slots] at X23 l23 y23 z23 st23 hQ23
  subst l23 y23 z23
  obtain ⟨rfl, N23q, e23⟩ := hQ23
  have N23 := Fr.app N18 N23q
  have pre23 : ∀ t, Steps p.tables e below (T23.setTop (mkF m 49 #[.val (.long q0), .second, .val (.long q1), .second, .val (.long q2), .second, .val (.int p3), .val (.long v2), .second, .val (.long v6), .second, .val (.long v9), .second, .val (.long v12), .second, .val (.ref b14), .unset, .unset, .unset, .unset] [(.long (own_f5 v12 q0 v9))])) t → P t := fun t k => pre22 t (st23.trans k)
  obtain ⟨v24, hv24⟩ : ∃ z : Int64, z = (own_f5 v12 q0 v9) := ⟨_, rfl⟩
  have pre25 : ∀ t, Steps p.tables e below (T23.setTop (mkF m 49 #[.val (.long q0), .second, .val (.long q1), .second, .val (.long q2), .second, .val (.int p3), .val (.long v2), .second, .val (.long v6), .second, .val (.long v9), .second, .val (.long v12), .second, .val (.ref b14), .unset, .unset, .unset, .unset] [(.long v24)])) t → P t := fun t k => pre23 t (by subst hv24; exact k)
  have pre26 : ∀ t, Steps p.tables e below (T23.setTop (mkF m 55 #[.val (.long q0), .second, .val (.long q1), .second, .val (.long q2), .second, .val (.int p3), .val (.long v2), .second, .val (.long v6), .second, .val (.long v9), .second, .val (.long v12), .second, .val (.ref b14), .val (.long v24), .second, .unset, .unset] [(.int (lcmpW v6 (0 : Int64)))])) t → P t := fun t k => pre25 t (by
      show Steps p.tables e below (T23.setTop (mkF m 49 #[.val (.long q0), .second, .val (.long q1), .second, .val (.long q2), .second, .val (.int p3), .val (.long v2), .second, .val (.long v6), .second, .val (.long v9), .second, .val (.long v12), .second, .val (.ref b14), .unset, .unset, .unset, .unset] [(.long v24)])) _
      refine XS.lstore X23.here hx rfl (hb hby at_49) rfl (l' := #[.val (.long q0), .second, .val (.long q1), .second, .val (.long q2), .second, .val (.int p3), .val (.long v2), .second, .val (.long v6), .second, .val (.long v9), .second, .val (.long v12), .second, .val (.ref b14), .val (.long v24), .second, .unset, .unset]) rfl ?_
      show Steps p.tables e below (T23.setTop (mkF m 51 #[.val (.long q0), .second, .val (.long q1), .second, .val (.long q2), .second, .val (.int p3), .val (.long v2), .second, .val (.long v6), .second, .val (.long v9), .second, .val (.long v12), .second, .val (.ref b14), .val (.long v24), .second, .unset, .unset] [])) _
      refine XS.lload X23.here hx rfl (hb hby at_51) rfl ?_
      show Steps p.tables e below (T23.setTop (mkF m 53 #[.val (.long q0), .second, .val (.long q1), .second, .val (.long q2), .second, .val (.int p3), .val (.long v2), .second, .val (.long v6), .second, .val (.long v9), .second, .val (.long v12), .second, .val (.ref b14), .val (.long v24), .second, .unset, .unset] [(.long v6)])) _
      refine XS.lconst X23.here hx rfl (hb hby at_53) ?_
      show Steps p.tables e below (T23.setTop (mkF m 54 #[.val (.long q0), .second, .val (.long q1), .second, .val (.long q2), .second, .val (.int p3), .val (.long v2), .second, .val (.long v6), .second, .val (.long v9), .second, .val (.long v12), .second, .val (.ref b14), .val (.long v24), .second, .unset, .unset] [(.long (0 : Int64)), (.long v6)])) _
      refine XS.lcmp X23.here hx rfl (hb hby at_54) rfl ?_
      exact k)
  obtain ⟨T37, L37, v36, X37, e37, N37, hv36, pre37⟩ : ∃ (T' : State) (L' : List Loc) (v36 : Int64), Stand p l e room_1 s m #[(.long q0), (.long q1), (.long q2), (.int p3)] below meth c T' L' 1 2 ∧ T'.heap = T18.heap ∧ Fr n0 L' ∧ v36 = (if v6 < (0 : Int64) then (0 : Int64) else (if v6 < v2 then (v2 - v6) else (0 : Int64))) ∧ (∀ t, Steps p.tables e below (T'.setTop (mkF m 79 #[.val (.long q0), .second, .val (.long q1), .second, .val (.long q2), .second, .val (.int p3), .val (.long v2), .second, .val (.long v6), .second, .val (.long v9), .second, .val (.long v12), .second, .val (.ref b14), .val (.long v24), .second, .val (.long v36), .second] [])) t → P t) := by
    by_cases hc27 : v6 < (0 : Int64)
    · have pre28 : ∀ t, Steps p.tables e below (T23.setTop (mkF m 79 #[.val (.long q0), .second, .val (.long q1), .second, .val (.long q2), .second, .val (.int p3), .val (.long v2), .second, .val (.long v6), .second, .val (.long v9), .second, .val (.long v12), .second, .val (.ref b14), .val (.long v24), .second, .val (.long (0 : Int64)), .second] [])) t → P t := fun t k => pre26 t (by
          show Steps p.tables e below (T23.setTop (mkF m 55 #[.val (.long q0), .second, .val (.long q1), .second, .val (.long q2), .second, .val (.int p3), .val (.long v2), .second, .val (.long v6), .second, .val (.long v9), .second, .val (.long v12), .second, .val (.ref b14), .val (.long v24), .second, .unset, .unset] [(.int (lcmpW v6 (0 : Int64)))])) _
          refine XS.ifYes X23.here hx rfl (pc0 := 55) (pc' := 76) rfl (hb hby at_55) rfl ((if0 _ _).trans (tlt ((lw_lt _ _).mpr hc27)).1) (by decide) (by decide) ?_
          show Steps p.tables e below (T23.setTop (mkF m 76 #[.val (.long q0), .second, .val (.long q1), .second, .val (.long q2), .second, .val (.int p3), .val (.long v2), .second, .val (.long v6), .second, .val (.long v9), .second, .val (.long v12), .second, .val (.ref b14), .val (.long v24), .second, .unset, .unset] [])) _
          refine XS.lconst X23.here hx rfl (hb hby at_76) ?_
          show Steps p.tables e below (T23.setTop (mkF m 77 #[.val (.long q0), .second, .val (.long q1), .second, .val (.long q2), .second, .val (.int p3), .val (.long v2), .second, .val (.long v6), .second, .val (.long v9), .second, .val (.long v12), .second, .val (.ref b14), .val (.long v24), .second, .unset, .unset] [(.long (0 : Int64))])) _
          refine XS.lstore X23.here hx rfl (hb hby at_77) rfl (l' := #[.val (.long q0), .second, .val (.long q1), .second, .val (.long q2), .second, .val (.int p3), .val (.long v2), .second, .val (.long v6), .second, .val (.long v9), .second, .val (.long v12), .second, .val (.ref b14), .val (.long v24), .second, .val (.long (0 : Int64)), .second]) rfl ?_
          exact k)
      exact ⟨_, _, (0 : Int64), X23, e23, N23, (by first | (rw [if_pos hc27]; done) | simp only [if_pos hc27] | simp [if_pos hc27]), pre28⟩
    · have pre29 : ∀ t, Steps p.tables e below (T23.setTop (mkF m 63 #[.val (.long q0), .second, .val (.long q1), .second, .val (.long q2), .second, .val (.int p3), .val (.long v2), .second, .val (.long v6), .second, .val (.long v9), .second, .val (.long v12), .second, .val (.ref b14), .val (.long v24), .second, .unset, .unset] [(.int (lcmpW v6 v2))])) t → P t := fun t k => pre26 t (by
          show Steps p.tables e below (T23.setTop (mkF m 55 #[.val (.long q0), .second, .val (.long q1), .second, .val (.long q2), .second, .val (.int p3), .val (.long v2), .second, .val (.long v6), .second, .val (.long v9), .second, .val (.long v12), .second, .val (.ref b14), .val (.long v24), .second, .unset, .unset] [(.int (lcmpW v6 (0 : Int64)))])) _
          refine XS.ifNo X23.here hx rfl (hb hby at_55) rfl ((if0 _ _).trans (flt (fun q => hc27 ((lw_lt _ _).mp q))).1) ?_
          show Steps p.tables e below (T23.setTop (mkF m 58 #[.val (.long q0), .second, .val (.long q1), .second, .val (.long q2), .second, .val (.int p3), .val (.long v2), .second, .val (.long v6), .second, .val (.long v9), .second, .val (.long v12), .second, .val (.ref b14), .val (.long v24), .second, .unset, .unset] [])) _
          refine XS.lload X23.here hx rfl (hb hby at_58) rfl ?_
          show Steps p.tables e below (T23.setTop (mkF m 60 #[.val (.long q0), .second, .val (.long q1), .second, .val (.long q2), .second, .val (.int p3), .val (.long v2), .second, .val (.long v6), .second, .val (.long v9), .second, .val (.long v12), .second, .val (.ref b14), .val (.long v24), .second, .unset, .unset] [(.long v6)])) _
          refine XS.lload X23.here hx rfl (hb hby at_60) rfl ?_
          show Steps p.tables e below (T23.setTop (mkF m 62 #[.val (.long q0), .second, .val (.long q1), .second, .val (.long q2), .second, .val (.int p3), .val (.long v2), .second, .val (.long v6), .second, .val (.long v9), .second, .val (.long v12), .second, .val (.ref b14), .val (.long v24), .second, .unset, .unset] [(.long v2), (.long v6)])) _
          refine XS.lcmp X23.here hx rfl (hb hby at_62) rfl ?_
          exact k)
      by_cases hc30 : v6 < v2
      · have pre31 : ∀ t, Steps p.tables e below (T23.setTop (mkF m 73 #[.val (.long q0), .second, .val (.long q1), .second, .val (.long q2), .second, .val (.int p3), .val (.long v2), .second, .val (.long v6), .second, .val (.long v9), .second, .val (.long v12), .second, .val (.ref b14), .val (.long v24), .second, .val (.long (v2 - v6)), .second] [])) t → P t := fun t k => pre29 t (by
            show Steps p.tables e below (T23.setTop (mkF m 63 #[.val (.long q0), .second, .val (.long q1), .second, .val (.long q2), .second, .val (.int p3), .val (.long v2), .second, .val (.long v6), .second, .val (.long v9), .second, .val (.long v12), .second, .val (.ref b14), .val (.long v24), .second, .unset, .unset] [(.int (lcmpW v6 v2))])) _
            refine XS.ifNo X23.here hx rfl (hb hby at_63) rfl ((if0 _ _).trans (tlt ((lw_lt _ _).mpr hc30)).2.1) ?_
            show Steps p.tables e below (T23.setTop (mkF m 66 #[.val (.long q0), .second, .val (.long q1), .second, .val (.long q2), .second, .val (.int p3), .val (.long v2), .second, .val (.long v6), .second, .val (.long v9), .second, .val (.long v12), .second, .val (.ref b14), .val (.long v24), .second, .unset, .unset] [])) _
            refine XS.lload X23.here hx rfl (hb hby at_66) rfl ?_
            show Steps p.tables e below (T23.setTop (mkF m 68 #[.val (.long q0), .second, .val (.long q1), .second, .val (.long q2), .second, .val (.int p3), .val (.long v2), .second, .val (.long v6), .second, .val (.long v9), .second, .val (.long v12), .second, .val (.ref b14), .val (.long v24), .second, .unset, .unset] [(.long v2)])) _
            refine XS.lload X23.here hx rfl (hb hby at_68) rfl ?_
            show Steps p.tables e below (T23.setTop (mkF m 70 #[.val (.long q0), .second, .val (.long q1), .second, .val (.long q2), .second, .val (.int p3), .val (.long v2), .second, .val (.long v6), .second, .val (.long v9), .second, .val (.long v12), .second, .val (.ref b14), .val (.long v24), .second, .unset, .unset] [(.long v6), (.long v2)])) _
            refine XS.lsub X23.here hx rfl (hb hby at_70) rfl ?_
            show Steps p.tables e below (T23.setTop (mkF m 71 #[.val (.long q0), .second, .val (.long q1), .second, .val (.long q2), .second, .val (.int p3), .val (.long v2), .second, .val (.long v6), .second, .val (.long v9), .second, .val (.long v12), .second, .val (.ref b14), .val (.long v24), .second, .unset, .unset] [(.long (v2 - v6))])) _
            refine XS.lstore X23.here hx rfl (hb hby at_71) rfl (l' := #[.val (.long q0), .second, .val (.long q1), .second, .val (.long q2), .second, .val (.int p3), .val (.long v2), .second, .val (.long v6), .second, .val (.long v9), .second, .val (.long v12), .second, .val (.ref b14), .val (.long v24), .second, .val (.long (v2 - v6)), .second]) rfl ?_
            exact k)
        obtain ⟨v32, hv32⟩ : ∃ z : Int64, z = (v2 - v6) := ⟨_, rfl⟩
        have pre33 : ∀ t, Steps p.tables e below (T23.setTop (mkF m 73 #[.val (.long q0), .second, .val (.long q1), .second, .val (.long q2), .second, .val (.int p3), .val (.long v2), .second, .val (.long v6), .second, .val (.long v9), .second, .val (.long v12), .second, .val (.ref b14), .val (.long v24), .second, .val (.long v32), .second] [])) t → P t := fun t k => pre31 t (by subst hv32; exact k)
        have pre34 : ∀ t, Steps p.tables e below (T23.setTop (mkF m 79 #[.val (.long q0), .second, .val (.long q1), .second, .val (.long q2), .second, .val (.int p3), .val (.long v2), .second, .val (.long v6), .second, .val (.long v9), .second, .val (.long v12), .second, .val (.ref b14), .val (.long v24), .second, .val (.long v32), .second] [])) t → P t := fun t k => pre33 t (by
            show Steps p.tables e below (T23.setTop (mkF m 73 #[.val (.long q0), .second, .val (.long q1), .second, .val (.long q2), .second, .val (.int p3), .val (.long v2), .second, .val (.long v6), .second, .val (.long v9), .second, .val (.long v12), .second, .val (.ref b14), .val (.long v24), .second, .val (.long v32), .second] [])) _
            refine XS.goto X23.here hx rfl (pc0 := 73) (pc' := 79) rfl (hb hby at_73) (by decide) (by decide) ?_
            exact k)
        exact ⟨_, _, v32, X23, e23, N23, (by subst hv32; first | (rw [if_neg hc27, if_pos hc30]; done) | simp only [if_neg hc27, if_pos hc30] | simp [if_neg hc27, if_pos hc30]), pre34⟩
      · have pre35 : ∀ t, Steps p.tables e below (T23.setTop (mkF m 79 #[.val (.long q0), .second, .val (.long q1), .second, .val (.long q2), .second, .val (.int p3), .val (.long v2), .second, .val (.long v6), .second, .val (.long v9), .second, .val (.long v12), .second, .val (.ref b14), .val (.long v24), .second, .val (.long (0 : Int64)), .second] [])) t → P t := fun t k => pre29 t (by
            show Steps p.tables e below (T23.setTop (mkF m 63 #[.val (.long q0), .second, .val (.long q1), .second, .val (.long q2), .second, .val (.int p3), .val (.long v2), .second, .val (.long v6), .second, .val (.long v9), .second, .val (.long v12), .second, .val (.ref b14), .val (.long v24), .second, .unset, .unset] [(.int (lcmpW v6 v2))])) _
            refine XS.ifYes X23.here hx rfl (pc0 := 63) (pc' := 76) rfl (hb hby at_63) rfl ((if0 _ _).trans (flt (fun q => hc30 ((lw_lt _ _).mp q))).2.1) (by decide) (by decide) ?_
            show Steps p.tables e below (T23.setTop (mkF m 76 #[.val (.long q0), .second, .val (.long q1), .second, .val (.long q2), .second, .val (.int p3), .val (.long v2), .second, .val (.long v6), .second, .val (.long v9), .second, .val (.long v12), .second, .val (.ref b14), .val (.long v24), .second, .unset, .unset] [])) _
            refine XS.lconst X23.here hx rfl (hb hby at_76) ?_
            show Steps p.tables e below (T23.setTop (mkF m 77 #[.val (.long q0), .second, .val (.long q1), .second, .val (.long q2), .second, .val (.int p3), .val (.long v2), .second, .val (.long v6), .second, .val (.long v9), .second, .val (.long v12), .second, .val (.ref b14), .val (.long v24), .second, .unset, .unset] [(.long (0 : Int64))])) _
            refine XS.lstore X23.here hx rfl (hb hby at_77) rfl (l' := #[.val (.long q0), .second, .val (.long q1), .second, .val (.long q2), .second, .val (.int p3), .val (.long v2), .second, .val (.long v6), .second, .val (.long v9), .second, .val (.long v12), .second, .val (.ref b14), .val (.long v24), .second, .val (.long (0 : Int64)), .second]) rfl ?_
            exact k)
        exact ⟨_, _, (0 : Int64), X23, e23, N23, (by first | (rw [if_neg hc27, if_neg hc30]; done) | simp only [if_neg hc27, if_neg hc30] | simp [if_neg hc27, if_neg hc30]), pre35⟩
  have pre38 : ∀ t, Steps p.tables e below (T37.setTop (mkF m 84 #[.val (.long q0), .second, .val (.long q1), .second, .val (.long q2), .second, .val (.int p3), .val (.long v2), .second, .val (.long v6), .second, .val (.long v9), .second, .val (.long v12), .second, .val (.ref b14), .val (.long v24), .second, .val (.long v36), .second] [(.int (lcmpW v24 v36))])) t → P t := fun t k => pre37 t (by
      show Steps p.tables e below (T37.setTop (mkF m 79 #[.val (.long q0), .second, .val (.long q1), .second, .val (.long q2), .second, .val (.int p3), .val (.long v2), .second, .val (.long v6), .second, .val (.long v9), .second, .val (.long v12), .second, .val (.ref b14), .val (.long v24), .second, .val (.long v36), .second] [])) _
      refine XS.lload X37.here hx rfl (hb hby at_79) rfl ?_
      show Steps p.tables e below (T37.setTop (mkF m 81 #[.val (.long q0), .second, .val (.long q1), .second, .val (.long q2), .second, .val (.int p3), .val (.long v2), .second, .val (.long v6), .second, .val (.long v9), .second, .val (.long v12), .second, .val (.ref b14), .val (.long v24), .second, .val (.long v36), .second] [(.long v24)])) _
      refine XS.lload X37.here hx rfl (hb hby at_81) rfl ?_
      show Steps p.tables e below (T37.setTop (mkF m 83 #[.val (.long q0), .second, .val (.long q1), .second, .val (.long q2), .second, .val (.int p3), .val (.long v2), .second, .val (.long v6), .second, .val (.long v9), .second, .val (.long v12), .second, .val (.ref b14), .val (.long v24), .second, .val (.long v36), .second] [(.long v36), (.long v24)])) _
      refine XS.lcmp X37.here hx rfl (hb hby at_83) rfl ?_
      exact k)
  obtain ⟨T49, L49, v48, X49, e49, N49, hv48, pre49⟩ : ∃ (T' : State) (L' : List Loc) (v48 : Int32), Stand p l e room_1 s m #[(.long q0), (.long q1), (.long q2), (.int p3)] below meth c T' L' 1 2 ∧ T'.heap = T18.heap ∧ Fr n0 L' ∧ v48 = (if v24 = v36 then (if v24 < (0 : Int64) then (0 : Int32) else (if v2 < v24 then (0 : Int32) else (1 : Int32))) else (0 : Int32)) ∧ (∀ t, Steps p.tables e below (T'.setTop (mkF m 107 #[.val (.long q0), .second, .val (.long q1), .second, .val (.long q2), .second, .val (.int p3), .val (.long v2), .second, .val (.long v6), .second, .val (.long v9), .second, .val (.long v12), .second, .val (.ref b14), .val (.long v24), .second, .val (.long v36), .second] [(.int v48)])) t → P t) := by
    by_cases hc39 : v24 = v36
    · have pre40 : ∀ t, Steps p.tables e below (T37.setTop (mkF m 91 #[.val (.long q0), .second, .val (.long q1), .second, .val (.long q2), .second, .val (.int p3), .val (.long v2), .second, .val (.long v6), .second, .val (.long v9), .second, .val (.long v12), .second, .val (.ref b14), .val (.long v24), .second, .val (.long v36), .second] [(.int (lcmpW v24 (0 : Int64)))])) t → P t := fun t k => pre38 t (by
          show Steps p.tables e below (T37.setTop (mkF m 84 #[.val (.long q0), .second, .val (.long q1), .second, .val (.long q2), .second, .val (.int p3), .val (.long v2), .second, .val (.long v6), .second, .val (.long v9), .second, .val (.long v12), .second, .val (.ref b14), .val (.long v24), .second, .val (.long v36), .second] [(.int (lcmpW v24 v36))])) _
          refine XS.ifNo X37.here hx rfl (hb hby at_84) rfl ((if0 _ _).trans (teq ((lw_eq _ _).mpr hc39)).2) ?_
          show Steps p.tables e below (T37.setTop (mkF m 87 #[.val (.long q0), .second, .val (.long q1), .second, .val (.long q2), .second, .val (.int p3), .val (.long v2), .second, .val (.long v6), .second, .val (.long v9), .second, .val (.long v12), .second, .val (.ref b14), .val (.long v24), .second, .val (.long v36), .second] [])) _
          refine XS.lload X37.here hx rfl (hb hby at_87) rfl ?_
          show Steps p.tables e below (T37.setTop (mkF m 89 #[.val (.long q0), .second, .val (.long q1), .second, .val (.long q2), .second, .val (.int p3), .val (.long v2), .second, .val (.long v6), .second, .val (.long v9), .second, .val (.long v12), .second, .val (.ref b14), .val (.long v24), .second, .val (.long v36), .second] [(.long v24)])) _
          refine XS.lconst X37.here hx rfl (hb hby at_89) ?_
          show Steps p.tables e below (T37.setTop (mkF m 90 #[.val (.long q0), .second, .val (.long q1), .second, .val (.long q2), .second, .val (.int p3), .val (.long v2), .second, .val (.long v6), .second, .val (.long v9), .second, .val (.long v12), .second, .val (.ref b14), .val (.long v24), .second, .val (.long v36), .second] [(.long (0 : Int64)), (.long v24)])) _
          refine XS.lcmp X37.here hx rfl (hb hby at_90) rfl ?_
          exact k)
      by_cases hc41 : v24 < (0 : Int64)
      · have pre42 : ∀ t, Steps p.tables e below (T37.setTop (mkF m 107 #[.val (.long q0), .second, .val (.long q1), .second, .val (.long q2), .second, .val (.int p3), .val (.long v2), .second, .val (.long v6), .second, .val (.long v9), .second, .val (.long v12), .second, .val (.ref b14), .val (.long v24), .second, .val (.long v36), .second] [(.int (0 : Int32))])) t → P t := fun t k => pre40 t (by
            show Steps p.tables e below (T37.setTop (mkF m 91 #[.val (.long q0), .second, .val (.long q1), .second, .val (.long q2), .second, .val (.int p3), .val (.long v2), .second, .val (.long v6), .second, .val (.long v9), .second, .val (.long v12), .second, .val (.ref b14), .val (.long v24), .second, .val (.long v36), .second] [(.int (lcmpW v24 (0 : Int64)))])) _
            refine XS.ifYes X37.here hx rfl (pc0 := 91) (pc' := 106) rfl (hb hby at_91) rfl ((if0 _ _).trans (tlt ((lw_lt _ _).mpr hc41)).1) (by decide) (by decide) ?_
            show Steps p.tables e below (T37.setTop (mkF m 106 #[.val (.long q0), .second, .val (.long q1), .second, .val (.long q2), .second, .val (.int p3), .val (.long v2), .second, .val (.long v6), .second, .val (.long v9), .second, .val (.long v12), .second, .val (.ref b14), .val (.long v24), .second, .val (.long v36), .second] [])) _
            refine XS.iconst X37.here hx rfl (hb hby at_106) ?_
            exact k)
        exact ⟨_, _, (0 : Int32), X37, e37, N37, (by first | (rw [if_pos hc39, if_pos hc41]; done) | simp only [if_pos hc39, if_pos hc41] | simp [if_pos hc39, if_pos hc41]), pre42⟩
      · have pre43 : ∀ t, Steps p.tables e below (T37.setTop (mkF m 99 #[.val (.long q0), .second, .val (.long q1), .second, .val (.long q2), .second, .val (.int p3), .val (.long v2), .second, .val (.long v6), .second, .val (.long v9), .second, .val (.long v12), .second, .val (.ref b14), .val (.long v24), .second, .val (.long v36), .second] [(.int (lcmpW v24 v2))])) t → P t := fun t k => pre40 t (by
            show Steps p.tables e below (T37.setTop (mkF m 91 #[.val (.long q0), .second, .val (.long q1), .second, .val (.long q2), .second, .val (.int p3), .val (.long v2), .second, .val (.long v6), .second, .val (.long v9), .second, .val (.long v12), .second, .val (.ref b14), .val (.long v24), .second, .val (.long v36), .second] [(.int (lcmpW v24 (0 : Int64)))])) _
            refine XS.ifNo X37.here hx rfl (hb hby at_91) rfl ((if0 _ _).trans (flt (fun q => hc41 ((lw_lt _ _).mp q))).1) ?_
            show Steps p.tables e below (T37.setTop (mkF m 94 #[.val (.long q0), .second, .val (.long q1), .second, .val (.long q2), .second, .val (.int p3), .val (.long v2), .second, .val (.long v6), .second, .val (.long v9), .second, .val (.long v12), .second, .val (.ref b14), .val (.long v24), .second, .val (.long v36), .second] [])) _
            refine XS.lload X37.here hx rfl (hb hby at_94) rfl ?_
            show Steps p.tables e below (T37.setTop (mkF m 96 #[.val (.long q0), .second, .val (.long q1), .second, .val (.long q2), .second, .val (.int p3), .val (.long v2), .second, .val (.long v6), .second, .val (.long v9), .second, .val (.long v12), .second, .val (.ref b14), .val (.long v24), .second, .val (.long v36), .second] [(.long v24)])) _
            refine XS.lload X37.here hx rfl (hb hby at_96) rfl ?_
            show Steps p.tables e below (T37.setTop (mkF m 98 #[.val (.long q0), .second, .val (.long q1), .second, .val (.long q2), .second, .val (.int p3), .val (.long v2), .second, .val (.long v6), .second, .val (.long v9), .second, .val (.long v12), .second, .val (.ref b14), .val (.long v24), .second, .val (.long v36), .second] [(.long v2), (.long v24)])) _
            refine XS.lcmp X37.here hx rfl (hb hby at_98) rfl ?_
            exact k)
        by_cases hc44 : v2 < v24
        · have pre45 : ∀ t, Steps p.tables e below (T37.setTop (mkF m 107 #[.val (.long q0), .second, .val (.long q1), .second, .val (.long q2), .second, .val (.int p3), .val (.long v2), .second, .val (.long v6), .second, .val (.long v9), .second, .val (.long v12), .second, .val (.ref b14), .val (.long v24), .second, .val (.long v36), .second] [(.int (0 : Int32))])) t → P t := fun t k => pre43 t (by
              show Steps p.tables e below (T37.setTop (mkF m 99 #[.val (.long q0), .second, .val (.long q1), .second, .val (.long q2), .second, .val (.int p3), .val (.long v2), .second, .val (.long v6), .second, .val (.long v9), .second, .val (.long v12), .second, .val (.ref b14), .val (.long v24), .second, .val (.long v36), .second] [(.int (lcmpW v24 v2))])) _
              refine XS.ifYes X37.here hx rfl (pc0 := 99) (pc' := 106) rfl (hb hby at_99) rfl ((if0 _ _).trans (tlt ((lw_gt _ _).mpr hc44)).2.2.1) (by decide) (by decide) ?_
              show Steps p.tables e below (T37.setTop (mkF m 106 #[.val (.long q0), .second, .val (.long q1), .second, .val (.long q2), .second, .val (.int p3), .val (.long v2), .second, .val (.long v6), .second, .val (.long v9), .second, .val (.long v12), .second, .val (.ref b14), .val (.long v24), .second, .val (.long v36), .second] [])) _
              refine XS.iconst X37.here hx rfl (hb hby at_106) ?_
              exact k)
          exact ⟨_, _, (0 : Int32), X37, e37, N37, (by first | (rw [if_pos hc39, if_neg hc41, if_pos hc44]; done) | simp only [if_pos hc39, if_neg hc41, if_pos hc44] | simp [if_pos hc39, if_neg hc41, if_pos hc44]), pre45⟩
        · have pre46 : ∀ t, Steps p.tables e below (T37.setTop (mkF m 107 #[.val (.long q0), .second, .val (.long q1), .second, .val (.long q2), .second, .val (.int p3), .val (.long v2), .second, .val (.long v6), .second, .val (.long v9), .second, .val (.long v12), .second, .val (.ref b14), .val (.long v24), .second, .val (.long v36), .second] [(.int (1 : Int32))])) t → P t := fun t k => pre43 t (by
              show Steps p.tables e below (T37.setTop (mkF m 99 #[.val (.long q0), .second, .val (.long q1), .second, .val (.long q2), .second, .val (.int p3), .val (.long v2), .second, .val (.long v6), .second, .val (.long v9), .second, .val (.long v12), .second, .val (.ref b14), .val (.long v24), .second, .val (.long v36), .second] [(.int (lcmpW v24 v2))])) _
              refine XS.ifNo X37.here hx rfl (hb hby at_99) rfl ((if0 _ _).trans (flt (fun q => hc44 ((lw_gt _ _).mp q))).2.2.1) ?_
              show Steps p.tables e below (T37.setTop (mkF m 102 #[.val (.long q0), .second, .val (.long q1), .second, .val (.long q2), .second, .val (.int p3), .val (.long v2), .second, .val (.long v6), .second, .val (.long v9), .second, .val (.long v12), .second, .val (.ref b14), .val (.long v24), .second, .val (.long v36), .second] [])) _
              refine XS.iconst X37.here hx rfl (hb hby at_102) ?_
              show Steps p.tables e below (T37.setTop (mkF m 103 #[.val (.long q0), .second, .val (.long q1), .second, .val (.long q2), .second, .val (.int p3), .val (.long v2), .second, .val (.long v6), .second, .val (.long v9), .second, .val (.long v12), .second, .val (.ref b14), .val (.long v24), .second, .val (.long v36), .second] [(.int (1 : Int32))])) _
              refine XS.goto X37.here hx rfl (pc0 := 103) (pc' := 107) rfl (hb hby at_103) (by decide) (by decide) ?_
              exact k)
          exact ⟨_, _, (1 : Int32), X37, e37, N37, (by first | (rw [if_pos hc39, if_neg hc41, if_neg hc44]; done) | simp only [if_pos hc39, if_neg hc41, if_neg hc44] | simp [if_pos hc39, if_neg hc41, if_neg hc44]), pre46⟩
    · have pre47 : ∀ t, Steps p.tables e below (T37.setTop (mkF m 107 #[.val (.long q0), .second, .val (.long q1), .second, .val (.long q2), .second, .val (.int p3), .val (.long v2), .second, .val (.long v6), .second, .val (.long v9), .second, .val (.long v12), .second, .val (.ref b14), .val (.long v24), .second, .val (.long v36), .second] [(.int (0 : Int32))])) t → P t := fun t k => pre38 t (by
          show Steps p.tables e below (T37.setTop (mkF m 84 #[.val (.long q0), .second, .val (.long q1), .second, .val (.long q2), .second, .val (.int p3), .val (.long v2), .second, .val (.long v6), .second, .val (.long v9), .second, .val (.long v12), .second, .val (.ref b14), .val (.long v24), .second, .val (.long v36), .second] [(.int (lcmpW v24 v36))])) _
          refine XS.ifYes X37.here hx rfl (pc0 := 84) (pc' := 106) rfl (hb hby at_84) rfl ((if0 _ _).trans (feq (fun q => hc39 ((lw_eq _ _).mp q))).2) (by decide) (by decide) ?_
          show Steps p.tables e below (T37.setTop (mkF m 106 #[.val (.long q0), .second, .val (.long q1), .second, .val (.long q2), .second, .val (.int p3), .val (.long v2), .second, .val (.long v6), .second, .val (.long v9), .second, .val (.long v12), .second, .val (.ref b14), .val (.long v24), .second, .val (.long v36), .second] [])) _
          refine XS.iconst X37.here hx rfl (hb hby at_106) ?_
          exact k)
      exact ⟨_, _, (0 : Int32), X37, e37, N37, (by first | (rw [if_neg hc39]; done) | simp only [if_neg hc39] | simp [if_neg hc39]), pre47⟩
  obtain ⟨fs, hr, hrun, hended, hW, hsame⟩ := X49.leave (v := some (.int v48)) (fun h => by rw [Bd.returns] at h; cases h)
  refine ⟨_, _, fin _ (pre49 _ ?_), hrun, hended, _, _, rfl, ?_, ⟨_, rfl⟩, hW, hsame.mono (by decide) (by decide)⟩
  · show Steps p.tables e below (T49.setTop (mkF m 107 #[.val (.long q0), .second, .val (.long q1), .second, .val (.long q2), .second, .val (.int p3), .val (.long v2), .second, .val (.long v6), .second, .val (.long v9), .second, .val (.long v12), .second, .val (.ref b14), .val (.long v24), .second, .val (.long v36), .second] [(.int v48)])) _
    have hnar : nar .boolean v48 = v48 := by subst hv2 hv6 hv9 hv12 hv24 hv36 hv48; first | rfl | (split <;> rfl) | ((try simp only []); (repeat' split) <;> rfl)
    exact retN X49 hx (t := .boolean) Bd.returns (by simp) (hb hby at_107) (by rw [hnar]; exact hr)
  · show Q0 Z q0 q1 q2 p3 h0 n0 _ T49.heap _
    rw [e49]
    exact ⟨(by subst hv2 hv6 hv9 hv12 hv24 hv36 hv48; first | rfl | simp only [own_f0]), N49⟩
theorem own_law (a b c : Int64) (d : Int32) : own_f0 a b c d = 1 := by
  have h1 := c_maskL b 9223372036854775807 63 (by decide) (by decide)
  unfold own_f0
  generalize (b &&& 9223372036854775807) = x at *
  simp only []
  generalize own_f1 x c d = y at *
  have e0 : (0 : Int64).toInt = 0 := by decide
  have h2 : a + y - a = y := by rw [Int64.add_comm, Int64.add_sub_cancel]
  have h3 : a + y - (a + x) = y - x := by
    have : a + y - (a + x) = y - x := by
      rw [Int64.sub_eq_add_neg, Int64.neg_add, Int64.sub_eq_add_neg, ← Int64.add_assoc, Int64.sub_eq_add_neg, Int64.add_comm a y, Int64.add_assoc y a, Int64.add_right_neg, Int64.add_zero]
    exact this
  have h4 : a + x - (a + y) = x - y := by
    rw [Int64.sub_eq_add_neg, Int64.neg_add, Int64.sub_eq_add_neg, ← Int64.add_assoc, Int64.sub_eq_add_neg, Int64.add_comm a x, Int64.add_assoc x a, Int64.add_right_neg, Int64.add_zero]
  unfold own_f5
  rw [h2, h3, h4]
  have h5 := c_lsub y x
  have h6 := c_lsub x y
  have h7 := rng64 (y - x)
  have h8 := rng64 (x - y)
  have h9 := rng64 y
  by_cases q1 : y < 0
  · have q2 : ¬ x < (0 : Int64) := by rw [Int64.lt_iff_toInt_lt]; omega
    simp [q1, q2]
  · by_cases q3 : y < x
    · have q4 : y - x < 0 := by
        rw [Int64.lt_iff_toInt_lt] at q1 q3 ⊢; omega
      have q5 : ¬ x - y < 0 := by
        rw [Int64.lt_iff_toInt_lt] at q1 q3 ⊢; omega
      have q6 : ¬ x < x - y := by
        rw [Int64.lt_iff_toInt_lt] at q1 q3 ⊢; omega
      simp only [q1, q3, q4, q5, q6, if_true, if_false]
    · have q4 : ¬ y - x < 0 := by
        rw [Int64.lt_iff_toInt_lt] at q1 q3 ⊢; omega
      have q2 : ¬ x < (0 : Int64) := by rw [Int64.lt_iff_toInt_lt]; omega
      have q7 : ¬ (0 : Int64) < 0 := by decide
      simp only [q1, q3, q4, q2, q7, if_true, if_false]
set_option maxRecDepth 65536 in
set_option maxHeartbeats 40000000 in
theorem comes_1 {Post : Tables → Env → Array Value → State → Outcome → State → Prop} (hpost : ∀ tb e args s v u, (limb_1_1.after args s (.returned v) u = true ∧ limb_1_2.after args s (.returned v) u = true ∧ True) → FrameEnd s (.returned v) u (Jvm.fieldLocs frame_1_writes args s ++ Jvm.arrayLocs frame_1_arrays args s ++ Jvm.staticLocs frame_1_statics s) 16 128 → Post tb e args s (.returned v) u) :
    ArmFor flags0 classFile x code maxLocals ret World_1 tables_1 room_1 Calls_1 rest_1 Pre_1 Post := by
  intro l hfl _ _ p e ha hc hk s m args below hf hA hF happ hP
  obtain ⟨hcalls, hrest, hpre⟩ := hP
  obtain ⟨-, -, -, hnamed, -, -, -, hat⟩ := (Spec.applies_iff hf).mp happ
  obtain ⟨hg, hn⟩ := and_e (Cond.before_iff.mp (show (Jvm.Cond.and given_1 narrow_1).before args s = true from hpre))
  obtain ⟨hg1, hg2⟩ := and_e hg
  obtain ⟨hg3, hg4⟩ := and_e hg2
  obtain ⟨hg5, hg6⟩ := and_e hg4
  obtain ⟨hg7, hg8⟩ := and_e hg6
  obtain ⟨w0, w1, w2, w3, rfl⟩ : ∃ w0 w1 w2 w3 : Value, args = #[w0, w1, w2, w3] := by
    have hs : args.size = 4 := by simpa [Cond.value, given_1] using hg1
    obtain ⟨L⟩ := args
    match L, hs with
    | [w0, w1, w2, w3], _ => exact ⟨w0, w1, w2, w3, rfl⟩
  have hw := fun d (hd : d ∈ tables_1) => atoms_spec (ws := Jvm.Cond.code x code maxLocals ret :: tables_1) hat d (List.mem_cons_of_mem _ hd)
  have hfit : Fit s := fun {y c} hc i hi => by
    obtain ⟨ha, rfl⟩ := Array.getElem?_eq_some_iff.mp hc
    have q := List.all_eq_true.mp ((Array.all_eq_true_iff_forall_mem.mp hF) _ (Array.getElem_mem ha)) i (List.mem_range.mpr hi)
    simpa [Array.getElem?_eq_getElem hi] using q
  obtain ⟨i0, ei0⟩ := isL_v hg3
  obtain rfl : w0 = (.long i0) := Option.some.inj ei0
  obtain ⟨i1, ei1⟩ := isL_v hg5
  obtain rfl : w1 = (.long i1) := Option.some.inj ei1
  obtain ⟨i2, ei2⟩ := isL_v hg7
  obtain rfl : w2 = (.long i2) := Option.some.inj ei2
  obtain ⟨i3, ei3⟩ := is_v hg8
  obtain rfl : w3 = (.int i3) := Option.some.inj ei3
  obtain ⟨n, o, h1, h2, h3, _, L, rfl, ⟨rfl, N⟩, hq⟩ := rm0 l s _ hw tables_1 i0 i1 i2 i3 s.heap s.heap.size (Nat.le_refl _) p e ha hc hk s m _ below hf ((Spec.applies_iff_loose hf).mp happ).1 ⟨rfl, State.Warmed39.refl s, rfl⟩ trivial
  refine ⟨n, _, h1, h2, h3, hpost _ _ _ _ _ _ ⟨Cond.after_iff.mpr rfl, Cond.after_iff.mpr (eq_i res_at (Term.int_eval (1)) (by rw [own_law])), trivial⟩ ⟨hq.1, hq.2.1, (hq.2.2.sift fun y hy => Or.inr (N y hy)).mono (by decide) (by decide)⟩⟩
theorem main_1_1 : Claimed_1_1 := comes_1 fun _ _ _ _ _ _ h hF => ⟨h.1, hF⟩
theorem main_1_2 : Claimed_1_2 := comes_1 fun _ _ _ _ _ _ h hF => ⟨h.2.1, hF⟩
end Jvm.Pilot.@@N@@
namespace Jvm.Pilot.@@N@@
open Jvm Jvm.ClassFile Sem Op Lib Jvm.Free Jvm.Stand Jvm.Pilot.@@N@@.Jvm.D
/-! MADE BY PROGRAM (witnessworld.py) out of the Statement's table words and the real class files: 10 classes; the members and pool entries that the words name. The judged class is class 1, her method 2. -/
namespace start1
open Jvm.ClassFile
def u (s : String) : CpInfo := .utf8 (stringToUtf16 s)
/-- a pool by its gaps: so many unusable entries, then the entry; so many at the end -/
def gap : Nat → List CpInfo → List CpInfo
  | 0, r => r
  | n + 1, r => .unusable :: gap n r
def poolList (es : List (Nat × CpInfo)) (last : Nat) : List CpInfo := es.foldr (fun e r => gap e.1 (e.2 :: r)) (gap last [])
def pool (es : List (Nat × CpInfo)) (last : Nat) : Array CpInfo := ⟨poolList es last⟩
def fileOf (pool : Array CpInfo) (this : Nat) (attrs : Array Attribute := #[]) (ms : Array MethodInfo := #[]) (fl : Nat := 33) (sup : Nat := 0) (ifs : Array Nat := #[]) (fds : Array FieldInfo := #[]) : ClassFile where
  minorVersion := 0
  majorVersion := 65
  constantPool := pool
  accessFlags := fl
  thisClass := this
  superClass := sup
  interfaces := ifs
  fields := fds
  methods := ms
  attributes := attrs
def plain (name : String) (sup : Option ClassId) : Class where
  name := name
  kind := .ordinary
  loader := none
  accessFlags := 33
  super := sup
  interfaces := #[]
  cf := none
  fields := #[]
  methods := #[]
  instanceTypes := #[]
  staticTypes := #[]
  resolved := #[]
  callSites := []
  init := .initialized
  statics := none
  mirror := none

def pool0 : Array CpInfo := pool [(5, u "<init>"), (0, u "()V"), (1, .class_ 10), (1, u "java/lang/Object")] 113

def k0c0 : Code := { maxStack := 0, maxLocals := 1, code := object_method_1_code, exceptionTable := #[], attributes := #[] }
def k0m0 : Method := { name := "<init>", desc := "()V", sig := { parameters := [], returnType := none }, accessFlags := 1, code := some k0c0 }
/-- java/lang/Object -/
def k0 : Class := { plain "java/lang/Object" none with
  accessFlags := 33
  interfaces := #[]
  cf := some (fileOf pool0 8 #[] #[{ accessFlags := 1, nameIndex := 5, descriptorIndex := 6, attributes := #[] }] 33 0 #[] #[])
  fields := #[]
  methods := #[k0m0]
  instanceTypes := #[]
  staticTypes := #[]
  resolved := Array.replicate 124 none
  statics := none }

def pool1 : Array CpInfo := pool [(2, .class_ 4), (1, u "java/lang/Object"), (0, u "<init>"), (0, u "()V"), (0, .long 18446744073709551615), (3, .long 9223372036854775807), (1, .long 9223372036854775808), (1, .methodref 16 17), (0, .class_ 18), (0, .nameAndType 19 20), (0, u "com/example/incarico/incarico/load/PauseWaitNanosPinLaw"), (0, u "pickOffset"), (0, u "(JJI)J"), (0, .class_ 22), (0, u "com/example/incarico/incarico/load/Pause"), (0, .methodref 21 24), (0, .nameAndType 5 25), (0, u "(JJ)V"), (0, .methodref 21 27), (0, .nameAndType 28 29), (0, u "waitNanos"), (0, u "(J)J"), (3, u "law"), (0, u "(JJJI)Z")] 2

def k1m0 : Method := { name := "<init>", desc := "()V", sig := { parameters := [], returnType := none }, accessFlags := 2, code := none }
def k1c1 : Code := { maxStack := 6, maxLocals := 8, code := method_2_code, exceptionTable := #[], attributes := #[] }
def k1m1 : Method := { name := "pickOffset", desc := "(JJI)J", sig := { parameters := [.long, .long, .int], returnType := some .long }, accessFlags := 10, code := some k1c1 }
def k1c2 : Code := { maxStack := 6, maxLocals := 20, code := code, exceptionTable := #[], attributes := #[] }
def k1m2 : Method := { name := "law", desc := "(JJJI)Z", sig := { parameters := [.long, .long, .long, .int], returnType := some .boolean }, accessFlags := 9, code := some k1c2 }
/-- com/example/incarico/incarico/load/PauseWaitNanosPinLaw -/
def k1 : Class := { plain "com/example/incarico/incarico/load/PauseWaitNanosPinLaw" (some 0) with
  accessFlags := 49
  interfaces := #[]
  cf := some (fileOf pool1 16 #[] #[{ accessFlags := 2, nameIndex := 5, descriptorIndex := 6, attributes := #[] }, { accessFlags := 10, nameIndex := 19, descriptorIndex := 20, attributes := #[] }, { accessFlags := 9, nameIndex := 33, descriptorIndex := 34, attributes := #[] }] 49 2 #[] #[])
  fields := #[]
  methods := #[k1m0, k1m1, k1m2]
  instanceTypes := #[]
  staticTypes := #[]
  resolved := Array.replicate 37 none
  statics := none }

def pool2 : Array CpInfo := pool [(1, .methodref 2 3), (0, .class_ 4), (0, .nameAndType 5 6), (0, u "java/lang/Object"), (0, u "<init>"), (0, u "()V"), (0, .class_ 8), (0, u "java/lang/Record")] 13

def k2c0 : Code := { maxStack := 1, maxLocals := 1, code := jdk_30_method_1_code, exceptionTable := #[], attributes := #[] }
def k2m0 : Method := { name := "<init>", desc := "()V", sig := { parameters := [], returnType := none }, accessFlags := 4, code := some k2c0 }
/-- java/lang/Record -/
def k2 : Class := { plain "java/lang/Record" (some 0) with
  accessFlags := 1057
  interfaces := #[]
  cf := some (fileOf pool2 7 #[] #[{ accessFlags := 4, nameIndex := 5, descriptorIndex := 6, attributes := #[] }] 1057 2 #[] #[])
  fields := #[]
  methods := #[k2m0]
  instanceTypes := #[]
  staticTypes := #[]
  resolved := Array.replicate 22 none
  statics := none }

def pool3 : Array CpInfo := pool [(1, .methodref 2 3), (0, .class_ 4), (0, .nameAndType 5 6), (0, u "java/lang/Record"), (0, u "<init>"), (0, u "()V"), (0, .fieldref 8 9), (0, .class_ 10), (0, .nameAndType 11 12), (0, u "com/example/incarico/incarico/load/Pause"), (0, u "startNanos"), (0, u "J"), (0, .fieldref 8 14), (0, .nameAndType 15 12), (0, u "endNanos"), (12, u "(JJ)V"), (3, u "waitNanos"), (0, u "(J)J")] 26

def k3c0 : Code := { maxStack := 3, maxLocals := 5, code := prog_97_method_1_code, exceptionTable := #[], attributes := #[] }
def k3m0 : Method := { name := "<init>", desc := "(JJ)V", sig := { parameters := [.long, .long], returnType := none }, accessFlags := 0, code := some k3c0 }
def k3c1 : Code := { maxStack := 4, maxLocals := 3, code := prog_97_method_2_code, exceptionTable := #[], attributes := #[] }
def k3m1 : Method := { name := "waitNanos", desc := "(J)J", sig := { parameters := [.long], returnType := some .long }, accessFlags := 0, code := some k3c1 }
/-- com/example/incarico/incarico/load/Pause -/
def k3 : Class := { plain "com/example/incarico/incarico/load/Pause" (some 2) with
  accessFlags := 48
  interfaces := #[]
  cf := some (fileOf pool3 8 #[] #[{ accessFlags := 0, nameIndex := 5, descriptorIndex := 28, attributes := #[] }, { accessFlags := 0, nameIndex := 32, descriptorIndex := 33, attributes := #[] }] 48 2 #[] #[{ accessFlags := 18, nameIndex := 11, descriptorIndex := 12, attributes := #[] }, { accessFlags := 18, nameIndex := 15, descriptorIndex := 12, attributes := #[] }])
  fields := #[{ name := "startNanos", type := .long, accessFlags := 18, slot := 0, constantValue := 0 }, { name := "endNanos", type := .long, accessFlags := 18, slot := 1, constantValue := 0 }]
  methods := #[k3m0, k3m1]
  instanceTypes := #[.long, .long]
  staticTypes := #[]
  resolved := Array.replicate 60 none
  statics := none }

def pool4 : Array CpInfo := pool [(1, u "java/lang/Cloneable"), (0, .class_ 1), (0, u "java/lang/Object"), (0, .class_ 3)] 3

/-- java/lang/Cloneable -/
def k4 : Class := { plain "java/lang/Cloneable" (some 0) with
  accessFlags := 1537
  interfaces := #[]
  cf := some (fileOf pool4 2 #[] #[] 1537 4 #[] #[])
  fields := #[]
  methods := #[]
  instanceTypes := #[]
  staticTypes := #[]
  resolved := Array.replicate 8 none
  statics := none }

def pool5 : Array CpInfo := pool [(1, u "java/io/Serializable"), (0, .class_ 1), (0, u "java/lang/Object"), (0, .class_ 3)] 3

/-- java/io/Serializable -/
def k5 : Class := { plain "java/io/Serializable" (some 0) with
  accessFlags := 1537
  interfaces := #[]
  cf := some (fileOf pool5 2 #[] #[] 1537 4 #[] #[])
  fields := #[]
  methods := #[]
  instanceTypes := #[]
  staticTypes := #[]
  resolved := Array.replicate 8 none
  statics := none }

/-- the primitive byte -/
def k6 : Class := { plain "byte" none with kind := .primitive 'B', accessFlags := 0x411 }
/-- [B -/
def k7 : Class := { plain "[B" (some 0) with kind := .array 6 .byte, interfaces := #[4, 5], accessFlags := 1041 }

/-- the primitive int -/
def k8 : Class := { plain "int" none with kind := .primitive 'I', accessFlags := 0x411 }
/-- [I -/
def k9 : Class := { plain "[I" (some 0) with kind := .array 8 .int, interfaces := #[4, 5], accessFlags := 1041 }

def heap : Heap := #[]
def classes : Array Class := #[k0, k1, k2, k3, k4, k5, k6, k7, k8, k9]
def interned : List (Array UInt16 × Addr) := []
def slotsUsed : Nat := 0
def theMethod : MethodId := ⟨1, 2⟩
def args0 : Array Value := #[.long 5, .long 7, .long 3, .int 0]
def aboutOver (below : List Frame) : State where
  vm := { classes := classes, interned := interned.toArray }
  heap := heap
  slotsUsed := slotsUsed
  threads := #[{ frames := .invoking theMethod args0 :: below }]
def below0 : List Frame := [.native { method := ⟨0, 0⟩, args := #[] }]
def about1 : State := aboutOver below0
def p0 : Program := .bare "" "" ""
def e0 : Env := launch0.env 0 0 0
theorem w_frames : about1.frames = Frame.invoking theMethod args0 :: below0 := rfl
set_option maxRecDepth 65536 in
theorem w_args : argsFit about1.vm theMethod args0 = true := by decide +kernel
set_option maxRecDepth 65536 in
theorem w_heap : heapFits about1 = true := by decide +kernel
set_option maxRecDepth 65536 in
theorem w_runnable : about1.curStatus? = some .runnable := by decide +kernel
set_option maxRecDepth 65536 in
theorem w_alone : about1.alone = true := by decide +kernel
set_option maxRecDepth 65536 in
theorem w_named : about1.methodNamed? x = some theMethod := by decide +kernel
set_option maxRecDepth 65536 in
theorem w_hears : about1.hears theMethod below0 = true := by decide +kernel
set_option maxRecDepth 65536 in
theorem w_ripe : about1.ripe theMethod args0 below0 = true := by decide +kernel
theorem w_running : about1.status = .running := rfl
set_option maxRecDepth 65536 in
theorem w_room : about1.hasRoom e0.platform room_1 = true :=
  launch0.hasRoom_least _ room_1 (by decide +kernel) (by decide +kernel) (by decide +kernel) (by decide +kernel) (by decide +kernel) (by decide +kernel)
theorem allAtoms_all (ts : List Jvm.Cond) (a : Array Jvm.Value) (st : Jvm.State) : (allAtoms ts).before a st = ts.all (fun c => c.before a st) := by
  induction ts with
  | nil => rfl
  | cons c t ih =>
    show (Jvm.Cond.and c (allAtoms t)).before a st = _
    rw [Jvm.Cond.before_and, ih, List.all_cons]
def words1 : List Jvm.Cond := Jvm.Cond.code x code maxLocals ret :: tables_1
/-- a 'code' word, met by the world's own term for the bytes: nothing is compared byte by byte -/
theorem code_word {y : MethodName} {bytes : ByteArray} {mx : Nat} {rt : Option FieldType} {a : Array Value} {s : State} {m : MethodId} {meth : Method} {c : Code} (h1 : s.methodNamed? y = some m) (h2 : s.vm.method? m = some meth) (h3 : meth.code = some c) (h4 : c.code = bytes)
    (h5 : (c.maxLocals == mx && c.exceptionTable.isEmpty && decide (c.maxStack ≤ mostOperands) && decide (meth.sig.returnType = rt) && !meth.locks && decide (parseMethodDescriptor y.desc = some meth.sig)) = true) : (Jvm.Cond.code y bytes mx rt).before a s = true := by
  simp only [Bool.and_eq_true, beq_iff_eq, Bool.not_eq_true', decide_eq_true_eq] at h5
  obtain ⟨⟨⟨⟨⟨g1, g2⟩, g3⟩, g4⟩, g5⟩, g6⟩ := h5
  simp [Cond.before, Cond.holds, Cond.value, h1, h2, h3, h4, g1, g2, g3, g4, g5, g6]
def isCode : Jvm.Cond → Bool
  | .code _ _ _ _ => true
  | _ => false
theorem all_split {L : List Jvm.Cond} {P : Jvm.Cond → Bool} (h1 : L.all (fun c => isCode c || P c) = true) (h2 : ∀ c ∈ L.filter isCode, P c = true) : L.all P = true := by
  refine List.all_eq_true.mpr fun c hc => ?_
  have h := List.all_eq_true.mp h1 c hc
  rcases Bool.eq_false_or_eq_true (isCode c) with hi | hi
  · exact h2 c (List.mem_filter.mpr ⟨hc, hi⟩)
  · simpa [hi] using h
set_option maxRecDepth 65536 in
theorem w_c0 : (Jvm.Cond.code x code maxLocals ret).before args0 about1 = true := code_word (m := ⟨1, 2⟩) (meth := k1m2) (c := k1c2) (by decide +kernel) rfl rfl rfl (by decide +kernel)
set_option maxRecDepth 65536 in
theorem w_c1 : (Jvm.Cond.code ({ cls := "com/example/incarico/incarico/load/PauseWaitNanosPinLaw", name := "pickOffset", desc := "(JJI)J" } : Jvm.MethodName) method_2_code (8 : Nat) (Option.some Jvm.ClassFile.FieldType.long)).before args0 about1 = true := code_word (m := ⟨1, 1⟩) (meth := k1m1) (c := k1c1) (by decide +kernel) rfl rfl rfl (by decide +kernel)
set_option maxRecDepth 65536 in
theorem w_c2 : (Jvm.Cond.code ({ cls := "com/example/incarico/incarico/load/Pause", name := "<init>", desc := "(JJ)V" } : Jvm.MethodName) prog_97_method_1_code (5 : Nat) (Option.none : Option Jvm.ClassFile.FieldType)).before args0 about1 = true := code_word (m := ⟨3, 0⟩) (meth := k3m0) (c := k3c0) (by decide +kernel) rfl rfl rfl (by decide +kernel)
set_option maxRecDepth 65536 in
theorem w_c3 : (Jvm.Cond.code ({ cls := "java/lang/Record", name := "<init>", desc := "()V" } : Jvm.MethodName) jdk_30_method_1_code (1 : Nat) (Option.none : Option Jvm.ClassFile.FieldType)).before args0 about1 = true := code_word (m := ⟨2, 0⟩) (meth := k2m0) (c := k2c0) (by decide +kernel) rfl rfl rfl (by decide +kernel)
set_option maxRecDepth 65536 in
theorem w_c4 : (Jvm.Cond.code ({ cls := "java/lang/Object", name := "<init>", desc := "()V" } : Jvm.MethodName) object_method_1_code (1 : Nat) (Option.none : Option Jvm.ClassFile.FieldType)).before args0 about1 = true := code_word (m := ⟨0, 0⟩) (meth := k0m0) (c := k0c0) (by decide +kernel) rfl rfl rfl (by decide +kernel)
set_option maxRecDepth 65536 in
theorem w_c5 : (Jvm.Cond.code ({ cls := "com/example/incarico/incarico/load/Pause", name := "waitNanos", desc := "(J)J" } : Jvm.MethodName) prog_97_method_2_code (3 : Nat) (Option.some Jvm.ClassFile.FieldType.long)).before args0 about1 = true := code_word (m := ⟨3, 1⟩) (meth := k3m1) (c := k3c1) (by decide +kernel) rfl rfl rfl (by decide +kernel)
def codes1 : List Jvm.Cond := [Jvm.Cond.code x code maxLocals ret, Jvm.Cond.code ({ cls := "com/example/incarico/incarico/load/PauseWaitNanosPinLaw", name := "pickOffset", desc := "(JJI)J" } : Jvm.MethodName) method_2_code (8 : Nat) (Option.some Jvm.ClassFile.FieldType.long), Jvm.Cond.code ({ cls := "com/example/incarico/incarico/load/Pause", name := "<init>", desc := "(JJ)V" } : Jvm.MethodName) prog_97_method_1_code (5 : Nat) (Option.none : Option Jvm.ClassFile.FieldType), Jvm.Cond.code ({ cls := "java/lang/Record", name := "<init>", desc := "()V" } : Jvm.MethodName) jdk_30_method_1_code (1 : Nat) (Option.none : Option Jvm.ClassFile.FieldType), Jvm.Cond.code ({ cls := "java/lang/Object", name := "<init>", desc := "()V" } : Jvm.MethodName) object_method_1_code (1 : Nat) (Option.none : Option Jvm.ClassFile.FieldType), Jvm.Cond.code ({ cls := "com/example/incarico/incarico/load/Pause", name := "waitNanos", desc := "(J)J" } : Jvm.MethodName) prog_97_method_2_code (3 : Nat) (Option.some Jvm.ClassFile.FieldType.long)]
set_option maxRecDepth 65536 in
theorem codes_eq : words1.filter isCode = codes1 := rfl
theorem w_codes : ∀ c ∈ words1.filter isCode, c.before args0 about1 = true := by
  rw [codes_eq]
  intro c hc
  simp only [codes1, List.mem_cons, List.not_mem_nil, or_false] at hc
  rcases hc with rfl | rfl | rfl | rfl | rfl | rfl
  · exact w_c0
  · exact w_c1
  · exact w_c2
  · exact w_c3
  · exact w_c4
  · exact w_c5
set_option maxRecDepth 65536 in
theorem w_t1 : (words1.take 24).all (fun c => isCode c || c.before args0 about1) = true := by decide +kernel
set_option maxRecDepth 65536 in
theorem w_t2 : (words1.drop 24).all (fun c => isCode c || c.before args0 about1) = true := by decide +kernel
theorem w_tables : (allAtoms (Jvm.Cond.code x code maxLocals ret :: tables_1)).before args0 about1 = true := by
  rw [allAtoms_all]
  show words1.all (fun c => c.before args0 about1) = true
  refine all_split ?_ w_codes
  rw [← List.take_append_drop 24 words1, List.all_append, w_t1, w_t2]
  rfl
set_option maxRecDepth 65536 in
theorem w_case : (Jvm.Cond.and given_1 narrow_1).before args0 about1 = true := by decide +kernel
theorem w_applies : (headSpec (Jvm.Cond.code x code maxLocals ret :: tables_1) room_1).applies x e0.platform about1 = true :=
  (Spec.applies_iff w_frames).mpr ⟨w_running, w_runnable, w_alone, w_named, w_hears, w_ripe, w_room, w_tables⟩
theorem atStart : AtStart classFile x code maxLocals ret World_1 tables_1 room_1 Calls_1 rest_1 Pre_1 launch0 p0 e0 about1 theMethod args0 below0 :=
  ⟨lists_1, trivial, launch0.admits_env _ _ _, launch0.least_env, fairChoices_fair.cas, fairChoices_fair.clock, w_frames, w_args, w_heap, w_applies, trivial, trivial, w_case⟩
end start1
theorem witness_1 : WitnessClaimed_1 := ⟨start1.p0, start1.e0, start1.about1, start1.theMethod, start1.args0, start1.below0, start1.atStart⟩
end Jvm.Pilot.@@N@@
