import JvmDerived
import JvmDerived.Pilot.@@N@@Statement
import JvmDerived.Pilot.@@N@@Code
set_option linter.unusedVariables false
set_option linter.unusedSimpArgs false
namespace Jvm.RoadKit
open Sem ClassFile Op Lib Jvm.Stand Jvm.Free Jvm.LawKit
section New
variable {p : Program} {l : Launch} {e : Env} {R : Room} {s : State} {m : MethodId} {args : Array Value} {below : List Frame} {meth : Method} {c : Code} {T : State} {locs : List Loc} {cells slots : Nat}
theorem retI (X : Stand p l e R s m args below meth c T locs cells slots) (hx : p.tables.exec = Jvm.exec) {pc : Nat} {Ls : Array Slot} {z : Int32} {rest : List Value} (hret : meth.sig.returnType = some .int) (hd : decode c.code pc = .ok (.ireturn, 1)) {fs : List Frame}
    (hl : ∀ (f : JFrame) (acts : List Action), f.method = m → f.locked = none → f.entered = [] → (doReturn e (T.setTop f) acts (some (.int z))).1 = T.setFrames fs) : Steps p.tables e below (T.setTop (mkF m pc Ls (.int z :: rest))) (T.setFrames fs) := by
  have hm' : T.vm.method? m = some meth := X.method'
  have hn : narrow .int (.int z) = .int z := rfl
  show Steps p.tables e below (T.setTop { method := m, pc := pc, locals := Ls, stack := _ :: rest, locked := none }) _
  jvm_step X.here [X.here.top, hx, hd, hm', hret, hn]
  first | (intro acts; rw [hl _ acts rfl rfl rfl]) | rw [hl _ _ rfl rfl rfl]
  exact Steps.refl _
end New
end Jvm.RoadKit
namespace Jvm.Pilot.@@N@@
open Jvm Jvm.ClassFile Sem Op Lib Jvm.Free Jvm.Stand Jvm.LawKit Jvm.RoadKit Bundle Jvm.Pilot.@@N@@.Jvm.D
theorem d1_0 : decode prog_4_method_4_code 0 = .ok (.getstatic 58, 3) := by decide +kernel
theorem d1_3 : decode prog_4_method_4_code 3 = .ok (.astore_n 1, 1) := by decide +kernel
theorem d1_4 : decode prog_4_method_4_code 4 = .ok (.aload_n 1, 1) := by decide +kernel
theorem d1_5 : decode prog_4_method_4_code 5 = .ok (.arraylength, 1) := by decide +kernel
theorem d1_6 : decode prog_4_method_4_code 6 = .ok (.istore_n 2, 1) := by decide +kernel
theorem d1_7 : decode prog_4_method_4_code 7 = .ok (.iconst 0, 1) := by decide +kernel
theorem d1_8 : decode prog_4_method_4_code 8 = .ok (.istore_n 3, 1) := by decide +kernel
theorem d1_9 : decode prog_4_method_4_code 9 = .ok (.iload_n 3, 1) := by decide +kernel
theorem d1_10 : decode prog_4_method_4_code 10 = .ok (.iload_n 2, 1) := by decide +kernel
theorem d1_11 : decode prog_4_method_4_code 11 = .ok (.if_icmp .ge 26, 3) := by decide +kernel
theorem d1_14 : decode prog_4_method_4_code 14 = .ok (.aload_n 1, 1) := by decide +kernel
theorem d1_15 : decode prog_4_method_4_code 15 = .ok (.iload_n 3, 1) := by decide +kernel
theorem d1_16 : decode prog_4_method_4_code 16 = .ok (.aaload, 1) := by decide +kernel
theorem d1_17 : decode prog_4_method_4_code 17 = .ok (.astore 4, 2) := by decide +kernel
theorem d1_19 : decode prog_4_method_4_code 19 = .ok (.aload 4, 2) := by decide +kernel
theorem d1_21 : decode prog_4_method_4_code 21 = .ok (.getfield 41, 3) := by decide +kernel
theorem d1_24 : decode prog_4_method_4_code 24 = .ok (.iload_n 0, 1) := by decide +kernel
theorem d1_25 : decode prog_4_method_4_code 25 = .ok (.if_icmp .ne 6, 3) := by decide +kernel
theorem d1_28 : decode prog_4_method_4_code 28 = .ok (.aload 4, 2) := by decide +kernel
theorem d1_30 : decode prog_4_method_4_code 30 = .ok (.areturn, 1) := by decide +kernel
theorem d1_31 : decode prog_4_method_4_code 31 = .ok (.iinc 3 1, 3) := by decide +kernel
theorem d1_34 : decode prog_4_method_4_code 34 = .ok (.goto (-25), 3) := by decide +kernel
theorem d1_37 : decode prog_4_method_4_code 37 = .ok (.aconst_null, 1) := by decide +kernel
theorem d1_38 : decode prog_4_method_4_code 38 = .ok (.areturn, 1) := by decide +kernel
theorem pn_1 : plainName "com/example/fairmark/fairmark/OrderType" = true := by first | (simp [plainName, overriddenIn]; done) | decide +kernel
theorem ef_1 (m : MethodId) (p0 : Int32) : entryFrame m #[(.int p0)] 5 = mkF m 0 #[.val (.int p0), .unset, .unset, .unset, .unset] [] := by first | (simp [entryFrame, mkF, argsToLocals, Value.category]; done) | rfl
def own_f1 (p0 : Int32) (y0 : Addr) (y1 : Addr) (y2 : Addr) (y3 : Addr) (y4 : Addr) (y5 : Addr) : Value := (if (1 : Int32) = p0 then (.ref y0) else (if (2 : Int32) = p0 then (.ref y1) else (if (3 : Int32) = p0 then (.ref y2) else (if (4 : Int32) = p0 then (.ref y3) else (if (5 : Int32) = p0 then (.ref y4) else (if (6 : Int32) = p0 then (.ref y5) else .null))))))
def Q1 (Z : State) (p0 : Int32) (s_ALL : Addr) (k_ALL : ClassId) (y0 : Addr) (y1 : Addr) (y2 : Addr) (y3 : Addr) (y4 : Addr) (y5 : Addr) (h0 : Heap) (n0 : Nat) (v : Option Value) (h : Heap) (L : List Loc) : Prop := v = some (own_f1 p0 y0 y1 y2 y3 y4 y5) ∧ Fr n0 L ∧ h = h0
set_option maxRecDepth 65536 in
set_option maxHeartbeats 40000000 in
theorem rm1 (l : Launch) (Z : State) (a0 : Array Value) (hw : ∀ d ∈ tables_1, d.before a0 Z = true) (ws : List Jvm.Cond) (p0 : Int32) (s_ALL : Addr) (k_ALL : ClassId) (y0 : Addr) (y1 : Addr) (y2 : Addr) (y3 : Addr) (y4 : Addr) (y5 : Addr) (h0 : Heap) (n0 : Nat) (Z0 : n0 ≤ h0.size) (S_ALL : Sta Z h0 "com/example/fairmark/fairmark/OrderType" "ALL" "[Lcom/example/fairmark/fairmark/OrderType;" (.ref s_ALL)) (V_ALL : Arv Z h0 s_ALL k_ALL (.object "com/example/fairmark/fairmark/OrderType") (6 : Int32) [(.ref y0), (.ref y1), (.ref y2), (.ref y3), (.ref y4), (.ref y5)] .null) (F_1 : Fld Z h0 y0 "com/example/fairmark/fairmark/OrderType" "code" "I" (.int (1 : Int32))) (F_2 : Fld Z h0 y1 "com/example/fairmark/fairmark/OrderType" "code" "I" (.int (2 : Int32))) (F_3 : Fld Z h0 y2 "com/example/fairmark/fairmark/OrderType" "code" "I" (.int (3 : Int32))) (F_4 : Fld Z h0 y3 "com/example/fairmark/fairmark/OrderType" "code" "I" (.int (4 : Int32))) (F_5 : Fld Z h0 y4 "com/example/fairmark/fairmark/OrderType" "code" "I" (.int (5 : Int32))) (F_6 : Fld Z h0 y5 "com/example/fairmark/fairmark/OrderType" "code" "I" (.int (6 : Int32))) :
    MetFree l (⟨"com/example/fairmark/fairmark/OrderType", "of", "(I)Lcom/example/fairmark/fairmark/OrderType;"⟩ : MethodName) (head1 (Jvm.Cond.code (⟨"com/example/fairmark/fairmark/OrderType", "of", "(I)Lcom/example/fairmark/fairmark/OrderType;"⟩ : MethodName) prog_4_method_4_code 5 (some (.object "com/example/fairmark/fairmark/OrderType")) :: ws) ({ frames := 0, cells := 0, slots := 0, locals := 0 } : Room)) (fun a U => a = #[(.int p0)] ∧ Z.Warmed39 U.vm ∧ U.heap = h0) (fun _ _ _ _ _ => True) (fun _ U o U' => ∃ v L, o = .returned v ∧ Q1 Z p0 s_ALL k_ALL y0 y1 y2 y3 y4 y5 h0 n0 v U'.heap L ∧ FrameEnd U o U' L ({ frames := 0, cells := 0, slots := 0, locals := 0 } : Room).cells ({ frames := 0, cells := 0, slots := 0, locals := 0 } : Room).slots) := by
  refine MetFree.of_bodySF (plainFor_of_name pn_1) hisR ?_
  intro p e s m args below meth c s₁ Bd hml0 hP hK
  obtain ⟨rfl, hZ, hh⟩ := hP
  have hx := Bd.exec
  have hby := Bd.bytes
  have hml : c.maxLocals = 5 := hml0
  have hown : s.vm.findClass "com/example/fairmark/fairmark/OrderType" = some m.cls := findClass_of_methodNamed Bd.named
  have hnm := (name_of_methodNamed Bd.named Bd.method).1
  have X0 : Stand p l e ({ frames := 0, cells := 0, slots := 0, locals := 0 } : Room) s m #[(.int p0)] below meth c s₁ [] 0 0 := Stand.of_body Bd
  have e0 : s₁.heap = h0 := by rw [← hh, Bd.state]; rfl
  have N0 := Fr.nil n0
  obtain ⟨P, pre0, fin⟩ : ∃ P : State → Prop, (∀ t, Steps p.tables e below (s₁.setTop (mkF m 0 #[.val (.int p0), .unset, .unset, .unset, .unset] [])) t → P t) ∧ (∀ t, P t → Steps p.tables e below (s₁.setTop (entryFrame m #[(.int p0)] 5)) t) := ⟨fun t => Steps p.tables e below (s₁.setTop (entryFrame m #[(.int p0)] 5)) t, fun t k => castTop (ef_1 m p0) k, fun t k => k⟩
  have K0 : Keep h0 h0 [] := Keep.refl _ _
  obtain ⟨T1, X1, e1, st1⟩ := getS2 X0 hx hZ hown (host := "") (Or.inl (hw _ (List.mem_of_getElem? (i := 4) rfl))) Via.refl e0 S_ALL (g := (mkF m 0 #[.val (.int p0), .unset, .unset, .unset, .unset] [])) rfl (hb hby d1_0)
  have pre1 : ∀ t, Steps p.tables e below (T1.setTop (mkF m 3 #[.val (.int p0), .unset, .unset, .unset, .unset] [(.ref s_ALL)])) t → P t := fun t k => pre0 t (st1 _ k)
  have pre2 : ∀ t, Steps p.tables e below (T1.setTop (mkF m 5 #[.val (.int p0), .val (.ref s_ALL), .unset, .unset, .unset] [(.ref s_ALL)])) t → P t := fun t k => pre1 t (by
      show Steps p.tables e below (T1.setTop (mkF m 3 #[.val (.int p0), .unset, .unset, .unset, .unset] [(.ref s_ALL)])) _
      refine XS.astoreN X1.here hx rfl (hb hby d1_3) rfl rfl (l' := #[.val (.int p0), .val (.ref s_ALL), .unset, .unset, .unset]) rfl ?_
      show Steps p.tables e below (T1.setTop (mkF m 4 #[.val (.int p0), .val (.ref s_ALL), .unset, .unset, .unset] [])) _
      refine XS.aloadN X1.here hx rfl (hb hby d1_4) rfl rfl ?_
      exact k)
  obtain ⟨clq3, Arq3, -, Sq3, Nq3', -, -⟩ := id V_ALL
  have pre4 : ∀ t, Steps p.tables e below (T1.setTop (mkF m 16 #[.val (.int p0), .val (.ref s_ALL), .val (.int (6 : Int32)), .val (.int (0 : Int32)), .unset] [(.int (0 : Int32)), (.ref s_ALL)])) t → P t := fun t k => pre2 t (by
      show Steps p.tables e below (T1.setTop (mkF m 5 #[.val (.int p0), .val (.ref s_ALL), .unset, .unset, .unset] [(.ref s_ALL)])) _
      refine X1.arraylength hx (by rw [e1]; exact Arq3.1) (State.isArrayOf_alike hZ.alike Arq3.2.1) (g := (mkF m 5 #[.val (.int p0), .val (.ref s_ALL), .unset, .unset, .unset] [(.ref s_ALL)])) rfl rfl (hb hby d1_5) _ ?_
      rw [len_of Sq3 Nq3']
      show Steps p.tables e below (T1.setTop (mkF m 6 #[.val (.int p0), .val (.ref s_ALL), .unset, .unset, .unset] [(.int (6 : Int32))])) _
      refine XS.istoreN X1.here hx rfl (hb hby d1_6) rfl (l' := #[.val (.int p0), .val (.ref s_ALL), .val (.int (6 : Int32)), .unset, .unset]) rfl ?_
      show Steps p.tables e below (T1.setTop (mkF m 7 #[.val (.int p0), .val (.ref s_ALL), .val (.int (6 : Int32)), .unset, .unset] [])) _
      refine XS.iconst X1.here hx rfl (hb hby d1_7) ?_
      show Steps p.tables e below (T1.setTop (mkF m 8 #[.val (.int p0), .val (.ref s_ALL), .val (.int (6 : Int32)), .unset, .unset] [(.int (0 : Int32))])) _
      refine XS.istoreN X1.here hx rfl (hb hby d1_8) rfl (l' := #[.val (.int p0), .val (.ref s_ALL), .val (.int (6 : Int32)), .val (.int (0 : Int32)), .unset]) rfl ?_
      show Steps p.tables e below (T1.setTop (mkF m 9 #[.val (.int p0), .val (.ref s_ALL), .val (.int (6 : Int32)), .val (.int (0 : Int32)), .unset] [])) _
      refine XS.iloadN X1.here hx rfl (hb hby d1_9) rfl ?_
      show Steps p.tables e below (T1.setTop (mkF m 10 #[.val (.int p0), .val (.ref s_ALL), .val (.int (6 : Int32)), .val (.int (0 : Int32)), .unset] [(.int (0 : Int32))])) _
      refine XS.iloadN X1.here hx rfl (hb hby d1_10) rfl ?_
      show Steps p.tables e below (T1.setTop (mkF m 11 #[.val (.int p0), .val (.ref s_ALL), .val (.int (6 : Int32)), .val (.int (0 : Int32)), .unset] [(.int (6 : Int32)), (.int (0 : Int32))])) _
      refine XS.icmpNo X1.here hx rfl (hb hby d1_11) rfl (tlt (rfl : (0 : Int32) < (6 : Int32))).2.1 ?_
      show Steps p.tables e below (T1.setTop (mkF m 14 #[.val (.int p0), .val (.ref s_ALL), .val (.int (6 : Int32)), .val (.int (0 : Int32)), .unset] [])) _
      refine XS.aloadN X1.here hx rfl (hb hby d1_14) rfl rfl ?_
      show Steps p.tables e below (T1.setTop (mkF m 15 #[.val (.int p0), .val (.ref s_ALL), .val (.int (6 : Int32)), .val (.int (0 : Int32)), .unset] [(.ref s_ALL)])) _
      refine XS.iloadN X1.here hx rfl (hb hby d1_15) rfl ?_
      exact k)
  obtain ⟨clq5, Arq5, qq5, Sq5, Nq5', Hq5, Gq5⟩ := id V_ALL
  have iq5 : ¬ ((0 : Int32) < 0 ∨ clq5.slots.size ≤ ((0 : Int32)).toNatClampNeg) := inb_of Sq5 ⟨by decide, by decide⟩
  have pre6 : ∀ t, Steps p.tables e below (T1.setTop (mkF m 21 #[.val (.int p0), .val (.ref s_ALL), .val (.int (6 : Int32)), .val (.int (0 : Int32)), .val (.ref y0)] [(.ref y0)])) t → P t := fun t k => pre4 t (by
      show Steps p.tables e below (T1.setTop (mkF m 16 #[.val (.int p0), .val (.ref s_ALL), .val (.int (6 : Int32)), .val (.int (0 : Int32)), .unset] [(.int (0 : Int32)), (.ref s_ALL)])) _
      refine X1.aaload hx (j := (0 : Int32)) (v := (.ref y0)) (by rw [e1]; exact Arq5.1) (State.isArrayOf_alike hZ.alike Arq5.2.1) rfl Arq5.2.2 iq5 (Hq5.at iq5 rfl) (g := (mkF m 16 #[.val (.int p0), .val (.ref s_ALL), .val (.int (6 : Int32)), .val (.int (0 : Int32)), .unset] [(.int (0 : Int32)), (.ref s_ALL)])) rfl rfl (hb hby d1_16) _ ?_
      show Steps p.tables e below (T1.setTop (mkF m 17 #[.val (.int p0), .val (.ref s_ALL), .val (.int (6 : Int32)), .val (.int (0 : Int32)), .unset] [(.ref y0)])) _
      refine XS.astore X1.here hx rfl (hb hby d1_17) rfl rfl (l' := #[.val (.int p0), .val (.ref s_ALL), .val (.int (6 : Int32)), .val (.int (0 : Int32)), .val (.ref y0)]) rfl ?_
      show Steps p.tables e below (T1.setTop (mkF m 19 #[.val (.int p0), .val (.ref s_ALL), .val (.int (6 : Int32)), .val (.int (0 : Int32)), .val (.ref y0)] [])) _
      refine XS.aload X1.here hx rfl (hb hby d1_19) rfl rfl ?_
      exact k)
  obtain ⟨T7, X7, e7, st7⟩ := getF X1 hx hZ hown (host := "") (Or.inl (hw _ (List.mem_of_getElem? (i := 7) rfl))) Via.refl e1 F_1 (g := (mkF m 21 #[.val (.int p0), .val (.ref s_ALL), .val (.int (6 : Int32)), .val (.int (0 : Int32)), .val (.ref y0)] [(.ref y0)])) rfl rfl (hb hby d1_21)
  have pre7 : ∀ t, Steps p.tables e below (T7.setTop (mkF m 24 #[.val (.int p0), .val (.ref s_ALL), .val (.int (6 : Int32)), .val (.int (0 : Int32)), .val (.ref y0)] [(.int (1 : Int32))])) t → P t := fun t k => pre6 t (st7 _ k)
  have pre8 : ∀ t, Steps p.tables e below (T7.setTop (mkF m 25 #[.val (.int p0), .val (.ref s_ALL), .val (.int (6 : Int32)), .val (.int (0 : Int32)), .val (.ref y0)] [(.int p0), (.int (1 : Int32))])) t → P t := fun t k => pre7 t (by
      show Steps p.tables e below (T7.setTop (mkF m 24 #[.val (.int p0), .val (.ref s_ALL), .val (.int (6 : Int32)), .val (.int (0 : Int32)), .val (.ref y0)] [(.int (1 : Int32))])) _
      refine XS.iloadN X7.here hx rfl (hb hby d1_24) rfl ?_
      exact k)
  by_cases hc9 : (1 : Int32) = p0
  · have pre10 : ∀ t, Steps p.tables e below (T7.setTop (mkF m 30 #[.val (.int p0), .val (.ref s_ALL), .val (.int (6 : Int32)), .val (.int (0 : Int32)), .val (.ref y0)] [(.ref y0)])) t → P t := fun t k => pre8 t (by
        show Steps p.tables e below (T7.setTop (mkF m 25 #[.val (.int p0), .val (.ref s_ALL), .val (.int (6 : Int32)), .val (.int (0 : Int32)), .val (.ref y0)] [(.int p0), (.int (1 : Int32))])) _
        refine XS.icmpNo X7.here hx rfl (hb hby d1_25) rfl (teq hc9).2 ?_
        show Steps p.tables e below (T7.setTop (mkF m 28 #[.val (.int p0), .val (.ref s_ALL), .val (.int (6 : Int32)), .val (.int (0 : Int32)), .val (.ref y0)] [])) _
        refine XS.aload X7.here hx rfl (hb hby d1_28) rfl rfl ?_
        exact k)
    obtain ⟨fs, hr, hrun, hended, hW, hsame⟩ := X7.leave (v := some (.ref y0)) (fun h => by rw [Bd.returns] at h; cases h)
    refine ⟨_, _, fin _ (pre10 _ ?_), hrun, hended, _, _, rfl, ?_, ⟨_, rfl⟩, hW, hsame.mono (by decide) (by decide)⟩
    · show Steps p.tables e below (T7.setTop (mkF m 30 #[.val (.int p0), .val (.ref s_ALL), .val (.int (6 : Int32)), .val (.int (0 : Int32)), .val (.ref y0)] [(.ref y0)])) _
      jvm_step X7.here [X7.here.top, hx, (hb hby d1_30), X7.method', Bd.returns, Value.isRef, FieldType.isReference]
      first | (intro acts; rw [hr _ acts rfl rfl rfl]) | rw [hr _ _ rfl rfl rfl]
      exact Steps.refl _
    · show Q1 Z p0 s_ALL k_ALL y0 y1 y2 y3 y4 y5 h0 n0 _ T7.heap _
      rw [e7]
      exact ⟨(by first | (unfold own_f1; rw [if_pos hc9]; done) | simp only [own_f1, if_pos hc9] | simp [own_f1, if_pos hc9]), N0, rfl⟩
  · have pre11 : ∀ t, Steps p.tables e below (T7.setTop (mkF m 34 #[.val (.int p0), .val (.ref s_ALL), .val (.int (6 : Int32)), .val (.int ((0 : Int32) + (1 : Int32))), .val (.ref y0)] [])) t → P t := fun t k => pre8 t (by
        show Steps p.tables e below (T7.setTop (mkF m 25 #[.val (.int p0), .val (.ref s_ALL), .val (.int (6 : Int32)), .val (.int (0 : Int32)), .val (.ref y0)] [(.int p0), (.int (1 : Int32))])) _
        refine XS.icmpYes X7.here hx rfl (pc0 := 25) (pc' := 31) rfl (hb hby d1_25) rfl (feq hc9).2 (by decide) (by decide) ?_
        show Steps p.tables e below (T7.setTop (mkF m 31 #[.val (.int p0), .val (.ref s_ALL), .val (.int (6 : Int32)), .val (.int (0 : Int32)), .val (.ref y0)] [])) _
        refine XS.iinc X7.here hx rfl (hb hby d1_31) rfl (l' := #[.val (.int p0), .val (.ref s_ALL), .val (.int (6 : Int32)), .val (.int ((0 : Int32) + (1 : Int32))), .val (.ref y0)]) rfl ?_
        exact k)
    have pre12 : ∀ t, Steps p.tables e below (T7.setTop (mkF m 34 #[.val (.int p0), .val (.ref s_ALL), .val (.int (6 : Int32)), .val (.int (1 : Int32)), .val (.ref y0)] [])) t → P t := fun t k => pre11 t (by rw [show ((0 : Int32) + (1 : Int32)) = (1 : Int32) from by decide]; exact k)
    have pre13 : ∀ t, Steps p.tables e below (T7.setTop (mkF m 16 #[.val (.int p0), .val (.ref s_ALL), .val (.int (6 : Int32)), .val (.int (1 : Int32)), .val (.ref y0)] [(.int (1 : Int32)), (.ref s_ALL)])) t → P t := fun t k => pre12 t (by
        show Steps p.tables e below (T7.setTop (mkF m 34 #[.val (.int p0), .val (.ref s_ALL), .val (.int (6 : Int32)), .val (.int (1 : Int32)), .val (.ref y0)] [])) _
        refine XS.goto X7.here hx rfl (pc0 := 34) (pc' := 9) rfl (hb hby d1_34) (by decide) (by decide) ?_
        show Steps p.tables e below (T7.setTop (mkF m 9 #[.val (.int p0), .val (.ref s_ALL), .val (.int (6 : Int32)), .val (.int (1 : Int32)), .val (.ref y0)] [])) _
        refine XS.iloadN X7.here hx rfl (hb hby d1_9) rfl ?_
        show Steps p.tables e below (T7.setTop (mkF m 10 #[.val (.int p0), .val (.ref s_ALL), .val (.int (6 : Int32)), .val (.int (1 : Int32)), .val (.ref y0)] [(.int (1 : Int32))])) _
        refine XS.iloadN X7.here hx rfl (hb hby d1_10) rfl ?_
        show Steps p.tables e below (T7.setTop (mkF m 11 #[.val (.int p0), .val (.ref s_ALL), .val (.int (6 : Int32)), .val (.int (1 : Int32)), .val (.ref y0)] [(.int (6 : Int32)), (.int (1 : Int32))])) _
        refine XS.icmpNo X7.here hx rfl (hb hby d1_11) rfl (tlt (rfl : (1 : Int32) < (6 : Int32))).2.1 ?_
        show Steps p.tables e below (T7.setTop (mkF m 14 #[.val (.int p0), .val (.ref s_ALL), .val (.int (6 : Int32)), .val (.int (1 : Int32)), .val (.ref y0)] [])) _
        refine XS.aloadN X7.here hx rfl (hb hby d1_14) rfl rfl ?_
        show Steps p.tables e below (T7.setTop (mkF m 15 #[.val (.int p0), .val (.ref s_ALL), .val (.int (6 : Int32)), .val (.int (1 : Int32)), .val (.ref y0)] [(.ref s_ALL)])) _
        refine XS.iloadN X7.here hx rfl (hb hby d1_15) rfl ?_
        exact k)
    obtain ⟨clq14, Arq14, qq14, Sq14, Nq14', Hq14, Gq14⟩ := id V_ALL
    have iq14 : ¬ ((1 : Int32) < 0 ∨ clq14.slots.size ≤ ((1 : Int32)).toNatClampNeg) := inb_of Sq14 ⟨by decide, by decide⟩
    have pre15 : ∀ t, Steps p.tables e below (T7.setTop (mkF m 21 #[.val (.int p0), .val (.ref s_ALL), .val (.int (6 : Int32)), .val (.int (1 : Int32)), .val (.ref y1)] [(.ref y1)])) t → P t := fun t k => pre13 t (by
        show Steps p.tables e below (T7.setTop (mkF m 16 #[.val (.int p0), .val (.ref s_ALL), .val (.int (6 : Int32)), .val (.int (1 : Int32)), .val (.ref y0)] [(.int (1 : Int32)), (.ref s_ALL)])) _
        refine X7.aaload hx (j := (1 : Int32)) (v := (.ref y1)) (by rw [e7]; exact Arq14.1) (State.isArrayOf_alike hZ.alike Arq14.2.1) rfl Arq14.2.2 iq14 (Hq14.at iq14 rfl) (g := (mkF m 16 #[.val (.int p0), .val (.ref s_ALL), .val (.int (6 : Int32)), .val (.int (1 : Int32)), .val (.ref y0)] [(.int (1 : Int32)), (.ref s_ALL)])) rfl rfl (hb hby d1_16) _ ?_
        show Steps p.tables e below (T7.setTop (mkF m 17 #[.val (.int p0), .val (.ref s_ALL), .val (.int (6 : Int32)), .val (.int (1 : Int32)), .val (.ref y0)] [(.ref y1)])) _
        refine XS.astore X7.here hx rfl (hb hby d1_17) rfl rfl (l' := #[.val (.int p0), .val (.ref s_ALL), .val (.int (6 : Int32)), .val (.int (1 : Int32)), .val (.ref y1)]) rfl ?_
        show Steps p.tables e below (T7.setTop (mkF m 19 #[.val (.int p0), .val (.ref s_ALL), .val (.int (6 : Int32)), .val (.int (1 : Int32)), .val (.ref y1)] [])) _
        refine XS.aload X7.here hx rfl (hb hby d1_19) rfl rfl ?_
        exact k)
    obtain ⟨T16, X16, e16, st16⟩ := getF X7 hx hZ hown (host := "") (Or.inl (hw _ (List.mem_of_getElem? (i := 7) rfl))) Via.refl e7 F_2 (g := (mkF m 21 #[.val (.int p0), .val (.ref s_ALL), .val (.int (6 : Int32)), .val (.int (1 : Int32)), .val (.ref y1)] [(.ref y1)])) rfl rfl (hb hby d1_21)
    have pre16 : ∀ t, Steps p.tables e below (T16.setTop (mkF m 24 #[.val (.int p0), .val (.ref s_ALL), .val (.int (6 : Int32)), .val (.int (1 : Int32)), .val (.ref y1)] [(.int (2 : Int32))])) t → P t := fun t k => pre15 t (st16 _ k)
    have pre17 : ∀ t, Steps p.tables e below (T16.setTop (mkF m 25 #[.val (.int p0), .val (.ref s_ALL), .val (.int (6 : Int32)), .val (.int (1 : Int32)), .val (.ref y1)] [(.int p0), (.int (2 : Int32))])) t → P t := fun t k => pre16 t (by
        show Steps p.tables e below (T16.setTop (mkF m 24 #[.val (.int p0), .val (.ref s_ALL), .val (.int (6 : Int32)), .val (.int (1 : Int32)), .val (.ref y1)] [(.int (2 : Int32))])) _
        refine XS.iloadN X16.here hx rfl (hb hby d1_24) rfl ?_
        exact k)
    by_cases hc18 : (2 : Int32) = p0
    · have pre19 : ∀ t, Steps p.tables e below (T16.setTop (mkF m 30 #[.val (.int p0), .val (.ref s_ALL), .val (.int (6 : Int32)), .val (.int (1 : Int32)), .val (.ref y1)] [(.ref y1)])) t → P t := fun t k => pre17 t (by
          show Steps p.tables e below (T16.setTop (mkF m 25 #[.val (.int p0), .val (.ref s_ALL), .val (.int (6 : Int32)), .val (.int (1 : Int32)), .val (.ref y1)] [(.int p0), (.int (2 : Int32))])) _
          refine XS.icmpNo X16.here hx rfl (hb hby d1_25) rfl (teq hc18).2 ?_
          show Steps p.tables e below (T16.setTop (mkF m 28 #[.val (.int p0), .val (.ref s_ALL), .val (.int (6 : Int32)), .val (.int (1 : Int32)), .val (.ref y1)] [])) _
          refine XS.aload X16.here hx rfl (hb hby d1_28) rfl rfl ?_
          exact k)
      obtain ⟨fs, hr, hrun, hended, hW, hsame⟩ := X16.leave (v := some (.ref y1)) (fun h => by rw [Bd.returns] at h; cases h)
      refine ⟨_, _, fin _ (pre19 _ ?_), hrun, hended, _, _, rfl, ?_, ⟨_, rfl⟩, hW, hsame.mono (by decide) (by decide)⟩
      · show Steps p.tables e below (T16.setTop (mkF m 30 #[.val (.int p0), .val (.ref s_ALL), .val (.int (6 : Int32)), .val (.int (1 : Int32)), .val (.ref y1)] [(.ref y1)])) _
        jvm_step X16.here [X16.here.top, hx, (hb hby d1_30), X16.method', Bd.returns, Value.isRef, FieldType.isReference]
        first | (intro acts; rw [hr _ acts rfl rfl rfl]) | rw [hr _ _ rfl rfl rfl]
        exact Steps.refl _
      · show Q1 Z p0 s_ALL k_ALL y0 y1 y2 y3 y4 y5 h0 n0 _ T16.heap _
        rw [e16]
        exact ⟨(by first | (unfold own_f1; rw [if_neg hc9, if_pos hc18]; done) | simp only [own_f1, if_neg hc9, if_pos hc18] | simp [own_f1, if_neg hc9, if_pos hc18]), N0, rfl⟩
    · have pre20 : ∀ t, Steps p.tables e below (T16.setTop (mkF m 34 #[.val (.int p0), .val (.ref s_ALL), .val (.int (6 : Int32)), .val (.int ((1 : Int32) + (1 : Int32))), .val (.ref y1)] [])) t → P t := fun t k => pre17 t (by
          show Steps p.tables e below (T16.setTop (mkF m 25 #[.val (.int p0), .val (.ref s_ALL), .val (.int (6 : Int32)), .val (.int (1 : Int32)), .val (.ref y1)] [(.int p0), (.int (2 : Int32))])) _
          refine XS.icmpYes X16.here hx rfl (pc0 := 25) (pc' := 31) rfl (hb hby d1_25) rfl (feq hc18).2 (by decide) (by decide) ?_
          show Steps p.tables e below (T16.setTop (mkF m 31 #[.val (.int p0), .val (.ref s_ALL), .val (.int (6 : Int32)), .val (.int (1 : Int32)), .val (.ref y1)] [])) _
          refine XS.iinc X16.here hx rfl (hb hby d1_31) rfl (l' := #[.val (.int p0), .val (.ref s_ALL), .val (.int (6 : Int32)), .val (.int ((1 : Int32) + (1 : Int32))), .val (.ref y1)]) rfl ?_
          exact k)
      have pre21 : ∀ t, Steps p.tables e below (T16.setTop (mkF m 34 #[.val (.int p0), .val (.ref s_ALL), .val (.int (6 : Int32)), .val (.int (2 : Int32)), .val (.ref y1)] [])) t → P t := fun t k => pre20 t (by rw [show ((1 : Int32) + (1 : Int32)) = (2 : Int32) from by decide]; exact k)
      have pre22 : ∀ t, Steps p.tables e below (T16.setTop (mkF m 16 #[.val (.int p0), .val (.ref s_ALL), .val (.int (6 : Int32)), .val (.int (2 : Int32)), .val (.ref y1)] [(.int (2 : Int32)), (.ref s_ALL)])) t → P t := fun t k => pre21 t (by
          show Steps p.tables e below (T16.setTop (mkF m 34 #[.val (.int p0), .val (.ref s_ALL), .val (.int (6 : Int32)), .val (.int (2 : Int32)), .val (.ref y1)] [])) _
          refine XS.goto X16.here hx rfl (pc0 := 34) (pc' := 9) rfl (hb hby d1_34) (by decide) (by decide) ?_
          show Steps p.tables e below (T16.setTop (mkF m 9 #[.val (.int p0), .val (.ref s_ALL), .val (.int (6 : Int32)), .val (.int (2 : Int32)), .val (.ref y1)] [])) _
          refine XS.iloadN X16.here hx rfl (hb hby d1_9) rfl ?_
          show Steps p.tables e below (T16.setTop (mkF m 10 #[.val (.int p0), .val (.ref s_ALL), .val (.int (6 : Int32)), .val (.int (2 : Int32)), .val (.ref y1)] [(.int (2 : Int32))])) _
          refine XS.iloadN X16.here hx rfl (hb hby d1_10) rfl ?_
          show Steps p.tables e below (T16.setTop (mkF m 11 #[.val (.int p0), .val (.ref s_ALL), .val (.int (6 : Int32)), .val (.int (2 : Int32)), .val (.ref y1)] [(.int (6 : Int32)), (.int (2 : Int32))])) _
          refine XS.icmpNo X16.here hx rfl (hb hby d1_11) rfl (tlt (rfl : (2 : Int32) < (6 : Int32))).2.1 ?_
          show Steps p.tables e below (T16.setTop (mkF m 14 #[.val (.int p0), .val (.ref s_ALL), .val (.int (6 : Int32)), .val (.int (2 : Int32)), .val (.ref y1)] [])) _
          refine XS.aloadN X16.here hx rfl (hb hby d1_14) rfl rfl ?_
          show Steps p.tables e below (T16.setTop (mkF m 15 #[.val (.int p0), .val (.ref s_ALL), .val (.int (6 : Int32)), .val (.int (2 : Int32)), .val (.ref y1)] [(.ref s_ALL)])) _
          refine XS.iloadN X16.here hx rfl (hb hby d1_15) rfl ?_
          exact k)
      obtain ⟨clq23, Arq23, qq23, Sq23, Nq23', Hq23, Gq23⟩ := id V_ALL
      have iq23 : ¬ ((2 : Int32) < 0 ∨ clq23.slots.size ≤ ((2 : Int32)).toNatClampNeg) := inb_of Sq23 ⟨by decide, by decide⟩
      have pre24 : ∀ t, Steps p.tables e below (T16.setTop (mkF m 21 #[.val (.int p0), .val (.ref s_ALL), .val (.int (6 : Int32)), .val (.int (2 : Int32)), .val (.ref y2)] [(.ref y2)])) t → P t := fun t k => pre22 t (by
          show Steps p.tables e below (T16.setTop (mkF m 16 #[.val (.int p0), .val (.ref s_ALL), .val (.int (6 : Int32)), .val (.int (2 : Int32)), .val (.ref y1)] [(.int (2 : Int32)), (.ref s_ALL)])) _
          refine X16.aaload hx (j := (2 : Int32)) (v := (.ref y2)) (by rw [e16]; exact Arq23.1) (State.isArrayOf_alike hZ.alike Arq23.2.1) rfl Arq23.2.2 iq23 (Hq23.at iq23 rfl) (g := (mkF m 16 #[.val (.int p0), .val (.ref s_ALL), .val (.int (6 : Int32)), .val (.int (2 : Int32)), .val (.ref y1)] [(.int (2 : Int32)), (.ref s_ALL)])) rfl rfl (hb hby d1_16) _ ?_
          show Steps p.tables e below (T16.setTop (mkF m 17 #[.val (.int p0), .val (.ref s_ALL), .val (.int (6 : Int32)), .val (.int (2 : Int32)), .val (.ref y1)] [(.ref y2)])) _
          refine XS.astore X16.here hx rfl (hb hby d1_17) rfl rfl (l' := #[.val (.int p0), .val (.ref s_ALL), .val (.int (6 : Int32)), .val (.int (2 : Int32)), .val (.ref y2)]) rfl ?_
          show Steps p.tables e below (T16.setTop (mkF m 19 #[.val (.int p0), .val (.ref s_ALL), .val (.int (6 : Int32)), .val (.int (2 : Int32)), .val (.ref y2)] [])) _
          refine XS.aload X16.here hx rfl (hb hby d1_19) rfl rfl ?_
          exact k)
      obtain ⟨T25, X25, e25, st25⟩ := getF X16 hx hZ hown (host := "") (Or.inl (hw _ (List.mem_of_getElem? (i := 7) rfl))) Via.refl e16 F_3 (g := (mkF m 21 #[.val (.int p0), .val (.ref s_ALL), .val (.int (6 : Int32)), .val (.int (2 : Int32)), .val (.ref y2)] [(.ref y2)])) rfl rfl (hb hby d1_21)
      have pre25 : ∀ t, Steps p.tables e below (T25.setTop (mkF m 24 #[.val (.int p0), .val (.ref s_ALL), .val (.int (6 : Int32)), .val (.int (2 : Int32)), .val (.ref y2)] [(.int (3 : Int32))])) t → P t := fun t k => pre24 t (st25 _ k)
      have pre26 : ∀ t, Steps p.tables e below (T25.setTop (mkF m 25 #[.val (.int p0), .val (.ref s_ALL), .val (.int (6 : Int32)), .val (.int (2 : Int32)), .val (.ref y2)] [(.int p0), (.int (3 : Int32))])) t → P t := fun t k => pre25 t (by
          show Steps p.tables e below (T25.setTop (mkF m 24 #[.val (.int p0), .val (.ref s_ALL), .val (.int (6 : Int32)), .val (.int (2 : Int32)), .val (.ref y2)] [(.int (3 : Int32))])) _
          refine XS.iloadN X25.here hx rfl (hb hby d1_24) rfl ?_
          exact k)
      by_cases hc27 : (3 : Int32) = p0
      · have pre28 : ∀ t, Steps p.tables e below (T25.setTop (mkF m 30 #[.val (.int p0), .val (.ref s_ALL), .val (.int (6 : Int32)), .val (.int (2 : Int32)), .val (.ref y2)] [(.ref y2)])) t → P t := fun t k => pre26 t (by
            show Steps p.tables e below (T25.setTop (mkF m 25 #[.val (.int p0), .val (.ref s_ALL), .val (.int (6 : Int32)), .val (.int (2 : Int32)), .val (.ref y2)] [(.int p0), (.int (3 : Int32))])) _
            refine XS.icmpNo X25.here hx rfl (hb hby d1_25) rfl (teq hc27).2 ?_
            show Steps p.tables e below (T25.setTop (mkF m 28 #[.val (.int p0), .val (.ref s_ALL), .val (.int (6 : Int32)), .val (.int (2 : Int32)), .val (.ref y2)] [])) _
            refine XS.aload X25.here hx rfl (hb hby d1_28) rfl rfl ?_
            exact k)
        obtain ⟨fs, hr, hrun, hended, hW, hsame⟩ := X25.leave (v := some (.ref y2)) (fun h => by rw [Bd.returns] at h; cases h)
        refine ⟨_, _, fin _ (pre28 _ ?_), hrun, hended, _, _, rfl, ?_, ⟨_, rfl⟩, hW, hsame.mono (by decide) (by decide)⟩
        · show Steps p.tables e below (T25.setTop (mkF m 30 #[.val (.int p0), .val (.ref s_ALL), .val (.int (6 : Int32)), .val (.int (2 : Int32)), .val (.ref y2)] [(.ref y2)])) _
          jvm_step X25.here [X25.here.top, hx, (hb hby d1_30), X25.method', Bd.returns, Value.isRef, FieldType.isReference]
          first | (intro acts; rw [hr _ acts rfl rfl rfl]) | rw [hr _ _ rfl rfl rfl]
          exact Steps.refl _
        · show Q1 Z p0 s_ALL k_ALL y0 y1 y2 y3 y4 y5 h0 n0 _ T25.heap _
          rw [e25]
          exact ⟨(by first | (unfold own_f1; rw [if_neg hc9, if_neg hc18, if_pos hc27]; done) | simp only [own_f1, if_neg hc9, if_neg hc18, if_pos hc27] | simp [own_f1, if_neg hc9, if_neg hc18, if_pos hc27]), N0, rfl⟩
      · have pre29 : ∀ t, Steps p.tables e below (T25.setTop (mkF m 34 #[.val (.int p0), .val (.ref s_ALL), .val (.int (6 : Int32)), .val (.int ((2 : Int32) + (1 : Int32))), .val (.ref y2)] [])) t → P t := fun t k => pre26 t (by
            show Steps p.tables e below (T25.setTop (mkF m 25 #[.val (.int p0), .val (.ref s_ALL), .val (.int (6 : Int32)), .val (.int (2 : Int32)), .val (.ref y2)] [(.int p0), (.int (3 : Int32))])) _
            refine XS.icmpYes X25.here hx rfl (pc0 := 25) (pc' := 31) rfl (hb hby d1_25) rfl (feq hc27).2 (by decide) (by decide) ?_
            show Steps p.tables e below (T25.setTop (mkF m 31 #[.val (.int p0), .val (.ref s_ALL), .val (.int (6 : Int32)), .val (.int (2 : Int32)), .val (.ref y2)] [])) _
            refine XS.iinc X25.here hx rfl (hb hby d1_31) rfl (l' := #[.val (.int p0), .val (.ref s_ALL), .val (.int (6 : Int32)), .val (.int ((2 : Int32) + (1 : Int32))), .val (.ref y2)]) rfl ?_
            exact k)
        have pre30 : ∀ t, Steps p.tables e below (T25.setTop (mkF m 34 #[.val (.int p0), .val (.ref s_ALL), .val (.int (6 : Int32)), .val (.int (3 : Int32)), .val (.ref y2)] [])) t → P t := fun t k => pre29 t (by rw [show ((2 : Int32) + (1 : Int32)) = (3 : Int32) from by decide]; exact k)
        have pre31 : ∀ t, Steps p.tables e below (T25.setTop (mkF m 16 #[.val (.int p0), .val (.ref s_ALL), .val (.int (6 : Int32)), .val (.int (3 : Int32)), .val (.ref y2)] [(.int (3 : Int32)), (.ref s_ALL)])) t → P t := fun t k => pre30 t (by
            show Steps p.tables e below (T25.setTop (mkF m 34 #[.val (.int p0), .val (.ref s_ALL), .val (.int (6 : Int32)), .val (.int (3 : Int32)), .val (.ref y2)] [])) _
            refine XS.goto X25.here hx rfl (pc0 := 34) (pc' := 9) rfl (hb hby d1_34) (by decide) (by decide) ?_
            show Steps p.tables e below (T25.setTop (mkF m 9 #[.val (.int p0), .val (.ref s_ALL), .val (.int (6 : Int32)), .val (.int (3 : Int32)), .val (.ref y2)] [])) _
            refine XS.iloadN X25.here hx rfl (hb hby d1_9) rfl ?_
            show Steps p.tables e below (T25.setTop (mkF m 10 #[.val (.int p0), .val (.ref s_ALL), .val (.int (6 : Int32)), .val (.int (3 : Int32)), .val (.ref y2)] [(.int (3 : Int32))])) _
            refine XS.iloadN X25.here hx rfl (hb hby d1_10) rfl ?_
            show Steps p.tables e below (T25.setTop (mkF m 11 #[.val (.int p0), .val (.ref s_ALL), .val (.int (6 : Int32)), .val (.int (3 : Int32)), .val (.ref y2)] [(.int (6 : Int32)), (.int (3 : Int32))])) _
            refine XS.icmpNo X25.here hx rfl (hb hby d1_11) rfl (tlt (rfl : (3 : Int32) < (6 : Int32))).2.1 ?_
            show Steps p.tables e below (T25.setTop (mkF m 14 #[.val (.int p0), .val (.ref s_ALL), .val (.int (6 : Int32)), .val (.int (3 : Int32)), .val (.ref y2)] [])) _
            refine XS.aloadN X25.here hx rfl (hb hby d1_14) rfl rfl ?_
            show Steps p.tables e below (T25.setTop (mkF m 15 #[.val (.int p0), .val (.ref s_ALL), .val (.int (6 : Int32)), .val (.int (3 : Int32)), .val (.ref y2)] [(.ref s_ALL)])) _
            refine XS.iloadN X25.here hx rfl (hb hby d1_15) rfl ?_
            exact k)
        obtain ⟨clq32, Arq32, qq32, Sq32, Nq32', Hq32, Gq32⟩ := id V_ALL
        have iq32 : ¬ ((3 : Int32) < 0 ∨ clq32.slots.size ≤ ((3 : Int32)).toNatClampNeg) := inb_of Sq32 ⟨by decide, by decide⟩
        have pre33 : ∀ t, Steps p.tables e below (T25.setTop (mkF m 21 #[.val (.int p0), .val (.ref s_ALL), .val (.int (6 : Int32)), .val (.int (3 : Int32)), .val (.ref y3)] [(.ref y3)])) t → P t := fun t k => pre31 t (by
            show Steps p.tables e below (T25.setTop (mkF m 16 #[.val (.int p0), .val (.ref s_ALL), .val (.int (6 : Int32)), .val (.int (3 : Int32)), .val (.ref y2)] [(.int (3 : Int32)), (.ref s_ALL)])) _
            refine X25.aaload hx (j := (3 : Int32)) (v := (.ref y3)) (by rw [e25]; exact Arq32.1) (State.isArrayOf_alike hZ.alike Arq32.2.1) rfl Arq32.2.2 iq32 (Hq32.at iq32 rfl) (g := (mkF m 16 #[.val (.int p0), .val (.ref s_ALL), .val (.int (6 : Int32)), .val (.int (3 : Int32)), .val (.ref y2)] [(.int (3 : Int32)), (.ref s_ALL)])) rfl rfl (hb hby d1_16) _ ?_
            show Steps p.tables e below (T25.setTop (mkF m 17 #[.val (.int p0), .val (.ref s_ALL), .val (.int (6 : Int32)), .val (.int (3 : Int32)), .val (.ref y2)] [(.ref y3)])) _
            refine XS.astore X25.here hx rfl (hb hby d1_17) rfl rfl (l' := #[.val (.int p0), .val (.ref s_ALL), .val (.int (6 : Int32)), .val (.int (3 : Int32)), .val (.ref y3)]) rfl ?_
            show Steps p.tables e below (T25.setTop (mkF m 19 #[.val (.int p0), .val (.ref s_ALL), .val (.int (6 : Int32)), .val (.int (3 : Int32)), .val (.ref y3)] [])) _
            refine XS.aload X25.here hx rfl (hb hby d1_19) rfl rfl ?_
            exact k)
        obtain ⟨T34, X34, e34, st34⟩ := getF X25 hx hZ hown (host := "") (Or.inl (hw _ (List.mem_of_getElem? (i := 7) rfl))) Via.refl e25 F_4 (g := (mkF m 21 #[.val (.int p0), .val (.ref s_ALL), .val (.int (6 : Int32)), .val (.int (3 : Int32)), .val (.ref y3)] [(.ref y3)])) rfl rfl (hb hby d1_21)
        have pre34 : ∀ t, Steps p.tables e below (T34.setTop (mkF m 24 #[.val (.int p0), .val (.ref s_ALL), .val (.int (6 : Int32)), .val (.int (3 : Int32)), .val (.ref y3)] [(.int (4 : Int32))])) t → P t := fun t k => pre33 t (st34 _ k)
        have pre35 : ∀ t, Steps p.tables e below (T34.setTop (mkF m 25 #[.val (.int p0), .val (.ref s_ALL), .val (.int (6 : Int32)), .val (.int (3 : Int32)), .val (.ref y3)] [(.int p0), (.int (4 : Int32))])) t → P t := fun t k => pre34 t (by
            show Steps p.tables e below (T34.setTop (mkF m 24 #[.val (.int p0), .val (.ref s_ALL), .val (.int (6 : Int32)), .val (.int (3 : Int32)), .val (.ref y3)] [(.int (4 : Int32))])) _
            refine XS.iloadN X34.here hx rfl (hb hby d1_24) rfl ?_
            exact k)
        by_cases hc36 : (4 : Int32) = p0
        · have pre37 : ∀ t, Steps p.tables e below (T34.setTop (mkF m 30 #[.val (.int p0), .val (.ref s_ALL), .val (.int (6 : Int32)), .val (.int (3 : Int32)), .val (.ref y3)] [(.ref y3)])) t → P t := fun t k => pre35 t (by
              show Steps p.tables e below (T34.setTop (mkF m 25 #[.val (.int p0), .val (.ref s_ALL), .val (.int (6 : Int32)), .val (.int (3 : Int32)), .val (.ref y3)] [(.int p0), (.int (4 : Int32))])) _
              refine XS.icmpNo X34.here hx rfl (hb hby d1_25) rfl (teq hc36).2 ?_
              show Steps p.tables e below (T34.setTop (mkF m 28 #[.val (.int p0), .val (.ref s_ALL), .val (.int (6 : Int32)), .val (.int (3 : Int32)), .val (.ref y3)] [])) _
              refine XS.aload X34.here hx rfl (hb hby d1_28) rfl rfl ?_
              exact k)
          obtain ⟨fs, hr, hrun, hended, hW, hsame⟩ := X34.leave (v := some (.ref y3)) (fun h => by rw [Bd.returns] at h; cases h)
          refine ⟨_, _, fin _ (pre37 _ ?_), hrun, hended, _, _, rfl, ?_, ⟨_, rfl⟩, hW, hsame.mono (by decide) (by decide)⟩
          · show Steps p.tables e below (T34.setTop (mkF m 30 #[.val (.int p0), .val (.ref s_ALL), .val (.int (6 : Int32)), .val (.int (3 : Int32)), .val (.ref y3)] [(.ref y3)])) _
            jvm_step X34.here [X34.here.top, hx, (hb hby d1_30), X34.method', Bd.returns, Value.isRef, FieldType.isReference]
            first | (intro acts; rw [hr _ acts rfl rfl rfl]) | rw [hr _ _ rfl rfl rfl]
            exact Steps.refl _
          · show Q1 Z p0 s_ALL k_ALL y0 y1 y2 y3 y4 y5 h0 n0 _ T34.heap _
            rw [e34]
            exact ⟨(by first | (unfold own_f1; rw [if_neg hc9, if_neg hc18, if_neg hc27, if_pos hc36]; done) | simp only [own_f1, if_neg hc9, if_neg hc18, if_neg hc27, if_pos hc36] | simp [own_f1, if_neg hc9, if_neg hc18, if_neg hc27, if_pos hc36]), N0, rfl⟩
        · have pre38 : ∀ t, Steps p.tables e below (T34.setTop (mkF m 34 #[.val (.int p0), .val (.ref s_ALL), .val (.int (6 : Int32)), .val (.int ((3 : Int32) + (1 : Int32))), .val (.ref y3)] [])) t → P t := fun t k => pre35 t (by
              show Steps p.tables e below (T34.setTop (mkF m 25 #[.val (.int p0), .val (.ref s_ALL), .val (.int (6 : Int32)), .val (.int (3 : Int32)), .val (.ref y3)] [(.int p0), (.int (4 : Int32))])) _
              refine XS.icmpYes X34.here hx rfl (pc0 := 25) (pc' := 31) rfl (hb hby d1_25) rfl (feq hc36).2 (by decide) (by decide) ?_
              show Steps p.tables e below (T34.setTop (mkF m 31 #[.val (.int p0), .val (.ref s_ALL), .val (.int (6 : Int32)), .val (.int (3 : Int32)), .val (.ref y3)] [])) _
              refine XS.iinc X34.here hx rfl (hb hby d1_31) rfl (l' := #[.val (.int p0), .val (.ref s_ALL), .val (.int (6 : Int32)), .val (.int ((3 : Int32) + (1 : Int32))), .val (.ref y3)]) rfl ?_
              exact k)
          have pre39 : ∀ t, Steps p.tables e below (T34.setTop (mkF m 34 #[.val (.int p0), .val (.ref s_ALL), .val (.int (6 : Int32)), .val (.int (4 : Int32)), .val (.ref y3)] [])) t → P t := fun t k => pre38 t (by rw [show ((3 : Int32) + (1 : Int32)) = (4 : Int32) from by decide]; exact k)
          have pre40 : ∀ t, Steps p.tables e below (T34.setTop (mkF m 16 #[.val (.int p0), .val (.ref s_ALL), .val (.int (6 : Int32)), .val (.int (4 : Int32)), .val (.ref y3)] [(.int (4 : Int32)), (.ref s_ALL)])) t → P t := fun t k => pre39 t (by
              show Steps p.tables e below (T34.setTop (mkF m 34 #[.val (.int p0), .val (.ref s_ALL), .val (.int (6 : Int32)), .val (.int (4 : Int32)), .val (.ref y3)] [])) _
              refine XS.goto X34.here hx rfl (pc0 := 34) (pc' := 9) rfl (hb hby d1_34) (by decide) (by decide) ?_
              show Steps p.tables e below (T34.setTop (mkF m 9 #[.val (.int p0), .val (.ref s_ALL), .val (.int (6 : Int32)), .val (.int (4 : Int32)), .val (.ref y3)] [])) _
              refine XS.iloadN X34.here hx rfl (hb hby d1_9) rfl ?_
              show Steps p.tables e below (T34.setTop (mkF m 10 #[.val (.int p0), .val (.ref s_ALL), .val (.int (6 : Int32)), .val (.int (4 : Int32)), .val (.ref y3)] [(.int (4 : Int32))])) _
              refine XS.iloadN X34.here hx rfl (hb hby d1_10) rfl ?_
              show Steps p.tables e below (T34.setTop (mkF m 11 #[.val (.int p0), .val (.ref s_ALL), .val (.int (6 : Int32)), .val (.int (4 : Int32)), .val (.ref y3)] [(.int (6 : Int32)), (.int (4 : Int32))])) _
              refine XS.icmpNo X34.here hx rfl (hb hby d1_11) rfl (tlt (rfl : (4 : Int32) < (6 : Int32))).2.1 ?_
              show Steps p.tables e below (T34.setTop (mkF m 14 #[.val (.int p0), .val (.ref s_ALL), .val (.int (6 : Int32)), .val (.int (4 : Int32)), .val (.ref y3)] [])) _
              refine XS.aloadN X34.here hx rfl (hb hby d1_14) rfl rfl ?_
              show Steps p.tables e below (T34.setTop (mkF m 15 #[.val (.int p0), .val (.ref s_ALL), .val (.int (6 : Int32)), .val (.int (4 : Int32)), .val (.ref y3)] [(.ref s_ALL)])) _
              refine XS.iloadN X34.here hx rfl (hb hby d1_15) rfl ?_
              exact k)
          obtain ⟨clq41, Arq41, qq41, Sq41, Nq41', Hq41, Gq41⟩ := id V_ALL
          have iq41 : ¬ ((4 : Int32) < 0 ∨ clq41.slots.size ≤ ((4 : Int32)).toNatClampNeg) := inb_of Sq41 ⟨by decide, by decide⟩
          have pre42 : ∀ t, Steps p.tables e below (T34.setTop (mkF m 21 #[.val (.int p0), .val (.ref s_ALL), .val (.int (6 : Int32)), .val (.int (4 : Int32)), .val (.ref y4)] [(.ref y4)])) t → P t := fun t k => pre40 t (by
              show Steps p.tables e below (T34.setTop (mkF m 16 #[.val (.int p0), .val (.ref s_ALL), .val (.int (6 : Int32)), .val (.int (4 : Int32)), .val (.ref y3)] [(.int (4 : Int32)), (.ref s_ALL)])) _
              refine X34.aaload hx (j := (4 : Int32)) (v := (.ref y4)) (by rw [e34]; exact Arq41.1) (State.isArrayOf_alike hZ.alike Arq41.2.1) rfl Arq41.2.2 iq41 (Hq41.at iq41 rfl) (g := (mkF m 16 #[.val (.int p0), .val (.ref s_ALL), .val (.int (6 : Int32)), .val (.int (4 : Int32)), .val (.ref y3)] [(.int (4 : Int32)), (.ref s_ALL)])) rfl rfl (hb hby d1_16) _ ?_
              show Steps p.tables e below (T34.setTop (mkF m 17 #[.val (.int p0), .val (.ref s_ALL), .val (.int (6 : Int32)), .val (.int (4 : Int32)), .val (.ref y3)] [(.ref y4)])) _
              refine XS.astore X34.here hx rfl (hb hby d1_17) rfl rfl (l' := #[.val (.int p0), .val (.ref s_ALL), .val (.int (6 : Int32)), .val (.int (4 : Int32)), .val (.ref y4)]) rfl ?_
              show Steps p.tables e below (T34.setTop (mkF m 19 #[.val (.int p0), .val (.ref s_ALL), .val (.int (6 : Int32)), .val (.int (4 : Int32)), .val (.ref y4)] [])) _
              refine XS.aload X34.here hx rfl (hb hby d1_19) rfl rfl ?_
              exact k)
          obtain ⟨T43, X43, e43, st43⟩ := getF X34 hx hZ hown (host := "") (Or.inl (hw _ (List.mem_of_getElem? (i := 7) rfl))) Via.refl e34 F_5 (g := (mkF m 21 #[.val (.int p0), .val (.ref s_ALL), .val (.int (6 : Int32)), .val (.int (4 : Int32)), .val (.ref y4)] [(.ref y4)])) rfl rfl (hb hby d1_21)
          have pre43 : ∀ t, Steps p.tables e below (T43.setTop (mkF m 24 #[.val (.int p0), .val (.ref s_ALL), .val (.int (6 : Int32)), .val (.int (4 : Int32)), .val (.ref y4)] [(.int (5 : Int32))])) t → P t := fun t k => pre42 t (st43 _ k)
          have pre44 : ∀ t, Steps p.tables e below (T43.setTop (mkF m 25 #[.val (.int p0), .val (.ref s_ALL), .val (.int (6 : Int32)), .val (.int (4 : Int32)), .val (.ref y4)] [(.int p0), (.int (5 : Int32))])) t → P t := fun t k => pre43 t (by
              show Steps p.tables e below (T43.setTop (mkF m 24 #[.val (.int p0), .val (.ref s_ALL), .val (.int (6 : Int32)), .val (.int (4 : Int32)), .val (.ref y4)] [(.int (5 : Int32))])) _
              refine XS.iloadN X43.here hx rfl (hb hby d1_24) rfl ?_
              exact k)
          by_cases hc45 : (5 : Int32) = p0
          · have pre46 : ∀ t, Steps p.tables e below (T43.setTop (mkF m 30 #[.val (.int p0), .val (.ref s_ALL), .val (.int (6 : Int32)), .val (.int (4 : Int32)), .val (.ref y4)] [(.ref y4)])) t → P t := fun t k => pre44 t (by
                show Steps p.tables e below (T43.setTop (mkF m 25 #[.val (.int p0), .val (.ref s_ALL), .val (.int (6 : Int32)), .val (.int (4 : Int32)), .val (.ref y4)] [(.int p0), (.int (5 : Int32))])) _
                refine XS.icmpNo X43.here hx rfl (hb hby d1_25) rfl (teq hc45).2 ?_
                show Steps p.tables e below (T43.setTop (mkF m 28 #[.val (.int p0), .val (.ref s_ALL), .val (.int (6 : Int32)), .val (.int (4 : Int32)), .val (.ref y4)] [])) _
                refine XS.aload X43.here hx rfl (hb hby d1_28) rfl rfl ?_
                exact k)
            obtain ⟨fs, hr, hrun, hended, hW, hsame⟩ := X43.leave (v := some (.ref y4)) (fun h => by rw [Bd.returns] at h; cases h)
            refine ⟨_, _, fin _ (pre46 _ ?_), hrun, hended, _, _, rfl, ?_, ⟨_, rfl⟩, hW, hsame.mono (by decide) (by decide)⟩
            · show Steps p.tables e below (T43.setTop (mkF m 30 #[.val (.int p0), .val (.ref s_ALL), .val (.int (6 : Int32)), .val (.int (4 : Int32)), .val (.ref y4)] [(.ref y4)])) _
              jvm_step X43.here [X43.here.top, hx, (hb hby d1_30), X43.method', Bd.returns, Value.isRef, FieldType.isReference]
              first | (intro acts; rw [hr _ acts rfl rfl rfl]) | rw [hr _ _ rfl rfl rfl]
              exact Steps.refl _
            · show Q1 Z p0 s_ALL k_ALL y0 y1 y2 y3 y4 y5 h0 n0 _ T43.heap _
              rw [e43]
              exact ⟨(by first | (unfold own_f1; rw [if_neg hc9, if_neg hc18, if_neg hc27, if_neg hc36, if_pos hc45]; done) | simp only [own_f1, if_neg hc9, if_neg hc18, if_neg hc27, if_neg hc36, if_pos hc45] | simp [own_f1, if_neg hc9, if_neg hc18, if_neg hc27, if_neg hc36, if_pos hc45]), N0, rfl⟩
          · have pre47 : ∀ t, Steps p.tables e below (T43.setTop (mkF m 34 #[.val (.int p0), .val (.ref s_ALL), .val (.int (6 : Int32)), .val (.int ((4 : Int32) + (1 : Int32))), .val (.ref y4)] [])) t → P t := fun t k => pre44 t (by
                show Steps p.tables e below (T43.setTop (mkF m 25 #[.val (.int p0), .val (.ref s_ALL), .val (.int (6 : Int32)), .val (.int (4 : Int32)), .val (.ref y4)] [(.int p0), (.int (5 : Int32))])) _
                refine XS.icmpYes X43.here hx rfl (pc0 := 25) (pc' := 31) rfl (hb hby d1_25) rfl (feq hc45).2 (by decide) (by decide) ?_
                show Steps p.tables e below (T43.setTop (mkF m 31 #[.val (.int p0), .val (.ref s_ALL), .val (.int (6 : Int32)), .val (.int (4 : Int32)), .val (.ref y4)] [])) _
                refine XS.iinc X43.here hx rfl (hb hby d1_31) rfl (l' := #[.val (.int p0), .val (.ref s_ALL), .val (.int (6 : Int32)), .val (.int ((4 : Int32) + (1 : Int32))), .val (.ref y4)]) rfl ?_
                exact k)
            have pre48 : ∀ t, Steps p.tables e below (T43.setTop (mkF m 34 #[.val (.int p0), .val (.ref s_ALL), .val (.int (6 : Int32)), .val (.int (5 : Int32)), .val (.ref y4)] [])) t → P t := fun t k => pre47 t (by rw [show ((4 : Int32) + (1 : Int32)) = (5 : Int32) from by decide]; exact k)
            have pre49 : ∀ t, Steps p.tables e below (T43.setTop (mkF m 16 #[.val (.int p0), .val (.ref s_ALL), .val (.int (6 : Int32)), .val (.int (5 : Int32)), .val (.ref y4)] [(.int (5 : Int32)), (.ref s_ALL)])) t → P t := fun t k => pre48 t (by
                show Steps p.tables e below (T43.setTop (mkF m 34 #[.val (.int p0), .val (.ref s_ALL), .val (.int (6 : Int32)), .val (.int (5 : Int32)), .val (.ref y4)] [])) _
                refine XS.goto X43.here hx rfl (pc0 := 34) (pc' := 9) rfl (hb hby d1_34) (by decide) (by decide) ?_
                show Steps p.tables e below (T43.setTop (mkF m 9 #[.val (.int p0), .val (.ref s_ALL), .val (.int (6 : Int32)), .val (.int (5 : Int32)), .val (.ref y4)] [])) _
                refine XS.iloadN X43.here hx rfl (hb hby d1_9) rfl ?_
                show Steps p.tables e below (T43.setTop (mkF m 10 #[.val (.int p0), .val (.ref s_ALL), .val (.int (6 : Int32)), .val (.int (5 : Int32)), .val (.ref y4)] [(.int (5 : Int32))])) _
                refine XS.iloadN X43.here hx rfl (hb hby d1_10) rfl ?_
                show Steps p.tables e below (T43.setTop (mkF m 11 #[.val (.int p0), .val (.ref s_ALL), .val (.int (6 : Int32)), .val (.int (5 : Int32)), .val (.ref y4)] [(.int (6 : Int32)), (.int (5 : Int32))])) _
                refine XS.icmpNo X43.here hx rfl (hb hby d1_11) rfl (tlt (rfl : (5 : Int32) < (6 : Int32))).2.1 ?_
                show Steps p.tables e below (T43.setTop (mkF m 14 #[.val (.int p0), .val (.ref s_ALL), .val (.int (6 : Int32)), .val (.int (5 : Int32)), .val (.ref y4)] [])) _
                refine XS.aloadN X43.here hx rfl (hb hby d1_14) rfl rfl ?_
                show Steps p.tables e below (T43.setTop (mkF m 15 #[.val (.int p0), .val (.ref s_ALL), .val (.int (6 : Int32)), .val (.int (5 : Int32)), .val (.ref y4)] [(.ref s_ALL)])) _
                refine XS.iloadN X43.here hx rfl (hb hby d1_15) rfl ?_
                exact k)
            obtain ⟨clq50, Arq50, qq50, Sq50, Nq50', Hq50, Gq50⟩ := id V_ALL
            have iq50 : ¬ ((5 : Int32) < 0 ∨ clq50.slots.size ≤ ((5 : Int32)).toNatClampNeg) := inb_of Sq50 ⟨by decide, by decide⟩
            have pre51 : ∀ t, Steps p.tables e below (T43.setTop (mkF m 21 #[.val (.int p0), .val (.ref s_ALL), .val (.int (6 : Int32)), .val (.int (5 : Int32)), .val (.ref y5)] [(.ref y5)])) t → P t := fun t k => pre49 t (by
                show Steps p.tables e below (T43.setTop (mkF m 16 #[.val (.int p0), .val (.ref s_ALL), .val (.int (6 : Int32)), .val (.int (5 : Int32)), .val (.ref y4)] [(.int (5 : Int32)), (.ref s_ALL)])) _
                refine X43.aaload hx (j := (5 : Int32)) (v := (.ref y5)) (by rw [e43]; exact Arq50.1) (State.isArrayOf_alike hZ.alike Arq50.2.1) rfl Arq50.2.2 iq50 (Hq50.at iq50 rfl) (g := (mkF m 16 #[.val (.int p0), .val (.ref s_ALL), .val (.int (6 : Int32)), .val (.int (5 : Int32)), .val (.ref y4)] [(.int (5 : Int32)), (.ref s_ALL)])) rfl rfl (hb hby d1_16) _ ?_
                show Steps p.tables e below (T43.setTop (mkF m 17 #[.val (.int p0), .val (.ref s_ALL), .val (.int (6 : Int32)), .val (.int (5 : Int32)), .val (.ref y4)] [(.ref y5)])) _
                refine XS.astore X43.here hx rfl (hb hby d1_17) rfl rfl (l' := #[.val (.int p0), .val (.ref s_ALL), .val (.int (6 : Int32)), .val (.int (5 : Int32)), .val (.ref y5)]) rfl ?_
                show Steps p.tables e below (T43.setTop (mkF m 19 #[.val (.int p0), .val (.ref s_ALL), .val (.int (6 : Int32)), .val (.int (5 : Int32)), .val (.ref y5)] [])) _
                refine XS.aload X43.here hx rfl (hb hby d1_19) rfl rfl ?_
                exact k)
            obtain ⟨T52, X52, e52, st52⟩ := getF X43 hx hZ hown (host := "") (Or.inl (hw _ (List.mem_of_getElem? (i := 7) rfl))) Via.refl e43 F_6 (g := (mkF m 21 #[.val (.int p0), .val (.ref s_ALL), .val (.int (6 : Int32)), .val (.int (5 : Int32)), .val (.ref y5)] [(.ref y5)])) rfl rfl (hb hby d1_21)
            have pre52 : ∀ t, Steps p.tables e below (T52.setTop (mkF m 24 #[.val (.int p0), .val (.ref s_ALL), .val (.int (6 : Int32)), .val (.int (5 : Int32)), .val (.ref y5)] [(.int (6 : Int32))])) t → P t := fun t k => pre51 t (st52 _ k)
            have pre53 : ∀ t, Steps p.tables e below (T52.setTop (mkF m 25 #[.val (.int p0), .val (.ref s_ALL), .val (.int (6 : Int32)), .val (.int (5 : Int32)), .val (.ref y5)] [(.int p0), (.int (6 : Int32))])) t → P t := fun t k => pre52 t (by
                show Steps p.tables e below (T52.setTop (mkF m 24 #[.val (.int p0), .val (.ref s_ALL), .val (.int (6 : Int32)), .val (.int (5 : Int32)), .val (.ref y5)] [(.int (6 : Int32))])) _
                refine XS.iloadN X52.here hx rfl (hb hby d1_24) rfl ?_
                exact k)
            by_cases hc54 : (6 : Int32) = p0
            · have pre55 : ∀ t, Steps p.tables e below (T52.setTop (mkF m 30 #[.val (.int p0), .val (.ref s_ALL), .val (.int (6 : Int32)), .val (.int (5 : Int32)), .val (.ref y5)] [(.ref y5)])) t → P t := fun t k => pre53 t (by
                  show Steps p.tables e below (T52.setTop (mkF m 25 #[.val (.int p0), .val (.ref s_ALL), .val (.int (6 : Int32)), .val (.int (5 : Int32)), .val (.ref y5)] [(.int p0), (.int (6 : Int32))])) _
                  refine XS.icmpNo X52.here hx rfl (hb hby d1_25) rfl (teq hc54).2 ?_
                  show Steps p.tables e below (T52.setTop (mkF m 28 #[.val (.int p0), .val (.ref s_ALL), .val (.int (6 : Int32)), .val (.int (5 : Int32)), .val (.ref y5)] [])) _
                  refine XS.aload X52.here hx rfl (hb hby d1_28) rfl rfl ?_
                  exact k)
              obtain ⟨fs, hr, hrun, hended, hW, hsame⟩ := X52.leave (v := some (.ref y5)) (fun h => by rw [Bd.returns] at h; cases h)
              refine ⟨_, _, fin _ (pre55 _ ?_), hrun, hended, _, _, rfl, ?_, ⟨_, rfl⟩, hW, hsame.mono (by decide) (by decide)⟩
              · show Steps p.tables e below (T52.setTop (mkF m 30 #[.val (.int p0), .val (.ref s_ALL), .val (.int (6 : Int32)), .val (.int (5 : Int32)), .val (.ref y5)] [(.ref y5)])) _
                jvm_step X52.here [X52.here.top, hx, (hb hby d1_30), X52.method', Bd.returns, Value.isRef, FieldType.isReference]
                first | (intro acts; rw [hr _ acts rfl rfl rfl]) | rw [hr _ _ rfl rfl rfl]
                exact Steps.refl _
              · show Q1 Z p0 s_ALL k_ALL y0 y1 y2 y3 y4 y5 h0 n0 _ T52.heap _
                rw [e52]
                exact ⟨(by first | (unfold own_f1; rw [if_neg hc9, if_neg hc18, if_neg hc27, if_neg hc36, if_neg hc45, if_pos hc54]; done) | simp only [own_f1, if_neg hc9, if_neg hc18, if_neg hc27, if_neg hc36, if_neg hc45, if_pos hc54] | simp [own_f1, if_neg hc9, if_neg hc18, if_neg hc27, if_neg hc36, if_neg hc45, if_pos hc54]), N0, rfl⟩
            · have pre56 : ∀ t, Steps p.tables e below (T52.setTop (mkF m 34 #[.val (.int p0), .val (.ref s_ALL), .val (.int (6 : Int32)), .val (.int ((5 : Int32) + (1 : Int32))), .val (.ref y5)] [])) t → P t := fun t k => pre53 t (by
                  show Steps p.tables e below (T52.setTop (mkF m 25 #[.val (.int p0), .val (.ref s_ALL), .val (.int (6 : Int32)), .val (.int (5 : Int32)), .val (.ref y5)] [(.int p0), (.int (6 : Int32))])) _
                  refine XS.icmpYes X52.here hx rfl (pc0 := 25) (pc' := 31) rfl (hb hby d1_25) rfl (feq hc54).2 (by decide) (by decide) ?_
                  show Steps p.tables e below (T52.setTop (mkF m 31 #[.val (.int p0), .val (.ref s_ALL), .val (.int (6 : Int32)), .val (.int (5 : Int32)), .val (.ref y5)] [])) _
                  refine XS.iinc X52.here hx rfl (hb hby d1_31) rfl (l' := #[.val (.int p0), .val (.ref s_ALL), .val (.int (6 : Int32)), .val (.int ((5 : Int32) + (1 : Int32))), .val (.ref y5)]) rfl ?_
                  exact k)
              have pre57 : ∀ t, Steps p.tables e below (T52.setTop (mkF m 34 #[.val (.int p0), .val (.ref s_ALL), .val (.int (6 : Int32)), .val (.int (6 : Int32)), .val (.ref y5)] [])) t → P t := fun t k => pre56 t (by rw [show ((5 : Int32) + (1 : Int32)) = (6 : Int32) from by decide]; exact k)
              have pre58 : ∀ t, Steps p.tables e below (T52.setTop (mkF m 38 #[.val (.int p0), .val (.ref s_ALL), .val (.int (6 : Int32)), .val (.int (6 : Int32)), .val (.ref y5)] [.null])) t → P t := fun t k => pre57 t (by
                  show Steps p.tables e below (T52.setTop (mkF m 34 #[.val (.int p0), .val (.ref s_ALL), .val (.int (6 : Int32)), .val (.int (6 : Int32)), .val (.ref y5)] [])) _
                  refine XS.goto X52.here hx rfl (pc0 := 34) (pc' := 9) rfl (hb hby d1_34) (by decide) (by decide) ?_
                  show Steps p.tables e below (T52.setTop (mkF m 9 #[.val (.int p0), .val (.ref s_ALL), .val (.int (6 : Int32)), .val (.int (6 : Int32)), .val (.ref y5)] [])) _
                  refine XS.iloadN X52.here hx rfl (hb hby d1_9) rfl ?_
                  show Steps p.tables e below (T52.setTop (mkF m 10 #[.val (.int p0), .val (.ref s_ALL), .val (.int (6 : Int32)), .val (.int (6 : Int32)), .val (.ref y5)] [(.int (6 : Int32))])) _
                  refine XS.iloadN X52.here hx rfl (hb hby d1_10) rfl ?_
                  show Steps p.tables e below (T52.setTop (mkF m 11 #[.val (.int p0), .val (.ref s_ALL), .val (.int (6 : Int32)), .val (.int (6 : Int32)), .val (.ref y5)] [(.int (6 : Int32)), (.int (6 : Int32))])) _
                  refine XS.icmpYes X52.here hx rfl (pc0 := 11) (pc' := 37) rfl (hb hby d1_11) rfl (flt (by decide : ¬ ((6 : Int32) < (6 : Int32)))).2.1 (by decide) (by decide) ?_
                  show Steps p.tables e below (T52.setTop (mkF m 37 #[.val (.int p0), .val (.ref s_ALL), .val (.int (6 : Int32)), .val (.int (6 : Int32)), .val (.ref y5)] [])) _
                  refine XS.aconstNull X52.here hx rfl (hb hby d1_37) ?_
                  exact k)
              obtain ⟨fs, hr, hrun, hended, hW, hsame⟩ := X52.leave (v := some .null) (fun h => by rw [Bd.returns] at h; cases h)
              refine ⟨_, _, fin _ (pre58 _ ?_), hrun, hended, _, _, rfl, ?_, ⟨_, rfl⟩, hW, hsame.mono (by decide) (by decide)⟩
              · show Steps p.tables e below (T52.setTop (mkF m 38 #[.val (.int p0), .val (.ref s_ALL), .val (.int (6 : Int32)), .val (.int (6 : Int32)), .val (.ref y5)] [.null])) _
                jvm_step X52.here [X52.here.top, hx, (hb hby d1_38), X52.method', Bd.returns, Value.isRef, FieldType.isReference]
                first | (intro acts; rw [hr _ acts rfl rfl rfl]) | rw [hr _ _ rfl rfl rfl]
                exact Steps.refl _
              · show Q1 Z p0 s_ALL k_ALL y0 y1 y2 y3 y4 y5 h0 n0 _ T52.heap _
                rw [e52]
                exact ⟨(by first | (unfold own_f1; rw [if_neg hc9, if_neg hc18, if_neg hc27, if_neg hc36, if_neg hc45, if_neg hc54]; done) | simp only [own_f1, if_neg hc9, if_neg hc18, if_neg hc27, if_neg hc36, if_neg hc45, if_neg hc54] | simp [own_f1, if_neg hc9, if_neg hc18, if_neg hc27, if_neg hc36, if_neg hc45, if_neg hc54]), N0, rfl⟩
theorem d2_0 : decode method_3_code 0 = .ok (.iload_n 0, 1) := by decide +kernel
theorem d2_1 : decode method_3_code 1 = .ok (.iconst 1, 1) := by decide +kernel
theorem d2_2 : decode method_3_code 2 = .ok (.if_icmp .ne 7, 3) := by decide +kernel
theorem d2_5 : decode method_3_code 5 = .ok (.getstatic 22, 3) := by decide +kernel
theorem d2_8 : decode method_3_code 8 = .ok (.areturn, 1) := by decide +kernel
theorem d2_9 : decode method_3_code 9 = .ok (.iload_n 0, 1) := by decide +kernel
theorem d2_10 : decode method_3_code 10 = .ok (.iconst 2, 1) := by decide +kernel
theorem d2_11 : decode method_3_code 11 = .ok (.if_icmp .ne 7, 3) := by decide +kernel
theorem d2_14 : decode method_3_code 14 = .ok (.getstatic 26, 3) := by decide +kernel
theorem d2_17 : decode method_3_code 17 = .ok (.areturn, 1) := by decide +kernel
theorem d2_18 : decode method_3_code 18 = .ok (.iload_n 0, 1) := by decide +kernel
theorem d2_19 : decode method_3_code 19 = .ok (.iconst 3, 1) := by decide +kernel
theorem d2_20 : decode method_3_code 20 = .ok (.if_icmp .ne 7, 3) := by decide +kernel
theorem d2_23 : decode method_3_code 23 = .ok (.getstatic 29, 3) := by decide +kernel
theorem d2_26 : decode method_3_code 26 = .ok (.areturn, 1) := by decide +kernel
theorem d2_27 : decode method_3_code 27 = .ok (.iload_n 0, 1) := by decide +kernel
theorem d2_28 : decode method_3_code 28 = .ok (.iconst 4, 1) := by decide +kernel
theorem d2_29 : decode method_3_code 29 = .ok (.if_icmp .ne 7, 3) := by decide +kernel
theorem d2_32 : decode method_3_code 32 = .ok (.getstatic 32, 3) := by decide +kernel
theorem d2_35 : decode method_3_code 35 = .ok (.areturn, 1) := by decide +kernel
theorem d2_36 : decode method_3_code 36 = .ok (.iload_n 0, 1) := by decide +kernel
theorem d2_37 : decode method_3_code 37 = .ok (.iconst 5, 1) := by decide +kernel
theorem d2_38 : decode method_3_code 38 = .ok (.if_icmp .ne 7, 3) := by decide +kernel
theorem d2_41 : decode method_3_code 41 = .ok (.getstatic 35, 3) := by decide +kernel
theorem d2_44 : decode method_3_code 44 = .ok (.areturn, 1) := by decide +kernel
theorem d2_45 : decode method_3_code 45 = .ok (.iload_n 0, 1) := by decide +kernel
theorem d2_46 : decode method_3_code 46 = .ok (.bipush 6, 2) := by decide +kernel
theorem d2_48 : decode method_3_code 48 = .ok (.if_icmp .ne 7, 3) := by decide +kernel
theorem d2_51 : decode method_3_code 51 = .ok (.getstatic 38, 3) := by decide +kernel
theorem d2_54 : decode method_3_code 54 = .ok (.areturn, 1) := by decide +kernel
theorem d2_55 : decode method_3_code 55 = .ok (.aconst_null, 1) := by decide +kernel
theorem d2_56 : decode method_3_code 56 = .ok (.areturn, 1) := by decide +kernel
theorem pn_2 : plainName "com/example/fairmark/fairmark/OrderTypeOfPinLaw" = true := by first | (simp [plainName, overriddenIn]; done) | decide +kernel
theorem ef_2 (m : MethodId) (p0 : Int32) : entryFrame m #[(.int p0)] 1 = mkF m 0 #[.val (.int p0)] [] := by first | (simp [entryFrame, mkF, argsToLocals, Value.category]; done) | rfl
def own_f2 (p0 : Int32) (s_LIMIT : Addr) (s_POST_ONLY : Addr) (s_IMMEDIATE_OR_CANCEL : Addr) (s_FILL_OR_KILL : Addr) (s_MARKET : Addr) (s_MARKET_TO_LIMIT : Addr) : Value := (if p0 = (1 : Int32) then (.ref s_LIMIT) else (if p0 = (2 : Int32) then (.ref s_POST_ONLY) else (if p0 = (3 : Int32) then (.ref s_IMMEDIATE_OR_CANCEL) else (if p0 = (4 : Int32) then (.ref s_FILL_OR_KILL) else (if p0 = (5 : Int32) then (.ref s_MARKET) else (if p0 = (6 : Int32) then (.ref s_MARKET_TO_LIMIT) else .null))))))
def Q2 (Z : State) (p0 : Int32) (s_LIMIT : Addr) (s_POST_ONLY : Addr) (s_IMMEDIATE_OR_CANCEL : Addr) (s_FILL_OR_KILL : Addr) (s_MARKET : Addr) (s_MARKET_TO_LIMIT : Addr) (h0 : Heap) (n0 : Nat) (v : Option Value) (h : Heap) (L : List Loc) : Prop := v = some (own_f2 p0 s_LIMIT s_POST_ONLY s_IMMEDIATE_OR_CANCEL s_FILL_OR_KILL s_MARKET s_MARKET_TO_LIMIT) ∧ Fr n0 L ∧ h = h0
set_option maxRecDepth 65536 in
set_option maxHeartbeats 40000000 in
theorem rm2 (l : Launch) (Z : State) (a0 : Array Value) (hw : ∀ d ∈ tables_1, d.before a0 Z = true) (ws : List Jvm.Cond) (p0 : Int32) (s_LIMIT : Addr) (s_POST_ONLY : Addr) (s_IMMEDIATE_OR_CANCEL : Addr) (s_FILL_OR_KILL : Addr) (s_MARKET : Addr) (s_MARKET_TO_LIMIT : Addr) (h0 : Heap) (n0 : Nat) (Z0 : n0 ≤ h0.size) (S_LIMIT : Sta Z h0 "com/example/fairmark/fairmark/OrderType" "LIMIT" "Lcom/example/fairmark/fairmark/OrderType;" (.ref s_LIMIT)) (S_POST_ONLY : Sta Z h0 "com/example/fairmark/fairmark/OrderType" "POST_ONLY" "Lcom/example/fairmark/fairmark/OrderType;" (.ref s_POST_ONLY)) (S_IMMEDIATE_OR_CANCEL : Sta Z h0 "com/example/fairmark/fairmark/OrderType" "IMMEDIATE_OR_CANCEL" "Lcom/example/fairmark/fairmark/OrderType;" (.ref s_IMMEDIATE_OR_CANCEL)) (S_FILL_OR_KILL : Sta Z h0 "com/example/fairmark/fairmark/OrderType" "FILL_OR_KILL" "Lcom/example/fairmark/fairmark/OrderType;" (.ref s_FILL_OR_KILL)) (S_MARKET : Sta Z h0 "com/example/fairmark/fairmark/OrderType" "MARKET" "Lcom/example/fairmark/fairmark/OrderType;" (.ref s_MARKET)) (S_MARKET_TO_LIMIT : Sta Z h0 "com/example/fairmark/fairmark/OrderType" "MARKET_TO_LIMIT" "Lcom/example/fairmark/fairmark/OrderType;" (.ref s_MARKET_TO_LIMIT)) :
    MetFree l (⟨"com/example/fairmark/fairmark/OrderTypeOfPinLaw", "expected", "(I)Lcom/example/fairmark/fairmark/OrderType;"⟩ : MethodName) (head1 (Jvm.Cond.code (⟨"com/example/fairmark/fairmark/OrderTypeOfPinLaw", "expected", "(I)Lcom/example/fairmark/fairmark/OrderType;"⟩ : MethodName) method_3_code 1 (some (.object "com/example/fairmark/fairmark/OrderType")) :: ws) ({ frames := 0, cells := 0, slots := 0, locals := 0 } : Room)) (fun a U => a = #[(.int p0)] ∧ Z.Warmed39 U.vm ∧ U.heap = h0) (fun _ _ _ _ _ => True) (fun _ U o U' => ∃ v L, o = .returned v ∧ Q2 Z p0 s_LIMIT s_POST_ONLY s_IMMEDIATE_OR_CANCEL s_FILL_OR_KILL s_MARKET s_MARKET_TO_LIMIT h0 n0 v U'.heap L ∧ FrameEnd U o U' L ({ frames := 0, cells := 0, slots := 0, locals := 0 } : Room).cells ({ frames := 0, cells := 0, slots := 0, locals := 0 } : Room).slots) := by
  refine MetFree.of_bodySF (plainFor_of_name pn_2) hisR ?_
  intro p e s m args below meth c s₁ Bd hml0 hP hK
  obtain ⟨rfl, hZ, hh⟩ := hP
  have hx := Bd.exec
  have hby := Bd.bytes
  have hml : c.maxLocals = 1 := hml0
  have hown : s.vm.findClass "com/example/fairmark/fairmark/OrderTypeOfPinLaw" = some m.cls := findClass_of_methodNamed Bd.named
  have hnm := (name_of_methodNamed Bd.named Bd.method).1
  have X0 : Stand p l e ({ frames := 0, cells := 0, slots := 0, locals := 0 } : Room) s m #[(.int p0)] below meth c s₁ [] 0 0 := Stand.of_body Bd
  have e0 : s₁.heap = h0 := by rw [← hh, Bd.state]; rfl
  have N0 := Fr.nil n0
  obtain ⟨P, pre0, fin⟩ : ∃ P : State → Prop, (∀ t, Steps p.tables e below (s₁.setTop (mkF m 0 #[.val (.int p0)] [])) t → P t) ∧ (∀ t, P t → Steps p.tables e below (s₁.setTop (entryFrame m #[(.int p0)] 1)) t) := ⟨fun t => Steps p.tables e below (s₁.setTop (entryFrame m #[(.int p0)] 1)) t, fun t k => castTop (ef_2 m p0) k, fun t k => k⟩
  have K0 : Keep h0 h0 [] := Keep.refl _ _
  have pre1 : ∀ t, Steps p.tables e below (s₁.setTop (mkF m 2 #[.val (.int p0)] [(.int (1 : Int32)), (.int p0)])) t → P t := fun t k => pre0 t (by
      show Steps p.tables e below (s₁.setTop (mkF m 0 #[.val (.int p0)] [])) _
      refine XS.iloadN X0.here hx rfl (hb hby d2_0) rfl ?_
      show Steps p.tables e below (s₁.setTop (mkF m 1 #[.val (.int p0)] [(.int p0)])) _
      refine XS.iconst X0.here hx rfl (hb hby d2_1) ?_
      exact k)
  by_cases hc2 : p0 = (1 : Int32)
  · have pre3 : ∀ t, Steps p.tables e below (s₁.setTop (mkF m 5 #[.val (.int p0)] [])) t → P t := fun t k => pre1 t (by
        show Steps p.tables e below (s₁.setTop (mkF m 2 #[.val (.int p0)] [(.int (1 : Int32)), (.int p0)])) _
        refine XS.icmpNo X0.here hx rfl (hb hby d2_2) rfl (teq hc2).2 ?_
        exact k)
    obtain ⟨T4, X4, e4, st4⟩ := getS2 X0 hx hZ hown (host := "") (Or.inl (hw _ (List.mem_of_getElem? (i := 23) rfl))) Via.refl e0 S_LIMIT (g := (mkF m 5 #[.val (.int p0)] [])) rfl (hb hby d2_5)
    have pre4 : ∀ t, Steps p.tables e below (T4.setTop (mkF m 8 #[.val (.int p0)] [(.ref s_LIMIT)])) t → P t := fun t k => pre3 t (st4 _ k)
    obtain ⟨fs, hr, hrun, hended, hW, hsame⟩ := X4.leave (v := some (.ref s_LIMIT)) (fun h => by rw [Bd.returns] at h; cases h)
    refine ⟨_, _, fin _ (pre4 _ ?_), hrun, hended, _, _, rfl, ?_, ⟨_, rfl⟩, hW, hsame.mono (by decide) (by decide)⟩
    · show Steps p.tables e below (T4.setTop (mkF m 8 #[.val (.int p0)] [(.ref s_LIMIT)])) _
      jvm_step X4.here [X4.here.top, hx, (hb hby d2_8), X4.method', Bd.returns, Value.isRef, FieldType.isReference]
      first | (intro acts; rw [hr _ acts rfl rfl rfl]) | rw [hr _ _ rfl rfl rfl]
      exact Steps.refl _
    · show Q2 Z p0 s_LIMIT s_POST_ONLY s_IMMEDIATE_OR_CANCEL s_FILL_OR_KILL s_MARKET s_MARKET_TO_LIMIT h0 n0 _ T4.heap _
      rw [e4]
      exact ⟨(by first | (unfold own_f2; rw [if_pos hc2]; done) | simp only [own_f2, if_pos hc2] | simp [own_f2, if_pos hc2]), N0, rfl⟩
  · have pre5 : ∀ t, Steps p.tables e below (s₁.setTop (mkF m 11 #[.val (.int p0)] [(.int (2 : Int32)), (.int p0)])) t → P t := fun t k => pre1 t (by
        show Steps p.tables e below (s₁.setTop (mkF m 2 #[.val (.int p0)] [(.int (1 : Int32)), (.int p0)])) _
        refine XS.icmpYes X0.here hx rfl (pc0 := 2) (pc' := 9) rfl (hb hby d2_2) rfl (feq hc2).2 (by decide) (by decide) ?_
        show Steps p.tables e below (s₁.setTop (mkF m 9 #[.val (.int p0)] [])) _
        refine XS.iloadN X0.here hx rfl (hb hby d2_9) rfl ?_
        show Steps p.tables e below (s₁.setTop (mkF m 10 #[.val (.int p0)] [(.int p0)])) _
        refine XS.iconst X0.here hx rfl (hb hby d2_10) ?_
        exact k)
    by_cases hc6 : p0 = (2 : Int32)
    · have pre7 : ∀ t, Steps p.tables e below (s₁.setTop (mkF m 14 #[.val (.int p0)] [])) t → P t := fun t k => pre5 t (by
          show Steps p.tables e below (s₁.setTop (mkF m 11 #[.val (.int p0)] [(.int (2 : Int32)), (.int p0)])) _
          refine XS.icmpNo X0.here hx rfl (hb hby d2_11) rfl (teq hc6).2 ?_
          exact k)
      obtain ⟨T8, X8, e8, st8⟩ := getS2 X0 hx hZ hown (host := "") (Or.inl (hw _ (List.mem_of_getElem? (i := 24) rfl))) Via.refl e0 S_POST_ONLY (g := (mkF m 14 #[.val (.int p0)] [])) rfl (hb hby d2_14)
      have pre8 : ∀ t, Steps p.tables e below (T8.setTop (mkF m 17 #[.val (.int p0)] [(.ref s_POST_ONLY)])) t → P t := fun t k => pre7 t (st8 _ k)
      obtain ⟨fs, hr, hrun, hended, hW, hsame⟩ := X8.leave (v := some (.ref s_POST_ONLY)) (fun h => by rw [Bd.returns] at h; cases h)
      refine ⟨_, _, fin _ (pre8 _ ?_), hrun, hended, _, _, rfl, ?_, ⟨_, rfl⟩, hW, hsame.mono (by decide) (by decide)⟩
      · show Steps p.tables e below (T8.setTop (mkF m 17 #[.val (.int p0)] [(.ref s_POST_ONLY)])) _
        jvm_step X8.here [X8.here.top, hx, (hb hby d2_17), X8.method', Bd.returns, Value.isRef, FieldType.isReference]
        first | (intro acts; rw [hr _ acts rfl rfl rfl]) | rw [hr _ _ rfl rfl rfl]
        exact Steps.refl _
      · show Q2 Z p0 s_LIMIT s_POST_ONLY s_IMMEDIATE_OR_CANCEL s_FILL_OR_KILL s_MARKET s_MARKET_TO_LIMIT h0 n0 _ T8.heap _
        rw [e8]
        exact ⟨(by first | (unfold own_f2; rw [if_neg hc2, if_pos hc6]; done) | simp only [own_f2, if_neg hc2, if_pos hc6] | simp [own_f2, if_neg hc2, if_pos hc6]), N0, rfl⟩
    · have pre9 : ∀ t, Steps p.tables e below (s₁.setTop (mkF m 20 #[.val (.int p0)] [(.int (3 : Int32)), (.int p0)])) t → P t := fun t k => pre5 t (by
          show Steps p.tables e below (s₁.setTop (mkF m 11 #[.val (.int p0)] [(.int (2 : Int32)), (.int p0)])) _
          refine XS.icmpYes X0.here hx rfl (pc0 := 11) (pc' := 18) rfl (hb hby d2_11) rfl (feq hc6).2 (by decide) (by decide) ?_
          show Steps p.tables e below (s₁.setTop (mkF m 18 #[.val (.int p0)] [])) _
          refine XS.iloadN X0.here hx rfl (hb hby d2_18) rfl ?_
          show Steps p.tables e below (s₁.setTop (mkF m 19 #[.val (.int p0)] [(.int p0)])) _
          refine XS.iconst X0.here hx rfl (hb hby d2_19) ?_
          exact k)
      by_cases hc10 : p0 = (3 : Int32)
      · have pre11 : ∀ t, Steps p.tables e below (s₁.setTop (mkF m 23 #[.val (.int p0)] [])) t → P t := fun t k => pre9 t (by
            show Steps p.tables e below (s₁.setTop (mkF m 20 #[.val (.int p0)] [(.int (3 : Int32)), (.int p0)])) _
            refine XS.icmpNo X0.here hx rfl (hb hby d2_20) rfl (teq hc10).2 ?_
            exact k)
        obtain ⟨T12, X12, e12, st12⟩ := getS2 X0 hx hZ hown (host := "") (Or.inl (hw _ (List.mem_of_getElem? (i := 20) rfl))) Via.refl e0 S_IMMEDIATE_OR_CANCEL (g := (mkF m 23 #[.val (.int p0)] [])) rfl (hb hby d2_23)
        have pre12 : ∀ t, Steps p.tables e below (T12.setTop (mkF m 26 #[.val (.int p0)] [(.ref s_IMMEDIATE_OR_CANCEL)])) t → P t := fun t k => pre11 t (st12 _ k)
        obtain ⟨fs, hr, hrun, hended, hW, hsame⟩ := X12.leave (v := some (.ref s_IMMEDIATE_OR_CANCEL)) (fun h => by rw [Bd.returns] at h; cases h)
        refine ⟨_, _, fin _ (pre12 _ ?_), hrun, hended, _, _, rfl, ?_, ⟨_, rfl⟩, hW, hsame.mono (by decide) (by decide)⟩
        · show Steps p.tables e below (T12.setTop (mkF m 26 #[.val (.int p0)] [(.ref s_IMMEDIATE_OR_CANCEL)])) _
          jvm_step X12.here [X12.here.top, hx, (hb hby d2_26), X12.method', Bd.returns, Value.isRef, FieldType.isReference]
          first | (intro acts; rw [hr _ acts rfl rfl rfl]) | rw [hr _ _ rfl rfl rfl]
          exact Steps.refl _
        · show Q2 Z p0 s_LIMIT s_POST_ONLY s_IMMEDIATE_OR_CANCEL s_FILL_OR_KILL s_MARKET s_MARKET_TO_LIMIT h0 n0 _ T12.heap _
          rw [e12]
          exact ⟨(by first | (unfold own_f2; rw [if_neg hc2, if_neg hc6, if_pos hc10]; done) | simp only [own_f2, if_neg hc2, if_neg hc6, if_pos hc10] | simp [own_f2, if_neg hc2, if_neg hc6, if_pos hc10]), N0, rfl⟩
      · have pre13 : ∀ t, Steps p.tables e below (s₁.setTop (mkF m 29 #[.val (.int p0)] [(.int (4 : Int32)), (.int p0)])) t → P t := fun t k => pre9 t (by
            show Steps p.tables e below (s₁.setTop (mkF m 20 #[.val (.int p0)] [(.int (3 : Int32)), (.int p0)])) _
            refine XS.icmpYes X0.here hx rfl (pc0 := 20) (pc' := 27) rfl (hb hby d2_20) rfl (feq hc10).2 (by decide) (by decide) ?_
            show Steps p.tables e below (s₁.setTop (mkF m 27 #[.val (.int p0)] [])) _
            refine XS.iloadN X0.here hx rfl (hb hby d2_27) rfl ?_
            show Steps p.tables e below (s₁.setTop (mkF m 28 #[.val (.int p0)] [(.int p0)])) _
            refine XS.iconst X0.here hx rfl (hb hby d2_28) ?_
            exact k)
        by_cases hc14 : p0 = (4 : Int32)
        · have pre15 : ∀ t, Steps p.tables e below (s₁.setTop (mkF m 32 #[.val (.int p0)] [])) t → P t := fun t k => pre13 t (by
              show Steps p.tables e below (s₁.setTop (mkF m 29 #[.val (.int p0)] [(.int (4 : Int32)), (.int p0)])) _
              refine XS.icmpNo X0.here hx rfl (hb hby d2_29) rfl (teq hc14).2 ?_
              exact k)
          obtain ⟨T16, X16, e16, st16⟩ := getS2 X0 hx hZ hown (host := "") (Or.inl (hw _ (List.mem_of_getElem? (i := 21) rfl))) Via.refl e0 S_FILL_OR_KILL (g := (mkF m 32 #[.val (.int p0)] [])) rfl (hb hby d2_32)
          have pre16 : ∀ t, Steps p.tables e below (T16.setTop (mkF m 35 #[.val (.int p0)] [(.ref s_FILL_OR_KILL)])) t → P t := fun t k => pre15 t (st16 _ k)
          obtain ⟨fs, hr, hrun, hended, hW, hsame⟩ := X16.leave (v := some (.ref s_FILL_OR_KILL)) (fun h => by rw [Bd.returns] at h; cases h)
          refine ⟨_, _, fin _ (pre16 _ ?_), hrun, hended, _, _, rfl, ?_, ⟨_, rfl⟩, hW, hsame.mono (by decide) (by decide)⟩
          · show Steps p.tables e below (T16.setTop (mkF m 35 #[.val (.int p0)] [(.ref s_FILL_OR_KILL)])) _
            jvm_step X16.here [X16.here.top, hx, (hb hby d2_35), X16.method', Bd.returns, Value.isRef, FieldType.isReference]
            first | (intro acts; rw [hr _ acts rfl rfl rfl]) | rw [hr _ _ rfl rfl rfl]
            exact Steps.refl _
          · show Q2 Z p0 s_LIMIT s_POST_ONLY s_IMMEDIATE_OR_CANCEL s_FILL_OR_KILL s_MARKET s_MARKET_TO_LIMIT h0 n0 _ T16.heap _
            rw [e16]
            exact ⟨(by first | (unfold own_f2; rw [if_neg hc2, if_neg hc6, if_neg hc10, if_pos hc14]; done) | simp only [own_f2, if_neg hc2, if_neg hc6, if_neg hc10, if_pos hc14] | simp [own_f2, if_neg hc2, if_neg hc6, if_neg hc10, if_pos hc14]), N0, rfl⟩
        · have pre17 : ∀ t, Steps p.tables e below (s₁.setTop (mkF m 38 #[.val (.int p0)] [(.int (5 : Int32)), (.int p0)])) t → P t := fun t k => pre13 t (by
              show Steps p.tables e below (s₁.setTop (mkF m 29 #[.val (.int p0)] [(.int (4 : Int32)), (.int p0)])) _
              refine XS.icmpYes X0.here hx rfl (pc0 := 29) (pc' := 36) rfl (hb hby d2_29) rfl (feq hc14).2 (by decide) (by decide) ?_
              show Steps p.tables e below (s₁.setTop (mkF m 36 #[.val (.int p0)] [])) _
              refine XS.iloadN X0.here hx rfl (hb hby d2_36) rfl ?_
              show Steps p.tables e below (s₁.setTop (mkF m 37 #[.val (.int p0)] [(.int p0)])) _
              refine XS.iconst X0.here hx rfl (hb hby d2_37) ?_
              exact k)
          by_cases hc18 : p0 = (5 : Int32)
          · have pre19 : ∀ t, Steps p.tables e below (s₁.setTop (mkF m 41 #[.val (.int p0)] [])) t → P t := fun t k => pre17 t (by
                show Steps p.tables e below (s₁.setTop (mkF m 38 #[.val (.int p0)] [(.int (5 : Int32)), (.int p0)])) _
                refine XS.icmpNo X0.here hx rfl (hb hby d2_38) rfl (teq hc18).2 ?_
                exact k)
            obtain ⟨T20, X20, e20, st20⟩ := getS2 X0 hx hZ hown (host := "") (Or.inl (hw _ (List.mem_of_getElem? (i := 22) rfl))) Via.refl e0 S_MARKET (g := (mkF m 41 #[.val (.int p0)] [])) rfl (hb hby d2_41)
            have pre20 : ∀ t, Steps p.tables e below (T20.setTop (mkF m 44 #[.val (.int p0)] [(.ref s_MARKET)])) t → P t := fun t k => pre19 t (st20 _ k)
            obtain ⟨fs, hr, hrun, hended, hW, hsame⟩ := X20.leave (v := some (.ref s_MARKET)) (fun h => by rw [Bd.returns] at h; cases h)
            refine ⟨_, _, fin _ (pre20 _ ?_), hrun, hended, _, _, rfl, ?_, ⟨_, rfl⟩, hW, hsame.mono (by decide) (by decide)⟩
            · show Steps p.tables e below (T20.setTop (mkF m 44 #[.val (.int p0)] [(.ref s_MARKET)])) _
              jvm_step X20.here [X20.here.top, hx, (hb hby d2_44), X20.method', Bd.returns, Value.isRef, FieldType.isReference]
              first | (intro acts; rw [hr _ acts rfl rfl rfl]) | rw [hr _ _ rfl rfl rfl]
              exact Steps.refl _
            · show Q2 Z p0 s_LIMIT s_POST_ONLY s_IMMEDIATE_OR_CANCEL s_FILL_OR_KILL s_MARKET s_MARKET_TO_LIMIT h0 n0 _ T20.heap _
              rw [e20]
              exact ⟨(by first | (unfold own_f2; rw [if_neg hc2, if_neg hc6, if_neg hc10, if_neg hc14, if_pos hc18]; done) | simp only [own_f2, if_neg hc2, if_neg hc6, if_neg hc10, if_neg hc14, if_pos hc18] | simp [own_f2, if_neg hc2, if_neg hc6, if_neg hc10, if_neg hc14, if_pos hc18]), N0, rfl⟩
          · have pre21 : ∀ t, Steps p.tables e below (s₁.setTop (mkF m 48 #[.val (.int p0)] [(.int (6 : Int32)), (.int p0)])) t → P t := fun t k => pre17 t (by
                show Steps p.tables e below (s₁.setTop (mkF m 38 #[.val (.int p0)] [(.int (5 : Int32)), (.int p0)])) _
                refine XS.icmpYes X0.here hx rfl (pc0 := 38) (pc' := 45) rfl (hb hby d2_38) rfl (feq hc18).2 (by decide) (by decide) ?_
                show Steps p.tables e below (s₁.setTop (mkF m 45 #[.val (.int p0)] [])) _
                refine XS.iloadN X0.here hx rfl (hb hby d2_45) rfl ?_
                show Steps p.tables e below (s₁.setTop (mkF m 46 #[.val (.int p0)] [(.int p0)])) _
                refine XS.bipush X0.here hx rfl (hb hby d2_46) ?_
                exact k)
            by_cases hc22 : p0 = (6 : Int32)
            · have pre23 : ∀ t, Steps p.tables e below (s₁.setTop (mkF m 51 #[.val (.int p0)] [])) t → P t := fun t k => pre21 t (by
                  show Steps p.tables e below (s₁.setTop (mkF m 48 #[.val (.int p0)] [(.int (6 : Int32)), (.int p0)])) _
                  refine XS.icmpNo X0.here hx rfl (hb hby d2_48) rfl (teq hc22).2 ?_
                  exact k)
              obtain ⟨T24, X24, e24, st24⟩ := getS2 X0 hx hZ hown (host := "") (Or.inl (hw _ (List.mem_of_getElem? (i := 18) rfl))) Via.refl e0 S_MARKET_TO_LIMIT (g := (mkF m 51 #[.val (.int p0)] [])) rfl (hb hby d2_51)
              have pre24 : ∀ t, Steps p.tables e below (T24.setTop (mkF m 54 #[.val (.int p0)] [(.ref s_MARKET_TO_LIMIT)])) t → P t := fun t k => pre23 t (st24 _ k)
              obtain ⟨fs, hr, hrun, hended, hW, hsame⟩ := X24.leave (v := some (.ref s_MARKET_TO_LIMIT)) (fun h => by rw [Bd.returns] at h; cases h)
              refine ⟨_, _, fin _ (pre24 _ ?_), hrun, hended, _, _, rfl, ?_, ⟨_, rfl⟩, hW, hsame.mono (by decide) (by decide)⟩
              · show Steps p.tables e below (T24.setTop (mkF m 54 #[.val (.int p0)] [(.ref s_MARKET_TO_LIMIT)])) _
                jvm_step X24.here [X24.here.top, hx, (hb hby d2_54), X24.method', Bd.returns, Value.isRef, FieldType.isReference]
                first | (intro acts; rw [hr _ acts rfl rfl rfl]) | rw [hr _ _ rfl rfl rfl]
                exact Steps.refl _
              · show Q2 Z p0 s_LIMIT s_POST_ONLY s_IMMEDIATE_OR_CANCEL s_FILL_OR_KILL s_MARKET s_MARKET_TO_LIMIT h0 n0 _ T24.heap _
                rw [e24]
                exact ⟨(by first | (unfold own_f2; rw [if_neg hc2, if_neg hc6, if_neg hc10, if_neg hc14, if_neg hc18, if_pos hc22]; done) | simp only [own_f2, if_neg hc2, if_neg hc6, if_neg hc10, if_neg hc14, if_neg hc18, if_pos hc22] | simp [own_f2, if_neg hc2, if_neg hc6, if_neg hc10, if_neg hc14, if_neg hc18, if_pos hc22]), N0, rfl⟩
            · have pre25 : ∀ t, Steps p.tables e below (s₁.setTop (mkF m 56 #[.val (.int p0)] [.null])) t → P t := fun t k => pre21 t (by
                  show Steps p.tables e below (s₁.setTop (mkF m 48 #[.val (.int p0)] [(.int (6 : Int32)), (.int p0)])) _
                  refine XS.icmpYes X0.here hx rfl (pc0 := 48) (pc' := 55) rfl (hb hby d2_48) rfl (feq hc22).2 (by decide) (by decide) ?_
                  show Steps p.tables e below (s₁.setTop (mkF m 55 #[.val (.int p0)] [])) _
                  refine XS.aconstNull X0.here hx rfl (hb hby d2_55) ?_
                  exact k)
              obtain ⟨fs, hr, hrun, hended, hW, hsame⟩ := X0.leave (v := some .null) (fun h => by rw [Bd.returns] at h; cases h)
              refine ⟨_, _, fin _ (pre25 _ ?_), hrun, hended, _, _, rfl, ?_, ⟨_, rfl⟩, hW, hsame.mono (by decide) (by decide)⟩
              · show Steps p.tables e below (s₁.setTop (mkF m 56 #[.val (.int p0)] [.null])) _
                jvm_step X0.here [X0.here.top, hx, (hb hby d2_56), X0.method', Bd.returns, Value.isRef, FieldType.isReference]
                first | (intro acts; rw [hr _ acts rfl rfl rfl]) | rw [hr _ _ rfl rfl rfl]
                exact Steps.refl _
              · show Q2 Z p0 s_LIMIT s_POST_ONLY s_IMMEDIATE_OR_CANCEL s_FILL_OR_KILL s_MARKET s_MARKET_TO_LIMIT h0 n0 _ s₁.heap _
                rw [e0]
                exact ⟨(by first | (unfold own_f2; rw [if_neg hc2, if_neg hc6, if_neg hc10, if_neg hc14, if_neg hc18, if_neg hc22]; done) | simp only [own_f2, if_neg hc2, if_neg hc6, if_neg hc10, if_neg hc14, if_neg hc18, if_neg hc22] | simp [own_f2, if_neg hc2, if_neg hc6, if_neg hc10, if_neg hc14, if_neg hc18, if_neg hc22]), N0, rfl⟩
theorem own_pd0 : parseMethodDescriptor "(I)Lcom/example/fairmark/fairmark/OrderType;" = some ⟨[.int], some (.object "com/example/fairmark/fairmark/OrderType")⟩ := by decide +kernel
theorem pn_0 : plainName "com/example/fairmark/fairmark/OrderTypeOfPinLaw" = true := by first | (simp [plainName, overriddenIn]; done) | decide +kernel
theorem ef_0 (m : MethodId) (p0 : Int32) (p1 : Int32) : entryFrame m #[(.int p0), (.int p1)] maxLocals = mkF m 0 #[.val (.int p0), .val (.int p1), .unset, .unset, .unset] [] := by first | (simp [entryFrame, mkF, argsToLocals, Value.category, maxLocals]; done) | rfl
def own_f0 (p0 : Int32) (p1 : Int32) : Int32 := (1 : Int32)
def Q0 (Z : State) (p0 : Int32) (p1 : Int32) (s_ALL : Addr) (k_ALL : ClassId) (s_LIMIT : Addr) (s_POST_ONLY : Addr) (s_IMMEDIATE_OR_CANCEL : Addr) (s_FILL_OR_KILL : Addr) (s_MARKET : Addr) (s_MARKET_TO_LIMIT : Addr) (h0 : Heap) (n0 : Nat) (v : Option Value) (h : Heap) (L : List Loc) : Prop := v = some (.int (own_f0 p0 p1)) ∧ Fr n0 L
set_option maxRecDepth 65536 in
set_option maxHeartbeats 40000000 in
theorem rm0 (l : Launch) (Z : State) (a0 : Array Value) (hw : ∀ d ∈ tables_1, d.before a0 Z = true) (ws : List Jvm.Cond) (p0 : Int32) (p1 : Int32) (s_ALL : Addr) (k_ALL : ClassId) (s_LIMIT : Addr) (s_POST_ONLY : Addr) (s_IMMEDIATE_OR_CANCEL : Addr) (s_FILL_OR_KILL : Addr) (s_MARKET : Addr) (s_MARKET_TO_LIMIT : Addr) (h0 : Heap) (n0 : Nat) (Z0 : n0 ≤ h0.size) (S_ALL : Sta Z h0 "com/example/fairmark/fairmark/OrderType" "ALL" "[Lcom/example/fairmark/fairmark/OrderType;" (.ref s_ALL)) (V_ALL : Arv Z h0 s_ALL k_ALL (.object "com/example/fairmark/fairmark/OrderType") (6 : Int32) [(.ref s_LIMIT), (.ref s_POST_ONLY), (.ref s_IMMEDIATE_OR_CANCEL), (.ref s_FILL_OR_KILL), (.ref s_MARKET), (.ref s_MARKET_TO_LIMIT)] .null) (F_1 : Fld Z h0 s_LIMIT "com/example/fairmark/fairmark/OrderType" "code" "I" (.int (1 : Int32))) (F_2 : Fld Z h0 s_POST_ONLY "com/example/fairmark/fairmark/OrderType" "code" "I" (.int (2 : Int32))) (F_3 : Fld Z h0 s_IMMEDIATE_OR_CANCEL "com/example/fairmark/fairmark/OrderType" "code" "I" (.int (3 : Int32))) (F_4 : Fld Z h0 s_FILL_OR_KILL "com/example/fairmark/fairmark/OrderType" "code" "I" (.int (4 : Int32))) (F_5 : Fld Z h0 s_MARKET "com/example/fairmark/fairmark/OrderType" "code" "I" (.int (5 : Int32))) (F_6 : Fld Z h0 s_MARKET_TO_LIMIT "com/example/fairmark/fairmark/OrderType" "code" "I" (.int (6 : Int32))) (S_LIMIT : Sta Z h0 "com/example/fairmark/fairmark/OrderType" "LIMIT" "Lcom/example/fairmark/fairmark/OrderType;" (.ref s_LIMIT)) (S_POST_ONLY : Sta Z h0 "com/example/fairmark/fairmark/OrderType" "POST_ONLY" "Lcom/example/fairmark/fairmark/OrderType;" (.ref s_POST_ONLY)) (S_IMMEDIATE_OR_CANCEL : Sta Z h0 "com/example/fairmark/fairmark/OrderType" "IMMEDIATE_OR_CANCEL" "Lcom/example/fairmark/fairmark/OrderType;" (.ref s_IMMEDIATE_OR_CANCEL)) (S_FILL_OR_KILL : Sta Z h0 "com/example/fairmark/fairmark/OrderType" "FILL_OR_KILL" "Lcom/example/fairmark/fairmark/OrderType;" (.ref s_FILL_OR_KILL)) (S_MARKET : Sta Z h0 "com/example/fairmark/fairmark/OrderType" "MARKET" "Lcom/example/fairmark/fairmark/OrderType;" (.ref s_MARKET)) (S_MARKET_TO_LIMIT : Sta Z h0 "com/example/fairmark/fairmark/OrderType" "MARKET_TO_LIMIT" "Lcom/example/fairmark/fairmark/OrderType;" (.ref s_MARKET_TO_LIMIT)) :
    MetFree l x (head1 (Jvm.Cond.code x code maxLocals ret :: ws) room_1) (fun a U => a = #[(.int p0), (.int p1)] ∧ Z.Warmed39 U.vm ∧ U.heap = h0) (fun _ _ _ _ _ => True) (fun _ U o U' => ∃ v L, o = .returned v ∧ Q0 Z p0 p1 s_ALL k_ALL s_LIMIT s_POST_ONLY s_IMMEDIATE_OR_CANCEL s_FILL_OR_KILL s_MARKET s_MARKET_TO_LIMIT h0 n0 v U'.heap L ∧ FrameEnd U o U' L room_1.cells room_1.slots) := by
  refine MetFree.of_bodySF (plainFor_of_name pn_0) hisR ?_
  intro p e s m args below meth c s₁ Bd hml0 hP hK
  obtain ⟨rfl, hZ, hh⟩ := hP
  have hx := Bd.exec
  have hby := Bd.bytes
  have hml : c.maxLocals = 5 := hml0
  have hown : s.vm.findClass "com/example/fairmark/fairmark/OrderTypeOfPinLaw" = some m.cls := findClass_of_methodNamed Bd.named
  have hnm := (name_of_methodNamed Bd.named Bd.method).1
  have X0 : Stand p l e room_1 s m #[(.int p0), (.int p1)] below meth c s₁ [] 0 0 := Stand.of_body Bd
  have e0 : s₁.heap = h0 := by rw [← hh, Bd.state]; rfl
  have N0 := Fr.nil n0
  obtain ⟨P, pre0, fin⟩ : ∃ P : State → Prop, (∀ t, Steps p.tables e below (s₁.setTop (mkF m 0 #[.val (.int p0), .val (.int p1), .unset, .unset, .unset] [])) t → P t) ∧ (∀ t, P t → Steps p.tables e below (s₁.setTop (entryFrame m #[(.int p0), (.int p1)] maxLocals)) t) := ⟨fun t => Steps p.tables e below (s₁.setTop (entryFrame m #[(.int p0), (.int p1)] maxLocals)) t, fun t k => castTop (ef_0 m p0 p1) k, fun t k => k⟩
  have K0 : Keep h0 h0 [] := Keep.refl _ _
  have pre1 : ∀ t, Steps p.tables e below (s₁.setTop (mkF m 3 #[.val (.int p0), .val (.int p1), .unset, .unset, .unset] [(.int (p1 &&& (1 : Int32)))])) t → P t := fun t k => pre0 t (by
      show Steps p.tables e below (s₁.setTop (mkF m 0 #[.val (.int p0), .val (.int p1), .unset, .unset, .unset] [])) _
      refine XS.iloadN X0.here hx rfl (hb hby at_0) rfl ?_
      show Steps p.tables e below (s₁.setTop (mkF m 1 #[.val (.int p0), .val (.int p1), .unset, .unset, .unset] [(.int p1)])) _
      refine XS.iconst X0.here hx rfl (hb hby at_1) ?_
      show Steps p.tables e below (s₁.setTop (mkF m 2 #[.val (.int p0), .val (.int p1), .unset, .unset, .unset] [(.int (1 : Int32)), (.int p1)])) _
      refine XS.iand X0.here hx rfl (hb hby at_2) rfl ?_
      exact k)
  obtain ⟨T6, L6, v5, X6, e6, N6, hv5, pre6⟩ : ∃ (T' : State) (L' : List Loc) (v5 : Int32), Stand p l e room_1 s m #[(.int p0), (.int p1)] below meth c T' L' 0 0 ∧ T'.heap = h0 ∧ Fr n0 L' ∧ v5 = (if (p1 &&& (1 : Int32)) = (0 : Int32) then (p0 &&& (7 : Int32)) else p0) ∧ (∀ t, Steps p.tables e below (T'.setTop (mkF m 14 #[.val (.int p0), .val (.int p1), .unset, .unset, .unset] [(.int v5)])) t → P t) := by
    by_cases hc2 : (p1 &&& (1 : Int32)) = (0 : Int32)
    · have pre3 : ∀ t, Steps p.tables e below (s₁.setTop (mkF m 14 #[.val (.int p0), .val (.int p1), .unset, .unset, .unset] [(.int (p0 &&& (7 : Int32)))])) t → P t := fun t k => pre1 t (by
          show Steps p.tables e below (s₁.setTop (mkF m 3 #[.val (.int p0), .val (.int p1), .unset, .unset, .unset] [(.int (p1 &&& (1 : Int32)))])) _
          refine XS.ifYes X0.here hx rfl (pc0 := 3) (pc' := 10) rfl (hb hby at_3) rfl ((if0 _ _).trans (teq hc2).1) (by decide) (by decide) ?_
          show Steps p.tables e below (s₁.setTop (mkF m 10 #[.val (.int p0), .val (.int p1), .unset, .unset, .unset] [])) _
          refine XS.iloadN X0.here hx rfl (hb hby at_10) rfl ?_
          show Steps p.tables e below (s₁.setTop (mkF m 11 #[.val (.int p0), .val (.int p1), .unset, .unset, .unset] [(.int p0)])) _
          refine XS.bipush X0.here hx rfl (hb hby at_11) ?_
          show Steps p.tables e below (s₁.setTop (mkF m 13 #[.val (.int p0), .val (.int p1), .unset, .unset, .unset] [(.int (7 : Int32)), (.int p0)])) _
          refine XS.iand X0.here hx rfl (hb hby at_13) rfl ?_
          exact k)
      exact ⟨_, _, (p0 &&& (7 : Int32)), X0, e0, N0, (by first | (rw [if_pos hc2]; done) | simp only [if_pos hc2] | simp [if_pos hc2]), pre3⟩
    · have pre4 : ∀ t, Steps p.tables e below (s₁.setTop (mkF m 14 #[.val (.int p0), .val (.int p1), .unset, .unset, .unset] [(.int p0)])) t → P t := fun t k => pre1 t (by
          show Steps p.tables e below (s₁.setTop (mkF m 3 #[.val (.int p0), .val (.int p1), .unset, .unset, .unset] [(.int (p1 &&& (1 : Int32)))])) _
          refine XS.ifNo X0.here hx rfl (hb hby at_3) rfl ((if0 _ _).trans (feq hc2).1) ?_
          show Steps p.tables e below (s₁.setTop (mkF m 6 #[.val (.int p0), .val (.int p1), .unset, .unset, .unset] [])) _
          refine XS.iloadN X0.here hx rfl (hb hby at_6) rfl ?_
          show Steps p.tables e below (s₁.setTop (mkF m 7 #[.val (.int p0), .val (.int p1), .unset, .unset, .unset] [(.int p0)])) _
          refine XS.goto X0.here hx rfl (pc0 := 7) (pc' := 14) rfl (hb hby at_7) (by decide) (by decide) ?_
          exact k)
      exact ⟨_, _, p0, X0, e0, N0, (by first | (rw [if_neg hc2]; done) | simp only [if_neg hc2] | simp [if_neg hc2]), pre4⟩
  have pre7 : ∀ t, Steps p.tables e below (T6.setTop (mkF m 16 #[.val (.int p0), .val (.int p1), .val (.int v5), .unset, .unset] [(.int v5)])) t → P t := fun t k => pre6 t (by
      show Steps p.tables e below (T6.setTop (mkF m 14 #[.val (.int p0), .val (.int p1), .unset, .unset, .unset] [(.int v5)])) _
      refine XS.istoreN X6.here hx rfl (hb hby at_14) rfl (l' := #[.val (.int p0), .val (.int p1), .val (.int v5), .unset, .unset]) rfl ?_
      show Steps p.tables e below (T6.setTop (mkF m 15 #[.val (.int p0), .val (.int p1), .val (.int v5), .unset, .unset] [])) _
      refine XS.iloadN X6.here hx rfl (hb hby at_15) rfl ?_
      exact k)
  by_cases hc8 : v5 = (1 : Int32)
  · obtain ⟨_, _, ⟨T9, L9, k9, n9⟩, -, X9, ⟨Lc9, hQ9, l9, y9, z9⟩, st9⟩ := Jvm.LawKit.callS X6 hx (y := (⟨"com/example/fairmark/fairmark/OrderType", "of", "(I)Lcom/example/fairmark/fairmark/OrderType;"⟩ : MethodName)) hown (mvT hZ (hw _ (List.mem_of_getElem? (i := 0) rfl))) (mvT hZ (hw _ (List.mem_of_getElem? (i := 1) rfl))) (mvT hZ (hw _ (List.mem_of_getElem? (i := 2) rfl))) (mvT hZ (hw _ (List.mem_of_getElem? (i := 3) rfl))) (by decide) (backOf (W := 0) (rm1 l Z a0 hw [] v5 s_ALL k_ALL s_LIMIT s_POST_ONLY s_IMMEDIATE_OR_CANCEL s_FILL_OR_KILL s_MARKET s_MARKET_TO_LIMIT h0 n0 Z0 S_ALL V_ALL F_1 F_2 F_3 F_4 F_5 F_6) hZ (hw _ (List.mem_of_getElem? (i := 3) rfl)) (hw _ (List.mem_of_getElem? (i := 2) rfl)) (by decide) (by decide)) (g := (mkF m 16 #[.val (.int p0), .val (.int p1), .val (.int v5), .unset, .unset] [(.int v5)])) rfl (by rw [hml]; rfl) (argsL := [(.int v5)]) (rest := []) (lenOf own_pd0 rfl) rfl (by show 2 * 0 + _ ≤ _; exact Nat.le_of_eq rfl) (hb hby at_16) (fun _ _ => ⟨rfl, e6, (by decide : 0 + 0 ≤ _), (by decide : 0 + 0 ≤ _)⟩)
    dsimp only [Pt.U, Pt.locs, Pt.cells, Pt.slots] at X9 l9 y9 z9 st9 hQ9
    subst l9 y9 z9
    obtain ⟨rfl, N9q, e9⟩ := hQ9
    have N9 := Fr.app N6 N9q
    have pre9 : ∀ t, Steps p.tables e below (T9.setTop (mkF m 19 #[.val (.int p0), .val (.int p1), .val (.int v5), .unset, .unset] [(own_f1 v5 s_LIMIT s_POST_ONLY s_IMMEDIATE_OR_CANCEL s_FILL_OR_KILL s_MARKET s_MARKET_TO_LIMIT)])) t → P t := fun t k => pre7 t (st9 _ k)
    have hval10 : (own_f1 v5 s_LIMIT s_POST_ONLY s_IMMEDIATE_OR_CANCEL s_FILL_OR_KILL s_MARKET s_MARKET_TO_LIMIT) = (.ref s_LIMIT) := by
      rw [hc8]
      simp [own_f1]
    have pre11 : ∀ t, Steps p.tables e below (T9.setTop (mkF m 19 #[.val (.int p0), .val (.int p1), .val (.int v5), .unset, .unset] [(.ref s_LIMIT)])) t → P t := fun t k => pre9 t (by rw [hval10]; exact k)
    have pre12 : ∀ t, Steps p.tables e below (T9.setTop (mkF m 21 #[.val (.int p0), .val (.int p1), .val (.int v5), .val (.ref s_LIMIT), .unset] [(.int v5)])) t → P t := fun t k => pre11 t (by
        show Steps p.tables e below (T9.setTop (mkF m 19 #[.val (.int p0), .val (.int p1), .val (.int v5), .unset, .unset] [(.ref s_LIMIT)])) _
        refine XS.astoreN X9.here hx rfl (hb hby at_19) rfl rfl (l' := #[.val (.int p0), .val (.int p1), .val (.int v5), .val (.ref s_LIMIT), .unset]) rfl ?_
        show Steps p.tables e below (T9.setTop (mkF m 20 #[.val (.int p0), .val (.int p1), .val (.int v5), .val (.ref s_LIMIT), .unset] [])) _
        refine XS.iloadN X9.here hx rfl (hb hby at_20) rfl ?_
        exact k)
    obtain ⟨_, _, ⟨T13, L13, k13, n13⟩, -, X13, ⟨Lc13, hQ13, l13, y13, z13⟩, st13⟩ := Jvm.LawKit.callS X9 hx (y := (⟨"com/example/fairmark/fairmark/OrderTypeOfPinLaw", "expected", "(I)Lcom/example/fairmark/fairmark/OrderType;"⟩ : MethodName)) hown (mvT hZ (hw _ (List.mem_of_getElem? (i := 14) rfl))) (mvT hZ (hw _ (List.mem_of_getElem? (i := 15) rfl))) (mvT hZ (hw _ (List.mem_of_getElem? (i := 16) rfl))) (mvT hZ (hw _ (List.mem_of_getElem? (i := 17) rfl))) (by decide) (backOf (W := 0) (rm2 l Z a0 hw [] v5 s_LIMIT s_POST_ONLY s_IMMEDIATE_OR_CANCEL s_FILL_OR_KILL s_MARKET s_MARKET_TO_LIMIT h0 n0 Z0 S_LIMIT S_POST_ONLY S_IMMEDIATE_OR_CANCEL S_FILL_OR_KILL S_MARKET S_MARKET_TO_LIMIT) hZ (hw _ (List.mem_of_getElem? (i := 17) rfl)) (hw _ (List.mem_of_getElem? (i := 16) rfl)) (by decide) (by decide)) (g := (mkF m 21 #[.val (.int p0), .val (.int p1), .val (.int v5), .val (.ref s_LIMIT), .unset] [(.int v5)])) rfl (by rw [hml]; rfl) (argsL := [(.int v5)]) (rest := []) (lenOf own_pd0 rfl) rfl (by show 2 * 0 + _ ≤ _; exact Nat.le_of_eq rfl) (hb hby at_21) (fun _ _ => ⟨rfl, e9, (by decide : 0 + 0 ≤ _), (by decide : 0 + 0 ≤ _)⟩)
    dsimp only [Pt.U, Pt.locs, Pt.cells, Pt.slots] at X13 l13 y13 z13 st13 hQ13
    subst l13 y13 z13
    obtain ⟨rfl, N13q, e13⟩ := hQ13
    have N13 := Fr.app N9 N13q
    have pre13 : ∀ t, Steps p.tables e below (T13.setTop (mkF m 24 #[.val (.int p0), .val (.int p1), .val (.int v5), .val (.ref s_LIMIT), .unset] [(own_f2 v5 s_LIMIT s_POST_ONLY s_IMMEDIATE_OR_CANCEL s_FILL_OR_KILL s_MARKET s_MARKET_TO_LIMIT)])) t → P t := fun t k => pre12 t (st13 _ k)
    have hval14 : (own_f2 v5 s_LIMIT s_POST_ONLY s_IMMEDIATE_OR_CANCEL s_FILL_OR_KILL s_MARKET s_MARKET_TO_LIMIT) = (.ref s_LIMIT) := by
      rw [hc8]
      simp [own_f2]
    have pre15 : ∀ t, Steps p.tables e below (T13.setTop (mkF m 24 #[.val (.int p0), .val (.int p1), .val (.int v5), .val (.ref s_LIMIT), .unset] [(.ref s_LIMIT)])) t → P t := fun t k => pre13 t (by rw [hval14]; exact k)
    have pre16 : ∀ t, Steps p.tables e below (T13.setTop (mkF m 39 #[.val (.int p0), .val (.int p1), .val (.int v5), .val (.ref s_LIMIT), .val (.ref s_LIMIT)] [(.ref s_LIMIT)])) t → P t := fun t k => pre15 t (by
        show Steps p.tables e below (T13.setTop (mkF m 24 #[.val (.int p0), .val (.int p1), .val (.int v5), .val (.ref s_LIMIT), .unset] [(.ref s_LIMIT)])) _
        refine XS.astore X13.here hx rfl (hb hby at_24) rfl rfl (l' := #[.val (.int p0), .val (.int p1), .val (.int v5), .val (.ref s_LIMIT), .val (.ref s_LIMIT)]) rfl ?_
        show Steps p.tables e below (T13.setTop (mkF m 26 #[.val (.int p0), .val (.int p1), .val (.int v5), .val (.ref s_LIMIT), .val (.ref s_LIMIT)] [])) _
        refine XS.aloadN X13.here hx rfl (hb hby at_26) rfl rfl ?_
        show Steps p.tables e below (T13.setTop (mkF m 27 #[.val (.int p0), .val (.int p1), .val (.int v5), .val (.ref s_LIMIT), .val (.ref s_LIMIT)] [(.ref s_LIMIT)])) _
        refine XS.aload X13.here hx rfl (hb hby at_27) rfl rfl ?_
        show Steps p.tables e below (T13.setTop (mkF m 29 #[.val (.int p0), .val (.int p1), .val (.int v5), .val (.ref s_LIMIT), .val (.ref s_LIMIT)] [(.ref s_LIMIT), (.ref s_LIMIT)])) _
        refine Jvm.RoadKit.acmp (g := (mkF m 29 #[.val (.int p0), .val (.int p1), .val (.int v5), .val (.ref s_LIMIT), .val (.ref s_LIMIT)] [(.ref s_LIMIT), (.ref s_LIMIT)])) X13 hx rfl rfl rfl (pc0 := 29) (pc' := 34) (same := true) rfl (hb hby at_29) rfl (decide_eq_true rfl) (by decide) (by decide) ?_
        show Steps p.tables e below (T13.setTop (mkF m 34 #[.val (.int p0), .val (.int p1), .val (.int v5), .val (.ref s_LIMIT), .val (.ref s_LIMIT)] [])) _
        refine XS.aloadN X13.here hx rfl (hb hby at_34) rfl rfl ?_
        show Steps p.tables e below (T13.setTop (mkF m 35 #[.val (.int p0), .val (.int p1), .val (.int v5), .val (.ref s_LIMIT), .val (.ref s_LIMIT)] [(.ref s_LIMIT)])) _
        refine XS.ifnullNo X13.here hx rfl (hb hby at_35) rfl ?_
        show Steps p.tables e below (T13.setTop (mkF m 38 #[.val (.int p0), .val (.int p1), .val (.int v5), .val (.ref s_LIMIT), .val (.ref s_LIMIT)] [])) _
        refine XS.aloadN X13.here hx rfl (hb hby at_38) rfl rfl ?_
        exact k)
    obtain ⟨T17, X17, e17, st17⟩ := getF X13 hx hZ hown (host := "") (Or.inl (hw _ (List.mem_of_getElem? (i := 19) rfl))) Via.refl e13 F_1 (g := (mkF m 39 #[.val (.int p0), .val (.int p1), .val (.int v5), .val (.ref s_LIMIT), .val (.ref s_LIMIT)] [(.ref s_LIMIT)])) rfl rfl (hb hby at_39)
    have pre17 : ∀ t, Steps p.tables e below (T17.setTop (mkF m 42 #[.val (.int p0), .val (.int p1), .val (.int v5), .val (.ref s_LIMIT), .val (.ref s_LIMIT)] [(.int (1 : Int32))])) t → P t := fun t k => pre16 t (st17 _ k)
    have pre18 : ∀ t, Steps p.tables e below (T17.setTop (mkF m 49 #[.val (.int p0), .val (.int p1), .val (.int v5), .val (.ref s_LIMIT), .val (.ref s_LIMIT)] [(.int (1 : Int32))])) t → P t := fun t k => pre17 t (by
        show Steps p.tables e below (T17.setTop (mkF m 42 #[.val (.int p0), .val (.int p1), .val (.int v5), .val (.ref s_LIMIT), .val (.ref s_LIMIT)] [(.int (1 : Int32))])) _
        refine XS.iloadN X17.here hx rfl (hb hby at_42) rfl ?_
        show Steps p.tables e below (T17.setTop (mkF m 43 #[.val (.int p0), .val (.int p1), .val (.int v5), .val (.ref s_LIMIT), .val (.ref s_LIMIT)] [(.int v5), (.int (1 : Int32))])) _
        refine XS.icmpYes X17.here hx rfl (pc0 := 43) (pc' := 48) rfl (hb hby at_43) rfl (teq (show (1 : Int32) = v5 from (hc8).symm)).1 (by decide) (by decide) ?_
        show Steps p.tables e below (T17.setTop (mkF m 48 #[.val (.int p0), .val (.int p1), .val (.int v5), .val (.ref s_LIMIT), .val (.ref s_LIMIT)] [])) _
        refine XS.iconst X17.here hx rfl (hb hby at_48) ?_
        exact k)
    obtain ⟨fs, hr, hrun, hended, hW, hsame⟩ := X17.leave (v := some (.int (1 : Int32))) (fun h => by rw [Bd.returns] at h; cases h)
    refine ⟨_, _, fin _ (pre18 _ ?_), hrun, hended, _, _, rfl, ?_, ⟨_, rfl⟩, hW, hsame.mono (by decide) (by decide)⟩
    · show Steps p.tables e below (T17.setTop (mkF m 49 #[.val (.int p0), .val (.int p1), .val (.int v5), .val (.ref s_LIMIT), .val (.ref s_LIMIT)] [(.int (1 : Int32))])) _
      exact retN X17 hx (t := .boolean) Bd.returns (by simp) (hb hby at_49) hr
    · show Q0 Z p0 p1 s_ALL k_ALL s_LIMIT s_POST_ONLY s_IMMEDIATE_OR_CANCEL s_FILL_OR_KILL s_MARKET s_MARKET_TO_LIMIT h0 n0 _ T17.heap _
      rw [e17]
      exact ⟨(by subst hv5; first | (unfold own_f0; rw [if_pos hc8]; done) | simp only [own_f0, if_pos hc8] | simp [own_f0, if_pos hc8]), N13⟩
  · by_cases hc19 : v5 = (2 : Int32)
    · obtain ⟨_, _, ⟨T20, L20, k20, n20⟩, -, X20, ⟨Lc20, hQ20, l20, y20, z20⟩, st20⟩ := Jvm.LawKit.callS X6 hx (y := (⟨"com/example/fairmark/fairmark/OrderType", "of", "(I)Lcom/example/fairmark/fairmark/OrderType;"⟩ : MethodName)) hown (mvT hZ (hw _ (List.mem_of_getElem? (i := 0) rfl))) (mvT hZ (hw _ (List.mem_of_getElem? (i := 1) rfl))) (mvT hZ (hw _ (List.mem_of_getElem? (i := 2) rfl))) (mvT hZ (hw _ (List.mem_of_getElem? (i := 3) rfl))) (by decide) (backOf (W := 0) (rm1 l Z a0 hw [] v5 s_ALL k_ALL s_LIMIT s_POST_ONLY s_IMMEDIATE_OR_CANCEL s_FILL_OR_KILL s_MARKET s_MARKET_TO_LIMIT h0 n0 Z0 S_ALL V_ALL F_1 F_2 F_3 F_4 F_5 F_6) hZ (hw _ (List.mem_of_getElem? (i := 3) rfl)) (hw _ (List.mem_of_getElem? (i := 2) rfl)) (by decide) (by decide)) (g := (mkF m 16 #[.val (.int p0), .val (.int p1), .val (.int v5), .unset, .unset] [(.int v5)])) rfl (by rw [hml]; rfl) (argsL := [(.int v5)]) (rest := []) (lenOf own_pd0 rfl) rfl (by show 2 * 0 + _ ≤ _; exact Nat.le_of_eq rfl) (hb hby at_16) (fun _ _ => ⟨rfl, e6, (by decide : 0 + 0 ≤ _), (by decide : 0 + 0 ≤ _)⟩)
      dsimp only [Pt.U, Pt.locs, Pt.cells, Pt.slots] at X20 l20 y20 z20 st20 hQ20
      subst l20 y20 z20
      obtain ⟨rfl, N20q, e20⟩ := hQ20
      have N20 := Fr.app N6 N20q
      have pre20 : ∀ t, Steps p.tables e below (T20.setTop (mkF m 19 #[.val (.int p0), .val (.int p1), .val (.int v5), .unset, .unset] [(own_f1 v5 s_LIMIT s_POST_ONLY s_IMMEDIATE_OR_CANCEL s_FILL_OR_KILL s_MARKET s_MARKET_TO_LIMIT)])) t → P t := fun t k => pre7 t (st20 _ k)
      have hval21 : (own_f1 v5 s_LIMIT s_POST_ONLY s_IMMEDIATE_OR_CANCEL s_FILL_OR_KILL s_MARKET s_MARKET_TO_LIMIT) = (.ref s_POST_ONLY) := by
        rw [hc19]
        simp [own_f1]
      have pre22 : ∀ t, Steps p.tables e below (T20.setTop (mkF m 19 #[.val (.int p0), .val (.int p1), .val (.int v5), .unset, .unset] [(.ref s_POST_ONLY)])) t → P t := fun t k => pre20 t (by rw [hval21]; exact k)
      have pre23 : ∀ t, Steps p.tables e below (T20.setTop (mkF m 21 #[.val (.int p0), .val (.int p1), .val (.int v5), .val (.ref s_POST_ONLY), .unset] [(.int v5)])) t → P t := fun t k => pre22 t (by
          show Steps p.tables e below (T20.setTop (mkF m 19 #[.val (.int p0), .val (.int p1), .val (.int v5), .unset, .unset] [(.ref s_POST_ONLY)])) _
          refine XS.astoreN X20.here hx rfl (hb hby at_19) rfl rfl (l' := #[.val (.int p0), .val (.int p1), .val (.int v5), .val (.ref s_POST_ONLY), .unset]) rfl ?_
          show Steps p.tables e below (T20.setTop (mkF m 20 #[.val (.int p0), .val (.int p1), .val (.int v5), .val (.ref s_POST_ONLY), .unset] [])) _
          refine XS.iloadN X20.here hx rfl (hb hby at_20) rfl ?_
          exact k)
      obtain ⟨_, _, ⟨T24, L24, k24, n24⟩, -, X24, ⟨Lc24, hQ24, l24, y24, z24⟩, st24⟩ := Jvm.LawKit.callS X20 hx (y := (⟨"com/example/fairmark/fairmark/OrderTypeOfPinLaw", "expected", "(I)Lcom/example/fairmark/fairmark/OrderType;"⟩ : MethodName)) hown (mvT hZ (hw _ (List.mem_of_getElem? (i := 14) rfl))) (mvT hZ (hw _ (List.mem_of_getElem? (i := 15) rfl))) (mvT hZ (hw _ (List.mem_of_getElem? (i := 16) rfl))) (mvT hZ (hw _ (List.mem_of_getElem? (i := 17) rfl))) (by decide) (backOf (W := 0) (rm2 l Z a0 hw [] v5 s_LIMIT s_POST_ONLY s_IMMEDIATE_OR_CANCEL s_FILL_OR_KILL s_MARKET s_MARKET_TO_LIMIT h0 n0 Z0 S_LIMIT S_POST_ONLY S_IMMEDIATE_OR_CANCEL S_FILL_OR_KILL S_MARKET S_MARKET_TO_LIMIT) hZ (hw _ (List.mem_of_getElem? (i := 17) rfl)) (hw _ (List.mem_of_getElem? (i := 16) rfl)) (by decide) (by decide)) (g := (mkF m 21 #[.val (.int p0), .val (.int p1), .val (.int v5), .val (.ref s_POST_ONLY), .unset] [(.int v5)])) rfl (by rw [hml]; rfl) (argsL := [(.int v5)]) (rest := []) (lenOf own_pd0 rfl) rfl (by show 2 * 0 + _ ≤ _; exact Nat.le_of_eq rfl) (hb hby at_21) (fun _ _ => ⟨rfl, e20, (by decide : 0 + 0 ≤ _), (by decide : 0 + 0 ≤ _)⟩)
      dsimp only [Pt.U, Pt.locs, Pt.cells, Pt.slots] at X24 l24 y24 z24 st24 hQ24
      subst l24 y24 z24
      obtain ⟨rfl, N24q, e24⟩ := hQ24
      have N24 := Fr.app N20 N24q
      have pre24 : ∀ t, Steps p.tables e below (T24.setTop (mkF m 24 #[.val (.int p0), .val (.int p1), .val (.int v5), .val (.ref s_POST_ONLY), .unset] [(own_f2 v5 s_LIMIT s_POST_ONLY s_IMMEDIATE_OR_CANCEL s_FILL_OR_KILL s_MARKET s_MARKET_TO_LIMIT)])) t → P t := fun t k => pre23 t (st24 _ k)
      have hval25 : (own_f2 v5 s_LIMIT s_POST_ONLY s_IMMEDIATE_OR_CANCEL s_FILL_OR_KILL s_MARKET s_MARKET_TO_LIMIT) = (.ref s_POST_ONLY) := by
        rw [hc19]
        simp [own_f2]
      have pre26 : ∀ t, Steps p.tables e below (T24.setTop (mkF m 24 #[.val (.int p0), .val (.int p1), .val (.int v5), .val (.ref s_POST_ONLY), .unset] [(.ref s_POST_ONLY)])) t → P t := fun t k => pre24 t (by rw [hval25]; exact k)
      have pre27 : ∀ t, Steps p.tables e below (T24.setTop (mkF m 39 #[.val (.int p0), .val (.int p1), .val (.int v5), .val (.ref s_POST_ONLY), .val (.ref s_POST_ONLY)] [(.ref s_POST_ONLY)])) t → P t := fun t k => pre26 t (by
          show Steps p.tables e below (T24.setTop (mkF m 24 #[.val (.int p0), .val (.int p1), .val (.int v5), .val (.ref s_POST_ONLY), .unset] [(.ref s_POST_ONLY)])) _
          refine XS.astore X24.here hx rfl (hb hby at_24) rfl rfl (l' := #[.val (.int p0), .val (.int p1), .val (.int v5), .val (.ref s_POST_ONLY), .val (.ref s_POST_ONLY)]) rfl ?_
          show Steps p.tables e below (T24.setTop (mkF m 26 #[.val (.int p0), .val (.int p1), .val (.int v5), .val (.ref s_POST_ONLY), .val (.ref s_POST_ONLY)] [])) _
          refine XS.aloadN X24.here hx rfl (hb hby at_26) rfl rfl ?_
          show Steps p.tables e below (T24.setTop (mkF m 27 #[.val (.int p0), .val (.int p1), .val (.int v5), .val (.ref s_POST_ONLY), .val (.ref s_POST_ONLY)] [(.ref s_POST_ONLY)])) _
          refine XS.aload X24.here hx rfl (hb hby at_27) rfl rfl ?_
          show Steps p.tables e below (T24.setTop (mkF m 29 #[.val (.int p0), .val (.int p1), .val (.int v5), .val (.ref s_POST_ONLY), .val (.ref s_POST_ONLY)] [(.ref s_POST_ONLY), (.ref s_POST_ONLY)])) _
          refine Jvm.RoadKit.acmp (g := (mkF m 29 #[.val (.int p0), .val (.int p1), .val (.int v5), .val (.ref s_POST_ONLY), .val (.ref s_POST_ONLY)] [(.ref s_POST_ONLY), (.ref s_POST_ONLY)])) X24 hx rfl rfl rfl (pc0 := 29) (pc' := 34) (same := true) rfl (hb hby at_29) rfl (decide_eq_true rfl) (by decide) (by decide) ?_
          show Steps p.tables e below (T24.setTop (mkF m 34 #[.val (.int p0), .val (.int p1), .val (.int v5), .val (.ref s_POST_ONLY), .val (.ref s_POST_ONLY)] [])) _
          refine XS.aloadN X24.here hx rfl (hb hby at_34) rfl rfl ?_
          show Steps p.tables e below (T24.setTop (mkF m 35 #[.val (.int p0), .val (.int p1), .val (.int v5), .val (.ref s_POST_ONLY), .val (.ref s_POST_ONLY)] [(.ref s_POST_ONLY)])) _
          refine XS.ifnullNo X24.here hx rfl (hb hby at_35) rfl ?_
          show Steps p.tables e below (T24.setTop (mkF m 38 #[.val (.int p0), .val (.int p1), .val (.int v5), .val (.ref s_POST_ONLY), .val (.ref s_POST_ONLY)] [])) _
          refine XS.aloadN X24.here hx rfl (hb hby at_38) rfl rfl ?_
          exact k)
      obtain ⟨T28, X28, e28, st28⟩ := getF X24 hx hZ hown (host := "") (Or.inl (hw _ (List.mem_of_getElem? (i := 19) rfl))) Via.refl e24 F_2 (g := (mkF m 39 #[.val (.int p0), .val (.int p1), .val (.int v5), .val (.ref s_POST_ONLY), .val (.ref s_POST_ONLY)] [(.ref s_POST_ONLY)])) rfl rfl (hb hby at_39)
      have pre28 : ∀ t, Steps p.tables e below (T28.setTop (mkF m 42 #[.val (.int p0), .val (.int p1), .val (.int v5), .val (.ref s_POST_ONLY), .val (.ref s_POST_ONLY)] [(.int (2 : Int32))])) t → P t := fun t k => pre27 t (st28 _ k)
      have pre29 : ∀ t, Steps p.tables e below (T28.setTop (mkF m 49 #[.val (.int p0), .val (.int p1), .val (.int v5), .val (.ref s_POST_ONLY), .val (.ref s_POST_ONLY)] [(.int (1 : Int32))])) t → P t := fun t k => pre28 t (by
          show Steps p.tables e below (T28.setTop (mkF m 42 #[.val (.int p0), .val (.int p1), .val (.int v5), .val (.ref s_POST_ONLY), .val (.ref s_POST_ONLY)] [(.int (2 : Int32))])) _
          refine XS.iloadN X28.here hx rfl (hb hby at_42) rfl ?_
          show Steps p.tables e below (T28.setTop (mkF m 43 #[.val (.int p0), .val (.int p1), .val (.int v5), .val (.ref s_POST_ONLY), .val (.ref s_POST_ONLY)] [(.int v5), (.int (2 : Int32))])) _
          refine XS.icmpYes X28.here hx rfl (pc0 := 43) (pc' := 48) rfl (hb hby at_43) rfl (teq (show (2 : Int32) = v5 from (hc19).symm)).1 (by decide) (by decide) ?_
          show Steps p.tables e below (T28.setTop (mkF m 48 #[.val (.int p0), .val (.int p1), .val (.int v5), .val (.ref s_POST_ONLY), .val (.ref s_POST_ONLY)] [])) _
          refine XS.iconst X28.here hx rfl (hb hby at_48) ?_
          exact k)
      obtain ⟨fs, hr, hrun, hended, hW, hsame⟩ := X28.leave (v := some (.int (1 : Int32))) (fun h => by rw [Bd.returns] at h; cases h)
      refine ⟨_, _, fin _ (pre29 _ ?_), hrun, hended, _, _, rfl, ?_, ⟨_, rfl⟩, hW, hsame.mono (by decide) (by decide)⟩
      · show Steps p.tables e below (T28.setTop (mkF m 49 #[.val (.int p0), .val (.int p1), .val (.int v5), .val (.ref s_POST_ONLY), .val (.ref s_POST_ONLY)] [(.int (1 : Int32))])) _
        exact retN X28 hx (t := .boolean) Bd.returns (by simp) (hb hby at_49) hr
      · show Q0 Z p0 p1 s_ALL k_ALL s_LIMIT s_POST_ONLY s_IMMEDIATE_OR_CANCEL s_FILL_OR_KILL s_MARKET s_MARKET_TO_LIMIT h0 n0 _ T28.heap _
        rw [e28]
        exact ⟨(by subst hv5; first | (unfold own_f0; rw [if_neg hc8, if_pos hc19]; done) | simp only [own_f0, if_neg hc8, if_pos hc19] | simp [own_f0, if_neg hc8, if_pos hc19]), N24⟩
    · by_cases hc30 : v5 = (3 : Int32)
      · obtain ⟨_, _, ⟨T31, L31, k31, n31⟩, -, X31, ⟨Lc31, hQ31, l31, y31, z31⟩, st31⟩ := Jvm.LawKit.callS X6 hx (y := (⟨"com/example/fairmark/fairmark/OrderType", "of", "(I)Lcom/example/fairmark/fairmark/OrderType;"⟩ : MethodName)) hown (mvT hZ (hw _ (List.mem_of_getElem? (i := 0) rfl))) (mvT hZ (hw _ (List.mem_of_getElem? (i := 1) rfl))) (mvT hZ (hw _ (List.mem_of_getElem? (i := 2) rfl))) (mvT hZ (hw _ (List.mem_of_getElem? (i := 3) rfl))) (by decide) (backOf (W := 0) (rm1 l Z a0 hw [] v5 s_ALL k_ALL s_LIMIT s_POST_ONLY s_IMMEDIATE_OR_CANCEL s_FILL_OR_KILL s_MARKET s_MARKET_TO_LIMIT h0 n0 Z0 S_ALL V_ALL F_1 F_2 F_3 F_4 F_5 F_6) hZ (hw _ (List.mem_of_getElem? (i := 3) rfl)) (hw _ (List.mem_of_getElem? (i := 2) rfl)) (by decide) (by decide)) (g := (mkF m 16 #[.val (.int p0), .val (.int p1), .val (.int v5), .unset, .unset] [(.int v5)])) rfl (by rw [hml]; rfl) (argsL := [(.int v5)]) (rest := []) (lenOf own_pd0 rfl) rfl (by show 2 * 0 + _ ≤ _; exact Nat.le_of_eq rfl) (hb hby at_16) (fun _ _ => ⟨rfl, e6, (by decide : 0 + 0 ≤ _), (by decide : 0 + 0 ≤ _)⟩)
        dsimp only [Pt.U, Pt.locs, Pt.cells, Pt.slots] at X31 l31 y31 z31 st31 hQ31
        subst l31 y31 z31
        obtain ⟨rfl, N31q, e31⟩ := hQ31
        have N31 := Fr.app N6 N31q
        have pre31 : ∀ t, Steps p.tables e below (T31.setTop (mkF m 19 #[.val (.int p0), .val (.int p1), .val (.int v5), .unset, .unset] [(own_f1 v5 s_LIMIT s_POST_ONLY s_IMMEDIATE_OR_CANCEL s_FILL_OR_KILL s_MARKET s_MARKET_TO_LIMIT)])) t → P t := fun t k => pre7 t (st31 _ k)
        have hval32 : (own_f1 v5 s_LIMIT s_POST_ONLY s_IMMEDIATE_OR_CANCEL s_FILL_OR_KILL s_MARKET s_MARKET_TO_LIMIT) = (.ref s_IMMEDIATE_OR_CANCEL) := by
          rw [hc30]
          simp [own_f1]
        have pre33 : ∀ t, Steps p.tables e below (T31.setTop (mkF m 19 #[.val (.int p0), .val (.int p1), .val (.int v5), .unset, .unset] [(.ref s_IMMEDIATE_OR_CANCEL)])) t → P t := fun t k => pre31 t (by rw [hval32]; exact k)
        have pre34 : ∀ t, Steps p.tables e below (T31.setTop (mkF m 21 #[.val (.int p0), .val (.int p1), .val (.int v5), .val (.ref s_IMMEDIATE_OR_CANCEL), .unset] [(.int v5)])) t → P t := fun t k => pre33 t (by
            show Steps p.tables e below (T31.setTop (mkF m 19 #[.val (.int p0), .val (.int p1), .val (.int v5), .unset, .unset] [(.ref s_IMMEDIATE_OR_CANCEL)])) _
            refine XS.astoreN X31.here hx rfl (hb hby at_19) rfl rfl (l' := #[.val (.int p0), .val (.int p1), .val (.int v5), .val (.ref s_IMMEDIATE_OR_CANCEL), .unset]) rfl ?_
            show Steps p.tables e below (T31.setTop (mkF m 20 #[.val (.int p0), .val (.int p1), .val (.int v5), .val (.ref s_IMMEDIATE_OR_CANCEL), .unset] [])) _
            refine XS.iloadN X31.here hx rfl (hb hby at_20) rfl ?_
            exact k)
        obtain ⟨_, _, ⟨T35, L35, k35, n35⟩, -, X35, ⟨Lc35, hQ35, l35, y35, z35⟩, st35⟩ := Jvm.LawKit.callS X31 hx (y := (⟨"com/example/fairmark/fairmark/OrderTypeOfPinLaw", "expected", "(I)Lcom/example/fairmark/fairmark/OrderType;"⟩ : MethodName)) hown (mvT hZ (hw _ (List.mem_of_getElem? (i := 14) rfl))) (mvT hZ (hw _ (List.mem_of_getElem? (i := 15) rfl))) (mvT hZ (hw _ (List.mem_of_getElem? (i := 16) rfl))) (mvT hZ (hw _ (List.mem_of_getElem? (i := 17) rfl))) (by decide) (backOf (W := 0) (rm2 l Z a0 hw [] v5 s_LIMIT s_POST_ONLY s_IMMEDIATE_OR_CANCEL s_FILL_OR_KILL s_MARKET s_MARKET_TO_LIMIT h0 n0 Z0 S_LIMIT S_POST_ONLY S_IMMEDIATE_OR_CANCEL S_FILL_OR_KILL S_MARKET S_MARKET_TO_LIMIT) hZ (hw _ (List.mem_of_getElem? (i := 17) rfl)) (hw _ (List.mem_of_getElem? (i := 16) rfl)) (by decide) (by decide)) (g := (mkF m 21 #[.val (.int p0), .val (.int p1), .val (.int v5), .val (.ref s_IMMEDIATE_OR_CANCEL), .unset] [(.int v5)])) rfl (by rw [hml]; rfl) (argsL := [(.int v5)]) (rest := []) (lenOf own_pd0 rfl) rfl (by show 2 * 0 + _ ≤ _; exact Nat.le_of_eq rfl) (hb hby at_21) (fun _ _ => ⟨rfl, e31, (by decide : 0 + 0 ≤ _), (by decide : 0 + 0 ≤ _)⟩)
        dsimp only [Pt.U, Pt.locs, Pt.cells, Pt.slots] at X35 l35 y35 z35 st35 hQ35
        subst l35 y35 z35
        obtain ⟨rfl, N35q, e35⟩ := hQ35
        have N35 := Fr.app N31 N35q
        have pre35 : ∀ t, Steps p.tables e below (T35.setTop (mkF m 24 #[.val (.int p0), .val (.int p1), .val (.int v5), .val (.ref s_IMMEDIATE_OR_CANCEL), .unset] [(own_f2 v5 s_LIMIT s_POST_ONLY s_IMMEDIATE_OR_CANCEL s_FILL_OR_KILL s_MARKET s_MARKET_TO_LIMIT)])) t → P t := fun t k => pre34 t (st35 _ k)
        have hval36 : (own_f2 v5 s_LIMIT s_POST_ONLY s_IMMEDIATE_OR_CANCEL s_FILL_OR_KILL s_MARKET s_MARKET_TO_LIMIT) = (.ref s_IMMEDIATE_OR_CANCEL) := by
          rw [hc30]
          simp [own_f2]
        have pre37 : ∀ t, Steps p.tables e below (T35.setTop (mkF m 24 #[.val (.int p0), .val (.int p1), .val (.int v5), .val (.ref s_IMMEDIATE_OR_CANCEL), .unset] [(.ref s_IMMEDIATE_OR_CANCEL)])) t → P t := fun t k => pre35 t (by rw [hval36]; exact k)
        have pre38 : ∀ t, Steps p.tables e below (T35.setTop (mkF m 39 #[.val (.int p0), .val (.int p1), .val (.int v5), .val (.ref s_IMMEDIATE_OR_CANCEL), .val (.ref s_IMMEDIATE_OR_CANCEL)] [(.ref s_IMMEDIATE_OR_CANCEL)])) t → P t := fun t k => pre37 t (by
            show Steps p.tables e below (T35.setTop (mkF m 24 #[.val (.int p0), .val (.int p1), .val (.int v5), .val (.ref s_IMMEDIATE_OR_CANCEL), .unset] [(.ref s_IMMEDIATE_OR_CANCEL)])) _
            refine XS.astore X35.here hx rfl (hb hby at_24) rfl rfl (l' := #[.val (.int p0), .val (.int p1), .val (.int v5), .val (.ref s_IMMEDIATE_OR_CANCEL), .val (.ref s_IMMEDIATE_OR_CANCEL)]) rfl ?_
            show Steps p.tables e below (T35.setTop (mkF m 26 #[.val (.int p0), .val (.int p1), .val (.int v5), .val (.ref s_IMMEDIATE_OR_CANCEL), .val (.ref s_IMMEDIATE_OR_CANCEL)] [])) _
            refine XS.aloadN X35.here hx rfl (hb hby at_26) rfl rfl ?_
            show Steps p.tables e below (T35.setTop (mkF m 27 #[.val (.int p0), .val (.int p1), .val (.int v5), .val (.ref s_IMMEDIATE_OR_CANCEL), .val (.ref s_IMMEDIATE_OR_CANCEL)] [(.ref s_IMMEDIATE_OR_CANCEL)])) _
            refine XS.aload X35.here hx rfl (hb hby at_27) rfl rfl ?_
            show Steps p.tables e below (T35.setTop (mkF m 29 #[.val (.int p0), .val (.int p1), .val (.int v5), .val (.ref s_IMMEDIATE_OR_CANCEL), .val (.ref s_IMMEDIATE_OR_CANCEL)] [(.ref s_IMMEDIATE_OR_CANCEL), (.ref s_IMMEDIATE_OR_CANCEL)])) _
            refine Jvm.RoadKit.acmp (g := (mkF m 29 #[.val (.int p0), .val (.int p1), .val (.int v5), .val (.ref s_IMMEDIATE_OR_CANCEL), .val (.ref s_IMMEDIATE_OR_CANCEL)] [(.ref s_IMMEDIATE_OR_CANCEL), (.ref s_IMMEDIATE_OR_CANCEL)])) X35 hx rfl rfl rfl (pc0 := 29) (pc' := 34) (same := true) rfl (hb hby at_29) rfl (decide_eq_true rfl) (by decide) (by decide) ?_
            show Steps p.tables e below (T35.setTop (mkF m 34 #[.val (.int p0), .val (.int p1), .val (.int v5), .val (.ref s_IMMEDIATE_OR_CANCEL), .val (.ref s_IMMEDIATE_OR_CANCEL)] [])) _
            refine XS.aloadN X35.here hx rfl (hb hby at_34) rfl rfl ?_
            show Steps p.tables e below (T35.setTop (mkF m 35 #[.val (.int p0), .val (.int p1), .val (.int v5), .val (.ref s_IMMEDIATE_OR_CANCEL), .val (.ref s_IMMEDIATE_OR_CANCEL)] [(.ref s_IMMEDIATE_OR_CANCEL)])) _
            refine XS.ifnullNo X35.here hx rfl (hb hby at_35) rfl ?_
            show Steps p.tables e below (T35.setTop (mkF m 38 #[.val (.int p0), .val (.int p1), .val (.int v5), .val (.ref s_IMMEDIATE_OR_CANCEL), .val (.ref s_IMMEDIATE_OR_CANCEL)] [])) _
            refine XS.aloadN X35.here hx rfl (hb hby at_38) rfl rfl ?_
            exact k)
        obtain ⟨T39, X39, e39, st39⟩ := getF X35 hx hZ hown (host := "") (Or.inl (hw _ (List.mem_of_getElem? (i := 19) rfl))) Via.refl e35 F_3 (g := (mkF m 39 #[.val (.int p0), .val (.int p1), .val (.int v5), .val (.ref s_IMMEDIATE_OR_CANCEL), .val (.ref s_IMMEDIATE_OR_CANCEL)] [(.ref s_IMMEDIATE_OR_CANCEL)])) rfl rfl (hb hby at_39)
        have pre39 : ∀ t, Steps p.tables e below (T39.setTop (mkF m 42 #[.val (.int p0), .val (.int p1), .val (.int v5), .val (.ref s_IMMEDIATE_OR_CANCEL), .val (.ref s_IMMEDIATE_OR_CANCEL)] [(.int (3 : Int32))])) t → P t := fun t k => pre38 t (st39 _ k)
        have pre40 : ∀ t, Steps p.tables e below (T39.setTop (mkF m 49 #[.val (.int p0), .val (.int p1), .val (.int v5), .val (.ref s_IMMEDIATE_OR_CANCEL), .val (.ref s_IMMEDIATE_OR_CANCEL)] [(.int (1 : Int32))])) t → P t := fun t k => pre39 t (by
            show Steps p.tables e below (T39.setTop (mkF m 42 #[.val (.int p0), .val (.int p1), .val (.int v5), .val (.ref s_IMMEDIATE_OR_CANCEL), .val (.ref s_IMMEDIATE_OR_CANCEL)] [(.int (3 : Int32))])) _
            refine XS.iloadN X39.here hx rfl (hb hby at_42) rfl ?_
            show Steps p.tables e below (T39.setTop (mkF m 43 #[.val (.int p0), .val (.int p1), .val (.int v5), .val (.ref s_IMMEDIATE_OR_CANCEL), .val (.ref s_IMMEDIATE_OR_CANCEL)] [(.int v5), (.int (3 : Int32))])) _
            refine XS.icmpYes X39.here hx rfl (pc0 := 43) (pc' := 48) rfl (hb hby at_43) rfl (teq (show (3 : Int32) = v5 from (hc30).symm)).1 (by decide) (by decide) ?_
            show Steps p.tables e below (T39.setTop (mkF m 48 #[.val (.int p0), .val (.int p1), .val (.int v5), .val (.ref s_IMMEDIATE_OR_CANCEL), .val (.ref s_IMMEDIATE_OR_CANCEL)] [])) _
            refine XS.iconst X39.here hx rfl (hb hby at_48) ?_
            exact k)
        obtain ⟨fs, hr, hrun, hended, hW, hsame⟩ := X39.leave (v := some (.int (1 : Int32))) (fun h => by rw [Bd.returns] at h; cases h)
        refine ⟨_, _, fin _ (pre40 _ ?_), hrun, hended, _, _, rfl, ?_, ⟨_, rfl⟩, hW, hsame.mono (by decide) (by decide)⟩
        · show Steps p.tables e below (T39.setTop (mkF m 49 #[.val (.int p0), .val (.int p1), .val (.int v5), .val (.ref s_IMMEDIATE_OR_CANCEL), .val (.ref s_IMMEDIATE_OR_CANCEL)] [(.int (1 : Int32))])) _
          exact retN X39 hx (t := .boolean) Bd.returns (by simp) (hb hby at_49) hr
        · show Q0 Z p0 p1 s_ALL k_ALL s_LIMIT s_POST_ONLY s_IMMEDIATE_OR_CANCEL s_FILL_OR_KILL s_MARKET s_MARKET_TO_LIMIT h0 n0 _ T39.heap _
          rw [e39]
          exact ⟨(by subst hv5; first | (unfold own_f0; rw [if_neg hc8, if_neg hc19, if_pos hc30]; done) | simp only [own_f0, if_neg hc8, if_neg hc19, if_pos hc30] | simp [own_f0, if_neg hc8, if_neg hc19, if_pos hc30]), N35⟩
      · by_cases hc41 : v5 = (4 : Int32)
        · obtain ⟨_, _, ⟨T42, L42, k42, n42⟩, -, X42, ⟨Lc42, hQ42, l42, y42, z42⟩, st42⟩ := Jvm.LawKit.callS X6 hx (y := (⟨"com/example/fairmark/fairmark/OrderType", "of", "(I)Lcom/example/fairmark/fairmark/OrderType;"⟩ : MethodName)) hown (mvT hZ (hw _ (List.mem_of_getElem? (i := 0) rfl))) (mvT hZ (hw _ (List.mem_of_getElem? (i := 1) rfl))) (mvT hZ (hw _ (List.mem_of_getElem? (i := 2) rfl))) (mvT hZ (hw _ (List.mem_of_getElem? (i := 3) rfl))) (by decide) (backOf (W := 0) (rm1 l Z a0 hw [] v5 s_ALL k_ALL s_LIMIT s_POST_ONLY s_IMMEDIATE_OR_CANCEL s_FILL_OR_KILL s_MARKET s_MARKET_TO_LIMIT h0 n0 Z0 S_ALL V_ALL F_1 F_2 F_3 F_4 F_5 F_6) hZ (hw _ (List.mem_of_getElem? (i := 3) rfl)) (hw _ (List.mem_of_getElem? (i := 2) rfl)) (by decide) (by decide)) (g := (mkF m 16 #[.val (.int p0), .val (.int p1), .val (.int v5), .unset, .unset] [(.int v5)])) rfl (by rw [hml]; rfl) (argsL := [(.int v5)]) (rest := []) (lenOf own_pd0 rfl) rfl (by show 2 * 0 + _ ≤ _; exact Nat.le_of_eq rfl) (hb hby at_16) (fun _ _ => ⟨rfl, e6, (by decide : 0 + 0 ≤ _), (by decide : 0 + 0 ≤ _)⟩)
          dsimp only [Pt.U, Pt.locs, Pt.cells, Pt.slots] at X42 l42 y42 z42 st42 hQ42
          subst l42 y42 z42
          obtain ⟨rfl, N42q, e42⟩ := hQ42
          have N42 := Fr.app N6 N42q
          have pre42 : ∀ t, Steps p.tables e below (T42.setTop (mkF m 19 #[.val (.int p0), .val (.int p1), .val (.int v5), .unset, .unset] [(own_f1 v5 s_LIMIT s_POST_ONLY s_IMMEDIATE_OR_CANCEL s_FILL_OR_KILL s_MARKET s_MARKET_TO_LIMIT)])) t → P t := fun t k => pre7 t (st42 _ k)
          have hval43 : (own_f1 v5 s_LIMIT s_POST_ONLY s_IMMEDIATE_OR_CANCEL s_FILL_OR_KILL s_MARKET s_MARKET_TO_LIMIT) = (.ref s_FILL_OR_KILL) := by
            rw [hc41]
            simp [own_f1]
          have pre44 : ∀ t, Steps p.tables e below (T42.setTop (mkF m 19 #[.val (.int p0), .val (.int p1), .val (.int v5), .unset, .unset] [(.ref s_FILL_OR_KILL)])) t → P t := fun t k => pre42 t (by rw [hval43]; exact k)
          have pre45 : ∀ t, Steps p.tables e below (T42.setTop (mkF m 21 #[.val (.int p0), .val (.int p1), .val (.int v5), .val (.ref s_FILL_OR_KILL), .unset] [(.int v5)])) t → P t := fun t k => pre44 t (by
              show Steps p.tables e below (T42.setTop (mkF m 19 #[.val (.int p0), .val (.int p1), .val (.int v5), .unset, .unset] [(.ref s_FILL_OR_KILL)])) _
              refine XS.astoreN X42.here hx rfl (hb hby at_19) rfl rfl (l' := #[.val (.int p0), .val (.int p1), .val (.int v5), .val (.ref s_FILL_OR_KILL), .unset]) rfl ?_
              show Steps p.tables e below (T42.setTop (mkF m 20 #[.val (.int p0), .val (.int p1), .val (.int v5), .val (.ref s_FILL_OR_KILL), .unset] [])) _
              refine XS.iloadN X42.here hx rfl (hb hby at_20) rfl ?_
              exact k)
          obtain ⟨_, _, ⟨T46, L46, k46, n46⟩, -, X46, ⟨Lc46, hQ46, l46, y46, z46⟩, st46⟩ := Jvm.LawKit.callS X42 hx (y := (⟨"com/example/fairmark/fairmark/OrderTypeOfPinLaw", "expected", "(I)Lcom/example/fairmark/fairmark/OrderType;"⟩ : MethodName)) hown (mvT hZ (hw _ (List.mem_of_getElem? (i := 14) rfl))) (mvT hZ (hw _ (List.mem_of_getElem? (i := 15) rfl))) (mvT hZ (hw _ (List.mem_of_getElem? (i := 16) rfl))) (mvT hZ (hw _ (List.mem_of_getElem? (i := 17) rfl))) (by decide) (backOf (W := 0) (rm2 l Z a0 hw [] v5 s_LIMIT s_POST_ONLY s_IMMEDIATE_OR_CANCEL s_FILL_OR_KILL s_MARKET s_MARKET_TO_LIMIT h0 n0 Z0 S_LIMIT S_POST_ONLY S_IMMEDIATE_OR_CANCEL S_FILL_OR_KILL S_MARKET S_MARKET_TO_LIMIT) hZ (hw _ (List.mem_of_getElem? (i := 17) rfl)) (hw _ (List.mem_of_getElem? (i := 16) rfl)) (by decide) (by decide)) (g := (mkF m 21 #[.val (.int p0), .val (.int p1), .val (.int v5), .val (.ref s_FILL_OR_KILL), .unset] [(.int v5)])) rfl (by rw [hml]; rfl) (argsL := [(.int v5)]) (rest := []) (lenOf own_pd0 rfl) rfl (by show 2 * 0 + _ ≤ _; exact Nat.le_of_eq rfl) (hb hby at_21) (fun _ _ => ⟨rfl, e42, (by decide : 0 + 0 ≤ _), (by decide : 0 + 0 ≤ _)⟩)
          dsimp only [Pt.U, Pt.locs, Pt.cells, Pt.slots] at X46 l46 y46 z46 st46 hQ46
          subst l46 y46 z46
          obtain ⟨rfl, N46q, e46⟩ := hQ46
          have N46 := Fr.app N42 N46q
          have pre46 : ∀ t, Steps p.tables e below (T46.setTop (mkF m 24 #[.val (.int p0), .val (.int p1), .val (.int v5), .val (.ref s_FILL_OR_KILL), .unset] [(own_f2 v5 s_LIMIT s_POST_ONLY s_IMMEDIATE_OR_CANCEL s_FILL_OR_KILL s_MARKET s_MARKET_TO_LIMIT)])) t → P t := fun t k => pre45 t (st46 _ k)
          have hval47 : (own_f2 v5 s_LIMIT s_POST_ONLY s_IMMEDIATE_OR_CANCEL s_FILL_OR_KILL s_MARKET s_MARKET_TO_LIMIT) = (.ref s_FILL_OR_KILL) := by
            rw [hc41]
            simp [own_f2]
          have pre48 : ∀ t, Steps p.tables e below (T46.setTop (mkF m 24 #[.val (.int p0), .val (.int p1), .val (.int v5), .val (.ref s_FILL_OR_KILL), .unset] [(.ref s_FILL_OR_KILL)])) t → P t := fun t k => pre46 t (by rw [hval47]; exact k)
          have pre49 : ∀ t, Steps p.tables e below (T46.setTop (mkF m 39 #[.val (.int p0), .val (.int p1), .val (.int v5), .val (.ref s_FILL_OR_KILL), .val (.ref s_FILL_OR_KILL)] [(.ref s_FILL_OR_KILL)])) t → P t := fun t k => pre48 t (by
              show Steps p.tables e below (T46.setTop (mkF m 24 #[.val (.int p0), .val (.int p1), .val (.int v5), .val (.ref s_FILL_OR_KILL), .unset] [(.ref s_FILL_OR_KILL)])) _
              refine XS.astore X46.here hx rfl (hb hby at_24) rfl rfl (l' := #[.val (.int p0), .val (.int p1), .val (.int v5), .val (.ref s_FILL_OR_KILL), .val (.ref s_FILL_OR_KILL)]) rfl ?_
              show Steps p.tables e below (T46.setTop (mkF m 26 #[.val (.int p0), .val (.int p1), .val (.int v5), .val (.ref s_FILL_OR_KILL), .val (.ref s_FILL_OR_KILL)] [])) _
              refine XS.aloadN X46.here hx rfl (hb hby at_26) rfl rfl ?_
              show Steps p.tables e below (T46.setTop (mkF m 27 #[.val (.int p0), .val (.int p1), .val (.int v5), .val (.ref s_FILL_OR_KILL), .val (.ref s_FILL_OR_KILL)] [(.ref s_FILL_OR_KILL)])) _
              refine XS.aload X46.here hx rfl (hb hby at_27) rfl rfl ?_
              show Steps p.tables e below (T46.setTop (mkF m 29 #[.val (.int p0), .val (.int p1), .val (.int v5), .val (.ref s_FILL_OR_KILL), .val (.ref s_FILL_OR_KILL)] [(.ref s_FILL_OR_KILL), (.ref s_FILL_OR_KILL)])) _
              refine Jvm.RoadKit.acmp (g := (mkF m 29 #[.val (.int p0), .val (.int p1), .val (.int v5), .val (.ref s_FILL_OR_KILL), .val (.ref s_FILL_OR_KILL)] [(.ref s_FILL_OR_KILL), (.ref s_FILL_OR_KILL)])) X46 hx rfl rfl rfl (pc0 := 29) (pc' := 34) (same := true) rfl (hb hby at_29) rfl (decide_eq_true rfl) (by decide) (by decide) ?_
              show Steps p.tables e below (T46.setTop (mkF m 34 #[.val (.int p0), .val (.int p1), .val (.int v5), .val (.ref s_FILL_OR_KILL), .val (.ref s_FILL_OR_KILL)] [])) _
              refine XS.aloadN X46.here hx rfl (hb hby at_34) rfl rfl ?_
              show Steps p.tables e below (T46.setTop (mkF m 35 #[.val (.int p0), .val (.int p1), .val (.int v5), .val (.ref s_FILL_OR_KILL), .val (.ref s_FILL_OR_KILL)] [(.ref s_FILL_OR_KILL)])) _
              refine XS.ifnullNo X46.here hx rfl (hb hby at_35) rfl ?_
              show Steps p.tables e below (T46.setTop (mkF m 38 #[.val (.int p0), .val (.int p1), .val (.int v5), .val (.ref s_FILL_OR_KILL), .val (.ref s_FILL_OR_KILL)] [])) _
              refine XS.aloadN X46.here hx rfl (hb hby at_38) rfl rfl ?_
              exact k)
          obtain ⟨T50, X50, e50, st50⟩ := getF X46 hx hZ hown (host := "") (Or.inl (hw _ (List.mem_of_getElem? (i := 19) rfl))) Via.refl e46 F_4 (g := (mkF m 39 #[.val (.int p0), .val (.int p1), .val (.int v5), .val (.ref s_FILL_OR_KILL), .val (.ref s_FILL_OR_KILL)] [(.ref s_FILL_OR_KILL)])) rfl rfl (hb hby at_39)
          have pre50 : ∀ t, Steps p.tables e below (T50.setTop (mkF m 42 #[.val (.int p0), .val (.int p1), .val (.int v5), .val (.ref s_FILL_OR_KILL), .val (.ref s_FILL_OR_KILL)] [(.int (4 : Int32))])) t → P t := fun t k => pre49 t (st50 _ k)
          have pre51 : ∀ t, Steps p.tables e below (T50.setTop (mkF m 49 #[.val (.int p0), .val (.int p1), .val (.int v5), .val (.ref s_FILL_OR_KILL), .val (.ref s_FILL_OR_KILL)] [(.int (1 : Int32))])) t → P t := fun t k => pre50 t (by
              show Steps p.tables e below (T50.setTop (mkF m 42 #[.val (.int p0), .val (.int p1), .val (.int v5), .val (.ref s_FILL_OR_KILL), .val (.ref s_FILL_OR_KILL)] [(.int (4 : Int32))])) _
              refine XS.iloadN X50.here hx rfl (hb hby at_42) rfl ?_
              show Steps p.tables e below (T50.setTop (mkF m 43 #[.val (.int p0), .val (.int p1), .val (.int v5), .val (.ref s_FILL_OR_KILL), .val (.ref s_FILL_OR_KILL)] [(.int v5), (.int (4 : Int32))])) _
              refine XS.icmpYes X50.here hx rfl (pc0 := 43) (pc' := 48) rfl (hb hby at_43) rfl (teq (show (4 : Int32) = v5 from (hc41).symm)).1 (by decide) (by decide) ?_
              show Steps p.tables e below (T50.setTop (mkF m 48 #[.val (.int p0), .val (.int p1), .val (.int v5), .val (.ref s_FILL_OR_KILL), .val (.ref s_FILL_OR_KILL)] [])) _
              refine XS.iconst X50.here hx rfl (hb hby at_48) ?_
              exact k)
          obtain ⟨fs, hr, hrun, hended, hW, hsame⟩ := X50.leave (v := some (.int (1 : Int32))) (fun h => by rw [Bd.returns] at h; cases h)
          refine ⟨_, _, fin _ (pre51 _ ?_), hrun, hended, _, _, rfl, ?_, ⟨_, rfl⟩, hW, hsame.mono (by decide) (by decide)⟩
          · show Steps p.tables e below (T50.setTop (mkF m 49 #[.val (.int p0), .val (.int p1), .val (.int v5), .val (.ref s_FILL_OR_KILL), .val (.ref s_FILL_OR_KILL)] [(.int (1 : Int32))])) _
            exact retN X50 hx (t := .boolean) Bd.returns (by simp) (hb hby at_49) hr
          · show Q0 Z p0 p1 s_ALL k_ALL s_LIMIT s_POST_ONLY s_IMMEDIATE_OR_CANCEL s_FILL_OR_KILL s_MARKET s_MARKET_TO_LIMIT h0 n0 _ T50.heap _
            rw [e50]
            exact ⟨(by subst hv5; first | (unfold own_f0; rw [if_neg hc8, if_neg hc19, if_neg hc30, if_pos hc41]; done) | simp only [own_f0, if_neg hc8, if_neg hc19, if_neg hc30, if_pos hc41] | simp [own_f0, if_neg hc8, if_neg hc19, if_neg hc30, if_pos hc41]), N46⟩
        · by_cases hc52 : v5 = (5 : Int32)
          · obtain ⟨_, _, ⟨T53, L53, k53, n53⟩, -, X53, ⟨Lc53, hQ53, l53, y53, z53⟩, st53⟩ := Jvm.LawKit.callS X6 hx (y := (⟨"com/example/fairmark/fairmark/OrderType", "of", "(I)Lcom/example/fairmark/fairmark/OrderType;"⟩ : MethodName)) hown (mvT hZ (hw _ (List.mem_of_getElem? (i := 0) rfl))) (mvT hZ (hw _ (List.mem_of_getElem? (i := 1) rfl))) (mvT hZ (hw _ (List.mem_of_getElem? (i := 2) rfl))) (mvT hZ (hw _ (List.mem_of_getElem? (i := 3) rfl))) (by decide) (backOf (W := 0) (rm1 l Z a0 hw [] v5 s_ALL k_ALL s_LIMIT s_POST_ONLY s_IMMEDIATE_OR_CANCEL s_FILL_OR_KILL s_MARKET s_MARKET_TO_LIMIT h0 n0 Z0 S_ALL V_ALL F_1 F_2 F_3 F_4 F_5 F_6) hZ (hw _ (List.mem_of_getElem? (i := 3) rfl)) (hw _ (List.mem_of_getElem? (i := 2) rfl)) (by decide) (by decide)) (g := (mkF m 16 #[.val (.int p0), .val (.int p1), .val (.int v5), .unset, .unset] [(.int v5)])) rfl (by rw [hml]; rfl) (argsL := [(.int v5)]) (rest := []) (lenOf own_pd0 rfl) rfl (by show 2 * 0 + _ ≤ _; exact Nat.le_of_eq rfl) (hb hby at_16) (fun _ _ => ⟨rfl, e6, (by decide : 0 + 0 ≤ _), (by decide : 0 + 0 ≤ _)⟩)
            dsimp only [Pt.U, Pt.locs, Pt.cells, Pt.slots] at X53 l53 y53 z53 st53 hQ53
            subst l53 y53 z53
            obtain ⟨rfl, N53q, e53⟩ := hQ53
            have N53 := Fr.app N6 N53q
            have pre53 : ∀ t, Steps p.tables e below (T53.setTop (mkF m 19 #[.val (.int p0), .val (.int p1), .val (.int v5), .unset, .unset] [(own_f1 v5 s_LIMIT s_POST_ONLY s_IMMEDIATE_OR_CANCEL s_FILL_OR_KILL s_MARKET s_MARKET_TO_LIMIT)])) t → P t := fun t k => pre7 t (st53 _ k)
            have hval54 : (own_f1 v5 s_LIMIT s_POST_ONLY s_IMMEDIATE_OR_CANCEL s_FILL_OR_KILL s_MARKET s_MARKET_TO_LIMIT) = (.ref s_MARKET) := by
              rw [hc52]
              simp [own_f1]
            have pre55 : ∀ t, Steps p.tables e below (T53.setTop (mkF m 19 #[.val (.int p0), .val (.int p1), .val (.int v5), .unset, .unset] [(.ref s_MARKET)])) t → P t := fun t k => pre53 t (by rw [hval54]; exact k)
            have pre56 : ∀ t, Steps p.tables e below (T53.setTop (mkF m 21 #[.val (.int p0), .val (.int p1), .val (.int v5), .val (.ref s_MARKET), .unset] [(.int v5)])) t → P t := fun t k => pre55 t (by
                show Steps p.tables e below (T53.setTop (mkF m 19 #[.val (.int p0), .val (.int p1), .val (.int v5), .unset, .unset] [(.ref s_MARKET)])) _
                refine XS.astoreN X53.here hx rfl (hb hby at_19) rfl rfl (l' := #[.val (.int p0), .val (.int p1), .val (.int v5), .val (.ref s_MARKET), .unset]) rfl ?_
                show Steps p.tables e below (T53.setTop (mkF m 20 #[.val (.int p0), .val (.int p1), .val (.int v5), .val (.ref s_MARKET), .unset] [])) _
                refine XS.iloadN X53.here hx rfl (hb hby at_20) rfl ?_
                exact k)
            obtain ⟨_, _, ⟨T57, L57, k57, n57⟩, -, X57, ⟨Lc57, hQ57, l57, y57, z57⟩, st57⟩ := Jvm.LawKit.callS X53 hx (y := (⟨"com/example/fairmark/fairmark/OrderTypeOfPinLaw", "expected", "(I)Lcom/example/fairmark/fairmark/OrderType;"⟩ : MethodName)) hown (mvT hZ (hw _ (List.mem_of_getElem? (i := 14) rfl))) (mvT hZ (hw _ (List.mem_of_getElem? (i := 15) rfl))) (mvT hZ (hw _ (List.mem_of_getElem? (i := 16) rfl))) (mvT hZ (hw _ (List.mem_of_getElem? (i := 17) rfl))) (by decide) (backOf (W := 0) (rm2 l Z a0 hw [] v5 s_LIMIT s_POST_ONLY s_IMMEDIATE_OR_CANCEL s_FILL_OR_KILL s_MARKET s_MARKET_TO_LIMIT h0 n0 Z0 S_LIMIT S_POST_ONLY S_IMMEDIATE_OR_CANCEL S_FILL_OR_KILL S_MARKET S_MARKET_TO_LIMIT) hZ (hw _ (List.mem_of_getElem? (i := 17) rfl)) (hw _ (List.mem_of_getElem? (i := 16) rfl)) (by decide) (by decide)) (g := (mkF m 21 #[.val (.int p0), .val (.int p1), .val (.int v5), .val (.ref s_MARKET), .unset] [(.int v5)])) rfl (by rw [hml]; rfl) (argsL := [(.int v5)]) (rest := []) (lenOf own_pd0 rfl) rfl (by show 2 * 0 + _ ≤ _; exact Nat.le_of_eq rfl) (hb hby at_21) (fun _ _ => ⟨rfl, e53, (by decide : 0 + 0 ≤ _), (by decide : 0 + 0 ≤ _)⟩)
            dsimp only [Pt.U, Pt.locs, Pt.cells, Pt.slots] at X57 l57 y57 z57 st57 hQ57
            subst l57 y57 z57
            obtain ⟨rfl, N57q, e57⟩ := hQ57
            have N57 := Fr.app N53 N57q
            have pre57 : ∀ t, Steps p.tables e below (T57.setTop (mkF m 24 #[.val (.int p0), .val (.int p1), .val (.int v5), .val (.ref s_MARKET), .unset] [(own_f2 v5 s_LIMIT s_POST_ONLY s_IMMEDIATE_OR_CANCEL s_FILL_OR_KILL s_MARKET s_MARKET_TO_LIMIT)])) t → P t := fun t k => pre56 t (st57 _ k)
            have hval58 : (own_f2 v5 s_LIMIT s_POST_ONLY s_IMMEDIATE_OR_CANCEL s_FILL_OR_KILL s_MARKET s_MARKET_TO_LIMIT) = (.ref s_MARKET) := by
              rw [hc52]
              simp [own_f2]
            have pre59 : ∀ t, Steps p.tables e below (T57.setTop (mkF m 24 #[.val (.int p0), .val (.int p1), .val (.int v5), .val (.ref s_MARKET), .unset] [(.ref s_MARKET)])) t → P t := fun t k => pre57 t (by rw [hval58]; exact k)
            have pre60 : ∀ t, Steps p.tables e below (T57.setTop (mkF m 39 #[.val (.int p0), .val (.int p1), .val (.int v5), .val (.ref s_MARKET), .val (.ref s_MARKET)] [(.ref s_MARKET)])) t → P t := fun t k => pre59 t (by
                show Steps p.tables e below (T57.setTop (mkF m 24 #[.val (.int p0), .val (.int p1), .val (.int v5), .val (.ref s_MARKET), .unset] [(.ref s_MARKET)])) _
                refine XS.astore X57.here hx rfl (hb hby at_24) rfl rfl (l' := #[.val (.int p0), .val (.int p1), .val (.int v5), .val (.ref s_MARKET), .val (.ref s_MARKET)]) rfl ?_
                show Steps p.tables e below (T57.setTop (mkF m 26 #[.val (.int p0), .val (.int p1), .val (.int v5), .val (.ref s_MARKET), .val (.ref s_MARKET)] [])) _
                refine XS.aloadN X57.here hx rfl (hb hby at_26) rfl rfl ?_
                show Steps p.tables e below (T57.setTop (mkF m 27 #[.val (.int p0), .val (.int p1), .val (.int v5), .val (.ref s_MARKET), .val (.ref s_MARKET)] [(.ref s_MARKET)])) _
                refine XS.aload X57.here hx rfl (hb hby at_27) rfl rfl ?_
                show Steps p.tables e below (T57.setTop (mkF m 29 #[.val (.int p0), .val (.int p1), .val (.int v5), .val (.ref s_MARKET), .val (.ref s_MARKET)] [(.ref s_MARKET), (.ref s_MARKET)])) _
                refine Jvm.RoadKit.acmp (g := (mkF m 29 #[.val (.int p0), .val (.int p1), .val (.int v5), .val (.ref s_MARKET), .val (.ref s_MARKET)] [(.ref s_MARKET), (.ref s_MARKET)])) X57 hx rfl rfl rfl (pc0 := 29) (pc' := 34) (same := true) rfl (hb hby at_29) rfl (decide_eq_true rfl) (by decide) (by decide) ?_
                show Steps p.tables e below (T57.setTop (mkF m 34 #[.val (.int p0), .val (.int p1), .val (.int v5), .val (.ref s_MARKET), .val (.ref s_MARKET)] [])) _
                refine XS.aloadN X57.here hx rfl (hb hby at_34) rfl rfl ?_
                show Steps p.tables e below (T57.setTop (mkF m 35 #[.val (.int p0), .val (.int p1), .val (.int v5), .val (.ref s_MARKET), .val (.ref s_MARKET)] [(.ref s_MARKET)])) _
                refine XS.ifnullNo X57.here hx rfl (hb hby at_35) rfl ?_
                show Steps p.tables e below (T57.setTop (mkF m 38 #[.val (.int p0), .val (.int p1), .val (.int v5), .val (.ref s_MARKET), .val (.ref s_MARKET)] [])) _
                refine XS.aloadN X57.here hx rfl (hb hby at_38) rfl rfl ?_
                exact k)
            obtain ⟨T61, X61, e61, st61⟩ := getF X57 hx hZ hown (host := "") (Or.inl (hw _ (List.mem_of_getElem? (i := 19) rfl))) Via.refl e57 F_5 (g := (mkF m 39 #[.val (.int p0), .val (.int p1), .val (.int v5), .val (.ref s_MARKET), .val (.ref s_MARKET)] [(.ref s_MARKET)])) rfl rfl (hb hby at_39)
            have pre61 : ∀ t, Steps p.tables e below (T61.setTop (mkF m 42 #[.val (.int p0), .val (.int p1), .val (.int v5), .val (.ref s_MARKET), .val (.ref s_MARKET)] [(.int (5 : Int32))])) t → P t := fun t k => pre60 t (st61 _ k)
            have pre62 : ∀ t, Steps p.tables e below (T61.setTop (mkF m 49 #[.val (.int p0), .val (.int p1), .val (.int v5), .val (.ref s_MARKET), .val (.ref s_MARKET)] [(.int (1 : Int32))])) t → P t := fun t k => pre61 t (by
                show Steps p.tables e below (T61.setTop (mkF m 42 #[.val (.int p0), .val (.int p1), .val (.int v5), .val (.ref s_MARKET), .val (.ref s_MARKET)] [(.int (5 : Int32))])) _
                refine XS.iloadN X61.here hx rfl (hb hby at_42) rfl ?_
                show Steps p.tables e below (T61.setTop (mkF m 43 #[.val (.int p0), .val (.int p1), .val (.int v5), .val (.ref s_MARKET), .val (.ref s_MARKET)] [(.int v5), (.int (5 : Int32))])) _
                refine XS.icmpYes X61.here hx rfl (pc0 := 43) (pc' := 48) rfl (hb hby at_43) rfl (teq (show (5 : Int32) = v5 from (hc52).symm)).1 (by decide) (by decide) ?_
                show Steps p.tables e below (T61.setTop (mkF m 48 #[.val (.int p0), .val (.int p1), .val (.int v5), .val (.ref s_MARKET), .val (.ref s_MARKET)] [])) _
                refine XS.iconst X61.here hx rfl (hb hby at_48) ?_
                exact k)
            obtain ⟨fs, hr, hrun, hended, hW, hsame⟩ := X61.leave (v := some (.int (1 : Int32))) (fun h => by rw [Bd.returns] at h; cases h)
            refine ⟨_, _, fin _ (pre62 _ ?_), hrun, hended, _, _, rfl, ?_, ⟨_, rfl⟩, hW, hsame.mono (by decide) (by decide)⟩
            · show Steps p.tables e below (T61.setTop (mkF m 49 #[.val (.int p0), .val (.int p1), .val (.int v5), .val (.ref s_MARKET), .val (.ref s_MARKET)] [(.int (1 : Int32))])) _
              exact retN X61 hx (t := .boolean) Bd.returns (by simp) (hb hby at_49) hr
            · show Q0 Z p0 p1 s_ALL k_ALL s_LIMIT s_POST_ONLY s_IMMEDIATE_OR_CANCEL s_FILL_OR_KILL s_MARKET s_MARKET_TO_LIMIT h0 n0 _ T61.heap _
              rw [e61]
              exact ⟨(by subst hv5; first | (unfold own_f0; rw [if_neg hc8, if_neg hc19, if_neg hc30, if_neg hc41, if_pos hc52]; done) | simp only [own_f0, if_neg hc8, if_neg hc19, if_neg hc30, if_neg hc41, if_pos hc52] | simp [own_f0, if_neg hc8, if_neg hc19, if_neg hc30, if_neg hc41, if_pos hc52]), N57⟩
          · by_cases hc63 : v5 = (6 : Int32)
            · obtain ⟨_, _, ⟨T64, L64, k64, n64⟩, -, X64, ⟨Lc64, hQ64, l64, y64, z64⟩, st64⟩ := Jvm.LawKit.callS X6 hx (y := (⟨"com/example/fairmark/fairmark/OrderType", "of", "(I)Lcom/example/fairmark/fairmark/OrderType;"⟩ : MethodName)) hown (mvT hZ (hw _ (List.mem_of_getElem? (i := 0) rfl))) (mvT hZ (hw _ (List.mem_of_getElem? (i := 1) rfl))) (mvT hZ (hw _ (List.mem_of_getElem? (i := 2) rfl))) (mvT hZ (hw _ (List.mem_of_getElem? (i := 3) rfl))) (by decide) (backOf (W := 0) (rm1 l Z a0 hw [] v5 s_ALL k_ALL s_LIMIT s_POST_ONLY s_IMMEDIATE_OR_CANCEL s_FILL_OR_KILL s_MARKET s_MARKET_TO_LIMIT h0 n0 Z0 S_ALL V_ALL F_1 F_2 F_3 F_4 F_5 F_6) hZ (hw _ (List.mem_of_getElem? (i := 3) rfl)) (hw _ (List.mem_of_getElem? (i := 2) rfl)) (by decide) (by decide)) (g := (mkF m 16 #[.val (.int p0), .val (.int p1), .val (.int v5), .unset, .unset] [(.int v5)])) rfl (by rw [hml]; rfl) (argsL := [(.int v5)]) (rest := []) (lenOf own_pd0 rfl) rfl (by show 2 * 0 + _ ≤ _; exact Nat.le_of_eq rfl) (hb hby at_16) (fun _ _ => ⟨rfl, e6, (by decide : 0 + 0 ≤ _), (by decide : 0 + 0 ≤ _)⟩)
              dsimp only [Pt.U, Pt.locs, Pt.cells, Pt.slots] at X64 l64 y64 z64 st64 hQ64
              subst l64 y64 z64
              obtain ⟨rfl, N64q, e64⟩ := hQ64
              have N64 := Fr.app N6 N64q
              have pre64 : ∀ t, Steps p.tables e below (T64.setTop (mkF m 19 #[.val (.int p0), .val (.int p1), .val (.int v5), .unset, .unset] [(own_f1 v5 s_LIMIT s_POST_ONLY s_IMMEDIATE_OR_CANCEL s_FILL_OR_KILL s_MARKET s_MARKET_TO_LIMIT)])) t → P t := fun t k => pre7 t (st64 _ k)
              have hval65 : (own_f1 v5 s_LIMIT s_POST_ONLY s_IMMEDIATE_OR_CANCEL s_FILL_OR_KILL s_MARKET s_MARKET_TO_LIMIT) = (.ref s_MARKET_TO_LIMIT) := by
                rw [hc63]
                simp [own_f1]
              have pre66 : ∀ t, Steps p.tables e below (T64.setTop (mkF m 19 #[.val (.int p0), .val (.int p1), .val (.int v5), .unset, .unset] [(.ref s_MARKET_TO_LIMIT)])) t → P t := fun t k => pre64 t (by rw [hval65]; exact k)
              have pre67 : ∀ t, Steps p.tables e below (T64.setTop (mkF m 21 #[.val (.int p0), .val (.int p1), .val (.int v5), .val (.ref s_MARKET_TO_LIMIT), .unset] [(.int v5)])) t → P t := fun t k => pre66 t (by
                  show Steps p.tables e below (T64.setTop (mkF m 19 #[.val (.int p0), .val (.int p1), .val (.int v5), .unset, .unset] [(.ref s_MARKET_TO_LIMIT)])) _
                  refine XS.astoreN X64.here hx rfl (hb hby at_19) rfl rfl (l' := #[.val (.int p0), .val (.int p1), .val (.int v5), .val (.ref s_MARKET_TO_LIMIT), .unset]) rfl ?_
                  show Steps p.tables e below (T64.setTop (mkF m 20 #[.val (.int p0), .val (.int p1), .val (.int v5), .val (.ref s_MARKET_TO_LIMIT), .unset] [])) _
                  refine XS.iloadN X64.here hx rfl (hb hby at_20) rfl ?_
                  exact k)
              obtain ⟨_, _, ⟨T68, L68, k68, n68⟩, -, X68, ⟨Lc68, hQ68, l68, y68, z68⟩, st68⟩ := Jvm.LawKit.callS X64 hx (y := (⟨"com/example/fairmark/fairmark/OrderTypeOfPinLaw", "expected", "(I)Lcom/example/fairmark/fairmark/OrderType;"⟩ : MethodName)) hown (mvT hZ (hw _ (List.mem_of_getElem? (i := 14) rfl))) (mvT hZ (hw _ (List.mem_of_getElem? (i := 15) rfl))) (mvT hZ (hw _ (List.mem_of_getElem? (i := 16) rfl))) (mvT hZ (hw _ (List.mem_of_getElem? (i := 17) rfl))) (by decide) (backOf (W := 0) (rm2 l Z a0 hw [] v5 s_LIMIT s_POST_ONLY s_IMMEDIATE_OR_CANCEL s_FILL_OR_KILL s_MARKET s_MARKET_TO_LIMIT h0 n0 Z0 S_LIMIT S_POST_ONLY S_IMMEDIATE_OR_CANCEL S_FILL_OR_KILL S_MARKET S_MARKET_TO_LIMIT) hZ (hw _ (List.mem_of_getElem? (i := 17) rfl)) (hw _ (List.mem_of_getElem? (i := 16) rfl)) (by decide) (by decide)) (g := (mkF m 21 #[.val (.int p0), .val (.int p1), .val (.int v5), .val (.ref s_MARKET_TO_LIMIT), .unset] [(.int v5)])) rfl (by rw [hml]; rfl) (argsL := [(.int v5)]) (rest := []) (lenOf own_pd0 rfl) rfl (by show 2 * 0 + _ ≤ _; exact Nat.le_of_eq rfl) (hb hby at_21) (fun _ _ => ⟨rfl, e64, (by decide : 0 + 0 ≤ _), (by decide : 0 + 0 ≤ _)⟩)
              dsimp only [Pt.U, Pt.locs, Pt.cells, Pt.slots] at X68 l68 y68 z68 st68 hQ68
              subst l68 y68 z68
              obtain ⟨rfl, N68q, e68⟩ := hQ68
              have N68 := Fr.app N64 N68q
              have pre68 : ∀ t, Steps p.tables e below (T68.setTop (mkF m 24 #[.val (.int p0), .val (.int p1), .val (.int v5), .val (.ref s_MARKET_TO_LIMIT), .unset] [(own_f2 v5 s_LIMIT s_POST_ONLY s_IMMEDIATE_OR_CANCEL s_FILL_OR_KILL s_MARKET s_MARKET_TO_LIMIT)])) t → P t := fun t k => pre67 t (st68 _ k)
              have hval69 : (own_f2 v5 s_LIMIT s_POST_ONLY s_IMMEDIATE_OR_CANCEL s_FILL_OR_KILL s_MARKET s_MARKET_TO_LIMIT) = (.ref s_MARKET_TO_LIMIT) := by
                rw [hc63]
                simp [own_f2]
              have pre70 : ∀ t, Steps p.tables e below (T68.setTop (mkF m 24 #[.val (.int p0), .val (.int p1), .val (.int v5), .val (.ref s_MARKET_TO_LIMIT), .unset] [(.ref s_MARKET_TO_LIMIT)])) t → P t := fun t k => pre68 t (by rw [hval69]; exact k)
              have pre71 : ∀ t, Steps p.tables e below (T68.setTop (mkF m 39 #[.val (.int p0), .val (.int p1), .val (.int v5), .val (.ref s_MARKET_TO_LIMIT), .val (.ref s_MARKET_TO_LIMIT)] [(.ref s_MARKET_TO_LIMIT)])) t → P t := fun t k => pre70 t (by
                  show Steps p.tables e below (T68.setTop (mkF m 24 #[.val (.int p0), .val (.int p1), .val (.int v5), .val (.ref s_MARKET_TO_LIMIT), .unset] [(.ref s_MARKET_TO_LIMIT)])) _
                  refine XS.astore X68.here hx rfl (hb hby at_24) rfl rfl (l' := #[.val (.int p0), .val (.int p1), .val (.int v5), .val (.ref s_MARKET_TO_LIMIT), .val (.ref s_MARKET_TO_LIMIT)]) rfl ?_
                  show Steps p.tables e below (T68.setTop (mkF m 26 #[.val (.int p0), .val (.int p1), .val (.int v5), .val (.ref s_MARKET_TO_LIMIT), .val (.ref s_MARKET_TO_LIMIT)] [])) _
                  refine XS.aloadN X68.here hx rfl (hb hby at_26) rfl rfl ?_
                  show Steps p.tables e below (T68.setTop (mkF m 27 #[.val (.int p0), .val (.int p1), .val (.int v5), .val (.ref s_MARKET_TO_LIMIT), .val (.ref s_MARKET_TO_LIMIT)] [(.ref s_MARKET_TO_LIMIT)])) _
                  refine XS.aload X68.here hx rfl (hb hby at_27) rfl rfl ?_
                  show Steps p.tables e below (T68.setTop (mkF m 29 #[.val (.int p0), .val (.int p1), .val (.int v5), .val (.ref s_MARKET_TO_LIMIT), .val (.ref s_MARKET_TO_LIMIT)] [(.ref s_MARKET_TO_LIMIT), (.ref s_MARKET_TO_LIMIT)])) _
                  refine Jvm.RoadKit.acmp (g := (mkF m 29 #[.val (.int p0), .val (.int p1), .val (.int v5), .val (.ref s_MARKET_TO_LIMIT), .val (.ref s_MARKET_TO_LIMIT)] [(.ref s_MARKET_TO_LIMIT), (.ref s_MARKET_TO_LIMIT)])) X68 hx rfl rfl rfl (pc0 := 29) (pc' := 34) (same := true) rfl (hb hby at_29) rfl (decide_eq_true rfl) (by decide) (by decide) ?_
                  show Steps p.tables e below (T68.setTop (mkF m 34 #[.val (.int p0), .val (.int p1), .val (.int v5), .val (.ref s_MARKET_TO_LIMIT), .val (.ref s_MARKET_TO_LIMIT)] [])) _
                  refine XS.aloadN X68.here hx rfl (hb hby at_34) rfl rfl ?_
                  show Steps p.tables e below (T68.setTop (mkF m 35 #[.val (.int p0), .val (.int p1), .val (.int v5), .val (.ref s_MARKET_TO_LIMIT), .val (.ref s_MARKET_TO_LIMIT)] [(.ref s_MARKET_TO_LIMIT)])) _
                  refine XS.ifnullNo X68.here hx rfl (hb hby at_35) rfl ?_
                  show Steps p.tables e below (T68.setTop (mkF m 38 #[.val (.int p0), .val (.int p1), .val (.int v5), .val (.ref s_MARKET_TO_LIMIT), .val (.ref s_MARKET_TO_LIMIT)] [])) _
                  refine XS.aloadN X68.here hx rfl (hb hby at_38) rfl rfl ?_
                  exact k)
              obtain ⟨T72, X72, e72, st72⟩ := getF X68 hx hZ hown (host := "") (Or.inl (hw _ (List.mem_of_getElem? (i := 19) rfl))) Via.refl e68 F_6 (g := (mkF m 39 #[.val (.int p0), .val (.int p1), .val (.int v5), .val (.ref s_MARKET_TO_LIMIT), .val (.ref s_MARKET_TO_LIMIT)] [(.ref s_MARKET_TO_LIMIT)])) rfl rfl (hb hby at_39)
              have pre72 : ∀ t, Steps p.tables e below (T72.setTop (mkF m 42 #[.val (.int p0), .val (.int p1), .val (.int v5), .val (.ref s_MARKET_TO_LIMIT), .val (.ref s_MARKET_TO_LIMIT)] [(.int (6 : Int32))])) t → P t := fun t k => pre71 t (st72 _ k)
              have pre73 : ∀ t, Steps p.tables e below (T72.setTop (mkF m 49 #[.val (.int p0), .val (.int p1), .val (.int v5), .val (.ref s_MARKET_TO_LIMIT), .val (.ref s_MARKET_TO_LIMIT)] [(.int (1 : Int32))])) t → P t := fun t k => pre72 t (by
                  show Steps p.tables e below (T72.setTop (mkF m 42 #[.val (.int p0), .val (.int p1), .val (.int v5), .val (.ref s_MARKET_TO_LIMIT), .val (.ref s_MARKET_TO_LIMIT)] [(.int (6 : Int32))])) _
                  refine XS.iloadN X72.here hx rfl (hb hby at_42) rfl ?_
                  show Steps p.tables e below (T72.setTop (mkF m 43 #[.val (.int p0), .val (.int p1), .val (.int v5), .val (.ref s_MARKET_TO_LIMIT), .val (.ref s_MARKET_TO_LIMIT)] [(.int v5), (.int (6 : Int32))])) _
                  refine XS.icmpYes X72.here hx rfl (pc0 := 43) (pc' := 48) rfl (hb hby at_43) rfl (teq (show (6 : Int32) = v5 from (hc63).symm)).1 (by decide) (by decide) ?_
                  show Steps p.tables e below (T72.setTop (mkF m 48 #[.val (.int p0), .val (.int p1), .val (.int v5), .val (.ref s_MARKET_TO_LIMIT), .val (.ref s_MARKET_TO_LIMIT)] [])) _
                  refine XS.iconst X72.here hx rfl (hb hby at_48) ?_
                  exact k)
              obtain ⟨fs, hr, hrun, hended, hW, hsame⟩ := X72.leave (v := some (.int (1 : Int32))) (fun h => by rw [Bd.returns] at h; cases h)
              refine ⟨_, _, fin _ (pre73 _ ?_), hrun, hended, _, _, rfl, ?_, ⟨_, rfl⟩, hW, hsame.mono (by decide) (by decide)⟩
              · show Steps p.tables e below (T72.setTop (mkF m 49 #[.val (.int p0), .val (.int p1), .val (.int v5), .val (.ref s_MARKET_TO_LIMIT), .val (.ref s_MARKET_TO_LIMIT)] [(.int (1 : Int32))])) _
                exact retN X72 hx (t := .boolean) Bd.returns (by simp) (hb hby at_49) hr
              · show Q0 Z p0 p1 s_ALL k_ALL s_LIMIT s_POST_ONLY s_IMMEDIATE_OR_CANCEL s_FILL_OR_KILL s_MARKET s_MARKET_TO_LIMIT h0 n0 _ T72.heap _
                rw [e72]
                exact ⟨(by subst hv5; first | (unfold own_f0; rw [if_neg hc8, if_neg hc19, if_neg hc30, if_neg hc41, if_neg hc52, if_pos hc63]; done) | simp only [own_f0, if_neg hc8, if_neg hc19, if_neg hc30, if_neg hc41, if_neg hc52, if_pos hc63] | simp [own_f0, if_neg hc8, if_neg hc19, if_neg hc30, if_neg hc41, if_neg hc52, if_pos hc63]), N68⟩
            · obtain ⟨_, _, ⟨T74, L74, k74, n74⟩, -, X74, ⟨Lc74, hQ74, l74, y74, z74⟩, st74⟩ := Jvm.LawKit.callS X6 hx (y := (⟨"com/example/fairmark/fairmark/OrderType", "of", "(I)Lcom/example/fairmark/fairmark/OrderType;"⟩ : MethodName)) hown (mvT hZ (hw _ (List.mem_of_getElem? (i := 0) rfl))) (mvT hZ (hw _ (List.mem_of_getElem? (i := 1) rfl))) (mvT hZ (hw _ (List.mem_of_getElem? (i := 2) rfl))) (mvT hZ (hw _ (List.mem_of_getElem? (i := 3) rfl))) (by decide) (backOf (W := 0) (rm1 l Z a0 hw [] v5 s_ALL k_ALL s_LIMIT s_POST_ONLY s_IMMEDIATE_OR_CANCEL s_FILL_OR_KILL s_MARKET s_MARKET_TO_LIMIT h0 n0 Z0 S_ALL V_ALL F_1 F_2 F_3 F_4 F_5 F_6) hZ (hw _ (List.mem_of_getElem? (i := 3) rfl)) (hw _ (List.mem_of_getElem? (i := 2) rfl)) (by decide) (by decide)) (g := (mkF m 16 #[.val (.int p0), .val (.int p1), .val (.int v5), .unset, .unset] [(.int v5)])) rfl (by rw [hml]; rfl) (argsL := [(.int v5)]) (rest := []) (lenOf own_pd0 rfl) rfl (by show 2 * 0 + _ ≤ _; exact Nat.le_of_eq rfl) (hb hby at_16) (fun _ _ => ⟨rfl, e6, (by decide : 0 + 0 ≤ _), (by decide : 0 + 0 ≤ _)⟩)
              dsimp only [Pt.U, Pt.locs, Pt.cells, Pt.slots] at X74 l74 y74 z74 st74 hQ74
              subst l74 y74 z74
              obtain ⟨rfl, N74q, e74⟩ := hQ74
              have N74 := Fr.app N6 N74q
              have pre74 : ∀ t, Steps p.tables e below (T74.setTop (mkF m 19 #[.val (.int p0), .val (.int p1), .val (.int v5), .unset, .unset] [(own_f1 v5 s_LIMIT s_POST_ONLY s_IMMEDIATE_OR_CANCEL s_FILL_OR_KILL s_MARKET s_MARKET_TO_LIMIT)])) t → P t := fun t k => pre7 t (st74 _ k)
              have hval75 : (own_f1 v5 s_LIMIT s_POST_ONLY s_IMMEDIATE_OR_CANCEL s_FILL_OR_KILL s_MARKET s_MARKET_TO_LIMIT) = .null := by
                unfold own_f1
                rw [if_neg (fun q => hc8 q.symm), if_neg (fun q => hc19 q.symm), if_neg (fun q => hc30 q.symm), if_neg (fun q => hc41 q.symm), if_neg (fun q => hc52 q.symm), if_neg (fun q => hc63 q.symm)]
              have pre76 : ∀ t, Steps p.tables e below (T74.setTop (mkF m 19 #[.val (.int p0), .val (.int p1), .val (.int v5), .unset, .unset] [.null])) t → P t := fun t k => pre74 t (by rw [hval75]; exact k)
              have pre77 : ∀ t, Steps p.tables e below (T74.setTop (mkF m 21 #[.val (.int p0), .val (.int p1), .val (.int v5), .val .null, .unset] [(.int v5)])) t → P t := fun t k => pre76 t (by
                  show Steps p.tables e below (T74.setTop (mkF m 19 #[.val (.int p0), .val (.int p1), .val (.int v5), .unset, .unset] [.null])) _
                  refine XS.astoreN X74.here hx rfl (hb hby at_19) rfl rfl (l' := #[.val (.int p0), .val (.int p1), .val (.int v5), .val .null, .unset]) rfl ?_
                  show Steps p.tables e below (T74.setTop (mkF m 20 #[.val (.int p0), .val (.int p1), .val (.int v5), .val .null, .unset] [])) _
                  refine XS.iloadN X74.here hx rfl (hb hby at_20) rfl ?_
                  exact k)
              obtain ⟨_, _, ⟨T78, L78, k78, n78⟩, -, X78, ⟨Lc78, hQ78, l78, y78, z78⟩, st78⟩ := Jvm.LawKit.callS X74 hx (y := (⟨"com/example/fairmark/fairmark/OrderTypeOfPinLaw", "expected", "(I)Lcom/example/fairmark/fairmark/OrderType;"⟩ : MethodName)) hown (mvT hZ (hw _ (List.mem_of_getElem? (i := 14) rfl))) (mvT hZ (hw _ (List.mem_of_getElem? (i := 15) rfl))) (mvT hZ (hw _ (List.mem_of_getElem? (i := 16) rfl))) (mvT hZ (hw _ (List.mem_of_getElem? (i := 17) rfl))) (by decide) (backOf (W := 0) (rm2 l Z a0 hw [] v5 s_LIMIT s_POST_ONLY s_IMMEDIATE_OR_CANCEL s_FILL_OR_KILL s_MARKET s_MARKET_TO_LIMIT h0 n0 Z0 S_LIMIT S_POST_ONLY S_IMMEDIATE_OR_CANCEL S_FILL_OR_KILL S_MARKET S_MARKET_TO_LIMIT) hZ (hw _ (List.mem_of_getElem? (i := 17) rfl)) (hw _ (List.mem_of_getElem? (i := 16) rfl)) (by decide) (by decide)) (g := (mkF m 21 #[.val (.int p0), .val (.int p1), .val (.int v5), .val .null, .unset] [(.int v5)])) rfl (by rw [hml]; rfl) (argsL := [(.int v5)]) (rest := []) (lenOf own_pd0 rfl) rfl (by show 2 * 0 + _ ≤ _; exact Nat.le_of_eq rfl) (hb hby at_21) (fun _ _ => ⟨rfl, e74, (by decide : 0 + 0 ≤ _), (by decide : 0 + 0 ≤ _)⟩)
              dsimp only [Pt.U, Pt.locs, Pt.cells, Pt.slots] at X78 l78 y78 z78 st78 hQ78
              subst l78 y78 z78
              obtain ⟨rfl, N78q, e78⟩ := hQ78
              have N78 := Fr.app N74 N78q
              have pre78 : ∀ t, Steps p.tables e below (T78.setTop (mkF m 24 #[.val (.int p0), .val (.int p1), .val (.int v5), .val .null, .unset] [(own_f2 v5 s_LIMIT s_POST_ONLY s_IMMEDIATE_OR_CANCEL s_FILL_OR_KILL s_MARKET s_MARKET_TO_LIMIT)])) t → P t := fun t k => pre77 t (st78 _ k)
              have hval79 : (own_f2 v5 s_LIMIT s_POST_ONLY s_IMMEDIATE_OR_CANCEL s_FILL_OR_KILL s_MARKET s_MARKET_TO_LIMIT) = .null := by
                unfold own_f2
                rw [if_neg hc8, if_neg hc19, if_neg hc30, if_neg hc41, if_neg hc52, if_neg hc63]
              have pre80 : ∀ t, Steps p.tables e below (T78.setTop (mkF m 24 #[.val (.int p0), .val (.int p1), .val (.int v5), .val .null, .unset] [.null])) t → P t := fun t k => pre78 t (by rw [hval79]; exact k)
              have pre81 : ∀ t, Steps p.tables e below (T78.setTop (mkF m 49 #[.val (.int p0), .val (.int p1), .val (.int v5), .val .null, .val .null] [(.int (1 : Int32))])) t → P t := fun t k => pre80 t (by
                  show Steps p.tables e below (T78.setTop (mkF m 24 #[.val (.int p0), .val (.int p1), .val (.int v5), .val .null, .unset] [.null])) _
                  refine XS.astore X78.here hx rfl (hb hby at_24) rfl rfl (l' := #[.val (.int p0), .val (.int p1), .val (.int v5), .val .null, .val .null]) rfl ?_
                  show Steps p.tables e below (T78.setTop (mkF m 26 #[.val (.int p0), .val (.int p1), .val (.int v5), .val .null, .val .null] [])) _
                  refine XS.aloadN X78.here hx rfl (hb hby at_26) rfl rfl ?_
                  show Steps p.tables e below (T78.setTop (mkF m 27 #[.val (.int p0), .val (.int p1), .val (.int v5), .val .null, .val .null] [.null])) _
                  refine XS.aload X78.here hx rfl (hb hby at_27) rfl rfl ?_
                  show Steps p.tables e below (T78.setTop (mkF m 29 #[.val (.int p0), .val (.int p1), .val (.int v5), .val .null, .val .null] [.null, .null])) _
                  refine Jvm.RoadKit.acmp (g := (mkF m 29 #[.val (.int p0), .val (.int p1), .val (.int v5), .val .null, .val .null] [.null, .null])) X78 hx rfl rfl rfl (pc0 := 29) (pc' := 34) (same := true) rfl (hb hby at_29) rfl (decide_eq_true rfl) (by decide) (by decide) ?_
                  show Steps p.tables e below (T78.setTop (mkF m 34 #[.val (.int p0), .val (.int p1), .val (.int v5), .val .null, .val .null] [])) _
                  refine XS.aloadN X78.here hx rfl (hb hby at_34) rfl rfl ?_
                  show Steps p.tables e below (T78.setTop (mkF m 35 #[.val (.int p0), .val (.int p1), .val (.int v5), .val .null, .val .null] [.null])) _
                  refine XS.ifnullYes X78.here hx rfl (pc0 := 35) (pc' := 48) rfl (hb hby at_35) rfl (by decide) (by decide) ?_
                  show Steps p.tables e below (T78.setTop (mkF m 48 #[.val (.int p0), .val (.int p1), .val (.int v5), .val .null, .val .null] [])) _
                  refine XS.iconst X78.here hx rfl (hb hby at_48) ?_
                  exact k)
              obtain ⟨fs, hr, hrun, hended, hW, hsame⟩ := X78.leave (v := some (.int (1 : Int32))) (fun h => by rw [Bd.returns] at h; cases h)
              refine ⟨_, _, fin _ (pre81 _ ?_), hrun, hended, _, _, rfl, ?_, ⟨_, rfl⟩, hW, hsame.mono (by decide) (by decide)⟩
              · show Steps p.tables e below (T78.setTop (mkF m 49 #[.val (.int p0), .val (.int p1), .val (.int v5), .val .null, .val .null] [(.int (1 : Int32))])) _
                exact retN X78 hx (t := .boolean) Bd.returns (by simp) (hb hby at_49) hr
              · show Q0 Z p0 p1 s_ALL k_ALL s_LIMIT s_POST_ONLY s_IMMEDIATE_OR_CANCEL s_FILL_OR_KILL s_MARKET s_MARKET_TO_LIMIT h0 n0 _ T78.heap _
                rw [e78]
                exact ⟨(by subst hv5; first | (unfold own_f0; rw [if_neg hc8, if_neg hc19, if_neg hc30, if_neg hc41, if_neg hc52, if_neg hc63]; done) | simp only [own_f0, if_neg hc8, if_neg hc19, if_neg hc30, if_neg hc41, if_neg hc52, if_neg hc63] | simp [own_f0, if_neg hc8, if_neg hc19, if_neg hc30, if_neg hc41, if_neg hc52, if_neg hc63]), N78⟩
theorem own_eqI {t : Jvm.Term} {n : Int32} {args : Array Value} {first s : State} {o : Option Outcome} {idx : List Nat} (h : (Jvm.Cond.eq t (Jvm.Term.int n)).value args first o s idx = some true) : t.eval args first o idx s = some (.int n) := by
  simp only [Cond.value, Term.eval] at h
  cases ht : t.eval args first o idx s with
  | none => simp [ht] at h
  | some x => cases x <;> simp [ht] at h ⊢; exact h
theorem own_eqR {t u : Jvm.Term} {a : Addr} {args : Array Value} {first s : State} {o : Option Outcome} {idx : List Nat} (h : (Jvm.Cond.eq t u).value args first o s idx = some true) (hu : u.eval args first o idx s = some (.ref a)) : t.eval args first o idx s = some (.ref a) := by
  simp only [Cond.value, hu] at h
  cases ht : t.eval args first o idx s with
  | none => simp [ht] at h
  | some x => cases x <;> simp [ht] at h ⊢; exact h
theorem own_law (a b : Int32) : own_f0 a b = 1 := by
  unfold own_f0
  simp
theorem own_arv {s : State} {args : Array Value} {t : Jvm.Term} {a : Addr} {cl : Cell} {C : String} {r0 r1 r2 r3 r4 r5 : Addr} (hf : Fit s) (A : Arr s s.heap a cl (.object C)) (et : t.eval args s none [] s = some (.ref a)) (hl : (Jvm.Term.length t).eval args s none [] s = some (.int 6))
    (h0 : (Jvm.Term.elem t (Jvm.Term.int 0)).eval args s none [] s = some (.ref r0)) (h1 : (Jvm.Term.elem t (Jvm.Term.int 1)).eval args s none [] s = some (.ref r1)) (h2 : (Jvm.Term.elem t (Jvm.Term.int 2)).eval args s none [] s = some (.ref r2)) (h3 : (Jvm.Term.elem t (Jvm.Term.int 3)).eval args s none [] s = some (.ref r3)) (h4 : (Jvm.Term.elem t (Jvm.Term.int 4)).eval args s none [] s = some (.ref r4)) (h5 : (Jvm.Term.elem t (Jvm.Term.int 5)).eval args s none [] s = some (.ref r5)) :
    Arv s s.heap a cl.cls (.object C) (6 : Int32) [(.ref r0), (.ref r1), (.ref r2), (.ref r3), (.ref r4), (.ref r5)] .null := by
  have ha : s.arrayAt? a = some cl := A.fin (Vm.Alike.refl _)
  have q : cl.slots.size < 2 ^ 31 ∧ cl.slots.size.toInt32 = 6 := by
    simp [Term.eval, et, ha] at hl
    exact hl
  refine Arv.start hf A q.1 q.2 (by decide) rfl ⟨?_, ?_, ?_, ?_, ?_, ?_, trivial⟩
  · exact (elem_in h0 et (Term.int_eval 0) A.1).2
  · exact (elem_in h1 et (Term.int_eval 1) A.1).2
  · exact (elem_in h2 et (Term.int_eval 2) A.1).2
  · exact (elem_in h3 et (Term.int_eval 3) A.1).2
  · exact (elem_in h4 et (Term.int_eval 4) A.1).2
  · exact (elem_in h5 et (Term.int_eval 5) A.1).2
set_option maxRecDepth 65536 in
set_option maxHeartbeats 40000000 in
theorem comes_1 {Post : Tables → Env → Array Value → State → Outcome → State → Prop} (hpost : ∀ tb e args s v u, (limb_1_1.after args s (.returned v) u = true ∧ limb_1_2.after args s (.returned v) u = true ∧ True) → FrameEnd s (.returned v) u (Jvm.fieldLocs frame_1_writes args s ++ Jvm.arrayLocs frame_1_arrays args s ++ Jvm.staticLocs frame_1_statics s) 0 0 → Post tb e args s (.returned v) u) :
    ArmFor flags0 classFile x code maxLocals ret World_1 tables_1 room_1 Calls_1 rest_1 Pre_1 Post := by
  intro l hfl _ _ p e ha hc hk s m args below hf hA hF happ hP
  obtain ⟨hcalls, hrest, hpre⟩ := hP
  obtain ⟨-, -, -, hnamed, -, -, -, hat⟩ := (Spec.applies_iff hf).mp happ
  obtain ⟨hg, hn⟩ := and_e (Cond.before_iff.mp (show (Jvm.Cond.and given_1 narrow_1).before args s = true from hpre))
  obtain ⟨hg1, hg2⟩ := and_e hg
  obtain ⟨hg3, hg4⟩ := and_e hg2
  obtain ⟨w0, w1, rfl⟩ : ∃ w0 w1 : Value, args = #[w0, w1] := by
    have hs : args.size = 2 := by simpa [Cond.value, given_1] using hg1
    obtain ⟨L⟩ := args
    match L, hs with
    | [w0, w1], _ => exact ⟨w0, w1, rfl⟩
  have hw := fun d (hd : d ∈ tables_1) => atoms_spec (ws := Jvm.Cond.code x code maxLocals ret :: tables_1) hat d (List.mem_cons_of_mem _ hd)
  have hfit : Fit s := fun {y c} hc i hi => by
    obtain ⟨ha, rfl⟩ := Array.getElem?_eq_some_iff.mp hc
    have q := List.all_eq_true.mp ((Array.all_eq_true_iff_forall_mem.mp hF) _ (Array.getElem_mem ha)) i (List.mem_range.mpr hi)
    simpa [Array.getElem?_eq_getElem hi] using q
  obtain ⟨i0, ei0⟩ := is_v hg3
  obtain rfl : w0 = (.int i0) := Option.some.inj ei0
  obtain ⟨i1, ei1⟩ := is_v hg4
  obtain rfl : w1 = (.int i1) := Option.some.inj ei1
  obtain ⟨hj1, hj2⟩ := and_e hn
  obtain ⟨hj3, hj4⟩ := and_e hj2
  obtain ⟨hj5, hj6⟩ := and_e hj4
  obtain ⟨hj7, hj8⟩ := and_e hj6
  obtain ⟨hj9, hj10⟩ := and_e hj8
  obtain ⟨hj11, hj12⟩ := and_e hj10
  obtain ⟨hj13, hj14⟩ := and_e hj12
  obtain ⟨hj15, hj16⟩ := and_e hj14
  obtain ⟨hj17, hj18⟩ := and_e hj16
  obtain ⟨hj19, hj20⟩ := and_e hj18
  obtain ⟨hj21, hj22⟩ := and_e hj20
  obtain ⟨hj23, hj24⟩ := and_e hj22
  obtain ⟨hj25, hj26⟩ := and_e hj24
  obtain ⟨hj27, hj28⟩ := and_e hj26
  obtain ⟨hj29, hj30⟩ := and_e hj28
  obtain ⟨hj31, hj32⟩ := and_e hj30
  obtain ⟨hj33, hj34⟩ := and_e hj32
  obtain ⟨hj35, hj36⟩ := and_e hj34
  obtain ⟨hj37, hj38⟩ := and_e hj36
  obtain ⟨s_ALL, es_ALL⟩ := arr_v hj1
  obtain ⟨cl_ALL, A_ALL⟩ := Arr.start es_ALL hj1
  have S_ALL := Sta.start es_ALL (Or.inr ⟨(hw _ (List.mem_of_getElem? (i := 2) rfl)), (hw _ (List.mem_of_getElem? (i := 5) rfl))⟩)
  obtain ⟨s_LIMIT, es_LIMIT⟩ := exa_v hj5
  have S_LIMIT := Sta.start es_LIMIT (Or.inr ⟨(hw _ (List.mem_of_getElem? (i := 2) rfl)), (hw _ (List.mem_of_getElem? (i := 6) rfl))⟩)
  have F_LIMIT := Fld.start ((fld_at es_LIMIT).symm.trans (own_eqI hj9))
  have EL_LIMIT := own_eqR hj7 es_LIMIT
  obtain ⟨s_POST_ONLY, es_POST_ONLY⟩ := exa_v hj11
  have S_POST_ONLY := Sta.start es_POST_ONLY (Or.inr ⟨(hw _ (List.mem_of_getElem? (i := 2) rfl)), (hw _ (List.mem_of_getElem? (i := 9) rfl))⟩)
  have F_POST_ONLY := Fld.start ((fld_at es_POST_ONLY).symm.trans (own_eqI hj15))
  have EL_POST_ONLY := own_eqR hj13 es_POST_ONLY
  obtain ⟨s_IMMEDIATE_OR_CANCEL, es_IMMEDIATE_OR_CANCEL⟩ := exa_v hj17
  have S_IMMEDIATE_OR_CANCEL := Sta.start es_IMMEDIATE_OR_CANCEL (Or.inr ⟨(hw _ (List.mem_of_getElem? (i := 2) rfl)), (hw _ (List.mem_of_getElem? (i := 10) rfl))⟩)
  have F_IMMEDIATE_OR_CANCEL := Fld.start ((fld_at es_IMMEDIATE_OR_CANCEL).symm.trans (own_eqI hj21))
  have EL_IMMEDIATE_OR_CANCEL := own_eqR hj19 es_IMMEDIATE_OR_CANCEL
  obtain ⟨s_FILL_OR_KILL, es_FILL_OR_KILL⟩ := exa_v hj23
  have S_FILL_OR_KILL := Sta.start es_FILL_OR_KILL (Or.inr ⟨(hw _ (List.mem_of_getElem? (i := 2) rfl)), (hw _ (List.mem_of_getElem? (i := 11) rfl))⟩)
  have F_FILL_OR_KILL := Fld.start ((fld_at es_FILL_OR_KILL).symm.trans (own_eqI hj27))
  have EL_FILL_OR_KILL := own_eqR hj25 es_FILL_OR_KILL
  obtain ⟨s_MARKET, es_MARKET⟩ := exa_v hj29
  have S_MARKET := Sta.start es_MARKET (Or.inr ⟨(hw _ (List.mem_of_getElem? (i := 2) rfl)), (hw _ (List.mem_of_getElem? (i := 12) rfl))⟩)
  have F_MARKET := Fld.start ((fld_at es_MARKET).symm.trans (own_eqI hj33))
  have EL_MARKET := own_eqR hj31 es_MARKET
  obtain ⟨s_MARKET_TO_LIMIT, es_MARKET_TO_LIMIT⟩ := exa_v hj35
  have S_MARKET_TO_LIMIT := Sta.start es_MARKET_TO_LIMIT (Or.inr ⟨(hw _ (List.mem_of_getElem? (i := 2) rfl)), (hw _ (List.mem_of_getElem? (i := 13) rfl))⟩)
  have F_MARKET_TO_LIMIT := Fld.start ((fld_at es_MARKET_TO_LIMIT).symm.trans (own_eqI hj38))
  have EL_MARKET_TO_LIMIT := own_eqR hj37 es_MARKET_TO_LIMIT
  have V_ALL : Arv s s.heap s_ALL cl_ALL.cls (.object "com/example/fairmark/fairmark/OrderType") (6 : Int32) [(.ref s_LIMIT), (.ref s_POST_ONLY), (.ref s_IMMEDIATE_OR_CANCEL), (.ref s_FILL_OR_KILL), (.ref s_MARKET), (.ref s_MARKET_TO_LIMIT)] .null := own_arv hfit A_ALL es_ALL (own_eqI hj3) EL_LIMIT EL_POST_ONLY EL_IMMEDIATE_OR_CANCEL EL_FILL_OR_KILL EL_MARKET EL_MARKET_TO_LIMIT
  obtain ⟨n, o, h1, h2, h3, _, L, rfl, ⟨rfl, N⟩, hq⟩ := rm0 l s _ hw tables_1 i0 i1 s_ALL cl_ALL.cls s_LIMIT s_POST_ONLY s_IMMEDIATE_OR_CANCEL s_FILL_OR_KILL s_MARKET s_MARKET_TO_LIMIT s.heap s.heap.size (Nat.le_refl _) S_ALL V_ALL F_LIMIT F_POST_ONLY F_IMMEDIATE_OR_CANCEL F_FILL_OR_KILL F_MARKET F_MARKET_TO_LIMIT S_LIMIT S_POST_ONLY S_IMMEDIATE_OR_CANCEL S_FILL_OR_KILL S_MARKET S_MARKET_TO_LIMIT p e ha hc hk s m _ below hf ((Spec.applies_iff_loose hf).mp happ).1 ⟨rfl, State.Warmed39.refl s, rfl⟩ trivial
  refine ⟨n, _, h1, h2, h3, hpost _ _ _ _ _ _ ⟨Cond.after_iff.mpr rfl, Cond.after_iff.mpr (eq_i res_at (Term.int_eval (1)) (by rw [own_law])), trivial⟩ ⟨hq.1, hq.2.1, (hq.2.2.sift fun y hy => Or.inr (N y hy)).mono (by decide) (by decide)⟩⟩
theorem main_1_1 : Claimed_1_1 := comes_1 fun _ _ _ _ _ _ h hF => ⟨h.1, hF⟩
theorem main_1_2 : Claimed_1_2 := comes_1 fun _ _ _ _ _ _ h hF => ⟨h.2.1, hF⟩
end Jvm.Pilot.@@N@@
namespace Jvm.Pilot.@@N@@
open Jvm Jvm.ClassFile Sem Op Lib Jvm.Free Jvm.Stand Jvm.Pilot.@@N@@.Jvm.D
/-! MADE BY PROGRAM (witnessworld.py) out of the Statement's table words and the real class files: 13 classes; the members and pool entries that the words name. The judged class is class 1, her method 1. -/
namespace start1
open Jvm.ClassFile
def u (s : String) : CpInfo := .utf8 (stringToUtf16 s)
/-- a pool by its gaps: so many unusable entries, then the entry; so many at the end -/
def gap : Nat → List CpInfo → List CpInfo
  | 0, r => r
  | n + 1, r => .unusable :: gap n r
def poolList (es : List (Nat × CpInfo)) (last : Nat) : List CpInfo := es.foldr (fun e r => gap e.1 (e.2 :: r)) (gap last [])
def pool (es : List (Nat × CpInfo)) (last : Nat) : Array CpInfo := ⟨poolList es last⟩
def fileOf (pool : Array CpInfo) (this : Nat) (attrs : Array Attribute := #[]) (ms : Array MethodInfo := #[]) (fl : Nat := 33) (sup : Nat := 0) (ifs : Array Nat := #[]) (fds : Array FieldInfo := #[]) : ClassFile where
  minorVersion := 0
  majorVersion := 65
  constantPool := pool
  accessFlags := fl
  thisClass := this
  superClass := sup
  interfaces := ifs
  fields := fds
  methods := ms
  attributes := attrs
def plain (name : String) (sup : Option ClassId) : Class where
  name := name
  kind := .ordinary
  loader := none
  accessFlags := 33
  super := sup
  interfaces := #[]
  cf := none
  fields := #[]
  methods := #[]
  instanceTypes := #[]
  staticTypes := #[]
  resolved := #[]
  callSites := []
  init := .initialized
  statics := none
  mirror := none

def pool0 : Array CpInfo := pool [(5, u "<init>"), (0, u "()V"), (1, .class_ 10), (1, u "java/lang/Object")] 113

def k0m0 : Method := { name := "<init>", desc := "()V", sig := { parameters := [], returnType := none }, accessFlags := 1, code := none }
/-- java/lang/Object -/
def k0 : Class := { plain "java/lang/Object" none with
  accessFlags := 33
  interfaces := #[]
  cf := some (fileOf pool0 8 #[] #[{ accessFlags := 1, nameIndex := 5, descriptorIndex := 6, attributes := #[] }] 33 0 #[] #[])
  fields := #[]
  methods := #[k0m0]
  instanceTypes := #[]
  staticTypes := #[]
  resolved := Array.replicate 124 none
  statics := none }

def pool1 : Array CpInfo := pool [(2, .class_ 4), (1, u "java/lang/Object"), (0, u "<init>"), (0, u "()V"), (0, .methodref 8 9), (0, .class_ 10), (0, .nameAndType 11 12), (0, u "com/example/fairmark/fairmark/OrderType"), (0, u "of"), (0, u "(I)Lcom/example/fairmark/fairmark/OrderType;"), (0, .methodref 14 15), (0, .class_ 16), (0, .nameAndType 17 12), (0, u "com/example/fairmark/fairmark/OrderTypeOfPinLaw"), (0, u "expected"), (0, .fieldref 8 19), (0, .nameAndType 20 21), (0, u "code"), (0, u "I"), (0, .fieldref 8 23), (0, .nameAndType 24 25), (0, u "LIMIT"), (0, u "Lcom/example/fairmark/fairmark/OrderType;"), (0, .fieldref 8 27), (0, .nameAndType 28 25), (0, u "POST_ONLY"), (0, .fieldref 8 30), (0, .nameAndType 31 25), (0, u "IMMEDIATE_OR_CANCEL"), (0, .fieldref 8 33), (0, .nameAndType 34 25), (0, u "FILL_OR_KILL"), (0, .fieldref 8 36), (0, .nameAndType 37 25), (0, u "MARKET"), (0, .fieldref 8 39), (0, .nameAndType 40 25), (0, u "MARKET_TO_LIMIT"), (2, u "law"), (0, u "(II)Z")] 3

def k1m0 : Method := { name := "<init>", desc := "()V", sig := { parameters := [], returnType := none }, accessFlags := 1, code := none }
def k1c1 : Code := { maxStack := 2, maxLocals := 5, code := code, exceptionTable := #[], attributes := #[] }
def k1m1 : Method := { name := "law", desc := "(II)Z", sig := { parameters := [.int, .int], returnType := some .boolean }, accessFlags := 9, code := some k1c1 }
def k1c2 : Code := { maxStack := 2, maxLocals := 1, code := method_3_code, exceptionTable := #[], attributes := #[] }
def k1m2 : Method := { name := "expected", desc := "(I)Lcom/example/fairmark/fairmark/OrderType;", sig := { parameters := [.int], returnType := some (.object "com/example/fairmark/fairmark/OrderType") }, accessFlags := 10, code := some k1c2 }
/-- com/example/fairmark/fairmark/OrderTypeOfPinLaw -/
def k1 : Class := { plain "com/example/fairmark/fairmark/OrderTypeOfPinLaw" (some 0) with
  accessFlags := 49
  interfaces := #[]
  cf := some (fileOf pool1 14 #[] #[{ accessFlags := 1, nameIndex := 5, descriptorIndex := 6, attributes := #[] }, { accessFlags := 9, nameIndex := 43, descriptorIndex := 44, attributes := #[] }, { accessFlags := 10, nameIndex := 17, descriptorIndex := 12, attributes := #[] }] 49 2 #[] #[])
  fields := #[]
  methods := #[k1m0, k1m1, k1m2]
  instanceTypes := #[]
  staticTypes := #[]
  resolved := Array.replicate 48 none
  statics := none }

def pool2 : Array CpInfo := pool [(1, .class_ 2), (0, u "java/lang/constant/Constable"), (0, .class_ 4), (0, u "java/lang/Object")] 6

/-- java/lang/constant/Constable -/
def k2 : Class := { plain "java/lang/constant/Constable" (some 0) with
  accessFlags := 1537
  interfaces := #[]
  cf := some (fileOf pool2 1 #[] #[] 1537 3 #[] #[])
  fields := #[]
  methods := #[]
  instanceTypes := #[]
  staticTypes := #[]
  resolved := Array.replicate 11 none
  statics := none }

def pool3 : Array CpInfo := pool [(1, .class_ 2), (0, u "java/lang/Comparable"), (0, .class_ 4), (0, u "java/lang/Object")] 7

/-- java/lang/Comparable -/
def k3 : Class := { plain "java/lang/Comparable" (some 0) with
  accessFlags := 1537
  interfaces := #[]
  cf := some (fileOf pool3 1 #[] #[] 1537 3 #[] #[])
  fields := #[]
  methods := #[]
  instanceTypes := #[]
  staticTypes := #[]
  resolved := Array.replicate 12 none
  statics := none }

def pool4 : Array CpInfo := pool [(1, .class_ 2), (0, u "java/io/Serializable"), (0, .class_ 4), (0, u "java/lang/Object")] 2

/-- java/io/Serializable -/
def k4 : Class := { plain "java/io/Serializable" (some 0) with
  accessFlags := 1537
  interfaces := #[]
  cf := some (fileOf pool4 1 #[] #[] 1537 3 #[] #[])
  fields := #[]
  methods := #[]
  instanceTypes := #[]
  staticTypes := #[]
  resolved := Array.replicate 7 none
  statics := none }

def pool5 : Array CpInfo := pool [(2, .class_ 4), (1, u "java/lang/Enum"), (0, u "name"), (0, u "Ljava/lang/String;"), (2, u "ordinal"), (0, u "I"), (1, .class_ 14), (1, u "java/lang/Object"), (4, u "hash"), (86, .class_ 108), (1, u "java/lang/Enum$EnumDesc"), (2, .class_ 112), (0, u "java/lang/constant/Constable"), (0, .class_ 114), (0, u "java/lang/Comparable"), (0, .class_ 116), (0, u "java/io/Serializable")] 87

/-- java/lang/Enum -/
def k5 : Class := { plain "java/lang/Enum" (some 0) with
  accessFlags := 1057
  interfaces := #[2, 3, 4]
  cf := some (fileOf pool5 2 #[.nestMembers #[106]] #[] 1057 12 #[111, 113, 115] #[{ accessFlags := 18, nameIndex := 5, descriptorIndex := 6, attributes := #[] }, { accessFlags := 18, nameIndex := 9, descriptorIndex := 10, attributes := #[] }, { accessFlags := 2, nameIndex := 19, descriptorIndex := 10, attributes := #[] }])
  fields := #[{ name := "name", type := (.object "java/lang/String"), accessFlags := 18, slot := 0, constantValue := 0 }, { name := "ordinal", type := .int, accessFlags := 18, slot := 1, constantValue := 0 }, { name := "hash", type := .int, accessFlags := 2, slot := 2, constantValue := 0 }]
  methods := #[]
  instanceTypes := #[(.object "java/lang/String"), .int, .int]
  staticTypes := #[]
  resolved := Array.replicate 204 none
  statics := none }

def pool6 : Array CpInfo := pool [(1, .class_ 2), (0, u "com/example/fairmark/fairmark/OrderType"), (2, u "LIMIT"), (0, u "Lcom/example/fairmark/fairmark/OrderType;"), (2, u "POST_ONLY"), (2, u "IMMEDIATE_OR_CANCEL"), (2, u "FILL_OR_KILL"), (2, u "MARKET"), (2, u "MARKET_TO_LIMIT"), (2, u "$VALUES"), (0, u "[Lcom/example/fairmark/fairmark/OrderType;"), (6, .class_ 34), (1, u "java/lang/Enum"), (6, .fieldref 1 42), (0, .nameAndType 43 44), (0, u "code"), (0, u "I"), (2, u "priced"), (0, u "Z"), (2, u "takes"), (2, u "rests"), (2, u "wholeOrNothing"), (0, .fieldref 1 59), (0, .nameAndType 60 25), (0, u "ALL"), (22, u "of"), (0, u "(I)Lcom/example/fairmark/fairmark/OrderType;")] 6

def k6c0 : Code := { maxStack := 2, maxLocals := 5, code := prog_4_method_4_code, exceptionTable := #[], attributes := #[] }
def k6m0 : Method := { name := "of", desc := "(I)Lcom/example/fairmark/fairmark/OrderType;", sig := { parameters := [.int], returnType := some (.object "com/example/fairmark/fairmark/OrderType") }, accessFlags := 8, code := some k6c0 }
/-- com/example/fairmark/fairmark/OrderType -/
def k6 : Class := { plain "com/example/fairmark/fairmark/OrderType" (some 5) with
  accessFlags := 16432
  interfaces := #[]
  cf := some (fileOf pool6 1 #[] #[{ accessFlags := 8, nameIndex := 83, descriptorIndex := 84, attributes := #[] }] 16432 32 #[] #[{ accessFlags := 16409, nameIndex := 5, descriptorIndex := 6, attributes := #[] }, { accessFlags := 16409, nameIndex := 9, descriptorIndex := 6, attributes := #[] }, { accessFlags := 16409, nameIndex := 12, descriptorIndex := 6, attributes := #[] }, { accessFlags := 16409, nameIndex := 15, descriptorIndex := 6, attributes := #[] }, { accessFlags := 16409, nameIndex := 18, descriptorIndex := 6, attributes := #[] }, { accessFlags := 16409, nameIndex := 21, descriptorIndex := 6, attributes := #[] }, { accessFlags := 16, nameIndex := 43, descriptorIndex := 44, attributes := #[] }, { accessFlags := 16, nameIndex := 47, descriptorIndex := 48, attributes := #[] }, { accessFlags := 16, nameIndex := 51, descriptorIndex := 48, attributes := #[] }, { accessFlags := 16, nameIndex := 54, descriptorIndex := 48, attributes := #[] }, { accessFlags := 16, nameIndex := 57, descriptorIndex := 48, attributes := #[] }, { accessFlags := 26, nameIndex := 60, descriptorIndex := 25, attributes := #[] }, { accessFlags := 4122, nameIndex := 24, descriptorIndex := 25, attributes := #[] }])
  fields := #[{ name := "LIMIT", type := (.object "com/example/fairmark/fairmark/OrderType"), accessFlags := 16409, slot := 0, constantValue := 0 }, { name := "POST_ONLY", type := (.object "com/example/fairmark/fairmark/OrderType"), accessFlags := 16409, slot := 1, constantValue := 0 }, { name := "IMMEDIATE_OR_CANCEL", type := (.object "com/example/fairmark/fairmark/OrderType"), accessFlags := 16409, slot := 2, constantValue := 0 }, { name := "FILL_OR_KILL", type := (.object "com/example/fairmark/fairmark/OrderType"), accessFlags := 16409, slot := 3, constantValue := 0 }, { name := "MARKET", type := (.object "com/example/fairmark/fairmark/OrderType"), accessFlags := 16409, slot := 4, constantValue := 0 }, { name := "MARKET_TO_LIMIT", type := (.object "com/example/fairmark/fairmark/OrderType"), accessFlags := 16409, slot := 5, constantValue := 0 }, { name := "code", type := .int, accessFlags := 16, slot := 3, constantValue := 0 }, { name := "priced", type := .boolean, accessFlags := 16, slot := 4, constantValue := 0 }, { name := "takes", type := .boolean, accessFlags := 16, slot := 5, constantValue := 0 }, { name := "rests", type := .boolean, accessFlags := 16, slot := 6, constantValue := 0 }, { name := "wholeOrNothing", type := .boolean, accessFlags := 16, slot := 7, constantValue := 0 }, { name := "ALL", type := (.array (.object "com/example/fairmark/fairmark/OrderType")), accessFlags := 26, slot := 6, constantValue := 0 }, { name := "$VALUES", type := (.array (.object "com/example/fairmark/fairmark/OrderType")), accessFlags := 4122, slot := 7, constantValue := 0 }]
  methods := #[k6m0]
  instanceTypes := #[(.object "java/lang/String"), .int, .int, .int, .boolean, .boolean, .boolean, .boolean]
  staticTypes := #[(.object "com/example/fairmark/fairmark/OrderType"), (.object "com/example/fairmark/fairmark/OrderType"), (.object "com/example/fairmark/fairmark/OrderType"), (.object "com/example/fairmark/fairmark/OrderType"), (.object "com/example/fairmark/fairmark/OrderType"), (.object "com/example/fairmark/fairmark/OrderType"), (.array (.object "com/example/fairmark/fairmark/OrderType")), (.array (.object "com/example/fairmark/fairmark/OrderType"))]
  resolved := Array.replicate 91 none
  statics := some 0 }

def pool7 : Array CpInfo := pool [(1, u "java/lang/Cloneable"), (0, .class_ 1), (0, u "java/lang/Object"), (0, .class_ 3)] 3

/-- java/lang/Cloneable -/
def k7 : Class := { plain "java/lang/Cloneable" (some 0) with
  accessFlags := 1537
  interfaces := #[]
  cf := some (fileOf pool7 2 #[] #[] 1537 4 #[] #[])
  fields := #[]
  methods := #[]
  instanceTypes := #[]
  staticTypes := #[]
  resolved := Array.replicate 8 none
  statics := none }

/-- the primitive byte -/
def k8 : Class := { plain "byte" none with kind := .primitive 'B', accessFlags := 0x411 }
/-- [B -/
def k9 : Class := { plain "[B" (some 0) with kind := .array 8 .byte, interfaces := #[7, 4], accessFlags := 1041 }

/-- the primitive int -/
def k10 : Class := { plain "int" none with kind := .primitive 'I', accessFlags := 0x411 }
/-- [I -/
def k11 : Class := { plain "[I" (some 0) with kind := .array 10 .int, interfaces := #[7, 4], accessFlags := 1041 }

/-- [Lcom/example/fairmark/fairmark/OrderType; -/
def k12 : Class := { plain "[Lcom/example/fairmark/fairmark/OrderType;" (some 0) with kind := .array 6 (.object "com/example/fairmark/fairmark/OrderType"), interfaces := #[7, 4], accessFlags := 1041 }

def heap : Heap := #[{ cls := 6, slots := #[.ref 2, .ref 3, .ref 4, .ref 5, .ref 6, .ref 7, .ref 1, .null], vm := .statics 6 },
  { cls := 12, slots := #[.ref 2, .ref 3, .ref 4, .ref 5, .ref 6, .ref 7], vm := .none },
  { cls := 6, slots := #[.null, .int 0, .int 0, .int 1, .int 0, .int 0, .int 0, .int 0], vm := .none },
  { cls := 6, slots := #[.null, .int 0, .int 0, .int 2, .int 0, .int 0, .int 0, .int 0], vm := .none },
  { cls := 6, slots := #[.null, .int 0, .int 0, .int 3, .int 0, .int 0, .int 0, .int 0], vm := .none },
  { cls := 6, slots := #[.null, .int 0, .int 0, .int 4, .int 0, .int 0, .int 0, .int 0], vm := .none },
  { cls := 6, slots := #[.null, .int 0, .int 0, .int 5, .int 0, .int 0, .int 0, .int 0], vm := .none },
  { cls := 6, slots := #[.null, .int 0, .int 0, .int 6, .int 0, .int 0, .int 0, .int 0], vm := .none }]
def classes : Array Class := #[k0, k1, k2, k3, k4, k5, k6, k7, k8, k9, k10, k11, k12]
def interned : List (Array UInt16 × Addr) := []
def slotsUsed : Nat := 62
def theMethod : MethodId := ⟨1, 1⟩
def args0 : Array Value := #[.int 5, .int 7]
def aboutOver (below : List Frame) : State where
  vm := { classes := classes, interned := interned.toArray }
  heap := heap
  slotsUsed := slotsUsed
  threads := #[{ frames := .invoking theMethod args0 :: below }]
def below0 : List Frame := [.native { method := ⟨0, 0⟩, args := #[] }]
def about1 : State := aboutOver below0
def p0 : Program := .bare "" "" ""
def e0 : Env := launch0.env 0 0 0
theorem w_frames : about1.frames = Frame.invoking theMethod args0 :: below0 := rfl
set_option maxRecDepth 65536 in
theorem w_args : argsFit about1.vm theMethod args0 = true := by decide +kernel
set_option maxRecDepth 65536 in
theorem w_heap : heapFits about1 = true := by decide +kernel
set_option maxRecDepth 65536 in
theorem w_runnable : about1.curStatus? = some .runnable := by decide +kernel
set_option maxRecDepth 65536 in
theorem w_alone : about1.alone = true := by decide +kernel
set_option maxRecDepth 65536 in
theorem w_named : about1.methodNamed? x = some theMethod := by decide +kernel
set_option maxRecDepth 65536 in
theorem w_hears : about1.hears theMethod below0 = true := by decide +kernel
set_option maxRecDepth 65536 in
theorem w_ripe : about1.ripe theMethod args0 below0 = true := by decide +kernel
theorem w_running : about1.status = .running := rfl
set_option maxRecDepth 65536 in
theorem w_room : about1.hasRoom e0.platform room_1 = true :=
  launch0.hasRoom_least _ room_1 (by decide +kernel) (by decide +kernel) (by decide +kernel) (by decide +kernel) (by decide +kernel) (by decide +kernel)
theorem allAtoms_all (ts : List Jvm.Cond) (a : Array Jvm.Value) (st : Jvm.State) : (allAtoms ts).before a st = ts.all (fun c => c.before a st) := by
  induction ts with
  | nil => rfl
  | cons c t ih =>
    show (Jvm.Cond.and c (allAtoms t)).before a st = _
    rw [Jvm.Cond.before_and, ih, List.all_cons]
def words1 : List Jvm.Cond := Jvm.Cond.code x code maxLocals ret :: tables_1
/-- a 'code' word, met by the world's own term for the bytes: nothing is compared byte by byte -/
theorem code_word {y : MethodName} {bytes : ByteArray} {mx : Nat} {rt : Option FieldType} {a : Array Value} {s : State} {m : MethodId} {meth : Method} {c : Code} (h1 : s.methodNamed? y = some m) (h2 : s.vm.method? m = some meth) (h3 : meth.code = some c) (h4 : c.code = bytes)
    (h5 : (c.maxLocals == mx && c.exceptionTable.isEmpty && decide (c.maxStack ≤ mostOperands) && decide (meth.sig.returnType = rt) && !meth.locks && decide (parseMethodDescriptor y.desc = some meth.sig)) = true) : (Jvm.Cond.code y bytes mx rt).before a s = true := by
  simp only [Bool.and_eq_true, beq_iff_eq, Bool.not_eq_true', decide_eq_true_eq] at h5
  obtain ⟨⟨⟨⟨⟨g1, g2⟩, g3⟩, g4⟩, g5⟩, g6⟩ := h5
  simp [Cond.before, Cond.holds, Cond.value, h1, h2, h3, h4, g1, g2, g3, g4, g5, g6]
def isCode : Jvm.Cond → Bool
  | .code _ _ _ _ => true
  | _ => false
theorem all_split {L : List Jvm.Cond} {P : Jvm.Cond → Bool} (h1 : L.all (fun c => isCode c || P c) = true) (h2 : ∀ c ∈ L.filter isCode, P c = true) : L.all P = true := by
  refine List.all_eq_true.mpr fun c hc => ?_
  have h := List.all_eq_true.mp h1 c hc
  rcases Bool.eq_false_or_eq_true (isCode c) with hi | hi
  · exact h2 c (List.mem_filter.mpr ⟨hc, hi⟩)
  · simpa [hi] using h
set_option maxRecDepth 65536 in
theorem w_c0 : (Jvm.Cond.code x code maxLocals ret).before args0 about1 = true := code_word (m := ⟨1, 1⟩) (meth := k1m1) (c := k1c1) (by decide +kernel) rfl rfl rfl (by decide +kernel)
set_option maxRecDepth 65536 in
theorem w_c1 : (Jvm.Cond.code ({ cls := "com/example/fairmark/fairmark/OrderType", name := "of", desc := "(I)Lcom/example/fairmark/fairmark/OrderType;" } : Jvm.MethodName) prog_4_method_4_code (5 : Nat) (Option.some (Jvm.ClassFile.FieldType.object "com/example/fairmark/fairmark/OrderType"))).before args0 about1 = true := code_word (m := ⟨6, 0⟩) (meth := k6m0) (c := k6c0) (by decide +kernel) rfl rfl rfl (by decide +kernel)
set_option maxRecDepth 65536 in
theorem w_c2 : (Jvm.Cond.code ({ cls := "com/example/fairmark/fairmark/OrderTypeOfPinLaw", name := "expected", desc := "(I)Lcom/example/fairmark/fairmark/OrderType;" } : Jvm.MethodName) method_3_code (1 : Nat) (Option.some (Jvm.ClassFile.FieldType.object "com/example/fairmark/fairmark/OrderType"))).before args0 about1 = true := code_word (m := ⟨1, 2⟩) (meth := k1m2) (c := k1c2) (by decide +kernel) rfl rfl rfl (by decide +kernel)
def codes1 : List Jvm.Cond := [Jvm.Cond.code x code maxLocals ret, Jvm.Cond.code ({ cls := "com/example/fairmark/fairmark/OrderType", name := "of", desc := "(I)Lcom/example/fairmark/fairmark/OrderType;" } : Jvm.MethodName) prog_4_method_4_code (5 : Nat) (Option.some (Jvm.ClassFile.FieldType.object "com/example/fairmark/fairmark/OrderType")), Jvm.Cond.code ({ cls := "com/example/fairmark/fairmark/OrderTypeOfPinLaw", name := "expected", desc := "(I)Lcom/example/fairmark/fairmark/OrderType;" } : Jvm.MethodName) method_3_code (1 : Nat) (Option.some (Jvm.ClassFile.FieldType.object "com/example/fairmark/fairmark/OrderType"))]
set_option maxRecDepth 65536 in
theorem codes_eq : words1.filter isCode = codes1 := rfl
theorem w_codes : ∀ c ∈ words1.filter isCode, c.before args0 about1 = true := by
  rw [codes_eq]
  intro c hc
  simp only [codes1, List.mem_cons, List.not_mem_nil, or_false] at hc
  rcases hc with rfl | rfl | rfl
  · exact w_c0
  · exact w_c1
  · exact w_c2
set_option maxRecDepth 65536 in
theorem w_t1 : (words1.take 24).all (fun c => isCode c || c.before args0 about1) = true := by decide +kernel
set_option maxRecDepth 65536 in
theorem w_t2 : (words1.drop 24).all (fun c => isCode c || c.before args0 about1) = true := by decide +kernel
theorem w_tables : (allAtoms (Jvm.Cond.code x code maxLocals ret :: tables_1)).before args0 about1 = true := by
  rw [allAtoms_all]
  show words1.all (fun c => c.before args0 about1) = true
  refine all_split ?_ w_codes
  rw [← List.take_append_drop 24 words1, List.all_append, w_t1, w_t2]
  rfl
set_option maxRecDepth 65536 in
theorem w_case : (Jvm.Cond.and given_1 narrow_1).before args0 about1 = true := by decide +kernel
theorem w_applies : (headSpec (Jvm.Cond.code x code maxLocals ret :: tables_1) room_1).applies x e0.platform about1 = true :=
  (Spec.applies_iff w_frames).mpr ⟨w_running, w_runnable, w_alone, w_named, w_hears, w_ripe, w_room, w_tables⟩
theorem atStart : AtStart classFile x code maxLocals ret World_1 tables_1 room_1 Calls_1 rest_1 Pre_1 launch0 p0 e0 about1 theMethod args0 below0 :=
  ⟨lists_1, trivial, launch0.admits_env _ _ _, launch0.least_env, fairChoices_fair.cas, fairChoices_fair.clock, w_frames, w_args, w_heap, w_applies, trivial, trivial, w_case⟩
end start1
theorem witness_1 : WitnessClaimed_1 := ⟨start1.p0, start1.e0, start1.about1, start1.theMethod, start1.args0, start1.below0, start1.atStart⟩
end Jvm.Pilot.@@N@@
