import JvmDerived
import JvmDerived.Pilot.@@N@@Statement
import JvmDerived.Pilot.@@N@@Code
set_option linter.unusedVariables false
set_option linter.unusedSimpArgs false
namespace Jvm.RoadKit
open Sem ClassFile Op Lib Jvm.Stand Jvm.Free Jvm.LawKit
section New
variable {p : Program} {l : Launch} {e : Env} {R : Room} {s : State} {m : MethodId} {args : Array Value} {below : List Frame} {meth : Method} {c : Code} {T : State} {locs : List Loc} {cells slots : Nat}
theorem retI (X : Stand p l e R s m args below meth c T locs cells slots) (hx : p.tables.exec = Jvm.exec) {pc : Nat} {Ls : Array Slot} {z : Int32} {rest : List Value} (hret : meth.sig.returnType = some .int) (hd : decode c.code pc = .ok (.ireturn, 1)) {fs : List Frame}
    (hl : ∀ (f : JFrame) (acts : List Action), f.method = m → f.locked = none → f.entered = [] → (doReturn e (T.setTop f) acts (some (.int z))).1 = T.setFrames fs) : Steps p.tables e below (T.setTop (mkF m pc Ls (.int z :: rest))) (T.setFrames fs) := by
  have hm' : T.vm.method? m = some meth := X.method'
  have hn : narrow .int (.int z) = .int z := rfl
  show Steps p.tables e below (T.setTop { method := m, pc := pc, locals := Ls, stack := _ :: rest, locked := none }) _
  jvm_step X.here [X.here.top, hx, hd, hm', hret, hn]
  first | (intro acts; rw [hl _ acts rfl rfl rfl]) | rw [hl _ _ rfl rfl rfl]
  exact Steps.refl _
end New
end Jvm.RoadKit
namespace Jvm.Pilot.@@N@@
open Jvm Jvm.ClassFile Sem Op Lib Jvm.Free Jvm.Stand Jvm.LawKit Jvm.RoadKit Bundle Jvm.Pilot.@@N@@.Jvm.D Jvm.Free.Fl
theorem d4_0 : decode jdk_2809_method_2_code 0 = .ok (.aload_n 0, 1) := by decide +kernel
theorem d4_1 : decode jdk_2809_method_2_code 1 = .ok (.invokespecial 1, 3) := by decide +kernel
theorem d4_4 : decode jdk_2809_method_2_code 4 = .ok (.return_, 1) := by decide +kernel
theorem pn_4 : plainName "java/util/concurrent/atomic/AtomicReference" = true := by first | (simp [plainName, overriddenIn]; done) | decide +kernel
theorem ef_4 (m : MethodId) (o0 : Addr) : entryFrame m #[(.ref o0)] 1 = mkF m 0 #[.val (.ref o0)] [] := by first | (simp [entryFrame, mkF, argsToLocals, Value.category]; done) | rfl
def Q4 (Z : State) (o0 : Addr) (h0 : Heap) (n0 : Nat) (v : Option Value) (h : Heap) (L : List Loc) : Prop := v = none ∧ Fr n0 L ∧ h = h0
set_option maxRecDepth 65536 in
set_option maxHeartbeats 40000000 in
theorem rm4 (l : Launch) (Z : State) (a0 : Array Value) (hw : ∀ d ∈ tables_1, d.before a0 Z = true) (ws : List Jvm.Cond) (o0 : Addr) (h0 : Heap) (n0 : Nat) (Z0 : n0 ≤ h0.size) :
    MetFree l (⟨"java/util/concurrent/atomic/AtomicReference", "<init>", "()V"⟩ : MethodName) (head1 (Jvm.Cond.code (⟨"java/util/concurrent/atomic/AtomicReference", "<init>", "()V"⟩ : MethodName) jdk_2809_method_2_code 1 none :: ws) ({ frames := 1, cells := 0, slots := 0, locals := 12 } : Room)) (fun a U => a = #[(.ref o0)] ∧ Z.Warmed39 U.vm ∧ U.heap = h0) (fun _ _ _ _ _ => True) (fun _ U o U' => ∃ v L, o = .returned v ∧ Q4 Z o0 h0 n0 v U'.heap L ∧ FrameEnd U o U' L ({ frames := 1, cells := 0, slots := 0, locals := 12 } : Room).cells ({ frames := 1, cells := 0, slots := 0, locals := 12 } : Room).slots) := by
  refine MetFree.of_bodySF (plainFor_of_name pn_4) hisR ?_
  intro p e s m args below meth c s₁ Bd hml0 hP hK
  obtain ⟨rfl, hZ, hh⟩ := hP
  have hx := Bd.exec
  have hby := Bd.bytes
  have hml : c.maxLocals = 1 := hml0
  have hown : s.vm.findClass "java/util/concurrent/atomic/AtomicReference" = some m.cls := findClass_of_methodNamed Bd.named
  have hnm := (name_of_methodNamed Bd.named Bd.method).1
  have X0 : Stand p l e ({ frames := 1, cells := 0, slots := 0, locals := 12 } : Room) s m #[(.ref o0)] below meth c s₁ [] 0 0 := Stand.of_body Bd
  have e0 : s₁.heap = h0 := by rw [← hh, Bd.state]; rfl
  have N0 := Fr.nil n0
  obtain ⟨P, pre0, fin⟩ : ∃ P : State → Prop, (∀ t, Steps p.tables e below (s₁.setTop (mkF m 0 #[.val (.ref o0)] [])) t → P t) ∧ (∀ t, P t → Steps p.tables e below (s₁.setTop (entryFrame m #[(.ref o0)] 1)) t) := ⟨fun t => Steps p.tables e below (s₁.setTop (entryFrame m #[(.ref o0)] 1)) t, fun t k => castTop (ef_4 m o0) k, fun t k => k⟩
  have K0 : Keep h0 h0 [] := Keep.refl _ _
  have pre1 : ∀ t, Steps p.tables e below (s₁.setTop (mkF m 1 #[.val (.ref o0)] [(.ref o0)])) t → P t := fun t k => pre0 t (by
      show Steps p.tables e below (s₁.setTop (mkF m 0 #[.val (.ref o0)] [])) _
      refine XS.aloadN X0.here hx rfl (hb hby d4_0) rfl rfl ?_
      exact k)
  obtain ⟨T2, X2, e2, st2⟩ := initO X0 hx hZ hown (hw _ (List.mem_of_getElem? (i := 23) rfl)) (hw _ (List.mem_of_getElem? (i := 15) rfl)) (hw _ (List.mem_of_getElem? (i := 16) rfl)) e0 (g := (mkF m 1 #[.val (.ref o0)] [(.ref o0)])) rfl (by rw [hml]; rfl) rfl (hb hby d4_1) (by decide) (W := 0) (by show 2 * 0 + _ ≤ _; exact Nat.le_of_eq rfl) (by decide)
  have pre2 : ∀ t, Steps p.tables e below (T2.setTop (mkF m 4 #[.val (.ref o0)] [])) t → P t := fun t k => pre1 t (st2 _ k)
  obtain ⟨fs, hr, hrun, hended, hW, hsame⟩ := X2.leave (v := none) (fun _ => rfl)
  refine ⟨_, _, fin _ (pre2 _ ?_), hrun, hended, _, _, rfl, ?_, ⟨_, rfl⟩, hW, hsame.mono (by decide) (by decide)⟩
  · show Steps p.tables e below (T2.setTop (mkF m 4 #[.val (.ref o0)] [])) _
    exact X2.returnOut hx Bd.returns (hb hby d4_4) hr
  · show Q4 Z o0 h0 n0 _ T2.heap _
    rw [e2]
    exact ⟨rfl, N0, rfl⟩
theorem own_pd0 : parseMethodDescriptor "()V" = some ⟨[], none⟩ := by decide +kernel
theorem d2_0 : decode prog_29_method_3_code 0 = .ok (.aload_n 0, 1) := by decide +kernel
theorem d2_1 : decode prog_29_method_3_code 1 = .ok (.invokespecial 13, 3) := by decide +kernel
theorem d2_4 : decode prog_29_method_3_code 4 = .ok (.aload_n 0, 1) := by decide +kernel
theorem d2_5 : decode prog_29_method_3_code 5 = .ok (.new 18, 3) := by decide +kernel
theorem d2_8 : decode prog_29_method_3_code 8 = .ok (.dup, 1) := by decide +kernel
theorem d2_9 : decode prog_29_method_3_code 9 = .ok (.invokespecial 20, 3) := by decide +kernel
theorem d2_12 : decode prog_29_method_3_code 12 = .ok (.putfield 21, 3) := by decide +kernel
theorem d2_15 : decode prog_29_method_3_code 15 = .ok (.iload_n 1, 1) := by decide +kernel
theorem d2_16 : decode prog_29_method_3_code 16 = .ok (.iconst 1, 1) := by decide +kernel
theorem d2_17 : decode prog_29_method_3_code 17 = .ok (.if_icmp .lt 25, 3) := by decide +kernel
theorem d2_20 : decode prog_29_method_3_code 20 = .ok (.iload 4, 2) := by decide +kernel
theorem d2_22 : decode prog_29_method_3_code 22 = .ok (.iconst 1, 1) := by decide +kernel
theorem d2_23 : decode prog_29_method_3_code 23 = .ok (.if_icmp .lt 19, 3) := by decide +kernel
theorem d2_26 : decode prog_29_method_3_code 26 = .ok (.dload 5, 2) := by decide +kernel
theorem d2_28 : decode prog_29_method_3_code 28 = .ok (.dconst 0, 1) := by decide +kernel
theorem d2_29 : decode prog_29_method_3_code 29 = .ok (.dcmp .l, 1) := by decide +kernel
theorem d2_30 : decode prog_29_method_3_code 30 = .ok (.ifCond .le 12, 3) := by decide +kernel
theorem d2_33 : decode prog_29_method_3_code 33 = .ok (.dload 5, 2) := by decide +kernel
theorem d2_35 : decode prog_29_method_3_code 35 = .ok (.ldc2_w 27, 3) := by decide +kernel
theorem d2_38 : decode prog_29_method_3_code 38 = .ok (.dcmp .g, 1) := by decide +kernel
theorem d2_39 : decode prog_29_method_3_code 39 = .ok (.ifCond .lt 21, 3) := by decide +kernel
theorem d2_60 : decode prog_29_method_3_code 60 = .ok (.aload_n 0, 1) := by decide +kernel
theorem d2_61 : decode prog_29_method_3_code 61 = .ok (.iload_n 1, 1) := by decide +kernel
theorem d2_62 : decode prog_29_method_3_code 62 = .ok (.putfield 38, 3) := by decide +kernel
theorem d2_65 : decode prog_29_method_3_code 65 = .ok (.aload_n 0, 1) := by decide +kernel
theorem d2_66 : decode prog_29_method_3_code 66 = .ok (.aload_n 2, 1) := by decide +kernel
theorem d2_67 : decode prog_29_method_3_code 67 = .ok (.putfield 41, 3) := by decide +kernel
theorem d2_70 : decode prog_29_method_3_code 70 = .ok (.aload_n 0, 1) := by decide +kernel
theorem d2_71 : decode prog_29_method_3_code 71 = .ok (.aload_n 3, 1) := by decide +kernel
theorem d2_72 : decode prog_29_method_3_code 72 = .ok (.putfield 45, 3) := by decide +kernel
theorem d2_75 : decode prog_29_method_3_code 75 = .ok (.aload_n 0, 1) := by decide +kernel
theorem d2_76 : decode prog_29_method_3_code 76 = .ok (.aload_n 2, 1) := by decide +kernel
theorem d2_77 : decode prog_29_method_3_code 77 = .ok (.ifnonnull 7, 3) := by decide +kernel
theorem d2_80 : decode prog_29_method_3_code 80 = .ok (.iload_n 1, 1) := by decide +kernel
theorem d2_81 : decode prog_29_method_3_code 81 = .ok (.goto 7, 3) := by decide +kernel
theorem d2_88 : decode prog_29_method_3_code 88 = .ok (.putfield 52, 3) := by decide +kernel
theorem d2_91 : decode prog_29_method_3_code 91 = .ok (.aload_n 0, 1) := by decide +kernel
theorem d2_92 : decode prog_29_method_3_code 92 = .ok (.iload 4, 2) := by decide +kernel
theorem d2_94 : decode prog_29_method_3_code 94 = .ok (.putfield 54, 3) := by decide +kernel
theorem d2_97 : decode prog_29_method_3_code 97 = .ok (.aload_n 0, 1) := by decide +kernel
theorem d2_98 : decode prog_29_method_3_code 98 = .ok (.dload 5, 2) := by decide +kernel
theorem d2_100 : decode prog_29_method_3_code 100 = .ok (.putfield 57, 3) := by decide +kernel
theorem d2_103 : decode prog_29_method_3_code 103 = .ok (.aload_n 0, 1) := by decide +kernel
theorem d2_104 : decode prog_29_method_3_code 104 = .ok (.iload 7, 2) := by decide +kernel
theorem d2_106 : decode prog_29_method_3_code 106 = .ok (.putfield 61, 3) := by decide +kernel
theorem d2_109 : decode prog_29_method_3_code 109 = .ok (.return_, 1) := by decide +kernel
theorem pn_2 : plainName "com/example/lexivec/lexivec/core/ScalarQuantizer" = true := by first | (simp [plainName, overriddenIn]; done) | decide +kernel
theorem ef_2 (m : MethodId) (o0 : Addr) (p1 : Int32) (p4 : Int32) (u5 : UInt64) (p6 : Int32) : entryFrame m #[(.ref o0), (.int p1), .null, .null, (.int p4), (.double u5), (.int p6)] 8 = mkF m 0 #[.val (.ref o0), .val (.int p1), .val .null, .val .null, .val (.int p4), .val (.double u5), .second, .val (.int p6)] [] := by first | (simp [entryFrame, mkF, argsToLocals, Value.category]; done) | rfl
def Q2 (Z : State) (o0 : Addr) (p1 : Int32) (p4 : Int32) (u5 : UInt64) (p6 : Int32) (h0 : Heap) (n0 : Nat) (v : Option Value) (h : Heap) (L : List Loc) : Prop := v = none ∧ Fr n0 L ∧ Keep h0 h [o0] ∧ Exa Z h o0 "com/example/lexivec/lexivec/core/ScalarQuantizer" ∧ Fld Z h o0 "com/example/lexivec/lexivec/core/ScalarQuantizer" "dimension" "I" (.int p1) ∧ Fld Z h o0 "com/example/lexivec/lexivec/core/ScalarQuantizer" "expansion" "Lcom/example/lexivec/lexivec/core/RandomExpansion;" .null ∧ Fld Z h o0 "com/example/lexivec/lexivec/core/ScalarQuantizer" "cells" "Lcom/example/lexivec/lexivec/core/Cells;" .null ∧ Fld Z h o0 "com/example/lexivec/lexivec/core/ScalarQuantizer" "components" "I" (.int p1) ∧ Fld Z h o0 "com/example/lexivec/lexivec/core/ScalarQuantizer" "keep" "I" (.int p4) ∧ Fld Z h o0 "com/example/lexivec/lexivec/core/ScalarQuantizer" "scale" "D" (.double u5) ∧ Fld Z h o0 "com/example/lexivec/lexivec/core/ScalarQuantizer" "normalizes" "Z" (.int (nar .boolean p6))
set_option maxRecDepth 65536 in
set_option maxHeartbeats 40000000 in
theorem rm2 (l : Launch) (Z : State) (a0 : Array Value) (hw : ∀ d ∈ tables_1, d.before a0 Z = true) (ws : List Jvm.Cond) (o0 : Addr) (p1 : Int32) (p4 : Int32) (u5 : UInt64) (p6 : Int32) (h0 : Heap) (n0 : Nat) (Z0 : n0 ≤ h0.size) (E_o0 : Exa Z h0 o0 "com/example/lexivec/lexivec/core/ScalarQuantizer") (F_spare_o0 : Fld Z h0 o0 "com/example/lexivec/lexivec/core/ScalarQuantizer" "spare" "Ljava/util/concurrent/atomic/AtomicReference;" .null) (F_dimension_o0 : Fld Z h0 o0 "com/example/lexivec/lexivec/core/ScalarQuantizer" "dimension" "I" (.int (0 : Int32))) (F_expansion_o0 : Fld Z h0 o0 "com/example/lexivec/lexivec/core/ScalarQuantizer" "expansion" "Lcom/example/lexivec/lexivec/core/RandomExpansion;" .null) (F_cells_o0 : Fld Z h0 o0 "com/example/lexivec/lexivec/core/ScalarQuantizer" "cells" "Lcom/example/lexivec/lexivec/core/Cells;" .null) (F_components_o0 : Fld Z h0 o0 "com/example/lexivec/lexivec/core/ScalarQuantizer" "components" "I" (.int (0 : Int32))) (F_keep_o0 : Fld Z h0 o0 "com/example/lexivec/lexivec/core/ScalarQuantizer" "keep" "I" (.int (0 : Int32))) (F_scale_o0 : Fld Z h0 o0 "com/example/lexivec/lexivec/core/ScalarQuantizer" "scale" "D" (.double 0)) (F_normalizes_o0 : Fld Z h0 o0 "com/example/lexivec/lexivec/core/ScalarQuantizer" "normalizes" "Z" (.int (0 : Int32))) (g_o0 : n0 ≤ o0) (hd1 : ¬ p1 < (1 : Int32)) (hk1 : ¬ p4 < (1 : Int32)) (hs0 : (0 : Int32) < (cmpValue (FP.dcmp u5 FP.dconst0) .l)) (hsi : (cmpValue (FP.dcmp u5 (9218868437227405312 : UInt64)) .g) < (0 : Int32)) :
    MetFree l (⟨"com/example/lexivec/lexivec/core/ScalarQuantizer", "<init>", "(ILcom/example/lexivec/lexivec/core/RandomExpansion;Lcom/example/lexivec/lexivec/core/Cells;IDZ)V"⟩ : MethodName) (head1 (Jvm.Cond.code (⟨"com/example/lexivec/lexivec/core/ScalarQuantizer", "<init>", "(ILcom/example/lexivec/lexivec/core/RandomExpansion;Lcom/example/lexivec/lexivec/core/Cells;IDZ)V"⟩ : MethodName) prog_29_method_3_code 8 none :: ws) ({ frames := 2, cells := 1, slots := 1, locals := 26 } : Room)) (fun a U => a = #[(.ref o0), (.int p1), .null, .null, (.int p4), (.double u5), (.int p6)] ∧ Z.Warmed39 U.vm ∧ U.heap = h0) (fun _ _ _ _ _ => True) (fun _ U o U' => ∃ v L, o = .returned v ∧ Q2 Z o0 p1 p4 u5 p6 h0 n0 v U'.heap L ∧ FrameEnd U o U' L ({ frames := 2, cells := 1, slots := 1, locals := 26 } : Room).cells ({ frames := 2, cells := 1, slots := 1, locals := 26 } : Room).slots) := by
  refine MetFree.of_bodySF (plainFor_of_name pn_2) hisR ?_
  intro p e s m args below meth c s₁ Bd hml0 hP hK
  obtain ⟨rfl, hZ, hh⟩ := hP
  have hx := Bd.exec
  have hby := Bd.bytes
  have hml : c.maxLocals = 8 := hml0
  have hown : s.vm.findClass "com/example/lexivec/lexivec/core/ScalarQuantizer" = some m.cls := findClass_of_methodNamed Bd.named
  have hnm := (name_of_methodNamed Bd.named Bd.method).1
  have X0 : Stand p l e ({ frames := 2, cells := 1, slots := 1, locals := 26 } : Room) s m #[(.ref o0), (.int p1), .null, .null, (.int p4), (.double u5), (.int p6)] below meth c s₁ [] 0 0 := Stand.of_body Bd
  have e0 : s₁.heap = h0 := by rw [← hh, Bd.state]; rfl
  have N0 := Fr.nil n0
  obtain ⟨P, pre0, fin⟩ : ∃ P : State → Prop, (∀ t, Steps p.tables e below (s₁.setTop (mkF m 0 #[.val (.ref o0), .val (.int p1), .val .null, .val .null, .val (.int p4), .val (.double u5), .second, .val (.int p6)] [])) t → P t) ∧ (∀ t, P t → Steps p.tables e below (s₁.setTop (entryFrame m #[(.ref o0), (.int p1), .null, .null, (.int p4), (.double u5), (.int p6)] 8)) t) := ⟨fun t => Steps p.tables e below (s₁.setTop (entryFrame m #[(.ref o0), (.int p1), .null, .null, (.int p4), (.double u5), (.int p6)] 8)) t, fun t k => castTop (ef_2 m o0 p1 p4 u5 p6) k, fun t k => k⟩
  have K0 : Keep h0 h0 [o0] := Keep.refl _ _
  have pre1 : ∀ t, Steps p.tables e below (s₁.setTop (mkF m 1 #[.val (.ref o0), .val (.int p1), .val .null, .val .null, .val (.int p4), .val (.double u5), .second, .val (.int p6)] [(.ref o0)])) t → P t := fun t k => pre0 t (by
      show Steps p.tables e below (s₁.setTop (mkF m 0 #[.val (.ref o0), .val (.int p1), .val .null, .val .null, .val (.int p4), .val (.double u5), .second, .val (.int p6)] [])) _
      refine XS.aloadN X0.here hx rfl (hb hby d2_0) rfl rfl ?_
      exact k)
  obtain ⟨T2, X2, e2, st2⟩ := initO X0 hx hZ hown (hw _ (List.mem_of_getElem? (i := 14) rfl)) (hw _ (List.mem_of_getElem? (i := 15) rfl)) (hw _ (List.mem_of_getElem? (i := 16) rfl)) e0 (g := (mkF m 1 #[.val (.ref o0), .val (.int p1), .val .null, .val .null, .val (.int p4), .val (.double u5), .second, .val (.int p6)] [(.ref o0)])) rfl (by rw [hml]; rfl) rfl (hb hby d2_1) (by decide) (W := 0) (by show 2 * 0 + _ ≤ _; exact Nat.le_of_eq rfl) (by decide)
  have pre2 : ∀ t, Steps p.tables e below (T2.setTop (mkF m 4 #[.val (.ref o0), .val (.int p1), .val .null, .val .null, .val (.int p4), .val (.double u5), .second, .val (.int p6)] [])) t → P t := fun t k => pre1 t (st2 _ k)
  have pre3 : ∀ t, Steps p.tables e below (T2.setTop (mkF m 5 #[.val (.ref o0), .val (.int p1), .val .null, .val .null, .val (.int p4), .val (.double u5), .second, .val (.int p6)] [(.ref o0)])) t → P t := fun t k => pre2 t (by
      show Steps p.tables e below (T2.setTop (mkF m 4 #[.val (.ref o0), .val (.int p1), .val .null, .val .null, .val (.int p4), .val (.double u5), .second, .val (.int p6)] [])) _
      refine XS.aloadN X2.here hx rfl (hb hby d2_4) rfl rfl ?_
      exact k)
  obtain ⟨T4, h4, X4, e4, E4, A4, D4, -, st4⟩ := newO X2 hx hZ hown (hw _ (List.mem_of_getElem? (i := 17) rfl)) (hw _ (List.mem_of_getElem? (i := 18) rfl)) (hw _ (List.mem_of_getElem? (i := 19) rfl)) e2 (g := (mkF m 5 #[.val (.ref o0), .val (.int p1), .val .null, .val .null, .val (.int p4), .val (.double u5), .second, .val (.int p6)] [(.ref o0)])) rfl (hb hby d2_5) (by decide) (by decide)
  obtain ⟨b4, g4⟩ : ∃ z, z = h0.size := ⟨_, rfl⟩
  have g_b4 : n0 ≤ b4 := Nat.le_trans Z0 (Nat.le_of_eq g4.symm)
  have sz_b4 : h0.size ≤ b4 := Nat.le_trans K0.1 (Nat.le_of_eq g4.symm)
  rw [← g4] at A4 D4 st4
  have pre4 : ∀ t, Steps p.tables e below (T4.setTop (mkF m 8 #[.val (.ref o0), .val (.int p1), .val .null, .val .null, .val (.int p4), .val (.double u5), .second, .val (.int p6)] [(.ref b4), (.ref o0)])) t → P t := fun t k => pre3 t (st4 _ k)
  have c5 : n0 ≤ h4.size := Nat.le_trans Z0 E4.1
  have c6 : Exa Z h4 o0 "com/example/lexivec/lexivec/core/ScalarQuantizer" := E_o0.ext E4
  have c7 : Fld Z h4 o0 "com/example/lexivec/lexivec/core/ScalarQuantizer" "spare" "Ljava/util/concurrent/atomic/AtomicReference;" .null := F_spare_o0.ext E4
  have c8 : Fld Z h4 o0 "com/example/lexivec/lexivec/core/ScalarQuantizer" "dimension" "I" (.int (0 : Int32)) := F_dimension_o0.ext E4
  have c9 : Fld Z h4 o0 "com/example/lexivec/lexivec/core/ScalarQuantizer" "expansion" "Lcom/example/lexivec/lexivec/core/RandomExpansion;" .null := F_expansion_o0.ext E4
  have c10 : Fld Z h4 o0 "com/example/lexivec/lexivec/core/ScalarQuantizer" "cells" "Lcom/example/lexivec/lexivec/core/Cells;" .null := F_cells_o0.ext E4
  have c11 : Fld Z h4 o0 "com/example/lexivec/lexivec/core/ScalarQuantizer" "components" "I" (.int (0 : Int32)) := F_components_o0.ext E4
  have c12 : Fld Z h4 o0 "com/example/lexivec/lexivec/core/ScalarQuantizer" "keep" "I" (.int (0 : Int32)) := F_keep_o0.ext E4
  have c13 : Fld Z h4 o0 "com/example/lexivec/lexivec/core/ScalarQuantizer" "scale" "D" (.double 0) := F_scale_o0.ext E4
  have c14 : Fld Z h4 o0 "com/example/lexivec/lexivec/core/ScalarQuantizer" "normalizes" "Z" (.int (0 : Int32)) := F_normalizes_o0.ext E4
  have K15 : Keep h0 h4 [o0] := K0.ext E4
  have pre16 : ∀ t, Steps p.tables e below (T4.setTop (mkF m 9 #[.val (.ref o0), .val (.int p1), .val .null, .val .null, .val (.int p4), .val (.double u5), .second, .val (.int p6)] [(.ref b4), (.ref b4), (.ref o0)])) t → P t := fun t k => pre4 t (by
      show Steps p.tables e below (T4.setTop (mkF m 8 #[.val (.ref o0), .val (.int p1), .val .null, .val .null, .val (.int p4), .val (.double u5), .second, .val (.int p6)] [(.ref b4), (.ref o0)])) _
      refine XS.dup X4.here hx rfl (hb hby d2_8) rfl rfl ?_
      exact k)
  obtain ⟨_, _, ⟨T17, L17, k17, n17⟩, -, X17, ⟨Lc17, hQ17, l17, y17, z17⟩, st17⟩ := X4.specialBack hx (y := (⟨"java/util/concurrent/atomic/AtomicReference", "<init>", "()V"⟩ : MethodName)) rfl hown (mvT hZ (hw _ (List.mem_of_getElem? (i := 20) rfl))) (mvT hZ (hw _ (List.mem_of_getElem? (i := 21) rfl))) (mvT hZ (hw _ (List.mem_of_getElem? (i := 22) rfl))) (by decide) (backOf (W := 2) (rm4 l Z a0 hw [] b4 h4 n0 c5 ) hZ (hw _ (List.mem_of_getElem? (i := 22) rfl)) (hw _ (List.mem_of_getElem? (i := 19) rfl)) (by decide) (by decide)) (g := (mkF m 9 #[.val (.ref o0), .val (.int p1), .val .null, .val .null, .val (.int p4), .val (.double u5), .second, .val (.int p6)] [(.ref b4), (.ref b4), (.ref o0)])) rfl (by rw [hml]; rfl) (Steps.refl _) (a := b4) (argsL := []) (rest := [(.ref b4), (.ref o0)]) (lenOf own_pd0 rfl) rfl (by show 2 * 0 + _ ≤ _; exact Nat.le_of_eq rfl) (hb hby d2_9) (fun _ _ => ⟨rfl, e4, (by decide : 1 + 0 ≤ _), (by decide : 1 + 0 ≤ _)⟩)
  dsimp only [Pt.U, Pt.locs, Pt.cells, Pt.slots] at X17 l17 y17 z17 st17 hQ17
  subst l17 y17 z17
  obtain ⟨rfl, N17q, e17⟩ := hQ17
  have N17 := Fr.app N0 N17q
  have pre17 : ∀ t, Steps p.tables e below (T17.setTop (mkF m 12 #[.val (.ref o0), .val (.int p1), .val .null, .val .null, .val (.int p4), .val (.double u5), .second, .val (.int p6)] [(.ref b4), (.ref o0)])) t → P t := fun t k => pre16 t (st17.trans k)
  obtain ⟨T18, h18, X18, e18, W18, st18⟩ := putF X17 hx hZ hown (host := "") (Or.inl (hw _ (List.mem_of_getElem? (i := 24) rfl))) Via.refl e17 c7 c6 (Or.inr ⟨(hw _ (List.mem_of_getElem? (i := 25) rfl)), rfl, hnm⟩) (hw _ (List.mem_of_getElem? (i := 6) rfl)) (ty := (.object "java/util/concurrent/atomic/AtomicReference")) (by decide) rfl rfl (g := (mkF m 12 #[.val (.ref o0), .val (.int p1), .val .null, .val .null, .val (.int p4), .val (.double u5), .second, .val (.int p6)] [(.ref b4), (.ref o0)])) rfl rfl (hb hby d2_12)
  have pre18 : ∀ t, Steps p.tables e below (T18.setTop (mkF m 15 #[.val (.ref o0), .val (.int p1), .val .null, .val .null, .val (.int p4), .val (.double u5), .second, .val (.int p6)] [])) t → P t := fun t k => pre17 t (st18 _ k)
  have Fw18 := c7.same W18
  have c19 : n0 ≤ h18.size := Nat.le_trans c5 (Keep.of_wr W18).1
  have c20 : Exa Z h18 o0 "com/example/lexivec/lexivec/core/ScalarQuantizer" := c6.wr W18
  have c21 : Fld Z h18 o0 "com/example/lexivec/lexivec/core/ScalarQuantizer" "dimension" "I" (.int (0 : Int32)) := c8.other W18 (Or.inr (slot_ne (Or.inr (hw _ (List.mem_of_getElem? (i := 28) rfl))) (Or.inr (hw _ (List.mem_of_getElem? (i := 25) rfl))) (by decide) (t := .int) (t' := (.object "java/util/concurrent/atomic/AtomicReference")) (by decide) (by decide)))
  have c22 : Fld Z h18 o0 "com/example/lexivec/lexivec/core/ScalarQuantizer" "expansion" "Lcom/example/lexivec/lexivec/core/RandomExpansion;" .null := c9.other W18 (Or.inr (slot_ne (Or.inr (hw _ (List.mem_of_getElem? (i := 30) rfl))) (Or.inr (hw _ (List.mem_of_getElem? (i := 25) rfl))) (by decide) (t := (.object "com/example/lexivec/lexivec/core/RandomExpansion")) (t' := (.object "java/util/concurrent/atomic/AtomicReference")) (by decide) (by decide)))
  have c23 : Fld Z h18 o0 "com/example/lexivec/lexivec/core/ScalarQuantizer" "cells" "Lcom/example/lexivec/lexivec/core/Cells;" .null := c10.other W18 (Or.inr (slot_ne (Or.inr (hw _ (List.mem_of_getElem? (i := 32) rfl))) (Or.inr (hw _ (List.mem_of_getElem? (i := 25) rfl))) (by decide) (t := (.object "com/example/lexivec/lexivec/core/Cells")) (t' := (.object "java/util/concurrent/atomic/AtomicReference")) (by decide) (by decide)))
  have c24 : Fld Z h18 o0 "com/example/lexivec/lexivec/core/ScalarQuantizer" "components" "I" (.int (0 : Int32)) := c11.other W18 (Or.inr (slot_ne (Or.inr (hw _ (List.mem_of_getElem? (i := 34) rfl))) (Or.inr (hw _ (List.mem_of_getElem? (i := 25) rfl))) (by decide) (t := .int) (t' := (.object "java/util/concurrent/atomic/AtomicReference")) (by decide) (by decide)))
  have c25 : Fld Z h18 o0 "com/example/lexivec/lexivec/core/ScalarQuantizer" "keep" "I" (.int (0 : Int32)) := c12.other W18 (Or.inr (slot_ne (Or.inr (hw _ (List.mem_of_getElem? (i := 36) rfl))) (Or.inr (hw _ (List.mem_of_getElem? (i := 25) rfl))) (by decide) (t := .int) (t' := (.object "java/util/concurrent/atomic/AtomicReference")) (by decide) (by decide)))
  have c26 : Fld Z h18 o0 "com/example/lexivec/lexivec/core/ScalarQuantizer" "scale" "D" (.double 0) := c13.other W18 (Or.inr (slot_ne (Or.inr (hw _ (List.mem_of_getElem? (i := 38) rfl))) (Or.inr (hw _ (List.mem_of_getElem? (i := 25) rfl))) (by decide) (t := .double) (t' := (.object "java/util/concurrent/atomic/AtomicReference")) (by decide) (by decide)))
  have c27 : Fld Z h18 o0 "com/example/lexivec/lexivec/core/ScalarQuantizer" "normalizes" "Z" (.int (0 : Int32)) := c14.other W18 (Or.inr (slot_ne (Or.inr (hw _ (List.mem_of_getElem? (i := 40) rfl))) (Or.inr (hw _ (List.mem_of_getElem? (i := 25) rfl))) (by decide) (t := .boolean) (t' := (.object "java/util/concurrent/atomic/AtomicReference")) (by decide) (by decide)))
  have c28 : Exa Z h18 b4 "java/util/concurrent/atomic/AtomicReference" := A4.wr W18
  have K29 : Keep h0 h18 [o0] := K15.wr W18 (Or.inl (List.mem_of_getElem? (i := 0) rfl))
  have N18 := Fr.snoc X18 N17 g_o0
  have pre30 : ∀ t, Steps p.tables e below (T18.setTop (mkF m 62 #[.val (.ref o0), .val (.int p1), .val .null, .val .null, .val (.int p4), .val (.double u5), .second, .val (.int p6)] [(.int p1), (.ref o0)])) t → P t := fun t k => pre18 t (by
      show Steps p.tables e below (T18.setTop (mkF m 15 #[.val (.ref o0), .val (.int p1), .val .null, .val .null, .val (.int p4), .val (.double u5), .second, .val (.int p6)] [])) _
      refine XS.iloadN X18.here hx rfl (hb hby d2_15) rfl ?_
      show Steps p.tables e below (T18.setTop (mkF m 16 #[.val (.ref o0), .val (.int p1), .val .null, .val .null, .val (.int p4), .val (.double u5), .second, .val (.int p6)] [(.int p1)])) _
      refine XS.iconst X18.here hx rfl (hb hby d2_16) ?_
      show Steps p.tables e below (T18.setTop (mkF m 17 #[.val (.ref o0), .val (.int p1), .val .null, .val .null, .val (.int p4), .val (.double u5), .second, .val (.int p6)] [(.int (1 : Int32)), (.int p1)])) _
      refine XS.icmpNo X18.here hx rfl (hb hby d2_17) rfl (flt (show ¬ (p1 < (1 : Int32)) from hd1)).1 ?_
      show Steps p.tables e below (T18.setTop (mkF m 20 #[.val (.ref o0), .val (.int p1), .val .null, .val .null, .val (.int p4), .val (.double u5), .second, .val (.int p6)] [])) _
      refine XS.iload X18.here hx rfl (hb hby d2_20) rfl ?_
      show Steps p.tables e below (T18.setTop (mkF m 22 #[.val (.ref o0), .val (.int p1), .val .null, .val .null, .val (.int p4), .val (.double u5), .second, .val (.int p6)] [(.int p4)])) _
      refine XS.iconst X18.here hx rfl (hb hby d2_22) ?_
      show Steps p.tables e below (T18.setTop (mkF m 23 #[.val (.ref o0), .val (.int p1), .val .null, .val .null, .val (.int p4), .val (.double u5), .second, .val (.int p6)] [(.int (1 : Int32)), (.int p4)])) _
      refine XS.icmpNo X18.here hx rfl (hb hby d2_23) rfl (flt (show ¬ (p4 < (1 : Int32)) from hk1)).1 ?_
      show Steps p.tables e below (T18.setTop (mkF m 26 #[.val (.ref o0), .val (.int p1), .val .null, .val .null, .val (.int p4), .val (.double u5), .second, .val (.int p6)] [])) _
      refine XS.dload X18.here hx rfl (hb hby d2_26) rfl ?_
      show Steps p.tables e below (T18.setTop (mkF m 28 #[.val (.ref o0), .val (.int p1), .val .null, .val .null, .val (.int p4), .val (.double u5), .second, .val (.int p6)] [(.double u5)])) _
      refine XS.dconst0 X18.here hx rfl (hb hby d2_28) rfl ?_
      show Steps p.tables e below (T18.setTop (mkF m 29 #[.val (.ref o0), .val (.int p1), .val .null, .val .null, .val (.int p4), .val (.double u5), .second, .val (.int p6)] [(.double FP.dconst0), (.double u5)])) _
      refine XS.dcmpS X18.here hx rfl (hb hby d2_29) rfl rfl ?_
      show Steps p.tables e below (T18.setTop (mkF m 30 #[.val (.ref o0), .val (.int p1), .val .null, .val .null, .val (.int p4), .val (.double u5), .second, .val (.int p6)] [(.int (cmpValue (FP.dcmp u5 FP.dconst0) .l))])) _
      refine XS.ifNo X18.here hx rfl (hb hby d2_30) rfl ((if0 _ _).trans (tlt (show (0 : Int32) < (cmpValue (FP.dcmp u5 FP.dconst0) .l) from hs0)).2.2.2) ?_
      show Steps p.tables e below (T18.setTop (mkF m 33 #[.val (.ref o0), .val (.int p1), .val .null, .val .null, .val (.int p4), .val (.double u5), .second, .val (.int p6)] [])) _
      refine XS.dload X18.here hx rfl (hb hby d2_33) rfl ?_
      show Steps p.tables e below (T18.setTop (mkF m 35 #[.val (.ref o0), .val (.int p1), .val .null, .val .null, .val (.int p4), .val (.double u5), .second, .val (.int p6)] [(.double u5)])) _
      refine X18.ldc2DoubleC hx hown (mvT hZ (hw _ (List.mem_of_getElem? (i := 26) rfl))) (g := (mkF m 35 #[.val (.ref o0), .val (.int p1), .val .null, .val .null, .val (.int p4), .val (.double u5), .second, .val (.int p6)] [(.double u5)])) rfl (hb hby d2_35) _ ?_
      show Steps p.tables e below (T18.setTop (mkF m 38 #[.val (.ref o0), .val (.int p1), .val .null, .val .null, .val (.int p4), .val (.double u5), .second, .val (.int p6)] [(.double (9218868437227405312 : UInt64)), (.double u5)])) _
      refine XS.dcmpS X18.here hx rfl (hb hby d2_38) rfl rfl ?_
      show Steps p.tables e below (T18.setTop (mkF m 39 #[.val (.ref o0), .val (.int p1), .val .null, .val .null, .val (.int p4), .val (.double u5), .second, .val (.int p6)] [(.int (cmpValue (FP.dcmp u5 (9218868437227405312 : UInt64)) .g))])) _
      refine XS.ifYes X18.here hx rfl (pc0 := 39) (pc' := 60) rfl (hb hby d2_39) rfl ((if0 _ _).trans (tlt (show (cmpValue (FP.dcmp u5 (9218868437227405312 : UInt64)) .g) < (0 : Int32) from hsi)).1) (by decide) (by decide) ?_
      show Steps p.tables e below (T18.setTop (mkF m 60 #[.val (.ref o0), .val (.int p1), .val .null, .val .null, .val (.int p4), .val (.double u5), .second, .val (.int p6)] [])) _
      refine XS.aloadN X18.here hx rfl (hb hby d2_60) rfl rfl ?_
      show Steps p.tables e below (T18.setTop (mkF m 61 #[.val (.ref o0), .val (.int p1), .val .null, .val .null, .val (.int p4), .val (.double u5), .second, .val (.int p6)] [(.ref o0)])) _
      refine XS.iloadN X18.here hx rfl (hb hby d2_61) rfl ?_
      exact k)
  obtain ⟨T31, h31, X31, e31, W31, st31⟩ := putF X18 hx hZ hown (host := "") (Or.inl (hw _ (List.mem_of_getElem? (i := 27) rfl))) Via.refl e18 c21 c20 (Or.inr ⟨(hw _ (List.mem_of_getElem? (i := 28) rfl)), rfl, hnm⟩) (hw _ (List.mem_of_getElem? (i := 6) rfl)) (ty := .int) (by decide) rfl rfl (g := (mkF m 62 #[.val (.ref o0), .val (.int p1), .val .null, .val .null, .val (.int p4), .val (.double u5), .second, .val (.int p6)] [(.int p1), (.ref o0)])) rfl rfl (hb hby d2_62)
  have pre31 : ∀ t, Steps p.tables e below (T31.setTop (mkF m 65 #[.val (.ref o0), .val (.int p1), .val .null, .val .null, .val (.int p4), .val (.double u5), .second, .val (.int p6)] [])) t → P t := fun t k => pre30 t (st31 _ k)
  have Fw31 := c21.same W31
  have c32 : n0 ≤ h31.size := Nat.le_trans c19 (Keep.of_wr W31).1
  have c33 : Exa Z h31 o0 "com/example/lexivec/lexivec/core/ScalarQuantizer" := c20.wr W31
  have c34 : Fld Z h31 o0 "com/example/lexivec/lexivec/core/ScalarQuantizer" "expansion" "Lcom/example/lexivec/lexivec/core/RandomExpansion;" .null := c22.other W31 (Or.inr (slot_ne (Or.inr (hw _ (List.mem_of_getElem? (i := 30) rfl))) (Or.inr (hw _ (List.mem_of_getElem? (i := 28) rfl))) (by decide) (t := (.object "com/example/lexivec/lexivec/core/RandomExpansion")) (t' := .int) (by decide) (by decide)))
  have c35 : Fld Z h31 o0 "com/example/lexivec/lexivec/core/ScalarQuantizer" "cells" "Lcom/example/lexivec/lexivec/core/Cells;" .null := c23.other W31 (Or.inr (slot_ne (Or.inr (hw _ (List.mem_of_getElem? (i := 32) rfl))) (Or.inr (hw _ (List.mem_of_getElem? (i := 28) rfl))) (by decide) (t := (.object "com/example/lexivec/lexivec/core/Cells")) (t' := .int) (by decide) (by decide)))
  have c36 : Fld Z h31 o0 "com/example/lexivec/lexivec/core/ScalarQuantizer" "components" "I" (.int (0 : Int32)) := c24.other W31 (Or.inr (slot_ne (Or.inr (hw _ (List.mem_of_getElem? (i := 34) rfl))) (Or.inr (hw _ (List.mem_of_getElem? (i := 28) rfl))) (by decide) (t := .int) (t' := .int) (by decide) (by decide)))
  have c37 : Fld Z h31 o0 "com/example/lexivec/lexivec/core/ScalarQuantizer" "keep" "I" (.int (0 : Int32)) := c25.other W31 (Or.inr (slot_ne (Or.inr (hw _ (List.mem_of_getElem? (i := 36) rfl))) (Or.inr (hw _ (List.mem_of_getElem? (i := 28) rfl))) (by decide) (t := .int) (t' := .int) (by decide) (by decide)))
  have c38 : Fld Z h31 o0 "com/example/lexivec/lexivec/core/ScalarQuantizer" "scale" "D" (.double 0) := c26.other W31 (Or.inr (slot_ne (Or.inr (hw _ (List.mem_of_getElem? (i := 38) rfl))) (Or.inr (hw _ (List.mem_of_getElem? (i := 28) rfl))) (by decide) (t := .double) (t' := .int) (by decide) (by decide)))
  have c39 : Fld Z h31 o0 "com/example/lexivec/lexivec/core/ScalarQuantizer" "normalizes" "Z" (.int (0 : Int32)) := c27.other W31 (Or.inr (slot_ne (Or.inr (hw _ (List.mem_of_getElem? (i := 40) rfl))) (Or.inr (hw _ (List.mem_of_getElem? (i := 28) rfl))) (by decide) (t := .boolean) (t' := .int) (by decide) (by decide)))
  have c40 : Exa Z h31 b4 "java/util/concurrent/atomic/AtomicReference" := c28.wr W31
  have c41 : Fld Z h31 o0 "com/example/lexivec/lexivec/core/ScalarQuantizer" "spare" "Ljava/util/concurrent/atomic/AtomicReference;" (.ref b4) := Fw18.other W31 (Or.inr (slot_ne (Or.inr (hw _ (List.mem_of_getElem? (i := 25) rfl))) (Or.inr (hw _ (List.mem_of_getElem? (i := 28) rfl))) (by decide) (t := (.object "java/util/concurrent/atomic/AtomicReference")) (t' := .int) (by decide) (by decide)))
  have K42 : Keep h0 h31 [o0] := K29.wr W31 (Or.inl (List.mem_of_getElem? (i := 0) rfl))
  have N31 := Fr.snoc X31 N18 g_o0
  have pre43 : ∀ t, Steps p.tables e below (T31.setTop (mkF m 67 #[.val (.ref o0), .val (.int p1), .val .null, .val .null, .val (.int p4), .val (.double u5), .second, .val (.int p6)] [.null, (.ref o0)])) t → P t := fun t k => pre31 t (by
      show Steps p.tables e below (T31.setTop (mkF m 65 #[.val (.ref o0), .val (.int p1), .val .null, .val .null, .val (.int p4), .val (.double u5), .second, .val (.int p6)] [])) _
      refine XS.aloadN X31.here hx rfl (hb hby d2_65) rfl rfl ?_
      show Steps p.tables e below (T31.setTop (mkF m 66 #[.val (.ref o0), .val (.int p1), .val .null, .val .null, .val (.int p4), .val (.double u5), .second, .val (.int p6)] [(.ref o0)])) _
      refine XS.aloadN X31.here hx rfl (hb hby d2_66) rfl rfl ?_
      exact k)
  obtain ⟨T44, h44, X44, e44, W44, st44⟩ := putF X31 hx hZ hown (host := "") (Or.inl (hw _ (List.mem_of_getElem? (i := 29) rfl))) Via.refl e31 c34 c33 (Or.inr ⟨(hw _ (List.mem_of_getElem? (i := 30) rfl)), rfl, hnm⟩) (hw _ (List.mem_of_getElem? (i := 6) rfl)) (ty := (.object "com/example/lexivec/lexivec/core/RandomExpansion")) (by decide) rfl rfl (g := (mkF m 67 #[.val (.ref o0), .val (.int p1), .val .null, .val .null, .val (.int p4), .val (.double u5), .second, .val (.int p6)] [.null, (.ref o0)])) rfl rfl (hb hby d2_67)
  have pre44 : ∀ t, Steps p.tables e below (T44.setTop (mkF m 70 #[.val (.ref o0), .val (.int p1), .val .null, .val .null, .val (.int p4), .val (.double u5), .second, .val (.int p6)] [])) t → P t := fun t k => pre43 t (st44 _ k)
  have Fw44 := c34.same W44
  have c45 : n0 ≤ h44.size := Nat.le_trans c32 (Keep.of_wr W44).1
  have c46 : Exa Z h44 o0 "com/example/lexivec/lexivec/core/ScalarQuantizer" := c33.wr W44
  have c47 : Fld Z h44 o0 "com/example/lexivec/lexivec/core/ScalarQuantizer" "cells" "Lcom/example/lexivec/lexivec/core/Cells;" .null := c35.other W44 (Or.inr (slot_ne (Or.inr (hw _ (List.mem_of_getElem? (i := 32) rfl))) (Or.inr (hw _ (List.mem_of_getElem? (i := 30) rfl))) (by decide) (t := (.object "com/example/lexivec/lexivec/core/Cells")) (t' := (.object "com/example/lexivec/lexivec/core/RandomExpansion")) (by decide) (by decide)))
  have c48 : Fld Z h44 o0 "com/example/lexivec/lexivec/core/ScalarQuantizer" "components" "I" (.int (0 : Int32)) := c36.other W44 (Or.inr (slot_ne (Or.inr (hw _ (List.mem_of_getElem? (i := 34) rfl))) (Or.inr (hw _ (List.mem_of_getElem? (i := 30) rfl))) (by decide) (t := .int) (t' := (.object "com/example/lexivec/lexivec/core/RandomExpansion")) (by decide) (by decide)))
  have c49 : Fld Z h44 o0 "com/example/lexivec/lexivec/core/ScalarQuantizer" "keep" "I" (.int (0 : Int32)) := c37.other W44 (Or.inr (slot_ne (Or.inr (hw _ (List.mem_of_getElem? (i := 36) rfl))) (Or.inr (hw _ (List.mem_of_getElem? (i := 30) rfl))) (by decide) (t := .int) (t' := (.object "com/example/lexivec/lexivec/core/RandomExpansion")) (by decide) (by decide)))
  have c50 : Fld Z h44 o0 "com/example/lexivec/lexivec/core/ScalarQuantizer" "scale" "D" (.double 0) := c38.other W44 (Or.inr (slot_ne (Or.inr (hw _ (List.mem_of_getElem? (i := 38) rfl))) (Or.inr (hw _ (List.mem_of_getElem? (i := 30) rfl))) (by decide) (t := .double) (t' := (.object "com/example/lexivec/lexivec/core/RandomExpansion")) (by decide) (by decide)))
  have c51 : Fld Z h44 o0 "com/example/lexivec/lexivec/core/ScalarQuantizer" "normalizes" "Z" (.int (0 : Int32)) := c39.other W44 (Or.inr (slot_ne (Or.inr (hw _ (List.mem_of_getElem? (i := 40) rfl))) (Or.inr (hw _ (List.mem_of_getElem? (i := 30) rfl))) (by decide) (t := .boolean) (t' := (.object "com/example/lexivec/lexivec/core/RandomExpansion")) (by decide) (by decide)))
  have c52 : Exa Z h44 b4 "java/util/concurrent/atomic/AtomicReference" := c40.wr W44
  have c53 : Fld Z h44 o0 "com/example/lexivec/lexivec/core/ScalarQuantizer" "spare" "Ljava/util/concurrent/atomic/AtomicReference;" (.ref b4) := c41.other W44 (Or.inr (slot_ne (Or.inr (hw _ (List.mem_of_getElem? (i := 25) rfl))) (Or.inr (hw _ (List.mem_of_getElem? (i := 30) rfl))) (by decide) (t := (.object "java/util/concurrent/atomic/AtomicReference")) (t' := (.object "com/example/lexivec/lexivec/core/RandomExpansion")) (by decide) (by decide)))
  have c54 : Fld Z h44 o0 "com/example/lexivec/lexivec/core/ScalarQuantizer" "dimension" "I" (.int p1) := Fw31.other W44 (Or.inr (slot_ne (Or.inr (hw _ (List.mem_of_getElem? (i := 28) rfl))) (Or.inr (hw _ (List.mem_of_getElem? (i := 30) rfl))) (by decide) (t := .int) (t' := (.object "com/example/lexivec/lexivec/core/RandomExpansion")) (by decide) (by decide)))
  have K55 : Keep h0 h44 [o0] := K42.wr W44 (Or.inl (List.mem_of_getElem? (i := 0) rfl))
  have N44 := Fr.snoc X44 N31 g_o0
  have pre56 : ∀ t, Steps p.tables e below (T44.setTop (mkF m 72 #[.val (.ref o0), .val (.int p1), .val .null, .val .null, .val (.int p4), .val (.double u5), .second, .val (.int p6)] [.null, (.ref o0)])) t → P t := fun t k => pre44 t (by
      show Steps p.tables e below (T44.setTop (mkF m 70 #[.val (.ref o0), .val (.int p1), .val .null, .val .null, .val (.int p4), .val (.double u5), .second, .val (.int p6)] [])) _
      refine XS.aloadN X44.here hx rfl (hb hby d2_70) rfl rfl ?_
      show Steps p.tables e below (T44.setTop (mkF m 71 #[.val (.ref o0), .val (.int p1), .val .null, .val .null, .val (.int p4), .val (.double u5), .second, .val (.int p6)] [(.ref o0)])) _
      refine XS.aloadN X44.here hx rfl (hb hby d2_71) rfl rfl ?_
      exact k)
  obtain ⟨T57, h57, X57, e57, W57, st57⟩ := putF X44 hx hZ hown (host := "") (Or.inl (hw _ (List.mem_of_getElem? (i := 31) rfl))) Via.refl e44 c47 c46 (Or.inr ⟨(hw _ (List.mem_of_getElem? (i := 32) rfl)), rfl, hnm⟩) (hw _ (List.mem_of_getElem? (i := 6) rfl)) (ty := (.object "com/example/lexivec/lexivec/core/Cells")) (by decide) rfl rfl (g := (mkF m 72 #[.val (.ref o0), .val (.int p1), .val .null, .val .null, .val (.int p4), .val (.double u5), .second, .val (.int p6)] [.null, (.ref o0)])) rfl rfl (hb hby d2_72)
  have pre57 : ∀ t, Steps p.tables e below (T57.setTop (mkF m 75 #[.val (.ref o0), .val (.int p1), .val .null, .val .null, .val (.int p4), .val (.double u5), .second, .val (.int p6)] [])) t → P t := fun t k => pre56 t (st57 _ k)
  have Fw57 := c47.same W57
  have c58 : n0 ≤ h57.size := Nat.le_trans c45 (Keep.of_wr W57).1
  have c59 : Exa Z h57 o0 "com/example/lexivec/lexivec/core/ScalarQuantizer" := c46.wr W57
  have c60 : Fld Z h57 o0 "com/example/lexivec/lexivec/core/ScalarQuantizer" "components" "I" (.int (0 : Int32)) := c48.other W57 (Or.inr (slot_ne (Or.inr (hw _ (List.mem_of_getElem? (i := 34) rfl))) (Or.inr (hw _ (List.mem_of_getElem? (i := 32) rfl))) (by decide) (t := .int) (t' := (.object "com/example/lexivec/lexivec/core/Cells")) (by decide) (by decide)))
  have c61 : Fld Z h57 o0 "com/example/lexivec/lexivec/core/ScalarQuantizer" "keep" "I" (.int (0 : Int32)) := c49.other W57 (Or.inr (slot_ne (Or.inr (hw _ (List.mem_of_getElem? (i := 36) rfl))) (Or.inr (hw _ (List.mem_of_getElem? (i := 32) rfl))) (by decide) (t := .int) (t' := (.object "com/example/lexivec/lexivec/core/Cells")) (by decide) (by decide)))
  have c62 : Fld Z h57 o0 "com/example/lexivec/lexivec/core/ScalarQuantizer" "scale" "D" (.double 0) := c50.other W57 (Or.inr (slot_ne (Or.inr (hw _ (List.mem_of_getElem? (i := 38) rfl))) (Or.inr (hw _ (List.mem_of_getElem? (i := 32) rfl))) (by decide) (t := .double) (t' := (.object "com/example/lexivec/lexivec/core/Cells")) (by decide) (by decide)))
  have c63 : Fld Z h57 o0 "com/example/lexivec/lexivec/core/ScalarQuantizer" "normalizes" "Z" (.int (0 : Int32)) := c51.other W57 (Or.inr (slot_ne (Or.inr (hw _ (List.mem_of_getElem? (i := 40) rfl))) (Or.inr (hw _ (List.mem_of_getElem? (i := 32) rfl))) (by decide) (t := .boolean) (t' := (.object "com/example/lexivec/lexivec/core/Cells")) (by decide) (by decide)))
  have c64 : Exa Z h57 b4 "java/util/concurrent/atomic/AtomicReference" := c52.wr W57
  have c65 : Fld Z h57 o0 "com/example/lexivec/lexivec/core/ScalarQuantizer" "spare" "Ljava/util/concurrent/atomic/AtomicReference;" (.ref b4) := c53.other W57 (Or.inr (slot_ne (Or.inr (hw _ (List.mem_of_getElem? (i := 25) rfl))) (Or.inr (hw _ (List.mem_of_getElem? (i := 32) rfl))) (by decide) (t := (.object "java/util/concurrent/atomic/AtomicReference")) (t' := (.object "com/example/lexivec/lexivec/core/Cells")) (by decide) (by decide)))
  have c66 : Fld Z h57 o0 "com/example/lexivec/lexivec/core/ScalarQuantizer" "dimension" "I" (.int p1) := c54.other W57 (Or.inr (slot_ne (Or.inr (hw _ (List.mem_of_getElem? (i := 28) rfl))) (Or.inr (hw _ (List.mem_of_getElem? (i := 32) rfl))) (by decide) (t := .int) (t' := (.object "com/example/lexivec/lexivec/core/Cells")) (by decide) (by decide)))
  have c67 : Fld Z h57 o0 "com/example/lexivec/lexivec/core/ScalarQuantizer" "expansion" "Lcom/example/lexivec/lexivec/core/RandomExpansion;" .null := Fw44.other W57 (Or.inr (slot_ne (Or.inr (hw _ (List.mem_of_getElem? (i := 30) rfl))) (Or.inr (hw _ (List.mem_of_getElem? (i := 32) rfl))) (by decide) (t := (.object "com/example/lexivec/lexivec/core/RandomExpansion")) (t' := (.object "com/example/lexivec/lexivec/core/Cells")) (by decide) (by decide)))
  have K68 : Keep h0 h57 [o0] := K55.wr W57 (Or.inl (List.mem_of_getElem? (i := 0) rfl))
  have N57 := Fr.snoc X57 N44 g_o0
  have pre69 : ∀ t, Steps p.tables e below (T57.setTop (mkF m 88 #[.val (.ref o0), .val (.int p1), .val .null, .val .null, .val (.int p4), .val (.double u5), .second, .val (.int p6)] [(.int p1), (.ref o0)])) t → P t := fun t k => pre57 t (by
      show Steps p.tables e below (T57.setTop (mkF m 75 #[.val (.ref o0), .val (.int p1), .val .null, .val .null, .val (.int p4), .val (.double u5), .second, .val (.int p6)] [])) _
      refine XS.aloadN X57.here hx rfl (hb hby d2_75) rfl rfl ?_
      show Steps p.tables e below (T57.setTop (mkF m 76 #[.val (.ref o0), .val (.int p1), .val .null, .val .null, .val (.int p4), .val (.double u5), .second, .val (.int p6)] [(.ref o0)])) _
      refine XS.aloadN X57.here hx rfl (hb hby d2_76) rfl rfl ?_
      show Steps p.tables e below (T57.setTop (mkF m 77 #[.val (.ref o0), .val (.int p1), .val .null, .val .null, .val (.int p4), .val (.double u5), .second, .val (.int p6)] [.null, (.ref o0)])) _
      refine XS.ifnonnullNo X57.here hx rfl (hb hby d2_77) rfl ?_
      show Steps p.tables e below (T57.setTop (mkF m 80 #[.val (.ref o0), .val (.int p1), .val .null, .val .null, .val (.int p4), .val (.double u5), .second, .val (.int p6)] [(.ref o0)])) _
      refine XS.iloadN X57.here hx rfl (hb hby d2_80) rfl ?_
      show Steps p.tables e below (T57.setTop (mkF m 81 #[.val (.ref o0), .val (.int p1), .val .null, .val .null, .val (.int p4), .val (.double u5), .second, .val (.int p6)] [(.int p1), (.ref o0)])) _
      refine XS.goto X57.here hx rfl (pc0 := 81) (pc' := 88) rfl (hb hby d2_81) (by decide) (by decide) ?_
      exact k)
  obtain ⟨T70, h70, X70, e70, W70, st70⟩ := putF X57 hx hZ hown (host := "") (Or.inl (hw _ (List.mem_of_getElem? (i := 33) rfl))) Via.refl e57 c60 c59 (Or.inr ⟨(hw _ (List.mem_of_getElem? (i := 34) rfl)), rfl, hnm⟩) (hw _ (List.mem_of_getElem? (i := 6) rfl)) (ty := .int) (by decide) rfl rfl (g := (mkF m 88 #[.val (.ref o0), .val (.int p1), .val .null, .val .null, .val (.int p4), .val (.double u5), .second, .val (.int p6)] [(.int p1), (.ref o0)])) rfl rfl (hb hby d2_88)
  have pre70 : ∀ t, Steps p.tables e below (T70.setTop (mkF m 91 #[.val (.ref o0), .val (.int p1), .val .null, .val .null, .val (.int p4), .val (.double u5), .second, .val (.int p6)] [])) t → P t := fun t k => pre69 t (st70 _ k)
  have Fw70 := c60.same W70
  have c71 : n0 ≤ h70.size := Nat.le_trans c58 (Keep.of_wr W70).1
  have c72 : Exa Z h70 o0 "com/example/lexivec/lexivec/core/ScalarQuantizer" := c59.wr W70
  have c73 : Fld Z h70 o0 "com/example/lexivec/lexivec/core/ScalarQuantizer" "keep" "I" (.int (0 : Int32)) := c61.other W70 (Or.inr (slot_ne (Or.inr (hw _ (List.mem_of_getElem? (i := 36) rfl))) (Or.inr (hw _ (List.mem_of_getElem? (i := 34) rfl))) (by decide) (t := .int) (t' := .int) (by decide) (by decide)))
  have c74 : Fld Z h70 o0 "com/example/lexivec/lexivec/core/ScalarQuantizer" "scale" "D" (.double 0) := c62.other W70 (Or.inr (slot_ne (Or.inr (hw _ (List.mem_of_getElem? (i := 38) rfl))) (Or.inr (hw _ (List.mem_of_getElem? (i := 34) rfl))) (by decide) (t := .double) (t' := .int) (by decide) (by decide)))
  have c75 : Fld Z h70 o0 "com/example/lexivec/lexivec/core/ScalarQuantizer" "normalizes" "Z" (.int (0 : Int32)) := c63.other W70 (Or.inr (slot_ne (Or.inr (hw _ (List.mem_of_getElem? (i := 40) rfl))) (Or.inr (hw _ (List.mem_of_getElem? (i := 34) rfl))) (by decide) (t := .boolean) (t' := .int) (by decide) (by decide)))
  have c76 : Exa Z h70 b4 "java/util/concurrent/atomic/AtomicReference" := c64.wr W70
  have c77 : Fld Z h70 o0 "com/example/lexivec/lexivec/core/ScalarQuantizer" "spare" "Ljava/util/concurrent/atomic/AtomicReference;" (.ref b4) := c65.other W70 (Or.inr (slot_ne (Or.inr (hw _ (List.mem_of_getElem? (i := 25) rfl))) (Or.inr (hw _ (List.mem_of_getElem? (i := 34) rfl))) (by decide) (t := (.object "java/util/concurrent/atomic/AtomicReference")) (t' := .int) (by decide) (by decide)))
  have c78 : Fld Z h70 o0 "com/example/lexivec/lexivec/core/ScalarQuantizer" "dimension" "I" (.int p1) := c66.other W70 (Or.inr (slot_ne (Or.inr (hw _ (List.mem_of_getElem? (i := 28) rfl))) (Or.inr (hw _ (List.mem_of_getElem? (i := 34) rfl))) (by decide) (t := .int) (t' := .int) (by decide) (by decide)))
  have c79 : Fld Z h70 o0 "com/example/lexivec/lexivec/core/ScalarQuantizer" "expansion" "Lcom/example/lexivec/lexivec/core/RandomExpansion;" .null := c67.other W70 (Or.inr (slot_ne (Or.inr (hw _ (List.mem_of_getElem? (i := 30) rfl))) (Or.inr (hw _ (List.mem_of_getElem? (i := 34) rfl))) (by decide) (t := (.object "com/example/lexivec/lexivec/core/RandomExpansion")) (t' := .int) (by decide) (by decide)))
  have c80 : Fld Z h70 o0 "com/example/lexivec/lexivec/core/ScalarQuantizer" "cells" "Lcom/example/lexivec/lexivec/core/Cells;" .null := Fw57.other W70 (Or.inr (slot_ne (Or.inr (hw _ (List.mem_of_getElem? (i := 32) rfl))) (Or.inr (hw _ (List.mem_of_getElem? (i := 34) rfl))) (by decide) (t := (.object "com/example/lexivec/lexivec/core/Cells")) (t' := .int) (by decide) (by decide)))
  have K81 : Keep h0 h70 [o0] := K68.wr W70 (Or.inl (List.mem_of_getElem? (i := 0) rfl))
  have N70 := Fr.snoc X70 N57 g_o0
  have pre82 : ∀ t, Steps p.tables e below (T70.setTop (mkF m 94 #[.val (.ref o0), .val (.int p1), .val .null, .val .null, .val (.int p4), .val (.double u5), .second, .val (.int p6)] [(.int p4), (.ref o0)])) t → P t := fun t k => pre70 t (by
      show Steps p.tables e below (T70.setTop (mkF m 91 #[.val (.ref o0), .val (.int p1), .val .null, .val .null, .val (.int p4), .val (.double u5), .second, .val (.int p6)] [])) _
      refine XS.aloadN X70.here hx rfl (hb hby d2_91) rfl rfl ?_
      show Steps p.tables e below (T70.setTop (mkF m 92 #[.val (.ref o0), .val (.int p1), .val .null, .val .null, .val (.int p4), .val (.double u5), .second, .val (.int p6)] [(.ref o0)])) _
      refine XS.iload X70.here hx rfl (hb hby d2_92) rfl ?_
      exact k)
  obtain ⟨T83, h83, X83, e83, W83, st83⟩ := putF X70 hx hZ hown (host := "") (Or.inl (hw _ (List.mem_of_getElem? (i := 35) rfl))) Via.refl e70 c73 c72 (Or.inr ⟨(hw _ (List.mem_of_getElem? (i := 36) rfl)), rfl, hnm⟩) (hw _ (List.mem_of_getElem? (i := 6) rfl)) (ty := .int) (by decide) rfl rfl (g := (mkF m 94 #[.val (.ref o0), .val (.int p1), .val .null, .val .null, .val (.int p4), .val (.double u5), .second, .val (.int p6)] [(.int p4), (.ref o0)])) rfl rfl (hb hby d2_94)
  have pre83 : ∀ t, Steps p.tables e below (T83.setTop (mkF m 97 #[.val (.ref o0), .val (.int p1), .val .null, .val .null, .val (.int p4), .val (.double u5), .second, .val (.int p6)] [])) t → P t := fun t k => pre82 t (st83 _ k)
  have Fw83 := c73.same W83
  have c84 : n0 ≤ h83.size := Nat.le_trans c71 (Keep.of_wr W83).1
  have c85 : Exa Z h83 o0 "com/example/lexivec/lexivec/core/ScalarQuantizer" := c72.wr W83
  have c86 : Fld Z h83 o0 "com/example/lexivec/lexivec/core/ScalarQuantizer" "scale" "D" (.double 0) := c74.other W83 (Or.inr (slot_ne (Or.inr (hw _ (List.mem_of_getElem? (i := 38) rfl))) (Or.inr (hw _ (List.mem_of_getElem? (i := 36) rfl))) (by decide) (t := .double) (t' := .int) (by decide) (by decide)))
  have c87 : Fld Z h83 o0 "com/example/lexivec/lexivec/core/ScalarQuantizer" "normalizes" "Z" (.int (0 : Int32)) := c75.other W83 (Or.inr (slot_ne (Or.inr (hw _ (List.mem_of_getElem? (i := 40) rfl))) (Or.inr (hw _ (List.mem_of_getElem? (i := 36) rfl))) (by decide) (t := .boolean) (t' := .int) (by decide) (by decide)))
  have c88 : Exa Z h83 b4 "java/util/concurrent/atomic/AtomicReference" := c76.wr W83
  have c89 : Fld Z h83 o0 "com/example/lexivec/lexivec/core/ScalarQuantizer" "spare" "Ljava/util/concurrent/atomic/AtomicReference;" (.ref b4) := c77.other W83 (Or.inr (slot_ne (Or.inr (hw _ (List.mem_of_getElem? (i := 25) rfl))) (Or.inr (hw _ (List.mem_of_getElem? (i := 36) rfl))) (by decide) (t := (.object "java/util/concurrent/atomic/AtomicReference")) (t' := .int) (by decide) (by decide)))
  have c90 : Fld Z h83 o0 "com/example/lexivec/lexivec/core/ScalarQuantizer" "dimension" "I" (.int p1) := c78.other W83 (Or.inr (slot_ne (Or.inr (hw _ (List.mem_of_getElem? (i := 28) rfl))) (Or.inr (hw _ (List.mem_of_getElem? (i := 36) rfl))) (by decide) (t := .int) (t' := .int) (by decide) (by decide)))
  have c91 : Fld Z h83 o0 "com/example/lexivec/lexivec/core/ScalarQuantizer" "expansion" "Lcom/example/lexivec/lexivec/core/RandomExpansion;" .null := c79.other W83 (Or.inr (slot_ne (Or.inr (hw _ (List.mem_of_getElem? (i := 30) rfl))) (Or.inr (hw _ (List.mem_of_getElem? (i := 36) rfl))) (by decide) (t := (.object "com/example/lexivec/lexivec/core/RandomExpansion")) (t' := .int) (by decide) (by decide)))
  have c92 : Fld Z h83 o0 "com/example/lexivec/lexivec/core/ScalarQuantizer" "cells" "Lcom/example/lexivec/lexivec/core/Cells;" .null := c80.other W83 (Or.inr (slot_ne (Or.inr (hw _ (List.mem_of_getElem? (i := 32) rfl))) (Or.inr (hw _ (List.mem_of_getElem? (i := 36) rfl))) (by decide) (t := (.object "com/example/lexivec/lexivec/core/Cells")) (t' := .int) (by decide) (by decide)))
  have c93 : Fld Z h83 o0 "com/example/lexivec/lexivec/core/ScalarQuantizer" "components" "I" (.int p1) := Fw70.other W83 (Or.inr (slot_ne (Or.inr (hw _ (List.mem_of_getElem? (i := 34) rfl))) (Or.inr (hw _ (List.mem_of_getElem? (i := 36) rfl))) (by decide) (t := .int) (t' := .int) (by decide) (by decide)))
  have K94 : Keep h0 h83 [o0] := K81.wr W83 (Or.inl (List.mem_of_getElem? (i := 0) rfl))
  have N83 := Fr.snoc X83 N70 g_o0
  have pre95 : ∀ t, Steps p.tables e below (T83.setTop (mkF m 100 #[.val (.ref o0), .val (.int p1), .val .null, .val .null, .val (.int p4), .val (.double u5), .second, .val (.int p6)] [(.double u5), (.ref o0)])) t → P t := fun t k => pre83 t (by
      show Steps p.tables e below (T83.setTop (mkF m 97 #[.val (.ref o0), .val (.int p1), .val .null, .val .null, .val (.int p4), .val (.double u5), .second, .val (.int p6)] [])) _
      refine XS.aloadN X83.here hx rfl (hb hby d2_97) rfl rfl ?_
      show Steps p.tables e below (T83.setTop (mkF m 98 #[.val (.ref o0), .val (.int p1), .val .null, .val .null, .val (.int p4), .val (.double u5), .second, .val (.int p6)] [(.ref o0)])) _
      refine XS.dload X83.here hx rfl (hb hby d2_98) rfl ?_
      exact k)
  obtain ⟨T96, h96, X96, e96, W96, st96⟩ := putF X83 hx hZ hown (host := "") (Or.inl (hw _ (List.mem_of_getElem? (i := 37) rfl))) Via.refl e83 c86 c85 (Or.inr ⟨(hw _ (List.mem_of_getElem? (i := 38) rfl)), rfl, hnm⟩) (hw _ (List.mem_of_getElem? (i := 6) rfl)) (ty := .double) (by decide) rfl rfl (g := (mkF m 100 #[.val (.ref o0), .val (.int p1), .val .null, .val .null, .val (.int p4), .val (.double u5), .second, .val (.int p6)] [(.double u5), (.ref o0)])) rfl rfl (hb hby d2_100)
  have pre96 : ∀ t, Steps p.tables e below (T96.setTop (mkF m 103 #[.val (.ref o0), .val (.int p1), .val .null, .val .null, .val (.int p4), .val (.double u5), .second, .val (.int p6)] [])) t → P t := fun t k => pre95 t (st96 _ k)
  have Fw96 := c86.same W96
  have c97 : n0 ≤ h96.size := Nat.le_trans c84 (Keep.of_wr W96).1
  have c98 : Exa Z h96 o0 "com/example/lexivec/lexivec/core/ScalarQuantizer" := c85.wr W96
  have c99 : Fld Z h96 o0 "com/example/lexivec/lexivec/core/ScalarQuantizer" "normalizes" "Z" (.int (0 : Int32)) := c87.other W96 (Or.inr (slot_ne (Or.inr (hw _ (List.mem_of_getElem? (i := 40) rfl))) (Or.inr (hw _ (List.mem_of_getElem? (i := 38) rfl))) (by decide) (t := .boolean) (t' := .double) (by decide) (by decide)))
  have c100 : Exa Z h96 b4 "java/util/concurrent/atomic/AtomicReference" := c88.wr W96
  have c101 : Fld Z h96 o0 "com/example/lexivec/lexivec/core/ScalarQuantizer" "spare" "Ljava/util/concurrent/atomic/AtomicReference;" (.ref b4) := c89.other W96 (Or.inr (slot_ne (Or.inr (hw _ (List.mem_of_getElem? (i := 25) rfl))) (Or.inr (hw _ (List.mem_of_getElem? (i := 38) rfl))) (by decide) (t := (.object "java/util/concurrent/atomic/AtomicReference")) (t' := .double) (by decide) (by decide)))
  have c102 : Fld Z h96 o0 "com/example/lexivec/lexivec/core/ScalarQuantizer" "dimension" "I" (.int p1) := c90.other W96 (Or.inr (slot_ne (Or.inr (hw _ (List.mem_of_getElem? (i := 28) rfl))) (Or.inr (hw _ (List.mem_of_getElem? (i := 38) rfl))) (by decide) (t := .int) (t' := .double) (by decide) (by decide)))
  have c103 : Fld Z h96 o0 "com/example/lexivec/lexivec/core/ScalarQuantizer" "expansion" "Lcom/example/lexivec/lexivec/core/RandomExpansion;" .null := c91.other W96 (Or.inr (slot_ne (Or.inr (hw _ (List.mem_of_getElem? (i := 30) rfl))) (Or.inr (hw _ (List.mem_of_getElem? (i := 38) rfl))) (by decide) (t := (.object "com/example/lexivec/lexivec/core/RandomExpansion")) (t' := .double) (by decide) (by decide)))
  have c104 : Fld Z h96 o0 "com/example/lexivec/lexivec/core/ScalarQuantizer" "cells" "Lcom/example/lexivec/lexivec/core/Cells;" .null := c92.other W96 (Or.inr (slot_ne (Or.inr (hw _ (List.mem_of_getElem? (i := 32) rfl))) (Or.inr (hw _ (List.mem_of_getElem? (i := 38) rfl))) (by decide) (t := (.object "com/example/lexivec/lexivec/core/Cells")) (t' := .double) (by decide) (by decide)))
  have c105 : Fld Z h96 o0 "com/example/lexivec/lexivec/core/ScalarQuantizer" "components" "I" (.int p1) := c93.other W96 (Or.inr (slot_ne (Or.inr (hw _ (List.mem_of_getElem? (i := 34) rfl))) (Or.inr (hw _ (List.mem_of_getElem? (i := 38) rfl))) (by decide) (t := .int) (t' := .double) (by decide) (by decide)))
  have c106 : Fld Z h96 o0 "com/example/lexivec/lexivec/core/ScalarQuantizer" "keep" "I" (.int p4) := Fw83.other W96 (Or.inr (slot_ne (Or.inr (hw _ (List.mem_of_getElem? (i := 36) rfl))) (Or.inr (hw _ (List.mem_of_getElem? (i := 38) rfl))) (by decide) (t := .int) (t' := .double) (by decide) (by decide)))
  have K107 : Keep h0 h96 [o0] := K94.wr W96 (Or.inl (List.mem_of_getElem? (i := 0) rfl))
  have N96 := Fr.snoc X96 N83 g_o0
  have pre108 : ∀ t, Steps p.tables e below (T96.setTop (mkF m 106 #[.val (.ref o0), .val (.int p1), .val .null, .val .null, .val (.int p4), .val (.double u5), .second, .val (.int p6)] [(.int p6), (.ref o0)])) t → P t := fun t k => pre96 t (by
      show Steps p.tables e below (T96.setTop (mkF m 103 #[.val (.ref o0), .val (.int p1), .val .null, .val .null, .val (.int p4), .val (.double u5), .second, .val (.int p6)] [])) _
      refine XS.aloadN X96.here hx rfl (hb hby d2_103) rfl rfl ?_
      show Steps p.tables e below (T96.setTop (mkF m 104 #[.val (.ref o0), .val (.int p1), .val .null, .val .null, .val (.int p4), .val (.double u5), .second, .val (.int p6)] [(.ref o0)])) _
      refine XS.iload X96.here hx rfl (hb hby d2_104) rfl ?_
      exact k)
  obtain ⟨T109, h109, X109, e109, W109, st109⟩ := putFN X96 hx hZ hown (hw _ (List.mem_of_getElem? (i := 39) rfl)) Via.refl e96 c99 c98 (Or.inr ⟨(hw _ (List.mem_of_getElem? (i := 40) rfl)), rfl, hnm⟩) (hw _ (List.mem_of_getElem? (i := 6) rfl)) (ty := .boolean) (v' := (.int (nar .boolean p6))) (by decide) rfl (fits_nar_bool _) (g := (mkF m 106 #[.val (.ref o0), .val (.int p1), .val .null, .val .null, .val (.int p4), .val (.double u5), .second, .val (.int p6)] [(.int p6), (.ref o0)])) rfl rfl (hb hby d2_106)
  have pre109 : ∀ t, Steps p.tables e below (T109.setTop (mkF m 109 #[.val (.ref o0), .val (.int p1), .val .null, .val .null, .val (.int p4), .val (.double u5), .second, .val (.int p6)] [])) t → P t := fun t k => pre108 t (st109 _ k)
  have Fw109 := c99.same W109
  have c110 : n0 ≤ h109.size := Nat.le_trans c97 (Keep.of_wr W109).1
  have c111 : Exa Z h109 o0 "com/example/lexivec/lexivec/core/ScalarQuantizer" := c98.wr W109
  have c112 : Exa Z h109 b4 "java/util/concurrent/atomic/AtomicReference" := c100.wr W109
  have c113 : Fld Z h109 o0 "com/example/lexivec/lexivec/core/ScalarQuantizer" "spare" "Ljava/util/concurrent/atomic/AtomicReference;" (.ref b4) := c101.other W109 (Or.inr (slot_ne (Or.inr (hw _ (List.mem_of_getElem? (i := 25) rfl))) (Or.inr (hw _ (List.mem_of_getElem? (i := 40) rfl))) (by decide) (t := (.object "java/util/concurrent/atomic/AtomicReference")) (t' := .boolean) (by decide) (by decide)))
  have c114 : Fld Z h109 o0 "com/example/lexivec/lexivec/core/ScalarQuantizer" "dimension" "I" (.int p1) := c102.other W109 (Or.inr (slot_ne (Or.inr (hw _ (List.mem_of_getElem? (i := 28) rfl))) (Or.inr (hw _ (List.mem_of_getElem? (i := 40) rfl))) (by decide) (t := .int) (t' := .boolean) (by decide) (by decide)))
  have c115 : Fld Z h109 o0 "com/example/lexivec/lexivec/core/ScalarQuantizer" "expansion" "Lcom/example/lexivec/lexivec/core/RandomExpansion;" .null := c103.other W109 (Or.inr (slot_ne (Or.inr (hw _ (List.mem_of_getElem? (i := 30) rfl))) (Or.inr (hw _ (List.mem_of_getElem? (i := 40) rfl))) (by decide) (t := (.object "com/example/lexivec/lexivec/core/RandomExpansion")) (t' := .boolean) (by decide) (by decide)))
  have c116 : Fld Z h109 o0 "com/example/lexivec/lexivec/core/ScalarQuantizer" "cells" "Lcom/example/lexivec/lexivec/core/Cells;" .null := c104.other W109 (Or.inr (slot_ne (Or.inr (hw _ (List.mem_of_getElem? (i := 32) rfl))) (Or.inr (hw _ (List.mem_of_getElem? (i := 40) rfl))) (by decide) (t := (.object "com/example/lexivec/lexivec/core/Cells")) (t' := .boolean) (by decide) (by decide)))
  have c117 : Fld Z h109 o0 "com/example/lexivec/lexivec/core/ScalarQuantizer" "components" "I" (.int p1) := c105.other W109 (Or.inr (slot_ne (Or.inr (hw _ (List.mem_of_getElem? (i := 34) rfl))) (Or.inr (hw _ (List.mem_of_getElem? (i := 40) rfl))) (by decide) (t := .int) (t' := .boolean) (by decide) (by decide)))
  have c118 : Fld Z h109 o0 "com/example/lexivec/lexivec/core/ScalarQuantizer" "keep" "I" (.int p4) := c106.other W109 (Or.inr (slot_ne (Or.inr (hw _ (List.mem_of_getElem? (i := 36) rfl))) (Or.inr (hw _ (List.mem_of_getElem? (i := 40) rfl))) (by decide) (t := .int) (t' := .boolean) (by decide) (by decide)))
  have c119 : Fld Z h109 o0 "com/example/lexivec/lexivec/core/ScalarQuantizer" "scale" "D" (.double u5) := Fw96.other W109 (Or.inr (slot_ne (Or.inr (hw _ (List.mem_of_getElem? (i := 38) rfl))) (Or.inr (hw _ (List.mem_of_getElem? (i := 40) rfl))) (by decide) (t := .double) (t' := .boolean) (by decide) (by decide)))
  have K120 : Keep h0 h109 [o0] := K107.wr W109 (Or.inl (List.mem_of_getElem? (i := 0) rfl))
  have N109 := Fr.snoc X109 N96 g_o0
  obtain ⟨fs, hr, hrun, hended, hW, hsame⟩ := X109.leave (v := none) (fun _ => rfl)
  refine ⟨_, _, fin _ (pre109 _ ?_), hrun, hended, _, _, rfl, ?_, ⟨_, rfl⟩, hW, hsame.mono (by decide) (by decide)⟩
  · show Steps p.tables e below (T109.setTop (mkF m 109 #[.val (.ref o0), .val (.int p1), .val .null, .val .null, .val (.int p4), .val (.double u5), .second, .val (.int p6)] [])) _
    exact X109.returnOut hx Bd.returns (hb hby d2_109) hr
  · show Q2 Z o0 p1 p4 u5 p6 h0 n0 _ T109.heap _
    rw [e109]
    exact ⟨rfl, N109, K120, c111, c114, c115, c116, c117, c118, c119, Fw109⟩
theorem own_pd1 : parseMethodDescriptor "(ILcom/example/lexivec/lexivec/core/RandomExpansion;Lcom/example/lexivec/lexivec/core/Cells;IDZ)V" = some ⟨[.int, (.object "com/example/lexivec/lexivec/core/RandomExpansion"), (.object "com/example/lexivec/lexivec/core/Cells"), .int, .double, .boolean], none⟩ := by decide +kernel
theorem d1_0 : decode prog_29_method_1_code 0 = .ok (.aload_n 0, 1) := by decide +kernel
theorem d1_1 : decode prog_29_method_1_code 1 = .ok (.iload_n 1, 1) := by decide +kernel
theorem d1_2 : decode prog_29_method_1_code 2 = .ok (.aconst_null, 1) := by decide +kernel
theorem d1_3 : decode prog_29_method_1_code 3 = .ok (.aconst_null, 1) := by decide +kernel
theorem d1_4 : decode prog_29_method_1_code 4 = .ok (.iload_n 2, 1) := by decide +kernel
theorem d1_5 : decode prog_29_method_1_code 5 = .ok (.dload_n 3, 1) := by decide +kernel
theorem d1_6 : decode prog_29_method_1_code 6 = .ok (.iload 5, 2) := by decide +kernel
theorem d1_8 : decode prog_29_method_1_code 8 = .ok (.invokespecial 1, 3) := by decide +kernel
theorem d1_11 : decode prog_29_method_1_code 11 = .ok (.return_, 1) := by decide +kernel
theorem pn_1 : plainName "com/example/lexivec/lexivec/core/ScalarQuantizer" = true := by first | (simp [plainName, overriddenIn]; done) | decide +kernel
theorem ef_1 (m : MethodId) (o0 : Addr) (p1 : Int32) (p2 : Int32) (u3 : UInt64) (p4 : Int32) : entryFrame m #[(.ref o0), (.int p1), (.int p2), (.double u3), (.int p4)] 6 = mkF m 0 #[.val (.ref o0), .val (.int p1), .val (.int p2), .val (.double u3), .second, .val (.int p4)] [] := by first | (simp [entryFrame, mkF, argsToLocals, Value.category]; done) | rfl
def Q1 (Z : State) (o0 : Addr) (p1 : Int32) (p2 : Int32) (u3 : UInt64) (p4 : Int32) (h0 : Heap) (n0 : Nat) (v : Option Value) (h : Heap) (L : List Loc) : Prop := v = none ∧ Fr n0 L ∧ Keep h0 h [o0] ∧ Exa Z h o0 "com/example/lexivec/lexivec/core/ScalarQuantizer" ∧ Fld Z h o0 "com/example/lexivec/lexivec/core/ScalarQuantizer" "dimension" "I" (.int p1) ∧ Fld Z h o0 "com/example/lexivec/lexivec/core/ScalarQuantizer" "expansion" "Lcom/example/lexivec/lexivec/core/RandomExpansion;" .null ∧ Fld Z h o0 "com/example/lexivec/lexivec/core/ScalarQuantizer" "cells" "Lcom/example/lexivec/lexivec/core/Cells;" .null ∧ Fld Z h o0 "com/example/lexivec/lexivec/core/ScalarQuantizer" "components" "I" (.int p1) ∧ Fld Z h o0 "com/example/lexivec/lexivec/core/ScalarQuantizer" "keep" "I" (.int p2) ∧ Fld Z h o0 "com/example/lexivec/lexivec/core/ScalarQuantizer" "scale" "D" (.double u3) ∧ Fld Z h o0 "com/example/lexivec/lexivec/core/ScalarQuantizer" "normalizes" "Z" (.int (nar .boolean p4))
set_option maxRecDepth 65536 in
set_option maxHeartbeats 40000000 in
theorem rm1 (l : Launch) (Z : State) (a0 : Array Value) (hw : ∀ d ∈ tables_1, d.before a0 Z = true) (ws : List Jvm.Cond) (o0 : Addr) (p1 : Int32) (p2 : Int32) (u3 : UInt64) (p4 : Int32) (h0 : Heap) (n0 : Nat) (Z0 : n0 ≤ h0.size) (E_o0 : Exa Z h0 o0 "com/example/lexivec/lexivec/core/ScalarQuantizer") (F_spare_o0 : Fld Z h0 o0 "com/example/lexivec/lexivec/core/ScalarQuantizer" "spare" "Ljava/util/concurrent/atomic/AtomicReference;" .null) (F_dimension_o0 : Fld Z h0 o0 "com/example/lexivec/lexivec/core/ScalarQuantizer" "dimension" "I" (.int (0 : Int32))) (F_expansion_o0 : Fld Z h0 o0 "com/example/lexivec/lexivec/core/ScalarQuantizer" "expansion" "Lcom/example/lexivec/lexivec/core/RandomExpansion;" .null) (F_cells_o0 : Fld Z h0 o0 "com/example/lexivec/lexivec/core/ScalarQuantizer" "cells" "Lcom/example/lexivec/lexivec/core/Cells;" .null) (F_components_o0 : Fld Z h0 o0 "com/example/lexivec/lexivec/core/ScalarQuantizer" "components" "I" (.int (0 : Int32))) (F_keep_o0 : Fld Z h0 o0 "com/example/lexivec/lexivec/core/ScalarQuantizer" "keep" "I" (.int (0 : Int32))) (F_scale_o0 : Fld Z h0 o0 "com/example/lexivec/lexivec/core/ScalarQuantizer" "scale" "D" (.double 0)) (F_normalizes_o0 : Fld Z h0 o0 "com/example/lexivec/lexivec/core/ScalarQuantizer" "normalizes" "Z" (.int (0 : Int32))) (g_o0 : n0 ≤ o0) (hd1 : ¬ p1 < (1 : Int32)) (hk1 : ¬ p2 < (1 : Int32)) (hs0 : (0 : Int32) < (cmpValue (FP.dcmp u3 FP.dconst0) .l)) (hsi : (cmpValue (FP.dcmp u3 (9218868437227405312 : UInt64)) .g) < (0 : Int32)) :
    MetFree l (⟨"com/example/lexivec/lexivec/core/ScalarQuantizer", "<init>", "(IIDZ)V"⟩ : MethodName) (head1 (Jvm.Cond.code (⟨"com/example/lexivec/lexivec/core/ScalarQuantizer", "<init>", "(IIDZ)V"⟩ : MethodName) prog_29_method_1_code 6 none :: ws) ({ frames := 3, cells := 1, slots := 1, locals := 45 } : Room)) (fun a U => a = #[(.ref o0), (.int p1), (.int p2), (.double u3), (.int p4)] ∧ Z.Warmed39 U.vm ∧ U.heap = h0) (fun _ _ _ _ _ => True) (fun _ U o U' => ∃ v L, o = .returned v ∧ Q1 Z o0 p1 p2 u3 p4 h0 n0 v U'.heap L ∧ FrameEnd U o U' L ({ frames := 3, cells := 1, slots := 1, locals := 45 } : Room).cells ({ frames := 3, cells := 1, slots := 1, locals := 45 } : Room).slots) := by
  refine MetFree.of_bodySF (plainFor_of_name pn_1) hisR ?_
  intro p e s m args below meth c s₁ Bd hml0 hP hK
  obtain ⟨rfl, hZ, hh⟩ := hP
  have hx := Bd.exec
  have hby := Bd.bytes
  have hml : c.maxLocals = 6 := hml0
  have hown : s.vm.findClass "com/example/lexivec/lexivec/core/ScalarQuantizer" = some m.cls := findClass_of_methodNamed Bd.named
  have hnm := (name_of_methodNamed Bd.named Bd.method).1
  have X0 : Stand p l e ({ frames := 3, cells := 1, slots := 1, locals := 45 } : Room) s m #[(.ref o0), (.int p1), (.int p2), (.double u3), (.int p4)] below meth c s₁ [] 0 0 := Stand.of_body Bd
  have e0 : s₁.heap = h0 := by rw [← hh, Bd.state]; rfl
  have N0 := Fr.nil n0
  obtain ⟨P, pre0, fin⟩ : ∃ P : State → Prop, (∀ t, Steps p.tables e below (s₁.setTop (mkF m 0 #[.val (.ref o0), .val (.int p1), .val (.int p2), .val (.double u3), .second, .val (.int p4)] [])) t → P t) ∧ (∀ t, P t → Steps p.tables e below (s₁.setTop (entryFrame m #[(.ref o0), (.int p1), (.int p2), (.double u3), (.int p4)] 6)) t) := ⟨fun t => Steps p.tables e below (s₁.setTop (entryFrame m #[(.ref o0), (.int p1), (.int p2), (.double u3), (.int p4)] 6)) t, fun t k => castTop (ef_1 m o0 p1 p2 u3 p4) k, fun t k => k⟩
  have K0 : Keep h0 h0 [o0] := Keep.refl _ _
  have pre1 : ∀ t, Steps p.tables e below (s₁.setTop (mkF m 8 #[.val (.ref o0), .val (.int p1), .val (.int p2), .val (.double u3), .second, .val (.int p4)] [(.int p4), (.double u3), (.int p2), .null, .null, (.int p1), (.ref o0)])) t → P t := fun t k => pre0 t (by
      show Steps p.tables e below (s₁.setTop (mkF m 0 #[.val (.ref o0), .val (.int p1), .val (.int p2), .val (.double u3), .second, .val (.int p4)] [])) _
      refine XS.aloadN X0.here hx rfl (hb hby d1_0) rfl rfl ?_
      show Steps p.tables e below (s₁.setTop (mkF m 1 #[.val (.ref o0), .val (.int p1), .val (.int p2), .val (.double u3), .second, .val (.int p4)] [(.ref o0)])) _
      refine XS.iloadN X0.here hx rfl (hb hby d1_1) rfl ?_
      show Steps p.tables e below (s₁.setTop (mkF m 2 #[.val (.ref o0), .val (.int p1), .val (.int p2), .val (.double u3), .second, .val (.int p4)] [(.int p1), (.ref o0)])) _
      refine XS.aconstNull X0.here hx rfl (hb hby d1_2) ?_
      show Steps p.tables e below (s₁.setTop (mkF m 3 #[.val (.ref o0), .val (.int p1), .val (.int p2), .val (.double u3), .second, .val (.int p4)] [.null, (.int p1), (.ref o0)])) _
      refine XS.aconstNull X0.here hx rfl (hb hby d1_3) ?_
      show Steps p.tables e below (s₁.setTop (mkF m 4 #[.val (.ref o0), .val (.int p1), .val (.int p2), .val (.double u3), .second, .val (.int p4)] [.null, .null, (.int p1), (.ref o0)])) _
      refine XS.iloadN X0.here hx rfl (hb hby d1_4) rfl ?_
      show Steps p.tables e below (s₁.setTop (mkF m 5 #[.val (.ref o0), .val (.int p1), .val (.int p2), .val (.double u3), .second, .val (.int p4)] [(.int p2), .null, .null, (.int p1), (.ref o0)])) _
      refine XS.dloadN X0.here hx rfl (hb hby d1_5) rfl ?_
      show Steps p.tables e below (s₁.setTop (mkF m 6 #[.val (.ref o0), .val (.int p1), .val (.int p2), .val (.double u3), .second, .val (.int p4)] [(.double u3), (.int p2), .null, .null, (.int p1), (.ref o0)])) _
      refine XS.iload X0.here hx rfl (hb hby d1_6) rfl ?_
      exact k)
  obtain ⟨_, _, ⟨T2, L2, k2, n2⟩, -, X2, ⟨Lc2, hQ2, l2, y2, z2⟩, st2⟩ := X0.specialBack hx (y := (⟨"com/example/lexivec/lexivec/core/ScalarQuantizer", "<init>", "(ILcom/example/lexivec/lexivec/core/RandomExpansion;Lcom/example/lexivec/lexivec/core/Cells;IDZ)V"⟩ : MethodName)) rfl hown (mvT hZ (hw _ (List.mem_of_getElem? (i := 11) rfl))) (mvT hZ (hw _ (List.mem_of_getElem? (i := 12) rfl))) (mvT hZ (hw _ (List.mem_of_getElem? (i := 13) rfl))) (by decide) (backOf (W := 0) (rm2 l Z a0 hw [] o0 p1 p2 u3 p4 h0 n0 Z0 E_o0 F_spare_o0 F_dimension_o0 F_expansion_o0 F_cells_o0 F_components_o0 F_keep_o0 F_scale_o0 F_normalizes_o0 g_o0 hd1 hk1 hs0 hsi) hZ (hw _ (List.mem_of_getElem? (i := 13) rfl)) (hw _ (List.mem_of_getElem? (i := 7) rfl)) (by decide) (by decide)) (g := (mkF m 8 #[.val (.ref o0), .val (.int p1), .val (.int p2), .val (.double u3), .second, .val (.int p4)] [(.int p4), (.double u3), (.int p2), .null, .null, (.int p1), (.ref o0)])) rfl (by rw [hml]; rfl) (Steps.refl _) (a := o0) (argsL := [(.int p1), .null, .null, (.int p2), (.double u3), (.int p4)]) (rest := []) (lenOf own_pd1 rfl) rfl (by show 2 * 0 + _ ≤ _; exact Nat.le_of_eq rfl) (hb hby d1_8) (fun _ _ => ⟨rfl, e0, (by decide : 0 + 1 ≤ _), (by decide : 0 + 1 ≤ _)⟩)
  dsimp only [Pt.U, Pt.locs, Pt.cells, Pt.slots] at X2 l2 y2 z2 st2 hQ2
  subst l2 y2 z2
  obtain ⟨rfl, N2q, K2, EE2, FF2_0, FF2_1, FF2_2, FF2_3, FF2_4, FF2_5, FF2_6⟩ := hQ2
  have c3 : n0 ≤ T2.heap.size := Nat.le_trans Z0 K2.1
  have c4 : Exa Z T2.heap o0 "com/example/lexivec/lexivec/core/ScalarQuantizer" := E_o0.keep K2
  have K5 : Keep h0 T2.heap [o0] := K0.trans K2 (allS (P := fun x => x ∈ ([o0] : List Addr) ∨ h0.size ≤ x) (Or.inl (List.mem_of_getElem? (i := 0) rfl)) all0)
  have N2 := Fr.app N0 N2q
  have pre2 : ∀ t, Steps p.tables e below (T2.setTop (mkF m 11 #[.val (.ref o0), .val (.int p1), .val (.int p2), .val (.double u3), .second, .val (.int p4)] [])) t → P t := fun t k => pre1 t (st2.trans k)
  obtain ⟨fs, hr, hrun, hended, hW, hsame⟩ := X2.leave (v := none) (fun _ => rfl)
  refine ⟨_, _, fin _ (pre2 _ ?_), hrun, hended, _, _, rfl, ?_, ⟨_, rfl⟩, hW, hsame.mono (by decide) (by decide)⟩
  · show Steps p.tables e below (T2.setTop (mkF m 11 #[.val (.ref o0), .val (.int p1), .val (.int p2), .val (.double u3), .second, .val (.int p4)] [])) _
    exact X2.returnOut hx Bd.returns (hb hby d1_11) hr
  · show Q1 Z o0 p1 p2 u3 p4 h0 n0 _ T2.heap _
    exact ⟨rfl, N2, K5, EE2, FF2_0, FF2_1, FF2_2, FF2_3, FF2_4, FF2_5, FF2_6⟩
theorem d5_0 : decode prog_29_method_19_code 0 = .ok (.aload_n 0, 1) := by decide +kernel
theorem d5_1 : decode prog_29_method_19_code 1 = .ok (.getfield 57, 3) := by decide +kernel
theorem d5_4 : decode prog_29_method_19_code 4 = .ok (.iload_n 3, 1) := by decide +kernel
theorem d5_5 : decode prog_29_method_19_code 5 = .ok (.aload_n 0, 1) := by decide +kernel
theorem d5_6 : decode prog_29_method_19_code 6 = .ok (.getfield 52, 3) := by decide +kernel
theorem d5_9 : decode prog_29_method_19_code 9 = .ok (.if_icmp .ge 7, 3) := by decide +kernel
theorem d5_12 : decode prog_29_method_19_code 12 = .ok (.dload_n 1, 1) := by decide +kernel
theorem d5_13 : decode prog_29_method_19_code 13 = .ok (.goto 5, 3) := by decide +kernel
theorem d5_16 : decode prog_29_method_19_code 16 = .ok (.dload_n 1, 1) := by decide +kernel
theorem d5_17 : decode prog_29_method_19_code 17 = .ok (.dneg, 1) := by decide +kernel
theorem d5_18 : decode prog_29_method_19_code 18 = .ok (.dmul, 1) := by decide +kernel
theorem d5_19 : decode prog_29_method_19_code 19 = .ok (.dstore 4, 2) := by decide +kernel
theorem d5_21 : decode prog_29_method_19_code 21 = .ok (.dload 4, 2) := by decide +kernel
theorem d5_23 : decode prog_29_method_19_code 23 = .ok (.dconst 1, 1) := by decide +kernel
theorem d5_24 : decode prog_29_method_19_code 24 = .ok (.dcmp .l, 1) := by decide +kernel
theorem d5_25 : decode prog_29_method_19_code 25 = .ok (.ifCond .lt 9, 3) := by decide +kernel
theorem d5_28 : decode prog_29_method_19_code 28 = .ok (.dload 4, 2) := by decide +kernel
theorem d5_30 : decode prog_29_method_19_code 30 = .ok (.d2i, 1) := by decide +kernel
theorem d5_31 : decode prog_29_method_19_code 31 = .ok (.goto 4, 3) := by decide +kernel
theorem d5_34 : decode prog_29_method_19_code 34 = .ok (.iconst 0, 1) := by decide +kernel
theorem d5_35 : decode prog_29_method_19_code 35 = .ok (.ireturn, 1) := by decide +kernel
theorem pn_5 : plainName "com/example/lexivec/lexivec/core/ScalarQuantizer" = true := by first | (simp [plainName, overriddenIn]; done) | decide +kernel
theorem ef_5 (m : MethodId) (o0 : Addr) (u1 : UInt64) (p2 : Int32) : entryFrame m #[(.ref o0), (.double u1), (.int p2)] 6 = mkF m 0 #[.val (.ref o0), .val (.double u1), .second, .val (.int p2), .unset, .unset] [] := by first | (simp [entryFrame, mkF, argsToLocals, Value.category]; done) | rfl
def own_f5 (u1 : UInt64) (p2 : Int32) (w_scale_o0 : UInt64) (w_components_o0 : Int32) : Int32 := (let v8 : UInt64 := (if p2 < w_components_o0 then u1 else (FP.dneg u1)); (let v11 : UInt64 := (FP.dmul w_scale_o0 v8); (if (cmpValue (FP.dcmp v11 FP.dconst1) .l) < (0 : Int32) then (0 : Int32) else (FP.d2i v11))))
def Q5 (Z : State) (o0 : Addr) (u1 : UInt64) (p2 : Int32) (w_scale_o0 : UInt64) (w_components_o0 : Int32) (h0 : Heap) (n0 : Nat) (v : Option Value) (h : Heap) (L : List Loc) : Prop := v = some (.int (own_f5 u1 p2 w_scale_o0 w_components_o0)) ∧ Fr n0 L ∧ h = h0
set_option maxRecDepth 65536 in
set_option maxHeartbeats 40000000 in
theorem rm5 (l : Launch) (Z : State) (a0 : Array Value) (hw : ∀ d ∈ tables_1, d.before a0 Z = true) (ws : List Jvm.Cond) (o0 : Addr) (u1 : UInt64) (p2 : Int32) (w_scale_o0 : UInt64) (w_components_o0 : Int32) (h0 : Heap) (n0 : Nat) (Z0 : n0 ≤ h0.size) (F_scale_o0 : Fld Z h0 o0 "com/example/lexivec/lexivec/core/ScalarQuantizer" "scale" "D" (.double w_scale_o0)) (F_components_o0 : Fld Z h0 o0 "com/example/lexivec/lexivec/core/ScalarQuantizer" "components" "I" (.int w_components_o0)) (hnn : ∀ v : UInt64, (v = u1 ∨ v = FP.dneg u1) → NoNaN64 (FP.dmul w_scale_o0 v)) :
    MetFree l (⟨"com/example/lexivec/lexivec/core/ScalarQuantizer", "frequency", "(DI)I"⟩ : MethodName) (head1 (Jvm.Cond.code (⟨"com/example/lexivec/lexivec/core/ScalarQuantizer", "frequency", "(DI)I"⟩ : MethodName) prog_29_method_19_code 6 (some .int) :: ws) ({ frames := 0, cells := 0, slots := 0, locals := 0 } : Room)) (fun a U => a = #[(.ref o0), (.double u1), (.int p2)] ∧ Z.Warmed39 U.vm ∧ U.heap = h0) (fun _ _ _ _ _ => True) (fun _ U o U' => ∃ v L, o = .returned v ∧ Q5 Z o0 u1 p2 w_scale_o0 w_components_o0 h0 n0 v U'.heap L ∧ FrameEnd U o U' L ({ frames := 0, cells := 0, slots := 0, locals := 0 } : Room).cells ({ frames := 0, cells := 0, slots := 0, locals := 0 } : Room).slots) := by
  refine MetFree.of_bodySF (plainFor_of_name pn_5) hisR ?_
  intro p e s m args below meth c s₁ Bd hml0 hP hK
  obtain ⟨rfl, hZ, hh⟩ := hP
  have hx := Bd.exec
  have hby := Bd.bytes
  have hml : c.maxLocals = 6 := hml0
  have hown : s.vm.findClass "com/example/lexivec/lexivec/core/ScalarQuantizer" = some m.cls := findClass_of_methodNamed Bd.named
  have hnm := (name_of_methodNamed Bd.named Bd.method).1
  have X0 : Stand p l e ({ frames := 0, cells := 0, slots := 0, locals := 0 } : Room) s m #[(.ref o0), (.double u1), (.int p2)] below meth c s₁ [] 0 0 := Stand.of_body Bd
  have e0 : s₁.heap = h0 := by rw [← hh, Bd.state]; rfl
  have N0 := Fr.nil n0
  obtain ⟨P, pre0, fin⟩ : ∃ P : State → Prop, (∀ t, Steps p.tables e below (s₁.setTop (mkF m 0 #[.val (.ref o0), .val (.double u1), .second, .val (.int p2), .unset, .unset] [])) t → P t) ∧ (∀ t, P t → Steps p.tables e below (s₁.setTop (entryFrame m #[(.ref o0), (.double u1), (.int p2)] 6)) t) := ⟨fun t => Steps p.tables e below (s₁.setTop (entryFrame m #[(.ref o0), (.double u1), (.int p2)] 6)) t, fun t k => castTop (ef_5 m o0 u1 p2) k, fun t k => k⟩
  have K0 : Keep h0 h0 [] := Keep.refl _ _
  have pre1 : ∀ t, Steps p.tables e below (s₁.setTop (mkF m 1 #[.val (.ref o0), .val (.double u1), .second, .val (.int p2), .unset, .unset] [(.ref o0)])) t → P t := fun t k => pre0 t (by
      show Steps p.tables e below (s₁.setTop (mkF m 0 #[.val (.ref o0), .val (.double u1), .second, .val (.int p2), .unset, .unset] [])) _
      refine XS.aloadN X0.here hx rfl (hb hby d5_0) rfl rfl ?_
      exact k)
  obtain ⟨T2, X2, e2, st2⟩ := getF X0 hx hZ hown (host := "") (Or.inl (hw _ (List.mem_of_getElem? (i := 37) rfl))) Via.refl e0 F_scale_o0 (g := (mkF m 1 #[.val (.ref o0), .val (.double u1), .second, .val (.int p2), .unset, .unset] [(.ref o0)])) rfl rfl (hb hby d5_1)
  have pre2 : ∀ t, Steps p.tables e below (T2.setTop (mkF m 4 #[.val (.ref o0), .val (.double u1), .second, .val (.int p2), .unset, .unset] [(.double w_scale_o0)])) t → P t := fun t k => pre1 t (st2 _ k)
  have pre3 : ∀ t, Steps p.tables e below (T2.setTop (mkF m 6 #[.val (.ref o0), .val (.double u1), .second, .val (.int p2), .unset, .unset] [(.ref o0), (.int p2), (.double w_scale_o0)])) t → P t := fun t k => pre2 t (by
      show Steps p.tables e below (T2.setTop (mkF m 4 #[.val (.ref o0), .val (.double u1), .second, .val (.int p2), .unset, .unset] [(.double w_scale_o0)])) _
      refine XS.iloadN X2.here hx rfl (hb hby d5_4) rfl ?_
      show Steps p.tables e below (T2.setTop (mkF m 5 #[.val (.ref o0), .val (.double u1), .second, .val (.int p2), .unset, .unset] [(.int p2), (.double w_scale_o0)])) _
      refine XS.aloadN X2.here hx rfl (hb hby d5_5) rfl rfl ?_
      exact k)
  obtain ⟨T4, X4, e4, st4⟩ := getF X2 hx hZ hown (host := "") (Or.inl (hw _ (List.mem_of_getElem? (i := 33) rfl))) Via.refl e2 F_components_o0 (g := (mkF m 6 #[.val (.ref o0), .val (.double u1), .second, .val (.int p2), .unset, .unset] [(.ref o0), (.int p2), (.double w_scale_o0)])) rfl rfl (hb hby d5_6)
  have pre4 : ∀ t, Steps p.tables e below (T4.setTop (mkF m 9 #[.val (.ref o0), .val (.double u1), .second, .val (.int p2), .unset, .unset] [(.int w_components_o0), (.int p2), (.double w_scale_o0)])) t → P t := fun t k => pre3 t (st4 _ k)
  obtain ⟨T9, L9, v8, X9, e9, N9, hv8, pre9⟩ : ∃ (T' : State) (L' : List Loc) (v8 : UInt64), Stand p l e ({ frames := 0, cells := 0, slots := 0, locals := 0 } : Room) s m #[(.ref o0), (.double u1), (.int p2)] below meth c T' L' 0 0 ∧ T'.heap = h0 ∧ Fr n0 L' ∧ v8 = (if p2 < w_components_o0 then u1 else (FP.dneg u1)) ∧ (∀ t, Steps p.tables e below (T'.setTop (mkF m 18 #[.val (.ref o0), .val (.double u1), .second, .val (.int p2), .unset, .unset] [(.double v8), (.double w_scale_o0)])) t → P t) := by
    by_cases hc5 : p2 < w_components_o0
    · have pre6 : ∀ t, Steps p.tables e below (T4.setTop (mkF m 18 #[.val (.ref o0), .val (.double u1), .second, .val (.int p2), .unset, .unset] [(.double u1), (.double w_scale_o0)])) t → P t := fun t k => pre4 t (by
          show Steps p.tables e below (T4.setTop (mkF m 9 #[.val (.ref o0), .val (.double u1), .second, .val (.int p2), .unset, .unset] [(.int w_components_o0), (.int p2), (.double w_scale_o0)])) _
          refine XS.icmpNo X4.here hx rfl (hb hby d5_9) rfl (tlt hc5).2.1 ?_
          show Steps p.tables e below (T4.setTop (mkF m 12 #[.val (.ref o0), .val (.double u1), .second, .val (.int p2), .unset, .unset] [(.double w_scale_o0)])) _
          refine XS.dloadN X4.here hx rfl (hb hby d5_12) rfl ?_
          show Steps p.tables e below (T4.setTop (mkF m 13 #[.val (.ref o0), .val (.double u1), .second, .val (.int p2), .unset, .unset] [(.double u1), (.double w_scale_o0)])) _
          refine XS.goto X4.here hx rfl (pc0 := 13) (pc' := 18) rfl (hb hby d5_13) (by decide) (by decide) ?_
          exact k)
      exact ⟨_, _, u1, X4, e4, N0, (by first | (rw [if_pos hc5]; done) | simp only [if_pos hc5] | simp [if_pos hc5]), pre6⟩
    · have pre7 : ∀ t, Steps p.tables e below (T4.setTop (mkF m 18 #[.val (.ref o0), .val (.double u1), .second, .val (.int p2), .unset, .unset] [(.double (FP.dneg u1)), (.double w_scale_o0)])) t → P t := fun t k => pre4 t (by
          show Steps p.tables e below (T4.setTop (mkF m 9 #[.val (.ref o0), .val (.double u1), .second, .val (.int p2), .unset, .unset] [(.int w_components_o0), (.int p2), (.double w_scale_o0)])) _
          refine XS.icmpYes X4.here hx rfl (pc0 := 9) (pc' := 16) rfl (hb hby d5_9) rfl (flt hc5).2.1 (by decide) (by decide) ?_
          show Steps p.tables e below (T4.setTop (mkF m 16 #[.val (.ref o0), .val (.double u1), .second, .val (.int p2), .unset, .unset] [(.double w_scale_o0)])) _
          refine XS.dloadN X4.here hx rfl (hb hby d5_16) rfl ?_
          show Steps p.tables e below (T4.setTop (mkF m 17 #[.val (.ref o0), .val (.double u1), .second, .val (.int p2), .unset, .unset] [(.double u1), (.double w_scale_o0)])) _
          refine XS.dnegS X4.here hx rfl (hb hby d5_17) rfl rfl ?_
          exact k)
      exact ⟨_, _, (FP.dneg u1), X4, e4, N0, (by first | (rw [if_neg hc5]; done) | simp only [if_neg hc5] | simp [if_neg hc5]), pre7⟩
  have pre10 : ∀ t, Steps p.tables e below (T9.setTop (mkF m 21 #[.val (.ref o0), .val (.double u1), .second, .val (.int p2), .val (.double (FP.dmul w_scale_o0 v8)), .second] [])) t → P t := fun t k => pre9 t (by
      show Steps p.tables e below (T9.setTop (mkF m 18 #[.val (.ref o0), .val (.double u1), .second, .val (.int p2), .unset, .unset] [(.double v8), (.double w_scale_o0)])) _
      refine XS.dmulS X9.here hx rfl (hb hby d5_18) rfl (hnn _ (by subst hv8; split <;> simp)) rfl ?_
      show Steps p.tables e below (T9.setTop (mkF m 19 #[.val (.ref o0), .val (.double u1), .second, .val (.int p2), .unset, .unset] [(.double (FP.dmul w_scale_o0 v8))])) _
      refine XS.dstore X9.here hx rfl (hb hby d5_19) rfl (l' := #[.val (.ref o0), .val (.double u1), .second, .val (.int p2), .val (.double (FP.dmul w_scale_o0 v8)), .second]) rfl ?_
      exact k)
  obtain ⟨v11, hv11⟩ : ∃ z : UInt64, z = (FP.dmul w_scale_o0 v8) := ⟨_, rfl⟩
  have pre12 : ∀ t, Steps p.tables e below (T9.setTop (mkF m 21 #[.val (.ref o0), .val (.double u1), .second, .val (.int p2), .val (.double v11), .second] [])) t → P t := fun t k => pre10 t (by subst hv11; exact k)
  have pre13 : ∀ t, Steps p.tables e below (T9.setTop (mkF m 25 #[.val (.ref o0), .val (.double u1), .second, .val (.int p2), .val (.double v11), .second] [(.int (cmpValue (FP.dcmp v11 FP.dconst1) .l))])) t → P t := fun t k => pre12 t (by
      show Steps p.tables e below (T9.setTop (mkF m 21 #[.val (.ref o0), .val (.double u1), .second, .val (.int p2), .val (.double v11), .second] [])) _
      refine XS.dload X9.here hx rfl (hb hby d5_21) rfl ?_
      show Steps p.tables e below (T9.setTop (mkF m 23 #[.val (.ref o0), .val (.double u1), .second, .val (.int p2), .val (.double v11), .second] [(.double v11)])) _
      refine XS.dconst1 X9.here hx rfl (hb hby d5_23) rfl ?_
      show Steps p.tables e below (T9.setTop (mkF m 24 #[.val (.ref o0), .val (.double u1), .second, .val (.int p2), .val (.double v11), .second] [(.double FP.dconst1), (.double v11)])) _
      refine XS.dcmpS X9.here hx rfl (hb hby d5_24) rfl rfl ?_
      exact k)
  obtain ⟨T18, L18, v17, X18, e18, N18, hv17, pre18⟩ : ∃ (T' : State) (L' : List Loc) (v17 : Int32), Stand p l e ({ frames := 0, cells := 0, slots := 0, locals := 0 } : Room) s m #[(.ref o0), (.double u1), (.int p2)] below meth c T' L' 0 0 ∧ T'.heap = h0 ∧ Fr n0 L' ∧ v17 = (if (cmpValue (FP.dcmp v11 FP.dconst1) .l) < (0 : Int32) then (0 : Int32) else (FP.d2i v11)) ∧ (∀ t, Steps p.tables e below (T'.setTop (mkF m 35 #[.val (.ref o0), .val (.double u1), .second, .val (.int p2), .val (.double v11), .second] [(.int v17)])) t → P t) := by
    by_cases hc14 : (cmpValue (FP.dcmp v11 FP.dconst1) .l) < (0 : Int32)
    · have pre15 : ∀ t, Steps p.tables e below (T9.setTop (mkF m 35 #[.val (.ref o0), .val (.double u1), .second, .val (.int p2), .val (.double v11), .second] [(.int (0 : Int32))])) t → P t := fun t k => pre13 t (by
          show Steps p.tables e below (T9.setTop (mkF m 25 #[.val (.ref o0), .val (.double u1), .second, .val (.int p2), .val (.double v11), .second] [(.int (cmpValue (FP.dcmp v11 FP.dconst1) .l))])) _
          refine XS.ifYes X9.here hx rfl (pc0 := 25) (pc' := 34) rfl (hb hby d5_25) rfl ((if0 _ _).trans (tlt hc14).1) (by decide) (by decide) ?_
          show Steps p.tables e below (T9.setTop (mkF m 34 #[.val (.ref o0), .val (.double u1), .second, .val (.int p2), .val (.double v11), .second] [])) _
          refine XS.iconst X9.here hx rfl (hb hby d5_34) ?_
          exact k)
      exact ⟨_, _, (0 : Int32), X9, e9, N9, (by first | (rw [if_pos hc14]; done) | simp only [if_pos hc14] | simp [if_pos hc14]), pre15⟩
    · have pre16 : ∀ t, Steps p.tables e below (T9.setTop (mkF m 35 #[.val (.ref o0), .val (.double u1), .second, .val (.int p2), .val (.double v11), .second] [(.int (FP.d2i v11))])) t → P t := fun t k => pre13 t (by
          show Steps p.tables e below (T9.setTop (mkF m 25 #[.val (.ref o0), .val (.double u1), .second, .val (.int p2), .val (.double v11), .second] [(.int (cmpValue (FP.dcmp v11 FP.dconst1) .l))])) _
          refine XS.ifNo X9.here hx rfl (hb hby d5_25) rfl ((if0 _ _).trans (flt hc14).1) ?_
          show Steps p.tables e below (T9.setTop (mkF m 28 #[.val (.ref o0), .val (.double u1), .second, .val (.int p2), .val (.double v11), .second] [])) _
          refine XS.dload X9.here hx rfl (hb hby d5_28) rfl ?_
          show Steps p.tables e below (T9.setTop (mkF m 30 #[.val (.ref o0), .val (.double u1), .second, .val (.int p2), .val (.double v11), .second] [(.double v11)])) _
          refine XS.d2iS X9.here hx rfl (hb hby d5_30) rfl rfl ?_
          show Steps p.tables e below (T9.setTop (mkF m 31 #[.val (.ref o0), .val (.double u1), .second, .val (.int p2), .val (.double v11), .second] [(.int (FP.d2i v11))])) _
          refine XS.goto X9.here hx rfl (pc0 := 31) (pc' := 35) rfl (hb hby d5_31) (by decide) (by decide) ?_
          exact k)
      exact ⟨_, _, (FP.d2i v11), X9, e9, N9, (by first | (rw [if_neg hc14]; done) | simp only [if_neg hc14] | simp [if_neg hc14]), pre16⟩
  obtain ⟨fs, hr, hrun, hended, hW, hsame⟩ := X18.leave (v := some (.int v17)) (fun h => by rw [Bd.returns] at h; cases h)
  refine ⟨_, _, fin _ (pre18 _ ?_), hrun, hended, _, _, rfl, ?_, ⟨_, rfl⟩, hW, hsame.mono (by decide) (by decide)⟩
  · show Steps p.tables e below (T18.setTop (mkF m 35 #[.val (.ref o0), .val (.double u1), .second, .val (.int p2), .val (.double v11), .second] [(.int v17)])) _
    exact retI X18 hx Bd.returns (hb hby d5_35) hr
  · show Q5 Z o0 u1 p2 w_scale_o0 w_components_o0 h0 n0 _ T18.heap _
    rw [e18]
    exact ⟨(by subst hv8 hv11 hv17; first | rfl | simp only [own_f5]), N18, rfl⟩
theorem own_pw {A B a b : Nat} {E : Int} (h : A * 2 ^ a = B * 2 ^ b) (hE : E = (a : Int) - b) : A * 2 ^ E.toNat = B * 2 ^ (-E).toNat := by
  rcases Int.le_total 0 E with c | c
  · have e1 : (-E).toNat = 0 := by omega
    have e2 : a = E.toNat + b := by omega
    rw [e1, Nat.pow_zero, Nat.mul_one]
    rw [e2, Nat.pow_add, ← Nat.mul_assoc] at h
    exact Nat.eq_of_mul_eq_mul_right (Nat.two_pow_pos b) h
  · have e1 : E.toNat = 0 := by omega
    have e2 : b = (-E).toNat + a := by omega
    rw [e1, Nat.pow_zero, Nat.mul_one]
    rw [e2, Nat.pow_add, ← Nat.mul_assoc] at h
    exact Nat.eq_of_mul_eq_mul_right (Nat.two_pow_pos a) h
def own_D (x : UInt64) (s : Bool) (n k : Nat) : Prop := FP.Core.val64 x = FP.Core.round FP.Core.b64 (.fin s n (-(k : Int)))
theorem own_fin {x : UInt64} {s : Bool} {n k : Nat} (h : own_D x s n k) (hn : n < 9007199254740992) (hk : k ≤ 1000) : ∃ (c : Nat) (q : Int), FP.Core.val64 x = .fin s c q ∧ -1074 ≤ q ∧ q ≤ 971 ∧ c * 2 ^ (q + 1074).toNat = n * 2 ^ (1074 - k) := by
  have q0 : FP.Core.b64.qmin = -1074 := by decide
  have q1 : FP.Core.b64.qmax = 971 := by decide
  have pp : 2 ^ FP.Core.b64.p = 9007199254740992 := by decide
  obtain ⟨c, q, h1, h2⟩ := FP.Core.round_exact FP.Core.good_b64 s (c := n) (q := -(k : Int)) (by rw [pp]; exact hn) (by rw [q0]; omega) (by rw [q1]; omega)
  have h3 : FP.Core.val64 x = .fin s c q := h.trans h1
  have h4 := FP.Core.val64_fits x
  rw [h3] at h4
  obtain ⟨f1, f2, f3, f4⟩ := h4
  rw [q0] at f2
  rw [q1] at f3
  refine ⟨c, q, h3, f2, f3, ?_⟩
  have h5 : c * 2 ^ (q - FP.Core.b64.qmin).toNat = n * 2 ^ (-(k : Int) - FP.Core.b64.qmin).toNat := h2
  rw [q0] at h5
  have e1 : (q - -1074).toNat = (q + 1074).toNat := by omega
  have e2 : (-(k : Int) - -1074).toNat = 1074 - k := by omega
  rw [e1, e2] at h5
  exact h5
theorem own_mul {x y : UInt64} {s t : Bool} {n m k l : Nat} (hx : own_D x s n k) (hy : own_D y t m l) (hn : n < 9007199254740992) (hm : m < 9007199254740992) (hk : k ≤ 500) (hl : l ≤ 500) : own_D (FP.dmul x y) (s != t) (n * m) (k + l) := by
  obtain ⟨c, q, v1, a1, a2, e1⟩ := own_fin hx hn (by omega)
  obtain ⟨d, r, v2, b1, b2, e2⟩ := own_fin hy hm (by omega)
  show FP.Core.val64 (FP.Core.dmul x y) = _
  rw [FP.Core.val64_dmul, v1, v2]
  show FP.Core.roundRatio FP.Core.b64 (s != t) (c * d) 1 (q + r) = FP.Core.roundRatio FP.Core.b64 (s != t) (n * m) 1 (-((k + l : Nat) : Int))
  refine FP.Core.roundRatio_congr (by decide) (by decide) ?_
  have h : (c * d) * 2 ^ ((q + 1074).toNat + (r + 1074).toNat) = (n * m) * 2 ^ ((1074 - k) + (1074 - l)) := by
    rw [Nat.pow_add, Nat.pow_add, Nat.mul_mul_mul_comm c d, Nat.mul_mul_mul_comm n m, e1, e2]
  have h2 := own_pw h (E := q + r + (k + l : Nat)) (by omega)
  rw [Nat.mul_one, Nat.mul_one]
  have a3 : (q + r - -((k + l : Nat) : Int)).toNat = (q + r + (k + l : Nat)).toNat := by omega
  have a4 : (-((k + l : Nat) : Int) - (q + r)).toNat = (-(q + r + (k + l : Nat))).toNat := by omega
  rw [a3, a4]
  exact h2
theorem own_dv {x y : UInt64} {s : Bool} {n k j : Nat} (hx : own_D x s n k) (hy : FP.Core.val64 y = .fin false 4503599627370496 ((j : Int) - 52)) (hn : n < 9007199254740992) (hk : k + j ≤ 500) : own_D (FP.ddiv x y) s n (k + j) := by
  obtain ⟨c, q, v1, a1, a2, e1⟩ := own_fin hx hn (by omega)
  show FP.Core.val64 (FP.Core.ddiv x y) = _
  rw [FP.Core.val64_ddiv, v1, hy]
  show (if (4503599627370496 : Nat) = 0 then (if c = 0 then FP.Core.Datum.nan else FP.Core.Datum.inf (s != false)) else FP.Core.roundRatio FP.Core.b64 (s != false) c 4503599627370496 (q - ((j : Int) - 52))) = FP.Core.roundRatio FP.Core.b64 s n 1 (-((k + j : Nat) : Int))
  rw [if_neg (by decide), Bool.bne_false]
  refine FP.Core.roundRatio_congr (by decide) (by decide) ?_
  have h : c * 2 ^ (q + 1074).toNat = (n * 4503599627370496) * 2 ^ (1022 - k) := by
    rw [e1, Nat.mul_assoc, show (4503599627370496 : Nat) = 2 ^ 52 by decide, ← Nat.pow_add]
    congr 2
    omega
  have h2 := own_pw h (E := q + 52 + k) (by omega)
  rw [Nat.mul_one]
  have a3 : (q - ((j : Int) - 52) - -((k + j : Nat) : Int)).toNat = (q + 52 + k).toNat := by omega
  have a4 : (-((k + j : Nat) : Int) - (q - ((j : Int) - 52))).toNat = (-(q + 52 + (k : Int))).toNat := by omega
  rw [a3, a4]
  exact h2
theorem own_no {x : UInt64} {s : Bool} {n k : Nat} (hx : own_D x s n k) (hn : n < 9007199254740992) (hk : k ≤ 500) : FP.Core.val64 x ≠ .nan := by
  obtain ⟨c, q, v1, -⟩ := own_fin hx hn (by omega)
  rw [v1]
  exact fun h => nomatch h
theorem own_nn {x : UInt64} {s : Bool} {n k : Nat} (hx : own_D x s n k) (hn : n < 9007199254740992) (hk : k ≤ 500) : NoNaN64 x := val64_no.mpr (own_no hx hn hk)
theorem own_ng {x : UInt64} {s : Bool} {n k : Nat} (hx : own_D x s n k) (hn : n < 9007199254740992) (hk : k ≤ 500) : own_D (FP.dneg x) (!s) n k := by
  have h := own_no hx hn hk
  have h1 : FP.dneg x = FP.Core.dneg x := FP.dneg_core (by
    have : ¬ FP.Core.decode FP.Core.b64 x.toNat = .nan := h
    show decide (FP.Core.decode FP.Core.b64 x.toNat = .nan) = false
    exact decide_eq_false this)
  unfold own_D
  rw [h1, FP.Core.val64_dneg, hx, FP.Core.negate_round]
  rfl
theorem own_i2d (v : Int32) : own_D (FP.i2d v) (decide (v.toInt < 0)) v.toInt.natAbs 0 := by
  show FP.Core.val64 (FP.Core.i2d v) = _
  rw [FP.Core.val64_i2d]
  rfl
theorem own_z {x : UInt64} {s : Bool} {n k : Nat} (hx : own_D x s n k) (hn : n < 9007199254740992) (hk : k ≤ 500) : FP.Core.sgn (FP.Core.val64 x) = s ∧ FP.Core.zmag FP.Core.b64 (FP.Core.val64 x) = n * 2 ^ (1074 - k) := by
  obtain ⟨c, q, v1, a1, a2, e1⟩ := own_fin hx hn (by omega)
  rw [v1]
  refine ⟨rfl, ?_⟩
  show c * 2 ^ (q - FP.Core.b64.qmin).toNat = _
  have q0 : FP.Core.b64.qmin = -1074 := by decide
  rw [q0, ← e1]
  congr 2
theorem own_cmp {x y : UInt64} {s : Bool} {n k : Nat} (hx : own_D x s n k) (hn : n < 9007199254740992) (hk : k ≤ 500) {Y : Int} (hy : FP.Core.val64 y ≠ .nan) (hY : FP.Core.zval FP.Core.b64 (FP.Core.val64 y) = Y) : FP.dcmp x y = some (compare (FP.Core.signed s (n * 2 ^ (1074 - k))) Y) := by
  have h := FP.Core.dcmp_zval (own_no hx hn hk) hy
  rw [hY] at h
  obtain ⟨h1, h2⟩ := own_z hx hn hk
  unfold FP.Core.zval at h
  rw [h1, h2] at h
  exact h
theorem own_clt {a b : Int} (h : a < b) : compare a b = .lt := by
  show compareOfLessAndEq a b = .lt
  unfold compareOfLessAndEq
  rw [if_pos h]
theorem own_cge {a b : Int} (h : b ≤ a) (o : CmpOp) : ¬ cmpValue (some (compare a b)) o < (0 : Int32) := by
  have : compare a b = .eq ∨ compare a b = .gt := by
    show compareOfLessAndEq a b = .eq ∨ compareOfLessAndEq a b = .gt
    unfold compareOfLessAndEq
    rw [if_neg (by omega)]
    split
    · exact Or.inl rfl
    · exact Or.inr rfl
  rcases this with e | e
  · rw [e]
    exact (by decide : ¬ (0 : Int32) < 0)
  · rw [e]
    exact (by decide : ¬ (1 : Int32) < 0)
theorem own_cgt {a b : Int} (h : b < a) : compare a b = .gt := by
  show compareOfLessAndEq a b = .gt
  unfold compareOfLessAndEq
  rw [if_neg (by omega), if_neg (by omega)]
theorem own_rs (x : Int32) : 1 ≤ ((1 : Int32) + (x &&& (4095 : Int32))).toInt ∧ ((1 : Int32) + (x &&& (4095 : Int32))).toInt ≤ 4096 := by
  have h := c_mask x 4095 12 (by decide) (by decide)
  have h1 := c_iadd 1 (x &&& 4095)
  have h2 := rng32 (1 + (x &&& 4095))
  have e1 : (1 : Int32).toInt = 1 := by decide
  omega
theorem own_rd (x : Int32) : 1 ≤ ((1 : Int32) + (x &&& (255 : Int32))).toInt ∧ ((1 : Int32) + (x &&& (255 : Int32))).toInt ≤ 256 := by
  have h := c_mask x 255 8 (by decide) (by decide)
  have h1 := c_iadd 1 (x &&& 255)
  have h2 := rng32 (1 + (x &&& 255))
  have e1 : (1 : Int32).toInt = 1 := by decide
  omega
theorem own_rk (x : Int32) : 1 ≤ ((1 : Int32) + (x &&& (511 : Int32))).toInt := by
  have h := c_mask x 511 9 (by decide) (by decide)
  have h1 := c_iadd 1 (x &&& 511)
  have h2 := rng32 (1 + (x &&& 511))
  have e1 : (1 : Int32).toInt = 1 := by decide
  omega
theorem own_ra (x : Int32) : -8388608 ≤ ((x &&& (16777215 : Int32)) - (8388608 : Int32)).toInt ∧ ((x &&& (16777215 : Int32)) - (8388608 : Int32)).toInt < 8388608 := by
  have h := c_mask x 16777215 24 (by decide) (by decide)
  have h1 := c_isub (x &&& 16777215) 8388608
  have h2 := rng32 ((x &&& 16777215) - 8388608)
  have e1 : (8388608 : Int32).toInt = 8388608 := by decide
  omega
theorem own_l1 (v : Int32) (h : 1 ≤ v.toInt) : ¬ v < (1 : Int32) := by
  have e1 : (1 : Int32).toInt = 1 := by decide
  rw [Int32.lt_iff_toInt_lt]
  omega
theorem own_z2 (x : Int32) : (2 : Int32) * ((1 : Int32) + (x &&& (255 : Int32))) ≠ 0 := by
  have h := own_rd x
  generalize (1 : Int32) + (x &&& (255 : Int32)) = d at *
  have h1 := c_imul 2 d
  have h2 := rng32 (2 * d)
  have e1 : (2 : Int32).toInt = 2 := by decide
  have e0 : (0 : Int32).toInt = 0 := by decide
  rw [e1] at h1
  rw [Ne, ← Int32.toInt_inj]
  omega
theorem own_c4 : FP.Core.val64 (4616189618054758400 : UInt64) = .fin false 4503599627370496 (((2 : Nat) : Int) - 52) := by decide +kernel
theorem own_c8 : FP.Core.val64 (4620693217682128896 : UInt64) = .fin false 4503599627370496 (((3 : Nat) : Int) - 52) := by decide +kernel
theorem own_scale (S : Int32) (h : 1 ≤ S.toInt ∧ S.toInt ≤ 4096) : own_D (FP.ddiv (FP.i2d S) (4616189618054758400 : UInt64)) false S.toInt.natAbs 2 := by
  have h1 := own_i2d S
  have e : decide (S.toInt < 0) = false := decide_eq_false (by omega)
  rw [e] at h1
  have hn : S.toInt.natAbs < 9007199254740992 := by omega
  have h2 := own_dv (j := 2) (k := 0) (y := (4616189618054758400 : UInt64)) h1 own_c4 hn (by decide)
  exact h2
theorem own_value (A : Int32) (h : -8388608 ≤ A.toInt ∧ A.toInt < 8388608) : own_D (FP.ddiv (FP.i2d A) (4620693217682128896 : UInt64)) (decide (A.toInt < 0)) A.toInt.natAbs 3 := by
  have hn : A.toInt.natAbs < 9007199254740992 := by omega
  have h1 := own_i2d A
  have h2 := own_dv (j := 3) (k := 0) (y := (4620693217682128896 : UInt64)) h1 own_c8 hn (by decide)
  exact h2
theorem own_s0 {x : UInt64} {n k : Nat} (hx : own_D x false n k) (h1 : 1 ≤ n) (hn : n < 9007199254740992) (hk : k ≤ 500) : (0 : Int32) < (cmpValue (FP.dcmp x FP.dconst0) .l) := by
  rw [own_cmp hx hn hk (Y := 0) (by decide +kernel) (by decide +kernel)]
  have hp : 0 < n * 2 ^ (1074 - k) := Nat.mul_pos (by omega) (Nat.two_pow_pos _)
  generalize n * 2 ^ (1074 - k) = N at *
  rw [own_cgt (show (0 : Int) < FP.Core.signed false N by show (0 : Int) < (N : Int); omega)]
  decide
theorem own_si {x : UInt64} {s : Bool} {n k : Nat} (hx : own_D x s n k) (hn : n < 9007199254740992) (hk : k ≤ 500) : (cmpValue (FP.dcmp x (9218868437227405312 : UInt64)) .g) < (0 : Int32) := by
  rw [own_cmp hx hn hk (Y := ((2 ^ 2098 : Nat) : Int)) (by decide +kernel) (by decide +kernel)]
  have hp : n * 2 ^ (1074 - k) < 2 ^ 2098 := by
    have a1 : n * 2 ^ (1074 - k) ≤ n * 2 ^ 1074 := Nat.mul_le_mul_left _ (Nat.pow_le_pow_right (by decide) (by omega))
    have a2 : n * 2 ^ 1074 < 2 ^ 53 * 2 ^ 1074 := Nat.mul_lt_mul_of_pos_right (by omega) (Nat.two_pow_pos _)
    rw [← Nat.pow_add] at a2
    have a3 : 2 ^ (53 + 1074) ≤ 2 ^ 2098 := Nat.pow_le_pow_right (by decide) (by decide)
    exact Nat.lt_of_le_of_lt a1 (Nat.lt_of_lt_of_le a2 a3)
  generalize n * 2 ^ (1074 - k) = N at *
  generalize 2 ^ 2098 = M at *
  rw [own_clt (show FP.Core.signed s N < (M : Int) by cases s <;> simp [FP.Core.signed] <;> omega)]
  decide
theorem own_pd2 : parseMethodDescriptor "(IIDZ)V" = some ⟨[.int, .int, .double, .boolean], none⟩ := by decide +kernel
theorem own_pd3 : parseMethodDescriptor "(DI)I" = some ⟨[.double, .int], some .int⟩ := by decide +kernel
theorem pn_0 : plainName "com/example/lexivec/lexivec/core/ScalarQuantizerFrequencyPinLaw" = true := by first | (simp [plainName, overriddenIn]; done) | decide +kernel
theorem ef_0 (m : MethodId) (p0 : Int32) (p1 : Int32) (p2 : Int32) (p3 : Int32) (p4 : Int32) (p5 : Int32) : entryFrame m #[(.int p0), (.int p1), (.int p2), (.int p3), (.int p4), (.int p5)] maxLocals = mkF m 0 #[.val (.int p0), .val (.int p1), .val (.int p2), .val (.int p3), .val (.int p4), .val (.int p5), .unset, .unset, .unset, .unset, .unset, .unset, .unset, .unset, .unset, .unset, .unset, .unset, .unset, .unset, .unset, .unset, .unset] [] := by first | (simp [entryFrame, mkF, argsToLocals, Value.category, maxLocals]; done) | rfl
def own_f0 (p0 : Int32) (p1 : Int32) (p2 : Int32) (p3 : Int32) (p4 : Int32) (p5 : Int32) : Int32 := (let v2 : Int32 := ((1 : Int32) + (p0 &&& (255 : Int32))); (let v8 : Int32 := ((1 : Int32) + (p2 &&& (4095 : Int32))); (let v11 : Int32 := ((p3 &&& (16777215 : Int32)) - (8388608 : Int32)); (let v14 : Int32 := ((p4 &&& (2147483647 : Int32)) % ((2 : Int32) * v2)); (let v23 : UInt64 := (FP.ddiv (FP.i2d v8) (4616189618054758400 : UInt64)); (let v26 : UInt64 := (FP.ddiv (FP.i2d v11) (4620693217682128896 : UInt64)); (let v38 : Int32 := (own_f5 v26 v14 v23 v2); (let v44 : Int64 := (if v14 < v2 then (v11.toInt64) else (-(v11.toInt64))); (let v47 : Int64 := ((v8.toInt64) * v44); (let v53 : Int32 := (if v47 < (32 : Int64) then (0 : Int32) else ((v47 >>> ((5 : Int32) &&& 0x3f).toInt64).toInt32)); (if v38 = v53 then (1 : Int32) else (0 : Int32))))))))))))
def Q0 (Z : State) (p0 : Int32) (p1 : Int32) (p2 : Int32) (p3 : Int32) (p4 : Int32) (p5 : Int32) (h0 : Heap) (n0 : Nat) (v : Option Value) (h : Heap) (L : List Loc) : Prop := v = some (.int (own_f0 p0 p1 p2 p3 p4 p5)) ∧ Fr n0 L
set_option maxRecDepth 65536 in
set_option maxHeartbeats 40000000 in
theorem rm0 (l : Launch) (Z : State) (a0 : Array Value) (hw : ∀ d ∈ tables_1, d.before a0 Z = true) (ws : List Jvm.Cond) (p0 : Int32) (p1 : Int32) (p2 : Int32) (p3 : Int32) (p4 : Int32) (p5 : Int32) (h0 : Heap) (n0 : Nat) (Z0 : n0 ≤ h0.size) :
    MetFree l x (head1 (Jvm.Cond.code x code maxLocals ret :: ws) room_1) (fun a U => a = #[(.int p0), (.int p1), (.int p2), (.int p3), (.int p4), (.int p5)] ∧ Z.Warmed39 U.vm ∧ U.heap = h0) (fun _ _ _ _ _ => True) (fun _ U o U' => ∃ v L, o = .returned v ∧ Q0 Z p0 p1 p2 p3 p4 p5 h0 n0 v U'.heap L ∧ FrameEnd U o U' L room_1.cells room_1.slots) := by
  refine MetFree.of_bodySF (plainFor_of_name pn_0) hisR ?_
  intro p e s m args below meth c s₁ Bd hml0 hP hK
  obtain ⟨rfl, hZ, hh⟩ := hP
  have hx := Bd.exec
  have hby := Bd.bytes
  have hml : c.maxLocals = 23 := hml0
  have hown : s.vm.findClass "com/example/lexivec/lexivec/core/ScalarQuantizerFrequencyPinLaw" = some m.cls := findClass_of_methodNamed Bd.named
  have hnm := (name_of_methodNamed Bd.named Bd.method).1
  have X0 : Stand p l e room_1 s m #[(.int p0), (.int p1), (.int p2), (.int p3), (.int p4), (.int p5)] below meth c s₁ [] 0 0 := Stand.of_body Bd
  have e0 : s₁.heap = h0 := by rw [← hh, Bd.state]; rfl
  have N0 := Fr.nil n0
  obtain ⟨P, pre0, fin⟩ : ∃ P : State → Prop, (∀ t, Steps p.tables e below (s₁.setTop (mkF m 0 #[.val (.int p0), .val (.int p1), .val (.int p2), .val (.int p3), .val (.int p4), .val (.int p5), .unset, .unset, .unset, .unset, .unset, .unset, .unset, .unset, .unset, .unset, .unset, .unset, .unset, .unset, .unset, .unset, .unset] [])) t → P t) ∧ (∀ t, P t → Steps p.tables e below (s₁.setTop (entryFrame m #[(.int p0), (.int p1), (.int p2), (.int p3), (.int p4), (.int p5)] maxLocals)) t) := ⟨fun t => Steps p.tables e below (s₁.setTop (entryFrame m #[(.int p0), (.int p1), (.int p2), (.int p3), (.int p4), (.int p5)] maxLocals)) t, fun t k => castTop (ef_0 m p0 p1 p2 p3 p4 p5) k, fun t k => k⟩
  have K0 : Keep h0 h0 [] := Keep.refl _ _
  have pre1 : ∀ t, Steps p.tables e below (s₁.setTop (mkF m 9 #[.val (.int p0), .val (.int p1), .val (.int p2), .val (.int p3), .val (.int p4), .val (.int p5), .val (.int ((1 : Int32) + (p0 &&& (255 : Int32)))), .unset, .unset, .unset, .unset, .unset, .unset, .unset, .unset, .unset, .unset, .unset, .unset, .unset, .unset, .unset, .unset] [])) t → P t := fun t k => pre0 t (by
      show Steps p.tables e below (s₁.setTop (mkF m 0 #[.val (.int p0), .val (.int p1), .val (.int p2), .val (.int p3), .val (.int p4), .val (.int p5), .unset, .unset, .unset, .unset, .unset, .unset, .unset, .unset, .unset, .unset, .unset, .unset, .unset, .unset, .unset, .unset, .unset] [])) _
      refine XS.iconst X0.here hx rfl (hb hby at_0) ?_
      show Steps p.tables e below (s₁.setTop (mkF m 1 #[.val (.int p0), .val (.int p1), .val (.int p2), .val (.int p3), .val (.int p4), .val (.int p5), .unset, .unset, .unset, .unset, .unset, .unset, .unset, .unset, .unset, .unset, .unset, .unset, .unset, .unset, .unset, .unset, .unset] [(.int (1 : Int32))])) _
      refine XS.iloadN X0.here hx rfl (hb hby at_1) rfl ?_
      show Steps p.tables e below (s₁.setTop (mkF m 2 #[.val (.int p0), .val (.int p1), .val (.int p2), .val (.int p3), .val (.int p4), .val (.int p5), .unset, .unset, .unset, .unset, .unset, .unset, .unset, .unset, .unset, .unset, .unset, .unset, .unset, .unset, .unset, .unset, .unset] [(.int p0), (.int (1 : Int32))])) _
      refine XS.sipush X0.here hx rfl (hb hby at_2) ?_
      show Steps p.tables e below (s₁.setTop (mkF m 5 #[.val (.int p0), .val (.int p1), .val (.int p2), .val (.int p3), .val (.int p4), .val (.int p5), .unset, .unset, .unset, .unset, .unset, .unset, .unset, .unset, .unset, .unset, .unset, .unset, .unset, .unset, .unset, .unset, .unset] [(.int (255 : Int32)), (.int p0), (.int (1 : Int32))])) _
      refine XS.iand X0.here hx rfl (hb hby at_5) rfl ?_
      show Steps p.tables e below (s₁.setTop (mkF m 6 #[.val (.int p0), .val (.int p1), .val (.int p2), .val (.int p3), .val (.int p4), .val (.int p5), .unset, .unset, .unset, .unset, .unset, .unset, .unset, .unset, .unset, .unset, .unset, .unset, .unset, .unset, .unset, .unset, .unset] [(.int (p0 &&& (255 : Int32))), (.int (1 : Int32))])) _
      refine XS.iadd X0.here hx rfl (hb hby at_6) rfl ?_
      show Steps p.tables e below (s₁.setTop (mkF m 7 #[.val (.int p0), .val (.int p1), .val (.int p2), .val (.int p3), .val (.int p4), .val (.int p5), .unset, .unset, .unset, .unset, .unset, .unset, .unset, .unset, .unset, .unset, .unset, .unset, .unset, .unset, .unset, .unset, .unset] [(.int ((1 : Int32) + (p0 &&& (255 : Int32))))])) _
      refine XS.istore X0.here hx rfl (hb hby at_7) rfl (l' := #[.val (.int p0), .val (.int p1), .val (.int p2), .val (.int p3), .val (.int p4), .val (.int p5), .val (.int ((1 : Int32) + (p0 &&& (255 : Int32)))), .unset, .unset, .unset, .unset, .unset, .unset, .unset, .unset, .unset, .unset, .unset, .unset, .unset, .unset, .unset, .unset]) rfl ?_
      exact k)
  obtain ⟨v2, hv2⟩ : ∃ z : Int32, z = ((1 : Int32) + (p0 &&& (255 : Int32))) := ⟨_, rfl⟩
  have pre3 : ∀ t, Steps p.tables e below (s₁.setTop (mkF m 9 #[.val (.int p0), .val (.int p1), .val (.int p2), .val (.int p3), .val (.int p4), .val (.int p5), .val (.int v2), .unset, .unset, .unset, .unset, .unset, .unset, .unset, .unset, .unset, .unset, .unset, .unset, .unset, .unset, .unset, .unset] [])) t → P t := fun t k => pre1 t (by subst hv2; exact k)
  have pre4 : ∀ t, Steps p.tables e below (s₁.setTop (mkF m 18 #[.val (.int p0), .val (.int p1), .val (.int p2), .val (.int p3), .val (.int p4), .val (.int p5), .val (.int v2), .val (.int ((1 : Int32) + (p1 &&& (511 : Int32)))), .unset, .unset, .unset, .unset, .unset, .unset, .unset, .unset, .unset, .unset, .unset, .unset, .unset, .unset, .unset] [])) t → P t := fun t k => pre3 t (by
      show Steps p.tables e below (s₁.setTop (mkF m 9 #[.val (.int p0), .val (.int p1), .val (.int p2), .val (.int p3), .val (.int p4), .val (.int p5), .val (.int v2), .unset, .unset, .unset, .unset, .unset, .unset, .unset, .unset, .unset, .unset, .unset, .unset, .unset, .unset, .unset, .unset] [])) _
      refine XS.iconst X0.here hx rfl (hb hby at_9) ?_
      show Steps p.tables e below (s₁.setTop (mkF m 10 #[.val (.int p0), .val (.int p1), .val (.int p2), .val (.int p3), .val (.int p4), .val (.int p5), .val (.int v2), .unset, .unset, .unset, .unset, .unset, .unset, .unset, .unset, .unset, .unset, .unset, .unset, .unset, .unset, .unset, .unset] [(.int (1 : Int32))])) _
      refine XS.iloadN X0.here hx rfl (hb hby at_10) rfl ?_
      show Steps p.tables e below (s₁.setTop (mkF m 11 #[.val (.int p0), .val (.int p1), .val (.int p2), .val (.int p3), .val (.int p4), .val (.int p5), .val (.int v2), .unset, .unset, .unset, .unset, .unset, .unset, .unset, .unset, .unset, .unset, .unset, .unset, .unset, .unset, .unset, .unset] [(.int p1), (.int (1 : Int32))])) _
      refine XS.sipush X0.here hx rfl (hb hby at_11) ?_
      show Steps p.tables e below (s₁.setTop (mkF m 14 #[.val (.int p0), .val (.int p1), .val (.int p2), .val (.int p3), .val (.int p4), .val (.int p5), .val (.int v2), .unset, .unset, .unset, .unset, .unset, .unset, .unset, .unset, .unset, .unset, .unset, .unset, .unset, .unset, .unset, .unset] [(.int (511 : Int32)), (.int p1), (.int (1 : Int32))])) _
      refine XS.iand X0.here hx rfl (hb hby at_14) rfl ?_
      show Steps p.tables e below (s₁.setTop (mkF m 15 #[.val (.int p0), .val (.int p1), .val (.int p2), .val (.int p3), .val (.int p4), .val (.int p5), .val (.int v2), .unset, .unset, .unset, .unset, .unset, .unset, .unset, .unset, .unset, .unset, .unset, .unset, .unset, .unset, .unset, .unset] [(.int (p1 &&& (511 : Int32))), (.int (1 : Int32))])) _
      refine XS.iadd X0.here hx rfl (hb hby at_15) rfl ?_
      show Steps p.tables e below (s₁.setTop (mkF m 16 #[.val (.int p0), .val (.int p1), .val (.int p2), .val (.int p3), .val (.int p4), .val (.int p5), .val (.int v2), .unset, .unset, .unset, .unset, .unset, .unset, .unset, .unset, .unset, .unset, .unset, .unset, .unset, .unset, .unset, .unset] [(.int ((1 : Int32) + (p1 &&& (511 : Int32))))])) _
      refine XS.istore X0.here hx rfl (hb hby at_16) rfl (l' := #[.val (.int p0), .val (.int p1), .val (.int p2), .val (.int p3), .val (.int p4), .val (.int p5), .val (.int v2), .val (.int ((1 : Int32) + (p1 &&& (511 : Int32)))), .unset, .unset, .unset, .unset, .unset, .unset, .unset, .unset, .unset, .unset, .unset, .unset, .unset, .unset, .unset]) rfl ?_
      exact k)
  obtain ⟨v5, hv5⟩ : ∃ z : Int32, z = ((1 : Int32) + (p1 &&& (511 : Int32))) := ⟨_, rfl⟩
  have pre6 : ∀ t, Steps p.tables e below (s₁.setTop (mkF m 18 #[.val (.int p0), .val (.int p1), .val (.int p2), .val (.int p3), .val (.int p4), .val (.int p5), .val (.int v2), .val (.int v5), .unset, .unset, .unset, .unset, .unset, .unset, .unset, .unset, .unset, .unset, .unset, .unset, .unset, .unset, .unset] [])) t → P t := fun t k => pre4 t (by subst hv5; exact k)
  have pre7 : ∀ t, Steps p.tables e below (s₁.setTop (mkF m 27 #[.val (.int p0), .val (.int p1), .val (.int p2), .val (.int p3), .val (.int p4), .val (.int p5), .val (.int v2), .val (.int v5), .val (.int ((1 : Int32) + (p2 &&& (4095 : Int32)))), .unset, .unset, .unset, .unset, .unset, .unset, .unset, .unset, .unset, .unset, .unset, .unset, .unset, .unset] [])) t → P t := fun t k => pre6 t (by
      show Steps p.tables e below (s₁.setTop (mkF m 18 #[.val (.int p0), .val (.int p1), .val (.int p2), .val (.int p3), .val (.int p4), .val (.int p5), .val (.int v2), .val (.int v5), .unset, .unset, .unset, .unset, .unset, .unset, .unset, .unset, .unset, .unset, .unset, .unset, .unset, .unset, .unset] [])) _
      refine XS.iconst X0.here hx rfl (hb hby at_18) ?_
      show Steps p.tables e below (s₁.setTop (mkF m 19 #[.val (.int p0), .val (.int p1), .val (.int p2), .val (.int p3), .val (.int p4), .val (.int p5), .val (.int v2), .val (.int v5), .unset, .unset, .unset, .unset, .unset, .unset, .unset, .unset, .unset, .unset, .unset, .unset, .unset, .unset, .unset] [(.int (1 : Int32))])) _
      refine XS.iloadN X0.here hx rfl (hb hby at_19) rfl ?_
      show Steps p.tables e below (s₁.setTop (mkF m 20 #[.val (.int p0), .val (.int p1), .val (.int p2), .val (.int p3), .val (.int p4), .val (.int p5), .val (.int v2), .val (.int v5), .unset, .unset, .unset, .unset, .unset, .unset, .unset, .unset, .unset, .unset, .unset, .unset, .unset, .unset, .unset] [(.int p2), (.int (1 : Int32))])) _
      refine XS.sipush X0.here hx rfl (hb hby at_20) ?_
      show Steps p.tables e below (s₁.setTop (mkF m 23 #[.val (.int p0), .val (.int p1), .val (.int p2), .val (.int p3), .val (.int p4), .val (.int p5), .val (.int v2), .val (.int v5), .unset, .unset, .unset, .unset, .unset, .unset, .unset, .unset, .unset, .unset, .unset, .unset, .unset, .unset, .unset] [(.int (4095 : Int32)), (.int p2), (.int (1 : Int32))])) _
      refine XS.iand X0.here hx rfl (hb hby at_23) rfl ?_
      show Steps p.tables e below (s₁.setTop (mkF m 24 #[.val (.int p0), .val (.int p1), .val (.int p2), .val (.int p3), .val (.int p4), .val (.int p5), .val (.int v2), .val (.int v5), .unset, .unset, .unset, .unset, .unset, .unset, .unset, .unset, .unset, .unset, .unset, .unset, .unset, .unset, .unset] [(.int (p2 &&& (4095 : Int32))), (.int (1 : Int32))])) _
      refine XS.iadd X0.here hx rfl (hb hby at_24) rfl ?_
      show Steps p.tables e below (s₁.setTop (mkF m 25 #[.val (.int p0), .val (.int p1), .val (.int p2), .val (.int p3), .val (.int p4), .val (.int p5), .val (.int v2), .val (.int v5), .unset, .unset, .unset, .unset, .unset, .unset, .unset, .unset, .unset, .unset, .unset, .unset, .unset, .unset, .unset] [(.int ((1 : Int32) + (p2 &&& (4095 : Int32))))])) _
      refine XS.istore X0.here hx rfl (hb hby at_25) rfl (l' := #[.val (.int p0), .val (.int p1), .val (.int p2), .val (.int p3), .val (.int p4), .val (.int p5), .val (.int v2), .val (.int v5), .val (.int ((1 : Int32) + (p2 &&& (4095 : Int32)))), .unset, .unset, .unset, .unset, .unset, .unset, .unset, .unset, .unset, .unset, .unset, .unset, .unset, .unset]) rfl ?_
      exact k)
  obtain ⟨v8, hv8⟩ : ∃ z : Int32, z = ((1 : Int32) + (p2 &&& (4095 : Int32))) := ⟨_, rfl⟩
  have pre9 : ∀ t, Steps p.tables e below (s₁.setTop (mkF m 27 #[.val (.int p0), .val (.int p1), .val (.int p2), .val (.int p3), .val (.int p4), .val (.int p5), .val (.int v2), .val (.int v5), .val (.int v8), .unset, .unset, .unset, .unset, .unset, .unset, .unset, .unset, .unset, .unset, .unset, .unset, .unset, .unset] [])) t → P t := fun t k => pre7 t (by subst hv8; exact k)
  have pre10 : ∀ t, Steps p.tables e below (s₁.setTop (mkF m 36 #[.val (.int p0), .val (.int p1), .val (.int p2), .val (.int p3), .val (.int p4), .val (.int p5), .val (.int v2), .val (.int v5), .val (.int v8), .val (.int ((p3 &&& (16777215 : Int32)) - (8388608 : Int32))), .unset, .unset, .unset, .unset, .unset, .unset, .unset, .unset, .unset, .unset, .unset, .unset, .unset] [])) t → P t := fun t k => pre9 t (by
      show Steps p.tables e below (s₁.setTop (mkF m 27 #[.val (.int p0), .val (.int p1), .val (.int p2), .val (.int p3), .val (.int p4), .val (.int p5), .val (.int v2), .val (.int v5), .val (.int v8), .unset, .unset, .unset, .unset, .unset, .unset, .unset, .unset, .unset, .unset, .unset, .unset, .unset, .unset] [])) _
      refine XS.iloadN X0.here hx rfl (hb hby at_27) rfl ?_
      show Steps p.tables e below (s₁.setTop (mkF m 28 #[.val (.int p0), .val (.int p1), .val (.int p2), .val (.int p3), .val (.int p4), .val (.int p5), .val (.int v2), .val (.int v5), .val (.int v8), .unset, .unset, .unset, .unset, .unset, .unset, .unset, .unset, .unset, .unset, .unset, .unset, .unset, .unset] [(.int p3)])) _
      refine X0.ldcInt hx hown (mvT hZ (hw _ (List.mem_of_getElem? (i := 0) rfl))) (g := (mkF m 28 #[.val (.int p0), .val (.int p1), .val (.int p2), .val (.int p3), .val (.int p4), .val (.int p5), .val (.int v2), .val (.int v5), .val (.int v8), .unset, .unset, .unset, .unset, .unset, .unset, .unset, .unset, .unset, .unset, .unset, .unset, .unset, .unset] [(.int p3)])) rfl (hb hby at_28) _ ?_
      show Steps p.tables e below (s₁.setTop (mkF m 30 #[.val (.int p0), .val (.int p1), .val (.int p2), .val (.int p3), .val (.int p4), .val (.int p5), .val (.int v2), .val (.int v5), .val (.int v8), .unset, .unset, .unset, .unset, .unset, .unset, .unset, .unset, .unset, .unset, .unset, .unset, .unset, .unset] [(.int (16777215 : Int32)), (.int p3)])) _
      refine XS.iand X0.here hx rfl (hb hby at_30) rfl ?_
      show Steps p.tables e below (s₁.setTop (mkF m 31 #[.val (.int p0), .val (.int p1), .val (.int p2), .val (.int p3), .val (.int p4), .val (.int p5), .val (.int v2), .val (.int v5), .val (.int v8), .unset, .unset, .unset, .unset, .unset, .unset, .unset, .unset, .unset, .unset, .unset, .unset, .unset, .unset] [(.int (p3 &&& (16777215 : Int32)))])) _
      refine X0.ldcInt hx hown (mvT hZ (hw _ (List.mem_of_getElem? (i := 1) rfl))) (g := (mkF m 31 #[.val (.int p0), .val (.int p1), .val (.int p2), .val (.int p3), .val (.int p4), .val (.int p5), .val (.int v2), .val (.int v5), .val (.int v8), .unset, .unset, .unset, .unset, .unset, .unset, .unset, .unset, .unset, .unset, .unset, .unset, .unset, .unset] [(.int (p3 &&& (16777215 : Int32)))])) rfl (hb hby at_31) _ ?_
      show Steps p.tables e below (s₁.setTop (mkF m 33 #[.val (.int p0), .val (.int p1), .val (.int p2), .val (.int p3), .val (.int p4), .val (.int p5), .val (.int v2), .val (.int v5), .val (.int v8), .unset, .unset, .unset, .unset, .unset, .unset, .unset, .unset, .unset, .unset, .unset, .unset, .unset, .unset] [(.int (8388608 : Int32)), (.int (p3 &&& (16777215 : Int32)))])) _
      refine XS.isub X0.here hx rfl (hb hby at_33) rfl ?_
      show Steps p.tables e below (s₁.setTop (mkF m 34 #[.val (.int p0), .val (.int p1), .val (.int p2), .val (.int p3), .val (.int p4), .val (.int p5), .val (.int v2), .val (.int v5), .val (.int v8), .unset, .unset, .unset, .unset, .unset, .unset, .unset, .unset, .unset, .unset, .unset, .unset, .unset, .unset] [(.int ((p3 &&& (16777215 : Int32)) - (8388608 : Int32)))])) _
      refine XS.istore X0.here hx rfl (hb hby at_34) rfl (l' := #[.val (.int p0), .val (.int p1), .val (.int p2), .val (.int p3), .val (.int p4), .val (.int p5), .val (.int v2), .val (.int v5), .val (.int v8), .val (.int ((p3 &&& (16777215 : Int32)) - (8388608 : Int32))), .unset, .unset, .unset, .unset, .unset, .unset, .unset, .unset, .unset, .unset, .unset, .unset, .unset]) rfl ?_
      exact k)
  obtain ⟨v11, hv11⟩ : ∃ z : Int32, z = ((p3 &&& (16777215 : Int32)) - (8388608 : Int32)) := ⟨_, rfl⟩
  have pre12 : ∀ t, Steps p.tables e below (s₁.setTop (mkF m 36 #[.val (.int p0), .val (.int p1), .val (.int p2), .val (.int p3), .val (.int p4), .val (.int p5), .val (.int v2), .val (.int v5), .val (.int v8), .val (.int v11), .unset, .unset, .unset, .unset, .unset, .unset, .unset, .unset, .unset, .unset, .unset, .unset, .unset] [])) t → P t := fun t k => pre10 t (by subst hv11; exact k)
  have pre13 : ∀ t, Steps p.tables e below (s₁.setTop (mkF m 48 #[.val (.int p0), .val (.int p1), .val (.int p2), .val (.int p3), .val (.int p4), .val (.int p5), .val (.int v2), .val (.int v5), .val (.int v8), .val (.int v11), .val (.int ((p4 &&& (2147483647 : Int32)) % ((2 : Int32) * v2))), .unset, .unset, .unset, .unset, .unset, .unset, .unset, .unset, .unset, .unset, .unset, .unset] [])) t → P t := fun t k => pre12 t (by
      show Steps p.tables e below (s₁.setTop (mkF m 36 #[.val (.int p0), .val (.int p1), .val (.int p2), .val (.int p3), .val (.int p4), .val (.int p5), .val (.int v2), .val (.int v5), .val (.int v8), .val (.int v11), .unset, .unset, .unset, .unset, .unset, .unset, .unset, .unset, .unset, .unset, .unset, .unset, .unset] [])) _
      refine XS.iload X0.here hx rfl (hb hby at_36) rfl ?_
      show Steps p.tables e below (s₁.setTop (mkF m 38 #[.val (.int p0), .val (.int p1), .val (.int p2), .val (.int p3), .val (.int p4), .val (.int p5), .val (.int v2), .val (.int v5), .val (.int v8), .val (.int v11), .unset, .unset, .unset, .unset, .unset, .unset, .unset, .unset, .unset, .unset, .unset, .unset, .unset] [(.int p4)])) _
      refine X0.ldcInt hx hown (mvT hZ (hw _ (List.mem_of_getElem? (i := 2) rfl))) (g := (mkF m 38 #[.val (.int p0), .val (.int p1), .val (.int p2), .val (.int p3), .val (.int p4), .val (.int p5), .val (.int v2), .val (.int v5), .val (.int v8), .val (.int v11), .unset, .unset, .unset, .unset, .unset, .unset, .unset, .unset, .unset, .unset, .unset, .unset, .unset] [(.int p4)])) rfl (hb hby at_38) _ ?_
      show Steps p.tables e below (s₁.setTop (mkF m 40 #[.val (.int p0), .val (.int p1), .val (.int p2), .val (.int p3), .val (.int p4), .val (.int p5), .val (.int v2), .val (.int v5), .val (.int v8), .val (.int v11), .unset, .unset, .unset, .unset, .unset, .unset, .unset, .unset, .unset, .unset, .unset, .unset, .unset] [(.int (2147483647 : Int32)), (.int p4)])) _
      refine XS.iand X0.here hx rfl (hb hby at_40) rfl ?_
      show Steps p.tables e below (s₁.setTop (mkF m 41 #[.val (.int p0), .val (.int p1), .val (.int p2), .val (.int p3), .val (.int p4), .val (.int p5), .val (.int v2), .val (.int v5), .val (.int v8), .val (.int v11), .unset, .unset, .unset, .unset, .unset, .unset, .unset, .unset, .unset, .unset, .unset, .unset, .unset] [(.int (p4 &&& (2147483647 : Int32)))])) _
      refine XS.iconst X0.here hx rfl (hb hby at_41) ?_
      show Steps p.tables e below (s₁.setTop (mkF m 42 #[.val (.int p0), .val (.int p1), .val (.int p2), .val (.int p3), .val (.int p4), .val (.int p5), .val (.int v2), .val (.int v5), .val (.int v8), .val (.int v11), .unset, .unset, .unset, .unset, .unset, .unset, .unset, .unset, .unset, .unset, .unset, .unset, .unset] [(.int (2 : Int32)), (.int (p4 &&& (2147483647 : Int32)))])) _
      refine XS.iload X0.here hx rfl (hb hby at_42) rfl ?_
      show Steps p.tables e below (s₁.setTop (mkF m 44 #[.val (.int p0), .val (.int p1), .val (.int p2), .val (.int p3), .val (.int p4), .val (.int p5), .val (.int v2), .val (.int v5), .val (.int v8), .val (.int v11), .unset, .unset, .unset, .unset, .unset, .unset, .unset, .unset, .unset, .unset, .unset, .unset, .unset] [(.int v2), (.int (2 : Int32)), (.int (p4 &&& (2147483647 : Int32)))])) _
      refine XS.imul X0.here hx rfl (hb hby at_44) rfl ?_
      show Steps p.tables e below (s₁.setTop (mkF m 45 #[.val (.int p0), .val (.int p1), .val (.int p2), .val (.int p3), .val (.int p4), .val (.int p5), .val (.int v2), .val (.int v5), .val (.int v8), .val (.int v11), .unset, .unset, .unset, .unset, .unset, .unset, .unset, .unset, .unset, .unset, .unset, .unset, .unset] [(.int ((2 : Int32) * v2)), (.int (p4 &&& (2147483647 : Int32)))])) _
      refine iremM X0 hx rfl (hb hby at_45) rfl (by subst hv2; exact own_z2 _) ?_
      show Steps p.tables e below (s₁.setTop (mkF m 46 #[.val (.int p0), .val (.int p1), .val (.int p2), .val (.int p3), .val (.int p4), .val (.int p5), .val (.int v2), .val (.int v5), .val (.int v8), .val (.int v11), .unset, .unset, .unset, .unset, .unset, .unset, .unset, .unset, .unset, .unset, .unset, .unset, .unset] [(.int ((p4 &&& (2147483647 : Int32)) % ((2 : Int32) * v2)))])) _
      refine XS.istore X0.here hx rfl (hb hby at_46) rfl (l' := #[.val (.int p0), .val (.int p1), .val (.int p2), .val (.int p3), .val (.int p4), .val (.int p5), .val (.int v2), .val (.int v5), .val (.int v8), .val (.int v11), .val (.int ((p4 &&& (2147483647 : Int32)) % ((2 : Int32) * v2))), .unset, .unset, .unset, .unset, .unset, .unset, .unset, .unset, .unset, .unset, .unset, .unset]) rfl ?_
      exact k)
  obtain ⟨v14, hv14⟩ : ∃ z : Int32, z = ((p4 &&& (2147483647 : Int32)) % ((2 : Int32) * v2)) := ⟨_, rfl⟩
  have pre15 : ∀ t, Steps p.tables e below (s₁.setTop (mkF m 48 #[.val (.int p0), .val (.int p1), .val (.int p2), .val (.int p3), .val (.int p4), .val (.int p5), .val (.int v2), .val (.int v5), .val (.int v8), .val (.int v11), .val (.int v14), .unset, .unset, .unset, .unset, .unset, .unset, .unset, .unset, .unset, .unset, .unset, .unset] [])) t → P t := fun t k => pre13 t (by subst hv14; exact k)
  have pre16 : ∀ t, Steps p.tables e below (s₁.setTop (mkF m 52 #[.val (.int p0), .val (.int p1), .val (.int p2), .val (.int p3), .val (.int p4), .val (.int p5), .val (.int v2), .val (.int v5), .val (.int v8), .val (.int v11), .val (.int v14), .unset, .unset, .unset, .unset, .unset, .unset, .unset, .unset, .unset, .unset, .unset, .unset] [(.int (p5 &&& (1 : Int32)))])) t → P t := fun t k => pre15 t (by
      show Steps p.tables e below (s₁.setTop (mkF m 48 #[.val (.int p0), .val (.int p1), .val (.int p2), .val (.int p3), .val (.int p4), .val (.int p5), .val (.int v2), .val (.int v5), .val (.int v8), .val (.int v11), .val (.int v14), .unset, .unset, .unset, .unset, .unset, .unset, .unset, .unset, .unset, .unset, .unset, .unset] [])) _
      refine XS.iload X0.here hx rfl (hb hby at_48) rfl ?_
      show Steps p.tables e below (s₁.setTop (mkF m 50 #[.val (.int p0), .val (.int p1), .val (.int p2), .val (.int p3), .val (.int p4), .val (.int p5), .val (.int v2), .val (.int v5), .val (.int v8), .val (.int v11), .val (.int v14), .unset, .unset, .unset, .unset, .unset, .unset, .unset, .unset, .unset, .unset, .unset, .unset] [(.int p5)])) _
      refine XS.iconst X0.here hx rfl (hb hby at_50) ?_
      show Steps p.tables e below (s₁.setTop (mkF m 51 #[.val (.int p0), .val (.int p1), .val (.int p2), .val (.int p3), .val (.int p4), .val (.int p5), .val (.int v2), .val (.int v5), .val (.int v8), .val (.int v11), .val (.int v14), .unset, .unset, .unset, .unset, .unset, .unset, .unset, .unset, .unset, .unset, .unset, .unset] [(.int (1 : Int32)), (.int p5)])) _
      refine XS.iand X0.here hx rfl (hb hby at_51) rfl ?_
      exact k)
  obtain ⟨T21, L21, v20, X21, e21, N21, hv20, pre21⟩ : ∃ (T' : State) (L' : List Loc) (v20 : Int32), Stand p l e room_1 s m #[(.int p0), (.int p1), (.int p2), (.int p3), (.int p4), (.int p5)] below meth c T' L' 0 0 ∧ T'.heap = h0 ∧ Fr n0 L' ∧ v20 = (if (p5 &&& (1 : Int32)) = (0 : Int32) then (0 : Int32) else (1 : Int32)) ∧ (∀ t, Steps p.tables e below (T'.setTop (mkF m 60 #[.val (.int p0), .val (.int p1), .val (.int p2), .val (.int p3), .val (.int p4), .val (.int p5), .val (.int v2), .val (.int v5), .val (.int v8), .val (.int v11), .val (.int v14), .unset, .unset, .unset, .unset, .unset, .unset, .unset, .unset, .unset, .unset, .unset, .unset] [(.int v20)])) t → P t) := by
    by_cases hc17 : (p5 &&& (1 : Int32)) = (0 : Int32)
    · have pre18 : ∀ t, Steps p.tables e below (s₁.setTop (mkF m 60 #[.val (.int p0), .val (.int p1), .val (.int p2), .val (.int p3), .val (.int p4), .val (.int p5), .val (.int v2), .val (.int v5), .val (.int v8), .val (.int v11), .val (.int v14), .unset, .unset, .unset, .unset, .unset, .unset, .unset, .unset, .unset, .unset, .unset, .unset] [(.int (0 : Int32))])) t → P t := fun t k => pre16 t (by
          show Steps p.tables e below (s₁.setTop (mkF m 52 #[.val (.int p0), .val (.int p1), .val (.int p2), .val (.int p3), .val (.int p4), .val (.int p5), .val (.int v2), .val (.int v5), .val (.int v8), .val (.int v11), .val (.int v14), .unset, .unset, .unset, .unset, .unset, .unset, .unset, .unset, .unset, .unset, .unset, .unset] [(.int (p5 &&& (1 : Int32)))])) _
          refine XS.ifYes X0.here hx rfl (pc0 := 52) (pc' := 59) rfl (hb hby at_52) rfl ((if0 _ _).trans (teq hc17).1) (by decide) (by decide) ?_
          show Steps p.tables e below (s₁.setTop (mkF m 59 #[.val (.int p0), .val (.int p1), .val (.int p2), .val (.int p3), .val (.int p4), .val (.int p5), .val (.int v2), .val (.int v5), .val (.int v8), .val (.int v11), .val (.int v14), .unset, .unset, .unset, .unset, .unset, .unset, .unset, .unset, .unset, .unset, .unset, .unset] [])) _
          refine XS.iconst X0.here hx rfl (hb hby at_59) ?_
          exact k)
      exact ⟨_, _, (0 : Int32), X0, e0, N0, (by first | (rw [if_pos hc17]; done) | simp only [if_pos hc17] | simp [if_pos hc17]), pre18⟩
    · have pre19 : ∀ t, Steps p.tables e below (s₁.setTop (mkF m 60 #[.val (.int p0), .val (.int p1), .val (.int p2), .val (.int p3), .val (.int p4), .val (.int p5), .val (.int v2), .val (.int v5), .val (.int v8), .val (.int v11), .val (.int v14), .unset, .unset, .unset, .unset, .unset, .unset, .unset, .unset, .unset, .unset, .unset, .unset] [(.int (1 : Int32))])) t → P t := fun t k => pre16 t (by
          show Steps p.tables e below (s₁.setTop (mkF m 52 #[.val (.int p0), .val (.int p1), .val (.int p2), .val (.int p3), .val (.int p4), .val (.int p5), .val (.int v2), .val (.int v5), .val (.int v8), .val (.int v11), .val (.int v14), .unset, .unset, .unset, .unset, .unset, .unset, .unset, .unset, .unset, .unset, .unset, .unset] [(.int (p5 &&& (1 : Int32)))])) _
          refine XS.ifNo X0.here hx rfl (hb hby at_52) rfl ((if0 _ _).trans (feq hc17).1) ?_
          show Steps p.tables e below (s₁.setTop (mkF m 55 #[.val (.int p0), .val (.int p1), .val (.int p2), .val (.int p3), .val (.int p4), .val (.int p5), .val (.int v2), .val (.int v5), .val (.int v8), .val (.int v11), .val (.int v14), .unset, .unset, .unset, .unset, .unset, .unset, .unset, .unset, .unset, .unset, .unset, .unset] [])) _
          refine XS.iconst X0.here hx rfl (hb hby at_55) ?_
          show Steps p.tables e below (s₁.setTop (mkF m 56 #[.val (.int p0), .val (.int p1), .val (.int p2), .val (.int p3), .val (.int p4), .val (.int p5), .val (.int v2), .val (.int v5), .val (.int v8), .val (.int v11), .val (.int v14), .unset, .unset, .unset, .unset, .unset, .unset, .unset, .unset, .unset, .unset, .unset, .unset] [(.int (1 : Int32))])) _
          refine XS.goto X0.here hx rfl (pc0 := 56) (pc' := 60) rfl (hb hby at_56) (by decide) (by decide) ?_
          exact k)
      exact ⟨_, _, (1 : Int32), X0, e0, N0, (by first | (rw [if_neg hc17]; done) | simp only [if_neg hc17] | simp [if_neg hc17]), pre19⟩
  have pre22 : ∀ t, Steps p.tables e below (T21.setTop (mkF m 71 #[.val (.int p0), .val (.int p1), .val (.int p2), .val (.int p3), .val (.int p4), .val (.int p5), .val (.int v2), .val (.int v5), .val (.int v8), .val (.int v11), .val (.int v14), .val (.int v20), .val (.double (FP.ddiv (FP.i2d v8) (4616189618054758400 : UInt64))), .second, .unset, .unset, .unset, .unset, .unset, .unset, .unset, .unset, .unset] [])) t → P t := fun t k => pre21 t (by
      show Steps p.tables e below (T21.setTop (mkF m 60 #[.val (.int p0), .val (.int p1), .val (.int p2), .val (.int p3), .val (.int p4), .val (.int p5), .val (.int v2), .val (.int v5), .val (.int v8), .val (.int v11), .val (.int v14), .unset, .unset, .unset, .unset, .unset, .unset, .unset, .unset, .unset, .unset, .unset, .unset] [(.int v20)])) _
      refine XS.istore X21.here hx rfl (hb hby at_60) rfl (l' := #[.val (.int p0), .val (.int p1), .val (.int p2), .val (.int p3), .val (.int p4), .val (.int p5), .val (.int v2), .val (.int v5), .val (.int v8), .val (.int v11), .val (.int v14), .val (.int v20), .unset, .unset, .unset, .unset, .unset, .unset, .unset, .unset, .unset, .unset, .unset]) rfl ?_
      show Steps p.tables e below (T21.setTop (mkF m 62 #[.val (.int p0), .val (.int p1), .val (.int p2), .val (.int p3), .val (.int p4), .val (.int p5), .val (.int v2), .val (.int v5), .val (.int v8), .val (.int v11), .val (.int v14), .val (.int v20), .unset, .unset, .unset, .unset, .unset, .unset, .unset, .unset, .unset, .unset, .unset] [])) _
      refine XS.iload X21.here hx rfl (hb hby at_62) rfl ?_
      show Steps p.tables e below (T21.setTop (mkF m 64 #[.val (.int p0), .val (.int p1), .val (.int p2), .val (.int p3), .val (.int p4), .val (.int p5), .val (.int v2), .val (.int v5), .val (.int v8), .val (.int v11), .val (.int v14), .val (.int v20), .unset, .unset, .unset, .unset, .unset, .unset, .unset, .unset, .unset, .unset, .unset] [(.int v8)])) _
      refine XS.i2dS X21.here hx rfl (hb hby at_64) rfl rfl ?_
      show Steps p.tables e below (T21.setTop (mkF m 65 #[.val (.int p0), .val (.int p1), .val (.int p2), .val (.int p3), .val (.int p4), .val (.int p5), .val (.int v2), .val (.int v5), .val (.int v8), .val (.int v11), .val (.int v14), .val (.int v20), .unset, .unset, .unset, .unset, .unset, .unset, .unset, .unset, .unset, .unset, .unset] [(.double (FP.i2d v8))])) _
      refine X21.ldc2DoubleC hx hown (mvT hZ (hw _ (List.mem_of_getElem? (i := 3) rfl))) (g := (mkF m 65 #[.val (.int p0), .val (.int p1), .val (.int p2), .val (.int p3), .val (.int p4), .val (.int p5), .val (.int v2), .val (.int v5), .val (.int v8), .val (.int v11), .val (.int v14), .val (.int v20), .unset, .unset, .unset, .unset, .unset, .unset, .unset, .unset, .unset, .unset, .unset] [(.double (FP.i2d v8))])) rfl (hb hby at_65) _ ?_
      show Steps p.tables e below (T21.setTop (mkF m 68 #[.val (.int p0), .val (.int p1), .val (.int p2), .val (.int p3), .val (.int p4), .val (.int p5), .val (.int v2), .val (.int v5), .val (.int v8), .val (.int v11), .val (.int v14), .val (.int v20), .unset, .unset, .unset, .unset, .unset, .unset, .unset, .unset, .unset, .unset, .unset] [(.double (4616189618054758400 : UInt64)), (.double (FP.i2d v8))])) _
      refine XS.ddivS X21.here hx rfl (hb hby at_68) rfl (own_nn (own_scale _ (by subst hv8; exact own_rs _)) (by have := (show 1 ≤ v8.toInt ∧ v8.toInt ≤ 4096 by subst hv8; exact own_rs _); omega) (by decide)) rfl ?_
      show Steps p.tables e below (T21.setTop (mkF m 69 #[.val (.int p0), .val (.int p1), .val (.int p2), .val (.int p3), .val (.int p4), .val (.int p5), .val (.int v2), .val (.int v5), .val (.int v8), .val (.int v11), .val (.int v14), .val (.int v20), .unset, .unset, .unset, .unset, .unset, .unset, .unset, .unset, .unset, .unset, .unset] [(.double (FP.ddiv (FP.i2d v8) (4616189618054758400 : UInt64)))])) _
      refine XS.dstore X21.here hx rfl (hb hby at_69) rfl (l' := #[.val (.int p0), .val (.int p1), .val (.int p2), .val (.int p3), .val (.int p4), .val (.int p5), .val (.int v2), .val (.int v5), .val (.int v8), .val (.int v11), .val (.int v14), .val (.int v20), .val (.double (FP.ddiv (FP.i2d v8) (4616189618054758400 : UInt64))), .second, .unset, .unset, .unset, .unset, .unset, .unset, .unset, .unset, .unset]) rfl ?_
      exact k)
  obtain ⟨v23, hv23⟩ : ∃ z : UInt64, z = (FP.ddiv (FP.i2d v8) (4616189618054758400 : UInt64)) := ⟨_, rfl⟩
  have pre24 : ∀ t, Steps p.tables e below (T21.setTop (mkF m 71 #[.val (.int p0), .val (.int p1), .val (.int p2), .val (.int p3), .val (.int p4), .val (.int p5), .val (.int v2), .val (.int v5), .val (.int v8), .val (.int v11), .val (.int v14), .val (.int v20), .val (.double v23), .second, .unset, .unset, .unset, .unset, .unset, .unset, .unset, .unset, .unset] [])) t → P t := fun t k => pre22 t (by subst hv23; exact k)
  have pre25 : ∀ t, Steps p.tables e below (T21.setTop (mkF m 80 #[.val (.int p0), .val (.int p1), .val (.int p2), .val (.int p3), .val (.int p4), .val (.int p5), .val (.int v2), .val (.int v5), .val (.int v8), .val (.int v11), .val (.int v14), .val (.int v20), .val (.double v23), .second, .val (.double (FP.ddiv (FP.i2d v11) (4620693217682128896 : UInt64))), .second, .unset, .unset, .unset, .unset, .unset, .unset, .unset] [])) t → P t := fun t k => pre24 t (by
      show Steps p.tables e below (T21.setTop (mkF m 71 #[.val (.int p0), .val (.int p1), .val (.int p2), .val (.int p3), .val (.int p4), .val (.int p5), .val (.int v2), .val (.int v5), .val (.int v8), .val (.int v11), .val (.int v14), .val (.int v20), .val (.double v23), .second, .unset, .unset, .unset, .unset, .unset, .unset, .unset, .unset, .unset] [])) _
      refine XS.iload X21.here hx rfl (hb hby at_71) rfl ?_
      show Steps p.tables e below (T21.setTop (mkF m 73 #[.val (.int p0), .val (.int p1), .val (.int p2), .val (.int p3), .val (.int p4), .val (.int p5), .val (.int v2), .val (.int v5), .val (.int v8), .val (.int v11), .val (.int v14), .val (.int v20), .val (.double v23), .second, .unset, .unset, .unset, .unset, .unset, .unset, .unset, .unset, .unset] [(.int v11)])) _
      refine XS.i2dS X21.here hx rfl (hb hby at_73) rfl rfl ?_
      show Steps p.tables e below (T21.setTop (mkF m 74 #[.val (.int p0), .val (.int p1), .val (.int p2), .val (.int p3), .val (.int p4), .val (.int p5), .val (.int v2), .val (.int v5), .val (.int v8), .val (.int v11), .val (.int v14), .val (.int v20), .val (.double v23), .second, .unset, .unset, .unset, .unset, .unset, .unset, .unset, .unset, .unset] [(.double (FP.i2d v11))])) _
      refine X21.ldc2DoubleC hx hown (mvT hZ (hw _ (List.mem_of_getElem? (i := 4) rfl))) (g := (mkF m 74 #[.val (.int p0), .val (.int p1), .val (.int p2), .val (.int p3), .val (.int p4), .val (.int p5), .val (.int v2), .val (.int v5), .val (.int v8), .val (.int v11), .val (.int v14), .val (.int v20), .val (.double v23), .second, .unset, .unset, .unset, .unset, .unset, .unset, .unset, .unset, .unset] [(.double (FP.i2d v11))])) rfl (hb hby at_74) _ ?_
      show Steps p.tables e below (T21.setTop (mkF m 77 #[.val (.int p0), .val (.int p1), .val (.int p2), .val (.int p3), .val (.int p4), .val (.int p5), .val (.int v2), .val (.int v5), .val (.int v8), .val (.int v11), .val (.int v14), .val (.int v20), .val (.double v23), .second, .unset, .unset, .unset, .unset, .unset, .unset, .unset, .unset, .unset] [(.double (4620693217682128896 : UInt64)), (.double (FP.i2d v11))])) _
      refine XS.ddivS X21.here hx rfl (hb hby at_77) rfl (own_nn (own_value _ (by subst hv11; exact own_ra _)) (by have := (show -8388608 ≤ v11.toInt ∧ v11.toInt < 8388608 by subst hv11; exact own_ra _); omega) (by decide)) rfl ?_
      show Steps p.tables e below (T21.setTop (mkF m 78 #[.val (.int p0), .val (.int p1), .val (.int p2), .val (.int p3), .val (.int p4), .val (.int p5), .val (.int v2), .val (.int v5), .val (.int v8), .val (.int v11), .val (.int v14), .val (.int v20), .val (.double v23), .second, .unset, .unset, .unset, .unset, .unset, .unset, .unset, .unset, .unset] [(.double (FP.ddiv (FP.i2d v11) (4620693217682128896 : UInt64)))])) _
      refine XS.dstore X21.here hx rfl (hb hby at_78) rfl (l' := #[.val (.int p0), .val (.int p1), .val (.int p2), .val (.int p3), .val (.int p4), .val (.int p5), .val (.int v2), .val (.int v5), .val (.int v8), .val (.int v11), .val (.int v14), .val (.int v20), .val (.double v23), .second, .val (.double (FP.ddiv (FP.i2d v11) (4620693217682128896 : UInt64))), .second, .unset, .unset, .unset, .unset, .unset, .unset, .unset]) rfl ?_
      exact k)
  obtain ⟨v26, hv26⟩ : ∃ z : UInt64, z = (FP.ddiv (FP.i2d v11) (4620693217682128896 : UInt64)) := ⟨_, rfl⟩
  have pre27 : ∀ t, Steps p.tables e below (T21.setTop (mkF m 80 #[.val (.int p0), .val (.int p1), .val (.int p2), .val (.int p3), .val (.int p4), .val (.int p5), .val (.int v2), .val (.int v5), .val (.int v8), .val (.int v11), .val (.int v14), .val (.int v20), .val (.double v23), .second, .val (.double v26), .second, .unset, .unset, .unset, .unset, .unset, .unset, .unset] [])) t → P t := fun t k => pre25 t (by subst hv26; exact k)
  have hRS : 1 ≤ v8.toInt ∧ v8.toInt ≤ 4096 := by subst hv8; exact own_rs _
  have hRA : -8388608 ≤ v11.toInt ∧ v11.toInt < 8388608 := by subst hv11; exact own_ra _
  have hSC : own_D v23 false v8.toInt.natAbs 2 := by rw [hv23]; exact own_scale _ hRS
  have hVA : own_D v26 (decide (v11.toInt < 0)) v11.toInt.natAbs 3 := by rw [hv26]; exact own_value _ hRA
  obtain ⟨T28, h28, X28, e28, E28, A28, D28, -, st28⟩ := newO X21 hx hZ hown (hw _ (List.mem_of_getElem? (i := 5) rfl)) (hw _ (List.mem_of_getElem? (i := 6) rfl)) (hw _ (List.mem_of_getElem? (i := 7) rfl)) e21 (g := (mkF m 80 #[.val (.int p0), .val (.int p1), .val (.int p2), .val (.int p3), .val (.int p4), .val (.int p5), .val (.int v2), .val (.int v5), .val (.int v8), .val (.int v11), .val (.int v14), .val (.int v20), .val (.double v23), .second, .val (.double v26), .second, .unset, .unset, .unset, .unset, .unset, .unset, .unset] [])) rfl (hb hby at_80) (by decide) (by decide)
  obtain ⟨b28, g28⟩ : ∃ z, z = h0.size := ⟨_, rfl⟩
  have g_b28 : n0 ≤ b28 := Nat.le_trans Z0 (Nat.le_of_eq g28.symm)
  have sz_b28 : h0.size ≤ b28 := Nat.le_trans K0.1 (Nat.le_of_eq g28.symm)
  rw [← g28] at A28 D28 st28
  have pre28 : ∀ t, Steps p.tables e below (T28.setTop (mkF m 83 #[.val (.int p0), .val (.int p1), .val (.int p2), .val (.int p3), .val (.int p4), .val (.int p5), .val (.int v2), .val (.int v5), .val (.int v8), .val (.int v11), .val (.int v14), .val (.int v20), .val (.double v23), .second, .val (.double v26), .second, .unset, .unset, .unset, .unset, .unset, .unset, .unset] [(.ref b28)])) t → P t := fun t k => pre27 t (st28 _ k)
  have c29 : n0 ≤ h28.size := Nat.le_trans Z0 E28.1
  have K30 : Keep h0 h28 [] := K0.ext E28
  have F28_spare : Fld Z h28 b28 "com/example/lexivec/lexivec/core/ScalarQuantizer" "spare" "Ljava/util/concurrent/atomic/AtomicReference;" .null := D28 (Or.inr (hw _ (List.mem_of_getElem? (i := 25) rfl))) (ty := (.object "java/util/concurrent/atomic/AtomicReference")) (by decide)
  have F28_dimension : Fld Z h28 b28 "com/example/lexivec/lexivec/core/ScalarQuantizer" "dimension" "I" (.int (0 : Int32)) := D28 (Or.inr (hw _ (List.mem_of_getElem? (i := 28) rfl))) (ty := .int) (by decide)
  have F28_expansion : Fld Z h28 b28 "com/example/lexivec/lexivec/core/ScalarQuantizer" "expansion" "Lcom/example/lexivec/lexivec/core/RandomExpansion;" .null := D28 (Or.inr (hw _ (List.mem_of_getElem? (i := 30) rfl))) (ty := (.object "com/example/lexivec/lexivec/core/RandomExpansion")) (by decide)
  have F28_cells : Fld Z h28 b28 "com/example/lexivec/lexivec/core/ScalarQuantizer" "cells" "Lcom/example/lexivec/lexivec/core/Cells;" .null := D28 (Or.inr (hw _ (List.mem_of_getElem? (i := 32) rfl))) (ty := (.object "com/example/lexivec/lexivec/core/Cells")) (by decide)
  have F28_components : Fld Z h28 b28 "com/example/lexivec/lexivec/core/ScalarQuantizer" "components" "I" (.int (0 : Int32)) := D28 (Or.inr (hw _ (List.mem_of_getElem? (i := 34) rfl))) (ty := .int) (by decide)
  have F28_keep : Fld Z h28 b28 "com/example/lexivec/lexivec/core/ScalarQuantizer" "keep" "I" (.int (0 : Int32)) := D28 (Or.inr (hw _ (List.mem_of_getElem? (i := 36) rfl))) (ty := .int) (by decide)
  have F28_scale : Fld Z h28 b28 "com/example/lexivec/lexivec/core/ScalarQuantizer" "scale" "D" (.double 0) := D28 (Or.inr (hw _ (List.mem_of_getElem? (i := 38) rfl))) (ty := .double) (by decide)
  have F28_normalizes : Fld Z h28 b28 "com/example/lexivec/lexivec/core/ScalarQuantizer" "normalizes" "Z" (.int (0 : Int32)) := D28 (Or.inr (hw _ (List.mem_of_getElem? (i := 40) rfl))) (ty := .boolean) (by decide)
  have pre31 : ∀ t, Steps p.tables e below (T28.setTop (mkF m 92 #[.val (.int p0), .val (.int p1), .val (.int p2), .val (.int p3), .val (.int p4), .val (.int p5), .val (.int v2), .val (.int v5), .val (.int v8), .val (.int v11), .val (.int v14), .val (.int v20), .val (.double v23), .second, .val (.double v26), .second, .unset, .unset, .unset, .unset, .unset, .unset, .unset] [(.int v20), (.double v23), (.int v5), (.int v2), (.ref b28), (.ref b28)])) t → P t := fun t k => pre28 t (by
      show Steps p.tables e below (T28.setTop (mkF m 83 #[.val (.int p0), .val (.int p1), .val (.int p2), .val (.int p3), .val (.int p4), .val (.int p5), .val (.int v2), .val (.int v5), .val (.int v8), .val (.int v11), .val (.int v14), .val (.int v20), .val (.double v23), .second, .val (.double v26), .second, .unset, .unset, .unset, .unset, .unset, .unset, .unset] [(.ref b28)])) _
      refine XS.dup X28.here hx rfl (hb hby at_83) rfl rfl ?_
      show Steps p.tables e below (T28.setTop (mkF m 84 #[.val (.int p0), .val (.int p1), .val (.int p2), .val (.int p3), .val (.int p4), .val (.int p5), .val (.int v2), .val (.int v5), .val (.int v8), .val (.int v11), .val (.int v14), .val (.int v20), .val (.double v23), .second, .val (.double v26), .second, .unset, .unset, .unset, .unset, .unset, .unset, .unset] [(.ref b28), (.ref b28)])) _
      refine XS.iload X28.here hx rfl (hb hby at_84) rfl ?_
      show Steps p.tables e below (T28.setTop (mkF m 86 #[.val (.int p0), .val (.int p1), .val (.int p2), .val (.int p3), .val (.int p4), .val (.int p5), .val (.int v2), .val (.int v5), .val (.int v8), .val (.int v11), .val (.int v14), .val (.int v20), .val (.double v23), .second, .val (.double v26), .second, .unset, .unset, .unset, .unset, .unset, .unset, .unset] [(.int v2), (.ref b28), (.ref b28)])) _
      refine XS.iload X28.here hx rfl (hb hby at_86) rfl ?_
      show Steps p.tables e below (T28.setTop (mkF m 88 #[.val (.int p0), .val (.int p1), .val (.int p2), .val (.int p3), .val (.int p4), .val (.int p5), .val (.int v2), .val (.int v5), .val (.int v8), .val (.int v11), .val (.int v14), .val (.int v20), .val (.double v23), .second, .val (.double v26), .second, .unset, .unset, .unset, .unset, .unset, .unset, .unset] [(.int v5), (.int v2), (.ref b28), (.ref b28)])) _
      refine XS.dload X28.here hx rfl (hb hby at_88) rfl ?_
      show Steps p.tables e below (T28.setTop (mkF m 90 #[.val (.int p0), .val (.int p1), .val (.int p2), .val (.int p3), .val (.int p4), .val (.int p5), .val (.int v2), .val (.int v5), .val (.int v8), .val (.int v11), .val (.int v14), .val (.int v20), .val (.double v23), .second, .val (.double v26), .second, .unset, .unset, .unset, .unset, .unset, .unset, .unset] [(.double v23), (.int v5), (.int v2), (.ref b28), (.ref b28)])) _
      refine XS.iload X28.here hx rfl (hb hby at_90) rfl ?_
      exact k)
  obtain ⟨_, _, ⟨T32, L32, k32, n32⟩, -, X32, ⟨Lc32, hQ32, l32, y32, z32⟩, st32⟩ := X28.specialBack hx (y := (⟨"com/example/lexivec/lexivec/core/ScalarQuantizer", "<init>", "(IIDZ)V"⟩ : MethodName)) rfl hown (mvT hZ (hw _ (List.mem_of_getElem? (i := 8) rfl))) (mvT hZ (hw _ (List.mem_of_getElem? (i := 9) rfl))) (mvT hZ (hw _ (List.mem_of_getElem? (i := 10) rfl))) (by decide) (backOf (W := 1) (rm1 l Z a0 hw [] b28 v2 v5 v23 v20 h28 n0 c29 A28 F28_spare F28_dimension F28_expansion F28_cells F28_components F28_keep F28_scale F28_normalizes g_b28 (by subst hv2; exact own_l1 _ (own_rd _).1) (by subst hv5; exact own_l1 _ (own_rk _)) (own_s0 hSC (by omega) (by omega) (by decide)) (own_si hSC (by omega) (by decide))) hZ (hw _ (List.mem_of_getElem? (i := 10) rfl)) (hw _ (List.mem_of_getElem? (i := 7) rfl)) (by decide) (by decide)) (g := (mkF m 92 #[.val (.int p0), .val (.int p1), .val (.int p2), .val (.int p3), .val (.int p4), .val (.int p5), .val (.int v2), .val (.int v5), .val (.int v8), .val (.int v11), .val (.int v14), .val (.int v20), .val (.double v23), .second, .val (.double v26), .second, .unset, .unset, .unset, .unset, .unset, .unset, .unset] [(.int v20), (.double v23), (.int v5), (.int v2), (.ref b28), (.ref b28)])) rfl (by rw [hml]; rfl) (Steps.refl _) (a := b28) (argsL := [(.int v2), (.int v5), (.double v23), (.int v20)]) (rest := [(.ref b28)]) (lenOf own_pd2 rfl) rfl (by show 2 * 0 + _ ≤ _; exact Nat.le_of_eq rfl) (hb hby at_92) (fun _ _ => ⟨rfl, e28, (by decide : 1 + 1 ≤ _), (by decide : 8 + 1 ≤ _)⟩)
  dsimp only [Pt.U, Pt.locs, Pt.cells, Pt.slots] at X32 l32 y32 z32 st32 hQ32
  subst l32 y32 z32
  obtain ⟨rfl, N32q, K32, EE32, FF32_0, FF32_1, FF32_2, FF32_3, FF32_4, FF32_5, FF32_6⟩ := hQ32
  have c33 : n0 ≤ T32.heap.size := Nat.le_trans c29 K32.1
  have c34 : Exa Z T32.heap b28 "com/example/lexivec/lexivec/core/ScalarQuantizer" := A28.keep K32
  have K35 : Keep h0 T32.heap [] := K30.trans K32 (allS (P := fun x => x ∈ ([] : List Addr) ∨ h0.size ≤ x) (Or.inr sz_b28) all0)
  have N32 := Fr.app N21 N32q
  have pre32 : ∀ t, Steps p.tables e below (T32.setTop (mkF m 95 #[.val (.int p0), .val (.int p1), .val (.int p2), .val (.int p3), .val (.int p4), .val (.int p5), .val (.int v2), .val (.int v5), .val (.int v8), .val (.int v11), .val (.int v14), .val (.int v20), .val (.double v23), .second, .val (.double v26), .second, .unset, .unset, .unset, .unset, .unset, .unset, .unset] [(.ref b28)])) t → P t := fun t k => pre31 t (st32.trans k)
  have pre36 : ∀ t, Steps p.tables e below (T32.setTop (mkF m 103 #[.val (.int p0), .val (.int p1), .val (.int p2), .val (.int p3), .val (.int p4), .val (.int p5), .val (.int v2), .val (.int v5), .val (.int v8), .val (.int v11), .val (.int v14), .val (.int v20), .val (.double v23), .second, .val (.double v26), .second, .val (.ref b28), .unset, .unset, .unset, .unset, .unset, .unset] [(.int v14), (.double v26), (.ref b28)])) t → P t := fun t k => pre32 t (by
      show Steps p.tables e below (T32.setTop (mkF m 95 #[.val (.int p0), .val (.int p1), .val (.int p2), .val (.int p3), .val (.int p4), .val (.int p5), .val (.int v2), .val (.int v5), .val (.int v8), .val (.int v11), .val (.int v14), .val (.int v20), .val (.double v23), .second, .val (.double v26), .second, .unset, .unset, .unset, .unset, .unset, .unset, .unset] [(.ref b28)])) _
      refine XS.astore X32.here hx rfl (hb hby at_95) rfl rfl (l' := #[.val (.int p0), .val (.int p1), .val (.int p2), .val (.int p3), .val (.int p4), .val (.int p5), .val (.int v2), .val (.int v5), .val (.int v8), .val (.int v11), .val (.int v14), .val (.int v20), .val (.double v23), .second, .val (.double v26), .second, .val (.ref b28), .unset, .unset, .unset, .unset, .unset, .unset]) rfl ?_
      show Steps p.tables e below (T32.setTop (mkF m 97 #[.val (.int p0), .val (.int p1), .val (.int p2), .val (.int p3), .val (.int p4), .val (.int p5), .val (.int v2), .val (.int v5), .val (.int v8), .val (.int v11), .val (.int v14), .val (.int v20), .val (.double v23), .second, .val (.double v26), .second, .val (.ref b28), .unset, .unset, .unset, .unset, .unset, .unset] [])) _
      refine XS.aload X32.here hx rfl (hb hby at_97) rfl rfl ?_
      show Steps p.tables e below (T32.setTop (mkF m 99 #[.val (.int p0), .val (.int p1), .val (.int p2), .val (.int p3), .val (.int p4), .val (.int p5), .val (.int v2), .val (.int v5), .val (.int v8), .val (.int v11), .val (.int v14), .val (.int v20), .val (.double v23), .second, .val (.double v26), .second, .val (.ref b28), .unset, .unset, .unset, .unset, .unset, .unset] [(.ref b28)])) _
      refine XS.dload X32.here hx rfl (hb hby at_99) rfl ?_
      show Steps p.tables e below (T32.setTop (mkF m 101 #[.val (.int p0), .val (.int p1), .val (.int p2), .val (.int p3), .val (.int p4), .val (.int p5), .val (.int v2), .val (.int v5), .val (.int v8), .val (.int v11), .val (.int v14), .val (.int v20), .val (.double v23), .second, .val (.double v26), .second, .val (.ref b28), .unset, .unset, .unset, .unset, .unset, .unset] [(.double v26), (.ref b28)])) _
      refine XS.iload X32.here hx rfl (hb hby at_101) rfl ?_
      exact k)
  obtain ⟨cq37, kq37, q37a, q37b, q37c⟩ := isOf hZ rfl EE32
  obtain ⟨_, _, ⟨T37, L37, k37, n37⟩, -, X37, ⟨Lc37, hQ37, l37, y37, z37⟩, st37⟩ := X32.virtualBack hx (y := (⟨"com/example/lexivec/lexivec/core/ScalarQuantizer", "frequency", "(DI)I"⟩ : MethodName)) (z := (⟨"com/example/lexivec/lexivec/core/ScalarQuantizer", "frequency", "(DI)I"⟩ : MethodName)) hown (mvT hZ (hw _ (List.mem_of_getElem? (i := 41) rfl))) (mvT hZ (hw _ (List.mem_of_getElem? (i := 42) rfl))) (notFace_of_selects (args := #[]) (mvT hZ (hw _ (List.mem_of_getElem? (i := 44) rfl)))) (mvT hZ (hw _ (List.mem_of_getElem? (i := 44) rfl))) (mvT hZ (hw _ (List.mem_of_getElem? (i := 43) rfl))) (by decide) (backOf (W := 0) (rm5 l Z a0 hw [] b28 v26 v14 v23 v2 T32.heap n0 c33 FF32_5 FF32_3 (fun w hw => by rcases hw with rfl | rfl; exact own_nn (own_mul hSC hVA (by omega) (by omega) (by decide) (by decide)) (Nat.lt_of_le_of_lt (Nat.mul_le_mul (show _ ≤ 4096 by omega) (show _ ≤ 8388608 by omega)) (by decide)) (by decide); exact own_nn (own_mul hSC (own_ng hVA (by omega) (by decide)) (by omega) (by omega) (by decide) (by decide)) (Nat.lt_of_le_of_lt (Nat.mul_le_mul (show _ ≤ 4096 by omega) (show _ ≤ 8388608 by omega)) (by decide)) (by decide))) hZ (hw _ (List.mem_of_getElem? (i := 45) rfl)) (hw _ (List.mem_of_getElem? (i := 7) rfl)) (by decide) (by decide)) q37a q37c (g := (mkF m 103 #[.val (.int p0), .val (.int p1), .val (.int p2), .val (.int p3), .val (.int p4), .val (.int p5), .val (.int v2), .val (.int v5), .val (.int v8), .val (.int v11), .val (.int v14), .val (.int v20), .val (.double v23), .second, .val (.double v26), .second, .val (.ref b28), .unset, .unset, .unset, .unset, .unset, .unset] [(.int v14), (.double v26), (.ref b28)])) rfl (by rw [hml]; rfl) (Steps.refl _) (argsL := [(.double v26), (.int v14)]) (rest := []) (lenOf own_pd3 rfl) rfl (by show 2 * 0 + _ ≤ _; exact Nat.le_of_eq rfl) (hb hby at_103) (fun _ _ => ⟨rfl, rfl, (by decide : 2 + 0 ≤ _), (by decide : 9 + 0 ≤ _)⟩)
  dsimp only [Pt.U, Pt.locs, Pt.cells, Pt.slots] at X37 l37 y37 z37 st37 hQ37
  subst l37 y37 z37
  obtain ⟨rfl, N37q, e37⟩ := hQ37
  have N37 := Fr.app N32 N37q
  have pre37 : ∀ t, Steps p.tables e below (T37.setTop (mkF m 106 #[.val (.int p0), .val (.int p1), .val (.int p2), .val (.int p3), .val (.int p4), .val (.int p5), .val (.int v2), .val (.int v5), .val (.int v8), .val (.int v11), .val (.int v14), .val (.int v20), .val (.double v23), .second, .val (.double v26), .second, .val (.ref b28), .unset, .unset, .unset, .unset, .unset, .unset] [(.int (own_f5 v26 v14 v23 v2))])) t → P t := fun t k => pre36 t (st37.trans k)
  obtain ⟨v38, hv38⟩ : ∃ z : Int32, z = (own_f5 v26 v14 v23 v2) := ⟨_, rfl⟩
  have pre39 : ∀ t, Steps p.tables e below (T37.setTop (mkF m 106 #[.val (.int p0), .val (.int p1), .val (.int p2), .val (.int p3), .val (.int p4), .val (.int p5), .val (.int v2), .val (.int v5), .val (.int v8), .val (.int v11), .val (.int v14), .val (.int v20), .val (.double v23), .second, .val (.double v26), .second, .val (.ref b28), .unset, .unset, .unset, .unset, .unset, .unset] [(.int v38)])) t → P t := fun t k => pre37 t (by subst hv38; exact k)
  have pre40 : ∀ t, Steps p.tables e below (T37.setTop (mkF m 112 #[.val (.int p0), .val (.int p1), .val (.int p2), .val (.int p3), .val (.int p4), .val (.int p5), .val (.int v2), .val (.int v5), .val (.int v8), .val (.int v11), .val (.int v14), .val (.int v20), .val (.double v23), .second, .val (.double v26), .second, .val (.ref b28), .val (.int v38), .unset, .unset, .unset, .unset, .unset] [(.int v2), (.int v14)])) t → P t := fun t k => pre39 t (by
      show Steps p.tables e below (T37.setTop (mkF m 106 #[.val (.int p0), .val (.int p1), .val (.int p2), .val (.int p3), .val (.int p4), .val (.int p5), .val (.int v2), .val (.int v5), .val (.int v8), .val (.int v11), .val (.int v14), .val (.int v20), .val (.double v23), .second, .val (.double v26), .second, .val (.ref b28), .unset, .unset, .unset, .unset, .unset, .unset] [(.int v38)])) _
      refine XS.istore X37.here hx rfl (hb hby at_106) rfl (l' := #[.val (.int p0), .val (.int p1), .val (.int p2), .val (.int p3), .val (.int p4), .val (.int p5), .val (.int v2), .val (.int v5), .val (.int v8), .val (.int v11), .val (.int v14), .val (.int v20), .val (.double v23), .second, .val (.double v26), .second, .val (.ref b28), .val (.int v38), .unset, .unset, .unset, .unset, .unset]) rfl ?_
      show Steps p.tables e below (T37.setTop (mkF m 108 #[.val (.int p0), .val (.int p1), .val (.int p2), .val (.int p3), .val (.int p4), .val (.int p5), .val (.int v2), .val (.int v5), .val (.int v8), .val (.int v11), .val (.int v14), .val (.int v20), .val (.double v23), .second, .val (.double v26), .second, .val (.ref b28), .val (.int v38), .unset, .unset, .unset, .unset, .unset] [])) _
      refine XS.iload X37.here hx rfl (hb hby at_108) rfl ?_
      show Steps p.tables e below (T37.setTop (mkF m 110 #[.val (.int p0), .val (.int p1), .val (.int p2), .val (.int p3), .val (.int p4), .val (.int p5), .val (.int v2), .val (.int v5), .val (.int v8), .val (.int v11), .val (.int v14), .val (.int v20), .val (.double v23), .second, .val (.double v26), .second, .val (.ref b28), .val (.int v38), .unset, .unset, .unset, .unset, .unset] [(.int v14)])) _
      refine XS.iload X37.here hx rfl (hb hby at_110) rfl ?_
      exact k)
  obtain ⟨T45, L45, v44, X45, e45, N45, hv44, pre45⟩ : ∃ (T' : State) (L' : List Loc) (v44 : Int64), Stand p l e room_1 s m #[(.int p0), (.int p1), (.int p2), (.int p3), (.int p4), (.int p5)] below meth c T' L' 2 9 ∧ T'.heap = T32.heap ∧ Fr n0 L' ∧ v44 = (if v14 < v2 then (v11.toInt64) else (-(v11.toInt64))) ∧ (∀ t, Steps p.tables e below (T'.setTop (mkF m 125 #[.val (.int p0), .val (.int p1), .val (.int p2), .val (.int p3), .val (.int p4), .val (.int p5), .val (.int v2), .val (.int v5), .val (.int v8), .val (.int v11), .val (.int v14), .val (.int v20), .val (.double v23), .second, .val (.double v26), .second, .val (.ref b28), .val (.int v38), .unset, .unset, .unset, .unset, .unset] [(.long v44)])) t → P t) := by
    by_cases hc41 : v14 < v2
    · have pre42 : ∀ t, Steps p.tables e below (T37.setTop (mkF m 125 #[.val (.int p0), .val (.int p1), .val (.int p2), .val (.int p3), .val (.int p4), .val (.int p5), .val (.int v2), .val (.int v5), .val (.int v8), .val (.int v11), .val (.int v14), .val (.int v20), .val (.double v23), .second, .val (.double v26), .second, .val (.ref b28), .val (.int v38), .unset, .unset, .unset, .unset, .unset] [(.long (v11.toInt64))])) t → P t := fun t k => pre40 t (by
          show Steps p.tables e below (T37.setTop (mkF m 112 #[.val (.int p0), .val (.int p1), .val (.int p2), .val (.int p3), .val (.int p4), .val (.int p5), .val (.int v2), .val (.int v5), .val (.int v8), .val (.int v11), .val (.int v14), .val (.int v20), .val (.double v23), .second, .val (.double v26), .second, .val (.ref b28), .val (.int v38), .unset, .unset, .unset, .unset, .unset] [(.int v2), (.int v14)])) _
          refine XS.icmpNo X37.here hx rfl (hb hby at_112) rfl (tlt hc41).2.1 ?_
          show Steps p.tables e below (T37.setTop (mkF m 115 #[.val (.int p0), .val (.int p1), .val (.int p2), .val (.int p3), .val (.int p4), .val (.int p5), .val (.int v2), .val (.int v5), .val (.int v8), .val (.int v11), .val (.int v14), .val (.int v20), .val (.double v23), .second, .val (.double v26), .second, .val (.ref b28), .val (.int v38), .unset, .unset, .unset, .unset, .unset] [])) _
          refine XS.iload X37.here hx rfl (hb hby at_115) rfl ?_
          show Steps p.tables e below (T37.setTop (mkF m 117 #[.val (.int p0), .val (.int p1), .val (.int p2), .val (.int p3), .val (.int p4), .val (.int p5), .val (.int v2), .val (.int v5), .val (.int v8), .val (.int v11), .val (.int v14), .val (.int v20), .val (.double v23), .second, .val (.double v26), .second, .val (.ref b28), .val (.int v38), .unset, .unset, .unset, .unset, .unset] [(.int v11)])) _
          refine XS.i2l X37.here hx rfl (hb hby at_117) rfl ?_
          show Steps p.tables e below (T37.setTop (mkF m 118 #[.val (.int p0), .val (.int p1), .val (.int p2), .val (.int p3), .val (.int p4), .val (.int p5), .val (.int v2), .val (.int v5), .val (.int v8), .val (.int v11), .val (.int v14), .val (.int v20), .val (.double v23), .second, .val (.double v26), .second, .val (.ref b28), .val (.int v38), .unset, .unset, .unset, .unset, .unset] [(.long (v11.toInt64))])) _
          refine XS.goto X37.here hx rfl (pc0 := 118) (pc' := 125) rfl (hb hby at_118) (by decide) (by decide) ?_
          exact k)
      exact ⟨_, _, (v11.toInt64), X37, e37, N37, (by first | (rw [if_pos hc41]; done) | simp only [if_pos hc41] | simp [if_pos hc41]), pre42⟩
    · have pre43 : ∀ t, Steps p.tables e below (T37.setTop (mkF m 125 #[.val (.int p0), .val (.int p1), .val (.int p2), .val (.int p3), .val (.int p4), .val (.int p5), .val (.int v2), .val (.int v5), .val (.int v8), .val (.int v11), .val (.int v14), .val (.int v20), .val (.double v23), .second, .val (.double v26), .second, .val (.ref b28), .val (.int v38), .unset, .unset, .unset, .unset, .unset] [(.long (-(v11.toInt64)))])) t → P t := fun t k => pre40 t (by
          show Steps p.tables e below (T37.setTop (mkF m 112 #[.val (.int p0), .val (.int p1), .val (.int p2), .val (.int p3), .val (.int p4), .val (.int p5), .val (.int v2), .val (.int v5), .val (.int v8), .val (.int v11), .val (.int v14), .val (.int v20), .val (.double v23), .second, .val (.double v26), .second, .val (.ref b28), .val (.int v38), .unset, .unset, .unset, .unset, .unset] [(.int v2), (.int v14)])) _
          refine XS.icmpYes X37.here hx rfl (pc0 := 112) (pc' := 121) rfl (hb hby at_112) rfl (flt hc41).2.1 (by decide) (by decide) ?_
          show Steps p.tables e below (T37.setTop (mkF m 121 #[.val (.int p0), .val (.int p1), .val (.int p2), .val (.int p3), .val (.int p4), .val (.int p5), .val (.int v2), .val (.int v5), .val (.int v8), .val (.int v11), .val (.int v14), .val (.int v20), .val (.double v23), .second, .val (.double v26), .second, .val (.ref b28), .val (.int v38), .unset, .unset, .unset, .unset, .unset] [])) _
          refine XS.iload X37.here hx rfl (hb hby at_121) rfl ?_
          show Steps p.tables e below (T37.setTop (mkF m 123 #[.val (.int p0), .val (.int p1), .val (.int p2), .val (.int p3), .val (.int p4), .val (.int p5), .val (.int v2), .val (.int v5), .val (.int v8), .val (.int v11), .val (.int v14), .val (.int v20), .val (.double v23), .second, .val (.double v26), .second, .val (.ref b28), .val (.int v38), .unset, .unset, .unset, .unset, .unset] [(.int v11)])) _
          refine XS.i2l X37.here hx rfl (hb hby at_123) rfl ?_
          show Steps p.tables e below (T37.setTop (mkF m 124 #[.val (.int p0), .val (.int p1), .val (.int p2), .val (.int p3), .val (.int p4), .val (.int p5), .val (.int v2), .val (.int v5), .val (.int v8), .val (.int v11), .val (.int v14), .val (.int v20), .val (.double v23), .second, .val (.double v26), .second, .val (.ref b28), .val (.int v38), .unset, .unset, .unset, .unset, .unset] [(.long (v11.toInt64))])) _
          refine XS.lneg X37.here hx rfl (hb hby at_124) rfl ?_
          exact k)
      exact ⟨_, _, (-(v11.toInt64)), X37, e37, N37, (by first | (rw [if_neg hc41]; done) | simp only [if_neg hc41] | simp [if_neg hc41]), pre43⟩
  have pre46 : ∀ t, Steps p.tables e below (T45.setTop (mkF m 135 #[.val (.int p0), .val (.int p1), .val (.int p2), .val (.int p3), .val (.int p4), .val (.int p5), .val (.int v2), .val (.int v5), .val (.int v8), .val (.int v11), .val (.int v14), .val (.int v20), .val (.double v23), .second, .val (.double v26), .second, .val (.ref b28), .val (.int v38), .val (.long v44), .second, .val (.long ((v8.toInt64) * v44)), .second, .unset] [])) t → P t := fun t k => pre45 t (by
      show Steps p.tables e below (T45.setTop (mkF m 125 #[.val (.int p0), .val (.int p1), .val (.int p2), .val (.int p3), .val (.int p4), .val (.int p5), .val (.int v2), .val (.int v5), .val (.int v8), .val (.int v11), .val (.int v14), .val (.int v20), .val (.double v23), .second, .val (.double v26), .second, .val (.ref b28), .val (.int v38), .unset, .unset, .unset, .unset, .unset] [(.long v44)])) _
      refine XS.lstore X45.here hx rfl (hb hby at_125) rfl (l' := #[.val (.int p0), .val (.int p1), .val (.int p2), .val (.int p3), .val (.int p4), .val (.int p5), .val (.int v2), .val (.int v5), .val (.int v8), .val (.int v11), .val (.int v14), .val (.int v20), .val (.double v23), .second, .val (.double v26), .second, .val (.ref b28), .val (.int v38), .val (.long v44), .second, .unset, .unset, .unset]) rfl ?_
      show Steps p.tables e below (T45.setTop (mkF m 127 #[.val (.int p0), .val (.int p1), .val (.int p2), .val (.int p3), .val (.int p4), .val (.int p5), .val (.int v2), .val (.int v5), .val (.int v8), .val (.int v11), .val (.int v14), .val (.int v20), .val (.double v23), .second, .val (.double v26), .second, .val (.ref b28), .val (.int v38), .val (.long v44), .second, .unset, .unset, .unset] [])) _
      refine XS.iload X45.here hx rfl (hb hby at_127) rfl ?_
      show Steps p.tables e below (T45.setTop (mkF m 129 #[.val (.int p0), .val (.int p1), .val (.int p2), .val (.int p3), .val (.int p4), .val (.int p5), .val (.int v2), .val (.int v5), .val (.int v8), .val (.int v11), .val (.int v14), .val (.int v20), .val (.double v23), .second, .val (.double v26), .second, .val (.ref b28), .val (.int v38), .val (.long v44), .second, .unset, .unset, .unset] [(.int v8)])) _
      refine XS.i2l X45.here hx rfl (hb hby at_129) rfl ?_
      show Steps p.tables e below (T45.setTop (mkF m 130 #[.val (.int p0), .val (.int p1), .val (.int p2), .val (.int p3), .val (.int p4), .val (.int p5), .val (.int v2), .val (.int v5), .val (.int v8), .val (.int v11), .val (.int v14), .val (.int v20), .val (.double v23), .second, .val (.double v26), .second, .val (.ref b28), .val (.int v38), .val (.long v44), .second, .unset, .unset, .unset] [(.long (v8.toInt64))])) _
      refine XS.lload X45.here hx rfl (hb hby at_130) rfl ?_
      show Steps p.tables e below (T45.setTop (mkF m 132 #[.val (.int p0), .val (.int p1), .val (.int p2), .val (.int p3), .val (.int p4), .val (.int p5), .val (.int v2), .val (.int v5), .val (.int v8), .val (.int v11), .val (.int v14), .val (.int v20), .val (.double v23), .second, .val (.double v26), .second, .val (.ref b28), .val (.int v38), .val (.long v44), .second, .unset, .unset, .unset] [(.long v44), (.long (v8.toInt64))])) _
      refine XS.lmul X45.here hx rfl (hb hby at_132) rfl ?_
      show Steps p.tables e below (T45.setTop (mkF m 133 #[.val (.int p0), .val (.int p1), .val (.int p2), .val (.int p3), .val (.int p4), .val (.int p5), .val (.int v2), .val (.int v5), .val (.int v8), .val (.int v11), .val (.int v14), .val (.int v20), .val (.double v23), .second, .val (.double v26), .second, .val (.ref b28), .val (.int v38), .val (.long v44), .second, .unset, .unset, .unset] [(.long ((v8.toInt64) * v44))])) _
      refine XS.lstore X45.here hx rfl (hb hby at_133) rfl (l' := #[.val (.int p0), .val (.int p1), .val (.int p2), .val (.int p3), .val (.int p4), .val (.int p5), .val (.int v2), .val (.int v5), .val (.int v8), .val (.int v11), .val (.int v14), .val (.int v20), .val (.double v23), .second, .val (.double v26), .second, .val (.ref b28), .val (.int v38), .val (.long v44), .second, .val (.long ((v8.toInt64) * v44)), .second, .unset]) rfl ?_
      exact k)
  obtain ⟨v47, hv47⟩ : ∃ z : Int64, z = ((v8.toInt64) * v44) := ⟨_, rfl⟩
  have pre48 : ∀ t, Steps p.tables e below (T45.setTop (mkF m 135 #[.val (.int p0), .val (.int p1), .val (.int p2), .val (.int p3), .val (.int p4), .val (.int p5), .val (.int v2), .val (.int v5), .val (.int v8), .val (.int v11), .val (.int v14), .val (.int v20), .val (.double v23), .second, .val (.double v26), .second, .val (.ref b28), .val (.int v38), .val (.long v44), .second, .val (.long v47), .second, .unset] [])) t → P t := fun t k => pre46 t (by subst hv47; exact k)
  have pre49 : ∀ t, Steps p.tables e below (T45.setTop (mkF m 141 #[.val (.int p0), .val (.int p1), .val (.int p2), .val (.int p3), .val (.int p4), .val (.int p5), .val (.int v2), .val (.int v5), .val (.int v8), .val (.int v11), .val (.int v14), .val (.int v20), .val (.double v23), .second, .val (.double v26), .second, .val (.ref b28), .val (.int v38), .val (.long v44), .second, .val (.long v47), .second, .unset] [(.int (lcmpW v47 (32 : Int64)))])) t → P t := fun t k => pre48 t (by
      show Steps p.tables e below (T45.setTop (mkF m 135 #[.val (.int p0), .val (.int p1), .val (.int p2), .val (.int p3), .val (.int p4), .val (.int p5), .val (.int v2), .val (.int v5), .val (.int v8), .val (.int v11), .val (.int v14), .val (.int v20), .val (.double v23), .second, .val (.double v26), .second, .val (.ref b28), .val (.int v38), .val (.long v44), .second, .val (.long v47), .second, .unset] [])) _
      refine XS.lload X45.here hx rfl (hb hby at_135) rfl ?_
      show Steps p.tables e below (T45.setTop (mkF m 137 #[.val (.int p0), .val (.int p1), .val (.int p2), .val (.int p3), .val (.int p4), .val (.int p5), .val (.int v2), .val (.int v5), .val (.int v8), .val (.int v11), .val (.int v14), .val (.int v20), .val (.double v23), .second, .val (.double v26), .second, .val (.ref b28), .val (.int v38), .val (.long v44), .second, .val (.long v47), .second, .unset] [(.long v47)])) _
      refine X45.ldc2Long hx hown (mvT hZ (hw _ (List.mem_of_getElem? (i := 46) rfl))) (g := (mkF m 137 #[.val (.int p0), .val (.int p1), .val (.int p2), .val (.int p3), .val (.int p4), .val (.int p5), .val (.int v2), .val (.int v5), .val (.int v8), .val (.int v11), .val (.int v14), .val (.int v20), .val (.double v23), .second, .val (.double v26), .second, .val (.ref b28), .val (.int v38), .val (.long v44), .second, .val (.long v47), .second, .unset] [(.long v47)])) rfl (hb hby at_137) _ ?_
      show Steps p.tables e below (T45.setTop (mkF m 140 #[.val (.int p0), .val (.int p1), .val (.int p2), .val (.int p3), .val (.int p4), .val (.int p5), .val (.int v2), .val (.int v5), .val (.int v8), .val (.int v11), .val (.int v14), .val (.int v20), .val (.double v23), .second, .val (.double v26), .second, .val (.ref b28), .val (.int v38), .val (.long v44), .second, .val (.long v47), .second, .unset] [(.long (32 : Int64)), (.long v47)])) _
      refine XS.lcmp X45.here hx rfl (hb hby at_140) rfl ?_
      exact k)
  obtain ⟨T54, L54, v53, X54, e54, N54, hv53, pre54⟩ : ∃ (T' : State) (L' : List Loc) (v53 : Int32), Stand p l e room_1 s m #[(.int p0), (.int p1), (.int p2), (.int p3), (.int p4), (.int p5)] below meth c T' L' 2 9 ∧ T'.heap = T32.heap ∧ Fr n0 L' ∧ v53 = (if v47 < (32 : Int64) then (0 : Int32) else ((v47 >>> ((5 : Int32) &&& 0x3f).toInt64).toInt32)) ∧ (∀ t, Steps p.tables e below (T'.setTop (mkF m 153 #[.val (.int p0), .val (.int p1), .val (.int p2), .val (.int p3), .val (.int p4), .val (.int p5), .val (.int v2), .val (.int v5), .val (.int v8), .val (.int v11), .val (.int v14), .val (.int v20), .val (.double v23), .second, .val (.double v26), .second, .val (.ref b28), .val (.int v38), .val (.long v44), .second, .val (.long v47), .second, .unset] [(.int v53)])) t → P t) := by
    by_cases hc50 : v47 < (32 : Int64)
    · have pre51 : ∀ t, Steps p.tables e below (T45.setTop (mkF m 153 #[.val (.int p0), .val (.int p1), .val (.int p2), .val (.int p3), .val (.int p4), .val (.int p5), .val (.int v2), .val (.int v5), .val (.int v8), .val (.int v11), .val (.int v14), .val (.int v20), .val (.double v23), .second, .val (.double v26), .second, .val (.ref b28), .val (.int v38), .val (.long v44), .second, .val (.long v47), .second, .unset] [(.int (0 : Int32))])) t → P t := fun t k => pre49 t (by
          show Steps p.tables e below (T45.setTop (mkF m 141 #[.val (.int p0), .val (.int p1), .val (.int p2), .val (.int p3), .val (.int p4), .val (.int p5), .val (.int v2), .val (.int v5), .val (.int v8), .val (.int v11), .val (.int v14), .val (.int v20), .val (.double v23), .second, .val (.double v26), .second, .val (.ref b28), .val (.int v38), .val (.long v44), .second, .val (.long v47), .second, .unset] [(.int (lcmpW v47 (32 : Int64)))])) _
          refine XS.ifYes X45.here hx rfl (pc0 := 141) (pc' := 152) rfl (hb hby at_141) rfl ((if0 _ _).trans (tlt ((lw_lt _ _).mpr hc50)).1) (by decide) (by decide) ?_
          show Steps p.tables e below (T45.setTop (mkF m 152 #[.val (.int p0), .val (.int p1), .val (.int p2), .val (.int p3), .val (.int p4), .val (.int p5), .val (.int v2), .val (.int v5), .val (.int v8), .val (.int v11), .val (.int v14), .val (.int v20), .val (.double v23), .second, .val (.double v26), .second, .val (.ref b28), .val (.int v38), .val (.long v44), .second, .val (.long v47), .second, .unset] [])) _
          refine XS.iconst X45.here hx rfl (hb hby at_152) ?_
          exact k)
      exact ⟨_, _, (0 : Int32), X45, e45, N45, (by first | (rw [if_pos hc50]; done) | simp only [if_pos hc50] | simp [if_pos hc50]), pre51⟩
    · have pre52 : ∀ t, Steps p.tables e below (T45.setTop (mkF m 153 #[.val (.int p0), .val (.int p1), .val (.int p2), .val (.int p3), .val (.int p4), .val (.int p5), .val (.int v2), .val (.int v5), .val (.int v8), .val (.int v11), .val (.int v14), .val (.int v20), .val (.double v23), .second, .val (.double v26), .second, .val (.ref b28), .val (.int v38), .val (.long v44), .second, .val (.long v47), .second, .unset] [(.int ((v47 >>> ((5 : Int32) &&& 0x3f).toInt64).toInt32))])) t → P t := fun t k => pre49 t (by
          show Steps p.tables e below (T45.setTop (mkF m 141 #[.val (.int p0), .val (.int p1), .val (.int p2), .val (.int p3), .val (.int p4), .val (.int p5), .val (.int v2), .val (.int v5), .val (.int v8), .val (.int v11), .val (.int v14), .val (.int v20), .val (.double v23), .second, .val (.double v26), .second, .val (.ref b28), .val (.int v38), .val (.long v44), .second, .val (.long v47), .second, .unset] [(.int (lcmpW v47 (32 : Int64)))])) _
          refine XS.ifNo X45.here hx rfl (hb hby at_141) rfl ((if0 _ _).trans (flt (fun q => hc50 ((lw_lt _ _).mp q))).1) ?_
          show Steps p.tables e below (T45.setTop (mkF m 144 #[.val (.int p0), .val (.int p1), .val (.int p2), .val (.int p3), .val (.int p4), .val (.int p5), .val (.int v2), .val (.int v5), .val (.int v8), .val (.int v11), .val (.int v14), .val (.int v20), .val (.double v23), .second, .val (.double v26), .second, .val (.ref b28), .val (.int v38), .val (.long v44), .second, .val (.long v47), .second, .unset] [])) _
          refine XS.lload X45.here hx rfl (hb hby at_144) rfl ?_
          show Steps p.tables e below (T45.setTop (mkF m 146 #[.val (.int p0), .val (.int p1), .val (.int p2), .val (.int p3), .val (.int p4), .val (.int p5), .val (.int v2), .val (.int v5), .val (.int v8), .val (.int v11), .val (.int v14), .val (.int v20), .val (.double v23), .second, .val (.double v26), .second, .val (.ref b28), .val (.int v38), .val (.long v44), .second, .val (.long v47), .second, .unset] [(.long v47)])) _
          refine XS.iconst X45.here hx rfl (hb hby at_146) ?_
          show Steps p.tables e below (T45.setTop (mkF m 147 #[.val (.int p0), .val (.int p1), .val (.int p2), .val (.int p3), .val (.int p4), .val (.int p5), .val (.int v2), .val (.int v5), .val (.int v8), .val (.int v11), .val (.int v14), .val (.int v20), .val (.double v23), .second, .val (.double v26), .second, .val (.ref b28), .val (.int v38), .val (.long v44), .second, .val (.long v47), .second, .unset] [(.int (5 : Int32)), (.long v47)])) _
          refine XS.lshr X45.here hx rfl (hb hby at_147) rfl ?_
          show Steps p.tables e below (T45.setTop (mkF m 148 #[.val (.int p0), .val (.int p1), .val (.int p2), .val (.int p3), .val (.int p4), .val (.int p5), .val (.int v2), .val (.int v5), .val (.int v8), .val (.int v11), .val (.int v14), .val (.int v20), .val (.double v23), .second, .val (.double v26), .second, .val (.ref b28), .val (.int v38), .val (.long v44), .second, .val (.long v47), .second, .unset] [(.long (v47 >>> ((5 : Int32) &&& 0x3f).toInt64))])) _
          refine XS.l2i X45.here hx rfl (hb hby at_148) rfl ?_
          show Steps p.tables e below (T45.setTop (mkF m 149 #[.val (.int p0), .val (.int p1), .val (.int p2), .val (.int p3), .val (.int p4), .val (.int p5), .val (.int v2), .val (.int v5), .val (.int v8), .val (.int v11), .val (.int v14), .val (.int v20), .val (.double v23), .second, .val (.double v26), .second, .val (.ref b28), .val (.int v38), .val (.long v44), .second, .val (.long v47), .second, .unset] [(.int ((v47 >>> ((5 : Int32) &&& 0x3f).toInt64).toInt32))])) _
          refine XS.goto X45.here hx rfl (pc0 := 149) (pc' := 153) rfl (hb hby at_149) (by decide) (by decide) ?_
          exact k)
      exact ⟨_, _, ((v47 >>> ((5 : Int32) &&& 0x3f).toInt64).toInt32), X45, e45, N45, (by first | (rw [if_neg hc50]; done) | simp only [if_neg hc50] | simp [if_neg hc50]), pre52⟩
  have pre55 : ∀ t, Steps p.tables e below (T54.setTop (mkF m 159 #[.val (.int p0), .val (.int p1), .val (.int p2), .val (.int p3), .val (.int p4), .val (.int p5), .val (.int v2), .val (.int v5), .val (.int v8), .val (.int v11), .val (.int v14), .val (.int v20), .val (.double v23), .second, .val (.double v26), .second, .val (.ref b28), .val (.int v38), .val (.long v44), .second, .val (.long v47), .second, .val (.int v53)] [(.int v53), (.int v38)])) t → P t := fun t k => pre54 t (by
      show Steps p.tables e below (T54.setTop (mkF m 153 #[.val (.int p0), .val (.int p1), .val (.int p2), .val (.int p3), .val (.int p4), .val (.int p5), .val (.int v2), .val (.int v5), .val (.int v8), .val (.int v11), .val (.int v14), .val (.int v20), .val (.double v23), .second, .val (.double v26), .second, .val (.ref b28), .val (.int v38), .val (.long v44), .second, .val (.long v47), .second, .unset] [(.int v53)])) _
      refine XS.istore X54.here hx rfl (hb hby at_153) rfl (l' := #[.val (.int p0), .val (.int p1), .val (.int p2), .val (.int p3), .val (.int p4), .val (.int p5), .val (.int v2), .val (.int v5), .val (.int v8), .val (.int v11), .val (.int v14), .val (.int v20), .val (.double v23), .second, .val (.double v26), .second, .val (.ref b28), .val (.int v38), .val (.long v44), .second, .val (.long v47), .second, .val (.int v53)]) rfl ?_
      show Steps p.tables e below (T54.setTop (mkF m 155 #[.val (.int p0), .val (.int p1), .val (.int p2), .val (.int p3), .val (.int p4), .val (.int p5), .val (.int v2), .val (.int v5), .val (.int v8), .val (.int v11), .val (.int v14), .val (.int v20), .val (.double v23), .second, .val (.double v26), .second, .val (.ref b28), .val (.int v38), .val (.long v44), .second, .val (.long v47), .second, .val (.int v53)] [])) _
      refine XS.iload X54.here hx rfl (hb hby at_155) rfl ?_
      show Steps p.tables e below (T54.setTop (mkF m 157 #[.val (.int p0), .val (.int p1), .val (.int p2), .val (.int p3), .val (.int p4), .val (.int p5), .val (.int v2), .val (.int v5), .val (.int v8), .val (.int v11), .val (.int v14), .val (.int v20), .val (.double v23), .second, .val (.double v26), .second, .val (.ref b28), .val (.int v38), .val (.long v44), .second, .val (.long v47), .second, .val (.int v53)] [(.int v38)])) _
      refine XS.iload X54.here hx rfl (hb hby at_157) rfl ?_
      exact k)
  obtain ⟨T60, L60, v59, X60, e60, N60, hv59, pre60⟩ : ∃ (T' : State) (L' : List Loc) (v59 : Int32), Stand p l e room_1 s m #[(.int p0), (.int p1), (.int p2), (.int p3), (.int p4), (.int p5)] below meth c T' L' 2 9 ∧ T'.heap = T32.heap ∧ Fr n0 L' ∧ v59 = (if v38 = v53 then (1 : Int32) else (0 : Int32)) ∧ (∀ t, Steps p.tables e below (T'.setTop (mkF m 167 #[.val (.int p0), .val (.int p1), .val (.int p2), .val (.int p3), .val (.int p4), .val (.int p5), .val (.int v2), .val (.int v5), .val (.int v8), .val (.int v11), .val (.int v14), .val (.int v20), .val (.double v23), .second, .val (.double v26), .second, .val (.ref b28), .val (.int v38), .val (.long v44), .second, .val (.long v47), .second, .val (.int v53)] [(.int v59)])) t → P t) := by
    by_cases hc56 : v38 = v53
    · have pre57 : ∀ t, Steps p.tables e below (T54.setTop (mkF m 167 #[.val (.int p0), .val (.int p1), .val (.int p2), .val (.int p3), .val (.int p4), .val (.int p5), .val (.int v2), .val (.int v5), .val (.int v8), .val (.int v11), .val (.int v14), .val (.int v20), .val (.double v23), .second, .val (.double v26), .second, .val (.ref b28), .val (.int v38), .val (.long v44), .second, .val (.long v47), .second, .val (.int v53)] [(.int (1 : Int32))])) t → P t := fun t k => pre55 t (by
          show Steps p.tables e below (T54.setTop (mkF m 159 #[.val (.int p0), .val (.int p1), .val (.int p2), .val (.int p3), .val (.int p4), .val (.int p5), .val (.int v2), .val (.int v5), .val (.int v8), .val (.int v11), .val (.int v14), .val (.int v20), .val (.double v23), .second, .val (.double v26), .second, .val (.ref b28), .val (.int v38), .val (.long v44), .second, .val (.long v47), .second, .val (.int v53)] [(.int v53), (.int v38)])) _
          refine XS.icmpNo X54.here hx rfl (hb hby at_159) rfl (teq hc56).2 ?_
          show Steps p.tables e below (T54.setTop (mkF m 162 #[.val (.int p0), .val (.int p1), .val (.int p2), .val (.int p3), .val (.int p4), .val (.int p5), .val (.int v2), .val (.int v5), .val (.int v8), .val (.int v11), .val (.int v14), .val (.int v20), .val (.double v23), .second, .val (.double v26), .second, .val (.ref b28), .val (.int v38), .val (.long v44), .second, .val (.long v47), .second, .val (.int v53)] [])) _
          refine XS.iconst X54.here hx rfl (hb hby at_162) ?_
          show Steps p.tables e below (T54.setTop (mkF m 163 #[.val (.int p0), .val (.int p1), .val (.int p2), .val (.int p3), .val (.int p4), .val (.int p5), .val (.int v2), .val (.int v5), .val (.int v8), .val (.int v11), .val (.int v14), .val (.int v20), .val (.double v23), .second, .val (.double v26), .second, .val (.ref b28), .val (.int v38), .val (.long v44), .second, .val (.long v47), .second, .val (.int v53)] [(.int (1 : Int32))])) _
          refine XS.goto X54.here hx rfl (pc0 := 163) (pc' := 167) rfl (hb hby at_163) (by decide) (by decide) ?_
          exact k)
      exact ⟨_, _, (1 : Int32), X54, e54, N54, (by first | (rw [if_pos hc56]; done) | simp only [if_pos hc56] | simp [if_pos hc56]), pre57⟩
    · have pre58 : ∀ t, Steps p.tables e below (T54.setTop (mkF m 167 #[.val (.int p0), .val (.int p1), .val (.int p2), .val (.int p3), .val (.int p4), .val (.int p5), .val (.int v2), .val (.int v5), .val (.int v8), .val (.int v11), .val (.int v14), .val (.int v20), .val (.double v23), .second, .val (.double v26), .second, .val (.ref b28), .val (.int v38), .val (.long v44), .second, .val (.long v47), .second, .val (.int v53)] [(.int (0 : Int32))])) t → P t := fun t k => pre55 t (by
          show Steps p.tables e below (T54.setTop (mkF m 159 #[.val (.int p0), .val (.int p1), .val (.int p2), .val (.int p3), .val (.int p4), .val (.int p5), .val (.int v2), .val (.int v5), .val (.int v8), .val (.int v11), .val (.int v14), .val (.int v20), .val (.double v23), .second, .val (.double v26), .second, .val (.ref b28), .val (.int v38), .val (.long v44), .second, .val (.long v47), .second, .val (.int v53)] [(.int v53), (.int v38)])) _
          refine XS.icmpYes X54.here hx rfl (pc0 := 159) (pc' := 166) rfl (hb hby at_159) rfl (feq hc56).2 (by decide) (by decide) ?_
          show Steps p.tables e below (T54.setTop (mkF m 166 #[.val (.int p0), .val (.int p1), .val (.int p2), .val (.int p3), .val (.int p4), .val (.int p5), .val (.int v2), .val (.int v5), .val (.int v8), .val (.int v11), .val (.int v14), .val (.int v20), .val (.double v23), .second, .val (.double v26), .second, .val (.ref b28), .val (.int v38), .val (.long v44), .second, .val (.long v47), .second, .val (.int v53)] [])) _
          refine XS.iconst X54.here hx rfl (hb hby at_166) ?_
          exact k)
      exact ⟨_, _, (0 : Int32), X54, e54, N54, (by first | (rw [if_neg hc56]; done) | simp only [if_neg hc56] | simp [if_neg hc56]), pre58⟩
  obtain ⟨fs, hr, hrun, hended, hW, hsame⟩ := X60.leave (v := some (.int v59)) (fun h => by rw [Bd.returns] at h; cases h)
  refine ⟨_, _, fin _ (pre60 _ ?_), hrun, hended, _, _, rfl, ?_, ⟨_, rfl⟩, hW, hsame.mono (by decide) (by decide)⟩
  · show Steps p.tables e below (T60.setTop (mkF m 167 #[.val (.int p0), .val (.int p1), .val (.int p2), .val (.int p3), .val (.int p4), .val (.int p5), .val (.int v2), .val (.int v5), .val (.int v8), .val (.int v11), .val (.int v14), .val (.int v20), .val (.double v23), .second, .val (.double v26), .second, .val (.ref b28), .val (.int v38), .val (.long v44), .second, .val (.long v47), .second, .val (.int v53)] [(.int v59)])) _
    have hnar : nar .boolean v59 = v59 := by subst hv2 hv5 hv8 hv11 hv14 hv20 hv23 hv26 hv38 hv44 hv47 hv53 hv59; first | rfl | (split <;> rfl) | ((try simp only []); (repeat' split) <;> rfl)
    exact retN X60 hx (t := .boolean) Bd.returns (by simp) (hb hby at_167) (by rw [hnar]; exact hr)
  · show Q0 Z p0 p1 p2 p3 p4 p5 h0 n0 _ T60.heap _
    rw [e60]
    exact ⟨(by subst hv2 hv5 hv8 hv11 hv14 hv20 hv23 hv26 hv38 hv44 hv47 hv53 hv59; first | rfl | simp only [own_f0]), N60⟩
theorem own_freq {sc v : UInt64} {s : Bool} {S A : Nat} (h1 : own_D sc false S 2) (h2 : own_D v s A 3) (hS : S ≤ 4096) (hA : A ≤ 8388608) :
    (if (cmpValue (FP.dcmp (FP.dmul sc v) FP.dconst1) .l) < (0 : Int32) then (0 : Int32) else (FP.d2i (FP.dmul sc v))).toInt = if s = true then 0 else ((S * A / 32 : Nat) : Int) := by
  have h := own_mul h1 h2 (by omega) (by omega) (by decide) (by decide)
  rw [Bool.false_bne] at h
  have hb : S * A ≤ 34359738368 := Nat.mul_le_mul hS hA
  generalize S * A = N at *
  generalize FP.dmul sc v = x at *
  have e5 : (2 + 3 : Nat) = 5 := rfl
  rw [e5] at h
  rw [own_cmp h (by omega) (by decide) (Y := ((2 ^ 1074 : Nat) : Int)) (by decide +kernel) (by decide +kernel)]
  have hz := own_z h (by omega) (by decide)
  have hno := own_no h (by omega) (by decide)
  have eM : 2 ^ 1074 = 32 * 2 ^ (1074 - 5) := by rw [show (32 : Nat) = 2 ^ 5 by decide, ← Nat.pow_add]
  have pM : 0 < 2 ^ (1074 - 5) := Nat.two_pow_pos _
  have hd := FP.Core.d2i_val hno
  rw [hz.1, hz.2] at hd
  have e1 : FP.Core.one64 = 32 * 2 ^ (1074 - 5) := eM
  rw [e1] at hd
  rw [eM]
  clear hz e1 eM
  generalize 2 ^ (1074 - 5) = M at *
  cases s with
  | true =>
    clear hd hno h h1 h2
    have q : FP.Core.signed true (N * M) < ((32 * M : Nat) : Int) := by
      rw [show FP.Core.signed true (N * M) = -((N * M : Nat) : Int) from if_pos rfl]
      have e1 : 0 < ((32 * M : Nat) : Int) := Int.ofNat_lt.mpr (Nat.mul_pos (by decide) pM)
      have e2 : 0 ≤ ((N * M : Nat) : Int) := Int.natCast_nonneg _
      exact Int.lt_of_le_of_lt (Int.neg_nonpos_of_nonneg e2) e1
    rw [own_clt q, if_pos (by decide), if_pos rfl]
    decide
  | false =>
    rw [if_neg (show ¬ (false = true) by decide)]
    have hm : N * M / (32 * M) = N / 32 := Nat.mul_div_mul_right _ _ pM
    by_cases c : N < 32
    · have c2 : N * M < 32 * M := Nat.mul_lt_mul_of_pos_right c pM
      have q : FP.Core.signed false (N * M) < ((32 * M : Nat) : Int) := by
        show ((N * M : Nat) : Int) < ((32 * M : Nat) : Int)
        generalize N * M = K at *
        omega
      rw [own_clt q, if_pos (by decide), Nat.div_eq_of_lt c]
      decide
    · have c2 : 32 * M ≤ N * M := Nat.mul_le_mul_right _ (by omega)
      have q : ((32 * M : Nat) : Int) ≤ FP.Core.signed false (N * M) := by
        show ((32 * M : Nat) : Int) ≤ ((N * M : Nat) : Int)
        generalize N * M = K at *
        omega
      rw [if_neg (own_cge q .l)]
      rw [hm] at hd
      have hd2 : (FP.d2i x).toInt = max (-2 ^ 31) (min (2 ^ 31 - 1) ((N / 32 : Nat) : Int)) := hd
      rw [hd2]
      have hb2 : N / 32 ≤ 1073741824 := by omega
      clear hd hd2 hm
      generalize N / 32 = w at *
      omega
theorem own_law (a b c d e f : Int32) : own_f0 a b c d e f = 1 := by
  unfold own_f0 own_f5
  simp only []
  have hS := own_rs c
  have hA := own_ra d
  generalize (1 : Int32) + (c &&& (4095 : Int32)) = S at *
  generalize ((d &&& (16777215 : Int32)) - (8388608 : Int32)) = A at *
  generalize (1 : Int32) + (a &&& (255 : Int32)) = D at *
  generalize ((e &&& (2147483647 : Int32)) % ((2 : Int32) * D)) = N at *
  have h1 := own_scale S hS
  have h2 := own_value A hA
  generalize FP.ddiv (FP.i2d S) (4616189618054758400 : UInt64) = sc at *
  generalize FP.ddiv (FP.i2d A) (4620693217682128896 : UInt64) = v at *
  have key : ∀ (w : UInt64) (s : Bool) (g : Int64), own_D w s A.toInt.natAbs 3 → g.toInt = (if s = true then -(A.toInt.natAbs : Int) else A.toInt.natAbs) →
      (if (if (cmpValue (FP.dcmp (FP.dmul sc w) FP.dconst1) .l) < (0 : Int32) then (0 : Int32) else (FP.d2i (FP.dmul sc w))) = (if (S.toInt64 * g) < (32 : Int64) then (0 : Int32) else (((S.toInt64 * g) >>> ((5 : Int32) &&& 0x3f).toInt64).toInt32)) then (1 : Int32) else (0 : Int32)) = 1 := by
    intro w s g hw hg
    rw [if_pos]
    have hS2 : S.toInt.natAbs ≤ 4096 := by omega
    have hA2 : A.toInt.natAbs ≤ 8388608 := by omega
    rw [← Int32.toInt_inj, own_freq h1 hw hS2 hA2]
    have m1 := c_lmul S.toInt64 g
    have m2 := rng64 (S.toInt64 * g)
    rw [c_i2l] at m1
    obtain ⟨T, hT⟩ : ∃ T : Nat, S.toInt = T := ⟨S.toInt.toNat, by omega⟩
    have hTn : S.toInt.natAbs = T := by omega
    rw [hT] at m1
    rw [hTn]
    have hT2 : T ≤ 4096 := by omega
    have hb : T * A.toInt.natAbs ≤ 34359738368 := Nat.mul_le_mul hT2 hA2
    have e32 : (32 : Int64).toInt = 32 := by decide
    have sh := c_lshr (S.toInt64 * g) 5 5 (by decide)
    have e5 : ((2 ^ 5 : Nat) : Int) = 32 := by decide
    rw [e5] at sh
    have tr := c_l2i ((S.toInt64 * g) >>> ((5 : Int32) &&& 0x3f).toInt64)
    have tr2 := rng32 (((S.toInt64 * g) >>> ((5 : Int32) &&& 0x3f).toInt64).toInt32)
    generalize (((S.toInt64 * g) >>> ((5 : Int32) &&& 0x3f).toInt64)) = z at *
    generalize S.toInt64 * g = p at *
    generalize A.toInt.natAbs = B at *
    cases s with
    | true =>
      simp only [if_true] at hg ⊢
      rw [hg] at m1
      have e1 : (T : Int) * -(B : Int) = -((T * B : Nat) : Int) := by rw [Int.mul_neg]; norm_cast
      rw [e1] at m1
      generalize T * B = N at *
      have q : p < (32 : Int64) := by rw [Int64.lt_iff_toInt_lt]; omega
      rw [if_pos q]
      rfl
    | false =>
      simp only [Bool.false_eq_true, if_false] at hg ⊢
      rw [hg] at m1
      have e1 : (T : Int) * (B : Int) = ((T * B : Nat) : Int) := by norm_cast
      rw [e1] at m1
      generalize T * B = N at *
      by_cases q : p < (32 : Int64)
      · rw [if_pos q]
        rw [Int64.lt_iff_toInt_lt] at q
        have e0 : (0 : Int32).toInt = 0 := by decide
        omega
      · rw [if_neg q]
        rw [Int64.lt_iff_toInt_lt] at q
        omega
  by_cases c : N < D
  · simp only [c, if_true]
    refine key v (decide (A.toInt < 0)) A.toInt64 h2 ?_
    rw [c_i2l]
    by_cases q : A.toInt < 0
    · rw [decide_eq_true q, if_pos rfl]
      omega
    · rw [decide_eq_false q, if_neg (by decide)]
      omega
  · simp only [c, if_false]
    refine key (FP.dneg v) (!(decide (A.toInt < 0))) (-A.toInt64) (own_ng h2 (by omega) (by decide)) ?_
    have n1 := c_lneg A.toInt64
    have n2 := rng64 (-A.toInt64)
    rw [c_i2l] at n1
    by_cases q : A.toInt < 0
    · rw [decide_eq_true q, if_neg (by decide)]
      omega
    · rw [decide_eq_false q, if_pos (by decide)]
      omega
set_option maxRecDepth 65536 in
set_option maxHeartbeats 40000000 in
theorem comes_1 {Post : Tables → Env → Array Value → State → Outcome → State → Prop} (hpost : ∀ tb e args s v u, (limb_1_1.after args s (.returned v) u = true ∧ limb_1_2.after args s (.returned v) u = true ∧ True) → FrameEnd s (.returned v) u (Jvm.fieldLocs frame_1_writes args s ++ Jvm.arrayLocs frame_1_arrays args s ++ Jvm.staticLocs frame_1_statics s) 16 128 → Post tb e args s (.returned v) u) :
    ArmFor flags0 classFile x code maxLocals ret World_1 tables_1 room_1 Calls_1 rest_1 Pre_1 Post := by
  intro l hfl _ _ p e ha hc hk s m args below hf hA hF happ hP
  obtain ⟨hcalls, hrest, hpre⟩ := hP
  obtain ⟨-, -, -, hnamed, -, -, -, hat⟩ := (Spec.applies_iff hf).mp happ
  obtain ⟨hg, hn⟩ := and_e (Cond.before_iff.mp (show (Jvm.Cond.and given_1 narrow_1).before args s = true from hpre))
  obtain ⟨hg1, hg2⟩ := and_e hg
  obtain ⟨hg3, hg4⟩ := and_e hg2
  obtain ⟨hg5, hg6⟩ := and_e hg4
  obtain ⟨hg7, hg8⟩ := and_e hg6
  obtain ⟨hg9, hg10⟩ := and_e hg8
  obtain ⟨hg11, hg12⟩ := and_e hg10
  obtain ⟨w0, w1, w2, w3, w4, w5, rfl⟩ : ∃ w0 w1 w2 w3 w4 w5 : Value, args = #[w0, w1, w2, w3, w4, w5] := by
    have hs : args.size = 6 := by simpa [Cond.value, given_1] using hg1
    obtain ⟨L⟩ := args
    match L, hs with
    | [w0, w1, w2, w3, w4, w5], _ => exact ⟨w0, w1, w2, w3, w4, w5, rfl⟩
  have hw := fun d (hd : d ∈ tables_1) => atoms_spec (ws := Jvm.Cond.code x code maxLocals ret :: tables_1) hat d (List.mem_cons_of_mem _ hd)
  have hfit : Fit s := fun {y c} hc i hi => by
    obtain ⟨ha, rfl⟩ := Array.getElem?_eq_some_iff.mp hc
    have q := List.all_eq_true.mp ((Array.all_eq_true_iff_forall_mem.mp hF) _ (Array.getElem_mem ha)) i (List.mem_range.mpr hi)
    simpa [Array.getElem?_eq_getElem hi] using q
  obtain ⟨i0, ei0⟩ := is_v hg3
  obtain rfl : w0 = (.int i0) := Option.some.inj ei0
  obtain ⟨i1, ei1⟩ := is_v hg5
  obtain rfl : w1 = (.int i1) := Option.some.inj ei1
  obtain ⟨i2, ei2⟩ := is_v hg7
  obtain rfl : w2 = (.int i2) := Option.some.inj ei2
  obtain ⟨i3, ei3⟩ := is_v hg9
  obtain rfl : w3 = (.int i3) := Option.some.inj ei3
  obtain ⟨i4, ei4⟩ := is_v hg11
  obtain rfl : w4 = (.int i4) := Option.some.inj ei4
  obtain ⟨i5, ei5⟩ := is_v hg12
  obtain rfl : w5 = (.int i5) := Option.some.inj ei5
  obtain ⟨n, o, h1, h2, h3, _, L, rfl, ⟨rfl, N⟩, hq⟩ := rm0 l s _ hw tables_1 i0 i1 i2 i3 i4 i5 s.heap s.heap.size (Nat.le_refl _) p e ha hc hk s m _ below hf ((Spec.applies_iff_loose hf).mp happ).1 ⟨rfl, State.Warmed39.refl s, rfl⟩ trivial
  refine ⟨n, _, h1, h2, h3, hpost _ _ _ _ _ _ ⟨Cond.after_iff.mpr rfl, Cond.after_iff.mpr (eq_i res_at (Term.int_eval (1)) (by rw [own_law])), trivial⟩ ⟨hq.1, hq.2.1, (hq.2.2.sift fun y hy => Or.inr (N y hy)).mono (by decide) (by decide)⟩⟩
theorem main_1_1 : Claimed_1_1 := comes_1 fun _ _ _ _ _ _ h hF => ⟨h.1, hF⟩
theorem main_1_2 : Claimed_1_2 := comes_1 fun _ _ _ _ _ _ h hF => ⟨h.2.1, hF⟩
end Jvm.Pilot.@@N@@
namespace Jvm.Pilot.@@N@@
open Jvm Jvm.ClassFile Sem Op Lib Jvm.Free Jvm.Stand Jvm.Pilot.@@N@@.Jvm.D
/-! MADE BY PROGRAM (witnessworld.py) out of the Statement's table words and the real class files: 10 classes; the members and pool entries that the words name. The judged class is class 1, her method 1. -/
namespace start1
open Jvm.ClassFile
def u (s : String) : CpInfo := .utf8 (stringToUtf16 s)
/-- a pool by its gaps: so many unusable entries, then the entry; so many at the end -/
def gap : Nat → List CpInfo → List CpInfo
  | 0, r => r
  | n + 1, r => .unusable :: gap n r
def poolList (es : List (Nat × CpInfo)) (last : Nat) : List CpInfo := es.foldr (fun e r => gap e.1 (e.2 :: r)) (gap last [])
def pool (es : List (Nat × CpInfo)) (last : Nat) : Array CpInfo := ⟨poolList es last⟩
def fileOf (pool : Array CpInfo) (this : Nat) (attrs : Array Attribute := #[]) (ms : Array MethodInfo := #[]) (fl : Nat := 33) (sup : Nat := 0) (ifs : Array Nat := #[]) (fds : Array FieldInfo := #[]) : ClassFile where
  minorVersion := 0
  majorVersion := 65
  constantPool := pool
  accessFlags := fl
  thisClass := this
  superClass := sup
  interfaces := ifs
  fields := fds
  methods := ms
  attributes := attrs
def plain (name : String) (sup : Option ClassId) : Class where
  name := name
  kind := .ordinary
  loader := none
  accessFlags := 33
  super := sup
  interfaces := #[]
  cf := none
  fields := #[]
  methods := #[]
  instanceTypes := #[]
  staticTypes := #[]
  resolved := #[]
  callSites := []
  init := .initialized
  statics := none
  mirror := none

def pool0 : Array CpInfo := pool [(5, u "<init>"), (0, u "()V"), (1, .class_ 10), (1, u "java/lang/Object")] 113

def k0c0 : Code := { maxStack := 0, maxLocals := 1, code := object_method_1_code, exceptionTable := #[], attributes := #[] }
def k0m0 : Method := { name := "<init>", desc := "()V", sig := { parameters := [], returnType := none }, accessFlags := 1, code := some k0c0 }
/-- java/lang/Object -/
def k0 : Class := { plain "java/lang/Object" none with
  accessFlags := 33
  interfaces := #[]
  cf := some (fileOf pool0 8 #[] #[{ accessFlags := 1, nameIndex := 5, descriptorIndex := 6, attributes := #[] }] 33 0 #[] #[])
  fields := #[]
  methods := #[k0m0]
  instanceTypes := #[]
  staticTypes := #[]
  resolved := Array.replicate 124 none
  statics := none }

def pool1 : Array CpInfo := pool [(2, .class_ 4), (1, u "java/lang/Object"), (0, u "<init>"), (0, u "()V"), (0, .integer 16777215), (0, .integer 8388608), (0, .integer 2147483647), (0, .double 4616189618054758400), (1, .double 4620693217682128896), (1, .class_ 15), (0, u "com/example/lexivec/lexivec/core/ScalarQuantizer"), (0, .methodref 14 17), (0, .nameAndType 5 18), (0, u "(IIDZ)V"), (0, .methodref 14 20), (0, .nameAndType 21 22), (0, u "frequency"), (0, u "(DI)I"), (0, .long 32), (1, .class_ 26), (0, u "com/example/lexivec/lexivec/core/ScalarQuantizerFrequencyPinLaw"), (2, u "law"), (0, u "(IIIIII)Z")] 3

def k1m0 : Method := { name := "<init>", desc := "()V", sig := { parameters := [], returnType := none }, accessFlags := 2, code := none }
def k1c1 : Code := { maxStack := 7, maxLocals := 23, code := code, exceptionTable := #[], attributes := #[] }
def k1m1 : Method := { name := "law", desc := "(IIIIII)Z", sig := { parameters := [.int, .int, .int, .int, .int, .int], returnType := some .boolean }, accessFlags := 9, code := some k1c1 }
/-- com/example/lexivec/lexivec/core/ScalarQuantizerFrequencyPinLaw -/
def k1 : Class := { plain "com/example/lexivec/lexivec/core/ScalarQuantizerFrequencyPinLaw" (some 0) with
  accessFlags := 49
  interfaces := #[]
  cf := some (fileOf pool1 25 #[] #[{ accessFlags := 2, nameIndex := 5, descriptorIndex := 6, attributes := #[] }, { accessFlags := 9, nameIndex := 29, descriptorIndex := 30, attributes := #[] }] 49 2 #[] #[])
  fields := #[]
  methods := #[k1m0, k1m1]
  instanceTypes := #[]
  staticTypes := #[]
  resolved := Array.replicate 34 none
  statics := none }

def pool2 : Array CpInfo := pool [(1, .methodref 2 3), (0, .class_ 4), (0, .nameAndType 5 6), (0, u "com/example/lexivec/lexivec/core/ScalarQuantizer"), (0, u "<init>"), (0, u "(ILcom/example/lexivec/lexivec/core/RandomExpansion;Lcom/example/lexivec/lexivec/core/Cells;IDZ)V"), (4, u "dimension"), (1, .methodref 14 15), (0, .class_ 16), (0, .nameAndType 5 17), (0, u "java/lang/Object"), (0, u "()V"), (0, .class_ 19), (0, u "java/util/concurrent/atomic/AtomicReference"), (0, .methodref 18 15), (0, .fieldref 2 22), (0, .nameAndType 23 24), (0, u "spare"), (0, u "Ljava/util/concurrent/atomic/AtomicReference;"), (2, .double 9218868437227405312), (10, .fieldref 2 39), (0, .nameAndType 11 40), (0, u "I"), (0, .fieldref 2 42), (0, .nameAndType 43 44), (0, u "expansion"), (0, u "Lcom/example/lexivec/lexivec/core/RandomExpansion;"), (0, .fieldref 2 46), (0, .nameAndType 47 48), (0, u "cells"), (0, u "Lcom/example/lexivec/lexivec/core/Cells;"), (2, u "components"), (0, .fieldref 2 53), (0, .nameAndType 51 40), (0, .fieldref 2 55), (0, .nameAndType 56 40), (0, u "keep"), (0, .fieldref 2 58), (0, .nameAndType 59 60), (0, u "scale"), (0, u "D"), (0, .fieldref 2 62), (0, .nameAndType 63 64), (0, u "normalizes"), (0, u "Z"), (65, u "frequency"), (0, u "(DI)I"), (30, .class_ 164), (1, u "com/example/lexivec/lexivec/core/ScalarQuantizer$Scratch"), (82, u "DEFAULT_SCALE"), (3, u "DOUBT"), (2, u "(IIDZ)V")] 51

def k2c0 : Code := { maxStack := 8, maxLocals := 6, code := prog_29_method_1_code, exceptionTable := #[], attributes := #[] }
def k2m0 : Method := { name := "<init>", desc := "(IIDZ)V", sig := { parameters := [.int, .int, .double, .boolean], returnType := none }, accessFlags := 1, code := some k2c0 }
def k2c1 : Code := { maxStack := 6, maxLocals := 8, code := prog_29_method_3_code, exceptionTable := #[], attributes := #[] }
def k2m1 : Method := { name := "<init>", desc := "(ILcom/example/lexivec/lexivec/core/RandomExpansion;Lcom/example/lexivec/lexivec/core/Cells;IDZ)V", sig := { parameters := [.int, (.object "com/example/lexivec/lexivec/core/RandomExpansion"), (.object "com/example/lexivec/lexivec/core/Cells"), .int, .double, .boolean], returnType := none }, accessFlags := 2, code := some k2c1 }
def k2c2 : Code := { maxStack := 4, maxLocals := 6, code := prog_29_method_19_code, exceptionTable := #[], attributes := #[] }
def k2m2 : Method := { name := "frequency", desc := "(DI)I", sig := { parameters := [.double, .int], returnType := some .int }, accessFlags := 1, code := some k2c2 }
/-- com/example/lexivec/lexivec/core/ScalarQuantizer -/
def k2 : Class := { plain "com/example/lexivec/lexivec/core/ScalarQuantizer" (some 0) with
  accessFlags := 49
  interfaces := #[]
  cf := some (fileOf pool2 2 #[.nestMembers #[162]] #[{ accessFlags := 1, nameIndex := 5, descriptorIndex := 254, attributes := #[] }, { accessFlags := 2, nameIndex := 5, descriptorIndex := 6, attributes := #[] }, { accessFlags := 1, nameIndex := 130, descriptorIndex := 131, attributes := #[] }] 49 14 #[] #[{ accessFlags := 25, nameIndex := 247, descriptorIndex := 60, attributes := #[] }, { accessFlags := 26, nameIndex := 251, descriptorIndex := 60, attributes := #[] }, { accessFlags := 18, nameIndex := 11, descriptorIndex := 40, attributes := #[] }, { accessFlags := 18, nameIndex := 43, descriptorIndex := 44, attributes := #[] }, { accessFlags := 18, nameIndex := 47, descriptorIndex := 48, attributes := #[] }, { accessFlags := 18, nameIndex := 51, descriptorIndex := 40, attributes := #[] }, { accessFlags := 18, nameIndex := 56, descriptorIndex := 40, attributes := #[] }, { accessFlags := 18, nameIndex := 59, descriptorIndex := 60, attributes := #[] }, { accessFlags := 18, nameIndex := 63, descriptorIndex := 64, attributes := #[] }, { accessFlags := 18, nameIndex := 23, descriptorIndex := 24, attributes := #[] }])
  fields := #[{ name := "DEFAULT_SCALE", type := .double, accessFlags := 25, slot := 0, constantValue := 0 }, { name := "DOUBT", type := .double, accessFlags := 26, slot := 1, constantValue := 0 }, { name := "dimension", type := .int, accessFlags := 18, slot := 0, constantValue := 0 }, { name := "expansion", type := (.object "com/example/lexivec/lexivec/core/RandomExpansion"), accessFlags := 18, slot := 1, constantValue := 0 }, { name := "cells", type := (.object "com/example/lexivec/lexivec/core/Cells"), accessFlags := 18, slot := 2, constantValue := 0 }, { name := "components", type := .int, accessFlags := 18, slot := 3, constantValue := 0 }, { name := "keep", type := .int, accessFlags := 18, slot := 4, constantValue := 0 }, { name := "scale", type := .double, accessFlags := 18, slot := 5, constantValue := 0 }, { name := "normalizes", type := .boolean, accessFlags := 18, slot := 6, constantValue := 0 }, { name := "spare", type := (.object "java/util/concurrent/atomic/AtomicReference"), accessFlags := 18, slot := 7, constantValue := 0 }]
  methods := #[k2m0, k2m1, k2m2]
  instanceTypes := #[.int, (.object "com/example/lexivec/lexivec/core/RandomExpansion"), (.object "com/example/lexivec/lexivec/core/Cells"), .int, .int, .double, .boolean, (.object "java/util/concurrent/atomic/AtomicReference")]
  staticTypes := #[.double, .double]
  resolved := Array.replicate 306 none
  statics := none }

def pool3 : Array CpInfo := pool [(1, .class_ 2), (0, u "java/io/Serializable"), (0, .class_ 4), (0, u "java/lang/Object")] 2

/-- java/io/Serializable -/
def k3 : Class := { plain "java/io/Serializable" (some 0) with
  accessFlags := 1537
  interfaces := #[]
  cf := some (fileOf pool3 1 #[] #[] 1537 3 #[] #[])
  fields := #[]
  methods := #[]
  instanceTypes := #[]
  staticTypes := #[]
  resolved := Array.replicate 7 none
  statics := none }

def pool4 : Array CpInfo := pool [(1, .methodref 2 3), (0, .class_ 4), (0, .nameAndType 5 6), (0, u "java/lang/Object"), (0, u "<init>"), (0, u "()V"), (1, .class_ 10), (1, u "java/util/concurrent/atomic/AtomicReference"), (0, u "value"), (0, u "Ljava/lang/Object;"), (2, u "VALUE"), (0, u "Ljava/lang/invoke/VarHandle;"), (96, .class_ 114), (0, u "java/io/Serializable"), (0, u "serialVersionUID"), (0, u "J")] 61

def k4c0 : Code := { maxStack := 1, maxLocals := 1, code := jdk_2809_method_2_code, exceptionTable := #[], attributes := #[] }
def k4m0 : Method := { name := "<init>", desc := "()V", sig := { parameters := [], returnType := none }, accessFlags := 1, code := some k4c0 }
/-- java/util/concurrent/atomic/AtomicReference -/
def k4 : Class := { plain "java/util/concurrent/atomic/AtomicReference" (some 0) with
  accessFlags := 33
  interfaces := #[3]
  cf := some (fileOf pool4 8 #[] #[{ accessFlags := 1, nameIndex := 5, descriptorIndex := 6, attributes := #[] }] 33 2 #[113] #[{ accessFlags := 26, nameIndex := 115, descriptorIndex := 116, attributes := #[] }, { accessFlags := 26, nameIndex := 15, descriptorIndex := 16, attributes := #[] }, { accessFlags := 66, nameIndex := 11, descriptorIndex := 12, attributes := #[] }])
  fields := #[{ name := "serialVersionUID", type := .long, accessFlags := 26, slot := 0, constantValue := 0 }, { name := "VALUE", type := (.object "java/lang/invoke/VarHandle"), accessFlags := 26, slot := 1, constantValue := 0 }, { name := "value", type := (.object "java/lang/Object"), accessFlags := 66, slot := 0, constantValue := 0 }]
  methods := #[k4m0]
  instanceTypes := #[(.object "java/lang/Object")]
  staticTypes := #[.long, (.object "java/lang/invoke/VarHandle")]
  resolved := Array.replicate 178 none
  statics := none }

def pool5 : Array CpInfo := pool [(1, u "java/lang/Cloneable"), (0, .class_ 1), (0, u "java/lang/Object"), (0, .class_ 3)] 3

/-- java/lang/Cloneable -/
def k5 : Class := { plain "java/lang/Cloneable" (some 0) with
  accessFlags := 1537
  interfaces := #[]
  cf := some (fileOf pool5 2 #[] #[] 1537 4 #[] #[])
  fields := #[]
  methods := #[]
  instanceTypes := #[]
  staticTypes := #[]
  resolved := Array.replicate 8 none
  statics := none }

/-- the primitive byte -/
def k6 : Class := { plain "byte" none with kind := .primitive 'B', accessFlags := 0x411 }
/-- [B -/
def k7 : Class := { plain "[B" (some 0) with kind := .array 6 .byte, interfaces := #[5, 3], accessFlags := 1041 }

/-- the primitive int -/
def k8 : Class := { plain "int" none with kind := .primitive 'I', accessFlags := 0x411 }
/-- [I -/
def k9 : Class := { plain "[I" (some 0) with kind := .array 8 .int, interfaces := #[5, 3], accessFlags := 1041 }

def heap : Heap := #[]
def classes : Array Class := #[k0, k1, k2, k3, k4, k5, k6, k7, k8, k9]
def interned : List (Array UInt16 × Addr) := []
def slotsUsed : Nat := 0
def theMethod : MethodId := ⟨1, 1⟩
def args0 : Array Value := #[.int 5, .int 7, .int 3, .int 0, .int 9, .int 1]
def aboutOver (below : List Frame) : State where
  vm := { classes := classes, interned := interned.toArray }
  heap := heap
  slotsUsed := slotsUsed
  threads := #[{ frames := .invoking theMethod args0 :: below }]
def below0 : List Frame := [.native { method := ⟨0, 0⟩, args := #[] }]
def about1 : State := aboutOver below0
def p0 : Program := .bare "" "" ""
def e0 : Env := launch0.env 0 0 0
theorem w_frames : about1.frames = Frame.invoking theMethod args0 :: below0 := rfl
set_option maxRecDepth 65536 in
theorem w_args : argsFit about1.vm theMethod args0 = true := by decide +kernel
set_option maxRecDepth 65536 in
theorem w_heap : heapFits about1 = true := by decide +kernel
set_option maxRecDepth 65536 in
theorem w_runnable : about1.curStatus? = some .runnable := by decide +kernel
set_option maxRecDepth 65536 in
theorem w_alone : about1.alone = true := by decide +kernel
set_option maxRecDepth 65536 in
theorem w_named : about1.methodNamed? x = some theMethod := by decide +kernel
set_option maxRecDepth 65536 in
theorem w_hears : about1.hears theMethod below0 = true := by decide +kernel
set_option maxRecDepth 65536 in
theorem w_ripe : about1.ripe theMethod args0 below0 = true := by decide +kernel
theorem w_running : about1.status = .running := rfl
set_option maxRecDepth 65536 in
theorem w_room : about1.hasRoom e0.platform room_1 = true :=
  launch0.hasRoom_least _ room_1 (by decide +kernel) (by decide +kernel) (by decide +kernel) (by decide +kernel) (by decide +kernel) (by decide +kernel)
theorem allAtoms_all (ts : List Jvm.Cond) (a : Array Jvm.Value) (st : Jvm.State) : (allAtoms ts).before a st = ts.all (fun c => c.before a st) := by
  induction ts with
  | nil => rfl
  | cons c t ih =>
    show (Jvm.Cond.and c (allAtoms t)).before a st = _
    rw [Jvm.Cond.before_and, ih, List.all_cons]
def words1 : List Jvm.Cond := Jvm.Cond.code x code maxLocals ret :: tables_1
/-- a 'code' word, met by the world's own term for the bytes: nothing is compared byte by byte -/
theorem code_word {y : MethodName} {bytes : ByteArray} {mx : Nat} {rt : Option FieldType} {a : Array Value} {s : State} {m : MethodId} {meth : Method} {c : Code} (h1 : s.methodNamed? y = some m) (h2 : s.vm.method? m = some meth) (h3 : meth.code = some c) (h4 : c.code = bytes)
    (h5 : (c.maxLocals == mx && c.exceptionTable.isEmpty && decide (c.maxStack ≤ mostOperands) && decide (meth.sig.returnType = rt) && !meth.locks && decide (parseMethodDescriptor y.desc = some meth.sig)) = true) : (Jvm.Cond.code y bytes mx rt).before a s = true := by
  simp only [Bool.and_eq_true, beq_iff_eq, Bool.not_eq_true', decide_eq_true_eq] at h5
  obtain ⟨⟨⟨⟨⟨g1, g2⟩, g3⟩, g4⟩, g5⟩, g6⟩ := h5
  simp [Cond.before, Cond.holds, Cond.value, h1, h2, h3, h4, g1, g2, g3, g4, g5, g6]
def isCode : Jvm.Cond → Bool
  | .code _ _ _ _ => true
  | _ => false
theorem all_split {L : List Jvm.Cond} {P : Jvm.Cond → Bool} (h1 : L.all (fun c => isCode c || P c) = true) (h2 : ∀ c ∈ L.filter isCode, P c = true) : L.all P = true := by
  refine List.all_eq_true.mpr fun c hc => ?_
  have h := List.all_eq_true.mp h1 c hc
  rcases Bool.eq_false_or_eq_true (isCode c) with hi | hi
  · exact h2 c (List.mem_filter.mpr ⟨hc, hi⟩)
  · simpa [hi] using h
set_option maxRecDepth 65536 in
theorem w_c0 : (Jvm.Cond.code x code maxLocals ret).before args0 about1 = true := code_word (m := ⟨1, 1⟩) (meth := k1m1) (c := k1c1) (by decide +kernel) rfl rfl rfl (by decide +kernel)
set_option maxRecDepth 65536 in
theorem w_c1 : (Jvm.Cond.code ({ cls := "com/example/lexivec/lexivec/core/ScalarQuantizer", name := "<init>", desc := "(IIDZ)V" } : Jvm.MethodName) prog_29_method_1_code (6 : Nat) (Option.none : Option Jvm.ClassFile.FieldType)).before args0 about1 = true := code_word (m := ⟨2, 0⟩) (meth := k2m0) (c := k2c0) (by decide +kernel) rfl rfl rfl (by decide +kernel)
set_option maxRecDepth 65536 in
theorem w_c2 : (Jvm.Cond.code ({ cls := "com/example/lexivec/lexivec/core/ScalarQuantizer", name := "<init>", desc := "(ILcom/example/lexivec/lexivec/core/RandomExpansion;Lcom/example/lexivec/lexivec/core/Cells;IDZ)V" } : Jvm.MethodName) prog_29_method_3_code (8 : Nat) (Option.none : Option Jvm.ClassFile.FieldType)).before args0 about1 = true := code_word (m := ⟨2, 1⟩) (meth := k2m1) (c := k2c1) (by decide +kernel) rfl rfl rfl (by decide +kernel)
set_option maxRecDepth 65536 in
theorem w_c3 : (Jvm.Cond.code ({ cls := "java/lang/Object", name := "<init>", desc := "()V" } : Jvm.MethodName) object_method_1_code (1 : Nat) (Option.none : Option Jvm.ClassFile.FieldType)).before args0 about1 = true := code_word (m := ⟨0, 0⟩) (meth := k0m0) (c := k0c0) (by decide +kernel) rfl rfl rfl (by decide +kernel)
set_option maxRecDepth 65536 in
theorem w_c4 : (Jvm.Cond.code ({ cls := "java/util/concurrent/atomic/AtomicReference", name := "<init>", desc := "()V" } : Jvm.MethodName) jdk_2809_method_2_code (1 : Nat) (Option.none : Option Jvm.ClassFile.FieldType)).before args0 about1 = true := code_word (m := ⟨4, 0⟩) (meth := k4m0) (c := k4c0) (by decide +kernel) rfl rfl rfl (by decide +kernel)
set_option maxRecDepth 65536 in
theorem w_c5 : (Jvm.Cond.code ({ cls := "com/example/lexivec/lexivec/core/ScalarQuantizer", name := "frequency", desc := "(DI)I" } : Jvm.MethodName) prog_29_method_19_code (6 : Nat) (Option.some Jvm.ClassFile.FieldType.int)).before args0 about1 = true := code_word (m := ⟨2, 2⟩) (meth := k2m2) (c := k2c2) (by decide +kernel) rfl rfl rfl (by decide +kernel)
def codes1 : List Jvm.Cond := [Jvm.Cond.code x code maxLocals ret, Jvm.Cond.code ({ cls := "com/example/lexivec/lexivec/core/ScalarQuantizer", name := "<init>", desc := "(IIDZ)V" } : Jvm.MethodName) prog_29_method_1_code (6 : Nat) (Option.none : Option Jvm.ClassFile.FieldType), Jvm.Cond.code ({ cls := "com/example/lexivec/lexivec/core/ScalarQuantizer", name := "<init>", desc := "(ILcom/example/lexivec/lexivec/core/RandomExpansion;Lcom/example/lexivec/lexivec/core/Cells;IDZ)V" } : Jvm.MethodName) prog_29_method_3_code (8 : Nat) (Option.none : Option Jvm.ClassFile.FieldType), Jvm.Cond.code ({ cls := "java/lang/Object", name := "<init>", desc := "()V" } : Jvm.MethodName) object_method_1_code (1 : Nat) (Option.none : Option Jvm.ClassFile.FieldType), Jvm.Cond.code ({ cls := "java/util/concurrent/atomic/AtomicReference", name := "<init>", desc := "()V" } : Jvm.MethodName) jdk_2809_method_2_code (1 : Nat) (Option.none : Option Jvm.ClassFile.FieldType), Jvm.Cond.code ({ cls := "com/example/lexivec/lexivec/core/ScalarQuantizer", name := "frequency", desc := "(DI)I" } : Jvm.MethodName) prog_29_method_19_code (6 : Nat) (Option.some Jvm.ClassFile.FieldType.int)]
set_option maxRecDepth 65536 in
theorem codes_eq : words1.filter isCode = codes1 := rfl
theorem w_codes : ∀ c ∈ words1.filter isCode, c.before args0 about1 = true := by
  rw [codes_eq]
  intro c hc
  simp only [codes1, List.mem_cons, List.not_mem_nil, or_false] at hc
  rcases hc with rfl | rfl | rfl | rfl | rfl | rfl
  · exact w_c0
  · exact w_c1
  · exact w_c2
  · exact w_c3
  · exact w_c4
  · exact w_c5
set_option maxRecDepth 65536 in
theorem w_t1 : (words1.take 24).all (fun c => isCode c || c.before args0 about1) = true := by decide +kernel
set_option maxRecDepth 65536 in
theorem w_t2 : (words1.drop 24).all (fun c => isCode c || c.before args0 about1) = true := by decide +kernel
theorem w_tables : (allAtoms (Jvm.Cond.code x code maxLocals ret :: tables_1)).before args0 about1 = true := by
  rw [allAtoms_all]
  show words1.all (fun c => c.before args0 about1) = true
  refine all_split ?_ w_codes
  rw [← List.take_append_drop 24 words1, List.all_append, w_t1, w_t2]
  rfl
set_option maxRecDepth 65536 in
theorem w_case : (Jvm.Cond.and given_1 narrow_1).before args0 about1 = true := by decide +kernel
theorem w_applies : (headSpec (Jvm.Cond.code x code maxLocals ret :: tables_1) room_1).applies x e0.platform about1 = true :=
  (Spec.applies_iff w_frames).mpr ⟨w_running, w_runnable, w_alone, w_named, w_hears, w_ripe, w_room, w_tables⟩
theorem atStart : AtStart classFile x code maxLocals ret World_1 tables_1 room_1 Calls_1 rest_1 Pre_1 launch0 p0 e0 about1 theMethod args0 below0 :=
  ⟨lists_1, trivial, launch0.admits_env _ _ _, launch0.least_env, fairChoices_fair.cas, fairChoices_fair.clock, w_frames, w_args, w_heap, w_applies, trivial, trivial, w_case⟩
end start1
theorem witness_1 : WitnessClaimed_1 := ⟨start1.p0, start1.e0, start1.about1, start1.theMethod, start1.args0, start1.below0, start1.atStart⟩
end Jvm.Pilot.@@N@@
