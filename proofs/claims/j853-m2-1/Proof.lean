import JvmDerived
import JvmDerived.Pilot.@@N@@Statement
import JvmDerived.Pilot.@@N@@Code
set_option linter.unusedVariables false
set_option linter.unusedSimpArgs false
namespace Jvm.RoadKit
open Sem ClassFile Op Lib Jvm.Stand Jvm.Free Jvm.LawKit
section New
variable {p : Program} {l : Launch} {e : Env} {R : Room} {s : State} {m : MethodId} {args : Array Value} {below : List Frame} {meth : Method} {c : Code} {T : State} {locs : List Loc} {cells slots : Nat}
theorem retI (X : Stand p l e R s m args below meth c T locs cells slots) (hx : p.tables.exec = Jvm.exec) {pc : Nat} {Ls : Array Slot} {z : Int32} {rest : List Value} (hret : meth.sig.returnType = some .int) (hd : decode c.code pc = .ok (.ireturn, 1)) {fs : List Frame}
    (hl : ∀ (f : JFrame) (acts : List Action), f.method = m → f.locked = none → f.entered = [] → (doReturn e (T.setTop f) acts (some (.int z))).1 = T.setFrames fs) : Steps p.tables e below (T.setTop (mkF m pc Ls (.int z :: rest))) (T.setFrames fs) := by
  have hm' : T.vm.method? m = some meth := X.method'
  have hn : narrow .int (.int z) = .int z := rfl
  show Steps p.tables e below (T.setTop { method := m, pc := pc, locals := Ls, stack := _ :: rest, locked := none }) _
  jvm_step X.here [X.here.top, hx, hd, hm', hret, hn]
  first | (intro acts; rw [hl _ acts rfl rfl rfl]) | rw [hl _ _ rfl rfl rfl]
  exact Steps.refl _
end New
end Jvm.RoadKit
namespace Jvm.Pilot.@@N@@
open Jvm Jvm.ClassFile Sem Op Lib Jvm.Free Jvm.Stand Jvm.LawKit Jvm.RoadKit Bundle Jvm.Pilot.@@N@@.Jvm.D
theorem own_pos (z : Int32) (h : ¬ z < 0) (h1 : ¬ z = (0 : Int32)) : (0 : Int32) < z := by
  rw [Int32.lt_iff_toInt_lt] at h ⊢
  rw [← Int32.toInt_inj] at h1
  have e0 : (0 : Int32).toInt = 0 := by decide
  omega
theorem own_last (z : Int32) (h : ¬ z < 0) (h1 : ¬ z = (0 : Int32)) : ¬ (z - (1 : Int32)) < 0 ∧ (z - (1 : Int32)) < z := by
  have h2 := own_pos z h h1
  have h3 := c_isub z 1
  have h4 := rng32 (z - 1)
  have h5 := rng32 z
  have e0 : (0 : Int32).toInt = 0 := by decide
  have e1 : (1 : Int32).toInt = 1 := by decide
  rw [Int32.lt_iff_toInt_lt] at h2
  rw [Int32.lt_iff_toInt_lt, Int32.lt_iff_toInt_lt]
  omega
theorem own_n3 (x : Int32) : ¬ (x &&& (3 : Int32)) < 0 ∧ (x &&& (3 : Int32)).toNatClampNeg ≤ 3 := by
  have h := c_mask x 3 2 (by decide) (by decide)
  have e0 : (0 : Int32).toInt = 0 := by decide
  have h2 : ¬ (x &&& (3 : Int32)) < 0 := by rw [Int32.lt_iff_toInt_lt]; omega
  have h3 := nat_of h2
  refine ⟨h2, ?_⟩
  omega
theorem d1_0 : decode jdk_29_method_69_code 0 = .ok (.iload_n 0, 1) := by decide +kernel
theorem d1_1 : decode jdk_29_method_69_code 1 = .ok (.iload_n 1, 1) := by decide +kernel
theorem d1_2 : decode jdk_29_method_69_code 2 = .ok (.if_icmp .gt 7, 3) := by decide +kernel
theorem d1_5 : decode jdk_29_method_69_code 5 = .ok (.iload_n 0, 1) := by decide +kernel
theorem d1_6 : decode jdk_29_method_69_code 6 = .ok (.goto 4, 3) := by decide +kernel
theorem d1_9 : decode jdk_29_method_69_code 9 = .ok (.iload_n 1, 1) := by decide +kernel
theorem d1_10 : decode jdk_29_method_69_code 10 = .ok (.ireturn, 1) := by decide +kernel
theorem ef_1 (m : MethodId) (p0 : Int32) (p1 : Int32) : entryFrame m #[(.int p0), (.int p1)] 2 = mkF m 0 #[.val (.int p0), .val (.int p1)] [] := by first | (simp [entryFrame, mkF, argsToLocals, Value.category]; done) | rfl
def own_f1 (p0 : Int32) (p1 : Int32) : Int32 := (if p1 < p0 then p1 else p0)
def Q1 (Z : State) (p0 : Int32) (p1 : Int32) (h0 : Heap) (n0 : Nat) (v : Option Value) (h : Heap) (L : List Loc) : Prop := v = some (.int (own_f1 p0 p1)) ∧ Fr n0 L ∧ h = h0
set_option maxRecDepth 65536 in
set_option maxHeartbeats 40000000 in
theorem rm1 (l : Launch) (Z : State) (a0 : Array Value) (hw : ∀ d ∈ tables_1, d.before a0 Z = true) (ws : List Jvm.Cond) (p0 : Int32) (p1 : Int32) (h0 : Heap) (n0 : Nat) (Z0 : n0 ≤ h0.size) :
    MetFree l (⟨"java/lang/Math", "min", "(II)I"⟩ : MethodName) (head1 (Jvm.Cond.code (⟨"java/lang/Math", "min", "(II)I"⟩ : MethodName) jdk_29_method_69_code 2 (some .int) :: ws) ({ frames := 0, cells := 0, slots := 0, locals := 0 } : Room)) (fun a U => a = #[(.int p0), (.int p1)] ∧ Z.Warmed39 U.vm ∧ U.heap = h0) (fun _ _ _ _ _ => True) (fun _ U o U' => ∃ v L, o = .returned v ∧ Q1 Z p0 p1 h0 n0 v U'.heap L ∧ FrameEnd U o U' L ({ frames := 0, cells := 0, slots := 0, locals := 0 } : Room).cells ({ frames := 0, cells := 0, slots := 0, locals := 0 } : Room).slots) := by
  refine MetFree.of_bodySF (Jvm.Free.JP.mathPlain rfl (by decide +kernel)) hisR ?_
  intro p e s m args below meth c s₁ Bd hml0 hP hK
  obtain ⟨rfl, hZ, hh⟩ := hP
  have hx := Bd.exec
  have hby := Bd.bytes
  have hml : c.maxLocals = 2 := hml0
  have hown : s.vm.findClass "java/lang/Math" = some m.cls := findClass_of_methodNamed Bd.named
  have hnm := (name_of_methodNamed Bd.named Bd.method).1
  have X0 : Stand p l e ({ frames := 0, cells := 0, slots := 0, locals := 0 } : Room) s m #[(.int p0), (.int p1)] below meth c s₁ [] 0 0 := Stand.of_body Bd
  have e0 : s₁.heap = h0 := by rw [← hh, Bd.state]; rfl
  have N0 := Fr.nil n0
  obtain ⟨P, pre0, fin⟩ : ∃ P : State → Prop, (∀ t, Steps p.tables e below (s₁.setTop (mkF m 0 #[.val (.int p0), .val (.int p1)] [])) t → P t) ∧ (∀ t, P t → Steps p.tables e below (s₁.setTop (entryFrame m #[(.int p0), (.int p1)] 2)) t) := ⟨fun t => Steps p.tables e below (s₁.setTop (entryFrame m #[(.int p0), (.int p1)] 2)) t, fun t k => castTop (ef_1 m p0 p1) k, fun t k => k⟩
  have K0 : Keep h0 h0 [] := Keep.refl _ _
  have pre1 : ∀ t, Steps p.tables e below (s₁.setTop (mkF m 2 #[.val (.int p0), .val (.int p1)] [(.int p1), (.int p0)])) t → P t := fun t k => pre0 t (by
      show Steps p.tables e below (s₁.setTop (mkF m 0 #[.val (.int p0), .val (.int p1)] [])) _
      refine XS.iloadN X0.here hx rfl (hb hby d1_0) rfl ?_
      show Steps p.tables e below (s₁.setTop (mkF m 1 #[.val (.int p0), .val (.int p1)] [(.int p0)])) _
      refine XS.iloadN X0.here hx rfl (hb hby d1_1) rfl ?_
      exact k)
  obtain ⟨T6, L6, v5, X6, e6, N6, hv5, pre6⟩ : ∃ (T' : State) (L' : List Loc) (v5 : Int32), Stand p l e ({ frames := 0, cells := 0, slots := 0, locals := 0 } : Room) s m #[(.int p0), (.int p1)] below meth c T' L' 0 0 ∧ T'.heap = h0 ∧ Fr n0 L' ∧ v5 = (if p1 < p0 then p1 else p0) ∧ (∀ t, Steps p.tables e below (T'.setTop (mkF m 10 #[.val (.int p0), .val (.int p1)] [(.int v5)])) t → P t) := by
    by_cases hc2 : p1 < p0
    · have pre3 : ∀ t, Steps p.tables e below (s₁.setTop (mkF m 10 #[.val (.int p0), .val (.int p1)] [(.int p1)])) t → P t := fun t k => pre1 t (by
          show Steps p.tables e below (s₁.setTop (mkF m 2 #[.val (.int p0), .val (.int p1)] [(.int p1), (.int p0)])) _
          refine XS.icmpYes X0.here hx rfl (pc0 := 2) (pc' := 9) rfl (hb hby d1_2) rfl (tlt hc2).2.2.1 (by decide) (by decide) ?_
          show Steps p.tables e below (s₁.setTop (mkF m 9 #[.val (.int p0), .val (.int p1)] [])) _
          refine XS.iloadN X0.here hx rfl (hb hby d1_9) rfl ?_
          exact k)
      exact ⟨_, _, p1, X0, e0, N0, (by first | (rw [if_pos hc2]; done) | simp only [if_pos hc2] | simp [if_pos hc2]), pre3⟩
    · have pre4 : ∀ t, Steps p.tables e below (s₁.setTop (mkF m 10 #[.val (.int p0), .val (.int p1)] [(.int p0)])) t → P t := fun t k => pre1 t (by
          show Steps p.tables e below (s₁.setTop (mkF m 2 #[.val (.int p0), .val (.int p1)] [(.int p1), (.int p0)])) _
          refine XS.icmpNo X0.here hx rfl (hb hby d1_2) rfl (flt hc2).2.2.1 ?_
          show Steps p.tables e below (s₁.setTop (mkF m 5 #[.val (.int p0), .val (.int p1)] [])) _
          refine XS.iloadN X0.here hx rfl (hb hby d1_5) rfl ?_
          show Steps p.tables e below (s₁.setTop (mkF m 6 #[.val (.int p0), .val (.int p1)] [(.int p0)])) _
          refine XS.goto X0.here hx rfl (pc0 := 6) (pc' := 10) rfl (hb hby d1_6) (by decide) (by decide) ?_
          exact k)
      exact ⟨_, _, p0, X0, e0, N0, (by first | (rw [if_neg hc2]; done) | simp only [if_neg hc2] | simp [if_neg hc2]), pre4⟩
  obtain ⟨fs, hr, hrun, hended, hW, hsame⟩ := X6.leave (v := some (.int v5)) (fun h => by rw [Bd.returns] at h; cases h)
  refine ⟨_, _, fin _ (pre6 _ ?_), hrun, hended, _, _, rfl, ?_, ⟨_, rfl⟩, hW, hsame.mono (by decide) (by decide)⟩
  · show Steps p.tables e below (T6.setTop (mkF m 10 #[.val (.int p0), .val (.int p1)] [(.int v5)])) _
    exact retI X6 hx Bd.returns (hb hby d1_10) hr
  · show Q1 Z p0 p1 h0 n0 _ T6.heap _
    rw [e6]
    exact ⟨(by subst hv5; first | rfl | simp only [own_f1]), N6, rfl⟩
theorem d2_0 : decode jdk_29_method_65_code 0 = .ok (.iload_n 0, 1) := by decide +kernel
theorem d2_1 : decode jdk_29_method_65_code 1 = .ok (.iload_n 1, 1) := by decide +kernel
theorem d2_2 : decode jdk_29_method_65_code 2 = .ok (.if_icmp .lt 7, 3) := by decide +kernel
theorem d2_5 : decode jdk_29_method_65_code 5 = .ok (.iload_n 0, 1) := by decide +kernel
theorem d2_6 : decode jdk_29_method_65_code 6 = .ok (.goto 4, 3) := by decide +kernel
theorem d2_9 : decode jdk_29_method_65_code 9 = .ok (.iload_n 1, 1) := by decide +kernel
theorem d2_10 : decode jdk_29_method_65_code 10 = .ok (.ireturn, 1) := by decide +kernel
theorem ef_2 (m : MethodId) (p0 : Int32) (p1 : Int32) : entryFrame m #[(.int p0), (.int p1)] 2 = mkF m 0 #[.val (.int p0), .val (.int p1)] [] := by first | (simp [entryFrame, mkF, argsToLocals, Value.category]; done) | rfl
def own_f2 (p0 : Int32) (p1 : Int32) : Int32 := (if p0 < p1 then p1 else p0)
def Q2 (Z : State) (p0 : Int32) (p1 : Int32) (h0 : Heap) (n0 : Nat) (v : Option Value) (h : Heap) (L : List Loc) : Prop := v = some (.int (own_f2 p0 p1)) ∧ Fr n0 L ∧ h = h0
set_option maxRecDepth 65536 in
set_option maxHeartbeats 40000000 in
theorem rm2 (l : Launch) (Z : State) (a0 : Array Value) (hw : ∀ d ∈ tables_1, d.before a0 Z = true) (ws : List Jvm.Cond) (p0 : Int32) (p1 : Int32) (h0 : Heap) (n0 : Nat) (Z0 : n0 ≤ h0.size) :
    MetFree l (⟨"java/lang/Math", "max", "(II)I"⟩ : MethodName) (head1 (Jvm.Cond.code (⟨"java/lang/Math", "max", "(II)I"⟩ : MethodName) jdk_29_method_65_code 2 (some .int) :: ws) ({ frames := 0, cells := 0, slots := 0, locals := 0 } : Room)) (fun a U => a = #[(.int p0), (.int p1)] ∧ Z.Warmed39 U.vm ∧ U.heap = h0) (fun _ _ _ _ _ => True) (fun _ U o U' => ∃ v L, o = .returned v ∧ Q2 Z p0 p1 h0 n0 v U'.heap L ∧ FrameEnd U o U' L ({ frames := 0, cells := 0, slots := 0, locals := 0 } : Room).cells ({ frames := 0, cells := 0, slots := 0, locals := 0 } : Room).slots) := by
  refine MetFree.of_bodySF (Jvm.Free.JP.mathPlain rfl (by decide +kernel)) hisR ?_
  intro p e s m args below meth c s₁ Bd hml0 hP hK
  obtain ⟨rfl, hZ, hh⟩ := hP
  have hx := Bd.exec
  have hby := Bd.bytes
  have hml : c.maxLocals = 2 := hml0
  have hown : s.vm.findClass "java/lang/Math" = some m.cls := findClass_of_methodNamed Bd.named
  have hnm := (name_of_methodNamed Bd.named Bd.method).1
  have X0 : Stand p l e ({ frames := 0, cells := 0, slots := 0, locals := 0 } : Room) s m #[(.int p0), (.int p1)] below meth c s₁ [] 0 0 := Stand.of_body Bd
  have e0 : s₁.heap = h0 := by rw [← hh, Bd.state]; rfl
  have N0 := Fr.nil n0
  obtain ⟨P, pre0, fin⟩ : ∃ P : State → Prop, (∀ t, Steps p.tables e below (s₁.setTop (mkF m 0 #[.val (.int p0), .val (.int p1)] [])) t → P t) ∧ (∀ t, P t → Steps p.tables e below (s₁.setTop (entryFrame m #[(.int p0), (.int p1)] 2)) t) := ⟨fun t => Steps p.tables e below (s₁.setTop (entryFrame m #[(.int p0), (.int p1)] 2)) t, fun t k => castTop (ef_2 m p0 p1) k, fun t k => k⟩
  have K0 : Keep h0 h0 [] := Keep.refl _ _
  have pre1 : ∀ t, Steps p.tables e below (s₁.setTop (mkF m 2 #[.val (.int p0), .val (.int p1)] [(.int p1), (.int p0)])) t → P t := fun t k => pre0 t (by
      show Steps p.tables e below (s₁.setTop (mkF m 0 #[.val (.int p0), .val (.int p1)] [])) _
      refine XS.iloadN X0.here hx rfl (hb hby d2_0) rfl ?_
      show Steps p.tables e below (s₁.setTop (mkF m 1 #[.val (.int p0), .val (.int p1)] [(.int p0)])) _
      refine XS.iloadN X0.here hx rfl (hb hby d2_1) rfl ?_
      exact k)
  obtain ⟨T6, L6, v5, X6, e6, N6, hv5, pre6⟩ : ∃ (T' : State) (L' : List Loc) (v5 : Int32), Stand p l e ({ frames := 0, cells := 0, slots := 0, locals := 0 } : Room) s m #[(.int p0), (.int p1)] below meth c T' L' 0 0 ∧ T'.heap = h0 ∧ Fr n0 L' ∧ v5 = (if p0 < p1 then p1 else p0) ∧ (∀ t, Steps p.tables e below (T'.setTop (mkF m 10 #[.val (.int p0), .val (.int p1)] [(.int v5)])) t → P t) := by
    by_cases hc2 : p0 < p1
    · have pre3 : ∀ t, Steps p.tables e below (s₁.setTop (mkF m 10 #[.val (.int p0), .val (.int p1)] [(.int p1)])) t → P t := fun t k => pre1 t (by
          show Steps p.tables e below (s₁.setTop (mkF m 2 #[.val (.int p0), .val (.int p1)] [(.int p1), (.int p0)])) _
          refine XS.icmpYes X0.here hx rfl (pc0 := 2) (pc' := 9) rfl (hb hby d2_2) rfl (tlt hc2).1 (by decide) (by decide) ?_
          show Steps p.tables e below (s₁.setTop (mkF m 9 #[.val (.int p0), .val (.int p1)] [])) _
          refine XS.iloadN X0.here hx rfl (hb hby d2_9) rfl ?_
          exact k)
      exact ⟨_, _, p1, X0, e0, N0, (by first | (rw [if_pos hc2]; done) | simp only [if_pos hc2] | simp [if_pos hc2]), pre3⟩
    · have pre4 : ∀ t, Steps p.tables e below (s₁.setTop (mkF m 10 #[.val (.int p0), .val (.int p1)] [(.int p0)])) t → P t := fun t k => pre1 t (by
          show Steps p.tables e below (s₁.setTop (mkF m 2 #[.val (.int p0), .val (.int p1)] [(.int p1), (.int p0)])) _
          refine XS.icmpNo X0.here hx rfl (hb hby d2_2) rfl (flt hc2).1 ?_
          show Steps p.tables e below (s₁.setTop (mkF m 5 #[.val (.int p0), .val (.int p1)] [])) _
          refine XS.iloadN X0.here hx rfl (hb hby d2_5) rfl ?_
          show Steps p.tables e below (s₁.setTop (mkF m 6 #[.val (.int p0), .val (.int p1)] [(.int p0)])) _
          refine XS.goto X0.here hx rfl (pc0 := 6) (pc' := 10) rfl (hb hby d2_6) (by decide) (by decide) ?_
          exact k)
      exact ⟨_, _, p0, X0, e0, N0, (by first | (rw [if_neg hc2]; done) | simp only [if_neg hc2] | simp [if_neg hc2]), pre4⟩
  obtain ⟨fs, hr, hrun, hended, hW, hsame⟩ := X6.leave (v := some (.int v5)) (fun h => by rw [Bd.returns] at h; cases h)
  refine ⟨_, _, fin _ (pre6 _ ?_), hrun, hended, _, _, rfl, ?_, ⟨_, rfl⟩, hW, hsame.mono (by decide) (by decide)⟩
  · show Steps p.tables e below (T6.setTop (mkF m 10 #[.val (.int p0), .val (.int p1)] [(.int v5)])) _
    exact retI X6 hx Bd.returns (hb hby d2_10) hr
  · show Q2 Z p0 p1 h0 n0 _ T6.heap _
    rw [e6]
    exact ⟨(by subst hv5; first | rfl | simp only [own_f2]), N6, rfl⟩
theorem d4_0 : decode jdk_30_method_1_code 0 = .ok (.aload_n 0, 1) := by decide +kernel
theorem d4_1 : decode jdk_30_method_1_code 1 = .ok (.invokespecial 1, 3) := by decide +kernel
theorem d4_4 : decode jdk_30_method_1_code 4 = .ok (.return_, 1) := by decide +kernel
theorem pn_4 : plainName "java/lang/Record" = true := by first | (simp [plainName, overriddenIn]; done) | decide +kernel
theorem ef_4 (m : MethodId) (o0 : Addr) : entryFrame m #[(.ref o0)] 1 = mkF m 0 #[.val (.ref o0)] [] := by first | (simp [entryFrame, mkF, argsToLocals, Value.category]; done) | rfl
def Q4 (Z : State) (o0 : Addr) (h0 : Heap) (n0 : Nat) (v : Option Value) (h : Heap) (L : List Loc) : Prop := v = none ∧ Fr n0 L ∧ h = h0
set_option maxRecDepth 65536 in
set_option maxHeartbeats 40000000 in
theorem rm4 (l : Launch) (Z : State) (a0 : Array Value) (hw : ∀ d ∈ tables_1, d.before a0 Z = true) (ws : List Jvm.Cond) (o0 : Addr) (h0 : Heap) (n0 : Nat) (Z0 : n0 ≤ h0.size) :
    MetFree l (⟨"java/lang/Record", "<init>", "()V"⟩ : MethodName) (head1 (Jvm.Cond.code (⟨"java/lang/Record", "<init>", "()V"⟩ : MethodName) jdk_30_method_1_code 1 none :: ws) ({ frames := 1, cells := 0, slots := 0, locals := 12 } : Room)) (fun a U => a = #[(.ref o0)] ∧ Z.Warmed39 U.vm ∧ U.heap = h0) (fun _ _ _ _ _ => True) (fun _ U o U' => ∃ v L, o = .returned v ∧ Q4 Z o0 h0 n0 v U'.heap L ∧ FrameEnd U o U' L ({ frames := 1, cells := 0, slots := 0, locals := 12 } : Room).cells ({ frames := 1, cells := 0, slots := 0, locals := 12 } : Room).slots) := by
  refine MetFree.of_bodySF (plainFor_of_name pn_4) hisR ?_
  intro p e s m args below meth c s₁ Bd hml0 hP hK
  obtain ⟨rfl, hZ, hh⟩ := hP
  have hx := Bd.exec
  have hby := Bd.bytes
  have hml : c.maxLocals = 1 := hml0
  have hown : s.vm.findClass "java/lang/Record" = some m.cls := findClass_of_methodNamed Bd.named
  have hnm := (name_of_methodNamed Bd.named Bd.method).1
  have X0 : Stand p l e ({ frames := 1, cells := 0, slots := 0, locals := 12 } : Room) s m #[(.ref o0)] below meth c s₁ [] 0 0 := Stand.of_body Bd
  have e0 : s₁.heap = h0 := by rw [← hh, Bd.state]; rfl
  have N0 := Fr.nil n0
  obtain ⟨P, pre0, fin⟩ : ∃ P : State → Prop, (∀ t, Steps p.tables e below (s₁.setTop (mkF m 0 #[.val (.ref o0)] [])) t → P t) ∧ (∀ t, P t → Steps p.tables e below (s₁.setTop (entryFrame m #[(.ref o0)] 1)) t) := ⟨fun t => Steps p.tables e below (s₁.setTop (entryFrame m #[(.ref o0)] 1)) t, fun t k => castTop (ef_4 m o0) k, fun t k => k⟩
  have K0 : Keep h0 h0 [] := Keep.refl _ _
  have pre1 : ∀ t, Steps p.tables e below (s₁.setTop (mkF m 1 #[.val (.ref o0)] [(.ref o0)])) t → P t := fun t k => pre0 t (by
      show Steps p.tables e below (s₁.setTop (mkF m 0 #[.val (.ref o0)] [])) _
      refine XS.aloadN X0.here hx rfl (hb hby d4_0) rfl rfl ?_
      exact k)
  obtain ⟨T2, X2, e2, st2⟩ := initO X0 hx hZ hown (hw _ (List.mem_of_getElem? (i := 19) rfl)) (hw _ (List.mem_of_getElem? (i := 20) rfl)) (hw _ (List.mem_of_getElem? (i := 21) rfl)) e0 (g := (mkF m 1 #[.val (.ref o0)] [(.ref o0)])) rfl (by rw [hml]; rfl) rfl (hb hby d4_1) (by decide) (W := 0) (by show 2 * 0 + _ ≤ _; exact Nat.le_of_eq rfl) (by decide)
  have pre2 : ∀ t, Steps p.tables e below (T2.setTop (mkF m 4 #[.val (.ref o0)] [])) t → P t := fun t k => pre1 t (st2 _ k)
  obtain ⟨fs, hr, hrun, hended, hW, hsame⟩ := X2.leave (v := none) (fun _ => rfl)
  refine ⟨_, _, fin _ (pre2 _ ?_), hrun, hended, _, _, rfl, ?_, ⟨_, rfl⟩, hW, hsame.mono (by decide) (by decide)⟩
  · show Steps p.tables e below (T2.setTop (mkF m 4 #[.val (.ref o0)] [])) _
    exact X2.returnOut hx Bd.returns (hb hby d4_4) hr
  · show Q4 Z o0 h0 n0 _ T2.heap _
    rw [e2]
    exact ⟨rfl, N0, rfl⟩
theorem own_pd0 : parseMethodDescriptor "()V" = some ⟨[], none⟩ := by decide +kernel
theorem d3_0 : decode prog_54_method_1_code 0 = .ok (.aload_n 0, 1) := by decide +kernel
theorem d3_1 : decode prog_54_method_1_code 1 = .ok (.invokespecial 1, 3) := by decide +kernel
theorem d3_4 : decode prog_54_method_1_code 4 = .ok (.aload_n 0, 1) := by decide +kernel
theorem d3_5 : decode prog_54_method_1_code 5 = .ok (.aload_n 1, 1) := by decide +kernel
theorem d3_6 : decode prog_54_method_1_code 6 = .ok (.putfield 7, 3) := by decide +kernel
theorem d3_9 : decode prog_54_method_1_code 9 = .ok (.aload_n 0, 1) := by decide +kernel
theorem d3_10 : decode prog_54_method_1_code 10 = .ok (.aload_n 2, 1) := by decide +kernel
theorem d3_11 : decode prog_54_method_1_code 11 = .ok (.putfield 13, 3) := by decide +kernel
theorem d3_14 : decode prog_54_method_1_code 14 = .ok (.aload_n 0, 1) := by decide +kernel
theorem d3_15 : decode prog_54_method_1_code 15 = .ok (.iload_n 3, 1) := by decide +kernel
theorem d3_16 : decode prog_54_method_1_code 16 = .ok (.putfield 16, 3) := by decide +kernel
theorem d3_19 : decode prog_54_method_1_code 19 = .ok (.return_, 1) := by decide +kernel
theorem pn_3 : plainName "com/example/lexivec/lexivec/lucene/SparseList" = true := by first | (simp [plainName, overriddenIn]; done) | decide +kernel
theorem ef_3 (m : MethodId) (o0 : Addr) (o1 : Addr) (o2 : Addr) (p3 : Int32) : entryFrame m #[(.ref o0), (.ref o1), (.ref o2), (.int p3)] 4 = mkF m 0 #[.val (.ref o0), .val (.ref o1), .val (.ref o2), .val (.int p3)] [] := by first | (simp [entryFrame, mkF, argsToLocals, Value.category]; done) | rfl
def Q3 (Z : State) (o0 : Addr) (o1 : Addr) (o2 : Addr) (p3 : Int32) (h0 : Heap) (n0 : Nat) (v : Option Value) (h : Heap) (L : List Loc) : Prop := v = none ∧ Fr n0 L ∧ Keep h0 h [o0] ∧ Exa Z h o0 "com/example/lexivec/lexivec/lucene/SparseList" ∧ Fld Z h o0 "com/example/lexivec/lexivec/lucene/SparseList" "documents" "[I" (.ref o1) ∧ Fld Z h o0 "com/example/lexivec/lexivec/lucene/SparseList" "frequencies" "[I" (.ref o2) ∧ Fld Z h o0 "com/example/lexivec/lexivec/lucene/SparseList" "maxFrequency" "I" (.int p3)
set_option maxRecDepth 65536 in
set_option maxHeartbeats 40000000 in
theorem rm3 (l : Launch) (Z : State) (a0 : Array Value) (hw : ∀ d ∈ tables_1, d.before a0 Z = true) (ws : List Jvm.Cond) (o0 : Addr) (o1 : Addr) (o2 : Addr) (p3 : Int32) (h0 : Heap) (n0 : Nat) (Z0 : n0 ≤ h0.size) (E_o0 : Exa Z h0 o0 "com/example/lexivec/lexivec/lucene/SparseList") (F_documents_o0 : Fld Z h0 o0 "com/example/lexivec/lexivec/lucene/SparseList" "documents" "[I" .null) (F_frequencies_o0 : Fld Z h0 o0 "com/example/lexivec/lexivec/lucene/SparseList" "frequencies" "[I" .null) (F_maxFrequency_o0 : Fld Z h0 o0 "com/example/lexivec/lexivec/lucene/SparseList" "maxFrequency" "I" (.int (0 : Int32))) (g_o0 : n0 ≤ o0) :
    MetFree l (⟨"com/example/lexivec/lexivec/lucene/SparseList", "<init>", "([I[II)V"⟩ : MethodName) (head1 (Jvm.Cond.code (⟨"com/example/lexivec/lexivec/lucene/SparseList", "<init>", "([I[II)V"⟩ : MethodName) prog_54_method_1_code 4 none :: ws) ({ frames := 2, cells := 0, slots := 0, locals := 24 } : Room)) (fun a U => a = #[(.ref o0), (.ref o1), (.ref o2), (.int p3)] ∧ Z.Warmed39 U.vm ∧ U.heap = h0) (fun _ _ _ _ _ => True) (fun _ U o U' => ∃ v L, o = .returned v ∧ Q3 Z o0 o1 o2 p3 h0 n0 v U'.heap L ∧ FrameEnd U o U' L ({ frames := 2, cells := 0, slots := 0, locals := 24 } : Room).cells ({ frames := 2, cells := 0, slots := 0, locals := 24 } : Room).slots) := by
  refine MetFree.of_bodySF (plainFor_of_name pn_3) hisR ?_
  intro p e s m args below meth c s₁ Bd hml0 hP hK
  obtain ⟨rfl, hZ, hh⟩ := hP
  have hx := Bd.exec
  have hby := Bd.bytes
  have hml : c.maxLocals = 4 := hml0
  have hown : s.vm.findClass "com/example/lexivec/lexivec/lucene/SparseList" = some m.cls := findClass_of_methodNamed Bd.named
  have hnm := (name_of_methodNamed Bd.named Bd.method).1
  have X0 : Stand p l e ({ frames := 2, cells := 0, slots := 0, locals := 24 } : Room) s m #[(.ref o0), (.ref o1), (.ref o2), (.int p3)] below meth c s₁ [] 0 0 := Stand.of_body Bd
  have e0 : s₁.heap = h0 := by rw [← hh, Bd.state]; rfl
  have N0 := Fr.nil n0
  obtain ⟨P, pre0, fin⟩ : ∃ P : State → Prop, (∀ t, Steps p.tables e below (s₁.setTop (mkF m 0 #[.val (.ref o0), .val (.ref o1), .val (.ref o2), .val (.int p3)] [])) t → P t) ∧ (∀ t, P t → Steps p.tables e below (s₁.setTop (entryFrame m #[(.ref o0), (.ref o1), (.ref o2), (.int p3)] 4)) t) := ⟨fun t => Steps p.tables e below (s₁.setTop (entryFrame m #[(.ref o0), (.ref o1), (.ref o2), (.int p3)] 4)) t, fun t k => castTop (ef_3 m o0 o1 o2 p3) k, fun t k => k⟩
  have K0 : Keep h0 h0 [o0] := Keep.refl _ _
  have pre1 : ∀ t, Steps p.tables e below (s₁.setTop (mkF m 1 #[.val (.ref o0), .val (.ref o1), .val (.ref o2), .val (.int p3)] [(.ref o0)])) t → P t := fun t k => pre0 t (by
      show Steps p.tables e below (s₁.setTop (mkF m 0 #[.val (.ref o0), .val (.ref o1), .val (.ref o2), .val (.int p3)] [])) _
      refine XS.aloadN X0.here hx rfl (hb hby d3_0) rfl rfl ?_
      exact k)
  obtain ⟨_, _, ⟨T2, L2, k2, n2⟩, -, X2, ⟨Lc2, hQ2, l2, y2, z2⟩, st2⟩ := X0.specialBack hx (y := (⟨"java/lang/Record", "<init>", "()V"⟩ : MethodName)) rfl hown (mvT hZ (hw _ (List.mem_of_getElem? (i := 14) rfl))) (mvT hZ (hw _ (List.mem_of_getElem? (i := 15) rfl))) (mvT hZ (hw _ (List.mem_of_getElem? (i := 18) rfl))) (by decide) (backOf (W := 0) (rm4 l Z a0 hw [] o0 h0 n0 Z0 ) hZ (hw _ (List.mem_of_getElem? (i := 18) rfl)) (hw _ (List.mem_of_getElem? (i := 17) rfl)) (by decide) (by decide)) (g := (mkF m 1 #[.val (.ref o0), .val (.ref o1), .val (.ref o2), .val (.int p3)] [(.ref o0)])) rfl (by rw [hml]; rfl) (Steps.refl _) (a := o0) (argsL := []) (rest := []) (lenOf own_pd0 rfl) rfl (by show 2 * 0 + _ ≤ _; exact Nat.le_of_eq rfl) (hb hby d3_1) (fun _ _ => ⟨rfl, e0, (by decide : 0 + 0 ≤ _), (by decide : 0 + 0 ≤ _)⟩)
  dsimp only [Pt.U, Pt.locs, Pt.cells, Pt.slots] at X2 l2 y2 z2 st2 hQ2
  subst l2 y2 z2
  obtain ⟨rfl, N2q, e2⟩ := hQ2
  have N2 := Fr.app N0 N2q
  have pre2 : ∀ t, Steps p.tables e below (T2.setTop (mkF m 4 #[.val (.ref o0), .val (.ref o1), .val (.ref o2), .val (.int p3)] [])) t → P t := fun t k => pre1 t (st2.trans k)
  have pre3 : ∀ t, Steps p.tables e below (T2.setTop (mkF m 6 #[.val (.ref o0), .val (.ref o1), .val (.ref o2), .val (.int p3)] [(.ref o1), (.ref o0)])) t → P t := fun t k => pre2 t (by
      show Steps p.tables e below (T2.setTop (mkF m 4 #[.val (.ref o0), .val (.ref o1), .val (.ref o2), .val (.int p3)] [])) _
      refine XS.aloadN X2.here hx rfl (hb hby d3_4) rfl rfl ?_
      show Steps p.tables e below (T2.setTop (mkF m 5 #[.val (.ref o0), .val (.ref o1), .val (.ref o2), .val (.int p3)] [(.ref o0)])) _
      refine XS.aloadN X2.here hx rfl (hb hby d3_5) rfl rfl ?_
      exact k)
  obtain ⟨T4, h4, X4, e4, W4, st4⟩ := putF X2 hx hZ hown (host := "") (Or.inl (hw _ (List.mem_of_getElem? (i := 22) rfl))) Via.refl e2 F_documents_o0 E_o0 (Or.inr ⟨(hw _ (List.mem_of_getElem? (i := 23) rfl)), rfl, hnm⟩) (hw _ (List.mem_of_getElem? (i := 9) rfl)) (ty := (.array .int)) (by decide) rfl rfl (g := (mkF m 6 #[.val (.ref o0), .val (.ref o1), .val (.ref o2), .val (.int p3)] [(.ref o1), (.ref o0)])) rfl rfl (hb hby d3_6)
  have pre4 : ∀ t, Steps p.tables e below (T4.setTop (mkF m 9 #[.val (.ref o0), .val (.ref o1), .val (.ref o2), .val (.int p3)] [])) t → P t := fun t k => pre3 t (st4 _ k)
  have Fw4 := F_documents_o0.same W4
  have c5 : n0 ≤ h4.size := Nat.le_trans Z0 (Keep.of_wr W4).1
  have c6 : Exa Z h4 o0 "com/example/lexivec/lexivec/lucene/SparseList" := E_o0.wr W4
  have c7 : Fld Z h4 o0 "com/example/lexivec/lexivec/lucene/SparseList" "frequencies" "[I" .null := F_frequencies_o0.other W4 (Or.inr (slot_ne (Or.inr (hw _ (List.mem_of_getElem? (i := 25) rfl))) (Or.inr (hw _ (List.mem_of_getElem? (i := 23) rfl))) (by decide) (t := (.array .int)) (t' := (.array .int)) (by decide) (by decide)))
  have c8 : Fld Z h4 o0 "com/example/lexivec/lexivec/lucene/SparseList" "maxFrequency" "I" (.int (0 : Int32)) := F_maxFrequency_o0.other W4 (Or.inr (slot_ne (Or.inr (hw _ (List.mem_of_getElem? (i := 27) rfl))) (Or.inr (hw _ (List.mem_of_getElem? (i := 23) rfl))) (by decide) (t := .int) (t' := (.array .int)) (by decide) (by decide)))
  have K9 : Keep h0 h4 [o0] := K0.wr W4 (Or.inl (List.mem_of_getElem? (i := 0) rfl))
  have N4 := Fr.snoc X4 N2 g_o0
  have pre10 : ∀ t, Steps p.tables e below (T4.setTop (mkF m 11 #[.val (.ref o0), .val (.ref o1), .val (.ref o2), .val (.int p3)] [(.ref o2), (.ref o0)])) t → P t := fun t k => pre4 t (by
      show Steps p.tables e below (T4.setTop (mkF m 9 #[.val (.ref o0), .val (.ref o1), .val (.ref o2), .val (.int p3)] [])) _
      refine XS.aloadN X4.here hx rfl (hb hby d3_9) rfl rfl ?_
      show Steps p.tables e below (T4.setTop (mkF m 10 #[.val (.ref o0), .val (.ref o1), .val (.ref o2), .val (.int p3)] [(.ref o0)])) _
      refine XS.aloadN X4.here hx rfl (hb hby d3_10) rfl rfl ?_
      exact k)
  obtain ⟨T11, h11, X11, e11, W11, st11⟩ := putF X4 hx hZ hown (host := "") (Or.inl (hw _ (List.mem_of_getElem? (i := 24) rfl))) Via.refl e4 c7 c6 (Or.inr ⟨(hw _ (List.mem_of_getElem? (i := 25) rfl)), rfl, hnm⟩) (hw _ (List.mem_of_getElem? (i := 9) rfl)) (ty := (.array .int)) (by decide) rfl rfl (g := (mkF m 11 #[.val (.ref o0), .val (.ref o1), .val (.ref o2), .val (.int p3)] [(.ref o2), (.ref o0)])) rfl rfl (hb hby d3_11)
  have pre11 : ∀ t, Steps p.tables e below (T11.setTop (mkF m 14 #[.val (.ref o0), .val (.ref o1), .val (.ref o2), .val (.int p3)] [])) t → P t := fun t k => pre10 t (st11 _ k)
  have Fw11 := c7.same W11
  have c12 : n0 ≤ h11.size := Nat.le_trans c5 (Keep.of_wr W11).1
  have c13 : Exa Z h11 o0 "com/example/lexivec/lexivec/lucene/SparseList" := c6.wr W11
  have c14 : Fld Z h11 o0 "com/example/lexivec/lexivec/lucene/SparseList" "maxFrequency" "I" (.int (0 : Int32)) := c8.other W11 (Or.inr (slot_ne (Or.inr (hw _ (List.mem_of_getElem? (i := 27) rfl))) (Or.inr (hw _ (List.mem_of_getElem? (i := 25) rfl))) (by decide) (t := .int) (t' := (.array .int)) (by decide) (by decide)))
  have c15 : Fld Z h11 o0 "com/example/lexivec/lexivec/lucene/SparseList" "documents" "[I" (.ref o1) := Fw4.other W11 (Or.inr (slot_ne (Or.inr (hw _ (List.mem_of_getElem? (i := 23) rfl))) (Or.inr (hw _ (List.mem_of_getElem? (i := 25) rfl))) (by decide) (t := (.array .int)) (t' := (.array .int)) (by decide) (by decide)))
  have K16 : Keep h0 h11 [o0] := K9.wr W11 (Or.inl (List.mem_of_getElem? (i := 0) rfl))
  have N11 := Fr.snoc X11 N4 g_o0
  have pre17 : ∀ t, Steps p.tables e below (T11.setTop (mkF m 16 #[.val (.ref o0), .val (.ref o1), .val (.ref o2), .val (.int p3)] [(.int p3), (.ref o0)])) t → P t := fun t k => pre11 t (by
      show Steps p.tables e below (T11.setTop (mkF m 14 #[.val (.ref o0), .val (.ref o1), .val (.ref o2), .val (.int p3)] [])) _
      refine XS.aloadN X11.here hx rfl (hb hby d3_14) rfl rfl ?_
      show Steps p.tables e below (T11.setTop (mkF m 15 #[.val (.ref o0), .val (.ref o1), .val (.ref o2), .val (.int p3)] [(.ref o0)])) _
      refine XS.iloadN X11.here hx rfl (hb hby d3_15) rfl ?_
      exact k)
  obtain ⟨T18, h18, X18, e18, W18, st18⟩ := putF X11 hx hZ hown (host := "") (Or.inl (hw _ (List.mem_of_getElem? (i := 26) rfl))) Via.refl e11 c14 c13 (Or.inr ⟨(hw _ (List.mem_of_getElem? (i := 27) rfl)), rfl, hnm⟩) (hw _ (List.mem_of_getElem? (i := 9) rfl)) (ty := .int) (by decide) rfl rfl (g := (mkF m 16 #[.val (.ref o0), .val (.ref o1), .val (.ref o2), .val (.int p3)] [(.int p3), (.ref o0)])) rfl rfl (hb hby d3_16)
  have pre18 : ∀ t, Steps p.tables e below (T18.setTop (mkF m 19 #[.val (.ref o0), .val (.ref o1), .val (.ref o2), .val (.int p3)] [])) t → P t := fun t k => pre17 t (st18 _ k)
  have Fw18 := c14.same W18
  have c19 : n0 ≤ h18.size := Nat.le_trans c12 (Keep.of_wr W18).1
  have c20 : Exa Z h18 o0 "com/example/lexivec/lexivec/lucene/SparseList" := c13.wr W18
  have c21 : Fld Z h18 o0 "com/example/lexivec/lexivec/lucene/SparseList" "documents" "[I" (.ref o1) := c15.other W18 (Or.inr (slot_ne (Or.inr (hw _ (List.mem_of_getElem? (i := 23) rfl))) (Or.inr (hw _ (List.mem_of_getElem? (i := 27) rfl))) (by decide) (t := (.array .int)) (t' := .int) (by decide) (by decide)))
  have c22 : Fld Z h18 o0 "com/example/lexivec/lexivec/lucene/SparseList" "frequencies" "[I" (.ref o2) := Fw11.other W18 (Or.inr (slot_ne (Or.inr (hw _ (List.mem_of_getElem? (i := 25) rfl))) (Or.inr (hw _ (List.mem_of_getElem? (i := 27) rfl))) (by decide) (t := (.array .int)) (t' := .int) (by decide) (by decide)))
  have K23 : Keep h0 h18 [o0] := K16.wr W18 (Or.inl (List.mem_of_getElem? (i := 0) rfl))
  have N18 := Fr.snoc X18 N11 g_o0
  obtain ⟨fs, hr, hrun, hended, hW, hsame⟩ := X18.leave (v := none) (fun _ => rfl)
  refine ⟨_, _, fin _ (pre18 _ ?_), hrun, hended, _, _, rfl, ?_, ⟨_, rfl⟩, hW, hsame.mono (by decide) (by decide)⟩
  · show Steps p.tables e below (T18.setTop (mkF m 19 #[.val (.ref o0), .val (.ref o1), .val (.ref o2), .val (.int p3)] [])) _
    exact X18.returnOut hx Bd.returns (hb hby d3_19) hr
  · show Q3 Z o0 o1 o2 p3 h0 n0 _ T18.heap _
    rw [e18]
    exact ⟨rfl, N18, K23, c20, c21, c22, Fw18⟩
theorem d6_0 : decode method_2_code 0 = .ok (.iload_n 0, 1) := by decide +kernel
theorem d6_1 : decode method_2_code 1 = .ok (.iload_n 1, 1) := by decide +kernel
theorem d6_2 : decode method_2_code 2 = .ok (.if_icmp .lt 12, 3) := by decide +kernel
theorem d6_5 : decode method_2_code 5 = .ok (.iload_n 0, 1) := by decide +kernel
theorem d6_6 : decode method_2_code 6 = .ok (.iload_n 2, 1) := by decide +kernel
theorem d6_7 : decode method_2_code 7 = .ok (.if_icmp .ge 7, 3) := by decide +kernel
theorem d6_10 : decode method_2_code 10 = .ok (.iconst 1, 1) := by decide +kernel
theorem d6_11 : decode method_2_code 11 = .ok (.goto 4, 3) := by decide +kernel
theorem d6_14 : decode method_2_code 14 = .ok (.iconst 0, 1) := by decide +kernel
theorem d6_15 : decode method_2_code 15 = .ok (.ireturn, 1) := by decide +kernel
theorem pn_6 : plainName "com/example/lexivec/lexivec/lucene/SparseListWithinPinLaw" = true := by first | (simp [plainName, overriddenIn]; done) | decide +kernel
theorem ef_6 (m : MethodId) (p0 : Int32) (p1 : Int32) (p2 : Int32) : entryFrame m #[(.int p0), (.int p1), (.int p2)] 3 = mkF m 0 #[.val (.int p0), .val (.int p1), .val (.int p2)] [] := by first | (simp [entryFrame, mkF, argsToLocals, Value.category]; done) | rfl
def own_f6 (p0 : Int32) (p1 : Int32) (p2 : Int32) : Int32 := (if p0 < p1 then (0 : Int32) else (if p0 < p2 then (1 : Int32) else (0 : Int32)))
def Q6 (Z : State) (p0 : Int32) (p1 : Int32) (p2 : Int32) (h0 : Heap) (n0 : Nat) (v : Option Value) (h : Heap) (L : List Loc) : Prop := v = some (.int (own_f6 p0 p1 p2)) ∧ Fr n0 L ∧ h = h0
set_option maxRecDepth 65536 in
set_option maxHeartbeats 40000000 in
theorem rm6 (l : Launch) (Z : State) (a0 : Array Value) (hw : ∀ d ∈ tables_1, d.before a0 Z = true) (ws : List Jvm.Cond) (p0 : Int32) (p1 : Int32) (p2 : Int32) (h0 : Heap) (n0 : Nat) (Z0 : n0 ≤ h0.size) :
    MetFree l (⟨"com/example/lexivec/lexivec/lucene/SparseListWithinPinLaw", "in", "(III)Z"⟩ : MethodName) (head1 (Jvm.Cond.code (⟨"com/example/lexivec/lexivec/lucene/SparseListWithinPinLaw", "in", "(III)Z"⟩ : MethodName) method_2_code 3 (some .boolean) :: ws) ({ frames := 0, cells := 0, slots := 0, locals := 0 } : Room)) (fun a U => a = #[(.int p0), (.int p1), (.int p2)] ∧ Z.Warmed39 U.vm ∧ U.heap = h0) (fun _ _ _ _ _ => True) (fun _ U o U' => ∃ v L, o = .returned v ∧ Q6 Z p0 p1 p2 h0 n0 v U'.heap L ∧ FrameEnd U o U' L ({ frames := 0, cells := 0, slots := 0, locals := 0 } : Room).cells ({ frames := 0, cells := 0, slots := 0, locals := 0 } : Room).slots) := by
  refine MetFree.of_bodySF (plainFor_of_name pn_6) hisR ?_
  intro p e s m args below meth c s₁ Bd hml0 hP hK
  obtain ⟨rfl, hZ, hh⟩ := hP
  have hx := Bd.exec
  have hby := Bd.bytes
  have hml : c.maxLocals = 3 := hml0
  have hown : s.vm.findClass "com/example/lexivec/lexivec/lucene/SparseListWithinPinLaw" = some m.cls := findClass_of_methodNamed Bd.named
  have hnm := (name_of_methodNamed Bd.named Bd.method).1
  have X0 : Stand p l e ({ frames := 0, cells := 0, slots := 0, locals := 0 } : Room) s m #[(.int p0), (.int p1), (.int p2)] below meth c s₁ [] 0 0 := Stand.of_body Bd
  have e0 : s₁.heap = h0 := by rw [← hh, Bd.state]; rfl
  have N0 := Fr.nil n0
  obtain ⟨P, pre0, fin⟩ : ∃ P : State → Prop, (∀ t, Steps p.tables e below (s₁.setTop (mkF m 0 #[.val (.int p0), .val (.int p1), .val (.int p2)] [])) t → P t) ∧ (∀ t, P t → Steps p.tables e below (s₁.setTop (entryFrame m #[(.int p0), (.int p1), (.int p2)] 3)) t) := ⟨fun t => Steps p.tables e below (s₁.setTop (entryFrame m #[(.int p0), (.int p1), (.int p2)] 3)) t, fun t k => castTop (ef_6 m p0 p1 p2) k, fun t k => k⟩
  have K0 : Keep h0 h0 [] := Keep.refl _ _
  have pre1 : ∀ t, Steps p.tables e below (s₁.setTop (mkF m 2 #[.val (.int p0), .val (.int p1), .val (.int p2)] [(.int p1), (.int p0)])) t → P t := fun t k => pre0 t (by
      show Steps p.tables e below (s₁.setTop (mkF m 0 #[.val (.int p0), .val (.int p1), .val (.int p2)] [])) _
      refine XS.iloadN X0.here hx rfl (hb hby d6_0) rfl ?_
      show Steps p.tables e below (s₁.setTop (mkF m 1 #[.val (.int p0), .val (.int p1), .val (.int p2)] [(.int p0)])) _
      refine XS.iloadN X0.here hx rfl (hb hby d6_1) rfl ?_
      exact k)
  obtain ⟨T9, L9, v8, X9, e9, N9, hv8, pre9⟩ : ∃ (T' : State) (L' : List Loc) (v8 : Int32), Stand p l e ({ frames := 0, cells := 0, slots := 0, locals := 0 } : Room) s m #[(.int p0), (.int p1), (.int p2)] below meth c T' L' 0 0 ∧ T'.heap = h0 ∧ Fr n0 L' ∧ v8 = (if p0 < p1 then (0 : Int32) else (if p0 < p2 then (1 : Int32) else (0 : Int32))) ∧ (∀ t, Steps p.tables e below (T'.setTop (mkF m 15 #[.val (.int p0), .val (.int p1), .val (.int p2)] [(.int v8)])) t → P t) := by
    by_cases hc2 : p0 < p1
    · have pre3 : ∀ t, Steps p.tables e below (s₁.setTop (mkF m 15 #[.val (.int p0), .val (.int p1), .val (.int p2)] [(.int (0 : Int32))])) t → P t := fun t k => pre1 t (by
          show Steps p.tables e below (s₁.setTop (mkF m 2 #[.val (.int p0), .val (.int p1), .val (.int p2)] [(.int p1), (.int p0)])) _
          refine XS.icmpYes X0.here hx rfl (pc0 := 2) (pc' := 14) rfl (hb hby d6_2) rfl (tlt hc2).1 (by decide) (by decide) ?_
          show Steps p.tables e below (s₁.setTop (mkF m 14 #[.val (.int p0), .val (.int p1), .val (.int p2)] [])) _
          refine XS.iconst X0.here hx rfl (hb hby d6_14) ?_
          exact k)
      exact ⟨_, _, (0 : Int32), X0, e0, N0, (by first | (rw [if_pos hc2]; done) | simp only [if_pos hc2] | simp [if_pos hc2]), pre3⟩
    · have pre4 : ∀ t, Steps p.tables e below (s₁.setTop (mkF m 7 #[.val (.int p0), .val (.int p1), .val (.int p2)] [(.int p2), (.int p0)])) t → P t := fun t k => pre1 t (by
          show Steps p.tables e below (s₁.setTop (mkF m 2 #[.val (.int p0), .val (.int p1), .val (.int p2)] [(.int p1), (.int p0)])) _
          refine XS.icmpNo X0.here hx rfl (hb hby d6_2) rfl (flt hc2).1 ?_
          show Steps p.tables e below (s₁.setTop (mkF m 5 #[.val (.int p0), .val (.int p1), .val (.int p2)] [])) _
          refine XS.iloadN X0.here hx rfl (hb hby d6_5) rfl ?_
          show Steps p.tables e below (s₁.setTop (mkF m 6 #[.val (.int p0), .val (.int p1), .val (.int p2)] [(.int p0)])) _
          refine XS.iloadN X0.here hx rfl (hb hby d6_6) rfl ?_
          exact k)
      by_cases hc5 : p0 < p2
      · have pre6 : ∀ t, Steps p.tables e below (s₁.setTop (mkF m 15 #[.val (.int p0), .val (.int p1), .val (.int p2)] [(.int (1 : Int32))])) t → P t := fun t k => pre4 t (by
            show Steps p.tables e below (s₁.setTop (mkF m 7 #[.val (.int p0), .val (.int p1), .val (.int p2)] [(.int p2), (.int p0)])) _
            refine XS.icmpNo X0.here hx rfl (hb hby d6_7) rfl (tlt hc5).2.1 ?_
            show Steps p.tables e below (s₁.setTop (mkF m 10 #[.val (.int p0), .val (.int p1), .val (.int p2)] [])) _
            refine XS.iconst X0.here hx rfl (hb hby d6_10) ?_
            show Steps p.tables e below (s₁.setTop (mkF m 11 #[.val (.int p0), .val (.int p1), .val (.int p2)] [(.int (1 : Int32))])) _
            refine XS.goto X0.here hx rfl (pc0 := 11) (pc' := 15) rfl (hb hby d6_11) (by decide) (by decide) ?_
            exact k)
        exact ⟨_, _, (1 : Int32), X0, e0, N0, (by first | (rw [if_neg hc2, if_pos hc5]; done) | simp only [if_neg hc2, if_pos hc5] | simp [if_neg hc2, if_pos hc5]), pre6⟩
      · have pre7 : ∀ t, Steps p.tables e below (s₁.setTop (mkF m 15 #[.val (.int p0), .val (.int p1), .val (.int p2)] [(.int (0 : Int32))])) t → P t := fun t k => pre4 t (by
            show Steps p.tables e below (s₁.setTop (mkF m 7 #[.val (.int p0), .val (.int p1), .val (.int p2)] [(.int p2), (.int p0)])) _
            refine XS.icmpYes X0.here hx rfl (pc0 := 7) (pc' := 14) rfl (hb hby d6_7) rfl (flt hc5).2.1 (by decide) (by decide) ?_
            show Steps p.tables e below (s₁.setTop (mkF m 14 #[.val (.int p0), .val (.int p1), .val (.int p2)] [])) _
            refine XS.iconst X0.here hx rfl (hb hby d6_14) ?_
            exact k)
        exact ⟨_, _, (0 : Int32), X0, e0, N0, (by first | (rw [if_neg hc2, if_neg hc5]; done) | simp only [if_neg hc2, if_neg hc5] | simp [if_neg hc2, if_neg hc5]), pre7⟩
  obtain ⟨fs, hr, hrun, hended, hW, hsame⟩ := X9.leave (v := some (.int v8)) (fun h => by rw [Bd.returns] at h; cases h)
  refine ⟨_, _, fin _ (pre9 _ ?_), hrun, hended, _, _, rfl, ?_, ⟨_, rfl⟩, hW, hsame.mono (by decide) (by decide)⟩
  · show Steps p.tables e below (T9.setTop (mkF m 15 #[.val (.int p0), .val (.int p1), .val (.int p2)] [(.int v8)])) _
    have hnar : nar .boolean v8 = v8 := by subst hv8; first | rfl | (split <;> rfl) | ((try simp only []); (repeat' split) <;> rfl)
    exact retN X9 hx (t := .boolean) Bd.returns (by simp) (hb hby d6_15) (by rw [hnar]; exact hr)
  · show Q6 Z p0 p1 p2 h0 n0 _ T9.heap _
    rw [e9]
    exact ⟨(by subst hv8; first | rfl | simp only [own_f6]), N9, rfl⟩
theorem d7_0 : decode prog_54_method_3_code 0 = .ok (.aload_n 0, 1) := by decide +kernel
theorem d7_1 : decode prog_54_method_3_code 1 = .ok (.getfield 7, 3) := by decide +kernel
theorem d7_4 : decode prog_54_method_3_code 4 = .ok (.arraylength, 1) := by decide +kernel
theorem d7_5 : decode prog_54_method_3_code 5 = .ok (.ifCond .eq 29, 3) := by decide +kernel
theorem d7_8 : decode prog_54_method_3_code 8 = .ok (.aload_n 0, 1) := by decide +kernel
theorem d7_9 : decode prog_54_method_3_code 9 = .ok (.getfield 7, 3) := by decide +kernel
theorem d7_12 : decode prog_54_method_3_code 12 = .ok (.iconst 0, 1) := by decide +kernel
theorem d7_13 : decode prog_54_method_3_code 13 = .ok (.iaload, 1) := by decide +kernel
theorem d7_14 : decode prog_54_method_3_code 14 = .ok (.iload_n 1, 1) := by decide +kernel
theorem d7_15 : decode prog_54_method_3_code 15 = .ok (.if_icmp .lt 23, 3) := by decide +kernel
theorem d7_18 : decode prog_54_method_3_code 18 = .ok (.aload_n 0, 1) := by decide +kernel
theorem d7_19 : decode prog_54_method_3_code 19 = .ok (.getfield 7, 3) := by decide +kernel
theorem d7_22 : decode prog_54_method_3_code 22 = .ok (.aload_n 0, 1) := by decide +kernel
theorem d7_23 : decode prog_54_method_3_code 23 = .ok (.getfield 7, 3) := by decide +kernel
theorem d7_26 : decode prog_54_method_3_code 26 = .ok (.arraylength, 1) := by decide +kernel
theorem d7_27 : decode prog_54_method_3_code 27 = .ok (.iconst 1, 1) := by decide +kernel
theorem d7_28 : decode prog_54_method_3_code 28 = .ok (.isub, 1) := by decide +kernel
theorem d7_29 : decode prog_54_method_3_code 29 = .ok (.iaload, 1) := by decide +kernel
theorem d7_30 : decode prog_54_method_3_code 30 = .ok (.iload_n 2, 1) := by decide +kernel
theorem d7_31 : decode prog_54_method_3_code 31 = .ok (.if_icmp .ge 7, 3) := by decide +kernel
theorem d7_34 : decode prog_54_method_3_code 34 = .ok (.iconst 1, 1) := by decide +kernel
theorem d7_35 : decode prog_54_method_3_code 35 = .ok (.goto 4, 3) := by decide +kernel
theorem d7_38 : decode prog_54_method_3_code 38 = .ok (.iconst 0, 1) := by decide +kernel
theorem d7_39 : decode prog_54_method_3_code 39 = .ok (.ireturn, 1) := by decide +kernel
theorem pn_7 : plainName "com/example/lexivec/lexivec/lucene/SparseList" = true := by first | (simp [plainName, overriddenIn]; done) | decide +kernel
theorem ef_7 (m : MethodId) (o0 : Addr) (p1 : Int32) (p2 : Int32) : entryFrame m #[(.ref o0), (.int p1), (.int p2)] 3 = mkF m 0 #[.val (.ref o0), .val (.int p1), .val (.int p2)] [] := by first | (simp [entryFrame, mkF, argsToLocals, Value.category]; done) | rfl
def own_f7 (p1 : Int32) (p2 : Int32) (zz : Int32) (x0 : Int32) (x1 : Int32) : Int32 := (if zz = (0 : Int32) then (1 : Int32) else (if x0 < p1 then (0 : Int32) else (if x1 < p2 then (1 : Int32) else (0 : Int32))))
def Q7 (Z : State) (o0 : Addr) (p1 : Int32) (p2 : Int32) (docs : Addr) (kk : ClassId) (zz : Int32) (vs : List Value) (x0 : Int32) (x1 : Int32) (h0 : Heap) (n0 : Nat) (v : Option Value) (h : Heap) (L : List Loc) : Prop := v = some (.int (own_f7 p1 p2 zz x0 x1)) ∧ Fr n0 L ∧ h = h0
set_option maxRecDepth 65536 in
set_option maxHeartbeats 40000000 in
theorem rm7 (l : Launch) (Z : State) (a0 : Array Value) (hw : ∀ d ∈ tables_1, d.before a0 Z = true) (ws : List Jvm.Cond) (o0 : Addr) (p1 : Int32) (p2 : Int32) (docs : Addr) (kk : ClassId) (zz : Int32) (vs : List Value) (x0 : Int32) (x1 : Int32) (h0 : Heap) (n0 : Nat) (Z0 : n0 ≤ h0.size) (F_docs : Fld Z h0 o0 "com/example/lexivec/lexivec/lucene/SparseList" "documents" "[I" (.ref docs)) (V_docs : Arv Z h0 docs kk .int zz vs (.int (0 : Int32))) (hx0 : ¬ zz = (0 : Int32) → vs.getD (0 : Int32).toNatClampNeg (.int (0 : Int32)) = .int x0) (hx1 : ¬ zz = (0 : Int32) → vs.getD (zz - (1 : Int32)).toNatClampNeg (.int (0 : Int32)) = .int x1) :
    MetFree l (⟨"com/example/lexivec/lexivec/lucene/SparseList", "within", "(II)Z"⟩ : MethodName) (head1 (Jvm.Cond.code (⟨"com/example/lexivec/lexivec/lucene/SparseList", "within", "(II)Z"⟩ : MethodName) prog_54_method_3_code 3 (some .boolean) :: ws) ({ frames := 0, cells := 0, slots := 0, locals := 0 } : Room)) (fun a U => a = #[(.ref o0), (.int p1), (.int p2)] ∧ Z.Warmed39 U.vm ∧ U.heap = h0) (fun _ _ _ _ _ => True) (fun _ U o U' => ∃ v L, o = .returned v ∧ Q7 Z o0 p1 p2 docs kk zz vs x0 x1 h0 n0 v U'.heap L ∧ FrameEnd U o U' L ({ frames := 0, cells := 0, slots := 0, locals := 0 } : Room).cells ({ frames := 0, cells := 0, slots := 0, locals := 0 } : Room).slots) := by
  refine MetFree.of_bodySF (plainFor_of_name pn_7) hisR ?_
  intro p e s m args below meth c s₁ Bd hml0 hP hK
  obtain ⟨rfl, hZ, hh⟩ := hP
  have hx := Bd.exec
  have hby := Bd.bytes
  have hml : c.maxLocals = 3 := hml0
  have hown : s.vm.findClass "com/example/lexivec/lexivec/lucene/SparseList" = some m.cls := findClass_of_methodNamed Bd.named
  have hnm := (name_of_methodNamed Bd.named Bd.method).1
  have X0 : Stand p l e ({ frames := 0, cells := 0, slots := 0, locals := 0 } : Room) s m #[(.ref o0), (.int p1), (.int p2)] below meth c s₁ [] 0 0 := Stand.of_body Bd
  have e0 : s₁.heap = h0 := by rw [← hh, Bd.state]; rfl
  have N0 := Fr.nil n0
  obtain ⟨P, pre0, fin⟩ : ∃ P : State → Prop, (∀ t, Steps p.tables e below (s₁.setTop (mkF m 0 #[.val (.ref o0), .val (.int p1), .val (.int p2)] [])) t → P t) ∧ (∀ t, P t → Steps p.tables e below (s₁.setTop (entryFrame m #[(.ref o0), (.int p1), (.int p2)] 3)) t) := ⟨fun t => Steps p.tables e below (s₁.setTop (entryFrame m #[(.ref o0), (.int p1), (.int p2)] 3)) t, fun t k => castTop (ef_7 m o0 p1 p2) k, fun t k => k⟩
  have K0 : Keep h0 h0 [] := Keep.refl _ _
  have pre1 : ∀ t, Steps p.tables e below (s₁.setTop (mkF m 1 #[.val (.ref o0), .val (.int p1), .val (.int p2)] [(.ref o0)])) t → P t := fun t k => pre0 t (by
      show Steps p.tables e below (s₁.setTop (mkF m 0 #[.val (.ref o0), .val (.int p1), .val (.int p2)] [])) _
      refine XS.aloadN X0.here hx rfl (hb hby d7_0) rfl rfl ?_
      exact k)
  obtain ⟨T2, X2, e2, st2⟩ := getF X0 hx hZ hown (host := "") (Or.inl (hw _ (List.mem_of_getElem? (i := 22) rfl))) Via.refl e0 F_docs (g := (mkF m 1 #[.val (.ref o0), .val (.int p1), .val (.int p2)] [(.ref o0)])) rfl rfl (hb hby d7_1)
  have pre2 : ∀ t, Steps p.tables e below (T2.setTop (mkF m 4 #[.val (.ref o0), .val (.int p1), .val (.int p2)] [(.ref docs)])) t → P t := fun t k => pre1 t (st2 _ k)
  obtain ⟨clq3, Arq3, -, Sq3, Nq3', -, -⟩ := id V_docs
  have pre4 : ∀ t, Steps p.tables e below (T2.setTop (mkF m 5 #[.val (.ref o0), .val (.int p1), .val (.int p2)] [(.int zz)])) t → P t := fun t k => pre2 t (by
      show Steps p.tables e below (T2.setTop (mkF m 4 #[.val (.ref o0), .val (.int p1), .val (.int p2)] [(.ref docs)])) _
      refine X2.arraylength hx (by rw [e2]; exact Arq3.1) (State.isArrayOf_alike hZ.alike Arq3.2.1) (g := (mkF m 4 #[.val (.ref o0), .val (.int p1), .val (.int p2)] [(.ref docs)])) rfl rfl (hb hby d7_4) _ ?_
      rw [len_of Sq3 Nq3']
      exact k)
  obtain ⟨T26, L26, v25, X26, e26, N26, hv25, pre26⟩ : ∃ (T' : State) (L' : List Loc) (v25 : Int32), Stand p l e ({ frames := 0, cells := 0, slots := 0, locals := 0 } : Room) s m #[(.ref o0), (.int p1), (.int p2)] below meth c T' L' 0 0 ∧ T'.heap = h0 ∧ Fr n0 L' ∧ v25 = (if zz = (0 : Int32) then (1 : Int32) else (if x0 < p1 then (0 : Int32) else (if x1 < p2 then (1 : Int32) else (0 : Int32)))) ∧ (∀ t, Steps p.tables e below (T'.setTop (mkF m 39 #[.val (.ref o0), .val (.int p1), .val (.int p2)] [(.int v25)])) t → P t) := by
    by_cases hc5 : zz = (0 : Int32)
    · have pre6 : ∀ t, Steps p.tables e below (T2.setTop (mkF m 39 #[.val (.ref o0), .val (.int p1), .val (.int p2)] [(.int (1 : Int32))])) t → P t := fun t k => pre4 t (by
          show Steps p.tables e below (T2.setTop (mkF m 5 #[.val (.ref o0), .val (.int p1), .val (.int p2)] [(.int zz)])) _
          refine XS.ifYes X2.here hx rfl (pc0 := 5) (pc' := 34) rfl (hb hby d7_5) rfl ((if0 _ _).trans (teq hc5).1) (by decide) (by decide) ?_
          show Steps p.tables e below (T2.setTop (mkF m 34 #[.val (.ref o0), .val (.int p1), .val (.int p2)] [])) _
          refine XS.iconst X2.here hx rfl (hb hby d7_34) ?_
          show Steps p.tables e below (T2.setTop (mkF m 35 #[.val (.ref o0), .val (.int p1), .val (.int p2)] [(.int (1 : Int32))])) _
          refine XS.goto X2.here hx rfl (pc0 := 35) (pc' := 39) rfl (hb hby d7_35) (by decide) (by decide) ?_
          exact k)
      exact ⟨_, _, (1 : Int32), X2, e2, N0, (by first | (rw [if_pos hc5]; done) | simp only [if_pos hc5] | simp [if_pos hc5]), pre6⟩
    · have pre7 : ∀ t, Steps p.tables e below (T2.setTop (mkF m 9 #[.val (.ref o0), .val (.int p1), .val (.int p2)] [(.ref o0)])) t → P t := fun t k => pre4 t (by
          show Steps p.tables e below (T2.setTop (mkF m 5 #[.val (.ref o0), .val (.int p1), .val (.int p2)] [(.int zz)])) _
          refine XS.ifNo X2.here hx rfl (hb hby d7_5) rfl ((if0 _ _).trans (feq hc5).1) ?_
          show Steps p.tables e below (T2.setTop (mkF m 8 #[.val (.ref o0), .val (.int p1), .val (.int p2)] [])) _
          refine XS.aloadN X2.here hx rfl (hb hby d7_8) rfl rfl ?_
          exact k)
      obtain ⟨T8, X8, e8, st8⟩ := getF X2 hx hZ hown (host := "") (Or.inl (hw _ (List.mem_of_getElem? (i := 22) rfl))) Via.refl e2 F_docs (g := (mkF m 9 #[.val (.ref o0), .val (.int p1), .val (.int p2)] [(.ref o0)])) rfl rfl (hb hby d7_9)
      have pre8 : ∀ t, Steps p.tables e below (T8.setTop (mkF m 12 #[.val (.ref o0), .val (.int p1), .val (.int p2)] [(.ref docs)])) t → P t := fun t k => pre7 t (st8 _ k)
      have pre9 : ∀ t, Steps p.tables e below (T8.setTop (mkF m 13 #[.val (.ref o0), .val (.int p1), .val (.int p2)] [(.int (0 : Int32)), (.ref docs)])) t → P t := fun t k => pre8 t (by
          show Steps p.tables e below (T8.setTop (mkF m 12 #[.val (.ref o0), .val (.int p1), .val (.int p2)] [(.ref docs)])) _
          refine XS.iconst X8.here hx rfl (hb hby d7_12) ?_
          exact k)
      obtain ⟨clq10, Arq10, qq10, Sq10, Nq10', Hq10, Gq10⟩ := id V_docs
      have iq10 : ¬ ((0 : Int32) < 0 ∨ clq10.slots.size ≤ ((0 : Int32)).toNatClampNeg) := inb_of Sq10 ⟨by decide, own_pos _ Nq10' hc5⟩
      have pre11 : ∀ t, Steps p.tables e below (T8.setTop (mkF m 15 #[.val (.ref o0), .val (.int p1), .val (.int p2)] [(.int p1), (.int x0)])) t → P t := fun t k => pre9 t (by
          show Steps p.tables e below (T8.setTop (mkF m 13 #[.val (.ref o0), .val (.int p1), .val (.int p2)] [(.int (0 : Int32)), (.ref docs)])) _
          refine X8.iaload hx (j := (0 : Int32)) (v := (.int x0)) (by rw [e8]; exact Arq10.1) (State.isArrayOf_alike hZ.alike Arq10.2.1) Arq10.2.2 iq10 (Hq10.at iq10 (hx0 hc5)) (g := (mkF m 13 #[.val (.ref o0), .val (.int p1), .val (.int p2)] [(.int (0 : Int32)), (.ref docs)])) rfl rfl (hb hby d7_13) _ ?_
          show Steps p.tables e below (T8.setTop (mkF m 14 #[.val (.ref o0), .val (.int p1), .val (.int p2)] [(.int x0)])) _
          refine XS.iloadN X8.here hx rfl (hb hby d7_14) rfl ?_
          exact k)
      by_cases hc12 : x0 < p1
      · have pre13 : ∀ t, Steps p.tables e below (T8.setTop (mkF m 39 #[.val (.ref o0), .val (.int p1), .val (.int p2)] [(.int (0 : Int32))])) t → P t := fun t k => pre11 t (by
            show Steps p.tables e below (T8.setTop (mkF m 15 #[.val (.ref o0), .val (.int p1), .val (.int p2)] [(.int p1), (.int x0)])) _
            refine XS.icmpYes X8.here hx rfl (pc0 := 15) (pc' := 38) rfl (hb hby d7_15) rfl (tlt hc12).1 (by decide) (by decide) ?_
            show Steps p.tables e below (T8.setTop (mkF m 38 #[.val (.ref o0), .val (.int p1), .val (.int p2)] [])) _
            refine XS.iconst X8.here hx rfl (hb hby d7_38) ?_
            exact k)
        exact ⟨_, _, (0 : Int32), X8, e8, N0, (by first | (rw [if_neg hc5, if_pos hc12]; done) | simp only [if_neg hc5, if_pos hc12] | simp [if_neg hc5, if_pos hc12]), pre13⟩
      · have pre14 : ∀ t, Steps p.tables e below (T8.setTop (mkF m 19 #[.val (.ref o0), .val (.int p1), .val (.int p2)] [(.ref o0)])) t → P t := fun t k => pre11 t (by
            show Steps p.tables e below (T8.setTop (mkF m 15 #[.val (.ref o0), .val (.int p1), .val (.int p2)] [(.int p1), (.int x0)])) _
            refine XS.icmpNo X8.here hx rfl (hb hby d7_15) rfl (flt hc12).1 ?_
            show Steps p.tables e below (T8.setTop (mkF m 18 #[.val (.ref o0), .val (.int p1), .val (.int p2)] [])) _
            refine XS.aloadN X8.here hx rfl (hb hby d7_18) rfl rfl ?_
            exact k)
        obtain ⟨T15, X15, e15, st15⟩ := getF X8 hx hZ hown (host := "") (Or.inl (hw _ (List.mem_of_getElem? (i := 22) rfl))) Via.refl e8 F_docs (g := (mkF m 19 #[.val (.ref o0), .val (.int p1), .val (.int p2)] [(.ref o0)])) rfl rfl (hb hby d7_19)
        have pre15 : ∀ t, Steps p.tables e below (T15.setTop (mkF m 22 #[.val (.ref o0), .val (.int p1), .val (.int p2)] [(.ref docs)])) t → P t := fun t k => pre14 t (st15 _ k)
        have pre16 : ∀ t, Steps p.tables e below (T15.setTop (mkF m 23 #[.val (.ref o0), .val (.int p1), .val (.int p2)] [(.ref o0), (.ref docs)])) t → P t := fun t k => pre15 t (by
            show Steps p.tables e below (T15.setTop (mkF m 22 #[.val (.ref o0), .val (.int p1), .val (.int p2)] [(.ref docs)])) _
            refine XS.aloadN X15.here hx rfl (hb hby d7_22) rfl rfl ?_
            exact k)
        obtain ⟨T17, X17, e17, st17⟩ := getF X15 hx hZ hown (host := "") (Or.inl (hw _ (List.mem_of_getElem? (i := 22) rfl))) Via.refl e15 F_docs (g := (mkF m 23 #[.val (.ref o0), .val (.int p1), .val (.int p2)] [(.ref o0), (.ref docs)])) rfl rfl (hb hby d7_23)
        have pre17 : ∀ t, Steps p.tables e below (T17.setTop (mkF m 26 #[.val (.ref o0), .val (.int p1), .val (.int p2)] [(.ref docs), (.ref docs)])) t → P t := fun t k => pre16 t (st17 _ k)
        obtain ⟨clq18, Arq18, -, Sq18, Nq18', -, -⟩ := id V_docs
        have pre19 : ∀ t, Steps p.tables e below (T17.setTop (mkF m 29 #[.val (.ref o0), .val (.int p1), .val (.int p2)] [(.int (zz - (1 : Int32))), (.ref docs)])) t → P t := fun t k => pre17 t (by
            show Steps p.tables e below (T17.setTop (mkF m 26 #[.val (.ref o0), .val (.int p1), .val (.int p2)] [(.ref docs), (.ref docs)])) _
            refine X17.arraylength hx (by rw [e17]; exact Arq18.1) (State.isArrayOf_alike hZ.alike Arq18.2.1) (g := (mkF m 26 #[.val (.ref o0), .val (.int p1), .val (.int p2)] [(.ref docs), (.ref docs)])) rfl rfl (hb hby d7_26) _ ?_
            rw [len_of Sq18 Nq18']
            show Steps p.tables e below (T17.setTop (mkF m 27 #[.val (.ref o0), .val (.int p1), .val (.int p2)] [(.int zz), (.ref docs)])) _
            refine XS.iconst X17.here hx rfl (hb hby d7_27) ?_
            show Steps p.tables e below (T17.setTop (mkF m 28 #[.val (.ref o0), .val (.int p1), .val (.int p2)] [(.int (1 : Int32)), (.int zz), (.ref docs)])) _
            refine XS.isub X17.here hx rfl (hb hby d7_28) rfl ?_
            exact k)
        obtain ⟨clq20, Arq20, qq20, Sq20, Nq20', Hq20, Gq20⟩ := id V_docs
        have iq20 : ¬ ((zz - (1 : Int32)) < 0 ∨ clq20.slots.size ≤ ((zz - (1 : Int32))).toNatClampNeg) := inb_of Sq20 (own_last _ Nq20' hc5)
        have pre21 : ∀ t, Steps p.tables e below (T17.setTop (mkF m 31 #[.val (.ref o0), .val (.int p1), .val (.int p2)] [(.int p2), (.int x1)])) t → P t := fun t k => pre19 t (by
            show Steps p.tables e below (T17.setTop (mkF m 29 #[.val (.ref o0), .val (.int p1), .val (.int p2)] [(.int (zz - (1 : Int32))), (.ref docs)])) _
            refine X17.iaload hx (j := (zz - (1 : Int32))) (v := (.int x1)) (by rw [e17]; exact Arq20.1) (State.isArrayOf_alike hZ.alike Arq20.2.1) Arq20.2.2 iq20 (Hq20.at iq20 (hx1 hc5)) (g := (mkF m 29 #[.val (.ref o0), .val (.int p1), .val (.int p2)] [(.int (zz - (1 : Int32))), (.ref docs)])) rfl rfl (hb hby d7_29) _ ?_
            show Steps p.tables e below (T17.setTop (mkF m 30 #[.val (.ref o0), .val (.int p1), .val (.int p2)] [(.int x1)])) _
            refine XS.iloadN X17.here hx rfl (hb hby d7_30) rfl ?_
            exact k)
        by_cases hc22 : x1 < p2
        · have pre23 : ∀ t, Steps p.tables e below (T17.setTop (mkF m 39 #[.val (.ref o0), .val (.int p1), .val (.int p2)] [(.int (1 : Int32))])) t → P t := fun t k => pre21 t (by
              show Steps p.tables e below (T17.setTop (mkF m 31 #[.val (.ref o0), .val (.int p1), .val (.int p2)] [(.int p2), (.int x1)])) _
              refine XS.icmpNo X17.here hx rfl (hb hby d7_31) rfl (tlt hc22).2.1 ?_
              show Steps p.tables e below (T17.setTop (mkF m 34 #[.val (.ref o0), .val (.int p1), .val (.int p2)] [])) _
              refine XS.iconst X17.here hx rfl (hb hby d7_34) ?_
              show Steps p.tables e below (T17.setTop (mkF m 35 #[.val (.ref o0), .val (.int p1), .val (.int p2)] [(.int (1 : Int32))])) _
              refine XS.goto X17.here hx rfl (pc0 := 35) (pc' := 39) rfl (hb hby d7_35) (by decide) (by decide) ?_
              exact k)
          exact ⟨_, _, (1 : Int32), X17, e17, N0, (by first | (rw [if_neg hc5, if_neg hc12, if_pos hc22]; done) | simp only [if_neg hc5, if_neg hc12, if_pos hc22] | simp [if_neg hc5, if_neg hc12, if_pos hc22]), pre23⟩
        · have pre24 : ∀ t, Steps p.tables e below (T17.setTop (mkF m 39 #[.val (.ref o0), .val (.int p1), .val (.int p2)] [(.int (0 : Int32))])) t → P t := fun t k => pre21 t (by
              show Steps p.tables e below (T17.setTop (mkF m 31 #[.val (.ref o0), .val (.int p1), .val (.int p2)] [(.int p2), (.int x1)])) _
              refine XS.icmpYes X17.here hx rfl (pc0 := 31) (pc' := 38) rfl (hb hby d7_31) rfl (flt hc22).2.1 (by decide) (by decide) ?_
              show Steps p.tables e below (T17.setTop (mkF m 38 #[.val (.ref o0), .val (.int p1), .val (.int p2)] [])) _
              refine XS.iconst X17.here hx rfl (hb hby d7_38) ?_
              exact k)
          exact ⟨_, _, (0 : Int32), X17, e17, N0, (by first | (rw [if_neg hc5, if_neg hc12, if_neg hc22]; done) | simp only [if_neg hc5, if_neg hc12, if_neg hc22] | simp [if_neg hc5, if_neg hc12, if_neg hc22]), pre24⟩
  obtain ⟨fs, hr, hrun, hended, hW, hsame⟩ := X26.leave (v := some (.int v25)) (fun h => by rw [Bd.returns] at h; cases h)
  refine ⟨_, _, fin _ (pre26 _ ?_), hrun, hended, _, _, rfl, ?_, ⟨_, rfl⟩, hW, hsame.mono (by decide) (by decide)⟩
  · show Steps p.tables e below (T26.setTop (mkF m 39 #[.val (.ref o0), .val (.int p1), .val (.int p2)] [(.int v25)])) _
    have hnar : nar .boolean v25 = v25 := by subst hv25; first | rfl | (split <;> rfl) | ((try simp only []); (repeat' split) <;> rfl)
    exact retN X26 hx (t := .boolean) Bd.returns (by simp) (hb hby d7_39) (by rw [hnar]; exact hr)
  · show Q7 Z o0 p1 p2 docs kk zz vs x0 x1 h0 n0 _ T26.heap _
    rw [e26]
    exact ⟨(by subst hv25; first | rfl | simp only [own_f7]), N26, rfl⟩
theorem own_pd1 : parseMethodDescriptor "(II)I" = some ⟨[.int, .int], some .int⟩ := by decide +kernel
theorem own_pd2 : parseMethodDescriptor "([I[II)V" = some ⟨[(.array .int), (.array .int), .int], none⟩ := by decide +kernel
theorem own_pd3 : parseMethodDescriptor "(II)Z" = some ⟨[.int, .int], some .boolean⟩ := by decide +kernel
theorem own_pd4 : parseMethodDescriptor "(III)Z" = some ⟨[.int, .int, .int], some .boolean⟩ := by decide +kernel
theorem pn_0 : plainName "com/example/lexivec/lexivec/lucene/SparseListWithinPinLaw" = true := by first | (simp [plainName, overriddenIn]; done) | decide +kernel
theorem ef_0 (m : MethodId) (p0 : Int32) (p1 : Int32) (p2 : Int32) (p3 : Int32) (p4 : Int32) (p5 : Int32) : entryFrame m #[(.int p0), (.int p1), (.int p2), (.int p3), (.int p4), (.int p5)] maxLocals = mkF m 0 #[.val (.int p0), .val (.int p1), .val (.int p2), .val (.int p3), .val (.int p4), .val (.int p5), .unset, .unset, .unset, .unset, .unset, .unset, .unset, .unset] [] := by first | (simp [entryFrame, mkF, argsToLocals, Value.category, maxLocals]; done) | rfl
def own_f0 (p0 : Int32) (p1 : Int32) (p2 : Int32) (p3 : Int32) (p4 : Int32) (p5 : Int32) : Int32 := (let v2 : Int32 := (p5 &&& (3 : Int32)); (let v6 : Int32 := (own_f1 p0 p1); (let v10 : Int32 := (own_f1 v6 p2); (let v14 : Int32 := (own_f2 p0 p1); (let v18 : Int32 := (own_f2 v14 p2); (if v2 = (0 : Int32) then (let v61 : Int32 := (own_f7 p3 p4 (0 : Int32) (0 : Int32) (0 : Int32)); (if v61 = (1 : Int32) then (1 : Int32) else (0 : Int32))) else (if v2 = (1 : Int32) then (let v100 : Int32 := (own_f6 p0 p3 p4); (let v104 : Int32 := (own_f7 p3 p4 (1 : Int32) p0 p0); (if v104 = v100 then (1 : Int32) else (0 : Int32)))) else (if v2 = (2 : Int32) then (let v120 : Int32 := (own_f1 p0 p1); (let v128 : Int32 := (own_f2 p0 p1); (let v154 : Int32 := (own_f6 p0 p3 p4); (let v165 : Int32 := (if v154 = (0 : Int32) then (0 : Int32) else (let v160 : Int32 := (own_f6 p1 p3 p4); (if v160 = (0 : Int32) then (0 : Int32) else (1 : Int32)))); (let v169 : Int32 := (own_f7 p3 p4 (2 : Int32) v120 v128); (if v169 = v165 then (1 : Int32) else (0 : Int32))))))) else (let v216 : Int32 := (own_f6 p0 p3 p4); (let v233 : Int32 := (if v216 = (0 : Int32) then (0 : Int32) else (let v222 : Int32 := (own_f6 p1 p3 p4); (if v222 = (0 : Int32) then (0 : Int32) else (let v228 : Int32 := (own_f6 p2 p3 p4); (if v228 = (0 : Int32) then (0 : Int32) else (1 : Int32)))))); (let v237 : Int32 := (own_f7 p3 p4 (3 : Int32) v10 v18); (if v237 = v233 then (1 : Int32) else (0 : Int32)))))))))))))
def Q0 (Z : State) (p0 : Int32) (p1 : Int32) (p2 : Int32) (p3 : Int32) (p4 : Int32) (p5 : Int32) (h0 : Heap) (n0 : Nat) (v : Option Value) (h : Heap) (L : List Loc) : Prop := v = some (.int (own_f0 p0 p1 p2 p3 p4 p5)) ∧ Fr n0 L
set_option maxRecDepth 65536 in
set_option maxHeartbeats 40000000 in
theorem rm0 (l : Launch) (Z : State) (a0 : Array Value) (hw : ∀ d ∈ tables_1, d.before a0 Z = true) (ws : List Jvm.Cond) (p0 : Int32) (p1 : Int32) (p2 : Int32) (p3 : Int32) (p4 : Int32) (p5 : Int32) (h0 : Heap) (n0 : Nat) (Z0 : n0 ≤ h0.size) :
    MetFree l x (head1 (Jvm.Cond.code x code maxLocals ret :: ws) room_1) (fun a U => a = #[(.int p0), (.int p1), (.int p2), (.int p3), (.int p4), (.int p5)] ∧ Z.Warmed39 U.vm ∧ U.heap = h0) (fun _ _ _ _ _ => True) (fun _ U o U' => ∃ v L, o = .returned v ∧ Q0 Z p0 p1 p2 p3 p4 p5 h0 n0 v U'.heap L ∧ FrameEnd U o U' L room_1.cells room_1.slots) := by
  refine MetFree.of_bodySF (plainFor_of_name pn_0) hisR ?_
  intro p e s m args below meth c s₁ Bd hml0 hP hK
  obtain ⟨rfl, hZ, hh⟩ := hP
  have hx := Bd.exec
  have hby := Bd.bytes
  have hml : c.maxLocals = 14 := hml0
  have hown : s.vm.findClass "com/example/lexivec/lexivec/lucene/SparseListWithinPinLaw" = some m.cls := findClass_of_methodNamed Bd.named
  have hnm := (name_of_methodNamed Bd.named Bd.method).1
  have X0 : Stand p l e room_1 s m #[(.int p0), (.int p1), (.int p2), (.int p3), (.int p4), (.int p5)] below meth c s₁ [] 0 0 := Stand.of_body Bd
  have e0 : s₁.heap = h0 := by rw [← hh, Bd.state]; rfl
  have N0 := Fr.nil n0
  obtain ⟨P, pre0, fin⟩ : ∃ P : State → Prop, (∀ t, Steps p.tables e below (s₁.setTop (mkF m 0 #[.val (.int p0), .val (.int p1), .val (.int p2), .val (.int p3), .val (.int p4), .val (.int p5), .unset, .unset, .unset, .unset, .unset, .unset, .unset, .unset] [])) t → P t) ∧ (∀ t, P t → Steps p.tables e below (s₁.setTop (entryFrame m #[(.int p0), (.int p1), (.int p2), (.int p3), (.int p4), (.int p5)] maxLocals)) t) := ⟨fun t => Steps p.tables e below (s₁.setTop (entryFrame m #[(.int p0), (.int p1), (.int p2), (.int p3), (.int p4), (.int p5)] maxLocals)) t, fun t k => castTop (ef_0 m p0 p1 p2 p3 p4 p5) k, fun t k => k⟩
  have K0 : Keep h0 h0 [] := Keep.refl _ _
  have pre1 : ∀ t, Steps p.tables e below (s₁.setTop (mkF m 6 #[.val (.int p0), .val (.int p1), .val (.int p2), .val (.int p3), .val (.int p4), .val (.int p5), .val (.int (p5 &&& (3 : Int32))), .unset, .unset, .unset, .unset, .unset, .unset, .unset] [])) t → P t := fun t k => pre0 t (by
      show Steps p.tables e below (s₁.setTop (mkF m 0 #[.val (.int p0), .val (.int p1), .val (.int p2), .val (.int p3), .val (.int p4), .val (.int p5), .unset, .unset, .unset, .unset, .unset, .unset, .unset, .unset] [])) _
      refine XS.iload X0.here hx rfl (hb hby at_0) rfl ?_
      show Steps p.tables e below (s₁.setTop (mkF m 2 #[.val (.int p0), .val (.int p1), .val (.int p2), .val (.int p3), .val (.int p4), .val (.int p5), .unset, .unset, .unset, .unset, .unset, .unset, .unset, .unset] [(.int p5)])) _
      refine XS.iconst X0.here hx rfl (hb hby at_2) ?_
      show Steps p.tables e below (s₁.setTop (mkF m 3 #[.val (.int p0), .val (.int p1), .val (.int p2), .val (.int p3), .val (.int p4), .val (.int p5), .unset, .unset, .unset, .unset, .unset, .unset, .unset, .unset] [(.int (3 : Int32)), (.int p5)])) _
      refine XS.iand X0.here hx rfl (hb hby at_3) rfl ?_
      show Steps p.tables e below (s₁.setTop (mkF m 4 #[.val (.int p0), .val (.int p1), .val (.int p2), .val (.int p3), .val (.int p4), .val (.int p5), .unset, .unset, .unset, .unset, .unset, .unset, .unset, .unset] [(.int (p5 &&& (3 : Int32)))])) _
      refine XS.istore X0.here hx rfl (hb hby at_4) rfl (l' := #[.val (.int p0), .val (.int p1), .val (.int p2), .val (.int p3), .val (.int p4), .val (.int p5), .val (.int (p5 &&& (3 : Int32))), .unset, .unset, .unset, .unset, .unset, .unset, .unset]) rfl ?_
      exact k)
  obtain ⟨v2, hv2⟩ : ∃ z : Int32, z = (p5 &&& (3 : Int32)) := ⟨_, rfl⟩
  have pre3 : ∀ t, Steps p.tables e below (s₁.setTop (mkF m 6 #[.val (.int p0), .val (.int p1), .val (.int p2), .val (.int p3), .val (.int p4), .val (.int p5), .val (.int v2), .unset, .unset, .unset, .unset, .unset, .unset, .unset] [])) t → P t := fun t k => pre1 t (by subst hv2; exact k)
  have pre4 : ∀ t, Steps p.tables e below (s₁.setTop (mkF m 8 #[.val (.int p0), .val (.int p1), .val (.int p2), .val (.int p3), .val (.int p4), .val (.int p5), .val (.int v2), .unset, .unset, .unset, .unset, .unset, .unset, .unset] [(.int p1), (.int p0)])) t → P t := fun t k => pre3 t (by
      show Steps p.tables e below (s₁.setTop (mkF m 6 #[.val (.int p0), .val (.int p1), .val (.int p2), .val (.int p3), .val (.int p4), .val (.int p5), .val (.int v2), .unset, .unset, .unset, .unset, .unset, .unset, .unset] [])) _
      refine XS.iloadN X0.here hx rfl (hb hby at_6) rfl ?_
      show Steps p.tables e below (s₁.setTop (mkF m 7 #[.val (.int p0), .val (.int p1), .val (.int p2), .val (.int p3), .val (.int p4), .val (.int p5), .val (.int v2), .unset, .unset, .unset, .unset, .unset, .unset, .unset] [(.int p0)])) _
      refine XS.iloadN X0.here hx rfl (hb hby at_7) rfl ?_
      exact k)
  obtain ⟨_, _, ⟨T5, L5, k5, n5⟩, -, X5, ⟨Lc5, hQ5, l5, y5, z5⟩, st5⟩ := Jvm.LawKit.callS X0 hx (y := (⟨"java/lang/Math", "min", "(II)I"⟩ : MethodName)) hown (mvT hZ (hw _ (List.mem_of_getElem? (i := 0) rfl))) (mvT hZ (hw _ (List.mem_of_getElem? (i := 1) rfl))) (mvT hZ (hw _ (List.mem_of_getElem? (i := 2) rfl))) (mvT hZ (hw _ (List.mem_of_getElem? (i := 3) rfl))) (by decide) (backOf (W := 0) (rm1 l Z a0 hw [] p0 p1 h0 n0 Z0 ) hZ (hw _ (List.mem_of_getElem? (i := 3) rfl)) (hw _ (List.mem_of_getElem? (i := 2) rfl)) (by decide) (by decide)) (g := (mkF m 8 #[.val (.int p0), .val (.int p1), .val (.int p2), .val (.int p3), .val (.int p4), .val (.int p5), .val (.int v2), .unset, .unset, .unset, .unset, .unset, .unset, .unset] [(.int p1), (.int p0)])) rfl (by rw [hml]; rfl) (argsL := [(.int p0), (.int p1)]) (rest := []) (lenOf own_pd1 rfl) rfl (by show 2 * 0 + _ ≤ _; exact Nat.le_of_eq rfl) (hb hby at_8) (fun _ _ => ⟨rfl, e0, (by decide : 0 + 0 ≤ _), (by decide : 0 + 0 ≤ _)⟩)
  dsimp only [Pt.U, Pt.locs, Pt.cells, Pt.slots] at X5 l5 y5 z5 st5 hQ5
  subst l5 y5 z5
  obtain ⟨rfl, N5q, e5⟩ := hQ5
  have N5 := Fr.app N0 N5q
  have pre5 : ∀ t, Steps p.tables e below (T5.setTop (mkF m 11 #[.val (.int p0), .val (.int p1), .val (.int p2), .val (.int p3), .val (.int p4), .val (.int p5), .val (.int v2), .unset, .unset, .unset, .unset, .unset, .unset, .unset] [(.int (own_f1 p0 p1))])) t → P t := fun t k => pre4 t (st5 _ k)
  obtain ⟨v6, hv6⟩ : ∃ z : Int32, z = (own_f1 p0 p1) := ⟨_, rfl⟩
  have pre7 : ∀ t, Steps p.tables e below (T5.setTop (mkF m 11 #[.val (.int p0), .val (.int p1), .val (.int p2), .val (.int p3), .val (.int p4), .val (.int p5), .val (.int v2), .unset, .unset, .unset, .unset, .unset, .unset, .unset] [(.int v6)])) t → P t := fun t k => pre5 t (by subst hv6; exact k)
  have pre8 : ∀ t, Steps p.tables e below (T5.setTop (mkF m 12 #[.val (.int p0), .val (.int p1), .val (.int p2), .val (.int p3), .val (.int p4), .val (.int p5), .val (.int v2), .unset, .unset, .unset, .unset, .unset, .unset, .unset] [(.int p2), (.int v6)])) t → P t := fun t k => pre7 t (by
      show Steps p.tables e below (T5.setTop (mkF m 11 #[.val (.int p0), .val (.int p1), .val (.int p2), .val (.int p3), .val (.int p4), .val (.int p5), .val (.int v2), .unset, .unset, .unset, .unset, .unset, .unset, .unset] [(.int v6)])) _
      refine XS.iloadN X5.here hx rfl (hb hby at_11) rfl ?_
      exact k)
  obtain ⟨_, _, ⟨T9, L9, k9, n9⟩, -, X9, ⟨Lc9, hQ9, l9, y9, z9⟩, st9⟩ := Jvm.LawKit.callS X5 hx (y := (⟨"java/lang/Math", "min", "(II)I"⟩ : MethodName)) hown (mvT hZ (hw _ (List.mem_of_getElem? (i := 0) rfl))) (mvT hZ (hw _ (List.mem_of_getElem? (i := 1) rfl))) (mvT hZ (hw _ (List.mem_of_getElem? (i := 2) rfl))) (mvT hZ (hw _ (List.mem_of_getElem? (i := 3) rfl))) (by decide) (backOf (W := 0) (rm1 l Z a0 hw [] v6 p2 h0 n0 Z0 ) hZ (hw _ (List.mem_of_getElem? (i := 3) rfl)) (hw _ (List.mem_of_getElem? (i := 2) rfl)) (by decide) (by decide)) (g := (mkF m 12 #[.val (.int p0), .val (.int p1), .val (.int p2), .val (.int p3), .val (.int p4), .val (.int p5), .val (.int v2), .unset, .unset, .unset, .unset, .unset, .unset, .unset] [(.int p2), (.int v6)])) rfl (by rw [hml]; rfl) (argsL := [(.int v6), (.int p2)]) (rest := []) (lenOf own_pd1 rfl) rfl (by show 2 * 0 + _ ≤ _; exact Nat.le_of_eq rfl) (hb hby at_12) (fun _ _ => ⟨rfl, e5, (by decide : 0 + 0 ≤ _), (by decide : 0 + 0 ≤ _)⟩)
  dsimp only [Pt.U, Pt.locs, Pt.cells, Pt.slots] at X9 l9 y9 z9 st9 hQ9
  subst l9 y9 z9
  obtain ⟨rfl, N9q, e9⟩ := hQ9
  have N9 := Fr.app N5 N9q
  have pre9 : ∀ t, Steps p.tables e below (T9.setTop (mkF m 15 #[.val (.int p0), .val (.int p1), .val (.int p2), .val (.int p3), .val (.int p4), .val (.int p5), .val (.int v2), .unset, .unset, .unset, .unset, .unset, .unset, .unset] [(.int (own_f1 v6 p2))])) t → P t := fun t k => pre8 t (st9 _ k)
  obtain ⟨v10, hv10⟩ : ∃ z : Int32, z = (own_f1 v6 p2) := ⟨_, rfl⟩
  have pre11 : ∀ t, Steps p.tables e below (T9.setTop (mkF m 15 #[.val (.int p0), .val (.int p1), .val (.int p2), .val (.int p3), .val (.int p4), .val (.int p5), .val (.int v2), .unset, .unset, .unset, .unset, .unset, .unset, .unset] [(.int v10)])) t → P t := fun t k => pre9 t (by subst hv10; exact k)
  have pre12 : ∀ t, Steps p.tables e below (T9.setTop (mkF m 19 #[.val (.int p0), .val (.int p1), .val (.int p2), .val (.int p3), .val (.int p4), .val (.int p5), .val (.int v2), .val (.int v10), .unset, .unset, .unset, .unset, .unset, .unset] [(.int p1), (.int p0)])) t → P t := fun t k => pre11 t (by
      show Steps p.tables e below (T9.setTop (mkF m 15 #[.val (.int p0), .val (.int p1), .val (.int p2), .val (.int p3), .val (.int p4), .val (.int p5), .val (.int v2), .unset, .unset, .unset, .unset, .unset, .unset, .unset] [(.int v10)])) _
      refine XS.istore X9.here hx rfl (hb hby at_15) rfl (l' := #[.val (.int p0), .val (.int p1), .val (.int p2), .val (.int p3), .val (.int p4), .val (.int p5), .val (.int v2), .val (.int v10), .unset, .unset, .unset, .unset, .unset, .unset]) rfl ?_
      show Steps p.tables e below (T9.setTop (mkF m 17 #[.val (.int p0), .val (.int p1), .val (.int p2), .val (.int p3), .val (.int p4), .val (.int p5), .val (.int v2), .val (.int v10), .unset, .unset, .unset, .unset, .unset, .unset] [])) _
      refine XS.iloadN X9.here hx rfl (hb hby at_17) rfl ?_
      show Steps p.tables e below (T9.setTop (mkF m 18 #[.val (.int p0), .val (.int p1), .val (.int p2), .val (.int p3), .val (.int p4), .val (.int p5), .val (.int v2), .val (.int v10), .unset, .unset, .unset, .unset, .unset, .unset] [(.int p0)])) _
      refine XS.iloadN X9.here hx rfl (hb hby at_18) rfl ?_
      exact k)
  obtain ⟨_, _, ⟨T13, L13, k13, n13⟩, -, X13, ⟨Lc13, hQ13, l13, y13, z13⟩, st13⟩ := Jvm.LawKit.callS X9 hx (y := (⟨"java/lang/Math", "max", "(II)I"⟩ : MethodName)) hown (mvT hZ (hw _ (List.mem_of_getElem? (i := 4) rfl))) (mvT hZ (hw _ (List.mem_of_getElem? (i := 5) rfl))) (mvT hZ (hw _ (List.mem_of_getElem? (i := 2) rfl))) (mvT hZ (hw _ (List.mem_of_getElem? (i := 6) rfl))) (by decide) (backOf (W := 0) (rm2 l Z a0 hw [] p0 p1 h0 n0 Z0 ) hZ (hw _ (List.mem_of_getElem? (i := 6) rfl)) (hw _ (List.mem_of_getElem? (i := 2) rfl)) (by decide) (by decide)) (g := (mkF m 19 #[.val (.int p0), .val (.int p1), .val (.int p2), .val (.int p3), .val (.int p4), .val (.int p5), .val (.int v2), .val (.int v10), .unset, .unset, .unset, .unset, .unset, .unset] [(.int p1), (.int p0)])) rfl (by rw [hml]; rfl) (argsL := [(.int p0), (.int p1)]) (rest := []) (lenOf own_pd1 rfl) rfl (by show 2 * 0 + _ ≤ _; exact Nat.le_of_eq rfl) (hb hby at_19) (fun _ _ => ⟨rfl, e9, (by decide : 0 + 0 ≤ _), (by decide : 0 + 0 ≤ _)⟩)
  dsimp only [Pt.U, Pt.locs, Pt.cells, Pt.slots] at X13 l13 y13 z13 st13 hQ13
  subst l13 y13 z13
  obtain ⟨rfl, N13q, e13⟩ := hQ13
  have N13 := Fr.app N9 N13q
  have pre13 : ∀ t, Steps p.tables e below (T13.setTop (mkF m 22 #[.val (.int p0), .val (.int p1), .val (.int p2), .val (.int p3), .val (.int p4), .val (.int p5), .val (.int v2), .val (.int v10), .unset, .unset, .unset, .unset, .unset, .unset] [(.int (own_f2 p0 p1))])) t → P t := fun t k => pre12 t (st13 _ k)
  obtain ⟨v14, hv14⟩ : ∃ z : Int32, z = (own_f2 p0 p1) := ⟨_, rfl⟩
  have pre15 : ∀ t, Steps p.tables e below (T13.setTop (mkF m 22 #[.val (.int p0), .val (.int p1), .val (.int p2), .val (.int p3), .val (.int p4), .val (.int p5), .val (.int v2), .val (.int v10), .unset, .unset, .unset, .unset, .unset, .unset] [(.int v14)])) t → P t := fun t k => pre13 t (by subst hv14; exact k)
  have pre16 : ∀ t, Steps p.tables e below (T13.setTop (mkF m 23 #[.val (.int p0), .val (.int p1), .val (.int p2), .val (.int p3), .val (.int p4), .val (.int p5), .val (.int v2), .val (.int v10), .unset, .unset, .unset, .unset, .unset, .unset] [(.int p2), (.int v14)])) t → P t := fun t k => pre15 t (by
      show Steps p.tables e below (T13.setTop (mkF m 22 #[.val (.int p0), .val (.int p1), .val (.int p2), .val (.int p3), .val (.int p4), .val (.int p5), .val (.int v2), .val (.int v10), .unset, .unset, .unset, .unset, .unset, .unset] [(.int v14)])) _
      refine XS.iloadN X13.here hx rfl (hb hby at_22) rfl ?_
      exact k)
  obtain ⟨_, _, ⟨T17, L17, k17, n17⟩, -, X17, ⟨Lc17, hQ17, l17, y17, z17⟩, st17⟩ := Jvm.LawKit.callS X13 hx (y := (⟨"java/lang/Math", "max", "(II)I"⟩ : MethodName)) hown (mvT hZ (hw _ (List.mem_of_getElem? (i := 4) rfl))) (mvT hZ (hw _ (List.mem_of_getElem? (i := 5) rfl))) (mvT hZ (hw _ (List.mem_of_getElem? (i := 2) rfl))) (mvT hZ (hw _ (List.mem_of_getElem? (i := 6) rfl))) (by decide) (backOf (W := 0) (rm2 l Z a0 hw [] v14 p2 h0 n0 Z0 ) hZ (hw _ (List.mem_of_getElem? (i := 6) rfl)) (hw _ (List.mem_of_getElem? (i := 2) rfl)) (by decide) (by decide)) (g := (mkF m 23 #[.val (.int p0), .val (.int p1), .val (.int p2), .val (.int p3), .val (.int p4), .val (.int p5), .val (.int v2), .val (.int v10), .unset, .unset, .unset, .unset, .unset, .unset] [(.int p2), (.int v14)])) rfl (by rw [hml]; rfl) (argsL := [(.int v14), (.int p2)]) (rest := []) (lenOf own_pd1 rfl) rfl (by show 2 * 0 + _ ≤ _; exact Nat.le_of_eq rfl) (hb hby at_23) (fun _ _ => ⟨rfl, e13, (by decide : 0 + 0 ≤ _), (by decide : 0 + 0 ≤ _)⟩)
  dsimp only [Pt.U, Pt.locs, Pt.cells, Pt.slots] at X17 l17 y17 z17 st17 hQ17
  subst l17 y17 z17
  obtain ⟨rfl, N17q, e17⟩ := hQ17
  have N17 := Fr.app N13 N17q
  have pre17 : ∀ t, Steps p.tables e below (T17.setTop (mkF m 26 #[.val (.int p0), .val (.int p1), .val (.int p2), .val (.int p3), .val (.int p4), .val (.int p5), .val (.int v2), .val (.int v10), .unset, .unset, .unset, .unset, .unset, .unset] [(.int (own_f2 v14 p2))])) t → P t := fun t k => pre16 t (st17 _ k)
  obtain ⟨v18, hv18⟩ : ∃ z : Int32, z = (own_f2 v14 p2) := ⟨_, rfl⟩
  have pre19 : ∀ t, Steps p.tables e below (T17.setTop (mkF m 26 #[.val (.int p0), .val (.int p1), .val (.int p2), .val (.int p3), .val (.int p4), .val (.int p5), .val (.int v2), .val (.int v10), .unset, .unset, .unset, .unset, .unset, .unset] [(.int v18)])) t → P t := fun t k => pre17 t (by subst hv18; exact k)
  have pre20 : ∀ t, Steps p.tables e below (T17.setTop (mkF m 30 #[.val (.int p0), .val (.int p1), .val (.int p2), .val (.int p3), .val (.int p4), .val (.int p5), .val (.int v2), .val (.int v10), .val (.int v18), .unset, .unset, .unset, .unset, .unset] [(.int p1), (.int p0)])) t → P t := fun t k => pre19 t (by
      show Steps p.tables e below (T17.setTop (mkF m 26 #[.val (.int p0), .val (.int p1), .val (.int p2), .val (.int p3), .val (.int p4), .val (.int p5), .val (.int v2), .val (.int v10), .unset, .unset, .unset, .unset, .unset, .unset] [(.int v18)])) _
      refine XS.istore X17.here hx rfl (hb hby at_26) rfl (l' := #[.val (.int p0), .val (.int p1), .val (.int p2), .val (.int p3), .val (.int p4), .val (.int p5), .val (.int v2), .val (.int v10), .val (.int v18), .unset, .unset, .unset, .unset, .unset]) rfl ?_
      show Steps p.tables e below (T17.setTop (mkF m 28 #[.val (.int p0), .val (.int p1), .val (.int p2), .val (.int p3), .val (.int p4), .val (.int p5), .val (.int v2), .val (.int v10), .val (.int v18), .unset, .unset, .unset, .unset, .unset] [])) _
      refine XS.iloadN X17.here hx rfl (hb hby at_28) rfl ?_
      show Steps p.tables e below (T17.setTop (mkF m 29 #[.val (.int p0), .val (.int p1), .val (.int p2), .val (.int p3), .val (.int p4), .val (.int p5), .val (.int v2), .val (.int v10), .val (.int v18), .unset, .unset, .unset, .unset, .unset] [(.int p0)])) _
      refine XS.iloadN X17.here hx rfl (hb hby at_29) rfl ?_
      exact k)
  obtain ⟨_, _, ⟨T21, L21, k21, n21⟩, -, X21, ⟨Lc21, hQ21, l21, y21, z21⟩, st21⟩ := Jvm.LawKit.callS X17 hx (y := (⟨"java/lang/Math", "min", "(II)I"⟩ : MethodName)) hown (mvT hZ (hw _ (List.mem_of_getElem? (i := 0) rfl))) (mvT hZ (hw _ (List.mem_of_getElem? (i := 1) rfl))) (mvT hZ (hw _ (List.mem_of_getElem? (i := 2) rfl))) (mvT hZ (hw _ (List.mem_of_getElem? (i := 3) rfl))) (by decide) (backOf (W := 0) (rm1 l Z a0 hw [] p0 p1 h0 n0 Z0 ) hZ (hw _ (List.mem_of_getElem? (i := 3) rfl)) (hw _ (List.mem_of_getElem? (i := 2) rfl)) (by decide) (by decide)) (g := (mkF m 30 #[.val (.int p0), .val (.int p1), .val (.int p2), .val (.int p3), .val (.int p4), .val (.int p5), .val (.int v2), .val (.int v10), .val (.int v18), .unset, .unset, .unset, .unset, .unset] [(.int p1), (.int p0)])) rfl (by rw [hml]; rfl) (argsL := [(.int p0), (.int p1)]) (rest := []) (lenOf own_pd1 rfl) rfl (by show 2 * 0 + _ ≤ _; exact Nat.le_of_eq rfl) (hb hby at_30) (fun _ _ => ⟨rfl, e17, (by decide : 0 + 0 ≤ _), (by decide : 0 + 0 ≤ _)⟩)
  dsimp only [Pt.U, Pt.locs, Pt.cells, Pt.slots] at X21 l21 y21 z21 st21 hQ21
  subst l21 y21 z21
  obtain ⟨rfl, N21q, e21⟩ := hQ21
  have N21 := Fr.app N17 N21q
  have pre21 : ∀ t, Steps p.tables e below (T21.setTop (mkF m 33 #[.val (.int p0), .val (.int p1), .val (.int p2), .val (.int p3), .val (.int p4), .val (.int p5), .val (.int v2), .val (.int v10), .val (.int v18), .unset, .unset, .unset, .unset, .unset] [(.int (own_f1 p0 p1))])) t → P t := fun t k => pre20 t (st21 _ k)
  obtain ⟨v22, hv22⟩ : ∃ z : Int32, z = (own_f1 p0 p1) := ⟨_, rfl⟩
  have pre23 : ∀ t, Steps p.tables e below (T21.setTop (mkF m 33 #[.val (.int p0), .val (.int p1), .val (.int p2), .val (.int p3), .val (.int p4), .val (.int p5), .val (.int v2), .val (.int v10), .val (.int v18), .unset, .unset, .unset, .unset, .unset] [(.int v22)])) t → P t := fun t k => pre21 t (by subst hv22; exact k)
  have pre24 : ∀ t, Steps p.tables e below (T21.setTop (mkF m 35 #[.val (.int p0), .val (.int p1), .val (.int p2), .val (.int p3), .val (.int p4), .val (.int p5), .val (.int v2), .val (.int v10), .val (.int v18), .unset, .unset, .unset, .unset, .unset] [(.int p1), (.int p0), (.int v22)])) t → P t := fun t k => pre23 t (by
      show Steps p.tables e below (T21.setTop (mkF m 33 #[.val (.int p0), .val (.int p1), .val (.int p2), .val (.int p3), .val (.int p4), .val (.int p5), .val (.int v2), .val (.int v10), .val (.int v18), .unset, .unset, .unset, .unset, .unset] [(.int v22)])) _
      refine XS.iloadN X21.here hx rfl (hb hby at_33) rfl ?_
      show Steps p.tables e below (T21.setTop (mkF m 34 #[.val (.int p0), .val (.int p1), .val (.int p2), .val (.int p3), .val (.int p4), .val (.int p5), .val (.int v2), .val (.int v10), .val (.int v18), .unset, .unset, .unset, .unset, .unset] [(.int p0), (.int v22)])) _
      refine XS.iloadN X21.here hx rfl (hb hby at_34) rfl ?_
      exact k)
  obtain ⟨_, _, ⟨T25, L25, k25, n25⟩, -, X25, ⟨Lc25, hQ25, l25, y25, z25⟩, st25⟩ := Jvm.LawKit.callS X21 hx (y := (⟨"java/lang/Math", "max", "(II)I"⟩ : MethodName)) hown (mvT hZ (hw _ (List.mem_of_getElem? (i := 4) rfl))) (mvT hZ (hw _ (List.mem_of_getElem? (i := 5) rfl))) (mvT hZ (hw _ (List.mem_of_getElem? (i := 2) rfl))) (mvT hZ (hw _ (List.mem_of_getElem? (i := 6) rfl))) (by decide) (backOf (W := 1) (rm2 l Z a0 hw [] p0 p1 h0 n0 Z0 ) hZ (hw _ (List.mem_of_getElem? (i := 6) rfl)) (hw _ (List.mem_of_getElem? (i := 2) rfl)) (by decide) (by decide)) (g := (mkF m 35 #[.val (.int p0), .val (.int p1), .val (.int p2), .val (.int p3), .val (.int p4), .val (.int p5), .val (.int v2), .val (.int v10), .val (.int v18), .unset, .unset, .unset, .unset, .unset] [(.int p1), (.int p0), (.int v22)])) rfl (by rw [hml]; rfl) (argsL := [(.int p0), (.int p1)]) (rest := [(.int v22)]) (lenOf own_pd1 rfl) rfl (by show 2 * 0 + _ ≤ _; exact Nat.le_of_eq rfl) (hb hby at_35) (fun _ _ => ⟨rfl, e21, (by decide : 0 + 0 ≤ _), (by decide : 0 + 0 ≤ _)⟩)
  dsimp only [Pt.U, Pt.locs, Pt.cells, Pt.slots] at X25 l25 y25 z25 st25 hQ25
  subst l25 y25 z25
  obtain ⟨rfl, N25q, e25⟩ := hQ25
  have N25 := Fr.app N21 N25q
  have pre25 : ∀ t, Steps p.tables e below (T25.setTop (mkF m 38 #[.val (.int p0), .val (.int p1), .val (.int p2), .val (.int p3), .val (.int p4), .val (.int p5), .val (.int v2), .val (.int v10), .val (.int v18), .unset, .unset, .unset, .unset, .unset] [(.int (own_f2 p0 p1)), (.int v22)])) t → P t := fun t k => pre24 t (st25 _ k)
  obtain ⟨v26, hv26⟩ : ∃ z : Int32, z = (own_f2 p0 p1) := ⟨_, rfl⟩
  have pre27 : ∀ t, Steps p.tables e below (T25.setTop (mkF m 38 #[.val (.int p0), .val (.int p1), .val (.int p2), .val (.int p3), .val (.int p4), .val (.int p5), .val (.int v2), .val (.int v10), .val (.int v18), .unset, .unset, .unset, .unset, .unset] [(.int v26), (.int v22)])) t → P t := fun t k => pre25 t (by subst hv26; exact k)
  have pre28 : ∀ t, Steps p.tables e below (T25.setTop (mkF m 39 #[.val (.int p0), .val (.int p1), .val (.int p2), .val (.int p3), .val (.int p4), .val (.int p5), .val (.int v2), .val (.int v10), .val (.int v18), .unset, .unset, .unset, .unset, .unset] [(.int p2), (.int v26), (.int v22)])) t → P t := fun t k => pre27 t (by
      show Steps p.tables e below (T25.setTop (mkF m 38 #[.val (.int p0), .val (.int p1), .val (.int p2), .val (.int p3), .val (.int p4), .val (.int p5), .val (.int v2), .val (.int v10), .val (.int v18), .unset, .unset, .unset, .unset, .unset] [(.int v26), (.int v22)])) _
      refine XS.iloadN X25.here hx rfl (hb hby at_38) rfl ?_
      exact k)
  obtain ⟨_, _, ⟨T29, L29, k29, n29⟩, -, X29, ⟨Lc29, hQ29, l29, y29, z29⟩, st29⟩ := Jvm.LawKit.callS X25 hx (y := (⟨"java/lang/Math", "min", "(II)I"⟩ : MethodName)) hown (mvT hZ (hw _ (List.mem_of_getElem? (i := 0) rfl))) (mvT hZ (hw _ (List.mem_of_getElem? (i := 1) rfl))) (mvT hZ (hw _ (List.mem_of_getElem? (i := 2) rfl))) (mvT hZ (hw _ (List.mem_of_getElem? (i := 3) rfl))) (by decide) (backOf (W := 1) (rm1 l Z a0 hw [] v26 p2 h0 n0 Z0 ) hZ (hw _ (List.mem_of_getElem? (i := 3) rfl)) (hw _ (List.mem_of_getElem? (i := 2) rfl)) (by decide) (by decide)) (g := (mkF m 39 #[.val (.int p0), .val (.int p1), .val (.int p2), .val (.int p3), .val (.int p4), .val (.int p5), .val (.int v2), .val (.int v10), .val (.int v18), .unset, .unset, .unset, .unset, .unset] [(.int p2), (.int v26), (.int v22)])) rfl (by rw [hml]; rfl) (argsL := [(.int v26), (.int p2)]) (rest := [(.int v22)]) (lenOf own_pd1 rfl) rfl (by show 2 * 0 + _ ≤ _; exact Nat.le_of_eq rfl) (hb hby at_39) (fun _ _ => ⟨rfl, e25, (by decide : 0 + 0 ≤ _), (by decide : 0 + 0 ≤ _)⟩)
  dsimp only [Pt.U, Pt.locs, Pt.cells, Pt.slots] at X29 l29 y29 z29 st29 hQ29
  subst l29 y29 z29
  obtain ⟨rfl, N29q, e29⟩ := hQ29
  have N29 := Fr.app N25 N29q
  have pre29 : ∀ t, Steps p.tables e below (T29.setTop (mkF m 42 #[.val (.int p0), .val (.int p1), .val (.int p2), .val (.int p3), .val (.int p4), .val (.int p5), .val (.int v2), .val (.int v10), .val (.int v18), .unset, .unset, .unset, .unset, .unset] [(.int (own_f1 v26 p2)), (.int v22)])) t → P t := fun t k => pre28 t (st29 _ k)
  obtain ⟨v30, hv30⟩ : ∃ z : Int32, z = (own_f1 v26 p2) := ⟨_, rfl⟩
  have pre31 : ∀ t, Steps p.tables e below (T29.setTop (mkF m 42 #[.val (.int p0), .val (.int p1), .val (.int p2), .val (.int p3), .val (.int p4), .val (.int p5), .val (.int v2), .val (.int v10), .val (.int v18), .unset, .unset, .unset, .unset, .unset] [(.int v30), (.int v22)])) t → P t := fun t k => pre29 t (by subst hv30; exact k)
  obtain ⟨_, _, ⟨T32, L32, k32, n32⟩, -, X32, ⟨Lc32, hQ32, l32, y32, z32⟩, st32⟩ := Jvm.LawKit.callS X29 hx (y := (⟨"java/lang/Math", "max", "(II)I"⟩ : MethodName)) hown (mvT hZ (hw _ (List.mem_of_getElem? (i := 4) rfl))) (mvT hZ (hw _ (List.mem_of_getElem? (i := 5) rfl))) (mvT hZ (hw _ (List.mem_of_getElem? (i := 2) rfl))) (mvT hZ (hw _ (List.mem_of_getElem? (i := 6) rfl))) (by decide) (backOf (W := 0) (rm2 l Z a0 hw [] v22 v30 h0 n0 Z0 ) hZ (hw _ (List.mem_of_getElem? (i := 6) rfl)) (hw _ (List.mem_of_getElem? (i := 2) rfl)) (by decide) (by decide)) (g := (mkF m 42 #[.val (.int p0), .val (.int p1), .val (.int p2), .val (.int p3), .val (.int p4), .val (.int p5), .val (.int v2), .val (.int v10), .val (.int v18), .unset, .unset, .unset, .unset, .unset] [(.int v30), (.int v22)])) rfl (by rw [hml]; rfl) (argsL := [(.int v22), (.int v30)]) (rest := []) (lenOf own_pd1 rfl) rfl (by show 2 * 0 + _ ≤ _; exact Nat.le_of_eq rfl) (hb hby at_42) (fun _ _ => ⟨rfl, e29, (by decide : 0 + 0 ≤ _), (by decide : 0 + 0 ≤ _)⟩)
  dsimp only [Pt.U, Pt.locs, Pt.cells, Pt.slots] at X32 l32 y32 z32 st32 hQ32
  subst l32 y32 z32
  obtain ⟨rfl, N32q, e32⟩ := hQ32
  have N32 := Fr.app N29 N32q
  have pre32 : ∀ t, Steps p.tables e below (T32.setTop (mkF m 45 #[.val (.int p0), .val (.int p1), .val (.int p2), .val (.int p3), .val (.int p4), .val (.int p5), .val (.int v2), .val (.int v10), .val (.int v18), .unset, .unset, .unset, .unset, .unset] [(.int (own_f2 v22 v30))])) t → P t := fun t k => pre31 t (st32 _ k)
  obtain ⟨v33, hv33⟩ : ∃ z : Int32, z = (own_f2 v22 v30) := ⟨_, rfl⟩
  have pre34 : ∀ t, Steps p.tables e below (T32.setTop (mkF m 45 #[.val (.int p0), .val (.int p1), .val (.int p2), .val (.int p3), .val (.int p4), .val (.int p5), .val (.int v2), .val (.int v10), .val (.int v18), .unset, .unset, .unset, .unset, .unset] [(.int v33)])) t → P t := fun t k => pre32 t (by subst hv33; exact k)
  have pre35 : ∀ t, Steps p.tables e below (T32.setTop (mkF m 49 #[.val (.int p0), .val (.int p1), .val (.int p2), .val (.int p3), .val (.int p4), .val (.int p5), .val (.int v2), .val (.int v10), .val (.int v18), .val (.int v33), .unset, .unset, .unset, .unset] [(.int v2)])) t → P t := fun t k => pre34 t (by
      show Steps p.tables e below (T32.setTop (mkF m 45 #[.val (.int p0), .val (.int p1), .val (.int p2), .val (.int p3), .val (.int p4), .val (.int p5), .val (.int v2), .val (.int v10), .val (.int v18), .unset, .unset, .unset, .unset, .unset] [(.int v33)])) _
      refine XS.istore X32.here hx rfl (hb hby at_45) rfl (l' := #[.val (.int p0), .val (.int p1), .val (.int p2), .val (.int p3), .val (.int p4), .val (.int p5), .val (.int v2), .val (.int v10), .val (.int v18), .val (.int v33), .unset, .unset, .unset, .unset]) rfl ?_
      show Steps p.tables e below (T32.setTop (mkF m 47 #[.val (.int p0), .val (.int p1), .val (.int p2), .val (.int p3), .val (.int p4), .val (.int p5), .val (.int v2), .val (.int v10), .val (.int v18), .val (.int v33), .unset, .unset, .unset, .unset] [])) _
      refine XS.iload X32.here hx rfl (hb hby at_47) rfl ?_
      exact k)
  by_cases hc36 : v2 = (0 : Int32)
  · have pre37 : ∀ t, Steps p.tables e below (T32.setTop (mkF m 53 #[.val (.int p0), .val (.int p1), .val (.int p2), .val (.int p3), .val (.int p4), .val (.int p5), .val (.int v2), .val (.int v10), .val (.int v18), .val (.int v33), .unset, .unset, .unset, .unset] [(.int (0 : Int32))])) t → P t := fun t k => pre35 t (by
        show Steps p.tables e below (T32.setTop (mkF m 49 #[.val (.int p0), .val (.int p1), .val (.int p2), .val (.int p3), .val (.int p4), .val (.int p5), .val (.int v2), .val (.int v10), .val (.int v18), .val (.int v33), .unset, .unset, .unset, .unset] [(.int v2)])) _
        refine XS.ifNo X32.here hx rfl (hb hby at_49) rfl ((if0 _ _).trans (teq hc36).2) ?_
        show Steps p.tables e below (T32.setTop (mkF m 52 #[.val (.int p0), .val (.int p1), .val (.int p2), .val (.int p3), .val (.int p4), .val (.int p5), .val (.int v2), .val (.int v10), .val (.int v18), .val (.int v33), .unset, .unset, .unset, .unset] [])) _
        refine XS.iconst X32.here hx rfl (hb hby at_52) ?_
        exact k)
    obtain ⟨T38, h38, k38, X38, e38, E38, A38, st38⟩ := newP X32 hx hZ (hw _ (List.mem_of_getElem? (i := 7) rfl)) e32 (g := (mkF m 53 #[.val (.int p0), .val (.int p1), .val (.int p2), .val (.int p3), .val (.int p4), .val (.int p5), .val (.int v2), .val (.int v10), .val (.int v18), .val (.int v33), .unset, .unset, .unset, .unset] [(.int (0 : Int32))])) rfl (hb hby at_53) rfl (by decide) (cap := 0) (by decide) (by decide) (by decide) (by decide)
    obtain ⟨b38, g38⟩ : ∃ z, z = h0.size := ⟨_, rfl⟩
    have g_b38 : n0 ≤ b38 := Nat.le_trans Z0 (Nat.le_of_eq g38.symm)
    have sz_b38 : h0.size ≤ b38 := Nat.le_trans K0.1 (Nat.le_of_eq g38.symm)
    rw [← g38] at A38 st38
    have pre38 : ∀ t, Steps p.tables e below (T38.setTop (mkF m 55 #[.val (.int p0), .val (.int p1), .val (.int p2), .val (.int p3), .val (.int p4), .val (.int p5), .val (.int v2), .val (.int v10), .val (.int v18), .val (.int v33), .unset, .unset, .unset, .unset] [(.ref b38)])) t → P t := fun t k => pre37 t (st38 _ k)
    have c39 : n0 ≤ h38.size := Nat.le_trans Z0 E38.1
    have K40 : Keep h0 h38 [] := K0.ext E38
    have V_b38 : Arv Z h38 b38 k38 .int (0 : Int32) [] (.int (0 : Int32)) := Arv.new A38 (by decide)
    have pre41 : ∀ t, Steps p.tables e below (T38.setTop (mkF m 130 #[.val (.int p0), .val (.int p1), .val (.int p2), .val (.int p3), .val (.int p4), .val (.int p5), .val (.int v2), .val (.int v10), .val (.int v18), .val (.int v33), .val (.ref b38), .unset, .unset, .unset] [(.int v2)])) t → P t := fun t k => pre38 t (by
        show Steps p.tables e below (T38.setTop (mkF m 55 #[.val (.int p0), .val (.int p1), .val (.int p2), .val (.int p3), .val (.int p4), .val (.int p5), .val (.int v2), .val (.int v10), .val (.int v18), .val (.int v33), .unset, .unset, .unset, .unset] [(.ref b38)])) _
        refine XS.astore X38.here hx rfl (hb hby at_55) rfl rfl (l' := #[.val (.int p0), .val (.int p1), .val (.int p2), .val (.int p3), .val (.int p4), .val (.int p5), .val (.int v2), .val (.int v10), .val (.int v18), .val (.int v33), .val (.ref b38), .unset, .unset, .unset]) rfl ?_
        show Steps p.tables e below (T38.setTop (mkF m 57 #[.val (.int p0), .val (.int p1), .val (.int p2), .val (.int p3), .val (.int p4), .val (.int p5), .val (.int v2), .val (.int v10), .val (.int v18), .val (.int v33), .val (.ref b38), .unset, .unset, .unset] [])) _
        refine XS.goto X38.here hx rfl (pc0 := 57) (pc' := 128) rfl (hb hby at_57) (by decide) (by decide) ?_
        show Steps p.tables e below (T38.setTop (mkF m 128 #[.val (.int p0), .val (.int p1), .val (.int p2), .val (.int p3), .val (.int p4), .val (.int p5), .val (.int v2), .val (.int v10), .val (.int v18), .val (.int v33), .val (.ref b38), .unset, .unset, .unset] [])) _
        refine XS.iload X38.here hx rfl (hb hby at_128) rfl ?_
        exact k)
    obtain ⟨T42, h42, k42, X42, e42, E42, A42, st42⟩ := newP X38 hx hZ (hw _ (List.mem_of_getElem? (i := 7) rfl)) e38 (g := (mkF m 130 #[.val (.int p0), .val (.int p1), .val (.int p2), .val (.int p3), .val (.int p4), .val (.int p5), .val (.int v2), .val (.int v10), .val (.int v18), .val (.int v33), .val (.ref b38), .unset, .unset, .unset] [(.int v2)])) rfl (hb hby at_130) rfl (by subst hv2; exact (own_n3 _).1) (cap := 3) (by subst hv2; exact (own_n3 _).2) (by decide) (by decide) (by decide)
    obtain ⟨b42, g42⟩ : ∃ z, z = h38.size := ⟨_, rfl⟩
    have g_b42 : n0 ≤ b42 := Nat.le_trans c39 (Nat.le_of_eq g42.symm)
    have sz_b42 : h0.size ≤ b42 := Nat.le_trans K40.1 (Nat.le_of_eq g42.symm)
    rw [← g42] at A42 st42
    have pre42 : ∀ t, Steps p.tables e below (T42.setTop (mkF m 132 #[.val (.int p0), .val (.int p1), .val (.int p2), .val (.int p3), .val (.int p4), .val (.int p5), .val (.int v2), .val (.int v10), .val (.int v18), .val (.int v33), .val (.ref b38), .unset, .unset, .unset] [(.ref b42)])) t → P t := fun t k => pre41 t (st42 _ k)
    have c43 : n0 ≤ h42.size := Nat.le_trans c39 E42.1
    have c44 : Arv Z h42 b38 k38 .int (0 : Int32) [] (.int (0 : Int32)) := V_b38.ext E42
    have K45 : Keep h0 h42 [] := K40.ext E42
    have V_b42 : Arv Z h42 b42 k42 .int v2 [] (.int (0 : Int32)) := Arv.new A42 (by subst hv2; exact (own_n3 _).1)
    have pre46 : ∀ t, Steps p.tables e below (T42.setTop (mkF m 134 #[.val (.int p0), .val (.int p1), .val (.int p2), .val (.int p3), .val (.int p4), .val (.int p5), .val (.int v2), .val (.int v10), .val (.int v18), .val (.int v33), .val (.ref b38), .val (.ref b42), .unset, .unset] [])) t → P t := fun t k => pre42 t (by
        show Steps p.tables e below (T42.setTop (mkF m 132 #[.val (.int p0), .val (.int p1), .val (.int p2), .val (.int p3), .val (.int p4), .val (.int p5), .val (.int v2), .val (.int v10), .val (.int v18), .val (.int v33), .val (.ref b38), .unset, .unset, .unset] [(.ref b42)])) _
        refine XS.astore X42.here hx rfl (hb hby at_132) rfl rfl (l' := #[.val (.int p0), .val (.int p1), .val (.int p2), .val (.int p3), .val (.int p4), .val (.int p5), .val (.int v2), .val (.int v10), .val (.int v18), .val (.int v33), .val (.ref b38), .val (.ref b42), .unset, .unset]) rfl ?_
        exact k)
    obtain ⟨T47, h47, X47, e47, E47, A47, D47, -, st47⟩ := newO X42 hx hZ hown (hw _ (List.mem_of_getElem? (i := 8) rfl)) (hw _ (List.mem_of_getElem? (i := 9) rfl)) (hw _ (List.mem_of_getElem? (i := 10) rfl)) e42 (g := (mkF m 134 #[.val (.int p0), .val (.int p1), .val (.int p2), .val (.int p3), .val (.int p4), .val (.int p5), .val (.int v2), .val (.int v10), .val (.int v18), .val (.int v33), .val (.ref b38), .val (.ref b42), .unset, .unset] [])) rfl (hb hby at_134) (by decide) (by decide)
    obtain ⟨b47, g47⟩ : ∃ z, z = h42.size := ⟨_, rfl⟩
    have g_b47 : n0 ≤ b47 := Nat.le_trans c43 (Nat.le_of_eq g47.symm)
    have sz_b47 : h0.size ≤ b47 := Nat.le_trans K45.1 (Nat.le_of_eq g47.symm)
    rw [← g47] at A47 D47 st47
    have pre47 : ∀ t, Steps p.tables e below (T47.setTop (mkF m 137 #[.val (.int p0), .val (.int p1), .val (.int p2), .val (.int p3), .val (.int p4), .val (.int p5), .val (.int v2), .val (.int v10), .val (.int v18), .val (.int v33), .val (.ref b38), .val (.ref b42), .unset, .unset] [(.ref b47)])) t → P t := fun t k => pre46 t (st47 _ k)
    have c48 : n0 ≤ h47.size := Nat.le_trans c43 E47.1
    have c49 : Arv Z h47 b38 k38 .int (0 : Int32) [] (.int (0 : Int32)) := c44.ext E47
    have c50 : Arv Z h47 b42 k42 .int v2 [] (.int (0 : Int32)) := V_b42.ext E47
    have K51 : Keep h0 h47 [] := K45.ext E47
    have F47_documents : Fld Z h47 b47 "com/example/lexivec/lexivec/lucene/SparseList" "documents" "[I" .null := D47 (Or.inr (hw _ (List.mem_of_getElem? (i := 23) rfl))) (ty := (.array .int)) (by decide)
    have F47_frequencies : Fld Z h47 b47 "com/example/lexivec/lexivec/lucene/SparseList" "frequencies" "[I" .null := D47 (Or.inr (hw _ (List.mem_of_getElem? (i := 25) rfl))) (ty := (.array .int)) (by decide)
    have F47_maxFrequency : Fld Z h47 b47 "com/example/lexivec/lexivec/lucene/SparseList" "maxFrequency" "I" (.int (0 : Int32)) := D47 (Or.inr (hw _ (List.mem_of_getElem? (i := 27) rfl))) (ty := .int) (by decide)
    have pre52 : ∀ t, Steps p.tables e below (T47.setTop (mkF m 143 #[.val (.int p0), .val (.int p1), .val (.int p2), .val (.int p3), .val (.int p4), .val (.int p5), .val (.int v2), .val (.int v10), .val (.int v18), .val (.int v33), .val (.ref b38), .val (.ref b42), .unset, .unset] [(.int (0 : Int32)), (.ref b42), (.ref b38), (.ref b47), (.ref b47)])) t → P t := fun t k => pre47 t (by
        show Steps p.tables e below (T47.setTop (mkF m 137 #[.val (.int p0), .val (.int p1), .val (.int p2), .val (.int p3), .val (.int p4), .val (.int p5), .val (.int v2), .val (.int v10), .val (.int v18), .val (.int v33), .val (.ref b38), .val (.ref b42), .unset, .unset] [(.ref b47)])) _
        refine XS.dup X47.here hx rfl (hb hby at_137) rfl rfl ?_
        show Steps p.tables e below (T47.setTop (mkF m 138 #[.val (.int p0), .val (.int p1), .val (.int p2), .val (.int p3), .val (.int p4), .val (.int p5), .val (.int v2), .val (.int v10), .val (.int v18), .val (.int v33), .val (.ref b38), .val (.ref b42), .unset, .unset] [(.ref b47), (.ref b47)])) _
        refine XS.aload X47.here hx rfl (hb hby at_138) rfl rfl ?_
        show Steps p.tables e below (T47.setTop (mkF m 140 #[.val (.int p0), .val (.int p1), .val (.int p2), .val (.int p3), .val (.int p4), .val (.int p5), .val (.int v2), .val (.int v10), .val (.int v18), .val (.int v33), .val (.ref b38), .val (.ref b42), .unset, .unset] [(.ref b38), (.ref b47), (.ref b47)])) _
        refine XS.aload X47.here hx rfl (hb hby at_140) rfl rfl ?_
        show Steps p.tables e below (T47.setTop (mkF m 142 #[.val (.int p0), .val (.int p1), .val (.int p2), .val (.int p3), .val (.int p4), .val (.int p5), .val (.int v2), .val (.int v10), .val (.int v18), .val (.int v33), .val (.ref b38), .val (.ref b42), .unset, .unset] [(.ref b42), (.ref b38), (.ref b47), (.ref b47)])) _
        refine XS.iconst X47.here hx rfl (hb hby at_142) ?_
        exact k)
    obtain ⟨_, _, ⟨T53, L53, k53, n53⟩, -, X53, ⟨Lc53, hQ53, l53, y53, z53⟩, st53⟩ := X47.specialBack hx (y := (⟨"com/example/lexivec/lexivec/lucene/SparseList", "<init>", "([I[II)V"⟩ : MethodName)) rfl hown (mvT hZ (hw _ (List.mem_of_getElem? (i := 11) rfl))) (mvT hZ (hw _ (List.mem_of_getElem? (i := 12) rfl))) (mvT hZ (hw _ (List.mem_of_getElem? (i := 13) rfl))) (by decide) (backOf (W := 1) (rm3 l Z a0 hw [] b47 b38 b42 (0 : Int32) h47 n0 c48 A47 F47_documents F47_frequencies F47_maxFrequency g_b47) hZ (hw _ (List.mem_of_getElem? (i := 13) rfl)) (hw _ (List.mem_of_getElem? (i := 10) rfl)) (by decide) (by decide)) (g := (mkF m 143 #[.val (.int p0), .val (.int p1), .val (.int p2), .val (.int p3), .val (.int p4), .val (.int p5), .val (.int v2), .val (.int v10), .val (.int v18), .val (.int v33), .val (.ref b38), .val (.ref b42), .unset, .unset] [(.int (0 : Int32)), (.ref b42), (.ref b38), (.ref b47), (.ref b47)])) rfl (by rw [hml]; rfl) (Steps.refl _) (a := b47) (argsL := [(.ref b38), (.ref b42), (.int (0 : Int32))]) (rest := [(.ref b47)]) (lenOf own_pd2 rfl) rfl (by show 2 * 0 + _ ≤ _; exact Nat.le_of_eq rfl) (hb hby at_143) (fun _ _ => ⟨rfl, e47, (by decide : 3 + 0 ≤ _), (by decide : 6 + 0 ≤ _)⟩)
    dsimp only [Pt.U, Pt.locs, Pt.cells, Pt.slots] at X53 l53 y53 z53 st53 hQ53
    subst l53 y53 z53
    obtain ⟨rfl, N53q, K53, EE53, FF53_0, FF53_1, FF53_2⟩ := hQ53
    have c54 : n0 ≤ T53.heap.size := Nat.le_trans c48 K53.1
    have c55 : Arv Z T53.heap b38 k38 .int (0 : Int32) [] (.int (0 : Int32)) := c49.keep K53 (ninS (Nat.ne_of_lt (Nat.lt_of_lt_of_le c44.lt (Nat.le_of_eq g47.symm))) nin0)
    have c56 : Arv Z T53.heap b42 k42 .int v2 [] (.int (0 : Int32)) := c50.keep K53 (ninS (Nat.ne_of_lt (Nat.lt_of_lt_of_le V_b42.lt (Nat.le_of_eq g47.symm))) nin0)
    have c57 : Exa Z T53.heap b47 "com/example/lexivec/lexivec/lucene/SparseList" := A47.keep K53
    have K58 : Keep h0 T53.heap [] := K51.trans K53 (allS (P := fun x => x ∈ ([] : List Addr) ∨ h0.size ≤ x) (Or.inr sz_b47) all0)
    have N53 := Fr.app N32 N53q
    have pre53 : ∀ t, Steps p.tables e below (T53.setTop (mkF m 146 #[.val (.int p0), .val (.int p1), .val (.int p2), .val (.int p3), .val (.int p4), .val (.int p5), .val (.int v2), .val (.int v10), .val (.int v18), .val (.int v33), .val (.ref b38), .val (.ref b42), .unset, .unset] [(.ref b47)])) t → P t := fun t k => pre52 t (st53.trans k)
    have pre59 : ∀ t, Steps p.tables e below (T53.setTop (mkF m 255 #[.val (.int p0), .val (.int p1), .val (.int p2), .val (.int p3), .val (.int p4), .val (.int p5), .val (.int v2), .val (.int v10), .val (.int v18), .val (.int v33), .val (.ref b38), .val (.ref b42), .val (.ref b47), .val (.int (1 : Int32))] [(.int p4), (.int p3), (.ref b47)])) t → P t := fun t k => pre53 t (by
        show Steps p.tables e below (T53.setTop (mkF m 146 #[.val (.int p0), .val (.int p1), .val (.int p2), .val (.int p3), .val (.int p4), .val (.int p5), .val (.int v2), .val (.int v10), .val (.int v18), .val (.int v33), .val (.ref b38), .val (.ref b42), .unset, .unset] [(.ref b47)])) _
        refine XS.astore X53.here hx rfl (hb hby at_146) rfl rfl (l' := #[.val (.int p0), .val (.int p1), .val (.int p2), .val (.int p3), .val (.int p4), .val (.int p5), .val (.int v2), .val (.int v10), .val (.int v18), .val (.int v33), .val (.ref b38), .val (.ref b42), .val (.ref b47), .unset]) rfl ?_
        show Steps p.tables e below (T53.setTop (mkF m 148 #[.val (.int p0), .val (.int p1), .val (.int p2), .val (.int p3), .val (.int p4), .val (.int p5), .val (.int v2), .val (.int v10), .val (.int v18), .val (.int v33), .val (.ref b38), .val (.ref b42), .val (.ref b47), .unset] [])) _
        refine XS.iload X53.here hx rfl (hb hby at_148) rfl ?_
        show Steps p.tables e below (T53.setTop (mkF m 150 #[.val (.int p0), .val (.int p1), .val (.int p2), .val (.int p3), .val (.int p4), .val (.int p5), .val (.int v2), .val (.int v10), .val (.int v18), .val (.int v33), .val (.ref b38), .val (.ref b42), .val (.ref b47), .unset] [(.int v2)])) _
        refine XS.ifNo X53.here hx rfl (hb hby at_150) rfl ((if0 _ _).trans (teq hc36).2) ?_
        show Steps p.tables e below (T53.setTop (mkF m 153 #[.val (.int p0), .val (.int p1), .val (.int p2), .val (.int p3), .val (.int p4), .val (.int p5), .val (.int v2), .val (.int v10), .val (.int v18), .val (.int v33), .val (.ref b38), .val (.ref b42), .val (.ref b47), .unset] [])) _
        refine XS.iconst X53.here hx rfl (hb hby at_153) ?_
        show Steps p.tables e below (T53.setTop (mkF m 154 #[.val (.int p0), .val (.int p1), .val (.int p2), .val (.int p3), .val (.int p4), .val (.int p5), .val (.int v2), .val (.int v10), .val (.int v18), .val (.int v33), .val (.ref b38), .val (.ref b42), .val (.ref b47), .unset] [(.int (1 : Int32))])) _
        refine XS.istore X53.here hx rfl (hb hby at_154) rfl (l' := #[.val (.int p0), .val (.int p1), .val (.int p2), .val (.int p3), .val (.int p4), .val (.int p5), .val (.int v2), .val (.int v10), .val (.int v18), .val (.int v33), .val (.ref b38), .val (.ref b42), .val (.ref b47), .val (.int (1 : Int32))]) rfl ?_
        show Steps p.tables e below (T53.setTop (mkF m 156 #[.val (.int p0), .val (.int p1), .val (.int p2), .val (.int p3), .val (.int p4), .val (.int p5), .val (.int v2), .val (.int v10), .val (.int v18), .val (.int v33), .val (.ref b38), .val (.ref b42), .val (.ref b47), .val (.int (1 : Int32))] [])) _
        refine XS.goto X53.here hx rfl (pc0 := 156) (pc' := 250) rfl (hb hby at_156) (by decide) (by decide) ?_
        show Steps p.tables e below (T53.setTop (mkF m 250 #[.val (.int p0), .val (.int p1), .val (.int p2), .val (.int p3), .val (.int p4), .val (.int p5), .val (.int v2), .val (.int v10), .val (.int v18), .val (.int v33), .val (.ref b38), .val (.ref b42), .val (.ref b47), .val (.int (1 : Int32))] [])) _
        refine XS.aload X53.here hx rfl (hb hby at_250) rfl rfl ?_
        show Steps p.tables e below (T53.setTop (mkF m 252 #[.val (.int p0), .val (.int p1), .val (.int p2), .val (.int p3), .val (.int p4), .val (.int p5), .val (.int v2), .val (.int v10), .val (.int v18), .val (.int v33), .val (.ref b38), .val (.ref b42), .val (.ref b47), .val (.int (1 : Int32))] [(.ref b47)])) _
        refine XS.iloadN X53.here hx rfl (hb hby at_252) rfl ?_
        show Steps p.tables e below (T53.setTop (mkF m 253 #[.val (.int p0), .val (.int p1), .val (.int p2), .val (.int p3), .val (.int p4), .val (.int p5), .val (.int v2), .val (.int v10), .val (.int v18), .val (.int v33), .val (.ref b38), .val (.ref b42), .val (.ref b47), .val (.int (1 : Int32))] [(.int p3), (.ref b47)])) _
        refine XS.iload X53.here hx rfl (hb hby at_253) rfl ?_
        exact k)
    obtain ⟨cq60, kq60, q60a, q60b, q60c⟩ := isOf hZ rfl EE53
    obtain ⟨_, _, ⟨T60, L60, k60, n60⟩, -, X60, ⟨Lc60, hQ60, l60, y60, z60⟩, st60⟩ := X53.virtualBack hx (y := (⟨"com/example/lexivec/lexivec/lucene/SparseList", "within", "(II)Z"⟩ : MethodName)) (z := (⟨"com/example/lexivec/lexivec/lucene/SparseList", "within", "(II)Z"⟩ : MethodName)) hown (mvT hZ (hw _ (List.mem_of_getElem? (i := 32) rfl))) (mvT hZ (hw _ (List.mem_of_getElem? (i := 33) rfl))) (notFace_of_selects (args := #[]) (mvT hZ (hw _ (List.mem_of_getElem? (i := 35) rfl)))) (mvT hZ (hw _ (List.mem_of_getElem? (i := 35) rfl))) (mvT hZ (hw _ (List.mem_of_getElem? (i := 34) rfl))) (by decide) (backOf (W := 0) (rm7 l Z a0 hw [] b47 p3 p4 b38 k38 (0 : Int32) [] (0 : Int32) (0 : Int32) T53.heap n0 c54 FF53_0 c55 (fun q => absurd rfl q) (fun q => absurd rfl q)) hZ (hw _ (List.mem_of_getElem? (i := 36) rfl)) (hw _ (List.mem_of_getElem? (i := 10) rfl)) (by decide) (by decide)) q60a q60c (g := (mkF m 255 #[.val (.int p0), .val (.int p1), .val (.int p2), .val (.int p3), .val (.int p4), .val (.int p5), .val (.int v2), .val (.int v10), .val (.int v18), .val (.int v33), .val (.ref b38), .val (.ref b42), .val (.ref b47), .val (.int (1 : Int32))] [(.int p4), (.int p3), (.ref b47)])) rfl (by rw [hml]; rfl) (Steps.refl _) (argsL := [(.int p3), (.int p4)]) (rest := []) (lenOf own_pd3 rfl) rfl (by show 2 * 0 + _ ≤ _; exact Nat.le_of_eq rfl) (hb hby at_255) (fun _ _ => ⟨rfl, rfl, (by decide : 3 + 0 ≤ _), (by decide : 6 + 0 ≤ _)⟩)
    dsimp only [Pt.U, Pt.locs, Pt.cells, Pt.slots] at X60 l60 y60 z60 st60 hQ60
    subst l60 y60 z60
    obtain ⟨rfl, N60q, e60⟩ := hQ60
    have N60 := Fr.app N53 N60q
    have pre60 : ∀ t, Steps p.tables e below (T60.setTop (mkF m 258 #[.val (.int p0), .val (.int p1), .val (.int p2), .val (.int p3), .val (.int p4), .val (.int p5), .val (.int v2), .val (.int v10), .val (.int v18), .val (.int v33), .val (.ref b38), .val (.ref b42), .val (.ref b47), .val (.int (1 : Int32))] [(.int (own_f7 p3 p4 (0 : Int32) (0 : Int32) (0 : Int32)))])) t → P t := fun t k => pre59 t (st60.trans k)
    obtain ⟨v61, hv61⟩ : ∃ z : Int32, z = (own_f7 p3 p4 (0 : Int32) (0 : Int32) (0 : Int32)) := ⟨_, rfl⟩
    have pre62 : ∀ t, Steps p.tables e below (T60.setTop (mkF m 258 #[.val (.int p0), .val (.int p1), .val (.int p2), .val (.int p3), .val (.int p4), .val (.int p5), .val (.int v2), .val (.int v10), .val (.int v18), .val (.int v33), .val (.ref b38), .val (.ref b42), .val (.ref b47), .val (.int (1 : Int32))] [(.int v61)])) t → P t := fun t k => pre60 t (by subst hv61; exact k)
    have pre63 : ∀ t, Steps p.tables e below (T60.setTop (mkF m 260 #[.val (.int p0), .val (.int p1), .val (.int p2), .val (.int p3), .val (.int p4), .val (.int p5), .val (.int v2), .val (.int v10), .val (.int v18), .val (.int v33), .val (.ref b38), .val (.ref b42), .val (.ref b47), .val (.int (1 : Int32))] [(.int (1 : Int32)), (.int v61)])) t → P t := fun t k => pre62 t (by
        show Steps p.tables e below (T60.setTop (mkF m 258 #[.val (.int p0), .val (.int p1), .val (.int p2), .val (.int p3), .val (.int p4), .val (.int p5), .val (.int v2), .val (.int v10), .val (.int v18), .val (.int v33), .val (.ref b38), .val (.ref b42), .val (.ref b47), .val (.int (1 : Int32))] [(.int v61)])) _
        refine XS.iload X60.here hx rfl (hb hby at_258) rfl ?_
        exact k)
    obtain ⟨T68, L68, v67, X68, e68, N68, hv67, pre68⟩ : ∃ (T' : State) (L' : List Loc) (v67 : Int32), Stand p l e room_1 s m #[(.int p0), (.int p1), (.int p2), (.int p3), (.int p4), (.int p5)] below meth c T' L' 3 6 ∧ T'.heap = T53.heap ∧ Fr n0 L' ∧ v67 = (if v61 = (1 : Int32) then (1 : Int32) else (0 : Int32)) ∧ (∀ t, Steps p.tables e below (T'.setTop (mkF m 268 #[.val (.int p0), .val (.int p1), .val (.int p2), .val (.int p3), .val (.int p4), .val (.int p5), .val (.int v2), .val (.int v10), .val (.int v18), .val (.int v33), .val (.ref b38), .val (.ref b42), .val (.ref b47), .val (.int (1 : Int32))] [(.int v67)])) t → P t) := by
      by_cases hc64 : v61 = (1 : Int32)
      · have pre65 : ∀ t, Steps p.tables e below (T60.setTop (mkF m 268 #[.val (.int p0), .val (.int p1), .val (.int p2), .val (.int p3), .val (.int p4), .val (.int p5), .val (.int v2), .val (.int v10), .val (.int v18), .val (.int v33), .val (.ref b38), .val (.ref b42), .val (.ref b47), .val (.int (1 : Int32))] [(.int (1 : Int32))])) t → P t := fun t k => pre63 t (by
            show Steps p.tables e below (T60.setTop (mkF m 260 #[.val (.int p0), .val (.int p1), .val (.int p2), .val (.int p3), .val (.int p4), .val (.int p5), .val (.int v2), .val (.int v10), .val (.int v18), .val (.int v33), .val (.ref b38), .val (.ref b42), .val (.ref b47), .val (.int (1 : Int32))] [(.int (1 : Int32)), (.int v61)])) _
            refine XS.icmpNo X60.here hx rfl (hb hby at_260) rfl (teq hc64).2 ?_
            show Steps p.tables e below (T60.setTop (mkF m 263 #[.val (.int p0), .val (.int p1), .val (.int p2), .val (.int p3), .val (.int p4), .val (.int p5), .val (.int v2), .val (.int v10), .val (.int v18), .val (.int v33), .val (.ref b38), .val (.ref b42), .val (.ref b47), .val (.int (1 : Int32))] [])) _
            refine XS.iconst X60.here hx rfl (hb hby at_263) ?_
            show Steps p.tables e below (T60.setTop (mkF m 264 #[.val (.int p0), .val (.int p1), .val (.int p2), .val (.int p3), .val (.int p4), .val (.int p5), .val (.int v2), .val (.int v10), .val (.int v18), .val (.int v33), .val (.ref b38), .val (.ref b42), .val (.ref b47), .val (.int (1 : Int32))] [(.int (1 : Int32))])) _
            refine XS.goto X60.here hx rfl (pc0 := 264) (pc' := 268) rfl (hb hby at_264) (by decide) (by decide) ?_
            exact k)
        exact ⟨_, _, (1 : Int32), X60, e60, N60, (by first | (rw [if_pos hc64]; done) | simp only [if_pos hc64] | simp [if_pos hc64]), pre65⟩
      · have pre66 : ∀ t, Steps p.tables e below (T60.setTop (mkF m 268 #[.val (.int p0), .val (.int p1), .val (.int p2), .val (.int p3), .val (.int p4), .val (.int p5), .val (.int v2), .val (.int v10), .val (.int v18), .val (.int v33), .val (.ref b38), .val (.ref b42), .val (.ref b47), .val (.int (1 : Int32))] [(.int (0 : Int32))])) t → P t := fun t k => pre63 t (by
            show Steps p.tables e below (T60.setTop (mkF m 260 #[.val (.int p0), .val (.int p1), .val (.int p2), .val (.int p3), .val (.int p4), .val (.int p5), .val (.int v2), .val (.int v10), .val (.int v18), .val (.int v33), .val (.ref b38), .val (.ref b42), .val (.ref b47), .val (.int (1 : Int32))] [(.int (1 : Int32)), (.int v61)])) _
            refine XS.icmpYes X60.here hx rfl (pc0 := 260) (pc' := 267) rfl (hb hby at_260) rfl (feq hc64).2 (by decide) (by decide) ?_
            show Steps p.tables e below (T60.setTop (mkF m 267 #[.val (.int p0), .val (.int p1), .val (.int p2), .val (.int p3), .val (.int p4), .val (.int p5), .val (.int v2), .val (.int v10), .val (.int v18), .val (.int v33), .val (.ref b38), .val (.ref b42), .val (.ref b47), .val (.int (1 : Int32))] [])) _
            refine XS.iconst X60.here hx rfl (hb hby at_267) ?_
            exact k)
        exact ⟨_, _, (0 : Int32), X60, e60, N60, (by first | (rw [if_neg hc64]; done) | simp only [if_neg hc64] | simp [if_neg hc64]), pre66⟩
    obtain ⟨fs, hr, hrun, hended, hW, hsame⟩ := X68.leave (v := some (.int v67)) (fun h => by rw [Bd.returns] at h; cases h)
    refine ⟨_, _, fin _ (pre68 _ ?_), hrun, hended, _, _, rfl, ?_, ⟨_, rfl⟩, hW, hsame.mono (by decide) (by decide)⟩
    · show Steps p.tables e below (T68.setTop (mkF m 268 #[.val (.int p0), .val (.int p1), .val (.int p2), .val (.int p3), .val (.int p4), .val (.int p5), .val (.int v2), .val (.int v10), .val (.int v18), .val (.int v33), .val (.ref b38), .val (.ref b42), .val (.ref b47), .val (.int (1 : Int32))] [(.int v67)])) _
      have hnar : nar .boolean v67 = v67 := by subst hv2 hv6 hv10 hv14 hv18 hv22 hv26 hv30 hv33 hv61 hv67; first | rfl | (split <;> rfl) | ((try simp only []); (repeat' split) <;> rfl)
      exact retN X68 hx (t := .boolean) Bd.returns (by simp) (hb hby at_268) (by rw [hnar]; exact hr)
    · show Q0 Z p0 p1 p2 p3 p4 p5 h0 n0 _ T68.heap _
      rw [e68]
      exact ⟨(by subst hv2 hv6 hv10 hv14 hv18 hv22 hv26 hv30 hv33 hv61 hv67; first | (unfold own_f0; rw [if_pos hc36]; done) | simp only [own_f0, if_pos hc36] | simp [own_f0, if_pos hc36]), N68⟩
  · have pre69 : ∀ t, Steps p.tables e below (T32.setTop (mkF m 63 #[.val (.int p0), .val (.int p1), .val (.int p2), .val (.int p3), .val (.int p4), .val (.int p5), .val (.int v2), .val (.int v10), .val (.int v18), .val (.int v33), .unset, .unset, .unset, .unset] [(.int (1 : Int32)), (.int v2)])) t → P t := fun t k => pre35 t (by
        show Steps p.tables e below (T32.setTop (mkF m 49 #[.val (.int p0), .val (.int p1), .val (.int p2), .val (.int p3), .val (.int p4), .val (.int p5), .val (.int v2), .val (.int v10), .val (.int v18), .val (.int v33), .unset, .unset, .unset, .unset] [(.int v2)])) _
        refine XS.ifYes X32.here hx rfl (pc0 := 49) (pc' := 60) rfl (hb hby at_49) rfl ((if0 _ _).trans (feq hc36).2) (by decide) (by decide) ?_
        show Steps p.tables e below (T32.setTop (mkF m 60 #[.val (.int p0), .val (.int p1), .val (.int p2), .val (.int p3), .val (.int p4), .val (.int p5), .val (.int v2), .val (.int v10), .val (.int v18), .val (.int v33), .unset, .unset, .unset, .unset] [])) _
        refine XS.iload X32.here hx rfl (hb hby at_60) rfl ?_
        show Steps p.tables e below (T32.setTop (mkF m 62 #[.val (.int p0), .val (.int p1), .val (.int p2), .val (.int p3), .val (.int p4), .val (.int p5), .val (.int v2), .val (.int v10), .val (.int v18), .val (.int v33), .unset, .unset, .unset, .unset] [(.int v2)])) _
        refine XS.iconst X32.here hx rfl (hb hby at_62) ?_
        exact k)
    by_cases hc70 : v2 = (1 : Int32)
    · have pre71 : ∀ t, Steps p.tables e below (T32.setTop (mkF m 67 #[.val (.int p0), .val (.int p1), .val (.int p2), .val (.int p3), .val (.int p4), .val (.int p5), .val (.int v2), .val (.int v10), .val (.int v18), .val (.int v33), .unset, .unset, .unset, .unset] [(.int (1 : Int32))])) t → P t := fun t k => pre69 t (by
          show Steps p.tables e below (T32.setTop (mkF m 63 #[.val (.int p0), .val (.int p1), .val (.int p2), .val (.int p3), .val (.int p4), .val (.int p5), .val (.int v2), .val (.int v10), .val (.int v18), .val (.int v33), .unset, .unset, .unset, .unset] [(.int (1 : Int32)), (.int v2)])) _
          refine XS.icmpNo X32.here hx rfl (hb hby at_63) rfl (teq hc70).2 ?_
          show Steps p.tables e below (T32.setTop (mkF m 66 #[.val (.int p0), .val (.int p1), .val (.int p2), .val (.int p3), .val (.int p4), .val (.int p5), .val (.int v2), .val (.int v10), .val (.int v18), .val (.int v33), .unset, .unset, .unset, .unset] [])) _
          refine XS.iconst X32.here hx rfl (hb hby at_66) ?_
          exact k)
      obtain ⟨T72, h72, k72, X72, e72, E72, A72, st72⟩ := newP X32 hx hZ (hw _ (List.mem_of_getElem? (i := 7) rfl)) e32 (g := (mkF m 67 #[.val (.int p0), .val (.int p1), .val (.int p2), .val (.int p3), .val (.int p4), .val (.int p5), .val (.int v2), .val (.int v10), .val (.int v18), .val (.int v33), .unset, .unset, .unset, .unset] [(.int (1 : Int32))])) rfl (hb hby at_67) rfl (by decide) (cap := 1) (by decide) (by decide) (by decide) (by decide)
      obtain ⟨b72, g72⟩ : ∃ z, z = h0.size := ⟨_, rfl⟩
      have g_b72 : n0 ≤ b72 := Nat.le_trans Z0 (Nat.le_of_eq g72.symm)
      have sz_b72 : h0.size ≤ b72 := Nat.le_trans K0.1 (Nat.le_of_eq g72.symm)
      rw [← g72] at A72 st72
      have pre72 : ∀ t, Steps p.tables e below (T72.setTop (mkF m 69 #[.val (.int p0), .val (.int p1), .val (.int p2), .val (.int p3), .val (.int p4), .val (.int p5), .val (.int v2), .val (.int v10), .val (.int v18), .val (.int v33), .unset, .unset, .unset, .unset] [(.ref b72)])) t → P t := fun t k => pre71 t (st72 _ k)
      have c73 : n0 ≤ h72.size := Nat.le_trans Z0 E72.1
      have K74 : Keep h0 h72 [] := K0.ext E72
      have V_b72 : Arv Z h72 b72 k72 .int (1 : Int32) [(.int (0 : Int32))] (.int (0 : Int32)) := (Arv.new A72 (by decide)).pad (pad_rep [] (.int (0 : Int32)) 1)
      have pre75 : ∀ t, Steps p.tables e below (T72.setTop (mkF m 72 #[.val (.int p0), .val (.int p1), .val (.int p2), .val (.int p3), .val (.int p4), .val (.int p5), .val (.int v2), .val (.int v10), .val (.int v18), .val (.int v33), .unset, .unset, .unset, .unset] [(.int p0), (.int (0 : Int32)), (.ref b72), (.ref b72)])) t → P t := fun t k => pre72 t (by
          show Steps p.tables e below (T72.setTop (mkF m 69 #[.val (.int p0), .val (.int p1), .val (.int p2), .val (.int p3), .val (.int p4), .val (.int p5), .val (.int v2), .val (.int v10), .val (.int v18), .val (.int v33), .unset, .unset, .unset, .unset] [(.ref b72)])) _
          refine XS.dup X72.here hx rfl (hb hby at_69) rfl rfl ?_
          show Steps p.tables e below (T72.setTop (mkF m 70 #[.val (.int p0), .val (.int p1), .val (.int p2), .val (.int p3), .val (.int p4), .val (.int p5), .val (.int v2), .val (.int v10), .val (.int v18), .val (.int v33), .unset, .unset, .unset, .unset] [(.ref b72), (.ref b72)])) _
          refine XS.iconst X72.here hx rfl (hb hby at_70) ?_
          show Steps p.tables e below (T72.setTop (mkF m 71 #[.val (.int p0), .val (.int p1), .val (.int p2), .val (.int p3), .val (.int p4), .val (.int p5), .val (.int v2), .val (.int v10), .val (.int v18), .val (.int v33), .unset, .unset, .unset, .unset] [(.int (0 : Int32)), (.ref b72), (.ref b72)])) _
          refine XS.iloadN X72.here hx rfl (hb hby at_71) rfl ?_
          exact k)
      obtain ⟨clq76, Arq76, qq76, Sq76, Nq76', Hq76, Gq76⟩ := id V_b72
      obtain ⟨T77, h77, X77, e77, W77, st77⟩ := stI X72 hx hZ e72 Arq76 (j := (0 : Int32)) (inb_of Sq76 ⟨by decide, by decide⟩) (g := (mkF m 72 #[.val (.int p0), .val (.int p1), .val (.int p2), .val (.int p3), .val (.int p4), .val (.int p5), .val (.int v2), .val (.int v10), .val (.int v18), .val (.int v33), .unset, .unset, .unset, .unset] [(.int p0), (.int (0 : Int32)), (.ref b72), (.ref b72)])) rfl rfl (hb hby at_72)
      have pre77 : ∀ t, Steps p.tables e below (T77.setTop (mkF m 73 #[.val (.int p0), .val (.int p1), .val (.int p2), .val (.int p3), .val (.int p4), .val (.int p5), .val (.int v2), .val (.int v10), .val (.int v18), .val (.int v33), .unset, .unset, .unset, .unset] [(.ref b72)])) t → P t := fun t k => pre75 t (st77 _ k)
      have V77 : Arv Z h77 b72 k72 .int (1 : Int32) [(.int p0)] (.int (0 : Int32)) := Arv.set Arq76 qq76 Sq76 Nq76' Hq76 Gq76 rfl W77 0 rfl (Nat.le_of_ble_eq_true rfl)
      have c78 : n0 ≤ h77.size := Nat.le_trans c73 (Keep.of_wr W77).1
      have K79 : Keep h0 h77 [] := K74.wr W77 (Or.inr sz_b72)
      have N77 := Fr.snoc X77 N32 g_b72
      have pre80 : ∀ t, Steps p.tables e below (T77.setTop (mkF m 130 #[.val (.int p0), .val (.int p1), .val (.int p2), .val (.int p3), .val (.int p4), .val (.int p5), .val (.int v2), .val (.int v10), .val (.int v18), .val (.int v33), .val (.ref b72), .unset, .unset, .unset] [(.int v2)])) t → P t := fun t k => pre77 t (by
          show Steps p.tables e below (T77.setTop (mkF m 73 #[.val (.int p0), .val (.int p1), .val (.int p2), .val (.int p3), .val (.int p4), .val (.int p5), .val (.int v2), .val (.int v10), .val (.int v18), .val (.int v33), .unset, .unset, .unset, .unset] [(.ref b72)])) _
          refine XS.astore X77.here hx rfl (hb hby at_73) rfl rfl (l' := #[.val (.int p0), .val (.int p1), .val (.int p2), .val (.int p3), .val (.int p4), .val (.int p5), .val (.int v2), .val (.int v10), .val (.int v18), .val (.int v33), .val (.ref b72), .unset, .unset, .unset]) rfl ?_
          show Steps p.tables e below (T77.setTop (mkF m 75 #[.val (.int p0), .val (.int p1), .val (.int p2), .val (.int p3), .val (.int p4), .val (.int p5), .val (.int v2), .val (.int v10), .val (.int v18), .val (.int v33), .val (.ref b72), .unset, .unset, .unset] [])) _
          refine XS.goto X77.here hx rfl (pc0 := 75) (pc' := 128) rfl (hb hby at_75) (by decide) (by decide) ?_
          show Steps p.tables e below (T77.setTop (mkF m 128 #[.val (.int p0), .val (.int p1), .val (.int p2), .val (.int p3), .val (.int p4), .val (.int p5), .val (.int v2), .val (.int v10), .val (.int v18), .val (.int v33), .val (.ref b72), .unset, .unset, .unset] [])) _
          refine XS.iload X77.here hx rfl (hb hby at_128) rfl ?_
          exact k)
      obtain ⟨T81, h81, k81, X81, e81, E81, A81, st81⟩ := newP X77 hx hZ (hw _ (List.mem_of_getElem? (i := 7) rfl)) e77 (g := (mkF m 130 #[.val (.int p0), .val (.int p1), .val (.int p2), .val (.int p3), .val (.int p4), .val (.int p5), .val (.int v2), .val (.int v10), .val (.int v18), .val (.int v33), .val (.ref b72), .unset, .unset, .unset] [(.int v2)])) rfl (hb hby at_130) rfl (by subst hv2; exact (own_n3 _).1) (cap := 3) (by subst hv2; exact (own_n3 _).2) (by decide) (by decide) (by decide)
      obtain ⟨b81, g81⟩ : ∃ z, z = h77.size := ⟨_, rfl⟩
      have g_b81 : n0 ≤ b81 := Nat.le_trans c78 (Nat.le_of_eq g81.symm)
      have sz_b81 : h0.size ≤ b81 := Nat.le_trans K79.1 (Nat.le_of_eq g81.symm)
      rw [← g81] at A81 st81
      have pre81 : ∀ t, Steps p.tables e below (T81.setTop (mkF m 132 #[.val (.int p0), .val (.int p1), .val (.int p2), .val (.int p3), .val (.int p4), .val (.int p5), .val (.int v2), .val (.int v10), .val (.int v18), .val (.int v33), .val (.ref b72), .unset, .unset, .unset] [(.ref b81)])) t → P t := fun t k => pre80 t (st81 _ k)
      have c82 : n0 ≤ h81.size := Nat.le_trans c78 E81.1
      have c83 : Arv Z h81 b72 k72 .int (1 : Int32) [(.int p0)] (.int (0 : Int32)) := V77.ext E81
      have K84 : Keep h0 h81 [] := K79.ext E81
      have V_b81 : Arv Z h81 b81 k81 .int v2 [] (.int (0 : Int32)) := Arv.new A81 (by subst hv2; exact (own_n3 _).1)
      have pre85 : ∀ t, Steps p.tables e below (T81.setTop (mkF m 134 #[.val (.int p0), .val (.int p1), .val (.int p2), .val (.int p3), .val (.int p4), .val (.int p5), .val (.int v2), .val (.int v10), .val (.int v18), .val (.int v33), .val (.ref b72), .val (.ref b81), .unset, .unset] [])) t → P t := fun t k => pre81 t (by
          show Steps p.tables e below (T81.setTop (mkF m 132 #[.val (.int p0), .val (.int p1), .val (.int p2), .val (.int p3), .val (.int p4), .val (.int p5), .val (.int v2), .val (.int v10), .val (.int v18), .val (.int v33), .val (.ref b72), .unset, .unset, .unset] [(.ref b81)])) _
          refine XS.astore X81.here hx rfl (hb hby at_132) rfl rfl (l' := #[.val (.int p0), .val (.int p1), .val (.int p2), .val (.int p3), .val (.int p4), .val (.int p5), .val (.int v2), .val (.int v10), .val (.int v18), .val (.int v33), .val (.ref b72), .val (.ref b81), .unset, .unset]) rfl ?_
          exact k)
      obtain ⟨T86, h86, X86, e86, E86, A86, D86, -, st86⟩ := newO X81 hx hZ hown (hw _ (List.mem_of_getElem? (i := 8) rfl)) (hw _ (List.mem_of_getElem? (i := 9) rfl)) (hw _ (List.mem_of_getElem? (i := 10) rfl)) e81 (g := (mkF m 134 #[.val (.int p0), .val (.int p1), .val (.int p2), .val (.int p3), .val (.int p4), .val (.int p5), .val (.int v2), .val (.int v10), .val (.int v18), .val (.int v33), .val (.ref b72), .val (.ref b81), .unset, .unset] [])) rfl (hb hby at_134) (by decide) (by decide)
      obtain ⟨b86, g86⟩ : ∃ z, z = h81.size := ⟨_, rfl⟩
      have g_b86 : n0 ≤ b86 := Nat.le_trans c82 (Nat.le_of_eq g86.symm)
      have sz_b86 : h0.size ≤ b86 := Nat.le_trans K84.1 (Nat.le_of_eq g86.symm)
      rw [← g86] at A86 D86 st86
      have pre86 : ∀ t, Steps p.tables e below (T86.setTop (mkF m 137 #[.val (.int p0), .val (.int p1), .val (.int p2), .val (.int p3), .val (.int p4), .val (.int p5), .val (.int v2), .val (.int v10), .val (.int v18), .val (.int v33), .val (.ref b72), .val (.ref b81), .unset, .unset] [(.ref b86)])) t → P t := fun t k => pre85 t (st86 _ k)
      have c87 : n0 ≤ h86.size := Nat.le_trans c82 E86.1
      have c88 : Arv Z h86 b72 k72 .int (1 : Int32) [(.int p0)] (.int (0 : Int32)) := c83.ext E86
      have c89 : Arv Z h86 b81 k81 .int v2 [] (.int (0 : Int32)) := V_b81.ext E86
      have K90 : Keep h0 h86 [] := K84.ext E86
      have F86_documents : Fld Z h86 b86 "com/example/lexivec/lexivec/lucene/SparseList" "documents" "[I" .null := D86 (Or.inr (hw _ (List.mem_of_getElem? (i := 23) rfl))) (ty := (.array .int)) (by decide)
      have F86_frequencies : Fld Z h86 b86 "com/example/lexivec/lexivec/lucene/SparseList" "frequencies" "[I" .null := D86 (Or.inr (hw _ (List.mem_of_getElem? (i := 25) rfl))) (ty := (.array .int)) (by decide)
      have F86_maxFrequency : Fld Z h86 b86 "com/example/lexivec/lexivec/lucene/SparseList" "maxFrequency" "I" (.int (0 : Int32)) := D86 (Or.inr (hw _ (List.mem_of_getElem? (i := 27) rfl))) (ty := .int) (by decide)
      have pre91 : ∀ t, Steps p.tables e below (T86.setTop (mkF m 143 #[.val (.int p0), .val (.int p1), .val (.int p2), .val (.int p3), .val (.int p4), .val (.int p5), .val (.int v2), .val (.int v10), .val (.int v18), .val (.int v33), .val (.ref b72), .val (.ref b81), .unset, .unset] [(.int (0 : Int32)), (.ref b81), (.ref b72), (.ref b86), (.ref b86)])) t → P t := fun t k => pre86 t (by
          show Steps p.tables e below (T86.setTop (mkF m 137 #[.val (.int p0), .val (.int p1), .val (.int p2), .val (.int p3), .val (.int p4), .val (.int p5), .val (.int v2), .val (.int v10), .val (.int v18), .val (.int v33), .val (.ref b72), .val (.ref b81), .unset, .unset] [(.ref b86)])) _
          refine XS.dup X86.here hx rfl (hb hby at_137) rfl rfl ?_
          show Steps p.tables e below (T86.setTop (mkF m 138 #[.val (.int p0), .val (.int p1), .val (.int p2), .val (.int p3), .val (.int p4), .val (.int p5), .val (.int v2), .val (.int v10), .val (.int v18), .val (.int v33), .val (.ref b72), .val (.ref b81), .unset, .unset] [(.ref b86), (.ref b86)])) _
          refine XS.aload X86.here hx rfl (hb hby at_138) rfl rfl ?_
          show Steps p.tables e below (T86.setTop (mkF m 140 #[.val (.int p0), .val (.int p1), .val (.int p2), .val (.int p3), .val (.int p4), .val (.int p5), .val (.int v2), .val (.int v10), .val (.int v18), .val (.int v33), .val (.ref b72), .val (.ref b81), .unset, .unset] [(.ref b72), (.ref b86), (.ref b86)])) _
          refine XS.aload X86.here hx rfl (hb hby at_140) rfl rfl ?_
          show Steps p.tables e below (T86.setTop (mkF m 142 #[.val (.int p0), .val (.int p1), .val (.int p2), .val (.int p3), .val (.int p4), .val (.int p5), .val (.int v2), .val (.int v10), .val (.int v18), .val (.int v33), .val (.ref b72), .val (.ref b81), .unset, .unset] [(.ref b81), (.ref b72), (.ref b86), (.ref b86)])) _
          refine XS.iconst X86.here hx rfl (hb hby at_142) ?_
          exact k)
      obtain ⟨_, _, ⟨T92, L92, k92, n92⟩, -, X92, ⟨Lc92, hQ92, l92, y92, z92⟩, st92⟩ := X86.specialBack hx (y := (⟨"com/example/lexivec/lexivec/lucene/SparseList", "<init>", "([I[II)V"⟩ : MethodName)) rfl hown (mvT hZ (hw _ (List.mem_of_getElem? (i := 11) rfl))) (mvT hZ (hw _ (List.mem_of_getElem? (i := 12) rfl))) (mvT hZ (hw _ (List.mem_of_getElem? (i := 13) rfl))) (by decide) (backOf (W := 1) (rm3 l Z a0 hw [] b86 b72 b81 (0 : Int32) h86 n0 c87 A86 F86_documents F86_frequencies F86_maxFrequency g_b86) hZ (hw _ (List.mem_of_getElem? (i := 13) rfl)) (hw _ (List.mem_of_getElem? (i := 10) rfl)) (by decide) (by decide)) (g := (mkF m 143 #[.val (.int p0), .val (.int p1), .val (.int p2), .val (.int p3), .val (.int p4), .val (.int p5), .val (.int v2), .val (.int v10), .val (.int v18), .val (.int v33), .val (.ref b72), .val (.ref b81), .unset, .unset] [(.int (0 : Int32)), (.ref b81), (.ref b72), (.ref b86), (.ref b86)])) rfl (by rw [hml]; rfl) (Steps.refl _) (a := b86) (argsL := [(.ref b72), (.ref b81), (.int (0 : Int32))]) (rest := [(.ref b86)]) (lenOf own_pd2 rfl) rfl (by show 2 * 0 + _ ≤ _; exact Nat.le_of_eq rfl) (hb hby at_143) (fun _ _ => ⟨rfl, e86, (by decide : 3 + 0 ≤ _), (by decide : 7 + 0 ≤ _)⟩)
      dsimp only [Pt.U, Pt.locs, Pt.cells, Pt.slots] at X92 l92 y92 z92 st92 hQ92
      subst l92 y92 z92
      obtain ⟨rfl, N92q, K92, EE92, FF92_0, FF92_1, FF92_2⟩ := hQ92
      have c93 : n0 ≤ T92.heap.size := Nat.le_trans c87 K92.1
      have c94 : Arv Z T92.heap b72 k72 .int (1 : Int32) [(.int p0)] (.int (0 : Int32)) := c88.keep K92 (ninS (Nat.ne_of_lt (Nat.lt_of_lt_of_le c83.lt (Nat.le_of_eq g86.symm))) nin0)
      have c95 : Arv Z T92.heap b81 k81 .int v2 [] (.int (0 : Int32)) := c89.keep K92 (ninS (Nat.ne_of_lt (Nat.lt_of_lt_of_le V_b81.lt (Nat.le_of_eq g86.symm))) nin0)
      have c96 : Exa Z T92.heap b86 "com/example/lexivec/lexivec/lucene/SparseList" := A86.keep K92
      have K97 : Keep h0 T92.heap [] := K90.trans K92 (allS (P := fun x => x ∈ ([] : List Addr) ∨ h0.size ≤ x) (Or.inr sz_b86) all0)
      have N92 := Fr.app N77 N92q
      have pre92 : ∀ t, Steps p.tables e below (T92.setTop (mkF m 146 #[.val (.int p0), .val (.int p1), .val (.int p2), .val (.int p3), .val (.int p4), .val (.int p5), .val (.int v2), .val (.int v10), .val (.int v18), .val (.int v33), .val (.ref b72), .val (.ref b81), .unset, .unset] [(.ref b86)])) t → P t := fun t k => pre91 t (st92.trans k)
      have pre98 : ∀ t, Steps p.tables e below (T92.setTop (mkF m 169 #[.val (.int p0), .val (.int p1), .val (.int p2), .val (.int p3), .val (.int p4), .val (.int p5), .val (.int v2), .val (.int v10), .val (.int v18), .val (.int v33), .val (.ref b72), .val (.ref b81), .val (.ref b86), .unset] [(.int p4), (.int p3), (.int p0)])) t → P t := fun t k => pre92 t (by
          show Steps p.tables e below (T92.setTop (mkF m 146 #[.val (.int p0), .val (.int p1), .val (.int p2), .val (.int p3), .val (.int p4), .val (.int p5), .val (.int v2), .val (.int v10), .val (.int v18), .val (.int v33), .val (.ref b72), .val (.ref b81), .unset, .unset] [(.ref b86)])) _
          refine XS.astore X92.here hx rfl (hb hby at_146) rfl rfl (l' := #[.val (.int p0), .val (.int p1), .val (.int p2), .val (.int p3), .val (.int p4), .val (.int p5), .val (.int v2), .val (.int v10), .val (.int v18), .val (.int v33), .val (.ref b72), .val (.ref b81), .val (.ref b86), .unset]) rfl ?_
          show Steps p.tables e below (T92.setTop (mkF m 148 #[.val (.int p0), .val (.int p1), .val (.int p2), .val (.int p3), .val (.int p4), .val (.int p5), .val (.int v2), .val (.int v10), .val (.int v18), .val (.int v33), .val (.ref b72), .val (.ref b81), .val (.ref b86), .unset] [])) _
          refine XS.iload X92.here hx rfl (hb hby at_148) rfl ?_
          show Steps p.tables e below (T92.setTop (mkF m 150 #[.val (.int p0), .val (.int p1), .val (.int p2), .val (.int p3), .val (.int p4), .val (.int p5), .val (.int v2), .val (.int v10), .val (.int v18), .val (.int v33), .val (.ref b72), .val (.ref b81), .val (.ref b86), .unset] [(.int v2)])) _
          refine XS.ifYes X92.here hx rfl (pc0 := 150) (pc' := 159) rfl (hb hby at_150) rfl ((if0 _ _).trans (feq hc36).2) (by decide) (by decide) ?_
          show Steps p.tables e below (T92.setTop (mkF m 159 #[.val (.int p0), .val (.int p1), .val (.int p2), .val (.int p3), .val (.int p4), .val (.int p5), .val (.int v2), .val (.int v10), .val (.int v18), .val (.int v33), .val (.ref b72), .val (.ref b81), .val (.ref b86), .unset] [])) _
          refine XS.iload X92.here hx rfl (hb hby at_159) rfl ?_
          show Steps p.tables e below (T92.setTop (mkF m 161 #[.val (.int p0), .val (.int p1), .val (.int p2), .val (.int p3), .val (.int p4), .val (.int p5), .val (.int v2), .val (.int v10), .val (.int v18), .val (.int v33), .val (.ref b72), .val (.ref b81), .val (.ref b86), .unset] [(.int v2)])) _
          refine XS.iconst X92.here hx rfl (hb hby at_161) ?_
          show Steps p.tables e below (T92.setTop (mkF m 162 #[.val (.int p0), .val (.int p1), .val (.int p2), .val (.int p3), .val (.int p4), .val (.int p5), .val (.int v2), .val (.int v10), .val (.int v18), .val (.int v33), .val (.ref b72), .val (.ref b81), .val (.ref b86), .unset] [(.int (1 : Int32)), (.int v2)])) _
          refine XS.icmpNo X92.here hx rfl (hb hby at_162) rfl (teq hc70).2 ?_
          show Steps p.tables e below (T92.setTop (mkF m 165 #[.val (.int p0), .val (.int p1), .val (.int p2), .val (.int p3), .val (.int p4), .val (.int p5), .val (.int v2), .val (.int v10), .val (.int v18), .val (.int v33), .val (.ref b72), .val (.ref b81), .val (.ref b86), .unset] [])) _
          refine XS.iloadN X92.here hx rfl (hb hby at_165) rfl ?_
          show Steps p.tables e below (T92.setTop (mkF m 166 #[.val (.int p0), .val (.int p1), .val (.int p2), .val (.int p3), .val (.int p4), .val (.int p5), .val (.int v2), .val (.int v10), .val (.int v18), .val (.int v33), .val (.ref b72), .val (.ref b81), .val (.ref b86), .unset] [(.int p0)])) _
          refine XS.iloadN X92.here hx rfl (hb hby at_166) rfl ?_
          show Steps p.tables e below (T92.setTop (mkF m 167 #[.val (.int p0), .val (.int p1), .val (.int p2), .val (.int p3), .val (.int p4), .val (.int p5), .val (.int v2), .val (.int v10), .val (.int v18), .val (.int v33), .val (.ref b72), .val (.ref b81), .val (.ref b86), .unset] [(.int p3), (.int p0)])) _
          refine XS.iload X92.here hx rfl (hb hby at_167) rfl ?_
          exact k)
      obtain ⟨_, _, ⟨T99, L99, k99, n99⟩, -, X99, ⟨Lc99, hQ99, l99, y99, z99⟩, st99⟩ := Jvm.LawKit.callS X92 hx (y := (⟨"com/example/lexivec/lexivec/lucene/SparseListWithinPinLaw", "in", "(III)Z"⟩ : MethodName)) hown (mvT hZ (hw _ (List.mem_of_getElem? (i := 28) rfl))) (mvT hZ (hw _ (List.mem_of_getElem? (i := 29) rfl))) (mvT hZ (hw _ (List.mem_of_getElem? (i := 30) rfl))) (mvT hZ (hw _ (List.mem_of_getElem? (i := 31) rfl))) (by decide) (backOf (W := 0) (rm6 l Z a0 hw [] p0 p3 p4 T92.heap n0 c93 ) hZ (hw _ (List.mem_of_getElem? (i := 31) rfl)) (hw _ (List.mem_of_getElem? (i := 30) rfl)) (by decide) (by decide)) (g := (mkF m 169 #[.val (.int p0), .val (.int p1), .val (.int p2), .val (.int p3), .val (.int p4), .val (.int p5), .val (.int v2), .val (.int v10), .val (.int v18), .val (.int v33), .val (.ref b72), .val (.ref b81), .val (.ref b86), .unset] [(.int p4), (.int p3), (.int p0)])) rfl (by rw [hml]; rfl) (argsL := [(.int p0), (.int p3), (.int p4)]) (rest := []) (lenOf own_pd4 rfl) rfl (by show 2 * 0 + _ ≤ _; exact Nat.le_of_eq rfl) (hb hby at_169) (fun _ _ => ⟨rfl, rfl, (by decide : 3 + 0 ≤ _), (by decide : 7 + 0 ≤ _)⟩)
      dsimp only [Pt.U, Pt.locs, Pt.cells, Pt.slots] at X99 l99 y99 z99 st99 hQ99
      subst l99 y99 z99
      obtain ⟨rfl, N99q, e99⟩ := hQ99
      have N99 := Fr.app N92 N99q
      have pre99 : ∀ t, Steps p.tables e below (T99.setTop (mkF m 172 #[.val (.int p0), .val (.int p1), .val (.int p2), .val (.int p3), .val (.int p4), .val (.int p5), .val (.int v2), .val (.int v10), .val (.int v18), .val (.int v33), .val (.ref b72), .val (.ref b81), .val (.ref b86), .unset] [(.int (own_f6 p0 p3 p4))])) t → P t := fun t k => pre98 t (st99 _ k)
      obtain ⟨v100, hv100⟩ : ∃ z : Int32, z = (own_f6 p0 p3 p4) := ⟨_, rfl⟩
      have pre101 : ∀ t, Steps p.tables e below (T99.setTop (mkF m 172 #[.val (.int p0), .val (.int p1), .val (.int p2), .val (.int p3), .val (.int p4), .val (.int p5), .val (.int v2), .val (.int v10), .val (.int v18), .val (.int v33), .val (.ref b72), .val (.ref b81), .val (.ref b86), .unset] [(.int v100)])) t → P t := fun t k => pre99 t (by subst hv100; exact k)
      have pre102 : ∀ t, Steps p.tables e below (T99.setTop (mkF m 255 #[.val (.int p0), .val (.int p1), .val (.int p2), .val (.int p3), .val (.int p4), .val (.int p5), .val (.int v2), .val (.int v10), .val (.int v18), .val (.int v33), .val (.ref b72), .val (.ref b81), .val (.ref b86), .val (.int v100)] [(.int p4), (.int p3), (.ref b86)])) t → P t := fun t k => pre101 t (by
          show Steps p.tables e below (T99.setTop (mkF m 172 #[.val (.int p0), .val (.int p1), .val (.int p2), .val (.int p3), .val (.int p4), .val (.int p5), .val (.int v2), .val (.int v10), .val (.int v18), .val (.int v33), .val (.ref b72), .val (.ref b81), .val (.ref b86), .unset] [(.int v100)])) _
          refine XS.istore X99.here hx rfl (hb hby at_172) rfl (l' := #[.val (.int p0), .val (.int p1), .val (.int p2), .val (.int p3), .val (.int p4), .val (.int p5), .val (.int v2), .val (.int v10), .val (.int v18), .val (.int v33), .val (.ref b72), .val (.ref b81), .val (.ref b86), .val (.int v100)]) rfl ?_
          show Steps p.tables e below (T99.setTop (mkF m 174 #[.val (.int p0), .val (.int p1), .val (.int p2), .val (.int p3), .val (.int p4), .val (.int p5), .val (.int v2), .val (.int v10), .val (.int v18), .val (.int v33), .val (.ref b72), .val (.ref b81), .val (.ref b86), .val (.int v100)] [])) _
          refine XS.goto X99.here hx rfl (pc0 := 174) (pc' := 250) rfl (hb hby at_174) (by decide) (by decide) ?_
          show Steps p.tables e below (T99.setTop (mkF m 250 #[.val (.int p0), .val (.int p1), .val (.int p2), .val (.int p3), .val (.int p4), .val (.int p5), .val (.int v2), .val (.int v10), .val (.int v18), .val (.int v33), .val (.ref b72), .val (.ref b81), .val (.ref b86), .val (.int v100)] [])) _
          refine XS.aload X99.here hx rfl (hb hby at_250) rfl rfl ?_
          show Steps p.tables e below (T99.setTop (mkF m 252 #[.val (.int p0), .val (.int p1), .val (.int p2), .val (.int p3), .val (.int p4), .val (.int p5), .val (.int v2), .val (.int v10), .val (.int v18), .val (.int v33), .val (.ref b72), .val (.ref b81), .val (.ref b86), .val (.int v100)] [(.ref b86)])) _
          refine XS.iloadN X99.here hx rfl (hb hby at_252) rfl ?_
          show Steps p.tables e below (T99.setTop (mkF m 253 #[.val (.int p0), .val (.int p1), .val (.int p2), .val (.int p3), .val (.int p4), .val (.int p5), .val (.int v2), .val (.int v10), .val (.int v18), .val (.int v33), .val (.ref b72), .val (.ref b81), .val (.ref b86), .val (.int v100)] [(.int p3), (.ref b86)])) _
          refine XS.iload X99.here hx rfl (hb hby at_253) rfl ?_
          exact k)
      obtain ⟨cq103, kq103, q103a, q103b, q103c⟩ := isOf hZ e99 EE92
      obtain ⟨_, _, ⟨T103, L103, k103, n103⟩, -, X103, ⟨Lc103, hQ103, l103, y103, z103⟩, st103⟩ := X99.virtualBack hx (y := (⟨"com/example/lexivec/lexivec/lucene/SparseList", "within", "(II)Z"⟩ : MethodName)) (z := (⟨"com/example/lexivec/lexivec/lucene/SparseList", "within", "(II)Z"⟩ : MethodName)) hown (mvT hZ (hw _ (List.mem_of_getElem? (i := 32) rfl))) (mvT hZ (hw _ (List.mem_of_getElem? (i := 33) rfl))) (notFace_of_selects (args := #[]) (mvT hZ (hw _ (List.mem_of_getElem? (i := 35) rfl)))) (mvT hZ (hw _ (List.mem_of_getElem? (i := 35) rfl))) (mvT hZ (hw _ (List.mem_of_getElem? (i := 34) rfl))) (by decide) (backOf (W := 0) (rm7 l Z a0 hw [] b86 p3 p4 b72 k72 (1 : Int32) [(.int p0)] p0 p0 T92.heap n0 c93 FF92_0 c94 (fun _ => rfl) (fun _ => rfl)) hZ (hw _ (List.mem_of_getElem? (i := 36) rfl)) (hw _ (List.mem_of_getElem? (i := 10) rfl)) (by decide) (by decide)) q103a q103c (g := (mkF m 255 #[.val (.int p0), .val (.int p1), .val (.int p2), .val (.int p3), .val (.int p4), .val (.int p5), .val (.int v2), .val (.int v10), .val (.int v18), .val (.int v33), .val (.ref b72), .val (.ref b81), .val (.ref b86), .val (.int v100)] [(.int p4), (.int p3), (.ref b86)])) rfl (by rw [hml]; rfl) (Steps.refl _) (argsL := [(.int p3), (.int p4)]) (rest := []) (lenOf own_pd3 rfl) rfl (by show 2 * 0 + _ ≤ _; exact Nat.le_of_eq rfl) (hb hby at_255) (fun _ _ => ⟨rfl, e99, (by decide : 3 + 0 ≤ _), (by decide : 7 + 0 ≤ _)⟩)
      dsimp only [Pt.U, Pt.locs, Pt.cells, Pt.slots] at X103 l103 y103 z103 st103 hQ103
      subst l103 y103 z103
      obtain ⟨rfl, N103q, e103⟩ := hQ103
      have N103 := Fr.app N99 N103q
      have pre103 : ∀ t, Steps p.tables e below (T103.setTop (mkF m 258 #[.val (.int p0), .val (.int p1), .val (.int p2), .val (.int p3), .val (.int p4), .val (.int p5), .val (.int v2), .val (.int v10), .val (.int v18), .val (.int v33), .val (.ref b72), .val (.ref b81), .val (.ref b86), .val (.int v100)] [(.int (own_f7 p3 p4 (1 : Int32) p0 p0))])) t → P t := fun t k => pre102 t (st103.trans k)
      obtain ⟨v104, hv104⟩ : ∃ z : Int32, z = (own_f7 p3 p4 (1 : Int32) p0 p0) := ⟨_, rfl⟩
      have pre105 : ∀ t, Steps p.tables e below (T103.setTop (mkF m 258 #[.val (.int p0), .val (.int p1), .val (.int p2), .val (.int p3), .val (.int p4), .val (.int p5), .val (.int v2), .val (.int v10), .val (.int v18), .val (.int v33), .val (.ref b72), .val (.ref b81), .val (.ref b86), .val (.int v100)] [(.int v104)])) t → P t := fun t k => pre103 t (by subst hv104; exact k)
      have pre106 : ∀ t, Steps p.tables e below (T103.setTop (mkF m 260 #[.val (.int p0), .val (.int p1), .val (.int p2), .val (.int p3), .val (.int p4), .val (.int p5), .val (.int v2), .val (.int v10), .val (.int v18), .val (.int v33), .val (.ref b72), .val (.ref b81), .val (.ref b86), .val (.int v100)] [(.int v100), (.int v104)])) t → P t := fun t k => pre105 t (by
          show Steps p.tables e below (T103.setTop (mkF m 258 #[.val (.int p0), .val (.int p1), .val (.int p2), .val (.int p3), .val (.int p4), .val (.int p5), .val (.int v2), .val (.int v10), .val (.int v18), .val (.int v33), .val (.ref b72), .val (.ref b81), .val (.ref b86), .val (.int v100)] [(.int v104)])) _
          refine XS.iload X103.here hx rfl (hb hby at_258) rfl ?_
          exact k)
      obtain ⟨T111, L111, v110, X111, e111, N111, hv110, pre111⟩ : ∃ (T' : State) (L' : List Loc) (v110 : Int32), Stand p l e room_1 s m #[(.int p0), (.int p1), (.int p2), (.int p3), (.int p4), (.int p5)] below meth c T' L' 3 7 ∧ T'.heap = T92.heap ∧ Fr n0 L' ∧ v110 = (if v104 = v100 then (1 : Int32) else (0 : Int32)) ∧ (∀ t, Steps p.tables e below (T'.setTop (mkF m 268 #[.val (.int p0), .val (.int p1), .val (.int p2), .val (.int p3), .val (.int p4), .val (.int p5), .val (.int v2), .val (.int v10), .val (.int v18), .val (.int v33), .val (.ref b72), .val (.ref b81), .val (.ref b86), .val (.int v100)] [(.int v110)])) t → P t) := by
        by_cases hc107 : v104 = v100
        · have pre108 : ∀ t, Steps p.tables e below (T103.setTop (mkF m 268 #[.val (.int p0), .val (.int p1), .val (.int p2), .val (.int p3), .val (.int p4), .val (.int p5), .val (.int v2), .val (.int v10), .val (.int v18), .val (.int v33), .val (.ref b72), .val (.ref b81), .val (.ref b86), .val (.int v100)] [(.int (1 : Int32))])) t → P t := fun t k => pre106 t (by
              show Steps p.tables e below (T103.setTop (mkF m 260 #[.val (.int p0), .val (.int p1), .val (.int p2), .val (.int p3), .val (.int p4), .val (.int p5), .val (.int v2), .val (.int v10), .val (.int v18), .val (.int v33), .val (.ref b72), .val (.ref b81), .val (.ref b86), .val (.int v100)] [(.int v100), (.int v104)])) _
              refine XS.icmpNo X103.here hx rfl (hb hby at_260) rfl (teq hc107).2 ?_
              show Steps p.tables e below (T103.setTop (mkF m 263 #[.val (.int p0), .val (.int p1), .val (.int p2), .val (.int p3), .val (.int p4), .val (.int p5), .val (.int v2), .val (.int v10), .val (.int v18), .val (.int v33), .val (.ref b72), .val (.ref b81), .val (.ref b86), .val (.int v100)] [])) _
              refine XS.iconst X103.here hx rfl (hb hby at_263) ?_
              show Steps p.tables e below (T103.setTop (mkF m 264 #[.val (.int p0), .val (.int p1), .val (.int p2), .val (.int p3), .val (.int p4), .val (.int p5), .val (.int v2), .val (.int v10), .val (.int v18), .val (.int v33), .val (.ref b72), .val (.ref b81), .val (.ref b86), .val (.int v100)] [(.int (1 : Int32))])) _
              refine XS.goto X103.here hx rfl (pc0 := 264) (pc' := 268) rfl (hb hby at_264) (by decide) (by decide) ?_
              exact k)
          exact ⟨_, _, (1 : Int32), X103, e103, N103, (by first | (rw [if_pos hc107]; done) | simp only [if_pos hc107] | simp [if_pos hc107]), pre108⟩
        · have pre109 : ∀ t, Steps p.tables e below (T103.setTop (mkF m 268 #[.val (.int p0), .val (.int p1), .val (.int p2), .val (.int p3), .val (.int p4), .val (.int p5), .val (.int v2), .val (.int v10), .val (.int v18), .val (.int v33), .val (.ref b72), .val (.ref b81), .val (.ref b86), .val (.int v100)] [(.int (0 : Int32))])) t → P t := fun t k => pre106 t (by
              show Steps p.tables e below (T103.setTop (mkF m 260 #[.val (.int p0), .val (.int p1), .val (.int p2), .val (.int p3), .val (.int p4), .val (.int p5), .val (.int v2), .val (.int v10), .val (.int v18), .val (.int v33), .val (.ref b72), .val (.ref b81), .val (.ref b86), .val (.int v100)] [(.int v100), (.int v104)])) _
              refine XS.icmpYes X103.here hx rfl (pc0 := 260) (pc' := 267) rfl (hb hby at_260) rfl (feq hc107).2 (by decide) (by decide) ?_
              show Steps p.tables e below (T103.setTop (mkF m 267 #[.val (.int p0), .val (.int p1), .val (.int p2), .val (.int p3), .val (.int p4), .val (.int p5), .val (.int v2), .val (.int v10), .val (.int v18), .val (.int v33), .val (.ref b72), .val (.ref b81), .val (.ref b86), .val (.int v100)] [])) _
              refine XS.iconst X103.here hx rfl (hb hby at_267) ?_
              exact k)
          exact ⟨_, _, (0 : Int32), X103, e103, N103, (by first | (rw [if_neg hc107]; done) | simp only [if_neg hc107] | simp [if_neg hc107]), pre109⟩
      obtain ⟨fs, hr, hrun, hended, hW, hsame⟩ := X111.leave (v := some (.int v110)) (fun h => by rw [Bd.returns] at h; cases h)
      refine ⟨_, _, fin _ (pre111 _ ?_), hrun, hended, _, _, rfl, ?_, ⟨_, rfl⟩, hW, hsame.mono (by decide) (by decide)⟩
      · show Steps p.tables e below (T111.setTop (mkF m 268 #[.val (.int p0), .val (.int p1), .val (.int p2), .val (.int p3), .val (.int p4), .val (.int p5), .val (.int v2), .val (.int v10), .val (.int v18), .val (.int v33), .val (.ref b72), .val (.ref b81), .val (.ref b86), .val (.int v100)] [(.int v110)])) _
        have hnar : nar .boolean v110 = v110 := by subst hv2 hv6 hv10 hv14 hv18 hv22 hv26 hv30 hv33 hv100 hv104 hv110; first | rfl | (split <;> rfl) | ((try simp only []); (repeat' split) <;> rfl)
        exact retN X111 hx (t := .boolean) Bd.returns (by simp) (hb hby at_268) (by rw [hnar]; exact hr)
      · show Q0 Z p0 p1 p2 p3 p4 p5 h0 n0 _ T111.heap _
        rw [e111]
        exact ⟨(by subst hv2 hv6 hv10 hv14 hv18 hv22 hv26 hv30 hv33 hv100 hv104 hv110; first | (unfold own_f0; rw [if_neg hc36, if_pos hc70]; done) | simp only [own_f0, if_neg hc36, if_pos hc70] | simp [own_f0, if_neg hc36, if_pos hc70]), N111⟩
    · have pre112 : ∀ t, Steps p.tables e below (T32.setTop (mkF m 81 #[.val (.int p0), .val (.int p1), .val (.int p2), .val (.int p3), .val (.int p4), .val (.int p5), .val (.int v2), .val (.int v10), .val (.int v18), .val (.int v33), .unset, .unset, .unset, .unset] [(.int (2 : Int32)), (.int v2)])) t → P t := fun t k => pre69 t (by
          show Steps p.tables e below (T32.setTop (mkF m 63 #[.val (.int p0), .val (.int p1), .val (.int p2), .val (.int p3), .val (.int p4), .val (.int p5), .val (.int v2), .val (.int v10), .val (.int v18), .val (.int v33), .unset, .unset, .unset, .unset] [(.int (1 : Int32)), (.int v2)])) _
          refine XS.icmpYes X32.here hx rfl (pc0 := 63) (pc' := 78) rfl (hb hby at_63) rfl (feq hc70).2 (by decide) (by decide) ?_
          show Steps p.tables e below (T32.setTop (mkF m 78 #[.val (.int p0), .val (.int p1), .val (.int p2), .val (.int p3), .val (.int p4), .val (.int p5), .val (.int v2), .val (.int v10), .val (.int v18), .val (.int v33), .unset, .unset, .unset, .unset] [])) _
          refine XS.iload X32.here hx rfl (hb hby at_78) rfl ?_
          show Steps p.tables e below (T32.setTop (mkF m 80 #[.val (.int p0), .val (.int p1), .val (.int p2), .val (.int p3), .val (.int p4), .val (.int p5), .val (.int v2), .val (.int v10), .val (.int v18), .val (.int v33), .unset, .unset, .unset, .unset] [(.int v2)])) _
          refine XS.iconst X32.here hx rfl (hb hby at_80) ?_
          exact k)
      by_cases hc113 : v2 = (2 : Int32)
      · have pre114 : ∀ t, Steps p.tables e below (T32.setTop (mkF m 85 #[.val (.int p0), .val (.int p1), .val (.int p2), .val (.int p3), .val (.int p4), .val (.int p5), .val (.int v2), .val (.int v10), .val (.int v18), .val (.int v33), .unset, .unset, .unset, .unset] [(.int (2 : Int32))])) t → P t := fun t k => pre112 t (by
            show Steps p.tables e below (T32.setTop (mkF m 81 #[.val (.int p0), .val (.int p1), .val (.int p2), .val (.int p3), .val (.int p4), .val (.int p5), .val (.int v2), .val (.int v10), .val (.int v18), .val (.int v33), .unset, .unset, .unset, .unset] [(.int (2 : Int32)), (.int v2)])) _
            refine XS.icmpNo X32.here hx rfl (hb hby at_81) rfl (teq hc113).2 ?_
            show Steps p.tables e below (T32.setTop (mkF m 84 #[.val (.int p0), .val (.int p1), .val (.int p2), .val (.int p3), .val (.int p4), .val (.int p5), .val (.int v2), .val (.int v10), .val (.int v18), .val (.int v33), .unset, .unset, .unset, .unset] [])) _
            refine XS.iconst X32.here hx rfl (hb hby at_84) ?_
            exact k)
        obtain ⟨T115, h115, k115, X115, e115, E115, A115, st115⟩ := newP X32 hx hZ (hw _ (List.mem_of_getElem? (i := 7) rfl)) e32 (g := (mkF m 85 #[.val (.int p0), .val (.int p1), .val (.int p2), .val (.int p3), .val (.int p4), .val (.int p5), .val (.int v2), .val (.int v10), .val (.int v18), .val (.int v33), .unset, .unset, .unset, .unset] [(.int (2 : Int32))])) rfl (hb hby at_85) rfl (by decide) (cap := 2) (by decide) (by decide) (by decide) (by decide)
        obtain ⟨b115, g115⟩ : ∃ z, z = h0.size := ⟨_, rfl⟩
        have g_b115 : n0 ≤ b115 := Nat.le_trans Z0 (Nat.le_of_eq g115.symm)
        have sz_b115 : h0.size ≤ b115 := Nat.le_trans K0.1 (Nat.le_of_eq g115.symm)
        rw [← g115] at A115 st115
        have pre115 : ∀ t, Steps p.tables e below (T115.setTop (mkF m 87 #[.val (.int p0), .val (.int p1), .val (.int p2), .val (.int p3), .val (.int p4), .val (.int p5), .val (.int v2), .val (.int v10), .val (.int v18), .val (.int v33), .unset, .unset, .unset, .unset] [(.ref b115)])) t → P t := fun t k => pre114 t (st115 _ k)
        have c116 : n0 ≤ h115.size := Nat.le_trans Z0 E115.1
        have K117 : Keep h0 h115 [] := K0.ext E115
        have V_b115 : Arv Z h115 b115 k115 .int (2 : Int32) [(.int (0 : Int32)), (.int (0 : Int32))] (.int (0 : Int32)) := (Arv.new A115 (by decide)).pad (pad_rep [] (.int (0 : Int32)) 2)
        have pre118 : ∀ t, Steps p.tables e below (T115.setTop (mkF m 91 #[.val (.int p0), .val (.int p1), .val (.int p2), .val (.int p3), .val (.int p4), .val (.int p5), .val (.int v2), .val (.int v10), .val (.int v18), .val (.int v33), .unset, .unset, .unset, .unset] [(.int p1), (.int p0), (.int (0 : Int32)), (.ref b115), (.ref b115)])) t → P t := fun t k => pre115 t (by
            show Steps p.tables e below (T115.setTop (mkF m 87 #[.val (.int p0), .val (.int p1), .val (.int p2), .val (.int p3), .val (.int p4), .val (.int p5), .val (.int v2), .val (.int v10), .val (.int v18), .val (.int v33), .unset, .unset, .unset, .unset] [(.ref b115)])) _
            refine XS.dup X115.here hx rfl (hb hby at_87) rfl rfl ?_
            show Steps p.tables e below (T115.setTop (mkF m 88 #[.val (.int p0), .val (.int p1), .val (.int p2), .val (.int p3), .val (.int p4), .val (.int p5), .val (.int v2), .val (.int v10), .val (.int v18), .val (.int v33), .unset, .unset, .unset, .unset] [(.ref b115), (.ref b115)])) _
            refine XS.iconst X115.here hx rfl (hb hby at_88) ?_
            show Steps p.tables e below (T115.setTop (mkF m 89 #[.val (.int p0), .val (.int p1), .val (.int p2), .val (.int p3), .val (.int p4), .val (.int p5), .val (.int v2), .val (.int v10), .val (.int v18), .val (.int v33), .unset, .unset, .unset, .unset] [(.int (0 : Int32)), (.ref b115), (.ref b115)])) _
            refine XS.iloadN X115.here hx rfl (hb hby at_89) rfl ?_
            show Steps p.tables e below (T115.setTop (mkF m 90 #[.val (.int p0), .val (.int p1), .val (.int p2), .val (.int p3), .val (.int p4), .val (.int p5), .val (.int v2), .val (.int v10), .val (.int v18), .val (.int v33), .unset, .unset, .unset, .unset] [(.int p0), (.int (0 : Int32)), (.ref b115), (.ref b115)])) _
            refine XS.iloadN X115.here hx rfl (hb hby at_90) rfl ?_
            exact k)
        obtain ⟨_, _, ⟨T119, L119, k119, n119⟩, -, X119, ⟨Lc119, hQ119, l119, y119, z119⟩, st119⟩ := Jvm.LawKit.callS X115 hx (y := (⟨"java/lang/Math", "min", "(II)I"⟩ : MethodName)) hown (mvT hZ (hw _ (List.mem_of_getElem? (i := 0) rfl))) (mvT hZ (hw _ (List.mem_of_getElem? (i := 1) rfl))) (mvT hZ (hw _ (List.mem_of_getElem? (i := 2) rfl))) (mvT hZ (hw _ (List.mem_of_getElem? (i := 3) rfl))) (by decide) (backOf (W := 3) (rm1 l Z a0 hw [] p0 p1 h115 n0 c116 ) hZ (hw _ (List.mem_of_getElem? (i := 3) rfl)) (hw _ (List.mem_of_getElem? (i := 2) rfl)) (by decide) (by decide)) (g := (mkF m 91 #[.val (.int p0), .val (.int p1), .val (.int p2), .val (.int p3), .val (.int p4), .val (.int p5), .val (.int v2), .val (.int v10), .val (.int v18), .val (.int v33), .unset, .unset, .unset, .unset] [(.int p1), (.int p0), (.int (0 : Int32)), (.ref b115), (.ref b115)])) rfl (by rw [hml]; rfl) (argsL := [(.int p0), (.int p1)]) (rest := [(.int (0 : Int32)), (.ref b115), (.ref b115)]) (lenOf own_pd1 rfl) rfl (by show 2 * 0 + _ ≤ _; exact Nat.le_of_eq rfl) (hb hby at_91) (fun _ _ => ⟨rfl, e115, (by decide : 1 + 0 ≤ _), (by decide : 2 + 0 ≤ _)⟩)
        dsimp only [Pt.U, Pt.locs, Pt.cells, Pt.slots] at X119 l119 y119 z119 st119 hQ119
        subst l119 y119 z119
        obtain ⟨rfl, N119q, e119⟩ := hQ119
        have N119 := Fr.app N32 N119q
        have pre119 : ∀ t, Steps p.tables e below (T119.setTop (mkF m 94 #[.val (.int p0), .val (.int p1), .val (.int p2), .val (.int p3), .val (.int p4), .val (.int p5), .val (.int v2), .val (.int v10), .val (.int v18), .val (.int v33), .unset, .unset, .unset, .unset] [(.int (own_f1 p0 p1)), (.int (0 : Int32)), (.ref b115), (.ref b115)])) t → P t := fun t k => pre118 t (st119 _ k)
        obtain ⟨v120, hv120⟩ : ∃ z : Int32, z = (own_f1 p0 p1) := ⟨_, rfl⟩
        have pre121 : ∀ t, Steps p.tables e below (T119.setTop (mkF m 94 #[.val (.int p0), .val (.int p1), .val (.int p2), .val (.int p3), .val (.int p4), .val (.int p5), .val (.int v2), .val (.int v10), .val (.int v18), .val (.int v33), .unset, .unset, .unset, .unset] [(.int v120), (.int (0 : Int32)), (.ref b115), (.ref b115)])) t → P t := fun t k => pre119 t (by subst hv120; exact k)
        obtain ⟨clq122, Arq122, qq122, Sq122, Nq122', Hq122, Gq122⟩ := id V_b115
        obtain ⟨T123, h123, X123, e123, W123, st123⟩ := stI X119 hx hZ e119 Arq122 (j := (0 : Int32)) (inb_of Sq122 ⟨by decide, by decide⟩) (g := (mkF m 94 #[.val (.int p0), .val (.int p1), .val (.int p2), .val (.int p3), .val (.int p4), .val (.int p5), .val (.int v2), .val (.int v10), .val (.int v18), .val (.int v33), .unset, .unset, .unset, .unset] [(.int v120), (.int (0 : Int32)), (.ref b115), (.ref b115)])) rfl rfl (hb hby at_94)
        have pre123 : ∀ t, Steps p.tables e below (T123.setTop (mkF m 95 #[.val (.int p0), .val (.int p1), .val (.int p2), .val (.int p3), .val (.int p4), .val (.int p5), .val (.int v2), .val (.int v10), .val (.int v18), .val (.int v33), .unset, .unset, .unset, .unset] [(.ref b115)])) t → P t := fun t k => pre121 t (st123 _ k)
        have V123 : Arv Z h123 b115 k115 .int (2 : Int32) [(.int v120), (.int (0 : Int32))] (.int (0 : Int32)) := Arv.set Arq122 qq122 Sq122 Nq122' Hq122 Gq122 rfl W123 0 rfl (Nat.le_of_ble_eq_true rfl)
        have c124 : n0 ≤ h123.size := Nat.le_trans c116 (Keep.of_wr W123).1
        have K125 : Keep h0 h123 [] := K117.wr W123 (Or.inr sz_b115)
        have N123 := Fr.snoc X123 N119 g_b115
        have pre126 : ∀ t, Steps p.tables e below (T123.setTop (mkF m 99 #[.val (.int p0), .val (.int p1), .val (.int p2), .val (.int p3), .val (.int p4), .val (.int p5), .val (.int v2), .val (.int v10), .val (.int v18), .val (.int v33), .unset, .unset, .unset, .unset] [(.int p1), (.int p0), (.int (1 : Int32)), (.ref b115), (.ref b115)])) t → P t := fun t k => pre123 t (by
            show Steps p.tables e below (T123.setTop (mkF m 95 #[.val (.int p0), .val (.int p1), .val (.int p2), .val (.int p3), .val (.int p4), .val (.int p5), .val (.int v2), .val (.int v10), .val (.int v18), .val (.int v33), .unset, .unset, .unset, .unset] [(.ref b115)])) _
            refine XS.dup X123.here hx rfl (hb hby at_95) rfl rfl ?_
            show Steps p.tables e below (T123.setTop (mkF m 96 #[.val (.int p0), .val (.int p1), .val (.int p2), .val (.int p3), .val (.int p4), .val (.int p5), .val (.int v2), .val (.int v10), .val (.int v18), .val (.int v33), .unset, .unset, .unset, .unset] [(.ref b115), (.ref b115)])) _
            refine XS.iconst X123.here hx rfl (hb hby at_96) ?_
            show Steps p.tables e below (T123.setTop (mkF m 97 #[.val (.int p0), .val (.int p1), .val (.int p2), .val (.int p3), .val (.int p4), .val (.int p5), .val (.int v2), .val (.int v10), .val (.int v18), .val (.int v33), .unset, .unset, .unset, .unset] [(.int (1 : Int32)), (.ref b115), (.ref b115)])) _
            refine XS.iloadN X123.here hx rfl (hb hby at_97) rfl ?_
            show Steps p.tables e below (T123.setTop (mkF m 98 #[.val (.int p0), .val (.int p1), .val (.int p2), .val (.int p3), .val (.int p4), .val (.int p5), .val (.int v2), .val (.int v10), .val (.int v18), .val (.int v33), .unset, .unset, .unset, .unset] [(.int p0), (.int (1 : Int32)), (.ref b115), (.ref b115)])) _
            refine XS.iloadN X123.here hx rfl (hb hby at_98) rfl ?_
            exact k)
        obtain ⟨_, _, ⟨T127, L127, k127, n127⟩, -, X127, ⟨Lc127, hQ127, l127, y127, z127⟩, st127⟩ := Jvm.LawKit.callS X123 hx (y := (⟨"java/lang/Math", "max", "(II)I"⟩ : MethodName)) hown (mvT hZ (hw _ (List.mem_of_getElem? (i := 4) rfl))) (mvT hZ (hw _ (List.mem_of_getElem? (i := 5) rfl))) (mvT hZ (hw _ (List.mem_of_getElem? (i := 2) rfl))) (mvT hZ (hw _ (List.mem_of_getElem? (i := 6) rfl))) (by decide) (backOf (W := 3) (rm2 l Z a0 hw [] p0 p1 h123 n0 c124 ) hZ (hw _ (List.mem_of_getElem? (i := 6) rfl)) (hw _ (List.mem_of_getElem? (i := 2) rfl)) (by decide) (by decide)) (g := (mkF m 99 #[.val (.int p0), .val (.int p1), .val (.int p2), .val (.int p3), .val (.int p4), .val (.int p5), .val (.int v2), .val (.int v10), .val (.int v18), .val (.int v33), .unset, .unset, .unset, .unset] [(.int p1), (.int p0), (.int (1 : Int32)), (.ref b115), (.ref b115)])) rfl (by rw [hml]; rfl) (argsL := [(.int p0), (.int p1)]) (rest := [(.int (1 : Int32)), (.ref b115), (.ref b115)]) (lenOf own_pd1 rfl) rfl (by show 2 * 0 + _ ≤ _; exact Nat.le_of_eq rfl) (hb hby at_99) (fun _ _ => ⟨rfl, e123, (by decide : 1 + 0 ≤ _), (by decide : 2 + 0 ≤ _)⟩)
        dsimp only [Pt.U, Pt.locs, Pt.cells, Pt.slots] at X127 l127 y127 z127 st127 hQ127
        subst l127 y127 z127
        obtain ⟨rfl, N127q, e127⟩ := hQ127
        have N127 := Fr.app N123 N127q
        have pre127 : ∀ t, Steps p.tables e below (T127.setTop (mkF m 102 #[.val (.int p0), .val (.int p1), .val (.int p2), .val (.int p3), .val (.int p4), .val (.int p5), .val (.int v2), .val (.int v10), .val (.int v18), .val (.int v33), .unset, .unset, .unset, .unset] [(.int (own_f2 p0 p1)), (.int (1 : Int32)), (.ref b115), (.ref b115)])) t → P t := fun t k => pre126 t (st127 _ k)
        obtain ⟨v128, hv128⟩ : ∃ z : Int32, z = (own_f2 p0 p1) := ⟨_, rfl⟩
        have pre129 : ∀ t, Steps p.tables e below (T127.setTop (mkF m 102 #[.val (.int p0), .val (.int p1), .val (.int p2), .val (.int p3), .val (.int p4), .val (.int p5), .val (.int v2), .val (.int v10), .val (.int v18), .val (.int v33), .unset, .unset, .unset, .unset] [(.int v128), (.int (1 : Int32)), (.ref b115), (.ref b115)])) t → P t := fun t k => pre127 t (by subst hv128; exact k)
        obtain ⟨clq130, Arq130, qq130, Sq130, Nq130', Hq130, Gq130⟩ := id V123
        obtain ⟨T131, h131, X131, e131, W131, st131⟩ := stI X127 hx hZ e127 Arq130 (j := (1 : Int32)) (inb_of Sq130 ⟨by decide, by decide⟩) (g := (mkF m 102 #[.val (.int p0), .val (.int p1), .val (.int p2), .val (.int p3), .val (.int p4), .val (.int p5), .val (.int v2), .val (.int v10), .val (.int v18), .val (.int v33), .unset, .unset, .unset, .unset] [(.int v128), (.int (1 : Int32)), (.ref b115), (.ref b115)])) rfl rfl (hb hby at_102)
        have pre131 : ∀ t, Steps p.tables e below (T131.setTop (mkF m 103 #[.val (.int p0), .val (.int p1), .val (.int p2), .val (.int p3), .val (.int p4), .val (.int p5), .val (.int v2), .val (.int v10), .val (.int v18), .val (.int v33), .unset, .unset, .unset, .unset] [(.ref b115)])) t → P t := fun t k => pre129 t (st131 _ k)
        have V131 : Arv Z h131 b115 k115 .int (2 : Int32) [(.int v120), (.int v128)] (.int (0 : Int32)) := Arv.set Arq130 qq130 Sq130 Nq130' Hq130 Gq130 rfl W131 1 rfl (Nat.le_of_ble_eq_true rfl)
        have c132 : n0 ≤ h131.size := Nat.le_trans c124 (Keep.of_wr W131).1
        have K133 : Keep h0 h131 [] := K125.wr W131 (Or.inr sz_b115)
        have N131 := Fr.snoc X131 N127 g_b115
        have pre134 : ∀ t, Steps p.tables e below (T131.setTop (mkF m 130 #[.val (.int p0), .val (.int p1), .val (.int p2), .val (.int p3), .val (.int p4), .val (.int p5), .val (.int v2), .val (.int v10), .val (.int v18), .val (.int v33), .val (.ref b115), .unset, .unset, .unset] [(.int v2)])) t → P t := fun t k => pre131 t (by
            show Steps p.tables e below (T131.setTop (mkF m 103 #[.val (.int p0), .val (.int p1), .val (.int p2), .val (.int p3), .val (.int p4), .val (.int p5), .val (.int v2), .val (.int v10), .val (.int v18), .val (.int v33), .unset, .unset, .unset, .unset] [(.ref b115)])) _
            refine XS.astore X131.here hx rfl (hb hby at_103) rfl rfl (l' := #[.val (.int p0), .val (.int p1), .val (.int p2), .val (.int p3), .val (.int p4), .val (.int p5), .val (.int v2), .val (.int v10), .val (.int v18), .val (.int v33), .val (.ref b115), .unset, .unset, .unset]) rfl ?_
            show Steps p.tables e below (T131.setTop (mkF m 105 #[.val (.int p0), .val (.int p1), .val (.int p2), .val (.int p3), .val (.int p4), .val (.int p5), .val (.int v2), .val (.int v10), .val (.int v18), .val (.int v33), .val (.ref b115), .unset, .unset, .unset] [])) _
            refine XS.goto X131.here hx rfl (pc0 := 105) (pc' := 128) rfl (hb hby at_105) (by decide) (by decide) ?_
            show Steps p.tables e below (T131.setTop (mkF m 128 #[.val (.int p0), .val (.int p1), .val (.int p2), .val (.int p3), .val (.int p4), .val (.int p5), .val (.int v2), .val (.int v10), .val (.int v18), .val (.int v33), .val (.ref b115), .unset, .unset, .unset] [])) _
            refine XS.iload X131.here hx rfl (hb hby at_128) rfl ?_
            exact k)
        obtain ⟨T135, h135, k135, X135, e135, E135, A135, st135⟩ := newP X131 hx hZ (hw _ (List.mem_of_getElem? (i := 7) rfl)) e131 (g := (mkF m 130 #[.val (.int p0), .val (.int p1), .val (.int p2), .val (.int p3), .val (.int p4), .val (.int p5), .val (.int v2), .val (.int v10), .val (.int v18), .val (.int v33), .val (.ref b115), .unset, .unset, .unset] [(.int v2)])) rfl (hb hby at_130) rfl (by subst hv2; exact (own_n3 _).1) (cap := 3) (by subst hv2; exact (own_n3 _).2) (by decide) (by decide) (by decide)
        obtain ⟨b135, g135⟩ : ∃ z, z = h131.size := ⟨_, rfl⟩
        have g_b135 : n0 ≤ b135 := Nat.le_trans c132 (Nat.le_of_eq g135.symm)
        have sz_b135 : h0.size ≤ b135 := Nat.le_trans K133.1 (Nat.le_of_eq g135.symm)
        rw [← g135] at A135 st135
        have pre135 : ∀ t, Steps p.tables e below (T135.setTop (mkF m 132 #[.val (.int p0), .val (.int p1), .val (.int p2), .val (.int p3), .val (.int p4), .val (.int p5), .val (.int v2), .val (.int v10), .val (.int v18), .val (.int v33), .val (.ref b115), .unset, .unset, .unset] [(.ref b135)])) t → P t := fun t k => pre134 t (st135 _ k)
        have c136 : n0 ≤ h135.size := Nat.le_trans c132 E135.1
        have c137 : Arv Z h135 b115 k115 .int (2 : Int32) [(.int v120), (.int v128)] (.int (0 : Int32)) := V131.ext E135
        have K138 : Keep h0 h135 [] := K133.ext E135
        have V_b135 : Arv Z h135 b135 k135 .int v2 [] (.int (0 : Int32)) := Arv.new A135 (by subst hv2; exact (own_n3 _).1)
        have pre139 : ∀ t, Steps p.tables e below (T135.setTop (mkF m 134 #[.val (.int p0), .val (.int p1), .val (.int p2), .val (.int p3), .val (.int p4), .val (.int p5), .val (.int v2), .val (.int v10), .val (.int v18), .val (.int v33), .val (.ref b115), .val (.ref b135), .unset, .unset] [])) t → P t := fun t k => pre135 t (by
            show Steps p.tables e below (T135.setTop (mkF m 132 #[.val (.int p0), .val (.int p1), .val (.int p2), .val (.int p3), .val (.int p4), .val (.int p5), .val (.int v2), .val (.int v10), .val (.int v18), .val (.int v33), .val (.ref b115), .unset, .unset, .unset] [(.ref b135)])) _
            refine XS.astore X135.here hx rfl (hb hby at_132) rfl rfl (l' := #[.val (.int p0), .val (.int p1), .val (.int p2), .val (.int p3), .val (.int p4), .val (.int p5), .val (.int v2), .val (.int v10), .val (.int v18), .val (.int v33), .val (.ref b115), .val (.ref b135), .unset, .unset]) rfl ?_
            exact k)
        obtain ⟨T140, h140, X140, e140, E140, A140, D140, -, st140⟩ := newO X135 hx hZ hown (hw _ (List.mem_of_getElem? (i := 8) rfl)) (hw _ (List.mem_of_getElem? (i := 9) rfl)) (hw _ (List.mem_of_getElem? (i := 10) rfl)) e135 (g := (mkF m 134 #[.val (.int p0), .val (.int p1), .val (.int p2), .val (.int p3), .val (.int p4), .val (.int p5), .val (.int v2), .val (.int v10), .val (.int v18), .val (.int v33), .val (.ref b115), .val (.ref b135), .unset, .unset] [])) rfl (hb hby at_134) (by decide) (by decide)
        obtain ⟨b140, g140⟩ : ∃ z, z = h135.size := ⟨_, rfl⟩
        have g_b140 : n0 ≤ b140 := Nat.le_trans c136 (Nat.le_of_eq g140.symm)
        have sz_b140 : h0.size ≤ b140 := Nat.le_trans K138.1 (Nat.le_of_eq g140.symm)
        rw [← g140] at A140 D140 st140
        have pre140 : ∀ t, Steps p.tables e below (T140.setTop (mkF m 137 #[.val (.int p0), .val (.int p1), .val (.int p2), .val (.int p3), .val (.int p4), .val (.int p5), .val (.int v2), .val (.int v10), .val (.int v18), .val (.int v33), .val (.ref b115), .val (.ref b135), .unset, .unset] [(.ref b140)])) t → P t := fun t k => pre139 t (st140 _ k)
        have c141 : n0 ≤ h140.size := Nat.le_trans c136 E140.1
        have c142 : Arv Z h140 b115 k115 .int (2 : Int32) [(.int v120), (.int v128)] (.int (0 : Int32)) := c137.ext E140
        have c143 : Arv Z h140 b135 k135 .int v2 [] (.int (0 : Int32)) := V_b135.ext E140
        have K144 : Keep h0 h140 [] := K138.ext E140
        have F140_documents : Fld Z h140 b140 "com/example/lexivec/lexivec/lucene/SparseList" "documents" "[I" .null := D140 (Or.inr (hw _ (List.mem_of_getElem? (i := 23) rfl))) (ty := (.array .int)) (by decide)
        have F140_frequencies : Fld Z h140 b140 "com/example/lexivec/lexivec/lucene/SparseList" "frequencies" "[I" .null := D140 (Or.inr (hw _ (List.mem_of_getElem? (i := 25) rfl))) (ty := (.array .int)) (by decide)
        have F140_maxFrequency : Fld Z h140 b140 "com/example/lexivec/lexivec/lucene/SparseList" "maxFrequency" "I" (.int (0 : Int32)) := D140 (Or.inr (hw _ (List.mem_of_getElem? (i := 27) rfl))) (ty := .int) (by decide)
        have pre145 : ∀ t, Steps p.tables e below (T140.setTop (mkF m 143 #[.val (.int p0), .val (.int p1), .val (.int p2), .val (.int p3), .val (.int p4), .val (.int p5), .val (.int v2), .val (.int v10), .val (.int v18), .val (.int v33), .val (.ref b115), .val (.ref b135), .unset, .unset] [(.int (0 : Int32)), (.ref b135), (.ref b115), (.ref b140), (.ref b140)])) t → P t := fun t k => pre140 t (by
            show Steps p.tables e below (T140.setTop (mkF m 137 #[.val (.int p0), .val (.int p1), .val (.int p2), .val (.int p3), .val (.int p4), .val (.int p5), .val (.int v2), .val (.int v10), .val (.int v18), .val (.int v33), .val (.ref b115), .val (.ref b135), .unset, .unset] [(.ref b140)])) _
            refine XS.dup X140.here hx rfl (hb hby at_137) rfl rfl ?_
            show Steps p.tables e below (T140.setTop (mkF m 138 #[.val (.int p0), .val (.int p1), .val (.int p2), .val (.int p3), .val (.int p4), .val (.int p5), .val (.int v2), .val (.int v10), .val (.int v18), .val (.int v33), .val (.ref b115), .val (.ref b135), .unset, .unset] [(.ref b140), (.ref b140)])) _
            refine XS.aload X140.here hx rfl (hb hby at_138) rfl rfl ?_
            show Steps p.tables e below (T140.setTop (mkF m 140 #[.val (.int p0), .val (.int p1), .val (.int p2), .val (.int p3), .val (.int p4), .val (.int p5), .val (.int v2), .val (.int v10), .val (.int v18), .val (.int v33), .val (.ref b115), .val (.ref b135), .unset, .unset] [(.ref b115), (.ref b140), (.ref b140)])) _
            refine XS.aload X140.here hx rfl (hb hby at_140) rfl rfl ?_
            show Steps p.tables e below (T140.setTop (mkF m 142 #[.val (.int p0), .val (.int p1), .val (.int p2), .val (.int p3), .val (.int p4), .val (.int p5), .val (.int v2), .val (.int v10), .val (.int v18), .val (.int v33), .val (.ref b115), .val (.ref b135), .unset, .unset] [(.ref b135), (.ref b115), (.ref b140), (.ref b140)])) _
            refine XS.iconst X140.here hx rfl (hb hby at_142) ?_
            exact k)
        obtain ⟨_, _, ⟨T146, L146, k146, n146⟩, -, X146, ⟨Lc146, hQ146, l146, y146, z146⟩, st146⟩ := X140.specialBack hx (y := (⟨"com/example/lexivec/lexivec/lucene/SparseList", "<init>", "([I[II)V"⟩ : MethodName)) rfl hown (mvT hZ (hw _ (List.mem_of_getElem? (i := 11) rfl))) (mvT hZ (hw _ (List.mem_of_getElem? (i := 12) rfl))) (mvT hZ (hw _ (List.mem_of_getElem? (i := 13) rfl))) (by decide) (backOf (W := 1) (rm3 l Z a0 hw [] b140 b115 b135 (0 : Int32) h140 n0 c141 A140 F140_documents F140_frequencies F140_maxFrequency g_b140) hZ (hw _ (List.mem_of_getElem? (i := 13) rfl)) (hw _ (List.mem_of_getElem? (i := 10) rfl)) (by decide) (by decide)) (g := (mkF m 143 #[.val (.int p0), .val (.int p1), .val (.int p2), .val (.int p3), .val (.int p4), .val (.int p5), .val (.int v2), .val (.int v10), .val (.int v18), .val (.int v33), .val (.ref b115), .val (.ref b135), .unset, .unset] [(.int (0 : Int32)), (.ref b135), (.ref b115), (.ref b140), (.ref b140)])) rfl (by rw [hml]; rfl) (Steps.refl _) (a := b140) (argsL := [(.ref b115), (.ref b135), (.int (0 : Int32))]) (rest := [(.ref b140)]) (lenOf own_pd2 rfl) rfl (by show 2 * 0 + _ ≤ _; exact Nat.le_of_eq rfl) (hb hby at_143) (fun _ _ => ⟨rfl, e140, (by decide : 3 + 0 ≤ _), (by decide : 8 + 0 ≤ _)⟩)
        dsimp only [Pt.U, Pt.locs, Pt.cells, Pt.slots] at X146 l146 y146 z146 st146 hQ146
        subst l146 y146 z146
        obtain ⟨rfl, N146q, K146, EE146, FF146_0, FF146_1, FF146_2⟩ := hQ146
        have c147 : n0 ≤ T146.heap.size := Nat.le_trans c141 K146.1
        have c148 : Arv Z T146.heap b115 k115 .int (2 : Int32) [(.int v120), (.int v128)] (.int (0 : Int32)) := c142.keep K146 (ninS (Nat.ne_of_lt (Nat.lt_of_lt_of_le c137.lt (Nat.le_of_eq g140.symm))) nin0)
        have c149 : Arv Z T146.heap b135 k135 .int v2 [] (.int (0 : Int32)) := c143.keep K146 (ninS (Nat.ne_of_lt (Nat.lt_of_lt_of_le V_b135.lt (Nat.le_of_eq g140.symm))) nin0)
        have c150 : Exa Z T146.heap b140 "com/example/lexivec/lexivec/lucene/SparseList" := A140.keep K146
        have K151 : Keep h0 T146.heap [] := K144.trans K146 (allS (P := fun x => x ∈ ([] : List Addr) ∨ h0.size ≤ x) (Or.inr sz_b140) all0)
        have N146 := Fr.app N131 N146q
        have pre146 : ∀ t, Steps p.tables e below (T146.setTop (mkF m 146 #[.val (.int p0), .val (.int p1), .val (.int p2), .val (.int p3), .val (.int p4), .val (.int p5), .val (.int v2), .val (.int v10), .val (.int v18), .val (.int v33), .val (.ref b115), .val (.ref b135), .unset, .unset] [(.ref b140)])) t → P t := fun t k => pre145 t (st146.trans k)
        have pre152 : ∀ t, Steps p.tables e below (T146.setTop (mkF m 187 #[.val (.int p0), .val (.int p1), .val (.int p2), .val (.int p3), .val (.int p4), .val (.int p5), .val (.int v2), .val (.int v10), .val (.int v18), .val (.int v33), .val (.ref b115), .val (.ref b135), .val (.ref b140), .unset] [(.int p4), (.int p3), (.int p0)])) t → P t := fun t k => pre146 t (by
            show Steps p.tables e below (T146.setTop (mkF m 146 #[.val (.int p0), .val (.int p1), .val (.int p2), .val (.int p3), .val (.int p4), .val (.int p5), .val (.int v2), .val (.int v10), .val (.int v18), .val (.int v33), .val (.ref b115), .val (.ref b135), .unset, .unset] [(.ref b140)])) _
            refine XS.astore X146.here hx rfl (hb hby at_146) rfl rfl (l' := #[.val (.int p0), .val (.int p1), .val (.int p2), .val (.int p3), .val (.int p4), .val (.int p5), .val (.int v2), .val (.int v10), .val (.int v18), .val (.int v33), .val (.ref b115), .val (.ref b135), .val (.ref b140), .unset]) rfl ?_
            show Steps p.tables e below (T146.setTop (mkF m 148 #[.val (.int p0), .val (.int p1), .val (.int p2), .val (.int p3), .val (.int p4), .val (.int p5), .val (.int v2), .val (.int v10), .val (.int v18), .val (.int v33), .val (.ref b115), .val (.ref b135), .val (.ref b140), .unset] [])) _
            refine XS.iload X146.here hx rfl (hb hby at_148) rfl ?_
            show Steps p.tables e below (T146.setTop (mkF m 150 #[.val (.int p0), .val (.int p1), .val (.int p2), .val (.int p3), .val (.int p4), .val (.int p5), .val (.int v2), .val (.int v10), .val (.int v18), .val (.int v33), .val (.ref b115), .val (.ref b135), .val (.ref b140), .unset] [(.int v2)])) _
            refine XS.ifYes X146.here hx rfl (pc0 := 150) (pc' := 159) rfl (hb hby at_150) rfl ((if0 _ _).trans (feq hc36).2) (by decide) (by decide) ?_
            show Steps p.tables e below (T146.setTop (mkF m 159 #[.val (.int p0), .val (.int p1), .val (.int p2), .val (.int p3), .val (.int p4), .val (.int p5), .val (.int v2), .val (.int v10), .val (.int v18), .val (.int v33), .val (.ref b115), .val (.ref b135), .val (.ref b140), .unset] [])) _
            refine XS.iload X146.here hx rfl (hb hby at_159) rfl ?_
            show Steps p.tables e below (T146.setTop (mkF m 161 #[.val (.int p0), .val (.int p1), .val (.int p2), .val (.int p3), .val (.int p4), .val (.int p5), .val (.int v2), .val (.int v10), .val (.int v18), .val (.int v33), .val (.ref b115), .val (.ref b135), .val (.ref b140), .unset] [(.int v2)])) _
            refine XS.iconst X146.here hx rfl (hb hby at_161) ?_
            show Steps p.tables e below (T146.setTop (mkF m 162 #[.val (.int p0), .val (.int p1), .val (.int p2), .val (.int p3), .val (.int p4), .val (.int p5), .val (.int v2), .val (.int v10), .val (.int v18), .val (.int v33), .val (.ref b115), .val (.ref b135), .val (.ref b140), .unset] [(.int (1 : Int32)), (.int v2)])) _
            refine XS.icmpYes X146.here hx rfl (pc0 := 162) (pc' := 177) rfl (hb hby at_162) rfl (feq hc70).2 (by decide) (by decide) ?_
            show Steps p.tables e below (T146.setTop (mkF m 177 #[.val (.int p0), .val (.int p1), .val (.int p2), .val (.int p3), .val (.int p4), .val (.int p5), .val (.int v2), .val (.int v10), .val (.int v18), .val (.int v33), .val (.ref b115), .val (.ref b135), .val (.ref b140), .unset] [])) _
            refine XS.iload X146.here hx rfl (hb hby at_177) rfl ?_
            show Steps p.tables e below (T146.setTop (mkF m 179 #[.val (.int p0), .val (.int p1), .val (.int p2), .val (.int p3), .val (.int p4), .val (.int p5), .val (.int v2), .val (.int v10), .val (.int v18), .val (.int v33), .val (.ref b115), .val (.ref b135), .val (.ref b140), .unset] [(.int v2)])) _
            refine XS.iconst X146.here hx rfl (hb hby at_179) ?_
            show Steps p.tables e below (T146.setTop (mkF m 180 #[.val (.int p0), .val (.int p1), .val (.int p2), .val (.int p3), .val (.int p4), .val (.int p5), .val (.int v2), .val (.int v10), .val (.int v18), .val (.int v33), .val (.ref b115), .val (.ref b135), .val (.ref b140), .unset] [(.int (2 : Int32)), (.int v2)])) _
            refine XS.icmpNo X146.here hx rfl (hb hby at_180) rfl (teq hc113).2 ?_
            show Steps p.tables e below (T146.setTop (mkF m 183 #[.val (.int p0), .val (.int p1), .val (.int p2), .val (.int p3), .val (.int p4), .val (.int p5), .val (.int v2), .val (.int v10), .val (.int v18), .val (.int v33), .val (.ref b115), .val (.ref b135), .val (.ref b140), .unset] [])) _
            refine XS.iloadN X146.here hx rfl (hb hby at_183) rfl ?_
            show Steps p.tables e below (T146.setTop (mkF m 184 #[.val (.int p0), .val (.int p1), .val (.int p2), .val (.int p3), .val (.int p4), .val (.int p5), .val (.int v2), .val (.int v10), .val (.int v18), .val (.int v33), .val (.ref b115), .val (.ref b135), .val (.ref b140), .unset] [(.int p0)])) _
            refine XS.iloadN X146.here hx rfl (hb hby at_184) rfl ?_
            show Steps p.tables e below (T146.setTop (mkF m 185 #[.val (.int p0), .val (.int p1), .val (.int p2), .val (.int p3), .val (.int p4), .val (.int p5), .val (.int v2), .val (.int v10), .val (.int v18), .val (.int v33), .val (.ref b115), .val (.ref b135), .val (.ref b140), .unset] [(.int p3), (.int p0)])) _
            refine XS.iload X146.here hx rfl (hb hby at_185) rfl ?_
            exact k)
        obtain ⟨_, _, ⟨T153, L153, k153, n153⟩, -, X153, ⟨Lc153, hQ153, l153, y153, z153⟩, st153⟩ := Jvm.LawKit.callS X146 hx (y := (⟨"com/example/lexivec/lexivec/lucene/SparseListWithinPinLaw", "in", "(III)Z"⟩ : MethodName)) hown (mvT hZ (hw _ (List.mem_of_getElem? (i := 28) rfl))) (mvT hZ (hw _ (List.mem_of_getElem? (i := 29) rfl))) (mvT hZ (hw _ (List.mem_of_getElem? (i := 30) rfl))) (mvT hZ (hw _ (List.mem_of_getElem? (i := 31) rfl))) (by decide) (backOf (W := 0) (rm6 l Z a0 hw [] p0 p3 p4 T146.heap n0 c147 ) hZ (hw _ (List.mem_of_getElem? (i := 31) rfl)) (hw _ (List.mem_of_getElem? (i := 30) rfl)) (by decide) (by decide)) (g := (mkF m 187 #[.val (.int p0), .val (.int p1), .val (.int p2), .val (.int p3), .val (.int p4), .val (.int p5), .val (.int v2), .val (.int v10), .val (.int v18), .val (.int v33), .val (.ref b115), .val (.ref b135), .val (.ref b140), .unset] [(.int p4), (.int p3), (.int p0)])) rfl (by rw [hml]; rfl) (argsL := [(.int p0), (.int p3), (.int p4)]) (rest := []) (lenOf own_pd4 rfl) rfl (by show 2 * 0 + _ ≤ _; exact Nat.le_of_eq rfl) (hb hby at_187) (fun _ _ => ⟨rfl, rfl, (by decide : 3 + 0 ≤ _), (by decide : 8 + 0 ≤ _)⟩)
        dsimp only [Pt.U, Pt.locs, Pt.cells, Pt.slots] at X153 l153 y153 z153 st153 hQ153
        subst l153 y153 z153
        obtain ⟨rfl, N153q, e153⟩ := hQ153
        have N153 := Fr.app N146 N153q
        have pre153 : ∀ t, Steps p.tables e below (T153.setTop (mkF m 190 #[.val (.int p0), .val (.int p1), .val (.int p2), .val (.int p3), .val (.int p4), .val (.int p5), .val (.int v2), .val (.int v10), .val (.int v18), .val (.int v33), .val (.ref b115), .val (.ref b135), .val (.ref b140), .unset] [(.int (own_f6 p0 p3 p4))])) t → P t := fun t k => pre152 t (st153 _ k)
        obtain ⟨v154, hv154⟩ : ∃ z : Int32, z = (own_f6 p0 p3 p4) := ⟨_, rfl⟩
        have pre155 : ∀ t, Steps p.tables e below (T153.setTop (mkF m 190 #[.val (.int p0), .val (.int p1), .val (.int p2), .val (.int p3), .val (.int p4), .val (.int p5), .val (.int v2), .val (.int v10), .val (.int v18), .val (.int v33), .val (.ref b115), .val (.ref b135), .val (.ref b140), .unset] [(.int v154)])) t → P t := fun t k => pre153 t (by subst hv154; exact k)
        obtain ⟨T166, L166, v165, X166, e166, N166, hv165, pre166⟩ : ∃ (T' : State) (L' : List Loc) (v165 : Int32), Stand p l e room_1 s m #[(.int p0), (.int p1), (.int p2), (.int p3), (.int p4), (.int p5)] below meth c T' L' 3 8 ∧ T'.heap = T146.heap ∧ Fr n0 L' ∧ v165 = (if v154 = (0 : Int32) then (0 : Int32) else (let v160 : Int32 := (own_f6 p1 p3 p4); (if v160 = (0 : Int32) then (0 : Int32) else (1 : Int32)))) ∧ (∀ t, Steps p.tables e below (T'.setTop (mkF m 208 #[.val (.int p0), .val (.int p1), .val (.int p2), .val (.int p3), .val (.int p4), .val (.int p5), .val (.int v2), .val (.int v10), .val (.int v18), .val (.int v33), .val (.ref b115), .val (.ref b135), .val (.ref b140), .unset] [(.int v165)])) t → P t) := by
          by_cases hc156 : v154 = (0 : Int32)
          · have pre157 : ∀ t, Steps p.tables e below (T153.setTop (mkF m 208 #[.val (.int p0), .val (.int p1), .val (.int p2), .val (.int p3), .val (.int p4), .val (.int p5), .val (.int v2), .val (.int v10), .val (.int v18), .val (.int v33), .val (.ref b115), .val (.ref b135), .val (.ref b140), .unset] [(.int (0 : Int32))])) t → P t := fun t k => pre155 t (by
                show Steps p.tables e below (T153.setTop (mkF m 190 #[.val (.int p0), .val (.int p1), .val (.int p2), .val (.int p3), .val (.int p4), .val (.int p5), .val (.int v2), .val (.int v10), .val (.int v18), .val (.int v33), .val (.ref b115), .val (.ref b135), .val (.ref b140), .unset] [(.int v154)])) _
                refine XS.ifYes X153.here hx rfl (pc0 := 190) (pc' := 207) rfl (hb hby at_190) rfl ((if0 _ _).trans (teq hc156).1) (by decide) (by decide) ?_
                show Steps p.tables e below (T153.setTop (mkF m 207 #[.val (.int p0), .val (.int p1), .val (.int p2), .val (.int p3), .val (.int p4), .val (.int p5), .val (.int v2), .val (.int v10), .val (.int v18), .val (.int v33), .val (.ref b115), .val (.ref b135), .val (.ref b140), .unset] [])) _
                refine XS.iconst X153.here hx rfl (hb hby at_207) ?_
                exact k)
            exact ⟨_, _, (0 : Int32), X153, e153, N153, (by first | (rw [if_pos hc156]; done) | simp only [if_pos hc156] | simp [if_pos hc156]), pre157⟩
          · have pre158 : ∀ t, Steps p.tables e below (T153.setTop (mkF m 197 #[.val (.int p0), .val (.int p1), .val (.int p2), .val (.int p3), .val (.int p4), .val (.int p5), .val (.int v2), .val (.int v10), .val (.int v18), .val (.int v33), .val (.ref b115), .val (.ref b135), .val (.ref b140), .unset] [(.int p4), (.int p3), (.int p1)])) t → P t := fun t k => pre155 t (by
                show Steps p.tables e below (T153.setTop (mkF m 190 #[.val (.int p0), .val (.int p1), .val (.int p2), .val (.int p3), .val (.int p4), .val (.int p5), .val (.int v2), .val (.int v10), .val (.int v18), .val (.int v33), .val (.ref b115), .val (.ref b135), .val (.ref b140), .unset] [(.int v154)])) _
                refine XS.ifNo X153.here hx rfl (hb hby at_190) rfl ((if0 _ _).trans (feq hc156).1) ?_
                show Steps p.tables e below (T153.setTop (mkF m 193 #[.val (.int p0), .val (.int p1), .val (.int p2), .val (.int p3), .val (.int p4), .val (.int p5), .val (.int v2), .val (.int v10), .val (.int v18), .val (.int v33), .val (.ref b115), .val (.ref b135), .val (.ref b140), .unset] [])) _
                refine XS.iloadN X153.here hx rfl (hb hby at_193) rfl ?_
                show Steps p.tables e below (T153.setTop (mkF m 194 #[.val (.int p0), .val (.int p1), .val (.int p2), .val (.int p3), .val (.int p4), .val (.int p5), .val (.int v2), .val (.int v10), .val (.int v18), .val (.int v33), .val (.ref b115), .val (.ref b135), .val (.ref b140), .unset] [(.int p1)])) _
                refine XS.iloadN X153.here hx rfl (hb hby at_194) rfl ?_
                show Steps p.tables e below (T153.setTop (mkF m 195 #[.val (.int p0), .val (.int p1), .val (.int p2), .val (.int p3), .val (.int p4), .val (.int p5), .val (.int v2), .val (.int v10), .val (.int v18), .val (.int v33), .val (.ref b115), .val (.ref b135), .val (.ref b140), .unset] [(.int p3), (.int p1)])) _
                refine XS.iload X153.here hx rfl (hb hby at_195) rfl ?_
                exact k)
            obtain ⟨_, _, ⟨T159, L159, k159, n159⟩, -, X159, ⟨Lc159, hQ159, l159, y159, z159⟩, st159⟩ := Jvm.LawKit.callS X153 hx (y := (⟨"com/example/lexivec/lexivec/lucene/SparseListWithinPinLaw", "in", "(III)Z"⟩ : MethodName)) hown (mvT hZ (hw _ (List.mem_of_getElem? (i := 28) rfl))) (mvT hZ (hw _ (List.mem_of_getElem? (i := 29) rfl))) (mvT hZ (hw _ (List.mem_of_getElem? (i := 30) rfl))) (mvT hZ (hw _ (List.mem_of_getElem? (i := 31) rfl))) (by decide) (backOf (W := 0) (rm6 l Z a0 hw [] p1 p3 p4 T146.heap n0 c147 ) hZ (hw _ (List.mem_of_getElem? (i := 31) rfl)) (hw _ (List.mem_of_getElem? (i := 30) rfl)) (by decide) (by decide)) (g := (mkF m 197 #[.val (.int p0), .val (.int p1), .val (.int p2), .val (.int p3), .val (.int p4), .val (.int p5), .val (.int v2), .val (.int v10), .val (.int v18), .val (.int v33), .val (.ref b115), .val (.ref b135), .val (.ref b140), .unset] [(.int p4), (.int p3), (.int p1)])) rfl (by rw [hml]; rfl) (argsL := [(.int p1), (.int p3), (.int p4)]) (rest := []) (lenOf own_pd4 rfl) rfl (by show 2 * 0 + _ ≤ _; exact Nat.le_of_eq rfl) (hb hby at_197) (fun _ _ => ⟨rfl, e153, (by decide : 3 + 0 ≤ _), (by decide : 8 + 0 ≤ _)⟩)
            dsimp only [Pt.U, Pt.locs, Pt.cells, Pt.slots] at X159 l159 y159 z159 st159 hQ159
            subst l159 y159 z159
            obtain ⟨rfl, N159q, e159⟩ := hQ159
            have N159 := Fr.app N153 N159q
            have pre159 : ∀ t, Steps p.tables e below (T159.setTop (mkF m 200 #[.val (.int p0), .val (.int p1), .val (.int p2), .val (.int p3), .val (.int p4), .val (.int p5), .val (.int v2), .val (.int v10), .val (.int v18), .val (.int v33), .val (.ref b115), .val (.ref b135), .val (.ref b140), .unset] [(.int (own_f6 p1 p3 p4))])) t → P t := fun t k => pre158 t (st159 _ k)
            obtain ⟨v160, hv160⟩ : ∃ z : Int32, z = (own_f6 p1 p3 p4) := ⟨_, rfl⟩
            have pre161 : ∀ t, Steps p.tables e below (T159.setTop (mkF m 200 #[.val (.int p0), .val (.int p1), .val (.int p2), .val (.int p3), .val (.int p4), .val (.int p5), .val (.int v2), .val (.int v10), .val (.int v18), .val (.int v33), .val (.ref b115), .val (.ref b135), .val (.ref b140), .unset] [(.int v160)])) t → P t := fun t k => pre159 t (by subst hv160; exact k)
            by_cases hc162 : v160 = (0 : Int32)
            · have pre163 : ∀ t, Steps p.tables e below (T159.setTop (mkF m 208 #[.val (.int p0), .val (.int p1), .val (.int p2), .val (.int p3), .val (.int p4), .val (.int p5), .val (.int v2), .val (.int v10), .val (.int v18), .val (.int v33), .val (.ref b115), .val (.ref b135), .val (.ref b140), .unset] [(.int (0 : Int32))])) t → P t := fun t k => pre161 t (by
                  show Steps p.tables e below (T159.setTop (mkF m 200 #[.val (.int p0), .val (.int p1), .val (.int p2), .val (.int p3), .val (.int p4), .val (.int p5), .val (.int v2), .val (.int v10), .val (.int v18), .val (.int v33), .val (.ref b115), .val (.ref b135), .val (.ref b140), .unset] [(.int v160)])) _
                  refine XS.ifYes X159.here hx rfl (pc0 := 200) (pc' := 207) rfl (hb hby at_200) rfl ((if0 _ _).trans (teq hc162).1) (by decide) (by decide) ?_
                  show Steps p.tables e below (T159.setTop (mkF m 207 #[.val (.int p0), .val (.int p1), .val (.int p2), .val (.int p3), .val (.int p4), .val (.int p5), .val (.int v2), .val (.int v10), .val (.int v18), .val (.int v33), .val (.ref b115), .val (.ref b135), .val (.ref b140), .unset] [])) _
                  refine XS.iconst X159.here hx rfl (hb hby at_207) ?_
                  exact k)
              exact ⟨_, _, (0 : Int32), X159, e159, N159, (by subst hv160; first | (rw [if_neg hc156, if_pos hc162]; done) | simp only [if_neg hc156, if_pos hc162] | simp [if_neg hc156, if_pos hc162]), pre163⟩
            · have pre164 : ∀ t, Steps p.tables e below (T159.setTop (mkF m 208 #[.val (.int p0), .val (.int p1), .val (.int p2), .val (.int p3), .val (.int p4), .val (.int p5), .val (.int v2), .val (.int v10), .val (.int v18), .val (.int v33), .val (.ref b115), .val (.ref b135), .val (.ref b140), .unset] [(.int (1 : Int32))])) t → P t := fun t k => pre161 t (by
                  show Steps p.tables e below (T159.setTop (mkF m 200 #[.val (.int p0), .val (.int p1), .val (.int p2), .val (.int p3), .val (.int p4), .val (.int p5), .val (.int v2), .val (.int v10), .val (.int v18), .val (.int v33), .val (.ref b115), .val (.ref b135), .val (.ref b140), .unset] [(.int v160)])) _
                  refine XS.ifNo X159.here hx rfl (hb hby at_200) rfl ((if0 _ _).trans (feq hc162).1) ?_
                  show Steps p.tables e below (T159.setTop (mkF m 203 #[.val (.int p0), .val (.int p1), .val (.int p2), .val (.int p3), .val (.int p4), .val (.int p5), .val (.int v2), .val (.int v10), .val (.int v18), .val (.int v33), .val (.ref b115), .val (.ref b135), .val (.ref b140), .unset] [])) _
                  refine XS.iconst X159.here hx rfl (hb hby at_203) ?_
                  show Steps p.tables e below (T159.setTop (mkF m 204 #[.val (.int p0), .val (.int p1), .val (.int p2), .val (.int p3), .val (.int p4), .val (.int p5), .val (.int v2), .val (.int v10), .val (.int v18), .val (.int v33), .val (.ref b115), .val (.ref b135), .val (.ref b140), .unset] [(.int (1 : Int32))])) _
                  refine XS.goto X159.here hx rfl (pc0 := 204) (pc' := 208) rfl (hb hby at_204) (by decide) (by decide) ?_
                  exact k)
              exact ⟨_, _, (1 : Int32), X159, e159, N159, (by subst hv160; first | (rw [if_neg hc156, if_neg hc162]; done) | simp only [if_neg hc156, if_neg hc162] | simp [if_neg hc156, if_neg hc162]), pre164⟩
        have pre167 : ∀ t, Steps p.tables e below (T166.setTop (mkF m 255 #[.val (.int p0), .val (.int p1), .val (.int p2), .val (.int p3), .val (.int p4), .val (.int p5), .val (.int v2), .val (.int v10), .val (.int v18), .val (.int v33), .val (.ref b115), .val (.ref b135), .val (.ref b140), .val (.int v165)] [(.int p4), (.int p3), (.ref b140)])) t → P t := fun t k => pre166 t (by
            show Steps p.tables e below (T166.setTop (mkF m 208 #[.val (.int p0), .val (.int p1), .val (.int p2), .val (.int p3), .val (.int p4), .val (.int p5), .val (.int v2), .val (.int v10), .val (.int v18), .val (.int v33), .val (.ref b115), .val (.ref b135), .val (.ref b140), .unset] [(.int v165)])) _
            refine XS.istore X166.here hx rfl (hb hby at_208) rfl (l' := #[.val (.int p0), .val (.int p1), .val (.int p2), .val (.int p3), .val (.int p4), .val (.int p5), .val (.int v2), .val (.int v10), .val (.int v18), .val (.int v33), .val (.ref b115), .val (.ref b135), .val (.ref b140), .val (.int v165)]) rfl ?_
            show Steps p.tables e below (T166.setTop (mkF m 210 #[.val (.int p0), .val (.int p1), .val (.int p2), .val (.int p3), .val (.int p4), .val (.int p5), .val (.int v2), .val (.int v10), .val (.int v18), .val (.int v33), .val (.ref b115), .val (.ref b135), .val (.ref b140), .val (.int v165)] [])) _
            refine XS.goto X166.here hx rfl (pc0 := 210) (pc' := 250) rfl (hb hby at_210) (by decide) (by decide) ?_
            show Steps p.tables e below (T166.setTop (mkF m 250 #[.val (.int p0), .val (.int p1), .val (.int p2), .val (.int p3), .val (.int p4), .val (.int p5), .val (.int v2), .val (.int v10), .val (.int v18), .val (.int v33), .val (.ref b115), .val (.ref b135), .val (.ref b140), .val (.int v165)] [])) _
            refine XS.aload X166.here hx rfl (hb hby at_250) rfl rfl ?_
            show Steps p.tables e below (T166.setTop (mkF m 252 #[.val (.int p0), .val (.int p1), .val (.int p2), .val (.int p3), .val (.int p4), .val (.int p5), .val (.int v2), .val (.int v10), .val (.int v18), .val (.int v33), .val (.ref b115), .val (.ref b135), .val (.ref b140), .val (.int v165)] [(.ref b140)])) _
            refine XS.iloadN X166.here hx rfl (hb hby at_252) rfl ?_
            show Steps p.tables e below (T166.setTop (mkF m 253 #[.val (.int p0), .val (.int p1), .val (.int p2), .val (.int p3), .val (.int p4), .val (.int p5), .val (.int v2), .val (.int v10), .val (.int v18), .val (.int v33), .val (.ref b115), .val (.ref b135), .val (.ref b140), .val (.int v165)] [(.int p3), (.ref b140)])) _
            refine XS.iload X166.here hx rfl (hb hby at_253) rfl ?_
            exact k)
        obtain ⟨cq168, kq168, q168a, q168b, q168c⟩ := isOf hZ e166 EE146
        obtain ⟨_, _, ⟨T168, L168, k168, n168⟩, -, X168, ⟨Lc168, hQ168, l168, y168, z168⟩, st168⟩ := X166.virtualBack hx (y := (⟨"com/example/lexivec/lexivec/lucene/SparseList", "within", "(II)Z"⟩ : MethodName)) (z := (⟨"com/example/lexivec/lexivec/lucene/SparseList", "within", "(II)Z"⟩ : MethodName)) hown (mvT hZ (hw _ (List.mem_of_getElem? (i := 32) rfl))) (mvT hZ (hw _ (List.mem_of_getElem? (i := 33) rfl))) (notFace_of_selects (args := #[]) (mvT hZ (hw _ (List.mem_of_getElem? (i := 35) rfl)))) (mvT hZ (hw _ (List.mem_of_getElem? (i := 35) rfl))) (mvT hZ (hw _ (List.mem_of_getElem? (i := 34) rfl))) (by decide) (backOf (W := 0) (rm7 l Z a0 hw [] b140 p3 p4 b115 k115 (2 : Int32) [(.int v120), (.int v128)] v120 v128 T146.heap n0 c147 FF146_0 c148 (fun _ => rfl) (fun _ => rfl)) hZ (hw _ (List.mem_of_getElem? (i := 36) rfl)) (hw _ (List.mem_of_getElem? (i := 10) rfl)) (by decide) (by decide)) q168a q168c (g := (mkF m 255 #[.val (.int p0), .val (.int p1), .val (.int p2), .val (.int p3), .val (.int p4), .val (.int p5), .val (.int v2), .val (.int v10), .val (.int v18), .val (.int v33), .val (.ref b115), .val (.ref b135), .val (.ref b140), .val (.int v165)] [(.int p4), (.int p3), (.ref b140)])) rfl (by rw [hml]; rfl) (Steps.refl _) (argsL := [(.int p3), (.int p4)]) (rest := []) (lenOf own_pd3 rfl) rfl (by show 2 * 0 + _ ≤ _; exact Nat.le_of_eq rfl) (hb hby at_255) (fun _ _ => ⟨rfl, e166, (by decide : 3 + 0 ≤ _), (by decide : 8 + 0 ≤ _)⟩)
        dsimp only [Pt.U, Pt.locs, Pt.cells, Pt.slots] at X168 l168 y168 z168 st168 hQ168
        subst l168 y168 z168
        obtain ⟨rfl, N168q, e168⟩ := hQ168
        have N168 := Fr.app N166 N168q
        have pre168 : ∀ t, Steps p.tables e below (T168.setTop (mkF m 258 #[.val (.int p0), .val (.int p1), .val (.int p2), .val (.int p3), .val (.int p4), .val (.int p5), .val (.int v2), .val (.int v10), .val (.int v18), .val (.int v33), .val (.ref b115), .val (.ref b135), .val (.ref b140), .val (.int v165)] [(.int (own_f7 p3 p4 (2 : Int32) v120 v128))])) t → P t := fun t k => pre167 t (st168.trans k)
        obtain ⟨v169, hv169⟩ : ∃ z : Int32, z = (own_f7 p3 p4 (2 : Int32) v120 v128) := ⟨_, rfl⟩
        have pre170 : ∀ t, Steps p.tables e below (T168.setTop (mkF m 258 #[.val (.int p0), .val (.int p1), .val (.int p2), .val (.int p3), .val (.int p4), .val (.int p5), .val (.int v2), .val (.int v10), .val (.int v18), .val (.int v33), .val (.ref b115), .val (.ref b135), .val (.ref b140), .val (.int v165)] [(.int v169)])) t → P t := fun t k => pre168 t (by subst hv169; exact k)
        have pre171 : ∀ t, Steps p.tables e below (T168.setTop (mkF m 260 #[.val (.int p0), .val (.int p1), .val (.int p2), .val (.int p3), .val (.int p4), .val (.int p5), .val (.int v2), .val (.int v10), .val (.int v18), .val (.int v33), .val (.ref b115), .val (.ref b135), .val (.ref b140), .val (.int v165)] [(.int v165), (.int v169)])) t → P t := fun t k => pre170 t (by
            show Steps p.tables e below (T168.setTop (mkF m 258 #[.val (.int p0), .val (.int p1), .val (.int p2), .val (.int p3), .val (.int p4), .val (.int p5), .val (.int v2), .val (.int v10), .val (.int v18), .val (.int v33), .val (.ref b115), .val (.ref b135), .val (.ref b140), .val (.int v165)] [(.int v169)])) _
            refine XS.iload X168.here hx rfl (hb hby at_258) rfl ?_
            exact k)
        obtain ⟨T176, L176, v175, X176, e176, N176, hv175, pre176⟩ : ∃ (T' : State) (L' : List Loc) (v175 : Int32), Stand p l e room_1 s m #[(.int p0), (.int p1), (.int p2), (.int p3), (.int p4), (.int p5)] below meth c T' L' 3 8 ∧ T'.heap = T146.heap ∧ Fr n0 L' ∧ v175 = (if v169 = v165 then (1 : Int32) else (0 : Int32)) ∧ (∀ t, Steps p.tables e below (T'.setTop (mkF m 268 #[.val (.int p0), .val (.int p1), .val (.int p2), .val (.int p3), .val (.int p4), .val (.int p5), .val (.int v2), .val (.int v10), .val (.int v18), .val (.int v33), .val (.ref b115), .val (.ref b135), .val (.ref b140), .val (.int v165)] [(.int v175)])) t → P t) := by
          by_cases hc172 : v169 = v165
          · have pre173 : ∀ t, Steps p.tables e below (T168.setTop (mkF m 268 #[.val (.int p0), .val (.int p1), .val (.int p2), .val (.int p3), .val (.int p4), .val (.int p5), .val (.int v2), .val (.int v10), .val (.int v18), .val (.int v33), .val (.ref b115), .val (.ref b135), .val (.ref b140), .val (.int v165)] [(.int (1 : Int32))])) t → P t := fun t k => pre171 t (by
                show Steps p.tables e below (T168.setTop (mkF m 260 #[.val (.int p0), .val (.int p1), .val (.int p2), .val (.int p3), .val (.int p4), .val (.int p5), .val (.int v2), .val (.int v10), .val (.int v18), .val (.int v33), .val (.ref b115), .val (.ref b135), .val (.ref b140), .val (.int v165)] [(.int v165), (.int v169)])) _
                refine XS.icmpNo X168.here hx rfl (hb hby at_260) rfl (teq hc172).2 ?_
                show Steps p.tables e below (T168.setTop (mkF m 263 #[.val (.int p0), .val (.int p1), .val (.int p2), .val (.int p3), .val (.int p4), .val (.int p5), .val (.int v2), .val (.int v10), .val (.int v18), .val (.int v33), .val (.ref b115), .val (.ref b135), .val (.ref b140), .val (.int v165)] [])) _
                refine XS.iconst X168.here hx rfl (hb hby at_263) ?_
                show Steps p.tables e below (T168.setTop (mkF m 264 #[.val (.int p0), .val (.int p1), .val (.int p2), .val (.int p3), .val (.int p4), .val (.int p5), .val (.int v2), .val (.int v10), .val (.int v18), .val (.int v33), .val (.ref b115), .val (.ref b135), .val (.ref b140), .val (.int v165)] [(.int (1 : Int32))])) _
                refine XS.goto X168.here hx rfl (pc0 := 264) (pc' := 268) rfl (hb hby at_264) (by decide) (by decide) ?_
                exact k)
            exact ⟨_, _, (1 : Int32), X168, e168, N168, (by first | (rw [if_pos hc172]; done) | simp only [if_pos hc172] | simp [if_pos hc172]), pre173⟩
          · have pre174 : ∀ t, Steps p.tables e below (T168.setTop (mkF m 268 #[.val (.int p0), .val (.int p1), .val (.int p2), .val (.int p3), .val (.int p4), .val (.int p5), .val (.int v2), .val (.int v10), .val (.int v18), .val (.int v33), .val (.ref b115), .val (.ref b135), .val (.ref b140), .val (.int v165)] [(.int (0 : Int32))])) t → P t := fun t k => pre171 t (by
                show Steps p.tables e below (T168.setTop (mkF m 260 #[.val (.int p0), .val (.int p1), .val (.int p2), .val (.int p3), .val (.int p4), .val (.int p5), .val (.int v2), .val (.int v10), .val (.int v18), .val (.int v33), .val (.ref b115), .val (.ref b135), .val (.ref b140), .val (.int v165)] [(.int v165), (.int v169)])) _
                refine XS.icmpYes X168.here hx rfl (pc0 := 260) (pc' := 267) rfl (hb hby at_260) rfl (feq hc172).2 (by decide) (by decide) ?_
                show Steps p.tables e below (T168.setTop (mkF m 267 #[.val (.int p0), .val (.int p1), .val (.int p2), .val (.int p3), .val (.int p4), .val (.int p5), .val (.int v2), .val (.int v10), .val (.int v18), .val (.int v33), .val (.ref b115), .val (.ref b135), .val (.ref b140), .val (.int v165)] [])) _
                refine XS.iconst X168.here hx rfl (hb hby at_267) ?_
                exact k)
            exact ⟨_, _, (0 : Int32), X168, e168, N168, (by first | (rw [if_neg hc172]; done) | simp only [if_neg hc172] | simp [if_neg hc172]), pre174⟩
        obtain ⟨fs, hr, hrun, hended, hW, hsame⟩ := X176.leave (v := some (.int v175)) (fun h => by rw [Bd.returns] at h; cases h)
        refine ⟨_, _, fin _ (pre176 _ ?_), hrun, hended, _, _, rfl, ?_, ⟨_, rfl⟩, hW, hsame.mono (by decide) (by decide)⟩
        · show Steps p.tables e below (T176.setTop (mkF m 268 #[.val (.int p0), .val (.int p1), .val (.int p2), .val (.int p3), .val (.int p4), .val (.int p5), .val (.int v2), .val (.int v10), .val (.int v18), .val (.int v33), .val (.ref b115), .val (.ref b135), .val (.ref b140), .val (.int v165)] [(.int v175)])) _
          have hnar : nar .boolean v175 = v175 := by subst hv2 hv6 hv10 hv14 hv18 hv22 hv26 hv30 hv33 hv120 hv128 hv154 hv165 hv169 hv175; first | rfl | (split <;> rfl) | ((try simp only []); (repeat' split) <;> rfl)
          exact retN X176 hx (t := .boolean) Bd.returns (by simp) (hb hby at_268) (by rw [hnar]; exact hr)
        · show Q0 Z p0 p1 p2 p3 p4 p5 h0 n0 _ T176.heap _
          rw [e176]
          exact ⟨(by subst hv2 hv6 hv10 hv14 hv18 hv22 hv26 hv30 hv33 hv120 hv128 hv154 hv165 hv169 hv175; first | (unfold own_f0; rw [if_neg hc36, if_neg hc70, if_pos hc113]; done) | simp only [own_f0, if_neg hc36, if_neg hc70, if_pos hc113] | simp [own_f0, if_neg hc36, if_neg hc70, if_pos hc113]), N176⟩
      · have pre177 : ∀ t, Steps p.tables e below (T32.setTop (mkF m 109 #[.val (.int p0), .val (.int p1), .val (.int p2), .val (.int p3), .val (.int p4), .val (.int p5), .val (.int v2), .val (.int v10), .val (.int v18), .val (.int v33), .unset, .unset, .unset, .unset] [(.int (3 : Int32))])) t → P t := fun t k => pre112 t (by
            show Steps p.tables e below (T32.setTop (mkF m 81 #[.val (.int p0), .val (.int p1), .val (.int p2), .val (.int p3), .val (.int p4), .val (.int p5), .val (.int v2), .val (.int v10), .val (.int v18), .val (.int v33), .unset, .unset, .unset, .unset] [(.int (2 : Int32)), (.int v2)])) _
            refine XS.icmpYes X32.here hx rfl (pc0 := 81) (pc' := 108) rfl (hb hby at_81) rfl (feq hc113).2 (by decide) (by decide) ?_
            show Steps p.tables e below (T32.setTop (mkF m 108 #[.val (.int p0), .val (.int p1), .val (.int p2), .val (.int p3), .val (.int p4), .val (.int p5), .val (.int v2), .val (.int v10), .val (.int v18), .val (.int v33), .unset, .unset, .unset, .unset] [])) _
            refine XS.iconst X32.here hx rfl (hb hby at_108) ?_
            exact k)
        obtain ⟨T178, h178, k178, X178, e178, E178, A178, st178⟩ := newP X32 hx hZ (hw _ (List.mem_of_getElem? (i := 7) rfl)) e32 (g := (mkF m 109 #[.val (.int p0), .val (.int p1), .val (.int p2), .val (.int p3), .val (.int p4), .val (.int p5), .val (.int v2), .val (.int v10), .val (.int v18), .val (.int v33), .unset, .unset, .unset, .unset] [(.int (3 : Int32))])) rfl (hb hby at_109) rfl (by decide) (cap := 3) (by decide) (by decide) (by decide) (by decide)
        obtain ⟨b178, g178⟩ : ∃ z, z = h0.size := ⟨_, rfl⟩
        have g_b178 : n0 ≤ b178 := Nat.le_trans Z0 (Nat.le_of_eq g178.symm)
        have sz_b178 : h0.size ≤ b178 := Nat.le_trans K0.1 (Nat.le_of_eq g178.symm)
        rw [← g178] at A178 st178
        have pre178 : ∀ t, Steps p.tables e below (T178.setTop (mkF m 111 #[.val (.int p0), .val (.int p1), .val (.int p2), .val (.int p3), .val (.int p4), .val (.int p5), .val (.int v2), .val (.int v10), .val (.int v18), .val (.int v33), .unset, .unset, .unset, .unset] [(.ref b178)])) t → P t := fun t k => pre177 t (st178 _ k)
        have c179 : n0 ≤ h178.size := Nat.le_trans Z0 E178.1
        have K180 : Keep h0 h178 [] := K0.ext E178
        have V_b178 : Arv Z h178 b178 k178 .int (3 : Int32) [(.int (0 : Int32)), (.int (0 : Int32)), (.int (0 : Int32))] (.int (0 : Int32)) := (Arv.new A178 (by decide)).pad (pad_rep [] (.int (0 : Int32)) 3)
        have pre181 : ∀ t, Steps p.tables e below (T178.setTop (mkF m 115 #[.val (.int p0), .val (.int p1), .val (.int p2), .val (.int p3), .val (.int p4), .val (.int p5), .val (.int v2), .val (.int v10), .val (.int v18), .val (.int v33), .unset, .unset, .unset, .unset] [(.int v10), (.int (0 : Int32)), (.ref b178), (.ref b178)])) t → P t := fun t k => pre178 t (by
            show Steps p.tables e below (T178.setTop (mkF m 111 #[.val (.int p0), .val (.int p1), .val (.int p2), .val (.int p3), .val (.int p4), .val (.int p5), .val (.int v2), .val (.int v10), .val (.int v18), .val (.int v33), .unset, .unset, .unset, .unset] [(.ref b178)])) _
            refine XS.dup X178.here hx rfl (hb hby at_111) rfl rfl ?_
            show Steps p.tables e below (T178.setTop (mkF m 112 #[.val (.int p0), .val (.int p1), .val (.int p2), .val (.int p3), .val (.int p4), .val (.int p5), .val (.int v2), .val (.int v10), .val (.int v18), .val (.int v33), .unset, .unset, .unset, .unset] [(.ref b178), (.ref b178)])) _
            refine XS.iconst X178.here hx rfl (hb hby at_112) ?_
            show Steps p.tables e below (T178.setTop (mkF m 113 #[.val (.int p0), .val (.int p1), .val (.int p2), .val (.int p3), .val (.int p4), .val (.int p5), .val (.int v2), .val (.int v10), .val (.int v18), .val (.int v33), .unset, .unset, .unset, .unset] [(.int (0 : Int32)), (.ref b178), (.ref b178)])) _
            refine XS.iload X178.here hx rfl (hb hby at_113) rfl ?_
            exact k)
        obtain ⟨clq182, Arq182, qq182, Sq182, Nq182', Hq182, Gq182⟩ := id V_b178
        obtain ⟨T183, h183, X183, e183, W183, st183⟩ := stI X178 hx hZ e178 Arq182 (j := (0 : Int32)) (inb_of Sq182 ⟨by decide, by decide⟩) (g := (mkF m 115 #[.val (.int p0), .val (.int p1), .val (.int p2), .val (.int p3), .val (.int p4), .val (.int p5), .val (.int v2), .val (.int v10), .val (.int v18), .val (.int v33), .unset, .unset, .unset, .unset] [(.int v10), (.int (0 : Int32)), (.ref b178), (.ref b178)])) rfl rfl (hb hby at_115)
        have pre183 : ∀ t, Steps p.tables e below (T183.setTop (mkF m 116 #[.val (.int p0), .val (.int p1), .val (.int p2), .val (.int p3), .val (.int p4), .val (.int p5), .val (.int v2), .val (.int v10), .val (.int v18), .val (.int v33), .unset, .unset, .unset, .unset] [(.ref b178)])) t → P t := fun t k => pre181 t (st183 _ k)
        have V183 : Arv Z h183 b178 k178 .int (3 : Int32) [(.int v10), (.int (0 : Int32)), (.int (0 : Int32))] (.int (0 : Int32)) := Arv.set Arq182 qq182 Sq182 Nq182' Hq182 Gq182 rfl W183 0 rfl (Nat.le_of_ble_eq_true rfl)
        have c184 : n0 ≤ h183.size := Nat.le_trans c179 (Keep.of_wr W183).1
        have K185 : Keep h0 h183 [] := K180.wr W183 (Or.inr sz_b178)
        have N183 := Fr.snoc X183 N32 g_b178
        have pre186 : ∀ t, Steps p.tables e below (T183.setTop (mkF m 120 #[.val (.int p0), .val (.int p1), .val (.int p2), .val (.int p3), .val (.int p4), .val (.int p5), .val (.int v2), .val (.int v10), .val (.int v18), .val (.int v33), .unset, .unset, .unset, .unset] [(.int v33), (.int (1 : Int32)), (.ref b178), (.ref b178)])) t → P t := fun t k => pre183 t (by
            show Steps p.tables e below (T183.setTop (mkF m 116 #[.val (.int p0), .val (.int p1), .val (.int p2), .val (.int p3), .val (.int p4), .val (.int p5), .val (.int v2), .val (.int v10), .val (.int v18), .val (.int v33), .unset, .unset, .unset, .unset] [(.ref b178)])) _
            refine XS.dup X183.here hx rfl (hb hby at_116) rfl rfl ?_
            show Steps p.tables e below (T183.setTop (mkF m 117 #[.val (.int p0), .val (.int p1), .val (.int p2), .val (.int p3), .val (.int p4), .val (.int p5), .val (.int v2), .val (.int v10), .val (.int v18), .val (.int v33), .unset, .unset, .unset, .unset] [(.ref b178), (.ref b178)])) _
            refine XS.iconst X183.here hx rfl (hb hby at_117) ?_
            show Steps p.tables e below (T183.setTop (mkF m 118 #[.val (.int p0), .val (.int p1), .val (.int p2), .val (.int p3), .val (.int p4), .val (.int p5), .val (.int v2), .val (.int v10), .val (.int v18), .val (.int v33), .unset, .unset, .unset, .unset] [(.int (1 : Int32)), (.ref b178), (.ref b178)])) _
            refine XS.iload X183.here hx rfl (hb hby at_118) rfl ?_
            exact k)
        obtain ⟨clq187, Arq187, qq187, Sq187, Nq187', Hq187, Gq187⟩ := id V183
        obtain ⟨T188, h188, X188, e188, W188, st188⟩ := stI X183 hx hZ e183 Arq187 (j := (1 : Int32)) (inb_of Sq187 ⟨by decide, by decide⟩) (g := (mkF m 120 #[.val (.int p0), .val (.int p1), .val (.int p2), .val (.int p3), .val (.int p4), .val (.int p5), .val (.int v2), .val (.int v10), .val (.int v18), .val (.int v33), .unset, .unset, .unset, .unset] [(.int v33), (.int (1 : Int32)), (.ref b178), (.ref b178)])) rfl rfl (hb hby at_120)
        have pre188 : ∀ t, Steps p.tables e below (T188.setTop (mkF m 121 #[.val (.int p0), .val (.int p1), .val (.int p2), .val (.int p3), .val (.int p4), .val (.int p5), .val (.int v2), .val (.int v10), .val (.int v18), .val (.int v33), .unset, .unset, .unset, .unset] [(.ref b178)])) t → P t := fun t k => pre186 t (st188 _ k)
        have V188 : Arv Z h188 b178 k178 .int (3 : Int32) [(.int v10), (.int v33), (.int (0 : Int32))] (.int (0 : Int32)) := Arv.set Arq187 qq187 Sq187 Nq187' Hq187 Gq187 rfl W188 1 rfl (Nat.le_of_ble_eq_true rfl)
        have c189 : n0 ≤ h188.size := Nat.le_trans c184 (Keep.of_wr W188).1
        have K190 : Keep h0 h188 [] := K185.wr W188 (Or.inr sz_b178)
        have N188 := Fr.snoc X188 N183 g_b178
        have pre191 : ∀ t, Steps p.tables e below (T188.setTop (mkF m 125 #[.val (.int p0), .val (.int p1), .val (.int p2), .val (.int p3), .val (.int p4), .val (.int p5), .val (.int v2), .val (.int v10), .val (.int v18), .val (.int v33), .unset, .unset, .unset, .unset] [(.int v18), (.int (2 : Int32)), (.ref b178), (.ref b178)])) t → P t := fun t k => pre188 t (by
            show Steps p.tables e below (T188.setTop (mkF m 121 #[.val (.int p0), .val (.int p1), .val (.int p2), .val (.int p3), .val (.int p4), .val (.int p5), .val (.int v2), .val (.int v10), .val (.int v18), .val (.int v33), .unset, .unset, .unset, .unset] [(.ref b178)])) _
            refine XS.dup X188.here hx rfl (hb hby at_121) rfl rfl ?_
            show Steps p.tables e below (T188.setTop (mkF m 122 #[.val (.int p0), .val (.int p1), .val (.int p2), .val (.int p3), .val (.int p4), .val (.int p5), .val (.int v2), .val (.int v10), .val (.int v18), .val (.int v33), .unset, .unset, .unset, .unset] [(.ref b178), (.ref b178)])) _
            refine XS.iconst X188.here hx rfl (hb hby at_122) ?_
            show Steps p.tables e below (T188.setTop (mkF m 123 #[.val (.int p0), .val (.int p1), .val (.int p2), .val (.int p3), .val (.int p4), .val (.int p5), .val (.int v2), .val (.int v10), .val (.int v18), .val (.int v33), .unset, .unset, .unset, .unset] [(.int (2 : Int32)), (.ref b178), (.ref b178)])) _
            refine XS.iload X188.here hx rfl (hb hby at_123) rfl ?_
            exact k)
        obtain ⟨clq192, Arq192, qq192, Sq192, Nq192', Hq192, Gq192⟩ := id V188
        obtain ⟨T193, h193, X193, e193, W193, st193⟩ := stI X188 hx hZ e188 Arq192 (j := (2 : Int32)) (inb_of Sq192 ⟨by decide, by decide⟩) (g := (mkF m 125 #[.val (.int p0), .val (.int p1), .val (.int p2), .val (.int p3), .val (.int p4), .val (.int p5), .val (.int v2), .val (.int v10), .val (.int v18), .val (.int v33), .unset, .unset, .unset, .unset] [(.int v18), (.int (2 : Int32)), (.ref b178), (.ref b178)])) rfl rfl (hb hby at_125)
        have pre193 : ∀ t, Steps p.tables e below (T193.setTop (mkF m 126 #[.val (.int p0), .val (.int p1), .val (.int p2), .val (.int p3), .val (.int p4), .val (.int p5), .val (.int v2), .val (.int v10), .val (.int v18), .val (.int v33), .unset, .unset, .unset, .unset] [(.ref b178)])) t → P t := fun t k => pre191 t (st193 _ k)
        have V193 : Arv Z h193 b178 k178 .int (3 : Int32) [(.int v10), (.int v33), (.int v18)] (.int (0 : Int32)) := Arv.set Arq192 qq192 Sq192 Nq192' Hq192 Gq192 rfl W193 2 rfl (Nat.le_of_ble_eq_true rfl)
        have c194 : n0 ≤ h193.size := Nat.le_trans c189 (Keep.of_wr W193).1
        have K195 : Keep h0 h193 [] := K190.wr W193 (Or.inr sz_b178)
        have N193 := Fr.snoc X193 N188 g_b178
        have pre196 : ∀ t, Steps p.tables e below (T193.setTop (mkF m 130 #[.val (.int p0), .val (.int p1), .val (.int p2), .val (.int p3), .val (.int p4), .val (.int p5), .val (.int v2), .val (.int v10), .val (.int v18), .val (.int v33), .val (.ref b178), .unset, .unset, .unset] [(.int v2)])) t → P t := fun t k => pre193 t (by
            show Steps p.tables e below (T193.setTop (mkF m 126 #[.val (.int p0), .val (.int p1), .val (.int p2), .val (.int p3), .val (.int p4), .val (.int p5), .val (.int v2), .val (.int v10), .val (.int v18), .val (.int v33), .unset, .unset, .unset, .unset] [(.ref b178)])) _
            refine XS.astore X193.here hx rfl (hb hby at_126) rfl rfl (l' := #[.val (.int p0), .val (.int p1), .val (.int p2), .val (.int p3), .val (.int p4), .val (.int p5), .val (.int v2), .val (.int v10), .val (.int v18), .val (.int v33), .val (.ref b178), .unset, .unset, .unset]) rfl ?_
            show Steps p.tables e below (T193.setTop (mkF m 128 #[.val (.int p0), .val (.int p1), .val (.int p2), .val (.int p3), .val (.int p4), .val (.int p5), .val (.int v2), .val (.int v10), .val (.int v18), .val (.int v33), .val (.ref b178), .unset, .unset, .unset] [])) _
            refine XS.iload X193.here hx rfl (hb hby at_128) rfl ?_
            exact k)
        obtain ⟨T197, h197, k197, X197, e197, E197, A197, st197⟩ := newP X193 hx hZ (hw _ (List.mem_of_getElem? (i := 7) rfl)) e193 (g := (mkF m 130 #[.val (.int p0), .val (.int p1), .val (.int p2), .val (.int p3), .val (.int p4), .val (.int p5), .val (.int v2), .val (.int v10), .val (.int v18), .val (.int v33), .val (.ref b178), .unset, .unset, .unset] [(.int v2)])) rfl (hb hby at_130) rfl (by subst hv2; exact (own_n3 _).1) (cap := 3) (by subst hv2; exact (own_n3 _).2) (by decide) (by decide) (by decide)
        obtain ⟨b197, g197⟩ : ∃ z, z = h193.size := ⟨_, rfl⟩
        have g_b197 : n0 ≤ b197 := Nat.le_trans c194 (Nat.le_of_eq g197.symm)
        have sz_b197 : h0.size ≤ b197 := Nat.le_trans K195.1 (Nat.le_of_eq g197.symm)
        rw [← g197] at A197 st197
        have pre197 : ∀ t, Steps p.tables e below (T197.setTop (mkF m 132 #[.val (.int p0), .val (.int p1), .val (.int p2), .val (.int p3), .val (.int p4), .val (.int p5), .val (.int v2), .val (.int v10), .val (.int v18), .val (.int v33), .val (.ref b178), .unset, .unset, .unset] [(.ref b197)])) t → P t := fun t k => pre196 t (st197 _ k)
        have c198 : n0 ≤ h197.size := Nat.le_trans c194 E197.1
        have c199 : Arv Z h197 b178 k178 .int (3 : Int32) [(.int v10), (.int v33), (.int v18)] (.int (0 : Int32)) := V193.ext E197
        have K200 : Keep h0 h197 [] := K195.ext E197
        have V_b197 : Arv Z h197 b197 k197 .int v2 [] (.int (0 : Int32)) := Arv.new A197 (by subst hv2; exact (own_n3 _).1)
        have pre201 : ∀ t, Steps p.tables e below (T197.setTop (mkF m 134 #[.val (.int p0), .val (.int p1), .val (.int p2), .val (.int p3), .val (.int p4), .val (.int p5), .val (.int v2), .val (.int v10), .val (.int v18), .val (.int v33), .val (.ref b178), .val (.ref b197), .unset, .unset] [])) t → P t := fun t k => pre197 t (by
            show Steps p.tables e below (T197.setTop (mkF m 132 #[.val (.int p0), .val (.int p1), .val (.int p2), .val (.int p3), .val (.int p4), .val (.int p5), .val (.int v2), .val (.int v10), .val (.int v18), .val (.int v33), .val (.ref b178), .unset, .unset, .unset] [(.ref b197)])) _
            refine XS.astore X197.here hx rfl (hb hby at_132) rfl rfl (l' := #[.val (.int p0), .val (.int p1), .val (.int p2), .val (.int p3), .val (.int p4), .val (.int p5), .val (.int v2), .val (.int v10), .val (.int v18), .val (.int v33), .val (.ref b178), .val (.ref b197), .unset, .unset]) rfl ?_
            exact k)
        obtain ⟨T202, h202, X202, e202, E202, A202, D202, -, st202⟩ := newO X197 hx hZ hown (hw _ (List.mem_of_getElem? (i := 8) rfl)) (hw _ (List.mem_of_getElem? (i := 9) rfl)) (hw _ (List.mem_of_getElem? (i := 10) rfl)) e197 (g := (mkF m 134 #[.val (.int p0), .val (.int p1), .val (.int p2), .val (.int p3), .val (.int p4), .val (.int p5), .val (.int v2), .val (.int v10), .val (.int v18), .val (.int v33), .val (.ref b178), .val (.ref b197), .unset, .unset] [])) rfl (hb hby at_134) (by decide) (by decide)
        obtain ⟨b202, g202⟩ : ∃ z, z = h197.size := ⟨_, rfl⟩
        have g_b202 : n0 ≤ b202 := Nat.le_trans c198 (Nat.le_of_eq g202.symm)
        have sz_b202 : h0.size ≤ b202 := Nat.le_trans K200.1 (Nat.le_of_eq g202.symm)
        rw [← g202] at A202 D202 st202
        have pre202 : ∀ t, Steps p.tables e below (T202.setTop (mkF m 137 #[.val (.int p0), .val (.int p1), .val (.int p2), .val (.int p3), .val (.int p4), .val (.int p5), .val (.int v2), .val (.int v10), .val (.int v18), .val (.int v33), .val (.ref b178), .val (.ref b197), .unset, .unset] [(.ref b202)])) t → P t := fun t k => pre201 t (st202 _ k)
        have c203 : n0 ≤ h202.size := Nat.le_trans c198 E202.1
        have c204 : Arv Z h202 b178 k178 .int (3 : Int32) [(.int v10), (.int v33), (.int v18)] (.int (0 : Int32)) := c199.ext E202
        have c205 : Arv Z h202 b197 k197 .int v2 [] (.int (0 : Int32)) := V_b197.ext E202
        have K206 : Keep h0 h202 [] := K200.ext E202
        have F202_documents : Fld Z h202 b202 "com/example/lexivec/lexivec/lucene/SparseList" "documents" "[I" .null := D202 (Or.inr (hw _ (List.mem_of_getElem? (i := 23) rfl))) (ty := (.array .int)) (by decide)
        have F202_frequencies : Fld Z h202 b202 "com/example/lexivec/lexivec/lucene/SparseList" "frequencies" "[I" .null := D202 (Or.inr (hw _ (List.mem_of_getElem? (i := 25) rfl))) (ty := (.array .int)) (by decide)
        have F202_maxFrequency : Fld Z h202 b202 "com/example/lexivec/lexivec/lucene/SparseList" "maxFrequency" "I" (.int (0 : Int32)) := D202 (Or.inr (hw _ (List.mem_of_getElem? (i := 27) rfl))) (ty := .int) (by decide)
        have pre207 : ∀ t, Steps p.tables e below (T202.setTop (mkF m 143 #[.val (.int p0), .val (.int p1), .val (.int p2), .val (.int p3), .val (.int p4), .val (.int p5), .val (.int v2), .val (.int v10), .val (.int v18), .val (.int v33), .val (.ref b178), .val (.ref b197), .unset, .unset] [(.int (0 : Int32)), (.ref b197), (.ref b178), (.ref b202), (.ref b202)])) t → P t := fun t k => pre202 t (by
            show Steps p.tables e below (T202.setTop (mkF m 137 #[.val (.int p0), .val (.int p1), .val (.int p2), .val (.int p3), .val (.int p4), .val (.int p5), .val (.int v2), .val (.int v10), .val (.int v18), .val (.int v33), .val (.ref b178), .val (.ref b197), .unset, .unset] [(.ref b202)])) _
            refine XS.dup X202.here hx rfl (hb hby at_137) rfl rfl ?_
            show Steps p.tables e below (T202.setTop (mkF m 138 #[.val (.int p0), .val (.int p1), .val (.int p2), .val (.int p3), .val (.int p4), .val (.int p5), .val (.int v2), .val (.int v10), .val (.int v18), .val (.int v33), .val (.ref b178), .val (.ref b197), .unset, .unset] [(.ref b202), (.ref b202)])) _
            refine XS.aload X202.here hx rfl (hb hby at_138) rfl rfl ?_
            show Steps p.tables e below (T202.setTop (mkF m 140 #[.val (.int p0), .val (.int p1), .val (.int p2), .val (.int p3), .val (.int p4), .val (.int p5), .val (.int v2), .val (.int v10), .val (.int v18), .val (.int v33), .val (.ref b178), .val (.ref b197), .unset, .unset] [(.ref b178), (.ref b202), (.ref b202)])) _
            refine XS.aload X202.here hx rfl (hb hby at_140) rfl rfl ?_
            show Steps p.tables e below (T202.setTop (mkF m 142 #[.val (.int p0), .val (.int p1), .val (.int p2), .val (.int p3), .val (.int p4), .val (.int p5), .val (.int v2), .val (.int v10), .val (.int v18), .val (.int v33), .val (.ref b178), .val (.ref b197), .unset, .unset] [(.ref b197), (.ref b178), (.ref b202), (.ref b202)])) _
            refine XS.iconst X202.here hx rfl (hb hby at_142) ?_
            exact k)
        obtain ⟨_, _, ⟨T208, L208, k208, n208⟩, -, X208, ⟨Lc208, hQ208, l208, y208, z208⟩, st208⟩ := X202.specialBack hx (y := (⟨"com/example/lexivec/lexivec/lucene/SparseList", "<init>", "([I[II)V"⟩ : MethodName)) rfl hown (mvT hZ (hw _ (List.mem_of_getElem? (i := 11) rfl))) (mvT hZ (hw _ (List.mem_of_getElem? (i := 12) rfl))) (mvT hZ (hw _ (List.mem_of_getElem? (i := 13) rfl))) (by decide) (backOf (W := 1) (rm3 l Z a0 hw [] b202 b178 b197 (0 : Int32) h202 n0 c203 A202 F202_documents F202_frequencies F202_maxFrequency g_b202) hZ (hw _ (List.mem_of_getElem? (i := 13) rfl)) (hw _ (List.mem_of_getElem? (i := 10) rfl)) (by decide) (by decide)) (g := (mkF m 143 #[.val (.int p0), .val (.int p1), .val (.int p2), .val (.int p3), .val (.int p4), .val (.int p5), .val (.int v2), .val (.int v10), .val (.int v18), .val (.int v33), .val (.ref b178), .val (.ref b197), .unset, .unset] [(.int (0 : Int32)), (.ref b197), (.ref b178), (.ref b202), (.ref b202)])) rfl (by rw [hml]; rfl) (Steps.refl _) (a := b202) (argsL := [(.ref b178), (.ref b197), (.int (0 : Int32))]) (rest := [(.ref b202)]) (lenOf own_pd2 rfl) rfl (by show 2 * 0 + _ ≤ _; exact Nat.le_of_eq rfl) (hb hby at_143) (fun _ _ => ⟨rfl, e202, (by decide : 3 + 0 ≤ _), (by decide : 9 + 0 ≤ _)⟩)
        dsimp only [Pt.U, Pt.locs, Pt.cells, Pt.slots] at X208 l208 y208 z208 st208 hQ208
        subst l208 y208 z208
        obtain ⟨rfl, N208q, K208, EE208, FF208_0, FF208_1, FF208_2⟩ := hQ208
        have c209 : n0 ≤ T208.heap.size := Nat.le_trans c203 K208.1
        have c210 : Arv Z T208.heap b178 k178 .int (3 : Int32) [(.int v10), (.int v33), (.int v18)] (.int (0 : Int32)) := c204.keep K208 (ninS (Nat.ne_of_lt (Nat.lt_of_lt_of_le c199.lt (Nat.le_of_eq g202.symm))) nin0)
        have c211 : Arv Z T208.heap b197 k197 .int v2 [] (.int (0 : Int32)) := c205.keep K208 (ninS (Nat.ne_of_lt (Nat.lt_of_lt_of_le V_b197.lt (Nat.le_of_eq g202.symm))) nin0)
        have c212 : Exa Z T208.heap b202 "com/example/lexivec/lexivec/lucene/SparseList" := A202.keep K208
        have K213 : Keep h0 T208.heap [] := K206.trans K208 (allS (P := fun x => x ∈ ([] : List Addr) ∨ h0.size ≤ x) (Or.inr sz_b202) all0)
        have N208 := Fr.app N193 N208q
        have pre208 : ∀ t, Steps p.tables e below (T208.setTop (mkF m 146 #[.val (.int p0), .val (.int p1), .val (.int p2), .val (.int p3), .val (.int p4), .val (.int p5), .val (.int v2), .val (.int v10), .val (.int v18), .val (.int v33), .val (.ref b178), .val (.ref b197), .unset, .unset] [(.ref b202)])) t → P t := fun t k => pre207 t (st208.trans k)
        have pre214 : ∀ t, Steps p.tables e below (T208.setTop (mkF m 217 #[.val (.int p0), .val (.int p1), .val (.int p2), .val (.int p3), .val (.int p4), .val (.int p5), .val (.int v2), .val (.int v10), .val (.int v18), .val (.int v33), .val (.ref b178), .val (.ref b197), .val (.ref b202), .unset] [(.int p4), (.int p3), (.int p0)])) t → P t := fun t k => pre208 t (by
            show Steps p.tables e below (T208.setTop (mkF m 146 #[.val (.int p0), .val (.int p1), .val (.int p2), .val (.int p3), .val (.int p4), .val (.int p5), .val (.int v2), .val (.int v10), .val (.int v18), .val (.int v33), .val (.ref b178), .val (.ref b197), .unset, .unset] [(.ref b202)])) _
            refine XS.astore X208.here hx rfl (hb hby at_146) rfl rfl (l' := #[.val (.int p0), .val (.int p1), .val (.int p2), .val (.int p3), .val (.int p4), .val (.int p5), .val (.int v2), .val (.int v10), .val (.int v18), .val (.int v33), .val (.ref b178), .val (.ref b197), .val (.ref b202), .unset]) rfl ?_
            show Steps p.tables e below (T208.setTop (mkF m 148 #[.val (.int p0), .val (.int p1), .val (.int p2), .val (.int p3), .val (.int p4), .val (.int p5), .val (.int v2), .val (.int v10), .val (.int v18), .val (.int v33), .val (.ref b178), .val (.ref b197), .val (.ref b202), .unset] [])) _
            refine XS.iload X208.here hx rfl (hb hby at_148) rfl ?_
            show Steps p.tables e below (T208.setTop (mkF m 150 #[.val (.int p0), .val (.int p1), .val (.int p2), .val (.int p3), .val (.int p4), .val (.int p5), .val (.int v2), .val (.int v10), .val (.int v18), .val (.int v33), .val (.ref b178), .val (.ref b197), .val (.ref b202), .unset] [(.int v2)])) _
            refine XS.ifYes X208.here hx rfl (pc0 := 150) (pc' := 159) rfl (hb hby at_150) rfl ((if0 _ _).trans (feq hc36).2) (by decide) (by decide) ?_
            show Steps p.tables e below (T208.setTop (mkF m 159 #[.val (.int p0), .val (.int p1), .val (.int p2), .val (.int p3), .val (.int p4), .val (.int p5), .val (.int v2), .val (.int v10), .val (.int v18), .val (.int v33), .val (.ref b178), .val (.ref b197), .val (.ref b202), .unset] [])) _
            refine XS.iload X208.here hx rfl (hb hby at_159) rfl ?_
            show Steps p.tables e below (T208.setTop (mkF m 161 #[.val (.int p0), .val (.int p1), .val (.int p2), .val (.int p3), .val (.int p4), .val (.int p5), .val (.int v2), .val (.int v10), .val (.int v18), .val (.int v33), .val (.ref b178), .val (.ref b197), .val (.ref b202), .unset] [(.int v2)])) _
            refine XS.iconst X208.here hx rfl (hb hby at_161) ?_
            show Steps p.tables e below (T208.setTop (mkF m 162 #[.val (.int p0), .val (.int p1), .val (.int p2), .val (.int p3), .val (.int p4), .val (.int p5), .val (.int v2), .val (.int v10), .val (.int v18), .val (.int v33), .val (.ref b178), .val (.ref b197), .val (.ref b202), .unset] [(.int (1 : Int32)), (.int v2)])) _
            refine XS.icmpYes X208.here hx rfl (pc0 := 162) (pc' := 177) rfl (hb hby at_162) rfl (feq hc70).2 (by decide) (by decide) ?_
            show Steps p.tables e below (T208.setTop (mkF m 177 #[.val (.int p0), .val (.int p1), .val (.int p2), .val (.int p3), .val (.int p4), .val (.int p5), .val (.int v2), .val (.int v10), .val (.int v18), .val (.int v33), .val (.ref b178), .val (.ref b197), .val (.ref b202), .unset] [])) _
            refine XS.iload X208.here hx rfl (hb hby at_177) rfl ?_
            show Steps p.tables e below (T208.setTop (mkF m 179 #[.val (.int p0), .val (.int p1), .val (.int p2), .val (.int p3), .val (.int p4), .val (.int p5), .val (.int v2), .val (.int v10), .val (.int v18), .val (.int v33), .val (.ref b178), .val (.ref b197), .val (.ref b202), .unset] [(.int v2)])) _
            refine XS.iconst X208.here hx rfl (hb hby at_179) ?_
            show Steps p.tables e below (T208.setTop (mkF m 180 #[.val (.int p0), .val (.int p1), .val (.int p2), .val (.int p3), .val (.int p4), .val (.int p5), .val (.int v2), .val (.int v10), .val (.int v18), .val (.int v33), .val (.ref b178), .val (.ref b197), .val (.ref b202), .unset] [(.int (2 : Int32)), (.int v2)])) _
            refine XS.icmpYes X208.here hx rfl (pc0 := 180) (pc' := 213) rfl (hb hby at_180) rfl (feq hc113).2 (by decide) (by decide) ?_
            show Steps p.tables e below (T208.setTop (mkF m 213 #[.val (.int p0), .val (.int p1), .val (.int p2), .val (.int p3), .val (.int p4), .val (.int p5), .val (.int v2), .val (.int v10), .val (.int v18), .val (.int v33), .val (.ref b178), .val (.ref b197), .val (.ref b202), .unset] [])) _
            refine XS.iloadN X208.here hx rfl (hb hby at_213) rfl ?_
            show Steps p.tables e below (T208.setTop (mkF m 214 #[.val (.int p0), .val (.int p1), .val (.int p2), .val (.int p3), .val (.int p4), .val (.int p5), .val (.int v2), .val (.int v10), .val (.int v18), .val (.int v33), .val (.ref b178), .val (.ref b197), .val (.ref b202), .unset] [(.int p0)])) _
            refine XS.iloadN X208.here hx rfl (hb hby at_214) rfl ?_
            show Steps p.tables e below (T208.setTop (mkF m 215 #[.val (.int p0), .val (.int p1), .val (.int p2), .val (.int p3), .val (.int p4), .val (.int p5), .val (.int v2), .val (.int v10), .val (.int v18), .val (.int v33), .val (.ref b178), .val (.ref b197), .val (.ref b202), .unset] [(.int p3), (.int p0)])) _
            refine XS.iload X208.here hx rfl (hb hby at_215) rfl ?_
            exact k)
        obtain ⟨_, _, ⟨T215, L215, k215, n215⟩, -, X215, ⟨Lc215, hQ215, l215, y215, z215⟩, st215⟩ := Jvm.LawKit.callS X208 hx (y := (⟨"com/example/lexivec/lexivec/lucene/SparseListWithinPinLaw", "in", "(III)Z"⟩ : MethodName)) hown (mvT hZ (hw _ (List.mem_of_getElem? (i := 28) rfl))) (mvT hZ (hw _ (List.mem_of_getElem? (i := 29) rfl))) (mvT hZ (hw _ (List.mem_of_getElem? (i := 30) rfl))) (mvT hZ (hw _ (List.mem_of_getElem? (i := 31) rfl))) (by decide) (backOf (W := 0) (rm6 l Z a0 hw [] p0 p3 p4 T208.heap n0 c209 ) hZ (hw _ (List.mem_of_getElem? (i := 31) rfl)) (hw _ (List.mem_of_getElem? (i := 30) rfl)) (by decide) (by decide)) (g := (mkF m 217 #[.val (.int p0), .val (.int p1), .val (.int p2), .val (.int p3), .val (.int p4), .val (.int p5), .val (.int v2), .val (.int v10), .val (.int v18), .val (.int v33), .val (.ref b178), .val (.ref b197), .val (.ref b202), .unset] [(.int p4), (.int p3), (.int p0)])) rfl (by rw [hml]; rfl) (argsL := [(.int p0), (.int p3), (.int p4)]) (rest := []) (lenOf own_pd4 rfl) rfl (by show 2 * 0 + _ ≤ _; exact Nat.le_of_eq rfl) (hb hby at_217) (fun _ _ => ⟨rfl, rfl, (by decide : 3 + 0 ≤ _), (by decide : 9 + 0 ≤ _)⟩)
        dsimp only [Pt.U, Pt.locs, Pt.cells, Pt.slots] at X215 l215 y215 z215 st215 hQ215
        subst l215 y215 z215
        obtain ⟨rfl, N215q, e215⟩ := hQ215
        have N215 := Fr.app N208 N215q
        have pre215 : ∀ t, Steps p.tables e below (T215.setTop (mkF m 220 #[.val (.int p0), .val (.int p1), .val (.int p2), .val (.int p3), .val (.int p4), .val (.int p5), .val (.int v2), .val (.int v10), .val (.int v18), .val (.int v33), .val (.ref b178), .val (.ref b197), .val (.ref b202), .unset] [(.int (own_f6 p0 p3 p4))])) t → P t := fun t k => pre214 t (st215 _ k)
        obtain ⟨v216, hv216⟩ : ∃ z : Int32, z = (own_f6 p0 p3 p4) := ⟨_, rfl⟩
        have pre217 : ∀ t, Steps p.tables e below (T215.setTop (mkF m 220 #[.val (.int p0), .val (.int p1), .val (.int p2), .val (.int p3), .val (.int p4), .val (.int p5), .val (.int v2), .val (.int v10), .val (.int v18), .val (.int v33), .val (.ref b178), .val (.ref b197), .val (.ref b202), .unset] [(.int v216)])) t → P t := fun t k => pre215 t (by subst hv216; exact k)
        obtain ⟨T234, L234, v233, X234, e234, N234, hv233, pre234⟩ : ∃ (T' : State) (L' : List Loc) (v233 : Int32), Stand p l e room_1 s m #[(.int p0), (.int p1), (.int p2), (.int p3), (.int p4), (.int p5)] below meth c T' L' 3 9 ∧ T'.heap = T208.heap ∧ Fr n0 L' ∧ v233 = (if v216 = (0 : Int32) then (0 : Int32) else (let v222 : Int32 := (own_f6 p1 p3 p4); (if v222 = (0 : Int32) then (0 : Int32) else (let v228 : Int32 := (own_f6 p2 p3 p4); (if v228 = (0 : Int32) then (0 : Int32) else (1 : Int32)))))) ∧ (∀ t, Steps p.tables e below (T'.setTop (mkF m 248 #[.val (.int p0), .val (.int p1), .val (.int p2), .val (.int p3), .val (.int p4), .val (.int p5), .val (.int v2), .val (.int v10), .val (.int v18), .val (.int v33), .val (.ref b178), .val (.ref b197), .val (.ref b202), .unset] [(.int v233)])) t → P t) := by
          by_cases hc218 : v216 = (0 : Int32)
          · have pre219 : ∀ t, Steps p.tables e below (T215.setTop (mkF m 248 #[.val (.int p0), .val (.int p1), .val (.int p2), .val (.int p3), .val (.int p4), .val (.int p5), .val (.int v2), .val (.int v10), .val (.int v18), .val (.int v33), .val (.ref b178), .val (.ref b197), .val (.ref b202), .unset] [(.int (0 : Int32))])) t → P t := fun t k => pre217 t (by
                show Steps p.tables e below (T215.setTop (mkF m 220 #[.val (.int p0), .val (.int p1), .val (.int p2), .val (.int p3), .val (.int p4), .val (.int p5), .val (.int v2), .val (.int v10), .val (.int v18), .val (.int v33), .val (.ref b178), .val (.ref b197), .val (.ref b202), .unset] [(.int v216)])) _
                refine XS.ifYes X215.here hx rfl (pc0 := 220) (pc' := 247) rfl (hb hby at_220) rfl ((if0 _ _).trans (teq hc218).1) (by decide) (by decide) ?_
                show Steps p.tables e below (T215.setTop (mkF m 247 #[.val (.int p0), .val (.int p1), .val (.int p2), .val (.int p3), .val (.int p4), .val (.int p5), .val (.int v2), .val (.int v10), .val (.int v18), .val (.int v33), .val (.ref b178), .val (.ref b197), .val (.ref b202), .unset] [])) _
                refine XS.iconst X215.here hx rfl (hb hby at_247) ?_
                exact k)
            exact ⟨_, _, (0 : Int32), X215, e215, N215, (by first | (rw [if_pos hc218]; done) | simp only [if_pos hc218] | simp [if_pos hc218]), pre219⟩
          · have pre220 : ∀ t, Steps p.tables e below (T215.setTop (mkF m 227 #[.val (.int p0), .val (.int p1), .val (.int p2), .val (.int p3), .val (.int p4), .val (.int p5), .val (.int v2), .val (.int v10), .val (.int v18), .val (.int v33), .val (.ref b178), .val (.ref b197), .val (.ref b202), .unset] [(.int p4), (.int p3), (.int p1)])) t → P t := fun t k => pre217 t (by
                show Steps p.tables e below (T215.setTop (mkF m 220 #[.val (.int p0), .val (.int p1), .val (.int p2), .val (.int p3), .val (.int p4), .val (.int p5), .val (.int v2), .val (.int v10), .val (.int v18), .val (.int v33), .val (.ref b178), .val (.ref b197), .val (.ref b202), .unset] [(.int v216)])) _
                refine XS.ifNo X215.here hx rfl (hb hby at_220) rfl ((if0 _ _).trans (feq hc218).1) ?_
                show Steps p.tables e below (T215.setTop (mkF m 223 #[.val (.int p0), .val (.int p1), .val (.int p2), .val (.int p3), .val (.int p4), .val (.int p5), .val (.int v2), .val (.int v10), .val (.int v18), .val (.int v33), .val (.ref b178), .val (.ref b197), .val (.ref b202), .unset] [])) _
                refine XS.iloadN X215.here hx rfl (hb hby at_223) rfl ?_
                show Steps p.tables e below (T215.setTop (mkF m 224 #[.val (.int p0), .val (.int p1), .val (.int p2), .val (.int p3), .val (.int p4), .val (.int p5), .val (.int v2), .val (.int v10), .val (.int v18), .val (.int v33), .val (.ref b178), .val (.ref b197), .val (.ref b202), .unset] [(.int p1)])) _
                refine XS.iloadN X215.here hx rfl (hb hby at_224) rfl ?_
                show Steps p.tables e below (T215.setTop (mkF m 225 #[.val (.int p0), .val (.int p1), .val (.int p2), .val (.int p3), .val (.int p4), .val (.int p5), .val (.int v2), .val (.int v10), .val (.int v18), .val (.int v33), .val (.ref b178), .val (.ref b197), .val (.ref b202), .unset] [(.int p3), (.int p1)])) _
                refine XS.iload X215.here hx rfl (hb hby at_225) rfl ?_
                exact k)
            obtain ⟨_, _, ⟨T221, L221, k221, n221⟩, -, X221, ⟨Lc221, hQ221, l221, y221, z221⟩, st221⟩ := Jvm.LawKit.callS X215 hx (y := (⟨"com/example/lexivec/lexivec/lucene/SparseListWithinPinLaw", "in", "(III)Z"⟩ : MethodName)) hown (mvT hZ (hw _ (List.mem_of_getElem? (i := 28) rfl))) (mvT hZ (hw _ (List.mem_of_getElem? (i := 29) rfl))) (mvT hZ (hw _ (List.mem_of_getElem? (i := 30) rfl))) (mvT hZ (hw _ (List.mem_of_getElem? (i := 31) rfl))) (by decide) (backOf (W := 0) (rm6 l Z a0 hw [] p1 p3 p4 T208.heap n0 c209 ) hZ (hw _ (List.mem_of_getElem? (i := 31) rfl)) (hw _ (List.mem_of_getElem? (i := 30) rfl)) (by decide) (by decide)) (g := (mkF m 227 #[.val (.int p0), .val (.int p1), .val (.int p2), .val (.int p3), .val (.int p4), .val (.int p5), .val (.int v2), .val (.int v10), .val (.int v18), .val (.int v33), .val (.ref b178), .val (.ref b197), .val (.ref b202), .unset] [(.int p4), (.int p3), (.int p1)])) rfl (by rw [hml]; rfl) (argsL := [(.int p1), (.int p3), (.int p4)]) (rest := []) (lenOf own_pd4 rfl) rfl (by show 2 * 0 + _ ≤ _; exact Nat.le_of_eq rfl) (hb hby at_227) (fun _ _ => ⟨rfl, e215, (by decide : 3 + 0 ≤ _), (by decide : 9 + 0 ≤ _)⟩)
            dsimp only [Pt.U, Pt.locs, Pt.cells, Pt.slots] at X221 l221 y221 z221 st221 hQ221
            subst l221 y221 z221
            obtain ⟨rfl, N221q, e221⟩ := hQ221
            have N221 := Fr.app N215 N221q
            have pre221 : ∀ t, Steps p.tables e below (T221.setTop (mkF m 230 #[.val (.int p0), .val (.int p1), .val (.int p2), .val (.int p3), .val (.int p4), .val (.int p5), .val (.int v2), .val (.int v10), .val (.int v18), .val (.int v33), .val (.ref b178), .val (.ref b197), .val (.ref b202), .unset] [(.int (own_f6 p1 p3 p4))])) t → P t := fun t k => pre220 t (st221 _ k)
            obtain ⟨v222, hv222⟩ : ∃ z : Int32, z = (own_f6 p1 p3 p4) := ⟨_, rfl⟩
            have pre223 : ∀ t, Steps p.tables e below (T221.setTop (mkF m 230 #[.val (.int p0), .val (.int p1), .val (.int p2), .val (.int p3), .val (.int p4), .val (.int p5), .val (.int v2), .val (.int v10), .val (.int v18), .val (.int v33), .val (.ref b178), .val (.ref b197), .val (.ref b202), .unset] [(.int v222)])) t → P t := fun t k => pre221 t (by subst hv222; exact k)
            by_cases hc224 : v222 = (0 : Int32)
            · have pre225 : ∀ t, Steps p.tables e below (T221.setTop (mkF m 248 #[.val (.int p0), .val (.int p1), .val (.int p2), .val (.int p3), .val (.int p4), .val (.int p5), .val (.int v2), .val (.int v10), .val (.int v18), .val (.int v33), .val (.ref b178), .val (.ref b197), .val (.ref b202), .unset] [(.int (0 : Int32))])) t → P t := fun t k => pre223 t (by
                  show Steps p.tables e below (T221.setTop (mkF m 230 #[.val (.int p0), .val (.int p1), .val (.int p2), .val (.int p3), .val (.int p4), .val (.int p5), .val (.int v2), .val (.int v10), .val (.int v18), .val (.int v33), .val (.ref b178), .val (.ref b197), .val (.ref b202), .unset] [(.int v222)])) _
                  refine XS.ifYes X221.here hx rfl (pc0 := 230) (pc' := 247) rfl (hb hby at_230) rfl ((if0 _ _).trans (teq hc224).1) (by decide) (by decide) ?_
                  show Steps p.tables e below (T221.setTop (mkF m 247 #[.val (.int p0), .val (.int p1), .val (.int p2), .val (.int p3), .val (.int p4), .val (.int p5), .val (.int v2), .val (.int v10), .val (.int v18), .val (.int v33), .val (.ref b178), .val (.ref b197), .val (.ref b202), .unset] [])) _
                  refine XS.iconst X221.here hx rfl (hb hby at_247) ?_
                  exact k)
              exact ⟨_, _, (0 : Int32), X221, e221, N221, (by subst hv222; first | (rw [if_neg hc218, if_pos hc224]; done) | simp only [if_neg hc218, if_pos hc224] | simp [if_neg hc218, if_pos hc224]), pre225⟩
            · have pre226 : ∀ t, Steps p.tables e below (T221.setTop (mkF m 237 #[.val (.int p0), .val (.int p1), .val (.int p2), .val (.int p3), .val (.int p4), .val (.int p5), .val (.int v2), .val (.int v10), .val (.int v18), .val (.int v33), .val (.ref b178), .val (.ref b197), .val (.ref b202), .unset] [(.int p4), (.int p3), (.int p2)])) t → P t := fun t k => pre223 t (by
                  show Steps p.tables e below (T221.setTop (mkF m 230 #[.val (.int p0), .val (.int p1), .val (.int p2), .val (.int p3), .val (.int p4), .val (.int p5), .val (.int v2), .val (.int v10), .val (.int v18), .val (.int v33), .val (.ref b178), .val (.ref b197), .val (.ref b202), .unset] [(.int v222)])) _
                  refine XS.ifNo X221.here hx rfl (hb hby at_230) rfl ((if0 _ _).trans (feq hc224).1) ?_
                  show Steps p.tables e below (T221.setTop (mkF m 233 #[.val (.int p0), .val (.int p1), .val (.int p2), .val (.int p3), .val (.int p4), .val (.int p5), .val (.int v2), .val (.int v10), .val (.int v18), .val (.int v33), .val (.ref b178), .val (.ref b197), .val (.ref b202), .unset] [])) _
                  refine XS.iloadN X221.here hx rfl (hb hby at_233) rfl ?_
                  show Steps p.tables e below (T221.setTop (mkF m 234 #[.val (.int p0), .val (.int p1), .val (.int p2), .val (.int p3), .val (.int p4), .val (.int p5), .val (.int v2), .val (.int v10), .val (.int v18), .val (.int v33), .val (.ref b178), .val (.ref b197), .val (.ref b202), .unset] [(.int p2)])) _
                  refine XS.iloadN X221.here hx rfl (hb hby at_234) rfl ?_
                  show Steps p.tables e below (T221.setTop (mkF m 235 #[.val (.int p0), .val (.int p1), .val (.int p2), .val (.int p3), .val (.int p4), .val (.int p5), .val (.int v2), .val (.int v10), .val (.int v18), .val (.int v33), .val (.ref b178), .val (.ref b197), .val (.ref b202), .unset] [(.int p3), (.int p2)])) _
                  refine XS.iload X221.here hx rfl (hb hby at_235) rfl ?_
                  exact k)
              obtain ⟨_, _, ⟨T227, L227, k227, n227⟩, -, X227, ⟨Lc227, hQ227, l227, y227, z227⟩, st227⟩ := Jvm.LawKit.callS X221 hx (y := (⟨"com/example/lexivec/lexivec/lucene/SparseListWithinPinLaw", "in", "(III)Z"⟩ : MethodName)) hown (mvT hZ (hw _ (List.mem_of_getElem? (i := 28) rfl))) (mvT hZ (hw _ (List.mem_of_getElem? (i := 29) rfl))) (mvT hZ (hw _ (List.mem_of_getElem? (i := 30) rfl))) (mvT hZ (hw _ (List.mem_of_getElem? (i := 31) rfl))) (by decide) (backOf (W := 0) (rm6 l Z a0 hw [] p2 p3 p4 T208.heap n0 c209 ) hZ (hw _ (List.mem_of_getElem? (i := 31) rfl)) (hw _ (List.mem_of_getElem? (i := 30) rfl)) (by decide) (by decide)) (g := (mkF m 237 #[.val (.int p0), .val (.int p1), .val (.int p2), .val (.int p3), .val (.int p4), .val (.int p5), .val (.int v2), .val (.int v10), .val (.int v18), .val (.int v33), .val (.ref b178), .val (.ref b197), .val (.ref b202), .unset] [(.int p4), (.int p3), (.int p2)])) rfl (by rw [hml]; rfl) (argsL := [(.int p2), (.int p3), (.int p4)]) (rest := []) (lenOf own_pd4 rfl) rfl (by show 2 * 0 + _ ≤ _; exact Nat.le_of_eq rfl) (hb hby at_237) (fun _ _ => ⟨rfl, e221, (by decide : 3 + 0 ≤ _), (by decide : 9 + 0 ≤ _)⟩)
              dsimp only [Pt.U, Pt.locs, Pt.cells, Pt.slots] at X227 l227 y227 z227 st227 hQ227
              subst l227 y227 z227
              obtain ⟨rfl, N227q, e227⟩ := hQ227
              have N227 := Fr.app N221 N227q
              have pre227 : ∀ t, Steps p.tables e below (T227.setTop (mkF m 240 #[.val (.int p0), .val (.int p1), .val (.int p2), .val (.int p3), .val (.int p4), .val (.int p5), .val (.int v2), .val (.int v10), .val (.int v18), .val (.int v33), .val (.ref b178), .val (.ref b197), .val (.ref b202), .unset] [(.int (own_f6 p2 p3 p4))])) t → P t := fun t k => pre226 t (st227 _ k)
              obtain ⟨v228, hv228⟩ : ∃ z : Int32, z = (own_f6 p2 p3 p4) := ⟨_, rfl⟩
              have pre229 : ∀ t, Steps p.tables e below (T227.setTop (mkF m 240 #[.val (.int p0), .val (.int p1), .val (.int p2), .val (.int p3), .val (.int p4), .val (.int p5), .val (.int v2), .val (.int v10), .val (.int v18), .val (.int v33), .val (.ref b178), .val (.ref b197), .val (.ref b202), .unset] [(.int v228)])) t → P t := fun t k => pre227 t (by subst hv228; exact k)
              by_cases hc230 : v228 = (0 : Int32)
              · have pre231 : ∀ t, Steps p.tables e below (T227.setTop (mkF m 248 #[.val (.int p0), .val (.int p1), .val (.int p2), .val (.int p3), .val (.int p4), .val (.int p5), .val (.int v2), .val (.int v10), .val (.int v18), .val (.int v33), .val (.ref b178), .val (.ref b197), .val (.ref b202), .unset] [(.int (0 : Int32))])) t → P t := fun t k => pre229 t (by
                    show Steps p.tables e below (T227.setTop (mkF m 240 #[.val (.int p0), .val (.int p1), .val (.int p2), .val (.int p3), .val (.int p4), .val (.int p5), .val (.int v2), .val (.int v10), .val (.int v18), .val (.int v33), .val (.ref b178), .val (.ref b197), .val (.ref b202), .unset] [(.int v228)])) _
                    refine XS.ifYes X227.here hx rfl (pc0 := 240) (pc' := 247) rfl (hb hby at_240) rfl ((if0 _ _).trans (teq hc230).1) (by decide) (by decide) ?_
                    show Steps p.tables e below (T227.setTop (mkF m 247 #[.val (.int p0), .val (.int p1), .val (.int p2), .val (.int p3), .val (.int p4), .val (.int p5), .val (.int v2), .val (.int v10), .val (.int v18), .val (.int v33), .val (.ref b178), .val (.ref b197), .val (.ref b202), .unset] [])) _
                    refine XS.iconst X227.here hx rfl (hb hby at_247) ?_
                    exact k)
                exact ⟨_, _, (0 : Int32), X227, e227, N227, (by subst hv222 hv228; first | (rw [if_neg hc218, if_neg hc224, if_pos hc230]; done) | simp only [if_neg hc218, if_neg hc224, if_pos hc230] | simp [if_neg hc218, if_neg hc224, if_pos hc230]), pre231⟩
              · have pre232 : ∀ t, Steps p.tables e below (T227.setTop (mkF m 248 #[.val (.int p0), .val (.int p1), .val (.int p2), .val (.int p3), .val (.int p4), .val (.int p5), .val (.int v2), .val (.int v10), .val (.int v18), .val (.int v33), .val (.ref b178), .val (.ref b197), .val (.ref b202), .unset] [(.int (1 : Int32))])) t → P t := fun t k => pre229 t (by
                    show Steps p.tables e below (T227.setTop (mkF m 240 #[.val (.int p0), .val (.int p1), .val (.int p2), .val (.int p3), .val (.int p4), .val (.int p5), .val (.int v2), .val (.int v10), .val (.int v18), .val (.int v33), .val (.ref b178), .val (.ref b197), .val (.ref b202), .unset] [(.int v228)])) _
                    refine XS.ifNo X227.here hx rfl (hb hby at_240) rfl ((if0 _ _).trans (feq hc230).1) ?_
                    show Steps p.tables e below (T227.setTop (mkF m 243 #[.val (.int p0), .val (.int p1), .val (.int p2), .val (.int p3), .val (.int p4), .val (.int p5), .val (.int v2), .val (.int v10), .val (.int v18), .val (.int v33), .val (.ref b178), .val (.ref b197), .val (.ref b202), .unset] [])) _
                    refine XS.iconst X227.here hx rfl (hb hby at_243) ?_
                    show Steps p.tables e below (T227.setTop (mkF m 244 #[.val (.int p0), .val (.int p1), .val (.int p2), .val (.int p3), .val (.int p4), .val (.int p5), .val (.int v2), .val (.int v10), .val (.int v18), .val (.int v33), .val (.ref b178), .val (.ref b197), .val (.ref b202), .unset] [(.int (1 : Int32))])) _
                    refine XS.goto X227.here hx rfl (pc0 := 244) (pc' := 248) rfl (hb hby at_244) (by decide) (by decide) ?_
                    exact k)
                exact ⟨_, _, (1 : Int32), X227, e227, N227, (by subst hv222 hv228; first | (rw [if_neg hc218, if_neg hc224, if_neg hc230]; done) | simp only [if_neg hc218, if_neg hc224, if_neg hc230] | simp [if_neg hc218, if_neg hc224, if_neg hc230]), pre232⟩
        have pre235 : ∀ t, Steps p.tables e below (T234.setTop (mkF m 255 #[.val (.int p0), .val (.int p1), .val (.int p2), .val (.int p3), .val (.int p4), .val (.int p5), .val (.int v2), .val (.int v10), .val (.int v18), .val (.int v33), .val (.ref b178), .val (.ref b197), .val (.ref b202), .val (.int v233)] [(.int p4), (.int p3), (.ref b202)])) t → P t := fun t k => pre234 t (by
            show Steps p.tables e below (T234.setTop (mkF m 248 #[.val (.int p0), .val (.int p1), .val (.int p2), .val (.int p3), .val (.int p4), .val (.int p5), .val (.int v2), .val (.int v10), .val (.int v18), .val (.int v33), .val (.ref b178), .val (.ref b197), .val (.ref b202), .unset] [(.int v233)])) _
            refine XS.istore X234.here hx rfl (hb hby at_248) rfl (l' := #[.val (.int p0), .val (.int p1), .val (.int p2), .val (.int p3), .val (.int p4), .val (.int p5), .val (.int v2), .val (.int v10), .val (.int v18), .val (.int v33), .val (.ref b178), .val (.ref b197), .val (.ref b202), .val (.int v233)]) rfl ?_
            show Steps p.tables e below (T234.setTop (mkF m 250 #[.val (.int p0), .val (.int p1), .val (.int p2), .val (.int p3), .val (.int p4), .val (.int p5), .val (.int v2), .val (.int v10), .val (.int v18), .val (.int v33), .val (.ref b178), .val (.ref b197), .val (.ref b202), .val (.int v233)] [])) _
            refine XS.aload X234.here hx rfl (hb hby at_250) rfl rfl ?_
            show Steps p.tables e below (T234.setTop (mkF m 252 #[.val (.int p0), .val (.int p1), .val (.int p2), .val (.int p3), .val (.int p4), .val (.int p5), .val (.int v2), .val (.int v10), .val (.int v18), .val (.int v33), .val (.ref b178), .val (.ref b197), .val (.ref b202), .val (.int v233)] [(.ref b202)])) _
            refine XS.iloadN X234.here hx rfl (hb hby at_252) rfl ?_
            show Steps p.tables e below (T234.setTop (mkF m 253 #[.val (.int p0), .val (.int p1), .val (.int p2), .val (.int p3), .val (.int p4), .val (.int p5), .val (.int v2), .val (.int v10), .val (.int v18), .val (.int v33), .val (.ref b178), .val (.ref b197), .val (.ref b202), .val (.int v233)] [(.int p3), (.ref b202)])) _
            refine XS.iload X234.here hx rfl (hb hby at_253) rfl ?_
            exact k)
        obtain ⟨cq236, kq236, q236a, q236b, q236c⟩ := isOf hZ e234 EE208
        obtain ⟨_, _, ⟨T236, L236, k236, n236⟩, -, X236, ⟨Lc236, hQ236, l236, y236, z236⟩, st236⟩ := X234.virtualBack hx (y := (⟨"com/example/lexivec/lexivec/lucene/SparseList", "within", "(II)Z"⟩ : MethodName)) (z := (⟨"com/example/lexivec/lexivec/lucene/SparseList", "within", "(II)Z"⟩ : MethodName)) hown (mvT hZ (hw _ (List.mem_of_getElem? (i := 32) rfl))) (mvT hZ (hw _ (List.mem_of_getElem? (i := 33) rfl))) (notFace_of_selects (args := #[]) (mvT hZ (hw _ (List.mem_of_getElem? (i := 35) rfl)))) (mvT hZ (hw _ (List.mem_of_getElem? (i := 35) rfl))) (mvT hZ (hw _ (List.mem_of_getElem? (i := 34) rfl))) (by decide) (backOf (W := 0) (rm7 l Z a0 hw [] b202 p3 p4 b178 k178 (3 : Int32) [(.int v10), (.int v33), (.int v18)] v10 v18 T208.heap n0 c209 FF208_0 c210 (fun _ => rfl) (fun _ => rfl)) hZ (hw _ (List.mem_of_getElem? (i := 36) rfl)) (hw _ (List.mem_of_getElem? (i := 10) rfl)) (by decide) (by decide)) q236a q236c (g := (mkF m 255 #[.val (.int p0), .val (.int p1), .val (.int p2), .val (.int p3), .val (.int p4), .val (.int p5), .val (.int v2), .val (.int v10), .val (.int v18), .val (.int v33), .val (.ref b178), .val (.ref b197), .val (.ref b202), .val (.int v233)] [(.int p4), (.int p3), (.ref b202)])) rfl (by rw [hml]; rfl) (Steps.refl _) (argsL := [(.int p3), (.int p4)]) (rest := []) (lenOf own_pd3 rfl) rfl (by show 2 * 0 + _ ≤ _; exact Nat.le_of_eq rfl) (hb hby at_255) (fun _ _ => ⟨rfl, e234, (by decide : 3 + 0 ≤ _), (by decide : 9 + 0 ≤ _)⟩)
        dsimp only [Pt.U, Pt.locs, Pt.cells, Pt.slots] at X236 l236 y236 z236 st236 hQ236
        subst l236 y236 z236
        obtain ⟨rfl, N236q, e236⟩ := hQ236
        have N236 := Fr.app N234 N236q
        have pre236 : ∀ t, Steps p.tables e below (T236.setTop (mkF m 258 #[.val (.int p0), .val (.int p1), .val (.int p2), .val (.int p3), .val (.int p4), .val (.int p5), .val (.int v2), .val (.int v10), .val (.int v18), .val (.int v33), .val (.ref b178), .val (.ref b197), .val (.ref b202), .val (.int v233)] [(.int (own_f7 p3 p4 (3 : Int32) v10 v18))])) t → P t := fun t k => pre235 t (st236.trans k)
        obtain ⟨v237, hv237⟩ : ∃ z : Int32, z = (own_f7 p3 p4 (3 : Int32) v10 v18) := ⟨_, rfl⟩
        have pre238 : ∀ t, Steps p.tables e below (T236.setTop (mkF m 258 #[.val (.int p0), .val (.int p1), .val (.int p2), .val (.int p3), .val (.int p4), .val (.int p5), .val (.int v2), .val (.int v10), .val (.int v18), .val (.int v33), .val (.ref b178), .val (.ref b197), .val (.ref b202), .val (.int v233)] [(.int v237)])) t → P t := fun t k => pre236 t (by subst hv237; exact k)
        have pre239 : ∀ t, Steps p.tables e below (T236.setTop (mkF m 260 #[.val (.int p0), .val (.int p1), .val (.int p2), .val (.int p3), .val (.int p4), .val (.int p5), .val (.int v2), .val (.int v10), .val (.int v18), .val (.int v33), .val (.ref b178), .val (.ref b197), .val (.ref b202), .val (.int v233)] [(.int v233), (.int v237)])) t → P t := fun t k => pre238 t (by
            show Steps p.tables e below (T236.setTop (mkF m 258 #[.val (.int p0), .val (.int p1), .val (.int p2), .val (.int p3), .val (.int p4), .val (.int p5), .val (.int v2), .val (.int v10), .val (.int v18), .val (.int v33), .val (.ref b178), .val (.ref b197), .val (.ref b202), .val (.int v233)] [(.int v237)])) _
            refine XS.iload X236.here hx rfl (hb hby at_258) rfl ?_
            exact k)
        obtain ⟨T244, L244, v243, X244, e244, N244, hv243, pre244⟩ : ∃ (T' : State) (L' : List Loc) (v243 : Int32), Stand p l e room_1 s m #[(.int p0), (.int p1), (.int p2), (.int p3), (.int p4), (.int p5)] below meth c T' L' 3 9 ∧ T'.heap = T208.heap ∧ Fr n0 L' ∧ v243 = (if v237 = v233 then (1 : Int32) else (0 : Int32)) ∧ (∀ t, Steps p.tables e below (T'.setTop (mkF m 268 #[.val (.int p0), .val (.int p1), .val (.int p2), .val (.int p3), .val (.int p4), .val (.int p5), .val (.int v2), .val (.int v10), .val (.int v18), .val (.int v33), .val (.ref b178), .val (.ref b197), .val (.ref b202), .val (.int v233)] [(.int v243)])) t → P t) := by
          by_cases hc240 : v237 = v233
          · have pre241 : ∀ t, Steps p.tables e below (T236.setTop (mkF m 268 #[.val (.int p0), .val (.int p1), .val (.int p2), .val (.int p3), .val (.int p4), .val (.int p5), .val (.int v2), .val (.int v10), .val (.int v18), .val (.int v33), .val (.ref b178), .val (.ref b197), .val (.ref b202), .val (.int v233)] [(.int (1 : Int32))])) t → P t := fun t k => pre239 t (by
                show Steps p.tables e below (T236.setTop (mkF m 260 #[.val (.int p0), .val (.int p1), .val (.int p2), .val (.int p3), .val (.int p4), .val (.int p5), .val (.int v2), .val (.int v10), .val (.int v18), .val (.int v33), .val (.ref b178), .val (.ref b197), .val (.ref b202), .val (.int v233)] [(.int v233), (.int v237)])) _
                refine XS.icmpNo X236.here hx rfl (hb hby at_260) rfl (teq hc240).2 ?_
                show Steps p.tables e below (T236.setTop (mkF m 263 #[.val (.int p0), .val (.int p1), .val (.int p2), .val (.int p3), .val (.int p4), .val (.int p5), .val (.int v2), .val (.int v10), .val (.int v18), .val (.int v33), .val (.ref b178), .val (.ref b197), .val (.ref b202), .val (.int v233)] [])) _
                refine XS.iconst X236.here hx rfl (hb hby at_263) ?_
                show Steps p.tables e below (T236.setTop (mkF m 264 #[.val (.int p0), .val (.int p1), .val (.int p2), .val (.int p3), .val (.int p4), .val (.int p5), .val (.int v2), .val (.int v10), .val (.int v18), .val (.int v33), .val (.ref b178), .val (.ref b197), .val (.ref b202), .val (.int v233)] [(.int (1 : Int32))])) _
                refine XS.goto X236.here hx rfl (pc0 := 264) (pc' := 268) rfl (hb hby at_264) (by decide) (by decide) ?_
                exact k)
            exact ⟨_, _, (1 : Int32), X236, e236, N236, (by first | (rw [if_pos hc240]; done) | simp only [if_pos hc240] | simp [if_pos hc240]), pre241⟩
          · have pre242 : ∀ t, Steps p.tables e below (T236.setTop (mkF m 268 #[.val (.int p0), .val (.int p1), .val (.int p2), .val (.int p3), .val (.int p4), .val (.int p5), .val (.int v2), .val (.int v10), .val (.int v18), .val (.int v33), .val (.ref b178), .val (.ref b197), .val (.ref b202), .val (.int v233)] [(.int (0 : Int32))])) t → P t := fun t k => pre239 t (by
                show Steps p.tables e below (T236.setTop (mkF m 260 #[.val (.int p0), .val (.int p1), .val (.int p2), .val (.int p3), .val (.int p4), .val (.int p5), .val (.int v2), .val (.int v10), .val (.int v18), .val (.int v33), .val (.ref b178), .val (.ref b197), .val (.ref b202), .val (.int v233)] [(.int v233), (.int v237)])) _
                refine XS.icmpYes X236.here hx rfl (pc0 := 260) (pc' := 267) rfl (hb hby at_260) rfl (feq hc240).2 (by decide) (by decide) ?_
                show Steps p.tables e below (T236.setTop (mkF m 267 #[.val (.int p0), .val (.int p1), .val (.int p2), .val (.int p3), .val (.int p4), .val (.int p5), .val (.int v2), .val (.int v10), .val (.int v18), .val (.int v33), .val (.ref b178), .val (.ref b197), .val (.ref b202), .val (.int v233)] [])) _
                refine XS.iconst X236.here hx rfl (hb hby at_267) ?_
                exact k)
            exact ⟨_, _, (0 : Int32), X236, e236, N236, (by first | (rw [if_neg hc240]; done) | simp only [if_neg hc240] | simp [if_neg hc240]), pre242⟩
        obtain ⟨fs, hr, hrun, hended, hW, hsame⟩ := X244.leave (v := some (.int v243)) (fun h => by rw [Bd.returns] at h; cases h)
        refine ⟨_, _, fin _ (pre244 _ ?_), hrun, hended, _, _, rfl, ?_, ⟨_, rfl⟩, hW, hsame.mono (by decide) (by decide)⟩
        · show Steps p.tables e below (T244.setTop (mkF m 268 #[.val (.int p0), .val (.int p1), .val (.int p2), .val (.int p3), .val (.int p4), .val (.int p5), .val (.int v2), .val (.int v10), .val (.int v18), .val (.int v33), .val (.ref b178), .val (.ref b197), .val (.ref b202), .val (.int v233)] [(.int v243)])) _
          have hnar : nar .boolean v243 = v243 := by subst hv2 hv6 hv10 hv14 hv18 hv22 hv26 hv30 hv33 hv216 hv233 hv237 hv243; first | rfl | (split <;> rfl) | ((try simp only []); (repeat' split) <;> rfl)
          exact retN X244 hx (t := .boolean) Bd.returns (by simp) (hb hby at_268) (by rw [hnar]; exact hr)
        · show Q0 Z p0 p1 p2 p3 p4 p5 h0 n0 _ T244.heap _
          rw [e244]
          exact ⟨(by subst hv2 hv6 hv10 hv14 hv18 hv22 hv26 hv30 hv33 hv216 hv233 hv237 hv243; first | (unfold own_f0; rw [if_neg hc36, if_neg hc70, if_neg hc113]; done) | simp only [own_f0, if_neg hc36, if_neg hc70, if_neg hc113] | simp [own_f0, if_neg hc36, if_neg hc70, if_neg hc113]), N244⟩
theorem own_lt (x y : Int32) : (x < y) ↔ x.toInt < y.toInt := Int32.lt_iff_toInt_lt
theorem own_mn (x y s : Int32) : own_f1 x y < s ↔ (x < s ∨ y < s) := by
  unfold own_f1
  simp only [own_lt]
  split <;> omega
theorem own_mx (x y s : Int32) : own_f2 x y < s ↔ (x < s ∧ y < s) := by
  unfold own_f2
  simp only [own_lt]
  split <;> omega
theorem own_law (a b c s e f : Int32) : own_f0 a b c s e f = 1 := by
  have h := c_mask f 3 2 (by decide) (by decide)
  unfold own_f0 own_f7
  generalize (f &&& 3) = n at *
  simp only []
  by_cases n0 : n = 0
  · simp [n0]
  · by_cases n1 : n = 1
    · rw [if_neg n0, if_pos n1]
      unfold own_f6
      simp
    · rw [if_neg n0, if_neg n1]
      by_cases n2 : n = 2
      · rw [if_pos n2]
        unfold own_f6
        simp only [own_mn, own_mx]
        by_cases p1 : a < s
        · simp [p1]
        · by_cases p2 : a < e
          · by_cases p3 : b < s
            · simp [p1, p2, p3]
            · by_cases p4 : b < e <;> simp [p1, p2, p3, p4]
          · simp [p1, p2]
      · rw [if_neg n2]
        unfold own_f6
        simp only [own_mn, own_mx]
        by_cases p1 : a < s
        · simp [p1]
        · by_cases p2 : a < e
          · by_cases p3 : b < s
            · simp [p1, p2, p3]
            · by_cases p4 : b < e
              · by_cases p5 : c < s
                · simp [p1, p2, p3, p4, p5]
                · by_cases p6 : c < e <;> simp [p1, p2, p3, p4, p5, p6]
              · simp [p1, p2, p3, p4]
          · simp [p1, p2]
set_option maxRecDepth 65536 in
set_option maxHeartbeats 40000000 in
theorem comes_1 {Post : Tables → Env → Array Value → State → Outcome → State → Prop} (hpost : ∀ tb e args s v u, (limb_1_1.after args s (.returned v) u = true ∧ limb_1_2.after args s (.returned v) u = true ∧ True) → FrameEnd s (.returned v) u (Jvm.fieldLocs frame_1_writes args s ++ Jvm.arrayLocs frame_1_arrays args s ++ Jvm.staticLocs frame_1_statics s) 16 128 → Post tb e args s (.returned v) u) :
    ArmFor flags0 classFile x code maxLocals ret World_1 tables_1 room_1 Calls_1 rest_1 Pre_1 Post := by
  intro l hfl _ _ p e ha hc hk s m args below hf hA hF happ hP
  obtain ⟨hcalls, hrest, hpre⟩ := hP
  obtain ⟨-, -, -, hnamed, -, -, -, hat⟩ := (Spec.applies_iff hf).mp happ
  obtain ⟨hg, hn⟩ := and_e (Cond.before_iff.mp (show (Jvm.Cond.and given_1 narrow_1).before args s = true from hpre))
  obtain ⟨hg1, hg2⟩ := and_e hg
  obtain ⟨hg3, hg4⟩ := and_e hg2
  obtain ⟨hg5, hg6⟩ := and_e hg4
  obtain ⟨hg7, hg8⟩ := and_e hg6
  obtain ⟨hg9, hg10⟩ := and_e hg8
  obtain ⟨hg11, hg12⟩ := and_e hg10
  obtain ⟨w0, w1, w2, w3, w4, w5, rfl⟩ : ∃ w0 w1 w2 w3 w4 w5 : Value, args = #[w0, w1, w2, w3, w4, w5] := by
    have hs : args.size = 6 := by simpa [Cond.value, given_1] using hg1
    obtain ⟨L⟩ := args
    match L, hs with
    | [w0, w1, w2, w3, w4, w5], _ => exact ⟨w0, w1, w2, w3, w4, w5, rfl⟩
  have hw := fun d (hd : d ∈ tables_1) => atoms_spec (ws := Jvm.Cond.code x code maxLocals ret :: tables_1) hat d (List.mem_cons_of_mem _ hd)
  have hfit : Fit s := fun {y c} hc i hi => by
    obtain ⟨ha, rfl⟩ := Array.getElem?_eq_some_iff.mp hc
    have q := List.all_eq_true.mp ((Array.all_eq_true_iff_forall_mem.mp hF) _ (Array.getElem_mem ha)) i (List.mem_range.mpr hi)
    simpa [Array.getElem?_eq_getElem hi] using q
  obtain ⟨i0, ei0⟩ := is_v hg3
  obtain rfl : w0 = (.int i0) := Option.some.inj ei0
  obtain ⟨i1, ei1⟩ := is_v hg5
  obtain rfl : w1 = (.int i1) := Option.some.inj ei1
  obtain ⟨i2, ei2⟩ := is_v hg7
  obtain rfl : w2 = (.int i2) := Option.some.inj ei2
  obtain ⟨i3, ei3⟩ := is_v hg9
  obtain rfl : w3 = (.int i3) := Option.some.inj ei3
  obtain ⟨i4, ei4⟩ := is_v hg11
  obtain rfl : w4 = (.int i4) := Option.some.inj ei4
  obtain ⟨i5, ei5⟩ := is_v hg12
  obtain rfl : w5 = (.int i5) := Option.some.inj ei5
  obtain ⟨n, o, h1, h2, h3, _, L, rfl, ⟨rfl, N⟩, hq⟩ := rm0 l s _ hw tables_1 i0 i1 i2 i3 i4 i5 s.heap s.heap.size (Nat.le_refl _) p e ha hc hk s m _ below hf ((Spec.applies_iff_loose hf).mp happ).1 ⟨rfl, State.Warmed39.refl s, rfl⟩ trivial
  refine ⟨n, _, h1, h2, h3, hpost _ _ _ _ _ _ ⟨Cond.after_iff.mpr rfl, Cond.after_iff.mpr (eq_i res_at (Term.int_eval (1)) (by rw [own_law])), trivial⟩ ⟨hq.1, hq.2.1, (hq.2.2.sift fun y hy => Or.inr (N y hy)).mono (by decide) (by decide)⟩⟩
theorem main_1_1 : Claimed_1_1 := comes_1 fun _ _ _ _ _ _ h hF => ⟨h.1, hF⟩
theorem main_1_2 : Claimed_1_2 := comes_1 fun _ _ _ _ _ _ h hF => ⟨h.2.1, hF⟩
end Jvm.Pilot.@@N@@
namespace Jvm.Pilot.@@N@@
open Jvm Jvm.ClassFile Sem Op Lib Jvm.Free Jvm.Stand Jvm.Pilot.@@N@@.Jvm.D
/-! MADE BY PROGRAM (witnessworld.py) out of the Statement's table words and the real class files: 11 classes; the members and pool entries that the words name. The judged class is class 1, her method 2. -/
namespace start1
open Jvm.ClassFile
def u (s : String) : CpInfo := .utf8 (stringToUtf16 s)
/-- a pool by its gaps: so many unusable entries, then the entry; so many at the end -/
def gap : Nat → List CpInfo → List CpInfo
  | 0, r => r
  | n + 1, r => .unusable :: gap n r
def poolList (es : List (Nat × CpInfo)) (last : Nat) : List CpInfo := es.foldr (fun e r => gap e.1 (e.2 :: r)) (gap last [])
def pool (es : List (Nat × CpInfo)) (last : Nat) : Array CpInfo := ⟨poolList es last⟩
def fileOf (pool : Array CpInfo) (this : Nat) (attrs : Array Attribute := #[]) (ms : Array MethodInfo := #[]) (fl : Nat := 33) (sup : Nat := 0) (ifs : Array Nat := #[]) (fds : Array FieldInfo := #[]) : ClassFile where
  minorVersion := 0
  majorVersion := 65
  constantPool := pool
  accessFlags := fl
  thisClass := this
  superClass := sup
  interfaces := ifs
  fields := fds
  methods := ms
  attributes := attrs
def plain (name : String) (sup : Option ClassId) : Class where
  name := name
  kind := .ordinary
  loader := none
  accessFlags := 33
  super := sup
  interfaces := #[]
  cf := none
  fields := #[]
  methods := #[]
  instanceTypes := #[]
  staticTypes := #[]
  resolved := #[]
  callSites := []
  init := .initialized
  statics := none
  mirror := none

def pool0 : Array CpInfo := pool [(5, u "<init>"), (0, u "()V"), (1, .class_ 10), (1, u "java/lang/Object")] 113

def k0c0 : Code := { maxStack := 0, maxLocals := 1, code := object_method_1_code, exceptionTable := #[], attributes := #[] }
def k0m0 : Method := { name := "<init>", desc := "()V", sig := { parameters := [], returnType := none }, accessFlags := 1, code := some k0c0 }
/-- java/lang/Object -/
def k0 : Class := { plain "java/lang/Object" none with
  accessFlags := 33
  interfaces := #[]
  cf := some (fileOf pool0 8 #[] #[{ accessFlags := 1, nameIndex := 5, descriptorIndex := 6, attributes := #[] }] 33 0 #[] #[])
  fields := #[]
  methods := #[k0m0]
  instanceTypes := #[]
  staticTypes := #[]
  resolved := Array.replicate 124 none
  statics := none }

def pool1 : Array CpInfo := pool [(2, .class_ 4), (1, u "java/lang/Object"), (0, u "<init>"), (0, u "()V"), (0, .methodref 8 9), (0, .class_ 10), (0, .nameAndType 11 12), (0, u "java/lang/Math"), (0, u "min"), (0, u "(II)I"), (0, .methodref 8 14), (0, .nameAndType 15 12), (0, u "max"), (0, .class_ 17), (0, u "com/example/lexivec/lexivec/lucene/SparseList"), (0, .methodref 16 19), (0, .nameAndType 5 20), (0, u "([I[II)V"), (0, .methodref 22 23), (0, .class_ 24), (0, .nameAndType 25 26), (0, u "com/example/lexivec/lexivec/lucene/SparseListWithinPinLaw"), (0, u "in"), (0, u "(III)Z"), (0, .methodref 16 28), (0, .nameAndType 29 30), (0, u "within"), (0, u "(II)Z"), (3, u "law"), (0, u "(IIIIII)Z")] 4

def k1m0 : Method := { name := "<init>", desc := "()V", sig := { parameters := [], returnType := none }, accessFlags := 1, code := none }
def k1c1 : Code := { maxStack := 2, maxLocals := 3, code := method_2_code, exceptionTable := #[], attributes := #[] }
def k1m1 : Method := { name := "in", desc := "(III)Z", sig := { parameters := [.int, .int, .int], returnType := some .boolean }, accessFlags := 10, code := some k1c1 }
def k1c2 : Code := { maxStack := 5, maxLocals := 14, code := code, exceptionTable := #[], attributes := #[] }
def k1m2 : Method := { name := "law", desc := "(IIIIII)Z", sig := { parameters := [.int, .int, .int, .int, .int, .int], returnType := some .boolean }, accessFlags := 9, code := some k1c2 }
/-- com/example/lexivec/lexivec/lucene/SparseListWithinPinLaw -/
def k1 : Class := { plain "com/example/lexivec/lexivec/lucene/SparseListWithinPinLaw" (some 0) with
  accessFlags := 49
  interfaces := #[]
  cf := some (fileOf pool1 22 #[] #[{ accessFlags := 1, nameIndex := 5, descriptorIndex := 6, attributes := #[] }, { accessFlags := 10, nameIndex := 25, descriptorIndex := 26, attributes := #[] }, { accessFlags := 9, nameIndex := 34, descriptorIndex := 35, attributes := #[] }] 49 2 #[] #[])
  fields := #[]
  methods := #[k1m0, k1m1, k1m2]
  instanceTypes := #[]
  staticTypes := #[]
  resolved := Array.replicate 40 none
  statics := none }

def pool2 : Array CpInfo := pool [(1, .class_ 2), (0, u "java/lang/Math"), (1, .class_ 6), (1, u "java/lang/Object"), (0, u "<init>"), (0, u "()V"), (89, .class_ 100), (1, u "java/lang/Math$RandomNumberGeneratorHolder"), (71, u "negativeZeroFloatBits"), (0, u "J"), (2, u "negativeZeroDoubleBits"), (21, u "max"), (2, u "min"), (43, u "$assertionsDisabled"), (0, u "Z"), (88, u "(II)I"), (2, u "twoToTheDoubleScaleDown"), (0, u "D"), (4, u "twoToTheDoubleScaleUp"), (9, u "E"), (3, u "PI"), (2, u "TAU"), (2, u "DEGREES_TO_RADIANS"), (0, u "RADIANS_TO_DEGREES")] 94

def k2m0 : Method := { name := "<init>", desc := "()V", sig := { parameters := [], returnType := none }, accessFlags := 2, code := none }
def k2c1 : Code := { maxStack := 2, maxLocals := 2, code := jdk_29_method_65_code, exceptionTable := #[], attributes := #[] }
def k2m1 : Method := { name := "max", desc := "(II)I", sig := { parameters := [.int, .int], returnType := some .int }, accessFlags := 9, code := some k2c1 }
def k2c2 : Code := { maxStack := 2, maxLocals := 2, code := jdk_29_method_69_code, exceptionTable := #[], attributes := #[] }
def k2m2 : Method := { name := "min", desc := "(II)I", sig := { parameters := [.int, .int], returnType := some .int }, accessFlags := 9, code := some k2c2 }
/-- java/lang/Math -/
def k2 : Class := { plain "java/lang/Math" (some 0) with
  accessFlags := 49
  interfaces := #[]
  cf := some (fileOf pool2 1 #[.nestMembers #[98]] #[{ accessFlags := 2, nameIndex := 7, descriptorIndex := 8, attributes := #[] }, { accessFlags := 9, nameIndex := 198, descriptorIndex := 335, attributes := #[] }, { accessFlags := 9, nameIndex := 201, descriptorIndex := 335, attributes := #[] }] 49 4 #[] #[{ accessFlags := 25, nameIndex := 354, descriptorIndex := 339, attributes := #[] }, { accessFlags := 25, nameIndex := 358, descriptorIndex := 339, attributes := #[] }, { accessFlags := 25, nameIndex := 361, descriptorIndex := 339, attributes := #[] }, { accessFlags := 26, nameIndex := 364, descriptorIndex := 339, attributes := #[] }, { accessFlags := 26, nameIndex := 365, descriptorIndex := 339, attributes := #[] }, { accessFlags := 26, nameIndex := 172, descriptorIndex := 173, attributes := #[] }, { accessFlags := 26, nameIndex := 176, descriptorIndex := 173, attributes := #[] }, { accessFlags := 8, nameIndex := 344, descriptorIndex := 339, attributes := #[] }, { accessFlags := 8, nameIndex := 338, descriptorIndex := 339, attributes := #[] }, { accessFlags := 4120, nameIndex := 245, descriptorIndex := 246, attributes := #[] }])
  fields := #[{ name := "E", type := .double, accessFlags := 25, slot := 0, constantValue := 0 }, { name := "PI", type := .double, accessFlags := 25, slot := 1, constantValue := 0 }, { name := "TAU", type := .double, accessFlags := 25, slot := 2, constantValue := 0 }, { name := "DEGREES_TO_RADIANS", type := .double, accessFlags := 26, slot := 3, constantValue := 0 }, { name := "RADIANS_TO_DEGREES", type := .double, accessFlags := 26, slot := 4, constantValue := 0 }, { name := "negativeZeroFloatBits", type := .long, accessFlags := 26, slot := 5, constantValue := 0 }, { name := "negativeZeroDoubleBits", type := .long, accessFlags := 26, slot := 6, constantValue := 0 }, { name := "twoToTheDoubleScaleUp", type := .double, accessFlags := 8, slot := 7, constantValue := 0 }, { name := "twoToTheDoubleScaleDown", type := .double, accessFlags := 8, slot := 8, constantValue := 0 }, { name := "$assertionsDisabled", type := .boolean, accessFlags := 4120, slot := 9, constantValue := 0 }]
  methods := #[k2m0, k2m1, k2m2]
  instanceTypes := #[]
  staticTypes := #[.double, .double, .double, .double, .double, .long, .long, .double, .double, .boolean]
  resolved := Array.replicate 460 none
  statics := none }

def pool3 : Array CpInfo := pool [(1, .methodref 2 3), (0, .class_ 4), (0, .nameAndType 5 6), (0, u "java/lang/Object"), (0, u "<init>"), (0, u "()V"), (0, .class_ 8), (0, u "java/lang/Record")] 13

def k3c0 : Code := { maxStack := 1, maxLocals := 1, code := jdk_30_method_1_code, exceptionTable := #[], attributes := #[] }
def k3m0 : Method := { name := "<init>", desc := "()V", sig := { parameters := [], returnType := none }, accessFlags := 4, code := some k3c0 }
/-- java/lang/Record -/
def k3 : Class := { plain "java/lang/Record" (some 0) with
  accessFlags := 1057
  interfaces := #[]
  cf := some (fileOf pool3 7 #[] #[{ accessFlags := 4, nameIndex := 5, descriptorIndex := 6, attributes := #[] }] 1057 2 #[] #[])
  fields := #[]
  methods := #[k3m0]
  instanceTypes := #[]
  staticTypes := #[]
  resolved := Array.replicate 22 none
  statics := none }

def pool4 : Array CpInfo := pool [(1, .methodref 2 3), (0, .class_ 4), (0, .nameAndType 5 6), (0, u "java/lang/Record"), (0, u "<init>"), (0, u "()V"), (0, .fieldref 8 9), (0, .class_ 10), (0, .nameAndType 11 12), (0, u "com/example/lexivec/lexivec/lucene/SparseList"), (0, u "documents"), (0, u "[I"), (0, .fieldref 8 14), (0, .nameAndType 15 12), (0, u "frequencies"), (0, .fieldref 8 17), (0, .nameAndType 18 19), (0, u "maxFrequency"), (0, u "I"), (14, u "([I[II)V"), (2, u "ABSENT"), (0, u "Lcom/example/lexivec/lexivec/lucene/SparseList;"), (5, u "within"), (0, u "(II)Z")] 27

def k4c0 : Code := { maxStack := 2, maxLocals := 4, code := prog_54_method_1_code, exceptionTable := #[], attributes := #[] }
def k4m0 : Method := { name := "<init>", desc := "([I[II)V", sig := { parameters := [(.array .int), (.array .int), .int], returnType := none }, accessFlags := 0, code := some k4c0 }
def k4c1 : Code := { maxStack := 3, maxLocals := 3, code := prog_54_method_3_code, exceptionTable := #[], attributes := #[] }
def k4m1 : Method := { name := "within", desc := "(II)Z", sig := { parameters := [.int, .int], returnType := some .boolean }, accessFlags := 0, code := some k4c1 }
/-- com/example/lexivec/lexivec/lucene/SparseList -/
def k4 : Class := { plain "com/example/lexivec/lexivec/lucene/SparseList" (some 3) with
  accessFlags := 48
  interfaces := #[]
  cf := some (fileOf pool4 8 #[] #[{ accessFlags := 0, nameIndex := 5, descriptorIndex := 34, attributes := #[] }, { accessFlags := 0, nameIndex := 44, descriptorIndex := 45, attributes := #[] }] 48 2 #[] #[{ accessFlags := 18, nameIndex := 11, descriptorIndex := 12, attributes := #[] }, { accessFlags := 18, nameIndex := 15, descriptorIndex := 12, attributes := #[] }, { accessFlags := 18, nameIndex := 18, descriptorIndex := 19, attributes := #[] }, { accessFlags := 24, nameIndex := 37, descriptorIndex := 38, attributes := #[] }])
  fields := #[{ name := "documents", type := (.array .int), accessFlags := 18, slot := 0, constantValue := 0 }, { name := "frequencies", type := (.array .int), accessFlags := 18, slot := 1, constantValue := 0 }, { name := "maxFrequency", type := .int, accessFlags := 18, slot := 2, constantValue := 0 }, { name := "ABSENT", type := (.object "com/example/lexivec/lexivec/lucene/SparseList"), accessFlags := 24, slot := 0, constantValue := 0 }]
  methods := #[k4m0, k4m1]
  instanceTypes := #[(.array .int), (.array .int), .int]
  staticTypes := #[(.object "com/example/lexivec/lexivec/lucene/SparseList")]
  resolved := Array.replicate 73 none
  statics := none }

def pool5 : Array CpInfo := pool [(1, u "java/lang/Cloneable"), (0, .class_ 1), (0, u "java/lang/Object"), (0, .class_ 3)] 3

/-- java/lang/Cloneable -/
def k5 : Class := { plain "java/lang/Cloneable" (some 0) with
  accessFlags := 1537
  interfaces := #[]
  cf := some (fileOf pool5 2 #[] #[] 1537 4 #[] #[])
  fields := #[]
  methods := #[]
  instanceTypes := #[]
  staticTypes := #[]
  resolved := Array.replicate 8 none
  statics := none }

def pool6 : Array CpInfo := pool [(1, u "java/io/Serializable"), (0, .class_ 1), (0, u "java/lang/Object"), (0, .class_ 3)] 3

/-- java/io/Serializable -/
def k6 : Class := { plain "java/io/Serializable" (some 0) with
  accessFlags := 1537
  interfaces := #[]
  cf := some (fileOf pool6 2 #[] #[] 1537 4 #[] #[])
  fields := #[]
  methods := #[]
  instanceTypes := #[]
  staticTypes := #[]
  resolved := Array.replicate 8 none
  statics := none }

/-- the primitive byte -/
def k7 : Class := { plain "byte" none with kind := .primitive 'B', accessFlags := 0x411 }
/-- [B -/
def k8 : Class := { plain "[B" (some 0) with kind := .array 7 .byte, interfaces := #[5, 6], accessFlags := 1041 }

/-- the primitive int -/
def k9 : Class := { plain "int" none with kind := .primitive 'I', accessFlags := 0x411 }
/-- [I -/
def k10 : Class := { plain "[I" (some 0) with kind := .array 9 .int, interfaces := #[5, 6], accessFlags := 1041 }

def heap : Heap := #[]
def classes : Array Class := #[k0, k1, k2, k3, k4, k5, k6, k7, k8, k9, k10]
def interned : List (Array UInt16 × Addr) := []
def slotsUsed : Nat := 0
def theMethod : MethodId := ⟨1, 2⟩
def args0 : Array Value := #[.int 5, .int 7, .int 3, .int 0, .int 9, .int 2]
def aboutOver (below : List Frame) : State where
  vm := { classes := classes, interned := interned.toArray }
  heap := heap
  slotsUsed := slotsUsed
  threads := #[{ frames := .invoking theMethod args0 :: below }]
def below0 : List Frame := [.native { method := ⟨0, 0⟩, args := #[] }]
def about1 : State := aboutOver below0
def p0 : Program := .bare "" "" ""
def e0 : Env := launch0.env 0 0 0
theorem w_frames : about1.frames = Frame.invoking theMethod args0 :: below0 := rfl
set_option maxRecDepth 65536 in
theorem w_args : argsFit about1.vm theMethod args0 = true := by decide +kernel
set_option maxRecDepth 65536 in
theorem w_heap : heapFits about1 = true := by decide +kernel
set_option maxRecDepth 65536 in
theorem w_runnable : about1.curStatus? = some .runnable := by decide +kernel
set_option maxRecDepth 65536 in
theorem w_alone : about1.alone = true := by decide +kernel
set_option maxRecDepth 65536 in
theorem w_named : about1.methodNamed? x = some theMethod := by decide +kernel
set_option maxRecDepth 65536 in
theorem w_hears : about1.hears theMethod below0 = true := by decide +kernel
set_option maxRecDepth 65536 in
theorem w_ripe : about1.ripe theMethod args0 below0 = true := by decide +kernel
theorem w_running : about1.status = .running := rfl
set_option maxRecDepth 65536 in
theorem w_room : about1.hasRoom e0.platform room_1 = true :=
  launch0.hasRoom_least _ room_1 (by decide +kernel) (by decide +kernel) (by decide +kernel) (by decide +kernel) (by decide +kernel) (by decide +kernel)
theorem allAtoms_all (ts : List Jvm.Cond) (a : Array Jvm.Value) (st : Jvm.State) : (allAtoms ts).before a st = ts.all (fun c => c.before a st) := by
  induction ts with
  | nil => rfl
  | cons c t ih =>
    show (Jvm.Cond.and c (allAtoms t)).before a st = _
    rw [Jvm.Cond.before_and, ih, List.all_cons]
def words1 : List Jvm.Cond := Jvm.Cond.code x code maxLocals ret :: tables_1
/-- a 'code' word, met by the world's own term for the bytes: nothing is compared byte by byte -/
theorem code_word {y : MethodName} {bytes : ByteArray} {mx : Nat} {rt : Option FieldType} {a : Array Value} {s : State} {m : MethodId} {meth : Method} {c : Code} (h1 : s.methodNamed? y = some m) (h2 : s.vm.method? m = some meth) (h3 : meth.code = some c) (h4 : c.code = bytes)
    (h5 : (c.maxLocals == mx && c.exceptionTable.isEmpty && decide (c.maxStack ≤ mostOperands) && decide (meth.sig.returnType = rt) && !meth.locks && decide (parseMethodDescriptor y.desc = some meth.sig)) = true) : (Jvm.Cond.code y bytes mx rt).before a s = true := by
  simp only [Bool.and_eq_true, beq_iff_eq, Bool.not_eq_true', decide_eq_true_eq] at h5
  obtain ⟨⟨⟨⟨⟨g1, g2⟩, g3⟩, g4⟩, g5⟩, g6⟩ := h5
  simp [Cond.before, Cond.holds, Cond.value, h1, h2, h3, h4, g1, g2, g3, g4, g5, g6]
def isCode : Jvm.Cond → Bool
  | .code _ _ _ _ => true
  | _ => false
theorem all_split {L : List Jvm.Cond} {P : Jvm.Cond → Bool} (h1 : L.all (fun c => isCode c || P c) = true) (h2 : ∀ c ∈ L.filter isCode, P c = true) : L.all P = true := by
  refine List.all_eq_true.mpr fun c hc => ?_
  have h := List.all_eq_true.mp h1 c hc
  rcases Bool.eq_false_or_eq_true (isCode c) with hi | hi
  · exact h2 c (List.mem_filter.mpr ⟨hc, hi⟩)
  · simpa [hi] using h
set_option maxRecDepth 65536 in
theorem w_c0 : (Jvm.Cond.code x code maxLocals ret).before args0 about1 = true := code_word (m := ⟨1, 2⟩) (meth := k1m2) (c := k1c2) (by decide +kernel) rfl rfl rfl (by decide +kernel)
set_option maxRecDepth 65536 in
theorem w_c1 : (Jvm.Cond.code ({ cls := "java/lang/Math", name := "min", desc := "(II)I" } : Jvm.MethodName) jdk_29_method_69_code (2 : Nat) (Option.some Jvm.ClassFile.FieldType.int)).before args0 about1 = true := code_word (m := ⟨2, 2⟩) (meth := k2m2) (c := k2c2) (by decide +kernel) rfl rfl rfl (by decide +kernel)
set_option maxRecDepth 65536 in
theorem w_c2 : (Jvm.Cond.code ({ cls := "java/lang/Math", name := "max", desc := "(II)I" } : Jvm.MethodName) jdk_29_method_65_code (2 : Nat) (Option.some Jvm.ClassFile.FieldType.int)).before args0 about1 = true := code_word (m := ⟨2, 1⟩) (meth := k2m1) (c := k2c1) (by decide +kernel) rfl rfl rfl (by decide +kernel)
set_option maxRecDepth 65536 in
theorem w_c3 : (Jvm.Cond.code ({ cls := "com/example/lexivec/lexivec/lucene/SparseList", name := "<init>", desc := "([I[II)V" } : Jvm.MethodName) prog_54_method_1_code (4 : Nat) (Option.none : Option Jvm.ClassFile.FieldType)).before args0 about1 = true := code_word (m := ⟨4, 0⟩) (meth := k4m0) (c := k4c0) (by decide +kernel) rfl rfl rfl (by decide +kernel)
set_option maxRecDepth 65536 in
theorem w_c4 : (Jvm.Cond.code ({ cls := "java/lang/Record", name := "<init>", desc := "()V" } : Jvm.MethodName) jdk_30_method_1_code (1 : Nat) (Option.none : Option Jvm.ClassFile.FieldType)).before args0 about1 = true := code_word (m := ⟨3, 0⟩) (meth := k3m0) (c := k3c0) (by decide +kernel) rfl rfl rfl (by decide +kernel)
set_option maxRecDepth 65536 in
theorem w_c5 : (Jvm.Cond.code ({ cls := "java/lang/Object", name := "<init>", desc := "()V" } : Jvm.MethodName) object_method_1_code (1 : Nat) (Option.none : Option Jvm.ClassFile.FieldType)).before args0 about1 = true := code_word (m := ⟨0, 0⟩) (meth := k0m0) (c := k0c0) (by decide +kernel) rfl rfl rfl (by decide +kernel)
set_option maxRecDepth 65536 in
theorem w_c6 : (Jvm.Cond.code ({ cls := "com/example/lexivec/lexivec/lucene/SparseListWithinPinLaw", name := "in", desc := "(III)Z" } : Jvm.MethodName) method_2_code (3 : Nat) (Option.some Jvm.ClassFile.FieldType.boolean)).before args0 about1 = true := code_word (m := ⟨1, 1⟩) (meth := k1m1) (c := k1c1) (by decide +kernel) rfl rfl rfl (by decide +kernel)
set_option maxRecDepth 65536 in
theorem w_c7 : (Jvm.Cond.code ({ cls := "com/example/lexivec/lexivec/lucene/SparseList", name := "within", desc := "(II)Z" } : Jvm.MethodName) prog_54_method_3_code (3 : Nat) (Option.some Jvm.ClassFile.FieldType.boolean)).before args0 about1 = true := code_word (m := ⟨4, 1⟩) (meth := k4m1) (c := k4c1) (by decide +kernel) rfl rfl rfl (by decide +kernel)
def codes1 : List Jvm.Cond := [Jvm.Cond.code x code maxLocals ret, Jvm.Cond.code ({ cls := "java/lang/Math", name := "min", desc := "(II)I" } : Jvm.MethodName) jdk_29_method_69_code (2 : Nat) (Option.some Jvm.ClassFile.FieldType.int), Jvm.Cond.code ({ cls := "java/lang/Math", name := "max", desc := "(II)I" } : Jvm.MethodName) jdk_29_method_65_code (2 : Nat) (Option.some Jvm.ClassFile.FieldType.int), Jvm.Cond.code ({ cls := "com/example/lexivec/lexivec/lucene/SparseList", name := "<init>", desc := "([I[II)V" } : Jvm.MethodName) prog_54_method_1_code (4 : Nat) (Option.none : Option Jvm.ClassFile.FieldType), Jvm.Cond.code ({ cls := "java/lang/Record", name := "<init>", desc := "()V" } : Jvm.MethodName) jdk_30_method_1_code (1 : Nat) (Option.none : Option Jvm.ClassFile.FieldType), Jvm.Cond.code ({ cls := "java/lang/Object", name := "<init>", desc := "()V" } : Jvm.MethodName) object_method_1_code (1 : Nat) (Option.none : Option Jvm.ClassFile.FieldType), Jvm.Cond.code ({ cls := "com/example/lexivec/lexivec/lucene/SparseListWithinPinLaw", name := "in", desc := "(III)Z" } : Jvm.MethodName) method_2_code (3 : Nat) (Option.some Jvm.ClassFile.FieldType.boolean), Jvm.Cond.code ({ cls := "com/example/lexivec/lexivec/lucene/SparseList", name := "within", desc := "(II)Z" } : Jvm.MethodName) prog_54_method_3_code (3 : Nat) (Option.some Jvm.ClassFile.FieldType.boolean)]
set_option maxRecDepth 65536 in
theorem codes_eq : words1.filter isCode = codes1 := rfl
theorem w_codes : ∀ c ∈ words1.filter isCode, c.before args0 about1 = true := by
  rw [codes_eq]
  intro c hc
  simp only [codes1, List.mem_cons, List.not_mem_nil, or_false] at hc
  rcases hc with rfl | rfl | rfl | rfl | rfl | rfl | rfl | rfl
  · exact w_c0
  · exact w_c1
  · exact w_c2
  · exact w_c3
  · exact w_c4
  · exact w_c5
  · exact w_c6
  · exact w_c7
set_option maxRecDepth 65536 in
theorem w_t1 : (words1.take 24).all (fun c => isCode c || c.before args0 about1) = true := by decide +kernel
set_option maxRecDepth 65536 in
theorem w_t2 : (words1.drop 24).all (fun c => isCode c || c.before args0 about1) = true := by decide +kernel
theorem w_tables : (allAtoms (Jvm.Cond.code x code maxLocals ret :: tables_1)).before args0 about1 = true := by
  rw [allAtoms_all]
  show words1.all (fun c => c.before args0 about1) = true
  refine all_split ?_ w_codes
  rw [← List.take_append_drop 24 words1, List.all_append, w_t1, w_t2]
  rfl
set_option maxRecDepth 65536 in
theorem w_case : (Jvm.Cond.and given_1 narrow_1).before args0 about1 = true := by decide +kernel
theorem w_applies : (headSpec (Jvm.Cond.code x code maxLocals ret :: tables_1) room_1).applies x e0.platform about1 = true :=
  (Spec.applies_iff w_frames).mpr ⟨w_running, w_runnable, w_alone, w_named, w_hears, w_ripe, w_room, w_tables⟩
theorem atStart : AtStart classFile x code maxLocals ret World_1 tables_1 room_1 Calls_1 rest_1 Pre_1 launch0 p0 e0 about1 theMethod args0 below0 :=
  ⟨lists_1, trivial, launch0.admits_env _ _ _, launch0.least_env, fairChoices_fair.cas, fairChoices_fair.clock, w_frames, w_args, w_heap, w_applies, trivial, trivial, w_case⟩
end start1
theorem witness_1 : WitnessClaimed_1 := ⟨start1.p0, start1.e0, start1.about1, start1.theMethod, start1.args0, start1.below0, start1.atStart⟩
end Jvm.Pilot.@@N@@
