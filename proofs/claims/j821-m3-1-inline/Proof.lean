import JvmDerived
import JvmDerived.Pilot.@@N@@Statement
import JvmDerived.Pilot.@@N@@Code
set_option linter.unusedVariables false
set_option linter.unusedSimpArgs false
namespace Jvm.RoadKit
open Sem ClassFile Op Lib Jvm.Stand Jvm.Free Jvm.LawKit
section New
variable {p : Program} {l : Launch} {e : Env} {R : Room} {s : State} {m : MethodId} {args : Array Value} {below : List Frame} {meth : Method} {c : Code} {T : State} {locs : List Loc} {cells slots : Nat}
theorem retI (X : Stand p l e R s m args below meth c T locs cells slots) (hx : p.tables.exec = Jvm.exec) {pc : Nat} {Ls : Array Slot} {z : Int32} {rest : List Value} (hret : meth.sig.returnType = some .int) (hd : decode c.code pc = .ok (.ireturn, 1)) {fs : List Frame}
    (hl : ∀ (f : JFrame) (acts : List Action), f.method = m → f.locked = none → f.entered = [] → (doReturn e (T.setTop f) acts (some (.int z))).1 = T.setFrames fs) : Steps p.tables e below (T.setTop (mkF m pc Ls (.int z :: rest))) (T.setFrames fs) := by
  have hm' : T.vm.method? m = some meth := X.method'
  have hn : narrow .int (.int z) = .int z := rfl
  show Steps p.tables e below (T.setTop { method := m, pc := pc, locals := Ls, stack := _ :: rest, locked := none }) _
  jvm_step X.here [X.here.top, hx, hd, hm', hret, hn]
  first | (intro acts; rw [hl _ acts rfl rfl rfl]) | rw [hl _ _ rfl rfl rfl]
  exact Steps.refl _
end New
end Jvm.RoadKit
namespace Jvm.Pilot.@@N@@
open Jvm Jvm.ClassFile Sem Op Lib Jvm.Free Jvm.Stand Jvm.LawKit Jvm.RoadKit Bundle Jvm.Pilot.@@N@@.Jvm.D
theorem hi {a0 : Array Value} {Z : State} {d : Cond} (hw : ∀ d ∈ tables_1, d.before a0 Z = true) (i : Nat) (h : tables_1[i]? = some d) : d.before a0 Z = true := hw d (List.mem_of_getElem? h)
theorem own_decl {Z : State} {a0 : Array Value} {y : MethodName} {bytes : ByteArray} {ml : Nat} {rt : Option FieldType} (hi : (Jvm.Cond.instanceMethod y).before a0 Z = true) (hc : (Jvm.Cond.code y bytes ml rt).before a0 Z = true) : (Jvm.Cond.declares y).before a0 Z = true := by
  obtain ⟨mk, mm, hn, hm, hs, ha⟩ := Cond.instanceMethod_spec hi
  obtain ⟨m2, cM, q1, -, -, -, -, -, -, hsig⟩ := Cond.code_spec hn hc
  cases hm.symm.trans q1
  simp [Cond.before, Cond.holds, Cond.value, hn, hm, hs, hsig]
theorem own_same {Z : State} {a0 : Array Value} {C : String} {y1 y : MethodName} {bytes : ByteArray} {ml : Nat} {rt : Option FieldType} (hs : (Jvm.Cond.selects C y1 y1).before a0 Z = true) (hc : (Jvm.Cond.code y bytes ml rt).before a0 Z = true) (e : y1.cls = y.cls) (hy : y.cls ≠ "java/lang/invoke/MethodHandle" ∧ y.cls ≠ "java/lang/invoke/VarHandle") : (Jvm.Cond.sameMethod y.cls y.cls y.name y.desc).before a0 Z = true := by
  obtain ⟨mk, hn⟩ := Cond.code_named hc
  have hf := State.methodFound?_of_named hn hy
  have hcl := findClass_of_methodNamed hn
  obtain ⟨c2, r2, m2, q1, q2, q3, q4, kP, hkP, hkPi⟩ := Cond.selects_spec hs
  obtain ⟨kr, hkr, hni⟩ := notFace_of_selects hs m2 q3
  have hc2 := findClass_of_methodNamed q3
  rw [e] at hc2
  rw [← Option.some.inj (hcl.symm.trans hc2)] at hkr
  simp [Cond.before, Cond.holds, Cond.value, hcl, hf, hn, hkr, hni]
def own_v (l : List Int32) : List Value := l.map Value.int
theorem own_vget (l : List Int32) (i : Nat) : (own_v l).getD i (.int 0) = .int (l.getD i 0) := by
  simp only [own_v, List.getD_eq_getElem?_getD, List.getElem?_map]
  cases l[i]? <;> rfl
theorem own_vset {Z : State} {h : Heap} {a : Addr} {k : ClassId} {ty : FieldType} {z : Int32} {l : List Int32} {i : Nat} {v : Int32} {d : Value} (A : Arv Z h a k ty z ((own_v l).set i (.int v)) d) : Arv Z h a k ty z (own_v (l.set i v)) d := by
  rw [show own_v (l.set i v) = (own_v l).set i (.int v) from by simp [own_v, List.map_set]]; exact A
theorem own_vlen {l : List Int32} {i : Nat} (h : i < l.length) : i < (own_v l).length := by simpa [own_v] using h
theorem own_vpad {Z : State} {h : Heap} {a : Addr} {k : ClassId} {ty : FieldType} {z : Int32} {l : List Int32} (A : Arv Z h a k ty z (own_v l) (.int 0)) (n : Nat) : Arv Z h a k ty z (own_v l ++ List.replicate n (.int 0)) (.int 0) := A.pad (pad_rep _ _ _)
theorem own_neOr {x b b' : Addr} {n : Nat} (h : b' = b ∨ n ≤ b') (q : x ≠ b) (r : x < n) : x ≠ b' := by
  rcases h with h | h
  · rw [h]; exact q
  · exact Nat.ne_of_lt (Nat.lt_of_lt_of_le r h)
theorem own_mi {b b' : Addr} {n m : Nat} {ws : List Addr} (h : b' = b ∨ n ≤ b') (r : m ≤ n) (q : b ∈ ws ∨ m ≤ b) : b' ∈ ws ∨ m ≤ b' := by
  rcases h with h | h
  · rw [h]; exact q
  · exact Or.inr (Nat.le_trans r h)
theorem own_shr0 (z : Int32) : (z >>> ((0 : Int32) &&& 31)) = z := by
  apply Int32.toBitVec_inj.mp; simp
theorem own_shl0 (z : Int32) : (z <<< ((0 : Int32) &&& 31)) = z := by
  apply Int32.toBitVec_inj.mp; simp
def own_ones : List Int32 := (List.range 100).map fun i => Int32.ofNat (48 + i % 10)
def own_tens : List Int32 := (List.range 100).map fun i => Int32.ofNat (48 + i / 10)
def own_CC (Z : State) : Prop := ∃ (cs : Int32) (fm : Value) (d1 d2 : Addr) (k1 k2 : ClassId), ¬ cs = (0 : Int32) ∧ Sta Z Z.heap "java/lang/String" "COMPACT_STRINGS" "Z" (.int cs) ∧ Sta Z Z.heap "jdk/internal/util/Preconditions" "SIOOBE_FORMATTER" "Ljava/util/function/BiFunction;" fm ∧ Sta Z Z.heap "java/lang/Integer" "DigitOnes" "[B" (.ref d1) ∧ Sta Z Z.heap "java/lang/Integer" "DigitTens" "[B" (.ref d2) ∧ Arv Z Z.heap d1 k1 .byte 100 (own_v own_ones) (.int 0) ∧ Arv Z Z.heap d2 k2 .byte 100 (own_v own_tens) (.int 0) ∧ (fm = .null ∨ ∃ fa, fm = .ref fa)
theorem own_neA {Z : State} {h : Heap} {a b : Addr} {C : String} {a0 : Array Value} {k : Nat} {kk : ClassId} {ty : FieldType} {n : Int32} {vs : List Value} {d : Value} (F : Exa Z h a C) (wi : (Jvm.Cond.instantiable C k).before a0 Z = true) (G : Arv Z h b kk ty n vs d) : a ≠ b := Exa.neArv F G wi
theorem d9_0 : decode jdk_42_method_152_code 0 = .ok (.getstatic 38, 3) := by decide +kernel
theorem d9_3 : decode jdk_42_method_152_code 3 = .ok (.ifCond .eq 10, 3) := by decide +kernel
theorem d9_6 : decode jdk_42_method_152_code 6 = .ok (.aload_n 0, 1) := by decide +kernel
theorem d9_7 : decode jdk_42_method_152_code 7 = .ok (.getfield 15, 3) := by decide +kernel
theorem d9_10 : decode jdk_42_method_152_code 10 = .ok (.goto 4, 3) := by decide +kernel
theorem d9_14 : decode jdk_42_method_152_code 14 = .ok (.ireturn, 1) := by decide +kernel
theorem pn_9 : plainName "java/lang/String" = true := by first | (simp [plainName, overriddenIn]; done) | decide +kernel
theorem ef_9 (m : MethodId) (o0 : Addr) : entryFrame m #[(.ref o0)] 1 = mkF m 0 #[.val (.ref o0)] [] := by first | (simp [entryFrame, mkF, argsToLocals, Value.category]; done) | rfl
def Q9 (Z : State) (o0 : Addr) (h0 : Heap) (n0 : Nat) (v : Option Value) (h : Heap) (L : List Loc) : Prop := v = some (.int (0 : Int32)) ∧ Fr n0 L ∧ h = h0
set_option maxRecDepth 65536 in
set_option maxHeartbeats 40000000 in
theorem rm9 (l : Launch) (Z : State) (a0 : Array Value) (hw : ∀ d ∈ tables_1, d.before a0 Z = true) (ws : List Jvm.Cond) (o0 : Addr) (h0 : Heap) (n0 : Nat) (Z0 : n0 ≤ h0.size) (OLD0 : Old Z n0 h0) (Pr_0 : Fld Z h0 o0 "java/lang/String" "coder" "B" (.int (0 : Int32))) (HC : own_CC Z) :
    MetFree l (⟨"java/lang/String", "coder", "()B"⟩ : MethodName) (head1 (Jvm.Cond.code (⟨"java/lang/String", "coder", "()B"⟩ : MethodName) jdk_42_method_152_code 1 (some .byte) :: ws) ({ frames := 0, cells := 0, slots := 0, locals := 0 } : Room)) (fun a U => a = #[(.ref o0)] ∧ Z.Warmed39 U.vm ∧ U.heap = h0) (fun _ _ _ _ _ => True) (fun _ U o U' => ∃ v L, o = .returned v ∧ Q9 Z o0 h0 n0 v U'.heap L ∧ FrameEnd U o U' L ({ frames := 0, cells := 0, slots := 0, locals := 0 } : Room).cells ({ frames := 0, cells := 0, slots := 0, locals := 0 } : Room).slots) := by
  refine MetFree.of_bodySF (plainFor_of_name pn_9) hisR ?_
  intro p e s m args below meth c s₁ Bd hml0 hP hK
  obtain ⟨rfl, hZ, hh⟩ := hP
  have hx := Bd.exec
  have hby := Bd.bytes
  have hml : c.maxLocals = 1 := hml0
  have hown : s.vm.findClass "java/lang/String" = some m.cls := findClass_of_methodNamed Bd.named
  have hnm := (name_of_methodNamed Bd.named Bd.method).1
  have X0 : Stand p l e ({ frames := 0, cells := 0, slots := 0, locals := 0 } : Room) s m #[(.ref o0)] below meth c s₁ [] 0 0 := Stand.of_body Bd
  have e0 : s₁.heap = h0 := by rw [← hh, Bd.state]; rfl
  have N0 := Fr.nil n0
  obtain ⟨P, pre0, fin⟩ : ∃ P : State → Prop, (∀ t, Steps p.tables e below (s₁.setTop (mkF m 0 #[.val (.ref o0)] [])) t → P t) ∧ (∀ t, P t → Steps p.tables e below (s₁.setTop (entryFrame m #[(.ref o0)] 1)) t) := ⟨fun t => Steps p.tables e below (s₁.setTop (entryFrame m #[(.ref o0)] 1)) t, fun t k => castTop (ef_9 m o0) k, fun t k => k⟩
  have K0 : Keep h0 h0 [] := Keep.refl _ _
  obtain ⟨cs, fm, d1, d2, k1, k2, hcs, hSc, hSf, hS1, hS2, hD1, hD2, hfm⟩ := id HC
  obtain ⟨T1, X1, e1, st1⟩ := getS2 X0 hx hZ hown (host := "") (Or.inl (hi hw 69 rfl)) Via.refl e0 (hSc.ext OLD0.2) (g := (mkF m 0 #[.val (.ref o0)] [])) rfl (hb hby d9_0)
  have pre1 : ∀ t, Steps p.tables e below (T1.setTop (mkF m 3 #[.val (.ref o0)] [(.int cs)])) t → P t := fun t k => pre0 t (st1 _ k)
  have pre2 : ∀ t, Steps p.tables e below (T1.setTop (mkF m 7 #[.val (.ref o0)] [(.ref o0)])) t → P t := fun t k => pre1 t (by
      refine XS.ifNo X1.here hx rfl (hb hby d9_3) rfl ((if0 _ _).trans (feq hcs).1) ?_
      refine XS.aloadN X1.here hx rfl (hb hby d9_6) rfl rfl ?_
      exact k)
  obtain ⟨T3, X3, e3, st3⟩ := getF X1 hx hZ hown (host := "") (Or.inl (hi hw 70 rfl)) Via.refl e1 Pr_0 (g := (mkF m 7 #[.val (.ref o0)] [(.ref o0)])) rfl rfl (hb hby d9_7)
  have pre3 : ∀ t, Steps p.tables e below (T3.setTop (mkF m 10 #[.val (.ref o0)] [(.int (0 : Int32))])) t → P t := fun t k => pre2 t (st3 _ k)
  have pre4 : ∀ t, Steps p.tables e below (T3.setTop (mkF m 14 #[.val (.ref o0)] [(.int (0 : Int32))])) t → P t := fun t k => pre3 t (by
      refine XS.goto X3.here hx rfl (pc0 := 10) (pc' := 14) rfl (hb hby d9_10) (by decide) (by decide) ?_
      exact k)
  obtain ⟨fs, hr, hrun, hended, hW, hsame⟩ := X3.leave (v := some (.int (0 : Int32))) (fun h => by rw [Bd.returns] at h; cases h)
  refine ⟨_, _, fin _ (pre4 _ ?_), hrun, hended, _, _, rfl, ?_, ⟨_, rfl⟩, hW, hsame.mono (by decide) (by decide)⟩
  · show Steps p.tables e below (T3.setTop (mkF m 14 #[.val (.ref o0)] [(.int (0 : Int32))])) _
    exact retN X3 hx (t := .byte) Bd.returns (by simp) (hb hby d9_14) hr
  · show Q9 Z o0 h0 n0 _ T3.heap _
    rw [e3]
    exact ⟨rfl, N0, rfl⟩
theorem own_pd0 : parseMethodDescriptor "()B" = some ⟨[], some .byte⟩ := by decide +kernel
theorem d8_0 : decode jdk_42_method_54_code 0 = .ok (.aload_n 0, 1) := by decide +kernel
theorem d8_1 : decode jdk_42_method_54_code 1 = .ok (.getfield 9, 3) := by decide +kernel
theorem d8_4 : decode jdk_42_method_54_code 4 = .ok (.arraylength, 1) := by decide +kernel
theorem d8_5 : decode jdk_42_method_54_code 5 = .ok (.aload_n 0, 1) := by decide +kernel
theorem d8_6 : decode jdk_42_method_54_code 6 = .ok (.invokevirtual 335, 3) := by decide +kernel
theorem d8_9 : decode jdk_42_method_54_code 9 = .ok (.ishr, 1) := by decide +kernel
theorem d8_10 : decode jdk_42_method_54_code 10 = .ok (.ireturn, 1) := by decide +kernel
theorem pn_8 : plainName "java/lang/String" = true := by first | (simp [plainName, overriddenIn]; done) | decide +kernel
theorem ef_8 (m : MethodId) (o0 : Addr) : entryFrame m #[(.ref o0)] 1 = mkF m 0 #[.val (.ref o0)] [] := by first | (simp [entryFrame, mkF, argsToLocals, Value.category]; done) | rfl
def Q8 (Z : State) (o0 : Addr) (bv : Addr) (kv : ClassId) (zv : Int32) (vs : List Int32) (h0 : Heap) (n0 : Nat) (v : Option Value) (h : Heap) (L : List Loc) : Prop := v = some (.int zv) ∧ Fr n0 L ∧ h = h0
set_option maxRecDepth 65536 in
set_option maxHeartbeats 40000000 in
theorem rm8 (l : Launch) (Z : State) (a0 : Array Value) (hw : ∀ d ∈ tables_1, d.before a0 Z = true) (ws : List Jvm.Cond) (o0 : Addr) (bv : Addr) (kv : ClassId) (zv : Int32) (vs : List Int32) (h0 : Heap) (n0 : Nat) (Z0 : n0 ≤ h0.size) (OLD0 : Old Z n0 h0) (Pr_0 : Exa Z h0 o0 "java/lang/String") (Pr_1 : Fld Z h0 o0 "java/lang/String" "coder" "B" (.int (0 : Int32))) (Pr_2 : Fld Z h0 o0 "java/lang/String" "value" "[B" (.ref bv)) (Pr_3 : Arv Z h0 bv kv .byte zv (own_v vs) (.int 0)) (HC : own_CC Z) :
    MetFree l (⟨"java/lang/String", "length", "()I"⟩ : MethodName) (head1 (Jvm.Cond.code (⟨"java/lang/String", "length", "()I"⟩ : MethodName) jdk_42_method_54_code 1 (some .int) :: ws) ({ frames := 1, cells := 0, slots := 0, locals := 13 } : Room)) (fun a U => a = #[(.ref o0)] ∧ Z.Warmed39 U.vm ∧ U.heap = h0) (fun _ _ _ _ _ => True) (fun _ U o U' => ∃ v L, o = .returned v ∧ Q8 Z o0 bv kv zv vs h0 n0 v U'.heap L ∧ FrameEnd U o U' L ({ frames := 1, cells := 0, slots := 0, locals := 13 } : Room).cells ({ frames := 1, cells := 0, slots := 0, locals := 13 } : Room).slots) := by
  refine MetFree.of_bodySF (plainFor_of_name pn_8) hisR ?_
  intro p e s m args below meth c s₁ Bd hml0 hP hK
  obtain ⟨rfl, hZ, hh⟩ := hP
  have hx := Bd.exec
  have hby := Bd.bytes
  have hml : c.maxLocals = 1 := hml0
  have hown : s.vm.findClass "java/lang/String" = some m.cls := findClass_of_methodNamed Bd.named
  have hnm := (name_of_methodNamed Bd.named Bd.method).1
  have X0 : Stand p l e ({ frames := 1, cells := 0, slots := 0, locals := 13 } : Room) s m #[(.ref o0)] below meth c s₁ [] 0 0 := Stand.of_body Bd
  have e0 : s₁.heap = h0 := by rw [← hh, Bd.state]; rfl
  have N0 := Fr.nil n0
  obtain ⟨P, pre0, fin⟩ : ∃ P : State → Prop, (∀ t, Steps p.tables e below (s₁.setTop (mkF m 0 #[.val (.ref o0)] [])) t → P t) ∧ (∀ t, P t → Steps p.tables e below (s₁.setTop (entryFrame m #[(.ref o0)] 1)) t) := ⟨fun t => Steps p.tables e below (s₁.setTop (entryFrame m #[(.ref o0)] 1)) t, fun t k => castTop (ef_8 m o0) k, fun t k => k⟩
  have K0 : Keep h0 h0 [] := Keep.refl _ _
  have pre1 : ∀ t, Steps p.tables e below (s₁.setTop (mkF m 1 #[.val (.ref o0)] [(.ref o0)])) t → P t := fun t k => pre0 t (by
      refine XS.aloadN X0.here hx rfl (hb hby d8_0) rfl rfl ?_
      exact k)
  obtain ⟨T2, X2, e2, st2⟩ := getF X0 hx hZ hown (host := "") (Or.inl (hi hw 63 rfl)) Via.refl e0 Pr_2 (g := (mkF m 1 #[.val (.ref o0)] [(.ref o0)])) rfl rfl (hb hby d8_1)
  have pre2 : ∀ t, Steps p.tables e below (T2.setTop (mkF m 4 #[.val (.ref o0)] [(.ref bv)])) t → P t := fun t k => pre1 t (st2 _ k)
  obtain ⟨clq3, Arq3, -, Sq3, Nq3', -, -⟩ := id Pr_3
  have pre4 : ∀ t, Steps p.tables e below (T2.setTop (mkF m 6 #[.val (.ref o0)] [(.ref o0), (.int zv)])) t → P t := fun t k => pre2 t (by
      refine X2.arraylength hx (by rw [e2]; exact Arq3.1) (State.isArrayOf_alike hZ.alike Arq3.2.1) (g := (mkF m 4 #[.val (.ref o0)] [(.ref bv)])) rfl rfl (hb hby d8_4) _ ?_
      rw [len_of Sq3 Nq3']
      refine XS.aloadN X2.here hx rfl (hb hby d8_5) rfl rfl ?_
      exact k)
  obtain ⟨cq5, kq5, q5a, q5b, q5c⟩ := isOf hZ e2 Pr_0
  obtain ⟨_, _, ⟨T5, L5, k5, n5⟩, -, X5, ⟨Lc5, hQ5, l5, y5, z5⟩, st5⟩ := X2.virtualBack hx (y := (⟨"java/lang/String", "coder", "()B"⟩ : MethodName)) (z := (⟨"java/lang/String", "coder", "()B"⟩ : MethodName)) hown (mvT hZ (hi hw 64 rfl)) (mvT hZ (hi hw 65 rfl)) (notFace_of_selects (args := #[]) (mvT hZ (hi hw 67 rfl))) (mvT hZ (hi hw 67 rfl)) (mvT hZ (hi hw 66 rfl)) (by decide) (backOf (W := 1) (rm9 l Z a0 hw [] o0 h0 n0 Z0 OLD0 Pr_1 HC) hZ (hi hw 68 rfl) (hi hw 36 rfl) (by decide) (by decide)) q5a q5c (g := (mkF m 6 #[.val (.ref o0)] [(.ref o0), (.int zv)])) rfl (by rw [hml]; rfl) (Steps.refl _) (argsL := []) (rest := [(.int zv)]) (lenOf own_pd0 rfl) rfl (by show 2 * 0 + _ ≤ _; exact Nat.le_of_eq rfl) (hb hby d8_6) (fun _ _ => ⟨rfl, e2, (by decide : 0 + 0 ≤ _), (by decide : 0 + 0 ≤ _)⟩)
  dsimp only [Pt.U, Pt.locs, Pt.cells, Pt.slots] at X5 l5 y5 z5 st5 hQ5
  subst l5 y5 z5
  obtain ⟨rfl, N5q, e5⟩ := hQ5
  have N5 := Fr.app N0 N5q
  have pre5 : ∀ t, Steps p.tables e below (T5.setTop (mkF m 9 #[.val (.ref o0)] [(.int (0 : Int32)), (.int zv)])) t → P t := fun t k => pre4 t (st5.trans k)
  have pre6 : ∀ t, Steps p.tables e below (T5.setTop (mkF m 10 #[.val (.ref o0)] [(.int (zv >>> ((0 : Int32) &&& 31)))])) t → P t := fun t k => pre5 t (by
      refine XS.ishr X5.here hx rfl (hb hby d8_9) rfl ?_
      exact k)
  obtain ⟨v7, hv7⟩ : ∃ z : Int32, z = (zv >>> ((0 : Int32) &&& 31)) := ⟨_, rfl⟩
  have pre8 : ∀ t, Steps p.tables e below (T5.setTop (mkF m 10 #[.val (.ref o0)] [(.int v7)])) t → P t := fun t k => pre6 t (by rw [hv7] at k; exact k)
  have pre9 : ∀ t, Steps p.tables e below (T5.setTop (mkF m 10 #[.val (.ref o0)] [(.int zv)])) t → P t := fun t k => pre8 t (by rw [(hv7.trans (own_shr0 _))]; exact k)
  obtain ⟨fs, hr, hrun, hended, hW, hsame⟩ := X5.leave (v := some (.int zv)) (fun h => by rw [Bd.returns] at h; cases h)
  refine ⟨_, _, fin _ (pre9 _ ?_), hrun, hended, _, _, rfl, ?_, ⟨_, rfl⟩, hW, hsame.mono (by decide) (by decide)⟩
  · show Steps p.tables e below (T5.setTop (mkF m 10 #[.val (.ref o0)] [(.int zv)])) _
    exact retI X5 hx Bd.returns (hb hby d8_10) hr
  · show Q8 Z o0 bv kv zv vs h0 n0 _ T5.heap _
    rw [e5]
    exact ⟨rfl, N5, rfl⟩
theorem d36_0 : decode jdk_42_method_154_code 0 = .ok (.getstatic 38, 3) := by decide +kernel
theorem d36_3 : decode jdk_42_method_154_code 3 = .ok (.ifCond .eq 14, 3) := by decide +kernel
theorem d36_6 : decode jdk_42_method_154_code 6 = .ok (.aload_n 0, 1) := by decide +kernel
theorem d36_7 : decode jdk_42_method_154_code 7 = .ok (.getfield 15, 3) := by decide +kernel
theorem d36_10 : decode jdk_42_method_154_code 10 = .ok (.ifCond .ne 7, 3) := by decide +kernel
theorem d36_13 : decode jdk_42_method_154_code 13 = .ok (.iconst 1, 1) := by decide +kernel
theorem d36_14 : decode jdk_42_method_154_code 14 = .ok (.goto 4, 3) := by decide +kernel
theorem d36_18 : decode jdk_42_method_154_code 18 = .ok (.ireturn, 1) := by decide +kernel
theorem pn_36 : plainName "java/lang/String" = true := by first | (simp [plainName, overriddenIn]; done) | decide +kernel
theorem ef_36 (m : MethodId) (o0 : Addr) : entryFrame m #[(.ref o0)] 1 = mkF m 0 #[.val (.ref o0)] [] := by first | (simp [entryFrame, mkF, argsToLocals, Value.category]; done) | rfl
def Q36 (Z : State) (o0 : Addr) (h0 : Heap) (n0 : Nat) (v : Option Value) (h : Heap) (L : List Loc) : Prop := v = some (.int (1 : Int32)) ∧ Fr n0 L ∧ h = h0
set_option maxRecDepth 65536 in
set_option maxHeartbeats 40000000 in
theorem rm36 (l : Launch) (Z : State) (a0 : Array Value) (hw : ∀ d ∈ tables_1, d.before a0 Z = true) (ws : List Jvm.Cond) (o0 : Addr) (h0 : Heap) (n0 : Nat) (Z0 : n0 ≤ h0.size) (OLD0 : Old Z n0 h0) (Pr_0 : Fld Z h0 o0 "java/lang/String" "coder" "B" (.int (0 : Int32))) (HC : own_CC Z) :
    MetFree l (⟨"java/lang/String", "isLatin1", "()Z"⟩ : MethodName) (head1 (Jvm.Cond.code (⟨"java/lang/String", "isLatin1", "()Z"⟩ : MethodName) jdk_42_method_154_code 1 (some .boolean) :: ws) ({ frames := 0, cells := 0, slots := 0, locals := 0 } : Room)) (fun a U => a = #[(.ref o0)] ∧ Z.Warmed39 U.vm ∧ U.heap = h0) (fun _ _ _ _ _ => True) (fun _ U o U' => ∃ v L, o = .returned v ∧ Q36 Z o0 h0 n0 v U'.heap L ∧ FrameEnd U o U' L ({ frames := 0, cells := 0, slots := 0, locals := 0 } : Room).cells ({ frames := 0, cells := 0, slots := 0, locals := 0 } : Room).slots) := by
  refine MetFree.of_bodySF (plainFor_of_name pn_36) hisR ?_
  intro p e s m args below meth c s₁ Bd hml0 hP hK
  obtain ⟨rfl, hZ, hh⟩ := hP
  have hx := Bd.exec
  have hby := Bd.bytes
  have hml : c.maxLocals = 1 := hml0
  have hown : s.vm.findClass "java/lang/String" = some m.cls := findClass_of_methodNamed Bd.named
  have hnm := (name_of_methodNamed Bd.named Bd.method).1
  have X0 : Stand p l e ({ frames := 0, cells := 0, slots := 0, locals := 0 } : Room) s m #[(.ref o0)] below meth c s₁ [] 0 0 := Stand.of_body Bd
  have e0 : s₁.heap = h0 := by rw [← hh, Bd.state]; rfl
  have N0 := Fr.nil n0
  obtain ⟨P, pre0, fin⟩ : ∃ P : State → Prop, (∀ t, Steps p.tables e below (s₁.setTop (mkF m 0 #[.val (.ref o0)] [])) t → P t) ∧ (∀ t, P t → Steps p.tables e below (s₁.setTop (entryFrame m #[(.ref o0)] 1)) t) := ⟨fun t => Steps p.tables e below (s₁.setTop (entryFrame m #[(.ref o0)] 1)) t, fun t k => castTop (ef_36 m o0) k, fun t k => k⟩
  have K0 : Keep h0 h0 [] := Keep.refl _ _
  obtain ⟨cs, fm, d1, d2, k1, k2, hcs, hSc, hSf, hS1, hS2, hD1, hD2, hfm⟩ := id HC
  obtain ⟨T1, X1, e1, st1⟩ := getS2 X0 hx hZ hown (host := "") (Or.inl (hi hw 69 rfl)) Via.refl e0 (hSc.ext OLD0.2) (g := (mkF m 0 #[.val (.ref o0)] [])) rfl (hb hby d36_0)
  have pre1 : ∀ t, Steps p.tables e below (T1.setTop (mkF m 3 #[.val (.ref o0)] [(.int cs)])) t → P t := fun t k => pre0 t (st1 _ k)
  have pre2 : ∀ t, Steps p.tables e below (T1.setTop (mkF m 7 #[.val (.ref o0)] [(.ref o0)])) t → P t := fun t k => pre1 t (by
      refine XS.ifNo X1.here hx rfl (hb hby d36_3) rfl ((if0 _ _).trans (feq hcs).1) ?_
      refine XS.aloadN X1.here hx rfl (hb hby d36_6) rfl rfl ?_
      exact k)
  obtain ⟨T3, X3, e3, st3⟩ := getF X1 hx hZ hown (host := "") (Or.inl (hi hw 70 rfl)) Via.refl e1 Pr_0 (g := (mkF m 7 #[.val (.ref o0)] [(.ref o0)])) rfl rfl (hb hby d36_7)
  have pre3 : ∀ t, Steps p.tables e below (T3.setTop (mkF m 10 #[.val (.ref o0)] [(.int (0 : Int32))])) t → P t := fun t k => pre2 t (st3 _ k)
  have pre4 : ∀ t, Steps p.tables e below (T3.setTop (mkF m 18 #[.val (.ref o0)] [(.int (1 : Int32))])) t → P t := fun t k => pre3 t (by
      refine XS.ifNo X3.here hx rfl (hb hby d36_10) rfl ((if0 _ _).trans (teq (rfl : (0 : Int32) = (0 : Int32))).2) ?_
      refine XS.iconst X3.here hx rfl (hb hby d36_13) ?_
      refine XS.goto X3.here hx rfl (pc0 := 14) (pc' := 18) rfl (hb hby d36_14) (by decide) (by decide) ?_
      exact k)
  obtain ⟨fs, hr, hrun, hended, hW, hsame⟩ := X3.leave (v := some (.int (1 : Int32))) (fun h => by rw [Bd.returns] at h; cases h)
  refine ⟨_, _, fin _ (pre4 _ ?_), hrun, hended, _, _, rfl, ?_, ⟨_, rfl⟩, hW, hsame.mono (by decide) (by decide)⟩
  · show Steps p.tables e below (T3.setTop (mkF m 18 #[.val (.ref o0)] [(.int (1 : Int32))])) _
    exact retN X3 hx (t := .boolean) Bd.returns (by simp) (hb hby d36_18) hr
  · show Q36 Z o0 h0 n0 _ T3.heap _
    rw [e3]
    exact ⟨rfl, N0, rfl⟩
theorem d17_0 : decode jdk_68_method_68_code 0 = .ok (.getstatic 18, 3) := by decide +kernel
theorem d17_3 : decode jdk_68_method_68_code 3 = .ok (.ifCond .eq 14, 3) := by decide +kernel
theorem d17_6 : decode jdk_68_method_68_code 6 = .ok (.aload_n 0, 1) := by decide +kernel
theorem d17_7 : decode jdk_68_method_68_code 7 = .ok (.getfield 22, 3) := by decide +kernel
theorem d17_10 : decode jdk_68_method_68_code 10 = .ok (.ifCond .ne 7, 3) := by decide +kernel
theorem d17_13 : decode jdk_68_method_68_code 13 = .ok (.iconst 1, 1) := by decide +kernel
theorem d17_14 : decode jdk_68_method_68_code 14 = .ok (.goto 4, 3) := by decide +kernel
theorem d17_18 : decode jdk_68_method_68_code 18 = .ok (.ireturn, 1) := by decide +kernel
theorem pn_17 : plainName "java/lang/AbstractStringBuilder" = true := by first | (simp [plainName, overriddenIn]; done) | decide +kernel
theorem ef_17 (m : MethodId) (o0 : Addr) : entryFrame m #[(.ref o0)] 1 = mkF m 0 #[.val (.ref o0)] [] := by first | (simp [entryFrame, mkF, argsToLocals, Value.category]; done) | rfl
def Q17 (Z : State) (o0 : Addr) (h0 : Heap) (n0 : Nat) (v : Option Value) (h : Heap) (L : List Loc) : Prop := v = some (.int (1 : Int32)) ∧ Fr n0 L ∧ h = h0
set_option maxRecDepth 65536 in
set_option maxHeartbeats 40000000 in
theorem rm17 (l : Launch) (Z : State) (a0 : Array Value) (hw : ∀ d ∈ tables_1, d.before a0 Z = true) (ws : List Jvm.Cond) (o0 : Addr) (h0 : Heap) (n0 : Nat) (Z0 : n0 ≤ h0.size) (OLD0 : Old Z n0 h0) (Pr_0 : Fld Z h0 o0 "java/lang/AbstractStringBuilder" "coder" "B" (.int (0 : Int32))) (HC : own_CC Z) :
    MetFree l (⟨"java/lang/AbstractStringBuilder", "isLatin1", "()Z"⟩ : MethodName) (head1 (Jvm.Cond.code (⟨"java/lang/AbstractStringBuilder", "isLatin1", "()Z"⟩ : MethodName) jdk_68_method_68_code 1 (some .boolean) :: ws) ({ frames := 0, cells := 0, slots := 0, locals := 0 } : Room)) (fun a U => a = #[(.ref o0)] ∧ Z.Warmed39 U.vm ∧ U.heap = h0) (fun _ _ _ _ _ => True) (fun _ U o U' => ∃ v L, o = .returned v ∧ Q17 Z o0 h0 n0 v U'.heap L ∧ FrameEnd U o U' L ({ frames := 0, cells := 0, slots := 0, locals := 0 } : Room).cells ({ frames := 0, cells := 0, slots := 0, locals := 0 } : Room).slots) := by
  refine MetFree.of_bodySF (plainFor_of_name pn_17) hisR ?_
  intro p e s m args below meth c s₁ Bd hml0 hP hK
  obtain ⟨rfl, hZ, hh⟩ := hP
  have hx := Bd.exec
  have hby := Bd.bytes
  have hml : c.maxLocals = 1 := hml0
  have hown : s.vm.findClass "java/lang/AbstractStringBuilder" = some m.cls := findClass_of_methodNamed Bd.named
  have hnm := (name_of_methodNamed Bd.named Bd.method).1
  have X0 : Stand p l e ({ frames := 0, cells := 0, slots := 0, locals := 0 } : Room) s m #[(.ref o0)] below meth c s₁ [] 0 0 := Stand.of_body Bd
  have e0 : s₁.heap = h0 := by rw [← hh, Bd.state]; rfl
  have N0 := Fr.nil n0
  obtain ⟨P, pre0, fin⟩ : ∃ P : State → Prop, (∀ t, Steps p.tables e below (s₁.setTop (mkF m 0 #[.val (.ref o0)] [])) t → P t) ∧ (∀ t, P t → Steps p.tables e below (s₁.setTop (entryFrame m #[(.ref o0)] 1)) t) := ⟨fun t => Steps p.tables e below (s₁.setTop (entryFrame m #[(.ref o0)] 1)) t, fun t k => castTop (ef_17 m o0) k, fun t k => k⟩
  have K0 : Keep h0 h0 [] := Keep.refl _ _
  obtain ⟨cs, fm, d1, d2, k1, k2, hcs, hSc, hSf, hS1, hS2, hD1, hD2, hfm⟩ := id HC
  obtain ⟨T1, X1, e1, st1⟩ := getS2 X0 hx hZ hown (host := "") (Or.inl (hi hw 35 rfl)) Via.refl e0 (hSc.ext OLD0.2) (g := (mkF m 0 #[.val (.ref o0)] [])) rfl (hb hby d17_0)
  have pre1 : ∀ t, Steps p.tables e below (T1.setTop (mkF m 3 #[.val (.ref o0)] [(.int cs)])) t → P t := fun t k => pre0 t (st1 _ k)
  have pre2 : ∀ t, Steps p.tables e below (T1.setTop (mkF m 7 #[.val (.ref o0)] [(.ref o0)])) t → P t := fun t k => pre1 t (by
      refine XS.ifNo X1.here hx rfl (hb hby d17_3) rfl ((if0 _ _).trans (feq hcs).1) ?_
      refine XS.aloadN X1.here hx rfl (hb hby d17_6) rfl rfl ?_
      exact k)
  obtain ⟨T3, X3, e3, st3⟩ := getF X1 hx hZ hown (host := "") (Or.inl (hi hw 40 rfl)) Via.refl e1 Pr_0 (g := (mkF m 7 #[.val (.ref o0)] [(.ref o0)])) rfl rfl (hb hby d17_7)
  have pre3 : ∀ t, Steps p.tables e below (T3.setTop (mkF m 10 #[.val (.ref o0)] [(.int (0 : Int32))])) t → P t := fun t k => pre2 t (st3 _ k)
  have pre4 : ∀ t, Steps p.tables e below (T3.setTop (mkF m 18 #[.val (.ref o0)] [(.int (1 : Int32))])) t → P t := fun t k => pre3 t (by
      refine XS.ifNo X3.here hx rfl (hb hby d17_10) rfl ((if0 _ _).trans (teq (rfl : (0 : Int32) = (0 : Int32))).2) ?_
      refine XS.iconst X3.here hx rfl (hb hby d17_13) ?_
      refine XS.goto X3.here hx rfl (pc0 := 14) (pc' := 18) rfl (hb hby d17_14) (by decide) (by decide) ?_
      exact k)
  obtain ⟨fs, hr, hrun, hended, hW, hsame⟩ := X3.leave (v := some (.int (1 : Int32))) (fun h => by rw [Bd.returns] at h; cases h)
  refine ⟨_, _, fin _ (pre4 _ ?_), hrun, hended, _, _, rfl, ?_, ⟨_, rfl⟩, hW, hsame.mono (by decide) (by decide)⟩
  · show Steps p.tables e below (T3.setTop (mkF m 18 #[.val (.ref o0)] [(.int (1 : Int32))])) _
    exact retN X3 hx (t := .boolean) Bd.returns (by simp) (hb hby d17_18) hr
  · show Q17 Z o0 h0 n0 _ T3.heap _
    rw [e3]
    exact ⟨rfl, N0, rfl⟩
theorem d27_0 : decode jdk_68_method_64_code 0 = .ok (.aload_n 0, 1) := by decide +kernel
theorem d27_1 : decode jdk_68_method_64_code 1 = .ok (.getfield 15, 3) := by decide +kernel
theorem d27_4 : decode jdk_68_method_64_code 4 = .ok (.areturn, 1) := by decide +kernel
theorem pn_27 : plainName "java/lang/AbstractStringBuilder" = true := by first | (simp [plainName, overriddenIn]; done) | decide +kernel
theorem ef_27 (m : MethodId) (o0 : Addr) : entryFrame m #[(.ref o0)] 1 = mkF m 0 #[.val (.ref o0)] [] := by first | (simp [entryFrame, mkF, argsToLocals, Value.category]; done) | rfl
def Q27 (Z : State) (o0 : Addr) (bv : Addr) (h0 : Heap) (n0 : Nat) (v : Option Value) (h : Heap) (L : List Loc) : Prop := v = some (.ref bv) ∧ Fr n0 L ∧ h = h0
set_option maxRecDepth 65536 in
set_option maxHeartbeats 40000000 in
theorem rm27 (l : Launch) (Z : State) (a0 : Array Value) (hw : ∀ d ∈ tables_1, d.before a0 Z = true) (ws : List Jvm.Cond) (o0 : Addr) (bv : Addr) (h0 : Heap) (n0 : Nat) (Z0 : n0 ≤ h0.size) (Pr_0 : Fld Z h0 o0 "java/lang/AbstractStringBuilder" "value" "[B" (.ref bv)) :
    MetFree l (⟨"java/lang/AbstractStringBuilder", "getValue", "()[B"⟩ : MethodName) (head1 (Jvm.Cond.code (⟨"java/lang/AbstractStringBuilder", "getValue", "()[B"⟩ : MethodName) jdk_68_method_64_code 1 (some (.array .byte)) :: ws) ({ frames := 0, cells := 0, slots := 0, locals := 0 } : Room)) (fun a U => a = #[(.ref o0)] ∧ Z.Warmed39 U.vm ∧ U.heap = h0) (fun _ _ _ _ _ => True) (fun _ U o U' => ∃ v L, o = .returned v ∧ Q27 Z o0 bv h0 n0 v U'.heap L ∧ FrameEnd U o U' L ({ frames := 0, cells := 0, slots := 0, locals := 0 } : Room).cells ({ frames := 0, cells := 0, slots := 0, locals := 0 } : Room).slots) := by
  refine MetFree.of_bodySF (plainFor_of_name pn_27) hisR ?_
  intro p e s m args below meth c s₁ Bd hml0 hP hK
  obtain ⟨rfl, hZ, hh⟩ := hP
  have hx := Bd.exec
  have hby := Bd.bytes
  have hml : c.maxLocals = 1 := hml0
  have hown : s.vm.findClass "java/lang/AbstractStringBuilder" = some m.cls := findClass_of_methodNamed Bd.named
  have hnm := (name_of_methodNamed Bd.named Bd.method).1
  have X0 : Stand p l e ({ frames := 0, cells := 0, slots := 0, locals := 0 } : Room) s m #[(.ref o0)] below meth c s₁ [] 0 0 := Stand.of_body Bd
  have e0 : s₁.heap = h0 := by rw [← hh, Bd.state]; rfl
  have N0 := Fr.nil n0
  obtain ⟨P, pre0, fin⟩ : ∃ P : State → Prop, (∀ t, Steps p.tables e below (s₁.setTop (mkF m 0 #[.val (.ref o0)] [])) t → P t) ∧ (∀ t, P t → Steps p.tables e below (s₁.setTop (entryFrame m #[(.ref o0)] 1)) t) := ⟨fun t => Steps p.tables e below (s₁.setTop (entryFrame m #[(.ref o0)] 1)) t, fun t k => castTop (ef_27 m o0) k, fun t k => k⟩
  have K0 : Keep h0 h0 [] := Keep.refl _ _
  have pre1 : ∀ t, Steps p.tables e below (s₁.setTop (mkF m 1 #[.val (.ref o0)] [(.ref o0)])) t → P t := fun t k => pre0 t (by
      refine XS.aloadN X0.here hx rfl (hb hby d27_0) rfl rfl ?_
      exact k)
  obtain ⟨T2, X2, e2, st2⟩ := getF X0 hx hZ hown (host := "") (Or.inl (hi hw 38 rfl)) Via.refl e0 Pr_0 (g := (mkF m 1 #[.val (.ref o0)] [(.ref o0)])) rfl rfl (hb hby d27_1)
  have pre2 : ∀ t, Steps p.tables e below (T2.setTop (mkF m 4 #[.val (.ref o0)] [(.ref bv)])) t → P t := fun t k => pre1 t (st2 _ k)
  obtain ⟨fs, hr, hrun, hended, hW, hsame⟩ := X2.leave (v := some (.ref bv)) (fun h => by rw [Bd.returns] at h; cases h)
  refine ⟨_, _, fin _ (pre2 _ ?_), hrun, hended, _, _, rfl, ?_, ⟨_, rfl⟩, hW, hsame.mono (by decide) (by decide)⟩
  · show Steps p.tables e below (T2.setTop (mkF m 4 #[.val (.ref o0)] [(.ref bv)])) _
    jvm_step X2.here [X2.here.top, hx, (hb hby d27_4), X2.method', Bd.returns, Value.isRef, FieldType.isReference]
    first | (intro acts; rw [hr _ acts rfl rfl rfl]) | rw [hr _ _ rfl rfl rfl]
    exact Steps.refl _
  · show Q27 Z o0 bv h0 n0 _ T2.heap _
    rw [e2]
    exact ⟨rfl, N0, rfl⟩
theorem d29_0 : decode jdk_68_method_6_code 0 = .ok (.aload_n 0, 1) := by decide +kernel
theorem d29_1 : decode jdk_68_method_6_code 1 = .ok (.getfield 79, 3) := by decide +kernel
theorem d29_4 : decode jdk_68_method_6_code 4 = .ok (.ireturn, 1) := by decide +kernel
theorem pn_29 : plainName "java/lang/AbstractStringBuilder" = true := by first | (simp [plainName, overriddenIn]; done) | decide +kernel
theorem ef_29 (m : MethodId) (o0 : Addr) : entryFrame m #[(.ref o0)] 1 = mkF m 0 #[.val (.ref o0)] [] := by first | (simp [entryFrame, mkF, argsToLocals, Value.category]; done) | rfl
def Q29 (Z : State) (o0 : Addr) (nv : Int32) (h0 : Heap) (n0 : Nat) (v : Option Value) (h : Heap) (L : List Loc) : Prop := v = some (.int nv) ∧ Fr n0 L ∧ h = h0
set_option maxRecDepth 65536 in
set_option maxHeartbeats 40000000 in
theorem rm29 (l : Launch) (Z : State) (a0 : Array Value) (hw : ∀ d ∈ tables_1, d.before a0 Z = true) (ws : List Jvm.Cond) (o0 : Addr) (nv : Int32) (h0 : Heap) (n0 : Nat) (Z0 : n0 ≤ h0.size) (Pr_0 : Fld Z h0 o0 "java/lang/AbstractStringBuilder" "count" "I" (.int nv)) :
    MetFree l (⟨"java/lang/AbstractStringBuilder", "length", "()I"⟩ : MethodName) (head1 (Jvm.Cond.code (⟨"java/lang/AbstractStringBuilder", "length", "()I"⟩ : MethodName) jdk_68_method_6_code 1 (some .int) :: ws) ({ frames := 0, cells := 0, slots := 0, locals := 0 } : Room)) (fun a U => a = #[(.ref o0)] ∧ Z.Warmed39 U.vm ∧ U.heap = h0) (fun _ _ _ _ _ => True) (fun _ U o U' => ∃ v L, o = .returned v ∧ Q29 Z o0 nv h0 n0 v U'.heap L ∧ FrameEnd U o U' L ({ frames := 0, cells := 0, slots := 0, locals := 0 } : Room).cells ({ frames := 0, cells := 0, slots := 0, locals := 0 } : Room).slots) := by
  refine MetFree.of_bodySF (plainFor_of_name pn_29) hisR ?_
  intro p e s m args below meth c s₁ Bd hml0 hP hK
  obtain ⟨rfl, hZ, hh⟩ := hP
  have hx := Bd.exec
  have hby := Bd.bytes
  have hml : c.maxLocals = 1 := hml0
  have hown : s.vm.findClass "java/lang/AbstractStringBuilder" = some m.cls := findClass_of_methodNamed Bd.named
  have hnm := (name_of_methodNamed Bd.named Bd.method).1
  have X0 : Stand p l e ({ frames := 0, cells := 0, slots := 0, locals := 0 } : Room) s m #[(.ref o0)] below meth c s₁ [] 0 0 := Stand.of_body Bd
  have e0 : s₁.heap = h0 := by rw [← hh, Bd.state]; rfl
  have N0 := Fr.nil n0
  obtain ⟨P, pre0, fin⟩ : ∃ P : State → Prop, (∀ t, Steps p.tables e below (s₁.setTop (mkF m 0 #[.val (.ref o0)] [])) t → P t) ∧ (∀ t, P t → Steps p.tables e below (s₁.setTop (entryFrame m #[(.ref o0)] 1)) t) := ⟨fun t => Steps p.tables e below (s₁.setTop (entryFrame m #[(.ref o0)] 1)) t, fun t k => castTop (ef_29 m o0) k, fun t k => k⟩
  have K0 : Keep h0 h0 [] := Keep.refl _ _
  have pre1 : ∀ t, Steps p.tables e below (s₁.setTop (mkF m 1 #[.val (.ref o0)] [(.ref o0)])) t → P t := fun t k => pre0 t (by
      refine XS.aloadN X0.here hx rfl (hb hby d29_0) rfl rfl ?_
      exact k)
  obtain ⟨T2, X2, e2, st2⟩ := getF X0 hx hZ hown (host := "") (Or.inl (hi hw 71 rfl)) Via.refl e0 Pr_0 (g := (mkF m 1 #[.val (.ref o0)] [(.ref o0)])) rfl rfl (hb hby d29_1)
  have pre2 : ∀ t, Steps p.tables e below (T2.setTop (mkF m 4 #[.val (.ref o0)] [(.int nv)])) t → P t := fun t k => pre1 t (st2 _ k)
  obtain ⟨fs, hr, hrun, hended, hW, hsame⟩ := X2.leave (v := some (.int nv)) (fun h => by rw [Bd.returns] at h; cases h)
  refine ⟨_, _, fin _ (pre2 _ ?_), hrun, hended, _, _, rfl, ?_, ⟨_, rfl⟩, hW, hsame.mono (by decide) (by decide)⟩
  · show Steps p.tables e below (T2.setTop (mkF m 4 #[.val (.ref o0)] [(.int nv)])) _
    exact retI X2 hx Bd.returns (hb hby d29_4) hr
  · show Q29 Z o0 nv h0 n0 _ T2.heap _
    rw [e2]
    exact ⟨rfl, N0, rfl⟩
theorem own_pd1 : parseMethodDescriptor "()I" = some ⟨[], some .int⟩ := by decide +kernel
theorem d28_0 : decode jdk_67_method_93_code 0 = .ok (.aload_n 0, 1) := by decide +kernel
theorem d28_1 : decode jdk_67_method_93_code 1 = .ok (.invokespecial 343, 3) := by decide +kernel
theorem d28_4 : decode jdk_67_method_93_code 4 = .ok (.ireturn, 1) := by decide +kernel
theorem pn_28 : plainName "java/lang/StringBuilder" = true := by first | (simp [plainName, overriddenIn]; done) | decide +kernel
theorem ef_28 (m : MethodId) (o0 : Addr) : entryFrame m #[(.ref o0)] 1 = mkF m 0 #[.val (.ref o0)] [] := by first | (simp [entryFrame, mkF, argsToLocals, Value.category]; done) | rfl
def Q28 (Z : State) (o0 : Addr) (nv : Int32) (h0 : Heap) (n0 : Nat) (v : Option Value) (h : Heap) (L : List Loc) : Prop := v = some (.int nv) ∧ Fr n0 L ∧ h = h0
set_option maxRecDepth 65536 in
set_option maxHeartbeats 40000000 in
theorem rm28 (l : Launch) (Z : State) (a0 : Array Value) (hw : ∀ d ∈ tables_1, d.before a0 Z = true) (ws : List Jvm.Cond) (o0 : Addr) (nv : Int32) (h0 : Heap) (n0 : Nat) (Z0 : n0 ≤ h0.size) (Pr_0 : Exa Z h0 o0 "java/lang/StringBuilder") (Pr_1 : Fld Z h0 o0 "java/lang/AbstractStringBuilder" "count" "I" (.int nv)) :
    MetFree l (⟨"java/lang/StringBuilder", "length", "()I"⟩ : MethodName) (head1 (Jvm.Cond.code (⟨"java/lang/StringBuilder", "length", "()I"⟩ : MethodName) jdk_67_method_93_code 1 (some .int) :: ws) ({ frames := 1, cells := 0, slots := 0, locals := 12 } : Room)) (fun a U => a = #[(.ref o0)] ∧ Z.Warmed39 U.vm ∧ U.heap = h0) (fun _ _ _ _ _ => True) (fun _ U o U' => ∃ v L, o = .returned v ∧ Q28 Z o0 nv h0 n0 v U'.heap L ∧ FrameEnd U o U' L ({ frames := 1, cells := 0, slots := 0, locals := 12 } : Room).cells ({ frames := 1, cells := 0, slots := 0, locals := 12 } : Room).slots) := by
  refine MetFree.of_bodySF (plainFor_of_name pn_28) hisR ?_
  intro p e s m args below meth c s₁ Bd hml0 hP hK
  obtain ⟨rfl, hZ, hh⟩ := hP
  have hx := Bd.exec
  have hby := Bd.bytes
  have hml : c.maxLocals = 1 := hml0
  have hown : s.vm.findClass "java/lang/StringBuilder" = some m.cls := findClass_of_methodNamed Bd.named
  have hnm := (name_of_methodNamed Bd.named Bd.method).1
  have X0 : Stand p l e ({ frames := 1, cells := 0, slots := 0, locals := 12 } : Room) s m #[(.ref o0)] below meth c s₁ [] 0 0 := Stand.of_body Bd
  have e0 : s₁.heap = h0 := by rw [← hh, Bd.state]; rfl
  have N0 := Fr.nil n0
  obtain ⟨P, pre0, fin⟩ : ∃ P : State → Prop, (∀ t, Steps p.tables e below (s₁.setTop (mkF m 0 #[.val (.ref o0)] [])) t → P t) ∧ (∀ t, P t → Steps p.tables e below (s₁.setTop (entryFrame m #[(.ref o0)] 1)) t) := ⟨fun t => Steps p.tables e below (s₁.setTop (entryFrame m #[(.ref o0)] 1)) t, fun t k => castTop (ef_28 m o0) k, fun t k => k⟩
  have K0 : Keep h0 h0 [] := Keep.refl _ _
  have pre1 : ∀ t, Steps p.tables e below (s₁.setTop (mkF m 1 #[.val (.ref o0)] [(.ref o0)])) t → P t := fun t k => pre0 t (by
      refine XS.aloadN X0.here hx rfl (hb hby d28_0) rfl rfl ?_
      exact k)
  obtain ⟨_, _, ⟨T2, L2, k2, n2⟩, -, X2, ⟨Lc2, hQ2, l2, y2, z2⟩, st2⟩ := superBack X0 hx hZ (y := (⟨"java/lang/AbstractStringBuilder", "length", "()I"⟩ : MethodName)) hown (hi hw 177 rfl) (own_same (hi hw 115 rfl) (hi hw 178 rfl) rfl (by decide)) (hi hw 173 rfl) (hi hw 55 rfl) (by decide) (backOf (W := 0) (rm29 l Z a0 hw [] o0 nv h0 n0 Z0 Pr_1) hZ (hi hw 178 rfl) (hi hw 32 rfl) (by decide) (by decide)) e0 (Ins.self Pr_0) (g := (mkF m 1 #[.val (.ref o0)] [(.ref o0)])) rfl (by rw [hml]; rfl) (hi hw 178 rfl) (argsL := []) (rest := []) (lenOf own_pd1 rfl) rfl (by show 2 * 0 + _ ≤ _; exact Nat.le_of_eq rfl) (hb hby d28_1) (fun _ _ => ⟨rfl, e0, (by decide : 0 + 0 ≤ _), (by decide : 0 + 0 ≤ _)⟩)
  dsimp only [Pt.U, Pt.locs, Pt.cells, Pt.slots] at X2 l2 y2 z2 st2 hQ2
  subst l2 y2 z2
  obtain ⟨rfl, N2q, e2⟩ := hQ2
  have N2 := Fr.app N0 N2q
  have pre2 : ∀ t, Steps p.tables e below (T2.setTop (mkF m 4 #[.val (.ref o0)] [(.int nv)])) t → P t := fun t k => pre1 t (st2.trans k)
  obtain ⟨fs, hr, hrun, hended, hW, hsame⟩ := X2.leave (v := some (.int nv)) (fun h => by rw [Bd.returns] at h; cases h)
  refine ⟨_, _, fin _ (pre2 _ ?_), hrun, hended, _, _, rfl, ?_, ⟨_, rfl⟩, hW, hsame.mono (by decide) (by decide)⟩
  · show Steps p.tables e below (T2.setTop (mkF m 4 #[.val (.ref o0)] [(.int nv)])) _
    exact retI X2 hx Bd.returns (hb hby d28_4) hr
  · show Q28 Z o0 nv h0 n0 _ T2.heap _
    rw [e2]
    exact ⟨rfl, N2, rfl⟩
theorem d21_0 : decode jdk_29_method_65_code 0 = .ok (.iload_n 0, 1) := by decide +kernel
theorem d21_1 : decode jdk_29_method_65_code 1 = .ok (.iload_n 1, 1) := by decide +kernel
theorem d21_2 : decode jdk_29_method_65_code 2 = .ok (.if_icmp .lt 7, 3) := by decide +kernel
theorem d21_5 : decode jdk_29_method_65_code 5 = .ok (.iload_n 0, 1) := by decide +kernel
theorem d21_6 : decode jdk_29_method_65_code 6 = .ok (.goto 4, 3) := by decide +kernel
theorem d21_9 : decode jdk_29_method_65_code 9 = .ok (.iload_n 1, 1) := by decide +kernel
theorem d21_10 : decode jdk_29_method_65_code 10 = .ok (.ireturn, 1) := by decide +kernel
theorem ef_21 (m : MethodId) (p0 : Int32) (p1 : Int32) : entryFrame m #[(.int p0), (.int p1)] 2 = mkF m 0 #[.val (.int p0), .val (.int p1)] [] := by first | (simp [entryFrame, mkF, argsToLocals, Value.category]; done) | rfl
def own_f21 (p0 : Int32) (p1 : Int32) : Int32 := (if p0 < p1 then p1 else p0)
theorem own_q21_1 {p0 : Int32} {p1 : Int32} (hc2 : p0 < p1) : p1 = (if p0 < p1 then p1 else p0) := by
  first | (rw [if_pos hc2]; done) | (simp only [if_pos hc2]; done) | (simp [if_pos hc2]; done)
theorem own_q21_2 {p0 : Int32} {p1 : Int32} (hc2 : ¬ (p0 < p1)) : p0 = (if p0 < p1 then p1 else p0) := by
  first | (rw [if_neg hc2]; done) | (simp only [if_neg hc2]; done) | (simp [if_neg hc2]; done)
theorem own_q21_3 {p0 : Int32} {p1 : Int32} {v5 : Int32} (hv5 : v5 = (if p0 < p1 then p1 else p0)) : v5 = (own_f21 p0 p1) := by
  subst hv5; first | (unfold own_f21; with_reducible rfl) | (simp only [own_f21]; done) | rfl
def Q21 (Z : State) (p0 : Int32) (p1 : Int32) (h0 : Heap) (n0 : Nat) (v : Option Value) (h : Heap) (L : List Loc) : Prop := v = some (.int (own_f21 p0 p1)) ∧ Fr n0 L ∧ h = h0
set_option maxRecDepth 65536 in
set_option maxHeartbeats 40000000 in
theorem rm21 (l : Launch) (Z : State) (a0 : Array Value) (hw : ∀ d ∈ tables_1, d.before a0 Z = true) (ws : List Jvm.Cond) (p0 : Int32) (p1 : Int32) (h0 : Heap) (n0 : Nat) (Z0 : n0 ≤ h0.size) :
    MetFree l (⟨"java/lang/Math", "max", "(II)I"⟩ : MethodName) (head1 (Jvm.Cond.code (⟨"java/lang/Math", "max", "(II)I"⟩ : MethodName) jdk_29_method_65_code 2 (some .int) :: ws) ({ frames := 0, cells := 0, slots := 0, locals := 0 } : Room)) (fun a U => a = #[(.int p0), (.int p1)] ∧ Z.Warmed39 U.vm ∧ U.heap = h0) (fun _ _ _ _ _ => True) (fun _ U o U' => ∃ v L, o = .returned v ∧ Q21 Z p0 p1 h0 n0 v U'.heap L ∧ FrameEnd U o U' L ({ frames := 0, cells := 0, slots := 0, locals := 0 } : Room).cells ({ frames := 0, cells := 0, slots := 0, locals := 0 } : Room).slots) := by
  refine MetFree.of_bodySF (Jvm.Free.JP.mathPlain rfl (by decide +kernel)) hisR ?_
  intro p e s m args below meth c s₁ Bd hml0 hP hK
  obtain ⟨rfl, hZ, hh⟩ := hP
  have hx := Bd.exec
  have hby := Bd.bytes
  have hml : c.maxLocals = 2 := hml0
  have hown : s.vm.findClass "java/lang/Math" = some m.cls := findClass_of_methodNamed Bd.named
  have hnm := (name_of_methodNamed Bd.named Bd.method).1
  have X0 : Stand p l e ({ frames := 0, cells := 0, slots := 0, locals := 0 } : Room) s m #[(.int p0), (.int p1)] below meth c s₁ [] 0 0 := Stand.of_body Bd
  have e0 : s₁.heap = h0 := by rw [← hh, Bd.state]; rfl
  have N0 := Fr.nil n0
  obtain ⟨P, pre0, fin⟩ : ∃ P : State → Prop, (∀ t, Steps p.tables e below (s₁.setTop (mkF m 0 #[.val (.int p0), .val (.int p1)] [])) t → P t) ∧ (∀ t, P t → Steps p.tables e below (s₁.setTop (entryFrame m #[(.int p0), (.int p1)] 2)) t) := ⟨fun t => Steps p.tables e below (s₁.setTop (entryFrame m #[(.int p0), (.int p1)] 2)) t, fun t k => castTop (ef_21 m p0 p1) k, fun t k => k⟩
  have K0 : Keep h0 h0 [] := Keep.refl _ _
  have pre1 : ∀ t, Steps p.tables e below (s₁.setTop (mkF m 2 #[.val (.int p0), .val (.int p1)] [(.int p1), (.int p0)])) t → P t := fun t k => pre0 t (by
      refine XS.iloadN X0.here hx rfl (hb hby d21_0) rfl ?_
      refine XS.iloadN X0.here hx rfl (hb hby d21_1) rfl ?_
      exact k)
  obtain ⟨T6, L6, v5, X6, e6, N6, hv5, pre6⟩ : ∃ (T' : State) (L' : List Loc) (v5 : Int32), Stand p l e ({ frames := 0, cells := 0, slots := 0, locals := 0 } : Room) s m #[(.int p0), (.int p1)] below meth c T' L' 0 0 ∧ T'.heap = h0 ∧ Fr n0 L' ∧ v5 = (if p0 < p1 then p1 else p0) ∧ (∀ t, Steps p.tables e below (T'.setTop (mkF m 10 #[.val (.int p0), .val (.int p1)] [(.int v5)])) t → P t) := by
    by_cases hc2 : p0 < p1
    · have pre3 : ∀ t, Steps p.tables e below (s₁.setTop (mkF m 10 #[.val (.int p0), .val (.int p1)] [(.int p1)])) t → P t := fun t k => pre1 t (by
          refine XS.icmpYes X0.here hx rfl (pc0 := 2) (pc' := 9) rfl (hb hby d21_2) rfl (tlt hc2).1 (by decide) (by decide) ?_
          refine XS.iloadN X0.here hx rfl (hb hby d21_9) rfl ?_
          exact k)
      exact ⟨_, _, p1, X0, e0, N0, (own_q21_1 hc2), pre3⟩
    · have pre4 : ∀ t, Steps p.tables e below (s₁.setTop (mkF m 10 #[.val (.int p0), .val (.int p1)] [(.int p0)])) t → P t := fun t k => pre1 t (by
          refine XS.icmpNo X0.here hx rfl (hb hby d21_2) rfl (flt hc2).1 ?_
          refine XS.iloadN X0.here hx rfl (hb hby d21_5) rfl ?_
          refine XS.goto X0.here hx rfl (pc0 := 6) (pc' := 10) rfl (hb hby d21_6) (by decide) (by decide) ?_
          exact k)
      exact ⟨_, _, p0, X0, e0, N0, (own_q21_2 hc2), pre4⟩
  obtain ⟨fs, hr, hrun, hended, hW, hsame⟩ := X6.leave (v := some (.int v5)) (fun h => by rw [Bd.returns] at h; cases h)
  refine ⟨_, _, fin _ (pre6 _ ?_), hrun, hended, _, _, rfl, ?_, ⟨_, rfl⟩, hW, hsame.mono (by decide) (by decide)⟩
  · show Steps p.tables e below (T6.setTop (mkF m 10 #[.val (.int p0), .val (.int p1)] [(.int v5)])) _
    exact retI X6 hx Bd.returns (hb hby d21_10) hr
  · show Q21 Z p0 p1 h0 n0 _ T6.heap _
    rw [e6]
    exact ⟨(congrArg (fun z => some (Value.int z)) (own_q21_3 hv5)), N6, rfl⟩
theorem d23_0 : decode jdk_29_method_69_code 0 = .ok (.iload_n 0, 1) := by decide +kernel
theorem d23_1 : decode jdk_29_method_69_code 1 = .ok (.iload_n 1, 1) := by decide +kernel
theorem d23_2 : decode jdk_29_method_69_code 2 = .ok (.if_icmp .gt 7, 3) := by decide +kernel
theorem d23_5 : decode jdk_29_method_69_code 5 = .ok (.iload_n 0, 1) := by decide +kernel
theorem d23_6 : decode jdk_29_method_69_code 6 = .ok (.goto 4, 3) := by decide +kernel
theorem d23_9 : decode jdk_29_method_69_code 9 = .ok (.iload_n 1, 1) := by decide +kernel
theorem d23_10 : decode jdk_29_method_69_code 10 = .ok (.ireturn, 1) := by decide +kernel
theorem ef_23 (m : MethodId) (p0 : Int32) (p1 : Int32) : entryFrame m #[(.int p0), (.int p1)] 2 = mkF m 0 #[.val (.int p0), .val (.int p1)] [] := by first | (simp [entryFrame, mkF, argsToLocals, Value.category]; done) | rfl
def own_f23 (p0 : Int32) (p1 : Int32) : Int32 := (if p1 < p0 then p1 else p0)
theorem own_q23_1 {p0 : Int32} {p1 : Int32} (hc2 : p1 < p0) : p1 = (if p1 < p0 then p1 else p0) := by
  first | (rw [if_pos hc2]; done) | (simp only [if_pos hc2]; done) | (simp [if_pos hc2]; done)
theorem own_q23_2 {p0 : Int32} {p1 : Int32} (hc2 : ¬ (p1 < p0)) : p0 = (if p1 < p0 then p1 else p0) := by
  first | (rw [if_neg hc2]; done) | (simp only [if_neg hc2]; done) | (simp [if_neg hc2]; done)
theorem own_q23_3 {p0 : Int32} {p1 : Int32} {v5 : Int32} (hv5 : v5 = (if p1 < p0 then p1 else p0)) : v5 = (own_f23 p0 p1) := by
  subst hv5; first | (unfold own_f23; with_reducible rfl) | (simp only [own_f23]; done) | rfl
def Q23 (Z : State) (p0 : Int32) (p1 : Int32) (h0 : Heap) (n0 : Nat) (v : Option Value) (h : Heap) (L : List Loc) : Prop := v = some (.int (own_f23 p0 p1)) ∧ Fr n0 L ∧ h = h0
set_option maxRecDepth 65536 in
set_option maxHeartbeats 40000000 in
theorem rm23 (l : Launch) (Z : State) (a0 : Array Value) (hw : ∀ d ∈ tables_1, d.before a0 Z = true) (ws : List Jvm.Cond) (p0 : Int32) (p1 : Int32) (h0 : Heap) (n0 : Nat) (Z0 : n0 ≤ h0.size) :
    MetFree l (⟨"java/lang/Math", "min", "(II)I"⟩ : MethodName) (head1 (Jvm.Cond.code (⟨"java/lang/Math", "min", "(II)I"⟩ : MethodName) jdk_29_method_69_code 2 (some .int) :: ws) ({ frames := 0, cells := 0, slots := 0, locals := 0 } : Room)) (fun a U => a = #[(.int p0), (.int p1)] ∧ Z.Warmed39 U.vm ∧ U.heap = h0) (fun _ _ _ _ _ => True) (fun _ U o U' => ∃ v L, o = .returned v ∧ Q23 Z p0 p1 h0 n0 v U'.heap L ∧ FrameEnd U o U' L ({ frames := 0, cells := 0, slots := 0, locals := 0 } : Room).cells ({ frames := 0, cells := 0, slots := 0, locals := 0 } : Room).slots) := by
  refine MetFree.of_bodySF (Jvm.Free.JP.mathPlain rfl (by decide +kernel)) hisR ?_
  intro p e s m args below meth c s₁ Bd hml0 hP hK
  obtain ⟨rfl, hZ, hh⟩ := hP
  have hx := Bd.exec
  have hby := Bd.bytes
  have hml : c.maxLocals = 2 := hml0
  have hown : s.vm.findClass "java/lang/Math" = some m.cls := findClass_of_methodNamed Bd.named
  have hnm := (name_of_methodNamed Bd.named Bd.method).1
  have X0 : Stand p l e ({ frames := 0, cells := 0, slots := 0, locals := 0 } : Room) s m #[(.int p0), (.int p1)] below meth c s₁ [] 0 0 := Stand.of_body Bd
  have e0 : s₁.heap = h0 := by rw [← hh, Bd.state]; rfl
  have N0 := Fr.nil n0
  obtain ⟨P, pre0, fin⟩ : ∃ P : State → Prop, (∀ t, Steps p.tables e below (s₁.setTop (mkF m 0 #[.val (.int p0), .val (.int p1)] [])) t → P t) ∧ (∀ t, P t → Steps p.tables e below (s₁.setTop (entryFrame m #[(.int p0), (.int p1)] 2)) t) := ⟨fun t => Steps p.tables e below (s₁.setTop (entryFrame m #[(.int p0), (.int p1)] 2)) t, fun t k => castTop (ef_23 m p0 p1) k, fun t k => k⟩
  have K0 : Keep h0 h0 [] := Keep.refl _ _
  have pre1 : ∀ t, Steps p.tables e below (s₁.setTop (mkF m 2 #[.val (.int p0), .val (.int p1)] [(.int p1), (.int p0)])) t → P t := fun t k => pre0 t (by
      refine XS.iloadN X0.here hx rfl (hb hby d23_0) rfl ?_
      refine XS.iloadN X0.here hx rfl (hb hby d23_1) rfl ?_
      exact k)
  obtain ⟨T6, L6, v5, X6, e6, N6, hv5, pre6⟩ : ∃ (T' : State) (L' : List Loc) (v5 : Int32), Stand p l e ({ frames := 0, cells := 0, slots := 0, locals := 0 } : Room) s m #[(.int p0), (.int p1)] below meth c T' L' 0 0 ∧ T'.heap = h0 ∧ Fr n0 L' ∧ v5 = (if p1 < p0 then p1 else p0) ∧ (∀ t, Steps p.tables e below (T'.setTop (mkF m 10 #[.val (.int p0), .val (.int p1)] [(.int v5)])) t → P t) := by
    by_cases hc2 : p1 < p0
    · have pre3 : ∀ t, Steps p.tables e below (s₁.setTop (mkF m 10 #[.val (.int p0), .val (.int p1)] [(.int p1)])) t → P t := fun t k => pre1 t (by
          refine XS.icmpYes X0.here hx rfl (pc0 := 2) (pc' := 9) rfl (hb hby d23_2) rfl (tlt hc2).2.2.1 (by decide) (by decide) ?_
          refine XS.iloadN X0.here hx rfl (hb hby d23_9) rfl ?_
          exact k)
      exact ⟨_, _, p1, X0, e0, N0, (own_q23_1 hc2), pre3⟩
    · have pre4 : ∀ t, Steps p.tables e below (s₁.setTop (mkF m 10 #[.val (.int p0), .val (.int p1)] [(.int p0)])) t → P t := fun t k => pre1 t (by
          refine XS.icmpNo X0.here hx rfl (hb hby d23_2) rfl (flt hc2).2.2.1 ?_
          refine XS.iloadN X0.here hx rfl (hb hby d23_5) rfl ?_
          refine XS.goto X0.here hx rfl (pc0 := 6) (pc' := 10) rfl (hb hby d23_6) (by decide) (by decide) ?_
          exact k)
      exact ⟨_, _, p0, X0, e0, N0, (own_q23_2 hc2), pre4⟩
  obtain ⟨fs, hr, hrun, hended, hW, hsame⟩ := X6.leave (v := some (.int v5)) (fun h => by rw [Bd.returns] at h; cases h)
  refine ⟨_, _, fin _ (pre6 _ ?_), hrun, hended, _, _, rfl, ?_, ⟨_, rfl⟩, hW, hsame.mono (by decide) (by decide)⟩
  · show Steps p.tables e below (T6.setTop (mkF m 10 #[.val (.int p0), .val (.int p1)] [(.int v5)])) _
    exact retI X6 hx Bd.returns (hb hby d23_10) hr
  · show Q23 Z p0 p1 h0 n0 _ T6.heap _
    rw [e6]
    exact ⟨(congrArg (fun z => some (Value.int z)) (own_q23_3 hv5)), N6, rfl⟩
def own_B (z : Int32) (vs : List Int32) : Prop := (vs.length : Int) ≤ z.toInt ∧ z.toInt ≤ 220
def own_N (z : Int32) (vs : List Int32) (p : Int32) : Prop := own_B z vs ∧ z.toInt < p.toInt ∧ p.toInt ≤ 109
theorem own_nc {z p : Int32} {vs : List Int32} (h : own_N z vs p) : p.toInt ≤ (z + (own_f21 (p - z) (z + (2 : Int32)))).toInt ∧ (z + (own_f21 (p - z) (z + (2 : Int32)))).toInt ≤ 220 := by
  obtain ⟨⟨h0, h3⟩, h1, h2⟩ := h
  have e2 : (2 : Int32).toInt = 2 := by decide
  have a1 := c_isub p z
  have a2 := c_iadd z 2
  have r1 := rng32 (p - z)
  have r2 := rng32 (z + 2)
  unfold own_f21
  split
  · have a3 := c_iadd z (z + 2)
    have r3 := rng32 (z + (z + 2))
    rename_i h
    rw [Int32.lt_iff_toInt_lt] at h
    omega
  · have a3 := c_iadd z (p - z)
    have r3 := rng32 (z + (p - z))
    rename_i h
    rw [Int32.lt_iff_toInt_lt] at h
    omega
theorem own_ncA {z p : Int32} {vs : List Int32} (h : own_N z vs p) : (0 : Int32) < (z + (own_f21 (p - z) (z + (2 : Int32)))) := by
  have := own_nc h
  obtain ⟨⟨h0, h3⟩, h1, h2⟩ := h
  rw [Int32.lt_iff_toInt_lt]
  have e0 : (0 : Int32).toInt = 0 := by decide
  omega
theorem own_ncB {z p : Int32} {vs : List Int32} (h : own_N z vs p) : ¬ (2147483639 : Int32) < (z + (own_f21 (p - z) (z + (2 : Int32)))) := by
  have := own_nc h
  rw [Int32.lt_iff_toInt_lt]
  have e0 : (2147483639 : Int32).toInt = 2147483639 := by decide
  omega
theorem own_ncC {z p : Int32} {vs : List Int32} (h : own_N z vs p) : ¬ (z + (own_f21 (p - z) (z + (2 : Int32)))) = (2147483647 : Int32) := by
  have := own_nc h
  intro q
  rw [q] at this
  have e0 : (2147483647 : Int32).toInt = 2147483647 := by decide
  omega
theorem own_nn {z : Int32} (h : 0 ≤ z.toInt) : ¬ z < 0 := by
  rw [Int32.lt_iff_toInt_lt]
  have e0 : (0 : Int32).toInt = 0 := by decide
  omega
theorem own_tn {z : Int32} (h : 0 ≤ z.toInt) : (z.toNatClampNeg : Int) = z.toInt := (nat_of (own_nn h)).symm
theorem own_B0 {z : Int32} {vs : List Int32} (h : own_B z vs) : 0 ≤ z.toInt := by have := h.1; omega
theorem own_Bl {z : Int32} {vs : List Int32} (h : own_B z vs) : vs.length ≤ z.toNatClampNeg := by have := h.1; have := own_tn (own_B0 h); omega
theorem own_Bc {z : Int32} {vs : List Int32} (h : own_B z vs) : z.toNatClampNeg ≤ 220 := by have := h.2; have := own_tn (own_B0 h); omega
def own_G (z : Int32) (vs : List Int32) (p : Int32) : Prop := own_B z vs ∧ z.toInt < p.toInt ∧ p.toInt ≤ 220
theorem own_Gmin {z p : Int32} {vs : List Int32} (h : own_G z vs p) : (own_f23 z p) = z := by
  obtain ⟨h0, h1, h2⟩ := h
  unfold own_f23
  rw [if_neg]
  rw [Int32.lt_iff_toInt_lt]
  omega
theorem own_Gne {z p : Int32} {vs : List Int32} (h : own_G z vs p) : ¬ p = z := fun q => by
  have := h.2.1
  rw [q] at this
  omega
theorem own_G0 {z p : Int32} {vs : List Int32} (h : own_G z vs p) : 0 ≤ p.toInt := by have := own_B0 h.1; have := h.2; omega
theorem own_Gc {z p : Int32} {vs : List Int32} (h : own_G z vs p) : p.toNatClampNeg ≤ 220 := by have := own_tn (own_G0 h); have := h.2; omega
theorem own_Gle {z p : Int32} {vs : List Int32} (h : own_G z vs p) : z.toNatClampNeg ≤ p.toNatClampNeg := by have := own_tn (own_G0 h); have := own_tn (own_B0 h.1); have := h.2; omega
theorem own_z0 : (0 : Int32).toNatClampNeg = 0 := by decide
theorem own_cp0 {Z : State} {h : Heap} {a : Addr} {k : ClassId} {z : Int32} (l : List Int32) (n : Nat) (hl : l.length ≤ n) (A : Arv Z h a k .byte z ((own_v [] ++ List.replicate n (Value.int 0)).take (0 : Int32).toNatClampNeg ++ ((List.range n).map fun i => (own_v l).getD ((0 : Int32).toNatClampNeg + i) (.int 0)) ++ (own_v [] ++ List.replicate n (Value.int 0)).drop ((0 : Int32).toNatClampNeg + n)) (.int 0)) : Arv Z h a k .byte z (own_v l) (.int 0) := by
  refine A.pad fun i => ?_
  have e1 : (own_v [] ++ List.replicate n (Value.int 0)).drop ((0 : Int32).toNatClampNeg + n) = [] := by simp [own_v, own_z0]
  rw [e1, own_z0]
  simp only [List.take_zero, List.nil_append, List.append_nil, Nat.zero_add, List.getD_eq_getElem?_getD, List.getElem?_map]
  by_cases q : i < n
  · rw [List.getElem?_range q]; simp
  · have q2 : (own_v l)[i]? = none := by rw [List.getElem?_eq_none]; simp [own_v]; omega
    have q3 : (List.range n)[i]? = none := by rw [List.getElem?_eq_none]; simp; omega
    rw [q2, q3]; rfl
theorem own_pd2 : parseMethodDescriptor "(II)I" = some ⟨[.int, .int], some .int⟩ := by decide +kernel
theorem d20_0 : decode jdk_48_method_27_code 0 = .ok (.iload_n 0, 1) := by decide +kernel
theorem d20_1 : decode jdk_48_method_27_code 1 = .ok (.iload_n 1, 1) := by decide +kernel
theorem d20_2 : decode jdk_48_method_27_code 2 = .ok (.iload_n 2, 1) := by decide +kernel
theorem d20_3 : decode jdk_48_method_27_code 3 = .ok (.invokestatic 194, 3) := by decide +kernel
theorem d20_6 : decode jdk_48_method_27_code 6 = .ok (.iadd, 1) := by decide +kernel
theorem d20_7 : decode jdk_48_method_27_code 7 = .ok (.istore_n 3, 1) := by decide +kernel
theorem d20_8 : decode jdk_48_method_27_code 8 = .ok (.iconst 0, 1) := by decide +kernel
theorem d20_9 : decode jdk_48_method_27_code 9 = .ok (.iload_n 3, 1) := by decide +kernel
theorem d20_10 : decode jdk_48_method_27_code 10 = .ok (.if_icmp .ge 11, 3) := by decide +kernel
theorem d20_13 : decode jdk_48_method_27_code 13 = .ok (.iload_n 3, 1) := by decide +kernel
theorem d20_14 : decode jdk_48_method_27_code 14 = .ok (.ldc 200, 2) := by decide +kernel
theorem d20_16 : decode jdk_48_method_27_code 16 = .ok (.if_icmp .gt 5, 3) := by decide +kernel
theorem d20_19 : decode jdk_48_method_27_code 19 = .ok (.iload_n 3, 1) := by decide +kernel
theorem d20_20 : decode jdk_48_method_27_code 20 = .ok (.ireturn, 1) := by decide +kernel
theorem pn_20 : plainName "jdk/internal/util/ArraysSupport" = true := by first | (simp [plainName, overriddenIn]; done) | decide +kernel
theorem ef_20 (m : MethodId) (p0 : Int32) (p1 : Int32) (p2 : Int32) : entryFrame m #[(.int p0), (.int p1), (.int p2)] 4 = mkF m 0 #[.val (.int p0), .val (.int p1), .val (.int p2), .unset] [] := by first | (simp [entryFrame, mkF, argsToLocals, Value.category]; done) | rfl
def Q20 (Z : State) (p0 : Int32) (p1 : Int32) (p2 : Int32) (h0 : Heap) (n0 : Nat) (v : Option Value) (h : Heap) (L : List Loc) : Prop := v = some (.int (p0 + (own_f21 p1 p2))) ∧ Fr n0 L ∧ h = h0
set_option maxRecDepth 65536 in
set_option maxHeartbeats 40000000 in
theorem rm20 (l : Launch) (Z : State) (a0 : Array Value) (hw : ∀ d ∈ tables_1, d.before a0 Z = true) (ws : List Jvm.Cond) (p0 : Int32) (p1 : Int32) (p2 : Int32) (h0 : Heap) (n0 : Nat) (Z0 : n0 ≤ h0.size) (hA : (0 : Int32) < (p0 + (own_f21 p1 p2))) (hB : ¬ (2147483639 : Int32) < (p0 + (own_f21 p1 p2))) :
    MetFree l (⟨"jdk/internal/util/ArraysSupport", "newLength", "(III)I"⟩ : MethodName) (head1 (Jvm.Cond.code (⟨"jdk/internal/util/ArraysSupport", "newLength", "(III)I"⟩ : MethodName) jdk_48_method_27_code 4 (some .int) :: ws) ({ frames := 1, cells := 0, slots := 0, locals := 14 } : Room)) (fun a U => a = #[(.int p0), (.int p1), (.int p2)] ∧ Z.Warmed39 U.vm ∧ U.heap = h0) (fun _ _ _ _ _ => True) (fun _ U o U' => ∃ v L, o = .returned v ∧ Q20 Z p0 p1 p2 h0 n0 v U'.heap L ∧ FrameEnd U o U' L ({ frames := 1, cells := 0, slots := 0, locals := 14 } : Room).cells ({ frames := 1, cells := 0, slots := 0, locals := 14 } : Room).slots) := by
  refine MetFree.of_bodySF (plainFor_of_name pn_20) hisR ?_
  intro p e s m args below meth c s₁ Bd hml0 hP hK
  obtain ⟨rfl, hZ, hh⟩ := hP
  have hx := Bd.exec
  have hby := Bd.bytes
  have hml : c.maxLocals = 4 := hml0
  have hown : s.vm.findClass "jdk/internal/util/ArraysSupport" = some m.cls := findClass_of_methodNamed Bd.named
  have hnm := (name_of_methodNamed Bd.named Bd.method).1
  have X0 : Stand p l e ({ frames := 1, cells := 0, slots := 0, locals := 14 } : Room) s m #[(.int p0), (.int p1), (.int p2)] below meth c s₁ [] 0 0 := Stand.of_body Bd
  have e0 : s₁.heap = h0 := by rw [← hh, Bd.state]; rfl
  have N0 := Fr.nil n0
  obtain ⟨P, pre0, fin⟩ : ∃ P : State → Prop, (∀ t, Steps p.tables e below (s₁.setTop (mkF m 0 #[.val (.int p0), .val (.int p1), .val (.int p2), .unset] [])) t → P t) ∧ (∀ t, P t → Steps p.tables e below (s₁.setTop (entryFrame m #[(.int p0), (.int p1), (.int p2)] 4)) t) := ⟨fun t => Steps p.tables e below (s₁.setTop (entryFrame m #[(.int p0), (.int p1), (.int p2)] 4)) t, fun t k => castTop (ef_20 m p0 p1 p2) k, fun t k => k⟩
  have K0 : Keep h0 h0 [] := Keep.refl _ _
  have pre1 : ∀ t, Steps p.tables e below (s₁.setTop (mkF m 3 #[.val (.int p0), .val (.int p1), .val (.int p2), .unset] [(.int p2), (.int p1), (.int p0)])) t → P t := fun t k => pre0 t (by
      refine XS.iloadN X0.here hx rfl (hb hby d20_0) rfl ?_
      refine XS.iloadN X0.here hx rfl (hb hby d20_1) rfl ?_
      refine XS.iloadN X0.here hx rfl (hb hby d20_2) rfl ?_
      exact k)
  obtain ⟨_, _, ⟨T2, L2, k2, n2⟩, -, X2, ⟨Lc2, hQ2, l2, y2, z2⟩, st2⟩ := Jvm.LawKit.callS X0 hx (y := (⟨"java/lang/Math", "max", "(II)I"⟩ : MethodName)) hown (mvT hZ (hi hw 133 rfl)) (mvT hZ (hi hw 134 rfl)) (mvT hZ (hi hw 135 rfl)) (mvT hZ (hi hw 136 rfl)) (by decide) (backOf (W := 1) (rm21 l Z a0 hw [] p1 p2 h0 n0 Z0 ) hZ (hi hw 136 rfl) (hi hw 135 rfl) (by decide) (by decide)) (g := (mkF m 3 #[.val (.int p0), .val (.int p1), .val (.int p2), .unset] [(.int p2), (.int p1), (.int p0)])) rfl (by rw [hml]; rfl) (argsL := [(.int p1), (.int p2)]) (rest := [(.int p0)]) (lenOf own_pd2 rfl) rfl (by show 2 * 0 + _ ≤ _; exact Nat.le_of_eq rfl) (hb hby d20_3) (fun _ _ => ⟨rfl, e0, (by decide : 0 + 0 ≤ _), (by decide : 0 + 0 ≤ _)⟩)
  dsimp only [Pt.U, Pt.locs, Pt.cells, Pt.slots] at X2 l2 y2 z2 st2 hQ2
  subst l2 y2 z2
  obtain ⟨rfl, N2q, e2⟩ := hQ2
  have N2 := Fr.app N0 N2q
  have pre2 : ∀ t, Steps p.tables e below (T2.setTop (mkF m 6 #[.val (.int p0), .val (.int p1), .val (.int p2), .unset] [(.int (own_f21 p1 p2)), (.int p0)])) t → P t := fun t k => pre1 t (st2 _ k)
  have pre3 : ∀ t, Steps p.tables e below (T2.setTop (mkF m 20 #[.val (.int p0), .val (.int p1), .val (.int p2), .val (.int (p0 + (own_f21 p1 p2)))] [(.int (p0 + (own_f21 p1 p2)))])) t → P t := fun t k => pre2 t (by
      refine XS.iadd X2.here hx rfl (hb hby d20_6) rfl ?_
      refine XS.istoreN X2.here hx rfl (hb hby d20_7) rfl (l' := #[.val (.int p0), .val (.int p1), .val (.int p2), .val (.int (p0 + (own_f21 p1 p2)))]) rfl ?_
      refine XS.iconst X2.here hx rfl (hb hby d20_8) ?_
      refine XS.iloadN X2.here hx rfl (hb hby d20_9) rfl ?_
      refine XS.icmpNo X2.here hx rfl (hb hby d20_10) rfl (tlt (show (0 : Int32) < (p0 + (own_f21 p1 p2)) from hA)).2.1 ?_
      refine XS.iloadN X2.here hx rfl (hb hby d20_13) rfl ?_
      refine X2.ldcInt hx hown (mvT hZ (hi hw 137 rfl)) (g := (mkF m 14 #[.val (.int p0), .val (.int p1), .val (.int p2), .val (.int (p0 + (own_f21 p1 p2)))] [(.int (p0 + (own_f21 p1 p2)))])) rfl (hb hby d20_14) _ ?_
      refine XS.icmpNo X2.here hx rfl (hb hby d20_16) rfl (flt (show ¬ ((2147483639 : Int32) < (p0 + (own_f21 p1 p2))) from hB)).2.2.1 ?_
      refine XS.iloadN X2.here hx rfl (hb hby d20_19) rfl ?_
      exact k)
  obtain ⟨fs, hr, hrun, hended, hW, hsame⟩ := X2.leave (v := some (.int (p0 + (own_f21 p1 p2)))) (fun h => by rw [Bd.returns] at h; cases h)
  refine ⟨_, _, fin _ (pre3 _ ?_), hrun, hended, _, _, rfl, ?_, ⟨_, rfl⟩, hW, hsame.mono (by decide) (by decide)⟩
  · show Steps p.tables e below (T2.setTop (mkF m 20 #[.val (.int p0), .val (.int p1), .val (.int p2), .val (.int (p0 + (own_f21 p1 p2)))] [(.int (p0 + (own_f21 p1 p2)))])) _
    exact retI X2 hx Bd.returns (hb hby d20_20) hr
  · show Q20 Z p0 p1 p2 h0 n0 _ T2.heap _
    rw [e2]
    exact ⟨rfl, N2, rfl⟩
theorem own_pd3 : parseMethodDescriptor "(III)I" = some ⟨[.int, .int, .int], some .int⟩ := by decide +kernel
theorem d19_0 : decode jdk_68_method_10_code 0 = .ok (.aload_n 0, 1) := by decide +kernel
theorem d19_1 : decode jdk_68_method_10_code 1 = .ok (.getfield 15, 3) := by decide +kernel
theorem d19_4 : decode jdk_68_method_10_code 4 = .ok (.arraylength, 1) := by decide +kernel
theorem d19_5 : decode jdk_68_method_10_code 5 = .ok (.istore_n 2, 1) := by decide +kernel
theorem d19_6 : decode jdk_68_method_10_code 6 = .ok (.iload_n 1, 1) := by decide +kernel
theorem d19_7 : decode jdk_68_method_10_code 7 = .ok (.aload_n 0, 1) := by decide +kernel
theorem d19_8 : decode jdk_68_method_10_code 8 = .ok (.getfield 22, 3) := by decide +kernel
theorem d19_11 : decode jdk_68_method_10_code 11 = .ok (.ishl, 1) := by decide +kernel
theorem d19_12 : decode jdk_68_method_10_code 12 = .ok (.istore_n 3, 1) := by decide +kernel
theorem d19_13 : decode jdk_68_method_10_code 13 = .ok (.iload_n 3, 1) := by decide +kernel
theorem d19_14 : decode jdk_68_method_10_code 14 = .ok (.iload_n 2, 1) := by decide +kernel
theorem d19_15 : decode jdk_68_method_10_code 15 = .ok (.isub, 1) := by decide +kernel
theorem d19_16 : decode jdk_68_method_10_code 16 = .ok (.istore 4, 2) := by decide +kernel
theorem d19_18 : decode jdk_68_method_10_code 18 = .ok (.iload_n 2, 1) := by decide +kernel
theorem d19_19 : decode jdk_68_method_10_code 19 = .ok (.iload 4, 2) := by decide +kernel
theorem d19_21 : decode jdk_68_method_10_code 21 = .ok (.iload_n 2, 1) := by decide +kernel
theorem d19_22 : decode jdk_68_method_10_code 22 = .ok (.iconst 2, 1) := by decide +kernel
theorem d19_23 : decode jdk_68_method_10_code 23 = .ok (.aload_n 0, 1) := by decide +kernel
theorem d19_24 : decode jdk_68_method_10_code 24 = .ok (.getfield 22, 3) := by decide +kernel
theorem d19_27 : decode jdk_68_method_10_code 27 = .ok (.ishl, 1) := by decide +kernel
theorem d19_28 : decode jdk_68_method_10_code 28 = .ok (.iadd, 1) := by decide +kernel
theorem d19_29 : decode jdk_68_method_10_code 29 = .ok (.invokestatic 114, 3) := by decide +kernel
theorem d19_32 : decode jdk_68_method_10_code 32 = .ok (.istore 5, 2) := by decide +kernel
theorem d19_34 : decode jdk_68_method_10_code 34 = .ok (.iload 5, 2) := by decide +kernel
theorem d19_36 : decode jdk_68_method_10_code 36 = .ok (.ldc 39, 2) := by decide +kernel
theorem d19_38 : decode jdk_68_method_10_code 38 = .ok (.if_icmp .ne 13, 3) := by decide +kernel
theorem d19_51 : decode jdk_68_method_10_code 51 = .ok (.iload 5, 2) := by decide +kernel
theorem d19_53 : decode jdk_68_method_10_code 53 = .ok (.aload_n 0, 1) := by decide +kernel
theorem d19_54 : decode jdk_68_method_10_code 54 = .ok (.getfield 22, 3) := by decide +kernel
theorem d19_57 : decode jdk_68_method_10_code 57 = .ok (.ishr, 1) := by decide +kernel
theorem d19_58 : decode jdk_68_method_10_code 58 = .ok (.ireturn, 1) := by decide +kernel
theorem pn_19 : plainName "java/lang/AbstractStringBuilder" = true := by first | (simp [plainName, overriddenIn]; done) | decide +kernel
theorem ef_19 (m : MethodId) (o0 : Addr) (p1 : Int32) : entryFrame m #[(.ref o0), (.int p1)] 6 = mkF m 0 #[.val (.ref o0), .val (.int p1), .unset, .unset, .unset, .unset] [] := by first | (simp [entryFrame, mkF, argsToLocals, Value.category]; done) | rfl
def Q19 (Z : State) (o0 : Addr) (p1 : Int32) (bv : Addr) (kv : ClassId) (zv : Int32) (vs : List Int32) (h0 : Heap) (n0 : Nat) (v : Option Value) (h : Heap) (L : List Loc) : Prop := v = some (.int (zv + (own_f21 (p1 - zv) (zv + (2 : Int32))))) ∧ Fr n0 L ∧ h = h0
set_option maxRecDepth 65536 in
set_option maxHeartbeats 40000000 in
theorem rm19 (l : Launch) (Z : State) (a0 : Array Value) (hw : ∀ d ∈ tables_1, d.before a0 Z = true) (ws : List Jvm.Cond) (o0 : Addr) (p1 : Int32) (bv : Addr) (kv : ClassId) (zv : Int32) (vs : List Int32) (h0 : Heap) (n0 : Nat) (Z0 : n0 ≤ h0.size) (OLD0 : Old Z n0 h0) (Pr_0 : Fld Z h0 o0 "java/lang/AbstractStringBuilder" "value" "[B" (.ref bv)) (Pr_1 : Fld Z h0 o0 "java/lang/AbstractStringBuilder" "coder" "B" (.int (0 : Int32))) (Pr_2 : Arv Z h0 bv kv .byte zv (own_v vs) (.int 0)) (HN : own_N zv vs p1) :
    MetFree l (⟨"java/lang/AbstractStringBuilder", "newCapacity", "(I)I"⟩ : MethodName) (head1 (Jvm.Cond.code (⟨"java/lang/AbstractStringBuilder", "newCapacity", "(I)I"⟩ : MethodName) jdk_68_method_10_code 6 (some .int) :: ws) ({ frames := 2, cells := 0, slots := 0, locals := 29 } : Room)) (fun a U => a = #[(.ref o0), (.int p1)] ∧ Z.Warmed39 U.vm ∧ U.heap = h0) (fun _ _ _ _ _ => True) (fun _ U o U' => ∃ v L, o = .returned v ∧ Q19 Z o0 p1 bv kv zv vs h0 n0 v U'.heap L ∧ FrameEnd U o U' L ({ frames := 2, cells := 0, slots := 0, locals := 29 } : Room).cells ({ frames := 2, cells := 0, slots := 0, locals := 29 } : Room).slots) := by
  refine MetFree.of_bodySF (plainFor_of_name pn_19) hisR ?_
  intro p e s m args below meth c s₁ Bd hml0 hP hK
  obtain ⟨rfl, hZ, hh⟩ := hP
  have hx := Bd.exec
  have hby := Bd.bytes
  have hml : c.maxLocals = 6 := hml0
  have hown : s.vm.findClass "java/lang/AbstractStringBuilder" = some m.cls := findClass_of_methodNamed Bd.named
  have hnm := (name_of_methodNamed Bd.named Bd.method).1
  have X0 : Stand p l e ({ frames := 2, cells := 0, slots := 0, locals := 29 } : Room) s m #[(.ref o0), (.int p1)] below meth c s₁ [] 0 0 := Stand.of_body Bd
  have e0 : s₁.heap = h0 := by rw [← hh, Bd.state]; rfl
  have N0 := Fr.nil n0
  obtain ⟨P, pre0, fin⟩ : ∃ P : State → Prop, (∀ t, Steps p.tables e below (s₁.setTop (mkF m 0 #[.val (.ref o0), .val (.int p1), .unset, .unset, .unset, .unset] [])) t → P t) ∧ (∀ t, P t → Steps p.tables e below (s₁.setTop (entryFrame m #[(.ref o0), (.int p1)] 6)) t) := ⟨fun t => Steps p.tables e below (s₁.setTop (entryFrame m #[(.ref o0), (.int p1)] 6)) t, fun t k => castTop (ef_19 m o0 p1) k, fun t k => k⟩
  have K0 : Keep h0 h0 [] := Keep.refl _ _
  have pre1 : ∀ t, Steps p.tables e below (s₁.setTop (mkF m 1 #[.val (.ref o0), .val (.int p1), .unset, .unset, .unset, .unset] [(.ref o0)])) t → P t := fun t k => pre0 t (by
      refine XS.aloadN X0.here hx rfl (hb hby d19_0) rfl rfl ?_
      exact k)
  obtain ⟨T2, X2, e2, st2⟩ := getF X0 hx hZ hown (host := "") (Or.inl (hi hw 38 rfl)) Via.refl e0 Pr_0 (g := (mkF m 1 #[.val (.ref o0), .val (.int p1), .unset, .unset, .unset, .unset] [(.ref o0)])) rfl rfl (hb hby d19_1)
  have pre2 : ∀ t, Steps p.tables e below (T2.setTop (mkF m 4 #[.val (.ref o0), .val (.int p1), .unset, .unset, .unset, .unset] [(.ref bv)])) t → P t := fun t k => pre1 t (st2 _ k)
  obtain ⟨clq3, Arq3, -, Sq3, Nq3', -, -⟩ := id Pr_2
  have pre4 : ∀ t, Steps p.tables e below (T2.setTop (mkF m 8 #[.val (.ref o0), .val (.int p1), .val (.int zv), .unset, .unset, .unset] [(.ref o0), (.int p1)])) t → P t := fun t k => pre2 t (by
      refine X2.arraylength hx (by rw [e2]; exact Arq3.1) (State.isArrayOf_alike hZ.alike Arq3.2.1) (g := (mkF m 4 #[.val (.ref o0), .val (.int p1), .unset, .unset, .unset, .unset] [(.ref bv)])) rfl rfl (hb hby d19_4) _ ?_
      rw [len_of Sq3 Nq3']
      refine XS.istoreN X2.here hx rfl (hb hby d19_5) rfl (l' := #[.val (.ref o0), .val (.int p1), .val (.int zv), .unset, .unset, .unset]) rfl ?_
      refine XS.iloadN X2.here hx rfl (hb hby d19_6) rfl ?_
      refine XS.aloadN X2.here hx rfl (hb hby d19_7) rfl rfl ?_
      exact k)
  obtain ⟨T5, X5, e5, st5⟩ := getF X2 hx hZ hown (host := "") (Or.inl (hi hw 40 rfl)) Via.refl e2 Pr_1 (g := (mkF m 8 #[.val (.ref o0), .val (.int p1), .val (.int zv), .unset, .unset, .unset] [(.ref o0), (.int p1)])) rfl rfl (hb hby d19_8)
  have pre5 : ∀ t, Steps p.tables e below (T5.setTop (mkF m 11 #[.val (.ref o0), .val (.int p1), .val (.int zv), .unset, .unset, .unset] [(.int (0 : Int32)), (.int p1)])) t → P t := fun t k => pre4 t (st5 _ k)
  have pre6 : ∀ t, Steps p.tables e below (T5.setTop (mkF m 12 #[.val (.ref o0), .val (.int p1), .val (.int zv), .unset, .unset, .unset] [(.int (p1 <<< ((0 : Int32) &&& 31)))])) t → P t := fun t k => pre5 t (by
      refine XS.ishl X5.here hx rfl (hb hby d19_11) rfl ?_
      exact k)
  have pre7 : ∀ t, Steps p.tables e below (T5.setTop (mkF m 12 #[.val (.ref o0), .val (.int p1), .val (.int zv), .unset, .unset, .unset] [(.int p1)])) t → P t := fun t k => pre6 t (by rw [show (p1 <<< ((0 : Int32) &&& 31)) = p1 from (own_shl0 _)]; exact k)
  have pre8 : ∀ t, Steps p.tables e below (T5.setTop (mkF m 24 #[.val (.ref o0), .val (.int p1), .val (.int zv), .val (.int p1), .val (.int (p1 - zv)), .unset] [(.ref o0), (.int (2 : Int32)), (.int zv), (.int (p1 - zv)), (.int zv)])) t → P t := fun t k => pre7 t (by
      refine XS.istoreN X5.here hx rfl (hb hby d19_12) rfl (l' := #[.val (.ref o0), .val (.int p1), .val (.int zv), .val (.int p1), .unset, .unset]) rfl ?_
      refine XS.iloadN X5.here hx rfl (hb hby d19_13) rfl ?_
      refine XS.iloadN X5.here hx rfl (hb hby d19_14) rfl ?_
      refine XS.isub X5.here hx rfl (hb hby d19_15) rfl ?_
      refine XS.istore X5.here hx rfl (hb hby d19_16) rfl (l' := #[.val (.ref o0), .val (.int p1), .val (.int zv), .val (.int p1), .val (.int (p1 - zv)), .unset]) rfl ?_
      refine XS.iloadN X5.here hx rfl (hb hby d19_18) rfl ?_
      refine XS.iload X5.here hx rfl (hb hby d19_19) rfl ?_
      refine XS.iloadN X5.here hx rfl (hb hby d19_21) rfl ?_
      refine XS.iconst X5.here hx rfl (hb hby d19_22) ?_
      refine XS.aloadN X5.here hx rfl (hb hby d19_23) rfl rfl ?_
      exact k)
  obtain ⟨T9, X9, e9, st9⟩ := getF X5 hx hZ hown (host := "") (Or.inl (hi hw 40 rfl)) Via.refl e5 Pr_1 (g := (mkF m 24 #[.val (.ref o0), .val (.int p1), .val (.int zv), .val (.int p1), .val (.int (p1 - zv)), .unset] [(.ref o0), (.int (2 : Int32)), (.int zv), (.int (p1 - zv)), (.int zv)])) rfl rfl (hb hby d19_24)
  have pre9 : ∀ t, Steps p.tables e below (T9.setTop (mkF m 27 #[.val (.ref o0), .val (.int p1), .val (.int zv), .val (.int p1), .val (.int (p1 - zv)), .unset] [(.int (0 : Int32)), (.int (2 : Int32)), (.int zv), (.int (p1 - zv)), (.int zv)])) t → P t := fun t k => pre8 t (st9 _ k)
  have pre10 : ∀ t, Steps p.tables e below (T9.setTop (mkF m 28 #[.val (.ref o0), .val (.int p1), .val (.int zv), .val (.int p1), .val (.int (p1 - zv)), .unset] [(.int ((2 : Int32) <<< ((0 : Int32) &&& 31))), (.int zv), (.int (p1 - zv)), (.int zv)])) t → P t := fun t k => pre9 t (by
      refine XS.ishl X9.here hx rfl (hb hby d19_27) rfl ?_
      exact k)
  have pre11 : ∀ t, Steps p.tables e below (T9.setTop (mkF m 28 #[.val (.ref o0), .val (.int p1), .val (.int zv), .val (.int p1), .val (.int (p1 - zv)), .unset] [(.int (2 : Int32)), (.int zv), (.int (p1 - zv)), (.int zv)])) t → P t := fun t k => pre10 t (by rw [show ((2 : Int32) <<< ((0 : Int32) &&& 31)) = (2 : Int32) from (own_shl0 _)]; exact k)
  have pre12 : ∀ t, Steps p.tables e below (T9.setTop (mkF m 29 #[.val (.ref o0), .val (.int p1), .val (.int zv), .val (.int p1), .val (.int (p1 - zv)), .unset] [(.int (zv + (2 : Int32))), (.int (p1 - zv)), (.int zv)])) t → P t := fun t k => pre11 t (by
      refine XS.iadd X9.here hx rfl (hb hby d19_28) rfl ?_
      exact k)
  obtain ⟨_, _, ⟨T13, L13, k13, n13⟩, -, X13, ⟨Lc13, hQ13, l13, y13, z13⟩, st13⟩ := Jvm.LawKit.callS X9 hx (y := (⟨"jdk/internal/util/ArraysSupport", "newLength", "(III)I"⟩ : MethodName)) hown (mvT hZ (hi hw 129 rfl)) (mvT hZ (hi hw 130 rfl)) (mvT hZ (hi hw 131 rfl)) (mvT hZ (hi hw 132 rfl)) (by decide) (backOf (W := 0) (rm20 l Z a0 hw [] zv (p1 - zv) (zv + (2 : Int32)) h0 n0 Z0 (own_ncA HN) (own_ncB HN)) hZ (hi hw 132 rfl) (hi hw 131 rfl) (by decide) (by decide)) (g := (mkF m 29 #[.val (.ref o0), .val (.int p1), .val (.int zv), .val (.int p1), .val (.int (p1 - zv)), .unset] [(.int (zv + (2 : Int32))), (.int (p1 - zv)), (.int zv)])) rfl (by rw [hml]; rfl) (argsL := [(.int zv), (.int (p1 - zv)), (.int (zv + (2 : Int32)))]) (rest := []) (lenOf own_pd3 rfl) rfl (by show 2 * 0 + _ ≤ _; exact Nat.le_of_eq rfl) (hb hby d19_29) (fun _ _ => ⟨rfl, e9, (by decide : 0 + 0 ≤ _), (by decide : 0 + 0 ≤ _)⟩)
  dsimp only [Pt.U, Pt.locs, Pt.cells, Pt.slots] at X13 l13 y13 z13 st13 hQ13
  subst l13 y13 z13
  obtain ⟨rfl, N13q, e13⟩ := hQ13
  have N13 := Fr.app N0 N13q
  have pre13 : ∀ t, Steps p.tables e below (T13.setTop (mkF m 32 #[.val (.ref o0), .val (.int p1), .val (.int zv), .val (.int p1), .val (.int (p1 - zv)), .unset] [(.int (zv + (own_f21 (p1 - zv) (zv + (2 : Int32)))))])) t → P t := fun t k => pre12 t (st13 _ k)
  have pre14 : ∀ t, Steps p.tables e below (T13.setTop (mkF m 54 #[.val (.ref o0), .val (.int p1), .val (.int zv), .val (.int p1), .val (.int (p1 - zv)), .val (.int (zv + (own_f21 (p1 - zv) (zv + (2 : Int32)))))] [(.ref o0), (.int (zv + (own_f21 (p1 - zv) (zv + (2 : Int32)))))])) t → P t := fun t k => pre13 t (by
      refine XS.istore X13.here hx rfl (hb hby d19_32) rfl (l' := #[.val (.ref o0), .val (.int p1), .val (.int zv), .val (.int p1), .val (.int (p1 - zv)), .val (.int (zv + (own_f21 (p1 - zv) (zv + (2 : Int32)))))]) rfl ?_
      refine XS.iload X13.here hx rfl (hb hby d19_34) rfl ?_
      refine X13.ldcInt hx hown (mvT hZ (hi hw 138 rfl)) (g := (mkF m 36 #[.val (.ref o0), .val (.int p1), .val (.int zv), .val (.int p1), .val (.int (p1 - zv)), .val (.int (zv + (own_f21 (p1 - zv) (zv + (2 : Int32)))))] [(.int (zv + (own_f21 (p1 - zv) (zv + (2 : Int32)))))])) rfl (hb hby d19_36) _ ?_
      refine XS.icmpYes X13.here hx rfl (pc0 := 38) (pc' := 51) rfl (hb hby d19_38) rfl (feq (show ¬ ((zv + (own_f21 (p1 - zv) (zv + (2 : Int32)))) = (2147483647 : Int32)) from (own_ncC HN))).2 (by decide) (by decide) ?_
      refine XS.iload X13.here hx rfl (hb hby d19_51) rfl ?_
      refine XS.aloadN X13.here hx rfl (hb hby d19_53) rfl rfl ?_
      exact k)
  obtain ⟨T15, X15, e15, st15⟩ := getF X13 hx hZ hown (host := "") (Or.inl (hi hw 40 rfl)) Via.refl e13 Pr_1 (g := (mkF m 54 #[.val (.ref o0), .val (.int p1), .val (.int zv), .val (.int p1), .val (.int (p1 - zv)), .val (.int (zv + (own_f21 (p1 - zv) (zv + (2 : Int32)))))] [(.ref o0), (.int (zv + (own_f21 (p1 - zv) (zv + (2 : Int32)))))])) rfl rfl (hb hby d19_54)
  have pre15 : ∀ t, Steps p.tables e below (T15.setTop (mkF m 57 #[.val (.ref o0), .val (.int p1), .val (.int zv), .val (.int p1), .val (.int (p1 - zv)), .val (.int (zv + (own_f21 (p1 - zv) (zv + (2 : Int32)))))] [(.int (0 : Int32)), (.int (zv + (own_f21 (p1 - zv) (zv + (2 : Int32)))))])) t → P t := fun t k => pre14 t (st15 _ k)
  have pre16 : ∀ t, Steps p.tables e below (T15.setTop (mkF m 58 #[.val (.ref o0), .val (.int p1), .val (.int zv), .val (.int p1), .val (.int (p1 - zv)), .val (.int (zv + (own_f21 (p1 - zv) (zv + (2 : Int32)))))] [(.int ((zv + (own_f21 (p1 - zv) (zv + (2 : Int32)))) >>> ((0 : Int32) &&& 31)))])) t → P t := fun t k => pre15 t (by
      refine XS.ishr X15.here hx rfl (hb hby d19_57) rfl ?_
      exact k)
  have pre17 : ∀ t, Steps p.tables e below (T15.setTop (mkF m 58 #[.val (.ref o0), .val (.int p1), .val (.int zv), .val (.int p1), .val (.int (p1 - zv)), .val (.int (zv + (own_f21 (p1 - zv) (zv + (2 : Int32)))))] [(.int (zv + (own_f21 (p1 - zv) (zv + (2 : Int32)))))])) t → P t := fun t k => pre16 t (by rw [show ((zv + (own_f21 (p1 - zv) (zv + (2 : Int32)))) >>> ((0 : Int32) &&& 31)) = (zv + (own_f21 (p1 - zv) (zv + (2 : Int32)))) from (own_shr0 _)]; exact k)
  obtain ⟨fs, hr, hrun, hended, hW, hsame⟩ := X15.leave (v := some (.int (zv + (own_f21 (p1 - zv) (zv + (2 : Int32)))))) (fun h => by rw [Bd.returns] at h; cases h)
  refine ⟨_, _, fin _ (pre17 _ ?_), hrun, hended, _, _, rfl, ?_, ⟨_, rfl⟩, hW, hsame.mono (by decide) (by decide)⟩
  · show Steps p.tables e below (T15.setTop (mkF m 58 #[.val (.ref o0), .val (.int p1), .val (.int zv), .val (.int p1), .val (.int (p1 - zv)), .val (.int (zv + (own_f21 (p1 - zv) (zv + (2 : Int32)))))] [(.int (zv + (own_f21 (p1 - zv) (zv + (2 : Int32)))))])) _
    exact retI X15 hx Bd.returns (hb hby d19_58) hr
  · show Q19 Z o0 p1 bv kv zv vs h0 n0 _ T15.heap _
    rw [e15]
    exact ⟨rfl, N13, rfl⟩
theorem d22_0 : decode jdk_65_method_121_code 0 = .ok (.iload_n 1, 1) := by decide +kernel
theorem d22_1 : decode jdk_65_method_121_code 1 = .ok (.aload_n 0, 1) := by decide +kernel
theorem d22_2 : decode jdk_65_method_121_code 2 = .ok (.arraylength, 1) := by decide +kernel
theorem d22_3 : decode jdk_65_method_121_code 3 = .ok (.if_icmp .ne 11, 3) := by decide +kernel
theorem d22_14 : decode jdk_65_method_121_code 14 = .ok (.iload_n 1, 1) := by decide +kernel
theorem d22_15 : decode jdk_65_method_121_code 15 = .ok (.newarray .byte, 2) := by decide +kernel
theorem d22_17 : decode jdk_65_method_121_code 17 = .ok (.astore_n 2, 1) := by decide +kernel
theorem d22_18 : decode jdk_65_method_121_code 18 = .ok (.aload_n 0, 1) := by decide +kernel
theorem d22_19 : decode jdk_65_method_121_code 19 = .ok (.iconst 0, 1) := by decide +kernel
theorem d22_20 : decode jdk_65_method_121_code 20 = .ok (.aload_n 2, 1) := by decide +kernel
theorem d22_21 : decode jdk_65_method_121_code 21 = .ok (.iconst 0, 1) := by decide +kernel
theorem d22_22 : decode jdk_65_method_121_code 22 = .ok (.aload_n 0, 1) := by decide +kernel
theorem d22_23 : decode jdk_65_method_121_code 23 = .ok (.arraylength, 1) := by decide +kernel
theorem d22_24 : decode jdk_65_method_121_code 24 = .ok (.iload_n 1, 1) := by decide +kernel
theorem d22_25 : decode jdk_65_method_121_code 25 = .ok (.invokestatic 304, 3) := by decide +kernel
theorem d22_28 : decode jdk_65_method_121_code 28 = .ok (.invokestatic 150, 3) := by decide +kernel
theorem d22_31 : decode jdk_65_method_121_code 31 = .ok (.aload_n 2, 1) := by decide +kernel
theorem d22_32 : decode jdk_65_method_121_code 32 = .ok (.areturn, 1) := by decide +kernel
theorem pn_22 : plainName "java/util/Arrays" = true := by first | (simp [plainName, overriddenIn]; done) | decide +kernel
theorem ef_22 (m : MethodId) (bv : Addr) (p1 : Int32) : entryFrame m #[(.ref bv), (.int p1)] 3 = mkF m 0 #[.val (.ref bv), .val (.int p1), .unset] [] := by first | (simp [entryFrame, mkF, argsToLocals, Value.category]; done) | rfl
def Q22 (Z : State) (bv : Addr) (p1 : Int32) (kv : ClassId) (zv : Int32) (vs : List Int32) (h0 : Heap) (n0 : Nat) (v : Option Value) (h : Heap) (L : List Loc) : Prop := ∃ bn : Addr, ∃ kn : ClassId, v = some (.ref bn) ∧ Fr n0 L ∧ Keep h0 h [] ∧ Arv Z h bn kn .byte p1 (own_v vs) (.int 0) ∧ Exa Z h bn "[B" ∧ n0 ≤ bn ∧ h0.size ≤ bn
set_option maxRecDepth 65536 in
set_option maxHeartbeats 40000000 in
theorem rm22 (l : Launch) (Z : State) (a0 : Array Value) (hw : ∀ d ∈ tables_1, d.before a0 Z = true) (ws : List Jvm.Cond) (bv : Addr) (p1 : Int32) (kv : ClassId) (zv : Int32) (vs : List Int32) (h0 : Heap) (n0 : Nat) (Z0 : n0 ≤ h0.size) (OLD0 : Old Z n0 h0) (Pr_0 : Arv Z h0 bv kv .byte zv (own_v vs) (.int 0)) (HG : own_G zv vs p1) :
    MetFree l (⟨"java/util/Arrays", "copyOf", "([BI)[B"⟩ : MethodName) (head1 (Jvm.Cond.code (⟨"java/util/Arrays", "copyOf", "([BI)[B"⟩ : MethodName) jdk_65_method_121_code 3 (some (.array .byte)) :: ws) ({ frames := 1, cells := 1, slots := 220, locals := 18 } : Room)) (fun a U => a = #[(.ref bv), (.int p1)] ∧ Z.Warmed39 U.vm ∧ U.heap = h0) (fun _ _ _ _ _ => True) (fun _ U o U' => ∃ v L, o = .returned v ∧ Q22 Z bv p1 kv zv vs h0 n0 v U'.heap L ∧ FrameEnd U o U' L ({ frames := 1, cells := 1, slots := 220, locals := 18 } : Room).cells ({ frames := 1, cells := 1, slots := 220, locals := 18 } : Room).slots) := by
  refine MetFree.of_bodySF (plainFor_of_name pn_22) hisR ?_
  intro p e s m args below meth c s₁ Bd hml0 hP hK
  obtain ⟨rfl, hZ, hh⟩ := hP
  have hx := Bd.exec
  have hby := Bd.bytes
  have hml : c.maxLocals = 3 := hml0
  have hown : s.vm.findClass "java/util/Arrays" = some m.cls := findClass_of_methodNamed Bd.named
  have hnm := (name_of_methodNamed Bd.named Bd.method).1
  have X0 : Stand p l e ({ frames := 1, cells := 1, slots := 220, locals := 18 } : Room) s m #[(.ref bv), (.int p1)] below meth c s₁ [] 0 0 := Stand.of_body Bd
  have e0 : s₁.heap = h0 := by rw [← hh, Bd.state]; rfl
  have N0 := Fr.nil n0
  obtain ⟨P, pre0, fin⟩ : ∃ P : State → Prop, (∀ t, Steps p.tables e below (s₁.setTop (mkF m 0 #[.val (.ref bv), .val (.int p1), .unset] [])) t → P t) ∧ (∀ t, P t → Steps p.tables e below (s₁.setTop (entryFrame m #[(.ref bv), (.int p1)] 3)) t) := ⟨fun t => Steps p.tables e below (s₁.setTop (entryFrame m #[(.ref bv), (.int p1)] 3)) t, fun t k => castTop (ef_22 m bv p1) k, fun t k => k⟩
  have K0 : Keep h0 h0 [] := Keep.refl _ _
  have pre1 : ∀ t, Steps p.tables e below (s₁.setTop (mkF m 2 #[.val (.ref bv), .val (.int p1), .unset] [(.ref bv), (.int p1)])) t → P t := fun t k => pre0 t (by
      refine XS.iloadN X0.here hx rfl (hb hby d22_0) rfl ?_
      refine XS.aloadN X0.here hx rfl (hb hby d22_1) rfl rfl ?_
      exact k)
  obtain ⟨clq2, Arq2, -, Sq2, Nq2', -, -⟩ := id Pr_0
  have pre3 : ∀ t, Steps p.tables e below (s₁.setTop (mkF m 15 #[.val (.ref bv), .val (.int p1), .unset] [(.int p1)])) t → P t := fun t k => pre1 t (by
      refine X0.arraylength hx (by rw [e0]; exact Arq2.1) (State.isArrayOf_alike hZ.alike Arq2.2.1) (g := (mkF m 2 #[.val (.ref bv), .val (.int p1), .unset] [(.ref bv), (.int p1)])) rfl rfl (hb hby d22_2) _ ?_
      rw [len_of Sq2 Nq2']
      refine XS.icmpYes X0.here hx rfl (pc0 := 3) (pc' := 14) rfl (hb hby d22_3) rfl (feq (show ¬ (p1 = zv) from (own_Gne HG))).2 (by decide) (by decide) ?_
      refine XS.iloadN X0.here hx rfl (hb hby d22_14) rfl ?_
      exact k)
  obtain ⟨T4, h4, k4, X4, e4, E4, A4, Ex4, st4⟩ := newPE X0 hx hZ (hi hw 37 rfl) e0 (g := (mkF m 15 #[.val (.ref bv), .val (.int p1), .unset] [(.int p1)])) rfl (hb hby d22_15) rfl (own_nn (own_G0 HG)) (cap := 220) (own_Gc HG) (by decide) (by decide) (by decide) (ad := "[B") (by decide)
  obtain ⟨b4, g4⟩ : ∃ z, z = h0.size := ⟨_, rfl⟩
  have g_b4 : n0 ≤ b4 := Nat.le_trans Z0 (Nat.le_of_eq g4.symm)
  have sz_b4 : h0.size ≤ b4 := Nat.le_trans K0.1 (Nat.le_of_eq g4.symm)
  rw [← g4] at A4 Ex4 st4
  have pre4 : ∀ t, Steps p.tables e below (T4.setTop (mkF m 17 #[.val (.ref bv), .val (.int p1), .unset] [(.ref b4)])) t → P t := fun t k => pre3 t (st4 _ k)
  have c5 : n0 ≤ h4.size := Nat.le_trans Z0 E4.1
  have c6 : Old Z n0 h4 := OLD0.ext E4
  have c7 : Arv Z h4 bv kv .byte zv (own_v vs) (.int 0) := Pr_0.ext E4
  have K8 : Keep h0 h4 [] := K0.ext E4
  have V_b4 : Arv Z h4 b4 k4 .byte p1 (own_v []) (.int 0) := Arv.new A4 (own_nn (own_G0 HG))
  have pre9 : ∀ t, Steps p.tables e below (T4.setTop (mkF m 23 #[.val (.ref bv), .val (.int p1), .val (.ref b4)] [(.ref bv), (.int (0 : Int32)), (.ref b4), (.int (0 : Int32)), (.ref bv)])) t → P t := fun t k => pre4 t (by
      refine XS.astoreN X4.here hx rfl (hb hby d22_17) rfl rfl (l' := #[.val (.ref bv), .val (.int p1), .val (.ref b4)]) rfl ?_
      refine XS.aloadN X4.here hx rfl (hb hby d22_18) rfl rfl ?_
      refine XS.iconst X4.here hx rfl (hb hby d22_19) ?_
      refine XS.aloadN X4.here hx rfl (hb hby d22_20) rfl rfl ?_
      refine XS.iconst X4.here hx rfl (hb hby d22_21) ?_
      refine XS.aloadN X4.here hx rfl (hb hby d22_22) rfl rfl ?_
      exact k)
  obtain ⟨clq10, Arq10, -, Sq10, Nq10', -, -⟩ := id c7
  have pre11 : ∀ t, Steps p.tables e below (T4.setTop (mkF m 25 #[.val (.ref bv), .val (.int p1), .val (.ref b4)] [(.int p1), (.int zv), (.int (0 : Int32)), (.ref b4), (.int (0 : Int32)), (.ref bv)])) t → P t := fun t k => pre9 t (by
      refine X4.arraylength hx (by rw [e4]; exact Arq10.1) (State.isArrayOf_alike hZ.alike Arq10.2.1) (g := (mkF m 23 #[.val (.ref bv), .val (.int p1), .val (.ref b4)] [(.ref bv), (.int (0 : Int32)), (.ref b4), (.int (0 : Int32)), (.ref bv)])) rfl rfl (hb hby d22_23) _ ?_
      rw [len_of Sq10 Nq10']
      refine XS.iloadN X4.here hx rfl (hb hby d22_24) rfl ?_
      exact k)
  obtain ⟨_, _, ⟨T12, L12, k12, n12⟩, -, X12, ⟨Lc12, hQ12, l12, y12, z12⟩, st12⟩ := Jvm.LawKit.callS X4 hx (y := (⟨"java/lang/Math", "min", "(II)I"⟩ : MethodName)) hown (mvT hZ (hi hw 143 rfl)) (mvT hZ (hi hw 144 rfl)) (mvT hZ (hi hw 135 rfl)) (mvT hZ (hi hw 145 rfl)) (by decide) (backOf (W := 4) (rm23 l Z a0 hw [] zv p1 h4 n0 c5 ) hZ (hi hw 145 rfl) (hi hw 135 rfl) (by decide) (by decide)) (g := (mkF m 25 #[.val (.ref bv), .val (.int p1), .val (.ref b4)] [(.int p1), (.int zv), (.int (0 : Int32)), (.ref b4), (.int (0 : Int32)), (.ref bv)])) rfl (by rw [hml]; rfl) (argsL := [(.int zv), (.int p1)]) (rest := [(.int (0 : Int32)), (.ref b4), (.int (0 : Int32)), (.ref bv)]) (lenOf own_pd2 rfl) rfl (by show 2 * 0 + _ ≤ _; exact Nat.le_of_eq rfl) (hb hby d22_25) (fun _ _ => ⟨rfl, e4, (by decide : 1 + 0 ≤ _), (by decide : 220 + 0 ≤ _)⟩)
  dsimp only [Pt.U, Pt.locs, Pt.cells, Pt.slots] at X12 l12 y12 z12 st12 hQ12
  subst l12 y12 z12
  obtain ⟨rfl, N12q, e12⟩ := hQ12
  have N12 := Fr.app N0 N12q
  have pre12 : ∀ t, Steps p.tables e below (T12.setTop (mkF m 28 #[.val (.ref bv), .val (.int p1), .val (.ref b4)] [(.int (own_f23 zv p1)), (.int (0 : Int32)), (.ref b4), (.int (0 : Int32)), (.ref bv)])) t → P t := fun t k => pre11 t (st12 _ k)
  have pre13 : ∀ t, Steps p.tables e below (T12.setTop (mkF m 28 #[.val (.ref bv), .val (.int p1), .val (.ref b4)] [(.int zv), (.int (0 : Int32)), (.ref b4), (.int (0 : Int32)), (.ref bv)])) t → P t := fun t k => pre12 t (by rw [show (own_f23 zv p1) = zv from (own_Gmin HG)]; exact k)
  obtain ⟨T14, h14, L14, X14, e14, N14, Kc14, Ac14, st14⟩ := cpA X12 hx hZ hown (hi hw 146 rfl) (hi hw 97 rfl) (hi hw 95 rfl) (hi hw 96 rfl) e12 c7 (own_vpad V_b4 (zv).toNatClampNeg) (Or.inl ⟨rfl, rfl⟩) (by decide) (by decide) (own_nn (own_B0 HG.1)) (by rw [own_z0, Nat.zero_add]; exact Nat.le_refl _) (by rw [own_z0, Nat.zero_add]; exact own_Gle HG) rfl (by simp [own_v, own_z0]) N12 g_b4 (g := (mkF m 28 #[.val (.ref bv), .val (.int p1), .val (.ref b4)] [(.int zv), (.int (0 : Int32)), (.ref b4), (.int (0 : Int32)), (.ref bv)])) rfl (by rw [hml]; rfl) rfl (hb hby d22_28) (by decide) (W := 0) (by show 2 * 0 + _ ≤ _; exact Nat.le_of_eq rfl) (by decide)
  have pre14 : ∀ t, Steps p.tables e below (T14.setTop (mkF m 31 #[.val (.ref bv), .val (.int p1), .val (.ref b4)] [])) t → P t := fun t k => pre13 t (st14 _ k)
  have c15 : n0 ≤ h14.size := Nat.le_trans c5 Kc14.1
  have c16 : Old Z n0 h14 := c6.keep Kc14 (allS (P := fun x => n0 ≤ x) g_b4 all0)
  have c17 : Arv Z h14 bv kv .byte zv (own_v vs) (.int 0) := c7.keep Kc14 (ninS (Nat.ne_of_lt (Nat.lt_of_lt_of_le Pr_0.lt (Nat.le_of_eq g4.symm))) nin0)
  have c18 : Exa Z h14 b4 "[B" := Ex4.keep Kc14
  have K19 : Keep h0 h14 [] := K8.trans Kc14 (allS (P := fun x => x ∈ ([] : List Addr) ∨ h0.size ≤ x) (Or.inr sz_b4) all0)
  have V14 : Arv Z h14 b4 k4 .byte p1 (own_v vs) (.int 0) := own_cp0 _ _ (own_Bl HG.1) Ac14
  have pre20 : ∀ t, Steps p.tables e below (T14.setTop (mkF m 32 #[.val (.ref bv), .val (.int p1), .val (.ref b4)] [(.ref b4)])) t → P t := fun t k => pre14 t (by
      refine XS.aloadN X14.here hx rfl (hb hby d22_31) rfl rfl ?_
      exact k)
  obtain ⟨fs, hr, hrun, hended, hW, hsame⟩ := X14.leave (v := some (.ref b4)) (fun h => by rw [Bd.returns] at h; cases h)
  refine ⟨_, _, fin _ (pre20 _ ?_), hrun, hended, _, _, rfl, ?_, ⟨_, rfl⟩, hW, hsame.mono (by decide) (by decide)⟩
  · show Steps p.tables e below (T14.setTop (mkF m 32 #[.val (.ref bv), .val (.int p1), .val (.ref b4)] [(.ref b4)])) _
    jvm_step X14.here [X14.here.top, hx, (hb hby d22_32), X14.method', Bd.returns, Value.isRef, FieldType.isReference]
    first | (intro acts; rw [hr _ acts rfl rfl rfl]) | rw [hr _ _ rfl rfl rfl]
    exact Steps.refl _
  · show Q22 Z bv p1 kv zv vs h0 n0 _ T14.heap _
    rw [e14]
    exact ⟨b4, k4, rfl, N14, K19, V14, c18, g_b4, sz_b4⟩
def own_E (z : Int32) (vs : List Int32) (p : Int32) : Prop := own_B z vs ∧ 0 ≤ p.toInt ∧ p.toInt ≤ 109
theorem own_Ed {z p : Int32} {vs : List Int32} (h : own_E z vs p) : (0 : Int32) < (p - z) ↔ z.toInt < p.toInt := by
  obtain ⟨⟨h0, h3⟩, h1, h2⟩ := h
  have a1 := c_isub p z
  have r1 := rng32 (p - z)
  have e0 : (0 : Int32).toInt = 0 := by decide
  rw [Int32.lt_iff_toInt_lt]
  omega
theorem own_EN {z p : Int32} {vs : List Int32} (h : own_E z vs p) (q : (0 : Int32) < (p - z)) : own_N z vs p := ⟨h.1, (own_Ed h).mp q, h.2.2⟩
theorem own_EG {z p : Int32} {vs : List Int32} (h : own_E z vs p) (q : (0 : Int32) < (p - z)) : own_G z vs (z + (own_f21 (p - z) (z + (2 : Int32)))) := by
  have n := own_EN h q
  have m := own_nc n
  have := n.2
  exact ⟨h.1, by omega, by omega⟩
theorem own_Ey {z p : Int32} {vs : List Int32} (h : own_E z vs p) (q : (0 : Int32) < (p - z)) : own_B (z + (own_f21 (p - z) (z + (2 : Int32)))) vs ∧ p.toInt ≤ (z + (own_f21 (p - z) (z + (2 : Int32)))).toInt := by
  have n := own_EN h q
  have m := own_nc n
  have := n.2
  have := n.1.1
  exact ⟨⟨by omega, by omega⟩, m.1⟩
theorem own_En {z p : Int32} {vs : List Int32} (h : own_E z vs p) (q : ¬ (0 : Int32) < (p - z)) : own_B z vs ∧ p.toInt ≤ z.toInt := by
  rw [own_Ed h] at q
  exact ⟨h.1, by omega⟩
def own_GB (zs : Int32) (us : List Int32) (zv : Int32) (vs : List Int32) (p : Int32) : Prop := (us.length : Int) = zs.toInt ∧ (vs.length : Int) = p.toInt ∧ p.toInt + zs.toInt ≤ zv.toInt
theorem own_GB2 {zs zv p : Int32} {us vs : List Int32} (h : own_GB zs us zv vs p) : 0 ≤ p.toInt := by have := h.2.1; omega
theorem own_GB3 {zs zv p : Int32} {us vs : List Int32} (h : own_GB zs us zv vs p) : 0 ≤ zs.toInt := by have := h.1; omega
theorem own_GB5 {zs zv p : Int32} {us vs : List Int32} (h : own_GB zs us zv vs p) : p.toNatClampNeg + zs.toNatClampNeg ≤ zv.toNatClampNeg := by
  have h2 := own_GB2 h
  have h3 := own_GB3 h
  have h4 := h.2.2
  have := own_tn h2
  have := own_tn h3
  have := own_tn (z := zv) (by omega)
  omega
theorem own_GBv {zs zv p : Int32} {us vs : List Int32} (h : own_GB zs us zv vs p) : p.toNatClampNeg = vs.length := by have := own_tn (own_GB2 h); have := h.2.1; omega
theorem own_GBu {zs zv p : Int32} {us vs : List Int32} (h : own_GB zs us zv vs p) : zs.toNatClampNeg = us.length := by have := own_tn (own_GB3 h); have := h.1; omega
theorem own_GBl {zs zv p : Int32} {us vs : List Int32} (h : own_GB zs us zv vs p) : p.toNatClampNeg + zs.toNatClampNeg ≤ (own_v vs ++ List.replicate zs.toNatClampNeg (Value.int 0)).length := by
  rw [own_GBv h]; simp [own_v]
theorem own_all (us : List Int32) : ((List.range us.length).map fun i => (own_v us).getD i (Value.int 0)) = own_v us := by
  apply List.ext_getElem
  · simp [own_v]
  · intro i h1 h2
    have h3 : i < us.length := by simpa [own_v] using h2
    simp [own_v, h3]
theorem own_cp1 {Z : State} {h : Heap} {a : Addr} {k : ClassId} {z zs zv p : Int32} {us vs : List Int32} (B : own_GB zs us zv vs p) (A : Arv Z h a k .byte z ((own_v vs ++ List.replicate zs.toNatClampNeg (Value.int 0)).take p.toNatClampNeg ++ ((List.range zs.toNatClampNeg).map fun i => (own_v us).getD ((0 : Int32).toNatClampNeg + i) (.int 0)) ++ (own_v vs ++ List.replicate zs.toNatClampNeg (Value.int 0)).drop (p.toNatClampNeg + zs.toNatClampNeg)) (.int 0)) : Arv Z h a k .byte z (own_v (vs ++ us)) (.int 0) := by
  have e : own_v (vs ++ us) = ((own_v vs ++ List.replicate zs.toNatClampNeg (Value.int 0)).take p.toNatClampNeg ++ ((List.range zs.toNatClampNeg).map fun i => (own_v us).getD ((0 : Int32).toNatClampNeg + i) (.int 0)) ++ (own_v vs ++ List.replicate zs.toNatClampNeg (Value.int 0)).drop (p.toNatClampNeg + zs.toNatClampNeg)) := by
    rw [own_GBv B, own_GBu B, own_z0]
    simp only [Nat.zero_add]
    rw [own_all]
    have e1 : (own_v vs).length = vs.length := by simp [own_v]
    rw [List.drop_eq_nil_of_le (by simp [own_v]), List.append_nil, ← e1, List.take_left]
    simp [own_v]
  rw [e]; exact A
def own_S (zv : Int32) (vs : List Int32) (nv zs : Int32) (us : List Int32) : Prop := own_B zv vs ∧ nv.toInt = (vs.length : Int) ∧ (us.length : Int) = zs.toInt ∧ nv.toInt + zs.toInt ≤ 109
theorem own_Sadd {zv nv zs : Int32} {vs us : List Int32} (h : own_S zv vs nv zs us) : (nv + zs).toInt = nv.toInt + zs.toInt := by
  obtain ⟨-, h1, h2, h3⟩ := h
  have a1 := c_iadd nv zs
  have r1 := rng32 (nv + zs)
  omega
theorem own_SE {zv nv zs : Int32} {vs us : List Int32} (h : own_S zv vs nv zs us) : own_E zv vs (nv + zs) := by
  have := own_Sadd h
  obtain ⟨h0, h1, h2, h3⟩ := h
  exact ⟨h0, by omega, by omega⟩
theorem own_SB {zv zn nv zs : Int32} {vs us : List Int32} (h : own_S zv vs nv zs us) (q : own_B zn vs ∧ (nv + zs).toInt ≤ zn.toInt) : own_GB zs us zn vs nv := by
  have := own_Sadd h
  obtain ⟨h0, h1, h2, h3⟩ := h
  exact ⟨h2, h1.symm, by have := q.2; omega⟩
theorem own_Sz {zv zn nv zs : Int32} {vs us : List Int32} (h : own_S zv vs nv zs us) (q : own_B zn vs ∧ (nv + zs).toInt ≤ zn.toInt) : own_B zn (vs ++ us) := by
  have := own_Sadd h
  obtain ⟨h0, h1, h2, h3⟩ := h
  have := q.2
  exact ⟨by rw [List.length_append]; omega, q.1.2⟩
theorem own_pd4 : parseMethodDescriptor "(I)I" = some ⟨[.int], some .int⟩ := by decide +kernel
theorem own_pd5 : parseMethodDescriptor "([BI)[B" = some ⟨[(.array .byte), .int], some (.array .byte)⟩ := by decide +kernel
theorem d10_0 : decode jdk_68_method_9_code 0 = .ok (.aload_n 0, 1) := by decide +kernel
theorem d10_1 : decode jdk_68_method_9_code 1 = .ok (.getfield 15, 3) := by decide +kernel
theorem d10_4 : decode jdk_68_method_9_code 4 = .ok (.arraylength, 1) := by decide +kernel
theorem d10_5 : decode jdk_68_method_9_code 5 = .ok (.aload_n 0, 1) := by decide +kernel
theorem d10_6 : decode jdk_68_method_9_code 6 = .ok (.getfield 22, 3) := by decide +kernel
theorem d10_9 : decode jdk_68_method_9_code 9 = .ok (.ishr, 1) := by decide +kernel
theorem d10_10 : decode jdk_68_method_9_code 10 = .ok (.istore_n 2, 1) := by decide +kernel
theorem d10_11 : decode jdk_68_method_9_code 11 = .ok (.iload_n 1, 1) := by decide +kernel
theorem d10_12 : decode jdk_68_method_9_code 12 = .ok (.iload_n 2, 1) := by decide +kernel
theorem d10_13 : decode jdk_68_method_9_code 13 = .ok (.isub, 1) := by decide +kernel
theorem d10_14 : decode jdk_68_method_9_code 14 = .ok (.ifCond .le 24, 3) := by decide +kernel
theorem d10_17 : decode jdk_68_method_9_code 17 = .ok (.aload_n 0, 1) := by decide +kernel
theorem d10_18 : decode jdk_68_method_9_code 18 = .ok (.aload_n 0, 1) := by decide +kernel
theorem d10_19 : decode jdk_68_method_9_code 19 = .ok (.getfield 15, 3) := by decide +kernel
theorem d10_22 : decode jdk_68_method_9_code 22 = .ok (.aload_n 0, 1) := by decide +kernel
theorem d10_23 : decode jdk_68_method_9_code 23 = .ok (.iload_n 1, 1) := by decide +kernel
theorem d10_24 : decode jdk_68_method_9_code 24 = .ok (.invokevirtual 104, 3) := by decide +kernel
theorem d10_27 : decode jdk_68_method_9_code 27 = .ok (.aload_n 0, 1) := by decide +kernel
theorem d10_28 : decode jdk_68_method_9_code 28 = .ok (.getfield 22, 3) := by decide +kernel
theorem d10_31 : decode jdk_68_method_9_code 31 = .ok (.ishl, 1) := by decide +kernel
theorem d10_32 : decode jdk_68_method_9_code 32 = .ok (.invokestatic 108, 3) := by decide +kernel
theorem d10_35 : decode jdk_68_method_9_code 35 = .ok (.putfield 15, 3) := by decide +kernel
theorem d10_38 : decode jdk_68_method_9_code 38 = .ok (.return_, 1) := by decide +kernel
theorem pn_10 : plainName "java/lang/AbstractStringBuilder" = true := by first | (simp [plainName, overriddenIn]; done) | decide +kernel
theorem ef_10 (m : MethodId) (o0 : Addr) (p1 : Int32) : entryFrame m #[(.ref o0), (.int p1)] 3 = mkF m 0 #[.val (.ref o0), .val (.int p1), .unset] [] := by first | (simp [entryFrame, mkF, argsToLocals, Value.category]; done) | rfl
def Q10 (Z : State) (o0 : Addr) (p1 : Int32) (bv : Addr) (kv : ClassId) (zv : Int32) (vs : List Int32) (nv : Int32) (h0 : Heap) (n0 : Nat) (v : Option Value) (h : Heap) (L : List Loc) : Prop := ∃ bn : Addr, ∃ kn : ClassId, ∃ zn : Int32, v = none ∧ Fr n0 L ∧ Keep h0 h [o0] ∧ Exa Z h o0 "java/lang/StringBuilder" ∧ Fld Z h o0 "java/lang/AbstractStringBuilder" "coder" "B" (.int (0 : Int32)) ∧ Fld Z h o0 "java/lang/AbstractStringBuilder" "value" "[B" (.ref bn) ∧ Fld Z h o0 "java/lang/AbstractStringBuilder" "count" "I" (.int nv) ∧ Arv Z h bn kn .byte zn (own_v vs) (.int 0) ∧ Exa Z h bn "[B" ∧ n0 ≤ bn ∧ (bn = bv ∨ h0.size ≤ bn) ∧ (own_B zn vs ∧ p1.toInt ≤ zn.toInt)
set_option maxRecDepth 65536 in
set_option maxHeartbeats 40000000 in
theorem rm10 (l : Launch) (Z : State) (a0 : Array Value) (hw : ∀ d ∈ tables_1, d.before a0 Z = true) (ws : List Jvm.Cond) (o0 : Addr) (p1 : Int32) (bv : Addr) (kv : ClassId) (zv : Int32) (vs : List Int32) (nv : Int32) (h0 : Heap) (n0 : Nat) (Z0 : n0 ≤ h0.size) (OLD0 : Old Z n0 h0) (Pr_0 : Exa Z h0 o0 "java/lang/StringBuilder") (Pr_1 : Fld Z h0 o0 "java/lang/AbstractStringBuilder" "coder" "B" (.int (0 : Int32))) (Pr_2 : Fld Z h0 o0 "java/lang/AbstractStringBuilder" "value" "[B" (.ref bv)) (Pr_3 : Fld Z h0 o0 "java/lang/AbstractStringBuilder" "count" "I" (.int nv)) (Pr_4 : Arv Z h0 bv kv .byte zv (own_v vs) (.int 0)) (Pr_5 : Exa Z h0 bv "[B") (g_o0 : n0 ≤ o0) (g_bv : n0 ≤ bv) (HE : own_E zv vs p1) :
    MetFree l (⟨"java/lang/AbstractStringBuilder", "ensureCapacityInternal", "(I)V"⟩ : MethodName) (head1 (Jvm.Cond.code (⟨"java/lang/AbstractStringBuilder", "ensureCapacityInternal", "(I)V"⟩ : MethodName) jdk_68_method_9_code 3 none :: ws) ({ frames := 3, cells := 1, slots := 220, locals := 48 } : Room)) (fun a U => a = #[(.ref o0), (.int p1)] ∧ Z.Warmed39 U.vm ∧ U.heap = h0) (fun _ _ _ _ _ => True) (fun _ U o U' => ∃ v L, o = .returned v ∧ Q10 Z o0 p1 bv kv zv vs nv h0 n0 v U'.heap L ∧ FrameEnd U o U' L ({ frames := 3, cells := 1, slots := 220, locals := 48 } : Room).cells ({ frames := 3, cells := 1, slots := 220, locals := 48 } : Room).slots) := by
  refine MetFree.of_bodySF (plainFor_of_name pn_10) hisR ?_
  intro p e s m args below meth c s₁ Bd hml0 hP hK
  obtain ⟨rfl, hZ, hh⟩ := hP
  have hx := Bd.exec
  have hby := Bd.bytes
  have hml : c.maxLocals = 3 := hml0
  have hown : s.vm.findClass "java/lang/AbstractStringBuilder" = some m.cls := findClass_of_methodNamed Bd.named
  have hnm := (name_of_methodNamed Bd.named Bd.method).1
  have X0 : Stand p l e ({ frames := 3, cells := 1, slots := 220, locals := 48 } : Room) s m #[(.ref o0), (.int p1)] below meth c s₁ [] 0 0 := Stand.of_body Bd
  have e0 : s₁.heap = h0 := by rw [← hh, Bd.state]; rfl
  have N0 := Fr.nil n0
  obtain ⟨P, pre0, fin⟩ : ∃ P : State → Prop, (∀ t, Steps p.tables e below (s₁.setTop (mkF m 0 #[.val (.ref o0), .val (.int p1), .unset] [])) t → P t) ∧ (∀ t, P t → Steps p.tables e below (s₁.setTop (entryFrame m #[(.ref o0), (.int p1)] 3)) t) := ⟨fun t => Steps p.tables e below (s₁.setTop (entryFrame m #[(.ref o0), (.int p1)] 3)) t, fun t k => castTop (ef_10 m o0 p1) k, fun t k => k⟩
  have K0 : Keep h0 h0 [o0] := Keep.refl _ _
  have pre1 : ∀ t, Steps p.tables e below (s₁.setTop (mkF m 1 #[.val (.ref o0), .val (.int p1), .unset] [(.ref o0)])) t → P t := fun t k => pre0 t (by
      refine XS.aloadN X0.here hx rfl (hb hby d10_0) rfl rfl ?_
      exact k)
  obtain ⟨T2, X2, e2, st2⟩ := getF X0 hx hZ hown (host := "") (Or.inl (hi hw 38 rfl)) Via.refl e0 Pr_2 (g := (mkF m 1 #[.val (.ref o0), .val (.int p1), .unset] [(.ref o0)])) rfl rfl (hb hby d10_1)
  have pre2 : ∀ t, Steps p.tables e below (T2.setTop (mkF m 4 #[.val (.ref o0), .val (.int p1), .unset] [(.ref bv)])) t → P t := fun t k => pre1 t (st2 _ k)
  obtain ⟨clq3, Arq3, -, Sq3, Nq3', -, -⟩ := id Pr_4
  have pre4 : ∀ t, Steps p.tables e below (T2.setTop (mkF m 6 #[.val (.ref o0), .val (.int p1), .unset] [(.ref o0), (.int zv)])) t → P t := fun t k => pre2 t (by
      refine X2.arraylength hx (by rw [e2]; exact Arq3.1) (State.isArrayOf_alike hZ.alike Arq3.2.1) (g := (mkF m 4 #[.val (.ref o0), .val (.int p1), .unset] [(.ref bv)])) rfl rfl (hb hby d10_4) _ ?_
      rw [len_of Sq3 Nq3']
      refine XS.aloadN X2.here hx rfl (hb hby d10_5) rfl rfl ?_
      exact k)
  obtain ⟨T5, X5, e5, st5⟩ := getF X2 hx hZ hown (host := "") (Or.inl (hi hw 40 rfl)) Via.refl e2 Pr_1 (g := (mkF m 6 #[.val (.ref o0), .val (.int p1), .unset] [(.ref o0), (.int zv)])) rfl rfl (hb hby d10_6)
  have pre5 : ∀ t, Steps p.tables e below (T5.setTop (mkF m 9 #[.val (.ref o0), .val (.int p1), .unset] [(.int (0 : Int32)), (.int zv)])) t → P t := fun t k => pre4 t (st5 _ k)
  have pre6 : ∀ t, Steps p.tables e below (T5.setTop (mkF m 10 #[.val (.ref o0), .val (.int p1), .unset] [(.int (zv >>> ((0 : Int32) &&& 31)))])) t → P t := fun t k => pre5 t (by
      refine XS.ishr X5.here hx rfl (hb hby d10_9) rfl ?_
      exact k)
  have pre7 : ∀ t, Steps p.tables e below (T5.setTop (mkF m 10 #[.val (.ref o0), .val (.int p1), .unset] [(.int zv)])) t → P t := fun t k => pre6 t (by rw [show (zv >>> ((0 : Int32) &&& 31)) = zv from (own_shr0 _)]; exact k)
  have pre8 : ∀ t, Steps p.tables e below (T5.setTop (mkF m 14 #[.val (.ref o0), .val (.int p1), .val (.int zv)] [(.int (p1 - zv))])) t → P t := fun t k => pre7 t (by
      refine XS.istoreN X5.here hx rfl (hb hby d10_10) rfl (l' := #[.val (.ref o0), .val (.int p1), .val (.int zv)]) rfl ?_
      refine XS.iloadN X5.here hx rfl (hb hby d10_11) rfl ?_
      refine XS.iloadN X5.here hx rfl (hb hby d10_12) rfl ?_
      refine XS.isub X5.here hx rfl (hb hby d10_13) rfl ?_
      exact k)
  by_cases hc9 : (0 : Int32) < (p1 - zv)
  · have pre10 : ∀ t, Steps p.tables e below (T5.setTop (mkF m 19 #[.val (.ref o0), .val (.int p1), .val (.int zv)] [(.ref o0), (.ref o0)])) t → P t := fun t k => pre8 t (by
        refine XS.ifNo X5.here hx rfl (hb hby d10_14) rfl ((if0 _ _).trans (tlt hc9).2.2.2) ?_
        refine XS.aloadN X5.here hx rfl (hb hby d10_17) rfl rfl ?_
        refine XS.aloadN X5.here hx rfl (hb hby d10_18) rfl rfl ?_
        exact k)
    obtain ⟨T11, X11, e11, st11⟩ := getF X5 hx hZ hown (host := "") (Or.inl (hi hw 38 rfl)) Via.refl e5 Pr_2 (g := (mkF m 19 #[.val (.ref o0), .val (.int p1), .val (.int zv)] [(.ref o0), (.ref o0)])) rfl rfl (hb hby d10_19)
    have pre11 : ∀ t, Steps p.tables e below (T11.setTop (mkF m 22 #[.val (.ref o0), .val (.int p1), .val (.int zv)] [(.ref bv), (.ref o0)])) t → P t := fun t k => pre10 t (st11 _ k)
    have pre12 : ∀ t, Steps p.tables e below (T11.setTop (mkF m 24 #[.val (.ref o0), .val (.int p1), .val (.int zv)] [(.int p1), (.ref o0), (.ref bv), (.ref o0)])) t → P t := fun t k => pre11 t (by
        refine XS.aloadN X11.here hx rfl (hb hby d10_22) rfl rfl ?_
        refine XS.iloadN X11.here hx rfl (hb hby d10_23) rfl ?_
        exact k)
    obtain ⟨cq13, kq13, q13a, q13b, q13c⟩ := isOf hZ e11 Pr_0
    obtain ⟨_, _, ⟨T13, L13, k13, n13⟩, -, X13, ⟨Lc13, hQ13, l13, y13, z13⟩, st13⟩ := X11.virtualBack hx (y := (⟨"java/lang/AbstractStringBuilder", "newCapacity", "(I)I"⟩ : MethodName)) (z := (⟨"java/lang/AbstractStringBuilder", "newCapacity", "(I)I"⟩ : MethodName)) hown (mvT hZ (hi hw 124 rfl)) (mvT hZ (own_decl (hi hw 125 rfl) (hi hw 128 rfl))) (notFace_of_selects (args := #[]) (mvT hZ (hi hw 127 rfl))) (mvT hZ (hi hw 127 rfl)) (mvT hZ (hi hw 125 rfl)) (by decide) (backOf (W := 2) (rm19 l Z a0 hw [] o0 p1 bv kv zv vs h0 n0 Z0 OLD0 Pr_2 Pr_1 Pr_4 (own_EN HE hc9)) hZ (hi hw 128 rfl) (hi hw 32 rfl) (by decide) (by decide)) q13a q13c (g := (mkF m 24 #[.val (.ref o0), .val (.int p1), .val (.int zv)] [(.int p1), (.ref o0), (.ref bv), (.ref o0)])) rfl (by rw [hml]; rfl) (Steps.refl _) (argsL := [(.int p1)]) (rest := [(.ref bv), (.ref o0)]) (lenOf own_pd4 rfl) rfl (by show 2 * 0 + _ ≤ _; exact Nat.le_of_eq rfl) (hb hby d10_24) (fun _ _ => ⟨rfl, e11, (by decide : 0 + 0 ≤ _), (by decide : 0 + 0 ≤ _)⟩)
    dsimp only [Pt.U, Pt.locs, Pt.cells, Pt.slots] at X13 l13 y13 z13 st13 hQ13
    subst l13 y13 z13
    obtain ⟨rfl, N13q, e13⟩ := hQ13
    have N13 := Fr.app N0 N13q
    have pre13 : ∀ t, Steps p.tables e below (T13.setTop (mkF m 27 #[.val (.ref o0), .val (.int p1), .val (.int zv)] [(.int (zv + (own_f21 (p1 - zv) (zv + (2 : Int32))))), (.ref bv), (.ref o0)])) t → P t := fun t k => pre12 t (st13.trans k)
    have pre14 : ∀ t, Steps p.tables e below (T13.setTop (mkF m 28 #[.val (.ref o0), .val (.int p1), .val (.int zv)] [(.ref o0), (.int (zv + (own_f21 (p1 - zv) (zv + (2 : Int32))))), (.ref bv), (.ref o0)])) t → P t := fun t k => pre13 t (by
        refine XS.aloadN X13.here hx rfl (hb hby d10_27) rfl rfl ?_
        exact k)
    obtain ⟨T15, X15, e15, st15⟩ := getF X13 hx hZ hown (host := "") (Or.inl (hi hw 40 rfl)) Via.refl e13 Pr_1 (g := (mkF m 28 #[.val (.ref o0), .val (.int p1), .val (.int zv)] [(.ref o0), (.int (zv + (own_f21 (p1 - zv) (zv + (2 : Int32))))), (.ref bv), (.ref o0)])) rfl rfl (hb hby d10_28)
    have pre15 : ∀ t, Steps p.tables e below (T15.setTop (mkF m 31 #[.val (.ref o0), .val (.int p1), .val (.int zv)] [(.int (0 : Int32)), (.int (zv + (own_f21 (p1 - zv) (zv + (2 : Int32))))), (.ref bv), (.ref o0)])) t → P t := fun t k => pre14 t (st15 _ k)
    have pre16 : ∀ t, Steps p.tables e below (T15.setTop (mkF m 32 #[.val (.ref o0), .val (.int p1), .val (.int zv)] [(.int ((zv + (own_f21 (p1 - zv) (zv + (2 : Int32)))) <<< ((0 : Int32) &&& 31))), (.ref bv), (.ref o0)])) t → P t := fun t k => pre15 t (by
        refine XS.ishl X15.here hx rfl (hb hby d10_31) rfl ?_
        exact k)
    have pre17 : ∀ t, Steps p.tables e below (T15.setTop (mkF m 32 #[.val (.ref o0), .val (.int p1), .val (.int zv)] [(.int (zv + (own_f21 (p1 - zv) (zv + (2 : Int32))))), (.ref bv), (.ref o0)])) t → P t := fun t k => pre16 t (by rw [show ((zv + (own_f21 (p1 - zv) (zv + (2 : Int32)))) <<< ((0 : Int32) &&& 31)) = (zv + (own_f21 (p1 - zv) (zv + (2 : Int32)))) from (own_shl0 _)]; exact k)
    obtain ⟨_, _, ⟨T18, L18, k18, n18⟩, -, X18, ⟨Lc18, hQ18, l18, y18, z18⟩, st18⟩ := Jvm.LawKit.callS X15 hx (y := (⟨"java/util/Arrays", "copyOf", "([BI)[B"⟩ : MethodName)) hown (mvT hZ (hi hw 139 rfl)) (mvT hZ (hi hw 140 rfl)) (mvT hZ (hi hw 141 rfl)) (mvT hZ (hi hw 142 rfl)) (by decide) (backOf (W := 1) (rm22 l Z a0 hw [] bv (zv + (own_f21 (p1 - zv) (zv + (2 : Int32)))) kv zv vs h0 n0 Z0 OLD0 Pr_4 (own_EG HE hc9)) hZ (hi hw 142 rfl) (hi hw 141 rfl) (by decide) (by decide)) (g := (mkF m 32 #[.val (.ref o0), .val (.int p1), .val (.int zv)] [(.int (zv + (own_f21 (p1 - zv) (zv + (2 : Int32))))), (.ref bv), (.ref o0)])) rfl (by rw [hml]; rfl) (argsL := [(.ref bv), (.int (zv + (own_f21 (p1 - zv) (zv + (2 : Int32)))))]) (rest := [(.ref o0)]) (lenOf own_pd5 rfl) rfl (by show 2 * 0 + _ ≤ _; exact Nat.le_of_eq rfl) (hb hby d10_32) (fun _ _ => ⟨rfl, e15, (by decide : 0 + 1 ≤ _), (by decide : 0 + 220 ≤ _)⟩)
    dsimp only [Pt.U, Pt.locs, Pt.cells, Pt.slots] at X18 l18 y18 z18 st18 hQ18
    subst l18 y18 z18
    obtain ⟨bn_18, kn_18, rfl, N18q, K18, FF18_0, FF18_1, FF18_2, FF18_3⟩ := hQ18
    have c19 : n0 ≤ T18.heap.size := Nat.le_trans Z0 K18.1
    have c20 : Old Z n0 T18.heap := OLD0.keep K18 all0
    have c21 : Exa Z T18.heap o0 "java/lang/StringBuilder" := Pr_0.keep K18
    have c22 : Fld Z T18.heap o0 "java/lang/AbstractStringBuilder" "coder" "B" (.int (0 : Int32)) := Pr_1.keep K18 nin0
    have c23 : Fld Z T18.heap o0 "java/lang/AbstractStringBuilder" "value" "[B" (.ref bv) := Pr_2.keep K18 nin0
    have c24 : Fld Z T18.heap o0 "java/lang/AbstractStringBuilder" "count" "I" (.int nv) := Pr_3.keep K18 nin0
    have c25 : Arv Z T18.heap bv kv .byte zv (own_v vs) (.int 0) := Pr_4.keep K18 nin0
    have c26 : Exa Z T18.heap bv "[B" := Pr_5.keep K18
    have K27 : Keep h0 T18.heap [o0] := K0.trans K18 all0
    have g_bn_18 := FF18_2
    have SZ_bn_18 := FF18_3
    have sz_bn_18 : h0.size ≤ bn_18 := Nat.le_trans K0.1 FF18_3
    have N18 := Fr.app N13 N18q
    have pre18 : ∀ t, Steps p.tables e below (T18.setTop (mkF m 35 #[.val (.ref o0), .val (.int p1), .val (.int zv)] [(.ref bn_18), (.ref o0)])) t → P t := fun t k => pre17 t (st18 _ k)
    obtain ⟨T28, h28, X28, e28, W28, st28⟩ := putF X18 hx hZ hown (host := "") (Or.inl (hi hw 38 rfl)) Via.refl rfl c23 c21 (Or.inl (hi hw 39 rfl)) (hi hw 23 rfl) (ty := (.array .byte)) (by decide) rfl rfl (g := (mkF m 35 #[.val (.ref o0), .val (.int p1), .val (.int zv)] [(.ref bn_18), (.ref o0)])) rfl rfl (hb hby d10_35)
    have pre28 : ∀ t, Steps p.tables e below (T28.setTop (mkF m 38 #[.val (.ref o0), .val (.int p1), .val (.int zv)] [])) t → P t := fun t k => pre18 t (st28 _ k)
    have Fw28 := c23.same W28
    have c29 : n0 ≤ h28.size := Nat.le_trans c19 (Keep.of_wr W28).1
    have c30 : Old Z n0 h28 := c20.wr W28 g_o0
    have c31 : Exa Z h28 o0 "java/lang/StringBuilder" := c21.wr W28
    have c32 : Fld Z h28 o0 "java/lang/AbstractStringBuilder" "coder" "B" (.int (0 : Int32)) := c22.other W28 (Or.inr (slot_ne (Or.inl (hi hw 41 rfl)) (Or.inl (hi hw 39 rfl)) (by decide) (t := .byte) (t' := (.array .byte)) (by decide) (by decide)))
    have c33 : Fld Z h28 o0 "java/lang/AbstractStringBuilder" "count" "I" (.int nv) := c24.other W28 (Or.inr (slot_ne (Or.inl (hi hw 72 rfl)) (Or.inl (hi hw 39 rfl)) (by decide) (t := .int) (t' := (.array .byte)) (by decide) (by decide)))
    have c34 : Arv Z h28 bv kv .byte zv (own_v vs) (.int 0) := c25.other W28 (ne_exa c26 c21 (by decide))
    have c35 : Exa Z h28 bv "[B" := c26.wr W28
    have c36 : Arv Z h28 bn_18 kn_18 .byte (zv + (own_f21 (p1 - zv) (zv + (2 : Int32)))) (own_v vs) (.int 0) := FF18_0.other W28 (Ne.symm (Nat.ne_of_lt (Nat.lt_of_lt_of_le Pr_3.lt SZ_bn_18)))
    have c37 : Exa Z h28 bn_18 "[B" := FF18_1.wr W28
    have K38 : Keep h0 h28 [o0] := K27.wr W28 (Or.inl (List.mem_of_getElem? (i := 0) rfl))
    have N28 := Fr.snoc X28 N18 g_o0
    obtain ⟨fs, hr, hrun, hended, hW, hsame⟩ := X28.leave (v := none) (fun _ => rfl)
    refine ⟨_, _, fin _ (pre28 _ ?_), hrun, hended, _, _, rfl, ?_, ⟨_, rfl⟩, hW, hsame.mono (by decide) (by decide)⟩
    · show Steps p.tables e below (T28.setTop (mkF m 38 #[.val (.ref o0), .val (.int p1), .val (.int zv)] [])) _
      exact X28.returnOut hx Bd.returns (hb hby d10_38) hr
    · show Q10 Z o0 p1 bv kv zv vs nv h0 n0 _ T28.heap _
      rw [e28]
      exact ⟨bn_18, kn_18, (zv + (own_f21 (p1 - zv) (zv + (2 : Int32)))), rfl, N28, K38, c31, c32, Fw28, c33, c36, c37, g_bn_18, (Or.inr sz_bn_18), (own_Ey HE hc9)⟩
  · have pre39 : ∀ t, Steps p.tables e below (T5.setTop (mkF m 38 #[.val (.ref o0), .val (.int p1), .val (.int zv)] [])) t → P t := fun t k => pre8 t (by
        refine XS.ifYes X5.here hx rfl (pc0 := 14) (pc' := 38) rfl (hb hby d10_14) rfl ((if0 _ _).trans (flt hc9).2.2.2) (by decide) (by decide) ?_
        exact k)
    obtain ⟨fs, hr, hrun, hended, hW, hsame⟩ := X5.leave (v := none) (fun _ => rfl)
    refine ⟨_, _, fin _ (pre39 _ ?_), hrun, hended, _, _, rfl, ?_, ⟨_, rfl⟩, hW, hsame.mono (by decide) (by decide)⟩
    · show Steps p.tables e below (T5.setTop (mkF m 38 #[.val (.ref o0), .val (.int p1), .val (.int zv)] [])) _
      exact X5.returnOut hx Bd.returns (hb hby d10_38) hr
    · show Q10 Z o0 p1 bv kv zv vs nv h0 n0 _ T5.heap _
      rw [e5]
      exact ⟨bv, kv, zv, rfl, N0, K0, Pr_0, Pr_1, Pr_2, Pr_3, Pr_4, Pr_5, g_bv, (Or.inl rfl), (own_En HE hc9)⟩
theorem d12_0 : decode jdk_68_method_71_code 0 = .ok (.getstatic 18, 3) := by decide +kernel
theorem d12_3 : decode jdk_68_method_71_code 3 = .ok (.ifCond .eq 18, 3) := by decide +kernel
theorem d12_6 : decode jdk_68_method_71_code 6 = .ok (.aload_n 0, 1) := by decide +kernel
theorem d12_7 : decode jdk_68_method_71_code 7 = .ok (.getfield 22, 3) := by decide +kernel
theorem d12_10 : decode jdk_68_method_71_code 10 = .ok (.aload_n 1, 1) := by decide +kernel
theorem d12_11 : decode jdk_68_method_71_code 11 = .ok (.invokevirtual 40, 3) := by decide +kernel
theorem d12_14 : decode jdk_68_method_71_code 14 = .ok (.if_icmp .eq 7, 3) := by decide +kernel
theorem d12_21 : decode jdk_68_method_71_code 21 = .ok (.return_, 1) := by decide +kernel
theorem pn_12 : plainName "java/lang/AbstractStringBuilder" = true := by first | (simp [plainName, overriddenIn]; done) | decide +kernel
theorem ef_12 (m : MethodId) (o0 : Addr) (o1 : Addr) : entryFrame m #[(.ref o0), (.ref o1)] 2 = mkF m 0 #[.val (.ref o0), .val (.ref o1)] [] := by first | (simp [entryFrame, mkF, argsToLocals, Value.category]; done) | rfl
def Q12 (Z : State) (o0 : Addr) (o1 : Addr) (h0 : Heap) (n0 : Nat) (v : Option Value) (h : Heap) (L : List Loc) : Prop := v = none ∧ Fr n0 L ∧ h = h0
set_option maxRecDepth 65536 in
set_option maxHeartbeats 40000000 in
theorem rm12 (l : Launch) (Z : State) (a0 : Array Value) (hw : ∀ d ∈ tables_1, d.before a0 Z = true) (ws : List Jvm.Cond) (o0 : Addr) (o1 : Addr) (h0 : Heap) (n0 : Nat) (Z0 : n0 ≤ h0.size) (OLD0 : Old Z n0 h0) (Pr_0 : Exa Z h0 o1 "java/lang/String") (Pr_1 : Fld Z h0 o0 "java/lang/AbstractStringBuilder" "coder" "B" (.int (0 : Int32))) (Pr_2 : Fld Z h0 o1 "java/lang/String" "coder" "B" (.int (0 : Int32))) (HC : own_CC Z) :
    MetFree l (⟨"java/lang/AbstractStringBuilder", "inflateIfNeededFor", "(Ljava/lang/String;)V"⟩ : MethodName) (head1 (Jvm.Cond.code (⟨"java/lang/AbstractStringBuilder", "inflateIfNeededFor", "(Ljava/lang/String;)V"⟩ : MethodName) jdk_68_method_71_code 2 none :: ws) ({ frames := 1, cells := 0, slots := 0, locals := 13 } : Room)) (fun a U => a = #[(.ref o0), (.ref o1)] ∧ Z.Warmed39 U.vm ∧ U.heap = h0) (fun _ _ _ _ _ => True) (fun _ U o U' => ∃ v L, o = .returned v ∧ Q12 Z o0 o1 h0 n0 v U'.heap L ∧ FrameEnd U o U' L ({ frames := 1, cells := 0, slots := 0, locals := 13 } : Room).cells ({ frames := 1, cells := 0, slots := 0, locals := 13 } : Room).slots) := by
  refine MetFree.of_bodySF (plainFor_of_name pn_12) hisR ?_
  intro p e s m args below meth c s₁ Bd hml0 hP hK
  obtain ⟨rfl, hZ, hh⟩ := hP
  have hx := Bd.exec
  have hby := Bd.bytes
  have hml : c.maxLocals = 2 := hml0
  have hown : s.vm.findClass "java/lang/AbstractStringBuilder" = some m.cls := findClass_of_methodNamed Bd.named
  have hnm := (name_of_methodNamed Bd.named Bd.method).1
  have X0 : Stand p l e ({ frames := 1, cells := 0, slots := 0, locals := 13 } : Room) s m #[(.ref o0), (.ref o1)] below meth c s₁ [] 0 0 := Stand.of_body Bd
  have e0 : s₁.heap = h0 := by rw [← hh, Bd.state]; rfl
  have N0 := Fr.nil n0
  obtain ⟨P, pre0, fin⟩ : ∃ P : State → Prop, (∀ t, Steps p.tables e below (s₁.setTop (mkF m 0 #[.val (.ref o0), .val (.ref o1)] [])) t → P t) ∧ (∀ t, P t → Steps p.tables e below (s₁.setTop (entryFrame m #[(.ref o0), (.ref o1)] 2)) t) := ⟨fun t => Steps p.tables e below (s₁.setTop (entryFrame m #[(.ref o0), (.ref o1)] 2)) t, fun t k => castTop (ef_12 m o0 o1) k, fun t k => k⟩
  have K0 : Keep h0 h0 [] := Keep.refl _ _
  obtain ⟨cs, fm, d1, d2, k1, k2, hcs, hSc, hSf, hS1, hS2, hD1, hD2, hfm⟩ := id HC
  obtain ⟨T1, X1, e1, st1⟩ := getS2 X0 hx hZ hown (host := "") (Or.inl (hi hw 35 rfl)) Via.refl e0 (hSc.ext OLD0.2) (g := (mkF m 0 #[.val (.ref o0), .val (.ref o1)] [])) rfl (hb hby d12_0)
  have pre1 : ∀ t, Steps p.tables e below (T1.setTop (mkF m 3 #[.val (.ref o0), .val (.ref o1)] [(.int cs)])) t → P t := fun t k => pre0 t (st1 _ k)
  have pre2 : ∀ t, Steps p.tables e below (T1.setTop (mkF m 7 #[.val (.ref o0), .val (.ref o1)] [(.ref o0)])) t → P t := fun t k => pre1 t (by
      refine XS.ifNo X1.here hx rfl (hb hby d12_3) rfl ((if0 _ _).trans (feq hcs).1) ?_
      refine XS.aloadN X1.here hx rfl (hb hby d12_6) rfl rfl ?_
      exact k)
  obtain ⟨T3, X3, e3, st3⟩ := getF X1 hx hZ hown (host := "") (Or.inl (hi hw 40 rfl)) Via.refl e1 Pr_1 (g := (mkF m 7 #[.val (.ref o0), .val (.ref o1)] [(.ref o0)])) rfl rfl (hb hby d12_7)
  have pre3 : ∀ t, Steps p.tables e below (T3.setTop (mkF m 10 #[.val (.ref o0), .val (.ref o1)] [(.int (0 : Int32))])) t → P t := fun t k => pre2 t (st3 _ k)
  have pre4 : ∀ t, Steps p.tables e below (T3.setTop (mkF m 11 #[.val (.ref o0), .val (.ref o1)] [(.ref o1), (.int (0 : Int32))])) t → P t := fun t k => pre3 t (by
      refine XS.aloadN X3.here hx rfl (hb hby d12_10) rfl rfl ?_
      exact k)
  obtain ⟨cq5, kq5, q5a, q5b, q5c⟩ := isOf hZ e3 Pr_0
  obtain ⟨_, _, ⟨T5, L5, k5, n5⟩, -, X5, ⟨Lc5, hQ5, l5, y5, z5⟩, st5⟩ := X3.virtualBack hx (y := (⟨"java/lang/String", "coder", "()B"⟩ : MethodName)) (z := (⟨"java/lang/String", "coder", "()B"⟩ : MethodName)) hown (mvT hZ (hi hw 88 rfl)) (mvT hZ (hi hw 65 rfl)) (notFace_of_selects (args := #[]) (mvT hZ (hi hw 67 rfl))) (mvT hZ (hi hw 67 rfl)) (mvT hZ (hi hw 66 rfl)) (by decide) (backOf (W := 1) (rm9 l Z a0 hw [] o1 h0 n0 Z0 OLD0 Pr_2 HC) hZ (hi hw 68 rfl) (hi hw 36 rfl) (by decide) (by decide)) q5a q5c (g := (mkF m 11 #[.val (.ref o0), .val (.ref o1)] [(.ref o1), (.int (0 : Int32))])) rfl (by rw [hml]; rfl) (Steps.refl _) (argsL := []) (rest := [(.int (0 : Int32))]) (lenOf own_pd0 rfl) rfl (by show 2 * 0 + _ ≤ _; exact Nat.le_of_eq rfl) (hb hby d12_11) (fun _ _ => ⟨rfl, e3, (by decide : 0 + 0 ≤ _), (by decide : 0 + 0 ≤ _)⟩)
  dsimp only [Pt.U, Pt.locs, Pt.cells, Pt.slots] at X5 l5 y5 z5 st5 hQ5
  subst l5 y5 z5
  obtain ⟨rfl, N5q, e5⟩ := hQ5
  have N5 := Fr.app N0 N5q
  have pre5 : ∀ t, Steps p.tables e below (T5.setTop (mkF m 14 #[.val (.ref o0), .val (.ref o1)] [(.int (0 : Int32)), (.int (0 : Int32))])) t → P t := fun t k => pre4 t (st5.trans k)
  have pre6 : ∀ t, Steps p.tables e below (T5.setTop (mkF m 21 #[.val (.ref o0), .val (.ref o1)] [])) t → P t := fun t k => pre5 t (by
      refine XS.icmpYes X5.here hx rfl (pc0 := 14) (pc' := 21) rfl (hb hby d12_14) rfl (teq (rfl : (0 : Int32) = (0 : Int32))).1 (by decide) (by decide) ?_
      exact k)
  obtain ⟨fs, hr, hrun, hended, hW, hsame⟩ := X5.leave (v := none) (fun _ => rfl)
  refine ⟨_, _, fin _ (pre6 _ ?_), hrun, hended, _, _, rfl, ?_, ⟨_, rfl⟩, hW, hsame.mono (by decide) (by decide)⟩
  · show Steps p.tables e below (T5.setTop (mkF m 21 #[.val (.ref o0), .val (.ref o1)] [])) _
    exact X5.returnOut hx Bd.returns (hb hby d12_21) hr
  · show Q12 Z o0 o1 h0 n0 _ T5.heap _
    rw [e5]
    exact ⟨rfl, N5, rfl⟩
theorem d13_0 : decode jdk_42_method_147_code 0 = .ok (.aload_n 0, 1) := by decide +kernel
theorem d13_1 : decode jdk_42_method_147_code 1 = .ok (.invokevirtual 335, 3) := by decide +kernel
theorem d13_4 : decode jdk_42_method_147_code 4 = .ok (.iload_n 3, 1) := by decide +kernel
theorem d13_5 : decode jdk_42_method_147_code 5 = .ok (.if_icmp .ne 23, 3) := by decide +kernel
theorem d13_8 : decode jdk_42_method_147_code 8 = .ok (.aload_n 0, 1) := by decide +kernel
theorem d13_9 : decode jdk_42_method_147_code 9 = .ok (.getfield 9, 3) := by decide +kernel
theorem d13_12 : decode jdk_42_method_147_code 12 = .ok (.iconst 0, 1) := by decide +kernel
theorem d13_13 : decode jdk_42_method_147_code 13 = .ok (.aload_n 1, 1) := by decide +kernel
theorem d13_14 : decode jdk_42_method_147_code 14 = .ok (.iload_n 2, 1) := by decide +kernel
theorem d13_15 : decode jdk_42_method_147_code 15 = .ok (.iload_n 3, 1) := by decide +kernel
theorem d13_16 : decode jdk_42_method_147_code 16 = .ok (.ishl, 1) := by decide +kernel
theorem d13_17 : decode jdk_42_method_147_code 17 = .ok (.aload_n 0, 1) := by decide +kernel
theorem d13_18 : decode jdk_42_method_147_code 18 = .ok (.getfield 9, 3) := by decide +kernel
theorem d13_21 : decode jdk_42_method_147_code 21 = .ok (.arraylength, 1) := by decide +kernel
theorem d13_22 : decode jdk_42_method_147_code 22 = .ok (.invokestatic 212, 3) := by decide +kernel
theorem d13_25 : decode jdk_42_method_147_code 25 = .ok (.goto 18, 3) := by decide +kernel
theorem d13_43 : decode jdk_42_method_147_code 43 = .ok (.return_, 1) := by decide +kernel
theorem pn_13 : plainName "java/lang/String" = true := by first | (simp [plainName, overriddenIn]; done) | decide +kernel
theorem ef_13 (m : MethodId) (o0 : Addr) (bv : Addr) (p2 : Int32) : entryFrame m #[(.ref o0), (.ref bv), (.int p2), (.int (0 : Int32))] 4 = mkF m 0 #[.val (.ref o0), .val (.ref bv), .val (.int p2), .val (.int (0 : Int32))] [] := by first | (simp [entryFrame, mkF, argsToLocals, Value.category]; done) | rfl
def Q13 (Z : State) (o0 : Addr) (bv : Addr) (p2 : Int32) (bs : Addr) (ks : ClassId) (zs : Int32) (us : List Int32) (kv : ClassId) (zv : Int32) (vs : List Int32) (h0 : Heap) (n0 : Nat) (v : Option Value) (h : Heap) (L : List Loc) : Prop := v = none ∧ Fr n0 L ∧ Keep h0 h [bv] ∧ Arv Z h bv kv .byte zv (own_v (vs ++ us)) (.int 0)
set_option maxRecDepth 65536 in
set_option maxHeartbeats 40000000 in
theorem rm13 (l : Launch) (Z : State) (a0 : Array Value) (hw : ∀ d ∈ tables_1, d.before a0 Z = true) (ws : List Jvm.Cond) (o0 : Addr) (bv : Addr) (p2 : Int32) (bs : Addr) (ks : ClassId) (zs : Int32) (us : List Int32) (kv : ClassId) (zv : Int32) (vs : List Int32) (h0 : Heap) (n0 : Nat) (Z0 : n0 ≤ h0.size) (OLD0 : Old Z n0 h0) (Pr_0 : Exa Z h0 o0 "java/lang/String") (Pr_1 : Fld Z h0 o0 "java/lang/String" "coder" "B" (.int (0 : Int32))) (Pr_2 : Fld Z h0 o0 "java/lang/String" "value" "[B" (.ref bs)) (Pr_3 : Arv Z h0 bs ks .byte zs (own_v us) (.int 0)) (Pr_4 : Arv Z h0 bv kv .byte zv (own_v vs) (.int 0)) (Pr_5 : Exa Z h0 bv "[B") (g_bv : n0 ≤ bv) (ne_0 : bs ≠ bv) (HC : own_CC Z) (HB : own_GB zs us zv vs p2) :
    MetFree l (⟨"java/lang/String", "getBytes", "([BIB)V"⟩ : MethodName) (head1 (Jvm.Cond.code (⟨"java/lang/String", "getBytes", "([BIB)V"⟩ : MethodName) jdk_42_method_147_code 4 none :: ws) ({ frames := 1, cells := 0, slots := 0, locals := 18 } : Room)) (fun a U => a = #[(.ref o0), (.ref bv), (.int p2), (.int (0 : Int32))] ∧ Z.Warmed39 U.vm ∧ U.heap = h0) (fun _ _ _ _ _ => True) (fun _ U o U' => ∃ v L, o = .returned v ∧ Q13 Z o0 bv p2 bs ks zs us kv zv vs h0 n0 v U'.heap L ∧ FrameEnd U o U' L ({ frames := 1, cells := 0, slots := 0, locals := 18 } : Room).cells ({ frames := 1, cells := 0, slots := 0, locals := 18 } : Room).slots) := by
  refine MetFree.of_bodySF (plainFor_of_name pn_13) hisR ?_
  intro p e s m args below meth c s₁ Bd hml0 hP hK
  obtain ⟨rfl, hZ, hh⟩ := hP
  have hx := Bd.exec
  have hby := Bd.bytes
  have hml : c.maxLocals = 4 := hml0
  have hown : s.vm.findClass "java/lang/String" = some m.cls := findClass_of_methodNamed Bd.named
  have hnm := (name_of_methodNamed Bd.named Bd.method).1
  have X0 : Stand p l e ({ frames := 1, cells := 0, slots := 0, locals := 18 } : Room) s m #[(.ref o0), (.ref bv), (.int p2), (.int (0 : Int32))] below meth c s₁ [] 0 0 := Stand.of_body Bd
  have e0 : s₁.heap = h0 := by rw [← hh, Bd.state]; rfl
  have N0 := Fr.nil n0
  obtain ⟨P, pre0, fin⟩ : ∃ P : State → Prop, (∀ t, Steps p.tables e below (s₁.setTop (mkF m 0 #[.val (.ref o0), .val (.ref bv), .val (.int p2), .val (.int (0 : Int32))] [])) t → P t) ∧ (∀ t, P t → Steps p.tables e below (s₁.setTop (entryFrame m #[(.ref o0), (.ref bv), (.int p2), (.int (0 : Int32))] 4)) t) := ⟨fun t => Steps p.tables e below (s₁.setTop (entryFrame m #[(.ref o0), (.ref bv), (.int p2), (.int (0 : Int32))] 4)) t, fun t k => castTop (ef_13 m o0 bv p2) k, fun t k => k⟩
  have K0 : Keep h0 h0 [bv] := Keep.refl _ _
  have pre1 : ∀ t, Steps p.tables e below (s₁.setTop (mkF m 1 #[.val (.ref o0), .val (.ref bv), .val (.int p2), .val (.int (0 : Int32))] [(.ref o0)])) t → P t := fun t k => pre0 t (by
      refine XS.aloadN X0.here hx rfl (hb hby d13_0) rfl rfl ?_
      exact k)
  obtain ⟨cq2, kq2, q2a, q2b, q2c⟩ := isOf hZ e0 Pr_0
  obtain ⟨_, _, ⟨T2, L2, k2, n2⟩, -, X2, ⟨Lc2, hQ2, l2, y2, z2⟩, st2⟩ := X0.virtualBack hx (y := (⟨"java/lang/String", "coder", "()B"⟩ : MethodName)) (z := (⟨"java/lang/String", "coder", "()B"⟩ : MethodName)) hown (mvT hZ (hi hw 64 rfl)) (mvT hZ (hi hw 65 rfl)) (notFace_of_selects (args := #[]) (mvT hZ (hi hw 67 rfl))) (mvT hZ (hi hw 67 rfl)) (mvT hZ (hi hw 66 rfl)) (by decide) (backOf (W := 0) (rm9 l Z a0 hw [] o0 h0 n0 Z0 OLD0 Pr_1 HC) hZ (hi hw 68 rfl) (hi hw 36 rfl) (by decide) (by decide)) q2a q2c (g := (mkF m 1 #[.val (.ref o0), .val (.ref bv), .val (.int p2), .val (.int (0 : Int32))] [(.ref o0)])) rfl (by rw [hml]; rfl) (Steps.refl _) (argsL := []) (rest := []) (lenOf own_pd0 rfl) rfl (by show 2 * 0 + _ ≤ _; exact Nat.le_of_eq rfl) (hb hby d13_1) (fun _ _ => ⟨rfl, e0, (by decide : 0 + 0 ≤ _), (by decide : 0 + 0 ≤ _)⟩)
  dsimp only [Pt.U, Pt.locs, Pt.cells, Pt.slots] at X2 l2 y2 z2 st2 hQ2
  subst l2 y2 z2
  obtain ⟨rfl, N2q, e2⟩ := hQ2
  have N2 := Fr.app N0 N2q
  have pre2 : ∀ t, Steps p.tables e below (T2.setTop (mkF m 4 #[.val (.ref o0), .val (.ref bv), .val (.int p2), .val (.int (0 : Int32))] [(.int (0 : Int32))])) t → P t := fun t k => pre1 t (st2.trans k)
  have pre3 : ∀ t, Steps p.tables e below (T2.setTop (mkF m 9 #[.val (.ref o0), .val (.ref bv), .val (.int p2), .val (.int (0 : Int32))] [(.ref o0)])) t → P t := fun t k => pre2 t (by
      refine XS.iloadN X2.here hx rfl (hb hby d13_4) rfl ?_
      refine XS.icmpNo X2.here hx rfl (hb hby d13_5) rfl (teq (rfl : (0 : Int32) = (0 : Int32))).2 ?_
      refine XS.aloadN X2.here hx rfl (hb hby d13_8) rfl rfl ?_
      exact k)
  obtain ⟨T4, X4, e4, st4⟩ := getF X2 hx hZ hown (host := "") (Or.inl (hi hw 63 rfl)) Via.refl e2 Pr_2 (g := (mkF m 9 #[.val (.ref o0), .val (.ref bv), .val (.int p2), .val (.int (0 : Int32))] [(.ref o0)])) rfl rfl (hb hby d13_9)
  have pre4 : ∀ t, Steps p.tables e below (T4.setTop (mkF m 12 #[.val (.ref o0), .val (.ref bv), .val (.int p2), .val (.int (0 : Int32))] [(.ref bs)])) t → P t := fun t k => pre3 t (st4 _ k)
  have pre5 : ∀ t, Steps p.tables e below (T4.setTop (mkF m 17 #[.val (.ref o0), .val (.ref bv), .val (.int p2), .val (.int (0 : Int32))] [(.int (p2 <<< ((0 : Int32) &&& 31))), (.ref bv), (.int (0 : Int32)), (.ref bs)])) t → P t := fun t k => pre4 t (by
      refine XS.iconst X4.here hx rfl (hb hby d13_12) ?_
      refine XS.aloadN X4.here hx rfl (hb hby d13_13) rfl rfl ?_
      refine XS.iloadN X4.here hx rfl (hb hby d13_14) rfl ?_
      refine XS.iloadN X4.here hx rfl (hb hby d13_15) rfl ?_
      refine XS.ishl X4.here hx rfl (hb hby d13_16) rfl ?_
      exact k)
  have pre6 : ∀ t, Steps p.tables e below (T4.setTop (mkF m 17 #[.val (.ref o0), .val (.ref bv), .val (.int p2), .val (.int (0 : Int32))] [(.int p2), (.ref bv), (.int (0 : Int32)), (.ref bs)])) t → P t := fun t k => pre5 t (by rw [show (p2 <<< ((0 : Int32) &&& 31)) = p2 from (own_shl0 _)]; exact k)
  have pre7 : ∀ t, Steps p.tables e below (T4.setTop (mkF m 18 #[.val (.ref o0), .val (.ref bv), .val (.int p2), .val (.int (0 : Int32))] [(.ref o0), (.int p2), (.ref bv), (.int (0 : Int32)), (.ref bs)])) t → P t := fun t k => pre6 t (by
      refine XS.aloadN X4.here hx rfl (hb hby d13_17) rfl rfl ?_
      exact k)
  obtain ⟨T8, X8, e8, st8⟩ := getF X4 hx hZ hown (host := "") (Or.inl (hi hw 63 rfl)) Via.refl e4 Pr_2 (g := (mkF m 18 #[.val (.ref o0), .val (.ref bv), .val (.int p2), .val (.int (0 : Int32))] [(.ref o0), (.int p2), (.ref bv), (.int (0 : Int32)), (.ref bs)])) rfl rfl (hb hby d13_18)
  have pre8 : ∀ t, Steps p.tables e below (T8.setTop (mkF m 21 #[.val (.ref o0), .val (.ref bv), .val (.int p2), .val (.int (0 : Int32))] [(.ref bs), (.int p2), (.ref bv), (.int (0 : Int32)), (.ref bs)])) t → P t := fun t k => pre7 t (st8 _ k)
  obtain ⟨clq9, Arq9, -, Sq9, Nq9', -, -⟩ := id Pr_3
  have pre10 : ∀ t, Steps p.tables e below (T8.setTop (mkF m 22 #[.val (.ref o0), .val (.ref bv), .val (.int p2), .val (.int (0 : Int32))] [(.int zs), (.int p2), (.ref bv), (.int (0 : Int32)), (.ref bs)])) t → P t := fun t k => pre8 t (by
      refine X8.arraylength hx (by rw [e8]; exact Arq9.1) (State.isArrayOf_alike hZ.alike Arq9.2.1) (g := (mkF m 21 #[.val (.ref o0), .val (.ref bv), .val (.int p2), .val (.int (0 : Int32))] [(.ref bs), (.int p2), (.ref bv), (.int (0 : Int32)), (.ref bs)])) rfl rfl (hb hby d13_21) _ ?_
      rw [len_of Sq9 Nq9']
      exact k)
  obtain ⟨T11, h11, L11, X11, e11, N11, Kc11, Ac11, st11⟩ := cpA X8 hx hZ hown (hi hw 94 rfl) (hi hw 97 rfl) (hi hw 95 rfl) (hi hw 96 rfl) e8 Pr_3 (own_vpad Pr_4 (zs).toNatClampNeg) (Or.inl ⟨rfl, rfl⟩) (by decide) (own_nn (own_GB2 HB)) (own_nn (own_GB3 HB)) (by rw [own_z0, Nat.zero_add]; exact Nat.le_refl _) (own_GB5 HB) rfl (own_GBl HB) N2 g_bv (g := (mkF m 22 #[.val (.ref o0), .val (.ref bv), .val (.int p2), .val (.int (0 : Int32))] [(.int zs), (.int p2), (.ref bv), (.int (0 : Int32)), (.ref bs)])) rfl (by rw [hml]; rfl) rfl (hb hby d13_22) (by decide) (W := 0) (by show 2 * 0 + _ ≤ _; exact Nat.le_of_eq rfl) (by decide)
  have pre11 : ∀ t, Steps p.tables e below (T11.setTop (mkF m 25 #[.val (.ref o0), .val (.ref bv), .val (.int p2), .val (.int (0 : Int32))] [])) t → P t := fun t k => pre10 t (st11 _ k)
  have c12 : n0 ≤ h11.size := Nat.le_trans Z0 Kc11.1
  have c13 : Old Z n0 h11 := OLD0.keep Kc11 (allS (P := fun x => n0 ≤ x) g_bv all0)
  have c14 : Exa Z h11 o0 "java/lang/String" := Pr_0.keep Kc11
  have c15 : Fld Z h11 o0 "java/lang/String" "coder" "B" (.int (0 : Int32)) := Pr_1.keep Kc11 (ninS (ne_exa Pr_0 Pr_5 (by decide)) nin0)
  have c16 : Fld Z h11 o0 "java/lang/String" "value" "[B" (.ref bs) := Pr_2.keep Kc11 (ninS (ne_exa Pr_0 Pr_5 (by decide)) nin0)
  have c17 : Arv Z h11 bs ks .byte zs (own_v us) (.int 0) := Pr_3.keep Kc11 (ninS ne_0 nin0)
  have c18 : Exa Z h11 bv "[B" := Pr_5.keep Kc11
  have K19 : Keep h0 h11 [bv] := K0.trans Kc11 (allS (P := fun x => x ∈ ([bv] : List Addr) ∨ h0.size ≤ x) (Or.inl (List.mem_of_getElem? (i := 0) rfl)) all0)
  have V11 : Arv Z h11 bv kv .byte zv (own_v (vs ++ us)) (.int 0) := own_cp1 HB Ac11
  have pre20 : ∀ t, Steps p.tables e below (T11.setTop (mkF m 43 #[.val (.ref o0), .val (.ref bv), .val (.int p2), .val (.int (0 : Int32))] [])) t → P t := fun t k => pre11 t (by
      refine XS.goto X11.here hx rfl (pc0 := 25) (pc' := 43) rfl (hb hby d13_25) (by decide) (by decide) ?_
      exact k)
  obtain ⟨fs, hr, hrun, hended, hW, hsame⟩ := X11.leave (v := none) (fun _ => rfl)
  refine ⟨_, _, fin _ (pre20 _ ?_), hrun, hended, _, _, rfl, ?_, ⟨_, rfl⟩, hW, hsame.mono (by decide) (by decide)⟩
  · show Steps p.tables e below (T11.setTop (mkF m 43 #[.val (.ref o0), .val (.ref bv), .val (.int p2), .val (.int (0 : Int32))] [])) _
    exact X11.returnOut hx Bd.returns (hb hby d13_43) hr
  · show Q13 Z o0 bv p2 bs ks zs us kv zv vs h0 n0 _ T11.heap _
    rw [e11]
    exact ⟨rfl, N11, K19, V11⟩
theorem own_pd6 : parseMethodDescriptor "(Ljava/lang/String;)V" = some ⟨[(.object "java/lang/String")], none⟩ := by decide +kernel
theorem own_pd7 : parseMethodDescriptor "([BIB)V" = some ⟨[(.array .byte), .int, .byte], none⟩ := by decide +kernel
theorem d11_0 : decode jdk_68_method_73_code 0 = .ok (.aload_n 0, 1) := by decide +kernel
theorem d11_1 : decode jdk_68_method_73_code 1 = .ok (.aload_n 2, 1) := by decide +kernel
theorem d11_2 : decode jdk_68_method_73_code 2 = .ok (.invokevirtual 397, 3) := by decide +kernel
theorem d11_5 : decode jdk_68_method_73_code 5 = .ok (.aload_n 2, 1) := by decide +kernel
theorem d11_6 : decode jdk_68_method_73_code 6 = .ok (.aload_n 0, 1) := by decide +kernel
theorem d11_7 : decode jdk_68_method_73_code 7 = .ok (.getfield 15, 3) := by decide +kernel
theorem d11_10 : decode jdk_68_method_73_code 10 = .ok (.iload_n 1, 1) := by decide +kernel
theorem d11_11 : decode jdk_68_method_73_code 11 = .ok (.aload_n 0, 1) := by decide +kernel
theorem d11_12 : decode jdk_68_method_73_code 12 = .ok (.getfield 22, 3) := by decide +kernel
theorem d11_15 : decode jdk_68_method_73_code 15 = .ok (.invokevirtual 399, 3) := by decide +kernel
theorem d11_18 : decode jdk_68_method_73_code 18 = .ok (.return_, 1) := by decide +kernel
theorem pn_11 : plainName "java/lang/AbstractStringBuilder" = true := by first | (simp [plainName, overriddenIn]; done) | decide +kernel
theorem ef_11 (m : MethodId) (o0 : Addr) (p1 : Int32) (o2 : Addr) : entryFrame m #[(.ref o0), (.int p1), (.ref o2)] 3 = mkF m 0 #[.val (.ref o0), .val (.int p1), .val (.ref o2)] [] := by first | (simp [entryFrame, mkF, argsToLocals, Value.category]; done) | rfl
def Q11 (Z : State) (o0 : Addr) (p1 : Int32) (o2 : Addr) (bv : Addr) (kv : ClassId) (zv : Int32) (vs : List Int32) (nv : Int32) (bs : Addr) (ks : ClassId) (zs : Int32) (us : List Int32) (h0 : Heap) (n0 : Nat) (v : Option Value) (h : Heap) (L : List Loc) : Prop := v = none ∧ Fr n0 L ∧ Keep h0 h [bv] ∧ Arv Z h bv kv .byte zv (own_v (vs ++ us)) (.int 0)
set_option maxRecDepth 65536 in
set_option maxHeartbeats 40000000 in
theorem rm11 (l : Launch) (Z : State) (a0 : Array Value) (hw : ∀ d ∈ tables_1, d.before a0 Z = true) (ws : List Jvm.Cond) (o0 : Addr) (p1 : Int32) (o2 : Addr) (bv : Addr) (kv : ClassId) (zv : Int32) (vs : List Int32) (nv : Int32) (bs : Addr) (ks : ClassId) (zs : Int32) (us : List Int32) (h0 : Heap) (n0 : Nat) (Z0 : n0 ≤ h0.size) (OLD0 : Old Z n0 h0) (Pr_0 : Exa Z h0 o0 "java/lang/StringBuilder") (Pr_1 : Fld Z h0 o0 "java/lang/AbstractStringBuilder" "coder" "B" (.int (0 : Int32))) (Pr_2 : Fld Z h0 o0 "java/lang/AbstractStringBuilder" "value" "[B" (.ref bv)) (Pr_3 : Fld Z h0 o0 "java/lang/AbstractStringBuilder" "count" "I" (.int nv)) (Pr_4 : Arv Z h0 bv kv .byte zv (own_v vs) (.int 0)) (Pr_5 : Exa Z h0 bv "[B") (Pr_6 : Exa Z h0 o2 "java/lang/String") (Pr_7 : Fld Z h0 o2 "java/lang/String" "coder" "B" (.int (0 : Int32))) (Pr_8 : Fld Z h0 o2 "java/lang/String" "value" "[B" (.ref bs)) (Pr_9 : Arv Z h0 bs ks .byte zs (own_v us) (.int 0)) (g_bv : n0 ≤ bv) (ne_0 : bs ≠ bv) (HC : own_CC Z) (HB : own_GB zs us zv vs p1) :
    MetFree l (⟨"java/lang/AbstractStringBuilder", "putStringAt", "(ILjava/lang/String;)V"⟩ : MethodName) (head1 (Jvm.Cond.code (⟨"java/lang/AbstractStringBuilder", "putStringAt", "(ILjava/lang/String;)V"⟩ : MethodName) jdk_68_method_73_code 3 none :: ws) ({ frames := 2, cells := 0, slots := 0, locals := 33 } : Room)) (fun a U => a = #[(.ref o0), (.int p1), (.ref o2)] ∧ Z.Warmed39 U.vm ∧ U.heap = h0) (fun _ _ _ _ _ => True) (fun _ U o U' => ∃ v L, o = .returned v ∧ Q11 Z o0 p1 o2 bv kv zv vs nv bs ks zs us h0 n0 v U'.heap L ∧ FrameEnd U o U' L ({ frames := 2, cells := 0, slots := 0, locals := 33 } : Room).cells ({ frames := 2, cells := 0, slots := 0, locals := 33 } : Room).slots) := by
  refine MetFree.of_bodySF (plainFor_of_name pn_11) hisR ?_
  intro p e s m args below meth c s₁ Bd hml0 hP hK
  obtain ⟨rfl, hZ, hh⟩ := hP
  have hx := Bd.exec
  have hby := Bd.bytes
  have hml : c.maxLocals = 3 := hml0
  have hown : s.vm.findClass "java/lang/AbstractStringBuilder" = some m.cls := findClass_of_methodNamed Bd.named
  have hnm := (name_of_methodNamed Bd.named Bd.method).1
  have X0 : Stand p l e ({ frames := 2, cells := 0, slots := 0, locals := 33 } : Room) s m #[(.ref o0), (.int p1), (.ref o2)] below meth c s₁ [] 0 0 := Stand.of_body Bd
  have e0 : s₁.heap = h0 := by rw [← hh, Bd.state]; rfl
  have N0 := Fr.nil n0
  obtain ⟨P, pre0, fin⟩ : ∃ P : State → Prop, (∀ t, Steps p.tables e below (s₁.setTop (mkF m 0 #[.val (.ref o0), .val (.int p1), .val (.ref o2)] [])) t → P t) ∧ (∀ t, P t → Steps p.tables e below (s₁.setTop (entryFrame m #[(.ref o0), (.int p1), (.ref o2)] 3)) t) := ⟨fun t => Steps p.tables e below (s₁.setTop (entryFrame m #[(.ref o0), (.int p1), (.ref o2)] 3)) t, fun t k => castTop (ef_11 m o0 p1 o2) k, fun t k => k⟩
  have K0 : Keep h0 h0 [bv] := Keep.refl _ _
  have pre1 : ∀ t, Steps p.tables e below (s₁.setTop (mkF m 2 #[.val (.ref o0), .val (.int p1), .val (.ref o2)] [(.ref o2), (.ref o0)])) t → P t := fun t k => pre0 t (by
      refine XS.aloadN X0.here hx rfl (hb hby d11_0) rfl rfl ?_
      refine XS.aloadN X0.here hx rfl (hb hby d11_1) rfl rfl ?_
      exact k)
  obtain ⟨cq2, kq2, q2a, q2b, q2c⟩ := isOf hZ e0 Pr_0
  obtain ⟨_, _, ⟨T2, L2, k2, n2⟩, -, X2, ⟨Lc2, hQ2, l2, y2, z2⟩, st2⟩ := X0.virtualBack hx (y := (⟨"java/lang/AbstractStringBuilder", "inflateIfNeededFor", "(Ljava/lang/String;)V"⟩ : MethodName)) (z := (⟨"java/lang/AbstractStringBuilder", "inflateIfNeededFor", "(Ljava/lang/String;)V"⟩ : MethodName)) hown (mvT hZ (hi hw 83 rfl)) (mvT hZ (own_decl (hi hw 84 rfl) (hi hw 87 rfl))) (notFace_of_selects (args := #[]) (mvT hZ (hi hw 86 rfl))) (mvT hZ (hi hw 86 rfl)) (mvT hZ (hi hw 84 rfl)) (by decide) (backOf (W := 0) (rm12 l Z a0 hw [] o0 o2 h0 n0 Z0 OLD0 Pr_6 Pr_1 Pr_7 HC) hZ (hi hw 87 rfl) (hi hw 32 rfl) (by decide) (by decide)) q2a q2c (g := (mkF m 2 #[.val (.ref o0), .val (.int p1), .val (.ref o2)] [(.ref o2), (.ref o0)])) rfl (by rw [hml]; rfl) (Steps.refl _) (argsL := [(.ref o2)]) (rest := []) (lenOf own_pd6 rfl) rfl (by show 2 * 0 + _ ≤ _; exact Nat.le_of_eq rfl) (hb hby d11_2) (fun _ _ => ⟨rfl, e0, (by decide : 0 + 0 ≤ _), (by decide : 0 + 0 ≤ _)⟩)
  dsimp only [Pt.U, Pt.locs, Pt.cells, Pt.slots] at X2 l2 y2 z2 st2 hQ2
  subst l2 y2 z2
  obtain ⟨rfl, N2q, e2⟩ := hQ2
  have N2 := Fr.app N0 N2q
  have pre2 : ∀ t, Steps p.tables e below (T2.setTop (mkF m 5 #[.val (.ref o0), .val (.int p1), .val (.ref o2)] [])) t → P t := fun t k => pre1 t (st2.trans k)
  have pre3 : ∀ t, Steps p.tables e below (T2.setTop (mkF m 7 #[.val (.ref o0), .val (.int p1), .val (.ref o2)] [(.ref o0), (.ref o2)])) t → P t := fun t k => pre2 t (by
      refine XS.aloadN X2.here hx rfl (hb hby d11_5) rfl rfl ?_
      refine XS.aloadN X2.here hx rfl (hb hby d11_6) rfl rfl ?_
      exact k)
  obtain ⟨T4, X4, e4, st4⟩ := getF X2 hx hZ hown (host := "") (Or.inl (hi hw 38 rfl)) Via.refl e2 Pr_2 (g := (mkF m 7 #[.val (.ref o0), .val (.int p1), .val (.ref o2)] [(.ref o0), (.ref o2)])) rfl rfl (hb hby d11_7)
  have pre4 : ∀ t, Steps p.tables e below (T4.setTop (mkF m 10 #[.val (.ref o0), .val (.int p1), .val (.ref o2)] [(.ref bv), (.ref o2)])) t → P t := fun t k => pre3 t (st4 _ k)
  have pre5 : ∀ t, Steps p.tables e below (T4.setTop (mkF m 12 #[.val (.ref o0), .val (.int p1), .val (.ref o2)] [(.ref o0), (.int p1), (.ref bv), (.ref o2)])) t → P t := fun t k => pre4 t (by
      refine XS.iloadN X4.here hx rfl (hb hby d11_10) rfl ?_
      refine XS.aloadN X4.here hx rfl (hb hby d11_11) rfl rfl ?_
      exact k)
  obtain ⟨T6, X6, e6, st6⟩ := getF X4 hx hZ hown (host := "") (Or.inl (hi hw 40 rfl)) Via.refl e4 Pr_1 (g := (mkF m 12 #[.val (.ref o0), .val (.int p1), .val (.ref o2)] [(.ref o0), (.int p1), (.ref bv), (.ref o2)])) rfl rfl (hb hby d11_12)
  have pre6 : ∀ t, Steps p.tables e below (T6.setTop (mkF m 15 #[.val (.ref o0), .val (.int p1), .val (.ref o2)] [(.int (0 : Int32)), (.int p1), (.ref bv), (.ref o2)])) t → P t := fun t k => pre5 t (st6 _ k)
  obtain ⟨cq7, kq7, q7a, q7b, q7c⟩ := isOf hZ e6 Pr_6
  obtain ⟨_, _, ⟨T7, L7, k7, n7⟩, -, X7, ⟨Lc7, hQ7, l7, y7, z7⟩, st7⟩ := X6.virtualBack hx (y := (⟨"java/lang/String", "getBytes", "([BIB)V"⟩ : MethodName)) (z := (⟨"java/lang/String", "getBytes", "([BIB)V"⟩ : MethodName)) hown (mvT hZ (hi hw 89 rfl)) (mvT hZ (hi hw 90 rfl)) (notFace_of_selects (args := #[]) (mvT hZ (hi hw 92 rfl))) (mvT hZ (hi hw 92 rfl)) (mvT hZ (hi hw 91 rfl)) (by decide) (backOf (W := 0) (rm13 l Z a0 hw [] o2 bv p1 bs ks zs us kv zv vs h0 n0 Z0 OLD0 Pr_6 Pr_7 Pr_8 Pr_9 Pr_4 Pr_5 g_bv ne_0 HC HB) hZ (hi hw 93 rfl) (hi hw 36 rfl) (by decide) (by decide)) q7a q7c (g := (mkF m 15 #[.val (.ref o0), .val (.int p1), .val (.ref o2)] [(.int (0 : Int32)), (.int p1), (.ref bv), (.ref o2)])) rfl (by rw [hml]; rfl) (Steps.refl _) (argsL := [(.ref bv), (.int p1), (.int (0 : Int32))]) (rest := []) (lenOf own_pd7 rfl) rfl (by show 2 * 0 + _ ≤ _; exact Nat.le_of_eq rfl) (hb hby d11_15) (fun _ _ => ⟨rfl, e6, (by decide : 0 + 0 ≤ _), (by decide : 0 + 0 ≤ _)⟩)
  dsimp only [Pt.U, Pt.locs, Pt.cells, Pt.slots] at X7 l7 y7 z7 st7 hQ7
  subst l7 y7 z7
  obtain ⟨rfl, N7q, K7, FF7_0⟩ := hQ7
  have c8 : n0 ≤ T7.heap.size := Nat.le_trans Z0 K7.1
  have c9 : Old Z n0 T7.heap := OLD0.keep K7 (allS (P := fun x => n0 ≤ x) g_bv all0)
  have c10 : Exa Z T7.heap o0 "java/lang/StringBuilder" := Pr_0.keep K7
  have c11 : Fld Z T7.heap o0 "java/lang/AbstractStringBuilder" "coder" "B" (.int (0 : Int32)) := Pr_1.keep K7 (ninS (ne_exa Pr_0 Pr_5 (by decide)) nin0)
  have c12 : Fld Z T7.heap o0 "java/lang/AbstractStringBuilder" "value" "[B" (.ref bv) := Pr_2.keep K7 (ninS (ne_exa Pr_0 Pr_5 (by decide)) nin0)
  have c13 : Fld Z T7.heap o0 "java/lang/AbstractStringBuilder" "count" "I" (.int nv) := Pr_3.keep K7 (ninS (ne_exa Pr_0 Pr_5 (by decide)) nin0)
  have c14 : Exa Z T7.heap bv "[B" := Pr_5.keep K7
  have c15 : Exa Z T7.heap o2 "java/lang/String" := Pr_6.keep K7
  have c16 : Fld Z T7.heap o2 "java/lang/String" "coder" "B" (.int (0 : Int32)) := Pr_7.keep K7 (ninS (ne_exa Pr_6 Pr_5 (by decide)) nin0)
  have c17 : Fld Z T7.heap o2 "java/lang/String" "value" "[B" (.ref bs) := Pr_8.keep K7 (ninS (ne_exa Pr_6 Pr_5 (by decide)) nin0)
  have c18 : Arv Z T7.heap bs ks .byte zs (own_v us) (.int 0) := Pr_9.keep K7 (ninS ne_0 nin0)
  have K19 : Keep h0 T7.heap [bv] := K0.trans K7 (allS (P := fun x => x ∈ ([bv] : List Addr) ∨ h0.size ≤ x) (Or.inl (List.mem_of_getElem? (i := 0) rfl)) all0)
  have N7 := Fr.app N2 N7q
  have pre7 : ∀ t, Steps p.tables e below (T7.setTop (mkF m 18 #[.val (.ref o0), .val (.int p1), .val (.ref o2)] [])) t → P t := fun t k => pre6 t (st7.trans k)
  obtain ⟨fs, hr, hrun, hended, hW, hsame⟩ := X7.leave (v := none) (fun _ => rfl)
  refine ⟨_, _, fin _ (pre7 _ ?_), hrun, hended, _, _, rfl, ?_, ⟨_, rfl⟩, hW, hsame.mono (by decide) (by decide)⟩
  · show Steps p.tables e below (T7.setTop (mkF m 18 #[.val (.ref o0), .val (.int p1), .val (.ref o2)] [])) _
    exact X7.returnOut hx Bd.returns (hb hby d11_18) hr
  · show Q11 Z o0 p1 o2 bv kv zv vs nv bs ks zs us h0 n0 _ T7.heap _
    exact ⟨rfl, N7, K19, FF7_0⟩
theorem own_pd8 : parseMethodDescriptor "(I)V" = some ⟨[.int], none⟩ := by decide +kernel
theorem own_pd9 : parseMethodDescriptor "(ILjava/lang/String;)V" = some ⟨[.int, (.object "java/lang/String")], none⟩ := by decide +kernel
theorem d7_0 : decode jdk_68_method_22_code 0 = .ok (.aload_n 1, 1) := by decide +kernel
theorem d7_1 : decode jdk_68_method_22_code 1 = .ok (.ifnonnull 8, 3) := by decide +kernel
theorem d7_9 : decode jdk_68_method_22_code 9 = .ok (.aload_n 1, 1) := by decide +kernel
theorem d7_10 : decode jdk_68_method_22_code 10 = .ok (.invokevirtual 32, 3) := by decide +kernel
theorem d7_13 : decode jdk_68_method_22_code 13 = .ok (.istore_n 2, 1) := by decide +kernel
theorem d7_14 : decode jdk_68_method_22_code 14 = .ok (.aload_n 0, 1) := by decide +kernel
theorem d7_15 : decode jdk_68_method_22_code 15 = .ok (.aload_n 0, 1) := by decide +kernel
theorem d7_16 : decode jdk_68_method_22_code 16 = .ok (.getfield 79, 3) := by decide +kernel
theorem d7_19 : decode jdk_68_method_22_code 19 = .ok (.iload_n 2, 1) := by decide +kernel
theorem d7_20 : decode jdk_68_method_22_code 20 = .ok (.iadd, 1) := by decide +kernel
theorem d7_21 : decode jdk_68_method_22_code 21 = .ok (.invokevirtual 100, 3) := by decide +kernel
theorem d7_24 : decode jdk_68_method_22_code 24 = .ok (.aload_n 0, 1) := by decide +kernel
theorem d7_25 : decode jdk_68_method_22_code 25 = .ok (.aload_n 0, 1) := by decide +kernel
theorem d7_26 : decode jdk_68_method_22_code 26 = .ok (.getfield 79, 3) := by decide +kernel
theorem d7_29 : decode jdk_68_method_22_code 29 = .ok (.aload_n 1, 1) := by decide +kernel
theorem d7_30 : decode jdk_68_method_22_code 30 = .ok (.invokevirtual 208, 3) := by decide +kernel
theorem d7_33 : decode jdk_68_method_22_code 33 = .ok (.aload_n 0, 1) := by decide +kernel
theorem d7_34 : decode jdk_68_method_22_code 34 = .ok (.dup, 1) := by decide +kernel
theorem d7_35 : decode jdk_68_method_22_code 35 = .ok (.getfield 79, 3) := by decide +kernel
theorem d7_38 : decode jdk_68_method_22_code 38 = .ok (.iload_n 2, 1) := by decide +kernel
theorem d7_39 : decode jdk_68_method_22_code 39 = .ok (.iadd, 1) := by decide +kernel
theorem d7_40 : decode jdk_68_method_22_code 40 = .ok (.putfield 79, 3) := by decide +kernel
theorem d7_43 : decode jdk_68_method_22_code 43 = .ok (.aload_n 0, 1) := by decide +kernel
theorem d7_44 : decode jdk_68_method_22_code 44 = .ok (.areturn, 1) := by decide +kernel
theorem pn_7 : plainName "java/lang/AbstractStringBuilder" = true := by first | (simp [plainName, overriddenIn]; done) | decide +kernel
theorem ef_7 (m : MethodId) (o0 : Addr) (o1 : Addr) : entryFrame m #[(.ref o0), (.ref o1)] 3 = mkF m 0 #[.val (.ref o0), .val (.ref o1), .unset] [] := by first | (simp [entryFrame, mkF, argsToLocals, Value.category]; done) | rfl
def Q7 (Z : State) (o0 : Addr) (o1 : Addr) (bv : Addr) (kv : ClassId) (zv : Int32) (vs : List Int32) (nv : Int32) (bs : Addr) (ks : ClassId) (zs : Int32) (us : List Int32) (h0 : Heap) (n0 : Nat) (v : Option Value) (h : Heap) (L : List Loc) : Prop := ∃ bn : Addr, ∃ kn : ClassId, ∃ zn : Int32, v = some (.ref o0) ∧ Fr n0 L ∧ Keep h0 h [o0, bv] ∧ Exa Z h o0 "java/lang/StringBuilder" ∧ Fld Z h o0 "java/lang/AbstractStringBuilder" "coder" "B" (.int (0 : Int32)) ∧ Fld Z h o0 "java/lang/AbstractStringBuilder" "value" "[B" (.ref bn) ∧ Fld Z h o0 "java/lang/AbstractStringBuilder" "count" "I" (.int (nv + zs)) ∧ Arv Z h bn kn .byte zn (own_v (vs ++ us)) (.int 0) ∧ Exa Z h bn "[B" ∧ n0 ≤ bn ∧ (bn = bv ∨ h0.size ≤ bn) ∧ (own_B zn (vs ++ us))
set_option maxRecDepth 65536 in
set_option maxHeartbeats 40000000 in
theorem rm7 (l : Launch) (Z : State) (a0 : Array Value) (hw : ∀ d ∈ tables_1, d.before a0 Z = true) (ws : List Jvm.Cond) (o0 : Addr) (o1 : Addr) (bv : Addr) (kv : ClassId) (zv : Int32) (vs : List Int32) (nv : Int32) (bs : Addr) (ks : ClassId) (zs : Int32) (us : List Int32) (h0 : Heap) (n0 : Nat) (Z0 : n0 ≤ h0.size) (OLD0 : Old Z n0 h0) (Pr_0 : Exa Z h0 o0 "java/lang/StringBuilder") (Pr_1 : Fld Z h0 o0 "java/lang/AbstractStringBuilder" "coder" "B" (.int (0 : Int32))) (Pr_2 : Fld Z h0 o0 "java/lang/AbstractStringBuilder" "value" "[B" (.ref bv)) (Pr_3 : Fld Z h0 o0 "java/lang/AbstractStringBuilder" "count" "I" (.int nv)) (Pr_4 : Arv Z h0 bv kv .byte zv (own_v vs) (.int 0)) (Pr_5 : Exa Z h0 bv "[B") (Pr_6 : Exa Z h0 o1 "java/lang/String") (Pr_7 : Fld Z h0 o1 "java/lang/String" "coder" "B" (.int (0 : Int32))) (Pr_8 : Fld Z h0 o1 "java/lang/String" "value" "[B" (.ref bs)) (Pr_9 : Arv Z h0 bs ks .byte zs (own_v us) (.int 0)) (g_o0 : n0 ≤ o0) (g_bv : n0 ≤ bv) (ne_0 : bs ≠ bv) (HC : own_CC Z) (HS : own_S zv vs nv zs us) :
    MetFree l (⟨"java/lang/AbstractStringBuilder", "append", "(Ljava/lang/String;)Ljava/lang/AbstractStringBuilder;"⟩ : MethodName) (head1 (Jvm.Cond.code (⟨"java/lang/AbstractStringBuilder", "append", "(Ljava/lang/String;)Ljava/lang/AbstractStringBuilder;"⟩ : MethodName) jdk_68_method_22_code 3 (some (.object "java/lang/AbstractStringBuilder")) :: ws) ({ frames := 4, cells := 1, slots := 220, locals := 62 } : Room)) (fun a U => a = #[(.ref o0), (.ref o1)] ∧ Z.Warmed39 U.vm ∧ U.heap = h0) (fun _ _ _ _ _ => True) (fun _ U o U' => ∃ v L, o = .returned v ∧ Q7 Z o0 o1 bv kv zv vs nv bs ks zs us h0 n0 v U'.heap L ∧ FrameEnd U o U' L ({ frames := 4, cells := 1, slots := 220, locals := 62 } : Room).cells ({ frames := 4, cells := 1, slots := 220, locals := 62 } : Room).slots) := by
  refine MetFree.of_bodySF (plainFor_of_name pn_7) hisR ?_
  intro p e s m args below meth c s₁ Bd hml0 hP hK
  obtain ⟨rfl, hZ, hh⟩ := hP
  have hx := Bd.exec
  have hby := Bd.bytes
  have hml : c.maxLocals = 3 := hml0
  have hown : s.vm.findClass "java/lang/AbstractStringBuilder" = some m.cls := findClass_of_methodNamed Bd.named
  have hnm := (name_of_methodNamed Bd.named Bd.method).1
  have X0 : Stand p l e ({ frames := 4, cells := 1, slots := 220, locals := 62 } : Room) s m #[(.ref o0), (.ref o1)] below meth c s₁ [] 0 0 := Stand.of_body Bd
  have e0 : s₁.heap = h0 := by rw [← hh, Bd.state]; rfl
  have N0 := Fr.nil n0
  obtain ⟨P, pre0, fin⟩ : ∃ P : State → Prop, (∀ t, Steps p.tables e below (s₁.setTop (mkF m 0 #[.val (.ref o0), .val (.ref o1), .unset] [])) t → P t) ∧ (∀ t, P t → Steps p.tables e below (s₁.setTop (entryFrame m #[(.ref o0), (.ref o1)] 3)) t) := ⟨fun t => Steps p.tables e below (s₁.setTop (entryFrame m #[(.ref o0), (.ref o1)] 3)) t, fun t k => castTop (ef_7 m o0 o1) k, fun t k => k⟩
  have K0 : Keep h0 h0 [o0, bv] := Keep.refl _ _
  have pre1 : ∀ t, Steps p.tables e below (s₁.setTop (mkF m 10 #[.val (.ref o0), .val (.ref o1), .unset] [(.ref o1)])) t → P t := fun t k => pre0 t (by
      refine XS.aloadN X0.here hx rfl (hb hby d7_0) rfl rfl ?_
      refine XS.ifnonnullYes X0.here hx rfl (pc0 := 1) (pc' := 9) rfl (hb hby d7_1) rfl (by decide) (by decide) ?_
      refine XS.aloadN X0.here hx rfl (hb hby d7_9) rfl rfl ?_
      exact k)
  obtain ⟨cq2, kq2, q2a, q2b, q2c⟩ := isOf hZ e0 Pr_6
  obtain ⟨_, _, ⟨T2, L2, k2, n2⟩, -, X2, ⟨Lc2, hQ2, l2, y2, z2⟩, st2⟩ := X0.virtualBack hx (y := (⟨"java/lang/String", "length", "()I"⟩ : MethodName)) (z := (⟨"java/lang/String", "length", "()I"⟩ : MethodName)) hown (mvT hZ (hi hw 58 rfl)) (mvT hZ (hi hw 59 rfl)) (notFace_of_selects (args := #[]) (mvT hZ (hi hw 61 rfl))) (mvT hZ (hi hw 61 rfl)) (mvT hZ (hi hw 60 rfl)) (by decide) (backOf (W := 0) (rm8 l Z a0 hw [] o1 bs ks zs us h0 n0 Z0 OLD0 Pr_6 Pr_7 Pr_8 Pr_9 HC) hZ (hi hw 62 rfl) (hi hw 36 rfl) (by decide) (by decide)) q2a q2c (g := (mkF m 10 #[.val (.ref o0), .val (.ref o1), .unset] [(.ref o1)])) rfl (by rw [hml]; rfl) (Steps.refl _) (argsL := []) (rest := []) (lenOf own_pd1 rfl) rfl (by show 2 * 0 + _ ≤ _; exact Nat.le_of_eq rfl) (hb hby d7_10) (fun _ _ => ⟨rfl, e0, (by decide : 0 + 0 ≤ _), (by decide : 0 + 0 ≤ _)⟩)
  dsimp only [Pt.U, Pt.locs, Pt.cells, Pt.slots] at X2 l2 y2 z2 st2 hQ2
  subst l2 y2 z2
  obtain ⟨rfl, N2q, e2⟩ := hQ2
  have N2 := Fr.app N0 N2q
  have pre2 : ∀ t, Steps p.tables e below (T2.setTop (mkF m 13 #[.val (.ref o0), .val (.ref o1), .unset] [(.int zs)])) t → P t := fun t k => pre1 t (st2.trans k)
  have pre3 : ∀ t, Steps p.tables e below (T2.setTop (mkF m 16 #[.val (.ref o0), .val (.ref o1), .val (.int zs)] [(.ref o0), (.ref o0)])) t → P t := fun t k => pre2 t (by
      refine XS.istoreN X2.here hx rfl (hb hby d7_13) rfl (l' := #[.val (.ref o0), .val (.ref o1), .val (.int zs)]) rfl ?_
      refine XS.aloadN X2.here hx rfl (hb hby d7_14) rfl rfl ?_
      refine XS.aloadN X2.here hx rfl (hb hby d7_15) rfl rfl ?_
      exact k)
  obtain ⟨T4, X4, e4, st4⟩ := getF X2 hx hZ hown (host := "") (Or.inl (hi hw 71 rfl)) Via.refl e2 Pr_3 (g := (mkF m 16 #[.val (.ref o0), .val (.ref o1), .val (.int zs)] [(.ref o0), (.ref o0)])) rfl rfl (hb hby d7_16)
  have pre4 : ∀ t, Steps p.tables e below (T4.setTop (mkF m 19 #[.val (.ref o0), .val (.ref o1), .val (.int zs)] [(.int nv), (.ref o0)])) t → P t := fun t k => pre3 t (st4 _ k)
  have pre5 : ∀ t, Steps p.tables e below (T4.setTop (mkF m 21 #[.val (.ref o0), .val (.ref o1), .val (.int zs)] [(.int (nv + zs)), (.ref o0)])) t → P t := fun t k => pre4 t (by
      refine XS.iloadN X4.here hx rfl (hb hby d7_19) rfl ?_
      refine XS.iadd X4.here hx rfl (hb hby d7_20) rfl ?_
      exact k)
  obtain ⟨cq6, kq6, q6a, q6b, q6c⟩ := isOf hZ e4 Pr_0
  obtain ⟨_, _, ⟨T6, L6, k6, n6⟩, -, X6, ⟨Lc6, hQ6, l6, y6, z6⟩, st6⟩ := X4.virtualBack hx (y := (⟨"java/lang/AbstractStringBuilder", "ensureCapacityInternal", "(I)V"⟩ : MethodName)) (z := (⟨"java/lang/AbstractStringBuilder", "ensureCapacityInternal", "(I)V"⟩ : MethodName)) hown (mvT hZ (hi hw 73 rfl)) (mvT hZ (own_decl (hi hw 74 rfl) (hi hw 77 rfl))) (notFace_of_selects (args := #[]) (mvT hZ (hi hw 76 rfl))) (mvT hZ (hi hw 76 rfl)) (mvT hZ (hi hw 74 rfl)) (by decide) (backOf (W := 0) (rm10 l Z a0 hw [] o0 (nv + zs) bv kv zv vs nv h0 n0 Z0 OLD0 Pr_0 Pr_1 Pr_2 Pr_3 Pr_4 Pr_5 g_o0 g_bv (own_SE HS)) hZ (hi hw 77 rfl) (hi hw 32 rfl) (by decide) (by decide)) q6a q6c (g := (mkF m 21 #[.val (.ref o0), .val (.ref o1), .val (.int zs)] [(.int (nv + zs)), (.ref o0)])) rfl (by rw [hml]; rfl) (Steps.refl _) (argsL := [(.int (nv + zs))]) (rest := []) (lenOf own_pd8 rfl) rfl (by show 2 * 0 + _ ≤ _; exact Nat.le_of_eq rfl) (hb hby d7_21) (fun _ _ => ⟨rfl, e4, (by decide : 0 + 1 ≤ _), (by decide : 0 + 220 ≤ _)⟩)
  dsimp only [Pt.U, Pt.locs, Pt.cells, Pt.slots] at X6 l6 y6 z6 st6 hQ6
  subst l6 y6 z6
  obtain ⟨bn_6, kn_6, zn_6, rfl, N6q, K6, FF6_0, FF6_1, FF6_2, FF6_3, FF6_4, FF6_5, FF6_6, FF6_7, FF6_8⟩ := hQ6
  have c7 : n0 ≤ T6.heap.size := Nat.le_trans Z0 K6.1
  have c8 : Old Z n0 T6.heap := OLD0.keep K6 (allS (P := fun x => n0 ≤ x) g_o0 all0)
  have c9 : Exa Z T6.heap o0 "java/lang/StringBuilder" := Pr_0.keep K6
  have c10 : Arv Z T6.heap bv kv .byte zv (own_v vs) (.int 0) := Pr_4.keep K6 (ninS (ne_exa Pr_5 Pr_0 (by decide)) nin0)
  have c11 : Exa Z T6.heap bv "[B" := Pr_5.keep K6
  have c12 : Exa Z T6.heap o1 "java/lang/String" := Pr_6.keep K6
  have c13 : Fld Z T6.heap o1 "java/lang/String" "coder" "B" (.int (0 : Int32)) := Pr_7.keep K6 (ninS (ne_exa Pr_6 Pr_0 (by decide)) nin0)
  have c14 : Fld Z T6.heap o1 "java/lang/String" "value" "[B" (.ref bs) := Pr_8.keep K6 (ninS (ne_exa Pr_6 Pr_0 (by decide)) nin0)
  have c15 : Arv Z T6.heap bs ks .byte zs (own_v us) (.int 0) := Pr_9.keep K6 (ninS (Ne.symm (own_neA Pr_0 (hi hw 23 rfl) Pr_9)) nin0)
  have K16 : Keep h0 T6.heap [o0, bv] := K0.trans K6 (allS (P := fun x => x ∈ ([o0, bv] : List Addr) ∨ h0.size ≤ x) (Or.inl (List.mem_of_getElem? (i := 0) rfl)) all0)
  have g_bn_6 := FF6_6
  have hor_6 : bn_6 = bv ∨ h0.size ≤ bn_6 := FF6_7
  have mi_bn_6 : bn_6 ∈ ([o0, bv] : List Addr) ∨ h0.size ≤ bn_6 := own_mi hor_6 K0.1 (Or.inl (List.mem_of_getElem? (i := 1) rfl))
  have hz_6 : own_B zn_6 vs ∧ (nv + zs).toInt ≤ zn_6.toInt := FF6_8
  have N6 := Fr.app N2 N6q
  have pre6 : ∀ t, Steps p.tables e below (T6.setTop (mkF m 24 #[.val (.ref o0), .val (.ref o1), .val (.int zs)] [])) t → P t := fun t k => pre5 t (st6.trans k)
  have pre17 : ∀ t, Steps p.tables e below (T6.setTop (mkF m 26 #[.val (.ref o0), .val (.ref o1), .val (.int zs)] [(.ref o0), (.ref o0)])) t → P t := fun t k => pre6 t (by
      refine XS.aloadN X6.here hx rfl (hb hby d7_24) rfl rfl ?_
      refine XS.aloadN X6.here hx rfl (hb hby d7_25) rfl rfl ?_
      exact k)
  obtain ⟨T18, X18, e18, st18⟩ := getF X6 hx hZ hown (host := "") (Or.inl (hi hw 71 rfl)) Via.refl rfl FF6_3 (g := (mkF m 26 #[.val (.ref o0), .val (.ref o1), .val (.int zs)] [(.ref o0), (.ref o0)])) rfl rfl (hb hby d7_26)
  have pre18 : ∀ t, Steps p.tables e below (T18.setTop (mkF m 29 #[.val (.ref o0), .val (.ref o1), .val (.int zs)] [(.int nv), (.ref o0)])) t → P t := fun t k => pre17 t (st18 _ k)
  have pre19 : ∀ t, Steps p.tables e below (T18.setTop (mkF m 30 #[.val (.ref o0), .val (.ref o1), .val (.int zs)] [(.ref o1), (.int nv), (.ref o0)])) t → P t := fun t k => pre18 t (by
      refine XS.aloadN X18.here hx rfl (hb hby d7_29) rfl rfl ?_
      exact k)
  obtain ⟨cq20, kq20, q20a, q20b, q20c⟩ := isOf hZ e18 FF6_0
  obtain ⟨_, _, ⟨T20, L20, k20, n20⟩, -, X20, ⟨Lc20, hQ20, l20, y20, z20⟩, st20⟩ := X18.virtualBack hx (y := (⟨"java/lang/AbstractStringBuilder", "putStringAt", "(ILjava/lang/String;)V"⟩ : MethodName)) (z := (⟨"java/lang/AbstractStringBuilder", "putStringAt", "(ILjava/lang/String;)V"⟩ : MethodName)) hown (mvT hZ (hi hw 78 rfl)) (mvT hZ (own_decl (hi hw 79 rfl) (hi hw 82 rfl))) (notFace_of_selects (args := #[]) (mvT hZ (hi hw 81 rfl))) (mvT hZ (hi hw 81 rfl)) (mvT hZ (hi hw 79 rfl)) (by decide) (backOf (W := 0) (rm11 l Z a0 hw [] o0 nv o1 bn_6 kn_6 zn_6 vs nv bs ks zs us T6.heap n0 c7 c8 FF6_0 FF6_1 FF6_2 FF6_3 FF6_4 FF6_5 c12 c13 c14 c15 g_bn_6 (own_neOr hor_6 ne_0 Pr_9.lt) HC (own_SB HS hz_6)) hZ (hi hw 82 rfl) (hi hw 32 rfl) (by decide) (by decide)) q20a q20c (g := (mkF m 30 #[.val (.ref o0), .val (.ref o1), .val (.int zs)] [(.ref o1), (.int nv), (.ref o0)])) rfl (by rw [hml]; rfl) (Steps.refl _) (argsL := [(.int nv), (.ref o1)]) (rest := []) (lenOf own_pd9 rfl) rfl (by show 2 * 0 + _ ≤ _; exact Nat.le_of_eq rfl) (hb hby d7_30) (fun _ _ => ⟨rfl, e18, (by decide : 1 + 0 ≤ _), (by decide : 220 + 0 ≤ _)⟩)
  dsimp only [Pt.U, Pt.locs, Pt.cells, Pt.slots] at X20 l20 y20 z20 st20 hQ20
  subst l20 y20 z20
  obtain ⟨rfl, N20q, K20, FF20_0⟩ := hQ20
  have c21 : n0 ≤ T20.heap.size := Nat.le_trans c7 K20.1
  have c22 : Old Z n0 T20.heap := c8.keep K20 (allS (P := fun x => n0 ≤ x) g_bn_6 all0)
  have c23 : Exa Z T20.heap o0 "java/lang/StringBuilder" := FF6_0.keep K20
  have c24 : Exa Z T20.heap bv "[B" := c11.keep K20
  have c25 : Exa Z T20.heap o1 "java/lang/String" := c12.keep K20
  have c26 : Fld Z T20.heap o1 "java/lang/String" "coder" "B" (.int (0 : Int32)) := c13.keep K20 (ninS (own_neOr hor_6 (ne_exa c12 c11 (by decide)) Pr_8.lt) nin0)
  have c27 : Fld Z T20.heap o1 "java/lang/String" "value" "[B" (.ref bs) := c14.keep K20 (ninS (own_neOr hor_6 (ne_exa c12 c11 (by decide)) Pr_8.lt) nin0)
  have c28 : Arv Z T20.heap bs ks .byte zs (own_v us) (.int 0) := c15.keep K20 (ninS (own_neOr hor_6 ne_0 Pr_9.lt) nin0)
  have c29 : Fld Z T20.heap o0 "java/lang/AbstractStringBuilder" "coder" "B" (.int (0 : Int32)) := FF6_1.keep K20 (ninS (own_neOr hor_6 (ne_exa FF6_0 c11 (by decide)) Pr_3.lt) nin0)
  have c30 : Fld Z T20.heap o0 "java/lang/AbstractStringBuilder" "value" "[B" (.ref bn_6) := FF6_2.keep K20 (ninS (own_neOr hor_6 (ne_exa FF6_0 c11 (by decide)) Pr_3.lt) nin0)
  have c31 : Fld Z T20.heap o0 "java/lang/AbstractStringBuilder" "count" "I" (.int nv) := FF6_3.keep K20 (ninS (own_neOr hor_6 (ne_exa FF6_0 c11 (by decide)) Pr_3.lt) nin0)
  have c32 : Exa Z T20.heap bn_6 "[B" := FF6_5.keep K20
  have K33 : Keep h0 T20.heap [o0, bv] := K16.trans K20 (allS (P := fun x => x ∈ ([o0, bv] : List Addr) ∨ h0.size ≤ x) (mi_bn_6) all0)
  have N20 := Fr.app N6 N20q
  have pre20 : ∀ t, Steps p.tables e below (T20.setTop (mkF m 33 #[.val (.ref o0), .val (.ref o1), .val (.int zs)] [])) t → P t := fun t k => pre19 t (st20.trans k)
  have pre34 : ∀ t, Steps p.tables e below (T20.setTop (mkF m 35 #[.val (.ref o0), .val (.ref o1), .val (.int zs)] [(.ref o0), (.ref o0)])) t → P t := fun t k => pre20 t (by
      refine XS.aloadN X20.here hx rfl (hb hby d7_33) rfl rfl ?_
      refine XS.dup X20.here hx rfl (hb hby d7_34) rfl rfl ?_
      exact k)
  obtain ⟨T35, X35, e35, st35⟩ := getF X20 hx hZ hown (host := "") (Or.inl (hi hw 71 rfl)) Via.refl rfl c31 (g := (mkF m 35 #[.val (.ref o0), .val (.ref o1), .val (.int zs)] [(.ref o0), (.ref o0)])) rfl rfl (hb hby d7_35)
  have pre35 : ∀ t, Steps p.tables e below (T35.setTop (mkF m 38 #[.val (.ref o0), .val (.ref o1), .val (.int zs)] [(.int nv), (.ref o0)])) t → P t := fun t k => pre34 t (st35 _ k)
  have pre36 : ∀ t, Steps p.tables e below (T35.setTop (mkF m 40 #[.val (.ref o0), .val (.ref o1), .val (.int zs)] [(.int (nv + zs)), (.ref o0)])) t → P t := fun t k => pre35 t (by
      refine XS.iloadN X35.here hx rfl (hb hby d7_38) rfl ?_
      refine XS.iadd X35.here hx rfl (hb hby d7_39) rfl ?_
      exact k)
  obtain ⟨T37, h37, X37, e37, W37, st37⟩ := putF X35 hx hZ hown (host := "") (Or.inl (hi hw 71 rfl)) Via.refl e35 c31 c23 (Or.inl (hi hw 72 rfl)) (hi hw 23 rfl) (ty := .int) (by decide) rfl rfl (g := (mkF m 40 #[.val (.ref o0), .val (.ref o1), .val (.int zs)] [(.int (nv + zs)), (.ref o0)])) rfl rfl (hb hby d7_40)
  have pre37 : ∀ t, Steps p.tables e below (T37.setTop (mkF m 43 #[.val (.ref o0), .val (.ref o1), .val (.int zs)] [])) t → P t := fun t k => pre36 t (st37 _ k)
  have Fw37 := c31.same W37
  have c38 : n0 ≤ h37.size := Nat.le_trans c21 (Keep.of_wr W37).1
  have c39 : Old Z n0 h37 := c22.wr W37 g_o0
  have c40 : Exa Z h37 o0 "java/lang/StringBuilder" := c23.wr W37
  have c41 : Exa Z h37 bv "[B" := c24.wr W37
  have c42 : Exa Z h37 o1 "java/lang/String" := c25.wr W37
  have c43 : Fld Z h37 o1 "java/lang/String" "coder" "B" (.int (0 : Int32)) := c26.other W37 (Or.inl (ne_exa c25 c23 (by decide)))
  have c44 : Fld Z h37 o1 "java/lang/String" "value" "[B" (.ref bs) := c27.other W37 (Or.inl (ne_exa c25 c23 (by decide)))
  have c45 : Arv Z h37 bs ks .byte zs (own_v us) (.int 0) := c28.other W37 (Ne.symm (own_neA c23 (hi hw 23 rfl) c28))
  have c46 : Fld Z h37 o0 "java/lang/AbstractStringBuilder" "coder" "B" (.int (0 : Int32)) := c29.other W37 (Or.inr (slot_ne (Or.inl (hi hw 41 rfl)) (Or.inl (hi hw 72 rfl)) (by decide) (t := .byte) (t' := .int) (by decide) (by decide)))
  have c47 : Fld Z h37 o0 "java/lang/AbstractStringBuilder" "value" "[B" (.ref bn_6) := c30.other W37 (Or.inr (slot_ne (Or.inl (hi hw 39 rfl)) (Or.inl (hi hw 72 rfl)) (by decide) (t := (.array .byte)) (t' := .int) (by decide) (by decide)))
  have c48 : Exa Z h37 bn_6 "[B" := c32.wr W37
  have c49 : Arv Z h37 bn_6 kn_6 .byte zn_6 (own_v (vs ++ us)) (.int 0) := FF20_0.other W37 (Ne.symm (own_neOr hor_6 (ne_exa c23 c24 (by decide)) Pr_3.lt))
  have K50 : Keep h0 h37 [o0, bv] := K33.wr W37 (Or.inl (List.mem_of_getElem? (i := 0) rfl))
  have N37 := Fr.snoc X37 N20 g_o0
  have pre51 : ∀ t, Steps p.tables e below (T37.setTop (mkF m 44 #[.val (.ref o0), .val (.ref o1), .val (.int zs)] [(.ref o0)])) t → P t := fun t k => pre37 t (by
      refine XS.aloadN X37.here hx rfl (hb hby d7_43) rfl rfl ?_
      exact k)
  obtain ⟨fs, hr, hrun, hended, hW, hsame⟩ := X37.leave (v := some (.ref o0)) (fun h => by rw [Bd.returns] at h; cases h)
  refine ⟨_, _, fin _ (pre51 _ ?_), hrun, hended, _, _, rfl, ?_, ⟨_, rfl⟩, hW, hsame.mono (by decide) (by decide)⟩
  · show Steps p.tables e below (T37.setTop (mkF m 44 #[.val (.ref o0), .val (.ref o1), .val (.int zs)] [(.ref o0)])) _
    jvm_step X37.here [X37.here.top, hx, (hb hby d7_44), X37.method', Bd.returns, Value.isRef, FieldType.isReference]
    first | (intro acts; rw [hr _ acts rfl rfl rfl]) | rw [hr _ _ rfl rfl rfl]
    exact Steps.refl _
  · show Q7 Z o0 o1 bv kv zv vs nv bs ks zs us h0 n0 _ T37.heap _
    rw [e37]
    exact ⟨bn_6, kn_6, zn_6, rfl, N37, K50, c40, c46, c47, Fw37, c49, c48, g_bn_6, hor_6, (own_Sz HS hz_6)⟩
theorem own_pd10 : parseMethodDescriptor "(Ljava/lang/String;)Ljava/lang/AbstractStringBuilder;" = some ⟨[(.object "java/lang/String")], some (.object "java/lang/AbstractStringBuilder")⟩ := by decide +kernel
theorem d6_0 : decode jdk_67_method_7_code 0 = .ok (.aload_n 0, 1) := by decide +kernel
theorem d6_1 : decode jdk_67_method_7_code 1 = .ok (.aload_n 1, 1) := by decide +kernel
theorem d6_2 : decode jdk_67_method_7_code 2 = .ok (.invokespecial 29, 3) := by decide +kernel
theorem d6_5 : decode jdk_67_method_7_code 5 = .ok (.pop, 1) := by decide +kernel
theorem d6_6 : decode jdk_67_method_7_code 6 = .ok (.aload_n 0, 1) := by decide +kernel
theorem d6_7 : decode jdk_67_method_7_code 7 = .ok (.areturn, 1) := by decide +kernel
theorem pn_6 : plainName "java/lang/StringBuilder" = true := by first | (simp [plainName, overriddenIn]; done) | decide +kernel
theorem ef_6 (m : MethodId) (o0 : Addr) (o1 : Addr) : entryFrame m #[(.ref o0), (.ref o1)] 2 = mkF m 0 #[.val (.ref o0), .val (.ref o1)] [] := by first | (simp [entryFrame, mkF, argsToLocals, Value.category]; done) | rfl
def Q6 (Z : State) (o0 : Addr) (o1 : Addr) (bv : Addr) (kv : ClassId) (zv : Int32) (vs : List Int32) (nv : Int32) (bs : Addr) (ks : ClassId) (zs : Int32) (us : List Int32) (h0 : Heap) (n0 : Nat) (v : Option Value) (h : Heap) (L : List Loc) : Prop := ∃ bn : Addr, ∃ kn : ClassId, ∃ zn : Int32, v = some (.ref o0) ∧ Fr n0 L ∧ Keep h0 h [o0, bv] ∧ Exa Z h o0 "java/lang/StringBuilder" ∧ Fld Z h o0 "java/lang/AbstractStringBuilder" "coder" "B" (.int (0 : Int32)) ∧ Fld Z h o0 "java/lang/AbstractStringBuilder" "value" "[B" (.ref bn) ∧ Fld Z h o0 "java/lang/AbstractStringBuilder" "count" "I" (.int (nv + zs)) ∧ Arv Z h bn kn .byte zn (own_v (vs ++ us)) (.int 0) ∧ Exa Z h bn "[B" ∧ n0 ≤ bn ∧ (bn = bv ∨ h0.size ≤ bn) ∧ (own_B zn (vs ++ us))
set_option maxRecDepth 65536 in
set_option maxHeartbeats 40000000 in
theorem rm6 (l : Launch) (Z : State) (a0 : Array Value) (hw : ∀ d ∈ tables_1, d.before a0 Z = true) (ws : List Jvm.Cond) (o0 : Addr) (o1 : Addr) (bv : Addr) (kv : ClassId) (zv : Int32) (vs : List Int32) (nv : Int32) (bs : Addr) (ks : ClassId) (zs : Int32) (us : List Int32) (h0 : Heap) (n0 : Nat) (Z0 : n0 ≤ h0.size) (OLD0 : Old Z n0 h0) (Pr_0 : Exa Z h0 o0 "java/lang/StringBuilder") (Pr_1 : Fld Z h0 o0 "java/lang/AbstractStringBuilder" "coder" "B" (.int (0 : Int32))) (Pr_2 : Fld Z h0 o0 "java/lang/AbstractStringBuilder" "value" "[B" (.ref bv)) (Pr_3 : Fld Z h0 o0 "java/lang/AbstractStringBuilder" "count" "I" (.int nv)) (Pr_4 : Arv Z h0 bv kv .byte zv (own_v vs) (.int 0)) (Pr_5 : Exa Z h0 bv "[B") (Pr_6 : Exa Z h0 o1 "java/lang/String") (Pr_7 : Fld Z h0 o1 "java/lang/String" "coder" "B" (.int (0 : Int32))) (Pr_8 : Fld Z h0 o1 "java/lang/String" "value" "[B" (.ref bs)) (Pr_9 : Arv Z h0 bs ks .byte zs (own_v us) (.int 0)) (g_o0 : n0 ≤ o0) (g_bv : n0 ≤ bv) (ne_0 : bs ≠ bv) (HC : own_CC Z) (HS : own_S zv vs nv zs us) :
    MetFree l (⟨"java/lang/StringBuilder", "append", "(Ljava/lang/String;)Ljava/lang/StringBuilder;"⟩ : MethodName) (head1 (Jvm.Cond.code (⟨"java/lang/StringBuilder", "append", "(Ljava/lang/String;)Ljava/lang/StringBuilder;"⟩ : MethodName) jdk_67_method_7_code 2 (some (.object "java/lang/StringBuilder")) :: ws) ({ frames := 5, cells := 1, slots := 220, locals := 76 } : Room)) (fun a U => a = #[(.ref o0), (.ref o1)] ∧ Z.Warmed39 U.vm ∧ U.heap = h0) (fun _ _ _ _ _ => True) (fun _ U o U' => ∃ v L, o = .returned v ∧ Q6 Z o0 o1 bv kv zv vs nv bs ks zs us h0 n0 v U'.heap L ∧ FrameEnd U o U' L ({ frames := 5, cells := 1, slots := 220, locals := 76 } : Room).cells ({ frames := 5, cells := 1, slots := 220, locals := 76 } : Room).slots) := by
  refine MetFree.of_bodySF (plainFor_of_name pn_6) hisR ?_
  intro p e s m args below meth c s₁ Bd hml0 hP hK
  obtain ⟨rfl, hZ, hh⟩ := hP
  have hx := Bd.exec
  have hby := Bd.bytes
  have hml : c.maxLocals = 2 := hml0
  have hown : s.vm.findClass "java/lang/StringBuilder" = some m.cls := findClass_of_methodNamed Bd.named
  have hnm := (name_of_methodNamed Bd.named Bd.method).1
  have X0 : Stand p l e ({ frames := 5, cells := 1, slots := 220, locals := 76 } : Room) s m #[(.ref o0), (.ref o1)] below meth c s₁ [] 0 0 := Stand.of_body Bd
  have e0 : s₁.heap = h0 := by rw [← hh, Bd.state]; rfl
  have N0 := Fr.nil n0
  obtain ⟨P, pre0, fin⟩ : ∃ P : State → Prop, (∀ t, Steps p.tables e below (s₁.setTop (mkF m 0 #[.val (.ref o0), .val (.ref o1)] [])) t → P t) ∧ (∀ t, P t → Steps p.tables e below (s₁.setTop (entryFrame m #[(.ref o0), (.ref o1)] 2)) t) := ⟨fun t => Steps p.tables e below (s₁.setTop (entryFrame m #[(.ref o0), (.ref o1)] 2)) t, fun t k => castTop (ef_6 m o0 o1) k, fun t k => k⟩
  have K0 : Keep h0 h0 [o0, bv] := Keep.refl _ _
  have pre1 : ∀ t, Steps p.tables e below (s₁.setTop (mkF m 2 #[.val (.ref o0), .val (.ref o1)] [(.ref o1), (.ref o0)])) t → P t := fun t k => pre0 t (by
      refine XS.aloadN X0.here hx rfl (hb hby d6_0) rfl rfl ?_
      refine XS.aloadN X0.here hx rfl (hb hby d6_1) rfl rfl ?_
      exact k)
  obtain ⟨_, _, ⟨T2, L2, k2, n2⟩, -, X2, ⟨Lc2, hQ2, l2, y2, z2⟩, st2⟩ := superBack X0 hx hZ (y := (⟨"java/lang/AbstractStringBuilder", "append", "(Ljava/lang/String;)Ljava/lang/AbstractStringBuilder;"⟩ : MethodName)) hown (hi hw 53 rfl) (own_same (hi hw 115 rfl) (hi hw 57 rfl) rfl (by decide)) (hi hw 54 rfl) (hi hw 55 rfl) (by decide) (backOf (W := 0) (rm7 l Z a0 hw [] o0 o1 bv kv zv vs nv bs ks zs us h0 n0 Z0 OLD0 Pr_0 Pr_1 Pr_2 Pr_3 Pr_4 Pr_5 Pr_6 Pr_7 Pr_8 Pr_9 g_o0 g_bv ne_0 HC HS) hZ (hi hw 57 rfl) (hi hw 32 rfl) (by decide) (by decide)) e0 (Ins.self Pr_0) (g := (mkF m 2 #[.val (.ref o0), .val (.ref o1)] [(.ref o1), (.ref o0)])) rfl (by rw [hml]; rfl) (hi hw 57 rfl) (argsL := [(.ref o1)]) (rest := []) (lenOf own_pd10 rfl) rfl (by show 2 * 0 + _ ≤ _; exact Nat.le_of_eq rfl) (hb hby d6_2) (fun _ _ => ⟨rfl, e0, (by decide : 0 + 1 ≤ _), (by decide : 0 + 220 ≤ _)⟩)
  dsimp only [Pt.U, Pt.locs, Pt.cells, Pt.slots] at X2 l2 y2 z2 st2 hQ2
  subst l2 y2 z2
  obtain ⟨bn_2, kn_2, zn_2, rfl, N2q, K2, FF2_0, FF2_1, FF2_2, FF2_3, FF2_4, FF2_5, FF2_6, FF2_7, FF2_8⟩ := hQ2
  have c3 : n0 ≤ T2.heap.size := Nat.le_trans Z0 K2.1
  have c4 : Old Z n0 T2.heap := OLD0.keep K2 (allS (P := fun x => n0 ≤ x) g_o0 (allS (P := fun x => n0 ≤ x) g_bv all0))
  have c5 : Exa Z T2.heap o0 "java/lang/StringBuilder" := Pr_0.keep K2
  have c6 : Exa Z T2.heap bv "[B" := Pr_5.keep K2
  have c7 : Exa Z T2.heap o1 "java/lang/String" := Pr_6.keep K2
  have c8 : Fld Z T2.heap o1 "java/lang/String" "coder" "B" (.int (0 : Int32)) := Pr_7.keep K2 (ninS (ne_exa Pr_6 Pr_0 (by decide)) (ninS (ne_exa Pr_6 Pr_5 (by decide)) nin0))
  have c9 : Fld Z T2.heap o1 "java/lang/String" "value" "[B" (.ref bs) := Pr_8.keep K2 (ninS (ne_exa Pr_6 Pr_0 (by decide)) (ninS (ne_exa Pr_6 Pr_5 (by decide)) nin0))
  have c10 : Arv Z T2.heap bs ks .byte zs (own_v us) (.int 0) := Pr_9.keep K2 (ninS (Ne.symm (own_neA Pr_0 (hi hw 23 rfl) Pr_9)) (ninS ne_0 nin0))
  have K11 : Keep h0 T2.heap [o0, bv] := K0.trans K2 (allS (P := fun x => x ∈ ([o0, bv] : List Addr) ∨ h0.size ≤ x) (Or.inl (List.mem_of_getElem? (i := 0) rfl)) (allS (P := fun x => x ∈ ([o0, bv] : List Addr) ∨ h0.size ≤ x) (Or.inl (List.mem_of_getElem? (i := 1) rfl)) all0))
  have g_bn_2 := FF2_6
  have hor_2 : bn_2 = bv ∨ h0.size ≤ bn_2 := FF2_7
  have mi_bn_2 : bn_2 ∈ ([o0, bv] : List Addr) ∨ h0.size ≤ bn_2 := own_mi hor_2 K0.1 (Or.inl (List.mem_of_getElem? (i := 1) rfl))
  have hz_2 : own_B zn_2 (vs ++ us) := FF2_8
  have N2 := Fr.app N0 N2q
  have pre2 : ∀ t, Steps p.tables e below (T2.setTop (mkF m 5 #[.val (.ref o0), .val (.ref o1)] [(.ref o0)])) t → P t := fun t k => pre1 t (st2.trans k)
  have pre12 : ∀ t, Steps p.tables e below (T2.setTop (mkF m 7 #[.val (.ref o0), .val (.ref o1)] [(.ref o0)])) t → P t := fun t k => pre2 t (by
      refine XS.pop X2.here hx rfl (hb hby d6_5) rfl rfl ?_
      refine XS.aloadN X2.here hx rfl (hb hby d6_6) rfl rfl ?_
      exact k)
  obtain ⟨fs, hr, hrun, hended, hW, hsame⟩ := X2.leave (v := some (.ref o0)) (fun h => by rw [Bd.returns] at h; cases h)
  refine ⟨_, _, fin _ (pre12 _ ?_), hrun, hended, _, _, rfl, ?_, ⟨_, rfl⟩, hW, hsame.mono (by decide) (by decide)⟩
  · show Steps p.tables e below (T2.setTop (mkF m 7 #[.val (.ref o0), .val (.ref o1)] [(.ref o0)])) _
    jvm_step X2.here [X2.here.top, hx, (hb hby d6_7), X2.method', Bd.returns, Value.isRef, FieldType.isReference]
    first | (intro acts; rw [hr _ acts rfl rfl rfl]) | rw [hr _ _ rfl rfl rfl]
    exact Steps.refl _
  · show Q6 Z o0 o1 bv kv zv vs nv bs ks zs us h0 n0 _ T2.heap _
    exact ⟨bn_2, kn_2, zn_2, rfl, N2, K11, FF2_0, FF2_1, FF2_2, FF2_3, FF2_4, FF2_5, g_bn_2, hor_2, hz_2⟩
theorem d16_20 : decode jdk_35_method_15_code 20 = .ok (.iload 5, 2) := by decide +kernel
theorem d16_22 : decode jdk_35_method_15_code 22 = .ok (.bipush 19, 2) := by decide +kernel
theorem d16_24 : decode jdk_35_method_15_code 24 = .ok (.if_icmp .ge 26, 3) := by decide +kernel
theorem d16_27 : decode jdk_35_method_15_code 27 = .ok (.lload_n 0, 1) := by decide +kernel
theorem d16_28 : decode jdk_35_method_15_code 28 = .ok (.lload_n 3, 1) := by decide +kernel
theorem d16_29 : decode jdk_35_method_15_code 29 = .ok (.lcmp, 1) := by decide +kernel
theorem d16_30 : decode jdk_35_method_15_code 30 = .ok (.ifCond .le 8, 3) := by decide +kernel
theorem d16_38 : decode jdk_35_method_15_code 38 = .ok (.ldc2_w 53, 3) := by decide +kernel
theorem d16_41 : decode jdk_35_method_15_code 41 = .ok (.lload_n 3, 1) := by decide +kernel
theorem d16_42 : decode jdk_35_method_15_code 42 = .ok (.lmul, 1) := by decide +kernel
theorem d16_43 : decode jdk_35_method_15_code 43 = .ok (.lstore_n 3, 1) := by decide +kernel
theorem d16_44 : decode jdk_35_method_15_code 44 = .ok (.iinc 5 1, 3) := by decide +kernel
theorem d16_47 : decode jdk_35_method_15_code 47 = .ok (.goto (-27), 3) := by decide +kernel
theorem own_t16 {p : Program} {l : Launch} {e : Env} {R : Room} {s : State} {m : MethodId} {args : Array Value} {below : List Frame} {meth : Method} {c : Code} {cells slots : Nat} {Z : State} {a0 : Array Value} {P : State → Prop} {T1 : State} {L1 : List Loc} {x y y' : Int64} {d i i' : Int32} (hx : p.tables.exec = Jvm.exec) (hby : c.code = jdk_35_method_15_code) (hZ : Z.Warmed39 s.vm) (hw : ∀ d ∈ tables_1, d.before a0 Z = true) (hown : s.vm.findClass "java/lang/Long" = some m.cls) (X0 : Stand p l e R s m args below meth c T1 L1 cells slots) (h19 : i < (19 : Int32)) (hgo : ¬ y < x) (hy : ((10 : Int64) * y) = y') (hi' : (i + (1 : Int32)) = i') (pre0 : (∀ t, Steps p.tables e below (T1.setTop (mkF m 20 #[.val (.long x), .second, .val (.int d), .val (.long y), .second, .val (.int i)] [])) t → P t)) : (∀ t, Steps p.tables e below (T1.setTop (mkF m 20 #[.val (.long x), .second, .val (.int d), .val (.long y'), .second, .val (.int i')] [])) t → P t) := by
  subst hy hi'
  have pre1 : ∀ t, Steps p.tables e below (T1.setTop (mkF m 20 #[.val (.long x), .second, .val (.int d), .val (.long ((10 : Int64) * y)), .second, .val (.int (i + (1 : Int32)))] [])) t → P t := fun t k => pre0 t (by
      refine XS.iload X0.here hx rfl (hb hby d16_20) rfl ?_
      refine XS.bipush X0.here hx rfl (hb hby d16_22) ?_
      refine XS.icmpNo X0.here hx rfl (hb hby d16_24) rfl (tlt h19).2.1 ?_
      refine XS.lloadN X0.here hx rfl (hb hby d16_27) rfl ?_
      refine XS.lloadN X0.here hx rfl (hb hby d16_28) rfl ?_
      refine XS.lcmp X0.here hx rfl (hb hby d16_29) rfl ?_
      refine XS.ifYes X0.here hx rfl (pc0 := 30) (pc' := 38) rfl (hb hby d16_30) rfl ((if0 _ _).trans (flt (fun q => hgo ((lw_gt _ _).mp q))).2.2.2) (by decide) (by decide) ?_
      refine X0.ldc2Long hx hown (mvT hZ (hi hw 148 rfl)) (g := (mkF m 38 #[.val (.long x), .second, .val (.int d), .val (.long y), .second, .val (.int i)] [])) rfl (hb hby d16_38) _ ?_
      refine XS.lloadN X0.here hx rfl (hb hby d16_41) rfl ?_
      refine XS.lmul X0.here hx rfl (hb hby d16_42) rfl ?_
      refine XS.lstoreN X0.here hx rfl (hb hby d16_43) rfl (l' := #[.val (.long x), .second, .val (.int d), .val (.long ((10 : Int64) * y)), .second, .val (.int i)]) rfl ?_
      refine XS.iinc X0.here hx rfl (hb hby d16_44) rfl (l' := #[.val (.long x), .second, .val (.int d), .val (.long ((10 : Int64) * y)), .second, .val (.int (i + (1 : Int32)))]) rfl ?_
      refine XS.goto X0.here hx rfl (pc0 := 47) (pc' := 20) rfl (hb hby d16_47) (by decide) (by decide) ?_
      exact k)
  exact pre1
theorem d16_0 : decode jdk_35_method_15_code 0 = .ok (.iconst 1, 1) := by decide +kernel
theorem d16_1 : decode jdk_35_method_15_code 1 = .ok (.istore_n 2, 1) := by decide +kernel
theorem d16_2 : decode jdk_35_method_15_code 2 = .ok (.lload_n 0, 1) := by decide +kernel
theorem d16_3 : decode jdk_35_method_15_code 3 = .ok (.lconst 0, 1) := by decide +kernel
theorem d16_4 : decode jdk_35_method_15_code 4 = .ok (.lcmp, 1) := by decide +kernel
theorem d16_5 : decode jdk_35_method_15_code 5 = .ok (.ifCond .lt 8, 3) := by decide +kernel
theorem d16_8 : decode jdk_35_method_15_code 8 = .ok (.iconst 0, 1) := by decide +kernel
theorem d16_9 : decode jdk_35_method_15_code 9 = .ok (.istore_n 2, 1) := by decide +kernel
theorem d16_10 : decode jdk_35_method_15_code 10 = .ok (.lload_n 0, 1) := by decide +kernel
theorem d16_11 : decode jdk_35_method_15_code 11 = .ok (.lneg, 1) := by decide +kernel
theorem d16_12 : decode jdk_35_method_15_code 12 = .ok (.lstore_n 0, 1) := by decide +kernel
theorem d16_13 : decode jdk_35_method_15_code 13 = .ok (.ldc2_w 140, 3) := by decide +kernel
theorem d16_16 : decode jdk_35_method_15_code 16 = .ok (.lstore_n 3, 1) := by decide +kernel
theorem d16_17 : decode jdk_35_method_15_code 17 = .ok (.iconst 1, 1) := by decide +kernel
theorem d16_18 : decode jdk_35_method_15_code 18 = .ok (.istore 5, 2) := by decide +kernel
theorem d16_33 : decode jdk_35_method_15_code 33 = .ok (.iload 5, 2) := by decide +kernel
theorem d16_35 : decode jdk_35_method_15_code 35 = .ok (.iload_n 2, 1) := by decide +kernel
theorem d16_36 : decode jdk_35_method_15_code 36 = .ok (.iadd, 1) := by decide +kernel
theorem d16_37 : decode jdk_35_method_15_code 37 = .ok (.ireturn, 1) := by decide +kernel
theorem d16_50 : decode jdk_35_method_15_code 50 = .ok (.bipush 19, 2) := by decide +kernel
theorem d16_52 : decode jdk_35_method_15_code 52 = .ok (.iload_n 2, 1) := by decide +kernel
theorem d16_53 : decode jdk_35_method_15_code 53 = .ok (.iadd, 1) := by decide +kernel
theorem d16_54 : decode jdk_35_method_15_code 54 = .ok (.ireturn, 1) := by decide +kernel
theorem pn_16 : plainName "java/lang/Long" = true := by first | (simp [plainName, overriddenIn]; done) | decide +kernel
theorem ef_16 (m : MethodId) (q0 : Int64) : entryFrame m #[(.long q0)] 6 = mkF m 0 #[.val (.long q0), .second, .unset, .unset, .unset, .unset] [] := by first | (simp [entryFrame, mkF, argsToLocals, Value.category]; done) | rfl
def own_f16 (q0 : Int64) : Int32 := (let v5 : Int64 := (if q0 < (0 : Int64) then q0 else (-q0)); (let v6 : Int32 := (if q0 < (0 : Int64) then (1 : Int32) else (0 : Int32)); (if (-10 : Int64) < v5 then ((1 : Int32) + v6) else (if (-100 : Int64) < v5 then ((2 : Int32) + v6) else (if (-1000 : Int64) < v5 then ((3 : Int32) + v6) else (if (-10000 : Int64) < v5 then ((4 : Int32) + v6) else (if (-100000 : Int64) < v5 then ((5 : Int32) + v6) else (if (-1000000 : Int64) < v5 then ((6 : Int32) + v6) else (if (-10000000 : Int64) < v5 then ((7 : Int32) + v6) else (if (-100000000 : Int64) < v5 then ((8 : Int32) + v6) else (if (-1000000000 : Int64) < v5 then ((9 : Int32) + v6) else (if (-10000000000 : Int64) < v5 then ((10 : Int32) + v6) else (if (-100000000000 : Int64) < v5 then ((11 : Int32) + v6) else (if (-1000000000000 : Int64) < v5 then ((12 : Int32) + v6) else (if (-10000000000000 : Int64) < v5 then ((13 : Int32) + v6) else (if (-100000000000000 : Int64) < v5 then ((14 : Int32) + v6) else (if (-1000000000000000 : Int64) < v5 then ((15 : Int32) + v6) else (if (-10000000000000000 : Int64) < v5 then ((16 : Int32) + v6) else (if (-100000000000000000 : Int64) < v5 then ((17 : Int32) + v6) else (if (-1000000000000000000 : Int64) < v5 then ((18 : Int32) + v6) else ((19 : Int32) + v6)))))))))))))))))))))
theorem own_q16_1 {q0 : Int64} (hc2 : q0 < (0 : Int64)) : q0 = (if q0 < (0 : Int64) then q0 else (-q0)) := by
  first | (rw [if_pos hc2]; done) | (simp only [if_pos hc2]; done) | (simp [if_pos hc2]; done)
theorem own_q16_2 {q0 : Int64} (hc2 : q0 < (0 : Int64)) : (1 : Int32) = (if q0 < (0 : Int64) then (1 : Int32) else (0 : Int32)) := by
  first | (rw [if_pos hc2]; done) | (simp only [if_pos hc2]; done) | (simp [if_pos hc2]; done)
theorem own_q16_3 {q0 : Int64} (hc2 : ¬ (q0 < (0 : Int64))) : (-q0) = (if q0 < (0 : Int64) then q0 else (-q0)) := by
  first | (rw [if_neg hc2]; done) | (simp only [if_neg hc2]; done) | (simp [if_neg hc2]; done)
theorem own_q16_4 {q0 : Int64} (hc2 : ¬ (q0 < (0 : Int64))) : (0 : Int32) = (if q0 < (0 : Int64) then (1 : Int32) else (0 : Int32)) := by
  first | (rw [if_neg hc2]; done) | (simp only [if_neg hc2]; done) | (simp [if_neg hc2]; done)
theorem own_q16_5 {q0 : Int64} {v5 : Int64} {v6 : Int32} (hv5 : v5 = (if q0 < (0 : Int64) then q0 else (-q0))) (hv6 : v6 = (if q0 < (0 : Int64) then (1 : Int32) else (0 : Int32))) (hc9 : (-10 : Int64) < v5) : ((1 : Int32) + v6) = (own_f16 q0) := by
  subst hv5 hv6; first | (unfold own_f16; rw [if_pos hc9]; done) | (simp only [own_f16, if_pos hc9]; done) | (simp [own_f16, if_pos hc9]; done)
theorem own_q16_6 {q0 : Int64} {v5 : Int64} {v6 : Int32} (hv5 : v5 = (if q0 < (0 : Int64) then q0 else (-q0))) (hv6 : v6 = (if q0 < (0 : Int64) then (1 : Int32) else (0 : Int32))) (hc9 : ¬ ((-10 : Int64) < v5)) (hc12 : (-100 : Int64) < v5) : ((2 : Int32) + v6) = (own_f16 q0) := by
  subst hv5 hv6; first | (unfold own_f16; rw [if_neg hc9, if_pos hc12]; done) | (simp only [own_f16, if_neg hc9, if_pos hc12]; done) | (simp [own_f16, if_neg hc9, if_pos hc12]; done)
theorem own_q16_7 {q0 : Int64} {v5 : Int64} {v6 : Int32} (hv5 : v5 = (if q0 < (0 : Int64) then q0 else (-q0))) (hv6 : v6 = (if q0 < (0 : Int64) then (1 : Int32) else (0 : Int32))) (hc9 : ¬ ((-10 : Int64) < v5)) (hc12 : ¬ ((-100 : Int64) < v5)) (hc15 : (-1000 : Int64) < v5) : ((3 : Int32) + v6) = (own_f16 q0) := by
  subst hv5 hv6; first | (unfold own_f16; rw [if_neg hc9, if_neg hc12, if_pos hc15]; done) | (simp only [own_f16, if_neg hc9, if_neg hc12, if_pos hc15]; done) | (simp [own_f16, if_neg hc9, if_neg hc12, if_pos hc15]; done)
theorem own_q16_8 {q0 : Int64} {v5 : Int64} {v6 : Int32} (hv5 : v5 = (if q0 < (0 : Int64) then q0 else (-q0))) (hv6 : v6 = (if q0 < (0 : Int64) then (1 : Int32) else (0 : Int32))) (hc9 : ¬ ((-10 : Int64) < v5)) (hc12 : ¬ ((-100 : Int64) < v5)) (hc15 : ¬ ((-1000 : Int64) < v5)) (hc18 : (-10000 : Int64) < v5) : ((4 : Int32) + v6) = (own_f16 q0) := by
  subst hv5 hv6; first | (unfold own_f16; rw [if_neg hc9, if_neg hc12, if_neg hc15, if_pos hc18]; done) | (simp only [own_f16, if_neg hc9, if_neg hc12, if_neg hc15, if_pos hc18]; done) | (simp [own_f16, if_neg hc9, if_neg hc12, if_neg hc15, if_pos hc18]; done)
theorem own_q16_9 {q0 : Int64} {v5 : Int64} {v6 : Int32} (hv5 : v5 = (if q0 < (0 : Int64) then q0 else (-q0))) (hv6 : v6 = (if q0 < (0 : Int64) then (1 : Int32) else (0 : Int32))) (hc9 : ¬ ((-10 : Int64) < v5)) (hc12 : ¬ ((-100 : Int64) < v5)) (hc15 : ¬ ((-1000 : Int64) < v5)) (hc18 : ¬ ((-10000 : Int64) < v5)) (hc21 : (-100000 : Int64) < v5) : ((5 : Int32) + v6) = (own_f16 q0) := by
  subst hv5 hv6; first | (unfold own_f16; rw [if_neg hc9, if_neg hc12, if_neg hc15, if_neg hc18, if_pos hc21]; done) | (simp only [own_f16, if_neg hc9, if_neg hc12, if_neg hc15, if_neg hc18, if_pos hc21]; done) | (simp [own_f16, if_neg hc9, if_neg hc12, if_neg hc15, if_neg hc18, if_pos hc21]; done)
theorem own_q16_10 {q0 : Int64} {v5 : Int64} {v6 : Int32} (hv5 : v5 = (if q0 < (0 : Int64) then q0 else (-q0))) (hv6 : v6 = (if q0 < (0 : Int64) then (1 : Int32) else (0 : Int32))) (hc9 : ¬ ((-10 : Int64) < v5)) (hc12 : ¬ ((-100 : Int64) < v5)) (hc15 : ¬ ((-1000 : Int64) < v5)) (hc18 : ¬ ((-10000 : Int64) < v5)) (hc21 : ¬ ((-100000 : Int64) < v5)) (hc24 : (-1000000 : Int64) < v5) : ((6 : Int32) + v6) = (own_f16 q0) := by
  subst hv5 hv6; first | (unfold own_f16; rw [if_neg hc9, if_neg hc12, if_neg hc15, if_neg hc18, if_neg hc21, if_pos hc24]; done) | (simp only [own_f16, if_neg hc9, if_neg hc12, if_neg hc15, if_neg hc18, if_neg hc21, if_pos hc24]; done) | (simp [own_f16, if_neg hc9, if_neg hc12, if_neg hc15, if_neg hc18, if_neg hc21, if_pos hc24]; done)
theorem own_q16_11 {q0 : Int64} {v5 : Int64} {v6 : Int32} (hv5 : v5 = (if q0 < (0 : Int64) then q0 else (-q0))) (hv6 : v6 = (if q0 < (0 : Int64) then (1 : Int32) else (0 : Int32))) (hc9 : ¬ ((-10 : Int64) < v5)) (hc12 : ¬ ((-100 : Int64) < v5)) (hc15 : ¬ ((-1000 : Int64) < v5)) (hc18 : ¬ ((-10000 : Int64) < v5)) (hc21 : ¬ ((-100000 : Int64) < v5)) (hc24 : ¬ ((-1000000 : Int64) < v5)) (hc27 : (-10000000 : Int64) < v5) : ((7 : Int32) + v6) = (own_f16 q0) := by
  subst hv5 hv6; first | (unfold own_f16; rw [if_neg hc9, if_neg hc12, if_neg hc15, if_neg hc18, if_neg hc21, if_neg hc24, if_pos hc27]; done) | (simp only [own_f16, if_neg hc9, if_neg hc12, if_neg hc15, if_neg hc18, if_neg hc21, if_neg hc24, if_pos hc27]; done) | (simp [own_f16, if_neg hc9, if_neg hc12, if_neg hc15, if_neg hc18, if_neg hc21, if_neg hc24, if_pos hc27]; done)
theorem own_q16_12 {q0 : Int64} {v5 : Int64} {v6 : Int32} (hv5 : v5 = (if q0 < (0 : Int64) then q0 else (-q0))) (hv6 : v6 = (if q0 < (0 : Int64) then (1 : Int32) else (0 : Int32))) (hc9 : ¬ ((-10 : Int64) < v5)) (hc12 : ¬ ((-100 : Int64) < v5)) (hc15 : ¬ ((-1000 : Int64) < v5)) (hc18 : ¬ ((-10000 : Int64) < v5)) (hc21 : ¬ ((-100000 : Int64) < v5)) (hc24 : ¬ ((-1000000 : Int64) < v5)) (hc27 : ¬ ((-10000000 : Int64) < v5)) (hc30 : (-100000000 : Int64) < v5) : ((8 : Int32) + v6) = (own_f16 q0) := by
  subst hv5 hv6; first | (unfold own_f16; rw [if_neg hc9, if_neg hc12, if_neg hc15, if_neg hc18, if_neg hc21, if_neg hc24, if_neg hc27, if_pos hc30]; done) | (simp only [own_f16, if_neg hc9, if_neg hc12, if_neg hc15, if_neg hc18, if_neg hc21, if_neg hc24, if_neg hc27, if_pos hc30]; done) | (simp [own_f16, if_neg hc9, if_neg hc12, if_neg hc15, if_neg hc18, if_neg hc21, if_neg hc24, if_neg hc27, if_pos hc30]; done)
theorem own_q16_13 {q0 : Int64} {v5 : Int64} {v6 : Int32} (hv5 : v5 = (if q0 < (0 : Int64) then q0 else (-q0))) (hv6 : v6 = (if q0 < (0 : Int64) then (1 : Int32) else (0 : Int32))) (hc9 : ¬ ((-10 : Int64) < v5)) (hc12 : ¬ ((-100 : Int64) < v5)) (hc15 : ¬ ((-1000 : Int64) < v5)) (hc18 : ¬ ((-10000 : Int64) < v5)) (hc21 : ¬ ((-100000 : Int64) < v5)) (hc24 : ¬ ((-1000000 : Int64) < v5)) (hc27 : ¬ ((-10000000 : Int64) < v5)) (hc30 : ¬ ((-100000000 : Int64) < v5)) (hc33 : (-1000000000 : Int64) < v5) : ((9 : Int32) + v6) = (own_f16 q0) := by
  subst hv5 hv6; first | (unfold own_f16; rw [if_neg hc9, if_neg hc12, if_neg hc15, if_neg hc18, if_neg hc21, if_neg hc24, if_neg hc27, if_neg hc30, if_pos hc33]; done) | (simp only [own_f16, if_neg hc9, if_neg hc12, if_neg hc15, if_neg hc18, if_neg hc21, if_neg hc24, if_neg hc27, if_neg hc30, if_pos hc33]; done) | (simp [own_f16, if_neg hc9, if_neg hc12, if_neg hc15, if_neg hc18, if_neg hc21, if_neg hc24, if_neg hc27, if_neg hc30, if_pos hc33]; done)
theorem own_q16_14 {q0 : Int64} {v5 : Int64} {v6 : Int32} (hv5 : v5 = (if q0 < (0 : Int64) then q0 else (-q0))) (hv6 : v6 = (if q0 < (0 : Int64) then (1 : Int32) else (0 : Int32))) (hc9 : ¬ ((-10 : Int64) < v5)) (hc12 : ¬ ((-100 : Int64) < v5)) (hc15 : ¬ ((-1000 : Int64) < v5)) (hc18 : ¬ ((-10000 : Int64) < v5)) (hc21 : ¬ ((-100000 : Int64) < v5)) (hc24 : ¬ ((-1000000 : Int64) < v5)) (hc27 : ¬ ((-10000000 : Int64) < v5)) (hc30 : ¬ ((-100000000 : Int64) < v5)) (hc33 : ¬ ((-1000000000 : Int64) < v5)) (hc36 : (-10000000000 : Int64) < v5) : ((10 : Int32) + v6) = (own_f16 q0) := by
  subst hv5 hv6; first | (unfold own_f16; rw [if_neg hc9, if_neg hc12, if_neg hc15, if_neg hc18, if_neg hc21, if_neg hc24, if_neg hc27, if_neg hc30, if_neg hc33, if_pos hc36]; done) | (simp only [own_f16, if_neg hc9, if_neg hc12, if_neg hc15, if_neg hc18, if_neg hc21, if_neg hc24, if_neg hc27, if_neg hc30, if_neg hc33, if_pos hc36]; done) | (simp [own_f16, if_neg hc9, if_neg hc12, if_neg hc15, if_neg hc18, if_neg hc21, if_neg hc24, if_neg hc27, if_neg hc30, if_neg hc33, if_pos hc36]; done)
theorem own_q16_15 {q0 : Int64} {v5 : Int64} {v6 : Int32} (hv5 : v5 = (if q0 < (0 : Int64) then q0 else (-q0))) (hv6 : v6 = (if q0 < (0 : Int64) then (1 : Int32) else (0 : Int32))) (hc9 : ¬ ((-10 : Int64) < v5)) (hc12 : ¬ ((-100 : Int64) < v5)) (hc15 : ¬ ((-1000 : Int64) < v5)) (hc18 : ¬ ((-10000 : Int64) < v5)) (hc21 : ¬ ((-100000 : Int64) < v5)) (hc24 : ¬ ((-1000000 : Int64) < v5)) (hc27 : ¬ ((-10000000 : Int64) < v5)) (hc30 : ¬ ((-100000000 : Int64) < v5)) (hc33 : ¬ ((-1000000000 : Int64) < v5)) (hc36 : ¬ ((-10000000000 : Int64) < v5)) (hc39 : (-100000000000 : Int64) < v5) : ((11 : Int32) + v6) = (own_f16 q0) := by
  subst hv5 hv6; first | (unfold own_f16; rw [if_neg hc9, if_neg hc12, if_neg hc15, if_neg hc18, if_neg hc21, if_neg hc24, if_neg hc27, if_neg hc30, if_neg hc33, if_neg hc36, if_pos hc39]; done) | (simp only [own_f16, if_neg hc9, if_neg hc12, if_neg hc15, if_neg hc18, if_neg hc21, if_neg hc24, if_neg hc27, if_neg hc30, if_neg hc33, if_neg hc36, if_pos hc39]; done) | (simp [own_f16, if_neg hc9, if_neg hc12, if_neg hc15, if_neg hc18, if_neg hc21, if_neg hc24, if_neg hc27, if_neg hc30, if_neg hc33, if_neg hc36, if_pos hc39]; done)
theorem own_q16_16 {q0 : Int64} {v5 : Int64} {v6 : Int32} (hv5 : v5 = (if q0 < (0 : Int64) then q0 else (-q0))) (hv6 : v6 = (if q0 < (0 : Int64) then (1 : Int32) else (0 : Int32))) (hc9 : ¬ ((-10 : Int64) < v5)) (hc12 : ¬ ((-100 : Int64) < v5)) (hc15 : ¬ ((-1000 : Int64) < v5)) (hc18 : ¬ ((-10000 : Int64) < v5)) (hc21 : ¬ ((-100000 : Int64) < v5)) (hc24 : ¬ ((-1000000 : Int64) < v5)) (hc27 : ¬ ((-10000000 : Int64) < v5)) (hc30 : ¬ ((-100000000 : Int64) < v5)) (hc33 : ¬ ((-1000000000 : Int64) < v5)) (hc36 : ¬ ((-10000000000 : Int64) < v5)) (hc39 : ¬ ((-100000000000 : Int64) < v5)) (hc42 : (-1000000000000 : Int64) < v5) : ((12 : Int32) + v6) = (own_f16 q0) := by
  subst hv5 hv6; first | (unfold own_f16; rw [if_neg hc9, if_neg hc12, if_neg hc15, if_neg hc18, if_neg hc21, if_neg hc24, if_neg hc27, if_neg hc30, if_neg hc33, if_neg hc36, if_neg hc39, if_pos hc42]; done) | (simp only [own_f16, if_neg hc9, if_neg hc12, if_neg hc15, if_neg hc18, if_neg hc21, if_neg hc24, if_neg hc27, if_neg hc30, if_neg hc33, if_neg hc36, if_neg hc39, if_pos hc42]; done) | (simp [own_f16, if_neg hc9, if_neg hc12, if_neg hc15, if_neg hc18, if_neg hc21, if_neg hc24, if_neg hc27, if_neg hc30, if_neg hc33, if_neg hc36, if_neg hc39, if_pos hc42]; done)
theorem own_q16_17 {q0 : Int64} {v5 : Int64} {v6 : Int32} (hv5 : v5 = (if q0 < (0 : Int64) then q0 else (-q0))) (hv6 : v6 = (if q0 < (0 : Int64) then (1 : Int32) else (0 : Int32))) (hc9 : ¬ ((-10 : Int64) < v5)) (hc12 : ¬ ((-100 : Int64) < v5)) (hc15 : ¬ ((-1000 : Int64) < v5)) (hc18 : ¬ ((-10000 : Int64) < v5)) (hc21 : ¬ ((-100000 : Int64) < v5)) (hc24 : ¬ ((-1000000 : Int64) < v5)) (hc27 : ¬ ((-10000000 : Int64) < v5)) (hc30 : ¬ ((-100000000 : Int64) < v5)) (hc33 : ¬ ((-1000000000 : Int64) < v5)) (hc36 : ¬ ((-10000000000 : Int64) < v5)) (hc39 : ¬ ((-100000000000 : Int64) < v5)) (hc42 : ¬ ((-1000000000000 : Int64) < v5)) (hc45 : (-10000000000000 : Int64) < v5) : ((13 : Int32) + v6) = (own_f16 q0) := by
  subst hv5 hv6; first | (unfold own_f16; rw [if_neg hc9, if_neg hc12, if_neg hc15, if_neg hc18, if_neg hc21, if_neg hc24, if_neg hc27, if_neg hc30, if_neg hc33, if_neg hc36, if_neg hc39, if_neg hc42, if_pos hc45]; done) | (simp only [own_f16, if_neg hc9, if_neg hc12, if_neg hc15, if_neg hc18, if_neg hc21, if_neg hc24, if_neg hc27, if_neg hc30, if_neg hc33, if_neg hc36, if_neg hc39, if_neg hc42, if_pos hc45]; done) | (simp [own_f16, if_neg hc9, if_neg hc12, if_neg hc15, if_neg hc18, if_neg hc21, if_neg hc24, if_neg hc27, if_neg hc30, if_neg hc33, if_neg hc36, if_neg hc39, if_neg hc42, if_pos hc45]; done)
theorem own_q16_18 {q0 : Int64} {v5 : Int64} {v6 : Int32} (hv5 : v5 = (if q0 < (0 : Int64) then q0 else (-q0))) (hv6 : v6 = (if q0 < (0 : Int64) then (1 : Int32) else (0 : Int32))) (hc9 : ¬ ((-10 : Int64) < v5)) (hc12 : ¬ ((-100 : Int64) < v5)) (hc15 : ¬ ((-1000 : Int64) < v5)) (hc18 : ¬ ((-10000 : Int64) < v5)) (hc21 : ¬ ((-100000 : Int64) < v5)) (hc24 : ¬ ((-1000000 : Int64) < v5)) (hc27 : ¬ ((-10000000 : Int64) < v5)) (hc30 : ¬ ((-100000000 : Int64) < v5)) (hc33 : ¬ ((-1000000000 : Int64) < v5)) (hc36 : ¬ ((-10000000000 : Int64) < v5)) (hc39 : ¬ ((-100000000000 : Int64) < v5)) (hc42 : ¬ ((-1000000000000 : Int64) < v5)) (hc45 : ¬ ((-10000000000000 : Int64) < v5)) (hc48 : (-100000000000000 : Int64) < v5) : ((14 : Int32) + v6) = (own_f16 q0) := by
  subst hv5 hv6; first | (unfold own_f16; rw [if_neg hc9, if_neg hc12, if_neg hc15, if_neg hc18, if_neg hc21, if_neg hc24, if_neg hc27, if_neg hc30, if_neg hc33, if_neg hc36, if_neg hc39, if_neg hc42, if_neg hc45, if_pos hc48]; done) | (simp only [own_f16, if_neg hc9, if_neg hc12, if_neg hc15, if_neg hc18, if_neg hc21, if_neg hc24, if_neg hc27, if_neg hc30, if_neg hc33, if_neg hc36, if_neg hc39, if_neg hc42, if_neg hc45, if_pos hc48]; done) | (simp [own_f16, if_neg hc9, if_neg hc12, if_neg hc15, if_neg hc18, if_neg hc21, if_neg hc24, if_neg hc27, if_neg hc30, if_neg hc33, if_neg hc36, if_neg hc39, if_neg hc42, if_neg hc45, if_pos hc48]; done)
theorem own_q16_19 {q0 : Int64} {v5 : Int64} {v6 : Int32} (hv5 : v5 = (if q0 < (0 : Int64) then q0 else (-q0))) (hv6 : v6 = (if q0 < (0 : Int64) then (1 : Int32) else (0 : Int32))) (hc9 : ¬ ((-10 : Int64) < v5)) (hc12 : ¬ ((-100 : Int64) < v5)) (hc15 : ¬ ((-1000 : Int64) < v5)) (hc18 : ¬ ((-10000 : Int64) < v5)) (hc21 : ¬ ((-100000 : Int64) < v5)) (hc24 : ¬ ((-1000000 : Int64) < v5)) (hc27 : ¬ ((-10000000 : Int64) < v5)) (hc30 : ¬ ((-100000000 : Int64) < v5)) (hc33 : ¬ ((-1000000000 : Int64) < v5)) (hc36 : ¬ ((-10000000000 : Int64) < v5)) (hc39 : ¬ ((-100000000000 : Int64) < v5)) (hc42 : ¬ ((-1000000000000 : Int64) < v5)) (hc45 : ¬ ((-10000000000000 : Int64) < v5)) (hc48 : ¬ ((-100000000000000 : Int64) < v5)) (hc51 : (-1000000000000000 : Int64) < v5) : ((15 : Int32) + v6) = (own_f16 q0) := by
  subst hv5 hv6; first | (unfold own_f16; rw [if_neg hc9, if_neg hc12, if_neg hc15, if_neg hc18, if_neg hc21, if_neg hc24, if_neg hc27, if_neg hc30, if_neg hc33, if_neg hc36, if_neg hc39, if_neg hc42, if_neg hc45, if_neg hc48, if_pos hc51]; done) | (simp only [own_f16, if_neg hc9, if_neg hc12, if_neg hc15, if_neg hc18, if_neg hc21, if_neg hc24, if_neg hc27, if_neg hc30, if_neg hc33, if_neg hc36, if_neg hc39, if_neg hc42, if_neg hc45, if_neg hc48, if_pos hc51]; done) | (simp [own_f16, if_neg hc9, if_neg hc12, if_neg hc15, if_neg hc18, if_neg hc21, if_neg hc24, if_neg hc27, if_neg hc30, if_neg hc33, if_neg hc36, if_neg hc39, if_neg hc42, if_neg hc45, if_neg hc48, if_pos hc51]; done)
theorem own_q16_20 {q0 : Int64} {v5 : Int64} {v6 : Int32} (hv5 : v5 = (if q0 < (0 : Int64) then q0 else (-q0))) (hv6 : v6 = (if q0 < (0 : Int64) then (1 : Int32) else (0 : Int32))) (hc9 : ¬ ((-10 : Int64) < v5)) (hc12 : ¬ ((-100 : Int64) < v5)) (hc15 : ¬ ((-1000 : Int64) < v5)) (hc18 : ¬ ((-10000 : Int64) < v5)) (hc21 : ¬ ((-100000 : Int64) < v5)) (hc24 : ¬ ((-1000000 : Int64) < v5)) (hc27 : ¬ ((-10000000 : Int64) < v5)) (hc30 : ¬ ((-100000000 : Int64) < v5)) (hc33 : ¬ ((-1000000000 : Int64) < v5)) (hc36 : ¬ ((-10000000000 : Int64) < v5)) (hc39 : ¬ ((-100000000000 : Int64) < v5)) (hc42 : ¬ ((-1000000000000 : Int64) < v5)) (hc45 : ¬ ((-10000000000000 : Int64) < v5)) (hc48 : ¬ ((-100000000000000 : Int64) < v5)) (hc51 : ¬ ((-1000000000000000 : Int64) < v5)) (hc54 : (-10000000000000000 : Int64) < v5) : ((16 : Int32) + v6) = (own_f16 q0) := by
  subst hv5 hv6; first | (unfold own_f16; rw [if_neg hc9, if_neg hc12, if_neg hc15, if_neg hc18, if_neg hc21, if_neg hc24, if_neg hc27, if_neg hc30, if_neg hc33, if_neg hc36, if_neg hc39, if_neg hc42, if_neg hc45, if_neg hc48, if_neg hc51, if_pos hc54]; done) | (simp only [own_f16, if_neg hc9, if_neg hc12, if_neg hc15, if_neg hc18, if_neg hc21, if_neg hc24, if_neg hc27, if_neg hc30, if_neg hc33, if_neg hc36, if_neg hc39, if_neg hc42, if_neg hc45, if_neg hc48, if_neg hc51, if_pos hc54]; done) | (simp [own_f16, if_neg hc9, if_neg hc12, if_neg hc15, if_neg hc18, if_neg hc21, if_neg hc24, if_neg hc27, if_neg hc30, if_neg hc33, if_neg hc36, if_neg hc39, if_neg hc42, if_neg hc45, if_neg hc48, if_neg hc51, if_pos hc54]; done)
theorem own_q16_21 {q0 : Int64} {v5 : Int64} {v6 : Int32} (hv5 : v5 = (if q0 < (0 : Int64) then q0 else (-q0))) (hv6 : v6 = (if q0 < (0 : Int64) then (1 : Int32) else (0 : Int32))) (hc9 : ¬ ((-10 : Int64) < v5)) (hc12 : ¬ ((-100 : Int64) < v5)) (hc15 : ¬ ((-1000 : Int64) < v5)) (hc18 : ¬ ((-10000 : Int64) < v5)) (hc21 : ¬ ((-100000 : Int64) < v5)) (hc24 : ¬ ((-1000000 : Int64) < v5)) (hc27 : ¬ ((-10000000 : Int64) < v5)) (hc30 : ¬ ((-100000000 : Int64) < v5)) (hc33 : ¬ ((-1000000000 : Int64) < v5)) (hc36 : ¬ ((-10000000000 : Int64) < v5)) (hc39 : ¬ ((-100000000000 : Int64) < v5)) (hc42 : ¬ ((-1000000000000 : Int64) < v5)) (hc45 : ¬ ((-10000000000000 : Int64) < v5)) (hc48 : ¬ ((-100000000000000 : Int64) < v5)) (hc51 : ¬ ((-1000000000000000 : Int64) < v5)) (hc54 : ¬ ((-10000000000000000 : Int64) < v5)) (hc57 : (-100000000000000000 : Int64) < v5) : ((17 : Int32) + v6) = (own_f16 q0) := by
  subst hv5 hv6; first | (unfold own_f16; rw [if_neg hc9, if_neg hc12, if_neg hc15, if_neg hc18, if_neg hc21, if_neg hc24, if_neg hc27, if_neg hc30, if_neg hc33, if_neg hc36, if_neg hc39, if_neg hc42, if_neg hc45, if_neg hc48, if_neg hc51, if_neg hc54, if_pos hc57]; done) | (simp only [own_f16, if_neg hc9, if_neg hc12, if_neg hc15, if_neg hc18, if_neg hc21, if_neg hc24, if_neg hc27, if_neg hc30, if_neg hc33, if_neg hc36, if_neg hc39, if_neg hc42, if_neg hc45, if_neg hc48, if_neg hc51, if_neg hc54, if_pos hc57]; done) | (simp [own_f16, if_neg hc9, if_neg hc12, if_neg hc15, if_neg hc18, if_neg hc21, if_neg hc24, if_neg hc27, if_neg hc30, if_neg hc33, if_neg hc36, if_neg hc39, if_neg hc42, if_neg hc45, if_neg hc48, if_neg hc51, if_neg hc54, if_pos hc57]; done)
theorem own_q16_22 {q0 : Int64} {v5 : Int64} {v6 : Int32} (hv5 : v5 = (if q0 < (0 : Int64) then q0 else (-q0))) (hv6 : v6 = (if q0 < (0 : Int64) then (1 : Int32) else (0 : Int32))) (hc9 : ¬ ((-10 : Int64) < v5)) (hc12 : ¬ ((-100 : Int64) < v5)) (hc15 : ¬ ((-1000 : Int64) < v5)) (hc18 : ¬ ((-10000 : Int64) < v5)) (hc21 : ¬ ((-100000 : Int64) < v5)) (hc24 : ¬ ((-1000000 : Int64) < v5)) (hc27 : ¬ ((-10000000 : Int64) < v5)) (hc30 : ¬ ((-100000000 : Int64) < v5)) (hc33 : ¬ ((-1000000000 : Int64) < v5)) (hc36 : ¬ ((-10000000000 : Int64) < v5)) (hc39 : ¬ ((-100000000000 : Int64) < v5)) (hc42 : ¬ ((-1000000000000 : Int64) < v5)) (hc45 : ¬ ((-10000000000000 : Int64) < v5)) (hc48 : ¬ ((-100000000000000 : Int64) < v5)) (hc51 : ¬ ((-1000000000000000 : Int64) < v5)) (hc54 : ¬ ((-10000000000000000 : Int64) < v5)) (hc57 : ¬ ((-100000000000000000 : Int64) < v5)) (hc60 : (-1000000000000000000 : Int64) < v5) : ((18 : Int32) + v6) = (own_f16 q0) := by
  subst hv5 hv6; first | (unfold own_f16; rw [if_neg hc9, if_neg hc12, if_neg hc15, if_neg hc18, if_neg hc21, if_neg hc24, if_neg hc27, if_neg hc30, if_neg hc33, if_neg hc36, if_neg hc39, if_neg hc42, if_neg hc45, if_neg hc48, if_neg hc51, if_neg hc54, if_neg hc57, if_pos hc60]; done) | (simp only [own_f16, if_neg hc9, if_neg hc12, if_neg hc15, if_neg hc18, if_neg hc21, if_neg hc24, if_neg hc27, if_neg hc30, if_neg hc33, if_neg hc36, if_neg hc39, if_neg hc42, if_neg hc45, if_neg hc48, if_neg hc51, if_neg hc54, if_neg hc57, if_pos hc60]; done) | (simp [own_f16, if_neg hc9, if_neg hc12, if_neg hc15, if_neg hc18, if_neg hc21, if_neg hc24, if_neg hc27, if_neg hc30, if_neg hc33, if_neg hc36, if_neg hc39, if_neg hc42, if_neg hc45, if_neg hc48, if_neg hc51, if_neg hc54, if_neg hc57, if_pos hc60]; done)
theorem own_q16_23 {q0 : Int64} {v5 : Int64} {v6 : Int32} (hv5 : v5 = (if q0 < (0 : Int64) then q0 else (-q0))) (hv6 : v6 = (if q0 < (0 : Int64) then (1 : Int32) else (0 : Int32))) (hc9 : ¬ ((-10 : Int64) < v5)) (hc12 : ¬ ((-100 : Int64) < v5)) (hc15 : ¬ ((-1000 : Int64) < v5)) (hc18 : ¬ ((-10000 : Int64) < v5)) (hc21 : ¬ ((-100000 : Int64) < v5)) (hc24 : ¬ ((-1000000 : Int64) < v5)) (hc27 : ¬ ((-10000000 : Int64) < v5)) (hc30 : ¬ ((-100000000 : Int64) < v5)) (hc33 : ¬ ((-1000000000 : Int64) < v5)) (hc36 : ¬ ((-10000000000 : Int64) < v5)) (hc39 : ¬ ((-100000000000 : Int64) < v5)) (hc42 : ¬ ((-1000000000000 : Int64) < v5)) (hc45 : ¬ ((-10000000000000 : Int64) < v5)) (hc48 : ¬ ((-100000000000000 : Int64) < v5)) (hc51 : ¬ ((-1000000000000000 : Int64) < v5)) (hc54 : ¬ ((-10000000000000000 : Int64) < v5)) (hc57 : ¬ ((-100000000000000000 : Int64) < v5)) (hc60 : ¬ ((-1000000000000000000 : Int64) < v5)) : ((19 : Int32) + v6) = (own_f16 q0) := by
  subst hv5 hv6; first | (unfold own_f16; rw [if_neg hc9, if_neg hc12, if_neg hc15, if_neg hc18, if_neg hc21, if_neg hc24, if_neg hc27, if_neg hc30, if_neg hc33, if_neg hc36, if_neg hc39, if_neg hc42, if_neg hc45, if_neg hc48, if_neg hc51, if_neg hc54, if_neg hc57, if_neg hc60]; done) | (simp only [own_f16, if_neg hc9, if_neg hc12, if_neg hc15, if_neg hc18, if_neg hc21, if_neg hc24, if_neg hc27, if_neg hc30, if_neg hc33, if_neg hc36, if_neg hc39, if_neg hc42, if_neg hc45, if_neg hc48, if_neg hc51, if_neg hc54, if_neg hc57, if_neg hc60]; done) | (simp [own_f16, if_neg hc9, if_neg hc12, if_neg hc15, if_neg hc18, if_neg hc21, if_neg hc24, if_neg hc27, if_neg hc30, if_neg hc33, if_neg hc36, if_neg hc39, if_neg hc42, if_neg hc45, if_neg hc48, if_neg hc51, if_neg hc54, if_neg hc57, if_neg hc60]; done)
def Q16 (Z : State) (q0 : Int64) (h0 : Heap) (n0 : Nat) (v : Option Value) (h : Heap) (L : List Loc) : Prop := v = some (.int (own_f16 q0)) ∧ Fr n0 L ∧ h = h0
set_option maxRecDepth 65536 in
set_option maxHeartbeats 40000000 in
theorem rm16 (l : Launch) (Z : State) (a0 : Array Value) (hw : ∀ d ∈ tables_1, d.before a0 Z = true) (ws : List Jvm.Cond) (q0 : Int64) (h0 : Heap) (n0 : Nat) (Z0 : n0 ≤ h0.size) :
    MetFree l (⟨"java/lang/Long", "stringSize", "(J)I"⟩ : MethodName) (head1 (Jvm.Cond.code (⟨"java/lang/Long", "stringSize", "(J)I"⟩ : MethodName) jdk_35_method_15_code 6 (some .int) :: ws) ({ frames := 0, cells := 0, slots := 0, locals := 0 } : Room)) (fun a U => a = #[(.long q0)] ∧ Z.Warmed39 U.vm ∧ U.heap = h0) (fun _ _ _ _ _ => True) (fun _ U o U' => ∃ v L, o = .returned v ∧ Q16 Z q0 h0 n0 v U'.heap L ∧ FrameEnd U o U' L ({ frames := 0, cells := 0, slots := 0, locals := 0 } : Room).cells ({ frames := 0, cells := 0, slots := 0, locals := 0 } : Room).slots) := by
  refine MetFree.of_bodySF (plainFor_of_name pn_16) hisR ?_
  intro p e s m args below meth c s₁ Bd hml0 hP hK
  obtain ⟨rfl, hZ, hh⟩ := hP
  have hx := Bd.exec
  have hby := Bd.bytes
  have hml : c.maxLocals = 6 := hml0
  have hown : s.vm.findClass "java/lang/Long" = some m.cls := findClass_of_methodNamed Bd.named
  have hnm := (name_of_methodNamed Bd.named Bd.method).1
  have X0 : Stand p l e ({ frames := 0, cells := 0, slots := 0, locals := 0 } : Room) s m #[(.long q0)] below meth c s₁ [] 0 0 := Stand.of_body Bd
  have e0 : s₁.heap = h0 := by rw [← hh, Bd.state]; rfl
  have N0 := Fr.nil n0
  obtain ⟨P, pre0, fin⟩ : ∃ P : State → Prop, (∀ t, Steps p.tables e below (s₁.setTop (mkF m 0 #[.val (.long q0), .second, .unset, .unset, .unset, .unset] [])) t → P t) ∧ (∀ t, P t → Steps p.tables e below (s₁.setTop (entryFrame m #[(.long q0)] 6)) t) := ⟨fun t => Steps p.tables e below (s₁.setTop (entryFrame m #[(.long q0)] 6)) t, fun t k => castTop (ef_16 m q0) k, fun t k => k⟩
  have K0 : Keep h0 h0 [] := Keep.refl _ _
  have pre1 : ∀ t, Steps p.tables e below (s₁.setTop (mkF m 5 #[.val (.long q0), .second, .val (.int (1 : Int32)), .unset, .unset, .unset] [(.int (lcmpW q0 (0 : Int64)))])) t → P t := fun t k => pre0 t (by
      refine XS.iconst X0.here hx rfl (hb hby d16_0) ?_
      refine XS.istoreN X0.here hx rfl (hb hby d16_1) rfl (l' := #[.val (.long q0), .second, .val (.int (1 : Int32)), .unset, .unset, .unset]) rfl ?_
      refine XS.lloadN X0.here hx rfl (hb hby d16_2) rfl ?_
      refine XS.lconst X0.here hx rfl (hb hby d16_3) ?_
      refine XS.lcmp X0.here hx rfl (hb hby d16_4) rfl ?_
      exact k)
  obtain ⟨T7, L7, v5, v6, X7, e7, N7, hv5, hv6, pre7⟩ : ∃ (T' : State) (L' : List Loc) (v5 : Int64) (v6 : Int32), Stand p l e ({ frames := 0, cells := 0, slots := 0, locals := 0 } : Room) s m #[(.long q0)] below meth c T' L' 0 0 ∧ T'.heap = h0 ∧ Fr n0 L' ∧ v5 = (if q0 < (0 : Int64) then q0 else (-q0)) ∧ v6 = (if q0 < (0 : Int64) then (1 : Int32) else (0 : Int32)) ∧ (∀ t, Steps p.tables e below (T'.setTop (mkF m 13 #[.val (.long v5), .second, .val (.int v6), .unset, .unset, .unset] [])) t → P t) := by
    by_cases hc2 : q0 < (0 : Int64)
    · have pre3 : ∀ t, Steps p.tables e below (s₁.setTop (mkF m 13 #[.val (.long q0), .second, .val (.int (1 : Int32)), .unset, .unset, .unset] [])) t → P t := fun t k => pre1 t (by
          refine XS.ifYes X0.here hx rfl (pc0 := 5) (pc' := 13) rfl (hb hby d16_5) rfl ((if0 _ _).trans (tlt ((lw_lt _ _).mpr hc2)).1) (by decide) (by decide) ?_
          exact k)
      exact ⟨_, _, q0, (1 : Int32), X0, e0, N0, (own_q16_1 hc2), (own_q16_2 hc2), pre3⟩
    · have pre4 : ∀ t, Steps p.tables e below (s₁.setTop (mkF m 13 #[.val (.long (-q0)), .second, .val (.int (0 : Int32)), .unset, .unset, .unset] [])) t → P t := fun t k => pre1 t (by
          refine XS.ifNo X0.here hx rfl (hb hby d16_5) rfl ((if0 _ _).trans (flt (fun q => hc2 ((lw_lt _ _).mp q))).1) ?_
          refine XS.iconst X0.here hx rfl (hb hby d16_8) ?_
          refine XS.istoreN X0.here hx rfl (hb hby d16_9) rfl (l' := #[.val (.long q0), .second, .val (.int (0 : Int32)), .unset, .unset, .unset]) rfl ?_
          refine XS.lloadN X0.here hx rfl (hb hby d16_10) rfl ?_
          refine XS.lneg X0.here hx rfl (hb hby d16_11) rfl ?_
          refine XS.lstoreN X0.here hx rfl (hb hby d16_12) rfl (l' := #[.val (.long (-q0)), .second, .val (.int (0 : Int32)), .unset, .unset, .unset]) rfl ?_
          exact k)
      exact ⟨_, _, (-q0), (0 : Int32), X0, e0, N0, (own_q16_3 hc2), (own_q16_4 hc2), pre4⟩
  have pre8 : ∀ t, Steps p.tables e below (T7.setTop (mkF m 20 #[.val (.long v5), .second, .val (.int v6), .val (.long (-10 : Int64)), .second, .val (.int (1 : Int32))] [])) t → P t := fun t k => pre7 t (by
      refine X7.ldc2Long hx hown (mvT hZ (hi hw 111 rfl)) (g := (mkF m 13 #[.val (.long v5), .second, .val (.int v6), .unset, .unset, .unset] [])) rfl (hb hby d16_13) _ ?_
      refine XS.lstoreN X7.here hx rfl (hb hby d16_16) rfl (l' := #[.val (.long v5), .second, .val (.int v6), .val (.long (-10 : Int64)), .second, .unset]) rfl ?_
      refine XS.iconst X7.here hx rfl (hb hby d16_17) ?_
      refine XS.istore X7.here hx rfl (hb hby d16_18) rfl (l' := #[.val (.long v5), .second, .val (.int v6), .val (.long (-10 : Int64)), .second, .val (.int (1 : Int32))]) rfl ?_
      exact k)
  by_cases hc9 : (-10 : Int64) < v5
  · have pre10 : ∀ t, Steps p.tables e below (T7.setTop (mkF m 37 #[.val (.long v5), .second, .val (.int v6), .val (.long (-10 : Int64)), .second, .val (.int (1 : Int32))] [(.int ((1 : Int32) + v6))])) t → P t := fun t k => pre8 t (by
        refine XS.iload X7.here hx rfl (hb hby d16_20) rfl ?_
        refine XS.bipush X7.here hx rfl (hb hby d16_22) ?_
        refine XS.icmpNo X7.here hx rfl (hb hby d16_24) rfl (tlt (rfl : (1 : Int32) < (19 : Int32))).2.1 ?_
        refine XS.lloadN X7.here hx rfl (hb hby d16_27) rfl ?_
        refine XS.lloadN X7.here hx rfl (hb hby d16_28) rfl ?_
        refine XS.lcmp X7.here hx rfl (hb hby d16_29) rfl ?_
        refine XS.ifNo X7.here hx rfl (hb hby d16_30) rfl ((if0 _ _).trans (tlt ((lw_gt _ _).mpr hc9)).2.2.2) ?_
        refine XS.iload X7.here hx rfl (hb hby d16_33) rfl ?_
        refine XS.iloadN X7.here hx rfl (hb hby d16_35) rfl ?_
        refine XS.iadd X7.here hx rfl (hb hby d16_36) rfl ?_
        exact k)
    obtain ⟨fs, hr, hrun, hended, hW, hsame⟩ := X7.leave (v := some (.int ((1 : Int32) + v6))) (fun h => by rw [Bd.returns] at h; cases h)
    refine ⟨_, _, fin _ (pre10 _ ?_), hrun, hended, _, _, rfl, ?_, ⟨_, rfl⟩, hW, hsame.mono (by decide) (by decide)⟩
    · show Steps p.tables e below (T7.setTop (mkF m 37 #[.val (.long v5), .second, .val (.int v6), .val (.long (-10 : Int64)), .second, .val (.int (1 : Int32))] [(.int ((1 : Int32) + v6))])) _
      exact retI X7 hx Bd.returns (hb hby d16_37) hr
    · show Q16 Z q0 h0 n0 _ T7.heap _
      rw [e7]
      exact ⟨(congrArg (fun z => some (Value.int z)) (own_q16_5 hv5 hv6 hc9)), N7, rfl⟩
  · have pre11 : ∀ t, Steps p.tables e below (T7.setTop (mkF m 20 #[.val (.long v5), .second, .val (.int v6), .val (.long (-100 : Int64)), .second, .val (.int (2 : Int32))] [])) t → P t := own_t16 hx hby hZ hw hown X7 (by decide) hc9 (by decide) (by decide) pre8
    by_cases hc12 : (-100 : Int64) < v5
    · have pre13 : ∀ t, Steps p.tables e below (T7.setTop (mkF m 37 #[.val (.long v5), .second, .val (.int v6), .val (.long (-100 : Int64)), .second, .val (.int (2 : Int32))] [(.int ((2 : Int32) + v6))])) t → P t := fun t k => pre11 t (by
          refine XS.iload X7.here hx rfl (hb hby d16_20) rfl ?_
          refine XS.bipush X7.here hx rfl (hb hby d16_22) ?_
          refine XS.icmpNo X7.here hx rfl (hb hby d16_24) rfl (tlt (rfl : (2 : Int32) < (19 : Int32))).2.1 ?_
          refine XS.lloadN X7.here hx rfl (hb hby d16_27) rfl ?_
          refine XS.lloadN X7.here hx rfl (hb hby d16_28) rfl ?_
          refine XS.lcmp X7.here hx rfl (hb hby d16_29) rfl ?_
          refine XS.ifNo X7.here hx rfl (hb hby d16_30) rfl ((if0 _ _).trans (tlt ((lw_gt _ _).mpr hc12)).2.2.2) ?_
          refine XS.iload X7.here hx rfl (hb hby d16_33) rfl ?_
          refine XS.iloadN X7.here hx rfl (hb hby d16_35) rfl ?_
          refine XS.iadd X7.here hx rfl (hb hby d16_36) rfl ?_
          exact k)
      obtain ⟨fs, hr, hrun, hended, hW, hsame⟩ := X7.leave (v := some (.int ((2 : Int32) + v6))) (fun h => by rw [Bd.returns] at h; cases h)
      refine ⟨_, _, fin _ (pre13 _ ?_), hrun, hended, _, _, rfl, ?_, ⟨_, rfl⟩, hW, hsame.mono (by decide) (by decide)⟩
      · show Steps p.tables e below (T7.setTop (mkF m 37 #[.val (.long v5), .second, .val (.int v6), .val (.long (-100 : Int64)), .second, .val (.int (2 : Int32))] [(.int ((2 : Int32) + v6))])) _
        exact retI X7 hx Bd.returns (hb hby d16_37) hr
      · show Q16 Z q0 h0 n0 _ T7.heap _
        rw [e7]
        exact ⟨(congrArg (fun z => some (Value.int z)) (own_q16_6 hv5 hv6 hc9 hc12)), N7, rfl⟩
    · have pre14 : ∀ t, Steps p.tables e below (T7.setTop (mkF m 20 #[.val (.long v5), .second, .val (.int v6), .val (.long (-1000 : Int64)), .second, .val (.int (3 : Int32))] [])) t → P t := own_t16 hx hby hZ hw hown X7 (by decide) hc12 (by decide) (by decide) pre11
      by_cases hc15 : (-1000 : Int64) < v5
      · have pre16 : ∀ t, Steps p.tables e below (T7.setTop (mkF m 37 #[.val (.long v5), .second, .val (.int v6), .val (.long (-1000 : Int64)), .second, .val (.int (3 : Int32))] [(.int ((3 : Int32) + v6))])) t → P t := fun t k => pre14 t (by
            refine XS.iload X7.here hx rfl (hb hby d16_20) rfl ?_
            refine XS.bipush X7.here hx rfl (hb hby d16_22) ?_
            refine XS.icmpNo X7.here hx rfl (hb hby d16_24) rfl (tlt (rfl : (3 : Int32) < (19 : Int32))).2.1 ?_
            refine XS.lloadN X7.here hx rfl (hb hby d16_27) rfl ?_
            refine XS.lloadN X7.here hx rfl (hb hby d16_28) rfl ?_
            refine XS.lcmp X7.here hx rfl (hb hby d16_29) rfl ?_
            refine XS.ifNo X7.here hx rfl (hb hby d16_30) rfl ((if0 _ _).trans (tlt ((lw_gt _ _).mpr hc15)).2.2.2) ?_
            refine XS.iload X7.here hx rfl (hb hby d16_33) rfl ?_
            refine XS.iloadN X7.here hx rfl (hb hby d16_35) rfl ?_
            refine XS.iadd X7.here hx rfl (hb hby d16_36) rfl ?_
            exact k)
        obtain ⟨fs, hr, hrun, hended, hW, hsame⟩ := X7.leave (v := some (.int ((3 : Int32) + v6))) (fun h => by rw [Bd.returns] at h; cases h)
        refine ⟨_, _, fin _ (pre16 _ ?_), hrun, hended, _, _, rfl, ?_, ⟨_, rfl⟩, hW, hsame.mono (by decide) (by decide)⟩
        · show Steps p.tables e below (T7.setTop (mkF m 37 #[.val (.long v5), .second, .val (.int v6), .val (.long (-1000 : Int64)), .second, .val (.int (3 : Int32))] [(.int ((3 : Int32) + v6))])) _
          exact retI X7 hx Bd.returns (hb hby d16_37) hr
        · show Q16 Z q0 h0 n0 _ T7.heap _
          rw [e7]
          exact ⟨(congrArg (fun z => some (Value.int z)) (own_q16_7 hv5 hv6 hc9 hc12 hc15)), N7, rfl⟩
      · have pre17 : ∀ t, Steps p.tables e below (T7.setTop (mkF m 20 #[.val (.long v5), .second, .val (.int v6), .val (.long (-10000 : Int64)), .second, .val (.int (4 : Int32))] [])) t → P t := own_t16 hx hby hZ hw hown X7 (by decide) hc15 (by decide) (by decide) pre14
        by_cases hc18 : (-10000 : Int64) < v5
        · have pre19 : ∀ t, Steps p.tables e below (T7.setTop (mkF m 37 #[.val (.long v5), .second, .val (.int v6), .val (.long (-10000 : Int64)), .second, .val (.int (4 : Int32))] [(.int ((4 : Int32) + v6))])) t → P t := fun t k => pre17 t (by
              refine XS.iload X7.here hx rfl (hb hby d16_20) rfl ?_
              refine XS.bipush X7.here hx rfl (hb hby d16_22) ?_
              refine XS.icmpNo X7.here hx rfl (hb hby d16_24) rfl (tlt (rfl : (4 : Int32) < (19 : Int32))).2.1 ?_
              refine XS.lloadN X7.here hx rfl (hb hby d16_27) rfl ?_
              refine XS.lloadN X7.here hx rfl (hb hby d16_28) rfl ?_
              refine XS.lcmp X7.here hx rfl (hb hby d16_29) rfl ?_
              refine XS.ifNo X7.here hx rfl (hb hby d16_30) rfl ((if0 _ _).trans (tlt ((lw_gt _ _).mpr hc18)).2.2.2) ?_
              refine XS.iload X7.here hx rfl (hb hby d16_33) rfl ?_
              refine XS.iloadN X7.here hx rfl (hb hby d16_35) rfl ?_
              refine XS.iadd X7.here hx rfl (hb hby d16_36) rfl ?_
              exact k)
          obtain ⟨fs, hr, hrun, hended, hW, hsame⟩ := X7.leave (v := some (.int ((4 : Int32) + v6))) (fun h => by rw [Bd.returns] at h; cases h)
          refine ⟨_, _, fin _ (pre19 _ ?_), hrun, hended, _, _, rfl, ?_, ⟨_, rfl⟩, hW, hsame.mono (by decide) (by decide)⟩
          · show Steps p.tables e below (T7.setTop (mkF m 37 #[.val (.long v5), .second, .val (.int v6), .val (.long (-10000 : Int64)), .second, .val (.int (4 : Int32))] [(.int ((4 : Int32) + v6))])) _
            exact retI X7 hx Bd.returns (hb hby d16_37) hr
          · show Q16 Z q0 h0 n0 _ T7.heap _
            rw [e7]
            exact ⟨(congrArg (fun z => some (Value.int z)) (own_q16_8 hv5 hv6 hc9 hc12 hc15 hc18)), N7, rfl⟩
        · have pre20 : ∀ t, Steps p.tables e below (T7.setTop (mkF m 20 #[.val (.long v5), .second, .val (.int v6), .val (.long (-100000 : Int64)), .second, .val (.int (5 : Int32))] [])) t → P t := own_t16 hx hby hZ hw hown X7 (by decide) hc18 (by decide) (by decide) pre17
          by_cases hc21 : (-100000 : Int64) < v5
          · have pre22 : ∀ t, Steps p.tables e below (T7.setTop (mkF m 37 #[.val (.long v5), .second, .val (.int v6), .val (.long (-100000 : Int64)), .second, .val (.int (5 : Int32))] [(.int ((5 : Int32) + v6))])) t → P t := fun t k => pre20 t (by
                refine XS.iload X7.here hx rfl (hb hby d16_20) rfl ?_
                refine XS.bipush X7.here hx rfl (hb hby d16_22) ?_
                refine XS.icmpNo X7.here hx rfl (hb hby d16_24) rfl (tlt (rfl : (5 : Int32) < (19 : Int32))).2.1 ?_
                refine XS.lloadN X7.here hx rfl (hb hby d16_27) rfl ?_
                refine XS.lloadN X7.here hx rfl (hb hby d16_28) rfl ?_
                refine XS.lcmp X7.here hx rfl (hb hby d16_29) rfl ?_
                refine XS.ifNo X7.here hx rfl (hb hby d16_30) rfl ((if0 _ _).trans (tlt ((lw_gt _ _).mpr hc21)).2.2.2) ?_
                refine XS.iload X7.here hx rfl (hb hby d16_33) rfl ?_
                refine XS.iloadN X7.here hx rfl (hb hby d16_35) rfl ?_
                refine XS.iadd X7.here hx rfl (hb hby d16_36) rfl ?_
                exact k)
            obtain ⟨fs, hr, hrun, hended, hW, hsame⟩ := X7.leave (v := some (.int ((5 : Int32) + v6))) (fun h => by rw [Bd.returns] at h; cases h)
            refine ⟨_, _, fin _ (pre22 _ ?_), hrun, hended, _, _, rfl, ?_, ⟨_, rfl⟩, hW, hsame.mono (by decide) (by decide)⟩
            · show Steps p.tables e below (T7.setTop (mkF m 37 #[.val (.long v5), .second, .val (.int v6), .val (.long (-100000 : Int64)), .second, .val (.int (5 : Int32))] [(.int ((5 : Int32) + v6))])) _
              exact retI X7 hx Bd.returns (hb hby d16_37) hr
            · show Q16 Z q0 h0 n0 _ T7.heap _
              rw [e7]
              exact ⟨(congrArg (fun z => some (Value.int z)) (own_q16_9 hv5 hv6 hc9 hc12 hc15 hc18 hc21)), N7, rfl⟩
          · have pre23 : ∀ t, Steps p.tables e below (T7.setTop (mkF m 20 #[.val (.long v5), .second, .val (.int v6), .val (.long (-1000000 : Int64)), .second, .val (.int (6 : Int32))] [])) t → P t := own_t16 hx hby hZ hw hown X7 (by decide) hc21 (by decide) (by decide) pre20
            by_cases hc24 : (-1000000 : Int64) < v5
            · have pre25 : ∀ t, Steps p.tables e below (T7.setTop (mkF m 37 #[.val (.long v5), .second, .val (.int v6), .val (.long (-1000000 : Int64)), .second, .val (.int (6 : Int32))] [(.int ((6 : Int32) + v6))])) t → P t := fun t k => pre23 t (by
                  refine XS.iload X7.here hx rfl (hb hby d16_20) rfl ?_
                  refine XS.bipush X7.here hx rfl (hb hby d16_22) ?_
                  refine XS.icmpNo X7.here hx rfl (hb hby d16_24) rfl (tlt (rfl : (6 : Int32) < (19 : Int32))).2.1 ?_
                  refine XS.lloadN X7.here hx rfl (hb hby d16_27) rfl ?_
                  refine XS.lloadN X7.here hx rfl (hb hby d16_28) rfl ?_
                  refine XS.lcmp X7.here hx rfl (hb hby d16_29) rfl ?_
                  refine XS.ifNo X7.here hx rfl (hb hby d16_30) rfl ((if0 _ _).trans (tlt ((lw_gt _ _).mpr hc24)).2.2.2) ?_
                  refine XS.iload X7.here hx rfl (hb hby d16_33) rfl ?_
                  refine XS.iloadN X7.here hx rfl (hb hby d16_35) rfl ?_
                  refine XS.iadd X7.here hx rfl (hb hby d16_36) rfl ?_
                  exact k)
              obtain ⟨fs, hr, hrun, hended, hW, hsame⟩ := X7.leave (v := some (.int ((6 : Int32) + v6))) (fun h => by rw [Bd.returns] at h; cases h)
              refine ⟨_, _, fin _ (pre25 _ ?_), hrun, hended, _, _, rfl, ?_, ⟨_, rfl⟩, hW, hsame.mono (by decide) (by decide)⟩
              · show Steps p.tables e below (T7.setTop (mkF m 37 #[.val (.long v5), .second, .val (.int v6), .val (.long (-1000000 : Int64)), .second, .val (.int (6 : Int32))] [(.int ((6 : Int32) + v6))])) _
                exact retI X7 hx Bd.returns (hb hby d16_37) hr
              · show Q16 Z q0 h0 n0 _ T7.heap _
                rw [e7]
                exact ⟨(congrArg (fun z => some (Value.int z)) (own_q16_10 hv5 hv6 hc9 hc12 hc15 hc18 hc21 hc24)), N7, rfl⟩
            · have pre26 : ∀ t, Steps p.tables e below (T7.setTop (mkF m 20 #[.val (.long v5), .second, .val (.int v6), .val (.long (-10000000 : Int64)), .second, .val (.int (7 : Int32))] [])) t → P t := own_t16 hx hby hZ hw hown X7 (by decide) hc24 (by decide) (by decide) pre23
              by_cases hc27 : (-10000000 : Int64) < v5
              · have pre28 : ∀ t, Steps p.tables e below (T7.setTop (mkF m 37 #[.val (.long v5), .second, .val (.int v6), .val (.long (-10000000 : Int64)), .second, .val (.int (7 : Int32))] [(.int ((7 : Int32) + v6))])) t → P t := fun t k => pre26 t (by
                    refine XS.iload X7.here hx rfl (hb hby d16_20) rfl ?_
                    refine XS.bipush X7.here hx rfl (hb hby d16_22) ?_
                    refine XS.icmpNo X7.here hx rfl (hb hby d16_24) rfl (tlt (rfl : (7 : Int32) < (19 : Int32))).2.1 ?_
                    refine XS.lloadN X7.here hx rfl (hb hby d16_27) rfl ?_
                    refine XS.lloadN X7.here hx rfl (hb hby d16_28) rfl ?_
                    refine XS.lcmp X7.here hx rfl (hb hby d16_29) rfl ?_
                    refine XS.ifNo X7.here hx rfl (hb hby d16_30) rfl ((if0 _ _).trans (tlt ((lw_gt _ _).mpr hc27)).2.2.2) ?_
                    refine XS.iload X7.here hx rfl (hb hby d16_33) rfl ?_
                    refine XS.iloadN X7.here hx rfl (hb hby d16_35) rfl ?_
                    refine XS.iadd X7.here hx rfl (hb hby d16_36) rfl ?_
                    exact k)
                obtain ⟨fs, hr, hrun, hended, hW, hsame⟩ := X7.leave (v := some (.int ((7 : Int32) + v6))) (fun h => by rw [Bd.returns] at h; cases h)
                refine ⟨_, _, fin _ (pre28 _ ?_), hrun, hended, _, _, rfl, ?_, ⟨_, rfl⟩, hW, hsame.mono (by decide) (by decide)⟩
                · show Steps p.tables e below (T7.setTop (mkF m 37 #[.val (.long v5), .second, .val (.int v6), .val (.long (-10000000 : Int64)), .second, .val (.int (7 : Int32))] [(.int ((7 : Int32) + v6))])) _
                  exact retI X7 hx Bd.returns (hb hby d16_37) hr
                · show Q16 Z q0 h0 n0 _ T7.heap _
                  rw [e7]
                  exact ⟨(congrArg (fun z => some (Value.int z)) (own_q16_11 hv5 hv6 hc9 hc12 hc15 hc18 hc21 hc24 hc27)), N7, rfl⟩
              · have pre29 : ∀ t, Steps p.tables e below (T7.setTop (mkF m 20 #[.val (.long v5), .second, .val (.int v6), .val (.long (-100000000 : Int64)), .second, .val (.int (8 : Int32))] [])) t → P t := own_t16 hx hby hZ hw hown X7 (by decide) hc27 (by decide) (by decide) pre26
                by_cases hc30 : (-100000000 : Int64) < v5
                · have pre31 : ∀ t, Steps p.tables e below (T7.setTop (mkF m 37 #[.val (.long v5), .second, .val (.int v6), .val (.long (-100000000 : Int64)), .second, .val (.int (8 : Int32))] [(.int ((8 : Int32) + v6))])) t → P t := fun t k => pre29 t (by
                      refine XS.iload X7.here hx rfl (hb hby d16_20) rfl ?_
                      refine XS.bipush X7.here hx rfl (hb hby d16_22) ?_
                      refine XS.icmpNo X7.here hx rfl (hb hby d16_24) rfl (tlt (rfl : (8 : Int32) < (19 : Int32))).2.1 ?_
                      refine XS.lloadN X7.here hx rfl (hb hby d16_27) rfl ?_
                      refine XS.lloadN X7.here hx rfl (hb hby d16_28) rfl ?_
                      refine XS.lcmp X7.here hx rfl (hb hby d16_29) rfl ?_
                      refine XS.ifNo X7.here hx rfl (hb hby d16_30) rfl ((if0 _ _).trans (tlt ((lw_gt _ _).mpr hc30)).2.2.2) ?_
                      refine XS.iload X7.here hx rfl (hb hby d16_33) rfl ?_
                      refine XS.iloadN X7.here hx rfl (hb hby d16_35) rfl ?_
                      refine XS.iadd X7.here hx rfl (hb hby d16_36) rfl ?_
                      exact k)
                  obtain ⟨fs, hr, hrun, hended, hW, hsame⟩ := X7.leave (v := some (.int ((8 : Int32) + v6))) (fun h => by rw [Bd.returns] at h; cases h)
                  refine ⟨_, _, fin _ (pre31 _ ?_), hrun, hended, _, _, rfl, ?_, ⟨_, rfl⟩, hW, hsame.mono (by decide) (by decide)⟩
                  · show Steps p.tables e below (T7.setTop (mkF m 37 #[.val (.long v5), .second, .val (.int v6), .val (.long (-100000000 : Int64)), .second, .val (.int (8 : Int32))] [(.int ((8 : Int32) + v6))])) _
                    exact retI X7 hx Bd.returns (hb hby d16_37) hr
                  · show Q16 Z q0 h0 n0 _ T7.heap _
                    rw [e7]
                    exact ⟨(congrArg (fun z => some (Value.int z)) (own_q16_12 hv5 hv6 hc9 hc12 hc15 hc18 hc21 hc24 hc27 hc30)), N7, rfl⟩
                · have pre32 : ∀ t, Steps p.tables e below (T7.setTop (mkF m 20 #[.val (.long v5), .second, .val (.int v6), .val (.long (-1000000000 : Int64)), .second, .val (.int (9 : Int32))] [])) t → P t := own_t16 hx hby hZ hw hown X7 (by decide) hc30 (by decide) (by decide) pre29
                  by_cases hc33 : (-1000000000 : Int64) < v5
                  · have pre34 : ∀ t, Steps p.tables e below (T7.setTop (mkF m 37 #[.val (.long v5), .second, .val (.int v6), .val (.long (-1000000000 : Int64)), .second, .val (.int (9 : Int32))] [(.int ((9 : Int32) + v6))])) t → P t := fun t k => pre32 t (by
                        refine XS.iload X7.here hx rfl (hb hby d16_20) rfl ?_
                        refine XS.bipush X7.here hx rfl (hb hby d16_22) ?_
                        refine XS.icmpNo X7.here hx rfl (hb hby d16_24) rfl (tlt (rfl : (9 : Int32) < (19 : Int32))).2.1 ?_
                        refine XS.lloadN X7.here hx rfl (hb hby d16_27) rfl ?_
                        refine XS.lloadN X7.here hx rfl (hb hby d16_28) rfl ?_
                        refine XS.lcmp X7.here hx rfl (hb hby d16_29) rfl ?_
                        refine XS.ifNo X7.here hx rfl (hb hby d16_30) rfl ((if0 _ _).trans (tlt ((lw_gt _ _).mpr hc33)).2.2.2) ?_
                        refine XS.iload X7.here hx rfl (hb hby d16_33) rfl ?_
                        refine XS.iloadN X7.here hx rfl (hb hby d16_35) rfl ?_
                        refine XS.iadd X7.here hx rfl (hb hby d16_36) rfl ?_
                        exact k)
                    obtain ⟨fs, hr, hrun, hended, hW, hsame⟩ := X7.leave (v := some (.int ((9 : Int32) + v6))) (fun h => by rw [Bd.returns] at h; cases h)
                    refine ⟨_, _, fin _ (pre34 _ ?_), hrun, hended, _, _, rfl, ?_, ⟨_, rfl⟩, hW, hsame.mono (by decide) (by decide)⟩
                    · show Steps p.tables e below (T7.setTop (mkF m 37 #[.val (.long v5), .second, .val (.int v6), .val (.long (-1000000000 : Int64)), .second, .val (.int (9 : Int32))] [(.int ((9 : Int32) + v6))])) _
                      exact retI X7 hx Bd.returns (hb hby d16_37) hr
                    · show Q16 Z q0 h0 n0 _ T7.heap _
                      rw [e7]
                      exact ⟨(congrArg (fun z => some (Value.int z)) (own_q16_13 hv5 hv6 hc9 hc12 hc15 hc18 hc21 hc24 hc27 hc30 hc33)), N7, rfl⟩
                  · have pre35 : ∀ t, Steps p.tables e below (T7.setTop (mkF m 20 #[.val (.long v5), .second, .val (.int v6), .val (.long (-10000000000 : Int64)), .second, .val (.int (10 : Int32))] [])) t → P t := own_t16 hx hby hZ hw hown X7 (by decide) hc33 (by decide) (by decide) pre32
                    by_cases hc36 : (-10000000000 : Int64) < v5
                    · have pre37 : ∀ t, Steps p.tables e below (T7.setTop (mkF m 37 #[.val (.long v5), .second, .val (.int v6), .val (.long (-10000000000 : Int64)), .second, .val (.int (10 : Int32))] [(.int ((10 : Int32) + v6))])) t → P t := fun t k => pre35 t (by
                          refine XS.iload X7.here hx rfl (hb hby d16_20) rfl ?_
                          refine XS.bipush X7.here hx rfl (hb hby d16_22) ?_
                          refine XS.icmpNo X7.here hx rfl (hb hby d16_24) rfl (tlt (rfl : (10 : Int32) < (19 : Int32))).2.1 ?_
                          refine XS.lloadN X7.here hx rfl (hb hby d16_27) rfl ?_
                          refine XS.lloadN X7.here hx rfl (hb hby d16_28) rfl ?_
                          refine XS.lcmp X7.here hx rfl (hb hby d16_29) rfl ?_
                          refine XS.ifNo X7.here hx rfl (hb hby d16_30) rfl ((if0 _ _).trans (tlt ((lw_gt _ _).mpr hc36)).2.2.2) ?_
                          refine XS.iload X7.here hx rfl (hb hby d16_33) rfl ?_
                          refine XS.iloadN X7.here hx rfl (hb hby d16_35) rfl ?_
                          refine XS.iadd X7.here hx rfl (hb hby d16_36) rfl ?_
                          exact k)
                      obtain ⟨fs, hr, hrun, hended, hW, hsame⟩ := X7.leave (v := some (.int ((10 : Int32) + v6))) (fun h => by rw [Bd.returns] at h; cases h)
                      refine ⟨_, _, fin _ (pre37 _ ?_), hrun, hended, _, _, rfl, ?_, ⟨_, rfl⟩, hW, hsame.mono (by decide) (by decide)⟩
                      · show Steps p.tables e below (T7.setTop (mkF m 37 #[.val (.long v5), .second, .val (.int v6), .val (.long (-10000000000 : Int64)), .second, .val (.int (10 : Int32))] [(.int ((10 : Int32) + v6))])) _
                        exact retI X7 hx Bd.returns (hb hby d16_37) hr
                      · show Q16 Z q0 h0 n0 _ T7.heap _
                        rw [e7]
                        exact ⟨(congrArg (fun z => some (Value.int z)) (own_q16_14 hv5 hv6 hc9 hc12 hc15 hc18 hc21 hc24 hc27 hc30 hc33 hc36)), N7, rfl⟩
                    · have pre38 : ∀ t, Steps p.tables e below (T7.setTop (mkF m 20 #[.val (.long v5), .second, .val (.int v6), .val (.long (-100000000000 : Int64)), .second, .val (.int (11 : Int32))] [])) t → P t := own_t16 hx hby hZ hw hown X7 (by decide) hc36 (by decide) (by decide) pre35
                      by_cases hc39 : (-100000000000 : Int64) < v5
                      · have pre40 : ∀ t, Steps p.tables e below (T7.setTop (mkF m 37 #[.val (.long v5), .second, .val (.int v6), .val (.long (-100000000000 : Int64)), .second, .val (.int (11 : Int32))] [(.int ((11 : Int32) + v6))])) t → P t := fun t k => pre38 t (by
                            refine XS.iload X7.here hx rfl (hb hby d16_20) rfl ?_
                            refine XS.bipush X7.here hx rfl (hb hby d16_22) ?_
                            refine XS.icmpNo X7.here hx rfl (hb hby d16_24) rfl (tlt (rfl : (11 : Int32) < (19 : Int32))).2.1 ?_
                            refine XS.lloadN X7.here hx rfl (hb hby d16_27) rfl ?_
                            refine XS.lloadN X7.here hx rfl (hb hby d16_28) rfl ?_
                            refine XS.lcmp X7.here hx rfl (hb hby d16_29) rfl ?_
                            refine XS.ifNo X7.here hx rfl (hb hby d16_30) rfl ((if0 _ _).trans (tlt ((lw_gt _ _).mpr hc39)).2.2.2) ?_
                            refine XS.iload X7.here hx rfl (hb hby d16_33) rfl ?_
                            refine XS.iloadN X7.here hx rfl (hb hby d16_35) rfl ?_
                            refine XS.iadd X7.here hx rfl (hb hby d16_36) rfl ?_
                            exact k)
                        obtain ⟨fs, hr, hrun, hended, hW, hsame⟩ := X7.leave (v := some (.int ((11 : Int32) + v6))) (fun h => by rw [Bd.returns] at h; cases h)
                        refine ⟨_, _, fin _ (pre40 _ ?_), hrun, hended, _, _, rfl, ?_, ⟨_, rfl⟩, hW, hsame.mono (by decide) (by decide)⟩
                        · show Steps p.tables e below (T7.setTop (mkF m 37 #[.val (.long v5), .second, .val (.int v6), .val (.long (-100000000000 : Int64)), .second, .val (.int (11 : Int32))] [(.int ((11 : Int32) + v6))])) _
                          exact retI X7 hx Bd.returns (hb hby d16_37) hr
                        · show Q16 Z q0 h0 n0 _ T7.heap _
                          rw [e7]
                          exact ⟨(congrArg (fun z => some (Value.int z)) (own_q16_15 hv5 hv6 hc9 hc12 hc15 hc18 hc21 hc24 hc27 hc30 hc33 hc36 hc39)), N7, rfl⟩
                      · have pre41 : ∀ t, Steps p.tables e below (T7.setTop (mkF m 20 #[.val (.long v5), .second, .val (.int v6), .val (.long (-1000000000000 : Int64)), .second, .val (.int (12 : Int32))] [])) t → P t := own_t16 hx hby hZ hw hown X7 (by decide) hc39 (by decide) (by decide) pre38
                        by_cases hc42 : (-1000000000000 : Int64) < v5
                        · have pre43 : ∀ t, Steps p.tables e below (T7.setTop (mkF m 37 #[.val (.long v5), .second, .val (.int v6), .val (.long (-1000000000000 : Int64)), .second, .val (.int (12 : Int32))] [(.int ((12 : Int32) + v6))])) t → P t := fun t k => pre41 t (by
                              refine XS.iload X7.here hx rfl (hb hby d16_20) rfl ?_
                              refine XS.bipush X7.here hx rfl (hb hby d16_22) ?_
                              refine XS.icmpNo X7.here hx rfl (hb hby d16_24) rfl (tlt (rfl : (12 : Int32) < (19 : Int32))).2.1 ?_
                              refine XS.lloadN X7.here hx rfl (hb hby d16_27) rfl ?_
                              refine XS.lloadN X7.here hx rfl (hb hby d16_28) rfl ?_
                              refine XS.lcmp X7.here hx rfl (hb hby d16_29) rfl ?_
                              refine XS.ifNo X7.here hx rfl (hb hby d16_30) rfl ((if0 _ _).trans (tlt ((lw_gt _ _).mpr hc42)).2.2.2) ?_
                              refine XS.iload X7.here hx rfl (hb hby d16_33) rfl ?_
                              refine XS.iloadN X7.here hx rfl (hb hby d16_35) rfl ?_
                              refine XS.iadd X7.here hx rfl (hb hby d16_36) rfl ?_
                              exact k)
                          obtain ⟨fs, hr, hrun, hended, hW, hsame⟩ := X7.leave (v := some (.int ((12 : Int32) + v6))) (fun h => by rw [Bd.returns] at h; cases h)
                          refine ⟨_, _, fin _ (pre43 _ ?_), hrun, hended, _, _, rfl, ?_, ⟨_, rfl⟩, hW, hsame.mono (by decide) (by decide)⟩
                          · show Steps p.tables e below (T7.setTop (mkF m 37 #[.val (.long v5), .second, .val (.int v6), .val (.long (-1000000000000 : Int64)), .second, .val (.int (12 : Int32))] [(.int ((12 : Int32) + v6))])) _
                            exact retI X7 hx Bd.returns (hb hby d16_37) hr
                          · show Q16 Z q0 h0 n0 _ T7.heap _
                            rw [e7]
                            exact ⟨(congrArg (fun z => some (Value.int z)) (own_q16_16 hv5 hv6 hc9 hc12 hc15 hc18 hc21 hc24 hc27 hc30 hc33 hc36 hc39 hc42)), N7, rfl⟩
                        · have pre44 : ∀ t, Steps p.tables e below (T7.setTop (mkF m 20 #[.val (.long v5), .second, .val (.int v6), .val (.long (-10000000000000 : Int64)), .second, .val (.int (13 : Int32))] [])) t → P t := own_t16 hx hby hZ hw hown X7 (by decide) hc42 (by decide) (by decide) pre41
                          by_cases hc45 : (-10000000000000 : Int64) < v5
                          · have pre46 : ∀ t, Steps p.tables e below (T7.setTop (mkF m 37 #[.val (.long v5), .second, .val (.int v6), .val (.long (-10000000000000 : Int64)), .second, .val (.int (13 : Int32))] [(.int ((13 : Int32) + v6))])) t → P t := fun t k => pre44 t (by
                                refine XS.iload X7.here hx rfl (hb hby d16_20) rfl ?_
                                refine XS.bipush X7.here hx rfl (hb hby d16_22) ?_
                                refine XS.icmpNo X7.here hx rfl (hb hby d16_24) rfl (tlt (rfl : (13 : Int32) < (19 : Int32))).2.1 ?_
                                refine XS.lloadN X7.here hx rfl (hb hby d16_27) rfl ?_
                                refine XS.lloadN X7.here hx rfl (hb hby d16_28) rfl ?_
                                refine XS.lcmp X7.here hx rfl (hb hby d16_29) rfl ?_
                                refine XS.ifNo X7.here hx rfl (hb hby d16_30) rfl ((if0 _ _).trans (tlt ((lw_gt _ _).mpr hc45)).2.2.2) ?_
                                refine XS.iload X7.here hx rfl (hb hby d16_33) rfl ?_
                                refine XS.iloadN X7.here hx rfl (hb hby d16_35) rfl ?_
                                refine XS.iadd X7.here hx rfl (hb hby d16_36) rfl ?_
                                exact k)
                            obtain ⟨fs, hr, hrun, hended, hW, hsame⟩ := X7.leave (v := some (.int ((13 : Int32) + v6))) (fun h => by rw [Bd.returns] at h; cases h)
                            refine ⟨_, _, fin _ (pre46 _ ?_), hrun, hended, _, _, rfl, ?_, ⟨_, rfl⟩, hW, hsame.mono (by decide) (by decide)⟩
                            · show Steps p.tables e below (T7.setTop (mkF m 37 #[.val (.long v5), .second, .val (.int v6), .val (.long (-10000000000000 : Int64)), .second, .val (.int (13 : Int32))] [(.int ((13 : Int32) + v6))])) _
                              exact retI X7 hx Bd.returns (hb hby d16_37) hr
                            · show Q16 Z q0 h0 n0 _ T7.heap _
                              rw [e7]
                              exact ⟨(congrArg (fun z => some (Value.int z)) (own_q16_17 hv5 hv6 hc9 hc12 hc15 hc18 hc21 hc24 hc27 hc30 hc33 hc36 hc39 hc42 hc45)), N7, rfl⟩
                          · have pre47 : ∀ t, Steps p.tables e below (T7.setTop (mkF m 20 #[.val (.long v5), .second, .val (.int v6), .val (.long (-100000000000000 : Int64)), .second, .val (.int (14 : Int32))] [])) t → P t := own_t16 hx hby hZ hw hown X7 (by decide) hc45 (by decide) (by decide) pre44
                            by_cases hc48 : (-100000000000000 : Int64) < v5
                            · have pre49 : ∀ t, Steps p.tables e below (T7.setTop (mkF m 37 #[.val (.long v5), .second, .val (.int v6), .val (.long (-100000000000000 : Int64)), .second, .val (.int (14 : Int32))] [(.int ((14 : Int32) + v6))])) t → P t := fun t k => pre47 t (by
                                  refine XS.iload X7.here hx rfl (hb hby d16_20) rfl ?_
                                  refine XS.bipush X7.here hx rfl (hb hby d16_22) ?_
                                  refine XS.icmpNo X7.here hx rfl (hb hby d16_24) rfl (tlt (rfl : (14 : Int32) < (19 : Int32))).2.1 ?_
                                  refine XS.lloadN X7.here hx rfl (hb hby d16_27) rfl ?_
                                  refine XS.lloadN X7.here hx rfl (hb hby d16_28) rfl ?_
                                  refine XS.lcmp X7.here hx rfl (hb hby d16_29) rfl ?_
                                  refine XS.ifNo X7.here hx rfl (hb hby d16_30) rfl ((if0 _ _).trans (tlt ((lw_gt _ _).mpr hc48)).2.2.2) ?_
                                  refine XS.iload X7.here hx rfl (hb hby d16_33) rfl ?_
                                  refine XS.iloadN X7.here hx rfl (hb hby d16_35) rfl ?_
                                  refine XS.iadd X7.here hx rfl (hb hby d16_36) rfl ?_
                                  exact k)
                              obtain ⟨fs, hr, hrun, hended, hW, hsame⟩ := X7.leave (v := some (.int ((14 : Int32) + v6))) (fun h => by rw [Bd.returns] at h; cases h)
                              refine ⟨_, _, fin _ (pre49 _ ?_), hrun, hended, _, _, rfl, ?_, ⟨_, rfl⟩, hW, hsame.mono (by decide) (by decide)⟩
                              · show Steps p.tables e below (T7.setTop (mkF m 37 #[.val (.long v5), .second, .val (.int v6), .val (.long (-100000000000000 : Int64)), .second, .val (.int (14 : Int32))] [(.int ((14 : Int32) + v6))])) _
                                exact retI X7 hx Bd.returns (hb hby d16_37) hr
                              · show Q16 Z q0 h0 n0 _ T7.heap _
                                rw [e7]
                                exact ⟨(congrArg (fun z => some (Value.int z)) (own_q16_18 hv5 hv6 hc9 hc12 hc15 hc18 hc21 hc24 hc27 hc30 hc33 hc36 hc39 hc42 hc45 hc48)), N7, rfl⟩
                            · have pre50 : ∀ t, Steps p.tables e below (T7.setTop (mkF m 20 #[.val (.long v5), .second, .val (.int v6), .val (.long (-1000000000000000 : Int64)), .second, .val (.int (15 : Int32))] [])) t → P t := own_t16 hx hby hZ hw hown X7 (by decide) hc48 (by decide) (by decide) pre47
                              by_cases hc51 : (-1000000000000000 : Int64) < v5
                              · have pre52 : ∀ t, Steps p.tables e below (T7.setTop (mkF m 37 #[.val (.long v5), .second, .val (.int v6), .val (.long (-1000000000000000 : Int64)), .second, .val (.int (15 : Int32))] [(.int ((15 : Int32) + v6))])) t → P t := fun t k => pre50 t (by
                                    refine XS.iload X7.here hx rfl (hb hby d16_20) rfl ?_
                                    refine XS.bipush X7.here hx rfl (hb hby d16_22) ?_
                                    refine XS.icmpNo X7.here hx rfl (hb hby d16_24) rfl (tlt (rfl : (15 : Int32) < (19 : Int32))).2.1 ?_
                                    refine XS.lloadN X7.here hx rfl (hb hby d16_27) rfl ?_
                                    refine XS.lloadN X7.here hx rfl (hb hby d16_28) rfl ?_
                                    refine XS.lcmp X7.here hx rfl (hb hby d16_29) rfl ?_
                                    refine XS.ifNo X7.here hx rfl (hb hby d16_30) rfl ((if0 _ _).trans (tlt ((lw_gt _ _).mpr hc51)).2.2.2) ?_
                                    refine XS.iload X7.here hx rfl (hb hby d16_33) rfl ?_
                                    refine XS.iloadN X7.here hx rfl (hb hby d16_35) rfl ?_
                                    refine XS.iadd X7.here hx rfl (hb hby d16_36) rfl ?_
                                    exact k)
                                obtain ⟨fs, hr, hrun, hended, hW, hsame⟩ := X7.leave (v := some (.int ((15 : Int32) + v6))) (fun h => by rw [Bd.returns] at h; cases h)
                                refine ⟨_, _, fin _ (pre52 _ ?_), hrun, hended, _, _, rfl, ?_, ⟨_, rfl⟩, hW, hsame.mono (by decide) (by decide)⟩
                                · show Steps p.tables e below (T7.setTop (mkF m 37 #[.val (.long v5), .second, .val (.int v6), .val (.long (-1000000000000000 : Int64)), .second, .val (.int (15 : Int32))] [(.int ((15 : Int32) + v6))])) _
                                  exact retI X7 hx Bd.returns (hb hby d16_37) hr
                                · show Q16 Z q0 h0 n0 _ T7.heap _
                                  rw [e7]
                                  exact ⟨(congrArg (fun z => some (Value.int z)) (own_q16_19 hv5 hv6 hc9 hc12 hc15 hc18 hc21 hc24 hc27 hc30 hc33 hc36 hc39 hc42 hc45 hc48 hc51)), N7, rfl⟩
                              · have pre53 : ∀ t, Steps p.tables e below (T7.setTop (mkF m 20 #[.val (.long v5), .second, .val (.int v6), .val (.long (-10000000000000000 : Int64)), .second, .val (.int (16 : Int32))] [])) t → P t := own_t16 hx hby hZ hw hown X7 (by decide) hc51 (by decide) (by decide) pre50
                                by_cases hc54 : (-10000000000000000 : Int64) < v5
                                · have pre55 : ∀ t, Steps p.tables e below (T7.setTop (mkF m 37 #[.val (.long v5), .second, .val (.int v6), .val (.long (-10000000000000000 : Int64)), .second, .val (.int (16 : Int32))] [(.int ((16 : Int32) + v6))])) t → P t := fun t k => pre53 t (by
                                      refine XS.iload X7.here hx rfl (hb hby d16_20) rfl ?_
                                      refine XS.bipush X7.here hx rfl (hb hby d16_22) ?_
                                      refine XS.icmpNo X7.here hx rfl (hb hby d16_24) rfl (tlt (rfl : (16 : Int32) < (19 : Int32))).2.1 ?_
                                      refine XS.lloadN X7.here hx rfl (hb hby d16_27) rfl ?_
                                      refine XS.lloadN X7.here hx rfl (hb hby d16_28) rfl ?_
                                      refine XS.lcmp X7.here hx rfl (hb hby d16_29) rfl ?_
                                      refine XS.ifNo X7.here hx rfl (hb hby d16_30) rfl ((if0 _ _).trans (tlt ((lw_gt _ _).mpr hc54)).2.2.2) ?_
                                      refine XS.iload X7.here hx rfl (hb hby d16_33) rfl ?_
                                      refine XS.iloadN X7.here hx rfl (hb hby d16_35) rfl ?_
                                      refine XS.iadd X7.here hx rfl (hb hby d16_36) rfl ?_
                                      exact k)
                                  obtain ⟨fs, hr, hrun, hended, hW, hsame⟩ := X7.leave (v := some (.int ((16 : Int32) + v6))) (fun h => by rw [Bd.returns] at h; cases h)
                                  refine ⟨_, _, fin _ (pre55 _ ?_), hrun, hended, _, _, rfl, ?_, ⟨_, rfl⟩, hW, hsame.mono (by decide) (by decide)⟩
                                  · show Steps p.tables e below (T7.setTop (mkF m 37 #[.val (.long v5), .second, .val (.int v6), .val (.long (-10000000000000000 : Int64)), .second, .val (.int (16 : Int32))] [(.int ((16 : Int32) + v6))])) _
                                    exact retI X7 hx Bd.returns (hb hby d16_37) hr
                                  · show Q16 Z q0 h0 n0 _ T7.heap _
                                    rw [e7]
                                    exact ⟨(congrArg (fun z => some (Value.int z)) (own_q16_20 hv5 hv6 hc9 hc12 hc15 hc18 hc21 hc24 hc27 hc30 hc33 hc36 hc39 hc42 hc45 hc48 hc51 hc54)), N7, rfl⟩
                                · have pre56 : ∀ t, Steps p.tables e below (T7.setTop (mkF m 20 #[.val (.long v5), .second, .val (.int v6), .val (.long (-100000000000000000 : Int64)), .second, .val (.int (17 : Int32))] [])) t → P t := own_t16 hx hby hZ hw hown X7 (by decide) hc54 (by decide) (by decide) pre53
                                  by_cases hc57 : (-100000000000000000 : Int64) < v5
                                  · have pre58 : ∀ t, Steps p.tables e below (T7.setTop (mkF m 37 #[.val (.long v5), .second, .val (.int v6), .val (.long (-100000000000000000 : Int64)), .second, .val (.int (17 : Int32))] [(.int ((17 : Int32) + v6))])) t → P t := fun t k => pre56 t (by
                                        refine XS.iload X7.here hx rfl (hb hby d16_20) rfl ?_
                                        refine XS.bipush X7.here hx rfl (hb hby d16_22) ?_
                                        refine XS.icmpNo X7.here hx rfl (hb hby d16_24) rfl (tlt (rfl : (17 : Int32) < (19 : Int32))).2.1 ?_
                                        refine XS.lloadN X7.here hx rfl (hb hby d16_27) rfl ?_
                                        refine XS.lloadN X7.here hx rfl (hb hby d16_28) rfl ?_
                                        refine XS.lcmp X7.here hx rfl (hb hby d16_29) rfl ?_
                                        refine XS.ifNo X7.here hx rfl (hb hby d16_30) rfl ((if0 _ _).trans (tlt ((lw_gt _ _).mpr hc57)).2.2.2) ?_
                                        refine XS.iload X7.here hx rfl (hb hby d16_33) rfl ?_
                                        refine XS.iloadN X7.here hx rfl (hb hby d16_35) rfl ?_
                                        refine XS.iadd X7.here hx rfl (hb hby d16_36) rfl ?_
                                        exact k)
                                    obtain ⟨fs, hr, hrun, hended, hW, hsame⟩ := X7.leave (v := some (.int ((17 : Int32) + v6))) (fun h => by rw [Bd.returns] at h; cases h)
                                    refine ⟨_, _, fin _ (pre58 _ ?_), hrun, hended, _, _, rfl, ?_, ⟨_, rfl⟩, hW, hsame.mono (by decide) (by decide)⟩
                                    · show Steps p.tables e below (T7.setTop (mkF m 37 #[.val (.long v5), .second, .val (.int v6), .val (.long (-100000000000000000 : Int64)), .second, .val (.int (17 : Int32))] [(.int ((17 : Int32) + v6))])) _
                                      exact retI X7 hx Bd.returns (hb hby d16_37) hr
                                    · show Q16 Z q0 h0 n0 _ T7.heap _
                                      rw [e7]
                                      exact ⟨(congrArg (fun z => some (Value.int z)) (own_q16_21 hv5 hv6 hc9 hc12 hc15 hc18 hc21 hc24 hc27 hc30 hc33 hc36 hc39 hc42 hc45 hc48 hc51 hc54 hc57)), N7, rfl⟩
                                  · have pre59 : ∀ t, Steps p.tables e below (T7.setTop (mkF m 20 #[.val (.long v5), .second, .val (.int v6), .val (.long (-1000000000000000000 : Int64)), .second, .val (.int (18 : Int32))] [])) t → P t := own_t16 hx hby hZ hw hown X7 (by decide) hc57 (by decide) (by decide) pre56
                                    by_cases hc60 : (-1000000000000000000 : Int64) < v5
                                    · have pre61 : ∀ t, Steps p.tables e below (T7.setTop (mkF m 37 #[.val (.long v5), .second, .val (.int v6), .val (.long (-1000000000000000000 : Int64)), .second, .val (.int (18 : Int32))] [(.int ((18 : Int32) + v6))])) t → P t := fun t k => pre59 t (by
                                          refine XS.iload X7.here hx rfl (hb hby d16_20) rfl ?_
                                          refine XS.bipush X7.here hx rfl (hb hby d16_22) ?_
                                          refine XS.icmpNo X7.here hx rfl (hb hby d16_24) rfl (tlt (rfl : (18 : Int32) < (19 : Int32))).2.1 ?_
                                          refine XS.lloadN X7.here hx rfl (hb hby d16_27) rfl ?_
                                          refine XS.lloadN X7.here hx rfl (hb hby d16_28) rfl ?_
                                          refine XS.lcmp X7.here hx rfl (hb hby d16_29) rfl ?_
                                          refine XS.ifNo X7.here hx rfl (hb hby d16_30) rfl ((if0 _ _).trans (tlt ((lw_gt _ _).mpr hc60)).2.2.2) ?_
                                          refine XS.iload X7.here hx rfl (hb hby d16_33) rfl ?_
                                          refine XS.iloadN X7.here hx rfl (hb hby d16_35) rfl ?_
                                          refine XS.iadd X7.here hx rfl (hb hby d16_36) rfl ?_
                                          exact k)
                                      obtain ⟨fs, hr, hrun, hended, hW, hsame⟩ := X7.leave (v := some (.int ((18 : Int32) + v6))) (fun h => by rw [Bd.returns] at h; cases h)
                                      refine ⟨_, _, fin _ (pre61 _ ?_), hrun, hended, _, _, rfl, ?_, ⟨_, rfl⟩, hW, hsame.mono (by decide) (by decide)⟩
                                      · show Steps p.tables e below (T7.setTop (mkF m 37 #[.val (.long v5), .second, .val (.int v6), .val (.long (-1000000000000000000 : Int64)), .second, .val (.int (18 : Int32))] [(.int ((18 : Int32) + v6))])) _
                                        exact retI X7 hx Bd.returns (hb hby d16_37) hr
                                      · show Q16 Z q0 h0 n0 _ T7.heap _
                                        rw [e7]
                                        exact ⟨(congrArg (fun z => some (Value.int z)) (own_q16_22 hv5 hv6 hc9 hc12 hc15 hc18 hc21 hc24 hc27 hc30 hc33 hc36 hc39 hc42 hc45 hc48 hc51 hc54 hc57 hc60)), N7, rfl⟩
                                    · have pre62 : ∀ t, Steps p.tables e below (T7.setTop (mkF m 20 #[.val (.long v5), .second, .val (.int v6), .val (.long (-10000000000000000000 : Int64)), .second, .val (.int (19 : Int32))] [])) t → P t := own_t16 hx hby hZ hw hown X7 (by decide) hc60 (by decide) (by decide) pre59
                                      have pre63 : ∀ t, Steps p.tables e below (T7.setTop (mkF m 54 #[.val (.long v5), .second, .val (.int v6), .val (.long (-10000000000000000000 : Int64)), .second, .val (.int (19 : Int32))] [(.int ((19 : Int32) + v6))])) t → P t := fun t k => pre62 t (by
                                          refine XS.iload X7.here hx rfl (hb hby d16_20) rfl ?_
                                          refine XS.bipush X7.here hx rfl (hb hby d16_22) ?_
                                          refine XS.icmpYes X7.here hx rfl (pc0 := 24) (pc' := 50) rfl (hb hby d16_24) rfl (flt (by decide : ¬ ((19 : Int32) < (19 : Int32)))).2.1 (by decide) (by decide) ?_
                                          refine XS.bipush X7.here hx rfl (hb hby d16_50) ?_
                                          refine XS.iloadN X7.here hx rfl (hb hby d16_52) rfl ?_
                                          refine XS.iadd X7.here hx rfl (hb hby d16_53) rfl ?_
                                          exact k)
                                      obtain ⟨fs, hr, hrun, hended, hW, hsame⟩ := X7.leave (v := some (.int ((19 : Int32) + v6))) (fun h => by rw [Bd.returns] at h; cases h)
                                      refine ⟨_, _, fin _ (pre63 _ ?_), hrun, hended, _, _, rfl, ?_, ⟨_, rfl⟩, hW, hsame.mono (by decide) (by decide)⟩
                                      · show Steps p.tables e below (T7.setTop (mkF m 54 #[.val (.long v5), .second, .val (.int v6), .val (.long (-10000000000000000000 : Int64)), .second, .val (.int (19 : Int32))] [(.int ((19 : Int32) + v6))])) _
                                        exact retI X7 hx Bd.returns (hb hby d16_54) hr
                                      · show Q16 Z q0 h0 n0 _ T7.heap _
                                        rw [e7]
                                        exact ⟨(congrArg (fun z => some (Value.int z)) (own_q16_23 hv5 hv6 hc9 hc12 hc15 hc18 hc21 hc24 hc27 hc30 hc33 hc36 hc39 hc42 hc45 hc48 hc51 hc54 hc57 hc60)), N7, rfl⟩
def own_dg (m k : Nat) : Int32 := Int32.ofNat (48 + m / 10 ^ k % 10)
def own_D (m : Nat) : Nat → List Int32
  | 0 => []
  | k + 1 => own_dg m k :: own_D m k
theorem own_Dlen (m : Nat) : ∀ k, (own_D m k).length = k
  | 0 => rfl
  | k + 1 => by rw [own_D, List.length_cons, own_Dlen m k]
def own_W (M nd n : Nat) (L0 : List Int32) (zv : Int32) : Prop := L0.length = n ∧ (n : Int) ≤ zv.toInt ∧ zv.toInt ≤ 220 ∧ nd ≤ n ∧ M < 10 ^ nd ∧ (M = 0 → nd = 1) ∧ (M ≠ 0 → 10 ^ (nd - 1) ≤ M) ∧ 1 ≤ nd ∧ M ≤ 9223372036854775808
def own_I (M j n : Nat) (L0 : List Int32) (x : Int) (c : Int32) (D : List Int32) : Prop := x = -((M / 10 ^ j : Nat) : Int) ∧ c.toInt = (n : Int) - (j : Int) ∧ j ≤ n ∧ D = L0.take (n - j) ++ own_D M j ∧ (j = 0 ∨ 10 ^ j ≤ M)
theorem own_put {M j n : Nat} {L0 : List Int32} (hl : L0.length = n) (hj : j < n) : (L0.take (n - j) ++ own_D M j).set (n - j - 1) (own_dg M j) = L0.take (n - (j + 1)) ++ own_D M (j + 1) := by
  have e1 : n - j = (n - (j + 1)) + 1 := by omega
  have h2 : n - (j + 1) < L0.length := by omega
  rw [e1, List.take_succ_eq_append_getElem h2, Nat.add_sub_cancel, List.append_assoc]
  rw [List.set_append_right _ _ (by simp; omega)]
  have e3 : (L0.take (n - (j + 1))).length = n - (j + 1) := by rw [List.length_take]; omega
  rw [e3, Nat.sub_self]
  rfl
theorem own_ps (M j : Nat) : M / 10 ^ (j + 1) = M / 10 ^ j / 10 := by rw [Nat.pow_succ, Nat.div_div_eq_div_mul]
theorem own_more {M j nd : Nat} (h : M < 10 ^ nd) (q : 10 ≤ M / 10 ^ j) : j + 2 ≤ nd := by
  have h1 : 10 ^ j * 10 ≤ M := by
    have := (Nat.le_div_iff_mul_le (Nat.pow_pos (n := j) (by decide : 0 < 10))).mp q
    rw [Nat.mul_comm]; exact this
  have h2 : 10 ^ (j + 1) < 10 ^ nd := by rw [Nat.pow_succ]; omega
  have := (Nat.pow_lt_pow_iff_right (by decide : 1 < 10)).mp h2
  omega
theorem own_on1 : ∀ r : Fin 100, nar .byte (own_ones.getD r.val 0) = Int32.ofNat (48 + r.val % 10) := by decide +kernel
theorem own_te1 : ∀ r : Fin 100, nar .byte (own_tens.getD r.val 0) = Int32.ofNat (48 + r.val / 10) := by decide +kernel
theorem own_on {M j : Nat} {r : Int32} (h : r.toInt = ((M / 10 ^ j % 100 : Nat) : Int)) : nar .byte (own_ones.getD r.toNatClampNeg 0) = own_dg M j := by
  have h1 := own_tn (z := r) (by omega)
  have h2 : r.toNatClampNeg = M / 10 ^ j % 100 := by omega
  rw [h2]
  have := own_on1 ⟨M / 10 ^ j % 100, Nat.mod_lt _ (by decide)⟩
  rw [this, own_dg]
  congr 2
  show M / 10 ^ j % 100 % 10 = _
  omega
theorem own_te {M j : Nat} {r : Int32} (h : r.toInt = ((M / 10 ^ j % 100 : Nat) : Int)) : nar .byte (own_tens.getD r.toNatClampNeg 0) = own_dg M (j + 1) := by
  have h1 := own_tn (z := r) (by omega)
  have h2 : r.toNatClampNeg = M / 10 ^ j % 100 := by omega
  rw [h2]
  have := own_te1 ⟨M / 10 ^ j % 100, Nat.mod_lt _ (by decide)⟩
  rw [this, own_dg, own_ps]
  congr 2
  show M / 10 ^ j % 100 / 10 = _
  omega
theorem own_r100 {M j : Nat} {r : Int32} (h : r.toInt = ((M / 10 ^ j % 100 : Nat) : Int)) : ¬ r < 0 ∧ r < (100 : Int32) := by
  have e0 : (100 : Int32).toInt = 100 := by decide
  refine ⟨own_nn (by omega), ?_⟩
  rw [Int32.lt_iff_toInt_lt]
  omega
theorem own_cp {c : Int32} {n j : Nat} (h : c.toInt = (n : Int) - (j : Int)) (hj : j < n) (hn : n ≤ 220) : (c + (-1 : Int32)).toInt = (n : Int) - ((j + 1 : Nat) : Int) ∧ (c + (-1 : Int32)).toNatClampNeg = n - j - 1 := by
  have e0 : (-1 : Int32).toInt = -1 := by decide
  have a1 := c_iadd c (-1)
  have r1 := rng32 (c + (-1))
  have h1 : (c + (-1 : Int32)).toInt = (n : Int) - ((j + 1 : Nat) : Int) := by omega
  refine ⟨h1, ?_⟩
  have := own_tn (z := c + (-1)) (by omega)
  omega
theorem own_Wn {M nd n : Nat} {L0 : List Int32} {zv : Int32} (W : own_W M nd n L0 zv) : n ≤ 220 := by have := W.2.1; have := W.2.2.1; omega
/- one digit written -/
theorem own_I1 {M j n nd : Nat} {L0 D : List Int32} {zv c v : Int32} {x y : Int} (W : own_W M nd n L0 zv) (I : own_I M j n L0 x c D) (hj : j < n) (hv : v = own_dg M j) (hy : y = -((M / 10 ^ (j + 1) : Nat) : Int)) (hM : 10 ^ (j + 1) ≤ M ∨ True) : (c + (-1 : Int32)).toInt = (n : Int) - ((j + 1 : Nat) : Int) ∧ D.set (c + (-1 : Int32)).toNatClampNeg v = L0.take (n - (j + 1)) ++ own_D M (j + 1) := by
  obtain ⟨h1, h2, h3, h4, h5⟩ := I
  have q := own_cp h2 hj (own_Wn W)
  refine ⟨q.1, ?_⟩
  rw [q.2, hv, h4]
  exact own_put W.1 hj
theorem own_in1 {M j n nd : Nat} {L0 D : List Int32} {zv c : Int32} (W : own_W M nd n L0 zv) (hc : c.toInt = (n : Int) - (j : Int)) (hD : D = L0.take (n - j) ++ own_D M j) (hj : j < n) : (¬ (c + (-1 : Int32)) < 0 ∧ (c + (-1 : Int32)) < zv) ∧ (c + (-1 : Int32)).toNatClampNeg < D.length := by
  have q := own_cp hc hj (own_Wn W)
  have w := W.2.1
  have w0 := W.1
  refine ⟨⟨own_nn (by omega), ?_⟩, ?_⟩
  · rw [Int32.lt_iff_toInt_lt]; omega
  · rw [q.2, hD, List.length_append, own_Dlen, List.length_take]; omega
def own_S3 (s4 s5 s6 : Slot) : Prop := (s4 = .unset ∧ s5 = .unset ∧ s6 = .unset) ∨ ∃ (v : Int64) (w : Int32), s4 = .val (.long v) ∧ s5 = .second ∧ s6 = .val (.int w)
theorem own_S3s {s4 s5 s6 : Slot} (h : own_S3 s4 s5 s6) {z0 z2 z3 z7 z8 : Value} {v : Int64} : storeLocals #[.val z0, .second, .val z2, .val z3, s4, s5, s6, .val z7, .val z8, .unset, .unset] 4 (.long v) = some #[.val z0, .second, .val z2, .val z3, .val (.long v), .second, s6, .val z7, .val z8, .unset, .unset] := by
  rcases h with ⟨rfl, rfl, rfl⟩ | ⟨w, u, rfl, rfl, rfl⟩ <;> rfl
theorem own_S3i {s4 s5 s6 : Slot} (h : own_S3 s4 s5 s6) : One s6 := by
  rcases h with ⟨rfl, rfl, rfl⟩ | ⟨w, u, rfl, rfl, rfl⟩
  · exact One.u
  · exact One.val rfl
theorem own_x1 {M j : Nat} {x : Int64} (h : x.toInt = -((M / 10 ^ j : Nat) : Int)) : (x / (100 : Int64)).toInt = -((M / 10 ^ (j + 2) : Nat) : Int) ∧ (((x / (100 : Int64)) * (100 : Int64)) - x).toInt32.toInt = ((M / 10 ^ j % 100 : Nat) : Int) := by
  have e0 : (100 : Int64).toInt = 100 := by decide
  have a1 := c_ldiv x 100 100 e0 (by decide)
  have r1 := rng64 x
  have hp : M / 10 ^ (j + 2) = M / 10 ^ j / 100 := by rw [own_ps, own_ps, Nat.div_div_eq_div_mul]
  rw [hp]
  generalize hq : M / 10 ^ j = q at *
  have h1 : (x / (100 : Int64)).toInt = -((q / 100 : Nat) : Int) := by
    by_cases hx : 0 ≤ x.toInt
    · rw [a1.1 hx]; omega
    · rw [a1.2 (by omega)]; omega
  refine ⟨h1, ?_⟩
  have a2 := c_lmul (x / (100 : Int64)) 100
  have a3 := c_lsub ((x / (100 : Int64)) * (100 : Int64)) x
  have r2 := rng64 ((x / (100 : Int64)) * (100 : Int64))
  have r3 := rng64 (((x / (100 : Int64)) * (100 : Int64)) - x)
  have a4 := c_l2i (((x / (100 : Int64)) * (100 : Int64)) - x)
  have r4 := rng32 ((((x / (100 : Int64)) * (100 : Int64)) - x).toInt32)
  rw [h1, e0] at a2
  generalize (((x / (100 : Int64)) * (100 : Int64)) - x).toInt32.toInt = y4 at *
  generalize (((x / (100 : Int64)) * (100 : Int64)) - x).toInt = y3 at *
  generalize ((x / (100 : Int64)) * (100 : Int64)).toInt = y2 at *
  omega
theorem own_go1 {M j n nd : Nat} {L0 D : List Int32} {zv c : Int32} {x : Int64} (W : own_W M nd n L0 zv) (I : own_I M j n L0 x.toInt c D) (hgo : ¬ (-2147483648 : Int64) < x) : 100 ≤ M / 10 ^ j ∧ j + 2 < n := by
  have e0 : (-2147483648 : Int64).toInt = -2147483648 := by decide
  rw [Int64.lt_iff_toInt_lt, e0] at hgo
  have h1 := I.1
  have h2 : 100 ≤ M / 10 ^ j := by omega
  refine ⟨h2, ?_⟩
  have h3 := own_more (j := j + 1) W.2.2.2.2.1 (by rw [own_ps]; omega)
  have := W.2.2.2.1
  omega
/- a turn: two digits -/
theorem own_I2 {M j n nd : Nat} {L0 D : List Int32} {zv c r : Int32} {x y : Int} (W : own_W M nd n L0 zv) (I : own_I M j n L0 x c D) (hj : j + 2 < n) (hM : 100 ≤ M / 10 ^ j) (hr : r.toInt = ((M / 10 ^ j % 100 : Nat) : Int)) (hy : y = -((M / 10 ^ (j + 2) : Nat) : Int)) : own_I M (j + 2) n L0 y ((c + (-1 : Int32)) + (-1 : Int32)) ((D.set (c + (-1 : Int32)).toNatClampNeg (nar .byte (own_ones.getD r.toNatClampNeg 0))).set ((c + (-1 : Int32)) + (-1 : Int32)).toNatClampNeg (nar .byte (own_tens.getD r.toNatClampNeg 0))) := by
  have q := own_I1 (y := -((M / 10 ^ (j + 1) : Nat) : Int)) W I (by omega) (own_on hr) rfl (Or.inr trivial)
  rw [q.2, own_te hr]
  have q2 := own_cp q.1 (by omega) (own_Wn W)
  refine ⟨hy, ?_, by omega, ?_, Or.inr ?_⟩
  · rw [q2.1]
  · rw [q2.2]; exact own_put W.1 (by omega)
  · have := (Nat.le_div_iff_mul_le (Nat.pow_pos (n := j) (by decide : 0 < 10))).mp hM
    rw [Nat.pow_add]; omega
theorem own_in2 {M j n nd : Nat} {L0 D : List Int32} {zv c r : Int32} {x : Int} (W : own_W M nd n L0 zv) (I : own_I M j n L0 x c D) (hj : j + 1 < n) (hr : r.toInt = ((M / 10 ^ j % 100 : Nat) : Int)) : (¬ ((c + (-1 : Int32)) + (-1 : Int32)) < 0 ∧ ((c + (-1 : Int32)) + (-1 : Int32)) < zv) ∧ ((c + (-1 : Int32)) + (-1 : Int32)).toNatClampNeg < (D.set (c + (-1 : Int32)).toNatClampNeg (nar .byte (own_ones.getD r.toNatClampNeg 0))).length := by
  have q := own_I1 (y := -((M / 10 ^ (j + 1) : Nat) : Int)) W I (by omega) (own_on hr) rfl (Or.inr trivial)
  exact own_in1 W q.1 q.2 (by omega)
theorem d18_24 : decode jdk_35_method_14_code 24 = .ok (.lload_n 0, 1) := by decide +kernel
theorem d18_25 : decode jdk_35_method_14_code 25 = .ok (.ldc2_w 129, 3) := by decide +kernel
theorem d18_28 : decode jdk_35_method_14_code 28 = .ok (.lcmp, 1) := by decide +kernel
theorem d18_29 : decode jdk_35_method_14_code 29 = .ok (.ifCond .gt 53, 3) := by decide +kernel
theorem d18_32 : decode jdk_35_method_14_code 32 = .ok (.lload_n 0, 1) := by decide +kernel
theorem d18_33 : decode jdk_35_method_14_code 33 = .ok (.ldc2_w 131, 3) := by decide +kernel
theorem d18_36 : decode jdk_35_method_14_code 36 = .ok (.ldiv, 1) := by decide +kernel
theorem d18_37 : decode jdk_35_method_14_code 37 = .ok (.lstore 4, 2) := by decide +kernel
theorem d18_39 : decode jdk_35_method_14_code 39 = .ok (.lload 4, 2) := by decide +kernel
theorem d18_41 : decode jdk_35_method_14_code 41 = .ok (.ldc2_w 131, 3) := by decide +kernel
theorem d18_44 : decode jdk_35_method_14_code 44 = .ok (.lmul, 1) := by decide +kernel
theorem d18_45 : decode jdk_35_method_14_code 45 = .ok (.lload_n 0, 1) := by decide +kernel
theorem d18_46 : decode jdk_35_method_14_code 46 = .ok (.lsub, 1) := by decide +kernel
theorem d18_47 : decode jdk_35_method_14_code 47 = .ok (.l2i, 1) := by decide +kernel
theorem d18_48 : decode jdk_35_method_14_code 48 = .ok (.istore 6, 2) := by decide +kernel
theorem d18_50 : decode jdk_35_method_14_code 50 = .ok (.lload 4, 2) := by decide +kernel
theorem d18_52 : decode jdk_35_method_14_code 52 = .ok (.lstore_n 0, 1) := by decide +kernel
theorem d18_53 : decode jdk_35_method_14_code 53 = .ok (.aload_n 3, 1) := by decide +kernel
theorem d18_54 : decode jdk_35_method_14_code 54 = .ok (.iinc 7 (-1), 3) := by decide +kernel
theorem d18_57 : decode jdk_35_method_14_code 57 = .ok (.iload 7, 2) := by decide +kernel
theorem d18_59 : decode jdk_35_method_14_code 59 = .ok (.getstatic 133, 3) := by decide +kernel
theorem d18_62 : decode jdk_35_method_14_code 62 = .ok (.iload 6, 2) := by decide +kernel
theorem d18_64 : decode jdk_35_method_14_code 64 = .ok (.baload, 1) := by decide +kernel
theorem d18_65 : decode jdk_35_method_14_code 65 = .ok (.bastore, 1) := by decide +kernel
theorem d18_66 : decode jdk_35_method_14_code 66 = .ok (.aload_n 3, 1) := by decide +kernel
theorem d18_67 : decode jdk_35_method_14_code 67 = .ok (.iinc 7 (-1), 3) := by decide +kernel
theorem d18_70 : decode jdk_35_method_14_code 70 = .ok (.iload 7, 2) := by decide +kernel
theorem d18_72 : decode jdk_35_method_14_code 72 = .ok (.getstatic 137, 3) := by decide +kernel
theorem d18_75 : decode jdk_35_method_14_code 75 = .ok (.iload 6, 2) := by decide +kernel
theorem d18_77 : decode jdk_35_method_14_code 77 = .ok (.baload, 1) := by decide +kernel
theorem d18_78 : decode jdk_35_method_14_code 78 = .ok (.bastore, 1) := by decide +kernel
theorem d18_79 : decode jdk_35_method_14_code 79 = .ok (.goto (-55), 3) := by decide +kernel
theorem os18_48_0 {z0 : Value} {z2 : Value} {z3 : Value} {z4 : Value} {s6 : Slot} {z7 : Value} {z8 : Value} {v : Int32} (h : One s6) : storeLocals #[.val z0, .second, .val z2, .val z3, .val z4, .second, s6, .val z7, .val z8, .unset, .unset] 6 (.int v) = some #[.val z0, .second, .val z2, .val z3, .val z4, .second, .val (.int v), .val z7, .val z8, .unset, .unset] := by
  rcases h with rfl | ⟨w, rfl, hw⟩
  · rfl
  · cases w <;> first | rfl | (simp [Value.category] at hw)
set_option maxRecDepth 65536 in
set_option maxHeartbeats 40000000 in
theorem own_t18a {p : Program} {l : Launch} {e : Env} {R : Room} {s : State} {m : MethodId} {args : Array Value} {below : List Frame} {meth : Method} {c : Code} {cells slots : Nat} {Z : State} {a0 : Array Value} {P : State → Prop} {o3 : Addr} {kv : ClassId} {zv p2 ng : Int32} {h0 : Heap} {n0 : Nat} {M n nd : Nat} {L0 : List Int32} (hx : p.tables.exec = Jvm.exec) (hby : c.code = jdk_35_method_14_code) (hZ : Z.Warmed39 s.vm) (hw : ∀ d ∈ tables_1, d.before a0 Z = true) (hown : s.vm.findClass "java/lang/Long" = some m.cls) (HC : own_CC Z) (g_o3 : n0 ≤ o3) (W : own_W M nd n L0 zv) {T1 : State} {L1 : List Loc} {h1 : Heap} {x : Int64} {c1 : Int32} {D : List Int32} {s4 s5 s6 : Slot} {j : Nat} (X0 : Stand p l e R s m args below meth c T1 L1 cells slots) (e0 : T1.heap = h1) (N0 : Fr n0 L1) (K0 : Keep h0 h1 [o3]) (Z0 : n0 ≤ h1.size) (OLD0 : Old Z n0 h1) (V0 : Arv Z h1 o3 kv .byte zv (own_v D) (.int 0)) (H3 : own_S3 s4 s5 s6) (I : own_I M j n L0 x.toInt c1 D) (hgo : ¬ (-2147483648 : Int64) < x) (pre0 : (∀ t, Steps p.tables e below (T1.setTop (mkF m 24 #[.val (.long x), .second, .val (.int p2), .val (.ref o3), s4, s5, s6, .val (.int c1), .val (.int ng), .unset, .unset] [])) t → P t)) :
    ∃ (T2 : State) (L2 : List Loc) (h2 : Heap) (x2 : Int64) (c2 : Int32) (D2 : List Int32) (t4 t5 t6 : Slot), Stand p l e R s m args below meth c T2 L2 cells slots ∧ T2.heap = h2 ∧ Fr n0 L2 ∧ Keep h0 h2 [o3] ∧ n0 ≤ h2.size ∧ Old Z n0 h2 ∧ Arv Z h2 o3 kv .byte zv (own_v D2) (.int 0) ∧ own_S3 t4 t5 t6 ∧ own_I M (j + 2) n L0 x2.toInt c2 D2 ∧ (∀ t, Steps p.tables e below (T2.setTop (mkF m 24 #[.val (.long x2), .second, .val (.int p2), .val (.ref o3), t4, t5, t6, .val (.int c2), .val (.int ng), .unset, .unset] [])) t → P t) := by
  have hs6 : One s6 := own_S3i H3
  obtain ⟨cs, fm, d1, d2, k1, k2, hcs, hSc, hSf, hS1, hS2, hD1, hD2, hfm⟩ := id HC
  have pre1 : ∀ t, Steps p.tables e below (T1.setTop (mkF m 59 #[.val (.long (x / (100 : Int64))), .second, .val (.int p2), .val (.ref o3), .val (.long (x / (100 : Int64))), .second, .val (.int ((((x / (100 : Int64)) * (100 : Int64)) - x).toInt32)), .val (.int (c1 + (-1 : Int32))), .val (.int ng), .unset, .unset] [(.int (c1 + (-1 : Int32))), (.ref o3)])) t → P t := fun t k => pre0 t (by
      refine XS.lloadN X0.here hx rfl (hb hby d18_24) rfl ?_
      refine X0.ldc2Long hx hown (mvT hZ (hi hw 120 rfl)) (g := (mkF m 25 #[.val (.long x), .second, .val (.int p2), .val (.ref o3), s4, s5, s6, .val (.int c1), .val (.int ng), .unset, .unset] [(.long x)])) rfl (hb hby d18_25) _ ?_
      refine XS.lcmp X0.here hx rfl (hb hby d18_28) rfl ?_
      refine XS.ifNo X0.here hx rfl (hb hby d18_29) rfl ((if0 _ _).trans (flt (fun q => hgo ((lw_gt _ _).mp q))).2.2.1) ?_
      refine XS.lloadN X0.here hx rfl (hb hby d18_32) rfl ?_
      refine X0.ldc2Long hx hown (mvT hZ (hi hw 149 rfl)) (g := (mkF m 33 #[.val (.long x), .second, .val (.int p2), .val (.ref o3), s4, s5, s6, .val (.int c1), .val (.int ng), .unset, .unset] [(.long x)])) rfl (hb hby d18_33) _ ?_
      refine XS.ldiv X0.here hx rfl (hb hby d18_36) rfl (by decide) ?_
      refine XS.lstore X0.here hx rfl (hb hby d18_37) rfl (l' := #[.val (.long x), .second, .val (.int p2), .val (.ref o3), .val (.long (x / (100 : Int64))), .second, s6, .val (.int c1), .val (.int ng), .unset, .unset]) (own_S3s H3) ?_
      refine XS.lload X0.here hx rfl (hb hby d18_39) rfl ?_
      refine X0.ldc2Long hx hown (mvT hZ (hi hw 149 rfl)) (g := (mkF m 41 #[.val (.long x), .second, .val (.int p2), .val (.ref o3), .val (.long (x / (100 : Int64))), .second, s6, .val (.int c1), .val (.int ng), .unset, .unset] [(.long (x / (100 : Int64)))])) rfl (hb hby d18_41) _ ?_
      refine XS.lmul X0.here hx rfl (hb hby d18_44) rfl ?_
      refine XS.lloadN X0.here hx rfl (hb hby d18_45) rfl ?_
      refine XS.lsub X0.here hx rfl (hb hby d18_46) rfl ?_
      refine XS.l2i X0.here hx rfl (hb hby d18_47) rfl ?_
      refine XS.istore X0.here hx rfl (hb hby d18_48) rfl (l' := #[.val (.long x), .second, .val (.int p2), .val (.ref o3), .val (.long (x / (100 : Int64))), .second, .val (.int ((((x / (100 : Int64)) * (100 : Int64)) - x).toInt32)), .val (.int c1), .val (.int ng), .unset, .unset]) (os18_48_0 hs6) ?_
      refine XS.lload X0.here hx rfl (hb hby d18_50) rfl ?_
      refine XS.lstoreN X0.here hx rfl (hb hby d18_52) rfl (l' := #[.val (.long (x / (100 : Int64))), .second, .val (.int p2), .val (.ref o3), .val (.long (x / (100 : Int64))), .second, .val (.int ((((x / (100 : Int64)) * (100 : Int64)) - x).toInt32)), .val (.int c1), .val (.int ng), .unset, .unset]) rfl ?_
      refine XS.aloadN X0.here hx rfl (hb hby d18_53) rfl rfl ?_
      refine XS.iinc X0.here hx rfl (hb hby d18_54) rfl (l' := #[.val (.long (x / (100 : Int64))), .second, .val (.int p2), .val (.ref o3), .val (.long (x / (100 : Int64))), .second, .val (.int ((((x / (100 : Int64)) * (100 : Int64)) - x).toInt32)), .val (.int (c1 + (-1 : Int32))), .val (.int ng), .unset, .unset]) rfl ?_
      refine XS.iload X0.here hx rfl (hb hby d18_57) rfl ?_
      exact k)
  obtain ⟨T2, X2, e2, st2⟩ := getS2 X0 hx hZ hown (host := "") (Or.inl (hi hw 121 rfl)) Via.refl e0 (hS1.ext OLD0.2) (g := (mkF m 59 #[.val (.long (x / (100 : Int64))), .second, .val (.int p2), .val (.ref o3), .val (.long (x / (100 : Int64))), .second, .val (.int ((((x / (100 : Int64)) * (100 : Int64)) - x).toInt32)), .val (.int (c1 + (-1 : Int32))), .val (.int ng), .unset, .unset] [(.int (c1 + (-1 : Int32))), (.ref o3)])) rfl (hb hby d18_59)
  have pre2 : ∀ t, Steps p.tables e below (T2.setTop (mkF m 62 #[.val (.long (x / (100 : Int64))), .second, .val (.int p2), .val (.ref o3), .val (.long (x / (100 : Int64))), .second, .val (.int ((((x / (100 : Int64)) * (100 : Int64)) - x).toInt32)), .val (.int (c1 + (-1 : Int32))), .val (.int ng), .unset, .unset] [(.ref d1), (.int (c1 + (-1 : Int32))), (.ref o3)])) t → P t := fun t k => pre1 t (st2 _ k)
  have pre3 : ∀ t, Steps p.tables e below (T2.setTop (mkF m 64 #[.val (.long (x / (100 : Int64))), .second, .val (.int p2), .val (.ref o3), .val (.long (x / (100 : Int64))), .second, .val (.int ((((x / (100 : Int64)) * (100 : Int64)) - x).toInt32)), .val (.int (c1 + (-1 : Int32))), .val (.int ng), .unset, .unset] [(.int ((((x / (100 : Int64)) * (100 : Int64)) - x).toInt32)), (.ref d1), (.int (c1 + (-1 : Int32))), (.ref o3)])) t → P t := fun t k => pre2 t (by
      refine XS.iload X2.here hx rfl (hb hby d18_62) rfl ?_
      exact k)
  obtain ⟨clq4, Arq4, qq4, Sq4, Nq4', Hq4, Gq4⟩ := id (hD1.ext OLD0.2)
  have iq4 : ¬ (((((x / (100 : Int64)) * (100 : Int64)) - x).toInt32) < 0 ∨ clq4.slots.size ≤ (((((x / (100 : Int64)) * (100 : Int64)) - x).toInt32)).toNatClampNeg) := inb_of Sq4 (own_r100 (own_x1 I.1).2)
  have pre5 : ∀ t, Steps p.tables e below (T2.setTop (mkF m 65 #[.val (.long (x / (100 : Int64))), .second, .val (.int p2), .val (.ref o3), .val (.long (x / (100 : Int64))), .second, .val (.int ((((x / (100 : Int64)) * (100 : Int64)) - x).toInt32)), .val (.int (c1 + (-1 : Int32))), .val (.int ng), .unset, .unset] [(.int (own_ones.getD (((((x / (100 : Int64)) * (100 : Int64)) - x).toInt32)).toNatClampNeg 0)), (.int (c1 + (-1 : Int32))), (.ref o3)])) t → P t := fun t k => pre3 t (by
      refine X2.baloadBytes hx (j := ((((x / (100 : Int64)) * (100 : Int64)) - x).toInt32)) (v := (.int (own_ones.getD (((((x / (100 : Int64)) * (100 : Int64)) - x).toInt32)).toNatClampNeg 0))) (by rw [e2]; exact Arq4.1) (State.isArrayOf_alike hZ.alike Arq4.2.1) Arq4.2.2 iq4 (Hq4.at iq4 (own_vget _ _)) (g := (mkF m 64 #[.val (.long (x / (100 : Int64))), .second, .val (.int p2), .val (.ref o3), .val (.long (x / (100 : Int64))), .second, .val (.int ((((x / (100 : Int64)) * (100 : Int64)) - x).toInt32)), .val (.int (c1 + (-1 : Int32))), .val (.int ng), .unset, .unset] [(.int ((((x / (100 : Int64)) * (100 : Int64)) - x).toInt32)), (.ref d1), (.int (c1 + (-1 : Int32))), (.ref o3)])) rfl rfl (hb hby d18_64) _ ?_
      exact k)
  obtain ⟨clq6, Arq6, qq6, Sq6, Nq6', Hq6, Gq6⟩ := id V0
  obtain ⟨T7, h7, X7, e7, W7, st7⟩ := stB X2 hx hZ e2 Arq6 (j := (c1 + (-1 : Int32))) (inb_of Sq6 (own_in1 W I.2.1 I.2.2.2.1 (by have := (own_go1 W I hgo).2; omega)).1) (g := (mkF m 65 #[.val (.long (x / (100 : Int64))), .second, .val (.int p2), .val (.ref o3), .val (.long (x / (100 : Int64))), .second, .val (.int ((((x / (100 : Int64)) * (100 : Int64)) - x).toInt32)), .val (.int (c1 + (-1 : Int32))), .val (.int ng), .unset, .unset] [(.int (own_ones.getD (((((x / (100 : Int64)) * (100 : Int64)) - x).toInt32)).toNatClampNeg 0)), (.int (c1 + (-1 : Int32))), (.ref o3)])) rfl rfl (hb hby d18_65)
  have pre7 : ∀ t, Steps p.tables e below (T7.setTop (mkF m 66 #[.val (.long (x / (100 : Int64))), .second, .val (.int p2), .val (.ref o3), .val (.long (x / (100 : Int64))), .second, .val (.int ((((x / (100 : Int64)) * (100 : Int64)) - x).toInt32)), .val (.int (c1 + (-1 : Int32))), .val (.int ng), .unset, .unset] [])) t → P t := fun t k => pre5 t (st7 _ k)
  have V7 : Arv Z h7 o3 kv .byte zv (own_v (D.set ((c1 + (-1 : Int32))).toNatClampNeg (nar .byte (own_ones.getD (((((x / (100 : Int64)) * (100 : Int64)) - x).toInt32)).toNatClampNeg 0)))) (.int 0) := own_vset (Arv.set Arq6 qq6 Sq6 Nq6' Hq6 Gq6 (fits_nar_byte _) W7 _ rfl (own_vlen (own_in1 W I.2.1 I.2.2.2.1 (by have := (own_go1 W I hgo).2; omega)).2))
  have c8 : n0 ≤ h7.size := Nat.le_trans Z0 (Keep.of_wr W7).1
  have c9 : Old Z n0 h7 := OLD0.wr W7 g_o3
  have K10 : Keep h0 h7 [o3] := K0.wr W7 (Or.inl (List.mem_of_getElem? (i := 0) rfl))
  have N7 := Fr.snoc X7 N0 g_o3
  have pre11 : ∀ t, Steps p.tables e below (T7.setTop (mkF m 72 #[.val (.long (x / (100 : Int64))), .second, .val (.int p2), .val (.ref o3), .val (.long (x / (100 : Int64))), .second, .val (.int ((((x / (100 : Int64)) * (100 : Int64)) - x).toInt32)), .val (.int ((c1 + (-1 : Int32)) + (-1 : Int32))), .val (.int ng), .unset, .unset] [(.int ((c1 + (-1 : Int32)) + (-1 : Int32))), (.ref o3)])) t → P t := fun t k => pre7 t (by
      refine XS.aloadN X7.here hx rfl (hb hby d18_66) rfl rfl ?_
      refine XS.iinc X7.here hx rfl (hb hby d18_67) rfl (l' := #[.val (.long (x / (100 : Int64))), .second, .val (.int p2), .val (.ref o3), .val (.long (x / (100 : Int64))), .second, .val (.int ((((x / (100 : Int64)) * (100 : Int64)) - x).toInt32)), .val (.int ((c1 + (-1 : Int32)) + (-1 : Int32))), .val (.int ng), .unset, .unset]) rfl ?_
      refine XS.iload X7.here hx rfl (hb hby d18_70) rfl ?_
      exact k)
  obtain ⟨T12, X12, e12, st12⟩ := getS2 X7 hx hZ hown (host := "") (Or.inl (hi hw 150 rfl)) Via.refl e7 (hS2.ext c9.2) (g := (mkF m 72 #[.val (.long (x / (100 : Int64))), .second, .val (.int p2), .val (.ref o3), .val (.long (x / (100 : Int64))), .second, .val (.int ((((x / (100 : Int64)) * (100 : Int64)) - x).toInt32)), .val (.int ((c1 + (-1 : Int32)) + (-1 : Int32))), .val (.int ng), .unset, .unset] [(.int ((c1 + (-1 : Int32)) + (-1 : Int32))), (.ref o3)])) rfl (hb hby d18_72)
  have pre12 : ∀ t, Steps p.tables e below (T12.setTop (mkF m 75 #[.val (.long (x / (100 : Int64))), .second, .val (.int p2), .val (.ref o3), .val (.long (x / (100 : Int64))), .second, .val (.int ((((x / (100 : Int64)) * (100 : Int64)) - x).toInt32)), .val (.int ((c1 + (-1 : Int32)) + (-1 : Int32))), .val (.int ng), .unset, .unset] [(.ref d2), (.int ((c1 + (-1 : Int32)) + (-1 : Int32))), (.ref o3)])) t → P t := fun t k => pre11 t (st12 _ k)
  have pre13 : ∀ t, Steps p.tables e below (T12.setTop (mkF m 77 #[.val (.long (x / (100 : Int64))), .second, .val (.int p2), .val (.ref o3), .val (.long (x / (100 : Int64))), .second, .val (.int ((((x / (100 : Int64)) * (100 : Int64)) - x).toInt32)), .val (.int ((c1 + (-1 : Int32)) + (-1 : Int32))), .val (.int ng), .unset, .unset] [(.int ((((x / (100 : Int64)) * (100 : Int64)) - x).toInt32)), (.ref d2), (.int ((c1 + (-1 : Int32)) + (-1 : Int32))), (.ref o3)])) t → P t := fun t k => pre12 t (by
      refine XS.iload X12.here hx rfl (hb hby d18_75) rfl ?_
      exact k)
  obtain ⟨clq14, Arq14, qq14, Sq14, Nq14', Hq14, Gq14⟩ := id (hD2.ext c9.2)
  have iq14 : ¬ (((((x / (100 : Int64)) * (100 : Int64)) - x).toInt32) < 0 ∨ clq14.slots.size ≤ (((((x / (100 : Int64)) * (100 : Int64)) - x).toInt32)).toNatClampNeg) := inb_of Sq14 (own_r100 (own_x1 I.1).2)
  have pre15 : ∀ t, Steps p.tables e below (T12.setTop (mkF m 78 #[.val (.long (x / (100 : Int64))), .second, .val (.int p2), .val (.ref o3), .val (.long (x / (100 : Int64))), .second, .val (.int ((((x / (100 : Int64)) * (100 : Int64)) - x).toInt32)), .val (.int ((c1 + (-1 : Int32)) + (-1 : Int32))), .val (.int ng), .unset, .unset] [(.int (own_tens.getD (((((x / (100 : Int64)) * (100 : Int64)) - x).toInt32)).toNatClampNeg 0)), (.int ((c1 + (-1 : Int32)) + (-1 : Int32))), (.ref o3)])) t → P t := fun t k => pre13 t (by
      refine X12.baloadBytes hx (j := ((((x / (100 : Int64)) * (100 : Int64)) - x).toInt32)) (v := (.int (own_tens.getD (((((x / (100 : Int64)) * (100 : Int64)) - x).toInt32)).toNatClampNeg 0))) (by rw [e12]; exact Arq14.1) (State.isArrayOf_alike hZ.alike Arq14.2.1) Arq14.2.2 iq14 (Hq14.at iq14 (own_vget _ _)) (g := (mkF m 77 #[.val (.long (x / (100 : Int64))), .second, .val (.int p2), .val (.ref o3), .val (.long (x / (100 : Int64))), .second, .val (.int ((((x / (100 : Int64)) * (100 : Int64)) - x).toInt32)), .val (.int ((c1 + (-1 : Int32)) + (-1 : Int32))), .val (.int ng), .unset, .unset] [(.int ((((x / (100 : Int64)) * (100 : Int64)) - x).toInt32)), (.ref d2), (.int ((c1 + (-1 : Int32)) + (-1 : Int32))), (.ref o3)])) rfl rfl (hb hby d18_77) _ ?_
      exact k)
  obtain ⟨clq16, Arq16, qq16, Sq16, Nq16', Hq16, Gq16⟩ := id V7
  obtain ⟨T17, h17, X17, e17, W17, st17⟩ := stB X12 hx hZ e12 Arq16 (j := ((c1 + (-1 : Int32)) + (-1 : Int32))) (inb_of Sq16 (own_in2 W I (by have := (own_go1 W I hgo).2; omega) (own_x1 I.1).2).1) (g := (mkF m 78 #[.val (.long (x / (100 : Int64))), .second, .val (.int p2), .val (.ref o3), .val (.long (x / (100 : Int64))), .second, .val (.int ((((x / (100 : Int64)) * (100 : Int64)) - x).toInt32)), .val (.int ((c1 + (-1 : Int32)) + (-1 : Int32))), .val (.int ng), .unset, .unset] [(.int (own_tens.getD (((((x / (100 : Int64)) * (100 : Int64)) - x).toInt32)).toNatClampNeg 0)), (.int ((c1 + (-1 : Int32)) + (-1 : Int32))), (.ref o3)])) rfl rfl (hb hby d18_78)
  have pre17 : ∀ t, Steps p.tables e below (T17.setTop (mkF m 79 #[.val (.long (x / (100 : Int64))), .second, .val (.int p2), .val (.ref o3), .val (.long (x / (100 : Int64))), .second, .val (.int ((((x / (100 : Int64)) * (100 : Int64)) - x).toInt32)), .val (.int ((c1 + (-1 : Int32)) + (-1 : Int32))), .val (.int ng), .unset, .unset] [])) t → P t := fun t k => pre15 t (st17 _ k)
  have V17 : Arv Z h17 o3 kv .byte zv (own_v ((D.set ((c1 + (-1 : Int32))).toNatClampNeg (nar .byte (own_ones.getD (((((x / (100 : Int64)) * (100 : Int64)) - x).toInt32)).toNatClampNeg 0))).set (((c1 + (-1 : Int32)) + (-1 : Int32))).toNatClampNeg (nar .byte (own_tens.getD (((((x / (100 : Int64)) * (100 : Int64)) - x).toInt32)).toNatClampNeg 0)))) (.int 0) := own_vset (Arv.set Arq16 qq16 Sq16 Nq16' Hq16 Gq16 (fits_nar_byte _) W17 _ rfl (own_vlen (own_in2 W I (by have := (own_go1 W I hgo).2; omega) (own_x1 I.1).2).2))
  have c18 : n0 ≤ h17.size := Nat.le_trans c8 (Keep.of_wr W17).1
  have c19 : Old Z n0 h17 := c9.wr W17 g_o3
  have K20 : Keep h0 h17 [o3] := K10.wr W17 (Or.inl (List.mem_of_getElem? (i := 0) rfl))
  have N17 := Fr.snoc X17 N7 g_o3
  have pre21 : ∀ t, Steps p.tables e below (T17.setTop (mkF m 24 #[.val (.long (x / (100 : Int64))), .second, .val (.int p2), .val (.ref o3), .val (.long (x / (100 : Int64))), .second, .val (.int ((((x / (100 : Int64)) * (100 : Int64)) - x).toInt32)), .val (.int ((c1 + (-1 : Int32)) + (-1 : Int32))), .val (.int ng), .unset, .unset] [])) t → P t := fun t k => pre17 t (by
      refine XS.goto X17.here hx rfl (pc0 := 79) (pc' := 24) rfl (hb hby d18_79) (by decide) (by decide) ?_
      exact k)
  exact ⟨_, _, _, _, _, _, _, _, _, X17, e17, N17, K20, c18, c19, V17, Or.inr ⟨_, _, rfl, rfl, rfl⟩, own_I2 W I (own_go1 W I hgo).2 (own_go1 W I hgo).1 (own_x1 I.1).2 (own_x1 I.1).1, pre21⟩
theorem own_x2 {M j : Nat} {x : Int32} (h : x.toInt = -((M / 10 ^ j : Nat) : Int)) : (x / (100 : Int32)).toInt = -((M / 10 ^ (j + 2) : Nat) : Int) ∧ (((x / (100 : Int32)) * (100 : Int32)) - x).toInt = ((M / 10 ^ j % 100 : Nat) : Int) := by
  have e0 : (100 : Int32).toInt = 100 := by decide
  have a1 := c_idiv x 100 100 e0 (by decide)
  have r1 := rng32 x
  have hp : M / 10 ^ (j + 2) = M / 10 ^ j / 100 := by rw [own_ps, own_ps, Nat.div_div_eq_div_mul]
  rw [hp]
  generalize hq : M / 10 ^ j = q at *
  have h1 : (x / (100 : Int32)).toInt = -((q / 100 : Nat) : Int) := by
    by_cases hx : 0 ≤ x.toInt
    · rw [a1.1 hx]; omega
    · rw [a1.2 (by omega)]; omega
  refine ⟨h1, ?_⟩
  have a2 := c_imul (x / (100 : Int32)) 100
  have a3 := c_isub ((x / (100 : Int32)) * (100 : Int32)) x
  have r2 := rng32 ((x / (100 : Int32)) * (100 : Int32))
  have r3 := rng32 (((x / (100 : Int32)) * (100 : Int32)) - x)
  rw [h1, e0] at a2
  generalize (((x / (100 : Int32)) * (100 : Int32)) - x).toInt = y3 at *
  generalize ((x / (100 : Int32)) * (100 : Int32)).toInt = y2 at *
  omega
theorem own_go2 {M j n nd : Nat} {L0 D : List Int32} {zv c : Int32} {x : Int32} (W : own_W M nd n L0 zv) (I : own_I M j n L0 x.toInt c D) (hgo : ¬ (-100 : Int32) < x) : 100 ≤ M / 10 ^ j ∧ j + 2 < n := by
  have e0 : (-100 : Int32).toInt = -100 := by decide
  rw [Int32.lt_iff_toInt_lt, e0] at hgo
  have h1 := I.1
  have h2 : 100 ≤ M / 10 ^ j := by omega
  refine ⟨h2, ?_⟩
  have h3 := own_more (j := j + 1) W.2.2.2.2.1 (by rw [own_ps]; omega)
  have := W.2.2.2.1
  omega
theorem own_fu {M j f : Nat} (h : M / 10 ^ j < 100 ^ (f + 1)) : M / 10 ^ (j + 2) < 100 ^ f := by
  rw [own_ps, own_ps, Nat.div_div_eq_div_mul]
  rw [Nat.pow_succ] at h
  exact Nat.div_lt_of_lt_mul (by rw [Nat.mul_comm]; exact h)
theorem own_ex1 {M j n : Nat} {L0 D : List Int32} {c : Int32} {x : Int64} (I : own_I M j n L0 x.toInt c D) (h : M / 10 ^ j < 100 ^ 0) : (-2147483648 : Int64) < x := by
  have e0 : (-2147483648 : Int64).toInt = -2147483648 := by decide
  rw [Int64.lt_iff_toInt_lt, e0]
  have h1 := I.1
  have h2 : M / 10 ^ j = 0 := by simpa using h
  omega
theorem own_ex2 {M j n : Nat} {L0 D : List Int32} {c : Int32} {x : Int32} (I : own_I M j n L0 x.toInt c D) (h : M / 10 ^ j < 100 ^ 0) : (-100 : Int32) < x := by
  have e0 : (-100 : Int32).toInt = -100 := by decide
  rw [Int32.lt_iff_toInt_lt, e0]
  have h1 := I.1
  have h2 : M / 10 ^ j = 0 := by simpa using h
  omega
theorem own_l18a {p : Program} {l : Launch} {e : Env} {R : Room} {s : State} {m : MethodId} {args : Array Value} {below : List Frame} {meth : Method} {c : Code} {cells slots : Nat} {Z : State} {a0 : Array Value} {P : State → Prop} {o3 : Addr} {kv : ClassId} {zv p2 ng : Int32} {h0 : Heap} {n0 : Nat} {M n nd : Nat} {L0 : List Int32} (hx : p.tables.exec = Jvm.exec) (hby : c.code = jdk_35_method_14_code) (hZ : Z.Warmed39 s.vm) (hw : ∀ d ∈ tables_1, d.before a0 Z = true) (hown : s.vm.findClass "java/lang/Long" = some m.cls) (HC : own_CC Z) (g_o3 : n0 ≤ o3) (W : own_W M nd n L0 zv) : ∀ (f : Nat) {T1 : State} {L1 : List Loc} {h1 : Heap} {x : Int64} {c1 : Int32} {D : List Int32} {s4 s5 s6 : Slot} {j : Nat} (X0 : Stand p l e R s m args below meth c T1 L1 cells slots) (e0 : T1.heap = h1) (N0 : Fr n0 L1) (K0 : Keep h0 h1 [o3]) (Z0 : n0 ≤ h1.size) (OLD0 : Old Z n0 h1) (V0 : Arv Z h1 o3 kv .byte zv (own_v D) (.int 0)) (H3 : own_S3 s4 s5 s6) (I : own_I M j n L0 x.toInt c1 D) (hf : M / 10 ^ j < 100 ^ f) (pre0 : (∀ t, Steps p.tables e below (T1.setTop (mkF m 24 #[.val (.long x), .second, .val (.int p2), .val (.ref o3), s4, s5, s6, .val (.int c1), .val (.int ng), .unset, .unset] [])) t → P t)),
    ∃ (T2 : State) (L2 : List Loc) (h2 : Heap) (x2 : Int64) (c2 : Int32) (D2 : List Int32) (t4 t5 t6 : Slot) (j2 : Nat), Stand p l e R s m args below meth c T2 L2 cells slots ∧ T2.heap = h2 ∧ Fr n0 L2 ∧ Keep h0 h2 [o3] ∧ n0 ≤ h2.size ∧ Old Z n0 h2 ∧ Arv Z h2 o3 kv .byte zv (own_v D2) (.int 0) ∧ (own_S3 t4 t5 t6) ∧ own_I M j2 n L0 x2.toInt c2 D2 ∧ (-2147483648 : Int64) < x2 ∧ (∀ t, Steps p.tables e below (T2.setTop (mkF m 24 #[.val (.long x2), .second, .val (.int p2), .val (.ref o3), t4, t5, t6, .val (.int c2), .val (.int ng), .unset, .unset] [])) t → P t) := by
  intro f
  induction f with
  | zero => intro T1 L1 h1 x c1 D s4 s5 s6 j X0 e0 N0 K0 Z0 OLD0 V0 H3 I hf pre0; exact ⟨_, _, _, _, _, _, _, _, _, _, X0, e0, N0, K0, Z0, OLD0, V0, H3, I, own_ex1 I hf, pre0⟩
  | succ f ih =>
    intro T1 L1 h1 x c1 D s4 s5 s6 j X0 e0 N0 K0 Z0 OLD0 V0 H3 I hf pre0
    by_cases hgo : (-2147483648 : Int64) < x
    · exact ⟨_, _, _, _, _, _, _, _, _, _, X0, e0, N0, K0, Z0, OLD0, V0, H3, I, hgo, pre0⟩
    · obtain ⟨T2, L2, h2, x2, c2, D2, t4, t5, t6, X2, e2, N2, K2, Z2, O2, V2, H2, I2, pre2⟩ := own_t18a hx hby hZ hw hown HC g_o3 W X0 e0 N0 K0 Z0 OLD0 V0 H3 I hgo pre0
      exact ih X2 e2 N2 K2 Z2 O2 V2 H2 I2 (own_fu hf) pre2
theorem d18_86 : decode jdk_35_method_14_code 86 = .ok (.iload 10, 2) := by decide +kernel
theorem d18_88 : decode jdk_35_method_14_code 88 = .ok (.bipush (-100), 2) := by decide +kernel
theorem d18_90 : decode jdk_35_method_14_code 90 = .ok (.if_icmp .gt 53, 3) := by decide +kernel
theorem d18_93 : decode jdk_35_method_14_code 93 = .ok (.iload 10, 2) := by decide +kernel
theorem d18_95 : decode jdk_35_method_14_code 95 = .ok (.bipush 100, 2) := by decide +kernel
theorem d18_97 : decode jdk_35_method_14_code 97 = .ok (.idiv, 1) := by decide +kernel
theorem d18_98 : decode jdk_35_method_14_code 98 = .ok (.istore 9, 2) := by decide +kernel
theorem d18_100 : decode jdk_35_method_14_code 100 = .ok (.iload 9, 2) := by decide +kernel
theorem d18_102 : decode jdk_35_method_14_code 102 = .ok (.bipush 100, 2) := by decide +kernel
theorem d18_104 : decode jdk_35_method_14_code 104 = .ok (.imul, 1) := by decide +kernel
theorem d18_105 : decode jdk_35_method_14_code 105 = .ok (.iload 10, 2) := by decide +kernel
theorem d18_107 : decode jdk_35_method_14_code 107 = .ok (.isub, 1) := by decide +kernel
theorem d18_108 : decode jdk_35_method_14_code 108 = .ok (.istore 6, 2) := by decide +kernel
theorem d18_110 : decode jdk_35_method_14_code 110 = .ok (.iload 9, 2) := by decide +kernel
theorem d18_112 : decode jdk_35_method_14_code 112 = .ok (.istore 10, 2) := by decide +kernel
theorem d18_114 : decode jdk_35_method_14_code 114 = .ok (.aload_n 3, 1) := by decide +kernel
theorem d18_115 : decode jdk_35_method_14_code 115 = .ok (.iinc 7 (-1), 3) := by decide +kernel
theorem d18_118 : decode jdk_35_method_14_code 118 = .ok (.iload 7, 2) := by decide +kernel
theorem d18_120 : decode jdk_35_method_14_code 120 = .ok (.getstatic 133, 3) := by decide +kernel
theorem d18_123 : decode jdk_35_method_14_code 123 = .ok (.iload 6, 2) := by decide +kernel
theorem d18_125 : decode jdk_35_method_14_code 125 = .ok (.baload, 1) := by decide +kernel
theorem d18_126 : decode jdk_35_method_14_code 126 = .ok (.bastore, 1) := by decide +kernel
theorem d18_127 : decode jdk_35_method_14_code 127 = .ok (.aload_n 3, 1) := by decide +kernel
theorem d18_128 : decode jdk_35_method_14_code 128 = .ok (.iinc 7 (-1), 3) := by decide +kernel
theorem d18_131 : decode jdk_35_method_14_code 131 = .ok (.iload 7, 2) := by decide +kernel
theorem d18_133 : decode jdk_35_method_14_code 133 = .ok (.getstatic 137, 3) := by decide +kernel
theorem d18_136 : decode jdk_35_method_14_code 136 = .ok (.iload 6, 2) := by decide +kernel
theorem d18_138 : decode jdk_35_method_14_code 138 = .ok (.baload, 1) := by decide +kernel
theorem d18_139 : decode jdk_35_method_14_code 139 = .ok (.bastore, 1) := by decide +kernel
theorem d18_140 : decode jdk_35_method_14_code 140 = .ok (.goto (-54), 3) := by decide +kernel
theorem os18_98_0 {z0 : Value} {z2 : Value} {z3 : Value} {s4 : Slot} {s5 : Slot} {s6 : Slot} {z7 : Value} {z8 : Value} {s9 : Slot} {z10 : Value} {v : Int32} (h : One s9) : storeLocals #[.val z0, .second, .val z2, .val z3, s4, s5, s6, .val z7, .val z8, s9, .val z10] 9 (.int v) = some #[.val z0, .second, .val z2, .val z3, s4, s5, s6, .val z7, .val z8, .val (.int v), .val z10] := by
  rcases h with rfl | ⟨w, rfl, hw⟩
  · rfl
  · cases w <;> first | rfl | (simp [Value.category] at hw)
theorem os18_108_1 {z0 : Value} {z2 : Value} {z3 : Value} {s4 : Slot} {s5 : Slot} {s6 : Slot} {z7 : Value} {z8 : Value} {z9 : Value} {z10 : Value} {v : Int32} (h : One s6) : storeLocals #[.val z0, .second, .val z2, .val z3, s4, s5, s6, .val z7, .val z8, .val z9, .val z10] 6 (.int v) = some #[.val z0, .second, .val z2, .val z3, s4, s5, .val (.int v), .val z7, .val z8, .val z9, .val z10] := by
  rcases h with rfl | ⟨w, rfl, hw⟩
  · rfl
  · cases w <;> first | rfl | (simp [Value.category] at hw)
set_option maxRecDepth 65536 in
set_option maxHeartbeats 40000000 in
theorem own_t18b {p : Program} {l : Launch} {e : Env} {R : Room} {s : State} {m : MethodId} {args : Array Value} {below : List Frame} {meth : Method} {c : Code} {cells slots : Nat} {Z : State} {a0 : Array Value} {P : State → Prop} {o3 : Addr} {kv : ClassId} {zv p2 ng : Int32} {h0 : Heap} {n0 : Nat} {x0 : Int64} {s4 s5 : Slot} {M n nd : Nat} {L0 : List Int32} (hx : p.tables.exec = Jvm.exec) (hby : c.code = jdk_35_method_14_code) (hZ : Z.Warmed39 s.vm) (hw : ∀ d ∈ tables_1, d.before a0 Z = true) (hown : s.vm.findClass "java/lang/Long" = some m.cls) (HC : own_CC Z) (g_o3 : n0 ≤ o3) (W : own_W M nd n L0 zv) {T1 : State} {L1 : List Loc} {h1 : Heap} {x : Int32} {c1 : Int32} {D : List Int32} {s6 s9 : Slot} {j : Nat} (X0 : Stand p l e R s m args below meth c T1 L1 cells slots) (e0 : T1.heap = h1) (N0 : Fr n0 L1) (K0 : Keep h0 h1 [o3]) (Z0 : n0 ≤ h1.size) (OLD0 : Old Z n0 h1) (V0 : Arv Z h1 o3 kv .byte zv (own_v D) (.int 0)) (H3 : One s6 ∧ One s9) (I : own_I M j n L0 x.toInt c1 D) (hgo : ¬ (-100 : Int32) < x) (pre0 : (∀ t, Steps p.tables e below (T1.setTop (mkF m 86 #[.val (.long x0), .second, .val (.int p2), .val (.ref o3), s4, s5, s6, .val (.int c1), .val (.int ng), s9, .val (.int x)] [])) t → P t)) :
    ∃ (T2 : State) (L2 : List Loc) (h2 : Heap) (x2 : Int32) (c2 : Int32) (D2 : List Int32) (t6 t9 : Slot), Stand p l e R s m args below meth c T2 L2 cells slots ∧ T2.heap = h2 ∧ Fr n0 L2 ∧ Keep h0 h2 [o3] ∧ n0 ≤ h2.size ∧ Old Z n0 h2 ∧ Arv Z h2 o3 kv .byte zv (own_v D2) (.int 0) ∧ (One t6 ∧ One t9) ∧ own_I M (j + 2) n L0 x2.toInt c2 D2 ∧ (∀ t, Steps p.tables e below (T2.setTop (mkF m 86 #[.val (.long x0), .second, .val (.int p2), .val (.ref o3), s4, s5, t6, .val (.int c2), .val (.int ng), t9, .val (.int x2)] [])) t → P t) := by
  obtain ⟨hs6, hs9⟩ := H3
  obtain ⟨cs, fm, d1, d2, k1, k2, hcs, hSc, hSf, hS1, hS2, hD1, hD2, hfm⟩ := id HC
  have pre1 : ∀ t, Steps p.tables e below (T1.setTop (mkF m 120 #[.val (.long x0), .second, .val (.int p2), .val (.ref o3), s4, s5, .val (.int (((x / (100 : Int32)) * (100 : Int32)) - x)), .val (.int (c1 + (-1 : Int32))), .val (.int ng), .val (.int (x / (100 : Int32))), .val (.int (x / (100 : Int32)))] [(.int (c1 + (-1 : Int32))), (.ref o3)])) t → P t := fun t k => pre0 t (by
      refine XS.iload X0.here hx rfl (hb hby d18_86) rfl ?_
      refine XS.bipush X0.here hx rfl (hb hby d18_88) ?_
      refine XS.icmpNo X0.here hx rfl (hb hby d18_90) rfl (flt hgo).2.2.1 ?_
      refine XS.iload X0.here hx rfl (hb hby d18_93) rfl ?_
      refine XS.bipush X0.here hx rfl (hb hby d18_95) ?_
      refine XS.idiv X0.here hx rfl (hb hby d18_97) rfl (by decide) ?_
      refine XS.istore X0.here hx rfl (hb hby d18_98) rfl (l' := #[.val (.long x0), .second, .val (.int p2), .val (.ref o3), s4, s5, s6, .val (.int c1), .val (.int ng), .val (.int (x / (100 : Int32))), .val (.int x)]) (os18_98_0 hs9) ?_
      refine XS.iload X0.here hx rfl (hb hby d18_100) rfl ?_
      refine XS.bipush X0.here hx rfl (hb hby d18_102) ?_
      refine XS.imul X0.here hx rfl (hb hby d18_104) rfl ?_
      refine XS.iload X0.here hx rfl (hb hby d18_105) rfl ?_
      refine XS.isub X0.here hx rfl (hb hby d18_107) rfl ?_
      refine XS.istore X0.here hx rfl (hb hby d18_108) rfl (l' := #[.val (.long x0), .second, .val (.int p2), .val (.ref o3), s4, s5, .val (.int (((x / (100 : Int32)) * (100 : Int32)) - x)), .val (.int c1), .val (.int ng), .val (.int (x / (100 : Int32))), .val (.int x)]) (os18_108_1 hs6) ?_
      refine XS.iload X0.here hx rfl (hb hby d18_110) rfl ?_
      refine XS.istore X0.here hx rfl (hb hby d18_112) rfl (l' := #[.val (.long x0), .second, .val (.int p2), .val (.ref o3), s4, s5, .val (.int (((x / (100 : Int32)) * (100 : Int32)) - x)), .val (.int c1), .val (.int ng), .val (.int (x / (100 : Int32))), .val (.int (x / (100 : Int32)))]) rfl ?_
      refine XS.aloadN X0.here hx rfl (hb hby d18_114) rfl rfl ?_
      refine XS.iinc X0.here hx rfl (hb hby d18_115) rfl (l' := #[.val (.long x0), .second, .val (.int p2), .val (.ref o3), s4, s5, .val (.int (((x / (100 : Int32)) * (100 : Int32)) - x)), .val (.int (c1 + (-1 : Int32))), .val (.int ng), .val (.int (x / (100 : Int32))), .val (.int (x / (100 : Int32)))]) rfl ?_
      refine XS.iload X0.here hx rfl (hb hby d18_118) rfl ?_
      exact k)
  obtain ⟨T2, X2, e2, st2⟩ := getS2 X0 hx hZ hown (host := "") (Or.inl (hi hw 121 rfl)) Via.refl e0 (hS1.ext OLD0.2) (g := (mkF m 120 #[.val (.long x0), .second, .val (.int p2), .val (.ref o3), s4, s5, .val (.int (((x / (100 : Int32)) * (100 : Int32)) - x)), .val (.int (c1 + (-1 : Int32))), .val (.int ng), .val (.int (x / (100 : Int32))), .val (.int (x / (100 : Int32)))] [(.int (c1 + (-1 : Int32))), (.ref o3)])) rfl (hb hby d18_120)
  have pre2 : ∀ t, Steps p.tables e below (T2.setTop (mkF m 123 #[.val (.long x0), .second, .val (.int p2), .val (.ref o3), s4, s5, .val (.int (((x / (100 : Int32)) * (100 : Int32)) - x)), .val (.int (c1 + (-1 : Int32))), .val (.int ng), .val (.int (x / (100 : Int32))), .val (.int (x / (100 : Int32)))] [(.ref d1), (.int (c1 + (-1 : Int32))), (.ref o3)])) t → P t := fun t k => pre1 t (st2 _ k)
  have pre3 : ∀ t, Steps p.tables e below (T2.setTop (mkF m 125 #[.val (.long x0), .second, .val (.int p2), .val (.ref o3), s4, s5, .val (.int (((x / (100 : Int32)) * (100 : Int32)) - x)), .val (.int (c1 + (-1 : Int32))), .val (.int ng), .val (.int (x / (100 : Int32))), .val (.int (x / (100 : Int32)))] [(.int (((x / (100 : Int32)) * (100 : Int32)) - x)), (.ref d1), (.int (c1 + (-1 : Int32))), (.ref o3)])) t → P t := fun t k => pre2 t (by
      refine XS.iload X2.here hx rfl (hb hby d18_123) rfl ?_
      exact k)
  obtain ⟨clq4, Arq4, qq4, Sq4, Nq4', Hq4, Gq4⟩ := id (hD1.ext OLD0.2)
  have iq4 : ¬ ((((x / (100 : Int32)) * (100 : Int32)) - x) < 0 ∨ clq4.slots.size ≤ ((((x / (100 : Int32)) * (100 : Int32)) - x)).toNatClampNeg) := inb_of Sq4 (own_r100 (own_x2 I.1).2)
  have pre5 : ∀ t, Steps p.tables e below (T2.setTop (mkF m 126 #[.val (.long x0), .second, .val (.int p2), .val (.ref o3), s4, s5, .val (.int (((x / (100 : Int32)) * (100 : Int32)) - x)), .val (.int (c1 + (-1 : Int32))), .val (.int ng), .val (.int (x / (100 : Int32))), .val (.int (x / (100 : Int32)))] [(.int (own_ones.getD ((((x / (100 : Int32)) * (100 : Int32)) - x)).toNatClampNeg 0)), (.int (c1 + (-1 : Int32))), (.ref o3)])) t → P t := fun t k => pre3 t (by
      refine X2.baloadBytes hx (j := (((x / (100 : Int32)) * (100 : Int32)) - x)) (v := (.int (own_ones.getD ((((x / (100 : Int32)) * (100 : Int32)) - x)).toNatClampNeg 0))) (by rw [e2]; exact Arq4.1) (State.isArrayOf_alike hZ.alike Arq4.2.1) Arq4.2.2 iq4 (Hq4.at iq4 (own_vget _ _)) (g := (mkF m 125 #[.val (.long x0), .second, .val (.int p2), .val (.ref o3), s4, s5, .val (.int (((x / (100 : Int32)) * (100 : Int32)) - x)), .val (.int (c1 + (-1 : Int32))), .val (.int ng), .val (.int (x / (100 : Int32))), .val (.int (x / (100 : Int32)))] [(.int (((x / (100 : Int32)) * (100 : Int32)) - x)), (.ref d1), (.int (c1 + (-1 : Int32))), (.ref o3)])) rfl rfl (hb hby d18_125) _ ?_
      exact k)
  obtain ⟨clq6, Arq6, qq6, Sq6, Nq6', Hq6, Gq6⟩ := id V0
  obtain ⟨T7, h7, X7, e7, W7, st7⟩ := stB X2 hx hZ e2 Arq6 (j := (c1 + (-1 : Int32))) (inb_of Sq6 (own_in1 W I.2.1 I.2.2.2.1 (by have := (own_go2 W I hgo).2; omega)).1) (g := (mkF m 126 #[.val (.long x0), .second, .val (.int p2), .val (.ref o3), s4, s5, .val (.int (((x / (100 : Int32)) * (100 : Int32)) - x)), .val (.int (c1 + (-1 : Int32))), .val (.int ng), .val (.int (x / (100 : Int32))), .val (.int (x / (100 : Int32)))] [(.int (own_ones.getD ((((x / (100 : Int32)) * (100 : Int32)) - x)).toNatClampNeg 0)), (.int (c1 + (-1 : Int32))), (.ref o3)])) rfl rfl (hb hby d18_126)
  have pre7 : ∀ t, Steps p.tables e below (T7.setTop (mkF m 127 #[.val (.long x0), .second, .val (.int p2), .val (.ref o3), s4, s5, .val (.int (((x / (100 : Int32)) * (100 : Int32)) - x)), .val (.int (c1 + (-1 : Int32))), .val (.int ng), .val (.int (x / (100 : Int32))), .val (.int (x / (100 : Int32)))] [])) t → P t := fun t k => pre5 t (st7 _ k)
  have V7 : Arv Z h7 o3 kv .byte zv (own_v (D.set ((c1 + (-1 : Int32))).toNatClampNeg (nar .byte (own_ones.getD ((((x / (100 : Int32)) * (100 : Int32)) - x)).toNatClampNeg 0)))) (.int 0) := own_vset (Arv.set Arq6 qq6 Sq6 Nq6' Hq6 Gq6 (fits_nar_byte _) W7 _ rfl (own_vlen (own_in1 W I.2.1 I.2.2.2.1 (by have := (own_go2 W I hgo).2; omega)).2))
  have c8 : n0 ≤ h7.size := Nat.le_trans Z0 (Keep.of_wr W7).1
  have c9 : Old Z n0 h7 := OLD0.wr W7 g_o3
  have K10 : Keep h0 h7 [o3] := K0.wr W7 (Or.inl (List.mem_of_getElem? (i := 0) rfl))
  have N7 := Fr.snoc X7 N0 g_o3
  have pre11 : ∀ t, Steps p.tables e below (T7.setTop (mkF m 133 #[.val (.long x0), .second, .val (.int p2), .val (.ref o3), s4, s5, .val (.int (((x / (100 : Int32)) * (100 : Int32)) - x)), .val (.int ((c1 + (-1 : Int32)) + (-1 : Int32))), .val (.int ng), .val (.int (x / (100 : Int32))), .val (.int (x / (100 : Int32)))] [(.int ((c1 + (-1 : Int32)) + (-1 : Int32))), (.ref o3)])) t → P t := fun t k => pre7 t (by
      refine XS.aloadN X7.here hx rfl (hb hby d18_127) rfl rfl ?_
      refine XS.iinc X7.here hx rfl (hb hby d18_128) rfl (l' := #[.val (.long x0), .second, .val (.int p2), .val (.ref o3), s4, s5, .val (.int (((x / (100 : Int32)) * (100 : Int32)) - x)), .val (.int ((c1 + (-1 : Int32)) + (-1 : Int32))), .val (.int ng), .val (.int (x / (100 : Int32))), .val (.int (x / (100 : Int32)))]) rfl ?_
      refine XS.iload X7.here hx rfl (hb hby d18_131) rfl ?_
      exact k)
  obtain ⟨T12, X12, e12, st12⟩ := getS2 X7 hx hZ hown (host := "") (Or.inl (hi hw 150 rfl)) Via.refl e7 (hS2.ext c9.2) (g := (mkF m 133 #[.val (.long x0), .second, .val (.int p2), .val (.ref o3), s4, s5, .val (.int (((x / (100 : Int32)) * (100 : Int32)) - x)), .val (.int ((c1 + (-1 : Int32)) + (-1 : Int32))), .val (.int ng), .val (.int (x / (100 : Int32))), .val (.int (x / (100 : Int32)))] [(.int ((c1 + (-1 : Int32)) + (-1 : Int32))), (.ref o3)])) rfl (hb hby d18_133)
  have pre12 : ∀ t, Steps p.tables e below (T12.setTop (mkF m 136 #[.val (.long x0), .second, .val (.int p2), .val (.ref o3), s4, s5, .val (.int (((x / (100 : Int32)) * (100 : Int32)) - x)), .val (.int ((c1 + (-1 : Int32)) + (-1 : Int32))), .val (.int ng), .val (.int (x / (100 : Int32))), .val (.int (x / (100 : Int32)))] [(.ref d2), (.int ((c1 + (-1 : Int32)) + (-1 : Int32))), (.ref o3)])) t → P t := fun t k => pre11 t (st12 _ k)
  have pre13 : ∀ t, Steps p.tables e below (T12.setTop (mkF m 138 #[.val (.long x0), .second, .val (.int p2), .val (.ref o3), s4, s5, .val (.int (((x / (100 : Int32)) * (100 : Int32)) - x)), .val (.int ((c1 + (-1 : Int32)) + (-1 : Int32))), .val (.int ng), .val (.int (x / (100 : Int32))), .val (.int (x / (100 : Int32)))] [(.int (((x / (100 : Int32)) * (100 : Int32)) - x)), (.ref d2), (.int ((c1 + (-1 : Int32)) + (-1 : Int32))), (.ref o3)])) t → P t := fun t k => pre12 t (by
      refine XS.iload X12.here hx rfl (hb hby d18_136) rfl ?_
      exact k)
  obtain ⟨clq14, Arq14, qq14, Sq14, Nq14', Hq14, Gq14⟩ := id (hD2.ext c9.2)
  have iq14 : ¬ ((((x / (100 : Int32)) * (100 : Int32)) - x) < 0 ∨ clq14.slots.size ≤ ((((x / (100 : Int32)) * (100 : Int32)) - x)).toNatClampNeg) := inb_of Sq14 (own_r100 (own_x2 I.1).2)
  have pre15 : ∀ t, Steps p.tables e below (T12.setTop (mkF m 139 #[.val (.long x0), .second, .val (.int p2), .val (.ref o3), s4, s5, .val (.int (((x / (100 : Int32)) * (100 : Int32)) - x)), .val (.int ((c1 + (-1 : Int32)) + (-1 : Int32))), .val (.int ng), .val (.int (x / (100 : Int32))), .val (.int (x / (100 : Int32)))] [(.int (own_tens.getD ((((x / (100 : Int32)) * (100 : Int32)) - x)).toNatClampNeg 0)), (.int ((c1 + (-1 : Int32)) + (-1 : Int32))), (.ref o3)])) t → P t := fun t k => pre13 t (by
      refine X12.baloadBytes hx (j := (((x / (100 : Int32)) * (100 : Int32)) - x)) (v := (.int (own_tens.getD ((((x / (100 : Int32)) * (100 : Int32)) - x)).toNatClampNeg 0))) (by rw [e12]; exact Arq14.1) (State.isArrayOf_alike hZ.alike Arq14.2.1) Arq14.2.2 iq14 (Hq14.at iq14 (own_vget _ _)) (g := (mkF m 138 #[.val (.long x0), .second, .val (.int p2), .val (.ref o3), s4, s5, .val (.int (((x / (100 : Int32)) * (100 : Int32)) - x)), .val (.int ((c1 + (-1 : Int32)) + (-1 : Int32))), .val (.int ng), .val (.int (x / (100 : Int32))), .val (.int (x / (100 : Int32)))] [(.int (((x / (100 : Int32)) * (100 : Int32)) - x)), (.ref d2), (.int ((c1 + (-1 : Int32)) + (-1 : Int32))), (.ref o3)])) rfl rfl (hb hby d18_138) _ ?_
      exact k)
  obtain ⟨clq16, Arq16, qq16, Sq16, Nq16', Hq16, Gq16⟩ := id V7
  obtain ⟨T17, h17, X17, e17, W17, st17⟩ := stB X12 hx hZ e12 Arq16 (j := ((c1 + (-1 : Int32)) + (-1 : Int32))) (inb_of Sq16 (own_in2 W I (by have := (own_go2 W I hgo).2; omega) (own_x2 I.1).2).1) (g := (mkF m 139 #[.val (.long x0), .second, .val (.int p2), .val (.ref o3), s4, s5, .val (.int (((x / (100 : Int32)) * (100 : Int32)) - x)), .val (.int ((c1 + (-1 : Int32)) + (-1 : Int32))), .val (.int ng), .val (.int (x / (100 : Int32))), .val (.int (x / (100 : Int32)))] [(.int (own_tens.getD ((((x / (100 : Int32)) * (100 : Int32)) - x)).toNatClampNeg 0)), (.int ((c1 + (-1 : Int32)) + (-1 : Int32))), (.ref o3)])) rfl rfl (hb hby d18_139)
  have pre17 : ∀ t, Steps p.tables e below (T17.setTop (mkF m 140 #[.val (.long x0), .second, .val (.int p2), .val (.ref o3), s4, s5, .val (.int (((x / (100 : Int32)) * (100 : Int32)) - x)), .val (.int ((c1 + (-1 : Int32)) + (-1 : Int32))), .val (.int ng), .val (.int (x / (100 : Int32))), .val (.int (x / (100 : Int32)))] [])) t → P t := fun t k => pre15 t (st17 _ k)
  have V17 : Arv Z h17 o3 kv .byte zv (own_v ((D.set ((c1 + (-1 : Int32))).toNatClampNeg (nar .byte (own_ones.getD ((((x / (100 : Int32)) * (100 : Int32)) - x)).toNatClampNeg 0))).set (((c1 + (-1 : Int32)) + (-1 : Int32))).toNatClampNeg (nar .byte (own_tens.getD ((((x / (100 : Int32)) * (100 : Int32)) - x)).toNatClampNeg 0)))) (.int 0) := own_vset (Arv.set Arq16 qq16 Sq16 Nq16' Hq16 Gq16 (fits_nar_byte _) W17 _ rfl (own_vlen (own_in2 W I (by have := (own_go2 W I hgo).2; omega) (own_x2 I.1).2).2))
  have c18 : n0 ≤ h17.size := Nat.le_trans c8 (Keep.of_wr W17).1
  have c19 : Old Z n0 h17 := c9.wr W17 g_o3
  have K20 : Keep h0 h17 [o3] := K10.wr W17 (Or.inl (List.mem_of_getElem? (i := 0) rfl))
  have N17 := Fr.snoc X17 N7 g_o3
  have pre21 : ∀ t, Steps p.tables e below (T17.setTop (mkF m 86 #[.val (.long x0), .second, .val (.int p2), .val (.ref o3), s4, s5, .val (.int (((x / (100 : Int32)) * (100 : Int32)) - x)), .val (.int ((c1 + (-1 : Int32)) + (-1 : Int32))), .val (.int ng), .val (.int (x / (100 : Int32))), .val (.int (x / (100 : Int32)))] [])) t → P t := fun t k => pre17 t (by
      refine XS.goto X17.here hx rfl (pc0 := 140) (pc' := 86) rfl (hb hby d18_140) (by decide) (by decide) ?_
      exact k)
  exact ⟨_, _, _, _, _, _, _, _, X17, e17, N17, K20, c18, c19, V17, ⟨One.val rfl, One.val rfl⟩, own_I2 W I (own_go2 W I hgo).2 (own_go2 W I hgo).1 (own_x2 I.1).2 (own_x2 I.1).1, pre21⟩
theorem own_l18b {p : Program} {l : Launch} {e : Env} {R : Room} {s : State} {m : MethodId} {args : Array Value} {below : List Frame} {meth : Method} {c : Code} {cells slots : Nat} {Z : State} {a0 : Array Value} {P : State → Prop} {o3 : Addr} {kv : ClassId} {zv p2 ng : Int32} {h0 : Heap} {n0 : Nat} {x0 : Int64} {s4 s5 : Slot} {M n nd : Nat} {L0 : List Int32} (hx : p.tables.exec = Jvm.exec) (hby : c.code = jdk_35_method_14_code) (hZ : Z.Warmed39 s.vm) (hw : ∀ d ∈ tables_1, d.before a0 Z = true) (hown : s.vm.findClass "java/lang/Long" = some m.cls) (HC : own_CC Z) (g_o3 : n0 ≤ o3) (W : own_W M nd n L0 zv) : ∀ (f : Nat) {T1 : State} {L1 : List Loc} {h1 : Heap} {x : Int32} {c1 : Int32} {D : List Int32} {s6 s9 : Slot} {j : Nat} (X0 : Stand p l e R s m args below meth c T1 L1 cells slots) (e0 : T1.heap = h1) (N0 : Fr n0 L1) (K0 : Keep h0 h1 [o3]) (Z0 : n0 ≤ h1.size) (OLD0 : Old Z n0 h1) (V0 : Arv Z h1 o3 kv .byte zv (own_v D) (.int 0)) (H3 : One s6 ∧ One s9) (I : own_I M j n L0 x.toInt c1 D) (hf : M / 10 ^ j < 100 ^ f) (pre0 : (∀ t, Steps p.tables e below (T1.setTop (mkF m 86 #[.val (.long x0), .second, .val (.int p2), .val (.ref o3), s4, s5, s6, .val (.int c1), .val (.int ng), s9, .val (.int x)] [])) t → P t)),
    ∃ (T2 : State) (L2 : List Loc) (h2 : Heap) (x2 : Int32) (c2 : Int32) (D2 : List Int32) (t6 t9 : Slot) (j2 : Nat), Stand p l e R s m args below meth c T2 L2 cells slots ∧ T2.heap = h2 ∧ Fr n0 L2 ∧ Keep h0 h2 [o3] ∧ n0 ≤ h2.size ∧ Old Z n0 h2 ∧ Arv Z h2 o3 kv .byte zv (own_v D2) (.int 0) ∧ (One t6 ∧ One t9) ∧ own_I M j2 n L0 x2.toInt c2 D2 ∧ (-100 : Int32) < x2 ∧ (∀ t, Steps p.tables e below (T2.setTop (mkF m 86 #[.val (.long x0), .second, .val (.int p2), .val (.ref o3), s4, s5, t6, .val (.int c2), .val (.int ng), t9, .val (.int x2)] [])) t → P t) := by
  intro f
  induction f with
  | zero => intro T1 L1 h1 x c1 D s6 s9 j X0 e0 N0 K0 Z0 OLD0 V0 H3 I hf pre0; exact ⟨_, _, _, _, _, _, _, _, _, X0, e0, N0, K0, Z0, OLD0, V0, H3, I, own_ex2 I hf, pre0⟩
  | succ f ih =>
    intro T1 L1 h1 x c1 D s6 s9 j X0 e0 N0 K0 Z0 OLD0 V0 H3 I hf pre0
    by_cases hgo : (-100 : Int32) < x
    · exact ⟨_, _, _, _, _, _, _, _, _, X0, e0, N0, K0, Z0, OLD0, V0, H3, I, hgo, pre0⟩
    · obtain ⟨T2, L2, h2, x2, c2, D2, t6, t9, X2, e2, N2, K2, Z2, O2, V2, H2, I2, pre2⟩ := own_t18b hx hby hZ hw hown HC g_o3 W X0 e0 N0 K0 Z0 OLD0 V0 H3 I hgo pre0
      exact ih X2 e2 N2 K2 Z2 O2 V2 H2 I2 (own_fu hf) pre2
def own_nd (M : Nat) : Nat := (if M < 10 then 1 else (if M < 100 then 2 else (if M < 1000 then 3 else (if M < 10000 then 4 else (if M < 100000 then 5 else (if M < 1000000 then 6 else (if M < 10000000 then 7 else (if M < 100000000 then 8 else (if M < 1000000000 then 9 else (if M < 10000000000 then 10 else (if M < 100000000000 then 11 else (if M < 1000000000000 then 12 else (if M < 10000000000000 then 13 else (if M < 100000000000000 then 14 else (if M < 1000000000000000 then 15 else (if M < 10000000000000000 then 16 else (if M < 100000000000000000 then 17 else (if M < 1000000000000000000 then 18 else 19))))))))))))))))))
def own_sm (M : Nat) : Nat := ((((((((((((((((((1 + (if M < 10 then 0 else 1)) + (if M < 100 then 0 else 1)) + (if M < 1000 then 0 else 1)) + (if M < 10000 then 0 else 1)) + (if M < 100000 then 0 else 1)) + (if M < 1000000 then 0 else 1)) + (if M < 10000000 then 0 else 1)) + (if M < 100000000 then 0 else 1)) + (if M < 1000000000 then 0 else 1)) + (if M < 10000000000 then 0 else 1)) + (if M < 100000000000 then 0 else 1)) + (if M < 1000000000000 then 0 else 1)) + (if M < 10000000000000 then 0 else 1)) + (if M < 100000000000000 then 0 else 1)) + (if M < 1000000000000000 then 0 else 1)) + (if M < 10000000000000000 then 0 else 1)) + (if M < 100000000000000000 then 0 else 1)) + (if M < 1000000000000000000 then 0 else 1))
theorem own_ndW (M : Nat) (h : M ≤ 9223372036854775808) : M < 10 ^ own_nd M ∧ (M = 0 → own_nd M = 1) ∧ (M ≠ 0 → 10 ^ (own_nd M - 1) ≤ M) ∧ 1 ≤ own_nd M ∧ own_nd M ≤ 19 := by
  unfold own_nd
  by_cases h1 : M < 10
  · rw [if_pos h1]; exact ⟨by omega, by omega, by omega, by omega, by omega⟩
  by_cases h2 : M < 100
  · rw [if_neg h1, if_pos h2]; exact ⟨by omega, by omega, by omega, by omega, by omega⟩
  by_cases h3 : M < 1000
  · rw [if_neg h1, if_neg h2, if_pos h3]; exact ⟨by omega, by omega, by omega, by omega, by omega⟩
  by_cases h4 : M < 10000
  · rw [if_neg h1, if_neg h2, if_neg h3, if_pos h4]; exact ⟨by omega, by omega, by omega, by omega, by omega⟩
  by_cases h5 : M < 100000
  · rw [if_neg h1, if_neg h2, if_neg h3, if_neg h4, if_pos h5]; exact ⟨by omega, by omega, by omega, by omega, by omega⟩
  by_cases h6 : M < 1000000
  · rw [if_neg h1, if_neg h2, if_neg h3, if_neg h4, if_neg h5, if_pos h6]; exact ⟨by omega, by omega, by omega, by omega, by omega⟩
  by_cases h7 : M < 10000000
  · rw [if_neg h1, if_neg h2, if_neg h3, if_neg h4, if_neg h5, if_neg h6, if_pos h7]; exact ⟨by omega, by omega, by omega, by omega, by omega⟩
  by_cases h8 : M < 100000000
  · rw [if_neg h1, if_neg h2, if_neg h3, if_neg h4, if_neg h5, if_neg h6, if_neg h7, if_pos h8]; exact ⟨by omega, by omega, by omega, by omega, by omega⟩
  by_cases h9 : M < 1000000000
  · rw [if_neg h1, if_neg h2, if_neg h3, if_neg h4, if_neg h5, if_neg h6, if_neg h7, if_neg h8, if_pos h9]; exact ⟨by omega, by omega, by omega, by omega, by omega⟩
  by_cases h10 : M < 10000000000
  · rw [if_neg h1, if_neg h2, if_neg h3, if_neg h4, if_neg h5, if_neg h6, if_neg h7, if_neg h8, if_neg h9, if_pos h10]; exact ⟨by omega, by omega, by omega, by omega, by omega⟩
  by_cases h11 : M < 100000000000
  · rw [if_neg h1, if_neg h2, if_neg h3, if_neg h4, if_neg h5, if_neg h6, if_neg h7, if_neg h8, if_neg h9, if_neg h10, if_pos h11]; exact ⟨by omega, by omega, by omega, by omega, by omega⟩
  by_cases h12 : M < 1000000000000
  · rw [if_neg h1, if_neg h2, if_neg h3, if_neg h4, if_neg h5, if_neg h6, if_neg h7, if_neg h8, if_neg h9, if_neg h10, if_neg h11, if_pos h12]; exact ⟨by omega, by omega, by omega, by omega, by omega⟩
  by_cases h13 : M < 10000000000000
  · rw [if_neg h1, if_neg h2, if_neg h3, if_neg h4, if_neg h5, if_neg h6, if_neg h7, if_neg h8, if_neg h9, if_neg h10, if_neg h11, if_neg h12, if_pos h13]; exact ⟨by omega, by omega, by omega, by omega, by omega⟩
  by_cases h14 : M < 100000000000000
  · rw [if_neg h1, if_neg h2, if_neg h3, if_neg h4, if_neg h5, if_neg h6, if_neg h7, if_neg h8, if_neg h9, if_neg h10, if_neg h11, if_neg h12, if_neg h13, if_pos h14]; exact ⟨by omega, by omega, by omega, by omega, by omega⟩
  by_cases h15 : M < 1000000000000000
  · rw [if_neg h1, if_neg h2, if_neg h3, if_neg h4, if_neg h5, if_neg h6, if_neg h7, if_neg h8, if_neg h9, if_neg h10, if_neg h11, if_neg h12, if_neg h13, if_neg h14, if_pos h15]; exact ⟨by omega, by omega, by omega, by omega, by omega⟩
  by_cases h16 : M < 10000000000000000
  · rw [if_neg h1, if_neg h2, if_neg h3, if_neg h4, if_neg h5, if_neg h6, if_neg h7, if_neg h8, if_neg h9, if_neg h10, if_neg h11, if_neg h12, if_neg h13, if_neg h14, if_neg h15, if_pos h16]; exact ⟨by omega, by omega, by omega, by omega, by omega⟩
  by_cases h17 : M < 100000000000000000
  · rw [if_neg h1, if_neg h2, if_neg h3, if_neg h4, if_neg h5, if_neg h6, if_neg h7, if_neg h8, if_neg h9, if_neg h10, if_neg h11, if_neg h12, if_neg h13, if_neg h14, if_neg h15, if_neg h16, if_pos h17]; exact ⟨by omega, by omega, by omega, by omega, by omega⟩
  by_cases h18 : M < 1000000000000000000
  · rw [if_neg h1, if_neg h2, if_neg h3, if_neg h4, if_neg h5, if_neg h6, if_neg h7, if_neg h8, if_neg h9, if_neg h10, if_neg h11, if_neg h12, if_neg h13, if_neg h14, if_neg h15, if_neg h16, if_neg h17, if_pos h18]; exact ⟨by omega, by omega, by omega, by omega, by omega⟩
  rw [if_neg h1, if_neg h2, if_neg h3, if_neg h4, if_neg h5, if_neg h6, if_neg h7, if_neg h8, if_neg h9, if_neg h10, if_neg h11, if_neg h12, if_neg h13, if_neg h14, if_neg h15, if_neg h16, if_neg h17, if_neg h18]; exact ⟨by omega, by omega, by omega, by omega, by omega⟩
theorem own_ndS (M : Nat) : own_sm M = own_nd M := by
  unfold own_nd own_sm
  by_cases h1 : M < 10
  · simp only [if_pos h1, if_pos (show M < 100 from by omega), if_pos (show M < 1000 from by omega), if_pos (show M < 10000 from by omega), if_pos (show M < 100000 from by omega), if_pos (show M < 1000000 from by omega), if_pos (show M < 10000000 from by omega), if_pos (show M < 100000000 from by omega), if_pos (show M < 1000000000 from by omega), if_pos (show M < 10000000000 from by omega), if_pos (show M < 100000000000 from by omega), if_pos (show M < 1000000000000 from by omega), if_pos (show M < 10000000000000 from by omega), if_pos (show M < 100000000000000 from by omega), if_pos (show M < 1000000000000000 from by omega), if_pos (show M < 10000000000000000 from by omega), if_pos (show M < 100000000000000000 from by omega), if_pos (show M < 1000000000000000000 from by omega)]
  by_cases h2 : M < 100
  · simp only [if_neg h1, if_pos h2, if_pos (show M < 1000 from by omega), if_pos (show M < 10000 from by omega), if_pos (show M < 100000 from by omega), if_pos (show M < 1000000 from by omega), if_pos (show M < 10000000 from by omega), if_pos (show M < 100000000 from by omega), if_pos (show M < 1000000000 from by omega), if_pos (show M < 10000000000 from by omega), if_pos (show M < 100000000000 from by omega), if_pos (show M < 1000000000000 from by omega), if_pos (show M < 10000000000000 from by omega), if_pos (show M < 100000000000000 from by omega), if_pos (show M < 1000000000000000 from by omega), if_pos (show M < 10000000000000000 from by omega), if_pos (show M < 100000000000000000 from by omega), if_pos (show M < 1000000000000000000 from by omega)]
  by_cases h3 : M < 1000
  · simp only [if_neg h1, if_neg h2, if_pos h3, if_pos (show M < 10000 from by omega), if_pos (show M < 100000 from by omega), if_pos (show M < 1000000 from by omega), if_pos (show M < 10000000 from by omega), if_pos (show M < 100000000 from by omega), if_pos (show M < 1000000000 from by omega), if_pos (show M < 10000000000 from by omega), if_pos (show M < 100000000000 from by omega), if_pos (show M < 1000000000000 from by omega), if_pos (show M < 10000000000000 from by omega), if_pos (show M < 100000000000000 from by omega), if_pos (show M < 1000000000000000 from by omega), if_pos (show M < 10000000000000000 from by omega), if_pos (show M < 100000000000000000 from by omega), if_pos (show M < 1000000000000000000 from by omega)]
  by_cases h4 : M < 10000
  · simp only [if_neg h1, if_neg h2, if_neg h3, if_pos h4, if_pos (show M < 100000 from by omega), if_pos (show M < 1000000 from by omega), if_pos (show M < 10000000 from by omega), if_pos (show M < 100000000 from by omega), if_pos (show M < 1000000000 from by omega), if_pos (show M < 10000000000 from by omega), if_pos (show M < 100000000000 from by omega), if_pos (show M < 1000000000000 from by omega), if_pos (show M < 10000000000000 from by omega), if_pos (show M < 100000000000000 from by omega), if_pos (show M < 1000000000000000 from by omega), if_pos (show M < 10000000000000000 from by omega), if_pos (show M < 100000000000000000 from by omega), if_pos (show M < 1000000000000000000 from by omega)]
  by_cases h5 : M < 100000
  · simp only [if_neg h1, if_neg h2, if_neg h3, if_neg h4, if_pos h5, if_pos (show M < 1000000 from by omega), if_pos (show M < 10000000 from by omega), if_pos (show M < 100000000 from by omega), if_pos (show M < 1000000000 from by omega), if_pos (show M < 10000000000 from by omega), if_pos (show M < 100000000000 from by omega), if_pos (show M < 1000000000000 from by omega), if_pos (show M < 10000000000000 from by omega), if_pos (show M < 100000000000000 from by omega), if_pos (show M < 1000000000000000 from by omega), if_pos (show M < 10000000000000000 from by omega), if_pos (show M < 100000000000000000 from by omega), if_pos (show M < 1000000000000000000 from by omega)]
  by_cases h6 : M < 1000000
  · simp only [if_neg h1, if_neg h2, if_neg h3, if_neg h4, if_neg h5, if_pos h6, if_pos (show M < 10000000 from by omega), if_pos (show M < 100000000 from by omega), if_pos (show M < 1000000000 from by omega), if_pos (show M < 10000000000 from by omega), if_pos (show M < 100000000000 from by omega), if_pos (show M < 1000000000000 from by omega), if_pos (show M < 10000000000000 from by omega), if_pos (show M < 100000000000000 from by omega), if_pos (show M < 1000000000000000 from by omega), if_pos (show M < 10000000000000000 from by omega), if_pos (show M < 100000000000000000 from by omega), if_pos (show M < 1000000000000000000 from by omega)]
  by_cases h7 : M < 10000000
  · simp only [if_neg h1, if_neg h2, if_neg h3, if_neg h4, if_neg h5, if_neg h6, if_pos h7, if_pos (show M < 100000000 from by omega), if_pos (show M < 1000000000 from by omega), if_pos (show M < 10000000000 from by omega), if_pos (show M < 100000000000 from by omega), if_pos (show M < 1000000000000 from by omega), if_pos (show M < 10000000000000 from by omega), if_pos (show M < 100000000000000 from by omega), if_pos (show M < 1000000000000000 from by omega), if_pos (show M < 10000000000000000 from by omega), if_pos (show M < 100000000000000000 from by omega), if_pos (show M < 1000000000000000000 from by omega)]
  by_cases h8 : M < 100000000
  · simp only [if_neg h1, if_neg h2, if_neg h3, if_neg h4, if_neg h5, if_neg h6, if_neg h7, if_pos h8, if_pos (show M < 1000000000 from by omega), if_pos (show M < 10000000000 from by omega), if_pos (show M < 100000000000 from by omega), if_pos (show M < 1000000000000 from by omega), if_pos (show M < 10000000000000 from by omega), if_pos (show M < 100000000000000 from by omega), if_pos (show M < 1000000000000000 from by omega), if_pos (show M < 10000000000000000 from by omega), if_pos (show M < 100000000000000000 from by omega), if_pos (show M < 1000000000000000000 from by omega)]
  by_cases h9 : M < 1000000000
  · simp only [if_neg h1, if_neg h2, if_neg h3, if_neg h4, if_neg h5, if_neg h6, if_neg h7, if_neg h8, if_pos h9, if_pos (show M < 10000000000 from by omega), if_pos (show M < 100000000000 from by omega), if_pos (show M < 1000000000000 from by omega), if_pos (show M < 10000000000000 from by omega), if_pos (show M < 100000000000000 from by omega), if_pos (show M < 1000000000000000 from by omega), if_pos (show M < 10000000000000000 from by omega), if_pos (show M < 100000000000000000 from by omega), if_pos (show M < 1000000000000000000 from by omega)]
  by_cases h10 : M < 10000000000
  · simp only [if_neg h1, if_neg h2, if_neg h3, if_neg h4, if_neg h5, if_neg h6, if_neg h7, if_neg h8, if_neg h9, if_pos h10, if_pos (show M < 100000000000 from by omega), if_pos (show M < 1000000000000 from by omega), if_pos (show M < 10000000000000 from by omega), if_pos (show M < 100000000000000 from by omega), if_pos (show M < 1000000000000000 from by omega), if_pos (show M < 10000000000000000 from by omega), if_pos (show M < 100000000000000000 from by omega), if_pos (show M < 1000000000000000000 from by omega)]
  by_cases h11 : M < 100000000000
  · simp only [if_neg h1, if_neg h2, if_neg h3, if_neg h4, if_neg h5, if_neg h6, if_neg h7, if_neg h8, if_neg h9, if_neg h10, if_pos h11, if_pos (show M < 1000000000000 from by omega), if_pos (show M < 10000000000000 from by omega), if_pos (show M < 100000000000000 from by omega), if_pos (show M < 1000000000000000 from by omega), if_pos (show M < 10000000000000000 from by omega), if_pos (show M < 100000000000000000 from by omega), if_pos (show M < 1000000000000000000 from by omega)]
  by_cases h12 : M < 1000000000000
  · simp only [if_neg h1, if_neg h2, if_neg h3, if_neg h4, if_neg h5, if_neg h6, if_neg h7, if_neg h8, if_neg h9, if_neg h10, if_neg h11, if_pos h12, if_pos (show M < 10000000000000 from by omega), if_pos (show M < 100000000000000 from by omega), if_pos (show M < 1000000000000000 from by omega), if_pos (show M < 10000000000000000 from by omega), if_pos (show M < 100000000000000000 from by omega), if_pos (show M < 1000000000000000000 from by omega)]
  by_cases h13 : M < 10000000000000
  · simp only [if_neg h1, if_neg h2, if_neg h3, if_neg h4, if_neg h5, if_neg h6, if_neg h7, if_neg h8, if_neg h9, if_neg h10, if_neg h11, if_neg h12, if_pos h13, if_pos (show M < 100000000000000 from by omega), if_pos (show M < 1000000000000000 from by omega), if_pos (show M < 10000000000000000 from by omega), if_pos (show M < 100000000000000000 from by omega), if_pos (show M < 1000000000000000000 from by omega)]
  by_cases h14 : M < 100000000000000
  · simp only [if_neg h1, if_neg h2, if_neg h3, if_neg h4, if_neg h5, if_neg h6, if_neg h7, if_neg h8, if_neg h9, if_neg h10, if_neg h11, if_neg h12, if_neg h13, if_pos h14, if_pos (show M < 1000000000000000 from by omega), if_pos (show M < 10000000000000000 from by omega), if_pos (show M < 100000000000000000 from by omega), if_pos (show M < 1000000000000000000 from by omega)]
  by_cases h15 : M < 1000000000000000
  · simp only [if_neg h1, if_neg h2, if_neg h3, if_neg h4, if_neg h5, if_neg h6, if_neg h7, if_neg h8, if_neg h9, if_neg h10, if_neg h11, if_neg h12, if_neg h13, if_neg h14, if_pos h15, if_pos (show M < 10000000000000000 from by omega), if_pos (show M < 100000000000000000 from by omega), if_pos (show M < 1000000000000000000 from by omega)]
  by_cases h16 : M < 10000000000000000
  · simp only [if_neg h1, if_neg h2, if_neg h3, if_neg h4, if_neg h5, if_neg h6, if_neg h7, if_neg h8, if_neg h9, if_neg h10, if_neg h11, if_neg h12, if_neg h13, if_neg h14, if_neg h15, if_pos h16, if_pos (show M < 100000000000000000 from by omega), if_pos (show M < 1000000000000000000 from by omega)]
  by_cases h17 : M < 100000000000000000
  · simp only [if_neg h1, if_neg h2, if_neg h3, if_neg h4, if_neg h5, if_neg h6, if_neg h7, if_neg h8, if_neg h9, if_neg h10, if_neg h11, if_neg h12, if_neg h13, if_neg h14, if_neg h15, if_neg h16, if_pos h17, if_pos (show M < 1000000000000000000 from by omega)]
  by_cases h18 : M < 1000000000000000000
  · simp only [if_neg h1, if_neg h2, if_neg h3, if_neg h4, if_neg h5, if_neg h6, if_neg h7, if_neg h8, if_neg h9, if_neg h10, if_neg h11, if_neg h12, if_neg h13, if_neg h14, if_neg h15, if_neg h16, if_neg h17, if_pos h18]
  simp only [if_neg h1, if_neg h2, if_neg h3, if_neg h4, if_neg h5, if_neg h6, if_neg h7, if_neg h8, if_neg h9, if_neg h10, if_neg h11, if_neg h12, if_neg h13, if_neg h14, if_neg h15, if_neg h16, if_neg h17, if_neg h18]
theorem own_ite {c c' : Prop} [Decidable c] [Decidable c'] (hc : c ↔ c') {a b : Int32} {x y : Nat} {d : Int} (h1 : a.toInt = (x : Int) + d) (h2 : b.toInt = (y : Int) + d) : (if c then a else b).toInt = ((if c' then x else y : Nat) : Int) + d := by
  by_cases h : c
  · rw [if_pos h, if_pos (hc.mp h)]; exact h1
  · rw [if_neg h, if_neg (fun q => h (hc.mpr q))]; exact h2
theorem own_ltM {K v : Int64} {M : Nat} (k : Nat) (hK : K.toInt = -(k : Int)) (hv : v.toInt = -(M : Int)) : K < v ↔ M < k := by
  rw [Int64.lt_iff_toInt_lt, hK, hv]; omega
theorem own_kd {w : Int32} {d : Int} (k : Nat) (K : Int32) (hK : K.toInt = (k : Int)) (hk : k ≤ 19) (h : w.toInt = d) (hd : 0 ≤ d ∧ d ≤ 1) : (K + w).toInt = (k : Int) + d := by
  have a1 := c_iadd K w
  have r1 := rng32 (K + w)
  rw [hK, h] at a1
  omega
theorem own_f16n {v : Int64} {w : Int32} {M : Nat} {d : Int} (hv : v.toInt = -(M : Int)) (hw : w.toInt = d) (hd : 0 ≤ d ∧ d ≤ 1) : (if (-10 : Int64) < v then ((1 : Int32) + w) else (if (-100 : Int64) < v then ((2 : Int32) + w) else (if (-1000 : Int64) < v then ((3 : Int32) + w) else (if (-10000 : Int64) < v then ((4 : Int32) + w) else (if (-100000 : Int64) < v then ((5 : Int32) + w) else (if (-1000000 : Int64) < v then ((6 : Int32) + w) else (if (-10000000 : Int64) < v then ((7 : Int32) + w) else (if (-100000000 : Int64) < v then ((8 : Int32) + w) else (if (-1000000000 : Int64) < v then ((9 : Int32) + w) else (if (-10000000000 : Int64) < v then ((10 : Int32) + w) else (if (-100000000000 : Int64) < v then ((11 : Int32) + w) else (if (-1000000000000 : Int64) < v then ((12 : Int32) + w) else (if (-10000000000000 : Int64) < v then ((13 : Int32) + w) else (if (-100000000000000 : Int64) < v then ((14 : Int32) + w) else (if (-1000000000000000 : Int64) < v then ((15 : Int32) + w) else (if (-10000000000000000 : Int64) < v then ((16 : Int32) + w) else (if (-100000000000000000 : Int64) < v then ((17 : Int32) + w) else (if (-1000000000000000000 : Int64) < v then ((18 : Int32) + w) else ((19 : Int32) + w))))))))))))))))))).toInt = ((own_nd M : Nat) : Int) + d := by
  unfold own_nd
  exact (own_ite (own_ltM 10 (by decide) hv) (own_kd 1 1 (by decide) (by decide) hw hd) (own_ite (own_ltM 100 (by decide) hv) (own_kd 2 2 (by decide) (by decide) hw hd) (own_ite (own_ltM 1000 (by decide) hv) (own_kd 3 3 (by decide) (by decide) hw hd) (own_ite (own_ltM 10000 (by decide) hv) (own_kd 4 4 (by decide) (by decide) hw hd) (own_ite (own_ltM 100000 (by decide) hv) (own_kd 5 5 (by decide) (by decide) hw hd) (own_ite (own_ltM 1000000 (by decide) hv) (own_kd 6 6 (by decide) (by decide) hw hd) (own_ite (own_ltM 10000000 (by decide) hv) (own_kd 7 7 (by decide) (by decide) hw hd) (own_ite (own_ltM 100000000 (by decide) hv) (own_kd 8 8 (by decide) (by decide) hw hd) (own_ite (own_ltM 1000000000 (by decide) hv) (own_kd 9 9 (by decide) (by decide) hw hd) (own_ite (own_ltM 10000000000 (by decide) hv) (own_kd 10 10 (by decide) (by decide) hw hd) (own_ite (own_ltM 100000000000 (by decide) hv) (own_kd 11 11 (by decide) (by decide) hw hd) (own_ite (own_ltM 1000000000000 (by decide) hv) (own_kd 12 12 (by decide) (by decide) hw hd) (own_ite (own_ltM 10000000000000 (by decide) hv) (own_kd 13 13 (by decide) (by decide) hw hd) (own_ite (own_ltM 100000000000000 (by decide) hv) (own_kd 14 14 (by decide) (by decide) hw hd) (own_ite (own_ltM 1000000000000000 (by decide) hv) (own_kd 15 15 (by decide) (by decide) hw hd) (own_ite (own_ltM 10000000000000000 (by decide) hv) (own_kd 16 16 (by decide) (by decide) hw hd) (own_ite (own_ltM 100000000000000000 (by decide) hv) (own_kd 17 17 (by decide) (by decide) hw hd) (own_ite (own_ltM 1000000000000000000 (by decide) hv) (own_kd 18 18 (by decide) (by decide) hw hd) (own_kd 19 19 (by decide) (by decide) hw hd)))))))))))))))))))
def own_ab (q : Int64) : Nat := q.toInt.natAbs
theorem own_abM (q : Int64) : own_ab q ≤ 9223372036854775808 := by
  have r := rng64 q
  show q.toInt.natAbs ≤ _
  omega
def own_m (q : Int64) : Int64 := if q < (0 : Int64) then q else (-q)
theorem own_l0 (q : Int64) : q < (0 : Int64) ↔ q.toInt < 0 := by
  rw [Int64.lt_iff_toInt_lt, show (0 : Int64).toInt = 0 from by decide]
theorem own_mI (q : Int64) : (own_m q).toInt = -((own_ab q : Nat) : Int) := by
  unfold own_m own_ab
  have r := rng64 q
  by_cases h : q < (0 : Int64)
  · rw [if_pos h]; rw [own_l0] at h; omega
  · rw [if_neg h]; rw [own_l0] at h
    have a1 := c_lneg q
    have r1 := rng64 (-q)
    omega
theorem own_f16I (q : Int64) : (own_f16 q).toInt = ((own_nd (own_ab q) : Nat) : Int) + (if q < (0 : Int64) then 1 else 0) := by
  unfold own_f16
  refine own_f16n (own_mI q) ?_ ?_
  · split <;> decide
  · split <;> decide
def own_txt (q : Int64) : List Int32 := (if q < (0 : Int64) then [45] else []) ++ own_D (own_ab q) (own_nd (own_ab q))
theorem own_txtL (q : Int64) : ((own_txt q).length : Int) = (own_f16 q).toInt := by
  rw [own_f16I, own_txt, List.length_append, own_Dlen]
  split <;> simp <;> omega
theorem own_f16R (q : Int64) : 1 ≤ (own_f16 q).toInt ∧ (own_f16 q).toInt ≤ 20 := by
  have h := own_ndW _ (own_abM q)
  rw [own_f16I]
  split <;> omega
/- getChars: what the caller knows -/
def own_HG (q : Int64) (p zv : Int32) (vs : List Int32) : Prop := p.toInt = (vs.length : Int) + (own_f16 q).toInt ∧ p.toInt ≤ zv.toInt ∧ zv.toInt ≤ 220
theorem own_W0 {q : Int64} {zv : Int32} {vs : List Int32} (k : Nat) (h1 : ((vs.length + (own_nd (own_ab q) + k) : Nat) : Int) ≤ zv.toInt) (h2 : zv.toInt ≤ 220) : own_W (own_ab q) (own_nd (own_ab q)) (vs.length + (own_nd (own_ab q) + k)) (vs ++ List.replicate (own_nd (own_ab q) + k) 0) zv := by
  have w := own_ndW _ (own_abM q)
  refine ⟨by simp, h1, h2, by omega, w.1, w.2.1, w.2.2.1, w.2.2.2.1, own_abM q⟩
theorem own_I0 {M n : Nat} {L : List Int32} {x : Int} {p : Int32} (hx : x = -(M : Int)) (hp : p.toInt = (n : Int)) (hl : L.length = n) : own_I M 0 n L x p L := by
  refine ⟨by rw [Nat.pow_zero, Nat.div_one]; exact hx, by omega, Nat.zero_le _, ?_, Or.inl rfl⟩
  rw [Nat.sub_zero, ← hl, List.take_length]; simp [own_D]
theorem own_sn {q : Int64} {p zv : Int32} {vs : List Int32} (H : own_HG q p zv vs) (hc : q < (0 : Int64)) : ∃ (M nd n : Nat) (L : List Int32), own_W M nd n L zv ∧ own_I M 0 n L q.toInt p L ∧ L = vs ++ List.replicate (nd + 1) 0 ∧ n = vs.length + (nd + 1) ∧ 45 :: own_D M nd = own_txt q := by
  obtain ⟨h1, h2, h3⟩ := H
  have e := own_f16I q
  rw [if_pos hc] at e
  have x := own_mI q
  rw [own_m, if_pos hc] at x
  refine ⟨_, _, _, _, own_W0 (q := q) (vs := vs) 1 (by omega) h3, own_I0 x (by omega) (by simp), rfl, rfl, ?_⟩
  rw [own_txt, if_pos hc]; rfl
theorem own_sp {q : Int64} {p zv : Int32} {vs : List Int32} (H : own_HG q p zv vs) (hc : ¬ q < (0 : Int64)) : ∃ (M nd n : Nat) (L : List Int32), own_W M nd n L zv ∧ own_I M 0 n L (-q).toInt p L ∧ L = vs ++ List.replicate (nd + 0) 0 ∧ n = vs.length + (nd + 0) ∧ own_D M nd = own_txt q := by
  obtain ⟨h1, h2, h3⟩ := H
  have e := own_f16I q
  rw [if_neg hc] at e
  have x := own_mI q
  rw [own_m, if_neg hc] at x
  refine ⟨_, _, _, _, own_W0 (q := q) (vs := vs) 0 (by omega) h3, own_I0 x (by omega) (by simp), rfl, rfl, ?_⟩
  rw [own_txt, if_neg hc]; rfl
theorem own_f10 {M nd n j : Nat} {L : List Int32} {zv : Int32} (W : own_W M nd n L zv) : M / 10 ^ j < 100 ^ 10 := by
  have h := W.2.2.2.2.2.2.2.2
  have := Nat.div_le_self M (10 ^ j)
  have e : 100 ^ 10 = 100000000000000000000 := by decide
  omega
theorem own_I32 {M j n : Nat} {L D : List Int32} {c : Int32} {x : Int64} (I : own_I M j n L x.toInt c D) (h : (-2147483648 : Int64) < x) : own_I M j n L x.toInt32.toInt c D := by
  have e0 : (-2147483648 : Int64).toInt = -2147483648 := by decide
  rw [Int64.lt_iff_toInt_lt, e0] at h
  have h1 := I.1
  refine ⟨?_, I.2⟩
  have a1 := c_l2i x
  have r1 := rng32 x.toInt32
  generalize M / 10 ^ j = y at *
  omega
theorem own_x3 {M j n : Nat} {L D : List Int32} {c x : Int32} (I : own_I M j n L x.toInt c D) (h : (-100 : Int32) < x) : (-x).toInt = ((M / 10 ^ j % 100 : Nat) : Int) ∧ M / 10 ^ j < 100 := by
  have e0 : (-100 : Int32).toInt = -100 := by decide
  rw [Int32.lt_iff_toInt_lt, e0] at h
  have h1 := I.1
  have a1 := c_ineg x
  have r1 := rng32 (-x)
  generalize M / 10 ^ j = y at *
  omega
theorem own_jn {M j n nd : Nat} {L D : List Int32} {zv c : Int32} {x : Int} (W : own_W M nd n L zv) (I : own_I M j n L x c D) : j < nd ∧ j < n := by
  have h1 := W.2.2.2.1
  have h2 := W.2.2.2.2.2.2.2.1
  rcases I.2.2.2.2 with h | h
  · omega
  · have := (Nat.pow_lt_pow_iff_right (by decide : 1 < 10)).mp (Nat.lt_of_le_of_lt h W.2.2.2.2.1)
    omega
theorem own_nine {x : Int32} : x < (-9 : Int32) ↔ x.toInt < -9 := by
  rw [Int32.lt_iff_toInt_lt, show (-9 : Int32).toInt = -9 from by decide]
theorem own_j2 {M j n nd : Nat} {L D : List Int32} {zv c x : Int32} (W : own_W M nd n L zv) (I : own_I M j n L x.toInt c D) (h : (-100 : Int32) < x) (h9 : x < (-9 : Int32)) : nd = j + 2 ∧ j + 1 < n := by
  have h1 := own_x3 I h
  have h2 := I.1
  rw [own_nine] at h9
  have h3 := own_more (j := j) W.2.2.2.2.1 (by omega)
  have h4 := W.2.2.2.1
  refine ⟨?_, by omega⟩
  by_cases hd : nd = j + 2
  · exact hd
  · exfalso
    have hm : M ≠ 0 := by
      intro q
      rw [q, Nat.zero_div] at h2
      omega
    have h5 := W.2.2.2.2.2.2.1 hm
    have h6 : 10 ^ (j + 2) ≤ M := Nat.le_trans (Nat.pow_le_pow_right (by decide) (by omega)) h5
    have h7 : 10 ^ j * 100 ≤ M := by rw [Nat.pow_add] at h6; exact h6
    have h8 := (Nat.le_div_iff_mul_le (Nat.pow_pos (n := j) (by decide : 0 < 10))).mpr (by rw [Nat.mul_comm]; exact h7)
    omega
theorem own_j1 {M j n nd : Nat} {L D : List Int32} {zv c x : Int32} (W : own_W M nd n L zv) (I : own_I M j n L x.toInt c D) (h : (-100 : Int32) < x) (h9 : ¬ x < (-9 : Int32)) : nd = j + 1 := by
  have h1 := own_x3 I h
  have h2 := I.1
  rw [own_nine] at h9
  have h3 := own_jn W I
  by_cases hd : nd = j + 1
  · exact hd
  · exfalso
    by_cases hm : M = 0
    · have := W.2.2.2.2.2.1 hm; omega
    · have h5 := W.2.2.2.2.2.2.1 hm
      have h6 : 10 ^ (j + 1) ≤ M := Nat.le_trans (Nat.pow_le_pow_right (by decide) (by omega)) h5
      have h7 : 10 ^ j * 10 ≤ M := by rw [Nat.pow_succ] at h6; exact h6
      have h8 := (Nat.le_div_iff_mul_le (Nat.pow_pos (n := j) (by decide : 0 < 10))).mpr (by rw [Nat.mul_comm]; exact h7)
      omega
/- the ends: one digit, two digits -/
theorem own_z1 {M j n nd : Nat} {L D : List Int32} {zv c x : Int32} (W : own_W M nd n L zv) (I : own_I M j n L x.toInt c D) (h : (-100 : Int32) < x) (h9 : ¬ x < (-9 : Int32)) : (c + (-1 : Int32)).toInt = (n : Int) - (nd : Int) ∧ D.set (c + (-1 : Int32)).toNatClampNeg (nar .byte (own_ones.getD (-x).toNatClampNeg 0)) = L.take (n - nd) ++ own_D M nd := by
  have q := own_I1 (y := -((M / 10 ^ (j + 1) : Nat) : Int)) W I (own_jn W I).2 (own_on (own_x3 I h).1) rfl (Or.inr trivial)
  rw [own_j1 W I h h9]
  exact q
theorem own_z2 {M j n nd : Nat} {L D : List Int32} {zv c x : Int32} (W : own_W M nd n L zv) (I : own_I M j n L x.toInt c D) (h : (-100 : Int32) < x) (h9 : x < (-9 : Int32)) : ((c + (-1 : Int32)) + (-1 : Int32)).toInt = (n : Int) - (nd : Int) ∧ (D.set (c + (-1 : Int32)).toNatClampNeg (nar .byte (own_ones.getD (-x).toNatClampNeg 0))).set ((c + (-1 : Int32)) + (-1 : Int32)).toNatClampNeg (nar .byte (own_tens.getD (-x).toNatClampNeg 0)) = L.take (n - nd) ++ own_D M nd := by
  have q := own_I1 (y := -((M / 10 ^ (j + 1) : Nat) : Int)) W I (own_jn W I).2 (own_on (own_x3 I h).1) rfl (Or.inr trivial)
  obtain ⟨hd, hj⟩ := own_j2 W I h h9
  rw [q.2, own_te (own_x3 I h).1, hd]
  have q2 := own_cp q.1 (by omega) (own_Wn W)
  refine ⟨q2.1, ?_⟩
  rw [q2.2]; exact own_put W.1 (by omega)
theorem own_tk {vs : List Int32} (nd k : Nat) : (vs ++ List.replicate (nd + k) 0).take (vs.length + (nd + k) - nd) = vs ++ List.replicate k 0 := by
  rw [show vs.length + (nd + k) - nd = vs.length + k from by omega, List.take_length_add_append, List.take_replicate, show min k (nd + k) = k from by omega]
theorem own_zp {M n nd : Nat} {L D vs : List Int32} {q : Int64} (hD : D = L.take (n - nd) ++ own_D M nd) (hL : L = vs ++ List.replicate (nd + 0) 0) (hn : n = vs.length + (nd + 0)) (hT : own_D M nd = own_txt q) : D = vs ++ own_txt q := by
  rw [hD, hL, hn, own_tk, ← hT]; simp
theorem own_zi {M n nd : Nat} {L D vs : List Int32} {zv c : Int32} (W : own_W M nd n L zv) (hc : c.toInt = (n : Int) - (nd : Int)) (hD : D = L.take (n - nd) ++ own_D M nd) (hn : n = vs.length + (nd + 1)) : (¬ (c + (-1 : Int32)) < 0 ∧ (c + (-1 : Int32)) < zv) ∧ (c + (-1 : Int32)).toNatClampNeg < D.length := own_in1 W hc hD (by omega)
theorem own_zn {M n nd : Nat} {L D vs : List Int32} {zv c : Int32} {q : Int64} (W : own_W M nd n L zv) (hc : c.toInt = (n : Int) - (nd : Int)) (hD : D = L.take (n - nd) ++ own_D M nd) (hL : L = vs ++ List.replicate (nd + 1) 0) (hn : n = vs.length + (nd + 1)) (hT : 45 :: own_D M nd = own_txt q) : D.set (c + (-1 : Int32)).toNatClampNeg (nar .byte (45 : Int32)) = vs ++ own_txt q := by
  have q1 := own_cp hc (by omega) (own_Wn W)
  rw [q1.2, hD, hL, hn, own_tk, ← hT]
  rw [show vs.length + (nd + 1) - nd - 1 = vs.length from by omega, List.append_assoc, List.set_append_right _ _ (Nat.le_refl _), Nat.sub_self, show nar .byte (45 : Int32) = 45 from by decide]
  rfl
theorem own_vpad2 {Z : State} {h : Heap} {a : Addr} {k : ClassId} {ty : FieldType} {z : Int32} {l L : List Int32} {n : Nat} (A : Arv Z h a k ty z (own_v l) (.int 0)) (hL : L = l ++ List.replicate n 0) : Arv Z h a k ty z (own_v L) (.int 0) := by
  rw [hL, show own_v (l ++ List.replicate n 0) = own_v l ++ List.replicate n (Value.int 0) from by simp [own_v]]; exact own_vpad A n
theorem own_vc {Z : State} {h : Heap} {a : Addr} {k : ClassId} {ty : FieldType} {z : Int32} {l L : List Int32} {d : Value} (A : Arv Z h a k ty z (own_v l) d) (e : l = L) : Arv Z h a k ty z (own_v L) d := by rw [← e]; exact A
theorem own_zc {Z : State} {h : Heap} {a : Addr} {k : ClassId} {ty : FieldType} {z y : Int32} {l : List Value} {d : Value} (A : Arv Z h a k ty z l d) (e : y = z) : Arv Z h a k ty y l d := by rw [e]; exact A
theorem own_SG {q : Int64} {zv zn nv : Int32} {vs : List Int32} (h : own_S zv vs nv (own_f16 q) (own_txt q)) (w : own_B zn vs ∧ (nv + own_f16 q).toInt ≤ zn.toInt) : own_HG q (nv + own_f16 q) zn vs := by
  have := own_Sadd h
  obtain ⟨h0, h1, h2, h3⟩ := h
  exact ⟨by omega, w.2, w.1.2⟩
theorem own_nf {Z : State} {a0 : Array Value} {C : String} {y1 y : MethodName} (hs : (Jvm.Cond.selects C y1 y1).before a0 Z = true) (e : y1.cls = y.cls) : NotFace Z y := fun r0 h0 => by
  obtain ⟨c2, r2, m2, q1, q2, q3, q4, kP, hkP, hkPi⟩ := Cond.selects_spec hs
  obtain ⟨kr, hkr, hni⟩ := notFace_of_selects hs m2 q3
  have h1 := findClass_of_methodNamed q3
  rw [e] at h1
  have h2 := Option.some.inj (h1.symm.trans (findClass_of_methodNamed h0))
  exact ⟨kr, by rw [← h2]; exact hkr, hni⟩
theorem d18_0 : decode jdk_35_method_14_code 0 = .ok (.iload_n 2, 1) := by decide +kernel
theorem d18_1 : decode jdk_35_method_14_code 1 = .ok (.istore 7, 2) := by decide +kernel
theorem d18_3 : decode jdk_35_method_14_code 3 = .ok (.lload_n 0, 1) := by decide +kernel
theorem d18_4 : decode jdk_35_method_14_code 4 = .ok (.lconst 0, 1) := by decide +kernel
theorem d18_5 : decode jdk_35_method_14_code 5 = .ok (.lcmp, 1) := by decide +kernel
theorem d18_6 : decode jdk_35_method_14_code 6 = .ok (.ifCond .ge 7, 3) := by decide +kernel
theorem d18_9 : decode jdk_35_method_14_code 9 = .ok (.iconst 1, 1) := by decide +kernel
theorem d18_10 : decode jdk_35_method_14_code 10 = .ok (.goto 4, 3) := by decide +kernel
theorem d18_13 : decode jdk_35_method_14_code 13 = .ok (.iconst 0, 1) := by decide +kernel
theorem d18_14 : decode jdk_35_method_14_code 14 = .ok (.istore 8, 2) := by decide +kernel
theorem d18_16 : decode jdk_35_method_14_code 16 = .ok (.iload 8, 2) := by decide +kernel
theorem d18_18 : decode jdk_35_method_14_code 18 = .ok (.ifCond .ne 6, 3) := by decide +kernel
theorem d18_21 : decode jdk_35_method_14_code 21 = .ok (.lload_n 0, 1) := by decide +kernel
theorem d18_22 : decode jdk_35_method_14_code 22 = .ok (.lneg, 1) := by decide +kernel
theorem d18_23 : decode jdk_35_method_14_code 23 = .ok (.lstore_n 0, 1) := by decide +kernel
theorem d18_82 : decode jdk_35_method_14_code 82 = .ok (.lload_n 0, 1) := by decide +kernel
theorem d18_83 : decode jdk_35_method_14_code 83 = .ok (.l2i, 1) := by decide +kernel
theorem d18_84 : decode jdk_35_method_14_code 84 = .ok (.istore 10, 2) := by decide +kernel
theorem d18_143 : decode jdk_35_method_14_code 143 = .ok (.aload_n 3, 1) := by decide +kernel
theorem d18_144 : decode jdk_35_method_14_code 144 = .ok (.iinc 7 (-1), 3) := by decide +kernel
theorem d18_147 : decode jdk_35_method_14_code 147 = .ok (.iload 7, 2) := by decide +kernel
theorem d18_149 : decode jdk_35_method_14_code 149 = .ok (.getstatic 133, 3) := by decide +kernel
theorem d18_152 : decode jdk_35_method_14_code 152 = .ok (.iload 10, 2) := by decide +kernel
theorem d18_154 : decode jdk_35_method_14_code 154 = .ok (.ineg, 1) := by decide +kernel
theorem d18_155 : decode jdk_35_method_14_code 155 = .ok (.baload, 1) := by decide +kernel
theorem d18_156 : decode jdk_35_method_14_code 156 = .ok (.bastore, 1) := by decide +kernel
theorem d18_157 : decode jdk_35_method_14_code 157 = .ok (.iload 10, 2) := by decide +kernel
theorem d18_159 : decode jdk_35_method_14_code 159 = .ok (.bipush (-9), 2) := by decide +kernel
theorem d18_161 : decode jdk_35_method_14_code 161 = .ok (.if_icmp .ge 17, 3) := by decide +kernel
theorem d18_164 : decode jdk_35_method_14_code 164 = .ok (.aload_n 3, 1) := by decide +kernel
theorem d18_165 : decode jdk_35_method_14_code 165 = .ok (.iinc 7 (-1), 3) := by decide +kernel
theorem d18_168 : decode jdk_35_method_14_code 168 = .ok (.iload 7, 2) := by decide +kernel
theorem d18_170 : decode jdk_35_method_14_code 170 = .ok (.getstatic 137, 3) := by decide +kernel
theorem d18_173 : decode jdk_35_method_14_code 173 = .ok (.iload 10, 2) := by decide +kernel
theorem d18_175 : decode jdk_35_method_14_code 175 = .ok (.ineg, 1) := by decide +kernel
theorem d18_176 : decode jdk_35_method_14_code 176 = .ok (.baload, 1) := by decide +kernel
theorem d18_177 : decode jdk_35_method_14_code 177 = .ok (.bastore, 1) := by decide +kernel
theorem d18_178 : decode jdk_35_method_14_code 178 = .ok (.iload 8, 2) := by decide +kernel
theorem d18_180 : decode jdk_35_method_14_code 180 = .ok (.ifCond .eq 12, 3) := by decide +kernel
theorem d18_183 : decode jdk_35_method_14_code 183 = .ok (.aload_n 3, 1) := by decide +kernel
theorem d18_184 : decode jdk_35_method_14_code 184 = .ok (.iinc 7 (-1), 3) := by decide +kernel
theorem d18_187 : decode jdk_35_method_14_code 187 = .ok (.iload 7, 2) := by decide +kernel
theorem d18_189 : decode jdk_35_method_14_code 189 = .ok (.bipush 45, 2) := by decide +kernel
theorem d18_191 : decode jdk_35_method_14_code 191 = .ok (.bastore, 1) := by decide +kernel
theorem d18_192 : decode jdk_35_method_14_code 192 = .ok (.iload 7, 2) := by decide +kernel
theorem d18_194 : decode jdk_35_method_14_code 194 = .ok (.ireturn, 1) := by decide +kernel
theorem pn_18 : plainName "java/lang/Long" = true := by first | (simp [plainName, overriddenIn]; done) | decide +kernel
theorem ef_18 (m : MethodId) (q0 : Int64) (p2 : Int32) (o3 : Addr) : entryFrame m #[(.long q0), (.int p2), (.ref o3)] 11 = mkF m 0 #[.val (.long q0), .second, .val (.int p2), .val (.ref o3), .unset, .unset, .unset, .unset, .unset, .unset, .unset] [] := by first | (simp [entryFrame, mkF, argsToLocals, Value.category]; done) | rfl
def Q18 (Z : State) (q0 : Int64) (p2 : Int32) (o3 : Addr) (kv : ClassId) (zv : Int32) (vs : List Int32) (h0 : Heap) (n0 : Nat) (v : Option Value) (h : Heap) (L : List Loc) : Prop := ∃ cn : Int32, v = some (.int cn) ∧ Fr n0 L ∧ Keep h0 h [o3] ∧ Arv Z h o3 kv .byte zv (own_v (vs ++ (own_txt q0))) (.int 0)
set_option maxRecDepth 65536 in
set_option maxHeartbeats 40000000 in
theorem rm18 (l : Launch) (Z : State) (a0 : Array Value) (hw : ∀ d ∈ tables_1, d.before a0 Z = true) (ws : List Jvm.Cond) (q0 : Int64) (p2 : Int32) (o3 : Addr) (kv : ClassId) (zv : Int32) (vs : List Int32) (h0 : Heap) (n0 : Nat) (Z0 : n0 ≤ h0.size) (OLD0 : Old Z n0 h0) (Pr_0 : Arv Z h0 o3 kv .byte zv (own_v vs) (.int 0)) (g_o3 : n0 ≤ o3) (HC : own_CC Z) (HG : own_HG q0 p2 zv vs) :
    MetFree l (⟨"java/lang/Long", "getChars", "(JI[B)I"⟩ : MethodName) (head1 (Jvm.Cond.code (⟨"java/lang/Long", "getChars", "(JI[B)I"⟩ : MethodName) jdk_35_method_14_code 11 (some .int) :: ws) ({ frames := 0, cells := 0, slots := 0, locals := 0 } : Room)) (fun a U => a = #[(.long q0), (.int p2), (.ref o3)] ∧ Z.Warmed39 U.vm ∧ U.heap = h0) (fun _ _ _ _ _ => True) (fun _ U o U' => ∃ v L, o = .returned v ∧ Q18 Z q0 p2 o3 kv zv vs h0 n0 v U'.heap L ∧ FrameEnd U o U' L ({ frames := 0, cells := 0, slots := 0, locals := 0 } : Room).cells ({ frames := 0, cells := 0, slots := 0, locals := 0 } : Room).slots) := by
  refine MetFree.of_bodySF (plainFor_of_name pn_18) hisR ?_
  intro p e s m args below meth c s₁ Bd hml0 hP hK
  obtain ⟨rfl, hZ, hh⟩ := hP
  have hx := Bd.exec
  have hby := Bd.bytes
  have hml : c.maxLocals = 11 := hml0
  have hown : s.vm.findClass "java/lang/Long" = some m.cls := findClass_of_methodNamed Bd.named
  have hnm := (name_of_methodNamed Bd.named Bd.method).1
  have X0 : Stand p l e ({ frames := 0, cells := 0, slots := 0, locals := 0 } : Room) s m #[(.long q0), (.int p2), (.ref o3)] below meth c s₁ [] 0 0 := Stand.of_body Bd
  have e0 : s₁.heap = h0 := by rw [← hh, Bd.state]; rfl
  have N0 := Fr.nil n0
  obtain ⟨P, pre0, fin⟩ : ∃ P : State → Prop, (∀ t, Steps p.tables e below (s₁.setTop (mkF m 0 #[.val (.long q0), .second, .val (.int p2), .val (.ref o3), .unset, .unset, .unset, .unset, .unset, .unset, .unset] [])) t → P t) ∧ (∀ t, P t → Steps p.tables e below (s₁.setTop (entryFrame m #[(.long q0), (.int p2), (.ref o3)] 11)) t) := ⟨fun t => Steps p.tables e below (s₁.setTop (entryFrame m #[(.long q0), (.int p2), (.ref o3)] 11)) t, fun t k => castTop (ef_18 m q0 p2 o3) k, fun t k => k⟩
  have K0 : Keep h0 h0 [o3] := Keep.refl _ _
  obtain ⟨cs, fm, d1, d2, k1, k2, hcs, hSc, hSf, hS1, hS2, hD1, hD2, hfm⟩ := id HC
  by_cases hc1 : q0 < (0 : Int64)
  · obtain ⟨gM, gd, gn, gL, W, I0, hL, hn, hT⟩ := own_sn HG hc1
    have V1 : Arv Z h0 o3 kv .byte zv (own_v gL) (.int 0) := own_vpad2 Pr_0 hL
    have pre2 : ∀ t, Steps p.tables e below (s₁.setTop (mkF m 24 #[.val (.long q0), .second, .val (.int p2), .val (.ref o3), .unset, .unset, .unset, .val (.int p2), .val (.int (1 : Int32)), .unset, .unset] [])) t → P t := fun t k => pre0 t (by
        refine XS.iloadN X0.here hx rfl (hb hby d18_0) rfl ?_
        refine XS.istore X0.here hx rfl (hb hby d18_1) rfl (l' := #[.val (.long q0), .second, .val (.int p2), .val (.ref o3), .unset, .unset, .unset, .val (.int p2), .unset, .unset, .unset]) rfl ?_
        refine XS.lloadN X0.here hx rfl (hb hby d18_3) rfl ?_
        refine XS.lconst X0.here hx rfl (hb hby d18_4) ?_
        refine XS.lcmp X0.here hx rfl (hb hby d18_5) rfl ?_
        refine XS.ifNo X0.here hx rfl (hb hby d18_6) rfl ((if0 _ _).trans (tlt ((lw_lt _ _).mpr hc1)).2.1) ?_
        refine XS.iconst X0.here hx rfl (hb hby d18_9) ?_
        refine XS.goto X0.here hx rfl (pc0 := 10) (pc' := 14) rfl (hb hby d18_10) (by decide) (by decide) ?_
        refine XS.istore X0.here hx rfl (hb hby d18_14) rfl (l' := #[.val (.long q0), .second, .val (.int p2), .val (.ref o3), .unset, .unset, .unset, .val (.int p2), .val (.int (1 : Int32)), .unset, .unset]) rfl ?_
        refine XS.iload X0.here hx rfl (hb hby d18_16) rfl ?_
        refine XS.ifYes X0.here hx rfl (pc0 := 18) (pc' := 24) rfl (hb hby d18_18) rfl ((if0 _ _).trans (feq (by decide : ¬ ((1 : Int32) = (0 : Int32)))).2) (by decide) (by decide) ?_
        exact k)
    obtain ⟨T3, L3, h3, x3, c3, D3, s43, s53, s63, j3, X3, e3, N3, K3, Z3, O3, V3, H33, I3, hex3, pre3⟩ := own_l18a hx hby hZ hw hown HC g_o3 W 10 X0 e0 N0 K0 Z0 OLD0 V1 (Or.inl ⟨rfl, rfl, rfl⟩) I0 (own_f10 W) pre2
    have pre4 : ∀ t, Steps p.tables e below (T3.setTop (mkF m 86 #[.val (.long x3), .second, .val (.int p2), .val (.ref o3), s43, s53, s63, .val (.int c3), .val (.int (1 : Int32)), .unset, .val (.int (x3.toInt32))] [])) t → P t := fun t k => pre3 t (by
        refine XS.lloadN X3.here hx rfl (hb hby d18_24) rfl ?_
        refine X3.ldc2Long hx hown (mvT hZ (hi hw 120 rfl)) (g := (mkF m 25 #[.val (.long x3), .second, .val (.int p2), .val (.ref o3), s43, s53, s63, .val (.int c3), .val (.int (1 : Int32)), .unset, .unset] [(.long x3)])) rfl (hb hby d18_25) _ ?_
        refine XS.lcmp X3.here hx rfl (hb hby d18_28) rfl ?_
        refine XS.ifYes X3.here hx rfl (pc0 := 29) (pc' := 82) rfl (hb hby d18_29) rfl ((if0 _ _).trans (tlt ((lw_gt _ _).mpr hex3)).2.2.1) (by decide) (by decide) ?_
        refine XS.lloadN X3.here hx rfl (hb hby d18_82) rfl ?_
        refine XS.l2i X3.here hx rfl (hb hby d18_83) rfl ?_
        refine XS.istore X3.here hx rfl (hb hby d18_84) rfl (l' := #[.val (.long x3), .second, .val (.int p2), .val (.ref o3), s43, s53, s63, .val (.int c3), .val (.int (1 : Int32)), .unset, .val (.int (x3.toInt32))]) rfl ?_
        exact k)
    obtain ⟨T5, L5, h5, x5, c5, D5, s65, s95, j5, X5, e5, N5, K5, Z5, O5, V5, H35, I5, hex5, pre5⟩ := own_l18b hx hby hZ hw hown HC g_o3 W 10 X3 e3 N3 K3 Z3 O3 V3 ⟨own_S3i H33, One.u⟩ (own_I32 I3 hex3) (own_f10 W) pre4
    have pre6 : ∀ t, Steps p.tables e below (T5.setTop (mkF m 149 #[.val (.long x3), .second, .val (.int p2), .val (.ref o3), s43, s53, s65, .val (.int (c5 + (-1 : Int32))), .val (.int (1 : Int32)), s95, .val (.int x5)] [(.int (c5 + (-1 : Int32))), (.ref o3)])) t → P t := fun t k => pre5 t (by
        refine XS.iload X5.here hx rfl (hb hby d18_86) rfl ?_
        refine XS.bipush X5.here hx rfl (hb hby d18_88) ?_
        refine XS.icmpYes X5.here hx rfl (pc0 := 90) (pc' := 143) rfl (hb hby d18_90) rfl (tlt hex5).2.2.1 (by decide) (by decide) ?_
        refine XS.aloadN X5.here hx rfl (hb hby d18_143) rfl rfl ?_
        refine XS.iinc X5.here hx rfl (hb hby d18_144) rfl (l' := #[.val (.long x3), .second, .val (.int p2), .val (.ref o3), s43, s53, s65, .val (.int (c5 + (-1 : Int32))), .val (.int (1 : Int32)), s95, .val (.int x5)]) rfl ?_
        refine XS.iload X5.here hx rfl (hb hby d18_147) rfl ?_
        exact k)
    obtain ⟨T7, X7, e7, st7⟩ := getS2 X5 hx hZ hown (host := "") (Or.inl (hi hw 121 rfl)) Via.refl e5 (hS1.ext O5.2) (g := (mkF m 149 #[.val (.long x3), .second, .val (.int p2), .val (.ref o3), s43, s53, s65, .val (.int (c5 + (-1 : Int32))), .val (.int (1 : Int32)), s95, .val (.int x5)] [(.int (c5 + (-1 : Int32))), (.ref o3)])) rfl (hb hby d18_149)
    have pre7 : ∀ t, Steps p.tables e below (T7.setTop (mkF m 152 #[.val (.long x3), .second, .val (.int p2), .val (.ref o3), s43, s53, s65, .val (.int (c5 + (-1 : Int32))), .val (.int (1 : Int32)), s95, .val (.int x5)] [(.ref d1), (.int (c5 + (-1 : Int32))), (.ref o3)])) t → P t := fun t k => pre6 t (st7 _ k)
    have pre8 : ∀ t, Steps p.tables e below (T7.setTop (mkF m 155 #[.val (.long x3), .second, .val (.int p2), .val (.ref o3), s43, s53, s65, .val (.int (c5 + (-1 : Int32))), .val (.int (1 : Int32)), s95, .val (.int x5)] [(.int (-x5)), (.ref d1), (.int (c5 + (-1 : Int32))), (.ref o3)])) t → P t := fun t k => pre7 t (by
        refine XS.iload X7.here hx rfl (hb hby d18_152) rfl ?_
        refine XS.ineg X7.here hx rfl (hb hby d18_154) rfl ?_
        exact k)
    obtain ⟨clq9, Arq9, qq9, Sq9, Nq9', Hq9, Gq9⟩ := id (hD1.ext O5.2)
    have iq9 : ¬ ((-x5) < 0 ∨ clq9.slots.size ≤ ((-x5)).toNatClampNeg) := inb_of Sq9 (own_r100 (own_x3 I5 hex5).1)
    have pre10 : ∀ t, Steps p.tables e below (T7.setTop (mkF m 156 #[.val (.long x3), .second, .val (.int p2), .val (.ref o3), s43, s53, s65, .val (.int (c5 + (-1 : Int32))), .val (.int (1 : Int32)), s95, .val (.int x5)] [(.int (own_ones.getD ((-x5)).toNatClampNeg 0)), (.int (c5 + (-1 : Int32))), (.ref o3)])) t → P t := fun t k => pre8 t (by
        refine X7.baloadBytes hx (j := (-x5)) (v := (.int (own_ones.getD ((-x5)).toNatClampNeg 0))) (by rw [e7]; exact Arq9.1) (State.isArrayOf_alike hZ.alike Arq9.2.1) Arq9.2.2 iq9 (Hq9.at iq9 (own_vget _ _)) (g := (mkF m 155 #[.val (.long x3), .second, .val (.int p2), .val (.ref o3), s43, s53, s65, .val (.int (c5 + (-1 : Int32))), .val (.int (1 : Int32)), s95, .val (.int x5)] [(.int (-x5)), (.ref d1), (.int (c5 + (-1 : Int32))), (.ref o3)])) rfl rfl (hb hby d18_155) _ ?_
        exact k)
    obtain ⟨clq11, Arq11, qq11, Sq11, Nq11', Hq11, Gq11⟩ := id V5
    obtain ⟨T12, h12, X12, e12, W12, st12⟩ := stB X7 hx hZ e7 Arq11 (j := (c5 + (-1 : Int32))) (inb_of Sq11 (own_in1 W I5.2.1 I5.2.2.2.1 (own_jn W I5).2).1) (g := (mkF m 156 #[.val (.long x3), .second, .val (.int p2), .val (.ref o3), s43, s53, s65, .val (.int (c5 + (-1 : Int32))), .val (.int (1 : Int32)), s95, .val (.int x5)] [(.int (own_ones.getD ((-x5)).toNatClampNeg 0)), (.int (c5 + (-1 : Int32))), (.ref o3)])) rfl rfl (hb hby d18_156)
    have pre12 : ∀ t, Steps p.tables e below (T12.setTop (mkF m 157 #[.val (.long x3), .second, .val (.int p2), .val (.ref o3), s43, s53, s65, .val (.int (c5 + (-1 : Int32))), .val (.int (1 : Int32)), s95, .val (.int x5)] [])) t → P t := fun t k => pre10 t (st12 _ k)
    have V12 : Arv Z h12 o3 kv .byte zv (own_v (D5.set ((c5 + (-1 : Int32))).toNatClampNeg (nar .byte (own_ones.getD ((-x5)).toNatClampNeg 0)))) (.int 0) := own_vset (Arv.set Arq11 qq11 Sq11 Nq11' Hq11 Gq11 (fits_nar_byte _) W12 _ rfl (own_vlen (own_in1 W I5.2.1 I5.2.2.2.1 (own_jn W I5).2).2))
    have c13 : n0 ≤ h12.size := Nat.le_trans Z5 (Keep.of_wr W12).1
    have c14 : Old Z n0 h12 := O5.wr W12 g_o3
    have K15 : Keep h0 h12 [o3] := K5.wr W12 (Or.inl (List.mem_of_getElem? (i := 0) rfl))
    have N12 := Fr.snoc X12 N5 g_o3
    have pre16 : ∀ t, Steps p.tables e below (T12.setTop (mkF m 161 #[.val (.long x3), .second, .val (.int p2), .val (.ref o3), s43, s53, s65, .val (.int (c5 + (-1 : Int32))), .val (.int (1 : Int32)), s95, .val (.int x5)] [(.int (-9 : Int32)), (.int x5)])) t → P t := fun t k => pre12 t (by
        refine XS.iload X12.here hx rfl (hb hby d18_157) rfl ?_
        refine XS.bipush X12.here hx rfl (hb hby d18_159) ?_
        exact k)
    by_cases hc17 : x5 < (-9 : Int32)
    · have pre18 : ∀ t, Steps p.tables e below (T12.setTop (mkF m 170 #[.val (.long x3), .second, .val (.int p2), .val (.ref o3), s43, s53, s65, .val (.int ((c5 + (-1 : Int32)) + (-1 : Int32))), .val (.int (1 : Int32)), s95, .val (.int x5)] [(.int ((c5 + (-1 : Int32)) + (-1 : Int32))), (.ref o3)])) t → P t := fun t k => pre16 t (by
          refine XS.icmpNo X12.here hx rfl (hb hby d18_161) rfl (tlt hc17).2.1 ?_
          refine XS.aloadN X12.here hx rfl (hb hby d18_164) rfl rfl ?_
          refine XS.iinc X12.here hx rfl (hb hby d18_165) rfl (l' := #[.val (.long x3), .second, .val (.int p2), .val (.ref o3), s43, s53, s65, .val (.int ((c5 + (-1 : Int32)) + (-1 : Int32))), .val (.int (1 : Int32)), s95, .val (.int x5)]) rfl ?_
          refine XS.iload X12.here hx rfl (hb hby d18_168) rfl ?_
          exact k)
      obtain ⟨T19, X19, e19, st19⟩ := getS2 X12 hx hZ hown (host := "") (Or.inl (hi hw 150 rfl)) Via.refl e12 (hS2.ext c14.2) (g := (mkF m 170 #[.val (.long x3), .second, .val (.int p2), .val (.ref o3), s43, s53, s65, .val (.int ((c5 + (-1 : Int32)) + (-1 : Int32))), .val (.int (1 : Int32)), s95, .val (.int x5)] [(.int ((c5 + (-1 : Int32)) + (-1 : Int32))), (.ref o3)])) rfl (hb hby d18_170)
      have pre19 : ∀ t, Steps p.tables e below (T19.setTop (mkF m 173 #[.val (.long x3), .second, .val (.int p2), .val (.ref o3), s43, s53, s65, .val (.int ((c5 + (-1 : Int32)) + (-1 : Int32))), .val (.int (1 : Int32)), s95, .val (.int x5)] [(.ref d2), (.int ((c5 + (-1 : Int32)) + (-1 : Int32))), (.ref o3)])) t → P t := fun t k => pre18 t (st19 _ k)
      have pre20 : ∀ t, Steps p.tables e below (T19.setTop (mkF m 176 #[.val (.long x3), .second, .val (.int p2), .val (.ref o3), s43, s53, s65, .val (.int ((c5 + (-1 : Int32)) + (-1 : Int32))), .val (.int (1 : Int32)), s95, .val (.int x5)] [(.int (-x5)), (.ref d2), (.int ((c5 + (-1 : Int32)) + (-1 : Int32))), (.ref o3)])) t → P t := fun t k => pre19 t (by
          refine XS.iload X19.here hx rfl (hb hby d18_173) rfl ?_
          refine XS.ineg X19.here hx rfl (hb hby d18_175) rfl ?_
          exact k)
      obtain ⟨clq21, Arq21, qq21, Sq21, Nq21', Hq21, Gq21⟩ := id (hD2.ext c14.2)
      have iq21 : ¬ ((-x5) < 0 ∨ clq21.slots.size ≤ ((-x5)).toNatClampNeg) := inb_of Sq21 (own_r100 (own_x3 I5 hex5).1)
      have pre22 : ∀ t, Steps p.tables e below (T19.setTop (mkF m 177 #[.val (.long x3), .second, .val (.int p2), .val (.ref o3), s43, s53, s65, .val (.int ((c5 + (-1 : Int32)) + (-1 : Int32))), .val (.int (1 : Int32)), s95, .val (.int x5)] [(.int (own_tens.getD ((-x5)).toNatClampNeg 0)), (.int ((c5 + (-1 : Int32)) + (-1 : Int32))), (.ref o3)])) t → P t := fun t k => pre20 t (by
          refine X19.baloadBytes hx (j := (-x5)) (v := (.int (own_tens.getD ((-x5)).toNatClampNeg 0))) (by rw [e19]; exact Arq21.1) (State.isArrayOf_alike hZ.alike Arq21.2.1) Arq21.2.2 iq21 (Hq21.at iq21 (own_vget _ _)) (g := (mkF m 176 #[.val (.long x3), .second, .val (.int p2), .val (.ref o3), s43, s53, s65, .val (.int ((c5 + (-1 : Int32)) + (-1 : Int32))), .val (.int (1 : Int32)), s95, .val (.int x5)] [(.int (-x5)), (.ref d2), (.int ((c5 + (-1 : Int32)) + (-1 : Int32))), (.ref o3)])) rfl rfl (hb hby d18_176) _ ?_
          exact k)
      obtain ⟨clq23, Arq23, qq23, Sq23, Nq23', Hq23, Gq23⟩ := id V12
      obtain ⟨T24, h24, X24, e24, W24, st24⟩ := stB X19 hx hZ e19 Arq23 (j := ((c5 + (-1 : Int32)) + (-1 : Int32))) (inb_of Sq23 (own_in2 W I5 (own_j2 W I5 hex5 hc17).2 (own_x3 I5 hex5).1).1) (g := (mkF m 177 #[.val (.long x3), .second, .val (.int p2), .val (.ref o3), s43, s53, s65, .val (.int ((c5 + (-1 : Int32)) + (-1 : Int32))), .val (.int (1 : Int32)), s95, .val (.int x5)] [(.int (own_tens.getD ((-x5)).toNatClampNeg 0)), (.int ((c5 + (-1 : Int32)) + (-1 : Int32))), (.ref o3)])) rfl rfl (hb hby d18_177)
      have pre24 : ∀ t, Steps p.tables e below (T24.setTop (mkF m 178 #[.val (.long x3), .second, .val (.int p2), .val (.ref o3), s43, s53, s65, .val (.int ((c5 + (-1 : Int32)) + (-1 : Int32))), .val (.int (1 : Int32)), s95, .val (.int x5)] [])) t → P t := fun t k => pre22 t (st24 _ k)
      have V24 : Arv Z h24 o3 kv .byte zv (own_v ((D5.set ((c5 + (-1 : Int32))).toNatClampNeg (nar .byte (own_ones.getD ((-x5)).toNatClampNeg 0))).set (((c5 + (-1 : Int32)) + (-1 : Int32))).toNatClampNeg (nar .byte (own_tens.getD ((-x5)).toNatClampNeg 0)))) (.int 0) := own_vset (Arv.set Arq23 qq23 Sq23 Nq23' Hq23 Gq23 (fits_nar_byte _) W24 _ rfl (own_vlen (own_in2 W I5 (own_j2 W I5 hex5 hc17).2 (own_x3 I5 hex5).1).2))
      have c25 : n0 ≤ h24.size := Nat.le_trans c13 (Keep.of_wr W24).1
      have c26 : Old Z n0 h24 := c14.wr W24 g_o3
      have K27 : Keep h0 h24 [o3] := K15.wr W24 (Or.inl (List.mem_of_getElem? (i := 0) rfl))
      have N24 := Fr.snoc X24 N12 g_o3
      have pre28 : ∀ t, Steps p.tables e below (T24.setTop (mkF m 191 #[.val (.long x3), .second, .val (.int p2), .val (.ref o3), s43, s53, s65, .val (.int (((c5 + (-1 : Int32)) + (-1 : Int32)) + (-1 : Int32))), .val (.int (1 : Int32)), s95, .val (.int x5)] [(.int (45 : Int32)), (.int (((c5 + (-1 : Int32)) + (-1 : Int32)) + (-1 : Int32))), (.ref o3)])) t → P t := fun t k => pre24 t (by
          refine XS.iload X24.here hx rfl (hb hby d18_178) rfl ?_
          refine XS.ifNo X24.here hx rfl (hb hby d18_180) rfl ((if0 _ _).trans (feq (by decide : ¬ ((1 : Int32) = (0 : Int32)))).1) ?_
          refine XS.aloadN X24.here hx rfl (hb hby d18_183) rfl rfl ?_
          refine XS.iinc X24.here hx rfl (hb hby d18_184) rfl (l' := #[.val (.long x3), .second, .val (.int p2), .val (.ref o3), s43, s53, s65, .val (.int (((c5 + (-1 : Int32)) + (-1 : Int32)) + (-1 : Int32))), .val (.int (1 : Int32)), s95, .val (.int x5)]) rfl ?_
          refine XS.iload X24.here hx rfl (hb hby d18_187) rfl ?_
          refine XS.bipush X24.here hx rfl (hb hby d18_189) ?_
          exact k)
      obtain ⟨clq29, Arq29, qq29, Sq29, Nq29', Hq29, Gq29⟩ := id V24
      obtain ⟨T30, h30, X30, e30, W30, st30⟩ := stB X24 hx hZ e24 Arq29 (j := (((c5 + (-1 : Int32)) + (-1 : Int32)) + (-1 : Int32))) (inb_of Sq29 (own_zi (vs := vs) W (own_z2 W I5 hex5 hc17).1 (own_z2 W I5 hex5 hc17).2 hn).1) (g := (mkF m 191 #[.val (.long x3), .second, .val (.int p2), .val (.ref o3), s43, s53, s65, .val (.int (((c5 + (-1 : Int32)) + (-1 : Int32)) + (-1 : Int32))), .val (.int (1 : Int32)), s95, .val (.int x5)] [(.int (45 : Int32)), (.int (((c5 + (-1 : Int32)) + (-1 : Int32)) + (-1 : Int32))), (.ref o3)])) rfl rfl (hb hby d18_191)
      have pre30 : ∀ t, Steps p.tables e below (T30.setTop (mkF m 192 #[.val (.long x3), .second, .val (.int p2), .val (.ref o3), s43, s53, s65, .val (.int (((c5 + (-1 : Int32)) + (-1 : Int32)) + (-1 : Int32))), .val (.int (1 : Int32)), s95, .val (.int x5)] [])) t → P t := fun t k => pre28 t (st30 _ k)
      have V30 : Arv Z h30 o3 kv .byte zv (own_v (((D5.set ((c5 + (-1 : Int32))).toNatClampNeg (nar .byte (own_ones.getD ((-x5)).toNatClampNeg 0))).set (((c5 + (-1 : Int32)) + (-1 : Int32))).toNatClampNeg (nar .byte (own_tens.getD ((-x5)).toNatClampNeg 0))).set ((((c5 + (-1 : Int32)) + (-1 : Int32)) + (-1 : Int32))).toNatClampNeg (nar .byte (45 : Int32)))) (.int 0) := own_vset (Arv.set Arq29 qq29 Sq29 Nq29' Hq29 Gq29 (fits_nar_byte _) W30 _ rfl (own_vlen (own_zi (vs := vs) W (own_z2 W I5 hex5 hc17).1 (own_z2 W I5 hex5 hc17).2 hn).2))
      have c31 : n0 ≤ h30.size := Nat.le_trans c25 (Keep.of_wr W30).1
      have c32 : Old Z n0 h30 := c26.wr W30 g_o3
      have K33 : Keep h0 h30 [o3] := K27.wr W30 (Or.inl (List.mem_of_getElem? (i := 0) rfl))
      have N30 := Fr.snoc X30 N24 g_o3
      have Vf34 : Arv Z h30 o3 kv .byte zv (own_v (vs ++ (own_txt q0))) (.int 0) := own_vc V30 (own_zn W (own_z2 W I5 hex5 hc17).1 (own_z2 W I5 hex5 hc17).2 hL hn hT)
      have pre35 : ∀ t, Steps p.tables e below (T30.setTop (mkF m 194 #[.val (.long x3), .second, .val (.int p2), .val (.ref o3), s43, s53, s65, .val (.int (((c5 + (-1 : Int32)) + (-1 : Int32)) + (-1 : Int32))), .val (.int (1 : Int32)), s95, .val (.int x5)] [(.int (((c5 + (-1 : Int32)) + (-1 : Int32)) + (-1 : Int32)))])) t → P t := fun t k => pre30 t (by
          refine XS.iload X30.here hx rfl (hb hby d18_192) rfl ?_
          exact k)
      obtain ⟨fs, hr, hrun, hended, hW, hsame⟩ := X30.leave (v := some (.int (((c5 + (-1 : Int32)) + (-1 : Int32)) + (-1 : Int32)))) (fun h => by rw [Bd.returns] at h; cases h)
      refine ⟨_, _, fin _ (pre35 _ ?_), hrun, hended, _, _, rfl, ?_, ⟨_, rfl⟩, hW, hsame.mono (by decide) (by decide)⟩
      · show Steps p.tables e below (T30.setTop (mkF m 194 #[.val (.long x3), .second, .val (.int p2), .val (.ref o3), s43, s53, s65, .val (.int (((c5 + (-1 : Int32)) + (-1 : Int32)) + (-1 : Int32))), .val (.int (1 : Int32)), s95, .val (.int x5)] [(.int (((c5 + (-1 : Int32)) + (-1 : Int32)) + (-1 : Int32)))])) _
        exact retI X30 hx Bd.returns (hb hby d18_194) hr
      · show Q18 Z q0 p2 o3 kv zv vs h0 n0 _ T30.heap _
        rw [e30]
        exact ⟨(((c5 + (-1 : Int32)) + (-1 : Int32)) + (-1 : Int32)), rfl, N30, K33, Vf34⟩
    · have pre36 : ∀ t, Steps p.tables e below (T12.setTop (mkF m 191 #[.val (.long x3), .second, .val (.int p2), .val (.ref o3), s43, s53, s65, .val (.int ((c5 + (-1 : Int32)) + (-1 : Int32))), .val (.int (1 : Int32)), s95, .val (.int x5)] [(.int (45 : Int32)), (.int ((c5 + (-1 : Int32)) + (-1 : Int32))), (.ref o3)])) t → P t := fun t k => pre16 t (by
          refine XS.icmpYes X12.here hx rfl (pc0 := 161) (pc' := 178) rfl (hb hby d18_161) rfl (flt hc17).2.1 (by decide) (by decide) ?_
          refine XS.iload X12.here hx rfl (hb hby d18_178) rfl ?_
          refine XS.ifNo X12.here hx rfl (hb hby d18_180) rfl ((if0 _ _).trans (feq (by decide : ¬ ((1 : Int32) = (0 : Int32)))).1) ?_
          refine XS.aloadN X12.here hx rfl (hb hby d18_183) rfl rfl ?_
          refine XS.iinc X12.here hx rfl (hb hby d18_184) rfl (l' := #[.val (.long x3), .second, .val (.int p2), .val (.ref o3), s43, s53, s65, .val (.int ((c5 + (-1 : Int32)) + (-1 : Int32))), .val (.int (1 : Int32)), s95, .val (.int x5)]) rfl ?_
          refine XS.iload X12.here hx rfl (hb hby d18_187) rfl ?_
          refine XS.bipush X12.here hx rfl (hb hby d18_189) ?_
          exact k)
      obtain ⟨clq37, Arq37, qq37, Sq37, Nq37', Hq37, Gq37⟩ := id V12
      obtain ⟨T38, h38, X38, e38, W38, st38⟩ := stB X12 hx hZ e12 Arq37 (j := ((c5 + (-1 : Int32)) + (-1 : Int32))) (inb_of Sq37 (own_zi (vs := vs) W (own_z1 W I5 hex5 hc17).1 (own_z1 W I5 hex5 hc17).2 hn).1) (g := (mkF m 191 #[.val (.long x3), .second, .val (.int p2), .val (.ref o3), s43, s53, s65, .val (.int ((c5 + (-1 : Int32)) + (-1 : Int32))), .val (.int (1 : Int32)), s95, .val (.int x5)] [(.int (45 : Int32)), (.int ((c5 + (-1 : Int32)) + (-1 : Int32))), (.ref o3)])) rfl rfl (hb hby d18_191)
      have pre38 : ∀ t, Steps p.tables e below (T38.setTop (mkF m 192 #[.val (.long x3), .second, .val (.int p2), .val (.ref o3), s43, s53, s65, .val (.int ((c5 + (-1 : Int32)) + (-1 : Int32))), .val (.int (1 : Int32)), s95, .val (.int x5)] [])) t → P t := fun t k => pre36 t (st38 _ k)
      have V38 : Arv Z h38 o3 kv .byte zv (own_v ((D5.set ((c5 + (-1 : Int32))).toNatClampNeg (nar .byte (own_ones.getD ((-x5)).toNatClampNeg 0))).set (((c5 + (-1 : Int32)) + (-1 : Int32))).toNatClampNeg (nar .byte (45 : Int32)))) (.int 0) := own_vset (Arv.set Arq37 qq37 Sq37 Nq37' Hq37 Gq37 (fits_nar_byte _) W38 _ rfl (own_vlen (own_zi (vs := vs) W (own_z1 W I5 hex5 hc17).1 (own_z1 W I5 hex5 hc17).2 hn).2))
      have c39 : n0 ≤ h38.size := Nat.le_trans c13 (Keep.of_wr W38).1
      have c40 : Old Z n0 h38 := c14.wr W38 g_o3
      have K41 : Keep h0 h38 [o3] := K15.wr W38 (Or.inl (List.mem_of_getElem? (i := 0) rfl))
      have N38 := Fr.snoc X38 N12 g_o3
      have Vf42 : Arv Z h38 o3 kv .byte zv (own_v (vs ++ (own_txt q0))) (.int 0) := own_vc V38 (own_zn W (own_z1 W I5 hex5 hc17).1 (own_z1 W I5 hex5 hc17).2 hL hn hT)
      have pre43 : ∀ t, Steps p.tables e below (T38.setTop (mkF m 194 #[.val (.long x3), .second, .val (.int p2), .val (.ref o3), s43, s53, s65, .val (.int ((c5 + (-1 : Int32)) + (-1 : Int32))), .val (.int (1 : Int32)), s95, .val (.int x5)] [(.int ((c5 + (-1 : Int32)) + (-1 : Int32)))])) t → P t := fun t k => pre38 t (by
          refine XS.iload X38.here hx rfl (hb hby d18_192) rfl ?_
          exact k)
      obtain ⟨fs, hr, hrun, hended, hW, hsame⟩ := X38.leave (v := some (.int ((c5 + (-1 : Int32)) + (-1 : Int32)))) (fun h => by rw [Bd.returns] at h; cases h)
      refine ⟨_, _, fin _ (pre43 _ ?_), hrun, hended, _, _, rfl, ?_, ⟨_, rfl⟩, hW, hsame.mono (by decide) (by decide)⟩
      · show Steps p.tables e below (T38.setTop (mkF m 194 #[.val (.long x3), .second, .val (.int p2), .val (.ref o3), s43, s53, s65, .val (.int ((c5 + (-1 : Int32)) + (-1 : Int32))), .val (.int (1 : Int32)), s95, .val (.int x5)] [(.int ((c5 + (-1 : Int32)) + (-1 : Int32)))])) _
        exact retI X38 hx Bd.returns (hb hby d18_194) hr
      · show Q18 Z q0 p2 o3 kv zv vs h0 n0 _ T38.heap _
        rw [e38]
        exact ⟨((c5 + (-1 : Int32)) + (-1 : Int32)), rfl, N38, K41, Vf42⟩
  · obtain ⟨gM, gd, gn, gL, W, I0, hL, hn, hT⟩ := own_sp HG hc1
    have V1 : Arv Z h0 o3 kv .byte zv (own_v gL) (.int 0) := own_vpad2 Pr_0 hL
    have pre44 : ∀ t, Steps p.tables e below (s₁.setTop (mkF m 24 #[.val (.long (-q0)), .second, .val (.int p2), .val (.ref o3), .unset, .unset, .unset, .val (.int p2), .val (.int (0 : Int32)), .unset, .unset] [])) t → P t := fun t k => pre0 t (by
        refine XS.iloadN X0.here hx rfl (hb hby d18_0) rfl ?_
        refine XS.istore X0.here hx rfl (hb hby d18_1) rfl (l' := #[.val (.long q0), .second, .val (.int p2), .val (.ref o3), .unset, .unset, .unset, .val (.int p2), .unset, .unset, .unset]) rfl ?_
        refine XS.lloadN X0.here hx rfl (hb hby d18_3) rfl ?_
        refine XS.lconst X0.here hx rfl (hb hby d18_4) ?_
        refine XS.lcmp X0.here hx rfl (hb hby d18_5) rfl ?_
        refine XS.ifYes X0.here hx rfl (pc0 := 6) (pc' := 13) rfl (hb hby d18_6) rfl ((if0 _ _).trans (flt (fun q => hc1 ((lw_lt _ _).mp q))).2.1) (by decide) (by decide) ?_
        refine XS.iconst X0.here hx rfl (hb hby d18_13) ?_
        refine XS.istore X0.here hx rfl (hb hby d18_14) rfl (l' := #[.val (.long q0), .second, .val (.int p2), .val (.ref o3), .unset, .unset, .unset, .val (.int p2), .val (.int (0 : Int32)), .unset, .unset]) rfl ?_
        refine XS.iload X0.here hx rfl (hb hby d18_16) rfl ?_
        refine XS.ifNo X0.here hx rfl (hb hby d18_18) rfl ((if0 _ _).trans (teq (rfl : (0 : Int32) = (0 : Int32))).2) ?_
        refine XS.lloadN X0.here hx rfl (hb hby d18_21) rfl ?_
        refine XS.lneg X0.here hx rfl (hb hby d18_22) rfl ?_
        refine XS.lstoreN X0.here hx rfl (hb hby d18_23) rfl (l' := #[.val (.long (-q0)), .second, .val (.int p2), .val (.ref o3), .unset, .unset, .unset, .val (.int p2), .val (.int (0 : Int32)), .unset, .unset]) rfl ?_
        exact k)
    obtain ⟨T45, L45, h45, x45, c45, D45, s445, s545, s645, j45, X45, e45, N45, K45, Z45, O45, V45, H345, I45, hex45, pre45⟩ := own_l18a hx hby hZ hw hown HC g_o3 W 10 X0 e0 N0 K0 Z0 OLD0 V1 (Or.inl ⟨rfl, rfl, rfl⟩) I0 (own_f10 W) pre44
    have pre46 : ∀ t, Steps p.tables e below (T45.setTop (mkF m 86 #[.val (.long x45), .second, .val (.int p2), .val (.ref o3), s445, s545, s645, .val (.int c45), .val (.int (0 : Int32)), .unset, .val (.int (x45.toInt32))] [])) t → P t := fun t k => pre45 t (by
        refine XS.lloadN X45.here hx rfl (hb hby d18_24) rfl ?_
        refine X45.ldc2Long hx hown (mvT hZ (hi hw 120 rfl)) (g := (mkF m 25 #[.val (.long x45), .second, .val (.int p2), .val (.ref o3), s445, s545, s645, .val (.int c45), .val (.int (0 : Int32)), .unset, .unset] [(.long x45)])) rfl (hb hby d18_25) _ ?_
        refine XS.lcmp X45.here hx rfl (hb hby d18_28) rfl ?_
        refine XS.ifYes X45.here hx rfl (pc0 := 29) (pc' := 82) rfl (hb hby d18_29) rfl ((if0 _ _).trans (tlt ((lw_gt _ _).mpr hex45)).2.2.1) (by decide) (by decide) ?_
        refine XS.lloadN X45.here hx rfl (hb hby d18_82) rfl ?_
        refine XS.l2i X45.here hx rfl (hb hby d18_83) rfl ?_
        refine XS.istore X45.here hx rfl (hb hby d18_84) rfl (l' := #[.val (.long x45), .second, .val (.int p2), .val (.ref o3), s445, s545, s645, .val (.int c45), .val (.int (0 : Int32)), .unset, .val (.int (x45.toInt32))]) rfl ?_
        exact k)
    obtain ⟨T47, L47, h47, x47, c47, D47, s647, s947, j47, X47, e47, N47, K47, Z47, O47, V47, H347, I47, hex47, pre47⟩ := own_l18b hx hby hZ hw hown HC g_o3 W 10 X45 e45 N45 K45 Z45 O45 V45 ⟨own_S3i H345, One.u⟩ (own_I32 I45 hex45) (own_f10 W) pre46
    have pre48 : ∀ t, Steps p.tables e below (T47.setTop (mkF m 149 #[.val (.long x45), .second, .val (.int p2), .val (.ref o3), s445, s545, s647, .val (.int (c47 + (-1 : Int32))), .val (.int (0 : Int32)), s947, .val (.int x47)] [(.int (c47 + (-1 : Int32))), (.ref o3)])) t → P t := fun t k => pre47 t (by
        refine XS.iload X47.here hx rfl (hb hby d18_86) rfl ?_
        refine XS.bipush X47.here hx rfl (hb hby d18_88) ?_
        refine XS.icmpYes X47.here hx rfl (pc0 := 90) (pc' := 143) rfl (hb hby d18_90) rfl (tlt hex47).2.2.1 (by decide) (by decide) ?_
        refine XS.aloadN X47.here hx rfl (hb hby d18_143) rfl rfl ?_
        refine XS.iinc X47.here hx rfl (hb hby d18_144) rfl (l' := #[.val (.long x45), .second, .val (.int p2), .val (.ref o3), s445, s545, s647, .val (.int (c47 + (-1 : Int32))), .val (.int (0 : Int32)), s947, .val (.int x47)]) rfl ?_
        refine XS.iload X47.here hx rfl (hb hby d18_147) rfl ?_
        exact k)
    obtain ⟨T49, X49, e49, st49⟩ := getS2 X47 hx hZ hown (host := "") (Or.inl (hi hw 121 rfl)) Via.refl e47 (hS1.ext O47.2) (g := (mkF m 149 #[.val (.long x45), .second, .val (.int p2), .val (.ref o3), s445, s545, s647, .val (.int (c47 + (-1 : Int32))), .val (.int (0 : Int32)), s947, .val (.int x47)] [(.int (c47 + (-1 : Int32))), (.ref o3)])) rfl (hb hby d18_149)
    have pre49 : ∀ t, Steps p.tables e below (T49.setTop (mkF m 152 #[.val (.long x45), .second, .val (.int p2), .val (.ref o3), s445, s545, s647, .val (.int (c47 + (-1 : Int32))), .val (.int (0 : Int32)), s947, .val (.int x47)] [(.ref d1), (.int (c47 + (-1 : Int32))), (.ref o3)])) t → P t := fun t k => pre48 t (st49 _ k)
    have pre50 : ∀ t, Steps p.tables e below (T49.setTop (mkF m 155 #[.val (.long x45), .second, .val (.int p2), .val (.ref o3), s445, s545, s647, .val (.int (c47 + (-1 : Int32))), .val (.int (0 : Int32)), s947, .val (.int x47)] [(.int (-x47)), (.ref d1), (.int (c47 + (-1 : Int32))), (.ref o3)])) t → P t := fun t k => pre49 t (by
        refine XS.iload X49.here hx rfl (hb hby d18_152) rfl ?_
        refine XS.ineg X49.here hx rfl (hb hby d18_154) rfl ?_
        exact k)
    obtain ⟨clq51, Arq51, qq51, Sq51, Nq51', Hq51, Gq51⟩ := id (hD1.ext O47.2)
    have iq51 : ¬ ((-x47) < 0 ∨ clq51.slots.size ≤ ((-x47)).toNatClampNeg) := inb_of Sq51 (own_r100 (own_x3 I47 hex47).1)
    have pre52 : ∀ t, Steps p.tables e below (T49.setTop (mkF m 156 #[.val (.long x45), .second, .val (.int p2), .val (.ref o3), s445, s545, s647, .val (.int (c47 + (-1 : Int32))), .val (.int (0 : Int32)), s947, .val (.int x47)] [(.int (own_ones.getD ((-x47)).toNatClampNeg 0)), (.int (c47 + (-1 : Int32))), (.ref o3)])) t → P t := fun t k => pre50 t (by
        refine X49.baloadBytes hx (j := (-x47)) (v := (.int (own_ones.getD ((-x47)).toNatClampNeg 0))) (by rw [e49]; exact Arq51.1) (State.isArrayOf_alike hZ.alike Arq51.2.1) Arq51.2.2 iq51 (Hq51.at iq51 (own_vget _ _)) (g := (mkF m 155 #[.val (.long x45), .second, .val (.int p2), .val (.ref o3), s445, s545, s647, .val (.int (c47 + (-1 : Int32))), .val (.int (0 : Int32)), s947, .val (.int x47)] [(.int (-x47)), (.ref d1), (.int (c47 + (-1 : Int32))), (.ref o3)])) rfl rfl (hb hby d18_155) _ ?_
        exact k)
    obtain ⟨clq53, Arq53, qq53, Sq53, Nq53', Hq53, Gq53⟩ := id V47
    obtain ⟨T54, h54, X54, e54, W54, st54⟩ := stB X49 hx hZ e49 Arq53 (j := (c47 + (-1 : Int32))) (inb_of Sq53 (own_in1 W I47.2.1 I47.2.2.2.1 (own_jn W I47).2).1) (g := (mkF m 156 #[.val (.long x45), .second, .val (.int p2), .val (.ref o3), s445, s545, s647, .val (.int (c47 + (-1 : Int32))), .val (.int (0 : Int32)), s947, .val (.int x47)] [(.int (own_ones.getD ((-x47)).toNatClampNeg 0)), (.int (c47 + (-1 : Int32))), (.ref o3)])) rfl rfl (hb hby d18_156)
    have pre54 : ∀ t, Steps p.tables e below (T54.setTop (mkF m 157 #[.val (.long x45), .second, .val (.int p2), .val (.ref o3), s445, s545, s647, .val (.int (c47 + (-1 : Int32))), .val (.int (0 : Int32)), s947, .val (.int x47)] [])) t → P t := fun t k => pre52 t (st54 _ k)
    have V54 : Arv Z h54 o3 kv .byte zv (own_v (D47.set ((c47 + (-1 : Int32))).toNatClampNeg (nar .byte (own_ones.getD ((-x47)).toNatClampNeg 0)))) (.int 0) := own_vset (Arv.set Arq53 qq53 Sq53 Nq53' Hq53 Gq53 (fits_nar_byte _) W54 _ rfl (own_vlen (own_in1 W I47.2.1 I47.2.2.2.1 (own_jn W I47).2).2))
    have c55 : n0 ≤ h54.size := Nat.le_trans Z47 (Keep.of_wr W54).1
    have c56 : Old Z n0 h54 := O47.wr W54 g_o3
    have K57 : Keep h0 h54 [o3] := K47.wr W54 (Or.inl (List.mem_of_getElem? (i := 0) rfl))
    have N54 := Fr.snoc X54 N47 g_o3
    have pre58 : ∀ t, Steps p.tables e below (T54.setTop (mkF m 161 #[.val (.long x45), .second, .val (.int p2), .val (.ref o3), s445, s545, s647, .val (.int (c47 + (-1 : Int32))), .val (.int (0 : Int32)), s947, .val (.int x47)] [(.int (-9 : Int32)), (.int x47)])) t → P t := fun t k => pre54 t (by
        refine XS.iload X54.here hx rfl (hb hby d18_157) rfl ?_
        refine XS.bipush X54.here hx rfl (hb hby d18_159) ?_
        exact k)
    by_cases hc59 : x47 < (-9 : Int32)
    · have pre60 : ∀ t, Steps p.tables e below (T54.setTop (mkF m 170 #[.val (.long x45), .second, .val (.int p2), .val (.ref o3), s445, s545, s647, .val (.int ((c47 + (-1 : Int32)) + (-1 : Int32))), .val (.int (0 : Int32)), s947, .val (.int x47)] [(.int ((c47 + (-1 : Int32)) + (-1 : Int32))), (.ref o3)])) t → P t := fun t k => pre58 t (by
          refine XS.icmpNo X54.here hx rfl (hb hby d18_161) rfl (tlt hc59).2.1 ?_
          refine XS.aloadN X54.here hx rfl (hb hby d18_164) rfl rfl ?_
          refine XS.iinc X54.here hx rfl (hb hby d18_165) rfl (l' := #[.val (.long x45), .second, .val (.int p2), .val (.ref o3), s445, s545, s647, .val (.int ((c47 + (-1 : Int32)) + (-1 : Int32))), .val (.int (0 : Int32)), s947, .val (.int x47)]) rfl ?_
          refine XS.iload X54.here hx rfl (hb hby d18_168) rfl ?_
          exact k)
      obtain ⟨T61, X61, e61, st61⟩ := getS2 X54 hx hZ hown (host := "") (Or.inl (hi hw 150 rfl)) Via.refl e54 (hS2.ext c56.2) (g := (mkF m 170 #[.val (.long x45), .second, .val (.int p2), .val (.ref o3), s445, s545, s647, .val (.int ((c47 + (-1 : Int32)) + (-1 : Int32))), .val (.int (0 : Int32)), s947, .val (.int x47)] [(.int ((c47 + (-1 : Int32)) + (-1 : Int32))), (.ref o3)])) rfl (hb hby d18_170)
      have pre61 : ∀ t, Steps p.tables e below (T61.setTop (mkF m 173 #[.val (.long x45), .second, .val (.int p2), .val (.ref o3), s445, s545, s647, .val (.int ((c47 + (-1 : Int32)) + (-1 : Int32))), .val (.int (0 : Int32)), s947, .val (.int x47)] [(.ref d2), (.int ((c47 + (-1 : Int32)) + (-1 : Int32))), (.ref o3)])) t → P t := fun t k => pre60 t (st61 _ k)
      have pre62 : ∀ t, Steps p.tables e below (T61.setTop (mkF m 176 #[.val (.long x45), .second, .val (.int p2), .val (.ref o3), s445, s545, s647, .val (.int ((c47 + (-1 : Int32)) + (-1 : Int32))), .val (.int (0 : Int32)), s947, .val (.int x47)] [(.int (-x47)), (.ref d2), (.int ((c47 + (-1 : Int32)) + (-1 : Int32))), (.ref o3)])) t → P t := fun t k => pre61 t (by
          refine XS.iload X61.here hx rfl (hb hby d18_173) rfl ?_
          refine XS.ineg X61.here hx rfl (hb hby d18_175) rfl ?_
          exact k)
      obtain ⟨clq63, Arq63, qq63, Sq63, Nq63', Hq63, Gq63⟩ := id (hD2.ext c56.2)
      have iq63 : ¬ ((-x47) < 0 ∨ clq63.slots.size ≤ ((-x47)).toNatClampNeg) := inb_of Sq63 (own_r100 (own_x3 I47 hex47).1)
      have pre64 : ∀ t, Steps p.tables e below (T61.setTop (mkF m 177 #[.val (.long x45), .second, .val (.int p2), .val (.ref o3), s445, s545, s647, .val (.int ((c47 + (-1 : Int32)) + (-1 : Int32))), .val (.int (0 : Int32)), s947, .val (.int x47)] [(.int (own_tens.getD ((-x47)).toNatClampNeg 0)), (.int ((c47 + (-1 : Int32)) + (-1 : Int32))), (.ref o3)])) t → P t := fun t k => pre62 t (by
          refine X61.baloadBytes hx (j := (-x47)) (v := (.int (own_tens.getD ((-x47)).toNatClampNeg 0))) (by rw [e61]; exact Arq63.1) (State.isArrayOf_alike hZ.alike Arq63.2.1) Arq63.2.2 iq63 (Hq63.at iq63 (own_vget _ _)) (g := (mkF m 176 #[.val (.long x45), .second, .val (.int p2), .val (.ref o3), s445, s545, s647, .val (.int ((c47 + (-1 : Int32)) + (-1 : Int32))), .val (.int (0 : Int32)), s947, .val (.int x47)] [(.int (-x47)), (.ref d2), (.int ((c47 + (-1 : Int32)) + (-1 : Int32))), (.ref o3)])) rfl rfl (hb hby d18_176) _ ?_
          exact k)
      obtain ⟨clq65, Arq65, qq65, Sq65, Nq65', Hq65, Gq65⟩ := id V54
      obtain ⟨T66, h66, X66, e66, W66, st66⟩ := stB X61 hx hZ e61 Arq65 (j := ((c47 + (-1 : Int32)) + (-1 : Int32))) (inb_of Sq65 (own_in2 W I47 (own_j2 W I47 hex47 hc59).2 (own_x3 I47 hex47).1).1) (g := (mkF m 177 #[.val (.long x45), .second, .val (.int p2), .val (.ref o3), s445, s545, s647, .val (.int ((c47 + (-1 : Int32)) + (-1 : Int32))), .val (.int (0 : Int32)), s947, .val (.int x47)] [(.int (own_tens.getD ((-x47)).toNatClampNeg 0)), (.int ((c47 + (-1 : Int32)) + (-1 : Int32))), (.ref o3)])) rfl rfl (hb hby d18_177)
      have pre66 : ∀ t, Steps p.tables e below (T66.setTop (mkF m 178 #[.val (.long x45), .second, .val (.int p2), .val (.ref o3), s445, s545, s647, .val (.int ((c47 + (-1 : Int32)) + (-1 : Int32))), .val (.int (0 : Int32)), s947, .val (.int x47)] [])) t → P t := fun t k => pre64 t (st66 _ k)
      have V66 : Arv Z h66 o3 kv .byte zv (own_v ((D47.set ((c47 + (-1 : Int32))).toNatClampNeg (nar .byte (own_ones.getD ((-x47)).toNatClampNeg 0))).set (((c47 + (-1 : Int32)) + (-1 : Int32))).toNatClampNeg (nar .byte (own_tens.getD ((-x47)).toNatClampNeg 0)))) (.int 0) := own_vset (Arv.set Arq65 qq65 Sq65 Nq65' Hq65 Gq65 (fits_nar_byte _) W66 _ rfl (own_vlen (own_in2 W I47 (own_j2 W I47 hex47 hc59).2 (own_x3 I47 hex47).1).2))
      have c67 : n0 ≤ h66.size := Nat.le_trans c55 (Keep.of_wr W66).1
      have c68 : Old Z n0 h66 := c56.wr W66 g_o3
      have K69 : Keep h0 h66 [o3] := K57.wr W66 (Or.inl (List.mem_of_getElem? (i := 0) rfl))
      have N66 := Fr.snoc X66 N54 g_o3
      have pre70 : ∀ t, Steps p.tables e below (T66.setTop (mkF m 192 #[.val (.long x45), .second, .val (.int p2), .val (.ref o3), s445, s545, s647, .val (.int ((c47 + (-1 : Int32)) + (-1 : Int32))), .val (.int (0 : Int32)), s947, .val (.int x47)] [])) t → P t := fun t k => pre66 t (by
          refine XS.iload X66.here hx rfl (hb hby d18_178) rfl ?_
          refine XS.ifYes X66.here hx rfl (pc0 := 180) (pc' := 192) rfl (hb hby d18_180) rfl ((if0 _ _).trans (teq (rfl : (0 : Int32) = (0 : Int32))).1) (by decide) (by decide) ?_
          exact k)
      have Vf71 : Arv Z h66 o3 kv .byte zv (own_v (vs ++ (own_txt q0))) (.int 0) := own_vc V66 (own_zp (own_z2 W I47 hex47 hc59).2 hL hn hT)
      have pre72 : ∀ t, Steps p.tables e below (T66.setTop (mkF m 194 #[.val (.long x45), .second, .val (.int p2), .val (.ref o3), s445, s545, s647, .val (.int ((c47 + (-1 : Int32)) + (-1 : Int32))), .val (.int (0 : Int32)), s947, .val (.int x47)] [(.int ((c47 + (-1 : Int32)) + (-1 : Int32)))])) t → P t := fun t k => pre70 t (by
          refine XS.iload X66.here hx rfl (hb hby d18_192) rfl ?_
          exact k)
      obtain ⟨fs, hr, hrun, hended, hW, hsame⟩ := X66.leave (v := some (.int ((c47 + (-1 : Int32)) + (-1 : Int32)))) (fun h => by rw [Bd.returns] at h; cases h)
      refine ⟨_, _, fin _ (pre72 _ ?_), hrun, hended, _, _, rfl, ?_, ⟨_, rfl⟩, hW, hsame.mono (by decide) (by decide)⟩
      · show Steps p.tables e below (T66.setTop (mkF m 194 #[.val (.long x45), .second, .val (.int p2), .val (.ref o3), s445, s545, s647, .val (.int ((c47 + (-1 : Int32)) + (-1 : Int32))), .val (.int (0 : Int32)), s947, .val (.int x47)] [(.int ((c47 + (-1 : Int32)) + (-1 : Int32)))])) _
        exact retI X66 hx Bd.returns (hb hby d18_194) hr
      · show Q18 Z q0 p2 o3 kv zv vs h0 n0 _ T66.heap _
        rw [e66]
        exact ⟨((c47 + (-1 : Int32)) + (-1 : Int32)), rfl, N66, K69, Vf71⟩
    · have pre73 : ∀ t, Steps p.tables e below (T54.setTop (mkF m 192 #[.val (.long x45), .second, .val (.int p2), .val (.ref o3), s445, s545, s647, .val (.int (c47 + (-1 : Int32))), .val (.int (0 : Int32)), s947, .val (.int x47)] [])) t → P t := fun t k => pre58 t (by
          refine XS.icmpYes X54.here hx rfl (pc0 := 161) (pc' := 178) rfl (hb hby d18_161) rfl (flt hc59).2.1 (by decide) (by decide) ?_
          refine XS.iload X54.here hx rfl (hb hby d18_178) rfl ?_
          refine XS.ifYes X54.here hx rfl (pc0 := 180) (pc' := 192) rfl (hb hby d18_180) rfl ((if0 _ _).trans (teq (rfl : (0 : Int32) = (0 : Int32))).1) (by decide) (by decide) ?_
          exact k)
      have Vf74 : Arv Z h54 o3 kv .byte zv (own_v (vs ++ (own_txt q0))) (.int 0) := own_vc V54 (own_zp (own_z1 W I47 hex47 hc59).2 hL hn hT)
      have pre75 : ∀ t, Steps p.tables e below (T54.setTop (mkF m 194 #[.val (.long x45), .second, .val (.int p2), .val (.ref o3), s445, s545, s647, .val (.int (c47 + (-1 : Int32))), .val (.int (0 : Int32)), s947, .val (.int x47)] [(.int (c47 + (-1 : Int32)))])) t → P t := fun t k => pre73 t (by
          refine XS.iload X54.here hx rfl (hb hby d18_192) rfl ?_
          exact k)
      obtain ⟨fs, hr, hrun, hended, hW, hsame⟩ := X54.leave (v := some (.int (c47 + (-1 : Int32)))) (fun h => by rw [Bd.returns] at h; cases h)
      refine ⟨_, _, fin _ (pre75 _ ?_), hrun, hended, _, _, rfl, ?_, ⟨_, rfl⟩, hW, hsame.mono (by decide) (by decide)⟩
      · show Steps p.tables e below (T54.setTop (mkF m 194 #[.val (.long x45), .second, .val (.int p2), .val (.ref o3), s445, s545, s647, .val (.int (c47 + (-1 : Int32))), .val (.int (0 : Int32)), s947, .val (.int x47)] [(.int (c47 + (-1 : Int32)))])) _
        exact retI X54 hx Bd.returns (hb hby d18_194) hr
      · show Q18 Z q0 p2 o3 kv zv vs h0 n0 _ T54.heap _
        rw [e54]
        exact ⟨(c47 + (-1 : Int32)), rfl, N54, K57, Vf74⟩
theorem own_pd11 : parseMethodDescriptor "(J)I" = some ⟨[.long], some .int⟩ := by decide +kernel
theorem own_pd12 : parseMethodDescriptor "()Z" = some ⟨[], some .boolean⟩ := by decide +kernel
theorem own_pd13 : parseMethodDescriptor "(JI[B)I" = some ⟨[.long, .int, (.array .byte)], some .int⟩ := by decide +kernel
theorem d15_0 : decode jdk_68_method_33_code 0 = .ok (.aload_n 0, 1) := by decide +kernel
theorem d15_1 : decode jdk_68_method_33_code 1 = .ok (.getfield 79, 3) := by decide +kernel
theorem d15_4 : decode jdk_68_method_33_code 4 = .ok (.istore_n 3, 1) := by decide +kernel
theorem d15_5 : decode jdk_68_method_33_code 5 = .ok (.iload_n 3, 1) := by decide +kernel
theorem d15_6 : decode jdk_68_method_33_code 6 = .ok (.lload_n 1, 1) := by decide +kernel
theorem d15_7 : decode jdk_68_method_33_code 7 = .ok (.invokestatic 254, 3) := by decide +kernel
theorem d15_10 : decode jdk_68_method_33_code 10 = .ok (.iadd, 1) := by decide +kernel
theorem d15_11 : decode jdk_68_method_33_code 11 = .ok (.istore 4, 2) := by decide +kernel
theorem d15_13 : decode jdk_68_method_33_code 13 = .ok (.aload_n 0, 1) := by decide +kernel
theorem d15_14 : decode jdk_68_method_33_code 14 = .ok (.iload 4, 2) := by decide +kernel
theorem d15_16 : decode jdk_68_method_33_code 16 = .ok (.invokevirtual 100, 3) := by decide +kernel
theorem d15_19 : decode jdk_68_method_33_code 19 = .ok (.aload_n 0, 1) := by decide +kernel
theorem d15_20 : decode jdk_68_method_33_code 20 = .ok (.invokevirtual 83, 3) := by decide +kernel
theorem d15_23 : decode jdk_68_method_33_code 23 = .ok (.ifCond .eq 17, 3) := by decide +kernel
theorem d15_26 : decode jdk_68_method_33_code 26 = .ok (.lload_n 1, 1) := by decide +kernel
theorem d15_27 : decode jdk_68_method_33_code 27 = .ok (.iload 4, 2) := by decide +kernel
theorem d15_29 : decode jdk_68_method_33_code 29 = .ok (.aload_n 0, 1) := by decide +kernel
theorem d15_30 : decode jdk_68_method_33_code 30 = .ok (.getfield 15, 3) := by decide +kernel
theorem d15_33 : decode jdk_68_method_33_code 33 = .ok (.invokestatic 259, 3) := by decide +kernel
theorem d15_36 : decode jdk_68_method_33_code 36 = .ok (.pop, 1) := by decide +kernel
theorem d15_37 : decode jdk_68_method_33_code 37 = .ok (.goto 15, 3) := by decide +kernel
theorem d15_52 : decode jdk_68_method_33_code 52 = .ok (.aload_n 0, 1) := by decide +kernel
theorem d15_53 : decode jdk_68_method_33_code 53 = .ok (.iload 4, 2) := by decide +kernel
theorem d15_55 : decode jdk_68_method_33_code 55 = .ok (.putfield 79, 3) := by decide +kernel
theorem d15_58 : decode jdk_68_method_33_code 58 = .ok (.aload_n 0, 1) := by decide +kernel
theorem d15_59 : decode jdk_68_method_33_code 59 = .ok (.areturn, 1) := by decide +kernel
theorem pn_15 : plainName "java/lang/AbstractStringBuilder" = true := by first | (simp [plainName, overriddenIn]; done) | decide +kernel
theorem ef_15 (m : MethodId) (o0 : Addr) (q1 : Int64) : entryFrame m #[(.ref o0), (.long q1)] 5 = mkF m 0 #[.val (.ref o0), .val (.long q1), .second, .unset, .unset] [] := by first | (simp [entryFrame, mkF, argsToLocals, Value.category]; done) | rfl
def Q15 (Z : State) (o0 : Addr) (q1 : Int64) (bv : Addr) (kv : ClassId) (zv : Int32) (vs : List Int32) (nv : Int32) (h0 : Heap) (n0 : Nat) (v : Option Value) (h : Heap) (L : List Loc) : Prop := ∃ bn : Addr, ∃ kn : ClassId, ∃ zn : Int32, v = some (.ref o0) ∧ Fr n0 L ∧ Keep h0 h [o0, bv] ∧ Exa Z h o0 "java/lang/StringBuilder" ∧ Fld Z h o0 "java/lang/AbstractStringBuilder" "coder" "B" (.int (0 : Int32)) ∧ Fld Z h o0 "java/lang/AbstractStringBuilder" "value" "[B" (.ref bn) ∧ Fld Z h o0 "java/lang/AbstractStringBuilder" "count" "I" (.int (nv + (own_f16 q1))) ∧ Arv Z h bn kn .byte zn (own_v (vs ++ (own_txt q1))) (.int 0) ∧ Exa Z h bn "[B" ∧ n0 ≤ bn ∧ (bn = bv ∨ h0.size ≤ bn) ∧ (own_B zn (vs ++ (own_txt q1)))
set_option maxRecDepth 65536 in
set_option maxHeartbeats 40000000 in
theorem rm15 (l : Launch) (Z : State) (a0 : Array Value) (hw : ∀ d ∈ tables_1, d.before a0 Z = true) (ws : List Jvm.Cond) (o0 : Addr) (q1 : Int64) (bv : Addr) (kv : ClassId) (zv : Int32) (vs : List Int32) (nv : Int32) (h0 : Heap) (n0 : Nat) (Z0 : n0 ≤ h0.size) (OLD0 : Old Z n0 h0) (Pr_0 : Exa Z h0 o0 "java/lang/StringBuilder") (Pr_1 : Fld Z h0 o0 "java/lang/AbstractStringBuilder" "coder" "B" (.int (0 : Int32))) (Pr_2 : Fld Z h0 o0 "java/lang/AbstractStringBuilder" "value" "[B" (.ref bv)) (Pr_3 : Fld Z h0 o0 "java/lang/AbstractStringBuilder" "count" "I" (.int nv)) (Pr_4 : Arv Z h0 bv kv .byte zv (own_v vs) (.int 0)) (Pr_5 : Exa Z h0 bv "[B") (g_o0 : n0 ≤ o0) (g_bv : n0 ≤ bv) (HC : own_CC Z) (HS : own_S zv vs nv (own_f16 q1) (own_txt q1)) :
    MetFree l (⟨"java/lang/AbstractStringBuilder", "append", "(J)Ljava/lang/AbstractStringBuilder;"⟩ : MethodName) (head1 (Jvm.Cond.code (⟨"java/lang/AbstractStringBuilder", "append", "(J)Ljava/lang/AbstractStringBuilder;"⟩ : MethodName) jdk_68_method_33_code 5 (some (.object "java/lang/AbstractStringBuilder")) :: ws) ({ frames := 4, cells := 1, slots := 220, locals := 62 } : Room)) (fun a U => a = #[(.ref o0), (.long q1)] ∧ Z.Warmed39 U.vm ∧ U.heap = h0) (fun _ _ _ _ _ => True) (fun _ U o U' => ∃ v L, o = .returned v ∧ Q15 Z o0 q1 bv kv zv vs nv h0 n0 v U'.heap L ∧ FrameEnd U o U' L ({ frames := 4, cells := 1, slots := 220, locals := 62 } : Room).cells ({ frames := 4, cells := 1, slots := 220, locals := 62 } : Room).slots) := by
  refine MetFree.of_bodySF (plainFor_of_name pn_15) hisR ?_
  intro p e s m args below meth c s₁ Bd hml0 hP hK
  obtain ⟨rfl, hZ, hh⟩ := hP
  have hx := Bd.exec
  have hby := Bd.bytes
  have hml : c.maxLocals = 5 := hml0
  have hown : s.vm.findClass "java/lang/AbstractStringBuilder" = some m.cls := findClass_of_methodNamed Bd.named
  have hnm := (name_of_methodNamed Bd.named Bd.method).1
  have X0 : Stand p l e ({ frames := 4, cells := 1, slots := 220, locals := 62 } : Room) s m #[(.ref o0), (.long q1)] below meth c s₁ [] 0 0 := Stand.of_body Bd
  have e0 : s₁.heap = h0 := by rw [← hh, Bd.state]; rfl
  have N0 := Fr.nil n0
  obtain ⟨P, pre0, fin⟩ : ∃ P : State → Prop, (∀ t, Steps p.tables e below (s₁.setTop (mkF m 0 #[.val (.ref o0), .val (.long q1), .second, .unset, .unset] [])) t → P t) ∧ (∀ t, P t → Steps p.tables e below (s₁.setTop (entryFrame m #[(.ref o0), (.long q1)] 5)) t) := ⟨fun t => Steps p.tables e below (s₁.setTop (entryFrame m #[(.ref o0), (.long q1)] 5)) t, fun t k => castTop (ef_15 m o0 q1) k, fun t k => k⟩
  have K0 : Keep h0 h0 [o0, bv] := Keep.refl _ _
  have pre1 : ∀ t, Steps p.tables e below (s₁.setTop (mkF m 1 #[.val (.ref o0), .val (.long q1), .second, .unset, .unset] [(.ref o0)])) t → P t := fun t k => pre0 t (by
      refine XS.aloadN X0.here hx rfl (hb hby d15_0) rfl rfl ?_
      exact k)
  obtain ⟨T2, X2, e2, st2⟩ := getF X0 hx hZ hown (host := "") (Or.inl (hi hw 71 rfl)) Via.refl e0 Pr_3 (g := (mkF m 1 #[.val (.ref o0), .val (.long q1), .second, .unset, .unset] [(.ref o0)])) rfl rfl (hb hby d15_1)
  have pre2 : ∀ t, Steps p.tables e below (T2.setTop (mkF m 4 #[.val (.ref o0), .val (.long q1), .second, .unset, .unset] [(.int nv)])) t → P t := fun t k => pre1 t (st2 _ k)
  have pre3 : ∀ t, Steps p.tables e below (T2.setTop (mkF m 7 #[.val (.ref o0), .val (.long q1), .second, .val (.int nv), .unset] [(.long q1), (.int nv)])) t → P t := fun t k => pre2 t (by
      refine XS.istoreN X2.here hx rfl (hb hby d15_4) rfl (l' := #[.val (.ref o0), .val (.long q1), .second, .val (.int nv), .unset]) rfl ?_
      refine XS.iloadN X2.here hx rfl (hb hby d15_5) rfl ?_
      refine XS.lloadN X2.here hx rfl (hb hby d15_6) rfl ?_
      exact k)
  obtain ⟨_, _, ⟨T4, L4, k4, n4⟩, -, X4, ⟨Lc4, hQ4, l4, y4, z4⟩, st4⟩ := Jvm.LawKit.callS X2 hx (y := (⟨"java/lang/Long", "stringSize", "(J)I"⟩ : MethodName)) hown (mvT hZ (hi hw 107 rfl)) (mvT hZ (hi hw 108 rfl)) (mvT hZ (hi hw 109 rfl)) (mvT hZ (hi hw 110 rfl)) (by decide) (backOf (W := 1) (rm16 l Z a0 hw [] q1 h0 n0 Z0 ) hZ (hi hw 110 rfl) (hi hw 109 rfl) (by decide) (by decide)) (g := (mkF m 7 #[.val (.ref o0), .val (.long q1), .second, .val (.int nv), .unset] [(.long q1), (.int nv)])) rfl (by rw [hml]; rfl) (argsL := [(.long q1)]) (rest := [(.int nv)]) (lenOf own_pd11 rfl) rfl (by show 2 * 0 + _ ≤ _; exact Nat.le_of_eq rfl) (hb hby d15_7) (fun _ _ => ⟨rfl, e2, (by decide : 0 + 0 ≤ _), (by decide : 0 + 0 ≤ _)⟩)
  dsimp only [Pt.U, Pt.locs, Pt.cells, Pt.slots] at X4 l4 y4 z4 st4 hQ4
  subst l4 y4 z4
  obtain ⟨rfl, N4q, e4⟩ := hQ4
  have N4 := Fr.app N0 N4q
  have pre4 : ∀ t, Steps p.tables e below (T4.setTop (mkF m 10 #[.val (.ref o0), .val (.long q1), .second, .val (.int nv), .unset] [(.int (own_f16 q1)), (.int nv)])) t → P t := fun t k => pre3 t (st4 _ k)
  have pre5 : ∀ t, Steps p.tables e below (T4.setTop (mkF m 16 #[.val (.ref o0), .val (.long q1), .second, .val (.int nv), .val (.int (nv + (own_f16 q1)))] [(.int (nv + (own_f16 q1))), (.ref o0)])) t → P t := fun t k => pre4 t (by
      refine XS.iadd X4.here hx rfl (hb hby d15_10) rfl ?_
      refine XS.istore X4.here hx rfl (hb hby d15_11) rfl (l' := #[.val (.ref o0), .val (.long q1), .second, .val (.int nv), .val (.int (nv + (own_f16 q1)))]) rfl ?_
      refine XS.aloadN X4.here hx rfl (hb hby d15_13) rfl rfl ?_
      refine XS.iload X4.here hx rfl (hb hby d15_14) rfl ?_
      exact k)
  obtain ⟨cq6, kq6, q6a, q6b, q6c⟩ := isOf hZ e4 Pr_0
  obtain ⟨_, _, ⟨T6, L6, k6, n6⟩, -, X6, ⟨Lc6, hQ6, l6, y6, z6⟩, st6⟩ := X4.virtualBack hx (y := (⟨"java/lang/AbstractStringBuilder", "ensureCapacityInternal", "(I)V"⟩ : MethodName)) (z := (⟨"java/lang/AbstractStringBuilder", "ensureCapacityInternal", "(I)V"⟩ : MethodName)) hown (mvT hZ (hi hw 73 rfl)) (mvT hZ (own_decl (hi hw 74 rfl) (hi hw 77 rfl))) (notFace_of_selects (args := #[]) (mvT hZ (hi hw 76 rfl))) (mvT hZ (hi hw 76 rfl)) (mvT hZ (hi hw 74 rfl)) (by decide) (backOf (W := 0) (rm10 l Z a0 hw [] o0 (nv + (own_f16 q1)) bv kv zv vs nv h0 n0 Z0 OLD0 Pr_0 Pr_1 Pr_2 Pr_3 Pr_4 Pr_5 g_o0 g_bv (own_SE HS)) hZ (hi hw 77 rfl) (hi hw 32 rfl) (by decide) (by decide)) q6a q6c (g := (mkF m 16 #[.val (.ref o0), .val (.long q1), .second, .val (.int nv), .val (.int (nv + (own_f16 q1)))] [(.int (nv + (own_f16 q1))), (.ref o0)])) rfl (by rw [hml]; rfl) (Steps.refl _) (argsL := [(.int (nv + (own_f16 q1)))]) (rest := []) (lenOf own_pd8 rfl) rfl (by show 2 * 0 + _ ≤ _; exact Nat.le_of_eq rfl) (hb hby d15_16) (fun _ _ => ⟨rfl, e4, (by decide : 0 + 1 ≤ _), (by decide : 0 + 220 ≤ _)⟩)
  dsimp only [Pt.U, Pt.locs, Pt.cells, Pt.slots] at X6 l6 y6 z6 st6 hQ6
  subst l6 y6 z6
  obtain ⟨bn_6, kn_6, zn_6, rfl, N6q, K6, FF6_0, FF6_1, FF6_2, FF6_3, FF6_4, FF6_5, FF6_6, FF6_7, FF6_8⟩ := hQ6
  have c7 : n0 ≤ T6.heap.size := Nat.le_trans Z0 K6.1
  have c8 : Old Z n0 T6.heap := OLD0.keep K6 (allS (P := fun x => n0 ≤ x) g_o0 all0)
  have c9 : Exa Z T6.heap o0 "java/lang/StringBuilder" := Pr_0.keep K6
  have c10 : Arv Z T6.heap bv kv .byte zv (own_v vs) (.int 0) := Pr_4.keep K6 (ninS (ne_exa Pr_5 Pr_0 (by decide)) nin0)
  have c11 : Exa Z T6.heap bv "[B" := Pr_5.keep K6
  have K12 : Keep h0 T6.heap [o0, bv] := K0.trans K6 (allS (P := fun x => x ∈ ([o0, bv] : List Addr) ∨ h0.size ≤ x) (Or.inl (List.mem_of_getElem? (i := 0) rfl)) all0)
  have g_bn_6 := FF6_6
  have hor_6 : bn_6 = bv ∨ h0.size ≤ bn_6 := FF6_7
  have mi_bn_6 : bn_6 ∈ ([o0, bv] : List Addr) ∨ h0.size ≤ bn_6 := own_mi hor_6 K0.1 (Or.inl (List.mem_of_getElem? (i := 1) rfl))
  have hz_6 : own_B zn_6 vs ∧ (nv + (own_f16 q1)).toInt ≤ zn_6.toInt := FF6_8
  have N6 := Fr.app N4 N6q
  have pre6 : ∀ t, Steps p.tables e below (T6.setTop (mkF m 19 #[.val (.ref o0), .val (.long q1), .second, .val (.int nv), .val (.int (nv + (own_f16 q1)))] [])) t → P t := fun t k => pre5 t (st6.trans k)
  have pre13 : ∀ t, Steps p.tables e below (T6.setTop (mkF m 20 #[.val (.ref o0), .val (.long q1), .second, .val (.int nv), .val (.int (nv + (own_f16 q1)))] [(.ref o0)])) t → P t := fun t k => pre6 t (by
      refine XS.aloadN X6.here hx rfl (hb hby d15_19) rfl rfl ?_
      exact k)
  obtain ⟨cq14, kq14, q14a, q14b, q14c⟩ := isOf hZ rfl FF6_0
  obtain ⟨_, _, ⟨T14, L14, k14, n14⟩, -, X14, ⟨Lc14, hQ14, l14, y14, z14⟩, st14⟩ := X6.virtualBack hx (y := (⟨"java/lang/AbstractStringBuilder", "isLatin1", "()Z"⟩ : MethodName)) (z := (⟨"java/lang/AbstractStringBuilder", "isLatin1", "()Z"⟩ : MethodName)) hown (mvT hZ (hi hw 112 rfl)) (mvT hZ (hi hw 113 rfl)) (notFace_of_selects (args := #[]) (mvT hZ (hi hw 115 rfl))) (mvT hZ (hi hw 115 rfl)) (mvT hZ (hi hw 114 rfl)) (by decide) (backOf (W := 0) (rm17 l Z a0 hw [] o0 T6.heap n0 c7 c8 FF6_1 HC) hZ (hi hw 116 rfl) (hi hw 32 rfl) (by decide) (by decide)) q14a q14c (g := (mkF m 20 #[.val (.ref o0), .val (.long q1), .second, .val (.int nv), .val (.int (nv + (own_f16 q1)))] [(.ref o0)])) rfl (by rw [hml]; rfl) (Steps.refl _) (argsL := []) (rest := []) (lenOf own_pd12 rfl) rfl (by show 2 * 0 + _ ≤ _; exact Nat.le_of_eq rfl) (hb hby d15_20) (fun _ _ => ⟨rfl, rfl, (by decide : 1 + 0 ≤ _), (by decide : 220 + 0 ≤ _)⟩)
  dsimp only [Pt.U, Pt.locs, Pt.cells, Pt.slots] at X14 l14 y14 z14 st14 hQ14
  subst l14 y14 z14
  obtain ⟨rfl, N14q, e14⟩ := hQ14
  have N14 := Fr.app N6 N14q
  have pre14 : ∀ t, Steps p.tables e below (T14.setTop (mkF m 23 #[.val (.ref o0), .val (.long q1), .second, .val (.int nv), .val (.int (nv + (own_f16 q1)))] [(.int (1 : Int32))])) t → P t := fun t k => pre13 t (st14.trans k)
  have pre15 : ∀ t, Steps p.tables e below (T14.setTop (mkF m 30 #[.val (.ref o0), .val (.long q1), .second, .val (.int nv), .val (.int (nv + (own_f16 q1)))] [(.ref o0), (.int (nv + (own_f16 q1))), (.long q1)])) t → P t := fun t k => pre14 t (by
      refine XS.ifNo X14.here hx rfl (hb hby d15_23) rfl ((if0 _ _).trans (feq (by decide : ¬ ((1 : Int32) = (0 : Int32)))).1) ?_
      refine XS.lloadN X14.here hx rfl (hb hby d15_26) rfl ?_
      refine XS.iload X14.here hx rfl (hb hby d15_27) rfl ?_
      refine XS.aloadN X14.here hx rfl (hb hby d15_29) rfl rfl ?_
      exact k)
  obtain ⟨T16, X16, e16, st16⟩ := getF X14 hx hZ hown (host := "") (Or.inl (hi hw 38 rfl)) Via.refl e14 FF6_2 (g := (mkF m 30 #[.val (.ref o0), .val (.long q1), .second, .val (.int nv), .val (.int (nv + (own_f16 q1)))] [(.ref o0), (.int (nv + (own_f16 q1))), (.long q1)])) rfl rfl (hb hby d15_30)
  have pre16 : ∀ t, Steps p.tables e below (T16.setTop (mkF m 33 #[.val (.ref o0), .val (.long q1), .second, .val (.int nv), .val (.int (nv + (own_f16 q1)))] [(.ref bn_6), (.int (nv + (own_f16 q1))), (.long q1)])) t → P t := fun t k => pre15 t (st16 _ k)
  obtain ⟨_, _, ⟨T17, L17, k17, n17⟩, -, X17, ⟨Lc17, hQ17, l17, y17, z17⟩, st17⟩ := Jvm.LawKit.callS X16 hx (y := (⟨"java/lang/Long", "getChars", "(JI[B)I"⟩ : MethodName)) hown (mvT hZ (hi hw 117 rfl)) (mvT hZ (hi hw 118 rfl)) (mvT hZ (hi hw 109 rfl)) (mvT hZ (hi hw 119 rfl)) (by decide) (backOf (W := 0) (rm18 l Z a0 hw [] q1 (nv + (own_f16 q1)) bn_6 kn_6 zn_6 vs T6.heap n0 c7 c8 FF6_4 g_bn_6 HC (own_SG HS hz_6)) hZ (hi hw 119 rfl) (hi hw 109 rfl) (by decide) (by decide)) (g := (mkF m 33 #[.val (.ref o0), .val (.long q1), .second, .val (.int nv), .val (.int (nv + (own_f16 q1)))] [(.ref bn_6), (.int (nv + (own_f16 q1))), (.long q1)])) rfl (by rw [hml]; rfl) (argsL := [(.long q1), (.int (nv + (own_f16 q1))), (.ref bn_6)]) (rest := []) (lenOf own_pd13 rfl) rfl (by show 2 * 0 + _ ≤ _; exact Nat.le_of_eq rfl) (hb hby d15_33) (fun _ _ => ⟨rfl, e16, (by decide : 1 + 0 ≤ _), (by decide : 220 + 0 ≤ _)⟩)
  dsimp only [Pt.U, Pt.locs, Pt.cells, Pt.slots] at X17 l17 y17 z17 st17 hQ17
  subst l17 y17 z17
  obtain ⟨cn_17, rfl, N17q, K17, FF17_0⟩ := hQ17
  have c18 : n0 ≤ T17.heap.size := Nat.le_trans c7 K17.1
  have c19 : Old Z n0 T17.heap := c8.keep K17 (allS (P := fun x => n0 ≤ x) g_bn_6 all0)
  have c20 : Exa Z T17.heap o0 "java/lang/StringBuilder" := FF6_0.keep K17
  have c21 : Exa Z T17.heap bv "[B" := c11.keep K17
  have c22 : Fld Z T17.heap o0 "java/lang/AbstractStringBuilder" "coder" "B" (.int (0 : Int32)) := FF6_1.keep K17 (ninS (own_neOr hor_6 (ne_exa FF6_0 c11 (by decide)) Pr_3.lt) nin0)
  have c23 : Fld Z T17.heap o0 "java/lang/AbstractStringBuilder" "value" "[B" (.ref bn_6) := FF6_2.keep K17 (ninS (own_neOr hor_6 (ne_exa FF6_0 c11 (by decide)) Pr_3.lt) nin0)
  have c24 : Fld Z T17.heap o0 "java/lang/AbstractStringBuilder" "count" "I" (.int nv) := FF6_3.keep K17 (ninS (own_neOr hor_6 (ne_exa FF6_0 c11 (by decide)) Pr_3.lt) nin0)
  have c25 : Exa Z T17.heap bn_6 "[B" := FF6_5.keep K17
  have K26 : Keep h0 T17.heap [o0, bv] := K12.trans K17 (allS (P := fun x => x ∈ ([o0, bv] : List Addr) ∨ h0.size ≤ x) (mi_bn_6) all0)
  have N17 := Fr.app N14 N17q
  have pre17 : ∀ t, Steps p.tables e below (T17.setTop (mkF m 36 #[.val (.ref o0), .val (.long q1), .second, .val (.int nv), .val (.int (nv + (own_f16 q1)))] [(.int cn_17)])) t → P t := fun t k => pre16 t (st17 _ k)
  have pre27 : ∀ t, Steps p.tables e below (T17.setTop (mkF m 55 #[.val (.ref o0), .val (.long q1), .second, .val (.int nv), .val (.int (nv + (own_f16 q1)))] [(.int (nv + (own_f16 q1))), (.ref o0)])) t → P t := fun t k => pre17 t (by
      refine XS.pop X17.here hx rfl (hb hby d15_36) rfl rfl ?_
      refine XS.goto X17.here hx rfl (pc0 := 37) (pc' := 52) rfl (hb hby d15_37) (by decide) (by decide) ?_
      refine XS.aloadN X17.here hx rfl (hb hby d15_52) rfl rfl ?_
      refine XS.iload X17.here hx rfl (hb hby d15_53) rfl ?_
      exact k)
  obtain ⟨T28, h28, X28, e28, W28, st28⟩ := putF X17 hx hZ hown (host := "") (Or.inl (hi hw 71 rfl)) Via.refl rfl c24 c20 (Or.inl (hi hw 72 rfl)) (hi hw 23 rfl) (ty := .int) (by decide) rfl rfl (g := (mkF m 55 #[.val (.ref o0), .val (.long q1), .second, .val (.int nv), .val (.int (nv + (own_f16 q1)))] [(.int (nv + (own_f16 q1))), (.ref o0)])) rfl rfl (hb hby d15_55)
  have pre28 : ∀ t, Steps p.tables e below (T28.setTop (mkF m 58 #[.val (.ref o0), .val (.long q1), .second, .val (.int nv), .val (.int (nv + (own_f16 q1)))] [])) t → P t := fun t k => pre27 t (st28 _ k)
  have Fw28 := c24.same W28
  have c29 : n0 ≤ h28.size := Nat.le_trans c18 (Keep.of_wr W28).1
  have c30 : Old Z n0 h28 := c19.wr W28 g_o0
  have c31 : Exa Z h28 o0 "java/lang/StringBuilder" := c20.wr W28
  have c32 : Exa Z h28 bv "[B" := c21.wr W28
  have c33 : Fld Z h28 o0 "java/lang/AbstractStringBuilder" "coder" "B" (.int (0 : Int32)) := c22.other W28 (Or.inr (slot_ne (Or.inl (hi hw 41 rfl)) (Or.inl (hi hw 72 rfl)) (by decide) (t := .byte) (t' := .int) (by decide) (by decide)))
  have c34 : Fld Z h28 o0 "java/lang/AbstractStringBuilder" "value" "[B" (.ref bn_6) := c23.other W28 (Or.inr (slot_ne (Or.inl (hi hw 39 rfl)) (Or.inl (hi hw 72 rfl)) (by decide) (t := (.array .byte)) (t' := .int) (by decide) (by decide)))
  have c35 : Exa Z h28 bn_6 "[B" := c25.wr W28
  have c36 : Arv Z h28 bn_6 kn_6 .byte zn_6 (own_v (vs ++ (own_txt q1))) (.int 0) := FF17_0.other W28 (Ne.symm (own_neOr hor_6 (ne_exa c20 c21 (by decide)) Pr_3.lt))
  have K37 : Keep h0 h28 [o0, bv] := K26.wr W28 (Or.inl (List.mem_of_getElem? (i := 0) rfl))
  have N28 := Fr.snoc X28 N17 g_o0
  have pre38 : ∀ t, Steps p.tables e below (T28.setTop (mkF m 59 #[.val (.ref o0), .val (.long q1), .second, .val (.int nv), .val (.int (nv + (own_f16 q1)))] [(.ref o0)])) t → P t := fun t k => pre28 t (by
      refine XS.aloadN X28.here hx rfl (hb hby d15_58) rfl rfl ?_
      exact k)
  obtain ⟨fs, hr, hrun, hended, hW, hsame⟩ := X28.leave (v := some (.ref o0)) (fun h => by rw [Bd.returns] at h; cases h)
  refine ⟨_, _, fin _ (pre38 _ ?_), hrun, hended, _, _, rfl, ?_, ⟨_, rfl⟩, hW, hsame.mono (by decide) (by decide)⟩
  · show Steps p.tables e below (T28.setTop (mkF m 59 #[.val (.ref o0), .val (.long q1), .second, .val (.int nv), .val (.int (nv + (own_f16 q1)))] [(.ref o0)])) _
    jvm_step X28.here [X28.here.top, hx, (hb hby d15_59), X28.method', Bd.returns, Value.isRef, FieldType.isReference]
    first | (intro acts; rw [hr _ acts rfl rfl rfl]) | rw [hr _ _ rfl rfl rfl]
    exact Steps.refl _
  · show Q15 Z o0 q1 bv kv zv vs nv h0 n0 _ T28.heap _
    rw [e28]
    exact ⟨bn_6, kn_6, zn_6, rfl, N28, K37, c31, c33, c34, Fw28, c36, c35, g_bn_6, hor_6, (own_Sz HS hz_6)⟩
theorem own_pd14 : parseMethodDescriptor "(J)Ljava/lang/AbstractStringBuilder;" = some ⟨[.long], some (.object "java/lang/AbstractStringBuilder")⟩ := by decide +kernel
theorem d14_0 : decode jdk_67_method_16_code 0 = .ok (.aload_n 0, 1) := by decide +kernel
theorem d14_1 : decode jdk_67_method_16_code 1 = .ok (.lload_n 1, 1) := by decide +kernel
theorem d14_2 : decode jdk_67_method_16_code 2 = .ok (.invokespecial 56, 3) := by decide +kernel
theorem d14_5 : decode jdk_67_method_16_code 5 = .ok (.pop, 1) := by decide +kernel
theorem d14_6 : decode jdk_67_method_16_code 6 = .ok (.aload_n 0, 1) := by decide +kernel
theorem d14_7 : decode jdk_67_method_16_code 7 = .ok (.areturn, 1) := by decide +kernel
theorem pn_14 : plainName "java/lang/StringBuilder" = true := by first | (simp [plainName, overriddenIn]; done) | decide +kernel
theorem ef_14 (m : MethodId) (o0 : Addr) (q1 : Int64) : entryFrame m #[(.ref o0), (.long q1)] 3 = mkF m 0 #[.val (.ref o0), .val (.long q1), .second] [] := by first | (simp [entryFrame, mkF, argsToLocals, Value.category]; done) | rfl
def Q14 (Z : State) (o0 : Addr) (q1 : Int64) (bv : Addr) (kv : ClassId) (zv : Int32) (vs : List Int32) (nv : Int32) (h0 : Heap) (n0 : Nat) (v : Option Value) (h : Heap) (L : List Loc) : Prop := ∃ bn : Addr, ∃ kn : ClassId, ∃ zn : Int32, v = some (.ref o0) ∧ Fr n0 L ∧ Keep h0 h [o0, bv] ∧ Exa Z h o0 "java/lang/StringBuilder" ∧ Fld Z h o0 "java/lang/AbstractStringBuilder" "coder" "B" (.int (0 : Int32)) ∧ Fld Z h o0 "java/lang/AbstractStringBuilder" "value" "[B" (.ref bn) ∧ Fld Z h o0 "java/lang/AbstractStringBuilder" "count" "I" (.int (nv + (own_f16 q1))) ∧ Arv Z h bn kn .byte zn (own_v (vs ++ (own_txt q1))) (.int 0) ∧ Exa Z h bn "[B" ∧ n0 ≤ bn ∧ (bn = bv ∨ h0.size ≤ bn) ∧ (own_B zn (vs ++ (own_txt q1)))
set_option maxRecDepth 65536 in
set_option maxHeartbeats 40000000 in
theorem rm14 (l : Launch) (Z : State) (a0 : Array Value) (hw : ∀ d ∈ tables_1, d.before a0 Z = true) (ws : List Jvm.Cond) (o0 : Addr) (q1 : Int64) (bv : Addr) (kv : ClassId) (zv : Int32) (vs : List Int32) (nv : Int32) (h0 : Heap) (n0 : Nat) (Z0 : n0 ≤ h0.size) (OLD0 : Old Z n0 h0) (Pr_0 : Exa Z h0 o0 "java/lang/StringBuilder") (Pr_1 : Fld Z h0 o0 "java/lang/AbstractStringBuilder" "coder" "B" (.int (0 : Int32))) (Pr_2 : Fld Z h0 o0 "java/lang/AbstractStringBuilder" "value" "[B" (.ref bv)) (Pr_3 : Fld Z h0 o0 "java/lang/AbstractStringBuilder" "count" "I" (.int nv)) (Pr_4 : Arv Z h0 bv kv .byte zv (own_v vs) (.int 0)) (Pr_5 : Exa Z h0 bv "[B") (g_o0 : n0 ≤ o0) (g_bv : n0 ≤ bv) (HC : own_CC Z) (HS : own_S zv vs nv (own_f16 q1) (own_txt q1)) :
    MetFree l (⟨"java/lang/StringBuilder", "append", "(J)Ljava/lang/StringBuilder;"⟩ : MethodName) (head1 (Jvm.Cond.code (⟨"java/lang/StringBuilder", "append", "(J)Ljava/lang/StringBuilder;"⟩ : MethodName) jdk_67_method_16_code 3 (some (.object "java/lang/StringBuilder")) :: ws) ({ frames := 5, cells := 1, slots := 220, locals := 78 } : Room)) (fun a U => a = #[(.ref o0), (.long q1)] ∧ Z.Warmed39 U.vm ∧ U.heap = h0) (fun _ _ _ _ _ => True) (fun _ U o U' => ∃ v L, o = .returned v ∧ Q14 Z o0 q1 bv kv zv vs nv h0 n0 v U'.heap L ∧ FrameEnd U o U' L ({ frames := 5, cells := 1, slots := 220, locals := 78 } : Room).cells ({ frames := 5, cells := 1, slots := 220, locals := 78 } : Room).slots) := by
  refine MetFree.of_bodySF (plainFor_of_name pn_14) hisR ?_
  intro p e s m args below meth c s₁ Bd hml0 hP hK
  obtain ⟨rfl, hZ, hh⟩ := hP
  have hx := Bd.exec
  have hby := Bd.bytes
  have hml : c.maxLocals = 3 := hml0
  have hown : s.vm.findClass "java/lang/StringBuilder" = some m.cls := findClass_of_methodNamed Bd.named
  have hnm := (name_of_methodNamed Bd.named Bd.method).1
  have X0 : Stand p l e ({ frames := 5, cells := 1, slots := 220, locals := 78 } : Room) s m #[(.ref o0), (.long q1)] below meth c s₁ [] 0 0 := Stand.of_body Bd
  have e0 : s₁.heap = h0 := by rw [← hh, Bd.state]; rfl
  have N0 := Fr.nil n0
  obtain ⟨P, pre0, fin⟩ : ∃ P : State → Prop, (∀ t, Steps p.tables e below (s₁.setTop (mkF m 0 #[.val (.ref o0), .val (.long q1), .second] [])) t → P t) ∧ (∀ t, P t → Steps p.tables e below (s₁.setTop (entryFrame m #[(.ref o0), (.long q1)] 3)) t) := ⟨fun t => Steps p.tables e below (s₁.setTop (entryFrame m #[(.ref o0), (.long q1)] 3)) t, fun t k => castTop (ef_14 m o0 q1) k, fun t k => k⟩
  have K0 : Keep h0 h0 [o0, bv] := Keep.refl _ _
  have pre1 : ∀ t, Steps p.tables e below (s₁.setTop (mkF m 2 #[.val (.ref o0), .val (.long q1), .second] [(.long q1), (.ref o0)])) t → P t := fun t k => pre0 t (by
      refine XS.aloadN X0.here hx rfl (hb hby d14_0) rfl rfl ?_
      refine XS.lloadN X0.here hx rfl (hb hby d14_1) rfl ?_
      exact k)
  obtain ⟨_, _, ⟨T2, L2, k2, n2⟩, -, X2, ⟨Lc2, hQ2, l2, y2, z2⟩, st2⟩ := superBack X0 hx hZ (y := (⟨"java/lang/AbstractStringBuilder", "append", "(J)Ljava/lang/AbstractStringBuilder;"⟩ : MethodName)) hown (hi hw 103 rfl) (own_same (hi hw 115 rfl) (hi hw 106 rfl) rfl (by decide)) (hi hw 104 rfl) (hi hw 55 rfl) (by decide) (backOf (W := 0) (rm15 l Z a0 hw [] o0 q1 bv kv zv vs nv h0 n0 Z0 OLD0 Pr_0 Pr_1 Pr_2 Pr_3 Pr_4 Pr_5 g_o0 g_bv HC HS) hZ (hi hw 106 rfl) (hi hw 32 rfl) (by decide) (by decide)) e0 (Ins.self Pr_0) (g := (mkF m 2 #[.val (.ref o0), .val (.long q1), .second] [(.long q1), (.ref o0)])) rfl (by rw [hml]; rfl) (hi hw 106 rfl) (argsL := [(.long q1)]) (rest := []) (lenOf own_pd14 rfl) rfl (by show 2 * 0 + _ ≤ _; exact Nat.le_of_eq rfl) (hb hby d14_2) (fun _ _ => ⟨rfl, e0, (by decide : 0 + 1 ≤ _), (by decide : 0 + 220 ≤ _)⟩)
  dsimp only [Pt.U, Pt.locs, Pt.cells, Pt.slots] at X2 l2 y2 z2 st2 hQ2
  subst l2 y2 z2
  obtain ⟨bn_2, kn_2, zn_2, rfl, N2q, K2, FF2_0, FF2_1, FF2_2, FF2_3, FF2_4, FF2_5, FF2_6, FF2_7, FF2_8⟩ := hQ2
  have c3 : n0 ≤ T2.heap.size := Nat.le_trans Z0 K2.1
  have c4 : Old Z n0 T2.heap := OLD0.keep K2 (allS (P := fun x => n0 ≤ x) g_o0 (allS (P := fun x => n0 ≤ x) g_bv all0))
  have c5 : Exa Z T2.heap o0 "java/lang/StringBuilder" := Pr_0.keep K2
  have c6 : Exa Z T2.heap bv "[B" := Pr_5.keep K2
  have K7 : Keep h0 T2.heap [o0, bv] := K0.trans K2 (allS (P := fun x => x ∈ ([o0, bv] : List Addr) ∨ h0.size ≤ x) (Or.inl (List.mem_of_getElem? (i := 0) rfl)) (allS (P := fun x => x ∈ ([o0, bv] : List Addr) ∨ h0.size ≤ x) (Or.inl (List.mem_of_getElem? (i := 1) rfl)) all0))
  have g_bn_2 := FF2_6
  have hor_2 : bn_2 = bv ∨ h0.size ≤ bn_2 := FF2_7
  have mi_bn_2 : bn_2 ∈ ([o0, bv] : List Addr) ∨ h0.size ≤ bn_2 := own_mi hor_2 K0.1 (Or.inl (List.mem_of_getElem? (i := 1) rfl))
  have hz_2 : own_B zn_2 (vs ++ (own_txt q1)) := FF2_8
  have N2 := Fr.app N0 N2q
  have pre2 : ∀ t, Steps p.tables e below (T2.setTop (mkF m 5 #[.val (.ref o0), .val (.long q1), .second] [(.ref o0)])) t → P t := fun t k => pre1 t (st2.trans k)
  have pre8 : ∀ t, Steps p.tables e below (T2.setTop (mkF m 7 #[.val (.ref o0), .val (.long q1), .second] [(.ref o0)])) t → P t := fun t k => pre2 t (by
      refine XS.pop X2.here hx rfl (hb hby d14_5) rfl rfl ?_
      refine XS.aloadN X2.here hx rfl (hb hby d14_6) rfl rfl ?_
      exact k)
  obtain ⟨fs, hr, hrun, hended, hW, hsame⟩ := X2.leave (v := some (.ref o0)) (fun h => by rw [Bd.returns] at h; cases h)
  refine ⟨_, _, fin _ (pre8 _ ?_), hrun, hended, _, _, rfl, ?_, ⟨_, rfl⟩, hW, hsame.mono (by decide) (by decide)⟩
  · show Steps p.tables e below (T2.setTop (mkF m 7 #[.val (.ref o0), .val (.long q1), .second] [(.ref o0)])) _
    jvm_step X2.here [X2.here.top, hx, (hb hby d14_7), X2.method', Bd.returns, Value.isRef, FieldType.isReference]
    first | (intro acts; rw [hr _ acts rfl rfl rfl]) | rw [hr _ _ rfl rfl rfl]
    exact Steps.refl _
  · show Q14 Z o0 q1 bv kv zv vs nv h0 n0 _ T2.heap _
    exact ⟨bn_2, kn_2, zn_2, rfl, N2, K7, FF2_0, FF2_1, FF2_2, FF2_3, FF2_4, FF2_5, g_bn_2, hor_2, hz_2⟩
theorem own_n0 : nar .byte (0 : Int32) = 0 := by decide
theorem d5_0 : decode jdk_68_method_2_code 0 = .ok (.aload_n 0, 1) := by decide +kernel
theorem d5_1 : decode jdk_68_method_2_code 1 = .ok (.invokespecial 3, 3) := by decide +kernel
theorem d5_4 : decode jdk_68_method_2_code 4 = .ok (.getstatic 18, 3) := by decide +kernel
theorem d5_7 : decode jdk_68_method_2_code 7 = .ok (.ifCond .eq 18, 3) := by decide +kernel
theorem d5_10 : decode jdk_68_method_2_code 10 = .ok (.aload_n 0, 1) := by decide +kernel
theorem d5_11 : decode jdk_68_method_2_code 11 = .ok (.iload_n 1, 1) := by decide +kernel
theorem d5_12 : decode jdk_68_method_2_code 12 = .ok (.newarray .byte, 2) := by decide +kernel
theorem d5_14 : decode jdk_68_method_2_code 14 = .ok (.putfield 15, 3) := by decide +kernel
theorem d5_17 : decode jdk_68_method_2_code 17 = .ok (.aload_n 0, 1) := by decide +kernel
theorem d5_18 : decode jdk_68_method_2_code 18 = .ok (.iconst 0, 1) := by decide +kernel
theorem d5_19 : decode jdk_68_method_2_code 19 = .ok (.putfield 22, 3) := by decide +kernel
theorem d5_22 : decode jdk_68_method_2_code 22 = .ok (.goto 16, 3) := by decide +kernel
theorem d5_38 : decode jdk_68_method_2_code 38 = .ok (.return_, 1) := by decide +kernel
theorem pn_5 : plainName "java/lang/AbstractStringBuilder" = true := by first | (simp [plainName, overriddenIn]; done) | decide +kernel
theorem ef_5 (m : MethodId) (o0 : Addr) : entryFrame m #[(.ref o0), (.int (16 : Int32))] 2 = mkF m 0 #[.val (.ref o0), .val (.int (16 : Int32))] [] := by first | (simp [entryFrame, mkF, argsToLocals, Value.category]; done) | rfl
def Q5 (Z : State) (o0 : Addr) (h0 : Heap) (n0 : Nat) (v : Option Value) (h : Heap) (L : List Loc) : Prop := ∃ bn : Addr, ∃ kn : ClassId, v = none ∧ Fr n0 L ∧ Keep h0 h [o0] ∧ Exa Z h o0 "java/lang/StringBuilder" ∧ Fld Z h o0 "java/lang/AbstractStringBuilder" "coder" "B" (.int (0 : Int32)) ∧ Fld Z h o0 "java/lang/AbstractStringBuilder" "value" "[B" (.ref bn) ∧ Fld Z h o0 "java/lang/AbstractStringBuilder" "count" "I" (.int (0 : Int32)) ∧ Arv Z h bn kn .byte (16 : Int32) (own_v []) (.int 0) ∧ Exa Z h bn "[B" ∧ n0 ≤ bn ∧ h0.size ≤ bn
set_option maxRecDepth 65536 in
set_option maxHeartbeats 40000000 in
theorem rm5 (l : Launch) (Z : State) (a0 : Array Value) (hw : ∀ d ∈ tables_1, d.before a0 Z = true) (ws : List Jvm.Cond) (o0 : Addr) (h0 : Heap) (n0 : Nat) (Z0 : n0 ≤ h0.size) (OLD0 : Old Z n0 h0) (Pr_0 : Exa Z h0 o0 "java/lang/StringBuilder") (Pr_1 : Fld Z h0 o0 "java/lang/AbstractStringBuilder" "coder" "B" (.int (0 : Int32))) (Pr_2 : Fld Z h0 o0 "java/lang/AbstractStringBuilder" "value" "[B" .null) (Pr_3 : Fld Z h0 o0 "java/lang/AbstractStringBuilder" "count" "I" (.int (0 : Int32))) (g_o0 : n0 ≤ o0) (HC : own_CC Z) :
    MetFree l (⟨"java/lang/AbstractStringBuilder", "<init>", "(I)V"⟩ : MethodName) (head1 (Jvm.Cond.code (⟨"java/lang/AbstractStringBuilder", "<init>", "(I)V"⟩ : MethodName) jdk_68_method_2_code 2 none :: ws) ({ frames := 1, cells := 1, slots := 16, locals := 12 } : Room)) (fun a U => a = #[(.ref o0), (.int (16 : Int32))] ∧ Z.Warmed39 U.vm ∧ U.heap = h0) (fun _ _ _ _ _ => True) (fun _ U o U' => ∃ v L, o = .returned v ∧ Q5 Z o0 h0 n0 v U'.heap L ∧ FrameEnd U o U' L ({ frames := 1, cells := 1, slots := 16, locals := 12 } : Room).cells ({ frames := 1, cells := 1, slots := 16, locals := 12 } : Room).slots) := by
  refine MetFree.of_bodySF (plainFor_of_name pn_5) hisR ?_
  intro p e s m args below meth c s₁ Bd hml0 hP hK
  obtain ⟨rfl, hZ, hh⟩ := hP
  have hx := Bd.exec
  have hby := Bd.bytes
  have hml : c.maxLocals = 2 := hml0
  have hown : s.vm.findClass "java/lang/AbstractStringBuilder" = some m.cls := findClass_of_methodNamed Bd.named
  have hnm := (name_of_methodNamed Bd.named Bd.method).1
  have X0 : Stand p l e ({ frames := 1, cells := 1, slots := 16, locals := 12 } : Room) s m #[(.ref o0), (.int (16 : Int32))] below meth c s₁ [] 0 0 := Stand.of_body Bd
  have e0 : s₁.heap = h0 := by rw [← hh, Bd.state]; rfl
  have N0 := Fr.nil n0
  obtain ⟨P, pre0, fin⟩ : ∃ P : State → Prop, (∀ t, Steps p.tables e below (s₁.setTop (mkF m 0 #[.val (.ref o0), .val (.int (16 : Int32))] [])) t → P t) ∧ (∀ t, P t → Steps p.tables e below (s₁.setTop (entryFrame m #[(.ref o0), (.int (16 : Int32))] 2)) t) := ⟨fun t => Steps p.tables e below (s₁.setTop (entryFrame m #[(.ref o0), (.int (16 : Int32))] 2)) t, fun t k => castTop (ef_5 m o0) k, fun t k => k⟩
  have K0 : Keep h0 h0 [o0] := Keep.refl _ _
  obtain ⟨cs, fm, d1, d2, k1, k2, hcs, hSc, hSf, hS1, hS2, hD1, hD2, hfm⟩ := id HC
  have pre1 : ∀ t, Steps p.tables e below (s₁.setTop (mkF m 1 #[.val (.ref o0), .val (.int (16 : Int32))] [(.ref o0)])) t → P t := fun t k => pre0 t (by
      refine XS.aloadN X0.here hx rfl (hb hby d5_0) rfl rfl ?_
      exact k)
  obtain ⟨T2, X2, e2, st2⟩ := initO X0 hx hZ hown (hi hw 34 rfl) (hi hw 7 rfl) (hi hw 8 rfl) e0 (g := (mkF m 1 #[.val (.ref o0), .val (.int (16 : Int32))] [(.ref o0)])) rfl (by rw [hml]; rfl) rfl (hb hby d5_1) (by decide) (W := 0) (by show 2 * 0 + _ ≤ _; exact Nat.le_of_eq rfl) (by decide)
  have pre2 : ∀ t, Steps p.tables e below (T2.setTop (mkF m 4 #[.val (.ref o0), .val (.int (16 : Int32))] [])) t → P t := fun t k => pre1 t (st2 _ k)
  obtain ⟨T3, X3, e3, st3⟩ := getS2 X2 hx hZ hown (host := "") (Or.inl (hi hw 35 rfl)) Via.refl e2 (hSc.ext OLD0.2) (g := (mkF m 4 #[.val (.ref o0), .val (.int (16 : Int32))] [])) rfl (hb hby d5_4)
  have pre3 : ∀ t, Steps p.tables e below (T3.setTop (mkF m 7 #[.val (.ref o0), .val (.int (16 : Int32))] [(.int cs)])) t → P t := fun t k => pre2 t (st3 _ k)
  have pre4 : ∀ t, Steps p.tables e below (T3.setTop (mkF m 12 #[.val (.ref o0), .val (.int (16 : Int32))] [(.int (16 : Int32)), (.ref o0)])) t → P t := fun t k => pre3 t (by
      refine XS.ifNo X3.here hx rfl (hb hby d5_7) rfl ((if0 _ _).trans (feq hcs).1) ?_
      refine XS.aloadN X3.here hx rfl (hb hby d5_10) rfl rfl ?_
      refine XS.iloadN X3.here hx rfl (hb hby d5_11) rfl ?_
      exact k)
  obtain ⟨T5, h5, k5, X5, e5, E5, A5, Ex5, st5⟩ := newPE X3 hx hZ (hi hw 37 rfl) e3 (g := (mkF m 12 #[.val (.ref o0), .val (.int (16 : Int32))] [(.int (16 : Int32)), (.ref o0)])) rfl (hb hby d5_12) rfl (by decide) (cap := 16) (by decide) (by decide) (by decide) (by decide) (ad := "[B") (by decide)
  obtain ⟨b5, g5⟩ : ∃ z, z = h0.size := ⟨_, rfl⟩
  have g_b5 : n0 ≤ b5 := Nat.le_trans Z0 (Nat.le_of_eq g5.symm)
  have sz_b5 : h0.size ≤ b5 := Nat.le_trans K0.1 (Nat.le_of_eq g5.symm)
  rw [← g5] at A5 Ex5 st5
  have pre5 : ∀ t, Steps p.tables e below (T5.setTop (mkF m 14 #[.val (.ref o0), .val (.int (16 : Int32))] [(.ref b5), (.ref o0)])) t → P t := fun t k => pre4 t (st5 _ k)
  have c6 : n0 ≤ h5.size := Nat.le_trans Z0 E5.1
  have c7 : Old Z n0 h5 := OLD0.ext E5
  have c8 : Exa Z h5 o0 "java/lang/StringBuilder" := Pr_0.ext E5
  have c9 : Fld Z h5 o0 "java/lang/AbstractStringBuilder" "coder" "B" (.int (0 : Int32)) := Pr_1.ext E5
  have c10 : Fld Z h5 o0 "java/lang/AbstractStringBuilder" "value" "[B" .null := Pr_2.ext E5
  have c11 : Fld Z h5 o0 "java/lang/AbstractStringBuilder" "count" "I" (.int (0 : Int32)) := Pr_3.ext E5
  have K12 : Keep h0 h5 [o0] := K0.ext E5
  have V_b5 : Arv Z h5 b5 k5 .byte (16 : Int32) (own_v []) (.int 0) := Arv.new A5 (by decide)
  obtain ⟨T13, h13, X13, e13, W13, st13⟩ := putF X5 hx hZ hown (host := "") (Or.inl (hi hw 38 rfl)) Via.refl e5 c10 c8 (Or.inl (hi hw 39 rfl)) (hi hw 23 rfl) (ty := (.array .byte)) (by decide) rfl rfl (g := (mkF m 14 #[.val (.ref o0), .val (.int (16 : Int32))] [(.ref b5), (.ref o0)])) rfl rfl (hb hby d5_14)
  have pre13 : ∀ t, Steps p.tables e below (T13.setTop (mkF m 17 #[.val (.ref o0), .val (.int (16 : Int32))] [])) t → P t := fun t k => pre5 t (st13 _ k)
  have Fw13 := c10.same W13
  have c14 : n0 ≤ h13.size := Nat.le_trans c6 (Keep.of_wr W13).1
  have c15 : Old Z n0 h13 := c7.wr W13 g_o0
  have c16 : Exa Z h13 o0 "java/lang/StringBuilder" := c8.wr W13
  have c17 : Fld Z h13 o0 "java/lang/AbstractStringBuilder" "coder" "B" (.int (0 : Int32)) := c9.other W13 (Or.inr (slot_ne (Or.inl (hi hw 41 rfl)) (Or.inl (hi hw 39 rfl)) (by decide) (t := .byte) (t' := (.array .byte)) (by decide) (by decide)))
  have c18 : Fld Z h13 o0 "java/lang/AbstractStringBuilder" "count" "I" (.int (0 : Int32)) := c11.other W13 (Or.inr (slot_ne (Or.inl (hi hw 72 rfl)) (Or.inl (hi hw 39 rfl)) (by decide) (t := .int) (t' := (.array .byte)) (by decide) (by decide)))
  have c19 : Arv Z h13 b5 k5 .byte (16 : Int32) (own_v []) (.int 0) := V_b5.other W13 (Ne.symm (Nat.ne_of_lt (Nat.lt_of_lt_of_le Pr_0.lt (Nat.le_of_eq g5.symm))))
  have c20 : Exa Z h13 b5 "[B" := Ex5.wr W13
  have K21 : Keep h0 h13 [o0] := K12.wr W13 (Or.inl (List.mem_of_getElem? (i := 0) rfl))
  have N13 := Fr.snoc X13 N0 g_o0
  have pre22 : ∀ t, Steps p.tables e below (T13.setTop (mkF m 19 #[.val (.ref o0), .val (.int (16 : Int32))] [(.int (0 : Int32)), (.ref o0)])) t → P t := fun t k => pre13 t (by
      refine XS.aloadN X13.here hx rfl (hb hby d5_17) rfl rfl ?_
      refine XS.iconst X13.here hx rfl (hb hby d5_18) ?_
      exact k)
  obtain ⟨T23, h23, X23, e23, W23, st23⟩ := putFN X13 hx hZ hown (hi hw 40 rfl) Via.refl e13 c17 c16 (Or.inl (hi hw 41 rfl)) (hi hw 23 rfl) (ty := .byte) (v' := (.int (nar .byte (0 : Int32)))) (by decide) rfl (fits_nar_byte _) (g := (mkF m 19 #[.val (.ref o0), .val (.int (16 : Int32))] [(.int (0 : Int32)), (.ref o0)])) rfl rfl (hb hby d5_19)
  have pre23 : ∀ t, Steps p.tables e below (T23.setTop (mkF m 22 #[.val (.ref o0), .val (.int (16 : Int32))] [])) t → P t := fun t k => pre22 t (st23 _ k)
  have Fw23 := c17.same W23
  have c24 : n0 ≤ h23.size := Nat.le_trans c14 (Keep.of_wr W23).1
  have c25 : Old Z n0 h23 := c15.wr W23 g_o0
  have c26 : Exa Z h23 o0 "java/lang/StringBuilder" := c16.wr W23
  have c27 : Fld Z h23 o0 "java/lang/AbstractStringBuilder" "count" "I" (.int (0 : Int32)) := c18.other W23 (Or.inr (slot_ne (Or.inl (hi hw 72 rfl)) (Or.inl (hi hw 41 rfl)) (by decide) (t := .int) (t' := .byte) (by decide) (by decide)))
  have c28 : Arv Z h23 b5 k5 .byte (16 : Int32) (own_v []) (.int 0) := c19.other W23 (Ne.symm (Nat.ne_of_lt (Nat.lt_of_lt_of_le Pr_0.lt (Nat.le_of_eq g5.symm))))
  have c29 : Exa Z h23 b5 "[B" := c20.wr W23
  have c30 : Fld Z h23 o0 "java/lang/AbstractStringBuilder" "value" "[B" (.ref b5) := Fw13.other W23 (Or.inr (slot_ne (Or.inl (hi hw 39 rfl)) (Or.inl (hi hw 41 rfl)) (by decide) (t := (.array .byte)) (t' := .byte) (by decide) (by decide)))
  have K31 : Keep h0 h23 [o0] := K21.wr W23 (Or.inl (List.mem_of_getElem? (i := 0) rfl))
  have N23 := Fr.snoc X23 N13 g_o0
  have pre32 : ∀ t, Steps p.tables e below (T23.setTop (mkF m 38 #[.val (.ref o0), .val (.int (16 : Int32))] [])) t → P t := fun t k => pre23 t (by
      refine XS.goto X23.here hx rfl (pc0 := 22) (pc' := 38) rfl (hb hby d5_22) (by decide) (by decide) ?_
      exact k)
  have Fz33 : Fld Z h23 o0 "java/lang/AbstractStringBuilder" "coder" "B" (.int (0 : Int32)) := own_n0 ▸ Fw23
  obtain ⟨fs, hr, hrun, hended, hW, hsame⟩ := X23.leave (v := none) (fun _ => rfl)
  refine ⟨_, _, fin _ (pre32 _ ?_), hrun, hended, _, _, rfl, ?_, ⟨_, rfl⟩, hW, hsame.mono (by decide) (by decide)⟩
  · show Steps p.tables e below (T23.setTop (mkF m 38 #[.val (.ref o0), .val (.int (16 : Int32))] [])) _
    exact X23.returnOut hx Bd.returns (hb hby d5_38) hr
  · show Q5 Z o0 h0 n0 _ T23.heap _
    rw [e23]
    exact ⟨b5, k5, rfl, N23, K31, c26, Fz33, c30, c27, c28, c29, g_b5, sz_b5⟩
theorem d4_0 : decode jdk_67_method_1_code 0 = .ok (.aload_n 0, 1) := by decide +kernel
theorem d4_1 : decode jdk_67_method_1_code 1 = .ok (.bipush 16, 2) := by decide +kernel
theorem d4_3 : decode jdk_67_method_1_code 3 = .ok (.invokespecial 1, 3) := by decide +kernel
theorem d4_6 : decode jdk_67_method_1_code 6 = .ok (.return_, 1) := by decide +kernel
theorem pn_4 : plainName "java/lang/StringBuilder" = true := by first | (simp [plainName, overriddenIn]; done) | decide +kernel
theorem ef_4 (m : MethodId) (o0 : Addr) : entryFrame m #[(.ref o0)] 1 = mkF m 0 #[.val (.ref o0)] [] := by first | (simp [entryFrame, mkF, argsToLocals, Value.category]; done) | rfl
def Q4 (Z : State) (o0 : Addr) (h0 : Heap) (n0 : Nat) (v : Option Value) (h : Heap) (L : List Loc) : Prop := ∃ bn : Addr, ∃ kn : ClassId, v = none ∧ Fr n0 L ∧ Keep h0 h [o0] ∧ Exa Z h o0 "java/lang/StringBuilder" ∧ Fld Z h o0 "java/lang/AbstractStringBuilder" "coder" "B" (.int (0 : Int32)) ∧ Fld Z h o0 "java/lang/AbstractStringBuilder" "value" "[B" (.ref bn) ∧ Fld Z h o0 "java/lang/AbstractStringBuilder" "count" "I" (.int (0 : Int32)) ∧ Arv Z h bn kn .byte (16 : Int32) (own_v []) (.int 0) ∧ Exa Z h bn "[B" ∧ n0 ≤ bn ∧ h0.size ≤ bn
set_option maxRecDepth 65536 in
set_option maxHeartbeats 40000000 in
theorem rm4 (l : Launch) (Z : State) (a0 : Array Value) (hw : ∀ d ∈ tables_1, d.before a0 Z = true) (ws : List Jvm.Cond) (o0 : Addr) (h0 : Heap) (n0 : Nat) (Z0 : n0 ≤ h0.size) (OLD0 : Old Z n0 h0) (Pr_0 : Exa Z h0 o0 "java/lang/StringBuilder") (Pr_1 : Fld Z h0 o0 "java/lang/AbstractStringBuilder" "coder" "B" (.int (0 : Int32))) (Pr_2 : Fld Z h0 o0 "java/lang/AbstractStringBuilder" "value" "[B" .null) (Pr_3 : Fld Z h0 o0 "java/lang/AbstractStringBuilder" "count" "I" (.int (0 : Int32))) (g_o0 : n0 ≤ o0) (HC : own_CC Z) :
    MetFree l (⟨"java/lang/StringBuilder", "<init>", "()V"⟩ : MethodName) (head1 (Jvm.Cond.code (⟨"java/lang/StringBuilder", "<init>", "()V"⟩ : MethodName) jdk_67_method_1_code 1 none :: ws) ({ frames := 2, cells := 1, slots := 16, locals := 25 } : Room)) (fun a U => a = #[(.ref o0)] ∧ Z.Warmed39 U.vm ∧ U.heap = h0) (fun _ _ _ _ _ => True) (fun _ U o U' => ∃ v L, o = .returned v ∧ Q4 Z o0 h0 n0 v U'.heap L ∧ FrameEnd U o U' L ({ frames := 2, cells := 1, slots := 16, locals := 25 } : Room).cells ({ frames := 2, cells := 1, slots := 16, locals := 25 } : Room).slots) := by
  refine MetFree.of_bodySF (plainFor_of_name pn_4) hisR ?_
  intro p e s m args below meth c s₁ Bd hml0 hP hK
  obtain ⟨rfl, hZ, hh⟩ := hP
  have hx := Bd.exec
  have hby := Bd.bytes
  have hml : c.maxLocals = 1 := hml0
  have hown : s.vm.findClass "java/lang/StringBuilder" = some m.cls := findClass_of_methodNamed Bd.named
  have hnm := (name_of_methodNamed Bd.named Bd.method).1
  have X0 : Stand p l e ({ frames := 2, cells := 1, slots := 16, locals := 25 } : Room) s m #[(.ref o0)] below meth c s₁ [] 0 0 := Stand.of_body Bd
  have e0 : s₁.heap = h0 := by rw [← hh, Bd.state]; rfl
  have N0 := Fr.nil n0
  obtain ⟨P, pre0, fin⟩ : ∃ P : State → Prop, (∀ t, Steps p.tables e below (s₁.setTop (mkF m 0 #[.val (.ref o0)] [])) t → P t) ∧ (∀ t, P t → Steps p.tables e below (s₁.setTop (entryFrame m #[(.ref o0)] 1)) t) := ⟨fun t => Steps p.tables e below (s₁.setTop (entryFrame m #[(.ref o0)] 1)) t, fun t k => castTop (ef_4 m o0) k, fun t k => k⟩
  have K0 : Keep h0 h0 [o0] := Keep.refl _ _
  have pre1 : ∀ t, Steps p.tables e below (s₁.setTop (mkF m 3 #[.val (.ref o0)] [(.int (16 : Int32)), (.ref o0)])) t → P t := fun t k => pre0 t (by
      refine XS.aloadN X0.here hx rfl (hb hby d4_0) rfl rfl ?_
      refine XS.bipush X0.here hx rfl (hb hby d4_1) ?_
      exact k)
  obtain ⟨_, _, ⟨T2, L2, k2, n2⟩, -, X2, ⟨Lc2, hQ2, l2, y2, z2⟩, st2⟩ := X0.specialBack hx (y := (⟨"java/lang/AbstractStringBuilder", "<init>", "(I)V"⟩ : MethodName)) rfl hown (mvT hZ (hi hw 28 rfl)) (mvT hZ (hi hw 29 rfl)) (mvT hZ (hi hw 33 rfl)) (by decide) (backOf (W := 0) (rm5 l Z a0 hw [] o0 h0 n0 Z0 OLD0 Pr_0 Pr_1 Pr_2 Pr_3 g_o0 HC) hZ (hi hw 33 rfl) (hi hw 32 rfl) (by decide) (by decide)) (g := (mkF m 3 #[.val (.ref o0)] [(.int (16 : Int32)), (.ref o0)])) rfl (by rw [hml]; rfl) (Steps.refl _) (a := o0) (argsL := [(.int (16 : Int32))]) (rest := []) (lenOf own_pd8 rfl) rfl (by show 2 * 0 + _ ≤ _; exact Nat.le_of_eq rfl) (hb hby d4_3) (fun _ _ => ⟨rfl, e0, (by decide : 0 + 1 ≤ _), (by decide : 0 + 16 ≤ _)⟩)
  dsimp only [Pt.U, Pt.locs, Pt.cells, Pt.slots] at X2 l2 y2 z2 st2 hQ2
  subst l2 y2 z2
  obtain ⟨bn_2, kn_2, rfl, N2q, K2, FF2_0, FF2_1, FF2_2, FF2_3, FF2_4, FF2_5, FF2_6, FF2_7⟩ := hQ2
  have c3 : n0 ≤ T2.heap.size := Nat.le_trans Z0 K2.1
  have c4 : Old Z n0 T2.heap := OLD0.keep K2 (allS (P := fun x => n0 ≤ x) g_o0 all0)
  have c5 : Exa Z T2.heap o0 "java/lang/StringBuilder" := Pr_0.keep K2
  have K6 : Keep h0 T2.heap [o0] := K0.trans K2 (allS (P := fun x => x ∈ ([o0] : List Addr) ∨ h0.size ≤ x) (Or.inl (List.mem_of_getElem? (i := 0) rfl)) all0)
  have g_bn_2 := FF2_6
  have SZ_bn_2 := FF2_7
  have sz_bn_2 : h0.size ≤ bn_2 := Nat.le_trans K0.1 FF2_7
  have N2 := Fr.app N0 N2q
  have pre2 : ∀ t, Steps p.tables e below (T2.setTop (mkF m 6 #[.val (.ref o0)] [])) t → P t := fun t k => pre1 t (st2.trans k)
  obtain ⟨fs, hr, hrun, hended, hW, hsame⟩ := X2.leave (v := none) (fun _ => rfl)
  refine ⟨_, _, fin _ (pre2 _ ?_), hrun, hended, _, _, rfl, ?_, ⟨_, rfl⟩, hW, hsame.mono (by decide) (by decide)⟩
  · show Steps p.tables e below (T2.setTop (mkF m 6 #[.val (.ref o0)] [])) _
    exact X2.returnOut hx Bd.returns (hb hby d4_6) hr
  · show Q4 Z o0 h0 n0 _ T2.heap _
    exact ⟨bn_2, kn_2, rfl, N2, K6, FF2_0, FF2_1, FF2_2, FF2_3, FF2_4, FF2_5, g_bn_2, sz_bn_2⟩
theorem d41_0 : decode method_6_code 0 = .ok (.lload_n 0, 1) := by decide +kernel
theorem d41_1 : decode method_6_code 1 = .ok (.lload_n 2, 1) := by decide +kernel
theorem d41_2 : decode method_6_code 2 = .ok (.lneg, 1) := by decide +kernel
theorem d41_3 : decode method_6_code 3 = .ok (.lcmp, 1) := by decide +kernel
theorem d41_4 : decode method_6_code 4 = .ok (.ifCond .gt 7, 3) := by decide +kernel
theorem d41_7 : decode method_6_code 7 = .ok (.iconst 1, 1) := by decide +kernel
theorem d41_8 : decode method_6_code 8 = .ok (.goto 4, 3) := by decide +kernel
theorem d41_11 : decode method_6_code 11 = .ok (.iconst 0, 1) := by decide +kernel
theorem d41_12 : decode method_6_code 12 = .ok (.ireturn, 1) := by decide +kernel
theorem pn_41 : plainName "com/example/xmax/xmax/queue/QueueStatusToStringPinLaw" = true := by first | (simp [plainName, overriddenIn]; done) | decide +kernel
theorem ef_41 (m : MethodId) (q0 : Int64) (q1 : Int64) : entryFrame m #[(.long q0), (.long q1)] 4 = mkF m 0 #[.val (.long q0), .second, .val (.long q1), .second] [] := by first | (simp [entryFrame, mkF, argsToLocals, Value.category]; done) | rfl
def own_f41 (q0 : Int64) (q1 : Int64) : Int32 := (if (-q1) < q0 then (0 : Int32) else (1 : Int32))
theorem own_q41_1 {q0 : Int64} {q1 : Int64} (hc2 : (-q1) < q0) : (0 : Int32) = (if (-q1) < q0 then (0 : Int32) else (1 : Int32)) := by
  first | (rw [if_pos hc2]; done) | (simp only [if_pos hc2]; done) | (simp [if_pos hc2]; done)
theorem own_q41_2 {q0 : Int64} {q1 : Int64} (hc2 : ¬ ((-q1) < q0)) : (1 : Int32) = (if (-q1) < q0 then (0 : Int32) else (1 : Int32)) := by
  first | (rw [if_neg hc2]; done) | (simp only [if_neg hc2]; done) | (simp [if_neg hc2]; done)
theorem own_q41_3 {q0 : Int64} {q1 : Int64} {v5 : Int32} (hv5 : v5 = (if (-q1) < q0 then (0 : Int32) else (1 : Int32))) : v5 = (own_f41 q0 q1) := by
  subst hv5; first | (unfold own_f41; with_reducible rfl) | (simp only [own_f41]; done) | rfl
def Q41 (Z : State) (q0 : Int64) (q1 : Int64) (h0 : Heap) (n0 : Nat) (v : Option Value) (h : Heap) (L : List Loc) : Prop := v = some (.int (own_f41 q0 q1)) ∧ Fr n0 L ∧ h = h0
set_option maxRecDepth 65536 in
set_option maxHeartbeats 40000000 in
theorem rm41 (l : Launch) (Z : State) (a0 : Array Value) (hw : ∀ d ∈ tables_1, d.before a0 Z = true) (ws : List Jvm.Cond) (q0 : Int64) (q1 : Int64) (h0 : Heap) (n0 : Nat) (Z0 : n0 ≤ h0.size) :
    MetFree l (⟨"com/example/xmax/xmax/queue/QueueStatusToStringPinLaw", "ge", "(JJ)I"⟩ : MethodName) (head1 (Jvm.Cond.code (⟨"com/example/xmax/xmax/queue/QueueStatusToStringPinLaw", "ge", "(JJ)I"⟩ : MethodName) method_6_code 4 (some .int) :: ws) ({ frames := 0, cells := 0, slots := 0, locals := 0 } : Room)) (fun a U => a = #[(.long q0), (.long q1)] ∧ Z.Warmed39 U.vm ∧ U.heap = h0) (fun _ _ _ _ _ => True) (fun _ U o U' => ∃ v L, o = .returned v ∧ Q41 Z q0 q1 h0 n0 v U'.heap L ∧ FrameEnd U o U' L ({ frames := 0, cells := 0, slots := 0, locals := 0 } : Room).cells ({ frames := 0, cells := 0, slots := 0, locals := 0 } : Room).slots) := by
  refine MetFree.of_bodySF (plainFor_of_name pn_41) hisR ?_
  intro p e s m args below meth c s₁ Bd hml0 hP hK
  obtain ⟨rfl, hZ, hh⟩ := hP
  have hx := Bd.exec
  have hby := Bd.bytes
  have hml : c.maxLocals = 4 := hml0
  have hown : s.vm.findClass "com/example/xmax/xmax/queue/QueueStatusToStringPinLaw" = some m.cls := findClass_of_methodNamed Bd.named
  have hnm := (name_of_methodNamed Bd.named Bd.method).1
  have X0 : Stand p l e ({ frames := 0, cells := 0, slots := 0, locals := 0 } : Room) s m #[(.long q0), (.long q1)] below meth c s₁ [] 0 0 := Stand.of_body Bd
  have e0 : s₁.heap = h0 := by rw [← hh, Bd.state]; rfl
  have N0 := Fr.nil n0
  obtain ⟨P, pre0, fin⟩ : ∃ P : State → Prop, (∀ t, Steps p.tables e below (s₁.setTop (mkF m 0 #[.val (.long q0), .second, .val (.long q1), .second] [])) t → P t) ∧ (∀ t, P t → Steps p.tables e below (s₁.setTop (entryFrame m #[(.long q0), (.long q1)] 4)) t) := ⟨fun t => Steps p.tables e below (s₁.setTop (entryFrame m #[(.long q0), (.long q1)] 4)) t, fun t k => castTop (ef_41 m q0 q1) k, fun t k => k⟩
  have K0 : Keep h0 h0 [] := Keep.refl _ _
  have pre1 : ∀ t, Steps p.tables e below (s₁.setTop (mkF m 4 #[.val (.long q0), .second, .val (.long q1), .second] [(.int (lcmpW q0 (-q1)))])) t → P t := fun t k => pre0 t (by
      refine XS.lloadN X0.here hx rfl (hb hby d41_0) rfl ?_
      refine XS.lloadN X0.here hx rfl (hb hby d41_1) rfl ?_
      refine XS.lneg X0.here hx rfl (hb hby d41_2) rfl ?_
      refine XS.lcmp X0.here hx rfl (hb hby d41_3) rfl ?_
      exact k)
  obtain ⟨T6, L6, v5, X6, e6, N6, hv5, pre6⟩ : ∃ (T' : State) (L' : List Loc) (v5 : Int32), Stand p l e ({ frames := 0, cells := 0, slots := 0, locals := 0 } : Room) s m #[(.long q0), (.long q1)] below meth c T' L' 0 0 ∧ T'.heap = h0 ∧ Fr n0 L' ∧ v5 = (if (-q1) < q0 then (0 : Int32) else (1 : Int32)) ∧ (∀ t, Steps p.tables e below (T'.setTop (mkF m 12 #[.val (.long q0), .second, .val (.long q1), .second] [(.int v5)])) t → P t) := by
    by_cases hc2 : (-q1) < q0
    · have pre3 : ∀ t, Steps p.tables e below (s₁.setTop (mkF m 12 #[.val (.long q0), .second, .val (.long q1), .second] [(.int (0 : Int32))])) t → P t := fun t k => pre1 t (by
          refine XS.ifYes X0.here hx rfl (pc0 := 4) (pc' := 11) rfl (hb hby d41_4) rfl ((if0 _ _).trans (tlt ((lw_gt _ _).mpr hc2)).2.2.1) (by decide) (by decide) ?_
          refine XS.iconst X0.here hx rfl (hb hby d41_11) ?_
          exact k)
      exact ⟨_, _, (0 : Int32), X0, e0, N0, (own_q41_1 hc2), pre3⟩
    · have pre4 : ∀ t, Steps p.tables e below (s₁.setTop (mkF m 12 #[.val (.long q0), .second, .val (.long q1), .second] [(.int (1 : Int32))])) t → P t := fun t k => pre1 t (by
          refine XS.ifNo X0.here hx rfl (hb hby d41_4) rfl ((if0 _ _).trans (flt (fun q => hc2 ((lw_gt _ _).mp q))).2.2.1) ?_
          refine XS.iconst X0.here hx rfl (hb hby d41_7) ?_
          refine XS.goto X0.here hx rfl (pc0 := 8) (pc' := 12) rfl (hb hby d41_8) (by decide) (by decide) ?_
          exact k)
      exact ⟨_, _, (1 : Int32), X0, e0, N0, (own_q41_2 hc2), pre4⟩
  obtain ⟨fs, hr, hrun, hended, hW, hsame⟩ := X6.leave (v := some (.int v5)) (fun h => by rw [Bd.returns] at h; cases h)
  refine ⟨_, _, fin _ (pre6 _ ?_), hrun, hended, _, _, rfl, ?_, ⟨_, rfl⟩, hW, hsame.mono (by decide) (by decide)⟩
  · show Steps p.tables e below (T6.setTop (mkF m 12 #[.val (.long q0), .second, .val (.long q1), .second] [(.int v5)])) _
    exact retI X6 hx Bd.returns (hb hby d41_12) hr
  · show Q41 Z q0 q1 h0 n0 _ T6.heap _
    rw [e6]
    exact ⟨(congrArg (fun z => some (Value.int z)) (own_q41_3 hv5)), N6, rfl⟩
/- toString: the copy -/
def own_R (zv : Int32) (vs : List Int32) (p : Int32) : Prop := own_B zv vs ∧ p.toInt = (vs.length : Int)
theorem own_R0 {zv p : Int32} {vs : List Int32} (h : own_R zv vs p) : ¬ p < (0 : Int32) := own_nn (by have := h.2; omega)
theorem own_sub0 (x : Int32) : (x - (0 : Int32)) = x := by simp
theorem own_Rmin {zv p : Int32} {vs : List Int32} (h : own_R zv vs p) : (own_f23 zv p) = p := by
  obtain ⟨⟨h1, h2⟩, h3⟩ := h
  unfold own_f23
  by_cases q : p < zv
  · rw [if_pos q]
  · rw [if_neg q]
    rw [Int32.lt_iff_toInt_lt] at q
    exact Int32.toInt_inj.mp (by omega)
theorem own_Rc {zv p : Int32} {vs : List Int32} (h : own_R zv vs p) : p.toNatClampNeg ≤ 220 := by
  obtain ⟨⟨h1, h2⟩, h3⟩ := h
  have := own_tn (z := p) (by omega)
  omega
theorem own_Rle {zv p : Int32} {vs : List Int32} (h : own_R zv vs p) : p.toNatClampNeg ≤ zv.toNatClampNeg := by
  obtain ⟨⟨h1, h2⟩, h3⟩ := h
  have := own_tn (z := p) (by omega)
  have := own_tn (z := zv) (by omega)
  omega
theorem own_Rl {zv p : Int32} {vs : List Int32} (h : own_R zv vs p) : vs.length ≤ p.toNatClampNeg := by
  obtain ⟨⟨h1, h2⟩, h3⟩ := h
  have := own_tn (z := p) (by omega)
  omega
/- the law's own words -/
def own_ca (us : List Int32) (p : Int32) : Int32 := ((us.getD p.toNatClampNeg 0) &&& (255 : Int32)).toUInt32.toUInt16.toUInt32.toInt32
def own_lb (zv : Int32) (vs : List Int32) (p zs : Int32) (us : List Int32) : Prop := 0 ≤ p.toInt ∧ (vs.length : Int) = zv.toInt ∧ zv.toInt ≤ 220 ∧ (us.length : Int) = zs.toInt ∧ zs.toInt ≤ 9 ∧ p.toInt + zs.toInt ≤ zv.toInt ∧ ∀ i, i < us.length → vs.getD (p.toNatClampNeg + i) 0 = us.getD i 0
def own_ch (zv : Int32) (vs : List Int32) (p zs : Int32) (us : List Int32) (k : Int32) : Prop := own_lb zv vs p zs us ∧ 0 ≤ k.toInt ∧ k.toInt ≤ 9
theorem own_lb0 {zv p zs : Int32} {vs us : List Int32} (h : own_lb zv vs p zs us) : ¬ p < (0 : Int32) := own_nn h.1
theorem own_chA {zv p zs k : Int32} {vs us : List Int32} (h : own_ch zv vs p zs us k) (q : k < zs) : (p + k).toInt = p.toInt + k.toInt ∧ 0 ≤ (p + k).toInt ∧ (p + k).toInt < zv.toInt ∧ (p + k).toNatClampNeg = p.toNatClampNeg + k.toNatClampNeg ∧ k.toNatClampNeg < us.length := by
  obtain ⟨⟨h1, h2, h3, h4, h5, h6, h7⟩, h8, h9⟩ := h
  rw [Int32.lt_iff_toInt_lt] at q
  have a1 := c_iadd p k
  have r1 := rng32 (p + k)
  have e1 : (p + k).toInt = p.toInt + k.toInt := by omega
  have t1 := own_tn (z := p) h1
  have t2 := own_tn (z := k) h8
  have t3 := own_tn (z := p + k) (by omega)
  exact ⟨e1, by omega, by omega, by omega, by omega⟩
theorem own_ch0 {zv p zs k : Int32} {vs us : List Int32} (h : own_ch zv vs p zs us k) : ¬ k < (0 : Int32) := own_nn h.2.1
theorem own_ch1 {zv p zs k : Int32} {vs us : List Int32} (h : own_ch zv vs p zs us k) (q : k < zs) : (p + k) < zv := by
  have := own_chA h q
  rw [Int32.lt_iff_toInt_lt]; omega
theorem own_ch2 {zv p zs k : Int32} {vs us : List Int32} (h : own_ch zv vs p zs us k) (q : k < zs) : ¬ (p + k) < (0 : Int32) := own_nn (own_chA h q).2.1
theorem own_ch3 {zv p zs k : Int32} {vs us : List Int32} (h : own_ch zv vs p zs us k) (q : k < zs) : own_ca vs (p + k) = own_ca us k := by
  have a := own_chA h q
  unfold own_ca
  rw [a.2.2.2.1, h.1.2.2.2.2.2.2 _ a.2.2.2.2]
theorem own_lb1 {zv p zs : Int32} {vs us : List Int32} (h : own_lb zv vs p zs us) (k : Int32) (hk : 0 ≤ k.toInt ∧ k.toInt ≤ 9) : own_ch zv vs p zs us k := ⟨h, hk⟩
theorem own_lbI {zv p zs : Int32} {vs us : List Int32} (A B : List Int32) (hv : vs = (A ++ us) ++ B) (hz : (vs.length : Int) = zv.toInt) (h2 : zv.toInt ≤ 220) (hp : (A.length : Int) = p.toInt) (hs : (us.length : Int) = zs.toInt) (h9 : zs.toInt ≤ 9) : own_lb zv vs p zs us := by
  have hl : vs.length = A.length + us.length + B.length := by rw [hv]; simp [Nat.add_assoc]
  have t1 := own_tn (z := p) (by omega)
  refine ⟨by omega, hz, h2, hs, h9, by omega, fun i hi => ?_⟩
  have e : p.toNatClampNeg = A.length := by omega
  rw [e, hv, List.append_assoc]
  simp [List.getElem?_append_right, List.getElem?_append_left hi]
/- a number read back -/
def own_nm (zv : Int32) (vs : List Int32) (p : Int32) (q : Int64) : Prop := 0 ≤ p.toInt ∧ (vs.length : Int) = zv.toInt ∧ zv.toInt ≤ 220 ∧ p.toInt + (own_f16 q).toInt ≤ zv.toInt ∧ ∀ i, i < (own_txt q).length → vs.getD (p.toNatClampNeg + i) 0 = (own_txt q).getD i 0
theorem own_nmI {zv p : Int32} {q : Int64} {vs : List Int32} (A B : List Int32) (hv : vs = (A ++ own_txt q) ++ B) (hz : (vs.length : Int) = zv.toInt) (h2 : zv.toInt ≤ 220) (hp : (A.length : Int) = p.toInt) : own_nm zv vs p q := by
  have hs := own_txtL q
  have hl : vs.length = A.length + (own_txt q).length + B.length := by rw [hv]; simp [Nat.add_assoc]
  have t1 := own_tn (z := p) (by omega)
  refine ⟨by omega, hz, h2, by omega, fun i hi => ?_⟩
  have e : p.toNatClampNeg = A.length := by omega
  rw [e, hv, List.append_assoc]
  simp [List.getElem?_append_right, List.getElem?_append_left hi]
theorem own_nm0 {zv p : Int32} {q : Int64} {vs : List Int32} (h : own_nm zv vs p q) : ¬ p < (0 : Int32) := own_nn h.1
theorem own_nm1 {zv p : Int32} {q : Int64} {vs : List Int32} (h : own_nm zv vs p q) : p < zv := by
  have := own_f16R q
  have := h.2.2.2.1
  rw [Int32.lt_iff_toInt_lt]; omega
theorem own_nm2 {zv p : Int32} {q : Int64} {vs : List Int32} (h : own_nm zv vs p q) (hc : q < (0 : Int64)) : own_ca vs p = (45 : Int32) := by
  have hL := own_txtL q
  have := own_f16R q
  have e := h.2.2.2.2 0 (by omega)
  rw [Nat.add_zero] at e
  unfold own_ca
  rw [e, own_txt, if_pos hc]
  show ((45 : Int32) &&& (255 : Int32)).toUInt32.toUInt16.toUInt32.toInt32 = 45
  decide
def own_p (q : Int64) (p : Int32) : Int32 := if q < (0 : Int64) then (p + (1 : Int32)) else p
/- the count -/
theorem own_geM {m K : Int64} {M : Nat} {s : Int32} {a : Nat} (k : Nat) (hm : m.toInt = -(M : Int)) (hK : (-K).toInt = -(k : Int)) (hs : s.toInt = (a : Int)) (ha : a ≤ 30) : (s + own_f41 m K).toInt = ((a + (if M < k then 0 else 1) : Nat) : Int) := by
  unfold own_f41
  by_cases h : M < k
  · rw [if_pos h, if_pos (by rw [Int64.lt_iff_toInt_lt, hm, hK]; omega)]
    have a1 := c_iadd s 0
    have r1 := rng32 (s + 0)
    rw [hs, show (0 : Int32).toInt = 0 from by decide] at a1
    omega
  · rw [if_neg h, if_neg (by rw [Int64.lt_iff_toInt_lt, hm, hK]; omega)]
    have a1 := c_iadd s 1
    have r1 := rng32 (s + 1)
    rw [hs, show (1 : Int32).toInt = 1 from by decide] at a1
    omega
def own_ln (m : Int64) : Int32 := (((((((((((((((((((1 : Int32) + (own_f41 m (10 : Int64))) + (own_f41 m (100 : Int64))) + (own_f41 m (1000 : Int64))) + (own_f41 m (10000 : Int64))) + (own_f41 m (100000 : Int64))) + (own_f41 m (1000000 : Int64))) + (own_f41 m (10000000 : Int64))) + (own_f41 m (100000000 : Int64))) + (own_f41 m (1000000000 : Int64))) + (own_f41 m (10000000000 : Int64))) + (own_f41 m (100000000000 : Int64))) + (own_f41 m (1000000000000 : Int64))) + (own_f41 m (10000000000000 : Int64))) + (own_f41 m (100000000000000 : Int64))) + (own_f41 m (1000000000000000 : Int64))) + (own_f41 m (10000000000000000 : Int64))) + (own_f41 m (100000000000000000 : Int64))) + (own_f41 m (1000000000000000000 : Int64)))
theorem own_b1 {M k a b : Nat} (h : a ≤ b) : a + (if M < k then 0 else 1) ≤ b + 1 := by split <;> omega
theorem own_lnI {m : Int64} {M : Nat} (hm : m.toInt = -(M : Int)) : (own_ln m).toInt = ((own_nd M : Nat) : Int) := by
  rw [← own_ndS]
  unfold own_ln own_sm
  have b0 : 1 ≤ 1 := Nat.le_refl _
  have h0 : (1 : Int32).toInt = ((1 : Nat) : Int) := by decide
  have h1 := own_geM (K := 10) 10 hm (by decide) h0 (Nat.le_trans b0 (by decide))
  have b1 := own_b1 (M := M) (k := 10) b0
  have h2 := own_geM (K := 100) 100 hm (by decide) h1 (Nat.le_trans b1 (by decide))
  have b2 := own_b1 (M := M) (k := 100) b1
  have h3 := own_geM (K := 1000) 1000 hm (by decide) h2 (Nat.le_trans b2 (by decide))
  have b3 := own_b1 (M := M) (k := 1000) b2
  have h4 := own_geM (K := 10000) 10000 hm (by decide) h3 (Nat.le_trans b3 (by decide))
  have b4 := own_b1 (M := M) (k := 10000) b3
  have h5 := own_geM (K := 100000) 100000 hm (by decide) h4 (Nat.le_trans b4 (by decide))
  have b5 := own_b1 (M := M) (k := 100000) b4
  have h6 := own_geM (K := 1000000) 1000000 hm (by decide) h5 (Nat.le_trans b5 (by decide))
  have b6 := own_b1 (M := M) (k := 1000000) b5
  have h7 := own_geM (K := 10000000) 10000000 hm (by decide) h6 (Nat.le_trans b6 (by decide))
  have b7 := own_b1 (M := M) (k := 10000000) b6
  have h8 := own_geM (K := 100000000) 100000000 hm (by decide) h7 (Nat.le_trans b7 (by decide))
  have b8 := own_b1 (M := M) (k := 100000000) b7
  have h9 := own_geM (K := 1000000000) 1000000000 hm (by decide) h8 (Nat.le_trans b8 (by decide))
  have b9 := own_b1 (M := M) (k := 1000000000) b8
  have h10 := own_geM (K := 10000000000) 10000000000 hm (by decide) h9 (Nat.le_trans b9 (by decide))
  have b10 := own_b1 (M := M) (k := 10000000000) b9
  have h11 := own_geM (K := 100000000000) 100000000000 hm (by decide) h10 (Nat.le_trans b10 (by decide))
  have b11 := own_b1 (M := M) (k := 100000000000) b10
  have h12 := own_geM (K := 1000000000000) 1000000000000 hm (by decide) h11 (Nat.le_trans b11 (by decide))
  have b12 := own_b1 (M := M) (k := 1000000000000) b11
  have h13 := own_geM (K := 10000000000000) 10000000000000 hm (by decide) h12 (Nat.le_trans b12 (by decide))
  have b13 := own_b1 (M := M) (k := 10000000000000) b12
  have h14 := own_geM (K := 100000000000000) 100000000000000 hm (by decide) h13 (Nat.le_trans b13 (by decide))
  have b14 := own_b1 (M := M) (k := 100000000000000) b13
  have h15 := own_geM (K := 1000000000000000) 1000000000000000 hm (by decide) h14 (Nat.le_trans b14 (by decide))
  have b15 := own_b1 (M := M) (k := 1000000000000000) b14
  have h16 := own_geM (K := 10000000000000000) 10000000000000000 hm (by decide) h15 (Nat.le_trans b15 (by decide))
  have b16 := own_b1 (M := M) (k := 10000000000000000) b15
  have h17 := own_geM (K := 100000000000000000) 100000000000000000 hm (by decide) h16 (Nat.le_trans b16 (by decide))
  have b17 := own_b1 (M := M) (k := 100000000000000000) b16
  have h18 := own_geM (K := 1000000000000000000) 1000000000000000000 hm (by decide) h17 (Nat.le_trans b17 (by decide))
  have b18 := own_b1 (M := M) (k := 1000000000000000000) b17
  exact h18
theorem own_Dg (M : Nat) : ∀ (n k : Nat), k < n → (own_D M n).getD (n - 1 - k) 0 = own_dg M k
  | 0, _, h => absurd h (Nat.not_lt_zero _)
  | n + 1, k, h => by
    rw [own_D]
    by_cases q : k = n
    · rw [q, show n + 1 - 1 - n = 0 from by omega]; rfl
    · rw [show n + 1 - 1 - k = (n - 1 - k) + 1 from by omega, List.getD_cons_succ]
      exact own_Dg M n k (by omega)
theorem own_pI {p zv : Int32} {q : Int64} {vs : List Int32} (h : own_nm zv vs p q) : (own_p q p).toInt = p.toInt + (if q < (0 : Int64) then 1 else 0) := by
  obtain ⟨h1, h2, h3, h4, -⟩ := h
  have := own_f16R q
  unfold own_p
  by_cases hc : q < (0 : Int64)
  · rw [if_pos hc, if_pos hc]
    have a1 := c_iadd p 1
    have r1 := rng32 (p + 1)
    rw [show (1 : Int32).toInt = 1 from by decide] at a1
    omega
  · rw [if_neg hc, if_neg hc]; omega
theorem own_nmE {p zv : Int32} {q : Int64} {vs : List Int32} (h : own_nm zv vs p q) : ((own_p q p) + (own_ln (own_m q))) = (p + (own_f16 q)) := by
  have h1 := own_pI h
  have h2 := own_lnI (own_mI q)
  have h3 := own_f16I q
  have h4 := own_f16R q
  obtain ⟨g1, g2, g3, g4, -⟩ := h
  have a1 := c_iadd (own_p q p) (own_ln (own_m q))
  have a2 := c_iadd p (own_f16 q)
  have r1 := rng32 ((own_p q p) + (own_ln (own_m q)))
  have r2 := rng32 (p + (own_f16 q))
  refine Int32.toInt_inj.mp ?_
  by_cases hc : q < (0 : Int64)
  · rw [if_pos hc] at h1 h3; omega
  · rw [if_neg hc] at h1 h3; omega
def own_dh (zv : Int32) (vs : List Int32) (p1 p2 : Int32) (q3 : Int64) (p5 : Int32) (q6 : Int64) : Prop := p5 < p2 → (q6 ≠ 0 ∧ ¬ (((p1 + p2) - (1 : Int32)) - p5) < (0 : Int32) ∧ (((p1 + p2) - (1 : Int32)) - p5) < zv ∧ own_ca vs (((p1 + p2) - (1 : Int32)) - p5) = (((48 : Int32) - ((((q3 / q6) - ((q3 / q6) / (10 : Int64)) * (10 : Int64)).toInt32))).toUInt32.toUInt16.toUInt32.toInt32))
theorem own_c1 : ∀ d : Fin 10, (Int32.ofNat (48 + d.val) &&& (255 : Int32)).toUInt32.toUInt16.toUInt32.toInt32 = Int32.ofNat (48 + d.val) := by decide +kernel
theorem own_c2 : ∀ d : Fin 10, ((48 : Int32) - (-(Int32.ofNat d.val))).toUInt32.toUInt16.toUInt32.toInt32 = Int32.ofNat (48 + d.val) := by decide +kernel
theorem own_c3 : ∀ d : Fin 10, (-(Int32.ofNat d.val)).toInt = -(d.val : Int) := by decide +kernel
theorem own_nmD {p zv : Int32} {q : Int64} {vs : List Int32} (h : own_nm zv vs p q) (k : Nat) (k5 : Int32) (hk5 : k5.toInt = (k : Int)) (K : Int64) (hK : K.toInt = ((10 ^ k : Nat) : Int)) (hK1 : K ≠ -1) (hK0 : K ≠ 0) : own_dh zv vs (own_p q p) (own_ln (own_m q)) (own_m q) k5 K := by
  intro hlt
  have h1 := own_pI h
  have h2 := own_lnI (own_mI q)
  have h3 := own_f16I q
  have hm := own_mI q
  have hL := own_txtL q
  obtain ⟨g1, g2, g3, g4, g5⟩ := h
  rw [Int32.lt_iff_toInt_lt, hk5, h2] at hlt
  have hlt : k < own_nd (own_ab q) := by omega
  have w := own_ndW _ (own_abM q)
  have hq : ∃ b : Nat, b ≤ 1 ∧ (if q < (0 : Int64) then 1 else 0 : Int) = (b : Int) ∧ own_txt q = List.replicate b 45 ++ own_D (own_ab q) (own_nd (own_ab q)) := by
    by_cases hc : q < (0 : Int64)
    · exact ⟨1, by omega, by rw [if_pos hc]; rfl, by rw [own_txt, if_pos hc]; rfl⟩
    · exact ⟨0, by omega, by rw [if_neg hc]; rfl, by rw [own_txt, if_neg hc]; rfl⟩
  obtain ⟨b, hb1, hb2, hb3⟩ := hq
  rw [hb2] at h1 h3
  generalize hM : own_ab q = M at *
  generalize hnd : own_nd M = nd at *
  generalize own_p q p = P at *
  generalize own_ln (own_m q) = N at *
  generalize own_m q = m at *
  have a1 := c_iadd P N
  have r1 := rng32 (P + N)
  have a2 := c_isub (P + N) 1
  have r2 := rng32 ((P + N) - 1)
  have a3 := c_isub ((P + N) - 1) k5
  have r3 := rng32 (((P + N) - 1) - k5)
  rw [show (1 : Int32).toInt = 1 from by decide] at a2
  have e1 : (((P + N) - 1) - k5).toInt = p.toInt + ((b + (nd - 1 - k) : Nat) : Int) := by omega
  have t1 := own_tn (z := p) g1
  have t2 := own_tn (z := ((P + N) - 1) - k5) (by omega)
  have e2 : (((P + N) - 1) - k5).toNatClampNeg = p.toNatClampNeg + (b + (nd - 1 - k)) := by omega
  refine ⟨hK0, own_nn (by omega), by rw [Int32.lt_iff_toInt_lt]; omega, ?_⟩
  have hlen : (own_txt q).length = b + nd := by rw [hb3, List.length_append, own_Dlen, List.length_replicate]
  have e3 : vs.getD (((P + N) - 1) - k5).toNatClampNeg 0 = own_dg M k := by
    rw [e2, g5 _ (by omega), hb3]
    rw [List.getD_eq_getElem?_getD, List.getElem?_append_right (by simp), List.length_replicate, show b + (nd - 1 - k) - b = nd - 1 - k from by omega, ← List.getD_eq_getElem?_getD]
    exact own_Dg M nd k hlt
  have d1 := c_ldiv m K _ hK hK1
  have d2 := c_lrem (m / K) 10 10 (by decide)
  have e4 : (m / K).toInt = -((M / 10 ^ k : Nat) : Int) := by
    by_cases hx : 0 ≤ m.toInt
    · rw [d1.1 hx]
      have hM0 : M = 0 := by omega
      rw [hM0, Nat.zero_div]
      have : m.toInt = 0 := by omega
      rw [this]; simp
    · rw [d1.2 (by omega), hm]
      rw [show -(-(M : Int)) = (M : Int) from by omega]
      rfl
  generalize hy : M / 10 ^ k = y at *
  have e5 : ((m / K) - ((m / K) / (10 : Int64)) * (10 : Int64)).toInt = -((y % 10 : Nat) : Int) := by
    by_cases hx : 0 ≤ (m / K).toInt
    · rw [d2.1 hx]; omega
    · rw [d2.2 (by omega)]; omega
  generalize (m / K) - ((m / K) / (10 : Int64)) * (10 : Int64) = x at *
  have l1 := c_l2i x
  have r4 := rng32 x.toInt32
  have e6 : x.toInt32.toInt = -((y % 10 : Nat) : Int) := by omega
  have e7 : x.toInt32 = -(Int32.ofNat (y % 10)) := Int32.toInt_inj.mp (by rw [e6, own_c3 ⟨y % 10, Nat.mod_lt _ (by decide)⟩])
  rw [e7, own_c2 ⟨y % 10, Nat.mod_lt _ (by decide)⟩]
  unfold own_ca
  rw [e3, own_dg, hy]
  exact own_c1 ⟨y % 10, Nat.mod_lt _ (by decide)⟩
theorem own_nca (us : List Int32) (p : Int32) : nar .char (own_ca us p) = own_ca us p := by
  show (own_ca us p).toUInt32.toUInt16.toUInt32.toInt32 = own_ca us p
  have h1 := c_i2c (own_ca us p)
  have h2 : 0 ≤ (own_ca us p).toInt ∧ (own_ca us p).toInt < 65536 := (c_i2c ((us.getD p.toNatClampNeg 0) &&& (255 : Int32))).2
  exact Int32.toInt_inj.mp (by omega)
theorem d32_0 : decode jdk_65_method_131_code 0 = .ok (.iload_n 1, 1) := by decide +kernel
theorem d32_1 : decode jdk_65_method_131_code 1 = .ok (.iload_n 0, 1) := by decide +kernel
theorem d32_2 : decode jdk_65_method_131_code 2 = .ok (.if_icmp .ge 35, 3) := by decide +kernel
theorem d32_37 : decode jdk_65_method_131_code 37 = .ok (.return_, 1) := by decide +kernel
theorem pn_32 : plainName "java/util/Arrays" = true := by first | (simp [plainName, overriddenIn]; done) | decide +kernel
theorem ef_32 (m : MethodId) (p0 : Int32) (p1 : Int32) : entryFrame m #[(.int p0), (.int p1)] 2 = mkF m 0 #[.val (.int p0), .val (.int p1)] [] := by first | (simp [entryFrame, mkF, argsToLocals, Value.category]; done) | rfl
def Q32 (Z : State) (p0 : Int32) (p1 : Int32) (h0 : Heap) (n0 : Nat) (v : Option Value) (h : Heap) (L : List Loc) : Prop := v = none ∧ Fr n0 L ∧ h = h0
set_option maxRecDepth 65536 in
set_option maxHeartbeats 40000000 in
theorem rm32 (l : Launch) (Z : State) (a0 : Array Value) (hw : ∀ d ∈ tables_1, d.before a0 Z = true) (ws : List Jvm.Cond) (p0 : Int32) (p1 : Int32) (h0 : Heap) (n0 : Nat) (Z0 : n0 ≤ h0.size) (hA : ¬ p1 < p0) :
    MetFree l (⟨"java/util/Arrays", "checkLength", "(II)V"⟩ : MethodName) (head1 (Jvm.Cond.code (⟨"java/util/Arrays", "checkLength", "(II)V"⟩ : MethodName) jdk_65_method_131_code 2 none :: ws) ({ frames := 0, cells := 0, slots := 0, locals := 0 } : Room)) (fun a U => a = #[(.int p0), (.int p1)] ∧ Z.Warmed39 U.vm ∧ U.heap = h0) (fun _ _ _ _ _ => True) (fun _ U o U' => ∃ v L, o = .returned v ∧ Q32 Z p0 p1 h0 n0 v U'.heap L ∧ FrameEnd U o U' L ({ frames := 0, cells := 0, slots := 0, locals := 0 } : Room).cells ({ frames := 0, cells := 0, slots := 0, locals := 0 } : Room).slots) := by
  refine MetFree.of_bodySF (plainFor_of_name pn_32) hisR ?_
  intro p e s m args below meth c s₁ Bd hml0 hP hK
  obtain ⟨rfl, hZ, hh⟩ := hP
  have hx := Bd.exec
  have hby := Bd.bytes
  have hml : c.maxLocals = 2 := hml0
  have hown : s.vm.findClass "java/util/Arrays" = some m.cls := findClass_of_methodNamed Bd.named
  have hnm := (name_of_methodNamed Bd.named Bd.method).1
  have X0 : Stand p l e ({ frames := 0, cells := 0, slots := 0, locals := 0 } : Room) s m #[(.int p0), (.int p1)] below meth c s₁ [] 0 0 := Stand.of_body Bd
  have e0 : s₁.heap = h0 := by rw [← hh, Bd.state]; rfl
  have N0 := Fr.nil n0
  obtain ⟨P, pre0, fin⟩ : ∃ P : State → Prop, (∀ t, Steps p.tables e below (s₁.setTop (mkF m 0 #[.val (.int p0), .val (.int p1)] [])) t → P t) ∧ (∀ t, P t → Steps p.tables e below (s₁.setTop (entryFrame m #[(.int p0), (.int p1)] 2)) t) := ⟨fun t => Steps p.tables e below (s₁.setTop (entryFrame m #[(.int p0), (.int p1)] 2)) t, fun t k => castTop (ef_32 m p0 p1) k, fun t k => k⟩
  have K0 : Keep h0 h0 [] := Keep.refl _ _
  have pre1 : ∀ t, Steps p.tables e below (s₁.setTop (mkF m 37 #[.val (.int p0), .val (.int p1)] [])) t → P t := fun t k => pre0 t (by
      refine XS.iloadN X0.here hx rfl (hb hby d32_0) rfl ?_
      refine XS.iloadN X0.here hx rfl (hb hby d32_1) rfl ?_
      refine XS.icmpYes X0.here hx rfl (pc0 := 2) (pc' := 37) rfl (hb hby d32_2) rfl (flt (show ¬ (p1 < p0) from hA)).2.1 (by decide) (by decide) ?_
      exact k)
  obtain ⟨fs, hr, hrun, hended, hW, hsame⟩ := X0.leave (v := none) (fun _ => rfl)
  refine ⟨_, _, fin _ (pre1 _ ?_), hrun, hended, _, _, rfl, ?_, ⟨_, rfl⟩, hW, hsame.mono (by decide) (by decide)⟩
  · show Steps p.tables e below (s₁.setTop (mkF m 37 #[.val (.int p0), .val (.int p1)] [])) _
    exact X0.returnOut hx Bd.returns (hb hby d32_37) hr
  · show Q32 Z p0 p1 h0 n0 _ s₁.heap _
    rw [e0]
    exact ⟨rfl, N0, rfl⟩
theorem own_pd15 : parseMethodDescriptor "(II)V" = some ⟨[.int, .int], none⟩ := by decide +kernel
theorem d31_0 : decode jdk_65_method_133_code 0 = .ok (.iload_n 1, 1) := by decide +kernel
theorem d31_1 : decode jdk_65_method_133_code 1 = .ok (.iload_n 2, 1) := by decide +kernel
theorem d31_2 : decode jdk_65_method_133_code 2 = .ok (.invokestatic 343, 3) := by decide +kernel
theorem d31_5 : decode jdk_65_method_133_code 5 = .ok (.iload_n 2, 1) := by decide +kernel
theorem d31_6 : decode jdk_65_method_133_code 6 = .ok (.iload_n 1, 1) := by decide +kernel
theorem d31_7 : decode jdk_65_method_133_code 7 = .ok (.isub, 1) := by decide +kernel
theorem d31_8 : decode jdk_65_method_133_code 8 = .ok (.istore_n 3, 1) := by decide +kernel
theorem d31_9 : decode jdk_65_method_133_code 9 = .ok (.iload_n 3, 1) := by decide +kernel
theorem d31_10 : decode jdk_65_method_133_code 10 = .ok (.newarray .byte, 2) := by decide +kernel
theorem d31_12 : decode jdk_65_method_133_code 12 = .ok (.astore 4, 2) := by decide +kernel
theorem d31_14 : decode jdk_65_method_133_code 14 = .ok (.aload_n 0, 1) := by decide +kernel
theorem d31_15 : decode jdk_65_method_133_code 15 = .ok (.iload_n 1, 1) := by decide +kernel
theorem d31_16 : decode jdk_65_method_133_code 16 = .ok (.aload 4, 2) := by decide +kernel
theorem d31_18 : decode jdk_65_method_133_code 18 = .ok (.iconst 0, 1) := by decide +kernel
theorem d31_19 : decode jdk_65_method_133_code 19 = .ok (.aload_n 0, 1) := by decide +kernel
theorem d31_20 : decode jdk_65_method_133_code 20 = .ok (.arraylength, 1) := by decide +kernel
theorem d31_21 : decode jdk_65_method_133_code 21 = .ok (.iload_n 1, 1) := by decide +kernel
theorem d31_22 : decode jdk_65_method_133_code 22 = .ok (.isub, 1) := by decide +kernel
theorem d31_23 : decode jdk_65_method_133_code 23 = .ok (.iload_n 3, 1) := by decide +kernel
theorem d31_24 : decode jdk_65_method_133_code 24 = .ok (.invokestatic 304, 3) := by decide +kernel
theorem d31_27 : decode jdk_65_method_133_code 27 = .ok (.invokestatic 150, 3) := by decide +kernel
theorem d31_30 : decode jdk_65_method_133_code 30 = .ok (.aload 4, 2) := by decide +kernel
theorem d31_32 : decode jdk_65_method_133_code 32 = .ok (.areturn, 1) := by decide +kernel
theorem pn_31 : plainName "java/util/Arrays" = true := by first | (simp [plainName, overriddenIn]; done) | decide +kernel
theorem ef_31 (m : MethodId) (bv : Addr) (p2 : Int32) : entryFrame m #[(.ref bv), (.int (0 : Int32)), (.int p2)] 5 = mkF m 0 #[.val (.ref bv), .val (.int (0 : Int32)), .val (.int p2), .unset, .unset] [] := by first | (simp [entryFrame, mkF, argsToLocals, Value.category]; done) | rfl
def Q31 (Z : State) (bv : Addr) (p2 : Int32) (kv : ClassId) (zv : Int32) (vs : List Int32) (h0 : Heap) (n0 : Nat) (v : Option Value) (h : Heap) (L : List Loc) : Prop := ∃ bn : Addr, ∃ kn : ClassId, v = some (.ref bn) ∧ Fr n0 L ∧ Keep h0 h [] ∧ Arv Z h bn kn .byte p2 (own_v vs) (.int 0) ∧ n0 ≤ bn ∧ h0.size ≤ bn
set_option maxRecDepth 65536 in
set_option maxHeartbeats 40000000 in
theorem rm31 (l : Launch) (Z : State) (a0 : Array Value) (hw : ∀ d ∈ tables_1, d.before a0 Z = true) (ws : List Jvm.Cond) (bv : Addr) (p2 : Int32) (kv : ClassId) (zv : Int32) (vs : List Int32) (h0 : Heap) (n0 : Nat) (Z0 : n0 ≤ h0.size) (OLD0 : Old Z n0 h0) (Pr_0 : Arv Z h0 bv kv .byte zv (own_v vs) (.int 0)) (HR : own_R zv vs p2) :
    MetFree l (⟨"java/util/Arrays", "copyOfRangeByte", "([BII)[B"⟩ : MethodName) (head1 (Jvm.Cond.code (⟨"java/util/Arrays", "copyOfRangeByte", "([BII)[B"⟩ : MethodName) jdk_65_method_133_code 5 (some (.array .byte)) :: ws) ({ frames := 1, cells := 1, slots := 220, locals := 18 } : Room)) (fun a U => a = #[(.ref bv), (.int (0 : Int32)), (.int p2)] ∧ Z.Warmed39 U.vm ∧ U.heap = h0) (fun _ _ _ _ _ => True) (fun _ U o U' => ∃ v L, o = .returned v ∧ Q31 Z bv p2 kv zv vs h0 n0 v U'.heap L ∧ FrameEnd U o U' L ({ frames := 1, cells := 1, slots := 220, locals := 18 } : Room).cells ({ frames := 1, cells := 1, slots := 220, locals := 18 } : Room).slots) := by
  refine MetFree.of_bodySF (plainFor_of_name pn_31) hisR ?_
  intro p e s m args below meth c s₁ Bd hml0 hP hK
  obtain ⟨rfl, hZ, hh⟩ := hP
  have hx := Bd.exec
  have hby := Bd.bytes
  have hml : c.maxLocals = 5 := hml0
  have hown : s.vm.findClass "java/util/Arrays" = some m.cls := findClass_of_methodNamed Bd.named
  have hnm := (name_of_methodNamed Bd.named Bd.method).1
  have X0 : Stand p l e ({ frames := 1, cells := 1, slots := 220, locals := 18 } : Room) s m #[(.ref bv), (.int (0 : Int32)), (.int p2)] below meth c s₁ [] 0 0 := Stand.of_body Bd
  have e0 : s₁.heap = h0 := by rw [← hh, Bd.state]; rfl
  have N0 := Fr.nil n0
  obtain ⟨P, pre0, fin⟩ : ∃ P : State → Prop, (∀ t, Steps p.tables e below (s₁.setTop (mkF m 0 #[.val (.ref bv), .val (.int (0 : Int32)), .val (.int p2), .unset, .unset] [])) t → P t) ∧ (∀ t, P t → Steps p.tables e below (s₁.setTop (entryFrame m #[(.ref bv), (.int (0 : Int32)), (.int p2)] 5)) t) := ⟨fun t => Steps p.tables e below (s₁.setTop (entryFrame m #[(.ref bv), (.int (0 : Int32)), (.int p2)] 5)) t, fun t k => castTop (ef_31 m bv p2) k, fun t k => k⟩
  have K0 : Keep h0 h0 [] := Keep.refl _ _
  have pre1 : ∀ t, Steps p.tables e below (s₁.setTop (mkF m 2 #[.val (.ref bv), .val (.int (0 : Int32)), .val (.int p2), .unset, .unset] [(.int p2), (.int (0 : Int32))])) t → P t := fun t k => pre0 t (by
      refine XS.iloadN X0.here hx rfl (hb hby d31_0) rfl ?_
      refine XS.iloadN X0.here hx rfl (hb hby d31_1) rfl ?_
      exact k)
  obtain ⟨_, _, ⟨T2, L2, k2, n2⟩, -, X2, ⟨Lc2, hQ2, l2, y2, z2⟩, st2⟩ := Jvm.LawKit.callS X0 hx (y := (⟨"java/util/Arrays", "checkLength", "(II)V"⟩ : MethodName)) hown (mvT hZ (hi hw 186 rfl)) (mvT hZ (hi hw 187 rfl)) (mvT hZ (hi hw 141 rfl)) (mvT hZ (hi hw 188 rfl)) (by decide) (backOf (W := 0) (rm32 l Z a0 hw [] (0 : Int32) p2 h0 n0 Z0 (own_R0 HR)) hZ (hi hw 188 rfl) (hi hw 141 rfl) (by decide) (by decide)) (g := (mkF m 2 #[.val (.ref bv), .val (.int (0 : Int32)), .val (.int p2), .unset, .unset] [(.int p2), (.int (0 : Int32))])) rfl (by rw [hml]; rfl) (argsL := [(.int (0 : Int32)), (.int p2)]) (rest := []) (lenOf own_pd15 rfl) rfl (by show 2 * 0 + _ ≤ _; exact Nat.le_of_eq rfl) (hb hby d31_2) (fun _ _ => ⟨rfl, e0, (by decide : 0 + 0 ≤ _), (by decide : 0 + 0 ≤ _)⟩)
  dsimp only [Pt.U, Pt.locs, Pt.cells, Pt.slots] at X2 l2 y2 z2 st2 hQ2
  subst l2 y2 z2
  obtain ⟨rfl, N2q, e2⟩ := hQ2
  have N2 := Fr.app N0 N2q
  have pre2 : ∀ t, Steps p.tables e below (T2.setTop (mkF m 5 #[.val (.ref bv), .val (.int (0 : Int32)), .val (.int p2), .unset, .unset] [])) t → P t := fun t k => pre1 t (st2 _ k)
  have pre3 : ∀ t, Steps p.tables e below (T2.setTop (mkF m 8 #[.val (.ref bv), .val (.int (0 : Int32)), .val (.int p2), .unset, .unset] [(.int (p2 - (0 : Int32)))])) t → P t := fun t k => pre2 t (by
      refine XS.iloadN X2.here hx rfl (hb hby d31_5) rfl ?_
      refine XS.iloadN X2.here hx rfl (hb hby d31_6) rfl ?_
      refine XS.isub X2.here hx rfl (hb hby d31_7) rfl ?_
      exact k)
  have pre4 : ∀ t, Steps p.tables e below (T2.setTop (mkF m 8 #[.val (.ref bv), .val (.int (0 : Int32)), .val (.int p2), .unset, .unset] [(.int p2)])) t → P t := fun t k => pre3 t (by rw [show (p2 - (0 : Int32)) = p2 from (own_sub0 _)]; exact k)
  have pre5 : ∀ t, Steps p.tables e below (T2.setTop (mkF m 10 #[.val (.ref bv), .val (.int (0 : Int32)), .val (.int p2), .val (.int p2), .unset] [(.int p2)])) t → P t := fun t k => pre4 t (by
      refine XS.istoreN X2.here hx rfl (hb hby d31_8) rfl (l' := #[.val (.ref bv), .val (.int (0 : Int32)), .val (.int p2), .val (.int p2), .unset]) rfl ?_
      refine XS.iloadN X2.here hx rfl (hb hby d31_9) rfl ?_
      exact k)
  obtain ⟨T6, h6, k6, X6, e6, E6, A6, Ex6, st6⟩ := newPE X2 hx hZ (hi hw 37 rfl) e2 (g := (mkF m 10 #[.val (.ref bv), .val (.int (0 : Int32)), .val (.int p2), .val (.int p2), .unset] [(.int p2)])) rfl (hb hby d31_10) rfl (own_R0 HR) (cap := 220) (own_Rc HR) (by decide) (by decide) (by decide) (ad := "[B") (by decide)
  obtain ⟨b6, g6⟩ : ∃ z, z = h0.size := ⟨_, rfl⟩
  have g_b6 : n0 ≤ b6 := Nat.le_trans Z0 (Nat.le_of_eq g6.symm)
  have sz_b6 : h0.size ≤ b6 := Nat.le_trans K0.1 (Nat.le_of_eq g6.symm)
  rw [← g6] at A6 Ex6 st6
  have pre6 : ∀ t, Steps p.tables e below (T6.setTop (mkF m 12 #[.val (.ref bv), .val (.int (0 : Int32)), .val (.int p2), .val (.int p2), .unset] [(.ref b6)])) t → P t := fun t k => pre5 t (st6 _ k)
  have c7 : n0 ≤ h6.size := Nat.le_trans Z0 E6.1
  have c8 : Old Z n0 h6 := OLD0.ext E6
  have c9 : Arv Z h6 bv kv .byte zv (own_v vs) (.int 0) := Pr_0.ext E6
  have K10 : Keep h0 h6 [] := K0.ext E6
  have V_b6 : Arv Z h6 b6 k6 .byte p2 (own_v []) (.int 0) := Arv.new A6 (own_R0 HR)
  have pre11 : ∀ t, Steps p.tables e below (T6.setTop (mkF m 20 #[.val (.ref bv), .val (.int (0 : Int32)), .val (.int p2), .val (.int p2), .val (.ref b6)] [(.ref bv), (.int (0 : Int32)), (.ref b6), (.int (0 : Int32)), (.ref bv)])) t → P t := fun t k => pre6 t (by
      refine XS.astore X6.here hx rfl (hb hby d31_12) rfl rfl (l' := #[.val (.ref bv), .val (.int (0 : Int32)), .val (.int p2), .val (.int p2), .val (.ref b6)]) rfl ?_
      refine XS.aloadN X6.here hx rfl (hb hby d31_14) rfl rfl ?_
      refine XS.iloadN X6.here hx rfl (hb hby d31_15) rfl ?_
      refine XS.aload X6.here hx rfl (hb hby d31_16) rfl rfl ?_
      refine XS.iconst X6.here hx rfl (hb hby d31_18) ?_
      refine XS.aloadN X6.here hx rfl (hb hby d31_19) rfl rfl ?_
      exact k)
  obtain ⟨clq12, Arq12, -, Sq12, Nq12', -, -⟩ := id c9
  have pre13 : ∀ t, Steps p.tables e below (T6.setTop (mkF m 23 #[.val (.ref bv), .val (.int (0 : Int32)), .val (.int p2), .val (.int p2), .val (.ref b6)] [(.int (zv - (0 : Int32))), (.int (0 : Int32)), (.ref b6), (.int (0 : Int32)), (.ref bv)])) t → P t := fun t k => pre11 t (by
      refine X6.arraylength hx (by rw [e6]; exact Arq12.1) (State.isArrayOf_alike hZ.alike Arq12.2.1) (g := (mkF m 20 #[.val (.ref bv), .val (.int (0 : Int32)), .val (.int p2), .val (.int p2), .val (.ref b6)] [(.ref bv), (.int (0 : Int32)), (.ref b6), (.int (0 : Int32)), (.ref bv)])) rfl rfl (hb hby d31_20) _ ?_
      rw [len_of Sq12 Nq12']
      refine XS.iloadN X6.here hx rfl (hb hby d31_21) rfl ?_
      refine XS.isub X6.here hx rfl (hb hby d31_22) rfl ?_
      exact k)
  have pre14 : ∀ t, Steps p.tables e below (T6.setTop (mkF m 23 #[.val (.ref bv), .val (.int (0 : Int32)), .val (.int p2), .val (.int p2), .val (.ref b6)] [(.int zv), (.int (0 : Int32)), (.ref b6), (.int (0 : Int32)), (.ref bv)])) t → P t := fun t k => pre13 t (by rw [show (zv - (0 : Int32)) = zv from (own_sub0 _)]; exact k)
  have pre15 : ∀ t, Steps p.tables e below (T6.setTop (mkF m 24 #[.val (.ref bv), .val (.int (0 : Int32)), .val (.int p2), .val (.int p2), .val (.ref b6)] [(.int p2), (.int zv), (.int (0 : Int32)), (.ref b6), (.int (0 : Int32)), (.ref bv)])) t → P t := fun t k => pre14 t (by
      refine XS.iloadN X6.here hx rfl (hb hby d31_23) rfl ?_
      exact k)
  obtain ⟨_, _, ⟨T16, L16, k16, n16⟩, -, X16, ⟨Lc16, hQ16, l16, y16, z16⟩, st16⟩ := Jvm.LawKit.callS X6 hx (y := (⟨"java/lang/Math", "min", "(II)I"⟩ : MethodName)) hown (mvT hZ (hi hw 143 rfl)) (mvT hZ (hi hw 144 rfl)) (mvT hZ (hi hw 135 rfl)) (mvT hZ (hi hw 145 rfl)) (by decide) (backOf (W := 4) (rm23 l Z a0 hw [] zv p2 h6 n0 c7 ) hZ (hi hw 145 rfl) (hi hw 135 rfl) (by decide) (by decide)) (g := (mkF m 24 #[.val (.ref bv), .val (.int (0 : Int32)), .val (.int p2), .val (.int p2), .val (.ref b6)] [(.int p2), (.int zv), (.int (0 : Int32)), (.ref b6), (.int (0 : Int32)), (.ref bv)])) rfl (by rw [hml]; rfl) (argsL := [(.int zv), (.int p2)]) (rest := [(.int (0 : Int32)), (.ref b6), (.int (0 : Int32)), (.ref bv)]) (lenOf own_pd2 rfl) rfl (by show 2 * 0 + _ ≤ _; exact Nat.le_of_eq rfl) (hb hby d31_24) (fun _ _ => ⟨rfl, e6, (by decide : 1 + 0 ≤ _), (by decide : 220 + 0 ≤ _)⟩)
  dsimp only [Pt.U, Pt.locs, Pt.cells, Pt.slots] at X16 l16 y16 z16 st16 hQ16
  subst l16 y16 z16
  obtain ⟨rfl, N16q, e16⟩ := hQ16
  have N16 := Fr.app N2 N16q
  have pre16 : ∀ t, Steps p.tables e below (T16.setTop (mkF m 27 #[.val (.ref bv), .val (.int (0 : Int32)), .val (.int p2), .val (.int p2), .val (.ref b6)] [(.int (own_f23 zv p2)), (.int (0 : Int32)), (.ref b6), (.int (0 : Int32)), (.ref bv)])) t → P t := fun t k => pre15 t (st16 _ k)
  have pre17 : ∀ t, Steps p.tables e below (T16.setTop (mkF m 27 #[.val (.ref bv), .val (.int (0 : Int32)), .val (.int p2), .val (.int p2), .val (.ref b6)] [(.int p2), (.int (0 : Int32)), (.ref b6), (.int (0 : Int32)), (.ref bv)])) t → P t := fun t k => pre16 t (by rw [show (own_f23 zv p2) = p2 from (own_Rmin HR)]; exact k)
  obtain ⟨T18, h18, L18, X18, e18, N18, Kc18, Ac18, st18⟩ := cpA X16 hx hZ hown (hi hw 146 rfl) (hi hw 97 rfl) (hi hw 95 rfl) (hi hw 96 rfl) e16 c9 (own_vpad V_b6 (p2).toNatClampNeg) (Or.inl ⟨rfl, rfl⟩) (by decide) (by decide) (own_R0 HR) (by rw [own_z0, Nat.zero_add]; exact own_Rle HR) (by rw [own_z0, Nat.zero_add]; exact Nat.le_refl _) rfl (by simp [own_v, own_z0]) N16 g_b6 (g := (mkF m 27 #[.val (.ref bv), .val (.int (0 : Int32)), .val (.int p2), .val (.int p2), .val (.ref b6)] [(.int p2), (.int (0 : Int32)), (.ref b6), (.int (0 : Int32)), (.ref bv)])) rfl (by rw [hml]; rfl) rfl (hb hby d31_27) (by decide) (W := 0) (by show 2 * 0 + _ ≤ _; exact Nat.le_of_eq rfl) (by decide)
  have pre18 : ∀ t, Steps p.tables e below (T18.setTop (mkF m 30 #[.val (.ref bv), .val (.int (0 : Int32)), .val (.int p2), .val (.int p2), .val (.ref b6)] [])) t → P t := fun t k => pre17 t (st18 _ k)
  have c19 : n0 ≤ h18.size := Nat.le_trans c7 Kc18.1
  have c20 : Old Z n0 h18 := c8.keep Kc18 (allS (P := fun x => n0 ≤ x) g_b6 all0)
  have c21 : Arv Z h18 bv kv .byte zv (own_v vs) (.int 0) := c9.keep Kc18 (ninS (Nat.ne_of_lt (Nat.lt_of_lt_of_le Pr_0.lt (Nat.le_of_eq g6.symm))) nin0)
  have c22 : Exa Z h18 b6 "[B" := Ex6.keep Kc18
  have K23 : Keep h0 h18 [] := K10.trans Kc18 (allS (P := fun x => x ∈ ([] : List Addr) ∨ h0.size ≤ x) (Or.inr sz_b6) all0)
  have V18 : Arv Z h18 b6 k6 .byte p2 (own_v vs) (.int 0) := own_cp0 _ _ (own_Rl HR) Ac18
  have pre24 : ∀ t, Steps p.tables e below (T18.setTop (mkF m 32 #[.val (.ref bv), .val (.int (0 : Int32)), .val (.int p2), .val (.int p2), .val (.ref b6)] [(.ref b6)])) t → P t := fun t k => pre18 t (by
      refine XS.aload X18.here hx rfl (hb hby d31_30) rfl rfl ?_
      exact k)
  obtain ⟨fs, hr, hrun, hended, hW, hsame⟩ := X18.leave (v := some (.ref b6)) (fun h => by rw [Bd.returns] at h; cases h)
  refine ⟨_, _, fin _ (pre24 _ ?_), hrun, hended, _, _, rfl, ?_, ⟨_, rfl⟩, hW, hsame.mono (by decide) (by decide)⟩
  · show Steps p.tables e below (T18.setTop (mkF m 32 #[.val (.ref bv), .val (.int (0 : Int32)), .val (.int p2), .val (.int p2), .val (.ref b6)] [(.ref b6)])) _
    jvm_step X18.here [X18.here.top, hx, (hb hby d31_32), X18.method', Bd.returns, Value.isRef, FieldType.isReference]
    first | (intro acts; rw [hr _ acts rfl rfl rfl]) | rw [hr _ _ rfl rfl rfl]
    exact Steps.refl _
  · show Q31 Z bv p2 kv zv vs h0 n0 _ T18.heap _
    rw [e18]
    exact ⟨b6, k6, rfl, N18, K23, V18, g_b6, sz_b6⟩
theorem own_pd16 : parseMethodDescriptor "([BII)[B" = some ⟨[(.array .byte), .int, .int], some (.array .byte)⟩ := by decide +kernel
theorem d30_0 : decode jdk_65_method_132_code 0 = .ok (.iload_n 1, 1) := by decide +kernel
theorem d30_1 : decode jdk_65_method_132_code 1 = .ok (.ifCond .ne 9, 3) := by decide +kernel
theorem d30_4 : decode jdk_65_method_132_code 4 = .ok (.iload_n 2, 1) := by decide +kernel
theorem d30_5 : decode jdk_65_method_132_code 5 = .ok (.aload_n 0, 1) := by decide +kernel
theorem d30_6 : decode jdk_65_method_132_code 6 = .ok (.arraylength, 1) := by decide +kernel
theorem d30_7 : decode jdk_65_method_132_code 7 = .ok (.if_icmp .eq 10, 3) := by decide +kernel
theorem d30_10 : decode jdk_65_method_132_code 10 = .ok (.aload_n 0, 1) := by decide +kernel
theorem d30_11 : decode jdk_65_method_132_code 11 = .ok (.iload_n 1, 1) := by decide +kernel
theorem d30_12 : decode jdk_65_method_132_code 12 = .ok (.iload_n 2, 1) := by decide +kernel
theorem d30_13 : decode jdk_65_method_132_code 13 = .ok (.invokestatic 339, 3) := by decide +kernel
theorem d30_16 : decode jdk_65_method_132_code 16 = .ok (.areturn, 1) := by decide +kernel
theorem d30_17 : decode jdk_65_method_132_code 17 = .ok (.aload_n 0, 1) := by decide +kernel
theorem d30_18 : decode jdk_65_method_132_code 18 = .ok (.invokevirtual 310, 3) := by decide +kernel
theorem d30_21 : decode jdk_65_method_132_code 21 = .ok (.checkcast 311, 3) := by decide +kernel
theorem d30_24 : decode jdk_65_method_132_code 24 = .ok (.areturn, 1) := by decide +kernel
theorem pn_30 : plainName "java/util/Arrays" = true := by first | (simp [plainName, overriddenIn]; done) | decide +kernel
theorem ef_30 (m : MethodId) (bv : Addr) (p2 : Int32) : entryFrame m #[(.ref bv), (.int (0 : Int32)), (.int p2)] 3 = mkF m 0 #[.val (.ref bv), .val (.int (0 : Int32)), .val (.int p2)] [] := by first | (simp [entryFrame, mkF, argsToLocals, Value.category]; done) | rfl
def Q30 (Z : State) (bv : Addr) (p2 : Int32) (kv : ClassId) (zv : Int32) (vs : List Int32) (h0 : Heap) (n0 : Nat) (v : Option Value) (h : Heap) (L : List Loc) : Prop := ∃ bn : Addr, ∃ kn : ClassId, v = some (.ref bn) ∧ Fr n0 L ∧ Keep h0 h [] ∧ Arv Z h bn kn .byte p2 (own_v vs) (.int 0) ∧ n0 ≤ bn ∧ h0.size ≤ bn
set_option maxRecDepth 65536 in
set_option maxHeartbeats 40000000 in
theorem rm30 (l : Launch) (Z : State) (a0 : Array Value) (hw : ∀ d ∈ tables_1, d.before a0 Z = true) (ws : List Jvm.Cond) (bv : Addr) (p2 : Int32) (kv : ClassId) (zv : Int32) (vs : List Int32) (h0 : Heap) (n0 : Nat) (Z0 : n0 ≤ h0.size) (OLD0 : Old Z n0 h0) (Pr_0 : Arv Z h0 bv kv .byte zv (own_v vs) (.int 0)) (Pr_1 : Exa Z h0 bv "[B") (HR : own_R zv vs p2) :
    MetFree l (⟨"java/util/Arrays", "copyOfRange", "([BII)[B"⟩ : MethodName) (head1 (Jvm.Cond.code (⟨"java/util/Arrays", "copyOfRange", "([BII)[B"⟩ : MethodName) jdk_65_method_132_code 3 (some (.array .byte)) :: ws) ({ frames := 2, cells := 1, slots := 220, locals := 34 } : Room)) (fun a U => a = #[(.ref bv), (.int (0 : Int32)), (.int p2)] ∧ Z.Warmed39 U.vm ∧ U.heap = h0) (fun _ _ _ _ _ => True) (fun _ U o U' => ∃ v L, o = .returned v ∧ Q30 Z bv p2 kv zv vs h0 n0 v U'.heap L ∧ FrameEnd U o U' L ({ frames := 2, cells := 1, slots := 220, locals := 34 } : Room).cells ({ frames := 2, cells := 1, slots := 220, locals := 34 } : Room).slots) := by
  refine MetFree.of_bodySF (plainFor_of_name pn_30) hisR ?_
  intro p e s m args below meth c s₁ Bd hml0 hP hK
  obtain ⟨rfl, hZ, hh⟩ := hP
  have hx := Bd.exec
  have hby := Bd.bytes
  have hml : c.maxLocals = 3 := hml0
  have hown : s.vm.findClass "java/util/Arrays" = some m.cls := findClass_of_methodNamed Bd.named
  have hnm := (name_of_methodNamed Bd.named Bd.method).1
  have X0 : Stand p l e ({ frames := 2, cells := 1, slots := 220, locals := 34 } : Room) s m #[(.ref bv), (.int (0 : Int32)), (.int p2)] below meth c s₁ [] 0 0 := Stand.of_body Bd
  have e0 : s₁.heap = h0 := by rw [← hh, Bd.state]; rfl
  have N0 := Fr.nil n0
  obtain ⟨P, pre0, fin⟩ : ∃ P : State → Prop, (∀ t, Steps p.tables e below (s₁.setTop (mkF m 0 #[.val (.ref bv), .val (.int (0 : Int32)), .val (.int p2)] [])) t → P t) ∧ (∀ t, P t → Steps p.tables e below (s₁.setTop (entryFrame m #[(.ref bv), (.int (0 : Int32)), (.int p2)] 3)) t) := ⟨fun t => Steps p.tables e below (s₁.setTop (entryFrame m #[(.ref bv), (.int (0 : Int32)), (.int p2)] 3)) t, fun t k => castTop (ef_30 m bv p2) k, fun t k => k⟩
  have K0 : Keep h0 h0 [] := Keep.refl _ _
  have pre1 : ∀ t, Steps p.tables e below (s₁.setTop (mkF m 6 #[.val (.ref bv), .val (.int (0 : Int32)), .val (.int p2)] [(.ref bv), (.int p2)])) t → P t := fun t k => pre0 t (by
      refine XS.iloadN X0.here hx rfl (hb hby d30_0) rfl ?_
      refine XS.ifNo X0.here hx rfl (hb hby d30_1) rfl ((if0 _ _).trans (teq (rfl : (0 : Int32) = (0 : Int32))).2) ?_
      refine XS.iloadN X0.here hx rfl (hb hby d30_4) rfl ?_
      refine XS.aloadN X0.here hx rfl (hb hby d30_5) rfl rfl ?_
      exact k)
  obtain ⟨clq2, Arq2, -, Sq2, Nq2', -, -⟩ := id Pr_0
  have pre3 : ∀ t, Steps p.tables e below (s₁.setTop (mkF m 7 #[.val (.ref bv), .val (.int (0 : Int32)), .val (.int p2)] [(.int zv), (.int p2)])) t → P t := fun t k => pre1 t (by
      refine X0.arraylength hx (by rw [e0]; exact Arq2.1) (State.isArrayOf_alike hZ.alike Arq2.2.1) (g := (mkF m 6 #[.val (.ref bv), .val (.int (0 : Int32)), .val (.int p2)] [(.ref bv), (.int p2)])) rfl rfl (hb hby d30_6) _ ?_
      rw [len_of Sq2 Nq2']
      exact k)
  by_cases hc4 : p2 = zv
  · have pre5 : ∀ t, Steps p.tables e below (s₁.setTop (mkF m 18 #[.val (.ref bv), .val (.int (0 : Int32)), .val (.int p2)] [(.ref bv)])) t → P t := fun t k => pre3 t (by
        refine XS.icmpYes X0.here hx rfl (pc0 := 7) (pc' := 17) rfl (hb hby d30_7) rfl (teq hc4).1 (by decide) (by decide) ?_
        refine XS.aloadN X0.here hx rfl (hb hby d30_17) rfl rfl ?_
        exact k)
    obtain ⟨T6, h6, X6, e6, E6, A6, Ex6, st6⟩ := cloneH X0 hx hZ hown (hi hw 250 rfl) (hi hw 251 rfl) (hi hw 255 rfl) (hi hw 253 rfl) (hi hw 254 rfl) (hi hw 256 rfl) e0 (Arv.arh Pr_0) Pr_1 (g := (mkF m 18 #[.val (.ref bv), .val (.int (0 : Int32)), .val (.int p2)] [(.ref bv)])) rfl (by rw [hml]; rfl) rfl (hb hby d30_18) (by decide) (W := 0) (cap := 220) (by show 2 * 0 + _ ≤ _; exact Nat.le_of_eq rfl) (by decide) (own_Bc HR.1) (by decide) (by decide)
    obtain ⟨b6, g6⟩ : ∃ z, z = h0.size := ⟨_, rfl⟩
    have g_b6 : n0 ≤ b6 := Nat.le_trans Z0 (Nat.le_of_eq g6.symm)
    have sz_b6 : h0.size ≤ b6 := Nat.le_trans K0.1 (Nat.le_of_eq g6.symm)
    rw [← g6] at A6 Ex6 st6
    have pre6 : ∀ t, Steps p.tables e below (T6.setTop (mkF m 21 #[.val (.ref bv), .val (.int (0 : Int32)), .val (.int p2)] [(.ref b6)])) t → P t := fun t k => pre5 t (st6 _ k)
    have c7 : n0 ≤ h6.size := Nat.le_trans Z0 E6.1
    have c8 : Old Z n0 h6 := OLD0.ext E6
    have c9 : Arv Z h6 bv kv .byte zv (own_v vs) (.int 0) := Pr_0.ext E6
    have c10 : Exa Z h6 bv "[B" := Pr_1.ext E6
    have K11 : Keep h0 h6 [] := K0.ext E6
    have V_b6 : Arv Z h6 b6 kv .byte zv (own_v vs) (.int 0) := A6
    obtain ⟨T12, X12, e12, st12⟩ := castY X6 hx hZ hown (hi hw 257 rfl) e6 (Ins.self Ex6) (g := (mkF m 21 #[.val (.ref bv), .val (.int (0 : Int32)), .val (.int p2)] [(.ref b6)])) rfl rfl (hb hby d30_21)
    have pre12 : ∀ t, Steps p.tables e below (T12.setTop (mkF m 24 #[.val (.ref bv), .val (.int (0 : Int32)), .val (.int p2)] [(.ref b6)])) t → P t := fun t k => pre6 t (st12 _ k)
    have Vz13 : Arv Z h6 b6 kv .byte p2 (own_v vs) (.int 0) := own_zc V_b6 hc4
    obtain ⟨fs, hr, hrun, hended, hW, hsame⟩ := X12.leave (v := some (.ref b6)) (fun h => by rw [Bd.returns] at h; cases h)
    refine ⟨_, _, fin _ (pre12 _ ?_), hrun, hended, _, _, rfl, ?_, ⟨_, rfl⟩, hW, hsame.mono (by decide) (by decide)⟩
    · show Steps p.tables e below (T12.setTop (mkF m 24 #[.val (.ref bv), .val (.int (0 : Int32)), .val (.int p2)] [(.ref b6)])) _
      jvm_step X12.here [X12.here.top, hx, (hb hby d30_24), X12.method', Bd.returns, Value.isRef, FieldType.isReference]
      first | (intro acts; rw [hr _ acts rfl rfl rfl]) | rw [hr _ _ rfl rfl rfl]
      exact Steps.refl _
    · show Q30 Z bv p2 kv zv vs h0 n0 _ T12.heap _
      rw [e12]
      exact ⟨b6, kv, rfl, N0, K11, Vz13, g_b6, sz_b6⟩
  · have pre14 : ∀ t, Steps p.tables e below (s₁.setTop (mkF m 13 #[.val (.ref bv), .val (.int (0 : Int32)), .val (.int p2)] [(.int p2), (.int (0 : Int32)), (.ref bv)])) t → P t := fun t k => pre3 t (by
        refine XS.icmpNo X0.here hx rfl (hb hby d30_7) rfl (feq hc4).1 ?_
        refine XS.aloadN X0.here hx rfl (hb hby d30_10) rfl rfl ?_
        refine XS.iloadN X0.here hx rfl (hb hby d30_11) rfl ?_
        refine XS.iloadN X0.here hx rfl (hb hby d30_12) rfl ?_
        exact k)
    obtain ⟨_, _, ⟨T15, L15, k15, n15⟩, -, X15, ⟨Lc15, hQ15, l15, y15, z15⟩, st15⟩ := Jvm.LawKit.callS X0 hx (y := (⟨"java/util/Arrays", "copyOfRangeByte", "([BII)[B"⟩ : MethodName)) hown (mvT hZ (hi hw 183 rfl)) (mvT hZ (hi hw 184 rfl)) (mvT hZ (hi hw 141 rfl)) (mvT hZ (hi hw 185 rfl)) (by decide) (backOf (W := 0) (rm31 l Z a0 hw [] bv p2 kv zv vs h0 n0 Z0 OLD0 Pr_0 HR) hZ (hi hw 185 rfl) (hi hw 141 rfl) (by decide) (by decide)) (g := (mkF m 13 #[.val (.ref bv), .val (.int (0 : Int32)), .val (.int p2)] [(.int p2), (.int (0 : Int32)), (.ref bv)])) rfl (by rw [hml]; rfl) (argsL := [(.ref bv), (.int (0 : Int32)), (.int p2)]) (rest := []) (lenOf own_pd16 rfl) rfl (by show 2 * 0 + _ ≤ _; exact Nat.le_of_eq rfl) (hb hby d30_13) (fun _ _ => ⟨rfl, e0, (by decide : 0 + 1 ≤ _), (by decide : 0 + 220 ≤ _)⟩)
    dsimp only [Pt.U, Pt.locs, Pt.cells, Pt.slots] at X15 l15 y15 z15 st15 hQ15
    subst l15 y15 z15
    obtain ⟨bn_15, kn_15, rfl, N15q, K15, FF15_0, FF15_1, FF15_2⟩ := hQ15
    have c16 : n0 ≤ T15.heap.size := Nat.le_trans Z0 K15.1
    have c17 : Old Z n0 T15.heap := OLD0.keep K15 all0
    have c18 : Arv Z T15.heap bv kv .byte zv (own_v vs) (.int 0) := Pr_0.keep K15 nin0
    have c19 : Exa Z T15.heap bv "[B" := Pr_1.keep K15
    have K20 : Keep h0 T15.heap [] := K0.trans K15 all0
    have g_bn_15 := FF15_1
    have SZ_bn_15 := FF15_2
    have sz_bn_15 : h0.size ≤ bn_15 := Nat.le_trans K0.1 FF15_2
    have N15 := Fr.app N0 N15q
    have pre15 : ∀ t, Steps p.tables e below (T15.setTop (mkF m 16 #[.val (.ref bv), .val (.int (0 : Int32)), .val (.int p2)] [(.ref bn_15)])) t → P t := fun t k => pre14 t (st15 _ k)
    obtain ⟨fs, hr, hrun, hended, hW, hsame⟩ := X15.leave (v := some (.ref bn_15)) (fun h => by rw [Bd.returns] at h; cases h)
    refine ⟨_, _, fin _ (pre15 _ ?_), hrun, hended, _, _, rfl, ?_, ⟨_, rfl⟩, hW, hsame.mono (by decide) (by decide)⟩
    · show Steps p.tables e below (T15.setTop (mkF m 16 #[.val (.ref bv), .val (.int (0 : Int32)), .val (.int p2)] [(.ref bn_15)])) _
      jvm_step X15.here [X15.here.top, hx, (hb hby d30_16), X15.method', Bd.returns, Value.isRef, FieldType.isReference]
      first | (intro acts; rw [hr _ acts rfl rfl rfl]) | rw [hr _ _ rfl rfl rfl]
      exact Steps.refl _
    · show Q30 Z bv p2 kv zv vs h0 n0 _ T15.heap _
      exact ⟨bn_15, kn_15, rfl, N15, K20, FF15_0, g_bn_15, sz_bn_15⟩
theorem own_pd17 : parseMethodDescriptor "()[B" = some ⟨[], some (.array .byte)⟩ := by decide +kernel
theorem d26_0 : decode jdk_42_method_150_code 0 = .ok (.aload_n 0, 1) := by decide +kernel
theorem d26_1 : decode jdk_42_method_150_code 1 = .ok (.invokespecial 1, 3) := by decide +kernel
theorem d26_4 : decode jdk_42_method_150_code 4 = .ok (.aload_n 1, 1) := by decide +kernel
theorem d26_5 : decode jdk_42_method_150_code 5 = .ok (.invokevirtual 552, 3) := by decide +kernel
theorem d26_8 : decode jdk_42_method_150_code 8 = .ok (.astore_n 3, 1) := by decide +kernel
theorem d26_9 : decode jdk_42_method_150_code 9 = .ok (.aload_n 1, 1) := by decide +kernel
theorem d26_10 : decode jdk_42_method_150_code 10 = .ok (.invokevirtual 549, 3) := by decide +kernel
theorem d26_13 : decode jdk_42_method_150_code 13 = .ok (.istore 4, 2) := by decide +kernel
theorem d26_15 : decode jdk_42_method_150_code 15 = .ok (.aload_n 1, 1) := by decide +kernel
theorem d26_16 : decode jdk_42_method_150_code 16 = .ok (.invokevirtual 1047, 3) := by decide +kernel
theorem d26_19 : decode jdk_42_method_150_code 19 = .ok (.ifCond .eq 22, 3) := by decide +kernel
theorem d26_22 : decode jdk_42_method_150_code 22 = .ok (.aload_n 0, 1) := by decide +kernel
theorem d26_23 : decode jdk_42_method_150_code 23 = .ok (.iconst 0, 1) := by decide +kernel
theorem d26_24 : decode jdk_42_method_150_code 24 = .ok (.putfield 15, 3) := by decide +kernel
theorem d26_27 : decode jdk_42_method_150_code 27 = .ok (.aload_n 0, 1) := by decide +kernel
theorem d26_28 : decode jdk_42_method_150_code 28 = .ok (.aload_n 3, 1) := by decide +kernel
theorem d26_29 : decode jdk_42_method_150_code 29 = .ok (.iconst 0, 1) := by decide +kernel
theorem d26_30 : decode jdk_42_method_150_code 30 = .ok (.iload 4, 2) := by decide +kernel
theorem d26_32 : decode jdk_42_method_150_code 32 = .ok (.invokestatic 54, 3) := by decide +kernel
theorem d26_35 : decode jdk_42_method_150_code 35 = .ok (.putfield 9, 3) := by decide +kernel
theorem d26_38 : decode jdk_42_method_150_code 38 = .ok (.goto 59, 3) := by decide +kernel
theorem d26_97 : decode jdk_42_method_150_code 97 = .ok (.return_, 1) := by decide +kernel
theorem pn_26 : plainName "java/lang/String" = true := by first | (simp [plainName, overriddenIn]; done) | decide +kernel
theorem ef_26 (m : MethodId) (o0 : Addr) (o1 : Addr) : entryFrame m #[(.ref o0), (.ref o1), .null] 5 = mkF m 0 #[.val (.ref o0), .val (.ref o1), .val .null, .unset, .unset] [] := by first | (simp [entryFrame, mkF, argsToLocals, Value.category]; done) | rfl
def Q26 (Z : State) (o0 : Addr) (o1 : Addr) (bv : Addr) (kv : ClassId) (zv : Int32) (vs : List Int32) (nv : Int32) (h0 : Heap) (n0 : Nat) (v : Option Value) (h : Heap) (L : List Loc) : Prop := ∃ bn : Addr, ∃ kn : ClassId, v = none ∧ Fr n0 L ∧ Keep h0 h [o0] ∧ Exa Z h o0 "java/lang/String" ∧ Fld Z h o0 "java/lang/String" "coder" "B" (.int (0 : Int32)) ∧ Fld Z h o0 "java/lang/String" "value" "[B" (.ref bn) ∧ Arv Z h bn kn .byte nv (own_v vs) (.int 0) ∧ n0 ≤ bn ∧ h0.size ≤ bn
set_option maxRecDepth 65536 in
set_option maxHeartbeats 40000000 in
theorem rm26 (l : Launch) (Z : State) (a0 : Array Value) (hw : ∀ d ∈ tables_1, d.before a0 Z = true) (ws : List Jvm.Cond) (o0 : Addr) (o1 : Addr) (bv : Addr) (kv : ClassId) (zv : Int32) (vs : List Int32) (nv : Int32) (h0 : Heap) (n0 : Nat) (Z0 : n0 ≤ h0.size) (OLD0 : Old Z n0 h0) (Pr_0 : Exa Z h0 o0 "java/lang/String") (Pr_1 : Fld Z h0 o0 "java/lang/String" "coder" "B" (.int (0 : Int32))) (Pr_2 : Fld Z h0 o0 "java/lang/String" "value" "[B" .null) (Pr_3 : Exa Z h0 o1 "java/lang/StringBuilder") (Pr_4 : Fld Z h0 o1 "java/lang/AbstractStringBuilder" "coder" "B" (.int (0 : Int32))) (Pr_5 : Fld Z h0 o1 "java/lang/AbstractStringBuilder" "value" "[B" (.ref bv)) (Pr_6 : Fld Z h0 o1 "java/lang/AbstractStringBuilder" "count" "I" (.int nv)) (Pr_7 : Arv Z h0 bv kv .byte zv (own_v vs) (.int 0)) (Pr_8 : Exa Z h0 bv "[B") (g_o0 : n0 ≤ o0) (HC : own_CC Z) (HR : own_R zv vs nv) :
    MetFree l (⟨"java/lang/String", "<init>", "(Ljava/lang/AbstractStringBuilder;Ljava/lang/Void;)V"⟩ : MethodName) (head1 (Jvm.Cond.code (⟨"java/lang/String", "<init>", "(Ljava/lang/AbstractStringBuilder;Ljava/lang/Void;)V"⟩ : MethodName) jdk_42_method_150_code 5 none :: ws) ({ frames := 3, cells := 1, slots := 220, locals := 49 } : Room)) (fun a U => a = #[(.ref o0), (.ref o1), .null] ∧ Z.Warmed39 U.vm ∧ U.heap = h0) (fun _ _ _ _ _ => True) (fun _ U o U' => ∃ v L, o = .returned v ∧ Q26 Z o0 o1 bv kv zv vs nv h0 n0 v U'.heap L ∧ FrameEnd U o U' L ({ frames := 3, cells := 1, slots := 220, locals := 49 } : Room).cells ({ frames := 3, cells := 1, slots := 220, locals := 49 } : Room).slots) := by
  refine MetFree.of_bodySF (plainFor_of_name pn_26) hisR ?_
  intro p e s m args below meth c s₁ Bd hml0 hP hK
  obtain ⟨rfl, hZ, hh⟩ := hP
  have hx := Bd.exec
  have hby := Bd.bytes
  have hml : c.maxLocals = 5 := hml0
  have hown : s.vm.findClass "java/lang/String" = some m.cls := findClass_of_methodNamed Bd.named
  have hnm := (name_of_methodNamed Bd.named Bd.method).1
  have X0 : Stand p l e ({ frames := 3, cells := 1, slots := 220, locals := 49 } : Room) s m #[(.ref o0), (.ref o1), .null] below meth c s₁ [] 0 0 := Stand.of_body Bd
  have e0 : s₁.heap = h0 := by rw [← hh, Bd.state]; rfl
  have N0 := Fr.nil n0
  obtain ⟨P, pre0, fin⟩ : ∃ P : State → Prop, (∀ t, Steps p.tables e below (s₁.setTop (mkF m 0 #[.val (.ref o0), .val (.ref o1), .val .null, .unset, .unset] [])) t → P t) ∧ (∀ t, P t → Steps p.tables e below (s₁.setTop (entryFrame m #[(.ref o0), (.ref o1), .null] 5)) t) := ⟨fun t => Steps p.tables e below (s₁.setTop (entryFrame m #[(.ref o0), (.ref o1), .null] 5)) t, fun t k => castTop (ef_26 m o0 o1) k, fun t k => k⟩
  have K0 : Keep h0 h0 [o0] := Keep.refl _ _
  have pre1 : ∀ t, Steps p.tables e below (s₁.setTop (mkF m 1 #[.val (.ref o0), .val (.ref o1), .val .null, .unset, .unset] [(.ref o0)])) t → P t := fun t k => pre0 t (by
      refine XS.aloadN X0.here hx rfl (hb hby d26_0) rfl rfl ?_
      exact k)
  obtain ⟨T2, X2, e2, st2⟩ := initO X0 hx hZ hown (hi hw 165 rfl) (hi hw 7 rfl) (hi hw 8 rfl) e0 (g := (mkF m 1 #[.val (.ref o0), .val (.ref o1), .val .null, .unset, .unset] [(.ref o0)])) rfl (by rw [hml]; rfl) rfl (hb hby d26_1) (by decide) (W := 0) (by show 2 * 0 + _ ≤ _; exact Nat.le_of_eq rfl) (by decide)
  have pre2 : ∀ t, Steps p.tables e below (T2.setTop (mkF m 4 #[.val (.ref o0), .val (.ref o1), .val .null, .unset, .unset] [])) t → P t := fun t k => pre1 t (st2 _ k)
  have pre3 : ∀ t, Steps p.tables e below (T2.setTop (mkF m 5 #[.val (.ref o0), .val (.ref o1), .val .null, .unset, .unset] [(.ref o1)])) t → P t := fun t k => pre2 t (by
      refine XS.aloadN X2.here hx rfl (hb hby d26_4) rfl rfl ?_
      exact k)
  obtain ⟨cq4, kq4, q4a, q4b, q4c⟩ := isOf hZ e2 Pr_3
  obtain ⟨_, _, ⟨T4, L4, k4, n4⟩, -, X4, ⟨Lc4, hQ4, l4, y4, z4⟩, st4⟩ := X2.virtualBack hx (y := (⟨"java/lang/AbstractStringBuilder", "getValue", "()[B"⟩ : MethodName)) (z := (⟨"java/lang/AbstractStringBuilder", "getValue", "()[B"⟩ : MethodName)) hown (mvT hZ (hi hw 166 rfl)) (mvT hZ (hi hw 167 rfl)) (notFace_of_selects (args := #[]) (mvT hZ (hi hw 169 rfl))) (mvT hZ (hi hw 169 rfl)) (mvT hZ (hi hw 168 rfl)) (by decide) (backOf (W := 0) (rm27 l Z a0 hw [] o1 bv h0 n0 Z0 Pr_5) hZ (hi hw 170 rfl) (hi hw 32 rfl) (by decide) (by decide)) q4a q4c (g := (mkF m 5 #[.val (.ref o0), .val (.ref o1), .val .null, .unset, .unset] [(.ref o1)])) rfl (by rw [hml]; rfl) (Steps.refl _) (argsL := []) (rest := []) (lenOf own_pd17 rfl) rfl (by show 2 * 0 + _ ≤ _; exact Nat.le_of_eq rfl) (hb hby d26_5) (fun _ _ => ⟨rfl, e2, (by decide : 0 + 0 ≤ _), (by decide : 0 + 0 ≤ _)⟩)
  dsimp only [Pt.U, Pt.locs, Pt.cells, Pt.slots] at X4 l4 y4 z4 st4 hQ4
  subst l4 y4 z4
  obtain ⟨rfl, N4q, e4⟩ := hQ4
  have N4 := Fr.app N0 N4q
  have pre4 : ∀ t, Steps p.tables e below (T4.setTop (mkF m 8 #[.val (.ref o0), .val (.ref o1), .val .null, .unset, .unset] [(.ref bv)])) t → P t := fun t k => pre3 t (st4.trans k)
  have pre5 : ∀ t, Steps p.tables e below (T4.setTop (mkF m 10 #[.val (.ref o0), .val (.ref o1), .val .null, .val (.ref bv), .unset] [(.ref o1)])) t → P t := fun t k => pre4 t (by
      refine XS.astoreN X4.here hx rfl (hb hby d26_8) rfl rfl (l' := #[.val (.ref o0), .val (.ref o1), .val .null, .val (.ref bv), .unset]) rfl ?_
      refine XS.aloadN X4.here hx rfl (hb hby d26_9) rfl rfl ?_
      exact k)
  obtain ⟨cq6, kq6, q6a, q6b, q6c⟩ := isOf hZ e4 Pr_3
  obtain ⟨_, _, ⟨T6, L6, k6, n6⟩, -, X6, ⟨Lc6, hQ6, l6, y6, z6⟩, st6⟩ := X4.virtualBack hx (y := (⟨"java/lang/AbstractStringBuilder", "length", "()I"⟩ : MethodName)) (z := (⟨"java/lang/StringBuilder", "length", "()I"⟩ : MethodName)) hown (mvT hZ (hi hw 171 rfl)) (mvT hZ (hi hw 172 rfl)) (own_nf (a0 := #[]) (mvT hZ (hi hw 115 rfl)) rfl) (mvT hZ (hi hw 174 rfl)) (mvT hZ (hi hw 175 rfl)) (by decide) (backOf (W := 0) (rm28 l Z a0 hw [] o1 nv h0 n0 Z0 Pr_3 Pr_6) hZ (hi hw 176 rfl) (hi hw 24 rfl) (by decide) (by decide)) q6a q6c (g := (mkF m 10 #[.val (.ref o0), .val (.ref o1), .val .null, .val (.ref bv), .unset] [(.ref o1)])) rfl (by rw [hml]; rfl) (Steps.refl _) (argsL := []) (rest := []) (lenOf own_pd1 rfl) rfl (by show 2 * 0 + _ ≤ _; exact Nat.le_of_eq rfl) (hb hby d26_10) (fun _ _ => ⟨rfl, e4, (by decide : 0 + 0 ≤ _), (by decide : 0 + 0 ≤ _)⟩)
  dsimp only [Pt.U, Pt.locs, Pt.cells, Pt.slots] at X6 l6 y6 z6 st6 hQ6
  subst l6 y6 z6
  obtain ⟨rfl, N6q, e6⟩ := hQ6
  have N6 := Fr.app N4 N6q
  have pre6 : ∀ t, Steps p.tables e below (T6.setTop (mkF m 13 #[.val (.ref o0), .val (.ref o1), .val .null, .val (.ref bv), .unset] [(.int nv)])) t → P t := fun t k => pre5 t (st6.trans k)
  have pre7 : ∀ t, Steps p.tables e below (T6.setTop (mkF m 16 #[.val (.ref o0), .val (.ref o1), .val .null, .val (.ref bv), .val (.int nv)] [(.ref o1)])) t → P t := fun t k => pre6 t (by
      refine XS.istore X6.here hx rfl (hb hby d26_13) rfl (l' := #[.val (.ref o0), .val (.ref o1), .val .null, .val (.ref bv), .val (.int nv)]) rfl ?_
      refine XS.aloadN X6.here hx rfl (hb hby d26_15) rfl rfl ?_
      exact k)
  obtain ⟨cq8, kq8, q8a, q8b, q8c⟩ := isOf hZ e6 Pr_3
  obtain ⟨_, _, ⟨T8, L8, k8, n8⟩, -, X8, ⟨Lc8, hQ8, l8, y8, z8⟩, st8⟩ := X6.virtualBack hx (y := (⟨"java/lang/AbstractStringBuilder", "isLatin1", "()Z"⟩ : MethodName)) (z := (⟨"java/lang/AbstractStringBuilder", "isLatin1", "()Z"⟩ : MethodName)) hown (mvT hZ (hi hw 179 rfl)) (mvT hZ (hi hw 113 rfl)) (notFace_of_selects (args := #[]) (mvT hZ (hi hw 115 rfl))) (mvT hZ (hi hw 115 rfl)) (mvT hZ (hi hw 114 rfl)) (by decide) (backOf (W := 0) (rm17 l Z a0 hw [] o1 h0 n0 Z0 OLD0 Pr_4 HC) hZ (hi hw 116 rfl) (hi hw 32 rfl) (by decide) (by decide)) q8a q8c (g := (mkF m 16 #[.val (.ref o0), .val (.ref o1), .val .null, .val (.ref bv), .val (.int nv)] [(.ref o1)])) rfl (by rw [hml]; rfl) (Steps.refl _) (argsL := []) (rest := []) (lenOf own_pd12 rfl) rfl (by show 2 * 0 + _ ≤ _; exact Nat.le_of_eq rfl) (hb hby d26_16) (fun _ _ => ⟨rfl, e6, (by decide : 0 + 0 ≤ _), (by decide : 0 + 0 ≤ _)⟩)
  dsimp only [Pt.U, Pt.locs, Pt.cells, Pt.slots] at X8 l8 y8 z8 st8 hQ8
  subst l8 y8 z8
  obtain ⟨rfl, N8q, e8⟩ := hQ8
  have N8 := Fr.app N6 N8q
  have pre8 : ∀ t, Steps p.tables e below (T8.setTop (mkF m 19 #[.val (.ref o0), .val (.ref o1), .val .null, .val (.ref bv), .val (.int nv)] [(.int (1 : Int32))])) t → P t := fun t k => pre7 t (st8.trans k)
  have pre9 : ∀ t, Steps p.tables e below (T8.setTop (mkF m 24 #[.val (.ref o0), .val (.ref o1), .val .null, .val (.ref bv), .val (.int nv)] [(.int (0 : Int32)), (.ref o0)])) t → P t := fun t k => pre8 t (by
      refine XS.ifNo X8.here hx rfl (hb hby d26_19) rfl ((if0 _ _).trans (feq (by decide : ¬ ((1 : Int32) = (0 : Int32)))).1) ?_
      refine XS.aloadN X8.here hx rfl (hb hby d26_22) rfl rfl ?_
      refine XS.iconst X8.here hx rfl (hb hby d26_23) ?_
      exact k)
  obtain ⟨T10, h10, X10, e10, W10, st10⟩ := putFN X8 hx hZ hown (hi hw 70 rfl) Via.refl e8 Pr_1 Pr_0 (Or.inr ⟨(hi hw 45 rfl), rfl, hnm⟩) (hi hw 43 rfl) (ty := .byte) (v' := (.int (nar .byte (0 : Int32)))) (by decide) rfl (fits_nar_byte _) (g := (mkF m 24 #[.val (.ref o0), .val (.ref o1), .val .null, .val (.ref bv), .val (.int nv)] [(.int (0 : Int32)), (.ref o0)])) rfl rfl (hb hby d26_24)
  have pre10 : ∀ t, Steps p.tables e below (T10.setTop (mkF m 27 #[.val (.ref o0), .val (.ref o1), .val .null, .val (.ref bv), .val (.int nv)] [])) t → P t := fun t k => pre9 t (st10 _ k)
  have Fw10 := Pr_1.same W10
  have c11 : n0 ≤ h10.size := Nat.le_trans Z0 (Keep.of_wr W10).1
  have c12 : Old Z n0 h10 := OLD0.wr W10 g_o0
  have c13 : Exa Z h10 o0 "java/lang/String" := Pr_0.wr W10
  have c14 : Fld Z h10 o0 "java/lang/String" "value" "[B" .null := Pr_2.other W10 (Or.inr (slot_ne (Or.inr (hi hw 44 rfl)) (Or.inr (hi hw 45 rfl)) (by decide) (t := (.array .byte)) (t' := .byte) (by decide) (by decide)))
  have c15 : Exa Z h10 o1 "java/lang/StringBuilder" := Pr_3.wr W10
  have c16 : Fld Z h10 o1 "java/lang/AbstractStringBuilder" "coder" "B" (.int (0 : Int32)) := Pr_4.other W10 (Or.inl (ne_exa Pr_3 Pr_0 (by decide)))
  have c17 : Fld Z h10 o1 "java/lang/AbstractStringBuilder" "value" "[B" (.ref bv) := Pr_5.other W10 (Or.inl (ne_exa Pr_3 Pr_0 (by decide)))
  have c18 : Fld Z h10 o1 "java/lang/AbstractStringBuilder" "count" "I" (.int nv) := Pr_6.other W10 (Or.inl (ne_exa Pr_3 Pr_0 (by decide)))
  have c19 : Arv Z h10 bv kv .byte zv (own_v vs) (.int 0) := Pr_7.other W10 (ne_exa Pr_8 Pr_0 (by decide))
  have c20 : Exa Z h10 bv "[B" := Pr_8.wr W10
  have K21 : Keep h0 h10 [o0] := K0.wr W10 (Or.inl (List.mem_of_getElem? (i := 0) rfl))
  have N10 := Fr.snoc X10 N8 g_o0
  have pre22 : ∀ t, Steps p.tables e below (T10.setTop (mkF m 32 #[.val (.ref o0), .val (.ref o1), .val .null, .val (.ref bv), .val (.int nv)] [(.int nv), (.int (0 : Int32)), (.ref bv), (.ref o0)])) t → P t := fun t k => pre10 t (by
      refine XS.aloadN X10.here hx rfl (hb hby d26_27) rfl rfl ?_
      refine XS.aloadN X10.here hx rfl (hb hby d26_28) rfl rfl ?_
      refine XS.iconst X10.here hx rfl (hb hby d26_29) ?_
      refine XS.iload X10.here hx rfl (hb hby d26_30) rfl ?_
      exact k)
  obtain ⟨_, _, ⟨T23, L23, k23, n23⟩, -, X23, ⟨Lc23, hQ23, l23, y23, z23⟩, st23⟩ := Jvm.LawKit.callS X10 hx (y := (⟨"java/util/Arrays", "copyOfRange", "([BII)[B"⟩ : MethodName)) hown (mvT hZ (hi hw 180 rfl)) (mvT hZ (hi hw 181 rfl)) (mvT hZ (hi hw 141 rfl)) (mvT hZ (hi hw 182 rfl)) (by decide) (backOf (W := 1) (rm30 l Z a0 hw [] bv nv kv zv vs h10 n0 c11 c12 c19 c20 HR) hZ (hi hw 182 rfl) (hi hw 141 rfl) (by decide) (by decide)) (g := (mkF m 32 #[.val (.ref o0), .val (.ref o1), .val .null, .val (.ref bv), .val (.int nv)] [(.int nv), (.int (0 : Int32)), (.ref bv), (.ref o0)])) rfl (by rw [hml]; rfl) (argsL := [(.ref bv), (.int (0 : Int32)), (.int nv)]) (rest := [(.ref o0)]) (lenOf own_pd16 rfl) rfl (by show 2 * 0 + _ ≤ _; exact Nat.le_of_eq rfl) (hb hby d26_32) (fun _ _ => ⟨rfl, e10, (by decide : 0 + 1 ≤ _), (by decide : 0 + 220 ≤ _)⟩)
  dsimp only [Pt.U, Pt.locs, Pt.cells, Pt.slots] at X23 l23 y23 z23 st23 hQ23
  subst l23 y23 z23
  obtain ⟨bn_23, kn_23, rfl, N23q, K23, FF23_0, FF23_1, FF23_2⟩ := hQ23
  have c24 : n0 ≤ T23.heap.size := Nat.le_trans c11 K23.1
  have c25 : Old Z n0 T23.heap := c12.keep K23 all0
  have c26 : Exa Z T23.heap o0 "java/lang/String" := c13.keep K23
  have c27 : Fld Z T23.heap o0 "java/lang/String" "value" "[B" .null := c14.keep K23 nin0
  have c28 : Exa Z T23.heap o1 "java/lang/StringBuilder" := c15.keep K23
  have c29 : Fld Z T23.heap o1 "java/lang/AbstractStringBuilder" "coder" "B" (.int (0 : Int32)) := c16.keep K23 nin0
  have c30 : Fld Z T23.heap o1 "java/lang/AbstractStringBuilder" "value" "[B" (.ref bv) := c17.keep K23 nin0
  have c31 : Fld Z T23.heap o1 "java/lang/AbstractStringBuilder" "count" "I" (.int nv) := c18.keep K23 nin0
  have c32 : Arv Z T23.heap bv kv .byte zv (own_v vs) (.int 0) := c19.keep K23 nin0
  have c33 : Exa Z T23.heap bv "[B" := c20.keep K23
  have c34 : Fld Z T23.heap o0 "java/lang/String" "coder" "B" (.int (nar .byte (0 : Int32))) := Fw10.keep K23 nin0
  have K35 : Keep h0 T23.heap [o0] := K21.trans K23 all0
  have g_bn_23 := FF23_1
  have SZ_bn_23 := FF23_2
  have sz_bn_23 : h0.size ≤ bn_23 := Nat.le_trans K21.1 FF23_2
  have N23 := Fr.app N10 N23q
  have pre23 : ∀ t, Steps p.tables e below (T23.setTop (mkF m 35 #[.val (.ref o0), .val (.ref o1), .val .null, .val (.ref bv), .val (.int nv)] [(.ref bn_23), (.ref o0)])) t → P t := fun t k => pre22 t (st23 _ k)
  obtain ⟨T36, h36, X36, e36, W36, st36⟩ := putF X23 hx hZ hown (host := "") (Or.inl (hi hw 63 rfl)) Via.refl rfl c27 c26 (Or.inr ⟨(hi hw 44 rfl), rfl, hnm⟩) (hi hw 43 rfl) (ty := (.array .byte)) (by decide) rfl rfl (g := (mkF m 35 #[.val (.ref o0), .val (.ref o1), .val .null, .val (.ref bv), .val (.int nv)] [(.ref bn_23), (.ref o0)])) rfl rfl (hb hby d26_35)
  have pre36 : ∀ t, Steps p.tables e below (T36.setTop (mkF m 38 #[.val (.ref o0), .val (.ref o1), .val .null, .val (.ref bv), .val (.int nv)] [])) t → P t := fun t k => pre23 t (st36 _ k)
  have Fw36 := c27.same W36
  have c37 : n0 ≤ h36.size := Nat.le_trans c24 (Keep.of_wr W36).1
  have c38 : Old Z n0 h36 := c25.wr W36 g_o0
  have c39 : Exa Z h36 o0 "java/lang/String" := c26.wr W36
  have c40 : Exa Z h36 o1 "java/lang/StringBuilder" := c28.wr W36
  have c41 : Fld Z h36 o1 "java/lang/AbstractStringBuilder" "coder" "B" (.int (0 : Int32)) := c29.other W36 (Or.inl (ne_exa c28 c26 (by decide)))
  have c42 : Fld Z h36 o1 "java/lang/AbstractStringBuilder" "value" "[B" (.ref bv) := c30.other W36 (Or.inl (ne_exa c28 c26 (by decide)))
  have c43 : Fld Z h36 o1 "java/lang/AbstractStringBuilder" "count" "I" (.int nv) := c31.other W36 (Or.inl (ne_exa c28 c26 (by decide)))
  have c44 : Arv Z h36 bv kv .byte zv (own_v vs) (.int 0) := c32.other W36 (ne_exa c33 c26 (by decide))
  have c45 : Exa Z h36 bv "[B" := c33.wr W36
  have c46 : Fld Z h36 o0 "java/lang/String" "coder" "B" (.int (nar .byte (0 : Int32))) := c34.other W36 (Or.inr (slot_ne (Or.inr (hi hw 45 rfl)) (Or.inr (hi hw 44 rfl)) (by decide) (t := .byte) (t' := (.array .byte)) (by decide) (by decide)))
  have c47 : Arv Z h36 bn_23 kn_23 .byte nv (own_v vs) (.int 0) := FF23_0.other W36 (Ne.symm (Nat.ne_of_lt (Nat.lt_of_lt_of_le Fw10.lt SZ_bn_23)))
  have K48 : Keep h0 h36 [o0] := K35.wr W36 (Or.inl (List.mem_of_getElem? (i := 0) rfl))
  have N36 := Fr.snoc X36 N23 g_o0
  have pre49 : ∀ t, Steps p.tables e below (T36.setTop (mkF m 97 #[.val (.ref o0), .val (.ref o1), .val .null, .val (.ref bv), .val (.int nv)] [])) t → P t := fun t k => pre36 t (by
      refine XS.goto X36.here hx rfl (pc0 := 38) (pc' := 97) rfl (hb hby d26_38) (by decide) (by decide) ?_
      exact k)
  have Fz50 : Fld Z h36 o0 "java/lang/String" "coder" "B" (.int (0 : Int32)) := own_n0 ▸ c46
  obtain ⟨fs, hr, hrun, hended, hW, hsame⟩ := X36.leave (v := none) (fun _ => rfl)
  refine ⟨_, _, fin _ (pre49 _ ?_), hrun, hended, _, _, rfl, ?_, ⟨_, rfl⟩, hW, hsame.mono (by decide) (by decide)⟩
  · show Steps p.tables e below (T36.setTop (mkF m 97 #[.val (.ref o0), .val (.ref o1), .val .null, .val (.ref bv), .val (.int nv)] [])) _
    exact X36.returnOut hx Bd.returns (hb hby d26_97) hr
  · show Q26 Z o0 o1 bv kv zv vs nv h0 n0 _ T36.heap _
    rw [e36]
    exact ⟨bn_23, kn_23, rfl, N36, K48, c39, Fz50, Fw36, c47, g_bn_23, sz_bn_23⟩
theorem own_pd18 : parseMethodDescriptor "(Ljava/lang/AbstractStringBuilder;Ljava/lang/Void;)V" = some ⟨[(.object "java/lang/AbstractStringBuilder"), (.object "java/lang/Void")], none⟩ := by decide +kernel
theorem d25_0 : decode jdk_42_method_53_code 0 = .ok (.aload_n 0, 1) := by decide +kernel
theorem d25_1 : decode jdk_42_method_53_code 1 = .ok (.aload_n 1, 1) := by decide +kernel
theorem d25_2 : decode jdk_42_method_53_code 2 = .ok (.aconst_null, 1) := by decide +kernel
theorem d25_3 : decode jdk_42_method_53_code 3 = .ok (.invokespecial 489, 3) := by decide +kernel
theorem d25_6 : decode jdk_42_method_53_code 6 = .ok (.return_, 1) := by decide +kernel
theorem pn_25 : plainName "java/lang/String" = true := by first | (simp [plainName, overriddenIn]; done) | decide +kernel
theorem ef_25 (m : MethodId) (o0 : Addr) (o1 : Addr) : entryFrame m #[(.ref o0), (.ref o1)] 2 = mkF m 0 #[.val (.ref o0), .val (.ref o1)] [] := by first | (simp [entryFrame, mkF, argsToLocals, Value.category]; done) | rfl
def Q25 (Z : State) (o0 : Addr) (o1 : Addr) (bv : Addr) (kv : ClassId) (zv : Int32) (vs : List Int32) (nv : Int32) (h0 : Heap) (n0 : Nat) (v : Option Value) (h : Heap) (L : List Loc) : Prop := ∃ bn : Addr, ∃ kn : ClassId, v = none ∧ Fr n0 L ∧ Keep h0 h [o0] ∧ Exa Z h o0 "java/lang/String" ∧ Fld Z h o0 "java/lang/String" "coder" "B" (.int (0 : Int32)) ∧ Fld Z h o0 "java/lang/String" "value" "[B" (.ref bn) ∧ Arv Z h bn kn .byte nv (own_v vs) (.int 0) ∧ n0 ≤ bn ∧ h0.size ≤ bn
set_option maxRecDepth 65536 in
set_option maxHeartbeats 40000000 in
theorem rm25 (l : Launch) (Z : State) (a0 : Array Value) (hw : ∀ d ∈ tables_1, d.before a0 Z = true) (ws : List Jvm.Cond) (o0 : Addr) (o1 : Addr) (bv : Addr) (kv : ClassId) (zv : Int32) (vs : List Int32) (nv : Int32) (h0 : Heap) (n0 : Nat) (Z0 : n0 ≤ h0.size) (OLD0 : Old Z n0 h0) (Pr_0 : Exa Z h0 o0 "java/lang/String") (Pr_1 : Fld Z h0 o0 "java/lang/String" "coder" "B" (.int (0 : Int32))) (Pr_2 : Fld Z h0 o0 "java/lang/String" "value" "[B" .null) (Pr_3 : Exa Z h0 o1 "java/lang/StringBuilder") (Pr_4 : Fld Z h0 o1 "java/lang/AbstractStringBuilder" "coder" "B" (.int (0 : Int32))) (Pr_5 : Fld Z h0 o1 "java/lang/AbstractStringBuilder" "value" "[B" (.ref bv)) (Pr_6 : Fld Z h0 o1 "java/lang/AbstractStringBuilder" "count" "I" (.int nv)) (Pr_7 : Arv Z h0 bv kv .byte zv (own_v vs) (.int 0)) (Pr_8 : Exa Z h0 bv "[B") (g_o0 : n0 ≤ o0) (HC : own_CC Z) (HR : own_R zv vs nv) :
    MetFree l (⟨"java/lang/String", "<init>", "(Ljava/lang/StringBuilder;)V"⟩ : MethodName) (head1 (Jvm.Cond.code (⟨"java/lang/String", "<init>", "(Ljava/lang/StringBuilder;)V"⟩ : MethodName) jdk_42_method_53_code 2 none :: ws) ({ frames := 4, cells := 1, slots := 220, locals := 65 } : Room)) (fun a U => a = #[(.ref o0), (.ref o1)] ∧ Z.Warmed39 U.vm ∧ U.heap = h0) (fun _ _ _ _ _ => True) (fun _ U o U' => ∃ v L, o = .returned v ∧ Q25 Z o0 o1 bv kv zv vs nv h0 n0 v U'.heap L ∧ FrameEnd U o U' L ({ frames := 4, cells := 1, slots := 220, locals := 65 } : Room).cells ({ frames := 4, cells := 1, slots := 220, locals := 65 } : Room).slots) := by
  refine MetFree.of_bodySF (plainFor_of_name pn_25) hisR ?_
  intro p e s m args below meth c s₁ Bd hml0 hP hK
  obtain ⟨rfl, hZ, hh⟩ := hP
  have hx := Bd.exec
  have hby := Bd.bytes
  have hml : c.maxLocals = 2 := hml0
  have hown : s.vm.findClass "java/lang/String" = some m.cls := findClass_of_methodNamed Bd.named
  have hnm := (name_of_methodNamed Bd.named Bd.method).1
  have X0 : Stand p l e ({ frames := 4, cells := 1, slots := 220, locals := 65 } : Room) s m #[(.ref o0), (.ref o1)] below meth c s₁ [] 0 0 := Stand.of_body Bd
  have e0 : s₁.heap = h0 := by rw [← hh, Bd.state]; rfl
  have N0 := Fr.nil n0
  obtain ⟨P, pre0, fin⟩ : ∃ P : State → Prop, (∀ t, Steps p.tables e below (s₁.setTop (mkF m 0 #[.val (.ref o0), .val (.ref o1)] [])) t → P t) ∧ (∀ t, P t → Steps p.tables e below (s₁.setTop (entryFrame m #[(.ref o0), (.ref o1)] 2)) t) := ⟨fun t => Steps p.tables e below (s₁.setTop (entryFrame m #[(.ref o0), (.ref o1)] 2)) t, fun t k => castTop (ef_25 m o0 o1) k, fun t k => k⟩
  have K0 : Keep h0 h0 [o0] := Keep.refl _ _
  have pre1 : ∀ t, Steps p.tables e below (s₁.setTop (mkF m 3 #[.val (.ref o0), .val (.ref o1)] [.null, (.ref o1), (.ref o0)])) t → P t := fun t k => pre0 t (by
      refine XS.aloadN X0.here hx rfl (hb hby d25_0) rfl rfl ?_
      refine XS.aloadN X0.here hx rfl (hb hby d25_1) rfl rfl ?_
      refine XS.aconstNull X0.here hx rfl (hb hby d25_2) ?_
      exact k)
  obtain ⟨_, _, ⟨T2, L2, k2, n2⟩, -, X2, ⟨Lc2, hQ2, l2, y2, z2⟩, st2⟩ := X0.specialBack hx (y := (⟨"java/lang/String", "<init>", "(Ljava/lang/AbstractStringBuilder;Ljava/lang/Void;)V"⟩ : MethodName)) rfl hown (mvT hZ (hi hw 162 rfl)) (mvT hZ (hi hw 163 rfl)) (mvT hZ (hi hw 164 rfl)) (by decide) (backOf (W := 0) (rm26 l Z a0 hw [] o0 o1 bv kv zv vs nv h0 n0 Z0 OLD0 Pr_0 Pr_1 Pr_2 Pr_3 Pr_4 Pr_5 Pr_6 Pr_7 Pr_8 g_o0 HC HR) hZ (hi hw 164 rfl) (hi hw 36 rfl) (by decide) (by decide)) (g := (mkF m 3 #[.val (.ref o0), .val (.ref o1)] [.null, (.ref o1), (.ref o0)])) rfl (by rw [hml]; rfl) (Steps.refl _) (a := o0) (argsL := [(.ref o1), .null]) (rest := []) (lenOf own_pd18 rfl) rfl (by show 2 * 0 + _ ≤ _; exact Nat.le_of_eq rfl) (hb hby d25_3) (fun _ _ => ⟨rfl, e0, (by decide : 0 + 1 ≤ _), (by decide : 0 + 220 ≤ _)⟩)
  dsimp only [Pt.U, Pt.locs, Pt.cells, Pt.slots] at X2 l2 y2 z2 st2 hQ2
  subst l2 y2 z2
  obtain ⟨bn_2, kn_2, rfl, N2q, K2, FF2_0, FF2_1, FF2_2, FF2_3, FF2_4, FF2_5⟩ := hQ2
  have c3 : n0 ≤ T2.heap.size := Nat.le_trans Z0 K2.1
  have c4 : Old Z n0 T2.heap := OLD0.keep K2 (allS (P := fun x => n0 ≤ x) g_o0 all0)
  have c5 : Exa Z T2.heap o0 "java/lang/String" := Pr_0.keep K2
  have c6 : Exa Z T2.heap o1 "java/lang/StringBuilder" := Pr_3.keep K2
  have c7 : Fld Z T2.heap o1 "java/lang/AbstractStringBuilder" "coder" "B" (.int (0 : Int32)) := Pr_4.keep K2 (ninS (ne_exa Pr_3 Pr_0 (by decide)) nin0)
  have c8 : Fld Z T2.heap o1 "java/lang/AbstractStringBuilder" "value" "[B" (.ref bv) := Pr_5.keep K2 (ninS (ne_exa Pr_3 Pr_0 (by decide)) nin0)
  have c9 : Fld Z T2.heap o1 "java/lang/AbstractStringBuilder" "count" "I" (.int nv) := Pr_6.keep K2 (ninS (ne_exa Pr_3 Pr_0 (by decide)) nin0)
  have c10 : Arv Z T2.heap bv kv .byte zv (own_v vs) (.int 0) := Pr_7.keep K2 (ninS (ne_exa Pr_8 Pr_0 (by decide)) nin0)
  have c11 : Exa Z T2.heap bv "[B" := Pr_8.keep K2
  have K12 : Keep h0 T2.heap [o0] := K0.trans K2 (allS (P := fun x => x ∈ ([o0] : List Addr) ∨ h0.size ≤ x) (Or.inl (List.mem_of_getElem? (i := 0) rfl)) all0)
  have g_bn_2 := FF2_4
  have SZ_bn_2 := FF2_5
  have sz_bn_2 : h0.size ≤ bn_2 := Nat.le_trans K0.1 FF2_5
  have N2 := Fr.app N0 N2q
  have pre2 : ∀ t, Steps p.tables e below (T2.setTop (mkF m 6 #[.val (.ref o0), .val (.ref o1)] [])) t → P t := fun t k => pre1 t (st2.trans k)
  obtain ⟨fs, hr, hrun, hended, hW, hsame⟩ := X2.leave (v := none) (fun _ => rfl)
  refine ⟨_, _, fin _ (pre2 _ ?_), hrun, hended, _, _, rfl, ?_, ⟨_, rfl⟩, hW, hsame.mono (by decide) (by decide)⟩
  · show Steps p.tables e below (T2.setTop (mkF m 6 #[.val (.ref o0), .val (.ref o1)] [])) _
    exact X2.returnOut hx Bd.returns (hb hby d25_6) hr
  · show Q25 Z o0 o1 bv kv zv vs nv h0 n0 _ T2.heap _
    exact ⟨bn_2, kn_2, rfl, N2, K12, FF2_0, FF2_1, FF2_2, FF2_3, g_bn_2, sz_bn_2⟩
theorem own_pd19 : parseMethodDescriptor "(Ljava/lang/StringBuilder;)V" = some ⟨[(.object "java/lang/StringBuilder")], none⟩ := by decide +kernel
theorem d24_0 : decode jdk_67_method_42_code 0 = .ok (.new 18, 3) := by decide +kernel
theorem d24_3 : decode jdk_67_method_42_code 3 = .ok (.dup, 1) := by decide +kernel
theorem d24_4 : decode jdk_67_method_42_code 4 = .ok (.aload_n 0, 1) := by decide +kernel
theorem d24_5 : decode jdk_67_method_42_code 5 = .ok (.invokespecial 137, 3) := by decide +kernel
theorem d24_8 : decode jdk_67_method_42_code 8 = .ok (.areturn, 1) := by decide +kernel
theorem pn_24 : plainName "java/lang/StringBuilder" = true := by first | (simp [plainName, overriddenIn]; done) | decide +kernel
theorem ef_24 (m : MethodId) (o0 : Addr) : entryFrame m #[(.ref o0)] 1 = mkF m 0 #[.val (.ref o0)] [] := by first | (simp [entryFrame, mkF, argsToLocals, Value.category]; done) | rfl
def Q24 (Z : State) (o0 : Addr) (bv : Addr) (kv : ClassId) (zv : Int32) (vs : List Int32) (nv : Int32) (h0 : Heap) (n0 : Nat) (v : Option Value) (h : Heap) (L : List Loc) : Prop := ∃ an : Addr, ∃ bn : Addr, ∃ kn : ClassId, v = some (.ref an) ∧ Fr n0 L ∧ Keep h0 h [] ∧ Exa Z h an "java/lang/String" ∧ Fld Z h an "java/lang/String" "coder" "B" (.int (0 : Int32)) ∧ Fld Z h an "java/lang/String" "value" "[B" (.ref bn) ∧ Arv Z h bn kn .byte nv (own_v vs) (.int 0) ∧ n0 ≤ an ∧ n0 ≤ bn ∧ h0.size ≤ an ∧ h0.size ≤ bn
set_option maxRecDepth 65536 in
set_option maxHeartbeats 40000000 in
theorem rm24 (l : Launch) (Z : State) (a0 : Array Value) (hw : ∀ d ∈ tables_1, d.before a0 Z = true) (ws : List Jvm.Cond) (o0 : Addr) (bv : Addr) (kv : ClassId) (zv : Int32) (vs : List Int32) (nv : Int32) (h0 : Heap) (n0 : Nat) (Z0 : n0 ≤ h0.size) (OLD0 : Old Z n0 h0) (Pr_0 : Exa Z h0 o0 "java/lang/StringBuilder") (Pr_1 : Fld Z h0 o0 "java/lang/AbstractStringBuilder" "coder" "B" (.int (0 : Int32))) (Pr_2 : Fld Z h0 o0 "java/lang/AbstractStringBuilder" "value" "[B" (.ref bv)) (Pr_3 : Fld Z h0 o0 "java/lang/AbstractStringBuilder" "count" "I" (.int nv)) (Pr_4 : Arv Z h0 bv kv .byte zv (own_v vs) (.int 0)) (Pr_5 : Exa Z h0 bv "[B") (HC : own_CC Z) (HR : own_R zv vs nv) :
    MetFree l (⟨"java/lang/StringBuilder", "toString", "()Ljava/lang/String;"⟩ : MethodName) (head1 (Jvm.Cond.code (⟨"java/lang/StringBuilder", "toString", "()Ljava/lang/String;"⟩ : MethodName) jdk_67_method_42_code 1 (some (.object "java/lang/String")) :: ws) ({ frames := 5, cells := 2, slots := 224, locals := 79 } : Room)) (fun a U => a = #[(.ref o0)] ∧ Z.Warmed39 U.vm ∧ U.heap = h0) (fun _ _ _ _ _ => True) (fun _ U o U' => ∃ v L, o = .returned v ∧ Q24 Z o0 bv kv zv vs nv h0 n0 v U'.heap L ∧ FrameEnd U o U' L ({ frames := 5, cells := 2, slots := 224, locals := 79 } : Room).cells ({ frames := 5, cells := 2, slots := 224, locals := 79 } : Room).slots) := by
  refine MetFree.of_bodySF (plainFor_of_name pn_24) hisR ?_
  intro p e s m args below meth c s₁ Bd hml0 hP hK
  obtain ⟨rfl, hZ, hh⟩ := hP
  have hx := Bd.exec
  have hby := Bd.bytes
  have hml : c.maxLocals = 1 := hml0
  have hown : s.vm.findClass "java/lang/StringBuilder" = some m.cls := findClass_of_methodNamed Bd.named
  have hnm := (name_of_methodNamed Bd.named Bd.method).1
  have X0 : Stand p l e ({ frames := 5, cells := 2, slots := 224, locals := 79 } : Room) s m #[(.ref o0)] below meth c s₁ [] 0 0 := Stand.of_body Bd
  have e0 : s₁.heap = h0 := by rw [← hh, Bd.state]; rfl
  have N0 := Fr.nil n0
  obtain ⟨P, pre0, fin⟩ : ∃ P : State → Prop, (∀ t, Steps p.tables e below (s₁.setTop (mkF m 0 #[.val (.ref o0)] [])) t → P t) ∧ (∀ t, P t → Steps p.tables e below (s₁.setTop (entryFrame m #[(.ref o0)] 1)) t) := ⟨fun t => Steps p.tables e below (s₁.setTop (entryFrame m #[(.ref o0)] 1)) t, fun t k => castTop (ef_24 m o0) k, fun t k => k⟩
  have K0 : Keep h0 h0 [] := Keep.refl _ _
  obtain ⟨T1, h1, X1, e1, E1, A1, D1, -, st1⟩ := newO X0 hx hZ hown (hi hw 157 rfl) (hi hw 43 rfl) (hi hw 36 rfl) e0 (g := (mkF m 0 #[.val (.ref o0)] [])) rfl (hb hby d24_0) (by decide) (by decide)
  obtain ⟨b1, g1⟩ : ∃ z, z = h0.size := ⟨_, rfl⟩
  have g_b1 : n0 ≤ b1 := Nat.le_trans Z0 (Nat.le_of_eq g1.symm)
  have sz_b1 : h0.size ≤ b1 := Nat.le_trans K0.1 (Nat.le_of_eq g1.symm)
  rw [← g1] at A1 D1 st1
  have pre1 : ∀ t, Steps p.tables e below (T1.setTop (mkF m 3 #[.val (.ref o0)] [(.ref b1)])) t → P t := fun t k => pre0 t (st1 _ k)
  have c2 : n0 ≤ h1.size := Nat.le_trans Z0 E1.1
  have c3 : Old Z n0 h1 := OLD0.ext E1
  have c4 : Exa Z h1 o0 "java/lang/StringBuilder" := Pr_0.ext E1
  have c5 : Fld Z h1 o0 "java/lang/AbstractStringBuilder" "coder" "B" (.int (0 : Int32)) := Pr_1.ext E1
  have c6 : Fld Z h1 o0 "java/lang/AbstractStringBuilder" "value" "[B" (.ref bv) := Pr_2.ext E1
  have c7 : Fld Z h1 o0 "java/lang/AbstractStringBuilder" "count" "I" (.int nv) := Pr_3.ext E1
  have c8 : Arv Z h1 bv kv .byte zv (own_v vs) (.int 0) := Pr_4.ext E1
  have c9 : Exa Z h1 bv "[B" := Pr_5.ext E1
  have K10 : Keep h0 h1 [] := K0.ext E1
  have F1_value : Fld Z h1 b1 "java/lang/String" "value" "[B" .null := D1 (Or.inr (hi hw 44 rfl)) (ty := (.array .byte)) (by decide)
  have F1_coder : Fld Z h1 b1 "java/lang/String" "coder" "B" (.int (0 : Int32)) := D1 (Or.inr (hi hw 45 rfl)) (ty := .byte) (by decide)
  have pre11 : ∀ t, Steps p.tables e below (T1.setTop (mkF m 5 #[.val (.ref o0)] [(.ref o0), (.ref b1), (.ref b1)])) t → P t := fun t k => pre1 t (by
      refine XS.dup X1.here hx rfl (hb hby d24_3) rfl rfl ?_
      refine XS.aloadN X1.here hx rfl (hb hby d24_4) rfl rfl ?_
      exact k)
  obtain ⟨_, _, ⟨T12, L12, k12, n12⟩, -, X12, ⟨Lc12, hQ12, l12, y12, z12⟩, st12⟩ := X1.specialBack hx (y := (⟨"java/lang/String", "<init>", "(Ljava/lang/StringBuilder;)V"⟩ : MethodName)) rfl hown (mvT hZ (hi hw 158 rfl)) (mvT hZ (hi hw 159 rfl)) (mvT hZ (hi hw 161 rfl)) (by decide) (backOf (W := 1) (rm25 l Z a0 hw [] b1 o0 bv kv zv vs nv h1 n0 c2 c3 A1 F1_coder F1_value c4 c5 c6 c7 c8 c9 g_b1 HC HR) hZ (hi hw 161 rfl) (hi hw 36 rfl) (by decide) (by decide)) (g := (mkF m 5 #[.val (.ref o0)] [(.ref o0), (.ref b1), (.ref b1)])) rfl (by rw [hml]; rfl) (Steps.refl _) (a := b1) (argsL := [(.ref o0)]) (rest := [(.ref b1)]) (lenOf own_pd19 rfl) rfl (by show 2 * 0 + _ ≤ _; exact Nat.le_of_eq rfl) (hb hby d24_5) (fun _ _ => ⟨rfl, e1, (by decide : 1 + 1 ≤ _), (by decide : 4 + 220 ≤ _)⟩)
  dsimp only [Pt.U, Pt.locs, Pt.cells, Pt.slots] at X12 l12 y12 z12 st12 hQ12
  subst l12 y12 z12
  obtain ⟨bn_12, kn_12, rfl, N12q, K12, FF12_0, FF12_1, FF12_2, FF12_3, FF12_4, FF12_5⟩ := hQ12
  have c13 : n0 ≤ T12.heap.size := Nat.le_trans c2 K12.1
  have c14 : Old Z n0 T12.heap := c3.keep K12 (allS (P := fun x => n0 ≤ x) g_b1 all0)
  have c15 : Exa Z T12.heap o0 "java/lang/StringBuilder" := c4.keep K12
  have c16 : Fld Z T12.heap o0 "java/lang/AbstractStringBuilder" "coder" "B" (.int (0 : Int32)) := c5.keep K12 (ninS (Nat.ne_of_lt (Nat.lt_of_lt_of_le Pr_0.lt (Nat.le_of_eq g1.symm))) nin0)
  have c17 : Fld Z T12.heap o0 "java/lang/AbstractStringBuilder" "value" "[B" (.ref bv) := c6.keep K12 (ninS (Nat.ne_of_lt (Nat.lt_of_lt_of_le Pr_0.lt (Nat.le_of_eq g1.symm))) nin0)
  have c18 : Fld Z T12.heap o0 "java/lang/AbstractStringBuilder" "count" "I" (.int nv) := c7.keep K12 (ninS (Nat.ne_of_lt (Nat.lt_of_lt_of_le Pr_0.lt (Nat.le_of_eq g1.symm))) nin0)
  have c19 : Arv Z T12.heap bv kv .byte zv (own_v vs) (.int 0) := c8.keep K12 (ninS (Nat.ne_of_lt (Nat.lt_of_lt_of_le Pr_4.lt (Nat.le_of_eq g1.symm))) nin0)
  have c20 : Exa Z T12.heap bv "[B" := c9.keep K12
  have c21 : Exa Z T12.heap b1 "java/lang/String" := A1.keep K12
  have K22 : Keep h0 T12.heap [] := K10.trans K12 (allS (P := fun x => x ∈ ([] : List Addr) ∨ h0.size ≤ x) (Or.inr sz_b1) all0)
  have g_bn_12 := FF12_4
  have SZ_bn_12 := FF12_5
  have sz_bn_12 : h0.size ≤ bn_12 := Nat.le_trans K10.1 FF12_5
  have N12 := Fr.app N0 N12q
  have pre12 : ∀ t, Steps p.tables e below (T12.setTop (mkF m 8 #[.val (.ref o0)] [(.ref b1)])) t → P t := fun t k => pre11 t (st12.trans k)
  obtain ⟨fs, hr, hrun, hended, hW, hsame⟩ := X12.leave (v := some (.ref b1)) (fun h => by rw [Bd.returns] at h; cases h)
  refine ⟨_, _, fin _ (pre12 _ ?_), hrun, hended, _, _, rfl, ?_, ⟨_, rfl⟩, hW, hsame.mono (by decide) (by decide)⟩
  · show Steps p.tables e below (T12.setTop (mkF m 8 #[.val (.ref o0)] [(.ref b1)])) _
    jvm_step X12.here [X12.here.top, hx, (hb hby d24_8), X12.method', Bd.returns, Value.isRef, FieldType.isReference]
    first | (intro acts; rw [hr _ acts rfl rfl rfl]) | rw [hr _ _ rfl rfl rfl]
    exact Steps.refl _
  · show Q24 Z o0 bv kv zv vs nv h0 n0 _ T12.heap _
    exact ⟨b1, bn_12, kn_12, rfl, N12, K22, FF12_0, FF12_1, FF12_2, FF12_3, g_b1, g_bn_12, sz_b1, sz_bn_12⟩
def own_u0 : List Int32 := [114, 101, 97, 100, 121, 61]
def own_u1 : List Int32 := [32, 99, 108, 97, 105, 109, 101, 100, 61]
def own_u2 : List Int32 := [32, 100, 111, 110, 101, 61]
def own_u3 : List Int32 := [32, 102, 97, 105, 108, 101, 100, 61]
theorem own_tx0 : (∀ c ∈ "ready=".toList, c.toNat < 256) ∧ "ready=".toList.map (fun c => Value.int (Jvm.Lit.byteI c.toNat.toUInt16)) = own_v own_u0 := ⟨by decide, by rfl⟩
theorem own_tl0 : (6 : Int32).toNatClampNeg = (own_v own_u0).length := by decide
theorem own_tx1 : (∀ c ∈ " claimed=".toList, c.toNat < 256) ∧ " claimed=".toList.map (fun c => Value.int (Jvm.Lit.byteI c.toNat.toUInt16)) = own_v own_u1 := ⟨by decide, by rfl⟩
theorem own_tl1 : (9 : Int32).toNatClampNeg = (own_v own_u1).length := by decide
theorem own_tx2 : (∀ c ∈ " done=".toList, c.toNat < 256) ∧ " done=".toList.map (fun c => Value.int (Jvm.Lit.byteI c.toNat.toUInt16)) = own_v own_u2 := ⟨by decide, by rfl⟩
theorem own_tl2 : (6 : Int32).toNatClampNeg = (own_v own_u2).length := by decide
theorem own_tx3 : (∀ c ∈ " failed=".toList, c.toNat < 256) ∧ " failed=".toList.map (fun c => Value.int (Jvm.Lit.byteI c.toNat.toUInt16)) = own_v own_u3 := ⟨by decide, by rfl⟩
theorem own_tl3 : (8 : Int32).toNatClampNeg = (own_v own_u3).length := by decide
def own_TX (a b c d : Int64) : List Int32 := (((((((([] ++ own_u0) ++ (own_txt a)) ++ own_u1) ++ (own_txt b)) ++ own_u2) ++ (own_txt c)) ++ own_u3) ++ (own_txt d))
def own_CN (a b c d : Int64) : Int32 := (((((((((0 : Int32) + (6 : Int32)) + (own_f16 a)) + (9 : Int32)) + (own_f16 b)) + (6 : Int32)) + (own_f16 c)) + (8 : Int32)) + (own_f16 d))
theorem own_add {n z : Int32} {A U : List Int32} {k j : Nat} (h : n.toInt = (A.length : Int) ∧ A.length ≤ k) (hz : (U.length : Int) = z.toInt) (hj : U.length ≤ j) (hk : k + j ≤ 109) : (n + z).toInt = ((A ++ U).length : Int) ∧ (A ++ U).length ≤ k + j := by
  have a1 := c_iadd n z
  have r1 := rng32 (n + z)
  rw [List.length_append]
  omega
theorem own_t20 (q : Int64) : (own_txt q).length ≤ 20 := by
  have := own_txtL q
  have := own_f16R q
  omega
theorem own_k0 : (0 : Int32).toInt = (([] : List Int32).length : Int) ∧ ([] : List Int32).length ≤ 0 := by decide
theorem own_k1  : ((0 : Int32) + (6 : Int32)).toInt = (([] ++ own_u0).length : Int) ∧ ([] ++ own_u0).length ≤ 6 := own_add (j := 6) own_k0 (by decide) (by decide) (by decide)
theorem own_Sq1  {z : Int32} (h : own_B z []) : own_S z [] (0 : Int32) (6 : Int32) own_u0 := ⟨h, (own_k0 ).1, (by decide), by have h1 := own_k0 ; have h2 := own_k1 ; have e : (([] ++ own_u0).length : Int) = (([]).length : Int) + ((own_u0).length : Int) := (by rw [List.length_append]; rfl); have h3 : ((own_u0).length : Int) = ((6 : Int32)).toInt := (by decide); omega⟩
theorem own_k2 (a : Int64) : (((0 : Int32) + (6 : Int32)) + (own_f16 a)).toInt = ((([] ++ own_u0) ++ (own_txt a)).length : Int) ∧ (([] ++ own_u0) ++ (own_txt a)).length ≤ 26 := own_add (j := 20) (own_k1 ) (own_txtL a) (own_t20 a) (by decide)
theorem own_Sq2 (a : Int64) {z : Int32} (h : own_B z ([] ++ own_u0)) : own_S z ([] ++ own_u0) ((0 : Int32) + (6 : Int32)) (own_f16 a) (own_txt a) := ⟨h, (own_k1 ).1, (own_txtL _), by have h1 := own_k1 ; have h2 := own_k2 a; have e : ((([] ++ own_u0) ++ (own_txt a)).length : Int) = ((([] ++ own_u0)).length : Int) + (((own_txt a)).length : Int) := (by rw [List.length_append]; rfl); have h3 : (((own_txt a)).length : Int) = ((own_f16 a)).toInt := (own_txtL _); omega⟩
theorem own_k3 (a : Int64) : ((((0 : Int32) + (6 : Int32)) + (own_f16 a)) + (9 : Int32)).toInt = (((([] ++ own_u0) ++ (own_txt a)) ++ own_u1).length : Int) ∧ ((([] ++ own_u0) ++ (own_txt a)) ++ own_u1).length ≤ 35 := own_add (j := 9) (own_k2 a) (by decide) (by decide) (by decide)
theorem own_Sq3 (a : Int64) {z : Int32} (h : own_B z (([] ++ own_u0) ++ (own_txt a))) : own_S z (([] ++ own_u0) ++ (own_txt a)) (((0 : Int32) + (6 : Int32)) + (own_f16 a)) (9 : Int32) own_u1 := ⟨h, (own_k2 a).1, (by decide), by have h1 := own_k2 a; have h2 := own_k3 a; have e : (((([] ++ own_u0) ++ (own_txt a)) ++ own_u1).length : Int) = (((([] ++ own_u0) ++ (own_txt a))).length : Int) + ((own_u1).length : Int) := (by rw [List.length_append]; rfl); have h3 : ((own_u1).length : Int) = ((9 : Int32)).toInt := (by decide); omega⟩
theorem own_k4 (a b : Int64) : (((((0 : Int32) + (6 : Int32)) + (own_f16 a)) + (9 : Int32)) + (own_f16 b)).toInt = ((((([] ++ own_u0) ++ (own_txt a)) ++ own_u1) ++ (own_txt b)).length : Int) ∧ (((([] ++ own_u0) ++ (own_txt a)) ++ own_u1) ++ (own_txt b)).length ≤ 55 := own_add (j := 20) (own_k3 a) (own_txtL b) (own_t20 b) (by decide)
theorem own_Sq4 (a b : Int64) {z : Int32} (h : own_B z ((([] ++ own_u0) ++ (own_txt a)) ++ own_u1)) : own_S z ((([] ++ own_u0) ++ (own_txt a)) ++ own_u1) ((((0 : Int32) + (6 : Int32)) + (own_f16 a)) + (9 : Int32)) (own_f16 b) (own_txt b) := ⟨h, (own_k3 a).1, (own_txtL _), by have h1 := own_k3 a; have h2 := own_k4 a b; have e : ((((([] ++ own_u0) ++ (own_txt a)) ++ own_u1) ++ (own_txt b)).length : Int) = ((((([] ++ own_u0) ++ (own_txt a)) ++ own_u1)).length : Int) + (((own_txt b)).length : Int) := (by rw [List.length_append]; rfl); have h3 : (((own_txt b)).length : Int) = ((own_f16 b)).toInt := (own_txtL _); omega⟩
theorem own_k5 (a b : Int64) : ((((((0 : Int32) + (6 : Int32)) + (own_f16 a)) + (9 : Int32)) + (own_f16 b)) + (6 : Int32)).toInt = (((((([] ++ own_u0) ++ (own_txt a)) ++ own_u1) ++ (own_txt b)) ++ own_u2).length : Int) ∧ ((((([] ++ own_u0) ++ (own_txt a)) ++ own_u1) ++ (own_txt b)) ++ own_u2).length ≤ 61 := own_add (j := 6) (own_k4 a b) (by decide) (by decide) (by decide)
theorem own_Sq5 (a b : Int64) {z : Int32} (h : own_B z (((([] ++ own_u0) ++ (own_txt a)) ++ own_u1) ++ (own_txt b))) : own_S z (((([] ++ own_u0) ++ (own_txt a)) ++ own_u1) ++ (own_txt b)) (((((0 : Int32) + (6 : Int32)) + (own_f16 a)) + (9 : Int32)) + (own_f16 b)) (6 : Int32) own_u2 := ⟨h, (own_k4 a b).1, (by decide), by have h1 := own_k4 a b; have h2 := own_k5 a b; have e : (((((([] ++ own_u0) ++ (own_txt a)) ++ own_u1) ++ (own_txt b)) ++ own_u2).length : Int) = (((((([] ++ own_u0) ++ (own_txt a)) ++ own_u1) ++ (own_txt b))).length : Int) + ((own_u2).length : Int) := (by rw [List.length_append]; rfl); have h3 : ((own_u2).length : Int) = ((6 : Int32)).toInt := (by decide); omega⟩
theorem own_k6 (a b c : Int64) : (((((((0 : Int32) + (6 : Int32)) + (own_f16 a)) + (9 : Int32)) + (own_f16 b)) + (6 : Int32)) + (own_f16 c)).toInt = ((((((([] ++ own_u0) ++ (own_txt a)) ++ own_u1) ++ (own_txt b)) ++ own_u2) ++ (own_txt c)).length : Int) ∧ (((((([] ++ own_u0) ++ (own_txt a)) ++ own_u1) ++ (own_txt b)) ++ own_u2) ++ (own_txt c)).length ≤ 81 := own_add (j := 20) (own_k5 a b) (own_txtL c) (own_t20 c) (by decide)
theorem own_Sq6 (a b c : Int64) {z : Int32} (h : own_B z ((((([] ++ own_u0) ++ (own_txt a)) ++ own_u1) ++ (own_txt b)) ++ own_u2)) : own_S z ((((([] ++ own_u0) ++ (own_txt a)) ++ own_u1) ++ (own_txt b)) ++ own_u2) ((((((0 : Int32) + (6 : Int32)) + (own_f16 a)) + (9 : Int32)) + (own_f16 b)) + (6 : Int32)) (own_f16 c) (own_txt c) := ⟨h, (own_k5 a b).1, (own_txtL _), by have h1 := own_k5 a b; have h2 := own_k6 a b c; have e : ((((((([] ++ own_u0) ++ (own_txt a)) ++ own_u1) ++ (own_txt b)) ++ own_u2) ++ (own_txt c)).length : Int) = ((((((([] ++ own_u0) ++ (own_txt a)) ++ own_u1) ++ (own_txt b)) ++ own_u2)).length : Int) + (((own_txt c)).length : Int) := (by rw [List.length_append]; rfl); have h3 : (((own_txt c)).length : Int) = ((own_f16 c)).toInt := (own_txtL _); omega⟩
theorem own_k7 (a b c : Int64) : ((((((((0 : Int32) + (6 : Int32)) + (own_f16 a)) + (9 : Int32)) + (own_f16 b)) + (6 : Int32)) + (own_f16 c)) + (8 : Int32)).toInt = (((((((([] ++ own_u0) ++ (own_txt a)) ++ own_u1) ++ (own_txt b)) ++ own_u2) ++ (own_txt c)) ++ own_u3).length : Int) ∧ ((((((([] ++ own_u0) ++ (own_txt a)) ++ own_u1) ++ (own_txt b)) ++ own_u2) ++ (own_txt c)) ++ own_u3).length ≤ 89 := own_add (j := 8) (own_k6 a b c) (by decide) (by decide) (by decide)
theorem own_Sq7 (a b c : Int64) {z : Int32} (h : own_B z (((((([] ++ own_u0) ++ (own_txt a)) ++ own_u1) ++ (own_txt b)) ++ own_u2) ++ (own_txt c))) : own_S z (((((([] ++ own_u0) ++ (own_txt a)) ++ own_u1) ++ (own_txt b)) ++ own_u2) ++ (own_txt c)) (((((((0 : Int32) + (6 : Int32)) + (own_f16 a)) + (9 : Int32)) + (own_f16 b)) + (6 : Int32)) + (own_f16 c)) (8 : Int32) own_u3 := ⟨h, (own_k6 a b c).1, (by decide), by have h1 := own_k6 a b c; have h2 := own_k7 a b c; have e : (((((((([] ++ own_u0) ++ (own_txt a)) ++ own_u1) ++ (own_txt b)) ++ own_u2) ++ (own_txt c)) ++ own_u3).length : Int) = (((((((([] ++ own_u0) ++ (own_txt a)) ++ own_u1) ++ (own_txt b)) ++ own_u2) ++ (own_txt c))).length : Int) + ((own_u3).length : Int) := (by rw [List.length_append]; rfl); have h3 : ((own_u3).length : Int) = ((8 : Int32)).toInt := (by decide); omega⟩
theorem own_k8 (a b c d : Int64) : (((((((((0 : Int32) + (6 : Int32)) + (own_f16 a)) + (9 : Int32)) + (own_f16 b)) + (6 : Int32)) + (own_f16 c)) + (8 : Int32)) + (own_f16 d)).toInt = ((((((((([] ++ own_u0) ++ (own_txt a)) ++ own_u1) ++ (own_txt b)) ++ own_u2) ++ (own_txt c)) ++ own_u3) ++ (own_txt d)).length : Int) ∧ (((((((([] ++ own_u0) ++ (own_txt a)) ++ own_u1) ++ (own_txt b)) ++ own_u2) ++ (own_txt c)) ++ own_u3) ++ (own_txt d)).length ≤ 109 := own_add (j := 20) (own_k7 a b c) (own_txtL d) (own_t20 d) (by decide)
theorem own_Sq8 (a b c d : Int64) {z : Int32} (h : own_B z ((((((([] ++ own_u0) ++ (own_txt a)) ++ own_u1) ++ (own_txt b)) ++ own_u2) ++ (own_txt c)) ++ own_u3)) : own_S z ((((((([] ++ own_u0) ++ (own_txt a)) ++ own_u1) ++ (own_txt b)) ++ own_u2) ++ (own_txt c)) ++ own_u3) ((((((((0 : Int32) + (6 : Int32)) + (own_f16 a)) + (9 : Int32)) + (own_f16 b)) + (6 : Int32)) + (own_f16 c)) + (8 : Int32)) (own_f16 d) (own_txt d) := ⟨h, (own_k7 a b c).1, (own_txtL _), by have h1 := own_k7 a b c; have h2 := own_k8 a b c d; have e : ((((((((([] ++ own_u0) ++ (own_txt a)) ++ own_u1) ++ (own_txt b)) ++ own_u2) ++ (own_txt c)) ++ own_u3) ++ (own_txt d)).length : Int) = ((((((((([] ++ own_u0) ++ (own_txt a)) ++ own_u1) ++ (own_txt b)) ++ own_u2) ++ (own_txt c)) ++ own_u3)).length : Int) + (((own_txt d)).length : Int) := (by rw [List.length_append]; rfl); have h3 : (((own_txt d)).length : Int) = ((own_f16 d)).toInt := (own_txtL _); omega⟩
theorem own_B16 : own_B (16 : Int32) [] := by unfold own_B; decide
theorem own_Rz {z : Int32} (a b c d : Int64) (h : own_B z (((((((([] ++ own_u0) ++ (own_txt a)) ++ own_u1) ++ (own_txt b)) ++ own_u2) ++ (own_txt c)) ++ own_u3) ++ (own_txt d))) : own_R z (((((((([] ++ own_u0) ++ (own_txt a)) ++ own_u1) ++ (own_txt b)) ++ own_u2) ++ (own_txt c)) ++ own_u3) ++ (own_txt d)) (((((((((0 : Int32) + (6 : Int32)) + (own_f16 a)) + (9 : Int32)) + (own_f16 b)) + (6 : Int32)) + (own_f16 c)) + (8 : Int32)) + (own_f16 d)) := ⟨h, (own_k8 a b c d).1⟩
theorem own_TXl (a b c d : Int64) : ((own_TX a b c d).length : Int) = ((((((((((0 : Int32) + (6 : Int32)) + (own_f16 a)) + (9 : Int32)) + (own_f16 b)) + (6 : Int32)) + (own_f16 c)) + (8 : Int32)) + (own_f16 d))).toInt ∧ ((((((((((0 : Int32) + (6 : Int32)) + (own_f16 a)) + (9 : Int32)) + (own_f16 b)) + (6 : Int32)) + (own_f16 c)) + (8 : Int32)) + (own_f16 d))).toInt ≤ 220 := by
  have h := own_k8 a b c d
  show (((((((((([] ++ own_u0) ++ (own_txt a)) ++ own_u1) ++ (own_txt b)) ++ own_u2) ++ (own_txt c)) ++ own_u3) ++ (own_txt d))).length : Int) = _ ∧ _
  omega
theorem own_P1 (a b c d : Int64) : own_lb (((((((((0 : Int32) + (6 : Int32)) + (own_f16 a)) + (9 : Int32)) + (own_f16 b)) + (6 : Int32)) + (own_f16 c)) + (8 : Int32)) + (own_f16 d)) (own_TX a b c d) (0 : Int32) (6 : Int32) own_u0 := own_lbI [] (own_txt a ++ own_u1 ++ own_txt b ++ own_u2 ++ own_txt c ++ own_u3 ++ own_txt d) (by unfold own_TX; simp only [List.append_assoc, List.append_nil, List.nil_append]) (own_TXl a b c d).1 (own_TXl a b c d).2 (own_k0 ).1.symm (by decide) (by decide)
theorem own_P2 (a b c d : Int64) : own_nm (((((((((0 : Int32) + (6 : Int32)) + (own_f16 a)) + (9 : Int32)) + (own_f16 b)) + (6 : Int32)) + (own_f16 c)) + (8 : Int32)) + (own_f16 d)) (own_TX a b c d) ((0 : Int32) + (6 : Int32)) a := own_nmI ([] ++ own_u0) (own_u1 ++ own_txt b ++ own_u2 ++ own_txt c ++ own_u3 ++ own_txt d) (by unfold own_TX; simp only [List.append_assoc, List.append_nil, List.nil_append]) (own_TXl a b c d).1 (own_TXl a b c d).2 (own_k1 ).1.symm
theorem own_P3 (a b c d : Int64) : own_lb (((((((((0 : Int32) + (6 : Int32)) + (own_f16 a)) + (9 : Int32)) + (own_f16 b)) + (6 : Int32)) + (own_f16 c)) + (8 : Int32)) + (own_f16 d)) (own_TX a b c d) (((0 : Int32) + (6 : Int32)) + (own_f16 a)) (9 : Int32) own_u1 := own_lbI (([] ++ own_u0) ++ (own_txt a)) (own_txt b ++ own_u2 ++ own_txt c ++ own_u3 ++ own_txt d) (by unfold own_TX; simp only [List.append_assoc, List.append_nil, List.nil_append]) (own_TXl a b c d).1 (own_TXl a b c d).2 (own_k2 a).1.symm (by decide) (by decide)
theorem own_P4 (a b c d : Int64) : own_nm (((((((((0 : Int32) + (6 : Int32)) + (own_f16 a)) + (9 : Int32)) + (own_f16 b)) + (6 : Int32)) + (own_f16 c)) + (8 : Int32)) + (own_f16 d)) (own_TX a b c d) ((((0 : Int32) + (6 : Int32)) + (own_f16 a)) + (9 : Int32)) b := own_nmI ((([] ++ own_u0) ++ (own_txt a)) ++ own_u1) (own_u2 ++ own_txt c ++ own_u3 ++ own_txt d) (by unfold own_TX; simp only [List.append_assoc, List.append_nil, List.nil_append]) (own_TXl a b c d).1 (own_TXl a b c d).2 (own_k3 a).1.symm
theorem own_P5 (a b c d : Int64) : own_lb (((((((((0 : Int32) + (6 : Int32)) + (own_f16 a)) + (9 : Int32)) + (own_f16 b)) + (6 : Int32)) + (own_f16 c)) + (8 : Int32)) + (own_f16 d)) (own_TX a b c d) (((((0 : Int32) + (6 : Int32)) + (own_f16 a)) + (9 : Int32)) + (own_f16 b)) (6 : Int32) own_u2 := own_lbI (((([] ++ own_u0) ++ (own_txt a)) ++ own_u1) ++ (own_txt b)) (own_txt c ++ own_u3 ++ own_txt d) (by unfold own_TX; simp only [List.append_assoc, List.append_nil, List.nil_append]) (own_TXl a b c d).1 (own_TXl a b c d).2 (own_k4 a b).1.symm (by decide) (by decide)
theorem own_P6 (a b c d : Int64) : own_nm (((((((((0 : Int32) + (6 : Int32)) + (own_f16 a)) + (9 : Int32)) + (own_f16 b)) + (6 : Int32)) + (own_f16 c)) + (8 : Int32)) + (own_f16 d)) (own_TX a b c d) ((((((0 : Int32) + (6 : Int32)) + (own_f16 a)) + (9 : Int32)) + (own_f16 b)) + (6 : Int32)) c := own_nmI ((((([] ++ own_u0) ++ (own_txt a)) ++ own_u1) ++ (own_txt b)) ++ own_u2) (own_u3 ++ own_txt d) (by unfold own_TX; simp only [List.append_assoc, List.append_nil, List.nil_append]) (own_TXl a b c d).1 (own_TXl a b c d).2 (own_k5 a b).1.symm
theorem own_P7 (a b c d : Int64) : own_lb (((((((((0 : Int32) + (6 : Int32)) + (own_f16 a)) + (9 : Int32)) + (own_f16 b)) + (6 : Int32)) + (own_f16 c)) + (8 : Int32)) + (own_f16 d)) (own_TX a b c d) (((((((0 : Int32) + (6 : Int32)) + (own_f16 a)) + (9 : Int32)) + (own_f16 b)) + (6 : Int32)) + (own_f16 c)) (8 : Int32) own_u3 := own_lbI (((((([] ++ own_u0) ++ (own_txt a)) ++ own_u1) ++ (own_txt b)) ++ own_u2) ++ (own_txt c)) (own_txt d) (by unfold own_TX; simp only [List.append_assoc, List.append_nil, List.nil_append]) (own_TXl a b c d).1 (own_TXl a b c d).2 (own_k6 a b c).1.symm (by decide) (by decide)
theorem own_P8 (a b c d : Int64) : own_nm (((((((((0 : Int32) + (6 : Int32)) + (own_f16 a)) + (9 : Int32)) + (own_f16 b)) + (6 : Int32)) + (own_f16 c)) + (8 : Int32)) + (own_f16 d)) (own_TX a b c d) ((((((((0 : Int32) + (6 : Int32)) + (own_f16 a)) + (9 : Int32)) + (own_f16 b)) + (6 : Int32)) + (own_f16 c)) + (8 : Int32)) d := own_nmI ((((((([] ++ own_u0) ++ (own_txt a)) ++ own_u1) ++ (own_txt b)) ++ own_u2) ++ (own_txt c)) ++ own_u3) [] (by unfold own_TX; simp only [List.append_assoc, List.append_nil, List.nil_append]) (own_TXl a b c d).1 (own_TXl a b c d).2 (own_k7 a b c).1.symm
def own_EL : List (String × Nat) := [("com/example/xmax/xmax/queue/QueueStatus", 25), ("com/example/xmax/xmax/queue/QueueStatus", 34), ("com/example/xmax/xmax/queue/QueueStatus", 36), ("com/example/xmax/xmax/queue/QueueStatus", 38), ("com/example/xmax/xmax/queue/QueueStatusToStringPinLaw", 16), ("com/example/xmax/xmax/queue/QueueStatusToStringPinLaw", 28), ("com/example/xmax/xmax/queue/QueueStatusToStringPinLaw", 30), ("com/example/xmax/xmax/queue/QueueStatusToStringPinLaw", 32)]
theorem own_ew {Z : State} {a0 : Array Value} (hw : ∀ d ∈ tables_1, d.before a0 Z = true) : EW Z a0 own_EL := (EW.cons (hi hw 42 rfl) own_tx0.1 (EW.cons (hi hw 123 rfl) own_tx1.1 (EW.cons (hi hw 147 rfl) own_tx2.1 (EW.cons (hi hw 151 rfl) own_tx3.1 (EW.cons (hi hw 189 rfl) own_tx0.1 (EW.cons (hi hw 247 rfl) own_tx1.1 (EW.cons (hi hw 248 rfl) own_tx2.1 (EW.cons (hi hw 249 rfl) own_tx3.1 EW.nil))))))))
theorem own_SFo {Z : State} {EL : List (String × Nat)} {vm : Vm} {h : Heap} {b bv : Addr} (hor : b = bv ∨ h.size ≤ b) (S : Safe Z EL vm h bv) : Safe Z EL vm h b := by
  rcases hor with r | r
  · rw [r]; exact S
  · exact Safe.new r
theorem d1_0 : decode prog_17_method_1_code 0 = .ok (.aload_n 0, 1) := by decide +kernel
theorem d1_1 : decode prog_17_method_1_code 1 = .ok (.invokespecial 1, 3) := by decide +kernel
theorem d1_4 : decode prog_17_method_1_code 4 = .ok (.aload_n 0, 1) := by decide +kernel
theorem d1_5 : decode prog_17_method_1_code 5 = .ok (.lload_n 1, 1) := by decide +kernel
theorem d1_6 : decode prog_17_method_1_code 6 = .ok (.putfield 7, 3) := by decide +kernel
theorem d1_9 : decode prog_17_method_1_code 9 = .ok (.aload_n 0, 1) := by decide +kernel
theorem d1_10 : decode prog_17_method_1_code 10 = .ok (.lload_n 3, 1) := by decide +kernel
theorem d1_11 : decode prog_17_method_1_code 11 = .ok (.putfield 13, 3) := by decide +kernel
theorem d1_14 : decode prog_17_method_1_code 14 = .ok (.aload_n 0, 1) := by decide +kernel
theorem d1_15 : decode prog_17_method_1_code 15 = .ok (.lload 5, 2) := by decide +kernel
theorem d1_17 : decode prog_17_method_1_code 17 = .ok (.putfield 16, 3) := by decide +kernel
theorem d1_20 : decode prog_17_method_1_code 20 = .ok (.aload_n 0, 1) := by decide +kernel
theorem d1_21 : decode prog_17_method_1_code 21 = .ok (.lload 7, 2) := by decide +kernel
theorem d1_23 : decode prog_17_method_1_code 23 = .ok (.putfield 19, 3) := by decide +kernel
theorem d1_26 : decode prog_17_method_1_code 26 = .ok (.return_, 1) := by decide +kernel
theorem pn_1 : plainName "com/example/xmax/xmax/queue/QueueStatus" = true := by first | (simp [plainName, overriddenIn]; done) | decide +kernel
theorem ef_1 (m : MethodId) (o0 : Addr) (q1 : Int64) (q2 : Int64) (q3 : Int64) (q4 : Int64) : entryFrame m #[(.ref o0), (.long q1), (.long q2), (.long q3), (.long q4)] 9 = mkF m 0 #[.val (.ref o0), .val (.long q1), .second, .val (.long q2), .second, .val (.long q3), .second, .val (.long q4), .second] [] := by first | (simp [entryFrame, mkF, argsToLocals, Value.category]; done) | rfl
def Q1 (Z : State) (o0 : Addr) (q1 : Int64) (q2 : Int64) (q3 : Int64) (q4 : Int64) (h0 : Heap) (n0 : Nat) (v : Option Value) (h : Heap) (L : List Loc) : Prop := v = none ∧ Fr n0 L ∧ Keep h0 h [o0] ∧ Exa Z h o0 "com/example/xmax/xmax/queue/QueueStatus" ∧ Fld Z h o0 "com/example/xmax/xmax/queue/QueueStatus" "ready" "J" (.long q1) ∧ Fld Z h o0 "com/example/xmax/xmax/queue/QueueStatus" "claimed" "J" (.long q2) ∧ Fld Z h o0 "com/example/xmax/xmax/queue/QueueStatus" "done" "J" (.long q3) ∧ Fld Z h o0 "com/example/xmax/xmax/queue/QueueStatus" "failed" "J" (.long q4)
set_option maxRecDepth 65536 in
set_option maxHeartbeats 40000000 in
theorem rm1 (l : Launch) (Z : State) (a0 : Array Value) (hw : ∀ d ∈ tables_1, d.before a0 Z = true) (ws : List Jvm.Cond) (o0 : Addr) (q1 : Int64) (q2 : Int64) (q3 : Int64) (q4 : Int64) (h0 : Heap) (n0 : Nat) (Z0 : n0 ≤ h0.size) (E_o0 : Exa Z h0 o0 "com/example/xmax/xmax/queue/QueueStatus") (F_ready_o0 : Fld Z h0 o0 "com/example/xmax/xmax/queue/QueueStatus" "ready" "J" (.long (0 : Int64))) (F_claimed_o0 : Fld Z h0 o0 "com/example/xmax/xmax/queue/QueueStatus" "claimed" "J" (.long (0 : Int64))) (F_done_o0 : Fld Z h0 o0 "com/example/xmax/xmax/queue/QueueStatus" "done" "J" (.long (0 : Int64))) (F_failed_o0 : Fld Z h0 o0 "com/example/xmax/xmax/queue/QueueStatus" "failed" "J" (.long (0 : Int64))) (g_o0 : n0 ≤ o0) :
    MetFree l (⟨"com/example/xmax/xmax/queue/QueueStatus", "<init>", "(JJJJ)V"⟩ : MethodName) (head1 (Jvm.Cond.code (⟨"com/example/xmax/xmax/queue/QueueStatus", "<init>", "(JJJJ)V"⟩ : MethodName) prog_17_method_1_code 9 none :: ws) ({ frames := 1, cells := 0, slots := 0, locals := 12 } : Room)) (fun a U => a = #[(.ref o0), (.long q1), (.long q2), (.long q3), (.long q4)] ∧ Z.Warmed39 U.vm ∧ U.heap = h0) (fun _ _ _ _ _ => True) (fun _ U o U' => ∃ v L, o = .returned v ∧ Q1 Z o0 q1 q2 q3 q4 h0 n0 v U'.heap L ∧ FrameEnd U o U' L ({ frames := 1, cells := 0, slots := 0, locals := 12 } : Room).cells ({ frames := 1, cells := 0, slots := 0, locals := 12 } : Room).slots) := by
  refine MetFree.of_bodySF (plainFor_of_name pn_1) hisR ?_
  intro p e s m args below meth c s₁ Bd hml0 hP hK
  obtain ⟨rfl, hZ, hh⟩ := hP
  have hx := Bd.exec
  have hby := Bd.bytes
  have hml : c.maxLocals = 9 := hml0
  have hown : s.vm.findClass "com/example/xmax/xmax/queue/QueueStatus" = some m.cls := findClass_of_methodNamed Bd.named
  have hnm := (name_of_methodNamed Bd.named Bd.method).1
  have X0 : Stand p l e ({ frames := 1, cells := 0, slots := 0, locals := 12 } : Room) s m #[(.ref o0), (.long q1), (.long q2), (.long q3), (.long q4)] below meth c s₁ [] 0 0 := Stand.of_body Bd
  have e0 : s₁.heap = h0 := by rw [← hh, Bd.state]; rfl
  have N0 := Fr.nil n0
  obtain ⟨P, pre0, fin⟩ : ∃ P : State → Prop, (∀ t, Steps p.tables e below (s₁.setTop (mkF m 0 #[.val (.ref o0), .val (.long q1), .second, .val (.long q2), .second, .val (.long q3), .second, .val (.long q4), .second] [])) t → P t) ∧ (∀ t, P t → Steps p.tables e below (s₁.setTop (entryFrame m #[(.ref o0), (.long q1), (.long q2), (.long q3), (.long q4)] 9)) t) := ⟨fun t => Steps p.tables e below (s₁.setTop (entryFrame m #[(.ref o0), (.long q1), (.long q2), (.long q3), (.long q4)] 9)) t, fun t k => castTop (ef_1 m o0 q1 q2 q3 q4) k, fun t k => k⟩
  have K0 : Keep h0 h0 [o0] := Keep.refl _ _
  have pre1 : ∀ t, Steps p.tables e below (s₁.setTop (mkF m 1 #[.val (.ref o0), .val (.long q1), .second, .val (.long q2), .second, .val (.long q3), .second, .val (.long q4), .second] [(.ref o0)])) t → P t := fun t k => pre0 t (by
      refine XS.aloadN X0.here hx rfl (hb hby d1_0) rfl rfl ?_
      exact k)
  obtain ⟨T2, X2, e2, st2⟩ := initO X0 hx hZ hown (hi hw 6 rfl) (hi hw 7 rfl) (hi hw 8 rfl) e0 (g := (mkF m 1 #[.val (.ref o0), .val (.long q1), .second, .val (.long q2), .second, .val (.long q3), .second, .val (.long q4), .second] [(.ref o0)])) rfl (by rw [hml]; rfl) rfl (hb hby d1_1) (by decide) (W := 0) (by show 2 * 0 + _ ≤ _; exact Nat.le_of_eq rfl) (by decide)
  have pre2 : ∀ t, Steps p.tables e below (T2.setTop (mkF m 4 #[.val (.ref o0), .val (.long q1), .second, .val (.long q2), .second, .val (.long q3), .second, .val (.long q4), .second] [])) t → P t := fun t k => pre1 t (st2 _ k)
  have pre3 : ∀ t, Steps p.tables e below (T2.setTop (mkF m 6 #[.val (.ref o0), .val (.long q1), .second, .val (.long q2), .second, .val (.long q3), .second, .val (.long q4), .second] [(.long q1), (.ref o0)])) t → P t := fun t k => pre2 t (by
      refine XS.aloadN X2.here hx rfl (hb hby d1_4) rfl rfl ?_
      refine XS.lloadN X2.here hx rfl (hb hby d1_5) rfl ?_
      exact k)
  obtain ⟨T4, h4, X4, e4, W4, st4⟩ := putF X2 hx hZ hown (host := "") (Or.inl (hi hw 9 rfl)) Via.refl e2 F_ready_o0 E_o0 (Or.inr ⟨(hi hw 10 rfl), rfl, hnm⟩) (hi hw 1 rfl) (ty := .long) (by decide) rfl rfl (g := (mkF m 6 #[.val (.ref o0), .val (.long q1), .second, .val (.long q2), .second, .val (.long q3), .second, .val (.long q4), .second] [(.long q1), (.ref o0)])) rfl rfl (hb hby d1_6)
  have pre4 : ∀ t, Steps p.tables e below (T4.setTop (mkF m 9 #[.val (.ref o0), .val (.long q1), .second, .val (.long q2), .second, .val (.long q3), .second, .val (.long q4), .second] [])) t → P t := fun t k => pre3 t (st4 _ k)
  have Fw4 := F_ready_o0.same W4
  have c5 : n0 ≤ h4.size := Nat.le_trans Z0 (Keep.of_wr W4).1
  have c6 : Exa Z h4 o0 "com/example/xmax/xmax/queue/QueueStatus" := E_o0.wr W4
  have c7 : Fld Z h4 o0 "com/example/xmax/xmax/queue/QueueStatus" "claimed" "J" (.long (0 : Int64)) := F_claimed_o0.other W4 (Or.inr (slot_ne (Or.inr (hi hw 12 rfl)) (Or.inr (hi hw 10 rfl)) (by decide) (t := .long) (t' := .long) (by decide) (by decide)))
  have c8 : Fld Z h4 o0 "com/example/xmax/xmax/queue/QueueStatus" "done" "J" (.long (0 : Int64)) := F_done_o0.other W4 (Or.inr (slot_ne (Or.inr (hi hw 14 rfl)) (Or.inr (hi hw 10 rfl)) (by decide) (t := .long) (t' := .long) (by decide) (by decide)))
  have c9 : Fld Z h4 o0 "com/example/xmax/xmax/queue/QueueStatus" "failed" "J" (.long (0 : Int64)) := F_failed_o0.other W4 (Or.inr (slot_ne (Or.inr (hi hw 16 rfl)) (Or.inr (hi hw 10 rfl)) (by decide) (t := .long) (t' := .long) (by decide) (by decide)))
  have K10 : Keep h0 h4 [o0] := K0.wr W4 (Or.inl (List.mem_of_getElem? (i := 0) rfl))
  have N4 := Fr.snoc X4 N0 g_o0
  have pre11 : ∀ t, Steps p.tables e below (T4.setTop (mkF m 11 #[.val (.ref o0), .val (.long q1), .second, .val (.long q2), .second, .val (.long q3), .second, .val (.long q4), .second] [(.long q2), (.ref o0)])) t → P t := fun t k => pre4 t (by
      refine XS.aloadN X4.here hx rfl (hb hby d1_9) rfl rfl ?_
      refine XS.lloadN X4.here hx rfl (hb hby d1_10) rfl ?_
      exact k)
  obtain ⟨T12, h12, X12, e12, W12, st12⟩ := putF X4 hx hZ hown (host := "") (Or.inl (hi hw 11 rfl)) Via.refl e4 c7 c6 (Or.inr ⟨(hi hw 12 rfl), rfl, hnm⟩) (hi hw 1 rfl) (ty := .long) (by decide) rfl rfl (g := (mkF m 11 #[.val (.ref o0), .val (.long q1), .second, .val (.long q2), .second, .val (.long q3), .second, .val (.long q4), .second] [(.long q2), (.ref o0)])) rfl rfl (hb hby d1_11)
  have pre12 : ∀ t, Steps p.tables e below (T12.setTop (mkF m 14 #[.val (.ref o0), .val (.long q1), .second, .val (.long q2), .second, .val (.long q3), .second, .val (.long q4), .second] [])) t → P t := fun t k => pre11 t (st12 _ k)
  have Fw12 := c7.same W12
  have c13 : n0 ≤ h12.size := Nat.le_trans c5 (Keep.of_wr W12).1
  have c14 : Exa Z h12 o0 "com/example/xmax/xmax/queue/QueueStatus" := c6.wr W12
  have c15 : Fld Z h12 o0 "com/example/xmax/xmax/queue/QueueStatus" "done" "J" (.long (0 : Int64)) := c8.other W12 (Or.inr (slot_ne (Or.inr (hi hw 14 rfl)) (Or.inr (hi hw 12 rfl)) (by decide) (t := .long) (t' := .long) (by decide) (by decide)))
  have c16 : Fld Z h12 o0 "com/example/xmax/xmax/queue/QueueStatus" "failed" "J" (.long (0 : Int64)) := c9.other W12 (Or.inr (slot_ne (Or.inr (hi hw 16 rfl)) (Or.inr (hi hw 12 rfl)) (by decide) (t := .long) (t' := .long) (by decide) (by decide)))
  have c17 : Fld Z h12 o0 "com/example/xmax/xmax/queue/QueueStatus" "ready" "J" (.long q1) := Fw4.other W12 (Or.inr (slot_ne (Or.inr (hi hw 10 rfl)) (Or.inr (hi hw 12 rfl)) (by decide) (t := .long) (t' := .long) (by decide) (by decide)))
  have K18 : Keep h0 h12 [o0] := K10.wr W12 (Or.inl (List.mem_of_getElem? (i := 0) rfl))
  have N12 := Fr.snoc X12 N4 g_o0
  have pre19 : ∀ t, Steps p.tables e below (T12.setTop (mkF m 17 #[.val (.ref o0), .val (.long q1), .second, .val (.long q2), .second, .val (.long q3), .second, .val (.long q4), .second] [(.long q3), (.ref o0)])) t → P t := fun t k => pre12 t (by
      refine XS.aloadN X12.here hx rfl (hb hby d1_14) rfl rfl ?_
      refine XS.lload X12.here hx rfl (hb hby d1_15) rfl ?_
      exact k)
  obtain ⟨T20, h20, X20, e20, W20, st20⟩ := putF X12 hx hZ hown (host := "") (Or.inl (hi hw 13 rfl)) Via.refl e12 c15 c14 (Or.inr ⟨(hi hw 14 rfl), rfl, hnm⟩) (hi hw 1 rfl) (ty := .long) (by decide) rfl rfl (g := (mkF m 17 #[.val (.ref o0), .val (.long q1), .second, .val (.long q2), .second, .val (.long q3), .second, .val (.long q4), .second] [(.long q3), (.ref o0)])) rfl rfl (hb hby d1_17)
  have pre20 : ∀ t, Steps p.tables e below (T20.setTop (mkF m 20 #[.val (.ref o0), .val (.long q1), .second, .val (.long q2), .second, .val (.long q3), .second, .val (.long q4), .second] [])) t → P t := fun t k => pre19 t (st20 _ k)
  have Fw20 := c15.same W20
  have c21 : n0 ≤ h20.size := Nat.le_trans c13 (Keep.of_wr W20).1
  have c22 : Exa Z h20 o0 "com/example/xmax/xmax/queue/QueueStatus" := c14.wr W20
  have c23 : Fld Z h20 o0 "com/example/xmax/xmax/queue/QueueStatus" "failed" "J" (.long (0 : Int64)) := c16.other W20 (Or.inr (slot_ne (Or.inr (hi hw 16 rfl)) (Or.inr (hi hw 14 rfl)) (by decide) (t := .long) (t' := .long) (by decide) (by decide)))
  have c24 : Fld Z h20 o0 "com/example/xmax/xmax/queue/QueueStatus" "ready" "J" (.long q1) := c17.other W20 (Or.inr (slot_ne (Or.inr (hi hw 10 rfl)) (Or.inr (hi hw 14 rfl)) (by decide) (t := .long) (t' := .long) (by decide) (by decide)))
  have c25 : Fld Z h20 o0 "com/example/xmax/xmax/queue/QueueStatus" "claimed" "J" (.long q2) := Fw12.other W20 (Or.inr (slot_ne (Or.inr (hi hw 12 rfl)) (Or.inr (hi hw 14 rfl)) (by decide) (t := .long) (t' := .long) (by decide) (by decide)))
  have K26 : Keep h0 h20 [o0] := K18.wr W20 (Or.inl (List.mem_of_getElem? (i := 0) rfl))
  have N20 := Fr.snoc X20 N12 g_o0
  have pre27 : ∀ t, Steps p.tables e below (T20.setTop (mkF m 23 #[.val (.ref o0), .val (.long q1), .second, .val (.long q2), .second, .val (.long q3), .second, .val (.long q4), .second] [(.long q4), (.ref o0)])) t → P t := fun t k => pre20 t (by
      refine XS.aloadN X20.here hx rfl (hb hby d1_20) rfl rfl ?_
      refine XS.lload X20.here hx rfl (hb hby d1_21) rfl ?_
      exact k)
  obtain ⟨T28, h28, X28, e28, W28, st28⟩ := putF X20 hx hZ hown (host := "") (Or.inl (hi hw 15 rfl)) Via.refl e20 c23 c22 (Or.inr ⟨(hi hw 16 rfl), rfl, hnm⟩) (hi hw 1 rfl) (ty := .long) (by decide) rfl rfl (g := (mkF m 23 #[.val (.ref o0), .val (.long q1), .second, .val (.long q2), .second, .val (.long q3), .second, .val (.long q4), .second] [(.long q4), (.ref o0)])) rfl rfl (hb hby d1_23)
  have pre28 : ∀ t, Steps p.tables e below (T28.setTop (mkF m 26 #[.val (.ref o0), .val (.long q1), .second, .val (.long q2), .second, .val (.long q3), .second, .val (.long q4), .second] [])) t → P t := fun t k => pre27 t (st28 _ k)
  have Fw28 := c23.same W28
  have c29 : n0 ≤ h28.size := Nat.le_trans c21 (Keep.of_wr W28).1
  have c30 : Exa Z h28 o0 "com/example/xmax/xmax/queue/QueueStatus" := c22.wr W28
  have c31 : Fld Z h28 o0 "com/example/xmax/xmax/queue/QueueStatus" "ready" "J" (.long q1) := c24.other W28 (Or.inr (slot_ne (Or.inr (hi hw 10 rfl)) (Or.inr (hi hw 16 rfl)) (by decide) (t := .long) (t' := .long) (by decide) (by decide)))
  have c32 : Fld Z h28 o0 "com/example/xmax/xmax/queue/QueueStatus" "claimed" "J" (.long q2) := c25.other W28 (Or.inr (slot_ne (Or.inr (hi hw 12 rfl)) (Or.inr (hi hw 16 rfl)) (by decide) (t := .long) (t' := .long) (by decide) (by decide)))
  have c33 : Fld Z h28 o0 "com/example/xmax/xmax/queue/QueueStatus" "done" "J" (.long q3) := Fw20.other W28 (Or.inr (slot_ne (Or.inr (hi hw 14 rfl)) (Or.inr (hi hw 16 rfl)) (by decide) (t := .long) (t' := .long) (by decide) (by decide)))
  have K34 : Keep h0 h28 [o0] := K26.wr W28 (Or.inl (List.mem_of_getElem? (i := 0) rfl))
  have N28 := Fr.snoc X28 N20 g_o0
  obtain ⟨fs, hr, hrun, hended, hW, hsame⟩ := X28.leave (v := none) (fun _ => rfl)
  refine ⟨_, _, fin _ (pre28 _ ?_), hrun, hended, _, _, rfl, ?_, ⟨_, rfl⟩, hW, hsame.mono (by decide) (by decide)⟩
  · show Steps p.tables e below (T28.setTop (mkF m 26 #[.val (.ref o0), .val (.long q1), .second, .val (.long q2), .second, .val (.long q3), .second, .val (.long q4), .second] [])) _
    exact X28.returnOut hx Bd.returns (hb hby d1_26) hr
  · show Q1 Z o0 q1 q2 q3 q4 h0 n0 _ T28.heap _
    rw [e28]
    exact ⟨rfl, N28, K34, c30, c31, c32, c33, Fw28⟩
theorem own_pd20 : parseMethodDescriptor "()V" = some ⟨[], none⟩ := by decide +kernel
theorem own_pd21 : parseMethodDescriptor "(Ljava/lang/String;)Ljava/lang/StringBuilder;" = some ⟨[(.object "java/lang/String")], some (.object "java/lang/StringBuilder")⟩ := by decide +kernel
theorem own_pd22 : parseMethodDescriptor "(J)Ljava/lang/StringBuilder;" = some ⟨[.long], some (.object "java/lang/StringBuilder")⟩ := by decide +kernel
theorem own_pd23 : parseMethodDescriptor "()Ljava/lang/String;" = some ⟨[], some (.object "java/lang/String")⟩ := by decide +kernel
theorem d3_0 : decode prog_17_method_6_code 0 = .ok (.new 22, 3) := by decide +kernel
theorem d3_3 : decode prog_17_method_6_code 3 = .ok (.dup, 1) := by decide +kernel
theorem d3_4 : decode prog_17_method_6_code 4 = .ok (.invokespecial 24, 3) := by decide +kernel
theorem d3_7 : decode prog_17_method_6_code 7 = .ok (.ldc 25, 2) := by decide +kernel
theorem d3_9 : decode prog_17_method_6_code 9 = .ok (.invokevirtual 27, 3) := by decide +kernel
theorem d3_12 : decode prog_17_method_6_code 12 = .ok (.aload_n 0, 1) := by decide +kernel
theorem d3_13 : decode prog_17_method_6_code 13 = .ok (.getfield 7, 3) := by decide +kernel
theorem d3_16 : decode prog_17_method_6_code 16 = .ok (.invokevirtual 31, 3) := by decide +kernel
theorem d3_19 : decode prog_17_method_6_code 19 = .ok (.ldc 34, 2) := by decide +kernel
theorem d3_21 : decode prog_17_method_6_code 21 = .ok (.invokevirtual 27, 3) := by decide +kernel
theorem d3_24 : decode prog_17_method_6_code 24 = .ok (.aload_n 0, 1) := by decide +kernel
theorem d3_25 : decode prog_17_method_6_code 25 = .ok (.getfield 13, 3) := by decide +kernel
theorem d3_28 : decode prog_17_method_6_code 28 = .ok (.invokevirtual 31, 3) := by decide +kernel
theorem d3_31 : decode prog_17_method_6_code 31 = .ok (.ldc 36, 2) := by decide +kernel
theorem d3_33 : decode prog_17_method_6_code 33 = .ok (.invokevirtual 27, 3) := by decide +kernel
theorem d3_36 : decode prog_17_method_6_code 36 = .ok (.aload_n 0, 1) := by decide +kernel
theorem d3_37 : decode prog_17_method_6_code 37 = .ok (.getfield 16, 3) := by decide +kernel
theorem d3_40 : decode prog_17_method_6_code 40 = .ok (.invokevirtual 31, 3) := by decide +kernel
theorem d3_43 : decode prog_17_method_6_code 43 = .ok (.ldc 38, 2) := by decide +kernel
theorem d3_45 : decode prog_17_method_6_code 45 = .ok (.invokevirtual 27, 3) := by decide +kernel
theorem d3_48 : decode prog_17_method_6_code 48 = .ok (.aload_n 0, 1) := by decide +kernel
theorem d3_49 : decode prog_17_method_6_code 49 = .ok (.getfield 19, 3) := by decide +kernel
theorem d3_52 : decode prog_17_method_6_code 52 = .ok (.invokevirtual 31, 3) := by decide +kernel
theorem d3_55 : decode prog_17_method_6_code 55 = .ok (.invokevirtual 40, 3) := by decide +kernel
theorem d3_58 : decode prog_17_method_6_code 58 = .ok (.areturn, 1) := by decide +kernel
theorem pn_3 : plainName "com/example/xmax/xmax/queue/QueueStatus" = true := by first | (simp [plainName, overriddenIn]; done) | decide +kernel
theorem ef_3 (m : MethodId) (o0 : Addr) : entryFrame m #[(.ref o0)] 1 = mkF m 0 #[.val (.ref o0)] [] := by first | (simp [entryFrame, mkF, argsToLocals, Value.category]; done) | rfl
def Q3 (Z : State) (o0 : Addr) (qa : Int64) (qb : Int64) (qc : Int64) (qd : Int64) (h0 : Heap) (n0 : Nat) (v : Option Value) (h : Heap) (L : List Loc) : Prop := ∃ an : Addr, ∃ bn : Addr, ∃ kn : ClassId, v = some (.ref an) ∧ Fr n0 L ∧ Keep h0 h [] ∧ Exa Z h an "java/lang/String" ∧ Fld Z h an "java/lang/String" "coder" "B" (.int (0 : Int32)) ∧ Fld Z h an "java/lang/String" "value" "[B" (.ref bn) ∧ Arv Z h bn kn .byte (((((((((0 : Int32) + (6 : Int32)) + (own_f16 qa)) + (9 : Int32)) + (own_f16 qb)) + (6 : Int32)) + (own_f16 qc)) + (8 : Int32)) + (own_f16 qd)) (own_v (own_TX qa qb qc qd)) (.int 0) ∧ n0 ≤ an ∧ n0 ≤ bn ∧ h0.size ≤ an ∧ h0.size ≤ bn
set_option maxRecDepth 65536 in
set_option maxHeartbeats 40000000 in
theorem rm3 (l : Launch) (Z : State) (a0 : Array Value) (hw : ∀ d ∈ tables_1, d.before a0 Z = true) (ws : List Jvm.Cond) (o0 : Addr) (qa : Int64) (qb : Int64) (qc : Int64) (qd : Int64) (h0 : Heap) (n0 : Nat) (Z0 : n0 ≤ h0.size) (OLD0 : Old Z n0 h0) (Pr_0 : Exa Z h0 o0 "com/example/xmax/xmax/queue/QueueStatus") (Pr_1 : Fld Z h0 o0 "com/example/xmax/xmax/queue/QueueStatus" "ready" "J" (.long qa)) (Pr_2 : Fld Z h0 o0 "com/example/xmax/xmax/queue/QueueStatus" "claimed" "J" (.long qb)) (Pr_3 : Fld Z h0 o0 "com/example/xmax/xmax/queue/QueueStatus" "done" "J" (.long qc)) (Pr_4 : Fld Z h0 o0 "com/example/xmax/xmax/queue/QueueStatus" "failed" "J" (.long qd)) (HC : own_CC Z) :
    MetFree l (⟨"com/example/xmax/xmax/queue/QueueStatus", "toString", "()Ljava/lang/String;"⟩ : MethodName) (head1 (Jvm.Cond.code (⟨"com/example/xmax/xmax/queue/QueueStatus", "toString", "()Ljava/lang/String;"⟩ : MethodName) prog_17_method_6_code 1 (some (.object "java/lang/String")) :: ws) ({ frames := 6, cells := 20, slots := 2136, locals := 92 } : Room)) (fun a U => a = #[(.ref o0)] ∧ Z.Warmed39 U.vm ∧ U.heap = h0 ∧ CHv Z own_EL U.vm h0) (fun _ _ _ _ _ => True) (fun _ U o U' => ∃ v L, o = .returned v ∧ Q3 Z o0 qa qb qc qd h0 n0 v U'.heap L ∧ CHr Z own_EL U.vm U.heap U'.vm U'.heap ∧ ReturnedEndW U o U' L ({ frames := 6, cells := 20, slots := 2136, locals := 92 } : Room).cells ({ frames := 6, cells := 20, slots := 2136, locals := 92 } : Room).slots) := by
  refine MetFree.of_bodySF (plainFor_of_name pn_3) hisR ?_
  intro p e s m args below meth c s₁ Bd hml0 hP hK
  obtain ⟨rfl, hZ, hh, hCH⟩ := hP
  have hx := Bd.exec
  have hby := Bd.bytes
  have hml : c.maxLocals = 1 := hml0
  have hown : s.vm.findClass "com/example/xmax/xmax/queue/QueueStatus" = some m.cls := findClass_of_methodNamed Bd.named
  have hnm := (name_of_methodNamed Bd.named Bd.method).1
  have X0 : Stand p l e ({ frames := 6, cells := 20, slots := 2136, locals := 92 } : Room) s m #[(.ref o0)] below meth c s₁ [] 0 0 := Stand.of_body Bd
  have e0 : s₁.heap = h0 := by rw [← hh, Bd.state]; rfl
  have N0 := Fr.nil n0
  have C0 : CHr Z own_EL s.vm h0 s.vm h0 := CHr.refl hCH
  obtain ⟨P, pre0, fin⟩ : ∃ P : State → Prop, (∀ t, Steps p.tables e below (s₁.setTop (mkF m 0 #[.val (.ref o0)] [])) t → P t) ∧ (∀ t, P t → Steps p.tables e below (s₁.setTop (entryFrame m #[(.ref o0)] 1)) t) := ⟨fun t => Steps p.tables e below (s₁.setTop (entryFrame m #[(.ref o0)] 1)) t, fun t k => castTop (ef_3 m o0) k, fun t k => k⟩
  have K0 : Keep h0 h0 [] := Keep.refl _ _
  obtain ⟨T1, h1, X1, e1, E1, A1, D1, -, st1⟩ := newO X0 hx hZ hown (hi hw 22 rfl) (hi hw 23 rfl) (hi hw 24 rfl) e0 (g := (mkF m 0 #[.val (.ref o0)] [])) rfl (hb hby d3_0) (by decide) (by decide)
  obtain ⟨b1, g1⟩ : ∃ z, z = h0.size := ⟨_, rfl⟩
  have g_b1 : n0 ≤ b1 := Nat.le_trans Z0 (Nat.le_of_eq g1.symm)
  have sz_b1 : h0.size ≤ b1 := Nat.le_trans K0.1 (Nat.le_of_eq g1.symm)
  rw [← g1] at A1 D1 st1
  have pre1 : ∀ t, Steps p.tables e below (T1.setTop (mkF m 3 #[.val (.ref o0)] [(.ref b1)])) t → P t := fun t k => pre0 t (st1 _ k)
  have c2 : n0 ≤ h1.size := Nat.le_trans Z0 E1.1
  have c3 : Old Z n0 h1 := OLD0.ext E1
  have c4 : Exa Z h1 o0 "com/example/xmax/xmax/queue/QueueStatus" := Pr_0.ext E1
  have c5 : Fld Z h1 o0 "com/example/xmax/xmax/queue/QueueStatus" "ready" "J" (.long qa) := Pr_1.ext E1
  have c6 : Fld Z h1 o0 "com/example/xmax/xmax/queue/QueueStatus" "claimed" "J" (.long qb) := Pr_2.ext E1
  have c7 : Fld Z h1 o0 "com/example/xmax/xmax/queue/QueueStatus" "done" "J" (.long qc) := Pr_3.ext E1
  have c8 : Fld Z h1 o0 "com/example/xmax/xmax/queue/QueueStatus" "failed" "J" (.long qd) := Pr_4.ext E1
  have c9 : CHr Z own_EL s.vm h0 s.vm h1 := C0.trans (CHr.ext E1 C0.1)
  have K10 : Keep h0 h1 [] := K0.ext E1
  have F1_value : Fld Z h1 b1 "java/lang/AbstractStringBuilder" "value" "[B" .null := D1 (Or.inl (hi hw 39 rfl)) (ty := (.array .byte)) (by decide)
  have F1_coder : Fld Z h1 b1 "java/lang/AbstractStringBuilder" "coder" "B" (.int (0 : Int32)) := D1 (Or.inl (hi hw 41 rfl)) (ty := .byte) (by decide)
  have F1_count : Fld Z h1 b1 "java/lang/AbstractStringBuilder" "count" "I" (.int (0 : Int32)) := D1 (Or.inl (hi hw 72 rfl)) (ty := .int) (by decide)
  have pre11 : ∀ t, Steps p.tables e below (T1.setTop (mkF m 4 #[.val (.ref o0)] [(.ref b1), (.ref b1)])) t → P t := fun t k => pre1 t (by
      refine XS.dup X1.here hx rfl (hb hby d3_3) rfl rfl ?_
      exact k)
  obtain ⟨_, _, ⟨T12, L12, k12, n12⟩, -, X12, ⟨Lc12, hQ12, l12, y12, z12⟩, st12⟩ := X1.specialBack hx (y := (⟨"java/lang/StringBuilder", "<init>", "()V"⟩ : MethodName)) rfl hown (mvT hZ (hi hw 25 rfl)) (mvT hZ (hi hw 26 rfl)) (mvT hZ (hi hw 27 rfl)) (by decide) (backOf (W := 1) (rm4 l Z a0 hw [] b1 h1 n0 c2 c3 A1 F1_coder F1_value F1_count g_b1 HC) hZ (hi hw 27 rfl) (hi hw 24 rfl) (by decide) (by decide)) (g := (mkF m 4 #[.val (.ref o0)] [(.ref b1), (.ref b1)])) rfl (by rw [hml]; rfl) (Steps.refl _) (a := b1) (argsL := []) (rest := [(.ref b1)]) (lenOf own_pd20 rfl) rfl (by show 2 * 0 + _ ≤ _; exact Nat.le_of_eq rfl) (hb hby d3_4) (fun _ _ => ⟨rfl, e1, (by decide : 1 + 1 ≤ _), (by decide : 4 + 16 ≤ _)⟩)
  dsimp only [Pt.U, Pt.locs, Pt.cells, Pt.slots] at X12 l12 y12 z12 st12 hQ12
  subst l12 y12 z12
  obtain ⟨bn_12, kn_12, rfl, N12q, K12, FF12_0, FF12_1, FF12_2, FF12_3, FF12_4, FF12_5, FF12_6, FF12_7⟩ := hQ12
  have c13 : n0 ≤ T12.heap.size := Nat.le_trans c2 K12.1
  have c14 : Old Z n0 T12.heap := c3.keep K12 (allS (P := fun x => n0 ≤ x) g_b1 all0)
  have c15 : Exa Z T12.heap o0 "com/example/xmax/xmax/queue/QueueStatus" := c4.keep K12
  have c16 : Fld Z T12.heap o0 "com/example/xmax/xmax/queue/QueueStatus" "ready" "J" (.long qa) := c5.keep K12 (ninS (Nat.ne_of_lt (Nat.lt_of_lt_of_le Pr_0.lt (Nat.le_of_eq g1.symm))) nin0)
  have c17 : Fld Z T12.heap o0 "com/example/xmax/xmax/queue/QueueStatus" "claimed" "J" (.long qb) := c6.keep K12 (ninS (Nat.ne_of_lt (Nat.lt_of_lt_of_le Pr_0.lt (Nat.le_of_eq g1.symm))) nin0)
  have c18 : Fld Z T12.heap o0 "com/example/xmax/xmax/queue/QueueStatus" "done" "J" (.long qc) := c7.keep K12 (ninS (Nat.ne_of_lt (Nat.lt_of_lt_of_le Pr_0.lt (Nat.le_of_eq g1.symm))) nin0)
  have c19 : Fld Z T12.heap o0 "com/example/xmax/xmax/queue/QueueStatus" "failed" "J" (.long qd) := c8.keep K12 (ninS (Nat.ne_of_lt (Nat.lt_of_lt_of_le Pr_0.lt (Nat.le_of_eq g1.symm))) nin0)
  have c20 : CHr Z own_EL s.vm h0 s.vm T12.heap := c9.trans (CHr.keep K12 (allS (P := fun x => Safe Z own_EL s.vm h1 x) (Safe.exa hZ.alike A1 (by decide) (by decide)) all0) c9.1)
  have c21 : Exa Z T12.heap b1 "java/lang/StringBuilder" := A1.keep K12
  have K22 : Keep h0 T12.heap [] := K10.trans K12 (allS (P := fun x => x ∈ ([] : List Addr) ∨ h0.size ≤ x) (Or.inr sz_b1) all0)
  have g_bn_12 := FF12_6
  have SZ_bn_12 := FF12_7
  have sz_bn_12 : h0.size ≤ bn_12 := Nat.le_trans K10.1 FF12_7
  have c23 : Safe Z own_EL s.vm T12.heap bn_12 := Safe.keep K12 (allS (P := fun x => Safe Z own_EL s.vm h1 x) (Safe.exa hZ.alike A1 (by decide) (by decide)) all0) c9.1 (Safe.new FF12_7)
  have N12 := Fr.app N0 N12q
  have pre12 : ∀ t, Steps p.tables e below (T12.setTop (mkF m 7 #[.val (.ref o0)] [(.ref b1)])) t → P t := fun t k => pre11 t (st12.trans k)
  have wS : ∀ a ∈ Bundle.stringAtoms, a.before a0 Z = true := by
    intro d hd
    simp only [Bundle.stringAtoms, List.mem_cons, List.not_mem_nil, or_false] at hd
    rcases hd with rfl | rfl | rfl | rfl | rfl | rfl | rfl
    · exact (hi hw 36 rfl)
    · exact (hi hw 43 rfl)
    · exact (hi hw 37 rfl)
    · exact (hi hw 44 rfl)
    · exact (hi hw 45 rfl)
    · exact (hi hw 46 rfl)
    · exact (hi hw 47 rfl)
  obtain ⟨a24, T24, h24, k24, b24, c24, X24, e24, E24, hS24, hk24, hZ, hown, Ea24, Fc24, Fv24, Va24, la24, lb24, hC24, -, hne24, st24⟩ := ldcCH (s := s) (vm0 := s.vm) X12 hx hZ hown (hi hw 42 rfl) wS rfl (k0 := 0) ((State.WarmedH.refl s).since 0) (Nat.zero_le _) (own_ew hw) (List.mem_of_getElem? (i := 0) rfl) c20.1 (z := (6 : Int32)) own_tx0 (by decide) own_tl0 (g := (mkF m 7 #[.val (.ref o0)] [(.ref b1)])) rfl (hb hby d3_7) (n := 24) (by decide) (by decide) (by decide) (by decide)
  have pre24 : ∀ t, Steps p.tables e below (T24.setTop (mkF m 9 #[.val (.ref o0)] [(.ref a24), (.ref b1)])) t → P t := fun t k => pre12 t (st24 _ k)
  have c25 : n0 ≤ h24.size := Nat.le_trans c13 E24.1
  have c26 : Old Z n0 h24 := c14.ext E24
  have c27 : Exa Z h24 o0 "com/example/xmax/xmax/queue/QueueStatus" := c15.ext E24
  have c28 : Fld Z h24 o0 "com/example/xmax/xmax/queue/QueueStatus" "ready" "J" (.long qa) := c16.ext E24
  have c29 : Fld Z h24 o0 "com/example/xmax/xmax/queue/QueueStatus" "claimed" "J" (.long qb) := c17.ext E24
  have c30 : Fld Z h24 o0 "com/example/xmax/xmax/queue/QueueStatus" "done" "J" (.long qc) := c18.ext E24
  have c31 : Fld Z h24 o0 "com/example/xmax/xmax/queue/QueueStatus" "failed" "J" (.long qd) := c19.ext E24
  have c32 : Exa Z h24 b1 "java/lang/StringBuilder" := FF12_0.ext E24
  have c33 : Fld Z h24 b1 "java/lang/AbstractStringBuilder" "coder" "B" (.int (0 : Int32)) := FF12_1.ext E24
  have c34 : Fld Z h24 b1 "java/lang/AbstractStringBuilder" "value" "[B" (.ref bn_12) := FF12_2.ext E24
  have c35 : Fld Z h24 b1 "java/lang/AbstractStringBuilder" "count" "I" (.int (0 : Int32)) := FF12_3.ext E24
  have c36 : Arv Z h24 bn_12 kn_12 .byte (16 : Int32) (own_v []) (.int 0) := FF12_4.ext E24
  have c37 : Exa Z h24 bn_12 "[B" := FF12_5.ext E24
  have K38 : Keep h0 h24 [] := K22.ext E24
  have c39 : Safe Z own_EL T24.vm h24 bn_12 := CHr.safe hC24 FF12_4.lt c23
  have ne40 : b24 ≠ bn_12 := Ne.symm (hne24 _ c39).2
  have c41 : CHr Z own_EL s.vm h0 T24.vm h24 := c20.trans hC24
  obtain ⟨cq42, kq42, q42a, q42b, q42c⟩ := isOf hZ e24 c32
  obtain ⟨_, _, ⟨T42, L42, k42, n42⟩, -, X42, ⟨Lc42, hQ42, l42, y42, z42⟩, st42⟩ := X24.virtualBack hx (y := (⟨"java/lang/StringBuilder", "append", "(Ljava/lang/String;)Ljava/lang/StringBuilder;"⟩ : MethodName)) (z := (⟨"java/lang/StringBuilder", "append", "(Ljava/lang/String;)Ljava/lang/StringBuilder;"⟩ : MethodName)) hown (mvT hZ (hi hw 48 rfl)) (mvT hZ (hi hw 49 rfl)) (notFace_of_selects (args := #[]) (mvT hZ (hi hw 51 rfl))) (mvT hZ (hi hw 51 rfl)) (mvT hZ (hi hw 50 rfl)) (by decide) (backOf (W := 0) (rm6 l Z a0 hw [] b1 a24 bn_12 kn_12 (16 : Int32) [] (0 : Int32) b24 c24 (6 : Int32) own_u0 h24 n0 c25 c26 c32 c33 c34 c35 c36 c37 Ea24 Fc24 Fv24 Va24 g_b1 g_bn_12 ne40 HC (own_Sq1  own_B16)) hZ (hi hw 52 rfl) (hi hw 24 rfl) (by decide) (by decide)) q42a q42c (g := (mkF m 9 #[.val (.ref o0)] [(.ref a24), (.ref b1)])) rfl (by rw [hml]; rfl) (Steps.refl _) (argsL := [(.ref a24)]) (rest := []) (lenOf own_pd21 rfl) rfl (by show 2 * 0 + _ ≤ _; exact Nat.le_of_eq rfl) (hb hby d3_9) (fun _ _ => ⟨rfl, e24, (by decide : 4 + 1 ≤ _), (by decide : 48 + 220 ≤ _)⟩)
  dsimp only [Pt.U, Pt.locs, Pt.cells, Pt.slots] at X42 l42 y42 z42 st42 hQ42
  subst l42 y42 z42
  obtain ⟨bn_42, kn_42, zn_42, rfl, N42q, K42, FF42_0, FF42_1, FF42_2, FF42_3, FF42_4, FF42_5, FF42_6, FF42_7, FF42_8⟩ := hQ42
  have c43 : n0 ≤ T42.heap.size := Nat.le_trans c25 K42.1
  have c44 : Old Z n0 T42.heap := c26.keep K42 (allS (P := fun x => n0 ≤ x) g_b1 (allS (P := fun x => n0 ≤ x) g_bn_12 all0))
  have c45 : Exa Z T42.heap o0 "com/example/xmax/xmax/queue/QueueStatus" := c27.keep K42
  have c46 : Fld Z T42.heap o0 "com/example/xmax/xmax/queue/QueueStatus" "ready" "J" (.long qa) := c28.keep K42 (ninS (Nat.ne_of_lt (Nat.lt_of_lt_of_le Pr_0.lt (Nat.le_of_eq g1.symm))) (ninS (Nat.ne_of_lt (Nat.lt_of_lt_of_le c8.lt SZ_bn_12)) nin0))
  have c47 : Fld Z T42.heap o0 "com/example/xmax/xmax/queue/QueueStatus" "claimed" "J" (.long qb) := c29.keep K42 (ninS (Nat.ne_of_lt (Nat.lt_of_lt_of_le Pr_0.lt (Nat.le_of_eq g1.symm))) (ninS (Nat.ne_of_lt (Nat.lt_of_lt_of_le c8.lt SZ_bn_12)) nin0))
  have c48 : Fld Z T42.heap o0 "com/example/xmax/xmax/queue/QueueStatus" "done" "J" (.long qc) := c30.keep K42 (ninS (Nat.ne_of_lt (Nat.lt_of_lt_of_le Pr_0.lt (Nat.le_of_eq g1.symm))) (ninS (Nat.ne_of_lt (Nat.lt_of_lt_of_le c8.lt SZ_bn_12)) nin0))
  have c49 : Fld Z T42.heap o0 "com/example/xmax/xmax/queue/QueueStatus" "failed" "J" (.long qd) := c31.keep K42 (ninS (Nat.ne_of_lt (Nat.lt_of_lt_of_le Pr_0.lt (Nat.le_of_eq g1.symm))) (ninS (Nat.ne_of_lt (Nat.lt_of_lt_of_le c8.lt SZ_bn_12)) nin0))
  have c50 : Exa Z T42.heap b1 "java/lang/StringBuilder" := c32.keep K42
  have c51 : Exa Z T42.heap bn_12 "[B" := c37.keep K42
  have c52 : Safe Z own_EL T24.vm T42.heap bn_12 := Safe.keep K42 (allS (P := fun x => Safe Z own_EL T24.vm h24 x) (Safe.exa hZ.alike c32 (by decide) (by decide)) (allS (P := fun x => Safe Z own_EL T24.vm h24 x) c39 all0)) c41.1 c39
  have c53 : CHr Z own_EL s.vm h0 T24.vm T42.heap := c41.trans (CHr.keep K42 (allS (P := fun x => Safe Z own_EL T24.vm h24 x) (Safe.exa hZ.alike c32 (by decide) (by decide)) (allS (P := fun x => Safe Z own_EL T24.vm h24 x) c39 all0)) c41.1)
  have c54 : Exa Z T42.heap a24 "java/lang/String" := Ea24.keep K42
  have c55 : Fld Z T42.heap a24 "java/lang/String" "coder" "B" (.int (0 : Int32)) := Fc24.keep K42 (ninS (ne_exa Ea24 c32 (by decide)) (ninS (ne_exa Ea24 c37 (by decide)) nin0))
  have c56 : Fld Z T42.heap a24 "java/lang/String" "value" "[B" (.ref b24) := Fv24.keep K42 (ninS (ne_exa Ea24 c32 (by decide)) (ninS (ne_exa Ea24 c37 (by decide)) nin0))
  have c57 : Arv Z T42.heap b24 c24 .byte (6 : Int32) (own_v own_u0) (.int 0) := Va24.keep K42 (ninS (Ne.symm (own_neA c32 (hi hw 23 rfl) Va24)) (ninS ne40 nin0))
  have c58 : k24 ≤ T42.heap.size := Nat.le_trans hk24 K42.1
  have K59 : Keep h0 T42.heap [] := K38.trans K42 (allS (P := fun x => x ∈ ([] : List Addr) ∨ h0.size ≤ x) (Or.inr sz_b1) (allS (P := fun x => x ∈ ([] : List Addr) ∨ h0.size ≤ x) (Or.inr sz_bn_12) all0))
  have g_bn_42 := FF42_6
  have hor_42 : bn_42 = bn_12 ∨ h24.size ≤ bn_42 := FF42_7
  have c60 : Safe Z own_EL T24.vm T42.heap bn_42 := Safe.keep K42 (allS (P := fun x => Safe Z own_EL T24.vm h24 x) (Safe.exa hZ.alike c32 (by decide) (by decide)) (allS (P := fun x => Safe Z own_EL T24.vm h24 x) c39 all0)) c41.1 (own_SFo hor_42 c39)
  have mi_bn_42 : bn_42 ∈ ([] : List Addr) ∨ h0.size ≤ bn_42 := own_mi hor_42 K38.1 (Or.inr sz_bn_12)
  have hz_42 : own_B zn_42 ([] ++ own_u0) := FF42_8
  have N42 := Fr.app N12 N42q
  have pre42 : ∀ t, Steps p.tables e below (T42.setTop (mkF m 12 #[.val (.ref o0)] [(.ref b1)])) t → P t := fun t k => pre24 t (st42.trans k)
  have pre61 : ∀ t, Steps p.tables e below (T42.setTop (mkF m 13 #[.val (.ref o0)] [(.ref o0), (.ref b1)])) t → P t := fun t k => pre42 t (by
      refine XS.aloadN X42.here hx rfl (hb hby d3_12) rfl rfl ?_
      exact k)
  obtain ⟨T62, X62, e62, st62⟩ := getF X42 hx hZ hown (host := "") (Or.inl (hi hw 9 rfl)) Via.refl rfl c46 (g := (mkF m 13 #[.val (.ref o0)] [(.ref o0), (.ref b1)])) rfl rfl (hb hby d3_13)
  have pre62 : ∀ t, Steps p.tables e below (T62.setTop (mkF m 16 #[.val (.ref o0)] [(.long qa), (.ref b1)])) t → P t := fun t k => pre61 t (st62 _ k)
  obtain ⟨cq63, kq63, q63a, q63b, q63c⟩ := isOf hZ e62 FF42_0
  obtain ⟨_, _, ⟨T63, L63, k63, n63⟩, -, X63, ⟨Lc63, hQ63, l63, y63, z63⟩, st63⟩ := X62.virtualBack hx (y := (⟨"java/lang/StringBuilder", "append", "(J)Ljava/lang/StringBuilder;"⟩ : MethodName)) (z := (⟨"java/lang/StringBuilder", "append", "(J)Ljava/lang/StringBuilder;"⟩ : MethodName)) hown (mvT hZ (hi hw 98 rfl)) (mvT hZ (hi hw 99 rfl)) (notFace_of_selects (args := #[]) (mvT hZ (hi hw 101 rfl))) (mvT hZ (hi hw 101 rfl)) (mvT hZ (hi hw 100 rfl)) (by decide) (backOf (W := 0) (rm14 l Z a0 hw [] b1 qa bn_42 kn_42 zn_42 ([] ++ own_u0) ((0 : Int32) + (6 : Int32)) T42.heap n0 c43 c44 FF42_0 FF42_1 FF42_2 FF42_3 FF42_4 FF42_5 g_b1 g_bn_42 HC (own_Sq2 qa hz_42)) hZ (hi hw 102 rfl) (hi hw 24 rfl) (by decide) (by decide)) q63a q63c (g := (mkF m 16 #[.val (.ref o0)] [(.long qa), (.ref b1)])) rfl (by rw [hml]; rfl) (Steps.refl _) (argsL := [(.long qa)]) (rest := []) (lenOf own_pd22 rfl) rfl (by show 2 * 0 + _ ≤ _; exact Nat.le_of_eq rfl) (hb hby d3_16) (fun _ _ => ⟨rfl, e62, (by decide : 5 + 1 ≤ _), (by decide : 268 + 220 ≤ _)⟩)
  dsimp only [Pt.U, Pt.locs, Pt.cells, Pt.slots] at X63 l63 y63 z63 st63 hQ63
  subst l63 y63 z63
  obtain ⟨bn_63, kn_63, zn_63, rfl, N63q, K63, FF63_0, FF63_1, FF63_2, FF63_3, FF63_4, FF63_5, FF63_6, FF63_7, FF63_8⟩ := hQ63
  have c64 : n0 ≤ T63.heap.size := Nat.le_trans c43 K63.1
  have c65 : Old Z n0 T63.heap := c44.keep K63 (allS (P := fun x => n0 ≤ x) g_b1 (allS (P := fun x => n0 ≤ x) g_bn_42 all0))
  have c66 : Exa Z T63.heap o0 "com/example/xmax/xmax/queue/QueueStatus" := c45.keep K63
  have c67 : Fld Z T63.heap o0 "com/example/xmax/xmax/queue/QueueStatus" "ready" "J" (.long qa) := c46.keep K63 (ninS (Nat.ne_of_lt (Nat.lt_of_lt_of_le Pr_0.lt (Nat.le_of_eq g1.symm))) (ninS (own_neOr hor_42 (Nat.ne_of_lt (Nat.lt_of_lt_of_le c8.lt SZ_bn_12)) c31.lt) nin0))
  have c68 : Fld Z T63.heap o0 "com/example/xmax/xmax/queue/QueueStatus" "claimed" "J" (.long qb) := c47.keep K63 (ninS (Nat.ne_of_lt (Nat.lt_of_lt_of_le Pr_0.lt (Nat.le_of_eq g1.symm))) (ninS (own_neOr hor_42 (Nat.ne_of_lt (Nat.lt_of_lt_of_le c8.lt SZ_bn_12)) c31.lt) nin0))
  have c69 : Fld Z T63.heap o0 "com/example/xmax/xmax/queue/QueueStatus" "done" "J" (.long qc) := c48.keep K63 (ninS (Nat.ne_of_lt (Nat.lt_of_lt_of_le Pr_0.lt (Nat.le_of_eq g1.symm))) (ninS (own_neOr hor_42 (Nat.ne_of_lt (Nat.lt_of_lt_of_le c8.lt SZ_bn_12)) c31.lt) nin0))
  have c70 : Fld Z T63.heap o0 "com/example/xmax/xmax/queue/QueueStatus" "failed" "J" (.long qd) := c49.keep K63 (ninS (Nat.ne_of_lt (Nat.lt_of_lt_of_le Pr_0.lt (Nat.le_of_eq g1.symm))) (ninS (own_neOr hor_42 (Nat.ne_of_lt (Nat.lt_of_lt_of_le c8.lt SZ_bn_12)) c31.lt) nin0))
  have c71 : Exa Z T63.heap b1 "java/lang/StringBuilder" := FF42_0.keep K63
  have c72 : Exa Z T63.heap bn_12 "[B" := c51.keep K63
  have c73 : CHr Z own_EL s.vm h0 T24.vm T63.heap := c53.trans (CHr.keep K63 (allS (P := fun x => Safe Z own_EL T24.vm T42.heap x) (Safe.exa hZ.alike FF42_0 (by decide) (by decide)) (allS (P := fun x => Safe Z own_EL T24.vm T42.heap x) c60 all0)) c53.1)
  have c74 : k24 ≤ T63.heap.size := Nat.le_trans c58 K63.1
  have c75 : Exa Z T63.heap bn_42 "[B" := FF42_5.keep K63
  have c76 : Safe Z own_EL T24.vm T63.heap bn_42 := Safe.keep K63 (allS (P := fun x => Safe Z own_EL T24.vm T42.heap x) (Safe.exa hZ.alike FF42_0 (by decide) (by decide)) (allS (P := fun x => Safe Z own_EL T24.vm T42.heap x) c60 all0)) c53.1 c60
  have K77 : Keep h0 T63.heap [] := K59.trans K63 (allS (P := fun x => x ∈ ([] : List Addr) ∨ h0.size ≤ x) (Or.inr sz_b1) (allS (P := fun x => x ∈ ([] : List Addr) ∨ h0.size ≤ x) (mi_bn_42) all0))
  have g_bn_63 := FF63_6
  have hor_63 : bn_63 = bn_42 ∨ T42.heap.size ≤ bn_63 := FF63_7
  have c78 : Safe Z own_EL T24.vm T63.heap bn_63 := Safe.keep K63 (allS (P := fun x => Safe Z own_EL T24.vm T42.heap x) (Safe.exa hZ.alike FF42_0 (by decide) (by decide)) (allS (P := fun x => Safe Z own_EL T24.vm T42.heap x) c60 all0)) c53.1 (own_SFo hor_63 c60)
  have mi_bn_63 : bn_63 ∈ ([] : List Addr) ∨ h0.size ≤ bn_63 := own_mi hor_63 K59.1 (mi_bn_42)
  have hz_63 : own_B zn_63 (([] ++ own_u0) ++ (own_txt qa)) := FF63_8
  have N63 := Fr.app N42 N63q
  have pre63 : ∀ t, Steps p.tables e below (T63.setTop (mkF m 19 #[.val (.ref o0)] [(.ref b1)])) t → P t := fun t k => pre62 t (st63.trans k)
  obtain ⟨a79, T79, h79, k79, b79, c79, X79, e79, E79, hS79, hk79, hZ, hown, Ea79, Fc79, Fv79, Va79, la79, lb79, hC79, -, hne79, st79⟩ := ldcCH (s := s) (vm0 := T24.vm) X63 hx hZ hown (hi hw 123 rfl) wS rfl (k0 := k24) hS24 c74 (own_ew hw) (List.mem_of_getElem? (i := 1) rfl) c73.1 (z := (9 : Int32)) own_tx1 (by decide) own_tl1 (g := (mkF m 19 #[.val (.ref o0)] [(.ref b1)])) rfl (hb hby d3_19) (n := 36) (by decide) (by decide) (by decide) (by decide)
  have pre79 : ∀ t, Steps p.tables e below (T79.setTop (mkF m 21 #[.val (.ref o0)] [(.ref a79), (.ref b1)])) t → P t := fun t k => pre63 t (st79 _ k)
  have c80 : n0 ≤ h79.size := Nat.le_trans c64 E79.1
  have c81 : Old Z n0 h79 := c65.ext E79
  have c82 : Exa Z h79 o0 "com/example/xmax/xmax/queue/QueueStatus" := c66.ext E79
  have c83 : Fld Z h79 o0 "com/example/xmax/xmax/queue/QueueStatus" "ready" "J" (.long qa) := c67.ext E79
  have c84 : Fld Z h79 o0 "com/example/xmax/xmax/queue/QueueStatus" "claimed" "J" (.long qb) := c68.ext E79
  have c85 : Fld Z h79 o0 "com/example/xmax/xmax/queue/QueueStatus" "done" "J" (.long qc) := c69.ext E79
  have c86 : Fld Z h79 o0 "com/example/xmax/xmax/queue/QueueStatus" "failed" "J" (.long qd) := c70.ext E79
  have c87 : Exa Z h79 b1 "java/lang/StringBuilder" := FF63_0.ext E79
  have c88 : Exa Z h79 bn_12 "[B" := c72.ext E79
  have c89 : Exa Z h79 bn_42 "[B" := c75.ext E79
  have c90 : Fld Z h79 b1 "java/lang/AbstractStringBuilder" "coder" "B" (.int (0 : Int32)) := FF63_1.ext E79
  have c91 : Fld Z h79 b1 "java/lang/AbstractStringBuilder" "value" "[B" (.ref bn_63) := FF63_2.ext E79
  have c92 : Fld Z h79 b1 "java/lang/AbstractStringBuilder" "count" "I" (.int (((0 : Int32) + (6 : Int32)) + (own_f16 qa))) := FF63_3.ext E79
  have c93 : Arv Z h79 bn_63 kn_63 .byte zn_63 (own_v (([] ++ own_u0) ++ (own_txt qa))) (.int 0) := FF63_4.ext E79
  have c94 : Exa Z h79 bn_63 "[B" := FF63_5.ext E79
  have K95 : Keep h0 h79 [] := K77.ext E79
  have c96 : Safe Z own_EL T79.vm h79 bn_63 := CHr.safe hC79 FF63_4.lt c78
  have ne97 : b79 ≠ bn_63 := Ne.symm (hne79 _ c96).2
  have c98 : CHr Z own_EL s.vm h0 T79.vm h79 := c73.trans hC79
  obtain ⟨cq99, kq99, q99a, q99b, q99c⟩ := isOf hZ e79 c87
  obtain ⟨_, _, ⟨T99, L99, k99, n99⟩, -, X99, ⟨Lc99, hQ99, l99, y99, z99⟩, st99⟩ := X79.virtualBack hx (y := (⟨"java/lang/StringBuilder", "append", "(Ljava/lang/String;)Ljava/lang/StringBuilder;"⟩ : MethodName)) (z := (⟨"java/lang/StringBuilder", "append", "(Ljava/lang/String;)Ljava/lang/StringBuilder;"⟩ : MethodName)) hown (mvT hZ (hi hw 48 rfl)) (mvT hZ (hi hw 49 rfl)) (notFace_of_selects (args := #[]) (mvT hZ (hi hw 51 rfl))) (mvT hZ (hi hw 51 rfl)) (mvT hZ (hi hw 50 rfl)) (by decide) (backOf (W := 0) (rm6 l Z a0 hw [] b1 a79 bn_63 kn_63 zn_63 (([] ++ own_u0) ++ (own_txt qa)) (((0 : Int32) + (6 : Int32)) + (own_f16 qa)) b79 c79 (9 : Int32) own_u1 h79 n0 c80 c81 c87 c90 c91 c92 c93 c94 Ea79 Fc79 Fv79 Va79 g_b1 g_bn_63 ne97 HC (own_Sq3 qa hz_63)) hZ (hi hw 52 rfl) (hi hw 24 rfl) (by decide) (by decide)) q99a q99c (g := (mkF m 21 #[.val (.ref o0)] [(.ref a79), (.ref b1)])) rfl (by rw [hml]; rfl) (Steps.refl _) (argsL := [(.ref a79)]) (rest := []) (lenOf own_pd21 rfl) rfl (by show 2 * 0 + _ ≤ _; exact Nat.le_of_eq rfl) (hb hby d3_21) (fun _ _ => ⟨rfl, e79, (by decide : 8 + 1 ≤ _), (by decide : 528 + 220 ≤ _)⟩)
  dsimp only [Pt.U, Pt.locs, Pt.cells, Pt.slots] at X99 l99 y99 z99 st99 hQ99
  subst l99 y99 z99
  obtain ⟨bn_99, kn_99, zn_99, rfl, N99q, K99, FF99_0, FF99_1, FF99_2, FF99_3, FF99_4, FF99_5, FF99_6, FF99_7, FF99_8⟩ := hQ99
  have c100 : n0 ≤ T99.heap.size := Nat.le_trans c80 K99.1
  have c101 : Old Z n0 T99.heap := c81.keep K99 (allS (P := fun x => n0 ≤ x) g_b1 (allS (P := fun x => n0 ≤ x) g_bn_63 all0))
  have c102 : Exa Z T99.heap o0 "com/example/xmax/xmax/queue/QueueStatus" := c82.keep K99
  have c103 : Fld Z T99.heap o0 "com/example/xmax/xmax/queue/QueueStatus" "ready" "J" (.long qa) := c83.keep K99 (ninS (Nat.ne_of_lt (Nat.lt_of_lt_of_le Pr_0.lt (Nat.le_of_eq g1.symm))) (ninS (own_neOr hor_63 (own_neOr hor_42 (Nat.ne_of_lt (Nat.lt_of_lt_of_le c8.lt SZ_bn_12)) c31.lt) c49.lt) nin0))
  have c104 : Fld Z T99.heap o0 "com/example/xmax/xmax/queue/QueueStatus" "claimed" "J" (.long qb) := c84.keep K99 (ninS (Nat.ne_of_lt (Nat.lt_of_lt_of_le Pr_0.lt (Nat.le_of_eq g1.symm))) (ninS (own_neOr hor_63 (own_neOr hor_42 (Nat.ne_of_lt (Nat.lt_of_lt_of_le c8.lt SZ_bn_12)) c31.lt) c49.lt) nin0))
  have c105 : Fld Z T99.heap o0 "com/example/xmax/xmax/queue/QueueStatus" "done" "J" (.long qc) := c85.keep K99 (ninS (Nat.ne_of_lt (Nat.lt_of_lt_of_le Pr_0.lt (Nat.le_of_eq g1.symm))) (ninS (own_neOr hor_63 (own_neOr hor_42 (Nat.ne_of_lt (Nat.lt_of_lt_of_le c8.lt SZ_bn_12)) c31.lt) c49.lt) nin0))
  have c106 : Fld Z T99.heap o0 "com/example/xmax/xmax/queue/QueueStatus" "failed" "J" (.long qd) := c86.keep K99 (ninS (Nat.ne_of_lt (Nat.lt_of_lt_of_le Pr_0.lt (Nat.le_of_eq g1.symm))) (ninS (own_neOr hor_63 (own_neOr hor_42 (Nat.ne_of_lt (Nat.lt_of_lt_of_le c8.lt SZ_bn_12)) c31.lt) c49.lt) nin0))
  have c107 : Exa Z T99.heap b1 "java/lang/StringBuilder" := c87.keep K99
  have c108 : Exa Z T99.heap bn_12 "[B" := c88.keep K99
  have c109 : Exa Z T99.heap bn_42 "[B" := c89.keep K99
  have c110 : Exa Z T99.heap bn_63 "[B" := c94.keep K99
  have c111 : Safe Z own_EL T79.vm T99.heap bn_63 := Safe.keep K99 (allS (P := fun x => Safe Z own_EL T79.vm h79 x) (Safe.exa hZ.alike c87 (by decide) (by decide)) (allS (P := fun x => Safe Z own_EL T79.vm h79 x) c96 all0)) c98.1 c96
  have c112 : CHr Z own_EL s.vm h0 T79.vm T99.heap := c98.trans (CHr.keep K99 (allS (P := fun x => Safe Z own_EL T79.vm h79 x) (Safe.exa hZ.alike c87 (by decide) (by decide)) (allS (P := fun x => Safe Z own_EL T79.vm h79 x) c96 all0)) c98.1)
  have c113 : Exa Z T99.heap a79 "java/lang/String" := Ea79.keep K99
  have c114 : Fld Z T99.heap a79 "java/lang/String" "coder" "B" (.int (0 : Int32)) := Fc79.keep K99 (ninS (ne_exa Ea79 c87 (by decide)) (ninS (ne_exa Ea79 c94 (by decide)) nin0))
  have c115 : Fld Z T99.heap a79 "java/lang/String" "value" "[B" (.ref b79) := Fv79.keep K99 (ninS (ne_exa Ea79 c87 (by decide)) (ninS (ne_exa Ea79 c94 (by decide)) nin0))
  have c116 : Arv Z T99.heap b79 c79 .byte (9 : Int32) (own_v own_u1) (.int 0) := Va79.keep K99 (ninS (Ne.symm (own_neA c87 (hi hw 23 rfl) Va79)) (ninS ne97 nin0))
  have c117 : k79 ≤ T99.heap.size := Nat.le_trans hk79 K99.1
  have K118 : Keep h0 T99.heap [] := K95.trans K99 (allS (P := fun x => x ∈ ([] : List Addr) ∨ h0.size ≤ x) (Or.inr sz_b1) (allS (P := fun x => x ∈ ([] : List Addr) ∨ h0.size ≤ x) (mi_bn_63) all0))
  have g_bn_99 := FF99_6
  have hor_99 : bn_99 = bn_63 ∨ h79.size ≤ bn_99 := FF99_7
  have c119 : Safe Z own_EL T79.vm T99.heap bn_99 := Safe.keep K99 (allS (P := fun x => Safe Z own_EL T79.vm h79 x) (Safe.exa hZ.alike c87 (by decide) (by decide)) (allS (P := fun x => Safe Z own_EL T79.vm h79 x) c96 all0)) c98.1 (own_SFo hor_99 c96)
  have mi_bn_99 : bn_99 ∈ ([] : List Addr) ∨ h0.size ≤ bn_99 := own_mi hor_99 K95.1 (mi_bn_63)
  have hz_99 : own_B zn_99 ((([] ++ own_u0) ++ (own_txt qa)) ++ own_u1) := FF99_8
  have N99 := Fr.app N63 N99q
  have pre99 : ∀ t, Steps p.tables e below (T99.setTop (mkF m 24 #[.val (.ref o0)] [(.ref b1)])) t → P t := fun t k => pre79 t (st99.trans k)
  have pre120 : ∀ t, Steps p.tables e below (T99.setTop (mkF m 25 #[.val (.ref o0)] [(.ref o0), (.ref b1)])) t → P t := fun t k => pre99 t (by
      refine XS.aloadN X99.here hx rfl (hb hby d3_24) rfl rfl ?_
      exact k)
  obtain ⟨T121, X121, e121, st121⟩ := getF X99 hx hZ hown (host := "") (Or.inl (hi hw 11 rfl)) Via.refl rfl c104 (g := (mkF m 25 #[.val (.ref o0)] [(.ref o0), (.ref b1)])) rfl rfl (hb hby d3_25)
  have pre121 : ∀ t, Steps p.tables e below (T121.setTop (mkF m 28 #[.val (.ref o0)] [(.long qb), (.ref b1)])) t → P t := fun t k => pre120 t (st121 _ k)
  obtain ⟨cq122, kq122, q122a, q122b, q122c⟩ := isOf hZ e121 FF99_0
  obtain ⟨_, _, ⟨T122, L122, k122, n122⟩, -, X122, ⟨Lc122, hQ122, l122, y122, z122⟩, st122⟩ := X121.virtualBack hx (y := (⟨"java/lang/StringBuilder", "append", "(J)Ljava/lang/StringBuilder;"⟩ : MethodName)) (z := (⟨"java/lang/StringBuilder", "append", "(J)Ljava/lang/StringBuilder;"⟩ : MethodName)) hown (mvT hZ (hi hw 98 rfl)) (mvT hZ (hi hw 99 rfl)) (notFace_of_selects (args := #[]) (mvT hZ (hi hw 101 rfl))) (mvT hZ (hi hw 101 rfl)) (mvT hZ (hi hw 100 rfl)) (by decide) (backOf (W := 0) (rm14 l Z a0 hw [] b1 qb bn_99 kn_99 zn_99 ((([] ++ own_u0) ++ (own_txt qa)) ++ own_u1) ((((0 : Int32) + (6 : Int32)) + (own_f16 qa)) + (9 : Int32)) T99.heap n0 c100 c101 FF99_0 FF99_1 FF99_2 FF99_3 FF99_4 FF99_5 g_b1 g_bn_99 HC (own_Sq4 qa qb hz_99)) hZ (hi hw 102 rfl) (hi hw 24 rfl) (by decide) (by decide)) q122a q122c (g := (mkF m 28 #[.val (.ref o0)] [(.long qb), (.ref b1)])) rfl (by rw [hml]; rfl) (Steps.refl _) (argsL := [(.long qb)]) (rest := []) (lenOf own_pd22 rfl) rfl (by show 2 * 0 + _ ≤ _; exact Nat.le_of_eq rfl) (hb hby d3_28) (fun _ _ => ⟨rfl, e121, (by decide : 9 + 1 ≤ _), (by decide : 748 + 220 ≤ _)⟩)
  dsimp only [Pt.U, Pt.locs, Pt.cells, Pt.slots] at X122 l122 y122 z122 st122 hQ122
  subst l122 y122 z122
  obtain ⟨bn_122, kn_122, zn_122, rfl, N122q, K122, FF122_0, FF122_1, FF122_2, FF122_3, FF122_4, FF122_5, FF122_6, FF122_7, FF122_8⟩ := hQ122
  have c123 : n0 ≤ T122.heap.size := Nat.le_trans c100 K122.1
  have c124 : Old Z n0 T122.heap := c101.keep K122 (allS (P := fun x => n0 ≤ x) g_b1 (allS (P := fun x => n0 ≤ x) g_bn_99 all0))
  have c125 : Exa Z T122.heap o0 "com/example/xmax/xmax/queue/QueueStatus" := c102.keep K122
  have c126 : Fld Z T122.heap o0 "com/example/xmax/xmax/queue/QueueStatus" "ready" "J" (.long qa) := c103.keep K122 (ninS (Nat.ne_of_lt (Nat.lt_of_lt_of_le Pr_0.lt (Nat.le_of_eq g1.symm))) (ninS (own_neOr hor_99 (own_neOr hor_63 (own_neOr hor_42 (Nat.ne_of_lt (Nat.lt_of_lt_of_le c8.lt SZ_bn_12)) c31.lt) c49.lt) c86.lt) nin0))
  have c127 : Fld Z T122.heap o0 "com/example/xmax/xmax/queue/QueueStatus" "claimed" "J" (.long qb) := c104.keep K122 (ninS (Nat.ne_of_lt (Nat.lt_of_lt_of_le Pr_0.lt (Nat.le_of_eq g1.symm))) (ninS (own_neOr hor_99 (own_neOr hor_63 (own_neOr hor_42 (Nat.ne_of_lt (Nat.lt_of_lt_of_le c8.lt SZ_bn_12)) c31.lt) c49.lt) c86.lt) nin0))
  have c128 : Fld Z T122.heap o0 "com/example/xmax/xmax/queue/QueueStatus" "done" "J" (.long qc) := c105.keep K122 (ninS (Nat.ne_of_lt (Nat.lt_of_lt_of_le Pr_0.lt (Nat.le_of_eq g1.symm))) (ninS (own_neOr hor_99 (own_neOr hor_63 (own_neOr hor_42 (Nat.ne_of_lt (Nat.lt_of_lt_of_le c8.lt SZ_bn_12)) c31.lt) c49.lt) c86.lt) nin0))
  have c129 : Fld Z T122.heap o0 "com/example/xmax/xmax/queue/QueueStatus" "failed" "J" (.long qd) := c106.keep K122 (ninS (Nat.ne_of_lt (Nat.lt_of_lt_of_le Pr_0.lt (Nat.le_of_eq g1.symm))) (ninS (own_neOr hor_99 (own_neOr hor_63 (own_neOr hor_42 (Nat.ne_of_lt (Nat.lt_of_lt_of_le c8.lt SZ_bn_12)) c31.lt) c49.lt) c86.lt) nin0))
  have c130 : Exa Z T122.heap b1 "java/lang/StringBuilder" := FF99_0.keep K122
  have c131 : Exa Z T122.heap bn_12 "[B" := c108.keep K122
  have c132 : Exa Z T122.heap bn_42 "[B" := c109.keep K122
  have c133 : Exa Z T122.heap bn_63 "[B" := c110.keep K122
  have c134 : CHr Z own_EL s.vm h0 T79.vm T122.heap := c112.trans (CHr.keep K122 (allS (P := fun x => Safe Z own_EL T79.vm T99.heap x) (Safe.exa hZ.alike FF99_0 (by decide) (by decide)) (allS (P := fun x => Safe Z own_EL T79.vm T99.heap x) c119 all0)) c112.1)
  have c135 : k79 ≤ T122.heap.size := Nat.le_trans c117 K122.1
  have c136 : Exa Z T122.heap bn_99 "[B" := FF99_5.keep K122
  have c137 : Safe Z own_EL T79.vm T122.heap bn_99 := Safe.keep K122 (allS (P := fun x => Safe Z own_EL T79.vm T99.heap x) (Safe.exa hZ.alike FF99_0 (by decide) (by decide)) (allS (P := fun x => Safe Z own_EL T79.vm T99.heap x) c119 all0)) c112.1 c119
  have K138 : Keep h0 T122.heap [] := K118.trans K122 (allS (P := fun x => x ∈ ([] : List Addr) ∨ h0.size ≤ x) (Or.inr sz_b1) (allS (P := fun x => x ∈ ([] : List Addr) ∨ h0.size ≤ x) (mi_bn_99) all0))
  have g_bn_122 := FF122_6
  have hor_122 : bn_122 = bn_99 ∨ T99.heap.size ≤ bn_122 := FF122_7
  have c139 : Safe Z own_EL T79.vm T122.heap bn_122 := Safe.keep K122 (allS (P := fun x => Safe Z own_EL T79.vm T99.heap x) (Safe.exa hZ.alike FF99_0 (by decide) (by decide)) (allS (P := fun x => Safe Z own_EL T79.vm T99.heap x) c119 all0)) c112.1 (own_SFo hor_122 c119)
  have mi_bn_122 : bn_122 ∈ ([] : List Addr) ∨ h0.size ≤ bn_122 := own_mi hor_122 K118.1 (mi_bn_99)
  have hz_122 : own_B zn_122 (((([] ++ own_u0) ++ (own_txt qa)) ++ own_u1) ++ (own_txt qb)) := FF122_8
  have N122 := Fr.app N99 N122q
  have pre122 : ∀ t, Steps p.tables e below (T122.setTop (mkF m 31 #[.val (.ref o0)] [(.ref b1)])) t → P t := fun t k => pre121 t (st122.trans k)
  obtain ⟨a140, T140, h140, k140, b140, c140, X140, e140, E140, hS140, hk140, hZ, hown, Ea140, Fc140, Fv140, Va140, la140, lb140, hC140, -, hne140, st140⟩ := ldcCH (s := s) (vm0 := T79.vm) X122 hx hZ hown (hi hw 147 rfl) wS rfl (k0 := k79) hS79 c135 (own_ew hw) (List.mem_of_getElem? (i := 2) rfl) c134.1 (z := (6 : Int32)) own_tx2 (by decide) own_tl2 (g := (mkF m 31 #[.val (.ref o0)] [(.ref b1)])) rfl (hb hby d3_31) (n := 24) (by decide) (by decide) (by decide) (by decide)
  have pre140 : ∀ t, Steps p.tables e below (T140.setTop (mkF m 33 #[.val (.ref o0)] [(.ref a140), (.ref b1)])) t → P t := fun t k => pre122 t (st140 _ k)
  have c141 : n0 ≤ h140.size := Nat.le_trans c123 E140.1
  have c142 : Old Z n0 h140 := c124.ext E140
  have c143 : Exa Z h140 o0 "com/example/xmax/xmax/queue/QueueStatus" := c125.ext E140
  have c144 : Fld Z h140 o0 "com/example/xmax/xmax/queue/QueueStatus" "ready" "J" (.long qa) := c126.ext E140
  have c145 : Fld Z h140 o0 "com/example/xmax/xmax/queue/QueueStatus" "claimed" "J" (.long qb) := c127.ext E140
  have c146 : Fld Z h140 o0 "com/example/xmax/xmax/queue/QueueStatus" "done" "J" (.long qc) := c128.ext E140
  have c147 : Fld Z h140 o0 "com/example/xmax/xmax/queue/QueueStatus" "failed" "J" (.long qd) := c129.ext E140
  have c148 : Exa Z h140 b1 "java/lang/StringBuilder" := FF122_0.ext E140
  have c149 : Exa Z h140 bn_12 "[B" := c131.ext E140
  have c150 : Exa Z h140 bn_42 "[B" := c132.ext E140
  have c151 : Exa Z h140 bn_63 "[B" := c133.ext E140
  have c152 : Exa Z h140 bn_99 "[B" := c136.ext E140
  have c153 : Fld Z h140 b1 "java/lang/AbstractStringBuilder" "coder" "B" (.int (0 : Int32)) := FF122_1.ext E140
  have c154 : Fld Z h140 b1 "java/lang/AbstractStringBuilder" "value" "[B" (.ref bn_122) := FF122_2.ext E140
  have c155 : Fld Z h140 b1 "java/lang/AbstractStringBuilder" "count" "I" (.int (((((0 : Int32) + (6 : Int32)) + (own_f16 qa)) + (9 : Int32)) + (own_f16 qb))) := FF122_3.ext E140
  have c156 : Arv Z h140 bn_122 kn_122 .byte zn_122 (own_v (((([] ++ own_u0) ++ (own_txt qa)) ++ own_u1) ++ (own_txt qb))) (.int 0) := FF122_4.ext E140
  have c157 : Exa Z h140 bn_122 "[B" := FF122_5.ext E140
  have K158 : Keep h0 h140 [] := K138.ext E140
  have c159 : Safe Z own_EL T140.vm h140 bn_122 := CHr.safe hC140 FF122_4.lt c139
  have ne160 : b140 ≠ bn_122 := Ne.symm (hne140 _ c159).2
  have c161 : CHr Z own_EL s.vm h0 T140.vm h140 := c134.trans hC140
  obtain ⟨cq162, kq162, q162a, q162b, q162c⟩ := isOf hZ e140 c148
  obtain ⟨_, _, ⟨T162, L162, k162, n162⟩, -, X162, ⟨Lc162, hQ162, l162, y162, z162⟩, st162⟩ := X140.virtualBack hx (y := (⟨"java/lang/StringBuilder", "append", "(Ljava/lang/String;)Ljava/lang/StringBuilder;"⟩ : MethodName)) (z := (⟨"java/lang/StringBuilder", "append", "(Ljava/lang/String;)Ljava/lang/StringBuilder;"⟩ : MethodName)) hown (mvT hZ (hi hw 48 rfl)) (mvT hZ (hi hw 49 rfl)) (notFace_of_selects (args := #[]) (mvT hZ (hi hw 51 rfl))) (mvT hZ (hi hw 51 rfl)) (mvT hZ (hi hw 50 rfl)) (by decide) (backOf (W := 0) (rm6 l Z a0 hw [] b1 a140 bn_122 kn_122 zn_122 (((([] ++ own_u0) ++ (own_txt qa)) ++ own_u1) ++ (own_txt qb)) (((((0 : Int32) + (6 : Int32)) + (own_f16 qa)) + (9 : Int32)) + (own_f16 qb)) b140 c140 (6 : Int32) own_u2 h140 n0 c141 c142 c148 c153 c154 c155 c156 c157 Ea140 Fc140 Fv140 Va140 g_b1 g_bn_122 ne160 HC (own_Sq5 qa qb hz_122)) hZ (hi hw 52 rfl) (hi hw 24 rfl) (by decide) (by decide)) q162a q162c (g := (mkF m 33 #[.val (.ref o0)] [(.ref a140), (.ref b1)])) rfl (by rw [hml]; rfl) (Steps.refl _) (argsL := [(.ref a140)]) (rest := []) (lenOf own_pd21 rfl) rfl (by show 2 * 0 + _ ≤ _; exact Nat.le_of_eq rfl) (hb hby d3_33) (fun _ _ => ⟨rfl, e140, (by decide : 12 + 1 ≤ _), (by decide : 996 + 220 ≤ _)⟩)
  dsimp only [Pt.U, Pt.locs, Pt.cells, Pt.slots] at X162 l162 y162 z162 st162 hQ162
  subst l162 y162 z162
  obtain ⟨bn_162, kn_162, zn_162, rfl, N162q, K162, FF162_0, FF162_1, FF162_2, FF162_3, FF162_4, FF162_5, FF162_6, FF162_7, FF162_8⟩ := hQ162
  have c163 : n0 ≤ T162.heap.size := Nat.le_trans c141 K162.1
  have c164 : Old Z n0 T162.heap := c142.keep K162 (allS (P := fun x => n0 ≤ x) g_b1 (allS (P := fun x => n0 ≤ x) g_bn_122 all0))
  have c165 : Exa Z T162.heap o0 "com/example/xmax/xmax/queue/QueueStatus" := c143.keep K162
  have c166 : Fld Z T162.heap o0 "com/example/xmax/xmax/queue/QueueStatus" "ready" "J" (.long qa) := c144.keep K162 (ninS (Nat.ne_of_lt (Nat.lt_of_lt_of_le Pr_0.lt (Nat.le_of_eq g1.symm))) (ninS (own_neOr hor_122 (own_neOr hor_99 (own_neOr hor_63 (own_neOr hor_42 (Nat.ne_of_lt (Nat.lt_of_lt_of_le c8.lt SZ_bn_12)) c31.lt) c49.lt) c86.lt) c106.lt) nin0))
  have c167 : Fld Z T162.heap o0 "com/example/xmax/xmax/queue/QueueStatus" "claimed" "J" (.long qb) := c145.keep K162 (ninS (Nat.ne_of_lt (Nat.lt_of_lt_of_le Pr_0.lt (Nat.le_of_eq g1.symm))) (ninS (own_neOr hor_122 (own_neOr hor_99 (own_neOr hor_63 (own_neOr hor_42 (Nat.ne_of_lt (Nat.lt_of_lt_of_le c8.lt SZ_bn_12)) c31.lt) c49.lt) c86.lt) c106.lt) nin0))
  have c168 : Fld Z T162.heap o0 "com/example/xmax/xmax/queue/QueueStatus" "done" "J" (.long qc) := c146.keep K162 (ninS (Nat.ne_of_lt (Nat.lt_of_lt_of_le Pr_0.lt (Nat.le_of_eq g1.symm))) (ninS (own_neOr hor_122 (own_neOr hor_99 (own_neOr hor_63 (own_neOr hor_42 (Nat.ne_of_lt (Nat.lt_of_lt_of_le c8.lt SZ_bn_12)) c31.lt) c49.lt) c86.lt) c106.lt) nin0))
  have c169 : Fld Z T162.heap o0 "com/example/xmax/xmax/queue/QueueStatus" "failed" "J" (.long qd) := c147.keep K162 (ninS (Nat.ne_of_lt (Nat.lt_of_lt_of_le Pr_0.lt (Nat.le_of_eq g1.symm))) (ninS (own_neOr hor_122 (own_neOr hor_99 (own_neOr hor_63 (own_neOr hor_42 (Nat.ne_of_lt (Nat.lt_of_lt_of_le c8.lt SZ_bn_12)) c31.lt) c49.lt) c86.lt) c106.lt) nin0))
  have c170 : Exa Z T162.heap b1 "java/lang/StringBuilder" := c148.keep K162
  have c171 : Exa Z T162.heap bn_12 "[B" := c149.keep K162
  have c172 : Exa Z T162.heap bn_42 "[B" := c150.keep K162
  have c173 : Exa Z T162.heap bn_63 "[B" := c151.keep K162
  have c174 : Exa Z T162.heap bn_99 "[B" := c152.keep K162
  have c175 : Exa Z T162.heap bn_122 "[B" := c157.keep K162
  have c176 : Safe Z own_EL T140.vm T162.heap bn_122 := Safe.keep K162 (allS (P := fun x => Safe Z own_EL T140.vm h140 x) (Safe.exa hZ.alike c148 (by decide) (by decide)) (allS (P := fun x => Safe Z own_EL T140.vm h140 x) c159 all0)) c161.1 c159
  have c177 : CHr Z own_EL s.vm h0 T140.vm T162.heap := c161.trans (CHr.keep K162 (allS (P := fun x => Safe Z own_EL T140.vm h140 x) (Safe.exa hZ.alike c148 (by decide) (by decide)) (allS (P := fun x => Safe Z own_EL T140.vm h140 x) c159 all0)) c161.1)
  have c178 : Exa Z T162.heap a140 "java/lang/String" := Ea140.keep K162
  have c179 : Fld Z T162.heap a140 "java/lang/String" "coder" "B" (.int (0 : Int32)) := Fc140.keep K162 (ninS (ne_exa Ea140 c148 (by decide)) (ninS (ne_exa Ea140 c157 (by decide)) nin0))
  have c180 : Fld Z T162.heap a140 "java/lang/String" "value" "[B" (.ref b140) := Fv140.keep K162 (ninS (ne_exa Ea140 c148 (by decide)) (ninS (ne_exa Ea140 c157 (by decide)) nin0))
  have c181 : Arv Z T162.heap b140 c140 .byte (6 : Int32) (own_v own_u2) (.int 0) := Va140.keep K162 (ninS (Ne.symm (own_neA c148 (hi hw 23 rfl) Va140)) (ninS ne160 nin0))
  have c182 : k140 ≤ T162.heap.size := Nat.le_trans hk140 K162.1
  have K183 : Keep h0 T162.heap [] := K158.trans K162 (allS (P := fun x => x ∈ ([] : List Addr) ∨ h0.size ≤ x) (Or.inr sz_b1) (allS (P := fun x => x ∈ ([] : List Addr) ∨ h0.size ≤ x) (mi_bn_122) all0))
  have g_bn_162 := FF162_6
  have hor_162 : bn_162 = bn_122 ∨ h140.size ≤ bn_162 := FF162_7
  have c184 : Safe Z own_EL T140.vm T162.heap bn_162 := Safe.keep K162 (allS (P := fun x => Safe Z own_EL T140.vm h140 x) (Safe.exa hZ.alike c148 (by decide) (by decide)) (allS (P := fun x => Safe Z own_EL T140.vm h140 x) c159 all0)) c161.1 (own_SFo hor_162 c159)
  have mi_bn_162 : bn_162 ∈ ([] : List Addr) ∨ h0.size ≤ bn_162 := own_mi hor_162 K158.1 (mi_bn_122)
  have hz_162 : own_B zn_162 ((((([] ++ own_u0) ++ (own_txt qa)) ++ own_u1) ++ (own_txt qb)) ++ own_u2) := FF162_8
  have N162 := Fr.app N122 N162q
  have pre162 : ∀ t, Steps p.tables e below (T162.setTop (mkF m 36 #[.val (.ref o0)] [(.ref b1)])) t → P t := fun t k => pre140 t (st162.trans k)
  have pre185 : ∀ t, Steps p.tables e below (T162.setTop (mkF m 37 #[.val (.ref o0)] [(.ref o0), (.ref b1)])) t → P t := fun t k => pre162 t (by
      refine XS.aloadN X162.here hx rfl (hb hby d3_36) rfl rfl ?_
      exact k)
  obtain ⟨T186, X186, e186, st186⟩ := getF X162 hx hZ hown (host := "") (Or.inl (hi hw 13 rfl)) Via.refl rfl c168 (g := (mkF m 37 #[.val (.ref o0)] [(.ref o0), (.ref b1)])) rfl rfl (hb hby d3_37)
  have pre186 : ∀ t, Steps p.tables e below (T186.setTop (mkF m 40 #[.val (.ref o0)] [(.long qc), (.ref b1)])) t → P t := fun t k => pre185 t (st186 _ k)
  obtain ⟨cq187, kq187, q187a, q187b, q187c⟩ := isOf hZ e186 FF162_0
  obtain ⟨_, _, ⟨T187, L187, k187, n187⟩, -, X187, ⟨Lc187, hQ187, l187, y187, z187⟩, st187⟩ := X186.virtualBack hx (y := (⟨"java/lang/StringBuilder", "append", "(J)Ljava/lang/StringBuilder;"⟩ : MethodName)) (z := (⟨"java/lang/StringBuilder", "append", "(J)Ljava/lang/StringBuilder;"⟩ : MethodName)) hown (mvT hZ (hi hw 98 rfl)) (mvT hZ (hi hw 99 rfl)) (notFace_of_selects (args := #[]) (mvT hZ (hi hw 101 rfl))) (mvT hZ (hi hw 101 rfl)) (mvT hZ (hi hw 100 rfl)) (by decide) (backOf (W := 0) (rm14 l Z a0 hw [] b1 qc bn_162 kn_162 zn_162 ((((([] ++ own_u0) ++ (own_txt qa)) ++ own_u1) ++ (own_txt qb)) ++ own_u2) ((((((0 : Int32) + (6 : Int32)) + (own_f16 qa)) + (9 : Int32)) + (own_f16 qb)) + (6 : Int32)) T162.heap n0 c163 c164 FF162_0 FF162_1 FF162_2 FF162_3 FF162_4 FF162_5 g_b1 g_bn_162 HC (own_Sq6 qa qb qc hz_162)) hZ (hi hw 102 rfl) (hi hw 24 rfl) (by decide) (by decide)) q187a q187c (g := (mkF m 40 #[.val (.ref o0)] [(.long qc), (.ref b1)])) rfl (by rw [hml]; rfl) (Steps.refl _) (argsL := [(.long qc)]) (rest := []) (lenOf own_pd22 rfl) rfl (by show 2 * 0 + _ ≤ _; exact Nat.le_of_eq rfl) (hb hby d3_40) (fun _ _ => ⟨rfl, e186, (by decide : 13 + 1 ≤ _), (by decide : 1216 + 220 ≤ _)⟩)
  dsimp only [Pt.U, Pt.locs, Pt.cells, Pt.slots] at X187 l187 y187 z187 st187 hQ187
  subst l187 y187 z187
  obtain ⟨bn_187, kn_187, zn_187, rfl, N187q, K187, FF187_0, FF187_1, FF187_2, FF187_3, FF187_4, FF187_5, FF187_6, FF187_7, FF187_8⟩ := hQ187
  have c188 : n0 ≤ T187.heap.size := Nat.le_trans c163 K187.1
  have c189 : Old Z n0 T187.heap := c164.keep K187 (allS (P := fun x => n0 ≤ x) g_b1 (allS (P := fun x => n0 ≤ x) g_bn_162 all0))
  have c190 : Exa Z T187.heap o0 "com/example/xmax/xmax/queue/QueueStatus" := c165.keep K187
  have c191 : Fld Z T187.heap o0 "com/example/xmax/xmax/queue/QueueStatus" "ready" "J" (.long qa) := c166.keep K187 (ninS (Nat.ne_of_lt (Nat.lt_of_lt_of_le Pr_0.lt (Nat.le_of_eq g1.symm))) (ninS (own_neOr hor_162 (own_neOr hor_122 (own_neOr hor_99 (own_neOr hor_63 (own_neOr hor_42 (Nat.ne_of_lt (Nat.lt_of_lt_of_le c8.lt SZ_bn_12)) c31.lt) c49.lt) c86.lt) c106.lt) c147.lt) nin0))
  have c192 : Fld Z T187.heap o0 "com/example/xmax/xmax/queue/QueueStatus" "claimed" "J" (.long qb) := c167.keep K187 (ninS (Nat.ne_of_lt (Nat.lt_of_lt_of_le Pr_0.lt (Nat.le_of_eq g1.symm))) (ninS (own_neOr hor_162 (own_neOr hor_122 (own_neOr hor_99 (own_neOr hor_63 (own_neOr hor_42 (Nat.ne_of_lt (Nat.lt_of_lt_of_le c8.lt SZ_bn_12)) c31.lt) c49.lt) c86.lt) c106.lt) c147.lt) nin0))
  have c193 : Fld Z T187.heap o0 "com/example/xmax/xmax/queue/QueueStatus" "done" "J" (.long qc) := c168.keep K187 (ninS (Nat.ne_of_lt (Nat.lt_of_lt_of_le Pr_0.lt (Nat.le_of_eq g1.symm))) (ninS (own_neOr hor_162 (own_neOr hor_122 (own_neOr hor_99 (own_neOr hor_63 (own_neOr hor_42 (Nat.ne_of_lt (Nat.lt_of_lt_of_le c8.lt SZ_bn_12)) c31.lt) c49.lt) c86.lt) c106.lt) c147.lt) nin0))
  have c194 : Fld Z T187.heap o0 "com/example/xmax/xmax/queue/QueueStatus" "failed" "J" (.long qd) := c169.keep K187 (ninS (Nat.ne_of_lt (Nat.lt_of_lt_of_le Pr_0.lt (Nat.le_of_eq g1.symm))) (ninS (own_neOr hor_162 (own_neOr hor_122 (own_neOr hor_99 (own_neOr hor_63 (own_neOr hor_42 (Nat.ne_of_lt (Nat.lt_of_lt_of_le c8.lt SZ_bn_12)) c31.lt) c49.lt) c86.lt) c106.lt) c147.lt) nin0))
  have c195 : Exa Z T187.heap b1 "java/lang/StringBuilder" := FF162_0.keep K187
  have c196 : Exa Z T187.heap bn_12 "[B" := c171.keep K187
  have c197 : Exa Z T187.heap bn_42 "[B" := c172.keep K187
  have c198 : Exa Z T187.heap bn_63 "[B" := c173.keep K187
  have c199 : Exa Z T187.heap bn_99 "[B" := c174.keep K187
  have c200 : Exa Z T187.heap bn_122 "[B" := c175.keep K187
  have c201 : CHr Z own_EL s.vm h0 T140.vm T187.heap := c177.trans (CHr.keep K187 (allS (P := fun x => Safe Z own_EL T140.vm T162.heap x) (Safe.exa hZ.alike FF162_0 (by decide) (by decide)) (allS (P := fun x => Safe Z own_EL T140.vm T162.heap x) c184 all0)) c177.1)
  have c202 : k140 ≤ T187.heap.size := Nat.le_trans c182 K187.1
  have c203 : Exa Z T187.heap bn_162 "[B" := FF162_5.keep K187
  have c204 : Safe Z own_EL T140.vm T187.heap bn_162 := Safe.keep K187 (allS (P := fun x => Safe Z own_EL T140.vm T162.heap x) (Safe.exa hZ.alike FF162_0 (by decide) (by decide)) (allS (P := fun x => Safe Z own_EL T140.vm T162.heap x) c184 all0)) c177.1 c184
  have K205 : Keep h0 T187.heap [] := K183.trans K187 (allS (P := fun x => x ∈ ([] : List Addr) ∨ h0.size ≤ x) (Or.inr sz_b1) (allS (P := fun x => x ∈ ([] : List Addr) ∨ h0.size ≤ x) (mi_bn_162) all0))
  have g_bn_187 := FF187_6
  have hor_187 : bn_187 = bn_162 ∨ T162.heap.size ≤ bn_187 := FF187_7
  have c206 : Safe Z own_EL T140.vm T187.heap bn_187 := Safe.keep K187 (allS (P := fun x => Safe Z own_EL T140.vm T162.heap x) (Safe.exa hZ.alike FF162_0 (by decide) (by decide)) (allS (P := fun x => Safe Z own_EL T140.vm T162.heap x) c184 all0)) c177.1 (own_SFo hor_187 c184)
  have mi_bn_187 : bn_187 ∈ ([] : List Addr) ∨ h0.size ≤ bn_187 := own_mi hor_187 K183.1 (mi_bn_162)
  have hz_187 : own_B zn_187 (((((([] ++ own_u0) ++ (own_txt qa)) ++ own_u1) ++ (own_txt qb)) ++ own_u2) ++ (own_txt qc)) := FF187_8
  have N187 := Fr.app N162 N187q
  have pre187 : ∀ t, Steps p.tables e below (T187.setTop (mkF m 43 #[.val (.ref o0)] [(.ref b1)])) t → P t := fun t k => pre186 t (st187.trans k)
  obtain ⟨a207, T207, h207, k207, b207, c207, X207, e207, E207, hS207, hk207, hZ, hown, Ea207, Fc207, Fv207, Va207, la207, lb207, hC207, -, hne207, st207⟩ := ldcCH (s := s) (vm0 := T140.vm) X187 hx hZ hown (hi hw 151 rfl) wS rfl (k0 := k140) hS140 c202 (own_ew hw) (List.mem_of_getElem? (i := 3) rfl) c201.1 (z := (8 : Int32)) own_tx3 (by decide) own_tl3 (g := (mkF m 43 #[.val (.ref o0)] [(.ref b1)])) rfl (hb hby d3_43) (n := 32) (by decide) (by decide) (by decide) (by decide)
  have pre207 : ∀ t, Steps p.tables e below (T207.setTop (mkF m 45 #[.val (.ref o0)] [(.ref a207), (.ref b1)])) t → P t := fun t k => pre187 t (st207 _ k)
  have c208 : n0 ≤ h207.size := Nat.le_trans c188 E207.1
  have c209 : Old Z n0 h207 := c189.ext E207
  have c210 : Exa Z h207 o0 "com/example/xmax/xmax/queue/QueueStatus" := c190.ext E207
  have c211 : Fld Z h207 o0 "com/example/xmax/xmax/queue/QueueStatus" "ready" "J" (.long qa) := c191.ext E207
  have c212 : Fld Z h207 o0 "com/example/xmax/xmax/queue/QueueStatus" "claimed" "J" (.long qb) := c192.ext E207
  have c213 : Fld Z h207 o0 "com/example/xmax/xmax/queue/QueueStatus" "done" "J" (.long qc) := c193.ext E207
  have c214 : Fld Z h207 o0 "com/example/xmax/xmax/queue/QueueStatus" "failed" "J" (.long qd) := c194.ext E207
  have c215 : Exa Z h207 b1 "java/lang/StringBuilder" := FF187_0.ext E207
  have c216 : Exa Z h207 bn_12 "[B" := c196.ext E207
  have c217 : Exa Z h207 bn_42 "[B" := c197.ext E207
  have c218 : Exa Z h207 bn_63 "[B" := c198.ext E207
  have c219 : Exa Z h207 bn_99 "[B" := c199.ext E207
  have c220 : Exa Z h207 bn_122 "[B" := c200.ext E207
  have c221 : Exa Z h207 bn_162 "[B" := c203.ext E207
  have c222 : Fld Z h207 b1 "java/lang/AbstractStringBuilder" "coder" "B" (.int (0 : Int32)) := FF187_1.ext E207
  have c223 : Fld Z h207 b1 "java/lang/AbstractStringBuilder" "value" "[B" (.ref bn_187) := FF187_2.ext E207
  have c224 : Fld Z h207 b1 "java/lang/AbstractStringBuilder" "count" "I" (.int (((((((0 : Int32) + (6 : Int32)) + (own_f16 qa)) + (9 : Int32)) + (own_f16 qb)) + (6 : Int32)) + (own_f16 qc))) := FF187_3.ext E207
  have c225 : Arv Z h207 bn_187 kn_187 .byte zn_187 (own_v (((((([] ++ own_u0) ++ (own_txt qa)) ++ own_u1) ++ (own_txt qb)) ++ own_u2) ++ (own_txt qc))) (.int 0) := FF187_4.ext E207
  have c226 : Exa Z h207 bn_187 "[B" := FF187_5.ext E207
  have K227 : Keep h0 h207 [] := K205.ext E207
  have c228 : Safe Z own_EL T207.vm h207 bn_187 := CHr.safe hC207 FF187_4.lt c206
  have ne229 : b207 ≠ bn_187 := Ne.symm (hne207 _ c228).2
  have c230 : CHr Z own_EL s.vm h0 T207.vm h207 := c201.trans hC207
  obtain ⟨cq231, kq231, q231a, q231b, q231c⟩ := isOf hZ e207 c215
  obtain ⟨_, _, ⟨T231, L231, k231, n231⟩, -, X231, ⟨Lc231, hQ231, l231, y231, z231⟩, st231⟩ := X207.virtualBack hx (y := (⟨"java/lang/StringBuilder", "append", "(Ljava/lang/String;)Ljava/lang/StringBuilder;"⟩ : MethodName)) (z := (⟨"java/lang/StringBuilder", "append", "(Ljava/lang/String;)Ljava/lang/StringBuilder;"⟩ : MethodName)) hown (mvT hZ (hi hw 48 rfl)) (mvT hZ (hi hw 49 rfl)) (notFace_of_selects (args := #[]) (mvT hZ (hi hw 51 rfl))) (mvT hZ (hi hw 51 rfl)) (mvT hZ (hi hw 50 rfl)) (by decide) (backOf (W := 0) (rm6 l Z a0 hw [] b1 a207 bn_187 kn_187 zn_187 (((((([] ++ own_u0) ++ (own_txt qa)) ++ own_u1) ++ (own_txt qb)) ++ own_u2) ++ (own_txt qc)) (((((((0 : Int32) + (6 : Int32)) + (own_f16 qa)) + (9 : Int32)) + (own_f16 qb)) + (6 : Int32)) + (own_f16 qc)) b207 c207 (8 : Int32) own_u3 h207 n0 c208 c209 c215 c222 c223 c224 c225 c226 Ea207 Fc207 Fv207 Va207 g_b1 g_bn_187 ne229 HC (own_Sq7 qa qb qc hz_187)) hZ (hi hw 52 rfl) (hi hw 24 rfl) (by decide) (by decide)) q231a q231c (g := (mkF m 45 #[.val (.ref o0)] [(.ref a207), (.ref b1)])) rfl (by rw [hml]; rfl) (Steps.refl _) (argsL := [(.ref a207)]) (rest := []) (lenOf own_pd21 rfl) rfl (by show 2 * 0 + _ ≤ _; exact Nat.le_of_eq rfl) (hb hby d3_45) (fun _ _ => ⟨rfl, e207, (by decide : 16 + 1 ≤ _), (by decide : 1472 + 220 ≤ _)⟩)
  dsimp only [Pt.U, Pt.locs, Pt.cells, Pt.slots] at X231 l231 y231 z231 st231 hQ231
  subst l231 y231 z231
  obtain ⟨bn_231, kn_231, zn_231, rfl, N231q, K231, FF231_0, FF231_1, FF231_2, FF231_3, FF231_4, FF231_5, FF231_6, FF231_7, FF231_8⟩ := hQ231
  have c232 : n0 ≤ T231.heap.size := Nat.le_trans c208 K231.1
  have c233 : Old Z n0 T231.heap := c209.keep K231 (allS (P := fun x => n0 ≤ x) g_b1 (allS (P := fun x => n0 ≤ x) g_bn_187 all0))
  have c234 : Exa Z T231.heap o0 "com/example/xmax/xmax/queue/QueueStatus" := c210.keep K231
  have c235 : Fld Z T231.heap o0 "com/example/xmax/xmax/queue/QueueStatus" "ready" "J" (.long qa) := c211.keep K231 (ninS (Nat.ne_of_lt (Nat.lt_of_lt_of_le Pr_0.lt (Nat.le_of_eq g1.symm))) (ninS (own_neOr hor_187 (own_neOr hor_162 (own_neOr hor_122 (own_neOr hor_99 (own_neOr hor_63 (own_neOr hor_42 (Nat.ne_of_lt (Nat.lt_of_lt_of_le c8.lt SZ_bn_12)) c31.lt) c49.lt) c86.lt) c106.lt) c147.lt) c169.lt) nin0))
  have c236 : Fld Z T231.heap o0 "com/example/xmax/xmax/queue/QueueStatus" "claimed" "J" (.long qb) := c212.keep K231 (ninS (Nat.ne_of_lt (Nat.lt_of_lt_of_le Pr_0.lt (Nat.le_of_eq g1.symm))) (ninS (own_neOr hor_187 (own_neOr hor_162 (own_neOr hor_122 (own_neOr hor_99 (own_neOr hor_63 (own_neOr hor_42 (Nat.ne_of_lt (Nat.lt_of_lt_of_le c8.lt SZ_bn_12)) c31.lt) c49.lt) c86.lt) c106.lt) c147.lt) c169.lt) nin0))
  have c237 : Fld Z T231.heap o0 "com/example/xmax/xmax/queue/QueueStatus" "done" "J" (.long qc) := c213.keep K231 (ninS (Nat.ne_of_lt (Nat.lt_of_lt_of_le Pr_0.lt (Nat.le_of_eq g1.symm))) (ninS (own_neOr hor_187 (own_neOr hor_162 (own_neOr hor_122 (own_neOr hor_99 (own_neOr hor_63 (own_neOr hor_42 (Nat.ne_of_lt (Nat.lt_of_lt_of_le c8.lt SZ_bn_12)) c31.lt) c49.lt) c86.lt) c106.lt) c147.lt) c169.lt) nin0))
  have c238 : Fld Z T231.heap o0 "com/example/xmax/xmax/queue/QueueStatus" "failed" "J" (.long qd) := c214.keep K231 (ninS (Nat.ne_of_lt (Nat.lt_of_lt_of_le Pr_0.lt (Nat.le_of_eq g1.symm))) (ninS (own_neOr hor_187 (own_neOr hor_162 (own_neOr hor_122 (own_neOr hor_99 (own_neOr hor_63 (own_neOr hor_42 (Nat.ne_of_lt (Nat.lt_of_lt_of_le c8.lt SZ_bn_12)) c31.lt) c49.lt) c86.lt) c106.lt) c147.lt) c169.lt) nin0))
  have c239 : Exa Z T231.heap b1 "java/lang/StringBuilder" := c215.keep K231
  have c240 : Exa Z T231.heap bn_12 "[B" := c216.keep K231
  have c241 : Exa Z T231.heap bn_42 "[B" := c217.keep K231
  have c242 : Exa Z T231.heap bn_63 "[B" := c218.keep K231
  have c243 : Exa Z T231.heap bn_99 "[B" := c219.keep K231
  have c244 : Exa Z T231.heap bn_122 "[B" := c220.keep K231
  have c245 : Exa Z T231.heap bn_162 "[B" := c221.keep K231
  have c246 : Exa Z T231.heap bn_187 "[B" := c226.keep K231
  have c247 : Safe Z own_EL T207.vm T231.heap bn_187 := Safe.keep K231 (allS (P := fun x => Safe Z own_EL T207.vm h207 x) (Safe.exa hZ.alike c215 (by decide) (by decide)) (allS (P := fun x => Safe Z own_EL T207.vm h207 x) c228 all0)) c230.1 c228
  have c248 : CHr Z own_EL s.vm h0 T207.vm T231.heap := c230.trans (CHr.keep K231 (allS (P := fun x => Safe Z own_EL T207.vm h207 x) (Safe.exa hZ.alike c215 (by decide) (by decide)) (allS (P := fun x => Safe Z own_EL T207.vm h207 x) c228 all0)) c230.1)
  have c249 : Exa Z T231.heap a207 "java/lang/String" := Ea207.keep K231
  have c250 : Fld Z T231.heap a207 "java/lang/String" "coder" "B" (.int (0 : Int32)) := Fc207.keep K231 (ninS (ne_exa Ea207 c215 (by decide)) (ninS (ne_exa Ea207 c226 (by decide)) nin0))
  have c251 : Fld Z T231.heap a207 "java/lang/String" "value" "[B" (.ref b207) := Fv207.keep K231 (ninS (ne_exa Ea207 c215 (by decide)) (ninS (ne_exa Ea207 c226 (by decide)) nin0))
  have c252 : Arv Z T231.heap b207 c207 .byte (8 : Int32) (own_v own_u3) (.int 0) := Va207.keep K231 (ninS (Ne.symm (own_neA c215 (hi hw 23 rfl) Va207)) (ninS ne229 nin0))
  have c253 : k207 ≤ T231.heap.size := Nat.le_trans hk207 K231.1
  have K254 : Keep h0 T231.heap [] := K227.trans K231 (allS (P := fun x => x ∈ ([] : List Addr) ∨ h0.size ≤ x) (Or.inr sz_b1) (allS (P := fun x => x ∈ ([] : List Addr) ∨ h0.size ≤ x) (mi_bn_187) all0))
  have g_bn_231 := FF231_6
  have hor_231 : bn_231 = bn_187 ∨ h207.size ≤ bn_231 := FF231_7
  have c255 : Safe Z own_EL T207.vm T231.heap bn_231 := Safe.keep K231 (allS (P := fun x => Safe Z own_EL T207.vm h207 x) (Safe.exa hZ.alike c215 (by decide) (by decide)) (allS (P := fun x => Safe Z own_EL T207.vm h207 x) c228 all0)) c230.1 (own_SFo hor_231 c228)
  have mi_bn_231 : bn_231 ∈ ([] : List Addr) ∨ h0.size ≤ bn_231 := own_mi hor_231 K227.1 (mi_bn_187)
  have hz_231 : own_B zn_231 ((((((([] ++ own_u0) ++ (own_txt qa)) ++ own_u1) ++ (own_txt qb)) ++ own_u2) ++ (own_txt qc)) ++ own_u3) := FF231_8
  have N231 := Fr.app N187 N231q
  have pre231 : ∀ t, Steps p.tables e below (T231.setTop (mkF m 48 #[.val (.ref o0)] [(.ref b1)])) t → P t := fun t k => pre207 t (st231.trans k)
  have pre256 : ∀ t, Steps p.tables e below (T231.setTop (mkF m 49 #[.val (.ref o0)] [(.ref o0), (.ref b1)])) t → P t := fun t k => pre231 t (by
      refine XS.aloadN X231.here hx rfl (hb hby d3_48) rfl rfl ?_
      exact k)
  obtain ⟨T257, X257, e257, st257⟩ := getF X231 hx hZ hown (host := "") (Or.inl (hi hw 15 rfl)) Via.refl rfl c238 (g := (mkF m 49 #[.val (.ref o0)] [(.ref o0), (.ref b1)])) rfl rfl (hb hby d3_49)
  have pre257 : ∀ t, Steps p.tables e below (T257.setTop (mkF m 52 #[.val (.ref o0)] [(.long qd), (.ref b1)])) t → P t := fun t k => pre256 t (st257 _ k)
  obtain ⟨cq258, kq258, q258a, q258b, q258c⟩ := isOf hZ e257 FF231_0
  obtain ⟨_, _, ⟨T258, L258, k258, n258⟩, -, X258, ⟨Lc258, hQ258, l258, y258, z258⟩, st258⟩ := X257.virtualBack hx (y := (⟨"java/lang/StringBuilder", "append", "(J)Ljava/lang/StringBuilder;"⟩ : MethodName)) (z := (⟨"java/lang/StringBuilder", "append", "(J)Ljava/lang/StringBuilder;"⟩ : MethodName)) hown (mvT hZ (hi hw 98 rfl)) (mvT hZ (hi hw 99 rfl)) (notFace_of_selects (args := #[]) (mvT hZ (hi hw 101 rfl))) (mvT hZ (hi hw 101 rfl)) (mvT hZ (hi hw 100 rfl)) (by decide) (backOf (W := 0) (rm14 l Z a0 hw [] b1 qd bn_231 kn_231 zn_231 ((((((([] ++ own_u0) ++ (own_txt qa)) ++ own_u1) ++ (own_txt qb)) ++ own_u2) ++ (own_txt qc)) ++ own_u3) ((((((((0 : Int32) + (6 : Int32)) + (own_f16 qa)) + (9 : Int32)) + (own_f16 qb)) + (6 : Int32)) + (own_f16 qc)) + (8 : Int32)) T231.heap n0 c232 c233 FF231_0 FF231_1 FF231_2 FF231_3 FF231_4 FF231_5 g_b1 g_bn_231 HC (own_Sq8 qa qb qc qd hz_231)) hZ (hi hw 102 rfl) (hi hw 24 rfl) (by decide) (by decide)) q258a q258c (g := (mkF m 52 #[.val (.ref o0)] [(.long qd), (.ref b1)])) rfl (by rw [hml]; rfl) (Steps.refl _) (argsL := [(.long qd)]) (rest := []) (lenOf own_pd22 rfl) rfl (by show 2 * 0 + _ ≤ _; exact Nat.le_of_eq rfl) (hb hby d3_52) (fun _ _ => ⟨rfl, e257, (by decide : 17 + 1 ≤ _), (by decide : 1692 + 220 ≤ _)⟩)
  dsimp only [Pt.U, Pt.locs, Pt.cells, Pt.slots] at X258 l258 y258 z258 st258 hQ258
  subst l258 y258 z258
  obtain ⟨bn_258, kn_258, zn_258, rfl, N258q, K258, FF258_0, FF258_1, FF258_2, FF258_3, FF258_4, FF258_5, FF258_6, FF258_7, FF258_8⟩ := hQ258
  have c259 : n0 ≤ T258.heap.size := Nat.le_trans c232 K258.1
  have c260 : Old Z n0 T258.heap := c233.keep K258 (allS (P := fun x => n0 ≤ x) g_b1 (allS (P := fun x => n0 ≤ x) g_bn_231 all0))
  have c261 : Exa Z T258.heap o0 "com/example/xmax/xmax/queue/QueueStatus" := c234.keep K258
  have c262 : Fld Z T258.heap o0 "com/example/xmax/xmax/queue/QueueStatus" "ready" "J" (.long qa) := c235.keep K258 (ninS (Nat.ne_of_lt (Nat.lt_of_lt_of_le Pr_0.lt (Nat.le_of_eq g1.symm))) (ninS (own_neOr hor_231 (own_neOr hor_187 (own_neOr hor_162 (own_neOr hor_122 (own_neOr hor_99 (own_neOr hor_63 (own_neOr hor_42 (Nat.ne_of_lt (Nat.lt_of_lt_of_le c8.lt SZ_bn_12)) c31.lt) c49.lt) c86.lt) c106.lt) c147.lt) c169.lt) c214.lt) nin0))
  have c263 : Fld Z T258.heap o0 "com/example/xmax/xmax/queue/QueueStatus" "claimed" "J" (.long qb) := c236.keep K258 (ninS (Nat.ne_of_lt (Nat.lt_of_lt_of_le Pr_0.lt (Nat.le_of_eq g1.symm))) (ninS (own_neOr hor_231 (own_neOr hor_187 (own_neOr hor_162 (own_neOr hor_122 (own_neOr hor_99 (own_neOr hor_63 (own_neOr hor_42 (Nat.ne_of_lt (Nat.lt_of_lt_of_le c8.lt SZ_bn_12)) c31.lt) c49.lt) c86.lt) c106.lt) c147.lt) c169.lt) c214.lt) nin0))
  have c264 : Fld Z T258.heap o0 "com/example/xmax/xmax/queue/QueueStatus" "done" "J" (.long qc) := c237.keep K258 (ninS (Nat.ne_of_lt (Nat.lt_of_lt_of_le Pr_0.lt (Nat.le_of_eq g1.symm))) (ninS (own_neOr hor_231 (own_neOr hor_187 (own_neOr hor_162 (own_neOr hor_122 (own_neOr hor_99 (own_neOr hor_63 (own_neOr hor_42 (Nat.ne_of_lt (Nat.lt_of_lt_of_le c8.lt SZ_bn_12)) c31.lt) c49.lt) c86.lt) c106.lt) c147.lt) c169.lt) c214.lt) nin0))
  have c265 : Fld Z T258.heap o0 "com/example/xmax/xmax/queue/QueueStatus" "failed" "J" (.long qd) := c238.keep K258 (ninS (Nat.ne_of_lt (Nat.lt_of_lt_of_le Pr_0.lt (Nat.le_of_eq g1.symm))) (ninS (own_neOr hor_231 (own_neOr hor_187 (own_neOr hor_162 (own_neOr hor_122 (own_neOr hor_99 (own_neOr hor_63 (own_neOr hor_42 (Nat.ne_of_lt (Nat.lt_of_lt_of_le c8.lt SZ_bn_12)) c31.lt) c49.lt) c86.lt) c106.lt) c147.lt) c169.lt) c214.lt) nin0))
  have c266 : Exa Z T258.heap b1 "java/lang/StringBuilder" := FF231_0.keep K258
  have c267 : Exa Z T258.heap bn_12 "[B" := c240.keep K258
  have c268 : Exa Z T258.heap bn_42 "[B" := c241.keep K258
  have c269 : Exa Z T258.heap bn_63 "[B" := c242.keep K258
  have c270 : Exa Z T258.heap bn_99 "[B" := c243.keep K258
  have c271 : Exa Z T258.heap bn_122 "[B" := c244.keep K258
  have c272 : Exa Z T258.heap bn_162 "[B" := c245.keep K258
  have c273 : Exa Z T258.heap bn_187 "[B" := c246.keep K258
  have c274 : CHr Z own_EL s.vm h0 T207.vm T258.heap := c248.trans (CHr.keep K258 (allS (P := fun x => Safe Z own_EL T207.vm T231.heap x) (Safe.exa hZ.alike FF231_0 (by decide) (by decide)) (allS (P := fun x => Safe Z own_EL T207.vm T231.heap x) c255 all0)) c248.1)
  have c275 : k207 ≤ T258.heap.size := Nat.le_trans c253 K258.1
  have c276 : Exa Z T258.heap bn_231 "[B" := FF231_5.keep K258
  have c277 : Safe Z own_EL T207.vm T258.heap bn_231 := Safe.keep K258 (allS (P := fun x => Safe Z own_EL T207.vm T231.heap x) (Safe.exa hZ.alike FF231_0 (by decide) (by decide)) (allS (P := fun x => Safe Z own_EL T207.vm T231.heap x) c255 all0)) c248.1 c255
  have K278 : Keep h0 T258.heap [] := K254.trans K258 (allS (P := fun x => x ∈ ([] : List Addr) ∨ h0.size ≤ x) (Or.inr sz_b1) (allS (P := fun x => x ∈ ([] : List Addr) ∨ h0.size ≤ x) (mi_bn_231) all0))
  have g_bn_258 := FF258_6
  have hor_258 : bn_258 = bn_231 ∨ T231.heap.size ≤ bn_258 := FF258_7
  have c279 : Safe Z own_EL T207.vm T258.heap bn_258 := Safe.keep K258 (allS (P := fun x => Safe Z own_EL T207.vm T231.heap x) (Safe.exa hZ.alike FF231_0 (by decide) (by decide)) (allS (P := fun x => Safe Z own_EL T207.vm T231.heap x) c255 all0)) c248.1 (own_SFo hor_258 c255)
  have mi_bn_258 : bn_258 ∈ ([] : List Addr) ∨ h0.size ≤ bn_258 := own_mi hor_258 K254.1 (mi_bn_231)
  have hz_258 : own_B zn_258 (((((((([] ++ own_u0) ++ (own_txt qa)) ++ own_u1) ++ (own_txt qb)) ++ own_u2) ++ (own_txt qc)) ++ own_u3) ++ (own_txt qd)) := FF258_8
  have N258 := Fr.app N231 N258q
  have pre258 : ∀ t, Steps p.tables e below (T258.setTop (mkF m 55 #[.val (.ref o0)] [(.ref b1)])) t → P t := fun t k => pre257 t (st258.trans k)
  obtain ⟨cq280, kq280, q280a, q280b, q280c⟩ := isOf hZ rfl FF258_0
  obtain ⟨_, _, ⟨T280, L280, k280, n280⟩, -, X280, ⟨Lc280, hQ280, l280, y280, z280⟩, st280⟩ := X258.virtualBack hx (y := (⟨"java/lang/StringBuilder", "toString", "()Ljava/lang/String;"⟩ : MethodName)) (z := (⟨"java/lang/StringBuilder", "toString", "()Ljava/lang/String;"⟩ : MethodName)) hown (mvT hZ (hi hw 152 rfl)) (mvT hZ (hi hw 153 rfl)) (notFace_of_selects (args := #[]) (mvT hZ (hi hw 155 rfl))) (mvT hZ (hi hw 155 rfl)) (mvT hZ (hi hw 154 rfl)) (by decide) (backOf (W := 0) (rm24 l Z a0 hw [] b1 bn_258 kn_258 zn_258 (((((((([] ++ own_u0) ++ (own_txt qa)) ++ own_u1) ++ (own_txt qb)) ++ own_u2) ++ (own_txt qc)) ++ own_u3) ++ (own_txt qd)) (((((((((0 : Int32) + (6 : Int32)) + (own_f16 qa)) + (9 : Int32)) + (own_f16 qb)) + (6 : Int32)) + (own_f16 qc)) + (8 : Int32)) + (own_f16 qd)) T258.heap n0 c259 c260 FF258_0 FF258_1 FF258_2 FF258_3 FF258_4 FF258_5 HC (own_Rz qa qb qc qd hz_258)) hZ (hi hw 156 rfl) (hi hw 24 rfl) (by decide) (by decide)) q280a q280c (g := (mkF m 55 #[.val (.ref o0)] [(.ref b1)])) rfl (by rw [hml]; rfl) (Steps.refl _) (argsL := []) (rest := []) (lenOf own_pd23 rfl) rfl (by show 2 * 0 + _ ≤ _; exact Nat.le_of_eq rfl) (hb hby d3_55) (fun _ _ => ⟨rfl, rfl, (by decide : 18 + 2 ≤ _), (by decide : 1912 + 224 ≤ _)⟩)
  dsimp only [Pt.U, Pt.locs, Pt.cells, Pt.slots] at X280 l280 y280 z280 st280 hQ280
  subst l280 y280 z280
  obtain ⟨an_280, bn_280, kn_280, rfl, N280q, K280, FF280_0, FF280_1, FF280_2, FF280_3, FF280_4, FF280_5, FF280_6, FF280_7⟩ := hQ280
  have c281 : n0 ≤ T280.heap.size := Nat.le_trans c259 K280.1
  have c282 : Old Z n0 T280.heap := c260.keep K280 all0
  have c283 : Exa Z T280.heap o0 "com/example/xmax/xmax/queue/QueueStatus" := c261.keep K280
  have c284 : Fld Z T280.heap o0 "com/example/xmax/xmax/queue/QueueStatus" "ready" "J" (.long qa) := c262.keep K280 nin0
  have c285 : Fld Z T280.heap o0 "com/example/xmax/xmax/queue/QueueStatus" "claimed" "J" (.long qb) := c263.keep K280 nin0
  have c286 : Fld Z T280.heap o0 "com/example/xmax/xmax/queue/QueueStatus" "done" "J" (.long qc) := c264.keep K280 nin0
  have c287 : Fld Z T280.heap o0 "com/example/xmax/xmax/queue/QueueStatus" "failed" "J" (.long qd) := c265.keep K280 nin0
  have c288 : Exa Z T280.heap b1 "java/lang/StringBuilder" := FF258_0.keep K280
  have c289 : Exa Z T280.heap bn_12 "[B" := c267.keep K280
  have c290 : Exa Z T280.heap bn_42 "[B" := c268.keep K280
  have c291 : Exa Z T280.heap bn_63 "[B" := c269.keep K280
  have c292 : Exa Z T280.heap bn_99 "[B" := c270.keep K280
  have c293 : Exa Z T280.heap bn_122 "[B" := c271.keep K280
  have c294 : Exa Z T280.heap bn_162 "[B" := c272.keep K280
  have c295 : Exa Z T280.heap bn_187 "[B" := c273.keep K280
  have c296 : CHr Z own_EL s.vm h0 T207.vm T280.heap := c274.trans (CHr.keep K280 all0 c274.1)
  have c297 : k207 ≤ T280.heap.size := Nat.le_trans c275 K280.1
  have c298 : Exa Z T280.heap bn_231 "[B" := c276.keep K280
  have c299 : Fld Z T280.heap b1 "java/lang/AbstractStringBuilder" "coder" "B" (.int (0 : Int32)) := FF258_1.keep K280 nin0
  have c300 : Fld Z T280.heap b1 "java/lang/AbstractStringBuilder" "value" "[B" (.ref bn_258) := FF258_2.keep K280 nin0
  have c301 : Fld Z T280.heap b1 "java/lang/AbstractStringBuilder" "count" "I" (.int (((((((((0 : Int32) + (6 : Int32)) + (own_f16 qa)) + (9 : Int32)) + (own_f16 qb)) + (6 : Int32)) + (own_f16 qc)) + (8 : Int32)) + (own_f16 qd))) := FF258_3.keep K280 nin0
  have c302 : Arv Z T280.heap bn_258 kn_258 .byte zn_258 (own_v (((((((([] ++ own_u0) ++ (own_txt qa)) ++ own_u1) ++ (own_txt qb)) ++ own_u2) ++ (own_txt qc)) ++ own_u3) ++ (own_txt qd))) (.int 0) := FF258_4.keep K280 nin0
  have c303 : Exa Z T280.heap bn_258 "[B" := FF258_5.keep K280
  have c304 : Safe Z own_EL T207.vm T280.heap bn_258 := Safe.keep K280 all0 c274.1 c279
  have K305 : Keep h0 T280.heap [] := K278.trans K280 all0
  have g_an_280 := FF280_4
  have g_bn_280 := FF280_5
  have SZ_an_280 := FF280_6
  have sz_an_280 : h0.size ≤ an_280 := Nat.le_trans K278.1 FF280_6
  have SZ_bn_280 := FF280_7
  have sz_bn_280 : h0.size ≤ bn_280 := Nat.le_trans K278.1 FF280_7
  have N280 := Fr.app N258 N280q
  have pre280 : ∀ t, Steps p.tables e below (T280.setTop (mkF m 58 #[.val (.ref o0)] [(.ref an_280)])) t → P t := fun t k => pre258 t (st280.trans k)
  obtain ⟨fs, hr, hrun, hended, hRW⟩ := X280.leaveW hS207 (by exact c297) (v := some (.ref an_280)) (fun h => by rw [Bd.returns] at h; cases h)
  refine ⟨_, _, fin _ (pre280 _ ?_), hrun, hended, _, _, rfl, ?_, (by rw [hh]; show CHr Z own_EL s.vm h0 T280.vm T280.heap; exact c296.trans (CHv.at X280 hZ (own_ew hw) c296.1)), hRW.1, hRW.2.1, hRW.2.2.1, hRW.2.2.2.mono (by decide) (by decide)⟩
  · show Steps p.tables e below (T280.setTop (mkF m 58 #[.val (.ref o0)] [(.ref an_280)])) _
    jvm_step X280.here [X280.here.top, hx, (hb hby d3_58), X280.method', Bd.returns, Value.isRef, FieldType.isReference]
    first | (intro acts; rw [hr _ acts rfl rfl rfl]) | rw [hr _ _ rfl rfl rfl]
    exact Steps.refl _
  · show Q3 Z o0 qa qb qc qd h0 n0 _ T280.heap _
    -- ('V', 'bn_280') : said ('kn_280', '.byte', '(((((((((0 : Int32) + (6 : Int32)) + (own_f16 qa)) + (9 : Int32)) + (own_f16 qb)) + (6 : Int32)) + (own_f16 qc)) + (8 : Int32)) + (own_f16 qd))', '(own_v (own_TX qa qb qc qd))', '(.int 0)'), found ('kn_280', '.byte', '(((((((((0 : Int32) + (6 : Int32)) + (own_f16 qa)) + (9 : Int32)) + (own_f16 qb)) + (6 : Int32)) + (own_f16 qc)) + (8 : Int32)) + (own_f16 qd))', '(own_v (((((((([] ++ own_u0) ++ (own_txt qa)) ++ own_u1) ++ (own_txt qb)) ++ own_u2) ++ (own_txt qc)) ++ own_u3) ++ (own_txt qd)))', '(.int 0)')
    exact ⟨an_280, bn_280, kn_280, rfl, N280, K305, FF280_0, FF280_1, FF280_2, FF280_3, g_an_280, g_bn_280, sz_an_280, sz_bn_280⟩
theorem d39_0 : decode jdk_41_method_11_code 0 = .ok (.iload_n 0, 1) := by decide +kernel
theorem d39_1 : decode jdk_41_method_11_code 1 = .ok (.ifCond .lt 8, 3) := by decide +kernel
theorem d39_4 : decode jdk_41_method_11_code 4 = .ok (.iload_n 0, 1) := by decide +kernel
theorem d39_5 : decode jdk_41_method_11_code 5 = .ok (.iload_n 1, 1) := by decide +kernel
theorem d39_6 : decode jdk_41_method_11_code 6 = .ok (.if_icmp .lt 10, 3) := by decide +kernel
theorem d39_16 : decode jdk_41_method_11_code 16 = .ok (.iload_n 0, 1) := by decide +kernel
theorem d39_17 : decode jdk_41_method_11_code 17 = .ok (.ireturn, 1) := by decide +kernel
theorem pn_39 : plainName "jdk/internal/util/Preconditions" = true := by first | (simp [plainName, overriddenIn]; done) | decide +kernel
theorem ef_39 (m : MethodId) (p0 : Int32) (p1 : Int32) (o2 : Addr) : entryFrame m #[(.int p0), (.int p1), (.ref o2)] 3 = mkF m 0 #[.val (.int p0), .val (.int p1), .val (.ref o2)] [] := by first | (simp [entryFrame, mkF, argsToLocals, Value.category]; done) | rfl
def Q39 (Z : State) (p0 : Int32) (p1 : Int32) (o2 : Addr) (h0 : Heap) (n0 : Nat) (v : Option Value) (h : Heap) (L : List Loc) : Prop := v = some (.int p0) ∧ Fr n0 L ∧ h = h0
set_option maxRecDepth 65536 in
set_option maxHeartbeats 40000000 in
theorem rm39 (l : Launch) (Z : State) (a0 : Array Value) (hw : ∀ d ∈ tables_1, d.before a0 Z = true) (ws : List Jvm.Cond) (p0 : Int32) (p1 : Int32) (o2 : Addr) (h0 : Heap) (n0 : Nat) (Z0 : n0 ≤ h0.size) (hA : ¬ p0 < (0 : Int32)) (hB : p0 < p1) :
    MetFree l (⟨"jdk/internal/util/Preconditions", "checkIndex", "(IILjava/util/function/BiFunction;)I"⟩ : MethodName) (head1 (Jvm.Cond.code (⟨"jdk/internal/util/Preconditions", "checkIndex", "(IILjava/util/function/BiFunction;)I"⟩ : MethodName) jdk_41_method_11_code 3 (some .int) :: ws) ({ frames := 0, cells := 0, slots := 0, locals := 0 } : Room)) (fun a U => a = #[(.int p0), (.int p1), (.ref o2)] ∧ Z.Warmed39 U.vm ∧ U.heap = h0) (fun _ _ _ _ _ => True) (fun _ U o U' => ∃ v L, o = .returned v ∧ Q39 Z p0 p1 o2 h0 n0 v U'.heap L ∧ FrameEnd U o U' L ({ frames := 0, cells := 0, slots := 0, locals := 0 } : Room).cells ({ frames := 0, cells := 0, slots := 0, locals := 0 } : Room).slots) := by
  refine MetFree.of_bodySF (plainFor_of_name pn_39) hisR ?_
  intro p e s m args below meth c s₁ Bd hml0 hP hK
  obtain ⟨rfl, hZ, hh⟩ := hP
  have hx := Bd.exec
  have hby := Bd.bytes
  have hml : c.maxLocals = 3 := hml0
  have hown : s.vm.findClass "jdk/internal/util/Preconditions" = some m.cls := findClass_of_methodNamed Bd.named
  have hnm := (name_of_methodNamed Bd.named Bd.method).1
  have X0 : Stand p l e ({ frames := 0, cells := 0, slots := 0, locals := 0 } : Room) s m #[(.int p0), (.int p1), (.ref o2)] below meth c s₁ [] 0 0 := Stand.of_body Bd
  have e0 : s₁.heap = h0 := by rw [← hh, Bd.state]; rfl
  have N0 := Fr.nil n0
  obtain ⟨P, pre0, fin⟩ : ∃ P : State → Prop, (∀ t, Steps p.tables e below (s₁.setTop (mkF m 0 #[.val (.int p0), .val (.int p1), .val (.ref o2)] [])) t → P t) ∧ (∀ t, P t → Steps p.tables e below (s₁.setTop (entryFrame m #[(.int p0), (.int p1), (.ref o2)] 3)) t) := ⟨fun t => Steps p.tables e below (s₁.setTop (entryFrame m #[(.int p0), (.int p1), (.ref o2)] 3)) t, fun t k => castTop (ef_39 m p0 p1 o2) k, fun t k => k⟩
  have K0 : Keep h0 h0 [] := Keep.refl _ _
  have pre1 : ∀ t, Steps p.tables e below (s₁.setTop (mkF m 17 #[.val (.int p0), .val (.int p1), .val (.ref o2)] [(.int p0)])) t → P t := fun t k => pre0 t (by
      refine XS.iloadN X0.here hx rfl (hb hby d39_0) rfl ?_
      refine XS.ifNo X0.here hx rfl (hb hby d39_1) rfl ((if0 _ _).trans (flt (show ¬ (p0 < (0 : Int32)) from hA)).1) ?_
      refine XS.iloadN X0.here hx rfl (hb hby d39_4) rfl ?_
      refine XS.iloadN X0.here hx rfl (hb hby d39_5) rfl ?_
      refine XS.icmpYes X0.here hx rfl (pc0 := 6) (pc' := 16) rfl (hb hby d39_6) rfl (tlt (show p0 < p1 from hB)).1 (by decide) (by decide) ?_
      refine XS.iloadN X0.here hx rfl (hb hby d39_16) rfl ?_
      exact k)
  obtain ⟨fs, hr, hrun, hended, hW, hsame⟩ := X0.leave (v := some (.int p0)) (fun h => by rw [Bd.returns] at h; cases h)
  refine ⟨_, _, fin _ (pre1 _ ?_), hrun, hended, _, _, rfl, ?_, ⟨_, rfl⟩, hW, hsame.mono (by decide) (by decide)⟩
  · show Steps p.tables e below (s₁.setTop (mkF m 17 #[.val (.int p0), .val (.int p1), .val (.ref o2)] [(.int p0)])) _
    exact retI X0 hx Bd.returns (hb hby d39_17) hr
  · show Q39 Z p0 p1 o2 h0 n0 _ s₁.heap _
    rw [e0]
    exact ⟨rfl, N0, rfl⟩
theorem ef_39n (m : MethodId) (p0 : Int32) (p1 : Int32) : entryFrame m #[(.int p0), (.int p1), .null] 3 = mkF m 0 #[.val (.int p0), .val (.int p1), .val .null] [] := by first | (simp [entryFrame, mkF, argsToLocals, Value.category]; done) | rfl
def Q39n (Z : State) (p0 : Int32) (p1 : Int32) (h0 : Heap) (n0 : Nat) (v : Option Value) (h : Heap) (L : List Loc) : Prop := v = some (.int p0) ∧ Fr n0 L ∧ h = h0
set_option maxRecDepth 65536 in
set_option maxHeartbeats 40000000 in
theorem rm39n (l : Launch) (Z : State) (a0 : Array Value) (hw : ∀ d ∈ tables_1, d.before a0 Z = true) (ws : List Jvm.Cond) (p0 : Int32) (p1 : Int32) (h0 : Heap) (n0 : Nat) (Z0 : n0 ≤ h0.size) (hA : ¬ p0 < (0 : Int32)) (hB : p0 < p1) :
    MetFree l (⟨"jdk/internal/util/Preconditions", "checkIndex", "(IILjava/util/function/BiFunction;)I"⟩ : MethodName) (head1 (Jvm.Cond.code (⟨"jdk/internal/util/Preconditions", "checkIndex", "(IILjava/util/function/BiFunction;)I"⟩ : MethodName) jdk_41_method_11_code 3 (some .int) :: ws) ({ frames := 0, cells := 0, slots := 0, locals := 0 } : Room)) (fun a U => a = #[(.int p0), (.int p1), .null] ∧ Z.Warmed39 U.vm ∧ U.heap = h0) (fun _ _ _ _ _ => True) (fun _ U o U' => ∃ v L, o = .returned v ∧ Q39n Z p0 p1 h0 n0 v U'.heap L ∧ FrameEnd U o U' L ({ frames := 0, cells := 0, slots := 0, locals := 0 } : Room).cells ({ frames := 0, cells := 0, slots := 0, locals := 0 } : Room).slots) := by
  refine MetFree.of_bodySF (plainFor_of_name pn_39) hisR ?_
  intro p e s m args below meth c s₁ Bd hml0 hP hK
  obtain ⟨rfl, hZ, hh⟩ := hP
  have hx := Bd.exec
  have hby := Bd.bytes
  have hml : c.maxLocals = 3 := hml0
  have hown : s.vm.findClass "jdk/internal/util/Preconditions" = some m.cls := findClass_of_methodNamed Bd.named
  have hnm := (name_of_methodNamed Bd.named Bd.method).1
  have X0 : Stand p l e ({ frames := 0, cells := 0, slots := 0, locals := 0 } : Room) s m #[(.int p0), (.int p1), .null] below meth c s₁ [] 0 0 := Stand.of_body Bd
  have e0 : s₁.heap = h0 := by rw [← hh, Bd.state]; rfl
  have N0 := Fr.nil n0
  obtain ⟨P, pre0, fin⟩ : ∃ P : State → Prop, (∀ t, Steps p.tables e below (s₁.setTop (mkF m 0 #[.val (.int p0), .val (.int p1), .val .null] [])) t → P t) ∧ (∀ t, P t → Steps p.tables e below (s₁.setTop (entryFrame m #[(.int p0), (.int p1), .null] 3)) t) := ⟨fun t => Steps p.tables e below (s₁.setTop (entryFrame m #[(.int p0), (.int p1), .null] 3)) t, fun t k => castTop (ef_39n m p0 p1) k, fun t k => k⟩
  have K0 : Keep h0 h0 [] := Keep.refl _ _
  have pre1 : ∀ t, Steps p.tables e below (s₁.setTop (mkF m 17 #[.val (.int p0), .val (.int p1), .val .null] [(.int p0)])) t → P t := fun t k => pre0 t (by
      refine XS.iloadN X0.here hx rfl (hb hby d39_0) rfl ?_
      refine XS.ifNo X0.here hx rfl (hb hby d39_1) rfl ((if0 _ _).trans (flt (show ¬ (p0 < (0 : Int32)) from hA)).1) ?_
      refine XS.iloadN X0.here hx rfl (hb hby d39_4) rfl ?_
      refine XS.iloadN X0.here hx rfl (hb hby d39_5) rfl ?_
      refine XS.icmpYes X0.here hx rfl (pc0 := 6) (pc' := 16) rfl (hb hby d39_6) rfl (tlt (show p0 < p1 from hB)).1 (by decide) (by decide) ?_
      refine XS.iloadN X0.here hx rfl (hb hby d39_16) rfl ?_
      exact k)
  obtain ⟨fs, hr, hrun, hended, hW, hsame⟩ := X0.leave (v := some (.int p0)) (fun h => by rw [Bd.returns] at h; cases h)
  refine ⟨_, _, fin _ (pre1 _ ?_), hrun, hended, _, _, rfl, ?_, ⟨_, rfl⟩, hW, hsame.mono (by decide) (by decide)⟩
  · show Steps p.tables e below (s₁.setTop (mkF m 17 #[.val (.int p0), .val (.int p1), .val .null] [(.int p0)])) _
    exact retI X0 hx Bd.returns (hb hby d39_17) hr
  · show Q39n Z p0 p1 h0 n0 _ s₁.heap _
    rw [e0]
    exact ⟨rfl, N0, rfl⟩
theorem own_pd24 : parseMethodDescriptor "(IILjava/util/function/BiFunction;)I" = some ⟨[.int, .int, (.object "java/util/function/BiFunction")], some .int⟩ := by decide +kernel
theorem d38_0 : decode jdk_42_method_155_code 0 = .ok (.iload_n 0, 1) := by decide +kernel
theorem d38_1 : decode jdk_42_method_155_code 1 = .ok (.iload_n 1, 1) := by decide +kernel
theorem d38_2 : decode jdk_42_method_155_code 2 = .ok (.getstatic 1053, 3) := by decide +kernel
theorem d38_5 : decode jdk_42_method_155_code 5 = .ok (.invokestatic 1059, 3) := by decide +kernel
theorem d38_8 : decode jdk_42_method_155_code 8 = .ok (.pop, 1) := by decide +kernel
theorem d38_9 : decode jdk_42_method_155_code 9 = .ok (.return_, 1) := by decide +kernel
theorem pn_38 : plainName "java/lang/String" = true := by first | (simp [plainName, overriddenIn]; done) | decide +kernel
theorem ef_38 (m : MethodId) (p0 : Int32) (p1 : Int32) : entryFrame m #[(.int p0), (.int p1)] 2 = mkF m 0 #[.val (.int p0), .val (.int p1)] [] := by first | (simp [entryFrame, mkF, argsToLocals, Value.category]; done) | rfl
def Q38 (Z : State) (p0 : Int32) (p1 : Int32) (h0 : Heap) (n0 : Nat) (v : Option Value) (h : Heap) (L : List Loc) : Prop := v = none ∧ Fr n0 L ∧ h = h0
set_option maxRecDepth 65536 in
set_option maxHeartbeats 40000000 in
theorem rm38 (l : Launch) (Z : State) (a0 : Array Value) (hw : ∀ d ∈ tables_1, d.before a0 Z = true) (ws : List Jvm.Cond) (p0 : Int32) (p1 : Int32) (h0 : Heap) (n0 : Nat) (Z0 : n0 ≤ h0.size) (OLD0 : Old Z n0 h0) (HC : own_CC Z) (hA : ¬ p0 < (0 : Int32)) (hB : p0 < p1) :
    MetFree l (⟨"java/lang/String", "checkIndex", "(II)V"⟩ : MethodName) (head1 (Jvm.Cond.code (⟨"java/lang/String", "checkIndex", "(II)V"⟩ : MethodName) jdk_42_method_155_code 2 none :: ws) ({ frames := 1, cells := 0, slots := 0, locals := 14 } : Room)) (fun a U => a = #[(.int p0), (.int p1)] ∧ Z.Warmed39 U.vm ∧ U.heap = h0) (fun _ _ _ _ _ => True) (fun _ U o U' => ∃ v L, o = .returned v ∧ Q38 Z p0 p1 h0 n0 v U'.heap L ∧ FrameEnd U o U' L ({ frames := 1, cells := 0, slots := 0, locals := 14 } : Room).cells ({ frames := 1, cells := 0, slots := 0, locals := 14 } : Room).slots) := by
  refine MetFree.of_bodySF (plainFor_of_name pn_38) hisR ?_
  intro p e s m args below meth c s₁ Bd hml0 hP hK
  obtain ⟨rfl, hZ, hh⟩ := hP
  have hx := Bd.exec
  have hby := Bd.bytes
  have hml : c.maxLocals = 2 := hml0
  have hown : s.vm.findClass "java/lang/String" = some m.cls := findClass_of_methodNamed Bd.named
  have hnm := (name_of_methodNamed Bd.named Bd.method).1
  have X0 : Stand p l e ({ frames := 1, cells := 0, slots := 0, locals := 14 } : Room) s m #[(.int p0), (.int p1)] below meth c s₁ [] 0 0 := Stand.of_body Bd
  have e0 : s₁.heap = h0 := by rw [← hh, Bd.state]; rfl
  have N0 := Fr.nil n0
  obtain ⟨P, pre0, fin⟩ : ∃ P : State → Prop, (∀ t, Steps p.tables e below (s₁.setTop (mkF m 0 #[.val (.int p0), .val (.int p1)] [])) t → P t) ∧ (∀ t, P t → Steps p.tables e below (s₁.setTop (entryFrame m #[(.int p0), (.int p1)] 2)) t) := ⟨fun t => Steps p.tables e below (s₁.setTop (entryFrame m #[(.int p0), (.int p1)] 2)) t, fun t k => castTop (ef_38 m p0 p1) k, fun t k => k⟩
  have K0 : Keep h0 h0 [] := Keep.refl _ _
  obtain ⟨cs, fm, d1, d2, k1, k2, hcs, hSc, hSf, hS1, hS2, hD1, hD2, hfm⟩ := id HC
  by_cases hc1 : fm = Value.null
  · subst hc1
    have pre2 : ∀ t, Steps p.tables e below (s₁.setTop (mkF m 2 #[.val (.int p0), .val (.int p1)] [(.int p1), (.int p0)])) t → P t := fun t k => pre0 t (by
        refine XS.iloadN X0.here hx rfl (hb hby d38_0) rfl ?_
        refine XS.iloadN X0.here hx rfl (hb hby d38_1) rfl ?_
        exact k)
    obtain ⟨T3, X3, e3, st3⟩ := getS2 X0 hx hZ hown (host := "") (Or.inl (hi hw 215 rfl)) Via.refl e0 (hSf.ext OLD0.2) (g := (mkF m 2 #[.val (.int p0), .val (.int p1)] [(.int p1), (.int p0)])) rfl (hb hby d38_2)
    have pre3 : ∀ t, Steps p.tables e below (T3.setTop (mkF m 5 #[.val (.int p0), .val (.int p1)] [.null, (.int p1), (.int p0)])) t → P t := fun t k => pre2 t (st3 _ k)
    obtain ⟨_, _, ⟨T4, L4, k4, n4⟩, -, X4, ⟨Lc4, hQ4, l4, y4, z4⟩, st4⟩ := Jvm.LawKit.callS X3 hx (y := (⟨"jdk/internal/util/Preconditions", "checkIndex", "(IILjava/util/function/BiFunction;)I"⟩ : MethodName)) hown (mvT hZ (hi hw 217 rfl)) (mvT hZ (hi hw 218 rfl)) (mvT hZ (hi hw 216 rfl)) (mvT hZ (hi hw 219 rfl)) (by decide) (backOf (W := 0) (rm39n l Z a0 hw [] p0 p1 h0 n0 Z0 hA hB) hZ (hi hw 219 rfl) (hi hw 216 rfl) (by decide) (by decide)) (g := (mkF m 5 #[.val (.int p0), .val (.int p1)] [.null, (.int p1), (.int p0)])) rfl (by rw [hml]; rfl) (argsL := [(.int p0), (.int p1), .null]) (rest := []) (lenOf own_pd24 rfl) rfl (by show 2 * 0 + _ ≤ _; exact Nat.le_of_eq rfl) (hb hby d38_5) (fun _ _ => ⟨rfl, e3, (by decide : 0 + 0 ≤ _), (by decide : 0 + 0 ≤ _)⟩)
    dsimp only [Pt.U, Pt.locs, Pt.cells, Pt.slots] at X4 l4 y4 z4 st4 hQ4
    subst l4 y4 z4
    obtain ⟨rfl, N4q, e4⟩ := hQ4
    have N4 := Fr.app N0 N4q
    have pre4 : ∀ t, Steps p.tables e below (T4.setTop (mkF m 8 #[.val (.int p0), .val (.int p1)] [(.int p0)])) t → P t := fun t k => pre3 t (st4 _ k)
    have pre5 : ∀ t, Steps p.tables e below (T4.setTop (mkF m 9 #[.val (.int p0), .val (.int p1)] [])) t → P t := fun t k => pre4 t (by
        refine XS.pop X4.here hx rfl (hb hby d38_8) rfl rfl ?_
        exact k)
    obtain ⟨fs, hr, hrun, hended, hW, hsame⟩ := X4.leave (v := none) (fun _ => rfl)
    refine ⟨_, _, fin _ (pre5 _ ?_), hrun, hended, _, _, rfl, ?_, ⟨_, rfl⟩, hW, hsame.mono (by decide) (by decide)⟩
    · show Steps p.tables e below (T4.setTop (mkF m 9 #[.val (.int p0), .val (.int p1)] [])) _
      exact X4.returnOut hx Bd.returns (hb hby d38_9) hr
    · show Q38 Z p0 p1 h0 n0 _ T4.heap _
      rw [e4]
      exact ⟨rfl, N4, rfl⟩
  · obtain ⟨fa, rfl⟩ := hfm.resolve_left hc1
    have pre6 : ∀ t, Steps p.tables e below (s₁.setTop (mkF m 2 #[.val (.int p0), .val (.int p1)] [(.int p1), (.int p0)])) t → P t := fun t k => pre0 t (by
        refine XS.iloadN X0.here hx rfl (hb hby d38_0) rfl ?_
        refine XS.iloadN X0.here hx rfl (hb hby d38_1) rfl ?_
        exact k)
    obtain ⟨T7, X7, e7, st7⟩ := getS2 X0 hx hZ hown (host := "") (Or.inl (hi hw 215 rfl)) Via.refl e0 (hSf.ext OLD0.2) (g := (mkF m 2 #[.val (.int p0), .val (.int p1)] [(.int p1), (.int p0)])) rfl (hb hby d38_2)
    have pre7 : ∀ t, Steps p.tables e below (T7.setTop (mkF m 5 #[.val (.int p0), .val (.int p1)] [(.ref fa), (.int p1), (.int p0)])) t → P t := fun t k => pre6 t (st7 _ k)
    obtain ⟨_, _, ⟨T8, L8, k8, n8⟩, -, X8, ⟨Lc8, hQ8, l8, y8, z8⟩, st8⟩ := Jvm.LawKit.callS X7 hx (y := (⟨"jdk/internal/util/Preconditions", "checkIndex", "(IILjava/util/function/BiFunction;)I"⟩ : MethodName)) hown (mvT hZ (hi hw 217 rfl)) (mvT hZ (hi hw 218 rfl)) (mvT hZ (hi hw 216 rfl)) (mvT hZ (hi hw 219 rfl)) (by decide) (backOf (W := 0) (rm39 l Z a0 hw [] p0 p1 fa h0 n0 Z0 hA hB) hZ (hi hw 219 rfl) (hi hw 216 rfl) (by decide) (by decide)) (g := (mkF m 5 #[.val (.int p0), .val (.int p1)] [(.ref fa), (.int p1), (.int p0)])) rfl (by rw [hml]; rfl) (argsL := [(.int p0), (.int p1), (.ref fa)]) (rest := []) (lenOf own_pd24 rfl) rfl (by show 2 * 0 + _ ≤ _; exact Nat.le_of_eq rfl) (hb hby d38_5) (fun _ _ => ⟨rfl, e7, (by decide : 0 + 0 ≤ _), (by decide : 0 + 0 ≤ _)⟩)
    dsimp only [Pt.U, Pt.locs, Pt.cells, Pt.slots] at X8 l8 y8 z8 st8 hQ8
    subst l8 y8 z8
    obtain ⟨rfl, N8q, e8⟩ := hQ8
    have N8 := Fr.app N0 N8q
    have pre8 : ∀ t, Steps p.tables e below (T8.setTop (mkF m 8 #[.val (.int p0), .val (.int p1)] [(.int p0)])) t → P t := fun t k => pre7 t (st8 _ k)
    have pre9 : ∀ t, Steps p.tables e below (T8.setTop (mkF m 9 #[.val (.int p0), .val (.int p1)] [])) t → P t := fun t k => pre8 t (by
        refine XS.pop X8.here hx rfl (hb hby d38_8) rfl rfl ?_
        exact k)
    obtain ⟨fs, hr, hrun, hended, hW, hsame⟩ := X8.leave (v := none) (fun _ => rfl)
    refine ⟨_, _, fin _ (pre9 _ ?_), hrun, hended, _, _, rfl, ?_, ⟨_, rfl⟩, hW, hsame.mono (by decide) (by decide)⟩
    · show Steps p.tables e below (T8.setTop (mkF m 9 #[.val (.int p0), .val (.int p1)] [])) _
      exact X8.returnOut hx Bd.returns (hb hby d38_9) hr
    · show Q38 Z p0 p1 h0 n0 _ T8.heap _
      rw [e8]
      exact ⟨rfl, N8, rfl⟩
theorem d37_0 : decode jdk_43_method_2_code 0 = .ok (.iload_n 1, 1) := by decide +kernel
theorem d37_1 : decode jdk_43_method_2_code 1 = .ok (.aload_n 0, 1) := by decide +kernel
theorem d37_2 : decode jdk_43_method_2_code 2 = .ok (.arraylength, 1) := by decide +kernel
theorem d37_3 : decode jdk_43_method_2_code 3 = .ok (.invokestatic 9, 3) := by decide +kernel
theorem d37_6 : decode jdk_43_method_2_code 6 = .ok (.aload_n 0, 1) := by decide +kernel
theorem d37_7 : decode jdk_43_method_2_code 7 = .ok (.iload_n 1, 1) := by decide +kernel
theorem d37_8 : decode jdk_43_method_2_code 8 = .ok (.baload, 1) := by decide +kernel
theorem d37_9 : decode jdk_43_method_2_code 9 = .ok (.sipush 255, 3) := by decide +kernel
theorem d37_12 : decode jdk_43_method_2_code 12 = .ok (.iand, 1) := by decide +kernel
theorem d37_13 : decode jdk_43_method_2_code 13 = .ok (.i2c, 1) := by decide +kernel
theorem d37_14 : decode jdk_43_method_2_code 14 = .ok (.ireturn, 1) := by decide +kernel
theorem pn_37 : plainName "java/lang/StringLatin1" = true := by first | (simp [plainName, overriddenIn]; done) | decide +kernel
theorem ef_37 (m : MethodId) (bv : Addr) (p1 : Int32) : entryFrame m #[(.ref bv), (.int p1)] 2 = mkF m 0 #[.val (.ref bv), .val (.int p1)] [] := by first | (simp [entryFrame, mkF, argsToLocals, Value.category]; done) | rfl
def Q37 (Z : State) (bv : Addr) (p1 : Int32) (kv : ClassId) (zv : Int32) (vs : List Int32) (h0 : Heap) (n0 : Nat) (v : Option Value) (h : Heap) (L : List Loc) : Prop := v = some (.int (own_ca vs p1)) ∧ Fr n0 L ∧ h = h0
set_option maxRecDepth 65536 in
set_option maxHeartbeats 40000000 in
theorem rm37 (l : Launch) (Z : State) (a0 : Array Value) (hw : ∀ d ∈ tables_1, d.before a0 Z = true) (ws : List Jvm.Cond) (bv : Addr) (p1 : Int32) (kv : ClassId) (zv : Int32) (vs : List Int32) (h0 : Heap) (n0 : Nat) (Z0 : n0 ≤ h0.size) (OLD0 : Old Z n0 h0) (Pr_0 : Arv Z h0 bv kv .byte zv (own_v vs) (.int 0)) (HC : own_CC Z) (hA : ¬ p1 < (0 : Int32)) (hB : p1 < zv) :
    MetFree l (⟨"java/lang/StringLatin1", "charAt", "([BI)C"⟩ : MethodName) (head1 (Jvm.Cond.code (⟨"java/lang/StringLatin1", "charAt", "([BI)C"⟩ : MethodName) jdk_43_method_2_code 2 (some .char) :: ws) ({ frames := 2, cells := 0, slots := 0, locals := 27 } : Room)) (fun a U => a = #[(.ref bv), (.int p1)] ∧ Z.Warmed39 U.vm ∧ U.heap = h0) (fun _ _ _ _ _ => True) (fun _ U o U' => ∃ v L, o = .returned v ∧ Q37 Z bv p1 kv zv vs h0 n0 v U'.heap L ∧ FrameEnd U o U' L ({ frames := 2, cells := 0, slots := 0, locals := 27 } : Room).cells ({ frames := 2, cells := 0, slots := 0, locals := 27 } : Room).slots) := by
  refine MetFree.of_bodySF (plainFor_of_name pn_37) hisR ?_
  intro p e s m args below meth c s₁ Bd hml0 hP hK
  obtain ⟨rfl, hZ, hh⟩ := hP
  have hx := Bd.exec
  have hby := Bd.bytes
  have hml : c.maxLocals = 2 := hml0
  have hown : s.vm.findClass "java/lang/StringLatin1" = some m.cls := findClass_of_methodNamed Bd.named
  have hnm := (name_of_methodNamed Bd.named Bd.method).1
  have X0 : Stand p l e ({ frames := 2, cells := 0, slots := 0, locals := 27 } : Room) s m #[(.ref bv), (.int p1)] below meth c s₁ [] 0 0 := Stand.of_body Bd
  have e0 : s₁.heap = h0 := by rw [← hh, Bd.state]; rfl
  have N0 := Fr.nil n0
  obtain ⟨P, pre0, fin⟩ : ∃ P : State → Prop, (∀ t, Steps p.tables e below (s₁.setTop (mkF m 0 #[.val (.ref bv), .val (.int p1)] [])) t → P t) ∧ (∀ t, P t → Steps p.tables e below (s₁.setTop (entryFrame m #[(.ref bv), (.int p1)] 2)) t) := ⟨fun t => Steps p.tables e below (s₁.setTop (entryFrame m #[(.ref bv), (.int p1)] 2)) t, fun t k => castTop (ef_37 m bv p1) k, fun t k => k⟩
  have K0 : Keep h0 h0 [] := Keep.refl _ _
  have pre1 : ∀ t, Steps p.tables e below (s₁.setTop (mkF m 2 #[.val (.ref bv), .val (.int p1)] [(.ref bv), (.int p1)])) t → P t := fun t k => pre0 t (by
      refine XS.iloadN X0.here hx rfl (hb hby d37_0) rfl ?_
      refine XS.aloadN X0.here hx rfl (hb hby d37_1) rfl rfl ?_
      exact k)
  obtain ⟨clq2, Arq2, -, Sq2, Nq2', -, -⟩ := id Pr_0
  have pre3 : ∀ t, Steps p.tables e below (s₁.setTop (mkF m 3 #[.val (.ref bv), .val (.int p1)] [(.int zv), (.int p1)])) t → P t := fun t k => pre1 t (by
      refine X0.arraylength hx (by rw [e0]; exact Arq2.1) (State.isArrayOf_alike hZ.alike Arq2.2.1) (g := (mkF m 2 #[.val (.ref bv), .val (.int p1)] [(.ref bv), (.int p1)])) rfl rfl (hb hby d37_2) _ ?_
      rw [len_of Sq2 Nq2']
      exact k)
  obtain ⟨_, _, ⟨T4, L4, k4, n4⟩, -, X4, ⟨Lc4, hQ4, l4, y4, z4⟩, st4⟩ := Jvm.LawKit.callS X0 hx (y := (⟨"java/lang/String", "checkIndex", "(II)V"⟩ : MethodName)) hown (mvT hZ (hi hw 212 rfl)) (mvT hZ (hi hw 213 rfl)) (mvT hZ (hi hw 36 rfl)) (mvT hZ (hi hw 214 rfl)) (by decide) (backOf (W := 0) (rm38 l Z a0 hw [] p1 zv h0 n0 Z0 OLD0 HC hA hB) hZ (hi hw 214 rfl) (hi hw 36 rfl) (by decide) (by decide)) (g := (mkF m 3 #[.val (.ref bv), .val (.int p1)] [(.int zv), (.int p1)])) rfl (by rw [hml]; rfl) (argsL := [(.int p1), (.int zv)]) (rest := []) (lenOf own_pd15 rfl) rfl (by show 2 * 0 + _ ≤ _; exact Nat.le_of_eq rfl) (hb hby d37_3) (fun _ _ => ⟨rfl, e0, (by decide : 0 + 0 ≤ _), (by decide : 0 + 0 ≤ _)⟩)
  dsimp only [Pt.U, Pt.locs, Pt.cells, Pt.slots] at X4 l4 y4 z4 st4 hQ4
  subst l4 y4 z4
  obtain ⟨rfl, N4q, e4⟩ := hQ4
  have N4 := Fr.app N0 N4q
  have pre4 : ∀ t, Steps p.tables e below (T4.setTop (mkF m 6 #[.val (.ref bv), .val (.int p1)] [])) t → P t := fun t k => pre3 t (st4 _ k)
  have pre5 : ∀ t, Steps p.tables e below (T4.setTop (mkF m 8 #[.val (.ref bv), .val (.int p1)] [(.int p1), (.ref bv)])) t → P t := fun t k => pre4 t (by
      refine XS.aloadN X4.here hx rfl (hb hby d37_6) rfl rfl ?_
      refine XS.iloadN X4.here hx rfl (hb hby d37_7) rfl ?_
      exact k)
  obtain ⟨clq6, Arq6, qq6, Sq6, Nq6', Hq6, Gq6⟩ := id Pr_0
  have iq6 : ¬ (p1 < 0 ∨ clq6.slots.size ≤ (p1).toNatClampNeg) := inb_of Sq6 ⟨hA, hB⟩
  have pre7 : ∀ t, Steps p.tables e below (T4.setTop (mkF m 14 #[.val (.ref bv), .val (.int p1)] [(.int (((vs.getD (p1).toNatClampNeg 0) &&& (255 : Int32)).toUInt32.toUInt16.toUInt32.toInt32))])) t → P t := fun t k => pre5 t (by
      refine X4.baloadBytes hx (j := p1) (v := (.int (vs.getD (p1).toNatClampNeg 0))) (by rw [e4]; exact Arq6.1) (State.isArrayOf_alike hZ.alike Arq6.2.1) Arq6.2.2 iq6 (Hq6.at iq6 (own_vget _ _)) (g := (mkF m 8 #[.val (.ref bv), .val (.int p1)] [(.int p1), (.ref bv)])) rfl rfl (hb hby d37_8) _ ?_
      refine XS.sipush X4.here hx rfl (hb hby d37_9) ?_
      refine XS.iand X4.here hx rfl (hb hby d37_12) rfl ?_
      refine XS.i2c X4.here hx rfl (hb hby d37_13) rfl ?_
      exact k)
  obtain ⟨fs, hr, hrun, hended, hW, hsame⟩ := X4.leave (v := some (.int (((vs.getD (p1).toNatClampNeg 0) &&& (255 : Int32)).toUInt32.toUInt16.toUInt32.toInt32))) (fun h => by rw [Bd.returns] at h; cases h)
  refine ⟨_, _, fin _ (pre7 _ ?_), hrun, hended, _, _, rfl, ?_, ⟨_, rfl⟩, hW, hsame.mono (by decide) (by decide)⟩
  · show Steps p.tables e below (T4.setTop (mkF m 14 #[.val (.ref bv), .val (.int p1)] [(.int (((vs.getD (p1).toNatClampNeg 0) &&& (255 : Int32)).toUInt32.toUInt16.toUInt32.toInt32))])) _
    have hnar : nar .char (((vs.getD (p1).toNatClampNeg 0) &&& (255 : Int32)).toUInt32.toUInt16.toUInt32.toInt32) = (((vs.getD (p1).toNatClampNeg 0) &&& (255 : Int32)).toUInt32.toUInt16.toUInt32.toInt32) := by exact own_nca _ _
    exact retN X4 hx (t := .char) Bd.returns (by simp) (hb hby d37_14) (by rw [hnar]; exact hr)
  · show Q37 Z bv p1 kv zv vs h0 n0 _ T4.heap _
    rw [e4]
    exact ⟨rfl, N4, rfl⟩
theorem own_pd25 : parseMethodDescriptor "([BI)C" = some ⟨[(.array .byte), .int], some .char⟩ := by decide +kernel
theorem d35_0 : decode jdk_42_method_56_code 0 = .ok (.aload_n 0, 1) := by decide +kernel
theorem d35_1 : decode jdk_42_method_56_code 1 = .ok (.invokevirtual 492, 3) := by decide +kernel
theorem d35_4 : decode jdk_42_method_56_code 4 = .ok (.ifCond .eq 12, 3) := by decide +kernel
theorem d35_7 : decode jdk_42_method_56_code 7 = .ok (.aload_n 0, 1) := by decide +kernel
theorem d35_8 : decode jdk_42_method_56_code 8 = .ok (.getfield 9, 3) := by decide +kernel
theorem d35_11 : decode jdk_42_method_56_code 11 = .ok (.iload_n 1, 1) := by decide +kernel
theorem d35_12 : decode jdk_42_method_56_code 12 = .ok (.invokestatic 495, 3) := by decide +kernel
theorem d35_15 : decode jdk_42_method_56_code 15 = .ok (.ireturn, 1) := by decide +kernel
theorem pn_35 : plainName "java/lang/String" = true := by first | (simp [plainName, overriddenIn]; done) | decide +kernel
theorem ef_35 (m : MethodId) (o0 : Addr) (p1 : Int32) : entryFrame m #[(.ref o0), (.int p1)] 2 = mkF m 0 #[.val (.ref o0), .val (.int p1)] [] := by first | (simp [entryFrame, mkF, argsToLocals, Value.category]; done) | rfl
def Q35 (Z : State) (o0 : Addr) (p1 : Int32) (bv : Addr) (kv : ClassId) (zv : Int32) (vs : List Int32) (h0 : Heap) (n0 : Nat) (v : Option Value) (h : Heap) (L : List Loc) : Prop := v = some (.int (own_ca vs p1)) ∧ Fr n0 L ∧ h = h0
set_option maxRecDepth 65536 in
set_option maxHeartbeats 40000000 in
theorem rm35 (l : Launch) (Z : State) (a0 : Array Value) (hw : ∀ d ∈ tables_1, d.before a0 Z = true) (ws : List Jvm.Cond) (o0 : Addr) (p1 : Int32) (bv : Addr) (kv : ClassId) (zv : Int32) (vs : List Int32) (h0 : Heap) (n0 : Nat) (Z0 : n0 ≤ h0.size) (OLD0 : Old Z n0 h0) (Pr_0 : Exa Z h0 o0 "java/lang/String") (Pr_1 : Fld Z h0 o0 "java/lang/String" "coder" "B" (.int (0 : Int32))) (Pr_2 : Fld Z h0 o0 "java/lang/String" "value" "[B" (.ref bv)) (Pr_3 : Arv Z h0 bv kv .byte zv (own_v vs) (.int 0)) (HC : own_CC Z) (hA : ¬ p1 < (0 : Int32)) (hB : p1 < zv) :
    MetFree l (⟨"java/lang/String", "charAt", "(I)C"⟩ : MethodName) (head1 (Jvm.Cond.code (⟨"java/lang/String", "charAt", "(I)C"⟩ : MethodName) jdk_42_method_56_code 2 (some .char) :: ws) ({ frames := 3, cells := 0, slots := 0, locals := 40 } : Room)) (fun a U => a = #[(.ref o0), (.int p1)] ∧ Z.Warmed39 U.vm ∧ U.heap = h0) (fun _ _ _ _ _ => True) (fun _ U o U' => ∃ v L, o = .returned v ∧ Q35 Z o0 p1 bv kv zv vs h0 n0 v U'.heap L ∧ FrameEnd U o U' L ({ frames := 3, cells := 0, slots := 0, locals := 40 } : Room).cells ({ frames := 3, cells := 0, slots := 0, locals := 40 } : Room).slots) := by
  refine MetFree.of_bodySF (plainFor_of_name pn_35) hisR ?_
  intro p e s m args below meth c s₁ Bd hml0 hP hK
  obtain ⟨rfl, hZ, hh⟩ := hP
  have hx := Bd.exec
  have hby := Bd.bytes
  have hml : c.maxLocals = 2 := hml0
  have hown : s.vm.findClass "java/lang/String" = some m.cls := findClass_of_methodNamed Bd.named
  have hnm := (name_of_methodNamed Bd.named Bd.method).1
  have X0 : Stand p l e ({ frames := 3, cells := 0, slots := 0, locals := 40 } : Room) s m #[(.ref o0), (.int p1)] below meth c s₁ [] 0 0 := Stand.of_body Bd
  have e0 : s₁.heap = h0 := by rw [← hh, Bd.state]; rfl
  have N0 := Fr.nil n0
  obtain ⟨P, pre0, fin⟩ : ∃ P : State → Prop, (∀ t, Steps p.tables e below (s₁.setTop (mkF m 0 #[.val (.ref o0), .val (.int p1)] [])) t → P t) ∧ (∀ t, P t → Steps p.tables e below (s₁.setTop (entryFrame m #[(.ref o0), (.int p1)] 2)) t) := ⟨fun t => Steps p.tables e below (s₁.setTop (entryFrame m #[(.ref o0), (.int p1)] 2)) t, fun t k => castTop (ef_35 m o0 p1) k, fun t k => k⟩
  have K0 : Keep h0 h0 [] := Keep.refl _ _
  have pre1 : ∀ t, Steps p.tables e below (s₁.setTop (mkF m 1 #[.val (.ref o0), .val (.int p1)] [(.ref o0)])) t → P t := fun t k => pre0 t (by
      refine XS.aloadN X0.here hx rfl (hb hby d35_0) rfl rfl ?_
      exact k)
  obtain ⟨cq2, kq2, q2a, q2b, q2c⟩ := isOf hZ e0 Pr_0
  obtain ⟨_, _, ⟨T2, L2, k2, n2⟩, -, X2, ⟨Lc2, hQ2, l2, y2, z2⟩, st2⟩ := X0.virtualBack hx (y := (⟨"java/lang/String", "isLatin1", "()Z"⟩ : MethodName)) (z := (⟨"java/lang/String", "isLatin1", "()Z"⟩ : MethodName)) hown (mvT hZ (hi hw 203 rfl)) (mvT hZ (hi hw 204 rfl)) (notFace_of_selects (args := #[]) (mvT hZ (hi hw 206 rfl))) (mvT hZ (hi hw 206 rfl)) (mvT hZ (hi hw 205 rfl)) (by decide) (backOf (W := 0) (rm36 l Z a0 hw [] o0 h0 n0 Z0 OLD0 Pr_1 HC) hZ (hi hw 207 rfl) (hi hw 36 rfl) (by decide) (by decide)) q2a q2c (g := (mkF m 1 #[.val (.ref o0), .val (.int p1)] [(.ref o0)])) rfl (by rw [hml]; rfl) (Steps.refl _) (argsL := []) (rest := []) (lenOf own_pd12 rfl) rfl (by show 2 * 0 + _ ≤ _; exact Nat.le_of_eq rfl) (hb hby d35_1) (fun _ _ => ⟨rfl, e0, (by decide : 0 + 0 ≤ _), (by decide : 0 + 0 ≤ _)⟩)
  dsimp only [Pt.U, Pt.locs, Pt.cells, Pt.slots] at X2 l2 y2 z2 st2 hQ2
  subst l2 y2 z2
  obtain ⟨rfl, N2q, e2⟩ := hQ2
  have N2 := Fr.app N0 N2q
  have pre2 : ∀ t, Steps p.tables e below (T2.setTop (mkF m 4 #[.val (.ref o0), .val (.int p1)] [(.int (1 : Int32))])) t → P t := fun t k => pre1 t (st2.trans k)
  have pre3 : ∀ t, Steps p.tables e below (T2.setTop (mkF m 8 #[.val (.ref o0), .val (.int p1)] [(.ref o0)])) t → P t := fun t k => pre2 t (by
      refine XS.ifNo X2.here hx rfl (hb hby d35_4) rfl ((if0 _ _).trans (feq (by decide : ¬ ((1 : Int32) = (0 : Int32)))).1) ?_
      refine XS.aloadN X2.here hx rfl (hb hby d35_7) rfl rfl ?_
      exact k)
  obtain ⟨T4, X4, e4, st4⟩ := getF X2 hx hZ hown (host := "") (Or.inl (hi hw 63 rfl)) Via.refl e2 Pr_2 (g := (mkF m 8 #[.val (.ref o0), .val (.int p1)] [(.ref o0)])) rfl rfl (hb hby d35_8)
  have pre4 : ∀ t, Steps p.tables e below (T4.setTop (mkF m 11 #[.val (.ref o0), .val (.int p1)] [(.ref bv)])) t → P t := fun t k => pre3 t (st4 _ k)
  have pre5 : ∀ t, Steps p.tables e below (T4.setTop (mkF m 12 #[.val (.ref o0), .val (.int p1)] [(.int p1), (.ref bv)])) t → P t := fun t k => pre4 t (by
      refine XS.iloadN X4.here hx rfl (hb hby d35_11) rfl ?_
      exact k)
  obtain ⟨_, _, ⟨T6, L6, k6, n6⟩, -, X6, ⟨Lc6, hQ6, l6, y6, z6⟩, st6⟩ := Jvm.LawKit.callS X4 hx (y := (⟨"java/lang/StringLatin1", "charAt", "([BI)C"⟩ : MethodName)) hown (mvT hZ (hi hw 208 rfl)) (mvT hZ (hi hw 209 rfl)) (mvT hZ (hi hw 210 rfl)) (mvT hZ (hi hw 211 rfl)) (by decide) (backOf (W := 0) (rm37 l Z a0 hw [] bv p1 kv zv vs h0 n0 Z0 OLD0 Pr_3 HC hA hB) hZ (hi hw 211 rfl) (hi hw 210 rfl) (by decide) (by decide)) (g := (mkF m 12 #[.val (.ref o0), .val (.int p1)] [(.int p1), (.ref bv)])) rfl (by rw [hml]; rfl) (argsL := [(.ref bv), (.int p1)]) (rest := []) (lenOf own_pd25 rfl) rfl (by show 2 * 0 + _ ≤ _; exact Nat.le_of_eq rfl) (hb hby d35_12) (fun _ _ => ⟨rfl, e4, (by decide : 0 + 0 ≤ _), (by decide : 0 + 0 ≤ _)⟩)
  dsimp only [Pt.U, Pt.locs, Pt.cells, Pt.slots] at X6 l6 y6 z6 st6 hQ6
  subst l6 y6 z6
  obtain ⟨rfl, N6q, e6⟩ := hQ6
  have N6 := Fr.app N2 N6q
  have pre6 : ∀ t, Steps p.tables e below (T6.setTop (mkF m 15 #[.val (.ref o0), .val (.int p1)] [(.int (own_ca vs p1))])) t → P t := fun t k => pre5 t (st6 _ k)
  obtain ⟨fs, hr, hrun, hended, hW, hsame⟩ := X6.leave (v := some (.int (own_ca vs p1))) (fun h => by rw [Bd.returns] at h; cases h)
  refine ⟨_, _, fin _ (pre6 _ ?_), hrun, hended, _, _, rfl, ?_, ⟨_, rfl⟩, hW, hsame.mono (by decide) (by decide)⟩
  · show Steps p.tables e below (T6.setTop (mkF m 15 #[.val (.ref o0), .val (.int p1)] [(.int (own_ca vs p1))])) _
    have hnar : nar .char (own_ca vs p1) = (own_ca vs p1) := by exact own_nca _ _
    exact retN X6 hx (t := .char) Bd.returns (by simp) (hb hby d35_15) (by rw [hnar]; exact hr)
  · show Q35 Z o0 p1 bv kv zv vs h0 n0 _ T6.heap _
    rw [e6]
    exact ⟨rfl, N6, rfl⟩
theorem own_pd26 : parseMethodDescriptor "(I)C" = some ⟨[.int], some .char⟩ := by decide +kernel
theorem d34_0 : decode method_4_code 0 = .ok (.iload_n 3, 1) := by decide +kernel
theorem d34_1 : decode method_4_code 1 = .ok (.aload_n 2, 1) := by decide +kernel
theorem d34_2 : decode method_4_code 2 = .ok (.invokevirtual 34, 3) := by decide +kernel
theorem d34_5 : decode method_4_code 5 = .ok (.if_icmp .lt 5, 3) := by decide +kernel
theorem d34_8 : decode method_4_code 8 = .ok (.iconst 1, 1) := by decide +kernel
theorem d34_9 : decode method_4_code 9 = .ok (.ireturn, 1) := by decide +kernel
theorem d34_10 : decode method_4_code 10 = .ok (.iload_n 1, 1) := by decide +kernel
theorem d34_11 : decode method_4_code 11 = .ok (.iload_n 3, 1) := by decide +kernel
theorem d34_12 : decode method_4_code 12 = .ok (.iadd, 1) := by decide +kernel
theorem d34_13 : decode method_4_code 13 = .ok (.istore 4, 2) := by decide +kernel
theorem d34_15 : decode method_4_code 15 = .ok (.iload 4, 2) := by decide +kernel
theorem d34_17 : decode method_4_code 17 = .ok (.aload_n 0, 1) := by decide +kernel
theorem d34_18 : decode method_4_code 18 = .ok (.invokevirtual 34, 3) := by decide +kernel
theorem d34_21 : decode method_4_code 21 = .ok (.if_icmp .ge 21, 3) := by decide +kernel
theorem d34_24 : decode method_4_code 24 = .ok (.aload_n 0, 1) := by decide +kernel
theorem d34_25 : decode method_4_code 25 = .ok (.iload 4, 2) := by decide +kernel
theorem d34_27 : decode method_4_code 27 = .ok (.invokevirtual 44, 3) := by decide +kernel
theorem d34_30 : decode method_4_code 30 = .ok (.aload_n 2, 1) := by decide +kernel
theorem d34_31 : decode method_4_code 31 = .ok (.iload_n 3, 1) := by decide +kernel
theorem d34_32 : decode method_4_code 32 = .ok (.invokevirtual 44, 3) := by decide +kernel
theorem d34_35 : decode method_4_code 35 = .ok (.if_icmp .ne 7, 3) := by decide +kernel
theorem d34_38 : decode method_4_code 38 = .ok (.iconst 1, 1) := by decide +kernel
theorem d34_39 : decode method_4_code 39 = .ok (.goto 4, 3) := by decide +kernel
theorem d34_43 : decode method_4_code 43 = .ok (.ireturn, 1) := by decide +kernel
theorem pn_34 : plainName "com/example/xmax/xmax/queue/QueueStatusToStringPinLaw" = true := by first | (simp [plainName, overriddenIn]; done) | decide +kernel
theorem ef_34 (m : MethodId) (o0 : Addr) (p1 : Int32) (o2 : Addr) (p3 : Int32) : entryFrame m #[(.ref o0), (.int p1), (.ref o2), (.int p3)] 5 = mkF m 0 #[.val (.ref o0), .val (.int p1), .val (.ref o2), .val (.int p3), .unset] [] := by first | (simp [entryFrame, mkF, argsToLocals, Value.category]; done) | rfl
def Q34 (Z : State) (o0 : Addr) (p1 : Int32) (o2 : Addr) (p3 : Int32) (bv : Addr) (kv : ClassId) (zv : Int32) (vs : List Int32) (bs : Addr) (ks : ClassId) (zs : Int32) (us : List Int32) (h0 : Heap) (n0 : Nat) (v : Option Value) (h : Heap) (L : List Loc) : Prop := v = some (.int (1 : Int32)) ∧ Fr n0 L ∧ h = h0
set_option maxRecDepth 65536 in
set_option maxHeartbeats 40000000 in
theorem rm34 (l : Launch) (Z : State) (a0 : Array Value) (hw : ∀ d ∈ tables_1, d.before a0 Z = true) (ws : List Jvm.Cond) (o0 : Addr) (p1 : Int32) (o2 : Addr) (p3 : Int32) (bv : Addr) (kv : ClassId) (zv : Int32) (vs : List Int32) (bs : Addr) (ks : ClassId) (zs : Int32) (us : List Int32) (h0 : Heap) (n0 : Nat) (Z0 : n0 ≤ h0.size) (OLD0 : Old Z n0 h0) (Pr_0 : Exa Z h0 o0 "java/lang/String") (Pr_1 : Fld Z h0 o0 "java/lang/String" "coder" "B" (.int (0 : Int32))) (Pr_2 : Fld Z h0 o0 "java/lang/String" "value" "[B" (.ref bv)) (Pr_3 : Arv Z h0 bv kv .byte zv (own_v vs) (.int 0)) (Pr_4 : Exa Z h0 o2 "java/lang/String") (Pr_5 : Fld Z h0 o2 "java/lang/String" "coder" "B" (.int (0 : Int32))) (Pr_6 : Fld Z h0 o2 "java/lang/String" "value" "[B" (.ref bs)) (Pr_7 : Arv Z h0 bs ks .byte zs (own_v us) (.int 0)) (HC : own_CC Z) (HH : own_ch zv vs p1 zs us p3) :
    MetFree l (⟨"com/example/xmax/xmax/queue/QueueStatusToStringPinLaw", "ch", "(Ljava/lang/String;ILjava/lang/String;I)Z"⟩ : MethodName) (head1 (Jvm.Cond.code (⟨"com/example/xmax/xmax/queue/QueueStatusToStringPinLaw", "ch", "(Ljava/lang/String;ILjava/lang/String;I)Z"⟩ : MethodName) method_4_code 5 (some .boolean) :: ws) ({ frames := 4, cells := 0, slots := 0, locals := 54 } : Room)) (fun a U => a = #[(.ref o0), (.int p1), (.ref o2), (.int p3)] ∧ Z.Warmed39 U.vm ∧ U.heap = h0) (fun _ _ _ _ _ => True) (fun _ U o U' => ∃ v L, o = .returned v ∧ Q34 Z o0 p1 o2 p3 bv kv zv vs bs ks zs us h0 n0 v U'.heap L ∧ FrameEnd U o U' L ({ frames := 4, cells := 0, slots := 0, locals := 54 } : Room).cells ({ frames := 4, cells := 0, slots := 0, locals := 54 } : Room).slots) := by
  refine MetFree.of_bodySF (plainFor_of_name pn_34) hisR ?_
  intro p e s m args below meth c s₁ Bd hml0 hP hK
  obtain ⟨rfl, hZ, hh⟩ := hP
  have hx := Bd.exec
  have hby := Bd.bytes
  have hml : c.maxLocals = 5 := hml0
  have hown : s.vm.findClass "com/example/xmax/xmax/queue/QueueStatusToStringPinLaw" = some m.cls := findClass_of_methodNamed Bd.named
  have hnm := (name_of_methodNamed Bd.named Bd.method).1
  have X0 : Stand p l e ({ frames := 4, cells := 0, slots := 0, locals := 54 } : Room) s m #[(.ref o0), (.int p1), (.ref o2), (.int p3)] below meth c s₁ [] 0 0 := Stand.of_body Bd
  have e0 : s₁.heap = h0 := by rw [← hh, Bd.state]; rfl
  have N0 := Fr.nil n0
  obtain ⟨P, pre0, fin⟩ : ∃ P : State → Prop, (∀ t, Steps p.tables e below (s₁.setTop (mkF m 0 #[.val (.ref o0), .val (.int p1), .val (.ref o2), .val (.int p3), .unset] [])) t → P t) ∧ (∀ t, P t → Steps p.tables e below (s₁.setTop (entryFrame m #[(.ref o0), (.int p1), (.ref o2), (.int p3)] 5)) t) := ⟨fun t => Steps p.tables e below (s₁.setTop (entryFrame m #[(.ref o0), (.int p1), (.ref o2), (.int p3)] 5)) t, fun t k => castTop (ef_34 m o0 p1 o2 p3) k, fun t k => k⟩
  have K0 : Keep h0 h0 [] := Keep.refl _ _
  have pre1 : ∀ t, Steps p.tables e below (s₁.setTop (mkF m 2 #[.val (.ref o0), .val (.int p1), .val (.ref o2), .val (.int p3), .unset] [(.ref o2), (.int p3)])) t → P t := fun t k => pre0 t (by
      refine XS.iloadN X0.here hx rfl (hb hby d34_0) rfl ?_
      refine XS.aloadN X0.here hx rfl (hb hby d34_1) rfl rfl ?_
      exact k)
  obtain ⟨cq2, kq2, q2a, q2b, q2c⟩ := isOf hZ e0 Pr_4
  obtain ⟨_, _, ⟨T2, L2, k2, n2⟩, -, X2, ⟨Lc2, hQ2, l2, y2, z2⟩, st2⟩ := X0.virtualBack hx (y := (⟨"java/lang/String", "length", "()I"⟩ : MethodName)) (z := (⟨"java/lang/String", "length", "()I"⟩ : MethodName)) hown (mvT hZ (hi hw 197 rfl)) (mvT hZ (hi hw 59 rfl)) (notFace_of_selects (args := #[]) (mvT hZ (hi hw 61 rfl))) (mvT hZ (hi hw 61 rfl)) (mvT hZ (hi hw 60 rfl)) (by decide) (backOf (W := 1) (rm8 l Z a0 hw [] o2 bs ks zs us h0 n0 Z0 OLD0 Pr_4 Pr_5 Pr_6 Pr_7 HC) hZ (hi hw 62 rfl) (hi hw 36 rfl) (by decide) (by decide)) q2a q2c (g := (mkF m 2 #[.val (.ref o0), .val (.int p1), .val (.ref o2), .val (.int p3), .unset] [(.ref o2), (.int p3)])) rfl (by rw [hml]; rfl) (Steps.refl _) (argsL := []) (rest := [(.int p3)]) (lenOf own_pd1 rfl) rfl (by show 2 * 0 + _ ≤ _; exact Nat.le_of_eq rfl) (hb hby d34_2) (fun _ _ => ⟨rfl, e0, (by decide : 0 + 0 ≤ _), (by decide : 0 + 0 ≤ _)⟩)
  dsimp only [Pt.U, Pt.locs, Pt.cells, Pt.slots] at X2 l2 y2 z2 st2 hQ2
  subst l2 y2 z2
  obtain ⟨rfl, N2q, e2⟩ := hQ2
  have N2 := Fr.app N0 N2q
  have pre2 : ∀ t, Steps p.tables e below (T2.setTop (mkF m 5 #[.val (.ref o0), .val (.int p1), .val (.ref o2), .val (.int p3), .unset] [(.int zs), (.int p3)])) t → P t := fun t k => pre1 t (st2.trans k)
  by_cases hc3 : p3 < zs
  · have pre4 : ∀ t, Steps p.tables e below (T2.setTop (mkF m 18 #[.val (.ref o0), .val (.int p1), .val (.ref o2), .val (.int p3), .val (.int (p1 + p3))] [(.ref o0), (.int (p1 + p3))])) t → P t := fun t k => pre2 t (by
        refine XS.icmpYes X2.here hx rfl (pc0 := 5) (pc' := 10) rfl (hb hby d34_5) rfl (tlt hc3).1 (by decide) (by decide) ?_
        refine XS.iloadN X2.here hx rfl (hb hby d34_10) rfl ?_
        refine XS.iloadN X2.here hx rfl (hb hby d34_11) rfl ?_
        refine XS.iadd X2.here hx rfl (hb hby d34_12) rfl ?_
        refine XS.istore X2.here hx rfl (hb hby d34_13) rfl (l' := #[.val (.ref o0), .val (.int p1), .val (.ref o2), .val (.int p3), .val (.int (p1 + p3))]) rfl ?_
        refine XS.iload X2.here hx rfl (hb hby d34_15) rfl ?_
        refine XS.aloadN X2.here hx rfl (hb hby d34_17) rfl rfl ?_
        exact k)
    obtain ⟨cq5, kq5, q5a, q5b, q5c⟩ := isOf hZ e2 Pr_0
    obtain ⟨_, _, ⟨T5, L5, k5, n5⟩, -, X5, ⟨Lc5, hQ5, l5, y5, z5⟩, st5⟩ := X2.virtualBack hx (y := (⟨"java/lang/String", "length", "()I"⟩ : MethodName)) (z := (⟨"java/lang/String", "length", "()I"⟩ : MethodName)) hown (mvT hZ (hi hw 197 rfl)) (mvT hZ (hi hw 59 rfl)) (notFace_of_selects (args := #[]) (mvT hZ (hi hw 61 rfl))) (mvT hZ (hi hw 61 rfl)) (mvT hZ (hi hw 60 rfl)) (by decide) (backOf (W := 1) (rm8 l Z a0 hw [] o0 bv kv zv vs h0 n0 Z0 OLD0 Pr_0 Pr_1 Pr_2 Pr_3 HC) hZ (hi hw 62 rfl) (hi hw 36 rfl) (by decide) (by decide)) q5a q5c (g := (mkF m 18 #[.val (.ref o0), .val (.int p1), .val (.ref o2), .val (.int p3), .val (.int (p1 + p3))] [(.ref o0), (.int (p1 + p3))])) rfl (by rw [hml]; rfl) (Steps.refl _) (argsL := []) (rest := [(.int (p1 + p3))]) (lenOf own_pd1 rfl) rfl (by show 2 * 0 + _ ≤ _; exact Nat.le_of_eq rfl) (hb hby d34_18) (fun _ _ => ⟨rfl, e2, (by decide : 0 + 0 ≤ _), (by decide : 0 + 0 ≤ _)⟩)
    dsimp only [Pt.U, Pt.locs, Pt.cells, Pt.slots] at X5 l5 y5 z5 st5 hQ5
    subst l5 y5 z5
    obtain ⟨rfl, N5q, e5⟩ := hQ5
    have N5 := Fr.app N2 N5q
    have pre5 : ∀ t, Steps p.tables e below (T5.setTop (mkF m 21 #[.val (.ref o0), .val (.int p1), .val (.ref o2), .val (.int p3), .val (.int (p1 + p3))] [(.int zv), (.int (p1 + p3))])) t → P t := fun t k => pre4 t (st5.trans k)
    have pre6 : ∀ t, Steps p.tables e below (T5.setTop (mkF m 27 #[.val (.ref o0), .val (.int p1), .val (.ref o2), .val (.int p3), .val (.int (p1 + p3))] [(.int (p1 + p3)), (.ref o0)])) t → P t := fun t k => pre5 t (by
        refine XS.icmpNo X5.here hx rfl (hb hby d34_21) rfl (tlt (show (p1 + p3) < zv from (own_ch1 HH hc3))).2.1 ?_
        refine XS.aloadN X5.here hx rfl (hb hby d34_24) rfl rfl ?_
        refine XS.iload X5.here hx rfl (hb hby d34_25) rfl ?_
        exact k)
    obtain ⟨cq7, kq7, q7a, q7b, q7c⟩ := isOf hZ e5 Pr_0
    obtain ⟨_, _, ⟨T7, L7, k7, n7⟩, -, X7, ⟨Lc7, hQ7, l7, y7, z7⟩, st7⟩ := X5.virtualBack hx (y := (⟨"java/lang/String", "charAt", "(I)C"⟩ : MethodName)) (z := (⟨"java/lang/String", "charAt", "(I)C"⟩ : MethodName)) hown (mvT hZ (hi hw 198 rfl)) (mvT hZ (hi hw 199 rfl)) (notFace_of_selects (args := #[]) (mvT hZ (hi hw 201 rfl))) (mvT hZ (hi hw 201 rfl)) (mvT hZ (hi hw 200 rfl)) (by decide) (backOf (W := 0) (rm35 l Z a0 hw [] o0 (p1 + p3) bv kv zv vs h0 n0 Z0 OLD0 Pr_0 Pr_1 Pr_2 Pr_3 HC (own_ch2 HH hc3) (own_ch1 HH hc3)) hZ (hi hw 202 rfl) (hi hw 36 rfl) (by decide) (by decide)) q7a q7c (g := (mkF m 27 #[.val (.ref o0), .val (.int p1), .val (.ref o2), .val (.int p3), .val (.int (p1 + p3))] [(.int (p1 + p3)), (.ref o0)])) rfl (by rw [hml]; rfl) (Steps.refl _) (argsL := [(.int (p1 + p3))]) (rest := []) (lenOf own_pd26 rfl) rfl (by show 2 * 0 + _ ≤ _; exact Nat.le_of_eq rfl) (hb hby d34_27) (fun _ _ => ⟨rfl, e5, (by decide : 0 + 0 ≤ _), (by decide : 0 + 0 ≤ _)⟩)
    dsimp only [Pt.U, Pt.locs, Pt.cells, Pt.slots] at X7 l7 y7 z7 st7 hQ7
    subst l7 y7 z7
    obtain ⟨rfl, N7q, e7⟩ := hQ7
    have N7 := Fr.app N5 N7q
    have pre7 : ∀ t, Steps p.tables e below (T7.setTop (mkF m 30 #[.val (.ref o0), .val (.int p1), .val (.ref o2), .val (.int p3), .val (.int (p1 + p3))] [(.int (own_ca vs (p1 + p3)))])) t → P t := fun t k => pre6 t (st7.trans k)
    have pre8 : ∀ t, Steps p.tables e below (T7.setTop (mkF m 32 #[.val (.ref o0), .val (.int p1), .val (.ref o2), .val (.int p3), .val (.int (p1 + p3))] [(.int p3), (.ref o2), (.int (own_ca vs (p1 + p3)))])) t → P t := fun t k => pre7 t (by
        refine XS.aloadN X7.here hx rfl (hb hby d34_30) rfl rfl ?_
        refine XS.iloadN X7.here hx rfl (hb hby d34_31) rfl ?_
        exact k)
    obtain ⟨cq9, kq9, q9a, q9b, q9c⟩ := isOf hZ e7 Pr_4
    obtain ⟨_, _, ⟨T9, L9, k9, n9⟩, -, X9, ⟨Lc9, hQ9, l9, y9, z9⟩, st9⟩ := X7.virtualBack hx (y := (⟨"java/lang/String", "charAt", "(I)C"⟩ : MethodName)) (z := (⟨"java/lang/String", "charAt", "(I)C"⟩ : MethodName)) hown (mvT hZ (hi hw 198 rfl)) (mvT hZ (hi hw 199 rfl)) (notFace_of_selects (args := #[]) (mvT hZ (hi hw 201 rfl))) (mvT hZ (hi hw 201 rfl)) (mvT hZ (hi hw 200 rfl)) (by decide) (backOf (W := 1) (rm35 l Z a0 hw [] o2 p3 bs ks zs us h0 n0 Z0 OLD0 Pr_4 Pr_5 Pr_6 Pr_7 HC (own_ch0 HH) hc3) hZ (hi hw 202 rfl) (hi hw 36 rfl) (by decide) (by decide)) q9a q9c (g := (mkF m 32 #[.val (.ref o0), .val (.int p1), .val (.ref o2), .val (.int p3), .val (.int (p1 + p3))] [(.int p3), (.ref o2), (.int (own_ca vs (p1 + p3)))])) rfl (by rw [hml]; rfl) (Steps.refl _) (argsL := [(.int p3)]) (rest := [(.int (own_ca vs (p1 + p3)))]) (lenOf own_pd26 rfl) rfl (by show 2 * 0 + _ ≤ _; exact Nat.le_of_eq rfl) (hb hby d34_32) (fun _ _ => ⟨rfl, e7, (by decide : 0 + 0 ≤ _), (by decide : 0 + 0 ≤ _)⟩)
    dsimp only [Pt.U, Pt.locs, Pt.cells, Pt.slots] at X9 l9 y9 z9 st9 hQ9
    subst l9 y9 z9
    obtain ⟨rfl, N9q, e9⟩ := hQ9
    have N9 := Fr.app N7 N9q
    have pre9 : ∀ t, Steps p.tables e below (T9.setTop (mkF m 35 #[.val (.ref o0), .val (.int p1), .val (.ref o2), .val (.int p3), .val (.int (p1 + p3))] [(.int (own_ca us p3)), (.int (own_ca vs (p1 + p3)))])) t → P t := fun t k => pre8 t (st9.trans k)
    have pre10 : ∀ t, Steps p.tables e below (T9.setTop (mkF m 43 #[.val (.ref o0), .val (.int p1), .val (.ref o2), .val (.int p3), .val (.int (p1 + p3))] [(.int (1 : Int32))])) t → P t := fun t k => pre9 t (by
        refine XS.icmpNo X9.here hx rfl (hb hby d34_35) rfl (teq (show (own_ca vs (p1 + p3)) = (own_ca us p3) from (own_ch3 HH hc3))).2 ?_
        refine XS.iconst X9.here hx rfl (hb hby d34_38) ?_
        refine XS.goto X9.here hx rfl (pc0 := 39) (pc' := 43) rfl (hb hby d34_39) (by decide) (by decide) ?_
        exact k)
    obtain ⟨fs, hr, hrun, hended, hW, hsame⟩ := X9.leave (v := some (.int (1 : Int32))) (fun h => by rw [Bd.returns] at h; cases h)
    refine ⟨_, _, fin _ (pre10 _ ?_), hrun, hended, _, _, rfl, ?_, ⟨_, rfl⟩, hW, hsame.mono (by decide) (by decide)⟩
    · show Steps p.tables e below (T9.setTop (mkF m 43 #[.val (.ref o0), .val (.int p1), .val (.ref o2), .val (.int p3), .val (.int (p1 + p3))] [(.int (1 : Int32))])) _
      exact retN X9 hx (t := .boolean) Bd.returns (by simp) (hb hby d34_43) hr
    · show Q34 Z o0 p1 o2 p3 bv kv zv vs bs ks zs us h0 n0 _ T9.heap _
      rw [e9]
      exact ⟨rfl, N9, rfl⟩
  · have pre11 : ∀ t, Steps p.tables e below (T2.setTop (mkF m 9 #[.val (.ref o0), .val (.int p1), .val (.ref o2), .val (.int p3), .unset] [(.int (1 : Int32))])) t → P t := fun t k => pre2 t (by
        refine XS.icmpNo X2.here hx rfl (hb hby d34_5) rfl (flt hc3).1 ?_
        refine XS.iconst X2.here hx rfl (hb hby d34_8) ?_
        exact k)
    obtain ⟨fs, hr, hrun, hended, hW, hsame⟩ := X2.leave (v := some (.int (1 : Int32))) (fun h => by rw [Bd.returns] at h; cases h)
    refine ⟨_, _, fin _ (pre11 _ ?_), hrun, hended, _, _, rfl, ?_, ⟨_, rfl⟩, hW, hsame.mono (by decide) (by decide)⟩
    · show Steps p.tables e below (T2.setTop (mkF m 9 #[.val (.ref o0), .val (.int p1), .val (.ref o2), .val (.int p3), .unset] [(.int (1 : Int32))])) _
      exact retN X2 hx (t := .boolean) Bd.returns (by simp) (hb hby d34_9) hr
    · show Q34 Z o0 p1 o2 p3 bv kv zv vs bs ks zs us h0 n0 _ T2.heap _
      rw [e2]
      exact ⟨rfl, N2, rfl⟩
theorem own_pd27 : parseMethodDescriptor "(Ljava/lang/String;ILjava/lang/String;I)Z" = some ⟨[(.object "java/lang/String"), .int, (.object "java/lang/String"), .int], some .boolean⟩ := by decide +kernel
theorem d33_0 : decode method_3_code 0 = .ok (.iload_n 1, 1) := by decide +kernel
theorem d33_1 : decode method_3_code 1 = .ok (.ifCond .ge 5, 3) := by decide +kernel
theorem d33_6 : decode method_3_code 6 = .ok (.aload_n 0, 1) := by decide +kernel
theorem d33_7 : decode method_3_code 7 = .ok (.iload_n 1, 1) := by decide +kernel
theorem d33_8 : decode method_3_code 8 = .ok (.aload_n 2, 1) := by decide +kernel
theorem d33_9 : decode method_3_code 9 = .ok (.iconst 0, 1) := by decide +kernel
theorem d33_10 : decode method_3_code 10 = .ok (.invokestatic 40, 3) := by decide +kernel
theorem d33_13 : decode method_3_code 13 = .ok (.ifCond .eq 90, 3) := by decide +kernel
theorem d33_16 : decode method_3_code 16 = .ok (.aload_n 0, 1) := by decide +kernel
theorem d33_17 : decode method_3_code 17 = .ok (.iload_n 1, 1) := by decide +kernel
theorem d33_18 : decode method_3_code 18 = .ok (.aload_n 2, 1) := by decide +kernel
theorem d33_19 : decode method_3_code 19 = .ok (.iconst 1, 1) := by decide +kernel
theorem d33_20 : decode method_3_code 20 = .ok (.invokestatic 40, 3) := by decide +kernel
theorem d33_23 : decode method_3_code 23 = .ok (.ifCond .eq 80, 3) := by decide +kernel
theorem d33_26 : decode method_3_code 26 = .ok (.aload_n 0, 1) := by decide +kernel
theorem d33_27 : decode method_3_code 27 = .ok (.iload_n 1, 1) := by decide +kernel
theorem d33_28 : decode method_3_code 28 = .ok (.aload_n 2, 1) := by decide +kernel
theorem d33_29 : decode method_3_code 29 = .ok (.iconst 2, 1) := by decide +kernel
theorem d33_30 : decode method_3_code 30 = .ok (.invokestatic 40, 3) := by decide +kernel
theorem d33_33 : decode method_3_code 33 = .ok (.ifCond .eq 70, 3) := by decide +kernel
theorem d33_36 : decode method_3_code 36 = .ok (.aload_n 0, 1) := by decide +kernel
theorem d33_37 : decode method_3_code 37 = .ok (.iload_n 1, 1) := by decide +kernel
theorem d33_38 : decode method_3_code 38 = .ok (.aload_n 2, 1) := by decide +kernel
theorem d33_39 : decode method_3_code 39 = .ok (.iconst 3, 1) := by decide +kernel
theorem d33_40 : decode method_3_code 40 = .ok (.invokestatic 40, 3) := by decide +kernel
theorem d33_43 : decode method_3_code 43 = .ok (.ifCond .eq 60, 3) := by decide +kernel
theorem d33_46 : decode method_3_code 46 = .ok (.aload_n 0, 1) := by decide +kernel
theorem d33_47 : decode method_3_code 47 = .ok (.iload_n 1, 1) := by decide +kernel
theorem d33_48 : decode method_3_code 48 = .ok (.aload_n 2, 1) := by decide +kernel
theorem d33_49 : decode method_3_code 49 = .ok (.iconst 4, 1) := by decide +kernel
theorem d33_50 : decode method_3_code 50 = .ok (.invokestatic 40, 3) := by decide +kernel
theorem d33_53 : decode method_3_code 53 = .ok (.ifCond .eq 50, 3) := by decide +kernel
theorem d33_56 : decode method_3_code 56 = .ok (.aload_n 0, 1) := by decide +kernel
theorem d33_57 : decode method_3_code 57 = .ok (.iload_n 1, 1) := by decide +kernel
theorem d33_58 : decode method_3_code 58 = .ok (.aload_n 2, 1) := by decide +kernel
theorem d33_59 : decode method_3_code 59 = .ok (.iconst 5, 1) := by decide +kernel
theorem d33_60 : decode method_3_code 60 = .ok (.invokestatic 40, 3) := by decide +kernel
theorem d33_63 : decode method_3_code 63 = .ok (.ifCond .eq 40, 3) := by decide +kernel
theorem d33_66 : decode method_3_code 66 = .ok (.aload_n 0, 1) := by decide +kernel
theorem d33_67 : decode method_3_code 67 = .ok (.iload_n 1, 1) := by decide +kernel
theorem d33_68 : decode method_3_code 68 = .ok (.aload_n 2, 1) := by decide +kernel
theorem d33_69 : decode method_3_code 69 = .ok (.bipush 6, 2) := by decide +kernel
theorem d33_71 : decode method_3_code 71 = .ok (.invokestatic 40, 3) := by decide +kernel
theorem d33_74 : decode method_3_code 74 = .ok (.ifCond .eq 29, 3) := by decide +kernel
theorem d33_77 : decode method_3_code 77 = .ok (.aload_n 0, 1) := by decide +kernel
theorem d33_78 : decode method_3_code 78 = .ok (.iload_n 1, 1) := by decide +kernel
theorem d33_79 : decode method_3_code 79 = .ok (.aload_n 2, 1) := by decide +kernel
theorem d33_80 : decode method_3_code 80 = .ok (.bipush 7, 2) := by decide +kernel
theorem d33_82 : decode method_3_code 82 = .ok (.invokestatic 40, 3) := by decide +kernel
theorem d33_85 : decode method_3_code 85 = .ok (.ifCond .eq 18, 3) := by decide +kernel
theorem d33_88 : decode method_3_code 88 = .ok (.aload_n 0, 1) := by decide +kernel
theorem d33_89 : decode method_3_code 89 = .ok (.iload_n 1, 1) := by decide +kernel
theorem d33_90 : decode method_3_code 90 = .ok (.aload_n 2, 1) := by decide +kernel
theorem d33_91 : decode method_3_code 91 = .ok (.bipush 8, 2) := by decide +kernel
theorem d33_93 : decode method_3_code 93 = .ok (.invokestatic 40, 3) := by decide +kernel
theorem d33_96 : decode method_3_code 96 = .ok (.ifCond .eq 7, 3) := by decide +kernel
theorem d33_99 : decode method_3_code 99 = .ok (.iconst 1, 1) := by decide +kernel
theorem d33_100 : decode method_3_code 100 = .ok (.goto 4, 3) := by decide +kernel
theorem d33_104 : decode method_3_code 104 = .ok (.istore_n 3, 1) := by decide +kernel
theorem d33_105 : decode method_3_code 105 = .ok (.iload_n 3, 1) := by decide +kernel
theorem d33_106 : decode method_3_code 106 = .ok (.ifCond .eq 12, 3) := by decide +kernel
theorem d33_109 : decode method_3_code 109 = .ok (.iload_n 1, 1) := by decide +kernel
theorem d33_110 : decode method_3_code 110 = .ok (.aload_n 2, 1) := by decide +kernel
theorem d33_111 : decode method_3_code 111 = .ok (.invokevirtual 34, 3) := by decide +kernel
theorem d33_114 : decode method_3_code 114 = .ok (.iadd, 1) := by decide +kernel
theorem d33_115 : decode method_3_code 115 = .ok (.goto 4, 3) := by decide +kernel
theorem d33_119 : decode method_3_code 119 = .ok (.ireturn, 1) := by decide +kernel
theorem pn_33 : plainName "com/example/xmax/xmax/queue/QueueStatusToStringPinLaw" = true := by first | (simp [plainName, overriddenIn]; done) | decide +kernel
theorem ef_33 (m : MethodId) (o0 : Addr) (p1 : Int32) (o2 : Addr) : entryFrame m #[(.ref o0), (.int p1), (.ref o2)] 4 = mkF m 0 #[.val (.ref o0), .val (.int p1), .val (.ref o2), .unset] [] := by first | (simp [entryFrame, mkF, argsToLocals, Value.category]; done) | rfl
def Q33 (Z : State) (o0 : Addr) (p1 : Int32) (o2 : Addr) (bv : Addr) (kv : ClassId) (zv : Int32) (vs : List Int32) (bs : Addr) (ks : ClassId) (zs : Int32) (us : List Int32) (h0 : Heap) (n0 : Nat) (v : Option Value) (h : Heap) (L : List Loc) : Prop := v = some (.int (p1 + zs)) ∧ Fr n0 L ∧ h = h0
set_option maxRecDepth 65536 in
set_option maxHeartbeats 40000000 in
theorem rm33 (l : Launch) (Z : State) (a0 : Array Value) (hw : ∀ d ∈ tables_1, d.before a0 Z = true) (ws : List Jvm.Cond) (o0 : Addr) (p1 : Int32) (o2 : Addr) (bv : Addr) (kv : ClassId) (zv : Int32) (vs : List Int32) (bs : Addr) (ks : ClassId) (zs : Int32) (us : List Int32) (h0 : Heap) (n0 : Nat) (Z0 : n0 ≤ h0.size) (OLD0 : Old Z n0 h0) (Pr_0 : Exa Z h0 o0 "java/lang/String") (Pr_1 : Fld Z h0 o0 "java/lang/String" "coder" "B" (.int (0 : Int32))) (Pr_2 : Fld Z h0 o0 "java/lang/String" "value" "[B" (.ref bv)) (Pr_3 : Arv Z h0 bv kv .byte zv (own_v vs) (.int 0)) (Pr_4 : Exa Z h0 o2 "java/lang/String") (Pr_5 : Fld Z h0 o2 "java/lang/String" "coder" "B" (.int (0 : Int32))) (Pr_6 : Fld Z h0 o2 "java/lang/String" "value" "[B" (.ref bs)) (Pr_7 : Arv Z h0 bs ks .byte zs (own_v us) (.int 0)) (HC : own_CC Z) (HL : own_lb zv vs p1 zs us) :
    MetFree l (⟨"com/example/xmax/xmax/queue/QueueStatusToStringPinLaw", "lab", "(Ljava/lang/String;ILjava/lang/String;)I"⟩ : MethodName) (head1 (Jvm.Cond.code (⟨"com/example/xmax/xmax/queue/QueueStatusToStringPinLaw", "lab", "(Ljava/lang/String;ILjava/lang/String;)I"⟩ : MethodName) method_3_code 4 (some .int) :: ws) ({ frames := 5, cells := 0, slots := 0, locals := 70 } : Room)) (fun a U => a = #[(.ref o0), (.int p1), (.ref o2)] ∧ Z.Warmed39 U.vm ∧ U.heap = h0) (fun _ _ _ _ _ => True) (fun _ U o U' => ∃ v L, o = .returned v ∧ Q33 Z o0 p1 o2 bv kv zv vs bs ks zs us h0 n0 v U'.heap L ∧ FrameEnd U o U' L ({ frames := 5, cells := 0, slots := 0, locals := 70 } : Room).cells ({ frames := 5, cells := 0, slots := 0, locals := 70 } : Room).slots) := by
  refine MetFree.of_bodySF (plainFor_of_name pn_33) hisR ?_
  intro p e s m args below meth c s₁ Bd hml0 hP hK
  obtain ⟨rfl, hZ, hh⟩ := hP
  have hx := Bd.exec
  have hby := Bd.bytes
  have hml : c.maxLocals = 4 := hml0
  have hown : s.vm.findClass "com/example/xmax/xmax/queue/QueueStatusToStringPinLaw" = some m.cls := findClass_of_methodNamed Bd.named
  have hnm := (name_of_methodNamed Bd.named Bd.method).1
  have X0 : Stand p l e ({ frames := 5, cells := 0, slots := 0, locals := 70 } : Room) s m #[(.ref o0), (.int p1), (.ref o2)] below meth c s₁ [] 0 0 := Stand.of_body Bd
  have e0 : s₁.heap = h0 := by rw [← hh, Bd.state]; rfl
  have N0 := Fr.nil n0
  obtain ⟨P, pre0, fin⟩ : ∃ P : State → Prop, (∀ t, Steps p.tables e below (s₁.setTop (mkF m 0 #[.val (.ref o0), .val (.int p1), .val (.ref o2), .unset] [])) t → P t) ∧ (∀ t, P t → Steps p.tables e below (s₁.setTop (entryFrame m #[(.ref o0), (.int p1), (.ref o2)] 4)) t) := ⟨fun t => Steps p.tables e below (s₁.setTop (entryFrame m #[(.ref o0), (.int p1), (.ref o2)] 4)) t, fun t k => castTop (ef_33 m o0 p1 o2) k, fun t k => k⟩
  have K0 : Keep h0 h0 [] := Keep.refl _ _
  have pre1 : ∀ t, Steps p.tables e below (s₁.setTop (mkF m 10 #[.val (.ref o0), .val (.int p1), .val (.ref o2), .unset] [(.int (0 : Int32)), (.ref o2), (.int p1), (.ref o0)])) t → P t := fun t k => pre0 t (by
      refine XS.iloadN X0.here hx rfl (hb hby d33_0) rfl ?_
      refine XS.ifYes X0.here hx rfl (pc0 := 1) (pc' := 6) rfl (hb hby d33_1) rfl ((if0 _ _).trans (flt (show ¬ (p1 < (0 : Int32)) from (own_lb0 HL))).2.1) (by decide) (by decide) ?_
      refine XS.aloadN X0.here hx rfl (hb hby d33_6) rfl rfl ?_
      refine XS.iloadN X0.here hx rfl (hb hby d33_7) rfl ?_
      refine XS.aloadN X0.here hx rfl (hb hby d33_8) rfl rfl ?_
      refine XS.iconst X0.here hx rfl (hb hby d33_9) ?_
      exact k)
  obtain ⟨_, _, ⟨T2, L2, k2, n2⟩, -, X2, ⟨Lc2, hQ2, l2, y2, z2⟩, st2⟩ := Jvm.LawKit.callS X0 hx (y := (⟨"com/example/xmax/xmax/queue/QueueStatusToStringPinLaw", "ch", "(Ljava/lang/String;ILjava/lang/String;I)Z"⟩ : MethodName)) hown (mvT hZ (hi hw 194 rfl)) (mvT hZ (hi hw 195 rfl)) (mvT hZ (hi hw 192 rfl)) (mvT hZ (hi hw 196 rfl)) (by decide) (backOf (W := 0) (rm34 l Z a0 hw [] o0 p1 o2 (0 : Int32) bv kv zv vs bs ks zs us h0 n0 Z0 OLD0 Pr_0 Pr_1 Pr_2 Pr_3 Pr_4 Pr_5 Pr_6 Pr_7 HC (own_lb1 HL 0 (by decide))) hZ (hi hw 196 rfl) (hi hw 192 rfl) (by decide) (by decide)) (g := (mkF m 10 #[.val (.ref o0), .val (.int p1), .val (.ref o2), .unset] [(.int (0 : Int32)), (.ref o2), (.int p1), (.ref o0)])) rfl (by rw [hml]; rfl) (argsL := [(.ref o0), (.int p1), (.ref o2), (.int (0 : Int32))]) (rest := []) (lenOf own_pd27 rfl) rfl (by show 2 * 0 + _ ≤ _; exact Nat.le_of_eq rfl) (hb hby d33_10) (fun _ _ => ⟨rfl, e0, (by decide : 0 + 0 ≤ _), (by decide : 0 + 0 ≤ _)⟩)
  dsimp only [Pt.U, Pt.locs, Pt.cells, Pt.slots] at X2 l2 y2 z2 st2 hQ2
  subst l2 y2 z2
  obtain ⟨rfl, N2q, e2⟩ := hQ2
  have N2 := Fr.app N0 N2q
  have pre2 : ∀ t, Steps p.tables e below (T2.setTop (mkF m 13 #[.val (.ref o0), .val (.int p1), .val (.ref o2), .unset] [(.int (1 : Int32))])) t → P t := fun t k => pre1 t (st2 _ k)
  have pre3 : ∀ t, Steps p.tables e below (T2.setTop (mkF m 20 #[.val (.ref o0), .val (.int p1), .val (.ref o2), .unset] [(.int (1 : Int32)), (.ref o2), (.int p1), (.ref o0)])) t → P t := fun t k => pre2 t (by
      refine XS.ifNo X2.here hx rfl (hb hby d33_13) rfl ((if0 _ _).trans (feq (by decide : ¬ ((1 : Int32) = (0 : Int32)))).1) ?_
      refine XS.aloadN X2.here hx rfl (hb hby d33_16) rfl rfl ?_
      refine XS.iloadN X2.here hx rfl (hb hby d33_17) rfl ?_
      refine XS.aloadN X2.here hx rfl (hb hby d33_18) rfl rfl ?_
      refine XS.iconst X2.here hx rfl (hb hby d33_19) ?_
      exact k)
  obtain ⟨_, _, ⟨T4, L4, k4, n4⟩, -, X4, ⟨Lc4, hQ4, l4, y4, z4⟩, st4⟩ := Jvm.LawKit.callS X2 hx (y := (⟨"com/example/xmax/xmax/queue/QueueStatusToStringPinLaw", "ch", "(Ljava/lang/String;ILjava/lang/String;I)Z"⟩ : MethodName)) hown (mvT hZ (hi hw 194 rfl)) (mvT hZ (hi hw 195 rfl)) (mvT hZ (hi hw 192 rfl)) (mvT hZ (hi hw 196 rfl)) (by decide) (backOf (W := 0) (rm34 l Z a0 hw [] o0 p1 o2 (1 : Int32) bv kv zv vs bs ks zs us h0 n0 Z0 OLD0 Pr_0 Pr_1 Pr_2 Pr_3 Pr_4 Pr_5 Pr_6 Pr_7 HC (own_lb1 HL 1 (by decide))) hZ (hi hw 196 rfl) (hi hw 192 rfl) (by decide) (by decide)) (g := (mkF m 20 #[.val (.ref o0), .val (.int p1), .val (.ref o2), .unset] [(.int (1 : Int32)), (.ref o2), (.int p1), (.ref o0)])) rfl (by rw [hml]; rfl) (argsL := [(.ref o0), (.int p1), (.ref o2), (.int (1 : Int32))]) (rest := []) (lenOf own_pd27 rfl) rfl (by show 2 * 0 + _ ≤ _; exact Nat.le_of_eq rfl) (hb hby d33_20) (fun _ _ => ⟨rfl, e2, (by decide : 0 + 0 ≤ _), (by decide : 0 + 0 ≤ _)⟩)
  dsimp only [Pt.U, Pt.locs, Pt.cells, Pt.slots] at X4 l4 y4 z4 st4 hQ4
  subst l4 y4 z4
  obtain ⟨rfl, N4q, e4⟩ := hQ4
  have N4 := Fr.app N2 N4q
  have pre4 : ∀ t, Steps p.tables e below (T4.setTop (mkF m 23 #[.val (.ref o0), .val (.int p1), .val (.ref o2), .unset] [(.int (1 : Int32))])) t → P t := fun t k => pre3 t (st4 _ k)
  have pre5 : ∀ t, Steps p.tables e below (T4.setTop (mkF m 30 #[.val (.ref o0), .val (.int p1), .val (.ref o2), .unset] [(.int (2 : Int32)), (.ref o2), (.int p1), (.ref o0)])) t → P t := fun t k => pre4 t (by
      refine XS.ifNo X4.here hx rfl (hb hby d33_23) rfl ((if0 _ _).trans (feq (by decide : ¬ ((1 : Int32) = (0 : Int32)))).1) ?_
      refine XS.aloadN X4.here hx rfl (hb hby d33_26) rfl rfl ?_
      refine XS.iloadN X4.here hx rfl (hb hby d33_27) rfl ?_
      refine XS.aloadN X4.here hx rfl (hb hby d33_28) rfl rfl ?_
      refine XS.iconst X4.here hx rfl (hb hby d33_29) ?_
      exact k)
  obtain ⟨_, _, ⟨T6, L6, k6, n6⟩, -, X6, ⟨Lc6, hQ6, l6, y6, z6⟩, st6⟩ := Jvm.LawKit.callS X4 hx (y := (⟨"com/example/xmax/xmax/queue/QueueStatusToStringPinLaw", "ch", "(Ljava/lang/String;ILjava/lang/String;I)Z"⟩ : MethodName)) hown (mvT hZ (hi hw 194 rfl)) (mvT hZ (hi hw 195 rfl)) (mvT hZ (hi hw 192 rfl)) (mvT hZ (hi hw 196 rfl)) (by decide) (backOf (W := 0) (rm34 l Z a0 hw [] o0 p1 o2 (2 : Int32) bv kv zv vs bs ks zs us h0 n0 Z0 OLD0 Pr_0 Pr_1 Pr_2 Pr_3 Pr_4 Pr_5 Pr_6 Pr_7 HC (own_lb1 HL 2 (by decide))) hZ (hi hw 196 rfl) (hi hw 192 rfl) (by decide) (by decide)) (g := (mkF m 30 #[.val (.ref o0), .val (.int p1), .val (.ref o2), .unset] [(.int (2 : Int32)), (.ref o2), (.int p1), (.ref o0)])) rfl (by rw [hml]; rfl) (argsL := [(.ref o0), (.int p1), (.ref o2), (.int (2 : Int32))]) (rest := []) (lenOf own_pd27 rfl) rfl (by show 2 * 0 + _ ≤ _; exact Nat.le_of_eq rfl) (hb hby d33_30) (fun _ _ => ⟨rfl, e4, (by decide : 0 + 0 ≤ _), (by decide : 0 + 0 ≤ _)⟩)
  dsimp only [Pt.U, Pt.locs, Pt.cells, Pt.slots] at X6 l6 y6 z6 st6 hQ6
  subst l6 y6 z6
  obtain ⟨rfl, N6q, e6⟩ := hQ6
  have N6 := Fr.app N4 N6q
  have pre6 : ∀ t, Steps p.tables e below (T6.setTop (mkF m 33 #[.val (.ref o0), .val (.int p1), .val (.ref o2), .unset] [(.int (1 : Int32))])) t → P t := fun t k => pre5 t (st6 _ k)
  have pre7 : ∀ t, Steps p.tables e below (T6.setTop (mkF m 40 #[.val (.ref o0), .val (.int p1), .val (.ref o2), .unset] [(.int (3 : Int32)), (.ref o2), (.int p1), (.ref o0)])) t → P t := fun t k => pre6 t (by
      refine XS.ifNo X6.here hx rfl (hb hby d33_33) rfl ((if0 _ _).trans (feq (by decide : ¬ ((1 : Int32) = (0 : Int32)))).1) ?_
      refine XS.aloadN X6.here hx rfl (hb hby d33_36) rfl rfl ?_
      refine XS.iloadN X6.here hx rfl (hb hby d33_37) rfl ?_
      refine XS.aloadN X6.here hx rfl (hb hby d33_38) rfl rfl ?_
      refine XS.iconst X6.here hx rfl (hb hby d33_39) ?_
      exact k)
  obtain ⟨_, _, ⟨T8, L8, k8, n8⟩, -, X8, ⟨Lc8, hQ8, l8, y8, z8⟩, st8⟩ := Jvm.LawKit.callS X6 hx (y := (⟨"com/example/xmax/xmax/queue/QueueStatusToStringPinLaw", "ch", "(Ljava/lang/String;ILjava/lang/String;I)Z"⟩ : MethodName)) hown (mvT hZ (hi hw 194 rfl)) (mvT hZ (hi hw 195 rfl)) (mvT hZ (hi hw 192 rfl)) (mvT hZ (hi hw 196 rfl)) (by decide) (backOf (W := 0) (rm34 l Z a0 hw [] o0 p1 o2 (3 : Int32) bv kv zv vs bs ks zs us h0 n0 Z0 OLD0 Pr_0 Pr_1 Pr_2 Pr_3 Pr_4 Pr_5 Pr_6 Pr_7 HC (own_lb1 HL 3 (by decide))) hZ (hi hw 196 rfl) (hi hw 192 rfl) (by decide) (by decide)) (g := (mkF m 40 #[.val (.ref o0), .val (.int p1), .val (.ref o2), .unset] [(.int (3 : Int32)), (.ref o2), (.int p1), (.ref o0)])) rfl (by rw [hml]; rfl) (argsL := [(.ref o0), (.int p1), (.ref o2), (.int (3 : Int32))]) (rest := []) (lenOf own_pd27 rfl) rfl (by show 2 * 0 + _ ≤ _; exact Nat.le_of_eq rfl) (hb hby d33_40) (fun _ _ => ⟨rfl, e6, (by decide : 0 + 0 ≤ _), (by decide : 0 + 0 ≤ _)⟩)
  dsimp only [Pt.U, Pt.locs, Pt.cells, Pt.slots] at X8 l8 y8 z8 st8 hQ8
  subst l8 y8 z8
  obtain ⟨rfl, N8q, e8⟩ := hQ8
  have N8 := Fr.app N6 N8q
  have pre8 : ∀ t, Steps p.tables e below (T8.setTop (mkF m 43 #[.val (.ref o0), .val (.int p1), .val (.ref o2), .unset] [(.int (1 : Int32))])) t → P t := fun t k => pre7 t (st8 _ k)
  have pre9 : ∀ t, Steps p.tables e below (T8.setTop (mkF m 50 #[.val (.ref o0), .val (.int p1), .val (.ref o2), .unset] [(.int (4 : Int32)), (.ref o2), (.int p1), (.ref o0)])) t → P t := fun t k => pre8 t (by
      refine XS.ifNo X8.here hx rfl (hb hby d33_43) rfl ((if0 _ _).trans (feq (by decide : ¬ ((1 : Int32) = (0 : Int32)))).1) ?_
      refine XS.aloadN X8.here hx rfl (hb hby d33_46) rfl rfl ?_
      refine XS.iloadN X8.here hx rfl (hb hby d33_47) rfl ?_
      refine XS.aloadN X8.here hx rfl (hb hby d33_48) rfl rfl ?_
      refine XS.iconst X8.here hx rfl (hb hby d33_49) ?_
      exact k)
  obtain ⟨_, _, ⟨T10, L10, k10, n10⟩, -, X10, ⟨Lc10, hQ10, l10, y10, z10⟩, st10⟩ := Jvm.LawKit.callS X8 hx (y := (⟨"com/example/xmax/xmax/queue/QueueStatusToStringPinLaw", "ch", "(Ljava/lang/String;ILjava/lang/String;I)Z"⟩ : MethodName)) hown (mvT hZ (hi hw 194 rfl)) (mvT hZ (hi hw 195 rfl)) (mvT hZ (hi hw 192 rfl)) (mvT hZ (hi hw 196 rfl)) (by decide) (backOf (W := 0) (rm34 l Z a0 hw [] o0 p1 o2 (4 : Int32) bv kv zv vs bs ks zs us h0 n0 Z0 OLD0 Pr_0 Pr_1 Pr_2 Pr_3 Pr_4 Pr_5 Pr_6 Pr_7 HC (own_lb1 HL 4 (by decide))) hZ (hi hw 196 rfl) (hi hw 192 rfl) (by decide) (by decide)) (g := (mkF m 50 #[.val (.ref o0), .val (.int p1), .val (.ref o2), .unset] [(.int (4 : Int32)), (.ref o2), (.int p1), (.ref o0)])) rfl (by rw [hml]; rfl) (argsL := [(.ref o0), (.int p1), (.ref o2), (.int (4 : Int32))]) (rest := []) (lenOf own_pd27 rfl) rfl (by show 2 * 0 + _ ≤ _; exact Nat.le_of_eq rfl) (hb hby d33_50) (fun _ _ => ⟨rfl, e8, (by decide : 0 + 0 ≤ _), (by decide : 0 + 0 ≤ _)⟩)
  dsimp only [Pt.U, Pt.locs, Pt.cells, Pt.slots] at X10 l10 y10 z10 st10 hQ10
  subst l10 y10 z10
  obtain ⟨rfl, N10q, e10⟩ := hQ10
  have N10 := Fr.app N8 N10q
  have pre10 : ∀ t, Steps p.tables e below (T10.setTop (mkF m 53 #[.val (.ref o0), .val (.int p1), .val (.ref o2), .unset] [(.int (1 : Int32))])) t → P t := fun t k => pre9 t (st10 _ k)
  have pre11 : ∀ t, Steps p.tables e below (T10.setTop (mkF m 60 #[.val (.ref o0), .val (.int p1), .val (.ref o2), .unset] [(.int (5 : Int32)), (.ref o2), (.int p1), (.ref o0)])) t → P t := fun t k => pre10 t (by
      refine XS.ifNo X10.here hx rfl (hb hby d33_53) rfl ((if0 _ _).trans (feq (by decide : ¬ ((1 : Int32) = (0 : Int32)))).1) ?_
      refine XS.aloadN X10.here hx rfl (hb hby d33_56) rfl rfl ?_
      refine XS.iloadN X10.here hx rfl (hb hby d33_57) rfl ?_
      refine XS.aloadN X10.here hx rfl (hb hby d33_58) rfl rfl ?_
      refine XS.iconst X10.here hx rfl (hb hby d33_59) ?_
      exact k)
  obtain ⟨_, _, ⟨T12, L12, k12, n12⟩, -, X12, ⟨Lc12, hQ12, l12, y12, z12⟩, st12⟩ := Jvm.LawKit.callS X10 hx (y := (⟨"com/example/xmax/xmax/queue/QueueStatusToStringPinLaw", "ch", "(Ljava/lang/String;ILjava/lang/String;I)Z"⟩ : MethodName)) hown (mvT hZ (hi hw 194 rfl)) (mvT hZ (hi hw 195 rfl)) (mvT hZ (hi hw 192 rfl)) (mvT hZ (hi hw 196 rfl)) (by decide) (backOf (W := 0) (rm34 l Z a0 hw [] o0 p1 o2 (5 : Int32) bv kv zv vs bs ks zs us h0 n0 Z0 OLD0 Pr_0 Pr_1 Pr_2 Pr_3 Pr_4 Pr_5 Pr_6 Pr_7 HC (own_lb1 HL 5 (by decide))) hZ (hi hw 196 rfl) (hi hw 192 rfl) (by decide) (by decide)) (g := (mkF m 60 #[.val (.ref o0), .val (.int p1), .val (.ref o2), .unset] [(.int (5 : Int32)), (.ref o2), (.int p1), (.ref o0)])) rfl (by rw [hml]; rfl) (argsL := [(.ref o0), (.int p1), (.ref o2), (.int (5 : Int32))]) (rest := []) (lenOf own_pd27 rfl) rfl (by show 2 * 0 + _ ≤ _; exact Nat.le_of_eq rfl) (hb hby d33_60) (fun _ _ => ⟨rfl, e10, (by decide : 0 + 0 ≤ _), (by decide : 0 + 0 ≤ _)⟩)
  dsimp only [Pt.U, Pt.locs, Pt.cells, Pt.slots] at X12 l12 y12 z12 st12 hQ12
  subst l12 y12 z12
  obtain ⟨rfl, N12q, e12⟩ := hQ12
  have N12 := Fr.app N10 N12q
  have pre12 : ∀ t, Steps p.tables e below (T12.setTop (mkF m 63 #[.val (.ref o0), .val (.int p1), .val (.ref o2), .unset] [(.int (1 : Int32))])) t → P t := fun t k => pre11 t (st12 _ k)
  have pre13 : ∀ t, Steps p.tables e below (T12.setTop (mkF m 71 #[.val (.ref o0), .val (.int p1), .val (.ref o2), .unset] [(.int (6 : Int32)), (.ref o2), (.int p1), (.ref o0)])) t → P t := fun t k => pre12 t (by
      refine XS.ifNo X12.here hx rfl (hb hby d33_63) rfl ((if0 _ _).trans (feq (by decide : ¬ ((1 : Int32) = (0 : Int32)))).1) ?_
      refine XS.aloadN X12.here hx rfl (hb hby d33_66) rfl rfl ?_
      refine XS.iloadN X12.here hx rfl (hb hby d33_67) rfl ?_
      refine XS.aloadN X12.here hx rfl (hb hby d33_68) rfl rfl ?_
      refine XS.bipush X12.here hx rfl (hb hby d33_69) ?_
      exact k)
  obtain ⟨_, _, ⟨T14, L14, k14, n14⟩, -, X14, ⟨Lc14, hQ14, l14, y14, z14⟩, st14⟩ := Jvm.LawKit.callS X12 hx (y := (⟨"com/example/xmax/xmax/queue/QueueStatusToStringPinLaw", "ch", "(Ljava/lang/String;ILjava/lang/String;I)Z"⟩ : MethodName)) hown (mvT hZ (hi hw 194 rfl)) (mvT hZ (hi hw 195 rfl)) (mvT hZ (hi hw 192 rfl)) (mvT hZ (hi hw 196 rfl)) (by decide) (backOf (W := 0) (rm34 l Z a0 hw [] o0 p1 o2 (6 : Int32) bv kv zv vs bs ks zs us h0 n0 Z0 OLD0 Pr_0 Pr_1 Pr_2 Pr_3 Pr_4 Pr_5 Pr_6 Pr_7 HC (own_lb1 HL 6 (by decide))) hZ (hi hw 196 rfl) (hi hw 192 rfl) (by decide) (by decide)) (g := (mkF m 71 #[.val (.ref o0), .val (.int p1), .val (.ref o2), .unset] [(.int (6 : Int32)), (.ref o2), (.int p1), (.ref o0)])) rfl (by rw [hml]; rfl) (argsL := [(.ref o0), (.int p1), (.ref o2), (.int (6 : Int32))]) (rest := []) (lenOf own_pd27 rfl) rfl (by show 2 * 0 + _ ≤ _; exact Nat.le_of_eq rfl) (hb hby d33_71) (fun _ _ => ⟨rfl, e12, (by decide : 0 + 0 ≤ _), (by decide : 0 + 0 ≤ _)⟩)
  dsimp only [Pt.U, Pt.locs, Pt.cells, Pt.slots] at X14 l14 y14 z14 st14 hQ14
  subst l14 y14 z14
  obtain ⟨rfl, N14q, e14⟩ := hQ14
  have N14 := Fr.app N12 N14q
  have pre14 : ∀ t, Steps p.tables e below (T14.setTop (mkF m 74 #[.val (.ref o0), .val (.int p1), .val (.ref o2), .unset] [(.int (1 : Int32))])) t → P t := fun t k => pre13 t (st14 _ k)
  have pre15 : ∀ t, Steps p.tables e below (T14.setTop (mkF m 82 #[.val (.ref o0), .val (.int p1), .val (.ref o2), .unset] [(.int (7 : Int32)), (.ref o2), (.int p1), (.ref o0)])) t → P t := fun t k => pre14 t (by
      refine XS.ifNo X14.here hx rfl (hb hby d33_74) rfl ((if0 _ _).trans (feq (by decide : ¬ ((1 : Int32) = (0 : Int32)))).1) ?_
      refine XS.aloadN X14.here hx rfl (hb hby d33_77) rfl rfl ?_
      refine XS.iloadN X14.here hx rfl (hb hby d33_78) rfl ?_
      refine XS.aloadN X14.here hx rfl (hb hby d33_79) rfl rfl ?_
      refine XS.bipush X14.here hx rfl (hb hby d33_80) ?_
      exact k)
  obtain ⟨_, _, ⟨T16, L16, k16, n16⟩, -, X16, ⟨Lc16, hQ16, l16, y16, z16⟩, st16⟩ := Jvm.LawKit.callS X14 hx (y := (⟨"com/example/xmax/xmax/queue/QueueStatusToStringPinLaw", "ch", "(Ljava/lang/String;ILjava/lang/String;I)Z"⟩ : MethodName)) hown (mvT hZ (hi hw 194 rfl)) (mvT hZ (hi hw 195 rfl)) (mvT hZ (hi hw 192 rfl)) (mvT hZ (hi hw 196 rfl)) (by decide) (backOf (W := 0) (rm34 l Z a0 hw [] o0 p1 o2 (7 : Int32) bv kv zv vs bs ks zs us h0 n0 Z0 OLD0 Pr_0 Pr_1 Pr_2 Pr_3 Pr_4 Pr_5 Pr_6 Pr_7 HC (own_lb1 HL 7 (by decide))) hZ (hi hw 196 rfl) (hi hw 192 rfl) (by decide) (by decide)) (g := (mkF m 82 #[.val (.ref o0), .val (.int p1), .val (.ref o2), .unset] [(.int (7 : Int32)), (.ref o2), (.int p1), (.ref o0)])) rfl (by rw [hml]; rfl) (argsL := [(.ref o0), (.int p1), (.ref o2), (.int (7 : Int32))]) (rest := []) (lenOf own_pd27 rfl) rfl (by show 2 * 0 + _ ≤ _; exact Nat.le_of_eq rfl) (hb hby d33_82) (fun _ _ => ⟨rfl, e14, (by decide : 0 + 0 ≤ _), (by decide : 0 + 0 ≤ _)⟩)
  dsimp only [Pt.U, Pt.locs, Pt.cells, Pt.slots] at X16 l16 y16 z16 st16 hQ16
  subst l16 y16 z16
  obtain ⟨rfl, N16q, e16⟩ := hQ16
  have N16 := Fr.app N14 N16q
  have pre16 : ∀ t, Steps p.tables e below (T16.setTop (mkF m 85 #[.val (.ref o0), .val (.int p1), .val (.ref o2), .unset] [(.int (1 : Int32))])) t → P t := fun t k => pre15 t (st16 _ k)
  have pre17 : ∀ t, Steps p.tables e below (T16.setTop (mkF m 93 #[.val (.ref o0), .val (.int p1), .val (.ref o2), .unset] [(.int (8 : Int32)), (.ref o2), (.int p1), (.ref o0)])) t → P t := fun t k => pre16 t (by
      refine XS.ifNo X16.here hx rfl (hb hby d33_85) rfl ((if0 _ _).trans (feq (by decide : ¬ ((1 : Int32) = (0 : Int32)))).1) ?_
      refine XS.aloadN X16.here hx rfl (hb hby d33_88) rfl rfl ?_
      refine XS.iloadN X16.here hx rfl (hb hby d33_89) rfl ?_
      refine XS.aloadN X16.here hx rfl (hb hby d33_90) rfl rfl ?_
      refine XS.bipush X16.here hx rfl (hb hby d33_91) ?_
      exact k)
  obtain ⟨_, _, ⟨T18, L18, k18, n18⟩, -, X18, ⟨Lc18, hQ18, l18, y18, z18⟩, st18⟩ := Jvm.LawKit.callS X16 hx (y := (⟨"com/example/xmax/xmax/queue/QueueStatusToStringPinLaw", "ch", "(Ljava/lang/String;ILjava/lang/String;I)Z"⟩ : MethodName)) hown (mvT hZ (hi hw 194 rfl)) (mvT hZ (hi hw 195 rfl)) (mvT hZ (hi hw 192 rfl)) (mvT hZ (hi hw 196 rfl)) (by decide) (backOf (W := 0) (rm34 l Z a0 hw [] o0 p1 o2 (8 : Int32) bv kv zv vs bs ks zs us h0 n0 Z0 OLD0 Pr_0 Pr_1 Pr_2 Pr_3 Pr_4 Pr_5 Pr_6 Pr_7 HC (own_lb1 HL 8 (by decide))) hZ (hi hw 196 rfl) (hi hw 192 rfl) (by decide) (by decide)) (g := (mkF m 93 #[.val (.ref o0), .val (.int p1), .val (.ref o2), .unset] [(.int (8 : Int32)), (.ref o2), (.int p1), (.ref o0)])) rfl (by rw [hml]; rfl) (argsL := [(.ref o0), (.int p1), (.ref o2), (.int (8 : Int32))]) (rest := []) (lenOf own_pd27 rfl) rfl (by show 2 * 0 + _ ≤ _; exact Nat.le_of_eq rfl) (hb hby d33_93) (fun _ _ => ⟨rfl, e16, (by decide : 0 + 0 ≤ _), (by decide : 0 + 0 ≤ _)⟩)
  dsimp only [Pt.U, Pt.locs, Pt.cells, Pt.slots] at X18 l18 y18 z18 st18 hQ18
  subst l18 y18 z18
  obtain ⟨rfl, N18q, e18⟩ := hQ18
  have N18 := Fr.app N16 N18q
  have pre18 : ∀ t, Steps p.tables e below (T18.setTop (mkF m 96 #[.val (.ref o0), .val (.int p1), .val (.ref o2), .unset] [(.int (1 : Int32))])) t → P t := fun t k => pre17 t (st18 _ k)
  have pre19 : ∀ t, Steps p.tables e below (T18.setTop (mkF m 111 #[.val (.ref o0), .val (.int p1), .val (.ref o2), .val (.int (1 : Int32))] [(.ref o2), (.int p1)])) t → P t := fun t k => pre18 t (by
      refine XS.ifNo X18.here hx rfl (hb hby d33_96) rfl ((if0 _ _).trans (feq (by decide : ¬ ((1 : Int32) = (0 : Int32)))).1) ?_
      refine XS.iconst X18.here hx rfl (hb hby d33_99) ?_
      refine XS.goto X18.here hx rfl (pc0 := 100) (pc' := 104) rfl (hb hby d33_100) (by decide) (by decide) ?_
      refine XS.istoreN X18.here hx rfl (hb hby d33_104) rfl (l' := #[.val (.ref o0), .val (.int p1), .val (.ref o2), .val (.int (1 : Int32))]) rfl ?_
      refine XS.iloadN X18.here hx rfl (hb hby d33_105) rfl ?_
      refine XS.ifNo X18.here hx rfl (hb hby d33_106) rfl ((if0 _ _).trans (feq (by decide : ¬ ((1 : Int32) = (0 : Int32)))).1) ?_
      refine XS.iloadN X18.here hx rfl (hb hby d33_109) rfl ?_
      refine XS.aloadN X18.here hx rfl (hb hby d33_110) rfl rfl ?_
      exact k)
  obtain ⟨cq20, kq20, q20a, q20b, q20c⟩ := isOf hZ e18 Pr_4
  obtain ⟨_, _, ⟨T20, L20, k20, n20⟩, -, X20, ⟨Lc20, hQ20, l20, y20, z20⟩, st20⟩ := X18.virtualBack hx (y := (⟨"java/lang/String", "length", "()I"⟩ : MethodName)) (z := (⟨"java/lang/String", "length", "()I"⟩ : MethodName)) hown (mvT hZ (hi hw 197 rfl)) (mvT hZ (hi hw 59 rfl)) (notFace_of_selects (args := #[]) (mvT hZ (hi hw 61 rfl))) (mvT hZ (hi hw 61 rfl)) (mvT hZ (hi hw 60 rfl)) (by decide) (backOf (W := 1) (rm8 l Z a0 hw [] o2 bs ks zs us h0 n0 Z0 OLD0 Pr_4 Pr_5 Pr_6 Pr_7 HC) hZ (hi hw 62 rfl) (hi hw 36 rfl) (by decide) (by decide)) q20a q20c (g := (mkF m 111 #[.val (.ref o0), .val (.int p1), .val (.ref o2), .val (.int (1 : Int32))] [(.ref o2), (.int p1)])) rfl (by rw [hml]; rfl) (Steps.refl _) (argsL := []) (rest := [(.int p1)]) (lenOf own_pd1 rfl) rfl (by show 2 * 0 + _ ≤ _; exact Nat.le_of_eq rfl) (hb hby d33_111) (fun _ _ => ⟨rfl, e18, (by decide : 0 + 0 ≤ _), (by decide : 0 + 0 ≤ _)⟩)
  dsimp only [Pt.U, Pt.locs, Pt.cells, Pt.slots] at X20 l20 y20 z20 st20 hQ20
  subst l20 y20 z20
  obtain ⟨rfl, N20q, e20⟩ := hQ20
  have N20 := Fr.app N18 N20q
  have pre20 : ∀ t, Steps p.tables e below (T20.setTop (mkF m 114 #[.val (.ref o0), .val (.int p1), .val (.ref o2), .val (.int (1 : Int32))] [(.int zs), (.int p1)])) t → P t := fun t k => pre19 t (st20.trans k)
  have pre21 : ∀ t, Steps p.tables e below (T20.setTop (mkF m 119 #[.val (.ref o0), .val (.int p1), .val (.ref o2), .val (.int (1 : Int32))] [(.int (p1 + zs))])) t → P t := fun t k => pre20 t (by
      refine XS.iadd X20.here hx rfl (hb hby d33_114) rfl ?_
      refine XS.goto X20.here hx rfl (pc0 := 115) (pc' := 119) rfl (hb hby d33_115) (by decide) (by decide) ?_
      exact k)
  obtain ⟨fs, hr, hrun, hended, hW, hsame⟩ := X20.leave (v := some (.int (p1 + zs))) (fun h => by rw [Bd.returns] at h; cases h)
  refine ⟨_, _, fin _ (pre21 _ ?_), hrun, hended, _, _, rfl, ?_, ⟨_, rfl⟩, hW, hsame.mono (by decide) (by decide)⟩
  · show Steps p.tables e below (T20.setTop (mkF m 119 #[.val (.ref o0), .val (.int p1), .val (.ref o2), .val (.int (1 : Int32))] [(.int (p1 + zs))])) _
    exact retI X20 hx Bd.returns (hb hby d33_119) hr
  · show Q33 Z o0 p1 o2 bv kv zv vs bs ks zs us h0 n0 _ T20.heap _
    rw [e20]
    exact ⟨rfl, N20, rfl⟩
theorem d42_0 : decode method_7_code 0 = .ok (.iload 5, 2) := by decide +kernel
theorem d42_2 : decode method_7_code 2 = .ok (.iload_n 2, 1) := by decide +kernel
theorem d42_3 : decode method_7_code 3 = .ok (.if_icmp .lt 5, 3) := by decide +kernel
theorem d42_6 : decode method_7_code 6 = .ok (.iconst 1, 1) := by decide +kernel
theorem d42_7 : decode method_7_code 7 = .ok (.ireturn, 1) := by decide +kernel
theorem d42_8 : decode method_7_code 8 = .ok (.iload_n 1, 1) := by decide +kernel
theorem d42_9 : decode method_7_code 9 = .ok (.iload_n 2, 1) := by decide +kernel
theorem d42_10 : decode method_7_code 10 = .ok (.iadd, 1) := by decide +kernel
theorem d42_11 : decode method_7_code 11 = .ok (.iconst 1, 1) := by decide +kernel
theorem d42_12 : decode method_7_code 12 = .ok (.isub, 1) := by decide +kernel
theorem d42_13 : decode method_7_code 13 = .ok (.iload 5, 2) := by decide +kernel
theorem d42_15 : decode method_7_code 15 = .ok (.isub, 1) := by decide +kernel
theorem d42_16 : decode method_7_code 16 = .ok (.istore 8, 2) := by decide +kernel
theorem d42_18 : decode method_7_code 18 = .ok (.lload_n 3, 1) := by decide +kernel
theorem d42_19 : decode method_7_code 19 = .ok (.lload 6, 2) := by decide +kernel
theorem d42_21 : decode method_7_code 21 = .ok (.ldiv, 1) := by decide +kernel
theorem d42_22 : decode method_7_code 22 = .ok (.ldc2_w 48, 3) := by decide +kernel
theorem d42_25 : decode method_7_code 25 = .ok (.lrem, 1) := by decide +kernel
theorem d42_26 : decode method_7_code 26 = .ok (.lstore 9, 2) := by decide +kernel
theorem d42_28 : decode method_7_code 28 = .ok (.iload 8, 2) := by decide +kernel
theorem d42_30 : decode method_7_code 30 = .ok (.aload_n 0, 1) := by decide +kernel
theorem d42_31 : decode method_7_code 31 = .ok (.invokevirtual 34, 3) := by decide +kernel
theorem d42_34 : decode method_7_code 34 = .ok (.if_icmp .ge 23, 3) := by decide +kernel
theorem d42_37 : decode method_7_code 37 = .ok (.aload_n 0, 1) := by decide +kernel
theorem d42_38 : decode method_7_code 38 = .ok (.iload 8, 2) := by decide +kernel
theorem d42_40 : decode method_7_code 40 = .ok (.invokevirtual 44, 3) := by decide +kernel
theorem d42_43 : decode method_7_code 43 = .ok (.bipush 48, 2) := by decide +kernel
theorem d42_45 : decode method_7_code 45 = .ok (.lload 9, 2) := by decide +kernel
theorem d42_47 : decode method_7_code 47 = .ok (.l2i, 1) := by decide +kernel
theorem d42_48 : decode method_7_code 48 = .ok (.isub, 1) := by decide +kernel
theorem d42_49 : decode method_7_code 49 = .ok (.i2c, 1) := by decide +kernel
theorem d42_50 : decode method_7_code 50 = .ok (.if_icmp .ne 7, 3) := by decide +kernel
theorem d42_53 : decode method_7_code 53 = .ok (.iconst 1, 1) := by decide +kernel
theorem d42_54 : decode method_7_code 54 = .ok (.goto 4, 3) := by decide +kernel
theorem d42_58 : decode method_7_code 58 = .ok (.ireturn, 1) := by decide +kernel
theorem pn_42 : plainName "com/example/xmax/xmax/queue/QueueStatusToStringPinLaw" = true := by first | (simp [plainName, overriddenIn]; done) | decide +kernel
theorem ef_42 (m : MethodId) (o0 : Addr) (p1 : Int32) (p2 : Int32) (q3 : Int64) (p5 : Int32) (q6 : Int64) : entryFrame m #[(.ref o0), (.int p1), (.int p2), (.long q3), (.int p5), (.long q6)] 11 = mkF m 0 #[.val (.ref o0), .val (.int p1), .val (.int p2), .val (.long q3), .second, .val (.int p5), .val (.long q6), .second, .unset, .unset, .unset] [] := by first | (simp [entryFrame, mkF, argsToLocals, Value.category]; done) | rfl
def Q42 (Z : State) (o0 : Addr) (p1 : Int32) (p2 : Int32) (q3 : Int64) (p5 : Int32) (q6 : Int64) (bv : Addr) (kv : ClassId) (zv : Int32) (vs : List Int32) (h0 : Heap) (n0 : Nat) (v : Option Value) (h : Heap) (L : List Loc) : Prop := v = some (.int (1 : Int32)) ∧ Fr n0 L ∧ h = h0
set_option maxRecDepth 65536 in
set_option maxHeartbeats 40000000 in
theorem rm42 (l : Launch) (Z : State) (a0 : Array Value) (hw : ∀ d ∈ tables_1, d.before a0 Z = true) (ws : List Jvm.Cond) (o0 : Addr) (p1 : Int32) (p2 : Int32) (q3 : Int64) (p5 : Int32) (q6 : Int64) (bv : Addr) (kv : ClassId) (zv : Int32) (vs : List Int32) (h0 : Heap) (n0 : Nat) (Z0 : n0 ≤ h0.size) (OLD0 : Old Z n0 h0) (Pr_0 : Exa Z h0 o0 "java/lang/String") (Pr_1 : Fld Z h0 o0 "java/lang/String" "coder" "B" (.int (0 : Int32))) (Pr_2 : Fld Z h0 o0 "java/lang/String" "value" "[B" (.ref bv)) (Pr_3 : Arv Z h0 bv kv .byte zv (own_v vs) (.int 0)) (HC : own_CC Z) (HD : own_dh zv vs p1 p2 q3 p5 q6) :
    MetFree l (⟨"com/example/xmax/xmax/queue/QueueStatusToStringPinLaw", "dig", "(Ljava/lang/String;IIJIJ)Z"⟩ : MethodName) (head1 (Jvm.Cond.code (⟨"com/example/xmax/xmax/queue/QueueStatusToStringPinLaw", "dig", "(Ljava/lang/String;IIJIJ)Z"⟩ : MethodName) method_7_code 11 (some .boolean) :: ws) ({ frames := 4, cells := 0, slots := 0, locals := 53 } : Room)) (fun a U => a = #[(.ref o0), (.int p1), (.int p2), (.long q3), (.int p5), (.long q6)] ∧ Z.Warmed39 U.vm ∧ U.heap = h0) (fun _ _ _ _ _ => True) (fun _ U o U' => ∃ v L, o = .returned v ∧ Q42 Z o0 p1 p2 q3 p5 q6 bv kv zv vs h0 n0 v U'.heap L ∧ FrameEnd U o U' L ({ frames := 4, cells := 0, slots := 0, locals := 53 } : Room).cells ({ frames := 4, cells := 0, slots := 0, locals := 53 } : Room).slots) := by
  refine MetFree.of_bodySF (plainFor_of_name pn_42) hisR ?_
  intro p e s m args below meth c s₁ Bd hml0 hP hK
  obtain ⟨rfl, hZ, hh⟩ := hP
  have hx := Bd.exec
  have hby := Bd.bytes
  have hml : c.maxLocals = 11 := hml0
  have hown : s.vm.findClass "com/example/xmax/xmax/queue/QueueStatusToStringPinLaw" = some m.cls := findClass_of_methodNamed Bd.named
  have hnm := (name_of_methodNamed Bd.named Bd.method).1
  have X0 : Stand p l e ({ frames := 4, cells := 0, slots := 0, locals := 53 } : Room) s m #[(.ref o0), (.int p1), (.int p2), (.long q3), (.int p5), (.long q6)] below meth c s₁ [] 0 0 := Stand.of_body Bd
  have e0 : s₁.heap = h0 := by rw [← hh, Bd.state]; rfl
  have N0 := Fr.nil n0
  obtain ⟨P, pre0, fin⟩ : ∃ P : State → Prop, (∀ t, Steps p.tables e below (s₁.setTop (mkF m 0 #[.val (.ref o0), .val (.int p1), .val (.int p2), .val (.long q3), .second, .val (.int p5), .val (.long q6), .second, .unset, .unset, .unset] [])) t → P t) ∧ (∀ t, P t → Steps p.tables e below (s₁.setTop (entryFrame m #[(.ref o0), (.int p1), (.int p2), (.long q3), (.int p5), (.long q6)] 11)) t) := ⟨fun t => Steps p.tables e below (s₁.setTop (entryFrame m #[(.ref o0), (.int p1), (.int p2), (.long q3), (.int p5), (.long q6)] 11)) t, fun t k => castTop (ef_42 m o0 p1 p2 q3 p5 q6) k, fun t k => k⟩
  have K0 : Keep h0 h0 [] := Keep.refl _ _
  have pre1 : ∀ t, Steps p.tables e below (s₁.setTop (mkF m 3 #[.val (.ref o0), .val (.int p1), .val (.int p2), .val (.long q3), .second, .val (.int p5), .val (.long q6), .second, .unset, .unset, .unset] [(.int p2), (.int p5)])) t → P t := fun t k => pre0 t (by
      refine XS.iload X0.here hx rfl (hb hby d42_0) rfl ?_
      refine XS.iloadN X0.here hx rfl (hb hby d42_2) rfl ?_
      exact k)
  by_cases hc2 : p5 < p2
  · have pre3 : ∀ t, Steps p.tables e below (s₁.setTop (mkF m 31 #[.val (.ref o0), .val (.int p1), .val (.int p2), .val (.long q3), .second, .val (.int p5), .val (.long q6), .second, .val (.int (((p1 + p2) - (1 : Int32)) - p5)), .val (.long ((q3 / q6) - ((q3 / q6) / (10 : Int64)) * (10 : Int64))), .second] [(.ref o0), (.int (((p1 + p2) - (1 : Int32)) - p5))])) t → P t := fun t k => pre1 t (by
        refine XS.icmpYes X0.here hx rfl (pc0 := 3) (pc' := 8) rfl (hb hby d42_3) rfl (tlt hc2).1 (by decide) (by decide) ?_
        refine XS.iloadN X0.here hx rfl (hb hby d42_8) rfl ?_
        refine XS.iloadN X0.here hx rfl (hb hby d42_9) rfl ?_
        refine XS.iadd X0.here hx rfl (hb hby d42_10) rfl ?_
        refine XS.iconst X0.here hx rfl (hb hby d42_11) ?_
        refine XS.isub X0.here hx rfl (hb hby d42_12) rfl ?_
        refine XS.iload X0.here hx rfl (hb hby d42_13) rfl ?_
        refine XS.isub X0.here hx rfl (hb hby d42_15) rfl ?_
        refine XS.istore X0.here hx rfl (hb hby d42_16) rfl (l' := #[.val (.ref o0), .val (.int p1), .val (.int p2), .val (.long q3), .second, .val (.int p5), .val (.long q6), .second, .val (.int (((p1 + p2) - (1 : Int32)) - p5)), .unset, .unset]) rfl ?_
        refine XS.lloadN X0.here hx rfl (hb hby d42_18) rfl ?_
        refine XS.lload X0.here hx rfl (hb hby d42_19) rfl ?_
        refine XS.ldiv X0.here hx rfl (hb hby d42_21) rfl (HD hc2).1 ?_
        refine X0.ldc2Long hx hown (mvT hZ (hi hw 223 rfl)) (g := (mkF m 22 #[.val (.ref o0), .val (.int p1), .val (.int p2), .val (.long q3), .second, .val (.int p5), .val (.long q6), .second, .val (.int (((p1 + p2) - (1 : Int32)) - p5)), .unset, .unset] [(.long (q3 / q6))])) rfl (hb hby d42_22) _ ?_
        refine XS.lrem X0.here hx rfl (hb hby d42_25) rfl (by decide) ?_
        refine XS.lstore X0.here hx rfl (hb hby d42_26) rfl (l' := #[.val (.ref o0), .val (.int p1), .val (.int p2), .val (.long q3), .second, .val (.int p5), .val (.long q6), .second, .val (.int (((p1 + p2) - (1 : Int32)) - p5)), .val (.long ((q3 / q6) - ((q3 / q6) / (10 : Int64)) * (10 : Int64))), .second]) rfl ?_
        refine XS.iload X0.here hx rfl (hb hby d42_28) rfl ?_
        refine XS.aloadN X0.here hx rfl (hb hby d42_30) rfl rfl ?_
        exact k)
    obtain ⟨cq4, kq4, q4a, q4b, q4c⟩ := isOf hZ e0 Pr_0
    obtain ⟨_, _, ⟨T4, L4, k4, n4⟩, -, X4, ⟨Lc4, hQ4, l4, y4, z4⟩, st4⟩ := X0.virtualBack hx (y := (⟨"java/lang/String", "length", "()I"⟩ : MethodName)) (z := (⟨"java/lang/String", "length", "()I"⟩ : MethodName)) hown (mvT hZ (hi hw 197 rfl)) (mvT hZ (hi hw 59 rfl)) (notFace_of_selects (args := #[]) (mvT hZ (hi hw 61 rfl))) (mvT hZ (hi hw 61 rfl)) (mvT hZ (hi hw 60 rfl)) (by decide) (backOf (W := 1) (rm8 l Z a0 hw [] o0 bv kv zv vs h0 n0 Z0 OLD0 Pr_0 Pr_1 Pr_2 Pr_3 HC) hZ (hi hw 62 rfl) (hi hw 36 rfl) (by decide) (by decide)) q4a q4c (g := (mkF m 31 #[.val (.ref o0), .val (.int p1), .val (.int p2), .val (.long q3), .second, .val (.int p5), .val (.long q6), .second, .val (.int (((p1 + p2) - (1 : Int32)) - p5)), .val (.long ((q3 / q6) - ((q3 / q6) / (10 : Int64)) * (10 : Int64))), .second] [(.ref o0), (.int (((p1 + p2) - (1 : Int32)) - p5))])) rfl (by rw [hml]; rfl) (Steps.refl _) (argsL := []) (rest := [(.int (((p1 + p2) - (1 : Int32)) - p5))]) (lenOf own_pd1 rfl) rfl (by show 2 * 0 + _ ≤ _; exact Nat.le_of_eq rfl) (hb hby d42_31) (fun _ _ => ⟨rfl, e0, (by decide : 0 + 0 ≤ _), (by decide : 0 + 0 ≤ _)⟩)
    dsimp only [Pt.U, Pt.locs, Pt.cells, Pt.slots] at X4 l4 y4 z4 st4 hQ4
    subst l4 y4 z4
    obtain ⟨rfl, N4q, e4⟩ := hQ4
    have N4 := Fr.app N0 N4q
    have pre4 : ∀ t, Steps p.tables e below (T4.setTop (mkF m 34 #[.val (.ref o0), .val (.int p1), .val (.int p2), .val (.long q3), .second, .val (.int p5), .val (.long q6), .second, .val (.int (((p1 + p2) - (1 : Int32)) - p5)), .val (.long ((q3 / q6) - ((q3 / q6) / (10 : Int64)) * (10 : Int64))), .second] [(.int zv), (.int (((p1 + p2) - (1 : Int32)) - p5))])) t → P t := fun t k => pre3 t (st4.trans k)
    have pre5 : ∀ t, Steps p.tables e below (T4.setTop (mkF m 40 #[.val (.ref o0), .val (.int p1), .val (.int p2), .val (.long q3), .second, .val (.int p5), .val (.long q6), .second, .val (.int (((p1 + p2) - (1 : Int32)) - p5)), .val (.long ((q3 / q6) - ((q3 / q6) / (10 : Int64)) * (10 : Int64))), .second] [(.int (((p1 + p2) - (1 : Int32)) - p5)), (.ref o0)])) t → P t := fun t k => pre4 t (by
        refine XS.icmpNo X4.here hx rfl (hb hby d42_34) rfl (tlt (show (((p1 + p2) - (1 : Int32)) - p5) < zv from (HD hc2).2.2.1)).2.1 ?_
        refine XS.aloadN X4.here hx rfl (hb hby d42_37) rfl rfl ?_
        refine XS.iload X4.here hx rfl (hb hby d42_38) rfl ?_
        exact k)
    obtain ⟨cq6, kq6, q6a, q6b, q6c⟩ := isOf hZ e4 Pr_0
    obtain ⟨_, _, ⟨T6, L6, k6, n6⟩, -, X6, ⟨Lc6, hQ6, l6, y6, z6⟩, st6⟩ := X4.virtualBack hx (y := (⟨"java/lang/String", "charAt", "(I)C"⟩ : MethodName)) (z := (⟨"java/lang/String", "charAt", "(I)C"⟩ : MethodName)) hown (mvT hZ (hi hw 198 rfl)) (mvT hZ (hi hw 199 rfl)) (notFace_of_selects (args := #[]) (mvT hZ (hi hw 201 rfl))) (mvT hZ (hi hw 201 rfl)) (mvT hZ (hi hw 200 rfl)) (by decide) (backOf (W := 0) (rm35 l Z a0 hw [] o0 (((p1 + p2) - (1 : Int32)) - p5) bv kv zv vs h0 n0 Z0 OLD0 Pr_0 Pr_1 Pr_2 Pr_3 HC (HD hc2).2.1 (HD hc2).2.2.1) hZ (hi hw 202 rfl) (hi hw 36 rfl) (by decide) (by decide)) q6a q6c (g := (mkF m 40 #[.val (.ref o0), .val (.int p1), .val (.int p2), .val (.long q3), .second, .val (.int p5), .val (.long q6), .second, .val (.int (((p1 + p2) - (1 : Int32)) - p5)), .val (.long ((q3 / q6) - ((q3 / q6) / (10 : Int64)) * (10 : Int64))), .second] [(.int (((p1 + p2) - (1 : Int32)) - p5)), (.ref o0)])) rfl (by rw [hml]; rfl) (Steps.refl _) (argsL := [(.int (((p1 + p2) - (1 : Int32)) - p5))]) (rest := []) (lenOf own_pd26 rfl) rfl (by show 2 * 0 + _ ≤ _; exact Nat.le_of_eq rfl) (hb hby d42_40) (fun _ _ => ⟨rfl, e4, (by decide : 0 + 0 ≤ _), (by decide : 0 + 0 ≤ _)⟩)
    dsimp only [Pt.U, Pt.locs, Pt.cells, Pt.slots] at X6 l6 y6 z6 st6 hQ6
    subst l6 y6 z6
    obtain ⟨rfl, N6q, e6⟩ := hQ6
    have N6 := Fr.app N4 N6q
    have pre6 : ∀ t, Steps p.tables e below (T6.setTop (mkF m 43 #[.val (.ref o0), .val (.int p1), .val (.int p2), .val (.long q3), .second, .val (.int p5), .val (.long q6), .second, .val (.int (((p1 + p2) - (1 : Int32)) - p5)), .val (.long ((q3 / q6) - ((q3 / q6) / (10 : Int64)) * (10 : Int64))), .second] [(.int (own_ca vs (((p1 + p2) - (1 : Int32)) - p5)))])) t → P t := fun t k => pre5 t (st6.trans k)
    have pre7 : ∀ t, Steps p.tables e below (T6.setTop (mkF m 58 #[.val (.ref o0), .val (.int p1), .val (.int p2), .val (.long q3), .second, .val (.int p5), .val (.long q6), .second, .val (.int (((p1 + p2) - (1 : Int32)) - p5)), .val (.long ((q3 / q6) - ((q3 / q6) / (10 : Int64)) * (10 : Int64))), .second] [(.int (1 : Int32))])) t → P t := fun t k => pre6 t (by
        refine XS.bipush X6.here hx rfl (hb hby d42_43) ?_
        refine XS.lload X6.here hx rfl (hb hby d42_45) rfl ?_
        refine XS.l2i X6.here hx rfl (hb hby d42_47) rfl ?_
        refine XS.isub X6.here hx rfl (hb hby d42_48) rfl ?_
        refine XS.i2c X6.here hx rfl (hb hby d42_49) rfl ?_
        refine XS.icmpNo X6.here hx rfl (hb hby d42_50) rfl (teq (show (own_ca vs (((p1 + p2) - (1 : Int32)) - p5)) = (((48 : Int32) - (((q3 / q6) - ((q3 / q6) / (10 : Int64)) * (10 : Int64)).toInt32)).toUInt32.toUInt16.toUInt32.toInt32) from (HD hc2).2.2.2)).2 ?_
        refine XS.iconst X6.here hx rfl (hb hby d42_53) ?_
        refine XS.goto X6.here hx rfl (pc0 := 54) (pc' := 58) rfl (hb hby d42_54) (by decide) (by decide) ?_
        exact k)
    obtain ⟨fs, hr, hrun, hended, hW, hsame⟩ := X6.leave (v := some (.int (1 : Int32))) (fun h => by rw [Bd.returns] at h; cases h)
    refine ⟨_, _, fin _ (pre7 _ ?_), hrun, hended, _, _, rfl, ?_, ⟨_, rfl⟩, hW, hsame.mono (by decide) (by decide)⟩
    · show Steps p.tables e below (T6.setTop (mkF m 58 #[.val (.ref o0), .val (.int p1), .val (.int p2), .val (.long q3), .second, .val (.int p5), .val (.long q6), .second, .val (.int (((p1 + p2) - (1 : Int32)) - p5)), .val (.long ((q3 / q6) - ((q3 / q6) / (10 : Int64)) * (10 : Int64))), .second] [(.int (1 : Int32))])) _
      exact retN X6 hx (t := .boolean) Bd.returns (by simp) (hb hby d42_58) hr
    · show Q42 Z o0 p1 p2 q3 p5 q6 bv kv zv vs h0 n0 _ T6.heap _
      rw [e6]
      exact ⟨rfl, N6, rfl⟩
  · have pre8 : ∀ t, Steps p.tables e below (s₁.setTop (mkF m 7 #[.val (.ref o0), .val (.int p1), .val (.int p2), .val (.long q3), .second, .val (.int p5), .val (.long q6), .second, .unset, .unset, .unset] [(.int (1 : Int32))])) t → P t := fun t k => pre1 t (by
        refine XS.icmpNo X0.here hx rfl (hb hby d42_3) rfl (flt hc2).1 ?_
        refine XS.iconst X0.here hx rfl (hb hby d42_6) ?_
        exact k)
    obtain ⟨fs, hr, hrun, hended, hW, hsame⟩ := X0.leave (v := some (.int (1 : Int32))) (fun h => by rw [Bd.returns] at h; cases h)
    refine ⟨_, _, fin _ (pre8 _ ?_), hrun, hended, _, _, rfl, ?_, ⟨_, rfl⟩, hW, hsame.mono (by decide) (by decide)⟩
    · show Steps p.tables e below (s₁.setTop (mkF m 7 #[.val (.ref o0), .val (.int p1), .val (.int p2), .val (.long q3), .second, .val (.int p5), .val (.long q6), .second, .unset, .unset, .unset] [(.int (1 : Int32))])) _
      exact retN X0 hx (t := .boolean) Bd.returns (by simp) (hb hby d42_7) hr
    · show Q42 Z o0 p1 p2 q3 p5 q6 bv kv zv vs h0 n0 _ s₁.heap _
      rw [e0]
      exact ⟨rfl, N0, rfl⟩
theorem own_pd28 : parseMethodDescriptor "(JJ)I" = some ⟨[.long, .long], some .int⟩ := by decide +kernel
theorem own_pd29 : parseMethodDescriptor "(Ljava/lang/String;IIJIJ)Z" = some ⟨[(.object "java/lang/String"), .int, .int, .long, .int, .long], some .boolean⟩ := by decide +kernel
theorem own_g40 {p : Program} {l : Launch} {e : Env} {s : State} {m : MethodId} {args : Array Value} {below : List Frame} {meth : Method} {c : Code} {Z : State} {a0 : Array Value} {P : State → Prop} {h0 : Heap} {n0 : Nat} {T : State} {L : List Loc} {o0 : Addr} {p1 p4 : Int32} {q2 x K : Int64} {b : Nat} (hx : p.tables.exec = Jvm.exec) (hZ : Z.Warmed39 s.vm) (hw : ∀ d ∈ tables_1, d.before a0 Z = true) (hown : s.vm.findClass "com/example/xmax/xmax/queue/QueueStatusToStringPinLaw" = some m.cls) (Z0 : n0 ≤ h0.size) (hml : c.maxLocals = 9) (X : Stand p l e ({ frames := 5, cells := 0, slots := 0, locals := 75 } : Room) s m args below meth c T L 0 0) (eT : T.heap = h0) (N : Fr n0 L) {S : Int32} {ix : Nat} (wk : (Cond.constantLong "com/example/xmax/xmax/queue/QueueStatusToStringPinLaw" ix K).before a0 Z = true) (d1 : decode c.code b = .ok (.lload 5, 2)) (d2 : decode c.code (b + 2) = .ok (.ldc2_w ix, 3)) (d3 : decode c.code (b + 5) = .ok (.invokestatic 50, 3)) (d4 : decode c.code (b + 8) = .ok (.iadd, 1)) (pre : (∀ t, Steps p.tables e below (T.setTop (mkF m b #[.val (.ref o0), .val (.int p1), .val (.long q2), .second, .val (.int p4), .val (.long x), .second, .unset, .unset] [(.int S)])) t → P t)) : ∃ (T2 : State) (L2 : List Loc), Stand p l e ({ frames := 5, cells := 0, slots := 0, locals := 75 } : Room) s m args below meth c T2 L2 0 0 ∧ T2.heap = h0 ∧ Fr n0 L2 ∧ (∀ t, Steps p.tables e below (T2.setTop (mkF m (b + 9) #[.val (.ref o0), .val (.int p1), .val (.long q2), .second, .val (.int p4), .val (.long x), .second, .unset, .unset] [(.int (S + (own_f41 x K)))])) t → P t) := by
  have pre1 : (∀ t, Steps p.tables e below (T.setTop (mkF m (b + 5) #[.val (.ref o0), .val (.int p1), .val (.long q2), .second, .val (.int p4), .val (.long x), .second, .unset, .unset] [(.long K), (.long x), (.int S)])) t → P t) := fun t k => pre t (by
    refine XS.lload X.here hx rfl d1 rfl ?_
    refine X.ldc2Long hx hown (mvT hZ wk) (g := (mkF m (b + 2) #[.val (.ref o0), .val (.int p1), .val (.long q2), .second, .val (.int p4), .val (.long x), .second, .unset, .unset] [(.long x), (.int S)])) rfl d2 _ ?_
    exact k)
  obtain ⟨_, _, ⟨T2, L2, k2, n2⟩, -, X2, ⟨Lc, hQ, l2, y2, z2⟩, st⟩ := Jvm.LawKit.callS X hx (y := (⟨"com/example/xmax/xmax/queue/QueueStatusToStringPinLaw", "ge", "(JJ)I"⟩ : MethodName)) hown (mvT hZ (hi hw 224 rfl)) (mvT hZ (hi hw 225 rfl)) (mvT hZ (hi hw 192 rfl)) (mvT hZ (hi hw 226 rfl)) (by decide) (backOf (W := 1) (rm41 l Z a0 hw [] x K h0 n0 Z0 ) hZ (hi hw 226 rfl) (hi hw 192 rfl) (by decide) (by decide)) (g := (mkF m (b + 5) #[.val (.ref o0), .val (.int p1), .val (.long q2), .second, .val (.int p4), .val (.long x), .second, .unset, .unset] [(.long K), (.long x), (.int S)])) rfl (by rw [hml]; rfl) (argsL := [(.long x), (.long K)]) (rest := [(.int S)]) (lenOf own_pd28 rfl) rfl (by show 2 * 0 + _ ≤ _; exact Nat.le_of_eq rfl) d3 (fun _ _ => ⟨rfl, eT, (by decide : 0 + 0 ≤ _), (by decide : 0 + 0 ≤ _)⟩)
  dsimp only [Pt.U, Pt.locs, Pt.cells, Pt.slots] at X2 l2 y2 z2 st hQ
  subst l2 y2 z2
  obtain ⟨rfl, Nq, e2⟩ := hQ
  exact ⟨T2, _, X2, e2, Fr.app N Nq, fun t k => pre1 t (st _ (by
    refine XS.iadd X2.here hx rfl d4 rfl ?_
    exact k))⟩
theorem own_d40 {p : Program} {l : Launch} {e : Env} {s : State} {m : MethodId} {args : Array Value} {below : List Frame} {meth : Method} {c : Code} {Z : State} {a0 : Array Value} {P : State → Prop} {h0 : Heap} {n0 : Nat} {T : State} {L : List Loc} {o0 : Addr} {p1 p4 : Int32} {q2 x K : Int64} {b : Nat} (hx : p.tables.exec = Jvm.exec) (hZ : Z.Warmed39 s.vm) (hw : ∀ d ∈ tables_1, d.before a0 Z = true) (hown : s.vm.findClass "com/example/xmax/xmax/queue/QueueStatusToStringPinLaw" = some m.cls) (Z0 : n0 ≤ h0.size) (hml : c.maxLocals = 9) (X : Stand p l e ({ frames := 5, cells := 0, slots := 0, locals := 75 } : Room) s m args below meth c T L 0 0) (eT : T.heap = h0) (N : Fr n0 L) {w k5 : Int32} {off : Int} {bv : Addr} {kv : ClassId} {zv : Int32} {vs : List Int32} (OLD0 : Old Z n0 h0) (Pr_0 : Exa Z h0 o0 "java/lang/String") (Pr_1 : Fld Z h0 o0 "java/lang/String" "coder" "B" (.int (0 : Int32))) (Pr_2 : Fld Z h0 o0 "java/lang/String" "value" "[B" (.ref bv)) (Pr_3 : Arv Z h0 bv kv .byte zv (own_v vs) (.int 0)) (HC : own_CC Z) (HD : own_dh zv vs p4 w x k5 K) (d3 : decode c.code b = .ok (.invokestatic 88, 3)) (d4 : decode c.code (b + 3) = .ok (.ifCond .eq off, 3)) (pre : (∀ t, Steps p.tables e below (T.setTop (mkF m b #[.val (.ref o0), .val (.int p1), .val (.long q2), .second, .val (.int p4), .val (.long x), .second, .val (.int w), .unset] [(.long K), (.int k5), (.long x), (.int w), (.int p4), (.ref o0)])) t → P t)) : ∃ (T2 : State) (L2 : List Loc), Stand p l e ({ frames := 5, cells := 0, slots := 0, locals := 75 } : Room) s m args below meth c T2 L2 0 0 ∧ T2.heap = h0 ∧ Fr n0 L2 ∧ (∀ t, Steps p.tables e below (T2.setTop (mkF m (b + 6) #[.val (.ref o0), .val (.int p1), .val (.long q2), .second, .val (.int p4), .val (.long x), .second, .val (.int w), .unset] [])) t → P t) := by
  obtain ⟨_, _, ⟨T2, L2, k2, n2⟩, -, X2, ⟨Lc, hQ, l2, y2, z2⟩, st⟩ := Jvm.LawKit.callS X hx (y := (⟨"com/example/xmax/xmax/queue/QueueStatusToStringPinLaw", "dig", "(Ljava/lang/String;IIJIJ)Z"⟩ : MethodName)) hown (mvT hZ (hi hw 244 rfl)) (mvT hZ (hi hw 245 rfl)) (mvT hZ (hi hw 192 rfl)) (mvT hZ (hi hw 246 rfl)) (by decide) (backOf (W := 0) (rm42 l Z a0 hw [] o0 p4 w x k5 K bv kv zv vs h0 n0 Z0 OLD0 Pr_0 Pr_1 Pr_2 Pr_3 HC HD) hZ (hi hw 246 rfl) (hi hw 192 rfl) (by decide) (by decide)) (g := (mkF m b #[.val (.ref o0), .val (.int p1), .val (.long q2), .second, .val (.int p4), .val (.long x), .second, .val (.int w), .unset] [(.long K), (.int k5), (.long x), (.int w), (.int p4), (.ref o0)])) rfl (by rw [hml]; rfl) (argsL := [(.ref o0), (.int p4), (.int w), (.long x), (.int k5), (.long K)]) (rest := []) (lenOf own_pd29 rfl) rfl (by show 2 * 0 + _ ≤ _; exact Nat.le_of_eq rfl) d3 (fun _ _ => ⟨rfl, eT, (by decide : 0 + 0 ≤ _), (by decide : 0 + 0 ≤ _)⟩)
  dsimp only [Pt.U, Pt.locs, Pt.cells, Pt.slots] at X2 l2 y2 z2 st hQ
  subst l2 y2 z2
  obtain ⟨rfl, Nq, e2⟩ := hQ
  exact ⟨T2, _, X2, e2, Fr.app N Nq, fun t k => pre t (st _ (by
    refine XS.ifNo X2.here hx rfl d4 rfl ((if0 _ _).trans (feq (by decide : ¬ ((1 : Int32) = (0 : Int32)))).1) ?_
    exact k))⟩
theorem d40_0 : decode method_5_code 0 = .ok (.iload_n 1, 1) := by decide +kernel
theorem d40_1 : decode method_5_code 1 = .ok (.ifCond .ge 5, 3) := by decide +kernel
theorem d40_6 : decode method_5_code 6 = .ok (.iload_n 1, 1) := by decide +kernel
theorem d40_7 : decode method_5_code 7 = .ok (.istore 4, 2) := by decide +kernel
theorem d40_9 : decode method_5_code 9 = .ok (.lload_n 2, 1) := by decide +kernel
theorem d40_10 : decode method_5_code 10 = .ok (.lconst 0, 1) := by decide +kernel
theorem d40_11 : decode method_5_code 11 = .ok (.lcmp, 1) := by decide +kernel
theorem d40_12 : decode method_5_code 12 = .ok (.ifCond .ge 31, 3) := by decide +kernel
theorem d40_15 : decode method_5_code 15 = .ok (.iload 4, 2) := by decide +kernel
theorem d40_17 : decode method_5_code 17 = .ok (.aload_n 0, 1) := by decide +kernel
theorem d40_18 : decode method_5_code 18 = .ok (.invokevirtual 34, 3) := by decide +kernel
theorem d40_21 : decode method_5_code 21 = .ok (.if_icmp .ge 14, 3) := by decide +kernel
theorem d40_24 : decode method_5_code 24 = .ok (.aload_n 0, 1) := by decide +kernel
theorem d40_25 : decode method_5_code 25 = .ok (.iload 4, 2) := by decide +kernel
theorem d40_27 : decode method_5_code 27 = .ok (.invokevirtual 44, 3) := by decide +kernel
theorem d40_30 : decode method_5_code 30 = .ok (.bipush 45, 2) := by decide +kernel
theorem d40_32 : decode method_5_code 32 = .ok (.if_icmp .eq 5, 3) := by decide +kernel
theorem d40_37 : decode method_5_code 37 = .ok (.iload 4, 2) := by decide +kernel
theorem d40_39 : decode method_5_code 39 = .ok (.iconst 1, 1) := by decide +kernel
theorem d40_40 : decode method_5_code 40 = .ok (.iadd, 1) := by decide +kernel
theorem d40_41 : decode method_5_code 41 = .ok (.istore 4, 2) := by decide +kernel
theorem d40_43 : decode method_5_code 43 = .ok (.lload_n 2, 1) := by decide +kernel
theorem d40_44 : decode method_5_code 44 = .ok (.lconst 0, 1) := by decide +kernel
theorem d40_45 : decode method_5_code 45 = .ok (.lcmp, 1) := by decide +kernel
theorem d40_46 : decode method_5_code 46 = .ok (.ifCond .ge 7, 3) := by decide +kernel
theorem d40_49 : decode method_5_code 49 = .ok (.lload_n 2, 1) := by decide +kernel
theorem d40_50 : decode method_5_code 50 = .ok (.goto 5, 3) := by decide +kernel
theorem d40_53 : decode method_5_code 53 = .ok (.lload_n 2, 1) := by decide +kernel
theorem d40_54 : decode method_5_code 54 = .ok (.lneg, 1) := by decide +kernel
theorem d40_55 : decode method_5_code 55 = .ok (.lstore 5, 2) := by decide +kernel
theorem d40_57 : decode method_5_code 57 = .ok (.iconst 1, 1) := by decide +kernel
theorem d40_58 : decode method_5_code 58 = .ok (.lload 5, 2) := by decide +kernel
theorem d40_60 : decode method_5_code 60 = .ok (.ldc2_w 48, 3) := by decide +kernel
theorem d40_63 : decode method_5_code 63 = .ok (.invokestatic 50, 3) := by decide +kernel
theorem d40_66 : decode method_5_code 66 = .ok (.iadd, 1) := by decide +kernel
theorem d40_67 : decode method_5_code 67 = .ok (.lload 5, 2) := by decide +kernel
theorem d40_69 : decode method_5_code 69 = .ok (.ldc2_w 54, 3) := by decide +kernel
theorem d40_72 : decode method_5_code 72 = .ok (.invokestatic 50, 3) := by decide +kernel
theorem d40_75 : decode method_5_code 75 = .ok (.iadd, 1) := by decide +kernel
theorem d40_76 : decode method_5_code 76 = .ok (.lload 5, 2) := by decide +kernel
theorem d40_78 : decode method_5_code 78 = .ok (.ldc2_w 56, 3) := by decide +kernel
theorem d40_81 : decode method_5_code 81 = .ok (.invokestatic 50, 3) := by decide +kernel
theorem d40_84 : decode method_5_code 84 = .ok (.iadd, 1) := by decide +kernel
theorem d40_85 : decode method_5_code 85 = .ok (.lload 5, 2) := by decide +kernel
theorem d40_87 : decode method_5_code 87 = .ok (.ldc2_w 58, 3) := by decide +kernel
theorem d40_90 : decode method_5_code 90 = .ok (.invokestatic 50, 3) := by decide +kernel
theorem d40_93 : decode method_5_code 93 = .ok (.iadd, 1) := by decide +kernel
theorem d40_94 : decode method_5_code 94 = .ok (.lload 5, 2) := by decide +kernel
theorem d40_96 : decode method_5_code 96 = .ok (.ldc2_w 60, 3) := by decide +kernel
theorem d40_99 : decode method_5_code 99 = .ok (.invokestatic 50, 3) := by decide +kernel
theorem d40_102 : decode method_5_code 102 = .ok (.iadd, 1) := by decide +kernel
theorem d40_103 : decode method_5_code 103 = .ok (.lload 5, 2) := by decide +kernel
theorem d40_105 : decode method_5_code 105 = .ok (.ldc2_w 62, 3) := by decide +kernel
theorem d40_108 : decode method_5_code 108 = .ok (.invokestatic 50, 3) := by decide +kernel
theorem d40_111 : decode method_5_code 111 = .ok (.iadd, 1) := by decide +kernel
theorem d40_112 : decode method_5_code 112 = .ok (.lload 5, 2) := by decide +kernel
theorem d40_114 : decode method_5_code 114 = .ok (.ldc2_w 64, 3) := by decide +kernel
theorem d40_117 : decode method_5_code 117 = .ok (.invokestatic 50, 3) := by decide +kernel
theorem d40_120 : decode method_5_code 120 = .ok (.iadd, 1) := by decide +kernel
theorem d40_121 : decode method_5_code 121 = .ok (.lload 5, 2) := by decide +kernel
theorem d40_123 : decode method_5_code 123 = .ok (.ldc2_w 66, 3) := by decide +kernel
theorem d40_126 : decode method_5_code 126 = .ok (.invokestatic 50, 3) := by decide +kernel
theorem d40_129 : decode method_5_code 129 = .ok (.iadd, 1) := by decide +kernel
theorem d40_130 : decode method_5_code 130 = .ok (.lload 5, 2) := by decide +kernel
theorem d40_132 : decode method_5_code 132 = .ok (.ldc2_w 68, 3) := by decide +kernel
theorem d40_135 : decode method_5_code 135 = .ok (.invokestatic 50, 3) := by decide +kernel
theorem d40_138 : decode method_5_code 138 = .ok (.iadd, 1) := by decide +kernel
theorem d40_139 : decode method_5_code 139 = .ok (.lload 5, 2) := by decide +kernel
theorem d40_141 : decode method_5_code 141 = .ok (.ldc2_w 70, 3) := by decide +kernel
theorem d40_144 : decode method_5_code 144 = .ok (.invokestatic 50, 3) := by decide +kernel
theorem d40_147 : decode method_5_code 147 = .ok (.iadd, 1) := by decide +kernel
theorem d40_148 : decode method_5_code 148 = .ok (.lload 5, 2) := by decide +kernel
theorem d40_150 : decode method_5_code 150 = .ok (.ldc2_w 72, 3) := by decide +kernel
theorem d40_153 : decode method_5_code 153 = .ok (.invokestatic 50, 3) := by decide +kernel
theorem d40_156 : decode method_5_code 156 = .ok (.iadd, 1) := by decide +kernel
theorem d40_157 : decode method_5_code 157 = .ok (.lload 5, 2) := by decide +kernel
theorem d40_159 : decode method_5_code 159 = .ok (.ldc2_w 74, 3) := by decide +kernel
theorem d40_162 : decode method_5_code 162 = .ok (.invokestatic 50, 3) := by decide +kernel
theorem d40_165 : decode method_5_code 165 = .ok (.iadd, 1) := by decide +kernel
theorem d40_166 : decode method_5_code 166 = .ok (.lload 5, 2) := by decide +kernel
theorem d40_168 : decode method_5_code 168 = .ok (.ldc2_w 76, 3) := by decide +kernel
theorem d40_171 : decode method_5_code 171 = .ok (.invokestatic 50, 3) := by decide +kernel
theorem d40_174 : decode method_5_code 174 = .ok (.iadd, 1) := by decide +kernel
theorem d40_175 : decode method_5_code 175 = .ok (.lload 5, 2) := by decide +kernel
theorem d40_177 : decode method_5_code 177 = .ok (.ldc2_w 78, 3) := by decide +kernel
theorem d40_180 : decode method_5_code 180 = .ok (.invokestatic 50, 3) := by decide +kernel
theorem d40_183 : decode method_5_code 183 = .ok (.iadd, 1) := by decide +kernel
theorem d40_184 : decode method_5_code 184 = .ok (.lload 5, 2) := by decide +kernel
theorem d40_186 : decode method_5_code 186 = .ok (.ldc2_w 80, 3) := by decide +kernel
theorem d40_189 : decode method_5_code 189 = .ok (.invokestatic 50, 3) := by decide +kernel
theorem d40_192 : decode method_5_code 192 = .ok (.iadd, 1) := by decide +kernel
theorem d40_193 : decode method_5_code 193 = .ok (.lload 5, 2) := by decide +kernel
theorem d40_195 : decode method_5_code 195 = .ok (.ldc2_w 82, 3) := by decide +kernel
theorem d40_198 : decode method_5_code 198 = .ok (.invokestatic 50, 3) := by decide +kernel
theorem d40_201 : decode method_5_code 201 = .ok (.iadd, 1) := by decide +kernel
theorem d40_202 : decode method_5_code 202 = .ok (.lload 5, 2) := by decide +kernel
theorem d40_204 : decode method_5_code 204 = .ok (.ldc2_w 84, 3) := by decide +kernel
theorem d40_207 : decode method_5_code 207 = .ok (.invokestatic 50, 3) := by decide +kernel
theorem d40_210 : decode method_5_code 210 = .ok (.iadd, 1) := by decide +kernel
theorem d40_211 : decode method_5_code 211 = .ok (.lload 5, 2) := by decide +kernel
theorem d40_213 : decode method_5_code 213 = .ok (.ldc2_w 86, 3) := by decide +kernel
theorem d40_216 : decode method_5_code 216 = .ok (.invokestatic 50, 3) := by decide +kernel
theorem d40_219 : decode method_5_code 219 = .ok (.iadd, 1) := by decide +kernel
theorem d40_220 : decode method_5_code 220 = .ok (.istore 7, 2) := by decide +kernel
theorem d40_222 : decode method_5_code 222 = .ok (.aload_n 0, 1) := by decide +kernel
theorem d40_223 : decode method_5_code 223 = .ok (.iload 4, 2) := by decide +kernel
theorem d40_225 : decode method_5_code 225 = .ok (.iload 7, 2) := by decide +kernel
theorem d40_227 : decode method_5_code 227 = .ok (.lload 5, 2) := by decide +kernel
theorem d40_229 : decode method_5_code 229 = .ok (.iconst 0, 1) := by decide +kernel
theorem d40_230 : decode method_5_code 230 = .ok (.lconst 1, 1) := by decide +kernel
theorem d40_231 : decode method_5_code 231 = .ok (.invokestatic 88, 3) := by decide +kernel
theorem d40_234 : decode method_5_code 234 = .ok (.ifCond .eq 326, 3) := by decide +kernel
theorem d40_237 : decode method_5_code 237 = .ok (.aload_n 0, 1) := by decide +kernel
theorem d40_238 : decode method_5_code 238 = .ok (.iload 4, 2) := by decide +kernel
theorem d40_240 : decode method_5_code 240 = .ok (.iload 7, 2) := by decide +kernel
theorem d40_242 : decode method_5_code 242 = .ok (.lload 5, 2) := by decide +kernel
theorem d40_244 : decode method_5_code 244 = .ok (.iconst 1, 1) := by decide +kernel
theorem d40_245 : decode method_5_code 245 = .ok (.ldc2_w 48, 3) := by decide +kernel
theorem d40_248 : decode method_5_code 248 = .ok (.invokestatic 88, 3) := by decide +kernel
theorem d40_251 : decode method_5_code 251 = .ok (.ifCond .eq 309, 3) := by decide +kernel
theorem d40_254 : decode method_5_code 254 = .ok (.aload_n 0, 1) := by decide +kernel
theorem d40_255 : decode method_5_code 255 = .ok (.iload 4, 2) := by decide +kernel
theorem d40_257 : decode method_5_code 257 = .ok (.iload 7, 2) := by decide +kernel
theorem d40_259 : decode method_5_code 259 = .ok (.lload 5, 2) := by decide +kernel
theorem d40_261 : decode method_5_code 261 = .ok (.iconst 2, 1) := by decide +kernel
theorem d40_262 : decode method_5_code 262 = .ok (.ldc2_w 54, 3) := by decide +kernel
theorem d40_265 : decode method_5_code 265 = .ok (.invokestatic 88, 3) := by decide +kernel
theorem d40_268 : decode method_5_code 268 = .ok (.ifCond .eq 292, 3) := by decide +kernel
theorem d40_271 : decode method_5_code 271 = .ok (.aload_n 0, 1) := by decide +kernel
theorem d40_272 : decode method_5_code 272 = .ok (.iload 4, 2) := by decide +kernel
theorem d40_274 : decode method_5_code 274 = .ok (.iload 7, 2) := by decide +kernel
theorem d40_276 : decode method_5_code 276 = .ok (.lload 5, 2) := by decide +kernel
theorem d40_278 : decode method_5_code 278 = .ok (.iconst 3, 1) := by decide +kernel
theorem d40_279 : decode method_5_code 279 = .ok (.ldc2_w 56, 3) := by decide +kernel
theorem d40_282 : decode method_5_code 282 = .ok (.invokestatic 88, 3) := by decide +kernel
theorem d40_285 : decode method_5_code 285 = .ok (.ifCond .eq 275, 3) := by decide +kernel
theorem d40_288 : decode method_5_code 288 = .ok (.aload_n 0, 1) := by decide +kernel
theorem d40_289 : decode method_5_code 289 = .ok (.iload 4, 2) := by decide +kernel
theorem d40_291 : decode method_5_code 291 = .ok (.iload 7, 2) := by decide +kernel
theorem d40_293 : decode method_5_code 293 = .ok (.lload 5, 2) := by decide +kernel
theorem d40_295 : decode method_5_code 295 = .ok (.iconst 4, 1) := by decide +kernel
theorem d40_296 : decode method_5_code 296 = .ok (.ldc2_w 58, 3) := by decide +kernel
theorem d40_299 : decode method_5_code 299 = .ok (.invokestatic 88, 3) := by decide +kernel
theorem d40_302 : decode method_5_code 302 = .ok (.ifCond .eq 258, 3) := by decide +kernel
theorem d40_305 : decode method_5_code 305 = .ok (.aload_n 0, 1) := by decide +kernel
theorem d40_306 : decode method_5_code 306 = .ok (.iload 4, 2) := by decide +kernel
theorem d40_308 : decode method_5_code 308 = .ok (.iload 7, 2) := by decide +kernel
theorem d40_310 : decode method_5_code 310 = .ok (.lload 5, 2) := by decide +kernel
theorem d40_312 : decode method_5_code 312 = .ok (.iconst 5, 1) := by decide +kernel
theorem d40_313 : decode method_5_code 313 = .ok (.ldc2_w 60, 3) := by decide +kernel
theorem d40_316 : decode method_5_code 316 = .ok (.invokestatic 88, 3) := by decide +kernel
theorem d40_319 : decode method_5_code 319 = .ok (.ifCond .eq 241, 3) := by decide +kernel
theorem d40_322 : decode method_5_code 322 = .ok (.aload_n 0, 1) := by decide +kernel
theorem d40_323 : decode method_5_code 323 = .ok (.iload 4, 2) := by decide +kernel
theorem d40_325 : decode method_5_code 325 = .ok (.iload 7, 2) := by decide +kernel
theorem d40_327 : decode method_5_code 327 = .ok (.lload 5, 2) := by decide +kernel
theorem d40_329 : decode method_5_code 329 = .ok (.bipush 6, 2) := by decide +kernel
theorem d40_331 : decode method_5_code 331 = .ok (.ldc2_w 62, 3) := by decide +kernel
theorem d40_334 : decode method_5_code 334 = .ok (.invokestatic 88, 3) := by decide +kernel
theorem d40_337 : decode method_5_code 337 = .ok (.ifCond .eq 223, 3) := by decide +kernel
theorem d40_340 : decode method_5_code 340 = .ok (.aload_n 0, 1) := by decide +kernel
theorem d40_341 : decode method_5_code 341 = .ok (.iload 4, 2) := by decide +kernel
theorem d40_343 : decode method_5_code 343 = .ok (.iload 7, 2) := by decide +kernel
theorem d40_345 : decode method_5_code 345 = .ok (.lload 5, 2) := by decide +kernel
theorem d40_347 : decode method_5_code 347 = .ok (.bipush 7, 2) := by decide +kernel
theorem d40_349 : decode method_5_code 349 = .ok (.ldc2_w 64, 3) := by decide +kernel
theorem d40_352 : decode method_5_code 352 = .ok (.invokestatic 88, 3) := by decide +kernel
theorem d40_355 : decode method_5_code 355 = .ok (.ifCond .eq 205, 3) := by decide +kernel
theorem d40_358 : decode method_5_code 358 = .ok (.aload_n 0, 1) := by decide +kernel
theorem d40_359 : decode method_5_code 359 = .ok (.iload 4, 2) := by decide +kernel
theorem d40_361 : decode method_5_code 361 = .ok (.iload 7, 2) := by decide +kernel
theorem d40_363 : decode method_5_code 363 = .ok (.lload 5, 2) := by decide +kernel
theorem d40_365 : decode method_5_code 365 = .ok (.bipush 8, 2) := by decide +kernel
theorem d40_367 : decode method_5_code 367 = .ok (.ldc2_w 66, 3) := by decide +kernel
theorem d40_370 : decode method_5_code 370 = .ok (.invokestatic 88, 3) := by decide +kernel
theorem d40_373 : decode method_5_code 373 = .ok (.ifCond .eq 187, 3) := by decide +kernel
theorem d40_376 : decode method_5_code 376 = .ok (.aload_n 0, 1) := by decide +kernel
theorem d40_377 : decode method_5_code 377 = .ok (.iload 4, 2) := by decide +kernel
theorem d40_379 : decode method_5_code 379 = .ok (.iload 7, 2) := by decide +kernel
theorem d40_381 : decode method_5_code 381 = .ok (.lload 5, 2) := by decide +kernel
theorem d40_383 : decode method_5_code 383 = .ok (.bipush 9, 2) := by decide +kernel
theorem d40_385 : decode method_5_code 385 = .ok (.ldc2_w 68, 3) := by decide +kernel
theorem d40_388 : decode method_5_code 388 = .ok (.invokestatic 88, 3) := by decide +kernel
theorem d40_391 : decode method_5_code 391 = .ok (.ifCond .eq 169, 3) := by decide +kernel
theorem d40_394 : decode method_5_code 394 = .ok (.aload_n 0, 1) := by decide +kernel
theorem d40_395 : decode method_5_code 395 = .ok (.iload 4, 2) := by decide +kernel
theorem d40_397 : decode method_5_code 397 = .ok (.iload 7, 2) := by decide +kernel
theorem d40_399 : decode method_5_code 399 = .ok (.lload 5, 2) := by decide +kernel
theorem d40_401 : decode method_5_code 401 = .ok (.bipush 10, 2) := by decide +kernel
theorem d40_403 : decode method_5_code 403 = .ok (.ldc2_w 70, 3) := by decide +kernel
theorem d40_406 : decode method_5_code 406 = .ok (.invokestatic 88, 3) := by decide +kernel
theorem d40_409 : decode method_5_code 409 = .ok (.ifCond .eq 151, 3) := by decide +kernel
theorem d40_412 : decode method_5_code 412 = .ok (.aload_n 0, 1) := by decide +kernel
theorem d40_413 : decode method_5_code 413 = .ok (.iload 4, 2) := by decide +kernel
theorem d40_415 : decode method_5_code 415 = .ok (.iload 7, 2) := by decide +kernel
theorem d40_417 : decode method_5_code 417 = .ok (.lload 5, 2) := by decide +kernel
theorem d40_419 : decode method_5_code 419 = .ok (.bipush 11, 2) := by decide +kernel
theorem d40_421 : decode method_5_code 421 = .ok (.ldc2_w 72, 3) := by decide +kernel
theorem d40_424 : decode method_5_code 424 = .ok (.invokestatic 88, 3) := by decide +kernel
theorem d40_427 : decode method_5_code 427 = .ok (.ifCond .eq 133, 3) := by decide +kernel
theorem d40_430 : decode method_5_code 430 = .ok (.aload_n 0, 1) := by decide +kernel
theorem d40_431 : decode method_5_code 431 = .ok (.iload 4, 2) := by decide +kernel
theorem d40_433 : decode method_5_code 433 = .ok (.iload 7, 2) := by decide +kernel
theorem d40_435 : decode method_5_code 435 = .ok (.lload 5, 2) := by decide +kernel
theorem d40_437 : decode method_5_code 437 = .ok (.bipush 12, 2) := by decide +kernel
theorem d40_439 : decode method_5_code 439 = .ok (.ldc2_w 74, 3) := by decide +kernel
theorem d40_442 : decode method_5_code 442 = .ok (.invokestatic 88, 3) := by decide +kernel
theorem d40_445 : decode method_5_code 445 = .ok (.ifCond .eq 115, 3) := by decide +kernel
theorem d40_448 : decode method_5_code 448 = .ok (.aload_n 0, 1) := by decide +kernel
theorem d40_449 : decode method_5_code 449 = .ok (.iload 4, 2) := by decide +kernel
theorem d40_451 : decode method_5_code 451 = .ok (.iload 7, 2) := by decide +kernel
theorem d40_453 : decode method_5_code 453 = .ok (.lload 5, 2) := by decide +kernel
theorem d40_455 : decode method_5_code 455 = .ok (.bipush 13, 2) := by decide +kernel
theorem d40_457 : decode method_5_code 457 = .ok (.ldc2_w 76, 3) := by decide +kernel
theorem d40_460 : decode method_5_code 460 = .ok (.invokestatic 88, 3) := by decide +kernel
theorem d40_463 : decode method_5_code 463 = .ok (.ifCond .eq 97, 3) := by decide +kernel
theorem d40_466 : decode method_5_code 466 = .ok (.aload_n 0, 1) := by decide +kernel
theorem d40_467 : decode method_5_code 467 = .ok (.iload 4, 2) := by decide +kernel
theorem d40_469 : decode method_5_code 469 = .ok (.iload 7, 2) := by decide +kernel
theorem d40_471 : decode method_5_code 471 = .ok (.lload 5, 2) := by decide +kernel
theorem d40_473 : decode method_5_code 473 = .ok (.bipush 14, 2) := by decide +kernel
theorem d40_475 : decode method_5_code 475 = .ok (.ldc2_w 78, 3) := by decide +kernel
theorem d40_478 : decode method_5_code 478 = .ok (.invokestatic 88, 3) := by decide +kernel
theorem d40_481 : decode method_5_code 481 = .ok (.ifCond .eq 79, 3) := by decide +kernel
theorem d40_484 : decode method_5_code 484 = .ok (.aload_n 0, 1) := by decide +kernel
theorem d40_485 : decode method_5_code 485 = .ok (.iload 4, 2) := by decide +kernel
theorem d40_487 : decode method_5_code 487 = .ok (.iload 7, 2) := by decide +kernel
theorem d40_489 : decode method_5_code 489 = .ok (.lload 5, 2) := by decide +kernel
theorem d40_491 : decode method_5_code 491 = .ok (.bipush 15, 2) := by decide +kernel
theorem d40_493 : decode method_5_code 493 = .ok (.ldc2_w 80, 3) := by decide +kernel
theorem d40_496 : decode method_5_code 496 = .ok (.invokestatic 88, 3) := by decide +kernel
theorem d40_499 : decode method_5_code 499 = .ok (.ifCond .eq 61, 3) := by decide +kernel
theorem d40_502 : decode method_5_code 502 = .ok (.aload_n 0, 1) := by decide +kernel
theorem d40_503 : decode method_5_code 503 = .ok (.iload 4, 2) := by decide +kernel
theorem d40_505 : decode method_5_code 505 = .ok (.iload 7, 2) := by decide +kernel
theorem d40_507 : decode method_5_code 507 = .ok (.lload 5, 2) := by decide +kernel
theorem d40_509 : decode method_5_code 509 = .ok (.bipush 16, 2) := by decide +kernel
theorem d40_511 : decode method_5_code 511 = .ok (.ldc2_w 82, 3) := by decide +kernel
theorem d40_514 : decode method_5_code 514 = .ok (.invokestatic 88, 3) := by decide +kernel
theorem d40_517 : decode method_5_code 517 = .ok (.ifCond .eq 43, 3) := by decide +kernel
theorem d40_520 : decode method_5_code 520 = .ok (.aload_n 0, 1) := by decide +kernel
theorem d40_521 : decode method_5_code 521 = .ok (.iload 4, 2) := by decide +kernel
theorem d40_523 : decode method_5_code 523 = .ok (.iload 7, 2) := by decide +kernel
theorem d40_525 : decode method_5_code 525 = .ok (.lload 5, 2) := by decide +kernel
theorem d40_527 : decode method_5_code 527 = .ok (.bipush 17, 2) := by decide +kernel
theorem d40_529 : decode method_5_code 529 = .ok (.ldc2_w 84, 3) := by decide +kernel
theorem d40_532 : decode method_5_code 532 = .ok (.invokestatic 88, 3) := by decide +kernel
theorem d40_535 : decode method_5_code 535 = .ok (.ifCond .eq 25, 3) := by decide +kernel
theorem d40_538 : decode method_5_code 538 = .ok (.aload_n 0, 1) := by decide +kernel
theorem d40_539 : decode method_5_code 539 = .ok (.iload 4, 2) := by decide +kernel
theorem d40_541 : decode method_5_code 541 = .ok (.iload 7, 2) := by decide +kernel
theorem d40_543 : decode method_5_code 543 = .ok (.lload 5, 2) := by decide +kernel
theorem d40_545 : decode method_5_code 545 = .ok (.bipush 18, 2) := by decide +kernel
theorem d40_547 : decode method_5_code 547 = .ok (.ldc2_w 86, 3) := by decide +kernel
theorem d40_550 : decode method_5_code 550 = .ok (.invokestatic 88, 3) := by decide +kernel
theorem d40_553 : decode method_5_code 553 = .ok (.ifCond .eq 7, 3) := by decide +kernel
theorem d40_556 : decode method_5_code 556 = .ok (.iconst 1, 1) := by decide +kernel
theorem d40_557 : decode method_5_code 557 = .ok (.goto 4, 3) := by decide +kernel
theorem d40_561 : decode method_5_code 561 = .ok (.istore 8, 2) := by decide +kernel
theorem d40_563 : decode method_5_code 563 = .ok (.iload 8, 2) := by decide +kernel
theorem d40_565 : decode method_5_code 565 = .ok (.ifCond .eq 11, 3) := by decide +kernel
theorem d40_568 : decode method_5_code 568 = .ok (.iload 4, 2) := by decide +kernel
theorem d40_570 : decode method_5_code 570 = .ok (.iload 7, 2) := by decide +kernel
theorem d40_572 : decode method_5_code 572 = .ok (.iadd, 1) := by decide +kernel
theorem d40_573 : decode method_5_code 573 = .ok (.goto 4, 3) := by decide +kernel
theorem d40_577 : decode method_5_code 577 = .ok (.ireturn, 1) := by decide +kernel
theorem pn_40 : plainName "com/example/xmax/xmax/queue/QueueStatusToStringPinLaw" = true := by first | (simp [plainName, overriddenIn]; done) | decide +kernel
theorem ef_40 (m : MethodId) (o0 : Addr) (p1 : Int32) (q2 : Int64) : entryFrame m #[(.ref o0), (.int p1), (.long q2)] 9 = mkF m 0 #[.val (.ref o0), .val (.int p1), .val (.long q2), .second, .unset, .unset, .unset, .unset, .unset] [] := by first | (simp [entryFrame, mkF, argsToLocals, Value.category]; done) | rfl
theorem own_q40_1 {p1 : Int32} {q2 : Int64} (hc2 : q2 < (0 : Int64)) : (p1 + (1 : Int32)) = (if q2 < (0 : Int64) then (p1 + (1 : Int32)) else p1) := by
  first | (rw [if_pos hc2]; done) | (simp only [if_pos hc2]; done) | (simp [if_pos hc2]; done)
theorem own_q40_2 {p1 : Int32} {q2 : Int64} (hc2 : ¬ (q2 < (0 : Int64))) : p1 = (if q2 < (0 : Int64) then (p1 + (1 : Int32)) else p1) := by
  first | (rw [if_neg hc2]; done) | (simp only [if_neg hc2]; done) | (simp [if_neg hc2]; done)
theorem own_q40_3 {q2 : Int64} (hc13 : q2 < (0 : Int64)) : q2 = (if q2 < (0 : Int64) then q2 else (-q2)) := by
  first | (rw [if_pos hc13]; done) | (simp only [if_pos hc13]; done) | (simp [if_pos hc13]; done)
theorem own_q40_4 {q2 : Int64} (hc13 : ¬ (q2 < (0 : Int64))) : (-q2) = (if q2 < (0 : Int64) then q2 else (-q2)) := by
  first | (rw [if_neg hc13]; done) | (simp only [if_neg hc13]; done) | (simp [if_neg hc13]; done)
def Q40 (Z : State) (o0 : Addr) (p1 : Int32) (q2 : Int64) (bv : Addr) (kv : ClassId) (zv : Int32) (vs : List Int32) (h0 : Heap) (n0 : Nat) (v : Option Value) (h : Heap) (L : List Loc) : Prop := v = some (.int (p1 + (own_f16 q2))) ∧ Fr n0 L ∧ h = h0
set_option maxRecDepth 65536 in
set_option maxHeartbeats 40000000 in
theorem rm40 (l : Launch) (Z : State) (a0 : Array Value) (hw : ∀ d ∈ tables_1, d.before a0 Z = true) (ws : List Jvm.Cond) (o0 : Addr) (p1 : Int32) (q2 : Int64) (bv : Addr) (kv : ClassId) (zv : Int32) (vs : List Int32) (h0 : Heap) (n0 : Nat) (Z0 : n0 ≤ h0.size) (OLD0 : Old Z n0 h0) (Pr_0 : Exa Z h0 o0 "java/lang/String") (Pr_1 : Fld Z h0 o0 "java/lang/String" "coder" "B" (.int (0 : Int32))) (Pr_2 : Fld Z h0 o0 "java/lang/String" "value" "[B" (.ref bv)) (Pr_3 : Arv Z h0 bv kv .byte zv (own_v vs) (.int 0)) (HC : own_CC Z) (HM : own_nm zv vs p1 q2) :
    MetFree l (⟨"com/example/xmax/xmax/queue/QueueStatusToStringPinLaw", "num", "(Ljava/lang/String;IJ)I"⟩ : MethodName) (head1 (Jvm.Cond.code (⟨"com/example/xmax/xmax/queue/QueueStatusToStringPinLaw", "num", "(Ljava/lang/String;IJ)I"⟩ : MethodName) method_5_code 9 (some .int) :: ws) ({ frames := 5, cells := 0, slots := 0, locals := 75 } : Room)) (fun a U => a = #[(.ref o0), (.int p1), (.long q2)] ∧ Z.Warmed39 U.vm ∧ U.heap = h0) (fun _ _ _ _ _ => True) (fun _ U o U' => ∃ v L, o = .returned v ∧ Q40 Z o0 p1 q2 bv kv zv vs h0 n0 v U'.heap L ∧ FrameEnd U o U' L ({ frames := 5, cells := 0, slots := 0, locals := 75 } : Room).cells ({ frames := 5, cells := 0, slots := 0, locals := 75 } : Room).slots) := by
  refine MetFree.of_bodySF (plainFor_of_name pn_40) hisR ?_
  intro p e s m args below meth c s₁ Bd hml0 hP hK
  obtain ⟨rfl, hZ, hh⟩ := hP
  have hx := Bd.exec
  have hby := Bd.bytes
  have hml : c.maxLocals = 9 := hml0
  have hown : s.vm.findClass "com/example/xmax/xmax/queue/QueueStatusToStringPinLaw" = some m.cls := findClass_of_methodNamed Bd.named
  have hnm := (name_of_methodNamed Bd.named Bd.method).1
  have X0 : Stand p l e ({ frames := 5, cells := 0, slots := 0, locals := 75 } : Room) s m #[(.ref o0), (.int p1), (.long q2)] below meth c s₁ [] 0 0 := Stand.of_body Bd
  have e0 : s₁.heap = h0 := by rw [← hh, Bd.state]; rfl
  have N0 := Fr.nil n0
  obtain ⟨P, pre0, fin⟩ : ∃ P : State → Prop, (∀ t, Steps p.tables e below (s₁.setTop (mkF m 0 #[.val (.ref o0), .val (.int p1), .val (.long q2), .second, .unset, .unset, .unset, .unset, .unset] [])) t → P t) ∧ (∀ t, P t → Steps p.tables e below (s₁.setTop (entryFrame m #[(.ref o0), (.int p1), (.long q2)] 9)) t) := ⟨fun t => Steps p.tables e below (s₁.setTop (entryFrame m #[(.ref o0), (.int p1), (.long q2)] 9)) t, fun t k => castTop (ef_40 m o0 p1 q2) k, fun t k => k⟩
  have K0 : Keep h0 h0 [] := Keep.refl _ _
  have pre1 : ∀ t, Steps p.tables e below (s₁.setTop (mkF m 12 #[.val (.ref o0), .val (.int p1), .val (.long q2), .second, .val (.int p1), .unset, .unset, .unset, .unset] [(.int (lcmpW q2 (0 : Int64)))])) t → P t := fun t k => pre0 t (by
      refine XS.iloadN X0.here hx rfl (hb hby d40_0) rfl ?_
      refine XS.ifYes X0.here hx rfl (pc0 := 1) (pc' := 6) rfl (hb hby d40_1) rfl ((if0 _ _).trans (flt (show ¬ (p1 < (0 : Int32)) from (own_nm0 HM))).2.1) (by decide) (by decide) ?_
      refine XS.iloadN X0.here hx rfl (hb hby d40_6) rfl ?_
      refine XS.istore X0.here hx rfl (hb hby d40_7) rfl (l' := #[.val (.ref o0), .val (.int p1), .val (.long q2), .second, .val (.int p1), .unset, .unset, .unset, .unset]) rfl ?_
      refine XS.lloadN X0.here hx rfl (hb hby d40_9) rfl ?_
      refine XS.lconst X0.here hx rfl (hb hby d40_10) ?_
      refine XS.lcmp X0.here hx rfl (hb hby d40_11) rfl ?_
      exact k)
  obtain ⟨T10, L10, v9, X10, e10, N10, hv9, pre10⟩ : ∃ (T' : State) (L' : List Loc) (v9 : Int32), Stand p l e ({ frames := 5, cells := 0, slots := 0, locals := 75 } : Room) s m #[(.ref o0), (.int p1), (.long q2)] below meth c T' L' 0 0 ∧ T'.heap = h0 ∧ Fr n0 L' ∧ v9 = (if q2 < (0 : Int64) then (p1 + (1 : Int32)) else p1) ∧ (∀ t, Steps p.tables e below (T'.setTop (mkF m 43 #[.val (.ref o0), .val (.int p1), .val (.long q2), .second, .val (.int v9), .unset, .unset, .unset, .unset] [])) t → P t) := by
    by_cases hc2 : q2 < (0 : Int64)
    · have pre3 : ∀ t, Steps p.tables e below (s₁.setTop (mkF m 18 #[.val (.ref o0), .val (.int p1), .val (.long q2), .second, .val (.int p1), .unset, .unset, .unset, .unset] [(.ref o0), (.int p1)])) t → P t := fun t k => pre1 t (by
          refine XS.ifNo X0.here hx rfl (hb hby d40_12) rfl ((if0 _ _).trans (tlt ((lw_lt _ _).mpr hc2)).2.1) ?_
          refine XS.iload X0.here hx rfl (hb hby d40_15) rfl ?_
          refine XS.aloadN X0.here hx rfl (hb hby d40_17) rfl rfl ?_
          exact k)
      obtain ⟨cq4, kq4, q4a, q4b, q4c⟩ := isOf hZ e0 Pr_0
      obtain ⟨_, _, ⟨T4, L4, k4, n4⟩, -, X4, ⟨Lc4, hQ4, l4, y4, z4⟩, st4⟩ := X0.virtualBack hx (y := (⟨"java/lang/String", "length", "()I"⟩ : MethodName)) (z := (⟨"java/lang/String", "length", "()I"⟩ : MethodName)) hown (mvT hZ (hi hw 197 rfl)) (mvT hZ (hi hw 59 rfl)) (notFace_of_selects (args := #[]) (mvT hZ (hi hw 61 rfl))) (mvT hZ (hi hw 61 rfl)) (mvT hZ (hi hw 60 rfl)) (by decide) (backOf (W := 1) (rm8 l Z a0 hw [] o0 bv kv zv vs h0 n0 Z0 OLD0 Pr_0 Pr_1 Pr_2 Pr_3 HC) hZ (hi hw 62 rfl) (hi hw 36 rfl) (by decide) (by decide)) q4a q4c (g := (mkF m 18 #[.val (.ref o0), .val (.int p1), .val (.long q2), .second, .val (.int p1), .unset, .unset, .unset, .unset] [(.ref o0), (.int p1)])) rfl (by rw [hml]; rfl) (Steps.refl _) (argsL := []) (rest := [(.int p1)]) (lenOf own_pd1 rfl) rfl (by show 2 * 0 + _ ≤ _; exact Nat.le_of_eq rfl) (hb hby d40_18) (fun _ _ => ⟨rfl, e0, (by decide : 0 + 0 ≤ _), (by decide : 0 + 0 ≤ _)⟩)
      dsimp only [Pt.U, Pt.locs, Pt.cells, Pt.slots] at X4 l4 y4 z4 st4 hQ4
      subst l4 y4 z4
      obtain ⟨rfl, N4q, e4⟩ := hQ4
      have N4 := Fr.app N0 N4q
      have pre4 : ∀ t, Steps p.tables e below (T4.setTop (mkF m 21 #[.val (.ref o0), .val (.int p1), .val (.long q2), .second, .val (.int p1), .unset, .unset, .unset, .unset] [(.int zv), (.int p1)])) t → P t := fun t k => pre3 t (st4.trans k)
      have pre5 : ∀ t, Steps p.tables e below (T4.setTop (mkF m 27 #[.val (.ref o0), .val (.int p1), .val (.long q2), .second, .val (.int p1), .unset, .unset, .unset, .unset] [(.int p1), (.ref o0)])) t → P t := fun t k => pre4 t (by
          refine XS.icmpNo X4.here hx rfl (hb hby d40_21) rfl (tlt (show p1 < zv from (own_nm1 HM))).2.1 ?_
          refine XS.aloadN X4.here hx rfl (hb hby d40_24) rfl rfl ?_
          refine XS.iload X4.here hx rfl (hb hby d40_25) rfl ?_
          exact k)
      obtain ⟨cq6, kq6, q6a, q6b, q6c⟩ := isOf hZ e4 Pr_0
      obtain ⟨_, _, ⟨T6, L6, k6, n6⟩, -, X6, ⟨Lc6, hQ6, l6, y6, z6⟩, st6⟩ := X4.virtualBack hx (y := (⟨"java/lang/String", "charAt", "(I)C"⟩ : MethodName)) (z := (⟨"java/lang/String", "charAt", "(I)C"⟩ : MethodName)) hown (mvT hZ (hi hw 198 rfl)) (mvT hZ (hi hw 199 rfl)) (notFace_of_selects (args := #[]) (mvT hZ (hi hw 201 rfl))) (mvT hZ (hi hw 201 rfl)) (mvT hZ (hi hw 200 rfl)) (by decide) (backOf (W := 0) (rm35 l Z a0 hw [] o0 p1 bv kv zv vs h0 n0 Z0 OLD0 Pr_0 Pr_1 Pr_2 Pr_3 HC (own_nm0 HM) (own_nm1 HM)) hZ (hi hw 202 rfl) (hi hw 36 rfl) (by decide) (by decide)) q6a q6c (g := (mkF m 27 #[.val (.ref o0), .val (.int p1), .val (.long q2), .second, .val (.int p1), .unset, .unset, .unset, .unset] [(.int p1), (.ref o0)])) rfl (by rw [hml]; rfl) (Steps.refl _) (argsL := [(.int p1)]) (rest := []) (lenOf own_pd26 rfl) rfl (by show 2 * 0 + _ ≤ _; exact Nat.le_of_eq rfl) (hb hby d40_27) (fun _ _ => ⟨rfl, e4, (by decide : 0 + 0 ≤ _), (by decide : 0 + 0 ≤ _)⟩)
      dsimp only [Pt.U, Pt.locs, Pt.cells, Pt.slots] at X6 l6 y6 z6 st6 hQ6
      subst l6 y6 z6
      obtain ⟨rfl, N6q, e6⟩ := hQ6
      have N6 := Fr.app N4 N6q
      have pre6 : ∀ t, Steps p.tables e below (T6.setTop (mkF m 30 #[.val (.ref o0), .val (.int p1), .val (.long q2), .second, .val (.int p1), .unset, .unset, .unset, .unset] [(.int (own_ca vs p1))])) t → P t := fun t k => pre5 t (st6.trans k)
      have pre7 : ∀ t, Steps p.tables e below (T6.setTop (mkF m 43 #[.val (.ref o0), .val (.int p1), .val (.long q2), .second, .val (.int (p1 + (1 : Int32))), .unset, .unset, .unset, .unset] [])) t → P t := fun t k => pre6 t (by
          refine XS.bipush X6.here hx rfl (hb hby d40_30) ?_
          refine XS.icmpYes X6.here hx rfl (pc0 := 32) (pc' := 37) rfl (hb hby d40_32) rfl (teq (show (own_ca vs p1) = (45 : Int32) from (own_nm2 HM hc2))).1 (by decide) (by decide) ?_
          refine XS.iload X6.here hx rfl (hb hby d40_37) rfl ?_
          refine XS.iconst X6.here hx rfl (hb hby d40_39) ?_
          refine XS.iadd X6.here hx rfl (hb hby d40_40) rfl ?_
          refine XS.istore X6.here hx rfl (hb hby d40_41) rfl (l' := #[.val (.ref o0), .val (.int p1), .val (.long q2), .second, .val (.int (p1 + (1 : Int32))), .unset, .unset, .unset, .unset]) rfl ?_
          exact k)
      exact ⟨_, _, (p1 + (1 : Int32)), X6, e6, N6, (own_q40_1 hc2), pre7⟩
    · have pre8 : ∀ t, Steps p.tables e below (s₁.setTop (mkF m 43 #[.val (.ref o0), .val (.int p1), .val (.long q2), .second, .val (.int p1), .unset, .unset, .unset, .unset] [])) t → P t := fun t k => pre1 t (by
          refine XS.ifYes X0.here hx rfl (pc0 := 12) (pc' := 43) rfl (hb hby d40_12) rfl ((if0 _ _).trans (flt (fun q => hc2 ((lw_lt _ _).mp q))).2.1) (by decide) (by decide) ?_
          exact k)
      exact ⟨_, _, p1, X0, e0, N0, (own_q40_2 hc2), pre8⟩
  have pre11 : ∀ t, Steps p.tables e below (T10.setTop (mkF m 43 #[.val (.ref o0), .val (.int p1), .val (.long q2), .second, .val (.int (own_p q2 p1)), .unset, .unset, .unset, .unset] [])) t → P t := fun t k => pre10 t (by rw [(show v9 = (own_p q2 p1) from hv9)]; exact k)
  have pre12 : ∀ t, Steps p.tables e below (T10.setTop (mkF m 46 #[.val (.ref o0), .val (.int p1), .val (.long q2), .second, .val (.int (own_p q2 p1)), .unset, .unset, .unset, .unset] [(.int (lcmpW q2 (0 : Int64)))])) t → P t := fun t k => pre11 t (by
      refine XS.lloadN X10.here hx rfl (hb hby d40_43) rfl ?_
      refine XS.lconst X10.here hx rfl (hb hby d40_44) ?_
      refine XS.lcmp X10.here hx rfl (hb hby d40_45) rfl ?_
      exact k)
  obtain ⟨T17, L17, v16, X17, e17, N17, hv16, pre17⟩ : ∃ (T' : State) (L' : List Loc) (v16 : Int64), Stand p l e ({ frames := 5, cells := 0, slots := 0, locals := 75 } : Room) s m #[(.ref o0), (.int p1), (.long q2)] below meth c T' L' 0 0 ∧ T'.heap = h0 ∧ Fr n0 L' ∧ v16 = (if q2 < (0 : Int64) then q2 else (-q2)) ∧ (∀ t, Steps p.tables e below (T'.setTop (mkF m 55 #[.val (.ref o0), .val (.int p1), .val (.long q2), .second, .val (.int (own_p q2 p1)), .unset, .unset, .unset, .unset] [(.long v16)])) t → P t) := by
    by_cases hc13 : q2 < (0 : Int64)
    · have pre14 : ∀ t, Steps p.tables e below (T10.setTop (mkF m 55 #[.val (.ref o0), .val (.int p1), .val (.long q2), .second, .val (.int (own_p q2 p1)), .unset, .unset, .unset, .unset] [(.long q2)])) t → P t := fun t k => pre12 t (by
          refine XS.ifNo X10.here hx rfl (hb hby d40_46) rfl ((if0 _ _).trans (tlt ((lw_lt _ _).mpr hc13)).2.1) ?_
          refine XS.lloadN X10.here hx rfl (hb hby d40_49) rfl ?_
          refine XS.goto X10.here hx rfl (pc0 := 50) (pc' := 55) rfl (hb hby d40_50) (by decide) (by decide) ?_
          exact k)
      exact ⟨_, _, q2, X10, e10, N10, (own_q40_3 hc13), pre14⟩
    · have pre15 : ∀ t, Steps p.tables e below (T10.setTop (mkF m 55 #[.val (.ref o0), .val (.int p1), .val (.long q2), .second, .val (.int (own_p q2 p1)), .unset, .unset, .unset, .unset] [(.long (-q2))])) t → P t := fun t k => pre12 t (by
          refine XS.ifYes X10.here hx rfl (pc0 := 46) (pc' := 53) rfl (hb hby d40_46) rfl ((if0 _ _).trans (flt (fun q => hc13 ((lw_lt _ _).mp q))).2.1) (by decide) (by decide) ?_
          refine XS.lloadN X10.here hx rfl (hb hby d40_53) rfl ?_
          refine XS.lneg X10.here hx rfl (hb hby d40_54) rfl ?_
          exact k)
      exact ⟨_, _, (-q2), X10, e10, N10, (own_q40_4 hc13), pre15⟩
  have pre18 : ∀ t, Steps p.tables e below (T17.setTop (mkF m 55 #[.val (.ref o0), .val (.int p1), .val (.long q2), .second, .val (.int (own_p q2 p1)), .unset, .unset, .unset, .unset] [(.long (own_m q2))])) t → P t := fun t k => pre17 t (by rw [(show v16 = (own_m q2) from hv16)]; exact k)
  have pre19 : ∀ t, Steps p.tables e below (T17.setTop (mkF m 58 #[.val (.ref o0), .val (.int p1), .val (.long q2), .second, .val (.int (own_p q2 p1)), .val (.long (own_m q2)), .second, .unset, .unset] [(.int (1 : Int32))])) t → P t := fun t k => pre18 t (by
      refine XS.lstore X17.here hx rfl (hb hby d40_55) rfl (l' := #[.val (.ref o0), .val (.int p1), .val (.long q2), .second, .val (.int (own_p q2 p1)), .val (.long (own_m q2)), .second, .unset, .unset]) rfl ?_
      refine XS.iconst X17.here hx rfl (hb hby d40_57) ?_
      exact k)
  obtain ⟨T20, L20, X20, e20, N20, pre20⟩ := own_g40 (K := 10) (b := 58) hx hZ hw hown Z0 hml X17 e17 N17 (hi hw 223 rfl) (hb hby d40_58) (hb hby d40_60) (hb hby d40_63) (hb hby d40_66) pre19
  have pre21 : ∀ t, Steps p.tables e below (T20.setTop (mkF m 67 #[.val (.ref o0), .val (.int p1), .val (.long q2), .second, .val (.int (own_p q2 p1)), .val (.long (own_m q2)), .second, .unset, .unset] [(.int ((1 : Int32) + (own_f41 (own_m q2) (10 : Int64))))])) t → P t := pre20
  obtain ⟨T22, L22, X22, e22, N22, pre22⟩ := own_g40 (K := 100) (b := 67) hx hZ hw hown Z0 hml X20 e20 N20 (hi hw 227 rfl) (hb hby d40_67) (hb hby d40_69) (hb hby d40_72) (hb hby d40_75) pre21
  have pre23 : ∀ t, Steps p.tables e below (T22.setTop (mkF m 76 #[.val (.ref o0), .val (.int p1), .val (.long q2), .second, .val (.int (own_p q2 p1)), .val (.long (own_m q2)), .second, .unset, .unset] [(.int (((1 : Int32) + (own_f41 (own_m q2) (10 : Int64))) + (own_f41 (own_m q2) (100 : Int64))))])) t → P t := pre22
  obtain ⟨T24, L24, X24, e24, N24, pre24⟩ := own_g40 (K := 1000) (b := 76) hx hZ hw hown Z0 hml X22 e22 N22 (hi hw 228 rfl) (hb hby d40_76) (hb hby d40_78) (hb hby d40_81) (hb hby d40_84) pre23
  have pre25 : ∀ t, Steps p.tables e below (T24.setTop (mkF m 85 #[.val (.ref o0), .val (.int p1), .val (.long q2), .second, .val (.int (own_p q2 p1)), .val (.long (own_m q2)), .second, .unset, .unset] [(.int ((((1 : Int32) + (own_f41 (own_m q2) (10 : Int64))) + (own_f41 (own_m q2) (100 : Int64))) + (own_f41 (own_m q2) (1000 : Int64))))])) t → P t := pre24
  obtain ⟨T26, L26, X26, e26, N26, pre26⟩ := own_g40 (K := 10000) (b := 85) hx hZ hw hown Z0 hml X24 e24 N24 (hi hw 229 rfl) (hb hby d40_85) (hb hby d40_87) (hb hby d40_90) (hb hby d40_93) pre25
  have pre27 : ∀ t, Steps p.tables e below (T26.setTop (mkF m 94 #[.val (.ref o0), .val (.int p1), .val (.long q2), .second, .val (.int (own_p q2 p1)), .val (.long (own_m q2)), .second, .unset, .unset] [(.int (((((1 : Int32) + (own_f41 (own_m q2) (10 : Int64))) + (own_f41 (own_m q2) (100 : Int64))) + (own_f41 (own_m q2) (1000 : Int64))) + (own_f41 (own_m q2) (10000 : Int64))))])) t → P t := pre26
  obtain ⟨T28, L28, X28, e28, N28, pre28⟩ := own_g40 (K := 100000) (b := 94) hx hZ hw hown Z0 hml X26 e26 N26 (hi hw 230 rfl) (hb hby d40_94) (hb hby d40_96) (hb hby d40_99) (hb hby d40_102) pre27
  have pre29 : ∀ t, Steps p.tables e below (T28.setTop (mkF m 103 #[.val (.ref o0), .val (.int p1), .val (.long q2), .second, .val (.int (own_p q2 p1)), .val (.long (own_m q2)), .second, .unset, .unset] [(.int ((((((1 : Int32) + (own_f41 (own_m q2) (10 : Int64))) + (own_f41 (own_m q2) (100 : Int64))) + (own_f41 (own_m q2) (1000 : Int64))) + (own_f41 (own_m q2) (10000 : Int64))) + (own_f41 (own_m q2) (100000 : Int64))))])) t → P t := pre28
  obtain ⟨T30, L30, X30, e30, N30, pre30⟩ := own_g40 (K := 1000000) (b := 103) hx hZ hw hown Z0 hml X28 e28 N28 (hi hw 231 rfl) (hb hby d40_103) (hb hby d40_105) (hb hby d40_108) (hb hby d40_111) pre29
  have pre31 : ∀ t, Steps p.tables e below (T30.setTop (mkF m 112 #[.val (.ref o0), .val (.int p1), .val (.long q2), .second, .val (.int (own_p q2 p1)), .val (.long (own_m q2)), .second, .unset, .unset] [(.int (((((((1 : Int32) + (own_f41 (own_m q2) (10 : Int64))) + (own_f41 (own_m q2) (100 : Int64))) + (own_f41 (own_m q2) (1000 : Int64))) + (own_f41 (own_m q2) (10000 : Int64))) + (own_f41 (own_m q2) (100000 : Int64))) + (own_f41 (own_m q2) (1000000 : Int64))))])) t → P t := pre30
  obtain ⟨T32, L32, X32, e32, N32, pre32⟩ := own_g40 (K := 10000000) (b := 112) hx hZ hw hown Z0 hml X30 e30 N30 (hi hw 232 rfl) (hb hby d40_112) (hb hby d40_114) (hb hby d40_117) (hb hby d40_120) pre31
  have pre33 : ∀ t, Steps p.tables e below (T32.setTop (mkF m 121 #[.val (.ref o0), .val (.int p1), .val (.long q2), .second, .val (.int (own_p q2 p1)), .val (.long (own_m q2)), .second, .unset, .unset] [(.int ((((((((1 : Int32) + (own_f41 (own_m q2) (10 : Int64))) + (own_f41 (own_m q2) (100 : Int64))) + (own_f41 (own_m q2) (1000 : Int64))) + (own_f41 (own_m q2) (10000 : Int64))) + (own_f41 (own_m q2) (100000 : Int64))) + (own_f41 (own_m q2) (1000000 : Int64))) + (own_f41 (own_m q2) (10000000 : Int64))))])) t → P t := pre32
  obtain ⟨T34, L34, X34, e34, N34, pre34⟩ := own_g40 (K := 100000000) (b := 121) hx hZ hw hown Z0 hml X32 e32 N32 (hi hw 233 rfl) (hb hby d40_121) (hb hby d40_123) (hb hby d40_126) (hb hby d40_129) pre33
  have pre35 : ∀ t, Steps p.tables e below (T34.setTop (mkF m 130 #[.val (.ref o0), .val (.int p1), .val (.long q2), .second, .val (.int (own_p q2 p1)), .val (.long (own_m q2)), .second, .unset, .unset] [(.int (((((((((1 : Int32) + (own_f41 (own_m q2) (10 : Int64))) + (own_f41 (own_m q2) (100 : Int64))) + (own_f41 (own_m q2) (1000 : Int64))) + (own_f41 (own_m q2) (10000 : Int64))) + (own_f41 (own_m q2) (100000 : Int64))) + (own_f41 (own_m q2) (1000000 : Int64))) + (own_f41 (own_m q2) (10000000 : Int64))) + (own_f41 (own_m q2) (100000000 : Int64))))])) t → P t := pre34
  obtain ⟨T36, L36, X36, e36, N36, pre36⟩ := own_g40 (K := 1000000000) (b := 130) hx hZ hw hown Z0 hml X34 e34 N34 (hi hw 234 rfl) (hb hby d40_130) (hb hby d40_132) (hb hby d40_135) (hb hby d40_138) pre35
  have pre37 : ∀ t, Steps p.tables e below (T36.setTop (mkF m 139 #[.val (.ref o0), .val (.int p1), .val (.long q2), .second, .val (.int (own_p q2 p1)), .val (.long (own_m q2)), .second, .unset, .unset] [(.int ((((((((((1 : Int32) + (own_f41 (own_m q2) (10 : Int64))) + (own_f41 (own_m q2) (100 : Int64))) + (own_f41 (own_m q2) (1000 : Int64))) + (own_f41 (own_m q2) (10000 : Int64))) + (own_f41 (own_m q2) (100000 : Int64))) + (own_f41 (own_m q2) (1000000 : Int64))) + (own_f41 (own_m q2) (10000000 : Int64))) + (own_f41 (own_m q2) (100000000 : Int64))) + (own_f41 (own_m q2) (1000000000 : Int64))))])) t → P t := pre36
  obtain ⟨T38, L38, X38, e38, N38, pre38⟩ := own_g40 (K := 10000000000) (b := 139) hx hZ hw hown Z0 hml X36 e36 N36 (hi hw 235 rfl) (hb hby d40_139) (hb hby d40_141) (hb hby d40_144) (hb hby d40_147) pre37
  have pre39 : ∀ t, Steps p.tables e below (T38.setTop (mkF m 148 #[.val (.ref o0), .val (.int p1), .val (.long q2), .second, .val (.int (own_p q2 p1)), .val (.long (own_m q2)), .second, .unset, .unset] [(.int (((((((((((1 : Int32) + (own_f41 (own_m q2) (10 : Int64))) + (own_f41 (own_m q2) (100 : Int64))) + (own_f41 (own_m q2) (1000 : Int64))) + (own_f41 (own_m q2) (10000 : Int64))) + (own_f41 (own_m q2) (100000 : Int64))) + (own_f41 (own_m q2) (1000000 : Int64))) + (own_f41 (own_m q2) (10000000 : Int64))) + (own_f41 (own_m q2) (100000000 : Int64))) + (own_f41 (own_m q2) (1000000000 : Int64))) + (own_f41 (own_m q2) (10000000000 : Int64))))])) t → P t := pre38
  obtain ⟨T40, L40, X40, e40, N40, pre40⟩ := own_g40 (K := 100000000000) (b := 148) hx hZ hw hown Z0 hml X38 e38 N38 (hi hw 236 rfl) (hb hby d40_148) (hb hby d40_150) (hb hby d40_153) (hb hby d40_156) pre39
  have pre41 : ∀ t, Steps p.tables e below (T40.setTop (mkF m 157 #[.val (.ref o0), .val (.int p1), .val (.long q2), .second, .val (.int (own_p q2 p1)), .val (.long (own_m q2)), .second, .unset, .unset] [(.int ((((((((((((1 : Int32) + (own_f41 (own_m q2) (10 : Int64))) + (own_f41 (own_m q2) (100 : Int64))) + (own_f41 (own_m q2) (1000 : Int64))) + (own_f41 (own_m q2) (10000 : Int64))) + (own_f41 (own_m q2) (100000 : Int64))) + (own_f41 (own_m q2) (1000000 : Int64))) + (own_f41 (own_m q2) (10000000 : Int64))) + (own_f41 (own_m q2) (100000000 : Int64))) + (own_f41 (own_m q2) (1000000000 : Int64))) + (own_f41 (own_m q2) (10000000000 : Int64))) + (own_f41 (own_m q2) (100000000000 : Int64))))])) t → P t := pre40
  obtain ⟨T42, L42, X42, e42, N42, pre42⟩ := own_g40 (K := 1000000000000) (b := 157) hx hZ hw hown Z0 hml X40 e40 N40 (hi hw 237 rfl) (hb hby d40_157) (hb hby d40_159) (hb hby d40_162) (hb hby d40_165) pre41
  have pre43 : ∀ t, Steps p.tables e below (T42.setTop (mkF m 166 #[.val (.ref o0), .val (.int p1), .val (.long q2), .second, .val (.int (own_p q2 p1)), .val (.long (own_m q2)), .second, .unset, .unset] [(.int (((((((((((((1 : Int32) + (own_f41 (own_m q2) (10 : Int64))) + (own_f41 (own_m q2) (100 : Int64))) + (own_f41 (own_m q2) (1000 : Int64))) + (own_f41 (own_m q2) (10000 : Int64))) + (own_f41 (own_m q2) (100000 : Int64))) + (own_f41 (own_m q2) (1000000 : Int64))) + (own_f41 (own_m q2) (10000000 : Int64))) + (own_f41 (own_m q2) (100000000 : Int64))) + (own_f41 (own_m q2) (1000000000 : Int64))) + (own_f41 (own_m q2) (10000000000 : Int64))) + (own_f41 (own_m q2) (100000000000 : Int64))) + (own_f41 (own_m q2) (1000000000000 : Int64))))])) t → P t := pre42
  obtain ⟨T44, L44, X44, e44, N44, pre44⟩ := own_g40 (K := 10000000000000) (b := 166) hx hZ hw hown Z0 hml X42 e42 N42 (hi hw 238 rfl) (hb hby d40_166) (hb hby d40_168) (hb hby d40_171) (hb hby d40_174) pre43
  have pre45 : ∀ t, Steps p.tables e below (T44.setTop (mkF m 175 #[.val (.ref o0), .val (.int p1), .val (.long q2), .second, .val (.int (own_p q2 p1)), .val (.long (own_m q2)), .second, .unset, .unset] [(.int ((((((((((((((1 : Int32) + (own_f41 (own_m q2) (10 : Int64))) + (own_f41 (own_m q2) (100 : Int64))) + (own_f41 (own_m q2) (1000 : Int64))) + (own_f41 (own_m q2) (10000 : Int64))) + (own_f41 (own_m q2) (100000 : Int64))) + (own_f41 (own_m q2) (1000000 : Int64))) + (own_f41 (own_m q2) (10000000 : Int64))) + (own_f41 (own_m q2) (100000000 : Int64))) + (own_f41 (own_m q2) (1000000000 : Int64))) + (own_f41 (own_m q2) (10000000000 : Int64))) + (own_f41 (own_m q2) (100000000000 : Int64))) + (own_f41 (own_m q2) (1000000000000 : Int64))) + (own_f41 (own_m q2) (10000000000000 : Int64))))])) t → P t := pre44
  obtain ⟨T46, L46, X46, e46, N46, pre46⟩ := own_g40 (K := 100000000000000) (b := 175) hx hZ hw hown Z0 hml X44 e44 N44 (hi hw 239 rfl) (hb hby d40_175) (hb hby d40_177) (hb hby d40_180) (hb hby d40_183) pre45
  have pre47 : ∀ t, Steps p.tables e below (T46.setTop (mkF m 184 #[.val (.ref o0), .val (.int p1), .val (.long q2), .second, .val (.int (own_p q2 p1)), .val (.long (own_m q2)), .second, .unset, .unset] [(.int (((((((((((((((1 : Int32) + (own_f41 (own_m q2) (10 : Int64))) + (own_f41 (own_m q2) (100 : Int64))) + (own_f41 (own_m q2) (1000 : Int64))) + (own_f41 (own_m q2) (10000 : Int64))) + (own_f41 (own_m q2) (100000 : Int64))) + (own_f41 (own_m q2) (1000000 : Int64))) + (own_f41 (own_m q2) (10000000 : Int64))) + (own_f41 (own_m q2) (100000000 : Int64))) + (own_f41 (own_m q2) (1000000000 : Int64))) + (own_f41 (own_m q2) (10000000000 : Int64))) + (own_f41 (own_m q2) (100000000000 : Int64))) + (own_f41 (own_m q2) (1000000000000 : Int64))) + (own_f41 (own_m q2) (10000000000000 : Int64))) + (own_f41 (own_m q2) (100000000000000 : Int64))))])) t → P t := pre46
  obtain ⟨T48, L48, X48, e48, N48, pre48⟩ := own_g40 (K := 1000000000000000) (b := 184) hx hZ hw hown Z0 hml X46 e46 N46 (hi hw 240 rfl) (hb hby d40_184) (hb hby d40_186) (hb hby d40_189) (hb hby d40_192) pre47
  have pre49 : ∀ t, Steps p.tables e below (T48.setTop (mkF m 193 #[.val (.ref o0), .val (.int p1), .val (.long q2), .second, .val (.int (own_p q2 p1)), .val (.long (own_m q2)), .second, .unset, .unset] [(.int ((((((((((((((((1 : Int32) + (own_f41 (own_m q2) (10 : Int64))) + (own_f41 (own_m q2) (100 : Int64))) + (own_f41 (own_m q2) (1000 : Int64))) + (own_f41 (own_m q2) (10000 : Int64))) + (own_f41 (own_m q2) (100000 : Int64))) + (own_f41 (own_m q2) (1000000 : Int64))) + (own_f41 (own_m q2) (10000000 : Int64))) + (own_f41 (own_m q2) (100000000 : Int64))) + (own_f41 (own_m q2) (1000000000 : Int64))) + (own_f41 (own_m q2) (10000000000 : Int64))) + (own_f41 (own_m q2) (100000000000 : Int64))) + (own_f41 (own_m q2) (1000000000000 : Int64))) + (own_f41 (own_m q2) (10000000000000 : Int64))) + (own_f41 (own_m q2) (100000000000000 : Int64))) + (own_f41 (own_m q2) (1000000000000000 : Int64))))])) t → P t := pre48
  obtain ⟨T50, L50, X50, e50, N50, pre50⟩ := own_g40 (K := 10000000000000000) (b := 193) hx hZ hw hown Z0 hml X48 e48 N48 (hi hw 241 rfl) (hb hby d40_193) (hb hby d40_195) (hb hby d40_198) (hb hby d40_201) pre49
  have pre51 : ∀ t, Steps p.tables e below (T50.setTop (mkF m 202 #[.val (.ref o0), .val (.int p1), .val (.long q2), .second, .val (.int (own_p q2 p1)), .val (.long (own_m q2)), .second, .unset, .unset] [(.int (((((((((((((((((1 : Int32) + (own_f41 (own_m q2) (10 : Int64))) + (own_f41 (own_m q2) (100 : Int64))) + (own_f41 (own_m q2) (1000 : Int64))) + (own_f41 (own_m q2) (10000 : Int64))) + (own_f41 (own_m q2) (100000 : Int64))) + (own_f41 (own_m q2) (1000000 : Int64))) + (own_f41 (own_m q2) (10000000 : Int64))) + (own_f41 (own_m q2) (100000000 : Int64))) + (own_f41 (own_m q2) (1000000000 : Int64))) + (own_f41 (own_m q2) (10000000000 : Int64))) + (own_f41 (own_m q2) (100000000000 : Int64))) + (own_f41 (own_m q2) (1000000000000 : Int64))) + (own_f41 (own_m q2) (10000000000000 : Int64))) + (own_f41 (own_m q2) (100000000000000 : Int64))) + (own_f41 (own_m q2) (1000000000000000 : Int64))) + (own_f41 (own_m q2) (10000000000000000 : Int64))))])) t → P t := pre50
  obtain ⟨T52, L52, X52, e52, N52, pre52⟩ := own_g40 (K := 100000000000000000) (b := 202) hx hZ hw hown Z0 hml X50 e50 N50 (hi hw 242 rfl) (hb hby d40_202) (hb hby d40_204) (hb hby d40_207) (hb hby d40_210) pre51
  have pre53 : ∀ t, Steps p.tables e below (T52.setTop (mkF m 211 #[.val (.ref o0), .val (.int p1), .val (.long q2), .second, .val (.int (own_p q2 p1)), .val (.long (own_m q2)), .second, .unset, .unset] [(.int ((((((((((((((((((1 : Int32) + (own_f41 (own_m q2) (10 : Int64))) + (own_f41 (own_m q2) (100 : Int64))) + (own_f41 (own_m q2) (1000 : Int64))) + (own_f41 (own_m q2) (10000 : Int64))) + (own_f41 (own_m q2) (100000 : Int64))) + (own_f41 (own_m q2) (1000000 : Int64))) + (own_f41 (own_m q2) (10000000 : Int64))) + (own_f41 (own_m q2) (100000000 : Int64))) + (own_f41 (own_m q2) (1000000000 : Int64))) + (own_f41 (own_m q2) (10000000000 : Int64))) + (own_f41 (own_m q2) (100000000000 : Int64))) + (own_f41 (own_m q2) (1000000000000 : Int64))) + (own_f41 (own_m q2) (10000000000000 : Int64))) + (own_f41 (own_m q2) (100000000000000 : Int64))) + (own_f41 (own_m q2) (1000000000000000 : Int64))) + (own_f41 (own_m q2) (10000000000000000 : Int64))) + (own_f41 (own_m q2) (100000000000000000 : Int64))))])) t → P t := pre52
  obtain ⟨T54, L54, X54, e54, N54, pre54⟩ := own_g40 (K := 1000000000000000000) (b := 211) hx hZ hw hown Z0 hml X52 e52 N52 (hi hw 243 rfl) (hb hby d40_211) (hb hby d40_213) (hb hby d40_216) (hb hby d40_219) pre53
  have pre55 : ∀ t, Steps p.tables e below (T54.setTop (mkF m 220 #[.val (.ref o0), .val (.int p1), .val (.long q2), .second, .val (.int (own_p q2 p1)), .val (.long (own_m q2)), .second, .unset, .unset] [(.int (((((((((((((((((((1 : Int32) + (own_f41 (own_m q2) (10 : Int64))) + (own_f41 (own_m q2) (100 : Int64))) + (own_f41 (own_m q2) (1000 : Int64))) + (own_f41 (own_m q2) (10000 : Int64))) + (own_f41 (own_m q2) (100000 : Int64))) + (own_f41 (own_m q2) (1000000 : Int64))) + (own_f41 (own_m q2) (10000000 : Int64))) + (own_f41 (own_m q2) (100000000 : Int64))) + (own_f41 (own_m q2) (1000000000 : Int64))) + (own_f41 (own_m q2) (10000000000 : Int64))) + (own_f41 (own_m q2) (100000000000 : Int64))) + (own_f41 (own_m q2) (1000000000000 : Int64))) + (own_f41 (own_m q2) (10000000000000 : Int64))) + (own_f41 (own_m q2) (100000000000000 : Int64))) + (own_f41 (own_m q2) (1000000000000000 : Int64))) + (own_f41 (own_m q2) (10000000000000000 : Int64))) + (own_f41 (own_m q2) (100000000000000000 : Int64))) + (own_f41 (own_m q2) (1000000000000000000 : Int64))))])) t → P t := pre54
  have pre56 : ∀ t, Steps p.tables e below (T54.setTop (mkF m 222 #[.val (.ref o0), .val (.int p1), .val (.long q2), .second, .val (.int (own_p q2 p1)), .val (.long (own_m q2)), .second, .val (.int (((((((((((((((((((1 : Int32) + (own_f41 (own_m q2) (10 : Int64))) + (own_f41 (own_m q2) (100 : Int64))) + (own_f41 (own_m q2) (1000 : Int64))) + (own_f41 (own_m q2) (10000 : Int64))) + (own_f41 (own_m q2) (100000 : Int64))) + (own_f41 (own_m q2) (1000000 : Int64))) + (own_f41 (own_m q2) (10000000 : Int64))) + (own_f41 (own_m q2) (100000000 : Int64))) + (own_f41 (own_m q2) (1000000000 : Int64))) + (own_f41 (own_m q2) (10000000000 : Int64))) + (own_f41 (own_m q2) (100000000000 : Int64))) + (own_f41 (own_m q2) (1000000000000 : Int64))) + (own_f41 (own_m q2) (10000000000000 : Int64))) + (own_f41 (own_m q2) (100000000000000 : Int64))) + (own_f41 (own_m q2) (1000000000000000 : Int64))) + (own_f41 (own_m q2) (10000000000000000 : Int64))) + (own_f41 (own_m q2) (100000000000000000 : Int64))) + (own_f41 (own_m q2) (1000000000000000000 : Int64)))), .unset] [])) t → P t := fun t k => pre55 t (by
      refine XS.istore X54.here hx rfl (hb hby d40_220) rfl (l' := #[.val (.ref o0), .val (.int p1), .val (.long q2), .second, .val (.int (own_p q2 p1)), .val (.long (own_m q2)), .second, .val (.int (((((((((((((((((((1 : Int32) + (own_f41 (own_m q2) (10 : Int64))) + (own_f41 (own_m q2) (100 : Int64))) + (own_f41 (own_m q2) (1000 : Int64))) + (own_f41 (own_m q2) (10000 : Int64))) + (own_f41 (own_m q2) (100000 : Int64))) + (own_f41 (own_m q2) (1000000 : Int64))) + (own_f41 (own_m q2) (10000000 : Int64))) + (own_f41 (own_m q2) (100000000 : Int64))) + (own_f41 (own_m q2) (1000000000 : Int64))) + (own_f41 (own_m q2) (10000000000 : Int64))) + (own_f41 (own_m q2) (100000000000 : Int64))) + (own_f41 (own_m q2) (1000000000000 : Int64))) + (own_f41 (own_m q2) (10000000000000 : Int64))) + (own_f41 (own_m q2) (100000000000000 : Int64))) + (own_f41 (own_m q2) (1000000000000000 : Int64))) + (own_f41 (own_m q2) (10000000000000000 : Int64))) + (own_f41 (own_m q2) (100000000000000000 : Int64))) + (own_f41 (own_m q2) (1000000000000000000 : Int64)))), .unset]) rfl ?_
      exact k)
  have pre57 : ∀ t, Steps p.tables e below (T54.setTop (mkF m 222 #[.val (.ref o0), .val (.int p1), .val (.long q2), .second, .val (.int (own_p q2 p1)), .val (.long (own_m q2)), .second, .val (.int (own_ln (own_m q2))), .unset] [])) t → P t := fun t k => pre56 t (by rw [show (((((((((((((((((((1 : Int32) + (own_f41 (own_m q2) (10 : Int64))) + (own_f41 (own_m q2) (100 : Int64))) + (own_f41 (own_m q2) (1000 : Int64))) + (own_f41 (own_m q2) (10000 : Int64))) + (own_f41 (own_m q2) (100000 : Int64))) + (own_f41 (own_m q2) (1000000 : Int64))) + (own_f41 (own_m q2) (10000000 : Int64))) + (own_f41 (own_m q2) (100000000 : Int64))) + (own_f41 (own_m q2) (1000000000 : Int64))) + (own_f41 (own_m q2) (10000000000 : Int64))) + (own_f41 (own_m q2) (100000000000 : Int64))) + (own_f41 (own_m q2) (1000000000000 : Int64))) + (own_f41 (own_m q2) (10000000000000 : Int64))) + (own_f41 (own_m q2) (100000000000000 : Int64))) + (own_f41 (own_m q2) (1000000000000000 : Int64))) + (own_f41 (own_m q2) (10000000000000000 : Int64))) + (own_f41 (own_m q2) (100000000000000000 : Int64))) + (own_f41 (own_m q2) (1000000000000000000 : Int64))) = (own_ln (own_m q2)) from rfl]; exact k)
  have pre58 : ∀ t, Steps p.tables e below (T54.setTop (mkF m 231 #[.val (.ref o0), .val (.int p1), .val (.long q2), .second, .val (.int (own_p q2 p1)), .val (.long (own_m q2)), .second, .val (.int (own_ln (own_m q2))), .unset] [(.long (1 : Int64)), (.int (0 : Int32)), (.long (own_m q2)), (.int (own_ln (own_m q2))), (.int (own_p q2 p1)), (.ref o0)])) t → P t := fun t k => pre57 t (by
      refine XS.aloadN X54.here hx rfl (hb hby d40_222) rfl rfl ?_
      refine XS.iload X54.here hx rfl (hb hby d40_223) rfl ?_
      refine XS.iload X54.here hx rfl (hb hby d40_225) rfl ?_
      refine XS.lload X54.here hx rfl (hb hby d40_227) rfl ?_
      refine XS.iconst X54.here hx rfl (hb hby d40_229) ?_
      refine XS.lconst X54.here hx rfl (hb hby d40_230) ?_
      exact k)
  obtain ⟨T59, L59, X59, e59, N59, pre59⟩ := own_d40 (b := 231) hx hZ hw hown Z0 hml X54 e54 N54 OLD0 Pr_0 Pr_1 Pr_2 Pr_3 HC (own_nmD HM 0 0 (by decide) 1 (by decide) (by decide) (by decide)) (hb hby d40_231) (hb hby d40_234) pre58
  have pre60 : ∀ t, Steps p.tables e below (T59.setTop (mkF m 237 #[.val (.ref o0), .val (.int p1), .val (.long q2), .second, .val (.int (own_p q2 p1)), .val (.long (own_m q2)), .second, .val (.int (own_ln (own_m q2))), .unset] [])) t → P t := pre59
  have pre61 : ∀ t, Steps p.tables e below (T59.setTop (mkF m 248 #[.val (.ref o0), .val (.int p1), .val (.long q2), .second, .val (.int (own_p q2 p1)), .val (.long (own_m q2)), .second, .val (.int (own_ln (own_m q2))), .unset] [(.long (10 : Int64)), (.int (1 : Int32)), (.long (own_m q2)), (.int (own_ln (own_m q2))), (.int (own_p q2 p1)), (.ref o0)])) t → P t := fun t k => pre60 t (by
      refine XS.aloadN X59.here hx rfl (hb hby d40_237) rfl rfl ?_
      refine XS.iload X59.here hx rfl (hb hby d40_238) rfl ?_
      refine XS.iload X59.here hx rfl (hb hby d40_240) rfl ?_
      refine XS.lload X59.here hx rfl (hb hby d40_242) rfl ?_
      refine XS.iconst X59.here hx rfl (hb hby d40_244) ?_
      refine X59.ldc2Long hx hown (mvT hZ (hi hw 223 rfl)) (g := (mkF m 245 #[.val (.ref o0), .val (.int p1), .val (.long q2), .second, .val (.int (own_p q2 p1)), .val (.long (own_m q2)), .second, .val (.int (own_ln (own_m q2))), .unset] [(.int (1 : Int32)), (.long (own_m q2)), (.int (own_ln (own_m q2))), (.int (own_p q2 p1)), (.ref o0)])) rfl (hb hby d40_245) _ ?_
      exact k)
  obtain ⟨T62, L62, X62, e62, N62, pre62⟩ := own_d40 (b := 248) hx hZ hw hown Z0 hml X59 e59 N59 OLD0 Pr_0 Pr_1 Pr_2 Pr_3 HC (own_nmD HM 1 1 (by decide) 10 (by decide) (by decide) (by decide)) (hb hby d40_248) (hb hby d40_251) pre61
  have pre63 : ∀ t, Steps p.tables e below (T62.setTop (mkF m 254 #[.val (.ref o0), .val (.int p1), .val (.long q2), .second, .val (.int (own_p q2 p1)), .val (.long (own_m q2)), .second, .val (.int (own_ln (own_m q2))), .unset] [])) t → P t := pre62
  have pre64 : ∀ t, Steps p.tables e below (T62.setTop (mkF m 265 #[.val (.ref o0), .val (.int p1), .val (.long q2), .second, .val (.int (own_p q2 p1)), .val (.long (own_m q2)), .second, .val (.int (own_ln (own_m q2))), .unset] [(.long (100 : Int64)), (.int (2 : Int32)), (.long (own_m q2)), (.int (own_ln (own_m q2))), (.int (own_p q2 p1)), (.ref o0)])) t → P t := fun t k => pre63 t (by
      refine XS.aloadN X62.here hx rfl (hb hby d40_254) rfl rfl ?_
      refine XS.iload X62.here hx rfl (hb hby d40_255) rfl ?_
      refine XS.iload X62.here hx rfl (hb hby d40_257) rfl ?_
      refine XS.lload X62.here hx rfl (hb hby d40_259) rfl ?_
      refine XS.iconst X62.here hx rfl (hb hby d40_261) ?_
      refine X62.ldc2Long hx hown (mvT hZ (hi hw 227 rfl)) (g := (mkF m 262 #[.val (.ref o0), .val (.int p1), .val (.long q2), .second, .val (.int (own_p q2 p1)), .val (.long (own_m q2)), .second, .val (.int (own_ln (own_m q2))), .unset] [(.int (2 : Int32)), (.long (own_m q2)), (.int (own_ln (own_m q2))), (.int (own_p q2 p1)), (.ref o0)])) rfl (hb hby d40_262) _ ?_
      exact k)
  obtain ⟨T65, L65, X65, e65, N65, pre65⟩ := own_d40 (b := 265) hx hZ hw hown Z0 hml X62 e62 N62 OLD0 Pr_0 Pr_1 Pr_2 Pr_3 HC (own_nmD HM 2 2 (by decide) 100 (by decide) (by decide) (by decide)) (hb hby d40_265) (hb hby d40_268) pre64
  have pre66 : ∀ t, Steps p.tables e below (T65.setTop (mkF m 271 #[.val (.ref o0), .val (.int p1), .val (.long q2), .second, .val (.int (own_p q2 p1)), .val (.long (own_m q2)), .second, .val (.int (own_ln (own_m q2))), .unset] [])) t → P t := pre65
  have pre67 : ∀ t, Steps p.tables e below (T65.setTop (mkF m 282 #[.val (.ref o0), .val (.int p1), .val (.long q2), .second, .val (.int (own_p q2 p1)), .val (.long (own_m q2)), .second, .val (.int (own_ln (own_m q2))), .unset] [(.long (1000 : Int64)), (.int (3 : Int32)), (.long (own_m q2)), (.int (own_ln (own_m q2))), (.int (own_p q2 p1)), (.ref o0)])) t → P t := fun t k => pre66 t (by
      refine XS.aloadN X65.here hx rfl (hb hby d40_271) rfl rfl ?_
      refine XS.iload X65.here hx rfl (hb hby d40_272) rfl ?_
      refine XS.iload X65.here hx rfl (hb hby d40_274) rfl ?_
      refine XS.lload X65.here hx rfl (hb hby d40_276) rfl ?_
      refine XS.iconst X65.here hx rfl (hb hby d40_278) ?_
      refine X65.ldc2Long hx hown (mvT hZ (hi hw 228 rfl)) (g := (mkF m 279 #[.val (.ref o0), .val (.int p1), .val (.long q2), .second, .val (.int (own_p q2 p1)), .val (.long (own_m q2)), .second, .val (.int (own_ln (own_m q2))), .unset] [(.int (3 : Int32)), (.long (own_m q2)), (.int (own_ln (own_m q2))), (.int (own_p q2 p1)), (.ref o0)])) rfl (hb hby d40_279) _ ?_
      exact k)
  obtain ⟨T68, L68, X68, e68, N68, pre68⟩ := own_d40 (b := 282) hx hZ hw hown Z0 hml X65 e65 N65 OLD0 Pr_0 Pr_1 Pr_2 Pr_3 HC (own_nmD HM 3 3 (by decide) 1000 (by decide) (by decide) (by decide)) (hb hby d40_282) (hb hby d40_285) pre67
  have pre69 : ∀ t, Steps p.tables e below (T68.setTop (mkF m 288 #[.val (.ref o0), .val (.int p1), .val (.long q2), .second, .val (.int (own_p q2 p1)), .val (.long (own_m q2)), .second, .val (.int (own_ln (own_m q2))), .unset] [])) t → P t := pre68
  have pre70 : ∀ t, Steps p.tables e below (T68.setTop (mkF m 299 #[.val (.ref o0), .val (.int p1), .val (.long q2), .second, .val (.int (own_p q2 p1)), .val (.long (own_m q2)), .second, .val (.int (own_ln (own_m q2))), .unset] [(.long (10000 : Int64)), (.int (4 : Int32)), (.long (own_m q2)), (.int (own_ln (own_m q2))), (.int (own_p q2 p1)), (.ref o0)])) t → P t := fun t k => pre69 t (by
      refine XS.aloadN X68.here hx rfl (hb hby d40_288) rfl rfl ?_
      refine XS.iload X68.here hx rfl (hb hby d40_289) rfl ?_
      refine XS.iload X68.here hx rfl (hb hby d40_291) rfl ?_
      refine XS.lload X68.here hx rfl (hb hby d40_293) rfl ?_
      refine XS.iconst X68.here hx rfl (hb hby d40_295) ?_
      refine X68.ldc2Long hx hown (mvT hZ (hi hw 229 rfl)) (g := (mkF m 296 #[.val (.ref o0), .val (.int p1), .val (.long q2), .second, .val (.int (own_p q2 p1)), .val (.long (own_m q2)), .second, .val (.int (own_ln (own_m q2))), .unset] [(.int (4 : Int32)), (.long (own_m q2)), (.int (own_ln (own_m q2))), (.int (own_p q2 p1)), (.ref o0)])) rfl (hb hby d40_296) _ ?_
      exact k)
  obtain ⟨T71, L71, X71, e71, N71, pre71⟩ := own_d40 (b := 299) hx hZ hw hown Z0 hml X68 e68 N68 OLD0 Pr_0 Pr_1 Pr_2 Pr_3 HC (own_nmD HM 4 4 (by decide) 10000 (by decide) (by decide) (by decide)) (hb hby d40_299) (hb hby d40_302) pre70
  have pre72 : ∀ t, Steps p.tables e below (T71.setTop (mkF m 305 #[.val (.ref o0), .val (.int p1), .val (.long q2), .second, .val (.int (own_p q2 p1)), .val (.long (own_m q2)), .second, .val (.int (own_ln (own_m q2))), .unset] [])) t → P t := pre71
  have pre73 : ∀ t, Steps p.tables e below (T71.setTop (mkF m 316 #[.val (.ref o0), .val (.int p1), .val (.long q2), .second, .val (.int (own_p q2 p1)), .val (.long (own_m q2)), .second, .val (.int (own_ln (own_m q2))), .unset] [(.long (100000 : Int64)), (.int (5 : Int32)), (.long (own_m q2)), (.int (own_ln (own_m q2))), (.int (own_p q2 p1)), (.ref o0)])) t → P t := fun t k => pre72 t (by
      refine XS.aloadN X71.here hx rfl (hb hby d40_305) rfl rfl ?_
      refine XS.iload X71.here hx rfl (hb hby d40_306) rfl ?_
      refine XS.iload X71.here hx rfl (hb hby d40_308) rfl ?_
      refine XS.lload X71.here hx rfl (hb hby d40_310) rfl ?_
      refine XS.iconst X71.here hx rfl (hb hby d40_312) ?_
      refine X71.ldc2Long hx hown (mvT hZ (hi hw 230 rfl)) (g := (mkF m 313 #[.val (.ref o0), .val (.int p1), .val (.long q2), .second, .val (.int (own_p q2 p1)), .val (.long (own_m q2)), .second, .val (.int (own_ln (own_m q2))), .unset] [(.int (5 : Int32)), (.long (own_m q2)), (.int (own_ln (own_m q2))), (.int (own_p q2 p1)), (.ref o0)])) rfl (hb hby d40_313) _ ?_
      exact k)
  obtain ⟨T74, L74, X74, e74, N74, pre74⟩ := own_d40 (b := 316) hx hZ hw hown Z0 hml X71 e71 N71 OLD0 Pr_0 Pr_1 Pr_2 Pr_3 HC (own_nmD HM 5 5 (by decide) 100000 (by decide) (by decide) (by decide)) (hb hby d40_316) (hb hby d40_319) pre73
  have pre75 : ∀ t, Steps p.tables e below (T74.setTop (mkF m 322 #[.val (.ref o0), .val (.int p1), .val (.long q2), .second, .val (.int (own_p q2 p1)), .val (.long (own_m q2)), .second, .val (.int (own_ln (own_m q2))), .unset] [])) t → P t := pre74
  have pre76 : ∀ t, Steps p.tables e below (T74.setTop (mkF m 334 #[.val (.ref o0), .val (.int p1), .val (.long q2), .second, .val (.int (own_p q2 p1)), .val (.long (own_m q2)), .second, .val (.int (own_ln (own_m q2))), .unset] [(.long (1000000 : Int64)), (.int (6 : Int32)), (.long (own_m q2)), (.int (own_ln (own_m q2))), (.int (own_p q2 p1)), (.ref o0)])) t → P t := fun t k => pre75 t (by
      refine XS.aloadN X74.here hx rfl (hb hby d40_322) rfl rfl ?_
      refine XS.iload X74.here hx rfl (hb hby d40_323) rfl ?_
      refine XS.iload X74.here hx rfl (hb hby d40_325) rfl ?_
      refine XS.lload X74.here hx rfl (hb hby d40_327) rfl ?_
      refine XS.bipush X74.here hx rfl (hb hby d40_329) ?_
      refine X74.ldc2Long hx hown (mvT hZ (hi hw 231 rfl)) (g := (mkF m 331 #[.val (.ref o0), .val (.int p1), .val (.long q2), .second, .val (.int (own_p q2 p1)), .val (.long (own_m q2)), .second, .val (.int (own_ln (own_m q2))), .unset] [(.int (6 : Int32)), (.long (own_m q2)), (.int (own_ln (own_m q2))), (.int (own_p q2 p1)), (.ref o0)])) rfl (hb hby d40_331) _ ?_
      exact k)
  obtain ⟨T77, L77, X77, e77, N77, pre77⟩ := own_d40 (b := 334) hx hZ hw hown Z0 hml X74 e74 N74 OLD0 Pr_0 Pr_1 Pr_2 Pr_3 HC (own_nmD HM 6 6 (by decide) 1000000 (by decide) (by decide) (by decide)) (hb hby d40_334) (hb hby d40_337) pre76
  have pre78 : ∀ t, Steps p.tables e below (T77.setTop (mkF m 340 #[.val (.ref o0), .val (.int p1), .val (.long q2), .second, .val (.int (own_p q2 p1)), .val (.long (own_m q2)), .second, .val (.int (own_ln (own_m q2))), .unset] [])) t → P t := pre77
  have pre79 : ∀ t, Steps p.tables e below (T77.setTop (mkF m 352 #[.val (.ref o0), .val (.int p1), .val (.long q2), .second, .val (.int (own_p q2 p1)), .val (.long (own_m q2)), .second, .val (.int (own_ln (own_m q2))), .unset] [(.long (10000000 : Int64)), (.int (7 : Int32)), (.long (own_m q2)), (.int (own_ln (own_m q2))), (.int (own_p q2 p1)), (.ref o0)])) t → P t := fun t k => pre78 t (by
      refine XS.aloadN X77.here hx rfl (hb hby d40_340) rfl rfl ?_
      refine XS.iload X77.here hx rfl (hb hby d40_341) rfl ?_
      refine XS.iload X77.here hx rfl (hb hby d40_343) rfl ?_
      refine XS.lload X77.here hx rfl (hb hby d40_345) rfl ?_
      refine XS.bipush X77.here hx rfl (hb hby d40_347) ?_
      refine X77.ldc2Long hx hown (mvT hZ (hi hw 232 rfl)) (g := (mkF m 349 #[.val (.ref o0), .val (.int p1), .val (.long q2), .second, .val (.int (own_p q2 p1)), .val (.long (own_m q2)), .second, .val (.int (own_ln (own_m q2))), .unset] [(.int (7 : Int32)), (.long (own_m q2)), (.int (own_ln (own_m q2))), (.int (own_p q2 p1)), (.ref o0)])) rfl (hb hby d40_349) _ ?_
      exact k)
  obtain ⟨T80, L80, X80, e80, N80, pre80⟩ := own_d40 (b := 352) hx hZ hw hown Z0 hml X77 e77 N77 OLD0 Pr_0 Pr_1 Pr_2 Pr_3 HC (own_nmD HM 7 7 (by decide) 10000000 (by decide) (by decide) (by decide)) (hb hby d40_352) (hb hby d40_355) pre79
  have pre81 : ∀ t, Steps p.tables e below (T80.setTop (mkF m 358 #[.val (.ref o0), .val (.int p1), .val (.long q2), .second, .val (.int (own_p q2 p1)), .val (.long (own_m q2)), .second, .val (.int (own_ln (own_m q2))), .unset] [])) t → P t := pre80
  have pre82 : ∀ t, Steps p.tables e below (T80.setTop (mkF m 370 #[.val (.ref o0), .val (.int p1), .val (.long q2), .second, .val (.int (own_p q2 p1)), .val (.long (own_m q2)), .second, .val (.int (own_ln (own_m q2))), .unset] [(.long (100000000 : Int64)), (.int (8 : Int32)), (.long (own_m q2)), (.int (own_ln (own_m q2))), (.int (own_p q2 p1)), (.ref o0)])) t → P t := fun t k => pre81 t (by
      refine XS.aloadN X80.here hx rfl (hb hby d40_358) rfl rfl ?_
      refine XS.iload X80.here hx rfl (hb hby d40_359) rfl ?_
      refine XS.iload X80.here hx rfl (hb hby d40_361) rfl ?_
      refine XS.lload X80.here hx rfl (hb hby d40_363) rfl ?_
      refine XS.bipush X80.here hx rfl (hb hby d40_365) ?_
      refine X80.ldc2Long hx hown (mvT hZ (hi hw 233 rfl)) (g := (mkF m 367 #[.val (.ref o0), .val (.int p1), .val (.long q2), .second, .val (.int (own_p q2 p1)), .val (.long (own_m q2)), .second, .val (.int (own_ln (own_m q2))), .unset] [(.int (8 : Int32)), (.long (own_m q2)), (.int (own_ln (own_m q2))), (.int (own_p q2 p1)), (.ref o0)])) rfl (hb hby d40_367) _ ?_
      exact k)
  obtain ⟨T83, L83, X83, e83, N83, pre83⟩ := own_d40 (b := 370) hx hZ hw hown Z0 hml X80 e80 N80 OLD0 Pr_0 Pr_1 Pr_2 Pr_3 HC (own_nmD HM 8 8 (by decide) 100000000 (by decide) (by decide) (by decide)) (hb hby d40_370) (hb hby d40_373) pre82
  have pre84 : ∀ t, Steps p.tables e below (T83.setTop (mkF m 376 #[.val (.ref o0), .val (.int p1), .val (.long q2), .second, .val (.int (own_p q2 p1)), .val (.long (own_m q2)), .second, .val (.int (own_ln (own_m q2))), .unset] [])) t → P t := pre83
  have pre85 : ∀ t, Steps p.tables e below (T83.setTop (mkF m 388 #[.val (.ref o0), .val (.int p1), .val (.long q2), .second, .val (.int (own_p q2 p1)), .val (.long (own_m q2)), .second, .val (.int (own_ln (own_m q2))), .unset] [(.long (1000000000 : Int64)), (.int (9 : Int32)), (.long (own_m q2)), (.int (own_ln (own_m q2))), (.int (own_p q2 p1)), (.ref o0)])) t → P t := fun t k => pre84 t (by
      refine XS.aloadN X83.here hx rfl (hb hby d40_376) rfl rfl ?_
      refine XS.iload X83.here hx rfl (hb hby d40_377) rfl ?_
      refine XS.iload X83.here hx rfl (hb hby d40_379) rfl ?_
      refine XS.lload X83.here hx rfl (hb hby d40_381) rfl ?_
      refine XS.bipush X83.here hx rfl (hb hby d40_383) ?_
      refine X83.ldc2Long hx hown (mvT hZ (hi hw 234 rfl)) (g := (mkF m 385 #[.val (.ref o0), .val (.int p1), .val (.long q2), .second, .val (.int (own_p q2 p1)), .val (.long (own_m q2)), .second, .val (.int (own_ln (own_m q2))), .unset] [(.int (9 : Int32)), (.long (own_m q2)), (.int (own_ln (own_m q2))), (.int (own_p q2 p1)), (.ref o0)])) rfl (hb hby d40_385) _ ?_
      exact k)
  obtain ⟨T86, L86, X86, e86, N86, pre86⟩ := own_d40 (b := 388) hx hZ hw hown Z0 hml X83 e83 N83 OLD0 Pr_0 Pr_1 Pr_2 Pr_3 HC (own_nmD HM 9 9 (by decide) 1000000000 (by decide) (by decide) (by decide)) (hb hby d40_388) (hb hby d40_391) pre85
  have pre87 : ∀ t, Steps p.tables e below (T86.setTop (mkF m 394 #[.val (.ref o0), .val (.int p1), .val (.long q2), .second, .val (.int (own_p q2 p1)), .val (.long (own_m q2)), .second, .val (.int (own_ln (own_m q2))), .unset] [])) t → P t := pre86
  have pre88 : ∀ t, Steps p.tables e below (T86.setTop (mkF m 406 #[.val (.ref o0), .val (.int p1), .val (.long q2), .second, .val (.int (own_p q2 p1)), .val (.long (own_m q2)), .second, .val (.int (own_ln (own_m q2))), .unset] [(.long (10000000000 : Int64)), (.int (10 : Int32)), (.long (own_m q2)), (.int (own_ln (own_m q2))), (.int (own_p q2 p1)), (.ref o0)])) t → P t := fun t k => pre87 t (by
      refine XS.aloadN X86.here hx rfl (hb hby d40_394) rfl rfl ?_
      refine XS.iload X86.here hx rfl (hb hby d40_395) rfl ?_
      refine XS.iload X86.here hx rfl (hb hby d40_397) rfl ?_
      refine XS.lload X86.here hx rfl (hb hby d40_399) rfl ?_
      refine XS.bipush X86.here hx rfl (hb hby d40_401) ?_
      refine X86.ldc2Long hx hown (mvT hZ (hi hw 235 rfl)) (g := (mkF m 403 #[.val (.ref o0), .val (.int p1), .val (.long q2), .second, .val (.int (own_p q2 p1)), .val (.long (own_m q2)), .second, .val (.int (own_ln (own_m q2))), .unset] [(.int (10 : Int32)), (.long (own_m q2)), (.int (own_ln (own_m q2))), (.int (own_p q2 p1)), (.ref o0)])) rfl (hb hby d40_403) _ ?_
      exact k)
  obtain ⟨T89, L89, X89, e89, N89, pre89⟩ := own_d40 (b := 406) hx hZ hw hown Z0 hml X86 e86 N86 OLD0 Pr_0 Pr_1 Pr_2 Pr_3 HC (own_nmD HM 10 10 (by decide) 10000000000 (by decide) (by decide) (by decide)) (hb hby d40_406) (hb hby d40_409) pre88
  have pre90 : ∀ t, Steps p.tables e below (T89.setTop (mkF m 412 #[.val (.ref o0), .val (.int p1), .val (.long q2), .second, .val (.int (own_p q2 p1)), .val (.long (own_m q2)), .second, .val (.int (own_ln (own_m q2))), .unset] [])) t → P t := pre89
  have pre91 : ∀ t, Steps p.tables e below (T89.setTop (mkF m 424 #[.val (.ref o0), .val (.int p1), .val (.long q2), .second, .val (.int (own_p q2 p1)), .val (.long (own_m q2)), .second, .val (.int (own_ln (own_m q2))), .unset] [(.long (100000000000 : Int64)), (.int (11 : Int32)), (.long (own_m q2)), (.int (own_ln (own_m q2))), (.int (own_p q2 p1)), (.ref o0)])) t → P t := fun t k => pre90 t (by
      refine XS.aloadN X89.here hx rfl (hb hby d40_412) rfl rfl ?_
      refine XS.iload X89.here hx rfl (hb hby d40_413) rfl ?_
      refine XS.iload X89.here hx rfl (hb hby d40_415) rfl ?_
      refine XS.lload X89.here hx rfl (hb hby d40_417) rfl ?_
      refine XS.bipush X89.here hx rfl (hb hby d40_419) ?_
      refine X89.ldc2Long hx hown (mvT hZ (hi hw 236 rfl)) (g := (mkF m 421 #[.val (.ref o0), .val (.int p1), .val (.long q2), .second, .val (.int (own_p q2 p1)), .val (.long (own_m q2)), .second, .val (.int (own_ln (own_m q2))), .unset] [(.int (11 : Int32)), (.long (own_m q2)), (.int (own_ln (own_m q2))), (.int (own_p q2 p1)), (.ref o0)])) rfl (hb hby d40_421) _ ?_
      exact k)
  obtain ⟨T92, L92, X92, e92, N92, pre92⟩ := own_d40 (b := 424) hx hZ hw hown Z0 hml X89 e89 N89 OLD0 Pr_0 Pr_1 Pr_2 Pr_3 HC (own_nmD HM 11 11 (by decide) 100000000000 (by decide) (by decide) (by decide)) (hb hby d40_424) (hb hby d40_427) pre91
  have pre93 : ∀ t, Steps p.tables e below (T92.setTop (mkF m 430 #[.val (.ref o0), .val (.int p1), .val (.long q2), .second, .val (.int (own_p q2 p1)), .val (.long (own_m q2)), .second, .val (.int (own_ln (own_m q2))), .unset] [])) t → P t := pre92
  have pre94 : ∀ t, Steps p.tables e below (T92.setTop (mkF m 442 #[.val (.ref o0), .val (.int p1), .val (.long q2), .second, .val (.int (own_p q2 p1)), .val (.long (own_m q2)), .second, .val (.int (own_ln (own_m q2))), .unset] [(.long (1000000000000 : Int64)), (.int (12 : Int32)), (.long (own_m q2)), (.int (own_ln (own_m q2))), (.int (own_p q2 p1)), (.ref o0)])) t → P t := fun t k => pre93 t (by
      refine XS.aloadN X92.here hx rfl (hb hby d40_430) rfl rfl ?_
      refine XS.iload X92.here hx rfl (hb hby d40_431) rfl ?_
      refine XS.iload X92.here hx rfl (hb hby d40_433) rfl ?_
      refine XS.lload X92.here hx rfl (hb hby d40_435) rfl ?_
      refine XS.bipush X92.here hx rfl (hb hby d40_437) ?_
      refine X92.ldc2Long hx hown (mvT hZ (hi hw 237 rfl)) (g := (mkF m 439 #[.val (.ref o0), .val (.int p1), .val (.long q2), .second, .val (.int (own_p q2 p1)), .val (.long (own_m q2)), .second, .val (.int (own_ln (own_m q2))), .unset] [(.int (12 : Int32)), (.long (own_m q2)), (.int (own_ln (own_m q2))), (.int (own_p q2 p1)), (.ref o0)])) rfl (hb hby d40_439) _ ?_
      exact k)
  obtain ⟨T95, L95, X95, e95, N95, pre95⟩ := own_d40 (b := 442) hx hZ hw hown Z0 hml X92 e92 N92 OLD0 Pr_0 Pr_1 Pr_2 Pr_3 HC (own_nmD HM 12 12 (by decide) 1000000000000 (by decide) (by decide) (by decide)) (hb hby d40_442) (hb hby d40_445) pre94
  have pre96 : ∀ t, Steps p.tables e below (T95.setTop (mkF m 448 #[.val (.ref o0), .val (.int p1), .val (.long q2), .second, .val (.int (own_p q2 p1)), .val (.long (own_m q2)), .second, .val (.int (own_ln (own_m q2))), .unset] [])) t → P t := pre95
  have pre97 : ∀ t, Steps p.tables e below (T95.setTop (mkF m 460 #[.val (.ref o0), .val (.int p1), .val (.long q2), .second, .val (.int (own_p q2 p1)), .val (.long (own_m q2)), .second, .val (.int (own_ln (own_m q2))), .unset] [(.long (10000000000000 : Int64)), (.int (13 : Int32)), (.long (own_m q2)), (.int (own_ln (own_m q2))), (.int (own_p q2 p1)), (.ref o0)])) t → P t := fun t k => pre96 t (by
      refine XS.aloadN X95.here hx rfl (hb hby d40_448) rfl rfl ?_
      refine XS.iload X95.here hx rfl (hb hby d40_449) rfl ?_
      refine XS.iload X95.here hx rfl (hb hby d40_451) rfl ?_
      refine XS.lload X95.here hx rfl (hb hby d40_453) rfl ?_
      refine XS.bipush X95.here hx rfl (hb hby d40_455) ?_
      refine X95.ldc2Long hx hown (mvT hZ (hi hw 238 rfl)) (g := (mkF m 457 #[.val (.ref o0), .val (.int p1), .val (.long q2), .second, .val (.int (own_p q2 p1)), .val (.long (own_m q2)), .second, .val (.int (own_ln (own_m q2))), .unset] [(.int (13 : Int32)), (.long (own_m q2)), (.int (own_ln (own_m q2))), (.int (own_p q2 p1)), (.ref o0)])) rfl (hb hby d40_457) _ ?_
      exact k)
  obtain ⟨T98, L98, X98, e98, N98, pre98⟩ := own_d40 (b := 460) hx hZ hw hown Z0 hml X95 e95 N95 OLD0 Pr_0 Pr_1 Pr_2 Pr_3 HC (own_nmD HM 13 13 (by decide) 10000000000000 (by decide) (by decide) (by decide)) (hb hby d40_460) (hb hby d40_463) pre97
  have pre99 : ∀ t, Steps p.tables e below (T98.setTop (mkF m 466 #[.val (.ref o0), .val (.int p1), .val (.long q2), .second, .val (.int (own_p q2 p1)), .val (.long (own_m q2)), .second, .val (.int (own_ln (own_m q2))), .unset] [])) t → P t := pre98
  have pre100 : ∀ t, Steps p.tables e below (T98.setTop (mkF m 478 #[.val (.ref o0), .val (.int p1), .val (.long q2), .second, .val (.int (own_p q2 p1)), .val (.long (own_m q2)), .second, .val (.int (own_ln (own_m q2))), .unset] [(.long (100000000000000 : Int64)), (.int (14 : Int32)), (.long (own_m q2)), (.int (own_ln (own_m q2))), (.int (own_p q2 p1)), (.ref o0)])) t → P t := fun t k => pre99 t (by
      refine XS.aloadN X98.here hx rfl (hb hby d40_466) rfl rfl ?_
      refine XS.iload X98.here hx rfl (hb hby d40_467) rfl ?_
      refine XS.iload X98.here hx rfl (hb hby d40_469) rfl ?_
      refine XS.lload X98.here hx rfl (hb hby d40_471) rfl ?_
      refine XS.bipush X98.here hx rfl (hb hby d40_473) ?_
      refine X98.ldc2Long hx hown (mvT hZ (hi hw 239 rfl)) (g := (mkF m 475 #[.val (.ref o0), .val (.int p1), .val (.long q2), .second, .val (.int (own_p q2 p1)), .val (.long (own_m q2)), .second, .val (.int (own_ln (own_m q2))), .unset] [(.int (14 : Int32)), (.long (own_m q2)), (.int (own_ln (own_m q2))), (.int (own_p q2 p1)), (.ref o0)])) rfl (hb hby d40_475) _ ?_
      exact k)
  obtain ⟨T101, L101, X101, e101, N101, pre101⟩ := own_d40 (b := 478) hx hZ hw hown Z0 hml X98 e98 N98 OLD0 Pr_0 Pr_1 Pr_2 Pr_3 HC (own_nmD HM 14 14 (by decide) 100000000000000 (by decide) (by decide) (by decide)) (hb hby d40_478) (hb hby d40_481) pre100
  have pre102 : ∀ t, Steps p.tables e below (T101.setTop (mkF m 484 #[.val (.ref o0), .val (.int p1), .val (.long q2), .second, .val (.int (own_p q2 p1)), .val (.long (own_m q2)), .second, .val (.int (own_ln (own_m q2))), .unset] [])) t → P t := pre101
  have pre103 : ∀ t, Steps p.tables e below (T101.setTop (mkF m 496 #[.val (.ref o0), .val (.int p1), .val (.long q2), .second, .val (.int (own_p q2 p1)), .val (.long (own_m q2)), .second, .val (.int (own_ln (own_m q2))), .unset] [(.long (1000000000000000 : Int64)), (.int (15 : Int32)), (.long (own_m q2)), (.int (own_ln (own_m q2))), (.int (own_p q2 p1)), (.ref o0)])) t → P t := fun t k => pre102 t (by
      refine XS.aloadN X101.here hx rfl (hb hby d40_484) rfl rfl ?_
      refine XS.iload X101.here hx rfl (hb hby d40_485) rfl ?_
      refine XS.iload X101.here hx rfl (hb hby d40_487) rfl ?_
      refine XS.lload X101.here hx rfl (hb hby d40_489) rfl ?_
      refine XS.bipush X101.here hx rfl (hb hby d40_491) ?_
      refine X101.ldc2Long hx hown (mvT hZ (hi hw 240 rfl)) (g := (mkF m 493 #[.val (.ref o0), .val (.int p1), .val (.long q2), .second, .val (.int (own_p q2 p1)), .val (.long (own_m q2)), .second, .val (.int (own_ln (own_m q2))), .unset] [(.int (15 : Int32)), (.long (own_m q2)), (.int (own_ln (own_m q2))), (.int (own_p q2 p1)), (.ref o0)])) rfl (hb hby d40_493) _ ?_
      exact k)
  obtain ⟨T104, L104, X104, e104, N104, pre104⟩ := own_d40 (b := 496) hx hZ hw hown Z0 hml X101 e101 N101 OLD0 Pr_0 Pr_1 Pr_2 Pr_3 HC (own_nmD HM 15 15 (by decide) 1000000000000000 (by decide) (by decide) (by decide)) (hb hby d40_496) (hb hby d40_499) pre103
  have pre105 : ∀ t, Steps p.tables e below (T104.setTop (mkF m 502 #[.val (.ref o0), .val (.int p1), .val (.long q2), .second, .val (.int (own_p q2 p1)), .val (.long (own_m q2)), .second, .val (.int (own_ln (own_m q2))), .unset] [])) t → P t := pre104
  have pre106 : ∀ t, Steps p.tables e below (T104.setTop (mkF m 514 #[.val (.ref o0), .val (.int p1), .val (.long q2), .second, .val (.int (own_p q2 p1)), .val (.long (own_m q2)), .second, .val (.int (own_ln (own_m q2))), .unset] [(.long (10000000000000000 : Int64)), (.int (16 : Int32)), (.long (own_m q2)), (.int (own_ln (own_m q2))), (.int (own_p q2 p1)), (.ref o0)])) t → P t := fun t k => pre105 t (by
      refine XS.aloadN X104.here hx rfl (hb hby d40_502) rfl rfl ?_
      refine XS.iload X104.here hx rfl (hb hby d40_503) rfl ?_
      refine XS.iload X104.here hx rfl (hb hby d40_505) rfl ?_
      refine XS.lload X104.here hx rfl (hb hby d40_507) rfl ?_
      refine XS.bipush X104.here hx rfl (hb hby d40_509) ?_
      refine X104.ldc2Long hx hown (mvT hZ (hi hw 241 rfl)) (g := (mkF m 511 #[.val (.ref o0), .val (.int p1), .val (.long q2), .second, .val (.int (own_p q2 p1)), .val (.long (own_m q2)), .second, .val (.int (own_ln (own_m q2))), .unset] [(.int (16 : Int32)), (.long (own_m q2)), (.int (own_ln (own_m q2))), (.int (own_p q2 p1)), (.ref o0)])) rfl (hb hby d40_511) _ ?_
      exact k)
  obtain ⟨T107, L107, X107, e107, N107, pre107⟩ := own_d40 (b := 514) hx hZ hw hown Z0 hml X104 e104 N104 OLD0 Pr_0 Pr_1 Pr_2 Pr_3 HC (own_nmD HM 16 16 (by decide) 10000000000000000 (by decide) (by decide) (by decide)) (hb hby d40_514) (hb hby d40_517) pre106
  have pre108 : ∀ t, Steps p.tables e below (T107.setTop (mkF m 520 #[.val (.ref o0), .val (.int p1), .val (.long q2), .second, .val (.int (own_p q2 p1)), .val (.long (own_m q2)), .second, .val (.int (own_ln (own_m q2))), .unset] [])) t → P t := pre107
  have pre109 : ∀ t, Steps p.tables e below (T107.setTop (mkF m 532 #[.val (.ref o0), .val (.int p1), .val (.long q2), .second, .val (.int (own_p q2 p1)), .val (.long (own_m q2)), .second, .val (.int (own_ln (own_m q2))), .unset] [(.long (100000000000000000 : Int64)), (.int (17 : Int32)), (.long (own_m q2)), (.int (own_ln (own_m q2))), (.int (own_p q2 p1)), (.ref o0)])) t → P t := fun t k => pre108 t (by
      refine XS.aloadN X107.here hx rfl (hb hby d40_520) rfl rfl ?_
      refine XS.iload X107.here hx rfl (hb hby d40_521) rfl ?_
      refine XS.iload X107.here hx rfl (hb hby d40_523) rfl ?_
      refine XS.lload X107.here hx rfl (hb hby d40_525) rfl ?_
      refine XS.bipush X107.here hx rfl (hb hby d40_527) ?_
      refine X107.ldc2Long hx hown (mvT hZ (hi hw 242 rfl)) (g := (mkF m 529 #[.val (.ref o0), .val (.int p1), .val (.long q2), .second, .val (.int (own_p q2 p1)), .val (.long (own_m q2)), .second, .val (.int (own_ln (own_m q2))), .unset] [(.int (17 : Int32)), (.long (own_m q2)), (.int (own_ln (own_m q2))), (.int (own_p q2 p1)), (.ref o0)])) rfl (hb hby d40_529) _ ?_
      exact k)
  obtain ⟨T110, L110, X110, e110, N110, pre110⟩ := own_d40 (b := 532) hx hZ hw hown Z0 hml X107 e107 N107 OLD0 Pr_0 Pr_1 Pr_2 Pr_3 HC (own_nmD HM 17 17 (by decide) 100000000000000000 (by decide) (by decide) (by decide)) (hb hby d40_532) (hb hby d40_535) pre109
  have pre111 : ∀ t, Steps p.tables e below (T110.setTop (mkF m 538 #[.val (.ref o0), .val (.int p1), .val (.long q2), .second, .val (.int (own_p q2 p1)), .val (.long (own_m q2)), .second, .val (.int (own_ln (own_m q2))), .unset] [])) t → P t := pre110
  have pre112 : ∀ t, Steps p.tables e below (T110.setTop (mkF m 550 #[.val (.ref o0), .val (.int p1), .val (.long q2), .second, .val (.int (own_p q2 p1)), .val (.long (own_m q2)), .second, .val (.int (own_ln (own_m q2))), .unset] [(.long (1000000000000000000 : Int64)), (.int (18 : Int32)), (.long (own_m q2)), (.int (own_ln (own_m q2))), (.int (own_p q2 p1)), (.ref o0)])) t → P t := fun t k => pre111 t (by
      refine XS.aloadN X110.here hx rfl (hb hby d40_538) rfl rfl ?_
      refine XS.iload X110.here hx rfl (hb hby d40_539) rfl ?_
      refine XS.iload X110.here hx rfl (hb hby d40_541) rfl ?_
      refine XS.lload X110.here hx rfl (hb hby d40_543) rfl ?_
      refine XS.bipush X110.here hx rfl (hb hby d40_545) ?_
      refine X110.ldc2Long hx hown (mvT hZ (hi hw 243 rfl)) (g := (mkF m 547 #[.val (.ref o0), .val (.int p1), .val (.long q2), .second, .val (.int (own_p q2 p1)), .val (.long (own_m q2)), .second, .val (.int (own_ln (own_m q2))), .unset] [(.int (18 : Int32)), (.long (own_m q2)), (.int (own_ln (own_m q2))), (.int (own_p q2 p1)), (.ref o0)])) rfl (hb hby d40_547) _ ?_
      exact k)
  obtain ⟨T113, L113, X113, e113, N113, pre113⟩ := own_d40 (b := 550) hx hZ hw hown Z0 hml X110 e110 N110 OLD0 Pr_0 Pr_1 Pr_2 Pr_3 HC (own_nmD HM 18 18 (by decide) 1000000000000000000 (by decide) (by decide) (by decide)) (hb hby d40_550) (hb hby d40_553) pre112
  have pre114 : ∀ t, Steps p.tables e below (T113.setTop (mkF m 556 #[.val (.ref o0), .val (.int p1), .val (.long q2), .second, .val (.int (own_p q2 p1)), .val (.long (own_m q2)), .second, .val (.int (own_ln (own_m q2))), .unset] [])) t → P t := pre113
  have pre115 : ∀ t, Steps p.tables e below (T113.setTop (mkF m 573 #[.val (.ref o0), .val (.int p1), .val (.long q2), .second, .val (.int (own_p q2 p1)), .val (.long (own_m q2)), .second, .val (.int (own_ln (own_m q2))), .val (.int (1 : Int32))] [(.int ((own_p q2 p1) + (own_ln (own_m q2))))])) t → P t := fun t k => pre114 t (by
      refine XS.iconst X113.here hx rfl (hb hby d40_556) ?_
      refine XS.goto X113.here hx rfl (pc0 := 557) (pc' := 561) rfl (hb hby d40_557) (by decide) (by decide) ?_
      refine XS.istore X113.here hx rfl (hb hby d40_561) rfl (l' := #[.val (.ref o0), .val (.int p1), .val (.long q2), .second, .val (.int (own_p q2 p1)), .val (.long (own_m q2)), .second, .val (.int (own_ln (own_m q2))), .val (.int (1 : Int32))]) rfl ?_
      refine XS.iload X113.here hx rfl (hb hby d40_563) rfl ?_
      refine XS.ifNo X113.here hx rfl (hb hby d40_565) rfl ((if0 _ _).trans (feq (by decide : ¬ ((1 : Int32) = (0 : Int32)))).1) ?_
      refine XS.iload X113.here hx rfl (hb hby d40_568) rfl ?_
      refine XS.iload X113.here hx rfl (hb hby d40_570) rfl ?_
      refine XS.iadd X113.here hx rfl (hb hby d40_572) rfl ?_
      exact k)
  have pre116 : ∀ t, Steps p.tables e below (T113.setTop (mkF m 573 #[.val (.ref o0), .val (.int p1), .val (.long q2), .second, .val (.int (own_p q2 p1)), .val (.long (own_m q2)), .second, .val (.int (own_ln (own_m q2))), .val (.int (1 : Int32))] [(.int (p1 + (own_f16 q2)))])) t → P t := fun t k => pre115 t (by rw [show ((own_p q2 p1) + (own_ln (own_m q2))) = (p1 + (own_f16 q2)) from (own_nmE HM)]; exact k)
  have pre117 : ∀ t, Steps p.tables e below (T113.setTop (mkF m 577 #[.val (.ref o0), .val (.int p1), .val (.long q2), .second, .val (.int (own_p q2 p1)), .val (.long (own_m q2)), .second, .val (.int (own_ln (own_m q2))), .val (.int (1 : Int32))] [(.int (p1 + (own_f16 q2)))])) t → P t := fun t k => pre116 t (by
      refine XS.goto X113.here hx rfl (pc0 := 573) (pc' := 577) rfl (hb hby d40_573) (by decide) (by decide) ?_
      exact k)
  obtain ⟨fs, hr, hrun, hended, hW, hsame⟩ := X113.leave (v := some (.int (p1 + (own_f16 q2)))) (fun h => by rw [Bd.returns] at h; cases h)
  refine ⟨_, _, fin _ (pre117 _ ?_), hrun, hended, _, _, rfl, ?_, ⟨_, rfl⟩, hW, hsame.mono (by decide) (by decide)⟩
  · show Steps p.tables e below (T113.setTop (mkF m 577 #[.val (.ref o0), .val (.int p1), .val (.long q2), .second, .val (.int (own_p q2 p1)), .val (.long (own_m q2)), .second, .val (.int (own_ln (own_m q2))), .val (.int (1 : Int32))] [(.int (p1 + (own_f16 q2)))])) _
    exact retI X113 hx Bd.returns (hb hby d40_577) hr
  · show Q40 Z o0 p1 q2 bv kv zv vs h0 n0 _ T113.heap _
    rw [e113]
    exact ⟨rfl, N113, rfl⟩
theorem own_pd30 : parseMethodDescriptor "(JJJJ)V" = some ⟨[.long, .long, .long, .long], none⟩ := by decide +kernel
theorem own_pd31 : parseMethodDescriptor "(Ljava/lang/String;ILjava/lang/String;)I" = some ⟨[(.object "java/lang/String"), .int, (.object "java/lang/String")], some .int⟩ := by decide +kernel
theorem own_pd32 : parseMethodDescriptor "(Ljava/lang/String;IJ)I" = some ⟨[(.object "java/lang/String"), .int, .long], some .int⟩ := by decide +kernel
theorem pn_0 : plainName "com/example/xmax/xmax/queue/QueueStatusToStringPinLaw" = true := by first | (simp [plainName, overriddenIn]; done) | decide +kernel
theorem ef_0 (m : MethodId) (q0 : Int64) (q1 : Int64) (q2 : Int64) (q3 : Int64) : entryFrame m #[(.long q0), (.long q1), (.long q2), (.long q3)] maxLocals = mkF m 0 #[.val (.long q0), .second, .val (.long q1), .second, .val (.long q2), .second, .val (.long q3), .second, .unset, .unset] [] := by first | (simp [entryFrame, mkF, argsToLocals, Value.category, maxLocals]; done) | rfl
def Q0 (Z : State) (q0 : Int64) (q1 : Int64) (q2 : Int64) (q3 : Int64) (h0 : Heap) (n0 : Nat) (v : Option Value) (h : Heap) (L : List Loc) : Prop := v = some (.int (1 : Int32)) ∧ Fr n0 L
set_option maxRecDepth 65536 in
set_option maxHeartbeats 40000000 in
theorem rm0 (l : Launch) (Z : State) (a0 : Array Value) (hw : ∀ d ∈ tables_1, d.before a0 Z = true) (ws : List Jvm.Cond) (q0 : Int64) (q1 : Int64) (q2 : Int64) (q3 : Int64) (h0 : Heap) (n0 : Nat) (Z0 : n0 ≤ h0.size) (OLD0 : Old Z n0 h0) (HC : own_CC Z) :
    MetFree l x (head1 (Jvm.Cond.code x code maxLocals ret :: ws) room_1) (fun a U => a = #[(.long q0), (.long q1), (.long q2), (.long q3)] ∧ Z.Warmed39 U.vm ∧ U.heap = h0 ∧ CHv Z own_EL U.vm h0) (fun _ _ _ _ _ => True) (fun _ U o U' => ∃ v L, o = .returned v ∧ Q0 Z q0 q1 q2 q3 h0 n0 v U'.heap L ∧ ReturnedEndW U o U' L room_1.cells room_1.slots) := by
  refine MetFree.of_bodySF (plainFor_of_name pn_0) hisR ?_
  intro p e s m args below meth c s₁ Bd hml0 hP hK
  obtain ⟨rfl, hZ, hh, hCH⟩ := hP
  have hx := Bd.exec
  have hby := Bd.bytes
  have hml : c.maxLocals = 10 := hml0
  have hown : s.vm.findClass "com/example/xmax/xmax/queue/QueueStatusToStringPinLaw" = some m.cls := findClass_of_methodNamed Bd.named
  have hnm := (name_of_methodNamed Bd.named Bd.method).1
  have X0 : Stand p l e room_1 s m #[(.long q0), (.long q1), (.long q2), (.long q3)] below meth c s₁ [] 0 0 := Stand.of_body Bd
  have e0 : s₁.heap = h0 := by rw [← hh, Bd.state]; rfl
  have N0 := Fr.nil n0
  have C0 : CHr Z own_EL s.vm h0 s.vm h0 := CHr.refl hCH
  obtain ⟨P, pre0, fin⟩ : ∃ P : State → Prop, (∀ t, Steps p.tables e below (s₁.setTop (mkF m 0 #[.val (.long q0), .second, .val (.long q1), .second, .val (.long q2), .second, .val (.long q3), .second, .unset, .unset] [])) t → P t) ∧ (∀ t, P t → Steps p.tables e below (s₁.setTop (entryFrame m #[(.long q0), (.long q1), (.long q2), (.long q3)] maxLocals)) t) := ⟨fun t => Steps p.tables e below (s₁.setTop (entryFrame m #[(.long q0), (.long q1), (.long q2), (.long q3)] maxLocals)) t, fun t k => castTop (ef_0 m q0 q1 q2 q3) k, fun t k => k⟩
  have K0 : Keep h0 h0 [] := Keep.refl _ _
  obtain ⟨T1, h1, X1, e1, E1, A1, D1, -, st1⟩ := newO X0 hx hZ hown (hi hw 0 rfl) (hi hw 1 rfl) (hi hw 2 rfl) e0 (g := (mkF m 0 #[.val (.long q0), .second, .val (.long q1), .second, .val (.long q2), .second, .val (.long q3), .second, .unset, .unset] [])) rfl (hb hby at_0) (by decide) (by decide)
  obtain ⟨b1, g1⟩ : ∃ z, z = h0.size := ⟨_, rfl⟩
  have g_b1 : n0 ≤ b1 := Nat.le_trans Z0 (Nat.le_of_eq g1.symm)
  have sz_b1 : h0.size ≤ b1 := Nat.le_trans K0.1 (Nat.le_of_eq g1.symm)
  rw [← g1] at A1 D1 st1
  have pre1 : ∀ t, Steps p.tables e below (T1.setTop (mkF m 3 #[.val (.long q0), .second, .val (.long q1), .second, .val (.long q2), .second, .val (.long q3), .second, .unset, .unset] [(.ref b1)])) t → P t := fun t k => pre0 t (st1 _ k)
  have c2 : n0 ≤ h1.size := Nat.le_trans Z0 E1.1
  have c3 : Old Z n0 h1 := OLD0.ext E1
  have c4 : CHr Z own_EL s.vm h0 s.vm h1 := C0.trans (CHr.ext E1 C0.1)
  have K5 : Keep h0 h1 [] := K0.ext E1
  have F1_ready : Fld Z h1 b1 "com/example/xmax/xmax/queue/QueueStatus" "ready" "J" (.long (0 : Int64)) := D1 (Or.inr (hi hw 10 rfl)) (ty := .long) (by decide)
  have F1_claimed : Fld Z h1 b1 "com/example/xmax/xmax/queue/QueueStatus" "claimed" "J" (.long (0 : Int64)) := D1 (Or.inr (hi hw 12 rfl)) (ty := .long) (by decide)
  have F1_done : Fld Z h1 b1 "com/example/xmax/xmax/queue/QueueStatus" "done" "J" (.long (0 : Int64)) := D1 (Or.inr (hi hw 14 rfl)) (ty := .long) (by decide)
  have F1_failed : Fld Z h1 b1 "com/example/xmax/xmax/queue/QueueStatus" "failed" "J" (.long (0 : Int64)) := D1 (Or.inr (hi hw 16 rfl)) (ty := .long) (by decide)
  have pre6 : ∀ t, Steps p.tables e below (T1.setTop (mkF m 10 #[.val (.long q0), .second, .val (.long q1), .second, .val (.long q2), .second, .val (.long q3), .second, .unset, .unset] [(.long q3), (.long q2), (.long q1), (.long q0), (.ref b1), (.ref b1)])) t → P t := fun t k => pre1 t (by
      refine XS.dup X1.here hx rfl (hb hby at_3) rfl rfl ?_
      refine XS.lloadN X1.here hx rfl (hb hby at_4) rfl ?_
      refine XS.lloadN X1.here hx rfl (hb hby at_5) rfl ?_
      refine XS.lload X1.here hx rfl (hb hby at_6) rfl ?_
      refine XS.lload X1.here hx rfl (hb hby at_8) rfl ?_
      exact k)
  obtain ⟨_, _, ⟨T7, L7, k7, n7⟩, -, X7, ⟨Lc7, hQ7, l7, y7, z7⟩, st7⟩ := X1.specialBack hx (y := (⟨"com/example/xmax/xmax/queue/QueueStatus", "<init>", "(JJJJ)V"⟩ : MethodName)) rfl hown (mvT hZ (hi hw 3 rfl)) (mvT hZ (hi hw 4 rfl)) (mvT hZ (hi hw 5 rfl)) (by decide) (backOf (W := 1) (rm1 l Z a0 hw [] b1 q0 q1 q2 q3 h1 n0 c2 A1 F1_ready F1_claimed F1_done F1_failed g_b1) hZ (hi hw 5 rfl) (hi hw 2 rfl) (by decide) (by decide)) (g := (mkF m 10 #[.val (.long q0), .second, .val (.long q1), .second, .val (.long q2), .second, .val (.long q3), .second, .unset, .unset] [(.long q3), (.long q2), (.long q1), (.long q0), (.ref b1), (.ref b1)])) rfl (by rw [hml]; rfl) (Steps.refl _) (a := b1) (argsL := [(.long q0), (.long q1), (.long q2), (.long q3)]) (rest := [(.ref b1)]) (lenOf own_pd30 rfl) rfl (by show 2 * 0 + _ ≤ _; exact Nat.le_of_eq rfl) (hb hby at_10) (fun _ _ => ⟨rfl, e1, (by decide : 1 + 0 ≤ _), (by decide : 4 + 0 ≤ _)⟩)
  dsimp only [Pt.U, Pt.locs, Pt.cells, Pt.slots] at X7 l7 y7 z7 st7 hQ7
  subst l7 y7 z7
  obtain ⟨rfl, N7q, K7, EE7, FF7_0, FF7_1, FF7_2, FF7_3⟩ := hQ7
  have c8 : n0 ≤ T7.heap.size := Nat.le_trans c2 K7.1
  have c9 : Old Z n0 T7.heap := c3.keep K7 (allS (P := fun x => n0 ≤ x) g_b1 all0)
  have c10 : CHr Z own_EL s.vm h0 s.vm T7.heap := c4.trans (CHr.keep K7 (allS (P := fun x => Safe Z own_EL s.vm h1 x) (Safe.exa hZ.alike A1 (by decide) (by decide)) all0) c4.1)
  have c11 : Exa Z T7.heap b1 "com/example/xmax/xmax/queue/QueueStatus" := A1.keep K7
  have K12 : Keep h0 T7.heap [] := K5.trans K7 (allS (P := fun x => x ∈ ([] : List Addr) ∨ h0.size ≤ x) (Or.inr sz_b1) all0)
  have N7 := Fr.app N0 N7q
  have pre7 : ∀ t, Steps p.tables e below (T7.setTop (mkF m 13 #[.val (.long q0), .second, .val (.long q1), .second, .val (.long q2), .second, .val (.long q3), .second, .unset, .unset] [(.ref b1)])) t → P t := fun t k => pre6 t (st7.trans k)
  obtain ⟨cq13, kq13, q13a, q13b, q13c⟩ := isOf hZ rfl EE7
  obtain ⟨_, _, ⟨T13, L13, k13, n13⟩, -, X13, hS13, hle13, ⟨Lc13, hQ13, l13, y13, z13, hC13⟩, st13⟩ := X7.virtualBackS hx (y := (⟨"com/example/xmax/xmax/queue/QueueStatus", "toString", "()Ljava/lang/String;"⟩ : MethodName)) (z := (⟨"com/example/xmax/xmax/queue/QueueStatus", "toString", "()Ljava/lang/String;"⟩ : MethodName)) hown (mvT hZ (hi hw 17 rfl)) (mvT hZ (hi hw 18 rfl)) (notFace_of_selects (args := #[]) (mvT hZ (hi hw 20 rfl))) (mvT hZ (hi hw 20 rfl)) (mvT hZ (hi hw 19 rfl)) (by decide) (backOfSH (s := s) (vm0 := s.vm) (W := 0) (rm3 l Z a0 hw [] b1 q0 q1 q2 q3 T7.heap n0 c8 c9 EE7 FF7_0 FF7_1 FF7_2 FF7_3 HC) hZ (hi hw 21 rfl) (hi hw 2 rfl) (by decide) (by decide) (own_ew hw) c10.1) q13a q13c (g := (mkF m 13 #[.val (.long q0), .second, .val (.long q1), .second, .val (.long q2), .second, .val (.long q3), .second, .unset, .unset] [(.ref b1)])) rfl (by rw [hml]; rfl) (Steps.refl _) (argsL := []) (rest := []) (lenOf own_pd23 rfl) rfl (by show 2 * 0 + _ ≤ _; exact Nat.le_of_eq rfl) (hb hby at_13) (fun _ _ => ⟨rfl, rfl, (by decide : 1 + 20 ≤ _), (by decide : 4 + 2136 ≤ _)⟩)
  dsimp only [Pt.U, Pt.locs, Pt.cells, Pt.slots] at X13 l13 y13 z13 st13 hQ13 hS13 hle13 hC13
  subst l13 y13 z13
  obtain ⟨X13, hS13, hZ, hown⟩ := rebS (s := s) (vm0 := s.vm) (k0 := 0) (n1 := 0) ((State.WarmedH.refl s).since 0) (Nat.le_refl 0) X13 hS13 (Nat.zero_le _) hZ hown
  obtain ⟨an_13, bn_13, kn_13, rfl, N13q, K13, FF13_0, FF13_1, FF13_2, FF13_3, FF13_4, FF13_5, FF13_6, FF13_7⟩ := hQ13
  have c14 : n0 ≤ T13.heap.size := Nat.le_trans c8 K13.1
  have c15 : Old Z n0 T13.heap := c9.keep K13 all0
  have c16 : Exa Z T13.heap b1 "com/example/xmax/xmax/queue/QueueStatus" := EE7.keep K13
  have c17 : Fld Z T13.heap b1 "com/example/xmax/xmax/queue/QueueStatus" "ready" "J" (.long q0) := FF7_0.keep K13 nin0
  have c18 : Fld Z T13.heap b1 "com/example/xmax/xmax/queue/QueueStatus" "claimed" "J" (.long q1) := FF7_1.keep K13 nin0
  have c19 : Fld Z T13.heap b1 "com/example/xmax/xmax/queue/QueueStatus" "done" "J" (.long q2) := FF7_2.keep K13 nin0
  have c20 : Fld Z T13.heap b1 "com/example/xmax/xmax/queue/QueueStatus" "failed" "J" (.long q3) := FF7_3.keep K13 nin0
  have K21 : Keep h0 T13.heap [] := K12.trans K13 all0
  have g_an_13 := FF13_4
  have g_bn_13 := FF13_5
  have SZ_an_13 := FF13_6
  have sz_an_13 : h0.size ≤ an_13 := Nat.le_trans K12.1 FF13_6
  have SZ_bn_13 := FF13_7
  have sz_bn_13 : h0.size ≤ bn_13 := Nat.le_trans K12.1 FF13_7
  have C13 : CHr Z own_EL s.vm h0 T13.vm T13.heap := c10.trans hC13
  have hk13 : T13.heap.size ≤ T13.heap.size := Nat.le_refl _
  have N13 := Fr.app N7 N13q
  have pre13 : ∀ t, Steps p.tables e below (T13.setTop (mkF m 16 #[.val (.long q0), .second, .val (.long q1), .second, .val (.long q2), .second, .val (.long q3), .second, .unset, .unset] [(.ref an_13)])) t → P t := fun t k => pre7 t (st13.trans k)
  have pre22 : ∀ t, Steps p.tables e below (T13.setTop (mkF m 21 #[.val (.long q0), .second, .val (.long q1), .second, .val (.long q2), .second, .val (.long q3), .second, .val (.ref an_13), .unset] [(.int (0 : Int32)), (.ref an_13)])) t → P t := fun t k => pre13 t (by
      refine XS.astore X13.here hx rfl (hb hby at_16) rfl rfl (l' := #[.val (.long q0), .second, .val (.long q1), .second, .val (.long q2), .second, .val (.long q3), .second, .val (.ref an_13), .unset]) rfl ?_
      refine XS.aload X13.here hx rfl (hb hby at_18) rfl rfl ?_
      refine XS.iconst X13.here hx rfl (hb hby at_20) ?_
      exact k)
  have wS : ∀ a ∈ Bundle.stringAtoms, a.before a0 Z = true := by
    intro d hd
    simp only [Bundle.stringAtoms, List.mem_cons, List.not_mem_nil, or_false] at hd
    rcases hd with rfl | rfl | rfl | rfl | rfl | rfl | rfl
    · exact (hi hw 36 rfl)
    · exact (hi hw 43 rfl)
    · exact (hi hw 37 rfl)
    · exact (hi hw 44 rfl)
    · exact (hi hw 45 rfl)
    · exact (hi hw 46 rfl)
    · exact (hi hw 47 rfl)
  obtain ⟨a23, T23, h23, k23, b23, c23, X23, e23, E23, hS23, hk23, hZ, hown, Ea23, Fc23, Fv23, Va23, la23, lb23, hC23, -, hne23, st23⟩ := ldcCH (s := s) (vm0 := T13.vm) X13 hx hZ hown (hi hw 189 rfl) wS rfl (k0 := T13.heap.size) hS13 hk13 (own_ew hw) (List.mem_of_getElem? (i := 4) rfl) C13.1 (z := (6 : Int32)) own_tx0 (by decide) own_tl0 (g := (mkF m 21 #[.val (.long q0), .second, .val (.long q1), .second, .val (.long q2), .second, .val (.long q3), .second, .val (.ref an_13), .unset] [(.int (0 : Int32)), (.ref an_13)])) rfl (hb hby at_21) (n := 24) (by decide) (by decide) (by decide) (by decide)
  have pre23 : ∀ t, Steps p.tables e below (T23.setTop (mkF m 23 #[.val (.long q0), .second, .val (.long q1), .second, .val (.long q2), .second, .val (.long q3), .second, .val (.ref an_13), .unset] [(.ref a23), (.int (0 : Int32)), (.ref an_13)])) t → P t := fun t k => pre22 t (st23 _ k)
  have c24 : n0 ≤ h23.size := Nat.le_trans c14 E23.1
  have c25 : Old Z n0 h23 := c15.ext E23
  have c26 : Exa Z h23 b1 "com/example/xmax/xmax/queue/QueueStatus" := c16.ext E23
  have c27 : Fld Z h23 b1 "com/example/xmax/xmax/queue/QueueStatus" "ready" "J" (.long q0) := c17.ext E23
  have c28 : Fld Z h23 b1 "com/example/xmax/xmax/queue/QueueStatus" "claimed" "J" (.long q1) := c18.ext E23
  have c29 : Fld Z h23 b1 "com/example/xmax/xmax/queue/QueueStatus" "done" "J" (.long q2) := c19.ext E23
  have c30 : Fld Z h23 b1 "com/example/xmax/xmax/queue/QueueStatus" "failed" "J" (.long q3) := c20.ext E23
  have c31 : Exa Z h23 an_13 "java/lang/String" := FF13_0.ext E23
  have c32 : Fld Z h23 an_13 "java/lang/String" "coder" "B" (.int (0 : Int32)) := FF13_1.ext E23
  have c33 : Fld Z h23 an_13 "java/lang/String" "value" "[B" (.ref bn_13) := FF13_2.ext E23
  have c34 : Arv Z h23 bn_13 kn_13 .byte (((((((((0 : Int32) + (6 : Int32)) + (own_f16 q0)) + (9 : Int32)) + (own_f16 q1)) + (6 : Int32)) + (own_f16 q2)) + (8 : Int32)) + (own_f16 q3)) (own_v (own_TX q0 q1 q2 q3)) (.int 0) := FF13_3.ext E23
  have K35 : Keep h0 h23 [] := K21.ext E23
  have c36 : CHr Z own_EL s.vm h0 T23.vm h23 := C13.trans hC23
  obtain ⟨_, _, ⟨T37, L37, k37, n37⟩, -, X37, ⟨Lc37, hQ37, l37, y37, z37⟩, st37⟩ := Jvm.LawKit.callS X23 hx (y := (⟨"com/example/xmax/xmax/queue/QueueStatusToStringPinLaw", "lab", "(Ljava/lang/String;ILjava/lang/String;)I"⟩ : MethodName)) hown (mvT hZ (hi hw 190 rfl)) (mvT hZ (hi hw 191 rfl)) (mvT hZ (hi hw 192 rfl)) (mvT hZ (hi hw 193 rfl)) (by decide) (backOf (W := 0) (rm33 l Z a0 hw [] an_13 (0 : Int32) a23 bn_13 kn_13 (((((((((0 : Int32) + (6 : Int32)) + (own_f16 q0)) + (9 : Int32)) + (own_f16 q1)) + (6 : Int32)) + (own_f16 q2)) + (8 : Int32)) + (own_f16 q3)) (own_TX q0 q1 q2 q3) b23 c23 (6 : Int32) own_u0 h23 n0 c24 c25 c31 c32 c33 c34 Ea23 Fc23 Fv23 Va23 HC (own_P1 q0 q1 q2 q3)) hZ (hi hw 193 rfl) (hi hw 192 rfl) (by decide) (by decide)) (g := (mkF m 23 #[.val (.long q0), .second, .val (.long q1), .second, .val (.long q2), .second, .val (.long q3), .second, .val (.ref an_13), .unset] [(.ref a23), (.int (0 : Int32)), (.ref an_13)])) rfl (by rw [hml]; rfl) (argsL := [(.ref an_13), (.int (0 : Int32)), (.ref a23)]) (rest := []) (lenOf own_pd31 rfl) rfl (by show 2 * 0 + _ ≤ _; exact Nat.le_of_eq rfl) (hb hby at_23) (fun _ _ => ⟨rfl, e23, (by decide : 23 + 0 ≤ _), (by decide : 2168 + 0 ≤ _)⟩)
  dsimp only [Pt.U, Pt.locs, Pt.cells, Pt.slots] at X37 l37 y37 z37 st37 hQ37
  subst l37 y37 z37
  obtain ⟨rfl, N37q, e37⟩ := hQ37
  have N37 := Fr.app N13 N37q
  have pre37 : ∀ t, Steps p.tables e below (T37.setTop (mkF m 26 #[.val (.long q0), .second, .val (.long q1), .second, .val (.long q2), .second, .val (.long q3), .second, .val (.ref an_13), .unset] [(.int ((0 : Int32) + (6 : Int32)))])) t → P t := fun t k => pre23 t (st37 _ k)
  have pre38 : ∀ t, Steps p.tables e below (T37.setTop (mkF m 33 #[.val (.long q0), .second, .val (.long q1), .second, .val (.long q2), .second, .val (.long q3), .second, .val (.ref an_13), .val (.int ((0 : Int32) + (6 : Int32)))] [(.long q0), (.int ((0 : Int32) + (6 : Int32))), (.ref an_13)])) t → P t := fun t k => pre37 t (by
      refine XS.istore X37.here hx rfl (hb hby at_26) rfl (l' := #[.val (.long q0), .second, .val (.long q1), .second, .val (.long q2), .second, .val (.long q3), .second, .val (.ref an_13), .val (.int ((0 : Int32) + (6 : Int32)))]) rfl ?_
      refine XS.aload X37.here hx rfl (hb hby at_28) rfl rfl ?_
      refine XS.iload X37.here hx rfl (hb hby at_30) rfl ?_
      refine XS.lloadN X37.here hx rfl (hb hby at_32) rfl ?_
      exact k)
  obtain ⟨_, _, ⟨T39, L39, k39, n39⟩, -, X39, ⟨Lc39, hQ39, l39, y39, z39⟩, st39⟩ := Jvm.LawKit.callS X37 hx (y := (⟨"com/example/xmax/xmax/queue/QueueStatusToStringPinLaw", "num", "(Ljava/lang/String;IJ)I"⟩ : MethodName)) hown (mvT hZ (hi hw 220 rfl)) (mvT hZ (hi hw 221 rfl)) (mvT hZ (hi hw 192 rfl)) (mvT hZ (hi hw 222 rfl)) (by decide) (backOf (W := 0) (rm40 l Z a0 hw [] an_13 ((0 : Int32) + (6 : Int32)) q0 bn_13 kn_13 (((((((((0 : Int32) + (6 : Int32)) + (own_f16 q0)) + (9 : Int32)) + (own_f16 q1)) + (6 : Int32)) + (own_f16 q2)) + (8 : Int32)) + (own_f16 q3)) (own_TX q0 q1 q2 q3) h23 n0 c24 c25 c31 c32 c33 c34 HC (own_P2 q0 q1 q2 q3)) hZ (hi hw 222 rfl) (hi hw 192 rfl) (by decide) (by decide)) (g := (mkF m 33 #[.val (.long q0), .second, .val (.long q1), .second, .val (.long q2), .second, .val (.long q3), .second, .val (.ref an_13), .val (.int ((0 : Int32) + (6 : Int32)))] [(.long q0), (.int ((0 : Int32) + (6 : Int32))), (.ref an_13)])) rfl (by rw [hml]; rfl) (argsL := [(.ref an_13), (.int ((0 : Int32) + (6 : Int32))), (.long q0)]) (rest := []) (lenOf own_pd32 rfl) rfl (by show 2 * 0 + _ ≤ _; exact Nat.le_of_eq rfl) (hb hby at_33) (fun _ _ => ⟨rfl, e37, (by decide : 23 + 0 ≤ _), (by decide : 2168 + 0 ≤ _)⟩)
  dsimp only [Pt.U, Pt.locs, Pt.cells, Pt.slots] at X39 l39 y39 z39 st39 hQ39
  subst l39 y39 z39
  obtain ⟨rfl, N39q, e39⟩ := hQ39
  have N39 := Fr.app N37 N39q
  have pre39 : ∀ t, Steps p.tables e below (T39.setTop (mkF m 36 #[.val (.long q0), .second, .val (.long q1), .second, .val (.long q2), .second, .val (.long q3), .second, .val (.ref an_13), .val (.int ((0 : Int32) + (6 : Int32)))] [(.int (((0 : Int32) + (6 : Int32)) + (own_f16 q0)))])) t → P t := fun t k => pre38 t (st39 _ k)
  have pre40 : ∀ t, Steps p.tables e below (T39.setTop (mkF m 42 #[.val (.long q0), .second, .val (.long q1), .second, .val (.long q2), .second, .val (.long q3), .second, .val (.ref an_13), .val (.int (((0 : Int32) + (6 : Int32)) + (own_f16 q0)))] [(.int (((0 : Int32) + (6 : Int32)) + (own_f16 q0))), (.ref an_13)])) t → P t := fun t k => pre39 t (by
      refine XS.istore X39.here hx rfl (hb hby at_36) rfl (l' := #[.val (.long q0), .second, .val (.long q1), .second, .val (.long q2), .second, .val (.long q3), .second, .val (.ref an_13), .val (.int (((0 : Int32) + (6 : Int32)) + (own_f16 q0)))]) rfl ?_
      refine XS.aload X39.here hx rfl (hb hby at_38) rfl rfl ?_
      refine XS.iload X39.here hx rfl (hb hby at_40) rfl ?_
      exact k)
  obtain ⟨a41, T41, h41, k41, b41, c41, X41, e41, E41, hS41, hk41, hZ, hown, Ea41, Fc41, Fv41, Va41, la41, lb41, hC41, -, hne41, st41⟩ := ldcCH (s := s) (vm0 := T23.vm) X39 hx hZ hown (hi hw 247 rfl) wS e39 (k0 := k23) hS23 hk23 (own_ew hw) (List.mem_of_getElem? (i := 5) rfl) c36.1 (z := (9 : Int32)) own_tx1 (by decide) own_tl1 (g := (mkF m 42 #[.val (.long q0), .second, .val (.long q1), .second, .val (.long q2), .second, .val (.long q3), .second, .val (.ref an_13), .val (.int (((0 : Int32) + (6 : Int32)) + (own_f16 q0)))] [(.int (((0 : Int32) + (6 : Int32)) + (own_f16 q0))), (.ref an_13)])) rfl (hb hby at_42) (n := 36) (by decide) (by decide) (by decide) (by decide)
  have pre41 : ∀ t, Steps p.tables e below (T41.setTop (mkF m 44 #[.val (.long q0), .second, .val (.long q1), .second, .val (.long q2), .second, .val (.long q3), .second, .val (.ref an_13), .val (.int (((0 : Int32) + (6 : Int32)) + (own_f16 q0)))] [(.ref a41), (.int (((0 : Int32) + (6 : Int32)) + (own_f16 q0))), (.ref an_13)])) t → P t := fun t k => pre40 t (st41 _ k)
  have c42 : n0 ≤ h41.size := Nat.le_trans c24 E41.1
  have c43 : Old Z n0 h41 := c25.ext E41
  have c44 : Exa Z h41 b1 "com/example/xmax/xmax/queue/QueueStatus" := c26.ext E41
  have c45 : Fld Z h41 b1 "com/example/xmax/xmax/queue/QueueStatus" "ready" "J" (.long q0) := c27.ext E41
  have c46 : Fld Z h41 b1 "com/example/xmax/xmax/queue/QueueStatus" "claimed" "J" (.long q1) := c28.ext E41
  have c47 : Fld Z h41 b1 "com/example/xmax/xmax/queue/QueueStatus" "done" "J" (.long q2) := c29.ext E41
  have c48 : Fld Z h41 b1 "com/example/xmax/xmax/queue/QueueStatus" "failed" "J" (.long q3) := c30.ext E41
  have c49 : Exa Z h41 an_13 "java/lang/String" := c31.ext E41
  have c50 : Fld Z h41 an_13 "java/lang/String" "coder" "B" (.int (0 : Int32)) := c32.ext E41
  have c51 : Fld Z h41 an_13 "java/lang/String" "value" "[B" (.ref bn_13) := c33.ext E41
  have c52 : Arv Z h41 bn_13 kn_13 .byte (((((((((0 : Int32) + (6 : Int32)) + (own_f16 q0)) + (9 : Int32)) + (own_f16 q1)) + (6 : Int32)) + (own_f16 q2)) + (8 : Int32)) + (own_f16 q3)) (own_v (own_TX q0 q1 q2 q3)) (.int 0) := c34.ext E41
  have c53 : Exa Z h41 a23 "java/lang/String" := Ea23.ext E41
  have c54 : Fld Z h41 a23 "java/lang/String" "coder" "B" (.int (0 : Int32)) := Fc23.ext E41
  have c55 : Fld Z h41 a23 "java/lang/String" "value" "[B" (.ref b23) := Fv23.ext E41
  have c56 : Arv Z h41 b23 c23 .byte (6 : Int32) (own_v own_u0) (.int 0) := Va23.ext E41
  have K57 : Keep h0 h41 [] := K35.ext E41
  have c58 : CHr Z own_EL s.vm h0 T41.vm h41 := c36.trans hC41
  obtain ⟨_, _, ⟨T59, L59, k59, n59⟩, -, X59, ⟨Lc59, hQ59, l59, y59, z59⟩, st59⟩ := Jvm.LawKit.callS X41 hx (y := (⟨"com/example/xmax/xmax/queue/QueueStatusToStringPinLaw", "lab", "(Ljava/lang/String;ILjava/lang/String;)I"⟩ : MethodName)) hown (mvT hZ (hi hw 190 rfl)) (mvT hZ (hi hw 191 rfl)) (mvT hZ (hi hw 192 rfl)) (mvT hZ (hi hw 193 rfl)) (by decide) (backOf (W := 0) (rm33 l Z a0 hw [] an_13 (((0 : Int32) + (6 : Int32)) + (own_f16 q0)) a41 bn_13 kn_13 (((((((((0 : Int32) + (6 : Int32)) + (own_f16 q0)) + (9 : Int32)) + (own_f16 q1)) + (6 : Int32)) + (own_f16 q2)) + (8 : Int32)) + (own_f16 q3)) (own_TX q0 q1 q2 q3) b41 c41 (9 : Int32) own_u1 h41 n0 c42 c43 c49 c50 c51 c52 Ea41 Fc41 Fv41 Va41 HC (own_P3 q0 q1 q2 q3)) hZ (hi hw 193 rfl) (hi hw 192 rfl) (by decide) (by decide)) (g := (mkF m 44 #[.val (.long q0), .second, .val (.long q1), .second, .val (.long q2), .second, .val (.long q3), .second, .val (.ref an_13), .val (.int (((0 : Int32) + (6 : Int32)) + (own_f16 q0)))] [(.ref a41), (.int (((0 : Int32) + (6 : Int32)) + (own_f16 q0))), (.ref an_13)])) rfl (by rw [hml]; rfl) (argsL := [(.ref an_13), (.int (((0 : Int32) + (6 : Int32)) + (own_f16 q0))), (.ref a41)]) (rest := []) (lenOf own_pd31 rfl) rfl (by show 2 * 0 + _ ≤ _; exact Nat.le_of_eq rfl) (hb hby at_44) (fun _ _ => ⟨rfl, e41, (by decide : 25 + 0 ≤ _), (by decide : 2208 + 0 ≤ _)⟩)
  dsimp only [Pt.U, Pt.locs, Pt.cells, Pt.slots] at X59 l59 y59 z59 st59 hQ59
  subst l59 y59 z59
  obtain ⟨rfl, N59q, e59⟩ := hQ59
  have N59 := Fr.app N39 N59q
  have pre59 : ∀ t, Steps p.tables e below (T59.setTop (mkF m 47 #[.val (.long q0), .second, .val (.long q1), .second, .val (.long q2), .second, .val (.long q3), .second, .val (.ref an_13), .val (.int (((0 : Int32) + (6 : Int32)) + (own_f16 q0)))] [(.int ((((0 : Int32) + (6 : Int32)) + (own_f16 q0)) + (9 : Int32)))])) t → P t := fun t k => pre41 t (st59 _ k)
  have pre60 : ∀ t, Steps p.tables e below (T59.setTop (mkF m 54 #[.val (.long q0), .second, .val (.long q1), .second, .val (.long q2), .second, .val (.long q3), .second, .val (.ref an_13), .val (.int ((((0 : Int32) + (6 : Int32)) + (own_f16 q0)) + (9 : Int32)))] [(.long q1), (.int ((((0 : Int32) + (6 : Int32)) + (own_f16 q0)) + (9 : Int32))), (.ref an_13)])) t → P t := fun t k => pre59 t (by
      refine XS.istore X59.here hx rfl (hb hby at_47) rfl (l' := #[.val (.long q0), .second, .val (.long q1), .second, .val (.long q2), .second, .val (.long q3), .second, .val (.ref an_13), .val (.int ((((0 : Int32) + (6 : Int32)) + (own_f16 q0)) + (9 : Int32)))]) rfl ?_
      refine XS.aload X59.here hx rfl (hb hby at_49) rfl rfl ?_
      refine XS.iload X59.here hx rfl (hb hby at_51) rfl ?_
      refine XS.lloadN X59.here hx rfl (hb hby at_53) rfl ?_
      exact k)
  obtain ⟨_, _, ⟨T61, L61, k61, n61⟩, -, X61, ⟨Lc61, hQ61, l61, y61, z61⟩, st61⟩ := Jvm.LawKit.callS X59 hx (y := (⟨"com/example/xmax/xmax/queue/QueueStatusToStringPinLaw", "num", "(Ljava/lang/String;IJ)I"⟩ : MethodName)) hown (mvT hZ (hi hw 220 rfl)) (mvT hZ (hi hw 221 rfl)) (mvT hZ (hi hw 192 rfl)) (mvT hZ (hi hw 222 rfl)) (by decide) (backOf (W := 0) (rm40 l Z a0 hw [] an_13 ((((0 : Int32) + (6 : Int32)) + (own_f16 q0)) + (9 : Int32)) q1 bn_13 kn_13 (((((((((0 : Int32) + (6 : Int32)) + (own_f16 q0)) + (9 : Int32)) + (own_f16 q1)) + (6 : Int32)) + (own_f16 q2)) + (8 : Int32)) + (own_f16 q3)) (own_TX q0 q1 q2 q3) h41 n0 c42 c43 c49 c50 c51 c52 HC (own_P4 q0 q1 q2 q3)) hZ (hi hw 222 rfl) (hi hw 192 rfl) (by decide) (by decide)) (g := (mkF m 54 #[.val (.long q0), .second, .val (.long q1), .second, .val (.long q2), .second, .val (.long q3), .second, .val (.ref an_13), .val (.int ((((0 : Int32) + (6 : Int32)) + (own_f16 q0)) + (9 : Int32)))] [(.long q1), (.int ((((0 : Int32) + (6 : Int32)) + (own_f16 q0)) + (9 : Int32))), (.ref an_13)])) rfl (by rw [hml]; rfl) (argsL := [(.ref an_13), (.int ((((0 : Int32) + (6 : Int32)) + (own_f16 q0)) + (9 : Int32))), (.long q1)]) (rest := []) (lenOf own_pd32 rfl) rfl (by show 2 * 0 + _ ≤ _; exact Nat.le_of_eq rfl) (hb hby at_54) (fun _ _ => ⟨rfl, e59, (by decide : 25 + 0 ≤ _), (by decide : 2208 + 0 ≤ _)⟩)
  dsimp only [Pt.U, Pt.locs, Pt.cells, Pt.slots] at X61 l61 y61 z61 st61 hQ61
  subst l61 y61 z61
  obtain ⟨rfl, N61q, e61⟩ := hQ61
  have N61 := Fr.app N59 N61q
  have pre61 : ∀ t, Steps p.tables e below (T61.setTop (mkF m 57 #[.val (.long q0), .second, .val (.long q1), .second, .val (.long q2), .second, .val (.long q3), .second, .val (.ref an_13), .val (.int ((((0 : Int32) + (6 : Int32)) + (own_f16 q0)) + (9 : Int32)))] [(.int (((((0 : Int32) + (6 : Int32)) + (own_f16 q0)) + (9 : Int32)) + (own_f16 q1)))])) t → P t := fun t k => pre60 t (st61 _ k)
  have pre62 : ∀ t, Steps p.tables e below (T61.setTop (mkF m 63 #[.val (.long q0), .second, .val (.long q1), .second, .val (.long q2), .second, .val (.long q3), .second, .val (.ref an_13), .val (.int (((((0 : Int32) + (6 : Int32)) + (own_f16 q0)) + (9 : Int32)) + (own_f16 q1)))] [(.int (((((0 : Int32) + (6 : Int32)) + (own_f16 q0)) + (9 : Int32)) + (own_f16 q1))), (.ref an_13)])) t → P t := fun t k => pre61 t (by
      refine XS.istore X61.here hx rfl (hb hby at_57) rfl (l' := #[.val (.long q0), .second, .val (.long q1), .second, .val (.long q2), .second, .val (.long q3), .second, .val (.ref an_13), .val (.int (((((0 : Int32) + (6 : Int32)) + (own_f16 q0)) + (9 : Int32)) + (own_f16 q1)))]) rfl ?_
      refine XS.aload X61.here hx rfl (hb hby at_59) rfl rfl ?_
      refine XS.iload X61.here hx rfl (hb hby at_61) rfl ?_
      exact k)
  obtain ⟨a63, T63, h63, k63, b63, c63, X63, e63, E63, hS63, hk63, hZ, hown, Ea63, Fc63, Fv63, Va63, la63, lb63, hC63, -, hne63, st63⟩ := ldcCH (s := s) (vm0 := T41.vm) X61 hx hZ hown (hi hw 248 rfl) wS e61 (k0 := k41) hS41 hk41 (own_ew hw) (List.mem_of_getElem? (i := 6) rfl) c58.1 (z := (6 : Int32)) own_tx2 (by decide) own_tl2 (g := (mkF m 63 #[.val (.long q0), .second, .val (.long q1), .second, .val (.long q2), .second, .val (.long q3), .second, .val (.ref an_13), .val (.int (((((0 : Int32) + (6 : Int32)) + (own_f16 q0)) + (9 : Int32)) + (own_f16 q1)))] [(.int (((((0 : Int32) + (6 : Int32)) + (own_f16 q0)) + (9 : Int32)) + (own_f16 q1))), (.ref an_13)])) rfl (hb hby at_63) (n := 24) (by decide) (by decide) (by decide) (by decide)
  have pre63 : ∀ t, Steps p.tables e below (T63.setTop (mkF m 65 #[.val (.long q0), .second, .val (.long q1), .second, .val (.long q2), .second, .val (.long q3), .second, .val (.ref an_13), .val (.int (((((0 : Int32) + (6 : Int32)) + (own_f16 q0)) + (9 : Int32)) + (own_f16 q1)))] [(.ref a63), (.int (((((0 : Int32) + (6 : Int32)) + (own_f16 q0)) + (9 : Int32)) + (own_f16 q1))), (.ref an_13)])) t → P t := fun t k => pre62 t (st63 _ k)
  have c64 : n0 ≤ h63.size := Nat.le_trans c42 E63.1
  have c65 : Old Z n0 h63 := c43.ext E63
  have c66 : Exa Z h63 b1 "com/example/xmax/xmax/queue/QueueStatus" := c44.ext E63
  have c67 : Fld Z h63 b1 "com/example/xmax/xmax/queue/QueueStatus" "ready" "J" (.long q0) := c45.ext E63
  have c68 : Fld Z h63 b1 "com/example/xmax/xmax/queue/QueueStatus" "claimed" "J" (.long q1) := c46.ext E63
  have c69 : Fld Z h63 b1 "com/example/xmax/xmax/queue/QueueStatus" "done" "J" (.long q2) := c47.ext E63
  have c70 : Fld Z h63 b1 "com/example/xmax/xmax/queue/QueueStatus" "failed" "J" (.long q3) := c48.ext E63
  have c71 : Exa Z h63 an_13 "java/lang/String" := c49.ext E63
  have c72 : Fld Z h63 an_13 "java/lang/String" "coder" "B" (.int (0 : Int32)) := c50.ext E63
  have c73 : Fld Z h63 an_13 "java/lang/String" "value" "[B" (.ref bn_13) := c51.ext E63
  have c74 : Arv Z h63 bn_13 kn_13 .byte (((((((((0 : Int32) + (6 : Int32)) + (own_f16 q0)) + (9 : Int32)) + (own_f16 q1)) + (6 : Int32)) + (own_f16 q2)) + (8 : Int32)) + (own_f16 q3)) (own_v (own_TX q0 q1 q2 q3)) (.int 0) := c52.ext E63
  have c75 : Exa Z h63 a23 "java/lang/String" := c53.ext E63
  have c76 : Fld Z h63 a23 "java/lang/String" "coder" "B" (.int (0 : Int32)) := c54.ext E63
  have c77 : Fld Z h63 a23 "java/lang/String" "value" "[B" (.ref b23) := c55.ext E63
  have c78 : Arv Z h63 b23 c23 .byte (6 : Int32) (own_v own_u0) (.int 0) := c56.ext E63
  have c79 : Exa Z h63 a41 "java/lang/String" := Ea41.ext E63
  have c80 : Fld Z h63 a41 "java/lang/String" "coder" "B" (.int (0 : Int32)) := Fc41.ext E63
  have c81 : Fld Z h63 a41 "java/lang/String" "value" "[B" (.ref b41) := Fv41.ext E63
  have c82 : Arv Z h63 b41 c41 .byte (9 : Int32) (own_v own_u1) (.int 0) := Va41.ext E63
  have K83 : Keep h0 h63 [] := K57.ext E63
  have c84 : CHr Z own_EL s.vm h0 T63.vm h63 := c58.trans hC63
  obtain ⟨_, _, ⟨T85, L85, k85, n85⟩, -, X85, ⟨Lc85, hQ85, l85, y85, z85⟩, st85⟩ := Jvm.LawKit.callS X63 hx (y := (⟨"com/example/xmax/xmax/queue/QueueStatusToStringPinLaw", "lab", "(Ljava/lang/String;ILjava/lang/String;)I"⟩ : MethodName)) hown (mvT hZ (hi hw 190 rfl)) (mvT hZ (hi hw 191 rfl)) (mvT hZ (hi hw 192 rfl)) (mvT hZ (hi hw 193 rfl)) (by decide) (backOf (W := 0) (rm33 l Z a0 hw [] an_13 (((((0 : Int32) + (6 : Int32)) + (own_f16 q0)) + (9 : Int32)) + (own_f16 q1)) a63 bn_13 kn_13 (((((((((0 : Int32) + (6 : Int32)) + (own_f16 q0)) + (9 : Int32)) + (own_f16 q1)) + (6 : Int32)) + (own_f16 q2)) + (8 : Int32)) + (own_f16 q3)) (own_TX q0 q1 q2 q3) b63 c63 (6 : Int32) own_u2 h63 n0 c64 c65 c71 c72 c73 c74 Ea63 Fc63 Fv63 Va63 HC (own_P5 q0 q1 q2 q3)) hZ (hi hw 193 rfl) (hi hw 192 rfl) (by decide) (by decide)) (g := (mkF m 65 #[.val (.long q0), .second, .val (.long q1), .second, .val (.long q2), .second, .val (.long q3), .second, .val (.ref an_13), .val (.int (((((0 : Int32) + (6 : Int32)) + (own_f16 q0)) + (9 : Int32)) + (own_f16 q1)))] [(.ref a63), (.int (((((0 : Int32) + (6 : Int32)) + (own_f16 q0)) + (9 : Int32)) + (own_f16 q1))), (.ref an_13)])) rfl (by rw [hml]; rfl) (argsL := [(.ref an_13), (.int (((((0 : Int32) + (6 : Int32)) + (own_f16 q0)) + (9 : Int32)) + (own_f16 q1))), (.ref a63)]) (rest := []) (lenOf own_pd31 rfl) rfl (by show 2 * 0 + _ ≤ _; exact Nat.le_of_eq rfl) (hb hby at_65) (fun _ _ => ⟨rfl, e63, (by decide : 27 + 0 ≤ _), (by decide : 2236 + 0 ≤ _)⟩)
  dsimp only [Pt.U, Pt.locs, Pt.cells, Pt.slots] at X85 l85 y85 z85 st85 hQ85
  subst l85 y85 z85
  obtain ⟨rfl, N85q, e85⟩ := hQ85
  have N85 := Fr.app N61 N85q
  have pre85 : ∀ t, Steps p.tables e below (T85.setTop (mkF m 68 #[.val (.long q0), .second, .val (.long q1), .second, .val (.long q2), .second, .val (.long q3), .second, .val (.ref an_13), .val (.int (((((0 : Int32) + (6 : Int32)) + (own_f16 q0)) + (9 : Int32)) + (own_f16 q1)))] [(.int ((((((0 : Int32) + (6 : Int32)) + (own_f16 q0)) + (9 : Int32)) + (own_f16 q1)) + (6 : Int32)))])) t → P t := fun t k => pre63 t (st85 _ k)
  have pre86 : ∀ t, Steps p.tables e below (T85.setTop (mkF m 76 #[.val (.long q0), .second, .val (.long q1), .second, .val (.long q2), .second, .val (.long q3), .second, .val (.ref an_13), .val (.int ((((((0 : Int32) + (6 : Int32)) + (own_f16 q0)) + (9 : Int32)) + (own_f16 q1)) + (6 : Int32)))] [(.long q2), (.int ((((((0 : Int32) + (6 : Int32)) + (own_f16 q0)) + (9 : Int32)) + (own_f16 q1)) + (6 : Int32))), (.ref an_13)])) t → P t := fun t k => pre85 t (by
      refine XS.istore X85.here hx rfl (hb hby at_68) rfl (l' := #[.val (.long q0), .second, .val (.long q1), .second, .val (.long q2), .second, .val (.long q3), .second, .val (.ref an_13), .val (.int ((((((0 : Int32) + (6 : Int32)) + (own_f16 q0)) + (9 : Int32)) + (own_f16 q1)) + (6 : Int32)))]) rfl ?_
      refine XS.aload X85.here hx rfl (hb hby at_70) rfl rfl ?_
      refine XS.iload X85.here hx rfl (hb hby at_72) rfl ?_
      refine XS.lload X85.here hx rfl (hb hby at_74) rfl ?_
      exact k)
  obtain ⟨_, _, ⟨T87, L87, k87, n87⟩, -, X87, ⟨Lc87, hQ87, l87, y87, z87⟩, st87⟩ := Jvm.LawKit.callS X85 hx (y := (⟨"com/example/xmax/xmax/queue/QueueStatusToStringPinLaw", "num", "(Ljava/lang/String;IJ)I"⟩ : MethodName)) hown (mvT hZ (hi hw 220 rfl)) (mvT hZ (hi hw 221 rfl)) (mvT hZ (hi hw 192 rfl)) (mvT hZ (hi hw 222 rfl)) (by decide) (backOf (W := 0) (rm40 l Z a0 hw [] an_13 ((((((0 : Int32) + (6 : Int32)) + (own_f16 q0)) + (9 : Int32)) + (own_f16 q1)) + (6 : Int32)) q2 bn_13 kn_13 (((((((((0 : Int32) + (6 : Int32)) + (own_f16 q0)) + (9 : Int32)) + (own_f16 q1)) + (6 : Int32)) + (own_f16 q2)) + (8 : Int32)) + (own_f16 q3)) (own_TX q0 q1 q2 q3) h63 n0 c64 c65 c71 c72 c73 c74 HC (own_P6 q0 q1 q2 q3)) hZ (hi hw 222 rfl) (hi hw 192 rfl) (by decide) (by decide)) (g := (mkF m 76 #[.val (.long q0), .second, .val (.long q1), .second, .val (.long q2), .second, .val (.long q3), .second, .val (.ref an_13), .val (.int ((((((0 : Int32) + (6 : Int32)) + (own_f16 q0)) + (9 : Int32)) + (own_f16 q1)) + (6 : Int32)))] [(.long q2), (.int ((((((0 : Int32) + (6 : Int32)) + (own_f16 q0)) + (9 : Int32)) + (own_f16 q1)) + (6 : Int32))), (.ref an_13)])) rfl (by rw [hml]; rfl) (argsL := [(.ref an_13), (.int ((((((0 : Int32) + (6 : Int32)) + (own_f16 q0)) + (9 : Int32)) + (own_f16 q1)) + (6 : Int32))), (.long q2)]) (rest := []) (lenOf own_pd32 rfl) rfl (by show 2 * 0 + _ ≤ _; exact Nat.le_of_eq rfl) (hb hby at_76) (fun _ _ => ⟨rfl, e85, (by decide : 27 + 0 ≤ _), (by decide : 2236 + 0 ≤ _)⟩)
  dsimp only [Pt.U, Pt.locs, Pt.cells, Pt.slots] at X87 l87 y87 z87 st87 hQ87
  subst l87 y87 z87
  obtain ⟨rfl, N87q, e87⟩ := hQ87
  have N87 := Fr.app N85 N87q
  have pre87 : ∀ t, Steps p.tables e below (T87.setTop (mkF m 79 #[.val (.long q0), .second, .val (.long q1), .second, .val (.long q2), .second, .val (.long q3), .second, .val (.ref an_13), .val (.int ((((((0 : Int32) + (6 : Int32)) + (own_f16 q0)) + (9 : Int32)) + (own_f16 q1)) + (6 : Int32)))] [(.int (((((((0 : Int32) + (6 : Int32)) + (own_f16 q0)) + (9 : Int32)) + (own_f16 q1)) + (6 : Int32)) + (own_f16 q2)))])) t → P t := fun t k => pre86 t (st87 _ k)
  have pre88 : ∀ t, Steps p.tables e below (T87.setTop (mkF m 85 #[.val (.long q0), .second, .val (.long q1), .second, .val (.long q2), .second, .val (.long q3), .second, .val (.ref an_13), .val (.int (((((((0 : Int32) + (6 : Int32)) + (own_f16 q0)) + (9 : Int32)) + (own_f16 q1)) + (6 : Int32)) + (own_f16 q2)))] [(.int (((((((0 : Int32) + (6 : Int32)) + (own_f16 q0)) + (9 : Int32)) + (own_f16 q1)) + (6 : Int32)) + (own_f16 q2))), (.ref an_13)])) t → P t := fun t k => pre87 t (by
      refine XS.istore X87.here hx rfl (hb hby at_79) rfl (l' := #[.val (.long q0), .second, .val (.long q1), .second, .val (.long q2), .second, .val (.long q3), .second, .val (.ref an_13), .val (.int (((((((0 : Int32) + (6 : Int32)) + (own_f16 q0)) + (9 : Int32)) + (own_f16 q1)) + (6 : Int32)) + (own_f16 q2)))]) rfl ?_
      refine XS.aload X87.here hx rfl (hb hby at_81) rfl rfl ?_
      refine XS.iload X87.here hx rfl (hb hby at_83) rfl ?_
      exact k)
  obtain ⟨a89, T89, h89, k89, b89, c89, X89, e89, E89, hS89, hk89, hZ, hown, Ea89, Fc89, Fv89, Va89, la89, lb89, hC89, -, hne89, st89⟩ := ldcCH (s := s) (vm0 := T63.vm) X87 hx hZ hown (hi hw 249 rfl) wS e87 (k0 := k63) hS63 hk63 (own_ew hw) (List.mem_of_getElem? (i := 7) rfl) c84.1 (z := (8 : Int32)) own_tx3 (by decide) own_tl3 (g := (mkF m 85 #[.val (.long q0), .second, .val (.long q1), .second, .val (.long q2), .second, .val (.long q3), .second, .val (.ref an_13), .val (.int (((((((0 : Int32) + (6 : Int32)) + (own_f16 q0)) + (9 : Int32)) + (own_f16 q1)) + (6 : Int32)) + (own_f16 q2)))] [(.int (((((((0 : Int32) + (6 : Int32)) + (own_f16 q0)) + (9 : Int32)) + (own_f16 q1)) + (6 : Int32)) + (own_f16 q2))), (.ref an_13)])) rfl (hb hby at_85) (n := 32) (by decide) (by decide) (by decide) (by decide)
  have pre89 : ∀ t, Steps p.tables e below (T89.setTop (mkF m 87 #[.val (.long q0), .second, .val (.long q1), .second, .val (.long q2), .second, .val (.long q3), .second, .val (.ref an_13), .val (.int (((((((0 : Int32) + (6 : Int32)) + (own_f16 q0)) + (9 : Int32)) + (own_f16 q1)) + (6 : Int32)) + (own_f16 q2)))] [(.ref a89), (.int (((((((0 : Int32) + (6 : Int32)) + (own_f16 q0)) + (9 : Int32)) + (own_f16 q1)) + (6 : Int32)) + (own_f16 q2))), (.ref an_13)])) t → P t := fun t k => pre88 t (st89 _ k)
  have c90 : n0 ≤ h89.size := Nat.le_trans c64 E89.1
  have c91 : Old Z n0 h89 := c65.ext E89
  have c92 : Exa Z h89 b1 "com/example/xmax/xmax/queue/QueueStatus" := c66.ext E89
  have c93 : Fld Z h89 b1 "com/example/xmax/xmax/queue/QueueStatus" "ready" "J" (.long q0) := c67.ext E89
  have c94 : Fld Z h89 b1 "com/example/xmax/xmax/queue/QueueStatus" "claimed" "J" (.long q1) := c68.ext E89
  have c95 : Fld Z h89 b1 "com/example/xmax/xmax/queue/QueueStatus" "done" "J" (.long q2) := c69.ext E89
  have c96 : Fld Z h89 b1 "com/example/xmax/xmax/queue/QueueStatus" "failed" "J" (.long q3) := c70.ext E89
  have c97 : Exa Z h89 an_13 "java/lang/String" := c71.ext E89
  have c98 : Fld Z h89 an_13 "java/lang/String" "coder" "B" (.int (0 : Int32)) := c72.ext E89
  have c99 : Fld Z h89 an_13 "java/lang/String" "value" "[B" (.ref bn_13) := c73.ext E89
  have c100 : Arv Z h89 bn_13 kn_13 .byte (((((((((0 : Int32) + (6 : Int32)) + (own_f16 q0)) + (9 : Int32)) + (own_f16 q1)) + (6 : Int32)) + (own_f16 q2)) + (8 : Int32)) + (own_f16 q3)) (own_v (own_TX q0 q1 q2 q3)) (.int 0) := c74.ext E89
  have c101 : Exa Z h89 a23 "java/lang/String" := c75.ext E89
  have c102 : Fld Z h89 a23 "java/lang/String" "coder" "B" (.int (0 : Int32)) := c76.ext E89
  have c103 : Fld Z h89 a23 "java/lang/String" "value" "[B" (.ref b23) := c77.ext E89
  have c104 : Arv Z h89 b23 c23 .byte (6 : Int32) (own_v own_u0) (.int 0) := c78.ext E89
  have c105 : Exa Z h89 a41 "java/lang/String" := c79.ext E89
  have c106 : Fld Z h89 a41 "java/lang/String" "coder" "B" (.int (0 : Int32)) := c80.ext E89
  have c107 : Fld Z h89 a41 "java/lang/String" "value" "[B" (.ref b41) := c81.ext E89
  have c108 : Arv Z h89 b41 c41 .byte (9 : Int32) (own_v own_u1) (.int 0) := c82.ext E89
  have c109 : Exa Z h89 a63 "java/lang/String" := Ea63.ext E89
  have c110 : Fld Z h89 a63 "java/lang/String" "coder" "B" (.int (0 : Int32)) := Fc63.ext E89
  have c111 : Fld Z h89 a63 "java/lang/String" "value" "[B" (.ref b63) := Fv63.ext E89
  have c112 : Arv Z h89 b63 c63 .byte (6 : Int32) (own_v own_u2) (.int 0) := Va63.ext E89
  have K113 : Keep h0 h89 [] := K83.ext E89
  have c114 : CHr Z own_EL s.vm h0 T89.vm h89 := c84.trans hC89
  obtain ⟨_, _, ⟨T115, L115, k115, n115⟩, -, X115, ⟨Lc115, hQ115, l115, y115, z115⟩, st115⟩ := Jvm.LawKit.callS X89 hx (y := (⟨"com/example/xmax/xmax/queue/QueueStatusToStringPinLaw", "lab", "(Ljava/lang/String;ILjava/lang/String;)I"⟩ : MethodName)) hown (mvT hZ (hi hw 190 rfl)) (mvT hZ (hi hw 191 rfl)) (mvT hZ (hi hw 192 rfl)) (mvT hZ (hi hw 193 rfl)) (by decide) (backOf (W := 0) (rm33 l Z a0 hw [] an_13 (((((((0 : Int32) + (6 : Int32)) + (own_f16 q0)) + (9 : Int32)) + (own_f16 q1)) + (6 : Int32)) + (own_f16 q2)) a89 bn_13 kn_13 (((((((((0 : Int32) + (6 : Int32)) + (own_f16 q0)) + (9 : Int32)) + (own_f16 q1)) + (6 : Int32)) + (own_f16 q2)) + (8 : Int32)) + (own_f16 q3)) (own_TX q0 q1 q2 q3) b89 c89 (8 : Int32) own_u3 h89 n0 c90 c91 c97 c98 c99 c100 Ea89 Fc89 Fv89 Va89 HC (own_P7 q0 q1 q2 q3)) hZ (hi hw 193 rfl) (hi hw 192 rfl) (by decide) (by decide)) (g := (mkF m 87 #[.val (.long q0), .second, .val (.long q1), .second, .val (.long q2), .second, .val (.long q3), .second, .val (.ref an_13), .val (.int (((((((0 : Int32) + (6 : Int32)) + (own_f16 q0)) + (9 : Int32)) + (own_f16 q1)) + (6 : Int32)) + (own_f16 q2)))] [(.ref a89), (.int (((((((0 : Int32) + (6 : Int32)) + (own_f16 q0)) + (9 : Int32)) + (own_f16 q1)) + (6 : Int32)) + (own_f16 q2))), (.ref an_13)])) rfl (by rw [hml]; rfl) (argsL := [(.ref an_13), (.int (((((((0 : Int32) + (6 : Int32)) + (own_f16 q0)) + (9 : Int32)) + (own_f16 q1)) + (6 : Int32)) + (own_f16 q2))), (.ref a89)]) (rest := []) (lenOf own_pd31 rfl) rfl (by show 2 * 0 + _ ≤ _; exact Nat.le_of_eq rfl) (hb hby at_87) (fun _ _ => ⟨rfl, e89, (by decide : 29 + 0 ≤ _), (by decide : 2272 + 0 ≤ _)⟩)
  dsimp only [Pt.U, Pt.locs, Pt.cells, Pt.slots] at X115 l115 y115 z115 st115 hQ115
  subst l115 y115 z115
  obtain ⟨rfl, N115q, e115⟩ := hQ115
  have N115 := Fr.app N87 N115q
  have pre115 : ∀ t, Steps p.tables e below (T115.setTop (mkF m 90 #[.val (.long q0), .second, .val (.long q1), .second, .val (.long q2), .second, .val (.long q3), .second, .val (.ref an_13), .val (.int (((((((0 : Int32) + (6 : Int32)) + (own_f16 q0)) + (9 : Int32)) + (own_f16 q1)) + (6 : Int32)) + (own_f16 q2)))] [(.int ((((((((0 : Int32) + (6 : Int32)) + (own_f16 q0)) + (9 : Int32)) + (own_f16 q1)) + (6 : Int32)) + (own_f16 q2)) + (8 : Int32)))])) t → P t := fun t k => pre89 t (st115 _ k)
  have pre116 : ∀ t, Steps p.tables e below (T115.setTop (mkF m 98 #[.val (.long q0), .second, .val (.long q1), .second, .val (.long q2), .second, .val (.long q3), .second, .val (.ref an_13), .val (.int ((((((((0 : Int32) + (6 : Int32)) + (own_f16 q0)) + (9 : Int32)) + (own_f16 q1)) + (6 : Int32)) + (own_f16 q2)) + (8 : Int32)))] [(.long q3), (.int ((((((((0 : Int32) + (6 : Int32)) + (own_f16 q0)) + (9 : Int32)) + (own_f16 q1)) + (6 : Int32)) + (own_f16 q2)) + (8 : Int32))), (.ref an_13)])) t → P t := fun t k => pre115 t (by
      refine XS.istore X115.here hx rfl (hb hby at_90) rfl (l' := #[.val (.long q0), .second, .val (.long q1), .second, .val (.long q2), .second, .val (.long q3), .second, .val (.ref an_13), .val (.int ((((((((0 : Int32) + (6 : Int32)) + (own_f16 q0)) + (9 : Int32)) + (own_f16 q1)) + (6 : Int32)) + (own_f16 q2)) + (8 : Int32)))]) rfl ?_
      refine XS.aload X115.here hx rfl (hb hby at_92) rfl rfl ?_
      refine XS.iload X115.here hx rfl (hb hby at_94) rfl ?_
      refine XS.lload X115.here hx rfl (hb hby at_96) rfl ?_
      exact k)
  obtain ⟨_, _, ⟨T117, L117, k117, n117⟩, -, X117, ⟨Lc117, hQ117, l117, y117, z117⟩, st117⟩ := Jvm.LawKit.callS X115 hx (y := (⟨"com/example/xmax/xmax/queue/QueueStatusToStringPinLaw", "num", "(Ljava/lang/String;IJ)I"⟩ : MethodName)) hown (mvT hZ (hi hw 220 rfl)) (mvT hZ (hi hw 221 rfl)) (mvT hZ (hi hw 192 rfl)) (mvT hZ (hi hw 222 rfl)) (by decide) (backOf (W := 0) (rm40 l Z a0 hw [] an_13 ((((((((0 : Int32) + (6 : Int32)) + (own_f16 q0)) + (9 : Int32)) + (own_f16 q1)) + (6 : Int32)) + (own_f16 q2)) + (8 : Int32)) q3 bn_13 kn_13 (((((((((0 : Int32) + (6 : Int32)) + (own_f16 q0)) + (9 : Int32)) + (own_f16 q1)) + (6 : Int32)) + (own_f16 q2)) + (8 : Int32)) + (own_f16 q3)) (own_TX q0 q1 q2 q3) h89 n0 c90 c91 c97 c98 c99 c100 HC (own_P8 q0 q1 q2 q3)) hZ (hi hw 222 rfl) (hi hw 192 rfl) (by decide) (by decide)) (g := (mkF m 98 #[.val (.long q0), .second, .val (.long q1), .second, .val (.long q2), .second, .val (.long q3), .second, .val (.ref an_13), .val (.int ((((((((0 : Int32) + (6 : Int32)) + (own_f16 q0)) + (9 : Int32)) + (own_f16 q1)) + (6 : Int32)) + (own_f16 q2)) + (8 : Int32)))] [(.long q3), (.int ((((((((0 : Int32) + (6 : Int32)) + (own_f16 q0)) + (9 : Int32)) + (own_f16 q1)) + (6 : Int32)) + (own_f16 q2)) + (8 : Int32))), (.ref an_13)])) rfl (by rw [hml]; rfl) (argsL := [(.ref an_13), (.int ((((((((0 : Int32) + (6 : Int32)) + (own_f16 q0)) + (9 : Int32)) + (own_f16 q1)) + (6 : Int32)) + (own_f16 q2)) + (8 : Int32))), (.long q3)]) (rest := []) (lenOf own_pd32 rfl) rfl (by show 2 * 0 + _ ≤ _; exact Nat.le_of_eq rfl) (hb hby at_98) (fun _ _ => ⟨rfl, e115, (by decide : 29 + 0 ≤ _), (by decide : 2272 + 0 ≤ _)⟩)
  dsimp only [Pt.U, Pt.locs, Pt.cells, Pt.slots] at X117 l117 y117 z117 st117 hQ117
  subst l117 y117 z117
  obtain ⟨rfl, N117q, e117⟩ := hQ117
  have N117 := Fr.app N115 N117q
  have pre117 : ∀ t, Steps p.tables e below (T117.setTop (mkF m 101 #[.val (.long q0), .second, .val (.long q1), .second, .val (.long q2), .second, .val (.long q3), .second, .val (.ref an_13), .val (.int ((((((((0 : Int32) + (6 : Int32)) + (own_f16 q0)) + (9 : Int32)) + (own_f16 q1)) + (6 : Int32)) + (own_f16 q2)) + (8 : Int32)))] [(.int (((((((((0 : Int32) + (6 : Int32)) + (own_f16 q0)) + (9 : Int32)) + (own_f16 q1)) + (6 : Int32)) + (own_f16 q2)) + (8 : Int32)) + (own_f16 q3)))])) t → P t := fun t k => pre116 t (st117 _ k)
  have pre118 : ∀ t, Steps p.tables e below (T117.setTop (mkF m 107 #[.val (.long q0), .second, .val (.long q1), .second, .val (.long q2), .second, .val (.long q3), .second, .val (.ref an_13), .val (.int (((((((((0 : Int32) + (6 : Int32)) + (own_f16 q0)) + (9 : Int32)) + (own_f16 q1)) + (6 : Int32)) + (own_f16 q2)) + (8 : Int32)) + (own_f16 q3)))] [(.ref an_13), (.int (((((((((0 : Int32) + (6 : Int32)) + (own_f16 q0)) + (9 : Int32)) + (own_f16 q1)) + (6 : Int32)) + (own_f16 q2)) + (8 : Int32)) + (own_f16 q3)))])) t → P t := fun t k => pre117 t (by
      refine XS.istore X117.here hx rfl (hb hby at_101) rfl (l' := #[.val (.long q0), .second, .val (.long q1), .second, .val (.long q2), .second, .val (.long q3), .second, .val (.ref an_13), .val (.int (((((((((0 : Int32) + (6 : Int32)) + (own_f16 q0)) + (9 : Int32)) + (own_f16 q1)) + (6 : Int32)) + (own_f16 q2)) + (8 : Int32)) + (own_f16 q3)))]) rfl ?_
      refine XS.iload X117.here hx rfl (hb hby at_103) rfl ?_
      refine XS.aload X117.here hx rfl (hb hby at_105) rfl rfl ?_
      exact k)
  obtain ⟨cq119, kq119, q119a, q119b, q119c⟩ := isOf hZ e117 c97
  obtain ⟨_, _, ⟨T119, L119, k119, n119⟩, -, X119, ⟨Lc119, hQ119, l119, y119, z119⟩, st119⟩ := X117.virtualBack hx (y := (⟨"java/lang/String", "length", "()I"⟩ : MethodName)) (z := (⟨"java/lang/String", "length", "()I"⟩ : MethodName)) hown (mvT hZ (hi hw 197 rfl)) (mvT hZ (hi hw 59 rfl)) (notFace_of_selects (args := #[]) (mvT hZ (hi hw 61 rfl))) (mvT hZ (hi hw 61 rfl)) (mvT hZ (hi hw 60 rfl)) (by decide) (backOf (W := 1) (rm8 l Z a0 hw [] an_13 bn_13 kn_13 (((((((((0 : Int32) + (6 : Int32)) + (own_f16 q0)) + (9 : Int32)) + (own_f16 q1)) + (6 : Int32)) + (own_f16 q2)) + (8 : Int32)) + (own_f16 q3)) (own_TX q0 q1 q2 q3) h89 n0 c90 c91 c97 c98 c99 c100 HC) hZ (hi hw 62 rfl) (hi hw 36 rfl) (by decide) (by decide)) q119a q119c (g := (mkF m 107 #[.val (.long q0), .second, .val (.long q1), .second, .val (.long q2), .second, .val (.long q3), .second, .val (.ref an_13), .val (.int (((((((((0 : Int32) + (6 : Int32)) + (own_f16 q0)) + (9 : Int32)) + (own_f16 q1)) + (6 : Int32)) + (own_f16 q2)) + (8 : Int32)) + (own_f16 q3)))] [(.ref an_13), (.int (((((((((0 : Int32) + (6 : Int32)) + (own_f16 q0)) + (9 : Int32)) + (own_f16 q1)) + (6 : Int32)) + (own_f16 q2)) + (8 : Int32)) + (own_f16 q3)))])) rfl (by rw [hml]; rfl) (Steps.refl _) (argsL := []) (rest := [(.int (((((((((0 : Int32) + (6 : Int32)) + (own_f16 q0)) + (9 : Int32)) + (own_f16 q1)) + (6 : Int32)) + (own_f16 q2)) + (8 : Int32)) + (own_f16 q3)))]) (lenOf own_pd1 rfl) rfl (by show 2 * 0 + _ ≤ _; exact Nat.le_of_eq rfl) (hb hby at_107) (fun _ _ => ⟨rfl, e117, (by decide : 29 + 0 ≤ _), (by decide : 2272 + 0 ≤ _)⟩)
  dsimp only [Pt.U, Pt.locs, Pt.cells, Pt.slots] at X119 l119 y119 z119 st119 hQ119
  subst l119 y119 z119
  obtain ⟨rfl, N119q, e119⟩ := hQ119
  have N119 := Fr.app N117 N119q
  have pre119 : ∀ t, Steps p.tables e below (T119.setTop (mkF m 110 #[.val (.long q0), .second, .val (.long q1), .second, .val (.long q2), .second, .val (.long q3), .second, .val (.ref an_13), .val (.int (((((((((0 : Int32) + (6 : Int32)) + (own_f16 q0)) + (9 : Int32)) + (own_f16 q1)) + (6 : Int32)) + (own_f16 q2)) + (8 : Int32)) + (own_f16 q3)))] [(.int (((((((((0 : Int32) + (6 : Int32)) + (own_f16 q0)) + (9 : Int32)) + (own_f16 q1)) + (6 : Int32)) + (own_f16 q2)) + (8 : Int32)) + (own_f16 q3))), (.int (((((((((0 : Int32) + (6 : Int32)) + (own_f16 q0)) + (9 : Int32)) + (own_f16 q1)) + (6 : Int32)) + (own_f16 q2)) + (8 : Int32)) + (own_f16 q3)))])) t → P t := fun t k => pre118 t (st119.trans k)
  have pre120 : ∀ t, Steps p.tables e below (T119.setTop (mkF m 118 #[.val (.long q0), .second, .val (.long q1), .second, .val (.long q2), .second, .val (.long q3), .second, .val (.ref an_13), .val (.int (((((((((0 : Int32) + (6 : Int32)) + (own_f16 q0)) + (9 : Int32)) + (own_f16 q1)) + (6 : Int32)) + (own_f16 q2)) + (8 : Int32)) + (own_f16 q3)))] [(.int (1 : Int32))])) t → P t := fun t k => pre119 t (by
      refine XS.icmpNo X119.here hx rfl (hb hby at_110) rfl (teq (rfl : (((((((((0 : Int32) + (6 : Int32)) + (own_f16 q0)) + (9 : Int32)) + (own_f16 q1)) + (6 : Int32)) + (own_f16 q2)) + (8 : Int32)) + (own_f16 q3)) = (((((((((0 : Int32) + (6 : Int32)) + (own_f16 q0)) + (9 : Int32)) + (own_f16 q1)) + (6 : Int32)) + (own_f16 q2)) + (8 : Int32)) + (own_f16 q3)))).2 ?_
      refine XS.iconst X119.here hx rfl (hb hby at_113) ?_
      refine XS.goto X119.here hx rfl (pc0 := 114) (pc' := 118) rfl (hb hby at_114) (by decide) (by decide) ?_
      exact k)
  obtain ⟨fs, hr, hrun, hended, hRW⟩ := X119.leaveW hS89 (by rw [e119]; exact hk89) (v := some (.int (1 : Int32))) (fun h => by rw [Bd.returns] at h; cases h)
  refine ⟨_, _, fin _ (pre120 _ ?_), hrun, hended, _, _, rfl, ?_, hRW.1, hRW.2.1, hRW.2.2.1, hRW.2.2.2.mono (by decide) (by decide)⟩
  · show Steps p.tables e below (T119.setTop (mkF m 118 #[.val (.long q0), .second, .val (.long q1), .second, .val (.long q2), .second, .val (.long q3), .second, .val (.ref an_13), .val (.int (((((((((0 : Int32) + (6 : Int32)) + (own_f16 q0)) + (9 : Int32)) + (own_f16 q1)) + (6 : Int32)) + (own_f16 q2)) + (8 : Int32)) + (own_f16 q3)))] [(.int (1 : Int32))])) _
    exact retN X119 hx (t := .boolean) Bd.returns (by simp) (hb hby at_118) hr
  · show Q0 Z q0 q1 q2 q3 h0 n0 _ T119.heap _
    rw [e119]
    exact ⟨rfl, N119⟩
theorem own_hl {c : Cell} {dv : Value} : ∀ (vs : List Value) (i : Nat), (∀ j, j < vs.length → c.slots[i + j]? = some (vs.getD j dv)) → HasL c i vs
  | [], _, _ => trivial
  | _ :: r, i, h => ⟨h 0 (Nat.zero_lt_succ _), own_hl r (i + 1) fun j hj => by rw [Nat.add_right_comm]; exact h (j + 1) (Nat.succ_lt_succ hj)⟩
/- the array of bytes that a word with 'all' describes -/
theorem own_dst {Z : State} {args : Array Value} {t F : Term} (hf : Fit Z) (wa : (Cond.arrayClass .byte).before args Z = true) (w3 : (Cond.exactly t "[B").before args Z = true) (w4 : (Cond.eq (.length t) (.int 100)).before args Z = true) (w5 : (Cond.all t (.eq (.elem t (.index 0)) F)).before args Z = true)
    (et : ∀ a, t.eval args Z none [] Z = some (.ref a) → ∀ idx, t.eval args Z none idx Z = some (.ref a)) (ls : List Int32) (hls : ls.length = 100) (hF : ∀ j : Fin 100, F.eval args Z none [j.val] Z = some (.int (ls.getD j.val 0))) : ∃ (a : Addr) (k : ClassId), t.eval args Z none [] Z = some (.ref a) ∧ Arv Z Z.heap a k .byte 100 (own_v ls) (.int 0) := by
  have hlen := Cond.eq_int w4 rfl
  obtain ⟨b, B, eb, hB, hn⟩ := Term.length_spec hlen
  have small := SBG.length_lt eb hB hlen
  obtain ⟨hat, hknown, hst, kB, co, ty, hkB, hkind⟩ := State.arrayAt?_spec hB
  have hcls : Z.vm.findClass "[B" = some B.cls := by
    obtain ⟨cell, k, g1, g2, -⟩ := Exa.start eb (Cond.before_iff.mp w3)
    cases hat.symm.trans g1; exact g2
  have hbyte : ∃ comp, kB.kind = .array comp .byte := by
    obtain ⟨c4, k4, comp, g1, g2, g3⟩ := Cond.arrayClass_spec wa
    cases hcls.symm.trans g1
    cases hkB.symm.trans g2
    exact ⟨comp, g3⟩
  obtain ⟨comp, hcomp⟩ := hbyte
  have A : Arr Z Z.heap b B .byte := ⟨hat, ⟨fun q r => by rw [r] at hst; exact absurd (show true = false from hst) (by decide), kB, hkB, comp, hcomp⟩, hknown⟩
  have hn2 : B.slots.size.toInt32 = (100 : Int32) := (Value.int.inj hn).symm
  have hsize : B.slots.size = 100 := by
    have q := len_toInt small
    rw [hn2, show (100 : Int32).toInt = 100 from by decide] at q; omega
  refine ⟨b, B.cls, eb, Arv.start hf A small hn2 (by decide) (by rw [own_v, List.length_map, hls]; decide) (own_hl (dv := .int 0) _ _ fun j hj => ?_)⟩
  have hj : j < 100 := by simpa [own_v, hls] using hj
  have e1 : (Nat.toInt32 j).toInt = (j : Int) := len_toInt (by omega)
  have nn : ¬ (Nat.toInt32 j) < 0 := own_nn (by omega)
  have e2 : (Nat.toInt32 j).toNatClampNeg = j := by have := own_tn (z := Nat.toInt32 j) (by omega); omega
  have u := eqv_i (hF ⟨j, hj⟩) (Cond.all_elim eb hB (Cond.before_iff.mp w5) j (by omega))
  rw [elem_f (et _ eb [j]) (Term.index_eval j) hB nn, e2] at u
  rw [Nat.zero_add, own_vget]; exact u
theorem own_o1 : ∀ j : Fin 100, (48 : Int32) + (Nat.toInt32 j.val) % 10 = own_ones.getD j.val 0 := by decide +kernel
theorem own_t1 : ∀ j : Fin 100, (48 : Int32) + (Nat.toInt32 j.val) / 10 = own_tens.getD j.val 0 := by decide +kernel
theorem own_oF {Z : State} {args : Array Value} (j : Fin 100) : (Term.add (Term.int (48 : Int32)) (Term.rem (Term.index (0 : Nat)) (Term.int (10 : Int32)))).eval args Z none [j.val] Z = some (.int (own_ones.getD j.val 0)) := by
  rw [← own_o1 j]; rfl
theorem own_tF {Z : State} {args : Array Value} (j : Fin 100) : (Term.add (Term.int (48 : Int32)) (Term.div (Term.index (0 : Nat)) (Term.int (10 : Int32)))).eval args Z none [j.val] Z = some (.int (own_tens.getD j.val 0)) := by
  rw [← own_t1 j]; rfl
theorem own_isR {v : Value} (h : v.isRef = true) : v = .null ∨ ∃ fa, v = .ref fa := by
  cases v <;> simp [Value.isRef] at h ⊢
set_option maxRecDepth 65536 in
set_option maxHeartbeats 40000000 in
theorem comes_1 {Post : Tables → Env → Array Value → State → Outcome → State → Prop} (hpost : ∀ tb e args s v u, (limb_1_1.after args s (.returned v) u = true ∧ limb_1_2.after args s (.returned v) u = true ∧ True) → ReturnedEndW s (.returned v) u (Jvm.fieldLocs frame_1_writes args s ++ Jvm.arrayLocs frame_1_arrays args s ++ Jvm.staticLocs frame_1_statics s) 40 9088 → Post tb e args s (.returned v) u) :
    ArmFor flags0 classFile x code maxLocals ret World_1 tables_1 room_1 Calls_1 rest_1 Pre_1 Post := by
  intro l hfl _ _ p e ha hc hk s m args below hf hA hF happ hP
  obtain ⟨hcalls, hrest, hpre⟩ := hP
  obtain ⟨-, -, -, hnamed, -, -, -, hat⟩ := (Spec.applies_iff hf).mp happ
  obtain ⟨hg, hn⟩ := and_e (Cond.before_iff.mp (show (Jvm.Cond.and given_1 narrow_1).before args s = true from hpre))
  obtain ⟨hg1, hg2⟩ := and_e hg
  obtain ⟨hg3, hg4⟩ := and_e hg2
  obtain ⟨hg5, hg6⟩ := and_e hg4
  obtain ⟨hg7, hg8⟩ := and_e hg6
  obtain ⟨w0, w1, w2, w3, rfl⟩ : ∃ w0 w1 w2 w3 : Value, args = #[w0, w1, w2, w3] := by
    have hs : args.size = 4 := by simpa [Cond.value, given_1] using hg1
    obtain ⟨L⟩ := args
    match L, hs with
    | [w0, w1, w2, w3], _ => exact ⟨w0, w1, w2, w3, rfl⟩
  have hw := fun d (hd : d ∈ tables_1) => atoms_spec (ws := Jvm.Cond.code x code maxLocals ret :: tables_1) hat d (List.mem_cons_of_mem _ hd)
  have hfit : Fit s := fun {y c} hc i hi => by
    obtain ⟨ha, rfl⟩ := Array.getElem?_eq_some_iff.mp hc
    have q := List.all_eq_true.mp ((Array.all_eq_true_iff_forall_mem.mp hF) _ (Array.getElem_mem ha)) i (List.mem_range.mpr hi)
    simpa [Array.getElem?_eq_getElem hi] using q
  obtain ⟨hsets, hown0⟩ := atoms_of _ (rest_1_c_eq ▸ (show rest_1_c.before _ s = true from hrest))
  have hr0 := Cond.before_iff.mp hown0
  obtain ⟨i0, ei0⟩ := isL_v hg3
  obtain rfl : w0 = (.long i0) := Option.some.inj ei0
  obtain ⟨i1, ei1⟩ := isL_v hg5
  obtain rfl : w1 = (.long i1) := Option.some.inj ei1
  obtain ⟨i2, ei2⟩ := isL_v hg7
  obtain rfl : w2 = (.long i2) := Option.some.inj ei2
  obtain ⟨i3, ei3⟩ := isL_v hg8
  obtain rfl : w3 = (.long i3) := Option.some.inj ei3
  obtain ⟨cs, ecs⟩ := is_v (Cond.before_iff.mp (hsets _ (List.mem_of_getElem? (i := 1) rfl)))
  have hcw : Jvm.Lit.compactW.before _ s = true := (hsets _ (List.mem_of_getElem? (i := 2) rfl))
  have hcs : ¬ cs = (0 : Int32) := gotF (Cond.eq_ints ecs (Term.int_eval 0)) (not_v (Cond.before_iff.mp (hsets _ (List.mem_of_getElem? (i := 2) rfl))))
  obtain ⟨fm, efm, hfm⟩ := isR_v (Cond.before_iff.mp (hsets _ (List.mem_of_getElem? (i := 8) rfl)))
  obtain ⟨d1, k1, ed1, hD1⟩ := own_dst hfit (hi hw 37 rfl) (hsets _ (List.mem_of_getElem? (i := 12) rfl)) (hsets _ (List.mem_of_getElem? (i := 13) rfl)) (hsets _ (List.mem_of_getElem? (i := 14) rfl)) (fun a q _ => q) own_ones (by decide) own_oF
  obtain ⟨d2, k2, ed2, hD2⟩ := own_dst hfit (hi hw 37 rfl) (hsets _ (List.mem_of_getElem? (i := 17) rfl)) (hsets _ (List.mem_of_getElem? (i := 18) rfl)) (hsets _ (List.mem_of_getElem? (i := 19) rfl)) (fun a q _ => q) own_tens (by decide) own_tF
  have HC : own_CC s := ⟨cs, fm, d1, d2, k1, k2, hcs, Sta.start ecs (Or.inl (hsets _ (List.mem_of_getElem? (i := 0) rfl))), Sta.start efm (Or.inl (hsets _ (List.mem_of_getElem? (i := 7) rfl))), Sta.start ed1 (Or.inl (hsets _ (List.mem_of_getElem? (i := 11) rfl))), Sta.start ed2 (Or.inl (hsets _ (List.mem_of_getElem? (i := 16) rfl))), hD1, hD2, own_isR hfm⟩
  obtain ⟨n, o, h1, h2, h3, _, L, rfl, ⟨rfl, N⟩, hq⟩ := rm0 l s _ hw tables_1 i0 i1 i2 i3 s.heap s.heap.size (Nat.le_refl _) (Old.start s) HC p e ha hc hk s m _ below hf ((Spec.applies_iff_loose hf).mp happ).1 ⟨rfl, State.Warmed39.refl s, rfl, CHv.start (own_ew hw) (fun q hq => hcalls.1 q hq) hcw (hi hw 37 rfl) (hi hw 43 rfl)⟩ trivial
  refine ⟨n, _, h1, h2, h3, hpost _ _ _ _ _ _ ⟨Cond.after_iff.mpr rfl, Cond.after_iff.mpr (eq_i res_at (Term.int_eval (1)) rfl), trivial⟩ ⟨hq.1, hq.2.1, hq.2.2.1, (hq.2.2.2.sift fun y hy => Or.inr (N y hy)).mono (by decide) (by decide)⟩⟩
theorem main_1_1 : Claimed_1_1 := comes_1 fun _ _ _ _ _ _ h hF => ⟨h.1, hF⟩
theorem main_1_2 : Claimed_1_2 := comes_1 fun _ _ _ _ _ _ h hF => ⟨h.2.1, hF⟩
end Jvm.Pilot.@@N@@
namespace Jvm.Pilot.@@N@@
open Jvm Jvm.ClassFile Sem Op Lib Jvm.Free Jvm.Stand Jvm.Pilot.@@N@@.Jvm.D
/-! MADE BY PROGRAM (witnessworld.py) out of the Statement's table words and the real class files: 26 classes; the members and pool entries that the words name. The judged class is class 1, her method 1. -/
namespace start1
open Jvm.ClassFile
def u (s : String) : CpInfo := .utf8 (stringToUtf16 s)
/-- a pool by its gaps: so many unusable entries, then the entry; so many at the end -/
def gap : Nat → List CpInfo → List CpInfo
  | 0, r => r
  | n + 1, r => .unusable :: gap n r
def poolList (es : List (Nat × CpInfo)) (last : Nat) : List CpInfo := es.foldr (fun e r => gap e.1 (e.2 :: r)) (gap last [])
def pool (es : List (Nat × CpInfo)) (last : Nat) : Array CpInfo := ⟨poolList es last⟩
def fileOf (pool : Array CpInfo) (this : Nat) (attrs : Array Attribute := #[]) (ms : Array MethodInfo := #[]) (fl : Nat := 33) (sup : Nat := 0) (ifs : Array Nat := #[]) (fds : Array FieldInfo := #[]) : ClassFile where
  minorVersion := 0
  majorVersion := 65
  constantPool := pool
  accessFlags := fl
  thisClass := this
  superClass := sup
  interfaces := ifs
  fields := fds
  methods := ms
  attributes := attrs
def plain (name : String) (sup : Option ClassId) : Class where
  name := name
  kind := .ordinary
  loader := none
  accessFlags := 33
  super := sup
  interfaces := #[]
  cf := none
  fields := #[]
  methods := #[]
  instanceTypes := #[]
  staticTypes := #[]
  resolved := #[]
  callSites := []
  init := .initialized
  statics := none
  mirror := none

def pool0 : Array CpInfo := pool [(5, u "<init>"), (0, u "()V"), (1, .class_ 10), (1, u "java/lang/Object"), (85, u "clone"), (0, u "()Ljava/lang/Object;")] 26

def k0c0 : Code := { maxStack := 0, maxLocals := 1, code := object_method_1_code, exceptionTable := #[], attributes := #[] }
def k0m0 : Method := { name := "<init>", desc := "()V", sig := { parameters := [], returnType := none }, accessFlags := 1, code := some k0c0 }
def k0m1 : Method := { name := "clone", desc := "()Ljava/lang/Object;", sig := { parameters := [], returnType := some (.object "java/lang/Object") }, accessFlags := 260, code := none }
/-- java/lang/Object -/
def k0 : Class := { plain "java/lang/Object" none with
  accessFlags := 33
  interfaces := #[]
  cf := some (fileOf pool0 8 #[] #[{ accessFlags := 1, nameIndex := 5, descriptorIndex := 6, attributes := #[] }, { accessFlags := 260, nameIndex := 96, descriptorIndex := 97, attributes := #[] }] 33 0 #[] #[])
  fields := #[]
  methods := #[k0m0, k0m1]
  instanceTypes := #[]
  staticTypes := #[]
  resolved := Array.replicate 124 none
  statics := none }

def pool1 : Array CpInfo := pool [(2, .class_ 4), (1, u "java/lang/Object"), (0, u "<init>"), (0, u "()V"), (0, .class_ 8), (0, u "com/example/xmax/xmax/queue/QueueStatus"), (0, .methodref 7 10), (0, .nameAndType 5 11), (0, u "(JJJJ)V"), (0, .methodref 7 13), (0, .nameAndType 14 15), (0, u "toString"), (0, u "()Ljava/lang/String;"), (0, .string 17), (0, u "ready="), (0, .methodref 19 20), (0, .class_ 21), (0, .nameAndType 22 23), (0, u "com/example/xmax/xmax/queue/QueueStatusToStringPinLaw"), (0, u "lab"), (0, u "(Ljava/lang/String;ILjava/lang/String;)I"), (0, .methodref 19 25), (0, .nameAndType 26 27), (0, u "num"), (0, u "(Ljava/lang/String;IJ)I"), (0, .string 29), (0, u " claimed="), (0, .string 31), (0, u " done="), (0, .string 33), (0, u " failed="), (0, .methodref 35 36), (0, .class_ 37), (0, .nameAndType 38 39), (0, u "java/lang/String"), (0, u "length"), (0, u "()I"), (0, .methodref 19 41), (0, .nameAndType 42 43), (0, u "ch"), (0, u "(Ljava/lang/String;ILjava/lang/String;I)Z"), (0, .methodref 35 45), (0, .nameAndType 46 47), (0, u "charAt"), (0, u "(I)C"), (0, .long 10), (1, .methodref 19 51), (0, .nameAndType 52 53), (0, u "ge"), (0, u "(JJ)I"), (0, .long 100), (1, .long 1000), (1, .long 10000), (1, .long 100000), (1, .long 1000000), (1, .long 10000000), (1, .long 100000000), (1, .long 1000000000), (1, .long 10000000000), (1, .long 100000000000), (1, .long 1000000000000), (1, .long 10000000000000), (1, .long 100000000000000), (1, .long 1000000000000000), (1, .long 10000000000000000), (1, .long 100000000000000000), (1, .long 1000000000000000000), (1, .methodref 19 89), (0, .nameAndType 90 91), (0, u "dig"), (0, u "(Ljava/lang/String;IIJIJ)Z"), (2, u "law"), (0, u "(JJJJ)Z")] 3

def k1m0 : Method := { name := "<init>", desc := "()V", sig := { parameters := [], returnType := none }, accessFlags := 2, code := none }
def k1c1 : Code := { maxStack := 10, maxLocals := 10, code := code, exceptionTable := #[], attributes := #[] }
def k1m1 : Method := { name := "law", desc := "(JJJJ)Z", sig := { parameters := [.long, .long, .long, .long], returnType := some .boolean }, accessFlags := 9, code := some k1c1 }
def k1c2 : Code := { maxStack := 4, maxLocals := 4, code := method_3_code, exceptionTable := #[], attributes := #[] }
def k1m2 : Method := { name := "lab", desc := "(Ljava/lang/String;ILjava/lang/String;)I", sig := { parameters := [(.object "java/lang/String"), .int, (.object "java/lang/String")], returnType := some .int }, accessFlags := 10, code := some k1c2 }
def k1c3 : Code := { maxStack := 3, maxLocals := 5, code := method_4_code, exceptionTable := #[], attributes := #[] }
def k1m3 : Method := { name := "ch", desc := "(Ljava/lang/String;ILjava/lang/String;I)Z", sig := { parameters := [(.object "java/lang/String"), .int, (.object "java/lang/String"), .int], returnType := some .boolean }, accessFlags := 10, code := some k1c3 }
def k1c4 : Code := { maxStack := 8, maxLocals := 9, code := method_5_code, exceptionTable := #[], attributes := #[] }
def k1m4 : Method := { name := "num", desc := "(Ljava/lang/String;IJ)I", sig := { parameters := [(.object "java/lang/String"), .int, .long], returnType := some .int }, accessFlags := 10, code := some k1c4 }
def k1c5 : Code := { maxStack := 4, maxLocals := 4, code := method_6_code, exceptionTable := #[], attributes := #[] }
def k1m5 : Method := { name := "ge", desc := "(JJ)I", sig := { parameters := [.long, .long], returnType := some .int }, accessFlags := 10, code := some k1c5 }
def k1c6 : Code := { maxStack := 4, maxLocals := 11, code := method_7_code, exceptionTable := #[], attributes := #[] }
def k1m6 : Method := { name := "dig", desc := "(Ljava/lang/String;IIJIJ)Z", sig := { parameters := [(.object "java/lang/String"), .int, .int, .long, .int, .long], returnType := some .boolean }, accessFlags := 10, code := some k1c6 }
/-- com/example/xmax/xmax/queue/QueueStatusToStringPinLaw -/
def k1 : Class := { plain "com/example/xmax/xmax/queue/QueueStatusToStringPinLaw" (some 0) with
  accessFlags := 49
  interfaces := #[]
  cf := some (fileOf pool1 19 #[] #[{ accessFlags := 2, nameIndex := 5, descriptorIndex := 6, attributes := #[] }, { accessFlags := 9, nameIndex := 94, descriptorIndex := 95, attributes := #[] }, { accessFlags := 10, nameIndex := 22, descriptorIndex := 23, attributes := #[] }, { accessFlags := 10, nameIndex := 42, descriptorIndex := 43, attributes := #[] }, { accessFlags := 10, nameIndex := 26, descriptorIndex := 27, attributes := #[] }, { accessFlags := 10, nameIndex := 52, descriptorIndex := 53, attributes := #[] }, { accessFlags := 10, nameIndex := 90, descriptorIndex := 91, attributes := #[] }] 49 2 #[] #[])
  fields := #[]
  methods := #[k1m0, k1m1, k1m2, k1m3, k1m4, k1m5, k1m6]
  instanceTypes := #[]
  staticTypes := #[]
  resolved := Array.replicate 99 none
  statics := none }

def pool2 : Array CpInfo := pool [(1, .methodref 2 3), (0, .class_ 4), (0, .nameAndType 5 6), (0, u "java/lang/Object"), (0, u "<init>"), (0, u "()V"), (0, .fieldref 8 9), (0, .class_ 10), (0, .nameAndType 11 12), (0, u "com/example/xmax/xmax/queue/QueueStatus"), (0, u "ready"), (0, u "J"), (0, .fieldref 8 14), (0, .nameAndType 15 12), (0, u "claimed"), (0, .fieldref 8 17), (0, .nameAndType 18 12), (0, u "done"), (0, .fieldref 8 20), (0, .nameAndType 21 12), (0, u "failed"), (0, .class_ 23), (0, u "java/lang/StringBuilder"), (0, .methodref 22 3), (0, .string 26), (0, u "ready="), (0, .methodref 22 28), (0, .nameAndType 29 30), (0, u "append"), (0, u "(Ljava/lang/String;)Ljava/lang/StringBuilder;"), (0, .methodref 22 32), (0, .nameAndType 29 33), (0, u "(J)Ljava/lang/StringBuilder;"), (0, .string 35), (0, u " claimed="), (0, .string 37), (0, u " done="), (0, .string 39), (0, u " failed="), (0, .methodref 22 41), (0, .nameAndType 42 43), (0, u "toString"), (0, u "()Ljava/lang/String;"), (0, u "(JJJJ)V")] 5

def k2c0 : Code := { maxStack := 3, maxLocals := 9, code := prog_17_method_1_code, exceptionTable := #[], attributes := #[] }
def k2m0 : Method := { name := "<init>", desc := "(JJJJ)V", sig := { parameters := [.long, .long, .long, .long], returnType := none }, accessFlags := 0, code := some k2c0 }
def k2c1 : Code := { maxStack := 3, maxLocals := 1, code := prog_17_method_6_code, exceptionTable := #[], attributes := #[] }
def k2m1 : Method := { name := "toString", desc := "()Ljava/lang/String;", sig := { parameters := [], returnType := some (.object "java/lang/String") }, accessFlags := 1, code := some k2c1 }
/-- com/example/xmax/xmax/queue/QueueStatus -/
def k2 : Class := { plain "com/example/xmax/xmax/queue/QueueStatus" (some 0) with
  accessFlags := 49
  interfaces := #[]
  cf := some (fileOf pool2 8 #[] #[{ accessFlags := 0, nameIndex := 5, descriptorIndex := 44, attributes := #[] }, { accessFlags := 1, nameIndex := 42, descriptorIndex := 43, attributes := #[] }] 49 2 #[] #[{ accessFlags := 18, nameIndex := 11, descriptorIndex := 12, attributes := #[] }, { accessFlags := 18, nameIndex := 15, descriptorIndex := 12, attributes := #[] }, { accessFlags := 18, nameIndex := 18, descriptorIndex := 12, attributes := #[] }, { accessFlags := 18, nameIndex := 21, descriptorIndex := 12, attributes := #[] }])
  fields := #[{ name := "ready", type := .long, accessFlags := 18, slot := 0, constantValue := 0 }, { name := "claimed", type := .long, accessFlags := 18, slot := 1, constantValue := 0 }, { name := "done", type := .long, accessFlags := 18, slot := 2, constantValue := 0 }, { name := "failed", type := .long, accessFlags := 18, slot := 3, constantValue := 0 }]
  methods := #[k2m0, k2m1]
  instanceTypes := #[.long, .long, .long, .long]
  staticTypes := #[]
  resolved := Array.replicate 50 none
  statics := none }

def pool3 : Array CpInfo := pool [(1, .class_ 2), (0, u "java/lang/Appendable"), (0, .class_ 4), (0, u "java/lang/Object")] 9

/-- java/lang/Appendable -/
def k3 : Class := { plain "java/lang/Appendable" (some 0) with
  accessFlags := 1537
  interfaces := #[]
  cf := some (fileOf pool3 1 #[] #[] 1537 3 #[] #[])
  fields := #[]
  methods := #[]
  instanceTypes := #[]
  staticTypes := #[]
  resolved := Array.replicate 14 none
  statics := none }

def pool4 : Array CpInfo := pool [(2, .class_ 4), (1, u "java/lang/CharSequence"), (42, .class_ 48), (0, u "java/lang/CharSequence$1CodePointIterator"), (10, .class_ 60), (0, u "java/lang/CharSequence$1CharIterator"), (5, .class_ 67), (0, u "java/lang/Object")] 63

/-- java/lang/CharSequence -/
def k4 : Class := { plain "java/lang/CharSequence" (some 0) with
  accessFlags := 1537
  interfaces := #[]
  cf := some (fileOf pool4 2 #[.nestMembers #[47, 59]] #[] 1537 66 #[] #[])
  fields := #[]
  methods := #[]
  instanceTypes := #[]
  staticTypes := #[]
  resolved := Array.replicate 131 none
  statics := none }

def pool5 : Array CpInfo := pool [(1, .class_ 2), (0, u "java/lang/String"), (0, .methodref 4 5), (0, .class_ 6), (0, .nameAndType 7 8), (0, u "java/lang/Object"), (0, u "<init>"), (0, u "()V"), (1, .class_ 12), (1, u "java/lang/AbstractStringBuilder"), (0, u "EMPTYVALUE"), (0, u "[B"), (0, .fieldref 10 16), (0, .nameAndType 17 14), (0, u "value"), (0, .fieldref 1 19), (0, .nameAndType 20 21), (0, u "COMPACT_STRINGS"), (0, u "Z"), (0, .fieldref 10 23), (0, .nameAndType 24 25), (0, u "coder"), (0, u "B"), (6, .methodref 1 33), (0, .nameAndType 34 35), (0, u "length"), (0, u "()I"), (3, .integer 2147483647), (0, .methodref 1 41), (0, .nameAndType 24 42), (0, u "()B"), (2, u "append"), (0, u "(Ljava/lang/String;)Ljava/lang/AbstractStringBuilder;"), (1, .class_ 49), (0, u "java/lang/CharSequence"), (19, u "(Ljava/lang/String;)V"), (5, u "maybeLatin1"), (3, .fieldref 10 80), (0, .nameAndType 81 82), (0, u "count"), (0, u "I"), (0, .methodref 10 84), (0, .nameAndType 85 86), (0, u "isLatin1"), (0, u "()Z"), (13, .methodref 10 101), (0, .nameAndType 102 103), (0, u "ensureCapacityInternal"), (0, u "(I)V"), (0, .methodref 10 105), (0, .nameAndType 106 107), (0, u "newCapacity"), (0, u "(I)I"), (0, .methodref 109 110), (0, .class_ 111), (0, .nameAndType 112 113), (0, u "java/util/Arrays"), (0, u "copyOf"), (0, u "([BI)[B"), (0, .methodref 115 116), (0, .class_ 117), (0, .nameAndType 118 119), (0, u "jdk/internal/util/ArraysSupport"), (0, u "newLength"), (0, u "(III)I"), (68, u "getChars"), (19, .methodref 10 209), (0, .nameAndType 210 211), (0, u "putStringAt"), (0, u "(ILjava/lang/String;)V"), (5, u "inflateIfNeededFor"), (2, .nameAndType 221 222), (0, u "getBytes"), (0, u "([BIB)V"), (24, u "stringSize"), (6, .methodref 255 256), (0, .class_ 257), (0, .nameAndType 247 258), (0, u "java/lang/Long"), (0, u "(J)I"), (0, .methodref 255 260), (0, .nameAndType 188 261), (0, u "(JI[B)I"), (135, .methodref 10 398), (0, .nameAndType 217 69), (0, .methodref 1 220), (3, u "()[B"), (40, .class_ 445), (0, u "java/lang/Appendable"), (67, u "(J)Ljava/lang/AbstractStringBuilder;"), (38, u "getValue")] 56

def k5m0 : Method := { name := "<init>", desc := "()V", sig := { parameters := [], returnType := none }, accessFlags := 0, code := none }
def k5c1 : Code := { maxStack := 2, maxLocals := 2, code := jdk_68_method_2_code, exceptionTable := #[], attributes := #[] }
def k5m1 : Method := { name := "<init>", desc := "(I)V", sig := { parameters := [.int], returnType := none }, accessFlags := 0, code := some k5c1 }
def k5c2 : Code := { maxStack := 1, maxLocals := 1, code := jdk_68_method_6_code, exceptionTable := #[], attributes := #[] }
def k5m2 : Method := { name := "length", desc := "()I", sig := { parameters := [], returnType := some .int }, accessFlags := 1, code := some k5c2 }
def k5c3 : Code := { maxStack := 4, maxLocals := 3, code := jdk_68_method_9_code, exceptionTable := #[], attributes := #[] }
def k5m3 : Method := { name := "ensureCapacityInternal", desc := "(I)V", sig := { parameters := [.int], returnType := none }, accessFlags := 2, code := some k5c3 }
def k5c4 : Code := { maxStack := 5, maxLocals := 6, code := jdk_68_method_10_code, exceptionTable := #[], attributes := #[] }
def k5m4 : Method := { name := "newCapacity", desc := "(I)I", sig := { parameters := [.int], returnType := some .int }, accessFlags := 2, code := some k5c4 }
def k5c5 : Code := { maxStack := 3, maxLocals := 3, code := jdk_68_method_22_code, exceptionTable := #[], attributes := #[] }
def k5m5 : Method := { name := "append", desc := "(Ljava/lang/String;)Ljava/lang/AbstractStringBuilder;", sig := { parameters := [(.object "java/lang/String")], returnType := some (.object "java/lang/AbstractStringBuilder") }, accessFlags := 1, code := some k5c5 }
def k5c6 : Code := { maxStack := 5, maxLocals := 5, code := jdk_68_method_33_code, exceptionTable := #[], attributes := #[] }
def k5m6 : Method := { name := "append", desc := "(J)Ljava/lang/AbstractStringBuilder;", sig := { parameters := [.long], returnType := some (.object "java/lang/AbstractStringBuilder") }, accessFlags := 1, code := some k5c6 }
def k5c7 : Code := { maxStack := 1, maxLocals := 1, code := jdk_68_method_64_code, exceptionTable := #[], attributes := #[] }
def k5m7 : Method := { name := "getValue", desc := "()[B", sig := { parameters := [], returnType := some (.array .byte) }, accessFlags := 16, code := some k5c7 }
def k5c8 : Code := { maxStack := 1, maxLocals := 1, code := jdk_68_method_68_code, exceptionTable := #[], attributes := #[] }
def k5m8 : Method := { name := "isLatin1", desc := "()Z", sig := { parameters := [], returnType := some .boolean }, accessFlags := 16, code := some k5c8 }
def k5c9 : Code := { maxStack := 2, maxLocals := 2, code := jdk_68_method_71_code, exceptionTable := #[], attributes := #[] }
def k5m9 : Method := { name := "inflateIfNeededFor", desc := "(Ljava/lang/String;)V", sig := { parameters := [(.object "java/lang/String")], returnType := none }, accessFlags := 2, code := some k5c9 }
def k5c10 : Code := { maxStack := 4, maxLocals := 3, code := jdk_68_method_73_code, exceptionTable := #[], attributes := #[] }
def k5m10 : Method := { name := "putStringAt", desc := "(ILjava/lang/String;)V", sig := { parameters := [.int, (.object "java/lang/String")], returnType := none }, accessFlags := 2, code := some k5c10 }
/-- java/lang/AbstractStringBuilder -/
def k5 : Class := { plain "java/lang/AbstractStringBuilder" (some 0) with
  accessFlags := 1056
  interfaces := #[3, 4]
  cf := some (fileOf pool5 10 #[] #[{ accessFlags := 0, nameIndex := 7, descriptorIndex := 8, attributes := #[] }, { accessFlags := 0, nameIndex := 7, descriptorIndex := 103, attributes := #[] }, { accessFlags := 1, nameIndex := 34, descriptorIndex := 35, attributes := #[] }, { accessFlags := 2, nameIndex := 102, descriptorIndex := 103, attributes := #[] }, { accessFlags := 2, nameIndex := 106, descriptorIndex := 107, attributes := #[] }, { accessFlags := 1, nameIndex := 45, descriptorIndex := 46, attributes := #[] }, { accessFlags := 1, nameIndex := 45, descriptorIndex := 513, attributes := #[] }, { accessFlags := 16, nameIndex := 552, descriptorIndex := 403, attributes := #[] }, { accessFlags := 16, nameIndex := 85, descriptorIndex := 86, attributes := #[] }, { accessFlags := 2, nameIndex := 217, descriptorIndex := 69, attributes := #[] }, { accessFlags := 2, nameIndex := 210, descriptorIndex := 211, attributes := #[] }] 1056 4 #[444, 48] #[{ accessFlags := 0, nameIndex := 17, descriptorIndex := 14, attributes := #[] }, { accessFlags := 0, nameIndex := 24, descriptorIndex := 25, attributes := #[] }, { accessFlags := 0, nameIndex := 75, descriptorIndex := 21, attributes := #[] }, { accessFlags := 0, nameIndex := 81, descriptorIndex := 82, attributes := #[] }, { accessFlags := 26, nameIndex := 13, descriptorIndex := 14, attributes := #[] }])
  fields := #[{ name := "value", type := (.array .byte), accessFlags := 0, slot := 0, constantValue := 0 }, { name := "coder", type := .byte, accessFlags := 0, slot := 1, constantValue := 0 }, { name := "maybeLatin1", type := .boolean, accessFlags := 0, slot := 2, constantValue := 0 }, { name := "count", type := .int, accessFlags := 0, slot := 3, constantValue := 0 }, { name := "EMPTYVALUE", type := (.array .byte), accessFlags := 26, slot := 0, constantValue := 0 }]
  methods := #[k5m0, k5m1, k5m2, k5m3, k5m4, k5m5, k5m6, k5m7, k5m8, k5m9, k5m10]
  instanceTypes := #[(.array .byte), .byte, .boolean, .int]
  staticTypes := #[(.array .byte)]
  resolved := Array.replicate 609 none
  statics := none }

def pool6 : Array CpInfo := pool [(1, .class_ 2), (0, u "java/io/Serializable"), (0, .class_ 4), (0, u "java/lang/Object")] 2

/-- java/io/Serializable -/
def k6 : Class := { plain "java/io/Serializable" (some 0) with
  accessFlags := 1537
  interfaces := #[]
  cf := some (fileOf pool6 1 #[] #[] 1537 3 #[] #[])
  fields := #[]
  methods := #[]
  instanceTypes := #[]
  staticTypes := #[]
  resolved := Array.replicate 7 none
  statics := none }

def pool7 : Array CpInfo := pool [(1, .class_ 2), (0, u "java/lang/Comparable"), (0, .class_ 4), (0, u "java/lang/Object")] 7

/-- java/lang/Comparable -/
def k7 : Class := { plain "java/lang/Comparable" (some 0) with
  accessFlags := 1537
  interfaces := #[]
  cf := some (fileOf pool7 1 #[] #[] 1537 3 #[] #[])
  fields := #[]
  methods := #[]
  instanceTypes := #[]
  staticTypes := #[]
  resolved := Array.replicate 12 none
  statics := none }

def pool8 : Array CpInfo := pool [(1, .methodref 2 3), (0, .class_ 4), (0, .nameAndType 5 6), (0, u "java/lang/AbstractStringBuilder"), (0, u "<init>"), (0, u "(I)V"), (11, .class_ 20), (1, u "java/lang/String"), (3, .class_ 26), (1, u "java/lang/StringBuilder"), (0, u "append"), (0, u "(Ljava/lang/String;)Ljava/lang/StringBuilder;"), (0, .methodref 2 30), (0, .nameAndType 27 31), (0, u "(Ljava/lang/String;)Ljava/lang/AbstractStringBuilder;"), (24, .methodref 2 57), (0, .nameAndType 27 58), (0, u "(J)Ljava/lang/AbstractStringBuilder;"), (78, .methodref 18 138), (0, .nameAndType 5 139), (0, u "(Ljava/lang/StringBuilder;)V"), (5, u "()V"), (10, u "()I"), (124, u "(J)Ljava/lang/StringBuilder;"), (61, .methodref 2 344), (0, .nameAndType 345 156), (0, u "length"), (3, .class_ 350), (0, u "java/lang/Appendable"), (0, .class_ 352), (0, u "java/io/Serializable"), (0, .class_ 354), (0, u "java/lang/Comparable"), (0, .class_ 356), (0, u "java/lang/CharSequence"), (0, u "serialVersionUID"), (0, u "J"), (40, u "toString"), (0, u "()Ljava/lang/String;")] 21

def k8c0 : Code := { maxStack := 2, maxLocals := 1, code := jdk_67_method_1_code, exceptionTable := #[], attributes := #[] }
def k8m0 : Method := { name := "<init>", desc := "()V", sig := { parameters := [], returnType := none }, accessFlags := 1, code := some k8c0 }
def k8c1 : Code := { maxStack := 2, maxLocals := 2, code := jdk_67_method_7_code, exceptionTable := #[], attributes := #[] }
def k8m1 : Method := { name := "append", desc := "(Ljava/lang/String;)Ljava/lang/StringBuilder;", sig := { parameters := [(.object "java/lang/String")], returnType := some (.object "java/lang/StringBuilder") }, accessFlags := 1, code := some k8c1 }
def k8c2 : Code := { maxStack := 3, maxLocals := 3, code := jdk_67_method_16_code, exceptionTable := #[], attributes := #[] }
def k8m2 : Method := { name := "append", desc := "(J)Ljava/lang/StringBuilder;", sig := { parameters := [.long], returnType := some (.object "java/lang/StringBuilder") }, accessFlags := 1, code := some k8c2 }
def k8c3 : Code := { maxStack := 3, maxLocals := 1, code := jdk_67_method_42_code, exceptionTable := #[], attributes := #[] }
def k8m3 : Method := { name := "toString", desc := "()Ljava/lang/String;", sig := { parameters := [], returnType := some (.object "java/lang/String") }, accessFlags := 1, code := some k8c3 }
def k8c4 : Code := { maxStack := 1, maxLocals := 1, code := jdk_67_method_93_code, exceptionTable := #[], attributes := #[] }
def k8m4 : Method := { name := "length", desc := "()I", sig := { parameters := [], returnType := some .int }, accessFlags := 4161, code := some k8c4 }
/-- java/lang/StringBuilder -/
def k8 : Class := { plain "java/lang/StringBuilder" (some 5) with
  accessFlags := 49
  interfaces := #[3, 6, 7, 4]
  cf := some (fileOf pool8 24 #[] #[{ accessFlags := 1, nameIndex := 5, descriptorIndex := 145, attributes := #[] }, { accessFlags := 1, nameIndex := 27, descriptorIndex := 28, attributes := #[] }, { accessFlags := 1, nameIndex := 27, descriptorIndex := 281, attributes := #[] }, { accessFlags := 1, nameIndex := 399, descriptorIndex := 400, attributes := #[] }, { accessFlags := 4161, nameIndex := 345, descriptorIndex := 156, attributes := #[] }] 49 2 #[349, 351, 353, 355] #[{ accessFlags := 24, nameIndex := 357, descriptorIndex := 358, attributes := #[] }])
  fields := #[{ name := "serialVersionUID", type := .long, accessFlags := 24, slot := 0, constantValue := 0 }]
  methods := #[k8m0, k8m1, k8m2, k8m3, k8m4]
  instanceTypes := #[(.array .byte), .byte, .boolean, .int]
  staticTypes := #[.long]
  resolved := Array.replicate 422 none
  statics := none }

def pool9 : Array CpInfo := pool [(1, .class_ 2), (0, u "java/lang/constant/Constable"), (0, .class_ 4), (0, u "java/lang/Object")] 6

/-- java/lang/constant/Constable -/
def k9 : Class := { plain "java/lang/constant/Constable" (some 0) with
  accessFlags := 1537
  interfaces := #[]
  cf := some (fileOf pool9 1 #[] #[] 1537 3 #[] #[])
  fields := #[]
  methods := #[]
  instanceTypes := #[]
  staticTypes := #[]
  resolved := Array.replicate 11 none
  statics := none }

def pool10 : Array CpInfo := pool [(1, .class_ 2), (0, u "java/lang/constant/ConstantDesc"), (0, .class_ 4), (0, u "java/lang/Object")] 32

/-- java/lang/constant/ConstantDesc -/
def k10 : Class := { plain "java/lang/constant/ConstantDesc" (some 0) with
  accessFlags := 1537
  interfaces := #[]
  cf := some (fileOf pool10 1 #[] #[] 1537 3 #[] #[])
  fields := #[]
  methods := #[]
  instanceTypes := #[]
  staticTypes := #[]
  resolved := Array.replicate 37 none
  statics := none }

def pool11 : Array CpInfo := pool [(1, .methodref 2 3), (0, .class_ 4), (0, .nameAndType 5 6), (0, u "java/lang/Object"), (0, u "<init>"), (0, u "()V"), (2, .fieldref 10 11), (0, .class_ 12), (0, .nameAndType 13 14), (0, u "java/lang/String"), (0, u "value"), (0, u "[B"), (0, .fieldref 10 16), (0, .nameAndType 17 18), (0, u "coder"), (0, u "B"), (2, u "hash"), (0, u "I"), (2, u "hashIsZero"), (0, u "Z"), (11, .fieldref 10 39), (0, .nameAndType 40 26), (0, u "COMPACT_STRINGS"), (13, .methodref 55 56), (0, .class_ 57), (0, .nameAndType 58 59), (0, u "java/util/Arrays"), (0, u "copyOfRange"), (0, u "([BII)[B"), (47, .class_ 109), (1, u "java/lang/StringLatin1"), (32, u "()Z"), (50, .class_ 195), (1, u "java/lang/System"), (16, .methodref 193 213), (0, .nameAndType 214 215), (0, u "arraycopy"), (0, u "(Ljava/lang/Object;ILjava/lang/Object;II)V"), (118, u "()I"), (0, .methodref 10 336), (0, .nameAndType 17 337), (0, u "()B"), (2, u "()[B"), (22, u "([BI)C"), (27, u "(II)V"), (35, u "(I)C"), (61, .methodref 10 490), (0, .nameAndType 5 491), (0, u "(Ljava/lang/AbstractStringBuilder;Ljava/lang/Void;)V"), (0, .methodref 10 493), (0, .nameAndType 494 142), (0, u "isLatin1"), (0, .methodref 107 496), (0, .nameAndType 497 363), (0, u "charAt"), (3, u "checkIndex"), (4, .nameAndType 507 334), (0, u "length"), (24, u "getBytes"), (16, .methodref 550 506), (0, .class_ 551), (0, u "java/lang/AbstractStringBuilder"), (0, .methodref 550 553), (0, .nameAndType 554 340), (0, u "getValue"), (20, .class_ 576), (0, u "java/lang/CharSequence"), (22, u "CASE_INSENSITIVE_ORDER"), (0, u "Ljava/util/Comparator;"), (220, u "([BIB)V"), (225, .methodref 550 493), (5, .fieldref 1054 1055), (0, .class_ 1056), (0, .nameAndType 1057 1058), (0, u "jdk/internal/util/Preconditions"), (0, u "SIOOBE_FORMATTER"), (0, u "Ljava/util/function/BiFunction;"), (0, .methodref 1054 1060), (0, .nameAndType 501 1061), (0, u "(IILjava/util/function/BiFunction;)I"), (39, u "serialPersistentFields"), (0, u "[Ljava/io/ObjectStreamField;"), (0, .class_ 1104), (0, u "java/lang/String$CaseInsensitiveComparator"), (1, .class_ 1107), (0, u "java/io/Serializable"), (0, .class_ 1109), (0, u "java/lang/Comparable"), (0, .class_ 1111), (0, u "java/lang/constant/Constable"), (0, .class_ 1113), (0, u "java/lang/constant/ConstantDesc"), (2, u "serialVersionUID"), (0, u "J"), (3, u "REPL"), (0, u "C"), (2, u "LATIN1"), (1, u "UTF16"), (105, u "(Ljava/lang/StringBuilder;)V")] 217

def k11m0 : Method := { name := "<init>", desc := "()V", sig := { parameters := [], returnType := none }, accessFlags := 1, code := none }
def k11c1 : Code := { maxStack := 3, maxLocals := 2, code := jdk_42_method_53_code, exceptionTable := #[], attributes := #[] }
def k11m1 : Method := { name := "<init>", desc := "(Ljava/lang/StringBuilder;)V", sig := { parameters := [(.object "java/lang/StringBuilder")], returnType := none }, accessFlags := 1, code := some k11c1 }
def k11c2 : Code := { maxStack := 2, maxLocals := 1, code := jdk_42_method_54_code, exceptionTable := #[], attributes := #[] }
def k11m2 : Method := { name := "length", desc := "()I", sig := { parameters := [], returnType := some .int }, accessFlags := 1, code := some k11c2 }
def k11c3 : Code := { maxStack := 2, maxLocals := 2, code := jdk_42_method_56_code, exceptionTable := #[], attributes := #[] }
def k11m3 : Method := { name := "charAt", desc := "(I)C", sig := { parameters := [.int], returnType := some .char }, accessFlags := 1, code := some k11c3 }
def k11c4 : Code := { maxStack := 5, maxLocals := 4, code := jdk_42_method_147_code, exceptionTable := #[], attributes := #[] }
def k11m4 : Method := { name := "getBytes", desc := "([BIB)V", sig := { parameters := [(.array .byte), .int, .byte], returnType := none }, accessFlags := 0, code := some k11c4 }
def k11c5 : Code := { maxStack := 5, maxLocals := 5, code := jdk_42_method_150_code, exceptionTable := #[], attributes := #[] }
def k11m5 : Method := { name := "<init>", desc := "(Ljava/lang/AbstractStringBuilder;Ljava/lang/Void;)V", sig := { parameters := [(.object "java/lang/AbstractStringBuilder"), (.object "java/lang/Void")], returnType := none }, accessFlags := 0, code := some k11c5 }
def k11c6 : Code := { maxStack := 1, maxLocals := 1, code := jdk_42_method_152_code, exceptionTable := #[], attributes := #[] }
def k11m6 : Method := { name := "coder", desc := "()B", sig := { parameters := [], returnType := some .byte }, accessFlags := 0, code := some k11c6 }
def k11c7 : Code := { maxStack := 1, maxLocals := 1, code := jdk_42_method_154_code, exceptionTable := #[], attributes := #[] }
def k11m7 : Method := { name := "isLatin1", desc := "()Z", sig := { parameters := [], returnType := some .boolean }, accessFlags := 0, code := some k11c7 }
def k11c8 : Code := { maxStack := 3, maxLocals := 2, code := jdk_42_method_155_code, exceptionTable := #[], attributes := #[] }
def k11m8 : Method := { name := "checkIndex", desc := "(II)V", sig := { parameters := [.int, .int], returnType := none }, accessFlags := 8, code := some k11c8 }
/-- java/lang/String -/
def k11 : Class := { plain "java/lang/String" (some 0) with
  accessFlags := 49
  interfaces := #[6, 7, 4, 9, 10]
  cf := some (fileOf pool11 10 #[.nestMembers #[1103]] #[{ accessFlags := 1, nameIndex := 5, descriptorIndex := 6, attributes := #[] }, { accessFlags := 1, nameIndex := 5, descriptorIndex := 1233, attributes := #[] }, { accessFlags := 1, nameIndex := 507, descriptorIndex := 334, attributes := #[] }, { accessFlags := 1, nameIndex := 497, descriptorIndex := 427, attributes := #[] }, { accessFlags := 0, nameIndex := 532, descriptorIndex := 821, attributes := #[] }, { accessFlags := 0, nameIndex := 5, descriptorIndex := 491, attributes := #[] }, { accessFlags := 0, nameIndex := 17, descriptorIndex := 337, attributes := #[] }, { accessFlags := 0, nameIndex := 494, descriptorIndex := 142, attributes := #[] }, { accessFlags := 8, nameIndex := 501, descriptorIndex := 391, attributes := #[] }] 49 2 #[1106, 1108, 575, 1110, 1112] #[{ accessFlags := 18, nameIndex := 13, descriptorIndex := 14, attributes := #[] }, { accessFlags := 18, nameIndex := 17, descriptorIndex := 18, attributes := #[] }, { accessFlags := 2, nameIndex := 21, descriptorIndex := 22, attributes := #[] }, { accessFlags := 2, nameIndex := 25, descriptorIndex := 26, attributes := #[] }, { accessFlags := 26, nameIndex := 1116, descriptorIndex := 1117, attributes := #[] }, { accessFlags := 24, nameIndex := 40, descriptorIndex := 26, attributes := #[] }, { accessFlags := 26, nameIndex := 1101, descriptorIndex := 1102, attributes := #[] }, { accessFlags := 26, nameIndex := 1121, descriptorIndex := 1122, attributes := #[] }, { accessFlags := 25, nameIndex := 599, descriptorIndex := 600, attributes := #[] }, { accessFlags := 24, nameIndex := 1125, descriptorIndex := 18, attributes := #[] }, { accessFlags := 24, nameIndex := 1127, descriptorIndex := 18, attributes := #[] }])
  fields := #[{ name := "value", type := (.array .byte), accessFlags := 18, slot := 0, constantValue := 0 }, { name := "coder", type := .byte, accessFlags := 18, slot := 1, constantValue := 0 }, { name := "hash", type := .int, accessFlags := 2, slot := 2, constantValue := 0 }, { name := "hashIsZero", type := .boolean, accessFlags := 2, slot := 3, constantValue := 0 }, { name := "serialVersionUID", type := .long, accessFlags := 26, slot := 0, constantValue := 0 }, { name := "COMPACT_STRINGS", type := .boolean, accessFlags := 24, slot := 1, constantValue := 0 }, { name := "serialPersistentFields", type := (.array (.object "java/io/ObjectStreamField")), accessFlags := 26, slot := 2, constantValue := 0 }, { name := "REPL", type := .char, accessFlags := 26, slot := 3, constantValue := 0 }, { name := "CASE_INSENSITIVE_ORDER", type := (.object "java/util/Comparator"), accessFlags := 25, slot := 4, constantValue := 0 }, { name := "LATIN1", type := .byte, accessFlags := 24, slot := 5, constantValue := 0 }, { name := "UTF16", type := .byte, accessFlags := 24, slot := 6, constantValue := 0 }]
  methods := #[k11m0, k11m1, k11m2, k11m3, k11m4, k11m5, k11m6, k11m7, k11m8]
  instanceTypes := #[(.array .byte), .byte, .int, .boolean]
  staticTypes := #[.long, .boolean, (.array (.object "java/io/ObjectStreamField")), .char, (.object "java/util/Comparator"), .byte, .byte]
  resolved := Array.replicate 1451 none
  statics := some 0 }

def pool12 : Array CpInfo := pool [(2, .class_ 4), (1, u "java/lang/Object"), (0, u "<init>"), (0, u "()V"), (1, .class_ 10), (1, u "java/lang/System"), (0, u "allowSecurityManager"), (0, u "I"), (16, u "cons"), (0, u "Ljava/io/Console;"), (77, .class_ 110), (1, u "java/lang/System$CallersHolder"), (43, u "initialErrStream"), (0, u "Ljava/io/PrintStream;"), (19, u "security"), (0, u "Ljava/lang/SecurityManager;"), (31, .class_ 209), (0, u "java/lang/System$1"), (7, u "props"), (0, u "Ljava/util/Properties;"), (2, u "lineSeparator"), (0, u "Ljava/lang/String;"), (96, .class_ 321), (1, u "java/lang/System$LoggerFinder"), (5, .class_ 328), (0, u "java/lang/System$Logger"), (67, u "err"), (2, u "out"), (91, u "notSupportedJnuEncoding"), (15, u "in"), (17, u "initialIn"), (0, u "Ljava/io/InputStream;"), (35, u "bootLayer"), (0, u "Ljava/lang/ModuleLayer;"), (99, .class_ 664), (0, u "java/lang/System$2"), (9, u "NEVER"), (2, u "MAYBE"), (49, u "arraycopy"), (0, u "(Ljava/lang/Object;ILjava/lang/Object;II)V"), (72, .class_ 802), (0, u "java/lang/System$Logger$Level")] 31

def k12m0 : Method := { name := "<init>", desc := "()V", sig := { parameters := [], returnType := none }, accessFlags := 2, code := none }
def k12m1 : Method := { name := "arraycopy", desc := "(Ljava/lang/Object;ILjava/lang/Object;II)V", sig := { parameters := [(.object "java/lang/Object"), .int, (.object "java/lang/Object"), .int, .int], returnType := none }, accessFlags := 265, code := none }
/-- java/lang/System -/
def k12 : Class := { plain "java/lang/System" (some 0) with
  accessFlags := 49
  interfaces := #[]
  cf := some (fileOf pool12 8 #[.nestMembers #[319, 327, 801, 108, 663, 208]] #[{ accessFlags := 2, nameIndex := 5, descriptorIndex := 6, attributes := #[] }, { accessFlags := 265, nameIndex := 727, descriptorIndex := 728, attributes := #[] }] 49 2 #[] #[{ accessFlags := 25, nameIndex := 507, descriptorIndex := 526, attributes := #[] }, { accessFlags := 25, nameIndex := 399, descriptorIndex := 155, attributes := #[] }, { accessFlags := 25, nameIndex := 396, descriptorIndex := 155, attributes := #[] }, { accessFlags := 10, nameIndex := 525, descriptorIndex := 526, attributes := #[] }, { accessFlags := 26, nameIndex := 674, descriptorIndex := 12, attributes := #[] }, { accessFlags := 26, nameIndex := 677, descriptorIndex := 12, attributes := #[] }, { accessFlags := 10, nameIndex := 11, descriptorIndex := 12, attributes := #[] }, { accessFlags := 74, nameIndex := 175, descriptorIndex := 176, attributes := #[] }, { accessFlags := 10, nameIndex := 491, descriptorIndex := 222, attributes := #[] }, { accessFlags := 74, nameIndex := 29, descriptorIndex := 30, attributes := #[] }, { accessFlags := 74, nameIndex := 154, descriptorIndex := 155, attributes := #[] }, { accessFlags := 10, nameIndex := 217, descriptorIndex := 218, attributes := #[] }, { accessFlags := 10, nameIndex := 221, descriptorIndex := 222, attributes := #[] }, { accessFlags := 8, nameIndex := 562, descriptorIndex := 563, attributes := #[] }])
  fields := #[{ name := "in", type := (.object "java/io/InputStream"), accessFlags := 25, slot := 0, constantValue := 0 }, { name := "out", type := (.object "java/io/PrintStream"), accessFlags := 25, slot := 1, constantValue := 0 }, { name := "err", type := (.object "java/io/PrintStream"), accessFlags := 25, slot := 2, constantValue := 0 }, { name := "initialIn", type := (.object "java/io/InputStream"), accessFlags := 10, slot := 3, constantValue := 0 }, { name := "NEVER", type := .int, accessFlags := 26, slot := 4, constantValue := 0 }, { name := "MAYBE", type := .int, accessFlags := 26, slot := 5, constantValue := 0 }, { name := "allowSecurityManager", type := .int, accessFlags := 10, slot := 6, constantValue := 0 }, { name := "security", type := (.object "java/lang/SecurityManager"), accessFlags := 74, slot := 7, constantValue := 0 }, { name := "notSupportedJnuEncoding", type := (.object "java/lang/String"), accessFlags := 10, slot := 8, constantValue := 0 }, { name := "cons", type := (.object "java/io/Console"), accessFlags := 74, slot := 9, constantValue := 0 }, { name := "initialErrStream", type := (.object "java/io/PrintStream"), accessFlags := 74, slot := 10, constantValue := 0 }, { name := "props", type := (.object "java/util/Properties"), accessFlags := 10, slot := 11, constantValue := 0 }, { name := "lineSeparator", type := (.object "java/lang/String"), accessFlags := 10, slot := 12, constantValue := 0 }, { name := "bootLayer", type := (.object "java/lang/ModuleLayer"), accessFlags := 8, slot := 13, constantValue := 0 }]
  methods := #[k12m0, k12m1]
  instanceTypes := #[]
  staticTypes := #[(.object "java/io/InputStream"), (.object "java/io/PrintStream"), (.object "java/io/PrintStream"), (.object "java/io/InputStream"), .int, .int, .int, (.object "java/lang/SecurityManager"), (.object "java/lang/String"), (.object "java/io/Console"), (.object "java/io/PrintStream"), (.object "java/util/Properties"), (.object "java/lang/String"), (.object "java/lang/ModuleLayer")]
  resolved := Array.replicate 834 none
  statics := none }

def pool13 : Array CpInfo := pool [(2, .class_ 4), (1, u "java/lang/Object"), (0, u "<init>"), (0, u "()V"), (1, .class_ 10), (1, u "java/lang/Number"), (2, .class_ 14), (0, u "java/io/Serializable"), (0, u "serialVersionUID"), (0, u "J")] 20

def k13m0 : Method := { name := "<init>", desc := "()V", sig := { parameters := [], returnType := none }, accessFlags := 1, code := none }
/-- java/lang/Number -/
def k13 : Class := { plain "java/lang/Number" (some 0) with
  accessFlags := 1057
  interfaces := #[6]
  cf := some (fileOf pool13 8 #[] #[{ accessFlags := 1, nameIndex := 5, descriptorIndex := 6, attributes := #[] }] 1057 2 #[13] #[{ accessFlags := 26, nameIndex := 15, descriptorIndex := 16, attributes := #[] }])
  fields := #[{ name := "serialVersionUID", type := .long, accessFlags := 26, slot := 0, constantValue := 0 }]
  methods := #[k13m0]
  instanceTypes := #[]
  staticTypes := #[.long]
  resolved := Array.replicate 37 none
  statics := none }

def pool14 : Array CpInfo := pool [(1, .class_ 2), (0, u "java/lang/Long"), (15, .class_ 20), (1, u "java/lang/Integer"), (32, .long 10), (47, u "(J)I"), (18, u "stringSize"), (2, u "getChars"), (0, u "(JI[B)I"), (4, .long 18446744071562067968), (1, .long 100), (1, .fieldref 18 134), (0, .nameAndType 135 136), (0, u "DigitOnes"), (0, u "[B"), (0, .fieldref 18 138), (0, .nameAndType 139 136), (0, u "DigitTens"), (0, .long 18446744073709551606), (94, .class_ 237), (1, u "java/lang/Long$LongCache"), (33, .class_ 272), (0, u "java/lang/Number"), (2, u "value"), (0, u "J"), (84, u "TYPE"), (0, u "Ljava/lang/Class;"), (0, .class_ 364), (0, u "java/lang/Comparable"), (0, .class_ 366), (0, u "java/lang/constant/Constable"), (0, .class_ 368), (0, u "java/lang/constant/ConstantDesc"), (0, u "MIN_VALUE"), (1, u "MAX_VALUE"), (4, u "SIZE"), (0, u "I"), (1, u "BYTES"), (1, u "serialVersionUID")] 142

def k14c0 : Code := { maxStack := 4, maxLocals := 11, code := jdk_35_method_14_code, exceptionTable := #[], attributes := #[] }
def k14m0 : Method := { name := "getChars", desc := "(JI[B)I", sig := { parameters := [.long, .int, (.array .byte)], returnType := some .int }, accessFlags := 8, code := some k14c0 }
def k14c1 : Code := { maxStack := 4, maxLocals := 6, code := jdk_35_method_15_code, exceptionTable := #[], attributes := #[] }
def k14m1 : Method := { name := "stringSize", desc := "(J)I", sig := { parameters := [.long], returnType := some .int }, accessFlags := 8, code := some k14c1 }
/-- java/lang/Long -/
def k14 : Class := { plain "java/lang/Long" (some 13) with
  accessFlags := 49
  interfaces := #[7, 9, 10]
  cf := some (fileOf pool14 1 #[.nestMembers #[235]] #[{ accessFlags := 8, nameIndex := 123, descriptorIndex := 124, attributes := #[] }, { accessFlags := 8, nameIndex := 120, descriptorIndex := 101, attributes := #[] }] 49 271 #[363, 365, 367] #[{ accessFlags := 25, nameIndex := 369, descriptorIndex := 276, attributes := #[] }, { accessFlags := 25, nameIndex := 371, descriptorIndex := 276, attributes := #[] }, { accessFlags := 25, nameIndex := 361, descriptorIndex := 362, attributes := #[] }, { accessFlags := 18, nameIndex := 275, descriptorIndex := 276, attributes := #[] }, { accessFlags := 25, nameIndex := 376, descriptorIndex := 377, attributes := #[] }, { accessFlags := 25, nameIndex := 379, descriptorIndex := 377, attributes := #[] }, { accessFlags := 26, nameIndex := 381, descriptorIndex := 276, attributes := #[] }])
  fields := #[{ name := "MIN_VALUE", type := .long, accessFlags := 25, slot := 0, constantValue := 0 }, { name := "MAX_VALUE", type := .long, accessFlags := 25, slot := 1, constantValue := 0 }, { name := "TYPE", type := (.object "java/lang/Class"), accessFlags := 25, slot := 2, constantValue := 0 }, { name := "value", type := .long, accessFlags := 18, slot := 0, constantValue := 0 }, { name := "SIZE", type := .int, accessFlags := 25, slot := 3, constantValue := 0 }, { name := "BYTES", type := .int, accessFlags := 25, slot := 4, constantValue := 0 }, { name := "serialVersionUID", type := .long, accessFlags := 26, slot := 5, constantValue := 0 }]
  methods := #[k14m0, k14m1]
  instanceTypes := #[.long]
  staticTypes := #[.long, .long, (.object "java/lang/Class"), .int, .int, .long]
  resolved := Array.replicate 524 none
  statics := none }

def pool15 : Array CpInfo := pool [(1, .class_ 2), (0, u "java/lang/Integer"), (16, u "digits"), (0, u "[C"), (64, u "DigitOnes"), (0, u "[B"), (2, u "DigitTens"), (99, .class_ 190), (0, u "java/lang/Integer$IntegerCache"), (3, u "I"), (8, .class_ 204), (0, u "java/lang/Number"), (2, u "value"), (94, u "TYPE"), (0, u "Ljava/lang/Class;"), (0, .class_ 305), (0, u "java/lang/Comparable"), (0, .class_ 307), (0, u "java/lang/constant/Constable"), (0, .class_ 309), (0, u "java/lang/constant/ConstantDesc"), (0, u "MIN_VALUE"), (1, u "MAX_VALUE"), (3, u "SIZE"), (1, u "BYTES"), (1, u "serialVersionUID"), (0, u "J")] 131

/-- java/lang/Integer -/
def k15 : Class := { plain "java/lang/Integer" (some 13) with
  accessFlags := 49
  interfaces := #[7, 9, 10]
  cf := some (fileOf pool15 1 #[.nestMembers #[189]] #[] 49 203 #[304, 306, 308] #[{ accessFlags := 25, nameIndex := 310, descriptorIndex := 194, attributes := #[] }, { accessFlags := 25, nameIndex := 312, descriptorIndex := 194, attributes := #[] }, { accessFlags := 25, nameIndex := 302, descriptorIndex := 303, attributes := #[] }, { accessFlags := 24, nameIndex := 19, descriptorIndex := 20, attributes := #[] }, { accessFlags := 24, nameIndex := 89, descriptorIndex := 86, attributes := #[] }, { accessFlags := 24, nameIndex := 85, descriptorIndex := 86, attributes := #[] }, { accessFlags := 18, nameIndex := 207, descriptorIndex := 194, attributes := #[] }, { accessFlags := 25, nameIndex := 316, descriptorIndex := 194, attributes := #[] }, { accessFlags := 25, nameIndex := 318, descriptorIndex := 194, attributes := #[] }, { accessFlags := 26, nameIndex := 320, descriptorIndex := 321, attributes := #[] }])
  fields := #[{ name := "MIN_VALUE", type := .int, accessFlags := 25, slot := 0, constantValue := 0 }, { name := "MAX_VALUE", type := .int, accessFlags := 25, slot := 1, constantValue := 0 }, { name := "TYPE", type := (.object "java/lang/Class"), accessFlags := 25, slot := 2, constantValue := 0 }, { name := "digits", type := (.array .char), accessFlags := 24, slot := 3, constantValue := 0 }, { name := "DigitTens", type := (.array .byte), accessFlags := 24, slot := 4, constantValue := 0 }, { name := "DigitOnes", type := (.array .byte), accessFlags := 24, slot := 5, constantValue := 0 }, { name := "value", type := .int, accessFlags := 18, slot := 0, constantValue := 0 }, { name := "SIZE", type := .int, accessFlags := 25, slot := 6, constantValue := 0 }, { name := "BYTES", type := .int, accessFlags := 25, slot := 7, constantValue := 0 }, { name := "serialVersionUID", type := .long, accessFlags := 26, slot := 8, constantValue := 0 }]
  methods := #[]
  instanceTypes := #[.int]
  staticTypes := #[.int, .int, (.object "java/lang/Class"), (.array .char), (.array .byte), (.array .byte), .int, .int, .long]
  resolved := Array.replicate 453 none
  statics := some 1 }

def pool16 : Array CpInfo := pool [(9, u "<init>"), (6, .class_ 18), (1, u "java/lang/Object"), (0, u "()V"), (1, .class_ 23), (1, u "jdk/internal/util/ArraysSupport"), (0, u "LOG2_ARRAY_LONG_INDEX_SCALE"), (0, u "I"), (2, u "U"), (0, u "Ljdk/internal/misc/Unsafe;"), (8, u "BIG_ENDIAN"), (0, u "Z"), (8, u "LOG2_BYTE_BIT_SIZE"), (4, u "LOG2_ARRAY_INT_INDEX_SCALE"), (54, u "JLA"), (0, u "Ljdk/internal/access/JavaLangAccess;"), (11, u "LOG2_ARRAY_BOOLEAN_INDEX_SCALE"), (9, u "LOG2_ARRAY_BYTE_INDEX_SCALE"), (5, u "LOG2_ARRAY_CHAR_INDEX_SCALE"), (5, u "LOG2_ARRAY_SHORT_INDEX_SCALE"), (18, u "LOG2_ARRAY_FLOAT_INDEX_SCALE"), (24, u "LOG2_ARRAY_DOUBLE_INDEX_SCALE"), (6, .methodref 195 196), (0, .class_ 197), (0, .nameAndType 198 199), (0, u "java/lang/Math"), (0, u "max"), (0, u "(II)I"), (0, .integer 2147483639), (76, u "T_BOOLEAN"), (2, u "T_CHAR"), (1, u "T_FLOAT"), (1, u "T_DOUBLE"), (1, u "T_BYTE"), (1, u "T_SHORT"), (1, u "T_INT"), (1, u "T_LONG"), (1, u "SOFT_MAX_ARRAY_LENGTH"), (56, u "newLength"), (0, u "(III)I")] 25

def k16m0 : Method := { name := "<init>", desc := "()V", sig := { parameters := [], returnType := none }, accessFlags := 2, code := none }
def k16c1 : Code := { maxStack := 3, maxLocals := 4, code := jdk_48_method_27_code, exceptionTable := #[], attributes := #[] }
def k16m1 : Method := { name := "newLength", desc := "(III)I", sig := { parameters := [.int, .int, .int], returnType := some .int }, accessFlags := 9, code := some k16c1 }
/-- jdk/internal/util/ArraysSupport -/
def k16 : Class := { plain "jdk/internal/util/ArraysSupport" (some 0) with
  accessFlags := 33
  interfaces := #[]
  cf := some (fileOf pool16 21 #[] #[{ accessFlags := 2, nameIndex := 9, descriptorIndex := 19, attributes := #[] }, { accessFlags := 9, nameIndex := 351, descriptorIndex := 352, attributes := #[] }] 33 16 #[] #[{ accessFlags := 24, nameIndex := 28, descriptorIndex := 29, attributes := #[] }, { accessFlags := 26, nameIndex := 38, descriptorIndex := 39, attributes := #[] }, { accessFlags := 25, nameIndex := 121, descriptorIndex := 25, attributes := #[] }, { accessFlags := 25, nameIndex := 131, descriptorIndex := 25, attributes := #[] }, { accessFlags := 25, nameIndex := 137, descriptorIndex := 25, attributes := #[] }, { accessFlags := 25, nameIndex := 143, descriptorIndex := 25, attributes := #[] }, { accessFlags := 25, nameIndex := 53, descriptorIndex := 25, attributes := #[] }, { accessFlags := 25, nameIndex := 24, descriptorIndex := 25, attributes := #[] }, { accessFlags := 25, nameIndex := 162, descriptorIndex := 25, attributes := #[] }, { accessFlags := 25, nameIndex := 187, descriptorIndex := 25, attributes := #[] }, { accessFlags := 26, nameIndex := 48, descriptorIndex := 25, attributes := #[] }, { accessFlags := 25, nameIndex := 277, descriptorIndex := 25, attributes := #[] }, { accessFlags := 25, nameIndex := 280, descriptorIndex := 25, attributes := #[] }, { accessFlags := 25, nameIndex := 282, descriptorIndex := 25, attributes := #[] }, { accessFlags := 25, nameIndex := 284, descriptorIndex := 25, attributes := #[] }, { accessFlags := 25, nameIndex := 286, descriptorIndex := 25, attributes := #[] }, { accessFlags := 25, nameIndex := 288, descriptorIndex := 25, attributes := #[] }, { accessFlags := 25, nameIndex := 290, descriptorIndex := 25, attributes := #[] }, { accessFlags := 25, nameIndex := 292, descriptorIndex := 25, attributes := #[] }, { accessFlags := 26, nameIndex := 108, descriptorIndex := 109, attributes := #[] }, { accessFlags := 25, nameIndex := 294, descriptorIndex := 25, attributes := #[] }])
  fields := #[{ name := "U", type := (.object "jdk/internal/misc/Unsafe"), accessFlags := 24, slot := 0, constantValue := 0 }, { name := "BIG_ENDIAN", type := .boolean, accessFlags := 26, slot := 1, constantValue := 0 }, { name := "LOG2_ARRAY_BOOLEAN_INDEX_SCALE", type := .int, accessFlags := 25, slot := 2, constantValue := 0 }, { name := "LOG2_ARRAY_BYTE_INDEX_SCALE", type := .int, accessFlags := 25, slot := 3, constantValue := 0 }, { name := "LOG2_ARRAY_CHAR_INDEX_SCALE", type := .int, accessFlags := 25, slot := 4, constantValue := 0 }, { name := "LOG2_ARRAY_SHORT_INDEX_SCALE", type := .int, accessFlags := 25, slot := 5, constantValue := 0 }, { name := "LOG2_ARRAY_INT_INDEX_SCALE", type := .int, accessFlags := 25, slot := 6, constantValue := 0 }, { name := "LOG2_ARRAY_LONG_INDEX_SCALE", type := .int, accessFlags := 25, slot := 7, constantValue := 0 }, { name := "LOG2_ARRAY_FLOAT_INDEX_SCALE", type := .int, accessFlags := 25, slot := 8, constantValue := 0 }, { name := "LOG2_ARRAY_DOUBLE_INDEX_SCALE", type := .int, accessFlags := 25, slot := 9, constantValue := 0 }, { name := "LOG2_BYTE_BIT_SIZE", type := .int, accessFlags := 26, slot := 10, constantValue := 0 }, { name := "T_BOOLEAN", type := .int, accessFlags := 25, slot := 11, constantValue := 0 }, { name := "T_CHAR", type := .int, accessFlags := 25, slot := 12, constantValue := 0 }, { name := "T_FLOAT", type := .int, accessFlags := 25, slot := 13, constantValue := 0 }, { name := "T_DOUBLE", type := .int, accessFlags := 25, slot := 14, constantValue := 0 }, { name := "T_BYTE", type := .int, accessFlags := 25, slot := 15, constantValue := 0 }, { name := "T_SHORT", type := .int, accessFlags := 25, slot := 16, constantValue := 0 }, { name := "T_INT", type := .int, accessFlags := 25, slot := 17, constantValue := 0 }, { name := "T_LONG", type := .int, accessFlags := 25, slot := 18, constantValue := 0 }, { name := "JLA", type := (.object "jdk/internal/access/JavaLangAccess"), accessFlags := 26, slot := 19, constantValue := 0 }, { name := "SOFT_MAX_ARRAY_LENGTH", type := .int, accessFlags := 25, slot := 20, constantValue := 0 }]
  methods := #[k16m0, k16m1]
  instanceTypes := #[]
  staticTypes := #[(.object "jdk/internal/misc/Unsafe"), .boolean, .int, .int, .int, .int, .int, .int, .int, .int, .int, .int, .int, .int, .int, .int, .int, .int, .int, (.object "jdk/internal/access/JavaLangAccess"), .int]
  resolved := Array.replicate 378 none
  statics := none }

def pool17 : Array CpInfo := pool [(1, .class_ 2), (0, u "java/lang/Math"), (1, .class_ 6), (1, u "java/lang/Object"), (0, u "<init>"), (0, u "()V"), (89, .class_ 100), (1, u "java/lang/Math$RandomNumberGeneratorHolder"), (71, u "negativeZeroFloatBits"), (0, u "J"), (2, u "negativeZeroDoubleBits"), (21, u "max"), (2, u "min"), (43, u "$assertionsDisabled"), (0, u "Z"), (88, u "(II)I"), (2, u "twoToTheDoubleScaleDown"), (0, u "D"), (4, u "twoToTheDoubleScaleUp"), (9, u "E"), (3, u "PI"), (2, u "TAU"), (2, u "DEGREES_TO_RADIANS"), (0, u "RADIANS_TO_DEGREES")] 94

def k17m0 : Method := { name := "<init>", desc := "()V", sig := { parameters := [], returnType := none }, accessFlags := 2, code := none }
def k17c1 : Code := { maxStack := 2, maxLocals := 2, code := jdk_29_method_65_code, exceptionTable := #[], attributes := #[] }
def k17m1 : Method := { name := "max", desc := "(II)I", sig := { parameters := [.int, .int], returnType := some .int }, accessFlags := 9, code := some k17c1 }
def k17c2 : Code := { maxStack := 2, maxLocals := 2, code := jdk_29_method_69_code, exceptionTable := #[], attributes := #[] }
def k17m2 : Method := { name := "min", desc := "(II)I", sig := { parameters := [.int, .int], returnType := some .int }, accessFlags := 9, code := some k17c2 }
/-- java/lang/Math -/
def k17 : Class := { plain "java/lang/Math" (some 0) with
  accessFlags := 49
  interfaces := #[]
  cf := some (fileOf pool17 1 #[.nestMembers #[98]] #[{ accessFlags := 2, nameIndex := 7, descriptorIndex := 8, attributes := #[] }, { accessFlags := 9, nameIndex := 198, descriptorIndex := 335, attributes := #[] }, { accessFlags := 9, nameIndex := 201, descriptorIndex := 335, attributes := #[] }] 49 4 #[] #[{ accessFlags := 25, nameIndex := 354, descriptorIndex := 339, attributes := #[] }, { accessFlags := 25, nameIndex := 358, descriptorIndex := 339, attributes := #[] }, { accessFlags := 25, nameIndex := 361, descriptorIndex := 339, attributes := #[] }, { accessFlags := 26, nameIndex := 364, descriptorIndex := 339, attributes := #[] }, { accessFlags := 26, nameIndex := 365, descriptorIndex := 339, attributes := #[] }, { accessFlags := 26, nameIndex := 172, descriptorIndex := 173, attributes := #[] }, { accessFlags := 26, nameIndex := 176, descriptorIndex := 173, attributes := #[] }, { accessFlags := 8, nameIndex := 344, descriptorIndex := 339, attributes := #[] }, { accessFlags := 8, nameIndex := 338, descriptorIndex := 339, attributes := #[] }, { accessFlags := 4120, nameIndex := 245, descriptorIndex := 246, attributes := #[] }])
  fields := #[{ name := "E", type := .double, accessFlags := 25, slot := 0, constantValue := 0 }, { name := "PI", type := .double, accessFlags := 25, slot := 1, constantValue := 0 }, { name := "TAU", type := .double, accessFlags := 25, slot := 2, constantValue := 0 }, { name := "DEGREES_TO_RADIANS", type := .double, accessFlags := 26, slot := 3, constantValue := 0 }, { name := "RADIANS_TO_DEGREES", type := .double, accessFlags := 26, slot := 4, constantValue := 0 }, { name := "negativeZeroFloatBits", type := .long, accessFlags := 26, slot := 5, constantValue := 0 }, { name := "negativeZeroDoubleBits", type := .long, accessFlags := 26, slot := 6, constantValue := 0 }, { name := "twoToTheDoubleScaleUp", type := .double, accessFlags := 8, slot := 7, constantValue := 0 }, { name := "twoToTheDoubleScaleDown", type := .double, accessFlags := 8, slot := 8, constantValue := 0 }, { name := "$assertionsDisabled", type := .boolean, accessFlags := 4120, slot := 9, constantValue := 0 }]
  methods := #[k17m0, k17m1, k17m2]
  instanceTypes := #[]
  staticTypes := #[.double, .double, .double, .double, .double, .long, .long, .double, .double, .boolean]
  resolved := Array.replicate 460 none
  statics := none }

def pool18 : Array CpInfo := pool [(2, .class_ 4), (1, u "java/lang/Object"), (0, u "<init>"), (0, u "()V"), (7, .class_ 16), (1, u "java/util/Arrays"), (57, .class_ 76), (1, u "java/util/Arrays$NaturalOrder"), (32, u "()Ljava/lang/Object;"), (3, .class_ 115), (1, u "java/util/Arrays$LegacyMergeSort"), (1, u "Z"), (10, .nameAndType 129 109), (0, u "clone"), (9, u "copyOfRange"), (10, .methodref 151 152), (0, .class_ 153), (0, .nameAndType 154 155), (0, u "java/lang/System"), (0, u "arraycopy"), (0, u "(Ljava/lang/Object;ILjava/lang/Object;II)V"), (146, u "copyOf"), (1, .methodref 305 306), (0, .class_ 307), (0, .nameAndType 308 309), (0, u "java/lang/Math"), (0, u "min"), (0, u "(II)I"), (0, .methodref 311 128), (0, .class_ 312), (0, u "[B"), (26, .methodref 14 340), (0, .nameAndType 341 342), (0, u "copyOfRangeByte"), (0, u "([BII)[B"), (0, .methodref 14 344), (0, .nameAndType 345 346), (0, u "checkLength"), (0, u "(II)V"), (28, .class_ 376), (0, u "java/util/Arrays$ArrayList"), (68, u "$assertionsDisabled"), (269, u "MIN_ARRAY_SORT_GRAN"), (0, u "I"), (2, u "INSERTIONSORT_THRESHOLD"), (149, u "([BI)[B"), (105, .class_ 976), (0, u "java/util/Arrays$ArrayItr")] 52

def k18m0 : Method := { name := "<init>", desc := "()V", sig := { parameters := [], returnType := none }, accessFlags := 2, code := none }
def k18c1 : Code := { maxStack := 6, maxLocals := 3, code := jdk_65_method_121_code, exceptionTable := #[], attributes := #[] }
def k18m1 : Method := { name := "copyOf", desc := "([BI)[B", sig := { parameters := [(.array .byte), .int], returnType := some (.array .byte) }, accessFlags := 9, code := some k18c1 }
def k18c2 : Code := { maxStack := 4, maxLocals := 2, code := jdk_65_method_131_code, exceptionTable := #[], attributes := #[] }
def k18m2 : Method := { name := "checkLength", desc := "(II)V", sig := { parameters := [.int, .int], returnType := none }, accessFlags := 10, code := some k18c2 }
def k18c3 : Code := { maxStack := 3, maxLocals := 3, code := jdk_65_method_132_code, exceptionTable := #[], attributes := #[] }
def k18m3 : Method := { name := "copyOfRange", desc := "([BII)[B", sig := { parameters := [(.array .byte), .int, .int], returnType := some (.array .byte) }, accessFlags := 9, code := some k18c3 }
def k18c4 : Code := { maxStack := 6, maxLocals := 5, code := jdk_65_method_133_code, exceptionTable := #[], attributes := #[] }
def k18m4 : Method := { name := "copyOfRangeByte", desc := "([BII)[B", sig := { parameters := [(.array .byte), .int, .int], returnType := some (.array .byte) }, accessFlags := 10, code := some k18c4 }
/-- java/util/Arrays -/
def k18 : Class := { plain "java/util/Arrays" (some 0) with
  accessFlags := 49
  interfaces := #[]
  cf := some (fileOf pool18 14 #[.nestMembers #[975, 375, 113, 74]] #[{ accessFlags := 2, nameIndex := 5, descriptorIndex := 6, attributes := #[] }, { accessFlags := 9, nameIndex := 302, descriptorIndex := 869, attributes := #[] }, { accessFlags := 10, nameIndex := 345, descriptorIndex := 346, attributes := #[] }, { accessFlags := 9, nameIndex := 139, descriptorIndex := 342, attributes := #[] }, { accessFlags := 10, nameIndex := 341, descriptorIndex := 342, attributes := #[] }] 49 2 #[] #[{ accessFlags := 26, nameIndex := 715, descriptorIndex := 716, attributes := #[] }, { accessFlags := 26, nameIndex := 719, descriptorIndex := 716, attributes := #[] }, { accessFlags := 4120, nameIndex := 445, descriptorIndex := 117, attributes := #[] }])
  fields := #[{ name := "MIN_ARRAY_SORT_GRAN", type := .int, accessFlags := 26, slot := 0, constantValue := 0 }, { name := "INSERTIONSORT_THRESHOLD", type := .int, accessFlags := 26, slot := 1, constantValue := 0 }, { name := "$assertionsDisabled", type := .boolean, accessFlags := 4120, slot := 2, constantValue := 0 }]
  methods := #[k18m0, k18m1, k18m2, k18m3, k18m4]
  instanceTypes := #[]
  staticTypes := #[.int, .int, .boolean]
  resolved := Array.replicate 1029 none
  statics := none }

def pool19 : Array CpInfo := pool [(1, .class_ 2), (0, u "java/lang/String"), (1, .class_ 6), (1, u "java/lang/Object"), (0, u "<init>"), (0, u "()V"), (0, .methodref 1 10), (0, .nameAndType 11 12), (0, u "checkIndex"), (0, u "(II)V"), (1, .class_ 16), (1, u "java/lang/StringLatin1"), (36, u "([BI)C"), (67, u "$assertionsDisabled"), (0, u "Z"), (98, .class_ 223), (1, u "java/lang/StringLatin1$LinesSpliterator"), (28, u "charAt"), (137, .class_ 391), (0, u "java/lang/StringLatin1$CharsSpliterator")] 3

def k19m0 : Method := { name := "<init>", desc := "()V", sig := { parameters := [], returnType := none }, accessFlags := 0, code := none }
def k19c1 : Code := { maxStack := 2, maxLocals := 2, code := jdk_43_method_2_code, exceptionTable := #[], attributes := #[] }
def k19m1 : Method := { name := "charAt", desc := "([BI)C", sig := { parameters := [(.array .byte), .int], returnType := some .char }, accessFlags := 9, code := some k19c1 }
/-- java/lang/StringLatin1 -/
def k19 : Class := { plain "java/lang/StringLatin1" (some 0) with
  accessFlags := 48
  interfaces := #[]
  cf := some (fileOf pool19 14 #[.nestMembers #[390, 221]] #[{ accessFlags := 0, nameIndex := 7, descriptorIndex := 8, attributes := #[] }, { accessFlags := 9, nameIndex := 252, descriptorIndex := 53, attributes := #[] }] 48 4 #[] #[{ accessFlags := 4120, nameIndex := 121, descriptorIndex := 122, attributes := #[] }])
  fields := #[{ name := "$assertionsDisabled", type := .boolean, accessFlags := 4120, slot := 0, constantValue := 0 }]
  methods := #[k19m0, k19m1]
  instanceTypes := #[]
  staticTypes := #[.boolean]
  resolved := Array.replicate 395 none
  statics := none }

def pool20 : Array CpInfo := pool [(2, .class_ 4), (1, u "java/lang/Object"), (0, u "<init>"), (0, u "()V"), (17, .class_ 26), (1, u "jdk/internal/util/Preconditions"), (6, u "checkIndex"), (21, .class_ 56), (0, u "jdk/internal/util/Preconditions$4"), (57, .class_ 115), (0, u "jdk/internal/util/Preconditions$1"), (7, u "SIOOBE_FORMATTER"), (0, u "Ljava/util/function/BiFunction;"), (0, .class_ 126), (0, u "jdk/internal/util/Preconditions$2"), (3, u "AIOOBE_FORMATTER"), (0, .class_ 132), (0, u "jdk/internal/util/Preconditions$3"), (3, u "IOOBE_FORMATTER"), (41, u "(IILjava/util/function/BiFunction;)I")] 15

def k20m0 : Method := { name := "<init>", desc := "()V", sig := { parameters := [], returnType := none }, accessFlags := 1, code := none }
def k20c1 : Code := { maxStack := 3, maxLocals := 3, code := jdk_41_method_11_code, exceptionTable := #[], attributes := #[] }
def k20m1 : Method := { name := "checkIndex", desc := "(IILjava/util/function/BiFunction;)I", sig := { parameters := [.int, .int, (.object "java/util/function/BiFunction")], returnType := some .int }, accessFlags := 9, code := some k20c1 }
/-- jdk/internal/util/Preconditions -/
def k20 : Class := { plain "jdk/internal/util/Preconditions" (some 0) with
  accessFlags := 33
  interfaces := #[]
  cf := some (fileOf pool20 24 #[.nestMembers #[55, 131, 125, 114]] #[{ accessFlags := 1, nameIndex := 5, descriptorIndex := 6, attributes := #[] }, { accessFlags := 9, nameIndex := 33, descriptorIndex := 178, attributes := #[] }] 33 2 #[] #[{ accessFlags := 25, nameIndex := 123, descriptorIndex := 124, attributes := #[] }, { accessFlags := 25, nameIndex := 130, descriptorIndex := 124, attributes := #[] }, { accessFlags := 25, nameIndex := 136, descriptorIndex := 124, attributes := #[] }])
  fields := #[{ name := "SIOOBE_FORMATTER", type := (.object "java/util/function/BiFunction"), accessFlags := 25, slot := 0, constantValue := 0 }, { name := "AIOOBE_FORMATTER", type := (.object "java/util/function/BiFunction"), accessFlags := 25, slot := 1, constantValue := 0 }, { name := "IOOBE_FORMATTER", type := (.object "java/util/function/BiFunction"), accessFlags := 25, slot := 2, constantValue := 0 }]
  methods := #[k20m0, k20m1]
  instanceTypes := #[]
  staticTypes := #[(.object "java/util/function/BiFunction"), (.object "java/util/function/BiFunction"), (.object "java/util/function/BiFunction")]
  resolved := Array.replicate 194 none
  statics := some 2 }

def pool21 : Array CpInfo := pool [(1, .class_ 2), (0, u "java/lang/Cloneable"), (0, .class_ 4), (0, u "java/lang/Object")] 2

/-- java/lang/Cloneable -/
def k21 : Class := { plain "java/lang/Cloneable" (some 0) with
  accessFlags := 1537
  interfaces := #[]
  cf := some (fileOf pool21 1 #[] #[] 1537 3 #[] #[])
  fields := #[]
  methods := #[]
  instanceTypes := #[]
  staticTypes := #[]
  resolved := Array.replicate 7 none
  statics := none }

/-- the primitive byte -/
def k22 : Class := { plain "byte" none with kind := .primitive 'B', accessFlags := 0x411 }
/-- [B -/
def k23 : Class := { plain "[B" (some 0) with kind := .array 22 .byte, interfaces := #[21, 6], accessFlags := 1041 }

/-- the primitive int -/
def k24 : Class := { plain "int" none with kind := .primitive 'I', accessFlags := 0x411 }
/-- [I -/
def k25 : Class := { plain "[I" (some 0) with kind := .array 24 .int, interfaces := #[21, 6], accessFlags := 1041 }

def heap : Heap := #[{ cls := 11, slots := #[.long 0, .int 1, .null, .int 0, .null, .int 0, .int 0], vm := .statics 11 },
  { cls := 15, slots := #[.int 0, .int 0, .null, .null, .ref 4, .ref 3, .int 0, .int 0, .long 0], vm := .statics 15 },
  { cls := 20, slots := #[.null, .null, .null], vm := .statics 20 },
  { cls := 23, slots := #[.int 48, .int 49, .int 50, .int 51, .int 52, .int 53, .int 54, .int 55, .int 56, .int 57, .int 48, .int 49, .int 50, .int 51, .int 52, .int 53, .int 54, .int 55, .int 56, .int 57, .int 48, .int 49, .int 50, .int 51, .int 52, .int 53, .int 54, .int 55, .int 56, .int 57, .int 48, .int 49, .int 50, .int 51, .int 52, .int 53, .int 54, .int 55, .int 56, .int 57, .int 48, .int 49, .int 50, .int 51, .int 52, .int 53, .int 54, .int 55, .int 56, .int 57, .int 48, .int 49, .int 50, .int 51, .int 52, .int 53, .int 54, .int 55, .int 56, .int 57, .int 48, .int 49, .int 50, .int 51, .int 52, .int 53, .int 54, .int 55, .int 56, .int 57, .int 48, .int 49, .int 50, .int 51, .int 52, .int 53, .int 54, .int 55, .int 56, .int 57, .int 48, .int 49, .int 50, .int 51, .int 52, .int 53, .int 54, .int 55, .int 56, .int 57, .int 48, .int 49, .int 50, .int 51, .int 52, .int 53, .int 54, .int 55, .int 56, .int 57], vm := .none },
  { cls := 23, slots := #[.int 48, .int 48, .int 48, .int 48, .int 48, .int 48, .int 48, .int 48, .int 48, .int 48, .int 49, .int 49, .int 49, .int 49, .int 49, .int 49, .int 49, .int 49, .int 49, .int 49, .int 50, .int 50, .int 50, .int 50, .int 50, .int 50, .int 50, .int 50, .int 50, .int 50, .int 51, .int 51, .int 51, .int 51, .int 51, .int 51, .int 51, .int 51, .int 51, .int 51, .int 52, .int 52, .int 52, .int 52, .int 52, .int 52, .int 52, .int 52, .int 52, .int 52, .int 53, .int 53, .int 53, .int 53, .int 53, .int 53, .int 53, .int 53, .int 53, .int 53, .int 54, .int 54, .int 54, .int 54, .int 54, .int 54, .int 54, .int 54, .int 54, .int 54, .int 55, .int 55, .int 55, .int 55, .int 55, .int 55, .int 55, .int 55, .int 55, .int 55, .int 56, .int 56, .int 56, .int 56, .int 56, .int 56, .int 56, .int 56, .int 56, .int 56, .int 57, .int 57, .int 57, .int 57, .int 57, .int 57, .int 57, .int 57, .int 57, .int 57], vm := .none }]
def classes : Array Class := #[k0, k1, k2, k3, k4, k5, k6, k7, k8, k9, k10, k11, k12, k13, k14, k15, k16, k17, k18, k19, k20, k21, k22, k23, k24, k25]
def interned : List (Array UInt16 × Addr) := []
def slotsUsed : Nat := 219
def theMethod : MethodId := ⟨1, 1⟩
def args0 : Array Value := #[.long 5, .long (-70), .long 0, .long 123456789012]
def aboutOver (below : List Frame) : State where
  vm := { classes := classes, interned := interned.toArray }
  heap := heap
  slotsUsed := slotsUsed
  threads := #[{ frames := .invoking theMethod args0 :: below }]
def below0 : List Frame := [.native { method := ⟨0, 0⟩, args := #[] }]
def about1 : State := aboutOver below0
def p0 : Program := .bare "" "" ""
def e0 : Env := launch0.env 0 0 0
theorem w_frames : about1.frames = Frame.invoking theMethod args0 :: below0 := rfl
set_option maxRecDepth 65536 in
theorem w_args : argsFit about1.vm theMethod args0 = true := by decide +kernel
set_option maxRecDepth 65536 in
theorem w_heap : heapFits about1 = true := by decide +kernel
set_option maxRecDepth 65536 in
theorem w_runnable : about1.curStatus? = some .runnable := by decide +kernel
set_option maxRecDepth 65536 in
theorem w_alone : about1.alone = true := by decide +kernel
set_option maxRecDepth 65536 in
theorem w_named : about1.methodNamed? x = some theMethod := by decide +kernel
set_option maxRecDepth 65536 in
theorem w_hears : about1.hears theMethod below0 = true := by decide +kernel
set_option maxRecDepth 65536 in
theorem w_ripe : about1.ripe theMethod args0 below0 = true := by decide +kernel
theorem w_running : about1.status = .running := rfl
set_option maxRecDepth 65536 in
theorem w_room : about1.hasRoom e0.platform room_1 = true :=
  launch0.hasRoom_least _ room_1 (by decide +kernel) (by decide +kernel) (by decide +kernel) (by decide +kernel) (by decide +kernel) (by decide +kernel)
theorem allAtoms_all (ts : List Jvm.Cond) (a : Array Jvm.Value) (st : Jvm.State) : (allAtoms ts).before a st = ts.all (fun c => c.before a st) := by
  induction ts with
  | nil => rfl
  | cons c t ih =>
    show (Jvm.Cond.and c (allAtoms t)).before a st = _
    rw [Jvm.Cond.before_and, ih, List.all_cons]
def words1 : List Jvm.Cond := Jvm.Cond.code x code maxLocals ret :: tables_1
/-- a 'code' word, met by the world's own term for the bytes: nothing is compared byte by byte -/
theorem code_word {y : MethodName} {bytes : ByteArray} {mx : Nat} {rt : Option FieldType} {a : Array Value} {s : State} {m : MethodId} {meth : Method} {c : Code} (h1 : s.methodNamed? y = some m) (h2 : s.vm.method? m = some meth) (h3 : meth.code = some c) (h4 : c.code = bytes)
    (h5 : (c.maxLocals == mx && c.exceptionTable.isEmpty && decide (c.maxStack ≤ mostOperands) && decide (meth.sig.returnType = rt) && !meth.locks && decide (parseMethodDescriptor y.desc = some meth.sig)) = true) : (Jvm.Cond.code y bytes mx rt).before a s = true := by
  simp only [Bool.and_eq_true, beq_iff_eq, Bool.not_eq_true', decide_eq_true_eq] at h5
  obtain ⟨⟨⟨⟨⟨g1, g2⟩, g3⟩, g4⟩, g5⟩, g6⟩ := h5
  simp [Cond.before, Cond.holds, Cond.value, h1, h2, h3, h4, g1, g2, g3, g4, g5, g6]
def isCode : Jvm.Cond → Bool
  | .code _ _ _ _ => true
  | _ => false
theorem all_split {L : List Jvm.Cond} {P : Jvm.Cond → Bool} (h1 : L.all (fun c => isCode c || P c) = true) (h2 : ∀ c ∈ L.filter isCode, P c = true) : L.all P = true := by
  refine List.all_eq_true.mpr fun c hc => ?_
  have h := List.all_eq_true.mp h1 c hc
  rcases Bool.eq_false_or_eq_true (isCode c) with hi | hi
  · exact h2 c (List.mem_filter.mpr ⟨hc, hi⟩)
  · simpa [hi] using h
set_option maxRecDepth 65536 in
theorem w_c0 : (Jvm.Cond.code x code maxLocals ret).before args0 about1 = true := code_word (m := ⟨1, 1⟩) (meth := k1m1) (c := k1c1) (by decide +kernel) rfl rfl rfl (by decide +kernel)
set_option maxRecDepth 65536 in
theorem w_c1 : (Jvm.Cond.code ({ cls := "com/example/xmax/xmax/queue/QueueStatus", name := "<init>", desc := "(JJJJ)V" } : Jvm.MethodName) prog_17_method_1_code (9 : Nat) (Option.none : Option Jvm.ClassFile.FieldType)).before args0 about1 = true := code_word (m := ⟨2, 0⟩) (meth := k2m0) (c := k2c0) (by decide +kernel) rfl rfl rfl (by decide +kernel)
set_option maxRecDepth 65536 in
theorem w_c2 : (Jvm.Cond.code ({ cls := "java/lang/Object", name := "<init>", desc := "()V" } : Jvm.MethodName) object_method_1_code (1 : Nat) (Option.none : Option Jvm.ClassFile.FieldType)).before args0 about1 = true := code_word (m := ⟨0, 0⟩) (meth := k0m0) (c := k0c0) (by decide +kernel) rfl rfl rfl (by decide +kernel)
set_option maxRecDepth 65536 in
theorem w_c3 : (Jvm.Cond.code ({ cls := "com/example/xmax/xmax/queue/QueueStatus", name := "toString", desc := "()Ljava/lang/String;" } : Jvm.MethodName) prog_17_method_6_code (1 : Nat) (Option.some (Jvm.ClassFile.FieldType.object "java/lang/String"))).before args0 about1 = true := code_word (m := ⟨2, 1⟩) (meth := k2m1) (c := k2c1) (by decide +kernel) rfl rfl rfl (by decide +kernel)
set_option maxRecDepth 65536 in
theorem w_c4 : (Jvm.Cond.code ({ cls := "java/lang/StringBuilder", name := "<init>", desc := "()V" } : Jvm.MethodName) jdk_67_method_1_code (1 : Nat) (Option.none : Option Jvm.ClassFile.FieldType)).before args0 about1 = true := code_word (m := ⟨8, 0⟩) (meth := k8m0) (c := k8c0) (by decide +kernel) rfl rfl rfl (by decide +kernel)
set_option maxRecDepth 65536 in
theorem w_c5 : (Jvm.Cond.code ({ cls := "java/lang/AbstractStringBuilder", name := "<init>", desc := "(I)V" } : Jvm.MethodName) jdk_68_method_2_code (2 : Nat) (Option.none : Option Jvm.ClassFile.FieldType)).before args0 about1 = true := code_word (m := ⟨5, 1⟩) (meth := k5m1) (c := k5c1) (by decide +kernel) rfl rfl rfl (by decide +kernel)
set_option maxRecDepth 65536 in
theorem w_c6 : (Jvm.Cond.code ({ cls := "java/lang/StringBuilder", name := "append", desc := "(Ljava/lang/String;)Ljava/lang/StringBuilder;" } : Jvm.MethodName) jdk_67_method_7_code (2 : Nat) (Option.some (Jvm.ClassFile.FieldType.object "java/lang/StringBuilder"))).before args0 about1 = true := code_word (m := ⟨8, 1⟩) (meth := k8m1) (c := k8c1) (by decide +kernel) rfl rfl rfl (by decide +kernel)
set_option maxRecDepth 65536 in
theorem w_c7 : (Jvm.Cond.code ({ cls := "java/lang/AbstractStringBuilder", name := "append", desc := "(Ljava/lang/String;)Ljava/lang/AbstractStringBuilder;" } : Jvm.MethodName) jdk_68_method_22_code (3 : Nat) (Option.some (Jvm.ClassFile.FieldType.object "java/lang/AbstractStringBuilder"))).before args0 about1 = true := code_word (m := ⟨5, 5⟩) (meth := k5m5) (c := k5c5) (by decide +kernel) rfl rfl rfl (by decide +kernel)
set_option maxRecDepth 65536 in
theorem w_c8 : (Jvm.Cond.code ({ cls := "java/lang/String", name := "length", desc := "()I" } : Jvm.MethodName) jdk_42_method_54_code (1 : Nat) (Option.some Jvm.ClassFile.FieldType.int)).before args0 about1 = true := code_word (m := ⟨11, 2⟩) (meth := k11m2) (c := k11c2) (by decide +kernel) rfl rfl rfl (by decide +kernel)
set_option maxRecDepth 65536 in
theorem w_c9 : (Jvm.Cond.code ({ cls := "java/lang/String", name := "coder", desc := "()B" } : Jvm.MethodName) jdk_42_method_152_code (1 : Nat) (Option.some Jvm.ClassFile.FieldType.byte)).before args0 about1 = true := code_word (m := ⟨11, 6⟩) (meth := k11m6) (c := k11c6) (by decide +kernel) rfl rfl rfl (by decide +kernel)
set_option maxRecDepth 65536 in
theorem w_c10 : (Jvm.Cond.code ({ cls := "java/lang/AbstractStringBuilder", name := "ensureCapacityInternal", desc := "(I)V" } : Jvm.MethodName) jdk_68_method_9_code (3 : Nat) (Option.none : Option Jvm.ClassFile.FieldType)).before args0 about1 = true := code_word (m := ⟨5, 3⟩) (meth := k5m3) (c := k5c3) (by decide +kernel) rfl rfl rfl (by decide +kernel)
set_option maxRecDepth 65536 in
theorem w_c11 : (Jvm.Cond.code ({ cls := "java/lang/AbstractStringBuilder", name := "putStringAt", desc := "(ILjava/lang/String;)V" } : Jvm.MethodName) jdk_68_method_73_code (3 : Nat) (Option.none : Option Jvm.ClassFile.FieldType)).before args0 about1 = true := code_word (m := ⟨5, 10⟩) (meth := k5m10) (c := k5c10) (by decide +kernel) rfl rfl rfl (by decide +kernel)
set_option maxRecDepth 65536 in
theorem w_c12 : (Jvm.Cond.code ({ cls := "java/lang/AbstractStringBuilder", name := "inflateIfNeededFor", desc := "(Ljava/lang/String;)V" } : Jvm.MethodName) jdk_68_method_71_code (2 : Nat) (Option.none : Option Jvm.ClassFile.FieldType)).before args0 about1 = true := code_word (m := ⟨5, 9⟩) (meth := k5m9) (c := k5c9) (by decide +kernel) rfl rfl rfl (by decide +kernel)
set_option maxRecDepth 65536 in
theorem w_c13 : (Jvm.Cond.code ({ cls := "java/lang/String", name := "getBytes", desc := "([BIB)V" } : Jvm.MethodName) jdk_42_method_147_code (4 : Nat) (Option.none : Option Jvm.ClassFile.FieldType)).before args0 about1 = true := code_word (m := ⟨11, 4⟩) (meth := k11m4) (c := k11c4) (by decide +kernel) rfl rfl rfl (by decide +kernel)
set_option maxRecDepth 65536 in
theorem w_c14 : (Jvm.Cond.code ({ cls := "java/lang/StringBuilder", name := "append", desc := "(J)Ljava/lang/StringBuilder;" } : Jvm.MethodName) jdk_67_method_16_code (3 : Nat) (Option.some (Jvm.ClassFile.FieldType.object "java/lang/StringBuilder"))).before args0 about1 = true := code_word (m := ⟨8, 2⟩) (meth := k8m2) (c := k8c2) (by decide +kernel) rfl rfl rfl (by decide +kernel)
set_option maxRecDepth 65536 in
theorem w_c15 : (Jvm.Cond.code ({ cls := "java/lang/AbstractStringBuilder", name := "append", desc := "(J)Ljava/lang/AbstractStringBuilder;" } : Jvm.MethodName) jdk_68_method_33_code (5 : Nat) (Option.some (Jvm.ClassFile.FieldType.object "java/lang/AbstractStringBuilder"))).before args0 about1 = true := code_word (m := ⟨5, 6⟩) (meth := k5m6) (c := k5c6) (by decide +kernel) rfl rfl rfl (by decide +kernel)
set_option maxRecDepth 65536 in
theorem w_c16 : (Jvm.Cond.code ({ cls := "java/lang/Long", name := "stringSize", desc := "(J)I" } : Jvm.MethodName) jdk_35_method_15_code (6 : Nat) (Option.some Jvm.ClassFile.FieldType.int)).before args0 about1 = true := code_word (m := ⟨14, 1⟩) (meth := k14m1) (c := k14c1) (by decide +kernel) rfl rfl rfl (by decide +kernel)
set_option maxRecDepth 65536 in
theorem w_c17 : (Jvm.Cond.code ({ cls := "java/lang/AbstractStringBuilder", name := "isLatin1", desc := "()Z" } : Jvm.MethodName) jdk_68_method_68_code (1 : Nat) (Option.some Jvm.ClassFile.FieldType.boolean)).before args0 about1 = true := code_word (m := ⟨5, 8⟩) (meth := k5m8) (c := k5c8) (by decide +kernel) rfl rfl rfl (by decide +kernel)
set_option maxRecDepth 65536 in
theorem w_c18 : (Jvm.Cond.code ({ cls := "java/lang/Long", name := "getChars", desc := "(JI[B)I" } : Jvm.MethodName) jdk_35_method_14_code (11 : Nat) (Option.some Jvm.ClassFile.FieldType.int)).before args0 about1 = true := code_word (m := ⟨14, 0⟩) (meth := k14m0) (c := k14c0) (by decide +kernel) rfl rfl rfl (by decide +kernel)
set_option maxRecDepth 65536 in
theorem w_c19 : (Jvm.Cond.code ({ cls := "java/lang/AbstractStringBuilder", name := "newCapacity", desc := "(I)I" } : Jvm.MethodName) jdk_68_method_10_code (6 : Nat) (Option.some Jvm.ClassFile.FieldType.int)).before args0 about1 = true := code_word (m := ⟨5, 4⟩) (meth := k5m4) (c := k5c4) (by decide +kernel) rfl rfl rfl (by decide +kernel)
set_option maxRecDepth 65536 in
theorem w_c20 : (Jvm.Cond.code ({ cls := "jdk/internal/util/ArraysSupport", name := "newLength", desc := "(III)I" } : Jvm.MethodName) jdk_48_method_27_code (4 : Nat) (Option.some Jvm.ClassFile.FieldType.int)).before args0 about1 = true := code_word (m := ⟨16, 1⟩) (meth := k16m1) (c := k16c1) (by decide +kernel) rfl rfl rfl (by decide +kernel)
set_option maxRecDepth 65536 in
theorem w_c21 : (Jvm.Cond.code ({ cls := "java/lang/Math", name := "max", desc := "(II)I" } : Jvm.MethodName) jdk_29_method_65_code (2 : Nat) (Option.some Jvm.ClassFile.FieldType.int)).before args0 about1 = true := code_word (m := ⟨17, 1⟩) (meth := k17m1) (c := k17c1) (by decide +kernel) rfl rfl rfl (by decide +kernel)
set_option maxRecDepth 65536 in
theorem w_c22 : (Jvm.Cond.code ({ cls := "java/util/Arrays", name := "copyOf", desc := "([BI)[B" } : Jvm.MethodName) jdk_65_method_121_code (3 : Nat) (Option.some (Jvm.ClassFile.FieldType.array Jvm.ClassFile.FieldType.byte))).before args0 about1 = true := code_word (m := ⟨18, 1⟩) (meth := k18m1) (c := k18c1) (by decide +kernel) rfl rfl rfl (by decide +kernel)
set_option maxRecDepth 65536 in
theorem w_c23 : (Jvm.Cond.code ({ cls := "java/lang/Math", name := "min", desc := "(II)I" } : Jvm.MethodName) jdk_29_method_69_code (2 : Nat) (Option.some Jvm.ClassFile.FieldType.int)).before args0 about1 = true := code_word (m := ⟨17, 2⟩) (meth := k17m2) (c := k17c2) (by decide +kernel) rfl rfl rfl (by decide +kernel)
set_option maxRecDepth 65536 in
theorem w_c24 : (Jvm.Cond.code ({ cls := "java/lang/StringBuilder", name := "toString", desc := "()Ljava/lang/String;" } : Jvm.MethodName) jdk_67_method_42_code (1 : Nat) (Option.some (Jvm.ClassFile.FieldType.object "java/lang/String"))).before args0 about1 = true := code_word (m := ⟨8, 3⟩) (meth := k8m3) (c := k8c3) (by decide +kernel) rfl rfl rfl (by decide +kernel)
set_option maxRecDepth 65536 in
theorem w_c25 : (Jvm.Cond.code ({ cls := "java/lang/String", name := "<init>", desc := "(Ljava/lang/StringBuilder;)V" } : Jvm.MethodName) jdk_42_method_53_code (2 : Nat) (Option.none : Option Jvm.ClassFile.FieldType)).before args0 about1 = true := code_word (m := ⟨11, 1⟩) (meth := k11m1) (c := k11c1) (by decide +kernel) rfl rfl rfl (by decide +kernel)
set_option maxRecDepth 65536 in
theorem w_c26 : (Jvm.Cond.code ({ cls := "java/lang/String", name := "<init>", desc := "(Ljava/lang/AbstractStringBuilder;Ljava/lang/Void;)V" } : Jvm.MethodName) jdk_42_method_150_code (5 : Nat) (Option.none : Option Jvm.ClassFile.FieldType)).before args0 about1 = true := code_word (m := ⟨11, 5⟩) (meth := k11m5) (c := k11c5) (by decide +kernel) rfl rfl rfl (by decide +kernel)
set_option maxRecDepth 65536 in
theorem w_c27 : (Jvm.Cond.code ({ cls := "java/lang/AbstractStringBuilder", name := "getValue", desc := "()[B" } : Jvm.MethodName) jdk_68_method_64_code (1 : Nat) (Option.some (Jvm.ClassFile.FieldType.array Jvm.ClassFile.FieldType.byte))).before args0 about1 = true := code_word (m := ⟨5, 7⟩) (meth := k5m7) (c := k5c7) (by decide +kernel) rfl rfl rfl (by decide +kernel)
set_option maxRecDepth 65536 in
theorem w_c28 : (Jvm.Cond.code ({ cls := "java/lang/StringBuilder", name := "length", desc := "()I" } : Jvm.MethodName) jdk_67_method_93_code (1 : Nat) (Option.some Jvm.ClassFile.FieldType.int)).before args0 about1 = true := code_word (m := ⟨8, 4⟩) (meth := k8m4) (c := k8c4) (by decide +kernel) rfl rfl rfl (by decide +kernel)
set_option maxRecDepth 65536 in
theorem w_c29 : (Jvm.Cond.code ({ cls := "java/lang/AbstractStringBuilder", name := "length", desc := "()I" } : Jvm.MethodName) jdk_68_method_6_code (1 : Nat) (Option.some Jvm.ClassFile.FieldType.int)).before args0 about1 = true := code_word (m := ⟨5, 2⟩) (meth := k5m2) (c := k5c2) (by decide +kernel) rfl rfl rfl (by decide +kernel)
set_option maxRecDepth 65536 in
theorem w_c30 : (Jvm.Cond.code ({ cls := "java/util/Arrays", name := "copyOfRange", desc := "([BII)[B" } : Jvm.MethodName) jdk_65_method_132_code (3 : Nat) (Option.some (Jvm.ClassFile.FieldType.array Jvm.ClassFile.FieldType.byte))).before args0 about1 = true := code_word (m := ⟨18, 3⟩) (meth := k18m3) (c := k18c3) (by decide +kernel) rfl rfl rfl (by decide +kernel)
set_option maxRecDepth 65536 in
theorem w_c31 : (Jvm.Cond.code ({ cls := "java/util/Arrays", name := "copyOfRangeByte", desc := "([BII)[B" } : Jvm.MethodName) jdk_65_method_133_code (5 : Nat) (Option.some (Jvm.ClassFile.FieldType.array Jvm.ClassFile.FieldType.byte))).before args0 about1 = true := code_word (m := ⟨18, 4⟩) (meth := k18m4) (c := k18c4) (by decide +kernel) rfl rfl rfl (by decide +kernel)
set_option maxRecDepth 65536 in
theorem w_c32 : (Jvm.Cond.code ({ cls := "java/util/Arrays", name := "checkLength", desc := "(II)V" } : Jvm.MethodName) jdk_65_method_131_code (2 : Nat) (Option.none : Option Jvm.ClassFile.FieldType)).before args0 about1 = true := code_word (m := ⟨18, 2⟩) (meth := k18m2) (c := k18c2) (by decide +kernel) rfl rfl rfl (by decide +kernel)
set_option maxRecDepth 65536 in
theorem w_c33 : (Jvm.Cond.code ({ cls := "com/example/xmax/xmax/queue/QueueStatusToStringPinLaw", name := "lab", desc := "(Ljava/lang/String;ILjava/lang/String;)I" } : Jvm.MethodName) method_3_code (4 : Nat) (Option.some Jvm.ClassFile.FieldType.int)).before args0 about1 = true := code_word (m := ⟨1, 2⟩) (meth := k1m2) (c := k1c2) (by decide +kernel) rfl rfl rfl (by decide +kernel)
set_option maxRecDepth 65536 in
theorem w_c34 : (Jvm.Cond.code ({ cls := "com/example/xmax/xmax/queue/QueueStatusToStringPinLaw", name := "ch", desc := "(Ljava/lang/String;ILjava/lang/String;I)Z" } : Jvm.MethodName) method_4_code (5 : Nat) (Option.some Jvm.ClassFile.FieldType.boolean)).before args0 about1 = true := code_word (m := ⟨1, 3⟩) (meth := k1m3) (c := k1c3) (by decide +kernel) rfl rfl rfl (by decide +kernel)
set_option maxRecDepth 65536 in
theorem w_c35 : (Jvm.Cond.code ({ cls := "java/lang/String", name := "charAt", desc := "(I)C" } : Jvm.MethodName) jdk_42_method_56_code (2 : Nat) (Option.some Jvm.ClassFile.FieldType.char)).before args0 about1 = true := code_word (m := ⟨11, 3⟩) (meth := k11m3) (c := k11c3) (by decide +kernel) rfl rfl rfl (by decide +kernel)
set_option maxRecDepth 65536 in
theorem w_c36 : (Jvm.Cond.code ({ cls := "java/lang/String", name := "isLatin1", desc := "()Z" } : Jvm.MethodName) jdk_42_method_154_code (1 : Nat) (Option.some Jvm.ClassFile.FieldType.boolean)).before args0 about1 = true := code_word (m := ⟨11, 7⟩) (meth := k11m7) (c := k11c7) (by decide +kernel) rfl rfl rfl (by decide +kernel)
set_option maxRecDepth 65536 in
theorem w_c37 : (Jvm.Cond.code ({ cls := "java/lang/StringLatin1", name := "charAt", desc := "([BI)C" } : Jvm.MethodName) jdk_43_method_2_code (2 : Nat) (Option.some Jvm.ClassFile.FieldType.char)).before args0 about1 = true := code_word (m := ⟨19, 1⟩) (meth := k19m1) (c := k19c1) (by decide +kernel) rfl rfl rfl (by decide +kernel)
set_option maxRecDepth 65536 in
theorem w_c38 : (Jvm.Cond.code ({ cls := "java/lang/String", name := "checkIndex", desc := "(II)V" } : Jvm.MethodName) jdk_42_method_155_code (2 : Nat) (Option.none : Option Jvm.ClassFile.FieldType)).before args0 about1 = true := code_word (m := ⟨11, 8⟩) (meth := k11m8) (c := k11c8) (by decide +kernel) rfl rfl rfl (by decide +kernel)
set_option maxRecDepth 65536 in
theorem w_c39 : (Jvm.Cond.code ({ cls := "jdk/internal/util/Preconditions", name := "checkIndex", desc := "(IILjava/util/function/BiFunction;)I" } : Jvm.MethodName) jdk_41_method_11_code (3 : Nat) (Option.some Jvm.ClassFile.FieldType.int)).before args0 about1 = true := code_word (m := ⟨20, 1⟩) (meth := k20m1) (c := k20c1) (by decide +kernel) rfl rfl rfl (by decide +kernel)
set_option maxRecDepth 65536 in
theorem w_c40 : (Jvm.Cond.code ({ cls := "com/example/xmax/xmax/queue/QueueStatusToStringPinLaw", name := "num", desc := "(Ljava/lang/String;IJ)I" } : Jvm.MethodName) method_5_code (9 : Nat) (Option.some Jvm.ClassFile.FieldType.int)).before args0 about1 = true := code_word (m := ⟨1, 4⟩) (meth := k1m4) (c := k1c4) (by decide +kernel) rfl rfl rfl (by decide +kernel)
set_option maxRecDepth 65536 in
theorem w_c41 : (Jvm.Cond.code ({ cls := "com/example/xmax/xmax/queue/QueueStatusToStringPinLaw", name := "ge", desc := "(JJ)I" } : Jvm.MethodName) method_6_code (4 : Nat) (Option.some Jvm.ClassFile.FieldType.int)).before args0 about1 = true := code_word (m := ⟨1, 5⟩) (meth := k1m5) (c := k1c5) (by decide +kernel) rfl rfl rfl (by decide +kernel)
set_option maxRecDepth 65536 in
theorem w_c42 : (Jvm.Cond.code ({ cls := "com/example/xmax/xmax/queue/QueueStatusToStringPinLaw", name := "dig", desc := "(Ljava/lang/String;IIJIJ)Z" } : Jvm.MethodName) method_7_code (11 : Nat) (Option.some Jvm.ClassFile.FieldType.boolean)).before args0 about1 = true := code_word (m := ⟨1, 6⟩) (meth := k1m6) (c := k1c6) (by decide +kernel) rfl rfl rfl (by decide +kernel)
def codes1 : List Jvm.Cond := [Jvm.Cond.code x code maxLocals ret, Jvm.Cond.code ({ cls := "com/example/xmax/xmax/queue/QueueStatus", name := "<init>", desc := "(JJJJ)V" } : Jvm.MethodName) prog_17_method_1_code (9 : Nat) (Option.none : Option Jvm.ClassFile.FieldType), Jvm.Cond.code ({ cls := "java/lang/Object", name := "<init>", desc := "()V" } : Jvm.MethodName) object_method_1_code (1 : Nat) (Option.none : Option Jvm.ClassFile.FieldType), Jvm.Cond.code ({ cls := "com/example/xmax/xmax/queue/QueueStatus", name := "toString", desc := "()Ljava/lang/String;" } : Jvm.MethodName) prog_17_method_6_code (1 : Nat) (Option.some (Jvm.ClassFile.FieldType.object "java/lang/String")), Jvm.Cond.code ({ cls := "java/lang/StringBuilder", name := "<init>", desc := "()V" } : Jvm.MethodName) jdk_67_method_1_code (1 : Nat) (Option.none : Option Jvm.ClassFile.FieldType), Jvm.Cond.code ({ cls := "java/lang/AbstractStringBuilder", name := "<init>", desc := "(I)V" } : Jvm.MethodName) jdk_68_method_2_code (2 : Nat) (Option.none : Option Jvm.ClassFile.FieldType), Jvm.Cond.code ({ cls := "java/lang/StringBuilder", name := "append", desc := "(Ljava/lang/String;)Ljava/lang/StringBuilder;" } : Jvm.MethodName) jdk_67_method_7_code (2 : Nat) (Option.some (Jvm.ClassFile.FieldType.object "java/lang/StringBuilder")), Jvm.Cond.code ({ cls := "java/lang/AbstractStringBuilder", name := "append", desc := "(Ljava/lang/String;)Ljava/lang/AbstractStringBuilder;" } : Jvm.MethodName) jdk_68_method_22_code (3 : Nat) (Option.some (Jvm.ClassFile.FieldType.object "java/lang/AbstractStringBuilder")), Jvm.Cond.code ({ cls := "java/lang/String", name := "length", desc := "()I" } : Jvm.MethodName) jdk_42_method_54_code (1 : Nat) (Option.some Jvm.ClassFile.FieldType.int), Jvm.Cond.code ({ cls := "java/lang/String", name := "coder", desc := "()B" } : Jvm.MethodName) jdk_42_method_152_code (1 : Nat) (Option.some Jvm.ClassFile.FieldType.byte), Jvm.Cond.code ({ cls := "java/lang/AbstractStringBuilder", name := "ensureCapacityInternal", desc := "(I)V" } : Jvm.MethodName) jdk_68_method_9_code (3 : Nat) (Option.none : Option Jvm.ClassFile.FieldType), Jvm.Cond.code ({ cls := "java/lang/AbstractStringBuilder", name := "putStringAt", desc := "(ILjava/lang/String;)V" } : Jvm.MethodName) jdk_68_method_73_code (3 : Nat) (Option.none : Option Jvm.ClassFile.FieldType), Jvm.Cond.code ({ cls := "java/lang/AbstractStringBuilder", name := "inflateIfNeededFor", desc := "(Ljava/lang/String;)V" } : Jvm.MethodName) jdk_68_method_71_code (2 : Nat) (Option.none : Option Jvm.ClassFile.FieldType), Jvm.Cond.code ({ cls := "java/lang/String", name := "getBytes", desc := "([BIB)V" } : Jvm.MethodName) jdk_42_method_147_code (4 : Nat) (Option.none : Option Jvm.ClassFile.FieldType), Jvm.Cond.code ({ cls := "java/lang/StringBuilder", name := "append", desc := "(J)Ljava/lang/StringBuilder;" } : Jvm.MethodName) jdk_67_method_16_code (3 : Nat) (Option.some (Jvm.ClassFile.FieldType.object "java/lang/StringBuilder")), Jvm.Cond.code ({ cls := "java/lang/AbstractStringBuilder", name := "append", desc := "(J)Ljava/lang/AbstractStringBuilder;" } : Jvm.MethodName) jdk_68_method_33_code (5 : Nat) (Option.some (Jvm.ClassFile.FieldType.object "java/lang/AbstractStringBuilder")), Jvm.Cond.code ({ cls := "java/lang/Long", name := "stringSize", desc := "(J)I" } : Jvm.MethodName) jdk_35_method_15_code (6 : Nat) (Option.some Jvm.ClassFile.FieldType.int), Jvm.Cond.code ({ cls := "java/lang/AbstractStringBuilder", name := "isLatin1", desc := "()Z" } : Jvm.MethodName) jdk_68_method_68_code (1 : Nat) (Option.some Jvm.ClassFile.FieldType.boolean), Jvm.Cond.code ({ cls := "java/lang/Long", name := "getChars", desc := "(JI[B)I" } : Jvm.MethodName) jdk_35_method_14_code (11 : Nat) (Option.some Jvm.ClassFile.FieldType.int), Jvm.Cond.code ({ cls := "java/lang/AbstractStringBuilder", name := "newCapacity", desc := "(I)I" } : Jvm.MethodName) jdk_68_method_10_code (6 : Nat) (Option.some Jvm.ClassFile.FieldType.int), Jvm.Cond.code ({ cls := "jdk/internal/util/ArraysSupport", name := "newLength", desc := "(III)I" } : Jvm.MethodName) jdk_48_method_27_code (4 : Nat) (Option.some Jvm.ClassFile.FieldType.int), Jvm.Cond.code ({ cls := "java/lang/Math", name := "max", desc := "(II)I" } : Jvm.MethodName) jdk_29_method_65_code (2 : Nat) (Option.some Jvm.ClassFile.FieldType.int), Jvm.Cond.code ({ cls := "java/util/Arrays", name := "copyOf", desc := "([BI)[B" } : Jvm.MethodName) jdk_65_method_121_code (3 : Nat) (Option.some (Jvm.ClassFile.FieldType.array Jvm.ClassFile.FieldType.byte)), Jvm.Cond.code ({ cls := "java/lang/Math", name := "min", desc := "(II)I" } : Jvm.MethodName) jdk_29_method_69_code (2 : Nat) (Option.some Jvm.ClassFile.FieldType.int), Jvm.Cond.code ({ cls := "java/lang/StringBuilder", name := "toString", desc := "()Ljava/lang/String;" } : Jvm.MethodName) jdk_67_method_42_code (1 : Nat) (Option.some (Jvm.ClassFile.FieldType.object "java/lang/String")), Jvm.Cond.code ({ cls := "java/lang/String", name := "<init>", desc := "(Ljava/lang/StringBuilder;)V" } : Jvm.MethodName) jdk_42_method_53_code (2 : Nat) (Option.none : Option Jvm.ClassFile.FieldType), Jvm.Cond.code ({ cls := "java/lang/String", name := "<init>", desc := "(Ljava/lang/AbstractStringBuilder;Ljava/lang/Void;)V" } : Jvm.MethodName) jdk_42_method_150_code (5 : Nat) (Option.none : Option Jvm.ClassFile.FieldType), Jvm.Cond.code ({ cls := "java/lang/AbstractStringBuilder", name := "getValue", desc := "()[B" } : Jvm.MethodName) jdk_68_method_64_code (1 : Nat) (Option.some (Jvm.ClassFile.FieldType.array Jvm.ClassFile.FieldType.byte)), Jvm.Cond.code ({ cls := "java/lang/StringBuilder", name := "length", desc := "()I" } : Jvm.MethodName) jdk_67_method_93_code (1 : Nat) (Option.some Jvm.ClassFile.FieldType.int), Jvm.Cond.code ({ cls := "java/lang/AbstractStringBuilder", name := "length", desc := "()I" } : Jvm.MethodName) jdk_68_method_6_code (1 : Nat) (Option.some Jvm.ClassFile.FieldType.int), Jvm.Cond.code ({ cls := "java/util/Arrays", name := "copyOfRange", desc := "([BII)[B" } : Jvm.MethodName) jdk_65_method_132_code (3 : Nat) (Option.some (Jvm.ClassFile.FieldType.array Jvm.ClassFile.FieldType.byte)), Jvm.Cond.code ({ cls := "java/util/Arrays", name := "copyOfRangeByte", desc := "([BII)[B" } : Jvm.MethodName) jdk_65_method_133_code (5 : Nat) (Option.some (Jvm.ClassFile.FieldType.array Jvm.ClassFile.FieldType.byte)), Jvm.Cond.code ({ cls := "java/util/Arrays", name := "checkLength", desc := "(II)V" } : Jvm.MethodName) jdk_65_method_131_code (2 : Nat) (Option.none : Option Jvm.ClassFile.FieldType), Jvm.Cond.code ({ cls := "com/example/xmax/xmax/queue/QueueStatusToStringPinLaw", name := "lab", desc := "(Ljava/lang/String;ILjava/lang/String;)I" } : Jvm.MethodName) method_3_code (4 : Nat) (Option.some Jvm.ClassFile.FieldType.int), Jvm.Cond.code ({ cls := "com/example/xmax/xmax/queue/QueueStatusToStringPinLaw", name := "ch", desc := "(Ljava/lang/String;ILjava/lang/String;I)Z" } : Jvm.MethodName) method_4_code (5 : Nat) (Option.some Jvm.ClassFile.FieldType.boolean), Jvm.Cond.code ({ cls := "java/lang/String", name := "charAt", desc := "(I)C" } : Jvm.MethodName) jdk_42_method_56_code (2 : Nat) (Option.some Jvm.ClassFile.FieldType.char), Jvm.Cond.code ({ cls := "java/lang/String", name := "isLatin1", desc := "()Z" } : Jvm.MethodName) jdk_42_method_154_code (1 : Nat) (Option.some Jvm.ClassFile.FieldType.boolean), Jvm.Cond.code ({ cls := "java/lang/StringLatin1", name := "charAt", desc := "([BI)C" } : Jvm.MethodName) jdk_43_method_2_code (2 : Nat) (Option.some Jvm.ClassFile.FieldType.char), Jvm.Cond.code ({ cls := "java/lang/String", name := "checkIndex", desc := "(II)V" } : Jvm.MethodName) jdk_42_method_155_code (2 : Nat) (Option.none : Option Jvm.ClassFile.FieldType), Jvm.Cond.code ({ cls := "jdk/internal/util/Preconditions", name := "checkIndex", desc := "(IILjava/util/function/BiFunction;)I" } : Jvm.MethodName) jdk_41_method_11_code (3 : Nat) (Option.some Jvm.ClassFile.FieldType.int), Jvm.Cond.code ({ cls := "com/example/xmax/xmax/queue/QueueStatusToStringPinLaw", name := "num", desc := "(Ljava/lang/String;IJ)I" } : Jvm.MethodName) method_5_code (9 : Nat) (Option.some Jvm.ClassFile.FieldType.int), Jvm.Cond.code ({ cls := "com/example/xmax/xmax/queue/QueueStatusToStringPinLaw", name := "ge", desc := "(JJ)I" } : Jvm.MethodName) method_6_code (4 : Nat) (Option.some Jvm.ClassFile.FieldType.int), Jvm.Cond.code ({ cls := "com/example/xmax/xmax/queue/QueueStatusToStringPinLaw", name := "dig", desc := "(Ljava/lang/String;IIJIJ)Z" } : Jvm.MethodName) method_7_code (11 : Nat) (Option.some Jvm.ClassFile.FieldType.boolean)]
set_option maxRecDepth 65536 in
theorem codes_eq : words1.filter isCode = codes1 := rfl
theorem w_codes : ∀ c ∈ words1.filter isCode, c.before args0 about1 = true := by
  rw [codes_eq]
  intro c hc
  simp only [codes1, List.mem_cons, List.not_mem_nil, or_false] at hc
  rcases hc with rfl | rfl | rfl | rfl | rfl | rfl | rfl | rfl | rfl | rfl | rfl | rfl | rfl | rfl | rfl | rfl | rfl | rfl | rfl | rfl | rfl | rfl | rfl | rfl | rfl | rfl | rfl | rfl | rfl | rfl | rfl | rfl | rfl | rfl | rfl | rfl | rfl | rfl | rfl | rfl | rfl | rfl | rfl
  · exact w_c0
  · exact w_c1
  · exact w_c2
  · exact w_c3
  · exact w_c4
  · exact w_c5
  · exact w_c6
  · exact w_c7
  · exact w_c8
  · exact w_c9
  · exact w_c10
  · exact w_c11
  · exact w_c12
  · exact w_c13
  · exact w_c14
  · exact w_c15
  · exact w_c16
  · exact w_c17
  · exact w_c18
  · exact w_c19
  · exact w_c20
  · exact w_c21
  · exact w_c22
  · exact w_c23
  · exact w_c24
  · exact w_c25
  · exact w_c26
  · exact w_c27
  · exact w_c28
  · exact w_c29
  · exact w_c30
  · exact w_c31
  · exact w_c32
  · exact w_c33
  · exact w_c34
  · exact w_c35
  · exact w_c36
  · exact w_c37
  · exact w_c38
  · exact w_c39
  · exact w_c40
  · exact w_c41
  · exact w_c42
set_option maxRecDepth 65536 in
theorem w_t1 : (words1.take 24).all (fun c => isCode c || c.before args0 about1) = true := by decide +kernel
set_option maxRecDepth 65536 in
theorem w_t2 : ((words1.drop 24).take 24).all (fun c => isCode c || c.before args0 about1) = true := by decide +kernel
set_option maxRecDepth 65536 in
theorem w_t3 : (((words1.drop 24).drop 24).take 24).all (fun c => isCode c || c.before args0 about1) = true := by decide +kernel
set_option maxRecDepth 65536 in
theorem w_t4 : ((((words1.drop 24).drop 24).drop 24).take 24).all (fun c => isCode c || c.before args0 about1) = true := by decide +kernel
set_option maxRecDepth 65536 in
theorem w_t5 : (((((words1.drop 24).drop 24).drop 24).drop 24).take 24).all (fun c => isCode c || c.before args0 about1) = true := by decide +kernel
set_option maxRecDepth 65536 in
theorem w_t6 : ((((((words1.drop 24).drop 24).drop 24).drop 24).drop 24).take 24).all (fun c => isCode c || c.before args0 about1) = true := by decide +kernel
set_option maxRecDepth 65536 in
theorem w_t7 : (((((((words1.drop 24).drop 24).drop 24).drop 24).drop 24).drop 24).take 24).all (fun c => isCode c || c.before args0 about1) = true := by decide +kernel
set_option maxRecDepth 65536 in
theorem w_t8 : ((((((((words1.drop 24).drop 24).drop 24).drop 24).drop 24).drop 24).drop 24).take 24).all (fun c => isCode c || c.before args0 about1) = true := by decide +kernel
set_option maxRecDepth 65536 in
theorem w_t9 : (((((((((words1.drop 24).drop 24).drop 24).drop 24).drop 24).drop 24).drop 24).drop 24).take 24).all (fun c => isCode c || c.before args0 about1) = true := by decide +kernel
set_option maxRecDepth 65536 in
theorem w_t10 : ((((((((((words1.drop 24).drop 24).drop 24).drop 24).drop 24).drop 24).drop 24).drop 24).drop 24).take 24).all (fun c => isCode c || c.before args0 about1) = true := by decide +kernel
set_option maxRecDepth 65536 in
theorem w_t11 : ((((((((((words1.drop 24).drop 24).drop 24).drop 24).drop 24).drop 24).drop 24).drop 24).drop 24).drop 24).all (fun c => isCode c || c.before args0 about1) = true := by decide +kernel
theorem w_tables : (allAtoms (Jvm.Cond.code x code maxLocals ret :: tables_1)).before args0 about1 = true := by
  rw [allAtoms_all]
  show words1.all (fun c => c.before args0 about1) = true
  refine all_split ?_ w_codes
  rw [← List.take_append_drop 24 words1, List.all_append, w_t1, ← List.take_append_drop 24 (words1.drop 24), List.all_append, w_t2, ← List.take_append_drop 24 ((words1.drop 24).drop 24), List.all_append, w_t3, ← List.take_append_drop 24 (((words1.drop 24).drop 24).drop 24), List.all_append, w_t4, ← List.take_append_drop 24 ((((words1.drop 24).drop 24).drop 24).drop 24), List.all_append, w_t5, ← List.take_append_drop 24 (((((words1.drop 24).drop 24).drop 24).drop 24).drop 24), List.all_append, w_t6, ← List.take_append_drop 24 ((((((words1.drop 24).drop 24).drop 24).drop 24).drop 24).drop 24), List.all_append, w_t7, ← List.take_append_drop 24 (((((((words1.drop 24).drop 24).drop 24).drop 24).drop 24).drop 24).drop 24), List.all_append, w_t8, ← List.take_append_drop 24 ((((((((words1.drop 24).drop 24).drop 24).drop 24).drop 24).drop 24).drop 24).drop 24), List.all_append, w_t9, ← List.take_append_drop 24 (((((((((words1.drop 24).drop 24).drop 24).drop 24).drop 24).drop 24).drop 24).drop 24).drop 24), List.all_append, w_t10, w_t11]
  rfl
set_option maxRecDepth 65536 in
theorem w_rest : rest_1_c.before args0 about1 = true := by decide +kernel
set_option maxRecDepth 65536 in
theorem w_case : (Jvm.Cond.and given_1 narrow_1).before args0 about1 = true := by decide +kernel
set_option maxRecDepth 65536 in
theorem w_consts : constsHeld consts_1 about1 := Jvm.Lit.constsHeldB_iff.mp (by decide +kernel)
theorem w_applies : (headSpec (Jvm.Cond.code x code maxLocals ret :: tables_1) room_1).applies x e0.platform about1 = true :=
  (Spec.applies_iff w_frames).mpr ⟨w_running, w_runnable, w_alone, w_named, w_hears, w_ripe, w_room, w_tables⟩
theorem atStart : AtStart classFile x code maxLocals ret World_1 tables_1 room_1 Calls_1 rest_1 Pre_1 launch0 p0 e0 about1 theMethod args0 below0 :=
  ⟨lists_1, trivial, launch0.admits_env _ _ _, launch0.least_env, fairChoices_fair.cas, fairChoices_fair.clock, w_frames, w_args, w_heap, w_applies, ⟨w_consts, trivial⟩, w_rest, w_case⟩
end start1
theorem witness_1 : WitnessClaimed_1 := ⟨start1.p0, start1.e0, start1.about1, start1.theMethod, start1.args0, start1.below0, start1.atStart⟩
end Jvm.Pilot.@@N@@
