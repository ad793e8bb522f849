import JvmDerived
import JvmDerived.Pilot.@@N@@Statement
import JvmDerived.Pilot.@@N@@Code
set_option linter.unusedVariables false
set_option linter.unusedSimpArgs false
namespace Jvm.RoadKit
open Sem ClassFile Op Lib Jvm.Stand Jvm.Free Jvm.LawKit
section New
variable {p : Program} {l : Launch} {e : Env} {R : Room} {s : State} {m : MethodId} {args : Array Value} {below : List Frame} {meth : Method} {c : Code} {T : State} {locs : List Loc} {cells slots : Nat}
theorem retI (X : Stand p l e R s m args below meth c T locs cells slots) (hx : p.tables.exec = Jvm.exec) {pc : Nat} {Ls : Array Slot} {z : Int32} {rest : List Value} (hret : meth.sig.returnType = some .int) (hd : decode c.code pc = .ok (.ireturn, 1)) {fs : List Frame}
    (hl : ∀ (f : JFrame) (acts : List Action), f.method = m → f.locked = none → f.entered = [] → (doReturn e (T.setTop f) acts (some (.int z))).1 = T.setFrames fs) : Steps p.tables e below (T.setTop (mkF m pc Ls (.int z :: rest))) (T.setFrames fs) := by
  have hm' : T.vm.method? m = some meth := X.method'
  have hn : narrow .int (.int z) = .int z := rfl
  show Steps p.tables e below (T.setTop { method := m, pc := pc, locals := Ls, stack := _ :: rest, locked := none }) _
  jvm_step X.here [X.here.top, hx, hd, hm', hret, hn]
  first | (intro acts; rw [hl _ acts rfl rfl rfl]) | rw [hl _ _ rfl rfl rfl]
  exact Steps.refl _
end New
end Jvm.RoadKit
namespace Jvm.Pilot.@@N@@
open Jvm Jvm.ClassFile Sem Op Lib Jvm.Free Jvm.Stand Jvm.LawKit Jvm.RoadKit Bundle Jvm.Pilot.@@N@@.Jvm.D
theorem d1_0 : decode prog_2_method_6_code 0 = .ok (.lload_n 0, 1) := by decide +kernel
theorem d1_1 : decode prog_2_method_6_code 1 = .ok (.lconst 0, 1) := by decide +kernel
theorem d1_2 : decode prog_2_method_6_code 2 = .ok (.lcmp, 1) := by decide +kernel
theorem d1_3 : decode prog_2_method_6_code 3 = .ok (.ifCond .ge 7, 3) := by decide +kernel
theorem d1_6 : decode prog_2_method_6_code 6 = .ok (.iconst 2, 1) := by decide +kernel
theorem d1_7 : decode prog_2_method_6_code 7 = .ok (.goto 4, 3) := by decide +kernel
theorem d1_10 : decode prog_2_method_6_code 10 = .ok (.iconst 1, 1) := by decide +kernel
theorem d1_11 : decode prog_2_method_6_code 11 = .ok (.istore_n 2, 1) := by decide +kernel
theorem d1_12 : decode prog_2_method_6_code 12 = .ok (.lload_n 0, 1) := by decide +kernel
theorem d1_13 : decode prog_2_method_6_code 13 = .ok (.ldc2_w 75, 3) := by decide +kernel
theorem d1_16 : decode prog_2_method_6_code 16 = .ok (.ldiv, 1) := by decide +kernel
theorem d1_17 : decode prog_2_method_6_code 17 = .ok (.lstore_n 3, 1) := by decide +kernel
theorem d1_18 : decode prog_2_method_6_code 18 = .ok (.lload_n 3, 1) := by decide +kernel
theorem d1_19 : decode prog_2_method_6_code 19 = .ok (.lconst 0, 1) := by decide +kernel
theorem d1_20 : decode prog_2_method_6_code 20 = .ok (.lcmp, 1) := by decide +kernel
theorem d1_21 : decode prog_2_method_6_code 21 = .ok (.ifCond .eq 15, 3) := by decide +kernel
theorem d1_24 : decode prog_2_method_6_code 24 = .ok (.iinc 2 1, 3) := by decide +kernel
theorem d1_27 : decode prog_2_method_6_code 27 = .ok (.lload_n 3, 1) := by decide +kernel
theorem d1_28 : decode prog_2_method_6_code 28 = .ok (.ldc2_w 75, 3) := by decide +kernel
theorem d1_31 : decode prog_2_method_6_code 31 = .ok (.ldiv, 1) := by decide +kernel
theorem d1_32 : decode prog_2_method_6_code 32 = .ok (.lstore_n 3, 1) := by decide +kernel
theorem d1_33 : decode prog_2_method_6_code 33 = .ok (.goto (-15), 3) := by decide +kernel
theorem d1_36 : decode prog_2_method_6_code 36 = .ok (.iload_n 2, 1) := by decide +kernel
theorem d1_37 : decode prog_2_method_6_code 37 = .ok (.ireturn, 1) := by decide +kernel
theorem pn_1 : plainName "com/example/fairmark/fairmark/Decimals" = true := by first | (simp [plainName, overriddenIn]; done) | decide +kernel
def own_cnt : Nat → Int32 → Int64 → Int32
  | 0, c, _ => c
  | k + 1, c, v => if v = (0 : Int64) then c else own_cnt k (c + (1 : Int32)) (v / (10 : Int64))
theorem own_abs (v : Int64) : v.toInt.natAbs < 10 ^ 19 := by
  have h := rng64 v
  omega
theorem own_d10 (v : Int64) : (v / (10 : Int64)).toInt.natAbs = v.toInt.natAbs / 10 := by
  have h := c_ldiv v 10 10 (by decide) (by decide)
  by_cases q : 0 ≤ v.toInt
  · have := h.1 q; omega
  · have := h.2 (by omega); omega
set_option maxRecDepth 65536 in
theorem own_loop {p : Program} {l : Launch} {e : Env} {R : Room} {s : State} {m : MethodId} {args : Array Value} {below : List Frame} {meth : Method} {c : Code} {T0 : State} {locs : List Loc} {cells slots : Nat} {Z : State} {a0 : Array Value} {q0 : Int64} (X0 : Stand p l e R s m args below meth c T0 locs cells slots) (hx : p.tables.exec = Jvm.exec) (hZ : Z.Warmed39 s.vm) (hw : ∀ d ∈ tables_1, d.before a0 Z = true) (hby : c.code = prog_2_method_6_code) (hown : s.vm.findClass "com/example/fairmark/fairmark/Decimals" = some m.cls) :
    ∀ (k : Nat) (c2 : Int32) (v3 : Int64), v3.toInt.natAbs < 10 ^ k → ∀ t, Steps p.tables e below (T0.setTop (mkF m 36 #[.val (.long q0), .second, .val (.int (own_cnt k c2 v3)), .val (.long (0 : Int64)), .second] [])) t → Steps p.tables e below (T0.setTop (mkF m 18 #[.val (.long q0), .second, .val (.int c2), .val (.long v3), .second] [])) t := by
  have hend : ∀ (c2 : Int32) (v3 : Int64), v3 = (0 : Int64) → ∀ t, Steps p.tables e below (T0.setTop (mkF m 36 #[.val (.long q0), .second, .val (.int c2), .val (.long v3), .second] [])) t → Steps p.tables e below (T0.setTop (mkF m 18 #[.val (.long q0), .second, .val (.int c2), .val (.long v3), .second] [])) t := by
    intro c2 v3 hz t k
    show Steps p.tables e below (T0.setTop (mkF m 18 #[.val (.long q0), .second, .val (.int c2), .val (.long v3), .second] [])) _
    refine XS.lloadN X0.here hx rfl (hb hby d1_18) rfl ?_
    show Steps p.tables e below (T0.setTop (mkF m 19 #[.val (.long q0), .second, .val (.int c2), .val (.long v3), .second] [(.long v3)])) _
    refine XS.lconst X0.here hx rfl (hb hby d1_19) ?_
    show Steps p.tables e below (T0.setTop (mkF m 20 #[.val (.long q0), .second, .val (.int c2), .val (.long v3), .second] [(.long (0 : Int64)), (.long v3)])) _
    refine XS.lcmp X0.here hx rfl (hb hby d1_20) rfl ?_
    show Steps p.tables e below (T0.setTop (mkF m 21 #[.val (.long q0), .second, .val (.int c2), .val (.long v3), .second] [(.int (lcmpW v3 (0 : Int64)))])) _
    refine XS.ifYes X0.here hx rfl (pc0 := 21) (pc' := 36) rfl (hb hby d1_21) rfl ((if0 _ _).trans (teq ((lw_eq _ _).mpr hz)).1) (by decide) (by decide) ?_
    exact k
  intro k
  induction k with
  | zero =>
    intro c2 v3 hv t k
    have hz : v3 = (0 : Int64) := by
      rw [← Int64.toInt_inj]
      have e0 : (0 : Int64).toInt = 0 := by decide
      omega
    refine hend c2 v3 hz t ?_
    rw [hz]
    exact k
  | succ n ih =>
    intro c2 v3 hv t k
    by_cases hz : v3 = (0 : Int64)
    · refine hend c2 v3 hz t ?_
      rw [own_cnt, if_pos hz] at k
      rw [hz]
      exact k
    · rw [own_cnt, if_neg hz] at k
      have k := ih (c2 + (1 : Int32)) (v3 / (10 : Int64)) (by rw [own_d10]; rw [Nat.pow_succ] at hv; omega) t k
      show Steps p.tables e below (T0.setTop (mkF m 18 #[.val (.long q0), .second, .val (.int c2), .val (.long v3), .second] [])) _
      refine XS.lloadN X0.here hx rfl (hb hby d1_18) rfl ?_
      show Steps p.tables e below (T0.setTop (mkF m 19 #[.val (.long q0), .second, .val (.int c2), .val (.long v3), .second] [(.long v3)])) _
      refine XS.lconst X0.here hx rfl (hb hby d1_19) ?_
      show Steps p.tables e below (T0.setTop (mkF m 20 #[.val (.long q0), .second, .val (.int c2), .val (.long v3), .second] [(.long (0 : Int64)), (.long v3)])) _
      refine XS.lcmp X0.here hx rfl (hb hby d1_20) rfl ?_
      show Steps p.tables e below (T0.setTop (mkF m 21 #[.val (.long q0), .second, .val (.int c2), .val (.long v3), .second] [(.int (lcmpW v3 (0 : Int64)))])) _
      refine XS.ifNo X0.here hx rfl (hb hby d1_21) rfl ((if0 _ _).trans (feq (fun q => hz ((lw_eq _ _).mp q))).1) ?_
      show Steps p.tables e below (T0.setTop (mkF m 24 #[.val (.long q0), .second, .val (.int c2), .val (.long v3), .second] [])) _
      refine XS.iinc X0.here hx rfl (hb hby d1_24) rfl (l' := #[.val (.long q0), .second, .val (.int (c2 + (1 : Int32))), .val (.long v3), .second]) rfl ?_
      show Steps p.tables e below (T0.setTop (mkF m 27 #[.val (.long q0), .second, .val (.int (c2 + (1 : Int32))), .val (.long v3), .second] [])) _
      refine XS.lloadN X0.here hx rfl (hb hby d1_27) rfl ?_
      show Steps p.tables e below (T0.setTop (mkF m 28 #[.val (.long q0), .second, .val (.int (c2 + (1 : Int32))), .val (.long v3), .second] [(.long v3)])) _
      refine X0.ldc2Long hx hown (mvT hZ (hw _ (List.mem_of_getElem? (i := 5) rfl))) (g := (mkF m 28 #[.val (.long q0), .second, .val (.int (c2 + (1 : Int32))), .val (.long v3), .second] [(.long v3)])) rfl (hb hby d1_28) _ ?_
      show Steps p.tables e below (T0.setTop (mkF m 31 #[.val (.long q0), .second, .val (.int (c2 + (1 : Int32))), .val (.long v3), .second] [(.long (10 : Int64)), (.long v3)])) _
      refine XS.ldiv X0.here hx rfl (hb hby d1_31) rfl (by decide) ?_
      show Steps p.tables e below (T0.setTop (mkF m 32 #[.val (.long q0), .second, .val (.int (c2 + (1 : Int32))), .val (.long v3), .second] [(.long (v3 / (10 : Int64)))])) _
      refine XS.lstoreN X0.here hx rfl (hb hby d1_32) rfl (l' := #[.val (.long q0), .second, .val (.int (c2 + (1 : Int32))), .val (.long (v3 / (10 : Int64))), .second]) rfl ?_
      show Steps p.tables e below (T0.setTop (mkF m 33 #[.val (.long q0), .second, .val (.int (c2 + (1 : Int32))), .val (.long (v3 / (10 : Int64))), .second] [])) _
      refine XS.goto X0.here hx rfl (pc0 := 33) (pc' := 18) rfl (hb hby d1_33) (by decide) (by decide) ?_
      exact k
theorem ef_1 (m : MethodId) (q0 : Int64) : entryFrame m #[(.long q0)] 5 = mkF m 0 #[.val (.long q0), .second, .unset, .unset, .unset] [] := by first | (simp [entryFrame, mkF, argsToLocals, Value.category]; done) | rfl
def own_f1 (q0 : Int64) : Int32 := (let v5 : Int32 := (if q0 < (0 : Int64) then (2 : Int32) else (1 : Int32)); (let v8 : Int64 := (q0 / (10 : Int64)); (own_cnt 19 v5 v8)))
def Q1 (Z : State) (q0 : Int64) (h0 : Heap) (n0 : Nat) (v : Option Value) (h : Heap) (L : List Loc) : Prop := v = some (.int (own_f1 q0)) ∧ Fr n0 L ∧ h = h0
set_option maxRecDepth 65536 in
set_option maxHeartbeats 40000000 in
theorem rm1 (l : Launch) (Z : State) (a0 : Array Value) (hw : ∀ d ∈ tables_1, d.before a0 Z = true) (ws : List Jvm.Cond) (q0 : Int64) (h0 : Heap) (n0 : Nat) (Z0 : n0 ≤ h0.size) :
    MetFree l (⟨"com/example/fairmark/fairmark/Decimals", "digitCount", "(J)I"⟩ : MethodName) (head1 (Jvm.Cond.code (⟨"com/example/fairmark/fairmark/Decimals", "digitCount", "(J)I"⟩ : MethodName) prog_2_method_6_code 5 (some .int) :: ws) ({ frames := 0, cells := 0, slots := 0, locals := 0 } : Room)) (fun a U => a = #[(.long q0)] ∧ Z.Warmed39 U.vm ∧ U.heap = h0) (fun _ _ _ _ _ => True) (fun _ U o U' => ∃ v L, o = .returned v ∧ Q1 Z q0 h0 n0 v U'.heap L ∧ FrameEnd U o U' L ({ frames := 0, cells := 0, slots := 0, locals := 0 } : Room).cells ({ frames := 0, cells := 0, slots := 0, locals := 0 } : Room).slots) := by
  refine MetFree.of_bodySF (plainFor_of_name pn_1) hisR ?_
  intro p e s m args below meth c s₁ Bd hml0 hP hK
  obtain ⟨rfl, hZ, hh⟩ := hP
  have hx := Bd.exec
  have hby := Bd.bytes
  have hml : c.maxLocals = 5 := hml0
  have hown : s.vm.findClass "com/example/fairmark/fairmark/Decimals" = some m.cls := findClass_of_methodNamed Bd.named
  have hnm := (name_of_methodNamed Bd.named Bd.method).1
  have X0 : Stand p l e ({ frames := 0, cells := 0, slots := 0, locals := 0 } : Room) s m #[(.long q0)] below meth c s₁ [] 0 0 := Stand.of_body Bd
  have e0 : s₁.heap = h0 := by rw [← hh, Bd.state]; rfl
  have N0 := Fr.nil n0
  obtain ⟨P, pre0, fin⟩ : ∃ P : State → Prop, (∀ t, Steps p.tables e below (s₁.setTop (mkF m 0 #[.val (.long q0), .second, .unset, .unset, .unset] [])) t → P t) ∧ (∀ t, P t → Steps p.tables e below (s₁.setTop (entryFrame m #[(.long q0)] 5)) t) := ⟨fun t => Steps p.tables e below (s₁.setTop (entryFrame m #[(.long q0)] 5)) t, fun t k => castTop (ef_1 m q0) k, fun t k => k⟩
  have K0 : Keep h0 h0 [] := Keep.refl _ _
  have pre1 : ∀ t, Steps p.tables e below (s₁.setTop (mkF m 3 #[.val (.long q0), .second, .unset, .unset, .unset] [(.int (lcmpW q0 (0 : Int64)))])) t → P t := fun t k => pre0 t (by
      show Steps p.tables e below (s₁.setTop (mkF m 0 #[.val (.long q0), .second, .unset, .unset, .unset] [])) _
      refine XS.lloadN X0.here hx rfl (hb hby d1_0) rfl ?_
      show Steps p.tables e below (s₁.setTop (mkF m 1 #[.val (.long q0), .second, .unset, .unset, .unset] [(.long q0)])) _
      refine XS.lconst X0.here hx rfl (hb hby d1_1) ?_
      show Steps p.tables e below (s₁.setTop (mkF m 2 #[.val (.long q0), .second, .unset, .unset, .unset] [(.long (0 : Int64)), (.long q0)])) _
      refine XS.lcmp X0.here hx rfl (hb hby d1_2) rfl ?_
      exact k)
  obtain ⟨T6, L6, v5, X6, e6, N6, hv5, pre6⟩ : ∃ (T' : State) (L' : List Loc) (v5 : Int32), Stand p l e ({ frames := 0, cells := 0, slots := 0, locals := 0 } : Room) s m #[(.long q0)] below meth c T' L' 0 0 ∧ T'.heap = h0 ∧ Fr n0 L' ∧ v5 = (if q0 < (0 : Int64) then (2 : Int32) else (1 : Int32)) ∧ (∀ t, Steps p.tables e below (T'.setTop (mkF m 11 #[.val (.long q0), .second, .unset, .unset, .unset] [(.int v5)])) t → P t) := by
    by_cases hc2 : q0 < (0 : Int64)
    · have pre3 : ∀ t, Steps p.tables e below (s₁.setTop (mkF m 11 #[.val (.long q0), .second, .unset, .unset, .unset] [(.int (2 : Int32))])) t → P t := fun t k => pre1 t (by
          show Steps p.tables e below (s₁.setTop (mkF m 3 #[.val (.long q0), .second, .unset, .unset, .unset] [(.int (lcmpW q0 (0 : Int64)))])) _
          refine XS.ifNo X0.here hx rfl (hb hby d1_3) rfl ((if0 _ _).trans (tlt ((lw_lt _ _).mpr hc2)).2.1) ?_
          show Steps p.tables e below (s₁.setTop (mkF m 6 #[.val (.long q0), .second, .unset, .unset, .unset] [])) _
          refine XS.iconst X0.here hx rfl (hb hby d1_6) ?_
          show Steps p.tables e below (s₁.setTop (mkF m 7 #[.val (.long q0), .second, .unset, .unset, .unset] [(.int (2 : Int32))])) _
          refine XS.goto X0.here hx rfl (pc0 := 7) (pc' := 11) rfl (hb hby d1_7) (by decide) (by decide) ?_
          exact k)
      exact ⟨_, _, (2 : Int32), X0, e0, N0, (by first | (rw [if_pos hc2]; done) | simp only [if_pos hc2] | simp [if_pos hc2]), pre3⟩
    · have pre4 : ∀ t, Steps p.tables e below (s₁.setTop (mkF m 11 #[.val (.long q0), .second, .unset, .unset, .unset] [(.int (1 : Int32))])) t → P t := fun t k => pre1 t (by
          show Steps p.tables e below (s₁.setTop (mkF m 3 #[.val (.long q0), .second, .unset, .unset, .unset] [(.int (lcmpW q0 (0 : Int64)))])) _
          refine XS.ifYes X0.here hx rfl (pc0 := 3) (pc' := 10) rfl (hb hby d1_3) rfl ((if0 _ _).trans (flt (fun q => hc2 ((lw_lt _ _).mp q))).2.1) (by decide) (by decide) ?_
          show Steps p.tables e below (s₁.setTop (mkF m 10 #[.val (.long q0), .second, .unset, .unset, .unset] [])) _
          refine XS.iconst X0.here hx rfl (hb hby d1_10) ?_
          exact k)
      exact ⟨_, _, (1 : Int32), X0, e0, N0, (by first | (rw [if_neg hc2]; done) | simp only [if_neg hc2] | simp [if_neg hc2]), pre4⟩
  have pre7 : ∀ t, Steps p.tables e below (T6.setTop (mkF m 18 #[.val (.long q0), .second, .val (.int v5), .val (.long (q0 / (10 : Int64))), .second] [])) t → P t := fun t k => pre6 t (by
      show Steps p.tables e below (T6.setTop (mkF m 11 #[.val (.long q0), .second, .unset, .unset, .unset] [(.int v5)])) _
      refine XS.istoreN X6.here hx rfl (hb hby d1_11) rfl (l' := #[.val (.long q0), .second, .val (.int v5), .unset, .unset]) rfl ?_
      show Steps p.tables e below (T6.setTop (mkF m 12 #[.val (.long q0), .second, .val (.int v5), .unset, .unset] [])) _
      refine XS.lloadN X6.here hx rfl (hb hby d1_12) rfl ?_
      show Steps p.tables e below (T6.setTop (mkF m 13 #[.val (.long q0), .second, .val (.int v5), .unset, .unset] [(.long q0)])) _
      refine X6.ldc2Long hx hown (mvT hZ (hw _ (List.mem_of_getElem? (i := 5) rfl))) (g := (mkF m 13 #[.val (.long q0), .second, .val (.int v5), .unset, .unset] [(.long q0)])) rfl (hb hby d1_13) _ ?_
      show Steps p.tables e below (T6.setTop (mkF m 16 #[.val (.long q0), .second, .val (.int v5), .unset, .unset] [(.long (10 : Int64)), (.long q0)])) _
      refine XS.ldiv X6.here hx rfl (hb hby d1_16) rfl (by decide) ?_
      show Steps p.tables e below (T6.setTop (mkF m 17 #[.val (.long q0), .second, .val (.int v5), .unset, .unset] [(.long (q0 / (10 : Int64)))])) _
      refine XS.lstoreN X6.here hx rfl (hb hby d1_17) rfl (l' := #[.val (.long q0), .second, .val (.int v5), .val (.long (q0 / (10 : Int64))), .second]) rfl ?_
      exact k)
  obtain ⟨v8, hv8⟩ : ∃ z : Int64, z = (q0 / (10 : Int64)) := ⟨_, rfl⟩
  have pre9 : ∀ t, Steps p.tables e below (T6.setTop (mkF m 18 #[.val (.long q0), .second, .val (.int v5), .val (.long v8), .second] [])) t → P t := fun t k => pre7 t (by subst hv8; exact k)
  have pre10 : ∀ t, Steps p.tables e below (T6.setTop (mkF m 36 #[.val (.long q0), .second, .val (.int (own_cnt 19 v5 v8)), .val (.long (0 : Int64)), .second] [])) t → P t := fun t k => pre9 t (own_loop X6 hx hZ hw hby hown 19 v5 v8 (own_abs _) t k)
  have pre11 : ∀ t, Steps p.tables e below (T6.setTop (mkF m 37 #[.val (.long q0), .second, .val (.int (own_cnt 19 v5 v8)), .val (.long (0 : Int64)), .second] [(.int (own_cnt 19 v5 v8))])) t → P t := fun t k => pre10 t (by
      show Steps p.tables e below (T6.setTop (mkF m 36 #[.val (.long q0), .second, .val (.int (own_cnt 19 v5 v8)), .val (.long (0 : Int64)), .second] [])) _
      refine XS.iloadN X6.here hx rfl (hb hby d1_36) rfl ?_
      exact k)
  obtain ⟨fs, hr, hrun, hended, hW, hsame⟩ := X6.leave (v := some (.int (own_cnt 19 v5 v8))) (fun h => by rw [Bd.returns] at h; cases h)
  refine ⟨_, _, fin _ (pre11 _ ?_), hrun, hended, _, _, rfl, ?_, ⟨_, rfl⟩, hW, hsame.mono (by decide) (by decide)⟩
  · show Steps p.tables e below (T6.setTop (mkF m 37 #[.val (.long q0), .second, .val (.int (own_cnt 19 v5 v8)), .val (.long (0 : Int64)), .second] [(.int (own_cnt 19 v5 v8))])) _
    exact retI X6 hx Bd.returns (hb hby d1_37) hr
  · show Q1 Z q0 h0 n0 _ T6.heap _
    rw [e6]
    exact ⟨(by subst hv5 hv8; first | rfl | simp only [own_f1]), N6, rfl⟩
theorem d2_0 : decode jdk_29_method_61_code 0 = .ok (.lload_n 0, 1) := by decide +kernel
theorem d2_1 : decode jdk_29_method_61_code 1 = .ok (.lconst 0, 1) := by decide +kernel
theorem d2_2 : decode jdk_29_method_61_code 2 = .ok (.lcmp, 1) := by decide +kernel
theorem d2_3 : decode jdk_29_method_61_code 3 = .ok (.ifCond .ge 8, 3) := by decide +kernel
theorem d2_6 : decode jdk_29_method_61_code 6 = .ok (.lload_n 0, 1) := by decide +kernel
theorem d2_7 : decode jdk_29_method_61_code 7 = .ok (.lneg, 1) := by decide +kernel
theorem d2_8 : decode jdk_29_method_61_code 8 = .ok (.goto 4, 3) := by decide +kernel
theorem d2_11 : decode jdk_29_method_61_code 11 = .ok (.lload_n 0, 1) := by decide +kernel
theorem d2_12 : decode jdk_29_method_61_code 12 = .ok (.lreturn, 1) := by decide +kernel
theorem ef_2 (m : MethodId) (q0 : Int64) : entryFrame m #[(.long q0)] 2 = mkF m 0 #[.val (.long q0), .second] [] := by first | (simp [entryFrame, mkF, argsToLocals, Value.category]; done) | rfl
def own_f2 (q0 : Int64) : Int64 := (if q0 < (0 : Int64) then (-q0) else q0)
def Q2 (Z : State) (q0 : Int64) (h0 : Heap) (n0 : Nat) (v : Option Value) (h : Heap) (L : List Loc) : Prop := v = some (.long (own_f2 q0)) ∧ Fr n0 L ∧ h = h0
set_option maxRecDepth 65536 in
set_option maxHeartbeats 40000000 in
theorem rm2 (l : Launch) (Z : State) (a0 : Array Value) (hw : ∀ d ∈ tables_1, d.before a0 Z = true) (ws : List Jvm.Cond) (q0 : Int64) (h0 : Heap) (n0 : Nat) (Z0 : n0 ≤ h0.size) :
    MetFree l (⟨"java/lang/Math", "abs", "(J)J"⟩ : MethodName) (head1 (Jvm.Cond.code (⟨"java/lang/Math", "abs", "(J)J"⟩ : MethodName) jdk_29_method_61_code 2 (some .long) :: ws) ({ frames := 0, cells := 0, slots := 0, locals := 0 } : Room)) (fun a U => a = #[(.long q0)] ∧ Z.Warmed39 U.vm ∧ U.heap = h0) (fun _ _ _ _ _ => True) (fun _ U o U' => ∃ v L, o = .returned v ∧ Q2 Z q0 h0 n0 v U'.heap L ∧ FrameEnd U o U' L ({ frames := 0, cells := 0, slots := 0, locals := 0 } : Room).cells ({ frames := 0, cells := 0, slots := 0, locals := 0 } : Room).slots) := by
  refine MetFree.of_bodySF (Jvm.Free.JP.mathPlain rfl (by decide +kernel)) hisR ?_
  intro p e s m args below meth c s₁ Bd hml0 hP hK
  obtain ⟨rfl, hZ, hh⟩ := hP
  have hx := Bd.exec
  have hby := Bd.bytes
  have hml : c.maxLocals = 2 := hml0
  have hown : s.vm.findClass "java/lang/Math" = some m.cls := findClass_of_methodNamed Bd.named
  have hnm := (name_of_methodNamed Bd.named Bd.method).1
  have X0 : Stand p l e ({ frames := 0, cells := 0, slots := 0, locals := 0 } : Room) s m #[(.long q0)] below meth c s₁ [] 0 0 := Stand.of_body Bd
  have e0 : s₁.heap = h0 := by rw [← hh, Bd.state]; rfl
  have N0 := Fr.nil n0
  obtain ⟨P, pre0, fin⟩ : ∃ P : State → Prop, (∀ t, Steps p.tables e below (s₁.setTop (mkF m 0 #[.val (.long q0), .second] [])) t → P t) ∧ (∀ t, P t → Steps p.tables e below (s₁.setTop (entryFrame m #[(.long q0)] 2)) t) := ⟨fun t => Steps p.tables e below (s₁.setTop (entryFrame m #[(.long q0)] 2)) t, fun t k => castTop (ef_2 m q0) k, fun t k => k⟩
  have K0 : Keep h0 h0 [] := Keep.refl _ _
  have pre1 : ∀ t, Steps p.tables e below (s₁.setTop (mkF m 3 #[.val (.long q0), .second] [(.int (lcmpW q0 (0 : Int64)))])) t → P t := fun t k => pre0 t (by
      show Steps p.tables e below (s₁.setTop (mkF m 0 #[.val (.long q0), .second] [])) _
      refine XS.lloadN X0.here hx rfl (hb hby d2_0) rfl ?_
      show Steps p.tables e below (s₁.setTop (mkF m 1 #[.val (.long q0), .second] [(.long q0)])) _
      refine XS.lconst X0.here hx rfl (hb hby d2_1) ?_
      show Steps p.tables e below (s₁.setTop (mkF m 2 #[.val (.long q0), .second] [(.long (0 : Int64)), (.long q0)])) _
      refine XS.lcmp X0.here hx rfl (hb hby d2_2) rfl ?_
      exact k)
  obtain ⟨T6, L6, v5, X6, e6, N6, hv5, pre6⟩ : ∃ (T' : State) (L' : List Loc) (v5 : Int64), Stand p l e ({ frames := 0, cells := 0, slots := 0, locals := 0 } : Room) s m #[(.long q0)] below meth c T' L' 0 0 ∧ T'.heap = h0 ∧ Fr n0 L' ∧ v5 = (if q0 < (0 : Int64) then (-q0) else q0) ∧ (∀ t, Steps p.tables e below (T'.setTop (mkF m 12 #[.val (.long q0), .second] [(.long v5)])) t → P t) := by
    by_cases hc2 : q0 < (0 : Int64)
    · have pre3 : ∀ t, Steps p.tables e below (s₁.setTop (mkF m 12 #[.val (.long q0), .second] [(.long (-q0))])) t → P t := fun t k => pre1 t (by
          show Steps p.tables e below (s₁.setTop (mkF m 3 #[.val (.long q0), .second] [(.int (lcmpW q0 (0 : Int64)))])) _
          refine XS.ifNo X0.here hx rfl (hb hby d2_3) rfl ((if0 _ _).trans (tlt ((lw_lt _ _).mpr hc2)).2.1) ?_
          show Steps p.tables e below (s₁.setTop (mkF m 6 #[.val (.long q0), .second] [])) _
          refine XS.lloadN X0.here hx rfl (hb hby d2_6) rfl ?_
          show Steps p.tables e below (s₁.setTop (mkF m 7 #[.val (.long q0), .second] [(.long q0)])) _
          refine XS.lneg X0.here hx rfl (hb hby d2_7) rfl ?_
          show Steps p.tables e below (s₁.setTop (mkF m 8 #[.val (.long q0), .second] [(.long (-q0))])) _
          refine XS.goto X0.here hx rfl (pc0 := 8) (pc' := 12) rfl (hb hby d2_8) (by decide) (by decide) ?_
          exact k)
      exact ⟨_, _, (-q0), X0, e0, N0, (by first | (rw [if_pos hc2]; done) | simp only [if_pos hc2] | simp [if_pos hc2]), pre3⟩
    · have pre4 : ∀ t, Steps p.tables e below (s₁.setTop (mkF m 12 #[.val (.long q0), .second] [(.long q0)])) t → P t := fun t k => pre1 t (by
          show Steps p.tables e below (s₁.setTop (mkF m 3 #[.val (.long q0), .second] [(.int (lcmpW q0 (0 : Int64)))])) _
          refine XS.ifYes X0.here hx rfl (pc0 := 3) (pc' := 11) rfl (hb hby d2_3) rfl ((if0 _ _).trans (flt (fun q => hc2 ((lw_lt _ _).mp q))).2.1) (by decide) (by decide) ?_
          show Steps p.tables e below (s₁.setTop (mkF m 11 #[.val (.long q0), .second] [])) _
          refine XS.lloadN X0.here hx rfl (hb hby d2_11) rfl ?_
          exact k)
      exact ⟨_, _, q0, X0, e0, N0, (by first | (rw [if_neg hc2]; done) | simp only [if_neg hc2] | simp [if_neg hc2]), pre4⟩
  obtain ⟨fs, hr, hrun, hended, hW, hsame⟩ := X6.leave (v := some (.long v5)) (fun h => by rw [Bd.returns] at h; cases h)
  refine ⟨_, _, fin _ (pre6 _ ?_), hrun, hended, _, _, rfl, ?_, ⟨_, rfl⟩, hW, hsame.mono (by decide) (by decide)⟩
  · show Steps p.tables e below (T6.setTop (mkF m 12 #[.val (.long q0), .second] [(.long v5)])) _
    jvm_step X6.here [X6.here.top, hx, (hb hby d2_12), X6.method', Bd.returns, narrow]
    first | (intro acts; rw [hr _ acts rfl rfl rfl]) | rw [hr _ _ rfl rfl rfl]
    exact Steps.refl _
  · show Q2 Z q0 h0 n0 _ T6.heap _
    rw [e6]
    exact ⟨(by subst hv5; first | rfl | simp only [own_f2]), N6, rfl⟩
theorem d3_0 : decode method_2_code 0 = .ok (.iconst 1, 1) := by decide +kernel
theorem d3_1 : decode method_2_code 1 = .ok (.lload_n 0, 1) := by decide +kernel
theorem d3_2 : decode method_2_code 2 = .ok (.ldc2_w 7, 3) := by decide +kernel
theorem d3_5 : decode method_2_code 5 = .ok (.lcmp, 1) := by decide +kernel
theorem d3_6 : decode method_2_code 6 = .ok (.ifCond .lt 7, 3) := by decide +kernel
theorem d3_9 : decode method_2_code 9 = .ok (.iconst 1, 1) := by decide +kernel
theorem d3_10 : decode method_2_code 10 = .ok (.goto 4, 3) := by decide +kernel
theorem d3_13 : decode method_2_code 13 = .ok (.iconst 0, 1) := by decide +kernel
theorem d3_14 : decode method_2_code 14 = .ok (.iadd, 1) := by decide +kernel
theorem d3_15 : decode method_2_code 15 = .ok (.lload_n 0, 1) := by decide +kernel
theorem d3_16 : decode method_2_code 16 = .ok (.ldc2_w 9, 3) := by decide +kernel
theorem d3_19 : decode method_2_code 19 = .ok (.lcmp, 1) := by decide +kernel
theorem d3_20 : decode method_2_code 20 = .ok (.ifCond .lt 7, 3) := by decide +kernel
theorem d3_23 : decode method_2_code 23 = .ok (.iconst 1, 1) := by decide +kernel
theorem d3_24 : decode method_2_code 24 = .ok (.goto 4, 3) := by decide +kernel
theorem d3_27 : decode method_2_code 27 = .ok (.iconst 0, 1) := by decide +kernel
theorem d3_28 : decode method_2_code 28 = .ok (.iadd, 1) := by decide +kernel
theorem d3_29 : decode method_2_code 29 = .ok (.lload_n 0, 1) := by decide +kernel
theorem d3_30 : decode method_2_code 30 = .ok (.ldc2_w 11, 3) := by decide +kernel
theorem d3_33 : decode method_2_code 33 = .ok (.lcmp, 1) := by decide +kernel
theorem d3_34 : decode method_2_code 34 = .ok (.ifCond .lt 7, 3) := by decide +kernel
theorem d3_37 : decode method_2_code 37 = .ok (.iconst 1, 1) := by decide +kernel
theorem d3_38 : decode method_2_code 38 = .ok (.goto 4, 3) := by decide +kernel
theorem d3_41 : decode method_2_code 41 = .ok (.iconst 0, 1) := by decide +kernel
theorem d3_42 : decode method_2_code 42 = .ok (.iadd, 1) := by decide +kernel
theorem d3_43 : decode method_2_code 43 = .ok (.lload_n 0, 1) := by decide +kernel
theorem d3_44 : decode method_2_code 44 = .ok (.ldc2_w 13, 3) := by decide +kernel
theorem d3_47 : decode method_2_code 47 = .ok (.lcmp, 1) := by decide +kernel
theorem d3_48 : decode method_2_code 48 = .ok (.ifCond .lt 7, 3) := by decide +kernel
theorem d3_51 : decode method_2_code 51 = .ok (.iconst 1, 1) := by decide +kernel
theorem d3_52 : decode method_2_code 52 = .ok (.goto 4, 3) := by decide +kernel
theorem d3_55 : decode method_2_code 55 = .ok (.iconst 0, 1) := by decide +kernel
theorem d3_56 : decode method_2_code 56 = .ok (.iadd, 1) := by decide +kernel
theorem d3_57 : decode method_2_code 57 = .ok (.lload_n 0, 1) := by decide +kernel
theorem d3_58 : decode method_2_code 58 = .ok (.ldc2_w 15, 3) := by decide +kernel
theorem d3_61 : decode method_2_code 61 = .ok (.lcmp, 1) := by decide +kernel
theorem d3_62 : decode method_2_code 62 = .ok (.ifCond .lt 7, 3) := by decide +kernel
theorem d3_65 : decode method_2_code 65 = .ok (.iconst 1, 1) := by decide +kernel
theorem d3_66 : decode method_2_code 66 = .ok (.goto 4, 3) := by decide +kernel
theorem d3_69 : decode method_2_code 69 = .ok (.iconst 0, 1) := by decide +kernel
theorem d3_70 : decode method_2_code 70 = .ok (.iadd, 1) := by decide +kernel
theorem d3_71 : decode method_2_code 71 = .ok (.lload_n 0, 1) := by decide +kernel
theorem d3_72 : decode method_2_code 72 = .ok (.ldc2_w 17, 3) := by decide +kernel
theorem d3_75 : decode method_2_code 75 = .ok (.lcmp, 1) := by decide +kernel
theorem d3_76 : decode method_2_code 76 = .ok (.ifCond .lt 7, 3) := by decide +kernel
theorem d3_79 : decode method_2_code 79 = .ok (.iconst 1, 1) := by decide +kernel
theorem d3_80 : decode method_2_code 80 = .ok (.goto 4, 3) := by decide +kernel
theorem d3_83 : decode method_2_code 83 = .ok (.iconst 0, 1) := by decide +kernel
theorem d3_84 : decode method_2_code 84 = .ok (.iadd, 1) := by decide +kernel
theorem d3_85 : decode method_2_code 85 = .ok (.lload_n 0, 1) := by decide +kernel
theorem d3_86 : decode method_2_code 86 = .ok (.ldc2_w 19, 3) := by decide +kernel
theorem d3_89 : decode method_2_code 89 = .ok (.lcmp, 1) := by decide +kernel
theorem d3_90 : decode method_2_code 90 = .ok (.ifCond .lt 7, 3) := by decide +kernel
theorem d3_93 : decode method_2_code 93 = .ok (.iconst 1, 1) := by decide +kernel
theorem d3_94 : decode method_2_code 94 = .ok (.goto 4, 3) := by decide +kernel
theorem d3_97 : decode method_2_code 97 = .ok (.iconst 0, 1) := by decide +kernel
theorem d3_98 : decode method_2_code 98 = .ok (.iadd, 1) := by decide +kernel
theorem d3_99 : decode method_2_code 99 = .ok (.lload_n 0, 1) := by decide +kernel
theorem d3_100 : decode method_2_code 100 = .ok (.ldc2_w 21, 3) := by decide +kernel
theorem d3_103 : decode method_2_code 103 = .ok (.lcmp, 1) := by decide +kernel
theorem d3_104 : decode method_2_code 104 = .ok (.ifCond .lt 7, 3) := by decide +kernel
theorem d3_107 : decode method_2_code 107 = .ok (.iconst 1, 1) := by decide +kernel
theorem d3_108 : decode method_2_code 108 = .ok (.goto 4, 3) := by decide +kernel
theorem d3_111 : decode method_2_code 111 = .ok (.iconst 0, 1) := by decide +kernel
theorem d3_112 : decode method_2_code 112 = .ok (.iadd, 1) := by decide +kernel
theorem d3_113 : decode method_2_code 113 = .ok (.lload_n 0, 1) := by decide +kernel
theorem d3_114 : decode method_2_code 114 = .ok (.ldc2_w 23, 3) := by decide +kernel
theorem d3_117 : decode method_2_code 117 = .ok (.lcmp, 1) := by decide +kernel
theorem d3_118 : decode method_2_code 118 = .ok (.ifCond .lt 7, 3) := by decide +kernel
theorem d3_121 : decode method_2_code 121 = .ok (.iconst 1, 1) := by decide +kernel
theorem d3_122 : decode method_2_code 122 = .ok (.goto 4, 3) := by decide +kernel
theorem d3_125 : decode method_2_code 125 = .ok (.iconst 0, 1) := by decide +kernel
theorem d3_126 : decode method_2_code 126 = .ok (.iadd, 1) := by decide +kernel
theorem d3_127 : decode method_2_code 127 = .ok (.lload_n 0, 1) := by decide +kernel
theorem d3_128 : decode method_2_code 128 = .ok (.ldc2_w 25, 3) := by decide +kernel
theorem d3_131 : decode method_2_code 131 = .ok (.lcmp, 1) := by decide +kernel
theorem d3_132 : decode method_2_code 132 = .ok (.ifCond .lt 7, 3) := by decide +kernel
theorem d3_135 : decode method_2_code 135 = .ok (.iconst 1, 1) := by decide +kernel
theorem d3_136 : decode method_2_code 136 = .ok (.goto 4, 3) := by decide +kernel
theorem d3_139 : decode method_2_code 139 = .ok (.iconst 0, 1) := by decide +kernel
theorem d3_140 : decode method_2_code 140 = .ok (.iadd, 1) := by decide +kernel
theorem d3_141 : decode method_2_code 141 = .ok (.lload_n 0, 1) := by decide +kernel
theorem d3_142 : decode method_2_code 142 = .ok (.ldc2_w 27, 3) := by decide +kernel
theorem d3_145 : decode method_2_code 145 = .ok (.lcmp, 1) := by decide +kernel
theorem d3_146 : decode method_2_code 146 = .ok (.ifCond .lt 7, 3) := by decide +kernel
theorem d3_149 : decode method_2_code 149 = .ok (.iconst 1, 1) := by decide +kernel
theorem d3_150 : decode method_2_code 150 = .ok (.goto 4, 3) := by decide +kernel
theorem d3_153 : decode method_2_code 153 = .ok (.iconst 0, 1) := by decide +kernel
theorem d3_154 : decode method_2_code 154 = .ok (.iadd, 1) := by decide +kernel
theorem d3_155 : decode method_2_code 155 = .ok (.lload_n 0, 1) := by decide +kernel
theorem d3_156 : decode method_2_code 156 = .ok (.ldc2_w 29, 3) := by decide +kernel
theorem d3_159 : decode method_2_code 159 = .ok (.lcmp, 1) := by decide +kernel
theorem d3_160 : decode method_2_code 160 = .ok (.ifCond .lt 7, 3) := by decide +kernel
theorem d3_163 : decode method_2_code 163 = .ok (.iconst 1, 1) := by decide +kernel
theorem d3_164 : decode method_2_code 164 = .ok (.goto 4, 3) := by decide +kernel
theorem d3_167 : decode method_2_code 167 = .ok (.iconst 0, 1) := by decide +kernel
theorem d3_168 : decode method_2_code 168 = .ok (.iadd, 1) := by decide +kernel
theorem d3_169 : decode method_2_code 169 = .ok (.lload_n 0, 1) := by decide +kernel
theorem d3_170 : decode method_2_code 170 = .ok (.ldc2_w 31, 3) := by decide +kernel
theorem d3_173 : decode method_2_code 173 = .ok (.lcmp, 1) := by decide +kernel
theorem d3_174 : decode method_2_code 174 = .ok (.ifCond .lt 7, 3) := by decide +kernel
theorem d3_177 : decode method_2_code 177 = .ok (.iconst 1, 1) := by decide +kernel
theorem d3_178 : decode method_2_code 178 = .ok (.goto 4, 3) := by decide +kernel
theorem d3_181 : decode method_2_code 181 = .ok (.iconst 0, 1) := by decide +kernel
theorem d3_182 : decode method_2_code 182 = .ok (.iadd, 1) := by decide +kernel
theorem d3_183 : decode method_2_code 183 = .ok (.lload_n 0, 1) := by decide +kernel
theorem d3_184 : decode method_2_code 184 = .ok (.ldc2_w 33, 3) := by decide +kernel
theorem d3_187 : decode method_2_code 187 = .ok (.lcmp, 1) := by decide +kernel
theorem d3_188 : decode method_2_code 188 = .ok (.ifCond .lt 7, 3) := by decide +kernel
theorem d3_191 : decode method_2_code 191 = .ok (.iconst 1, 1) := by decide +kernel
theorem d3_192 : decode method_2_code 192 = .ok (.goto 4, 3) := by decide +kernel
theorem d3_195 : decode method_2_code 195 = .ok (.iconst 0, 1) := by decide +kernel
theorem d3_196 : decode method_2_code 196 = .ok (.iadd, 1) := by decide +kernel
theorem d3_197 : decode method_2_code 197 = .ok (.lload_n 0, 1) := by decide +kernel
theorem d3_198 : decode method_2_code 198 = .ok (.ldc2_w 35, 3) := by decide +kernel
theorem d3_201 : decode method_2_code 201 = .ok (.lcmp, 1) := by decide +kernel
theorem d3_202 : decode method_2_code 202 = .ok (.ifCond .lt 7, 3) := by decide +kernel
theorem d3_205 : decode method_2_code 205 = .ok (.iconst 1, 1) := by decide +kernel
theorem d3_206 : decode method_2_code 206 = .ok (.goto 4, 3) := by decide +kernel
theorem d3_209 : decode method_2_code 209 = .ok (.iconst 0, 1) := by decide +kernel
theorem d3_210 : decode method_2_code 210 = .ok (.iadd, 1) := by decide +kernel
theorem d3_211 : decode method_2_code 211 = .ok (.lload_n 0, 1) := by decide +kernel
theorem d3_212 : decode method_2_code 212 = .ok (.ldc2_w 37, 3) := by decide +kernel
theorem d3_215 : decode method_2_code 215 = .ok (.lcmp, 1) := by decide +kernel
theorem d3_216 : decode method_2_code 216 = .ok (.ifCond .lt 7, 3) := by decide +kernel
theorem d3_219 : decode method_2_code 219 = .ok (.iconst 1, 1) := by decide +kernel
theorem d3_220 : decode method_2_code 220 = .ok (.goto 4, 3) := by decide +kernel
theorem d3_223 : decode method_2_code 223 = .ok (.iconst 0, 1) := by decide +kernel
theorem d3_224 : decode method_2_code 224 = .ok (.iadd, 1) := by decide +kernel
theorem d3_225 : decode method_2_code 225 = .ok (.lload_n 0, 1) := by decide +kernel
theorem d3_226 : decode method_2_code 226 = .ok (.ldc2_w 39, 3) := by decide +kernel
theorem d3_229 : decode method_2_code 229 = .ok (.lcmp, 1) := by decide +kernel
theorem d3_230 : decode method_2_code 230 = .ok (.ifCond .lt 7, 3) := by decide +kernel
theorem d3_233 : decode method_2_code 233 = .ok (.iconst 1, 1) := by decide +kernel
theorem d3_234 : decode method_2_code 234 = .ok (.goto 4, 3) := by decide +kernel
theorem d3_237 : decode method_2_code 237 = .ok (.iconst 0, 1) := by decide +kernel
theorem d3_238 : decode method_2_code 238 = .ok (.iadd, 1) := by decide +kernel
theorem d3_239 : decode method_2_code 239 = .ok (.lload_n 0, 1) := by decide +kernel
theorem d3_240 : decode method_2_code 240 = .ok (.ldc2_w 41, 3) := by decide +kernel
theorem d3_243 : decode method_2_code 243 = .ok (.lcmp, 1) := by decide +kernel
theorem d3_244 : decode method_2_code 244 = .ok (.ifCond .lt 7, 3) := by decide +kernel
theorem d3_247 : decode method_2_code 247 = .ok (.iconst 1, 1) := by decide +kernel
theorem d3_248 : decode method_2_code 248 = .ok (.goto 4, 3) := by decide +kernel
theorem d3_251 : decode method_2_code 251 = .ok (.iconst 0, 1) := by decide +kernel
theorem d3_252 : decode method_2_code 252 = .ok (.iadd, 1) := by decide +kernel
theorem d3_253 : decode method_2_code 253 = .ok (.ireturn, 1) := by decide +kernel
theorem pn_3 : plainName "com/example/fairmark/fairmark/DecimalsDigitCountPinLaw" = true := by first | (simp [plainName, overriddenIn]; done) | decide +kernel
theorem ef_3 (m : MethodId) (q0 : Int64) : entryFrame m #[(.long q0)] 2 = mkF m 0 #[.val (.long q0), .second] [] := by first | (simp [entryFrame, mkF, argsToLocals, Value.category]; done) | rfl
def own_f3 (q0 : Int64) : Int32 := (let v5 : Int32 := (if q0 < (10 : Int64) then (0 : Int32) else (1 : Int32)); (let v11 : Int32 := (if q0 < (100 : Int64) then (0 : Int32) else (1 : Int32)); (let v17 : Int32 := (if q0 < (1000 : Int64) then (0 : Int32) else (1 : Int32)); (let v23 : Int32 := (if q0 < (10000 : Int64) then (0 : Int32) else (1 : Int32)); (let v29 : Int32 := (if q0 < (100000 : Int64) then (0 : Int32) else (1 : Int32)); (let v35 : Int32 := (if q0 < (1000000 : Int64) then (0 : Int32) else (1 : Int32)); (let v41 : Int32 := (if q0 < (10000000 : Int64) then (0 : Int32) else (1 : Int32)); (let v47 : Int32 := (if q0 < (100000000 : Int64) then (0 : Int32) else (1 : Int32)); (let v53 : Int32 := (if q0 < (1000000000 : Int64) then (0 : Int32) else (1 : Int32)); (let v59 : Int32 := (if q0 < (10000000000 : Int64) then (0 : Int32) else (1 : Int32)); (let v65 : Int32 := (if q0 < (100000000000 : Int64) then (0 : Int32) else (1 : Int32)); (let v71 : Int32 := (if q0 < (1000000000000 : Int64) then (0 : Int32) else (1 : Int32)); (let v77 : Int32 := (if q0 < (10000000000000 : Int64) then (0 : Int32) else (1 : Int32)); (let v83 : Int32 := (if q0 < (100000000000000 : Int64) then (0 : Int32) else (1 : Int32)); (let v89 : Int32 := (if q0 < (1000000000000000 : Int64) then (0 : Int32) else (1 : Int32)); (let v95 : Int32 := (if q0 < (10000000000000000 : Int64) then (0 : Int32) else (1 : Int32)); (let v101 : Int32 := (if q0 < (100000000000000000 : Int64) then (0 : Int32) else (1 : Int32)); (let v107 : Int32 := (if q0 < (1000000000000000000 : Int64) then (0 : Int32) else (1 : Int32)); (((((((((((((((((((1 : Int32) + v5) + v11) + v17) + v23) + v29) + v35) + v41) + v47) + v53) + v59) + v65) + v71) + v77) + v83) + v89) + v95) + v101) + v107)))))))))))))))))))
def Q3 (Z : State) (q0 : Int64) (h0 : Heap) (n0 : Nat) (v : Option Value) (h : Heap) (L : List Loc) : Prop := v = some (.int (own_f3 q0)) ∧ Fr n0 L ∧ h = h0
set_option maxRecDepth 65536 in
set_option maxHeartbeats 40000000 in
theorem rm3 (l : Launch) (Z : State) (a0 : Array Value) (hw : ∀ d ∈ tables_1, d.before a0 Z = true) (ws : List Jvm.Cond) (q0 : Int64) (h0 : Heap) (n0 : Nat) (Z0 : n0 ≤ h0.size) :
    MetFree l (⟨"com/example/fairmark/fairmark/DecimalsDigitCountPinLaw", "mag", "(J)I"⟩ : MethodName) (head1 (Jvm.Cond.code (⟨"com/example/fairmark/fairmark/DecimalsDigitCountPinLaw", "mag", "(J)I"⟩ : MethodName) method_2_code 2 (some .int) :: ws) ({ frames := 0, cells := 0, slots := 0, locals := 0 } : Room)) (fun a U => a = #[(.long q0)] ∧ Z.Warmed39 U.vm ∧ U.heap = h0) (fun _ _ _ _ _ => True) (fun _ U o U' => ∃ v L, o = .returned v ∧ Q3 Z q0 h0 n0 v U'.heap L ∧ FrameEnd U o U' L ({ frames := 0, cells := 0, slots := 0, locals := 0 } : Room).cells ({ frames := 0, cells := 0, slots := 0, locals := 0 } : Room).slots) := by
  refine MetFree.of_bodySF (plainFor_of_name pn_3) hisR ?_
  intro p e s m args below meth c s₁ Bd hml0 hP hK
  obtain ⟨rfl, hZ, hh⟩ := hP
  have hx := Bd.exec
  have hby := Bd.bytes
  have hml : c.maxLocals = 2 := hml0
  have hown : s.vm.findClass "com/example/fairmark/fairmark/DecimalsDigitCountPinLaw" = some m.cls := findClass_of_methodNamed Bd.named
  have hnm := (name_of_methodNamed Bd.named Bd.method).1
  have X0 : Stand p l e ({ frames := 0, cells := 0, slots := 0, locals := 0 } : Room) s m #[(.long q0)] below meth c s₁ [] 0 0 := Stand.of_body Bd
  have e0 : s₁.heap = h0 := by rw [← hh, Bd.state]; rfl
  have N0 := Fr.nil n0
  obtain ⟨P, pre0, fin⟩ : ∃ P : State → Prop, (∀ t, Steps p.tables e below (s₁.setTop (mkF m 0 #[.val (.long q0), .second] [])) t → P t) ∧ (∀ t, P t → Steps p.tables e below (s₁.setTop (entryFrame m #[(.long q0)] 2)) t) := ⟨fun t => Steps p.tables e below (s₁.setTop (entryFrame m #[(.long q0)] 2)) t, fun t k => castTop (ef_3 m q0) k, fun t k => k⟩
  have K0 : Keep h0 h0 [] := Keep.refl _ _
  have pre1 : ∀ t, Steps p.tables e below (s₁.setTop (mkF m 6 #[.val (.long q0), .second] [(.int (lcmpW q0 (10 : Int64))), (.int (1 : Int32))])) t → P t := fun t k => pre0 t (by
      show Steps p.tables e below (s₁.setTop (mkF m 0 #[.val (.long q0), .second] [])) _
      refine XS.iconst X0.here hx rfl (hb hby d3_0) ?_
      show Steps p.tables e below (s₁.setTop (mkF m 1 #[.val (.long q0), .second] [(.int (1 : Int32))])) _
      refine XS.lloadN X0.here hx rfl (hb hby d3_1) rfl ?_
      show Steps p.tables e below (s₁.setTop (mkF m 2 #[.val (.long q0), .second] [(.long q0), (.int (1 : Int32))])) _
      refine X0.ldc2Long hx hown (mvT hZ (hw _ (List.mem_of_getElem? (i := 0) rfl))) (g := (mkF m 2 #[.val (.long q0), .second] [(.long q0), (.int (1 : Int32))])) rfl (hb hby d3_2) _ ?_
      show Steps p.tables e below (s₁.setTop (mkF m 5 #[.val (.long q0), .second] [(.long (10 : Int64)), (.long q0), (.int (1 : Int32))])) _
      refine XS.lcmp X0.here hx rfl (hb hby d3_5) rfl ?_
      exact k)
  obtain ⟨T6, L6, v5, X6, e6, N6, hv5, pre6⟩ : ∃ (T' : State) (L' : List Loc) (v5 : Int32), Stand p l e ({ frames := 0, cells := 0, slots := 0, locals := 0 } : Room) s m #[(.long q0)] below meth c T' L' 0 0 ∧ T'.heap = h0 ∧ Fr n0 L' ∧ v5 = (if q0 < (10 : Int64) then (0 : Int32) else (1 : Int32)) ∧ (∀ t, Steps p.tables e below (T'.setTop (mkF m 14 #[.val (.long q0), .second] [(.int v5), (.int (1 : Int32))])) t → P t) := by
    by_cases hc2 : q0 < (10 : Int64)
    · have pre3 : ∀ t, Steps p.tables e below (s₁.setTop (mkF m 14 #[.val (.long q0), .second] [(.int (0 : Int32)), (.int (1 : Int32))])) t → P t := fun t k => pre1 t (by
          show Steps p.tables e below (s₁.setTop (mkF m 6 #[.val (.long q0), .second] [(.int (lcmpW q0 (10 : Int64))), (.int (1 : Int32))])) _
          refine XS.ifYes X0.here hx rfl (pc0 := 6) (pc' := 13) rfl (hb hby d3_6) rfl ((if0 _ _).trans (tlt ((lw_lt _ _).mpr hc2)).1) (by decide) (by decide) ?_
          show Steps p.tables e below (s₁.setTop (mkF m 13 #[.val (.long q0), .second] [(.int (1 : Int32))])) _
          refine XS.iconst X0.here hx rfl (hb hby d3_13) ?_
          exact k)
      exact ⟨_, _, (0 : Int32), X0, e0, N0, (by first | (rw [if_pos hc2]; done) | simp only [if_pos hc2] | simp [if_pos hc2]), pre3⟩
    · have pre4 : ∀ t, Steps p.tables e below (s₁.setTop (mkF m 14 #[.val (.long q0), .second] [(.int (1 : Int32)), (.int (1 : Int32))])) t → P t := fun t k => pre1 t (by
          show Steps p.tables e below (s₁.setTop (mkF m 6 #[.val (.long q0), .second] [(.int (lcmpW q0 (10 : Int64))), (.int (1 : Int32))])) _
          refine XS.ifNo X0.here hx rfl (hb hby d3_6) rfl ((if0 _ _).trans (flt (fun q => hc2 ((lw_lt _ _).mp q))).1) ?_
          show Steps p.tables e below (s₁.setTop (mkF m 9 #[.val (.long q0), .second] [(.int (1 : Int32))])) _
          refine XS.iconst X0.here hx rfl (hb hby d3_9) ?_
          show Steps p.tables e below (s₁.setTop (mkF m 10 #[.val (.long q0), .second] [(.int (1 : Int32)), (.int (1 : Int32))])) _
          refine XS.goto X0.here hx rfl (pc0 := 10) (pc' := 14) rfl (hb hby d3_10) (by decide) (by decide) ?_
          exact k)
      exact ⟨_, _, (1 : Int32), X0, e0, N0, (by first | (rw [if_neg hc2]; done) | simp only [if_neg hc2] | simp [if_neg hc2]), pre4⟩
  have pre7 : ∀ t, Steps p.tables e below (T6.setTop (mkF m 20 #[.val (.long q0), .second] [(.int (lcmpW q0 (100 : Int64))), (.int ((1 : Int32) + v5))])) t → P t := fun t k => pre6 t (by
      show Steps p.tables e below (T6.setTop (mkF m 14 #[.val (.long q0), .second] [(.int v5), (.int (1 : Int32))])) _
      refine XS.iadd X6.here hx rfl (hb hby d3_14) rfl ?_
      show Steps p.tables e below (T6.setTop (mkF m 15 #[.val (.long q0), .second] [(.int ((1 : Int32) + v5))])) _
      refine XS.lloadN X6.here hx rfl (hb hby d3_15) rfl ?_
      show Steps p.tables e below (T6.setTop (mkF m 16 #[.val (.long q0), .second] [(.long q0), (.int ((1 : Int32) + v5))])) _
      refine X6.ldc2Long hx hown (mvT hZ (hw _ (List.mem_of_getElem? (i := 14) rfl))) (g := (mkF m 16 #[.val (.long q0), .second] [(.long q0), (.int ((1 : Int32) + v5))])) rfl (hb hby d3_16) _ ?_
      show Steps p.tables e below (T6.setTop (mkF m 19 #[.val (.long q0), .second] [(.long (100 : Int64)), (.long q0), (.int ((1 : Int32) + v5))])) _
      refine XS.lcmp X6.here hx rfl (hb hby d3_19) rfl ?_
      exact k)
  obtain ⟨T12, L12, v11, X12, e12, N12, hv11, pre12⟩ : ∃ (T' : State) (L' : List Loc) (v11 : Int32), Stand p l e ({ frames := 0, cells := 0, slots := 0, locals := 0 } : Room) s m #[(.long q0)] below meth c T' L' 0 0 ∧ T'.heap = h0 ∧ Fr n0 L' ∧ v11 = (if q0 < (100 : Int64) then (0 : Int32) else (1 : Int32)) ∧ (∀ t, Steps p.tables e below (T'.setTop (mkF m 28 #[.val (.long q0), .second] [(.int v11), (.int ((1 : Int32) + v5))])) t → P t) := by
    by_cases hc8 : q0 < (100 : Int64)
    · have pre9 : ∀ t, Steps p.tables e below (T6.setTop (mkF m 28 #[.val (.long q0), .second] [(.int (0 : Int32)), (.int ((1 : Int32) + v5))])) t → P t := fun t k => pre7 t (by
          show Steps p.tables e below (T6.setTop (mkF m 20 #[.val (.long q0), .second] [(.int (lcmpW q0 (100 : Int64))), (.int ((1 : Int32) + v5))])) _
          refine XS.ifYes X6.here hx rfl (pc0 := 20) (pc' := 27) rfl (hb hby d3_20) rfl ((if0 _ _).trans (tlt ((lw_lt _ _).mpr hc8)).1) (by decide) (by decide) ?_
          show Steps p.tables e below (T6.setTop (mkF m 27 #[.val (.long q0), .second] [(.int ((1 : Int32) + v5))])) _
          refine XS.iconst X6.here hx rfl (hb hby d3_27) ?_
          exact k)
      exact ⟨_, _, (0 : Int32), X6, e6, N6, (by first | (rw [if_pos hc8]; done) | simp only [if_pos hc8] | simp [if_pos hc8]), pre9⟩
    · have pre10 : ∀ t, Steps p.tables e below (T6.setTop (mkF m 28 #[.val (.long q0), .second] [(.int (1 : Int32)), (.int ((1 : Int32) + v5))])) t → P t := fun t k => pre7 t (by
          show Steps p.tables e below (T6.setTop (mkF m 20 #[.val (.long q0), .second] [(.int (lcmpW q0 (100 : Int64))), (.int ((1 : Int32) + v5))])) _
          refine XS.ifNo X6.here hx rfl (hb hby d3_20) rfl ((if0 _ _).trans (flt (fun q => hc8 ((lw_lt _ _).mp q))).1) ?_
          show Steps p.tables e below (T6.setTop (mkF m 23 #[.val (.long q0), .second] [(.int ((1 : Int32) + v5))])) _
          refine XS.iconst X6.here hx rfl (hb hby d3_23) ?_
          show Steps p.tables e below (T6.setTop (mkF m 24 #[.val (.long q0), .second] [(.int (1 : Int32)), (.int ((1 : Int32) + v5))])) _
          refine XS.goto X6.here hx rfl (pc0 := 24) (pc' := 28) rfl (hb hby d3_24) (by decide) (by decide) ?_
          exact k)
      exact ⟨_, _, (1 : Int32), X6, e6, N6, (by first | (rw [if_neg hc8]; done) | simp only [if_neg hc8] | simp [if_neg hc8]), pre10⟩
  have pre13 : ∀ t, Steps p.tables e below (T12.setTop (mkF m 34 #[.val (.long q0), .second] [(.int (lcmpW q0 (1000 : Int64))), (.int (((1 : Int32) + v5) + v11))])) t → P t := fun t k => pre12 t (by
      show Steps p.tables e below (T12.setTop (mkF m 28 #[.val (.long q0), .second] [(.int v11), (.int ((1 : Int32) + v5))])) _
      refine XS.iadd X12.here hx rfl (hb hby d3_28) rfl ?_
      show Steps p.tables e below (T12.setTop (mkF m 29 #[.val (.long q0), .second] [(.int (((1 : Int32) + v5) + v11))])) _
      refine XS.lloadN X12.here hx rfl (hb hby d3_29) rfl ?_
      show Steps p.tables e below (T12.setTop (mkF m 30 #[.val (.long q0), .second] [(.long q0), (.int (((1 : Int32) + v5) + v11))])) _
      refine X12.ldc2Long hx hown (mvT hZ (hw _ (List.mem_of_getElem? (i := 15) rfl))) (g := (mkF m 30 #[.val (.long q0), .second] [(.long q0), (.int (((1 : Int32) + v5) + v11))])) rfl (hb hby d3_30) _ ?_
      show Steps p.tables e below (T12.setTop (mkF m 33 #[.val (.long q0), .second] [(.long (1000 : Int64)), (.long q0), (.int (((1 : Int32) + v5) + v11))])) _
      refine XS.lcmp X12.here hx rfl (hb hby d3_33) rfl ?_
      exact k)
  obtain ⟨T18, L18, v17, X18, e18, N18, hv17, pre18⟩ : ∃ (T' : State) (L' : List Loc) (v17 : Int32), Stand p l e ({ frames := 0, cells := 0, slots := 0, locals := 0 } : Room) s m #[(.long q0)] below meth c T' L' 0 0 ∧ T'.heap = h0 ∧ Fr n0 L' ∧ v17 = (if q0 < (1000 : Int64) then (0 : Int32) else (1 : Int32)) ∧ (∀ t, Steps p.tables e below (T'.setTop (mkF m 42 #[.val (.long q0), .second] [(.int v17), (.int (((1 : Int32) + v5) + v11))])) t → P t) := by
    by_cases hc14 : q0 < (1000 : Int64)
    · have pre15 : ∀ t, Steps p.tables e below (T12.setTop (mkF m 42 #[.val (.long q0), .second] [(.int (0 : Int32)), (.int (((1 : Int32) + v5) + v11))])) t → P t := fun t k => pre13 t (by
          show Steps p.tables e below (T12.setTop (mkF m 34 #[.val (.long q0), .second] [(.int (lcmpW q0 (1000 : Int64))), (.int (((1 : Int32) + v5) + v11))])) _
          refine XS.ifYes X12.here hx rfl (pc0 := 34) (pc' := 41) rfl (hb hby d3_34) rfl ((if0 _ _).trans (tlt ((lw_lt _ _).mpr hc14)).1) (by decide) (by decide) ?_
          show Steps p.tables e below (T12.setTop (mkF m 41 #[.val (.long q0), .second] [(.int (((1 : Int32) + v5) + v11))])) _
          refine XS.iconst X12.here hx rfl (hb hby d3_41) ?_
          exact k)
      exact ⟨_, _, (0 : Int32), X12, e12, N12, (by first | (rw [if_pos hc14]; done) | simp only [if_pos hc14] | simp [if_pos hc14]), pre15⟩
    · have pre16 : ∀ t, Steps p.tables e below (T12.setTop (mkF m 42 #[.val (.long q0), .second] [(.int (1 : Int32)), (.int (((1 : Int32) + v5) + v11))])) t → P t := fun t k => pre13 t (by
          show Steps p.tables e below (T12.setTop (mkF m 34 #[.val (.long q0), .second] [(.int (lcmpW q0 (1000 : Int64))), (.int (((1 : Int32) + v5) + v11))])) _
          refine XS.ifNo X12.here hx rfl (hb hby d3_34) rfl ((if0 _ _).trans (flt (fun q => hc14 ((lw_lt _ _).mp q))).1) ?_
          show Steps p.tables e below (T12.setTop (mkF m 37 #[.val (.long q0), .second] [(.int (((1 : Int32) + v5) + v11))])) _
          refine XS.iconst X12.here hx rfl (hb hby d3_37) ?_
          show Steps p.tables e below (T12.setTop (mkF m 38 #[.val (.long q0), .second] [(.int (1 : Int32)), (.int (((1 : Int32) + v5) + v11))])) _
          refine XS.goto X12.here hx rfl (pc0 := 38) (pc' := 42) rfl (hb hby d3_38) (by decide) (by decide) ?_
          exact k)
      exact ⟨_, _, (1 : Int32), X12, e12, N12, (by first | (rw [if_neg hc14]; done) | simp only [if_neg hc14] | simp [if_neg hc14]), pre16⟩
  have pre19 : ∀ t, Steps p.tables e below (T18.setTop (mkF m 48 #[.val (.long q0), .second] [(.int (lcmpW q0 (10000 : Int64))), (.int ((((1 : Int32) + v5) + v11) + v17))])) t → P t := fun t k => pre18 t (by
      show Steps p.tables e below (T18.setTop (mkF m 42 #[.val (.long q0), .second] [(.int v17), (.int (((1 : Int32) + v5) + v11))])) _
      refine XS.iadd X18.here hx rfl (hb hby d3_42) rfl ?_
      show Steps p.tables e below (T18.setTop (mkF m 43 #[.val (.long q0), .second] [(.int ((((1 : Int32) + v5) + v11) + v17))])) _
      refine XS.lloadN X18.here hx rfl (hb hby d3_43) rfl ?_
      show Steps p.tables e below (T18.setTop (mkF m 44 #[.val (.long q0), .second] [(.long q0), (.int ((((1 : Int32) + v5) + v11) + v17))])) _
      refine X18.ldc2Long hx hown (mvT hZ (hw _ (List.mem_of_getElem? (i := 16) rfl))) (g := (mkF m 44 #[.val (.long q0), .second] [(.long q0), (.int ((((1 : Int32) + v5) + v11) + v17))])) rfl (hb hby d3_44) _ ?_
      show Steps p.tables e below (T18.setTop (mkF m 47 #[.val (.long q0), .second] [(.long (10000 : Int64)), (.long q0), (.int ((((1 : Int32) + v5) + v11) + v17))])) _
      refine XS.lcmp X18.here hx rfl (hb hby d3_47) rfl ?_
      exact k)
  obtain ⟨T24, L24, v23, X24, e24, N24, hv23, pre24⟩ : ∃ (T' : State) (L' : List Loc) (v23 : Int32), Stand p l e ({ frames := 0, cells := 0, slots := 0, locals := 0 } : Room) s m #[(.long q0)] below meth c T' L' 0 0 ∧ T'.heap = h0 ∧ Fr n0 L' ∧ v23 = (if q0 < (10000 : Int64) then (0 : Int32) else (1 : Int32)) ∧ (∀ t, Steps p.tables e below (T'.setTop (mkF m 56 #[.val (.long q0), .second] [(.int v23), (.int ((((1 : Int32) + v5) + v11) + v17))])) t → P t) := by
    by_cases hc20 : q0 < (10000 : Int64)
    · have pre21 : ∀ t, Steps p.tables e below (T18.setTop (mkF m 56 #[.val (.long q0), .second] [(.int (0 : Int32)), (.int ((((1 : Int32) + v5) + v11) + v17))])) t → P t := fun t k => pre19 t (by
          show Steps p.tables e below (T18.setTop (mkF m 48 #[.val (.long q0), .second] [(.int (lcmpW q0 (10000 : Int64))), (.int ((((1 : Int32) + v5) + v11) + v17))])) _
          refine XS.ifYes X18.here hx rfl (pc0 := 48) (pc' := 55) rfl (hb hby d3_48) rfl ((if0 _ _).trans (tlt ((lw_lt _ _).mpr hc20)).1) (by decide) (by decide) ?_
          show Steps p.tables e below (T18.setTop (mkF m 55 #[.val (.long q0), .second] [(.int ((((1 : Int32) + v5) + v11) + v17))])) _
          refine XS.iconst X18.here hx rfl (hb hby d3_55) ?_
          exact k)
      exact ⟨_, _, (0 : Int32), X18, e18, N18, (by first | (rw [if_pos hc20]; done) | simp only [if_pos hc20] | simp [if_pos hc20]), pre21⟩
    · have pre22 : ∀ t, Steps p.tables e below (T18.setTop (mkF m 56 #[.val (.long q0), .second] [(.int (1 : Int32)), (.int ((((1 : Int32) + v5) + v11) + v17))])) t → P t := fun t k => pre19 t (by
          show Steps p.tables e below (T18.setTop (mkF m 48 #[.val (.long q0), .second] [(.int (lcmpW q0 (10000 : Int64))), (.int ((((1 : Int32) + v5) + v11) + v17))])) _
          refine XS.ifNo X18.here hx rfl (hb hby d3_48) rfl ((if0 _ _).trans (flt (fun q => hc20 ((lw_lt _ _).mp q))).1) ?_
          show Steps p.tables e below (T18.setTop (mkF m 51 #[.val (.long q0), .second] [(.int ((((1 : Int32) + v5) + v11) + v17))])) _
          refine XS.iconst X18.here hx rfl (hb hby d3_51) ?_
          show Steps p.tables e below (T18.setTop (mkF m 52 #[.val (.long q0), .second] [(.int (1 : Int32)), (.int ((((1 : Int32) + v5) + v11) + v17))])) _
          refine XS.goto X18.here hx rfl (pc0 := 52) (pc' := 56) rfl (hb hby d3_52) (by decide) (by decide) ?_
          exact k)
      exact ⟨_, _, (1 : Int32), X18, e18, N18, (by first | (rw [if_neg hc20]; done) | simp only [if_neg hc20] | simp [if_neg hc20]), pre22⟩
  have pre25 : ∀ t, Steps p.tables e below (T24.setTop (mkF m 62 #[.val (.long q0), .second] [(.int (lcmpW q0 (100000 : Int64))), (.int (((((1 : Int32) + v5) + v11) + v17) + v23))])) t → P t := fun t k => pre24 t (by
      show Steps p.tables e below (T24.setTop (mkF m 56 #[.val (.long q0), .second] [(.int v23), (.int ((((1 : Int32) + v5) + v11) + v17))])) _
      refine XS.iadd X24.here hx rfl (hb hby d3_56) rfl ?_
      show Steps p.tables e below (T24.setTop (mkF m 57 #[.val (.long q0), .second] [(.int (((((1 : Int32) + v5) + v11) + v17) + v23))])) _
      refine XS.lloadN X24.here hx rfl (hb hby d3_57) rfl ?_
      show Steps p.tables e below (T24.setTop (mkF m 58 #[.val (.long q0), .second] [(.long q0), (.int (((((1 : Int32) + v5) + v11) + v17) + v23))])) _
      refine X24.ldc2Long hx hown (mvT hZ (hw _ (List.mem_of_getElem? (i := 17) rfl))) (g := (mkF m 58 #[.val (.long q0), .second] [(.long q0), (.int (((((1 : Int32) + v5) + v11) + v17) + v23))])) rfl (hb hby d3_58) _ ?_
      show Steps p.tables e below (T24.setTop (mkF m 61 #[.val (.long q0), .second] [(.long (100000 : Int64)), (.long q0), (.int (((((1 : Int32) + v5) + v11) + v17) + v23))])) _
      refine XS.lcmp X24.here hx rfl (hb hby d3_61) rfl ?_
      exact k)
  obtain ⟨T30, L30, v29, X30, e30, N30, hv29, pre30⟩ : ∃ (T' : State) (L' : List Loc) (v29 : Int32), Stand p l e ({ frames := 0, cells := 0, slots := 0, locals := 0 } : Room) s m #[(.long q0)] below meth c T' L' 0 0 ∧ T'.heap = h0 ∧ Fr n0 L' ∧ v29 = (if q0 < (100000 : Int64) then (0 : Int32) else (1 : Int32)) ∧ (∀ t, Steps p.tables e below (T'.setTop (mkF m 70 #[.val (.long q0), .second] [(.int v29), (.int (((((1 : Int32) + v5) + v11) + v17) + v23))])) t → P t) := by
    by_cases hc26 : q0 < (100000 : Int64)
    · have pre27 : ∀ t, Steps p.tables e below (T24.setTop (mkF m 70 #[.val (.long q0), .second] [(.int (0 : Int32)), (.int (((((1 : Int32) + v5) + v11) + v17) + v23))])) t → P t := fun t k => pre25 t (by
          show Steps p.tables e below (T24.setTop (mkF m 62 #[.val (.long q0), .second] [(.int (lcmpW q0 (100000 : Int64))), (.int (((((1 : Int32) + v5) + v11) + v17) + v23))])) _
          refine XS.ifYes X24.here hx rfl (pc0 := 62) (pc' := 69) rfl (hb hby d3_62) rfl ((if0 _ _).trans (tlt ((lw_lt _ _).mpr hc26)).1) (by decide) (by decide) ?_
          show Steps p.tables e below (T24.setTop (mkF m 69 #[.val (.long q0), .second] [(.int (((((1 : Int32) + v5) + v11) + v17) + v23))])) _
          refine XS.iconst X24.here hx rfl (hb hby d3_69) ?_
          exact k)
      exact ⟨_, _, (0 : Int32), X24, e24, N24, (by first | (rw [if_pos hc26]; done) | simp only [if_pos hc26] | simp [if_pos hc26]), pre27⟩
    · have pre28 : ∀ t, Steps p.tables e below (T24.setTop (mkF m 70 #[.val (.long q0), .second] [(.int (1 : Int32)), (.int (((((1 : Int32) + v5) + v11) + v17) + v23))])) t → P t := fun t k => pre25 t (by
          show Steps p.tables e below (T24.setTop (mkF m 62 #[.val (.long q0), .second] [(.int (lcmpW q0 (100000 : Int64))), (.int (((((1 : Int32) + v5) + v11) + v17) + v23))])) _
          refine XS.ifNo X24.here hx rfl (hb hby d3_62) rfl ((if0 _ _).trans (flt (fun q => hc26 ((lw_lt _ _).mp q))).1) ?_
          show Steps p.tables e below (T24.setTop (mkF m 65 #[.val (.long q0), .second] [(.int (((((1 : Int32) + v5) + v11) + v17) + v23))])) _
          refine XS.iconst X24.here hx rfl (hb hby d3_65) ?_
          show Steps p.tables e below (T24.setTop (mkF m 66 #[.val (.long q0), .second] [(.int (1 : Int32)), (.int (((((1 : Int32) + v5) + v11) + v17) + v23))])) _
          refine XS.goto X24.here hx rfl (pc0 := 66) (pc' := 70) rfl (hb hby d3_66) (by decide) (by decide) ?_
          exact k)
      exact ⟨_, _, (1 : Int32), X24, e24, N24, (by first | (rw [if_neg hc26]; done) | simp only [if_neg hc26] | simp [if_neg hc26]), pre28⟩
  have pre31 : ∀ t, Steps p.tables e below (T30.setTop (mkF m 76 #[.val (.long q0), .second] [(.int (lcmpW q0 (1000000 : Int64))), (.int ((((((1 : Int32) + v5) + v11) + v17) + v23) + v29))])) t → P t := fun t k => pre30 t (by
      show Steps p.tables e below (T30.setTop (mkF m 70 #[.val (.long q0), .second] [(.int v29), (.int (((((1 : Int32) + v5) + v11) + v17) + v23))])) _
      refine XS.iadd X30.here hx rfl (hb hby d3_70) rfl ?_
      show Steps p.tables e below (T30.setTop (mkF m 71 #[.val (.long q0), .second] [(.int ((((((1 : Int32) + v5) + v11) + v17) + v23) + v29))])) _
      refine XS.lloadN X30.here hx rfl (hb hby d3_71) rfl ?_
      show Steps p.tables e below (T30.setTop (mkF m 72 #[.val (.long q0), .second] [(.long q0), (.int ((((((1 : Int32) + v5) + v11) + v17) + v23) + v29))])) _
      refine X30.ldc2Long hx hown (mvT hZ (hw _ (List.mem_of_getElem? (i := 18) rfl))) (g := (mkF m 72 #[.val (.long q0), .second] [(.long q0), (.int ((((((1 : Int32) + v5) + v11) + v17) + v23) + v29))])) rfl (hb hby d3_72) _ ?_
      show Steps p.tables e below (T30.setTop (mkF m 75 #[.val (.long q0), .second] [(.long (1000000 : Int64)), (.long q0), (.int ((((((1 : Int32) + v5) + v11) + v17) + v23) + v29))])) _
      refine XS.lcmp X30.here hx rfl (hb hby d3_75) rfl ?_
      exact k)
  obtain ⟨T36, L36, v35, X36, e36, N36, hv35, pre36⟩ : ∃ (T' : State) (L' : List Loc) (v35 : Int32), Stand p l e ({ frames := 0, cells := 0, slots := 0, locals := 0 } : Room) s m #[(.long q0)] below meth c T' L' 0 0 ∧ T'.heap = h0 ∧ Fr n0 L' ∧ v35 = (if q0 < (1000000 : Int64) then (0 : Int32) else (1 : Int32)) ∧ (∀ t, Steps p.tables e below (T'.setTop (mkF m 84 #[.val (.long q0), .second] [(.int v35), (.int ((((((1 : Int32) + v5) + v11) + v17) + v23) + v29))])) t → P t) := by
    by_cases hc32 : q0 < (1000000 : Int64)
    · have pre33 : ∀ t, Steps p.tables e below (T30.setTop (mkF m 84 #[.val (.long q0), .second] [(.int (0 : Int32)), (.int ((((((1 : Int32) + v5) + v11) + v17) + v23) + v29))])) t → P t := fun t k => pre31 t (by
          show Steps p.tables e below (T30.setTop (mkF m 76 #[.val (.long q0), .second] [(.int (lcmpW q0 (1000000 : Int64))), (.int ((((((1 : Int32) + v5) + v11) + v17) + v23) + v29))])) _
          refine XS.ifYes X30.here hx rfl (pc0 := 76) (pc' := 83) rfl (hb hby d3_76) rfl ((if0 _ _).trans (tlt ((lw_lt _ _).mpr hc32)).1) (by decide) (by decide) ?_
          show Steps p.tables e below (T30.setTop (mkF m 83 #[.val (.long q0), .second] [(.int ((((((1 : Int32) + v5) + v11) + v17) + v23) + v29))])) _
          refine XS.iconst X30.here hx rfl (hb hby d3_83) ?_
          exact k)
      exact ⟨_, _, (0 : Int32), X30, e30, N30, (by first | (rw [if_pos hc32]; done) | simp only [if_pos hc32] | simp [if_pos hc32]), pre33⟩
    · have pre34 : ∀ t, Steps p.tables e below (T30.setTop (mkF m 84 #[.val (.long q0), .second] [(.int (1 : Int32)), (.int ((((((1 : Int32) + v5) + v11) + v17) + v23) + v29))])) t → P t := fun t k => pre31 t (by
          show Steps p.tables e below (T30.setTop (mkF m 76 #[.val (.long q0), .second] [(.int (lcmpW q0 (1000000 : Int64))), (.int ((((((1 : Int32) + v5) + v11) + v17) + v23) + v29))])) _
          refine XS.ifNo X30.here hx rfl (hb hby d3_76) rfl ((if0 _ _).trans (flt (fun q => hc32 ((lw_lt _ _).mp q))).1) ?_
          show Steps p.tables e below (T30.setTop (mkF m 79 #[.val (.long q0), .second] [(.int ((((((1 : Int32) + v5) + v11) + v17) + v23) + v29))])) _
          refine XS.iconst X30.here hx rfl (hb hby d3_79) ?_
          show Steps p.tables e below (T30.setTop (mkF m 80 #[.val (.long q0), .second] [(.int (1 : Int32)), (.int ((((((1 : Int32) + v5) + v11) + v17) + v23) + v29))])) _
          refine XS.goto X30.here hx rfl (pc0 := 80) (pc' := 84) rfl (hb hby d3_80) (by decide) (by decide) ?_
          exact k)
      exact ⟨_, _, (1 : Int32), X30, e30, N30, (by first | (rw [if_neg hc32]; done) | simp only [if_neg hc32] | simp [if_neg hc32]), pre34⟩
  have pre37 : ∀ t, Steps p.tables e below (T36.setTop (mkF m 90 #[.val (.long q0), .second] [(.int (lcmpW q0 (10000000 : Int64))), (.int (((((((1 : Int32) + v5) + v11) + v17) + v23) + v29) + v35))])) t → P t := fun t k => pre36 t (by
      show Steps p.tables e below (T36.setTop (mkF m 84 #[.val (.long q0), .second] [(.int v35), (.int ((((((1 : Int32) + v5) + v11) + v17) + v23) + v29))])) _
      refine XS.iadd X36.here hx rfl (hb hby d3_84) rfl ?_
      show Steps p.tables e below (T36.setTop (mkF m 85 #[.val (.long q0), .second] [(.int (((((((1 : Int32) + v5) + v11) + v17) + v23) + v29) + v35))])) _
      refine XS.lloadN X36.here hx rfl (hb hby d3_85) rfl ?_
      show Steps p.tables e below (T36.setTop (mkF m 86 #[.val (.long q0), .second] [(.long q0), (.int (((((((1 : Int32) + v5) + v11) + v17) + v23) + v29) + v35))])) _
      refine X36.ldc2Long hx hown (mvT hZ (hw _ (List.mem_of_getElem? (i := 19) rfl))) (g := (mkF m 86 #[.val (.long q0), .second] [(.long q0), (.int (((((((1 : Int32) + v5) + v11) + v17) + v23) + v29) + v35))])) rfl (hb hby d3_86) _ ?_
      show Steps p.tables e below (T36.setTop (mkF m 89 #[.val (.long q0), .second] [(.long (10000000 : Int64)), (.long q0), (.int (((((((1 : Int32) + v5) + v11) + v17) + v23) + v29) + v35))])) _
      refine XS.lcmp X36.here hx rfl (hb hby d3_89) rfl ?_
      exact k)
  obtain ⟨T42, L42, v41, X42, e42, N42, hv41, pre42⟩ : ∃ (T' : State) (L' : List Loc) (v41 : Int32), Stand p l e ({ frames := 0, cells := 0, slots := 0, locals := 0 } : Room) s m #[(.long q0)] below meth c T' L' 0 0 ∧ T'.heap = h0 ∧ Fr n0 L' ∧ v41 = (if q0 < (10000000 : Int64) then (0 : Int32) else (1 : Int32)) ∧ (∀ t, Steps p.tables e below (T'.setTop (mkF m 98 #[.val (.long q0), .second] [(.int v41), (.int (((((((1 : Int32) + v5) + v11) + v17) + v23) + v29) + v35))])) t → P t) := by
    by_cases hc38 : q0 < (10000000 : Int64)
    · have pre39 : ∀ t, Steps p.tables e below (T36.setTop (mkF m 98 #[.val (.long q0), .second] [(.int (0 : Int32)), (.int (((((((1 : Int32) + v5) + v11) + v17) + v23) + v29) + v35))])) t → P t := fun t k => pre37 t (by
          show Steps p.tables e below (T36.setTop (mkF m 90 #[.val (.long q0), .second] [(.int (lcmpW q0 (10000000 : Int64))), (.int (((((((1 : Int32) + v5) + v11) + v17) + v23) + v29) + v35))])) _
          refine XS.ifYes X36.here hx rfl (pc0 := 90) (pc' := 97) rfl (hb hby d3_90) rfl ((if0 _ _).trans (tlt ((lw_lt _ _).mpr hc38)).1) (by decide) (by decide) ?_
          show Steps p.tables e below (T36.setTop (mkF m 97 #[.val (.long q0), .second] [(.int (((((((1 : Int32) + v5) + v11) + v17) + v23) + v29) + v35))])) _
          refine XS.iconst X36.here hx rfl (hb hby d3_97) ?_
          exact k)
      exact ⟨_, _, (0 : Int32), X36, e36, N36, (by first | (rw [if_pos hc38]; done) | simp only [if_pos hc38] | simp [if_pos hc38]), pre39⟩
    · have pre40 : ∀ t, Steps p.tables e below (T36.setTop (mkF m 98 #[.val (.long q0), .second] [(.int (1 : Int32)), (.int (((((((1 : Int32) + v5) + v11) + v17) + v23) + v29) + v35))])) t → P t := fun t k => pre37 t (by
          show Steps p.tables e below (T36.setTop (mkF m 90 #[.val (.long q0), .second] [(.int (lcmpW q0 (10000000 : Int64))), (.int (((((((1 : Int32) + v5) + v11) + v17) + v23) + v29) + v35))])) _
          refine XS.ifNo X36.here hx rfl (hb hby d3_90) rfl ((if0 _ _).trans (flt (fun q => hc38 ((lw_lt _ _).mp q))).1) ?_
          show Steps p.tables e below (T36.setTop (mkF m 93 #[.val (.long q0), .second] [(.int (((((((1 : Int32) + v5) + v11) + v17) + v23) + v29) + v35))])) _
          refine XS.iconst X36.here hx rfl (hb hby d3_93) ?_
          show Steps p.tables e below (T36.setTop (mkF m 94 #[.val (.long q0), .second] [(.int (1 : Int32)), (.int (((((((1 : Int32) + v5) + v11) + v17) + v23) + v29) + v35))])) _
          refine XS.goto X36.here hx rfl (pc0 := 94) (pc' := 98) rfl (hb hby d3_94) (by decide) (by decide) ?_
          exact k)
      exact ⟨_, _, (1 : Int32), X36, e36, N36, (by first | (rw [if_neg hc38]; done) | simp only [if_neg hc38] | simp [if_neg hc38]), pre40⟩
  have pre43 : ∀ t, Steps p.tables e below (T42.setTop (mkF m 104 #[.val (.long q0), .second] [(.int (lcmpW q0 (100000000 : Int64))), (.int ((((((((1 : Int32) + v5) + v11) + v17) + v23) + v29) + v35) + v41))])) t → P t := fun t k => pre42 t (by
      show Steps p.tables e below (T42.setTop (mkF m 98 #[.val (.long q0), .second] [(.int v41), (.int (((((((1 : Int32) + v5) + v11) + v17) + v23) + v29) + v35))])) _
      refine XS.iadd X42.here hx rfl (hb hby d3_98) rfl ?_
      show Steps p.tables e below (T42.setTop (mkF m 99 #[.val (.long q0), .second] [(.int ((((((((1 : Int32) + v5) + v11) + v17) + v23) + v29) + v35) + v41))])) _
      refine XS.lloadN X42.here hx rfl (hb hby d3_99) rfl ?_
      show Steps p.tables e below (T42.setTop (mkF m 100 #[.val (.long q0), .second] [(.long q0), (.int ((((((((1 : Int32) + v5) + v11) + v17) + v23) + v29) + v35) + v41))])) _
      refine X42.ldc2Long hx hown (mvT hZ (hw _ (List.mem_of_getElem? (i := 20) rfl))) (g := (mkF m 100 #[.val (.long q0), .second] [(.long q0), (.int ((((((((1 : Int32) + v5) + v11) + v17) + v23) + v29) + v35) + v41))])) rfl (hb hby d3_100) _ ?_
      show Steps p.tables e below (T42.setTop (mkF m 103 #[.val (.long q0), .second] [(.long (100000000 : Int64)), (.long q0), (.int ((((((((1 : Int32) + v5) + v11) + v17) + v23) + v29) + v35) + v41))])) _
      refine XS.lcmp X42.here hx rfl (hb hby d3_103) rfl ?_
      exact k)
  obtain ⟨T48, L48, v47, X48, e48, N48, hv47, pre48⟩ : ∃ (T' : State) (L' : List Loc) (v47 : Int32), Stand p l e ({ frames := 0, cells := 0, slots := 0, locals := 0 } : Room) s m #[(.long q0)] below meth c T' L' 0 0 ∧ T'.heap = h0 ∧ Fr n0 L' ∧ v47 = (if q0 < (100000000 : Int64) then (0 : Int32) else (1 : Int32)) ∧ (∀ t, Steps p.tables e below (T'.setTop (mkF m 112 #[.val (.long q0), .second] [(.int v47), (.int ((((((((1 : Int32) + v5) + v11) + v17) + v23) + v29) + v35) + v41))])) t → P t) := by
    by_cases hc44 : q0 < (100000000 : Int64)
    · have pre45 : ∀ t, Steps p.tables e below (T42.setTop (mkF m 112 #[.val (.long q0), .second] [(.int (0 : Int32)), (.int ((((((((1 : Int32) + v5) + v11) + v17) + v23) + v29) + v35) + v41))])) t → P t := fun t k => pre43 t (by
          show Steps p.tables e below (T42.setTop (mkF m 104 #[.val (.long q0), .second] [(.int (lcmpW q0 (100000000 : Int64))), (.int ((((((((1 : Int32) + v5) + v11) + v17) + v23) + v29) + v35) + v41))])) _
          refine XS.ifYes X42.here hx rfl (pc0 := 104) (pc' := 111) rfl (hb hby d3_104) rfl ((if0 _ _).trans (tlt ((lw_lt _ _).mpr hc44)).1) (by decide) (by decide) ?_
          show Steps p.tables e below (T42.setTop (mkF m 111 #[.val (.long q0), .second] [(.int ((((((((1 : Int32) + v5) + v11) + v17) + v23) + v29) + v35) + v41))])) _
          refine XS.iconst X42.here hx rfl (hb hby d3_111) ?_
          exact k)
      exact ⟨_, _, (0 : Int32), X42, e42, N42, (by first | (rw [if_pos hc44]; done) | simp only [if_pos hc44] | simp [if_pos hc44]), pre45⟩
    · have pre46 : ∀ t, Steps p.tables e below (T42.setTop (mkF m 112 #[.val (.long q0), .second] [(.int (1 : Int32)), (.int ((((((((1 : Int32) + v5) + v11) + v17) + v23) + v29) + v35) + v41))])) t → P t := fun t k => pre43 t (by
          show Steps p.tables e below (T42.setTop (mkF m 104 #[.val (.long q0), .second] [(.int (lcmpW q0 (100000000 : Int64))), (.int ((((((((1 : Int32) + v5) + v11) + v17) + v23) + v29) + v35) + v41))])) _
          refine XS.ifNo X42.here hx rfl (hb hby d3_104) rfl ((if0 _ _).trans (flt (fun q => hc44 ((lw_lt _ _).mp q))).1) ?_
          show Steps p.tables e below (T42.setTop (mkF m 107 #[.val (.long q0), .second] [(.int ((((((((1 : Int32) + v5) + v11) + v17) + v23) + v29) + v35) + v41))])) _
          refine XS.iconst X42.here hx rfl (hb hby d3_107) ?_
          show Steps p.tables e below (T42.setTop (mkF m 108 #[.val (.long q0), .second] [(.int (1 : Int32)), (.int ((((((((1 : Int32) + v5) + v11) + v17) + v23) + v29) + v35) + v41))])) _
          refine XS.goto X42.here hx rfl (pc0 := 108) (pc' := 112) rfl (hb hby d3_108) (by decide) (by decide) ?_
          exact k)
      exact ⟨_, _, (1 : Int32), X42, e42, N42, (by first | (rw [if_neg hc44]; done) | simp only [if_neg hc44] | simp [if_neg hc44]), pre46⟩
  have pre49 : ∀ t, Steps p.tables e below (T48.setTop (mkF m 118 #[.val (.long q0), .second] [(.int (lcmpW q0 (1000000000 : Int64))), (.int (((((((((1 : Int32) + v5) + v11) + v17) + v23) + v29) + v35) + v41) + v47))])) t → P t := fun t k => pre48 t (by
      show Steps p.tables e below (T48.setTop (mkF m 112 #[.val (.long q0), .second] [(.int v47), (.int ((((((((1 : Int32) + v5) + v11) + v17) + v23) + v29) + v35) + v41))])) _
      refine XS.iadd X48.here hx rfl (hb hby d3_112) rfl ?_
      show Steps p.tables e below (T48.setTop (mkF m 113 #[.val (.long q0), .second] [(.int (((((((((1 : Int32) + v5) + v11) + v17) + v23) + v29) + v35) + v41) + v47))])) _
      refine XS.lloadN X48.here hx rfl (hb hby d3_113) rfl ?_
      show Steps p.tables e below (T48.setTop (mkF m 114 #[.val (.long q0), .second] [(.long q0), (.int (((((((((1 : Int32) + v5) + v11) + v17) + v23) + v29) + v35) + v41) + v47))])) _
      refine X48.ldc2Long hx hown (mvT hZ (hw _ (List.mem_of_getElem? (i := 21) rfl))) (g := (mkF m 114 #[.val (.long q0), .second] [(.long q0), (.int (((((((((1 : Int32) + v5) + v11) + v17) + v23) + v29) + v35) + v41) + v47))])) rfl (hb hby d3_114) _ ?_
      show Steps p.tables e below (T48.setTop (mkF m 117 #[.val (.long q0), .second] [(.long (1000000000 : Int64)), (.long q0), (.int (((((((((1 : Int32) + v5) + v11) + v17) + v23) + v29) + v35) + v41) + v47))])) _
      refine XS.lcmp X48.here hx rfl (hb hby d3_117) rfl ?_
      exact k)
  obtain ⟨T54, L54, v53, X54, e54, N54, hv53, pre54⟩ : ∃ (T' : State) (L' : List Loc) (v53 : Int32), Stand p l e ({ frames := 0, cells := 0, slots := 0, locals := 0 } : Room) s m #[(.long q0)] below meth c T' L' 0 0 ∧ T'.heap = h0 ∧ Fr n0 L' ∧ v53 = (if q0 < (1000000000 : Int64) then (0 : Int32) else (1 : Int32)) ∧ (∀ t, Steps p.tables e below (T'.setTop (mkF m 126 #[.val (.long q0), .second] [(.int v53), (.int (((((((((1 : Int32) + v5) + v11) + v17) + v23) + v29) + v35) + v41) + v47))])) t → P t) := by
    by_cases hc50 : q0 < (1000000000 : Int64)
    · have pre51 : ∀ t, Steps p.tables e below (T48.setTop (mkF m 126 #[.val (.long q0), .second] [(.int (0 : Int32)), (.int (((((((((1 : Int32) + v5) + v11) + v17) + v23) + v29) + v35) + v41) + v47))])) t → P t := fun t k => pre49 t (by
          show Steps p.tables e below (T48.setTop (mkF m 118 #[.val (.long q0), .second] [(.int (lcmpW q0 (1000000000 : Int64))), (.int (((((((((1 : Int32) + v5) + v11) + v17) + v23) + v29) + v35) + v41) + v47))])) _
          refine XS.ifYes X48.here hx rfl (pc0 := 118) (pc' := 125) rfl (hb hby d3_118) rfl ((if0 _ _).trans (tlt ((lw_lt _ _).mpr hc50)).1) (by decide) (by decide) ?_
          show Steps p.tables e below (T48.setTop (mkF m 125 #[.val (.long q0), .second] [(.int (((((((((1 : Int32) + v5) + v11) + v17) + v23) + v29) + v35) + v41) + v47))])) _
          refine XS.iconst X48.here hx rfl (hb hby d3_125) ?_
          exact k)
      exact ⟨_, _, (0 : Int32), X48, e48, N48, (by first | (rw [if_pos hc50]; done) | simp only [if_pos hc50] | simp [if_pos hc50]), pre51⟩
    · have pre52 : ∀ t, Steps p.tables e below (T48.setTop (mkF m 126 #[.val (.long q0), .second] [(.int (1 : Int32)), (.int (((((((((1 : Int32) + v5) + v11) + v17) + v23) + v29) + v35) + v41) + v47))])) t → P t := fun t k => pre49 t (by
          show Steps p.tables e below (T48.setTop (mkF m 118 #[.val (.long q0), .second] [(.int (lcmpW q0 (1000000000 : Int64))), (.int (((((((((1 : Int32) + v5) + v11) + v17) + v23) + v29) + v35) + v41) + v47))])) _
          refine XS.ifNo X48.here hx rfl (hb hby d3_118) rfl ((if0 _ _).trans (flt (fun q => hc50 ((lw_lt _ _).mp q))).1) ?_
          show Steps p.tables e below (T48.setTop (mkF m 121 #[.val (.long q0), .second] [(.int (((((((((1 : Int32) + v5) + v11) + v17) + v23) + v29) + v35) + v41) + v47))])) _
          refine XS.iconst X48.here hx rfl (hb hby d3_121) ?_
          show Steps p.tables e below (T48.setTop (mkF m 122 #[.val (.long q0), .second] [(.int (1 : Int32)), (.int (((((((((1 : Int32) + v5) + v11) + v17) + v23) + v29) + v35) + v41) + v47))])) _
          refine XS.goto X48.here hx rfl (pc0 := 122) (pc' := 126) rfl (hb hby d3_122) (by decide) (by decide) ?_
          exact k)
      exact ⟨_, _, (1 : Int32), X48, e48, N48, (by first | (rw [if_neg hc50]; done) | simp only [if_neg hc50] | simp [if_neg hc50]), pre52⟩
  have pre55 : ∀ t, Steps p.tables e below (T54.setTop (mkF m 132 #[.val (.long q0), .second] [(.int (lcmpW q0 (10000000000 : Int64))), (.int ((((((((((1 : Int32) + v5) + v11) + v17) + v23) + v29) + v35) + v41) + v47) + v53))])) t → P t := fun t k => pre54 t (by
      show Steps p.tables e below (T54.setTop (mkF m 126 #[.val (.long q0), .second] [(.int v53), (.int (((((((((1 : Int32) + v5) + v11) + v17) + v23) + v29) + v35) + v41) + v47))])) _
      refine XS.iadd X54.here hx rfl (hb hby d3_126) rfl ?_
      show Steps p.tables e below (T54.setTop (mkF m 127 #[.val (.long q0), .second] [(.int ((((((((((1 : Int32) + v5) + v11) + v17) + v23) + v29) + v35) + v41) + v47) + v53))])) _
      refine XS.lloadN X54.here hx rfl (hb hby d3_127) rfl ?_
      show Steps p.tables e below (T54.setTop (mkF m 128 #[.val (.long q0), .second] [(.long q0), (.int ((((((((((1 : Int32) + v5) + v11) + v17) + v23) + v29) + v35) + v41) + v47) + v53))])) _
      refine X54.ldc2Long hx hown (mvT hZ (hw _ (List.mem_of_getElem? (i := 22) rfl))) (g := (mkF m 128 #[.val (.long q0), .second] [(.long q0), (.int ((((((((((1 : Int32) + v5) + v11) + v17) + v23) + v29) + v35) + v41) + v47) + v53))])) rfl (hb hby d3_128) _ ?_
      show Steps p.tables e below (T54.setTop (mkF m 131 #[.val (.long q0), .second] [(.long (10000000000 : Int64)), (.long q0), (.int ((((((((((1 : Int32) + v5) + v11) + v17) + v23) + v29) + v35) + v41) + v47) + v53))])) _
      refine XS.lcmp X54.here hx rfl (hb hby d3_131) rfl ?_
      exact k)
  obtain ⟨T60, L60, v59, X60, e60, N60, hv59, pre60⟩ : ∃ (T' : State) (L' : List Loc) (v59 : Int32), Stand p l e ({ frames := 0, cells := 0, slots := 0, locals := 0 } : Room) s m #[(.long q0)] below meth c T' L' 0 0 ∧ T'.heap = h0 ∧ Fr n0 L' ∧ v59 = (if q0 < (10000000000 : Int64) then (0 : Int32) else (1 : Int32)) ∧ (∀ t, Steps p.tables e below (T'.setTop (mkF m 140 #[.val (.long q0), .second] [(.int v59), (.int ((((((((((1 : Int32) + v5) + v11) + v17) + v23) + v29) + v35) + v41) + v47) + v53))])) t → P t) := by
    by_cases hc56 : q0 < (10000000000 : Int64)
    · have pre57 : ∀ t, Steps p.tables e below (T54.setTop (mkF m 140 #[.val (.long q0), .second] [(.int (0 : Int32)), (.int ((((((((((1 : Int32) + v5) + v11) + v17) + v23) + v29) + v35) + v41) + v47) + v53))])) t → P t := fun t k => pre55 t (by
          show Steps p.tables e below (T54.setTop (mkF m 132 #[.val (.long q0), .second] [(.int (lcmpW q0 (10000000000 : Int64))), (.int ((((((((((1 : Int32) + v5) + v11) + v17) + v23) + v29) + v35) + v41) + v47) + v53))])) _
          refine XS.ifYes X54.here hx rfl (pc0 := 132) (pc' := 139) rfl (hb hby d3_132) rfl ((if0 _ _).trans (tlt ((lw_lt _ _).mpr hc56)).1) (by decide) (by decide) ?_
          show Steps p.tables e below (T54.setTop (mkF m 139 #[.val (.long q0), .second] [(.int ((((((((((1 : Int32) + v5) + v11) + v17) + v23) + v29) + v35) + v41) + v47) + v53))])) _
          refine XS.iconst X54.here hx rfl (hb hby d3_139) ?_
          exact k)
      exact ⟨_, _, (0 : Int32), X54, e54, N54, (by first | (rw [if_pos hc56]; done) | simp only [if_pos hc56] | simp [if_pos hc56]), pre57⟩
    · have pre58 : ∀ t, Steps p.tables e below (T54.setTop (mkF m 140 #[.val (.long q0), .second] [(.int (1 : Int32)), (.int ((((((((((1 : Int32) + v5) + v11) + v17) + v23) + v29) + v35) + v41) + v47) + v53))])) t → P t := fun t k => pre55 t (by
          show Steps p.tables e below (T54.setTop (mkF m 132 #[.val (.long q0), .second] [(.int (lcmpW q0 (10000000000 : Int64))), (.int ((((((((((1 : Int32) + v5) + v11) + v17) + v23) + v29) + v35) + v41) + v47) + v53))])) _
          refine XS.ifNo X54.here hx rfl (hb hby d3_132) rfl ((if0 _ _).trans (flt (fun q => hc56 ((lw_lt _ _).mp q))).1) ?_
          show Steps p.tables e below (T54.setTop (mkF m 135 #[.val (.long q0), .second] [(.int ((((((((((1 : Int32) + v5) + v11) + v17) + v23) + v29) + v35) + v41) + v47) + v53))])) _
          refine XS.iconst X54.here hx rfl (hb hby d3_135) ?_
          show Steps p.tables e below (T54.setTop (mkF m 136 #[.val (.long q0), .second] [(.int (1 : Int32)), (.int ((((((((((1 : Int32) + v5) + v11) + v17) + v23) + v29) + v35) + v41) + v47) + v53))])) _
          refine XS.goto X54.here hx rfl (pc0 := 136) (pc' := 140) rfl (hb hby d3_136) (by decide) (by decide) ?_
          exact k)
      exact ⟨_, _, (1 : Int32), X54, e54, N54, (by first | (rw [if_neg hc56]; done) | simp only [if_neg hc56] | simp [if_neg hc56]), pre58⟩
  have pre61 : ∀ t, Steps p.tables e below (T60.setTop (mkF m 146 #[.val (.long q0), .second] [(.int (lcmpW q0 (100000000000 : Int64))), (.int (((((((((((1 : Int32) + v5) + v11) + v17) + v23) + v29) + v35) + v41) + v47) + v53) + v59))])) t → P t := fun t k => pre60 t (by
      show Steps p.tables e below (T60.setTop (mkF m 140 #[.val (.long q0), .second] [(.int v59), (.int ((((((((((1 : Int32) + v5) + v11) + v17) + v23) + v29) + v35) + v41) + v47) + v53))])) _
      refine XS.iadd X60.here hx rfl (hb hby d3_140) rfl ?_
      show Steps p.tables e below (T60.setTop (mkF m 141 #[.val (.long q0), .second] [(.int (((((((((((1 : Int32) + v5) + v11) + v17) + v23) + v29) + v35) + v41) + v47) + v53) + v59))])) _
      refine XS.lloadN X60.here hx rfl (hb hby d3_141) rfl ?_
      show Steps p.tables e below (T60.setTop (mkF m 142 #[.val (.long q0), .second] [(.long q0), (.int (((((((((((1 : Int32) + v5) + v11) + v17) + v23) + v29) + v35) + v41) + v47) + v53) + v59))])) _
      refine X60.ldc2Long hx hown (mvT hZ (hw _ (List.mem_of_getElem? (i := 23) rfl))) (g := (mkF m 142 #[.val (.long q0), .second] [(.long q0), (.int (((((((((((1 : Int32) + v5) + v11) + v17) + v23) + v29) + v35) + v41) + v47) + v53) + v59))])) rfl (hb hby d3_142) _ ?_
      show Steps p.tables e below (T60.setTop (mkF m 145 #[.val (.long q0), .second] [(.long (100000000000 : Int64)), (.long q0), (.int (((((((((((1 : Int32) + v5) + v11) + v17) + v23) + v29) + v35) + v41) + v47) + v53) + v59))])) _
      refine XS.lcmp X60.here hx rfl (hb hby d3_145) rfl ?_
      exact k)
  obtain ⟨T66, L66, v65, X66, e66, N66, hv65, pre66⟩ : ∃ (T' : State) (L' : List Loc) (v65 : Int32), Stand p l e ({ frames := 0, cells := 0, slots := 0, locals := 0 } : Room) s m #[(.long q0)] below meth c T' L' 0 0 ∧ T'.heap = h0 ∧ Fr n0 L' ∧ v65 = (if q0 < (100000000000 : Int64) then (0 : Int32) else (1 : Int32)) ∧ (∀ t, Steps p.tables e below (T'.setTop (mkF m 154 #[.val (.long q0), .second] [(.int v65), (.int (((((((((((1 : Int32) + v5) + v11) + v17) + v23) + v29) + v35) + v41) + v47) + v53) + v59))])) t → P t) := by
    by_cases hc62 : q0 < (100000000000 : Int64)
    · have pre63 : ∀ t, Steps p.tables e below (T60.setTop (mkF m 154 #[.val (.long q0), .second] [(.int (0 : Int32)), (.int (((((((((((1 : Int32) + v5) + v11) + v17) + v23) + v29) + v35) + v41) + v47) + v53) + v59))])) t → P t := fun t k => pre61 t (by
          show Steps p.tables e below (T60.setTop (mkF m 146 #[.val (.long q0), .second] [(.int (lcmpW q0 (100000000000 : Int64))), (.int (((((((((((1 : Int32) + v5) + v11) + v17) + v23) + v29) + v35) + v41) + v47) + v53) + v59))])) _
          refine XS.ifYes X60.here hx rfl (pc0 := 146) (pc' := 153) rfl (hb hby d3_146) rfl ((if0 _ _).trans (tlt ((lw_lt _ _).mpr hc62)).1) (by decide) (by decide) ?_
          show Steps p.tables e below (T60.setTop (mkF m 153 #[.val (.long q0), .second] [(.int (((((((((((1 : Int32) + v5) + v11) + v17) + v23) + v29) + v35) + v41) + v47) + v53) + v59))])) _
          refine XS.iconst X60.here hx rfl (hb hby d3_153) ?_
          exact k)
      exact ⟨_, _, (0 : Int32), X60, e60, N60, (by first | (rw [if_pos hc62]; done) | simp only [if_pos hc62] | simp [if_pos hc62]), pre63⟩
    · have pre64 : ∀ t, Steps p.tables e below (T60.setTop (mkF m 154 #[.val (.long q0), .second] [(.int (1 : Int32)), (.int (((((((((((1 : Int32) + v5) + v11) + v17) + v23) + v29) + v35) + v41) + v47) + v53) + v59))])) t → P t := fun t k => pre61 t (by
          show Steps p.tables e below (T60.setTop (mkF m 146 #[.val (.long q0), .second] [(.int (lcmpW q0 (100000000000 : Int64))), (.int (((((((((((1 : Int32) + v5) + v11) + v17) + v23) + v29) + v35) + v41) + v47) + v53) + v59))])) _
          refine XS.ifNo X60.here hx rfl (hb hby d3_146) rfl ((if0 _ _).trans (flt (fun q => hc62 ((lw_lt _ _).mp q))).1) ?_
          show Steps p.tables e below (T60.setTop (mkF m 149 #[.val (.long q0), .second] [(.int (((((((((((1 : Int32) + v5) + v11) + v17) + v23) + v29) + v35) + v41) + v47) + v53) + v59))])) _
          refine XS.iconst X60.here hx rfl (hb hby d3_149) ?_
          show Steps p.tables e below (T60.setTop (mkF m 150 #[.val (.long q0), .second] [(.int (1 : Int32)), (.int (((((((((((1 : Int32) + v5) + v11) + v17) + v23) + v29) + v35) + v41) + v47) + v53) + v59))])) _
          refine XS.goto X60.here hx rfl (pc0 := 150) (pc' := 154) rfl (hb hby d3_150) (by decide) (by decide) ?_
          exact k)
      exact ⟨_, _, (1 : Int32), X60, e60, N60, (by first | (rw [if_neg hc62]; done) | simp only [if_neg hc62] | simp [if_neg hc62]), pre64⟩
  have pre67 : ∀ t, Steps p.tables e below (T66.setTop (mkF m 160 #[.val (.long q0), .second] [(.int (lcmpW q0 (1000000000000 : Int64))), (.int ((((((((((((1 : Int32) + v5) + v11) + v17) + v23) + v29) + v35) + v41) + v47) + v53) + v59) + v65))])) t → P t := fun t k => pre66 t (by
      show Steps p.tables e below (T66.setTop (mkF m 154 #[.val (.long q0), .second] [(.int v65), (.int (((((((((((1 : Int32) + v5) + v11) + v17) + v23) + v29) + v35) + v41) + v47) + v53) + v59))])) _
      refine XS.iadd X66.here hx rfl (hb hby d3_154) rfl ?_
      show Steps p.tables e below (T66.setTop (mkF m 155 #[.val (.long q0), .second] [(.int ((((((((((((1 : Int32) + v5) + v11) + v17) + v23) + v29) + v35) + v41) + v47) + v53) + v59) + v65))])) _
      refine XS.lloadN X66.here hx rfl (hb hby d3_155) rfl ?_
      show Steps p.tables e below (T66.setTop (mkF m 156 #[.val (.long q0), .second] [(.long q0), (.int ((((((((((((1 : Int32) + v5) + v11) + v17) + v23) + v29) + v35) + v41) + v47) + v53) + v59) + v65))])) _
      refine X66.ldc2Long hx hown (mvT hZ (hw _ (List.mem_of_getElem? (i := 24) rfl))) (g := (mkF m 156 #[.val (.long q0), .second] [(.long q0), (.int ((((((((((((1 : Int32) + v5) + v11) + v17) + v23) + v29) + v35) + v41) + v47) + v53) + v59) + v65))])) rfl (hb hby d3_156) _ ?_
      show Steps p.tables e below (T66.setTop (mkF m 159 #[.val (.long q0), .second] [(.long (1000000000000 : Int64)), (.long q0), (.int ((((((((((((1 : Int32) + v5) + v11) + v17) + v23) + v29) + v35) + v41) + v47) + v53) + v59) + v65))])) _
      refine XS.lcmp X66.here hx rfl (hb hby d3_159) rfl ?_
      exact k)
  obtain ⟨T72, L72, v71, X72, e72, N72, hv71, pre72⟩ : ∃ (T' : State) (L' : List Loc) (v71 : Int32), Stand p l e ({ frames := 0, cells := 0, slots := 0, locals := 0 } : Room) s m #[(.long q0)] below meth c T' L' 0 0 ∧ T'.heap = h0 ∧ Fr n0 L' ∧ v71 = (if q0 < (1000000000000 : Int64) then (0 : Int32) else (1 : Int32)) ∧ (∀ t, Steps p.tables e below (T'.setTop (mkF m 168 #[.val (.long q0), .second] [(.int v71), (.int ((((((((((((1 : Int32) + v5) + v11) + v17) + v23) + v29) + v35) + v41) + v47) + v53) + v59) + v65))])) t → P t) := by
    by_cases hc68 : q0 < (1000000000000 : Int64)
    · have pre69 : ∀ t, Steps p.tables e below (T66.setTop (mkF m 168 #[.val (.long q0), .second] [(.int (0 : Int32)), (.int ((((((((((((1 : Int32) + v5) + v11) + v17) + v23) + v29) + v35) + v41) + v47) + v53) + v59) + v65))])) t → P t := fun t k => pre67 t (by
          show Steps p.tables e below (T66.setTop (mkF m 160 #[.val (.long q0), .second] [(.int (lcmpW q0 (1000000000000 : Int64))), (.int ((((((((((((1 : Int32) + v5) + v11) + v17) + v23) + v29) + v35) + v41) + v47) + v53) + v59) + v65))])) _
          refine XS.ifYes X66.here hx rfl (pc0 := 160) (pc' := 167) rfl (hb hby d3_160) rfl ((if0 _ _).trans (tlt ((lw_lt _ _).mpr hc68)).1) (by decide) (by decide) ?_
          show Steps p.tables e below (T66.setTop (mkF m 167 #[.val (.long q0), .second] [(.int ((((((((((((1 : Int32) + v5) + v11) + v17) + v23) + v29) + v35) + v41) + v47) + v53) + v59) + v65))])) _
          refine XS.iconst X66.here hx rfl (hb hby d3_167) ?_
          exact k)
      exact ⟨_, _, (0 : Int32), X66, e66, N66, (by first | (rw [if_pos hc68]; done) | simp only [if_pos hc68] | simp [if_pos hc68]), pre69⟩
    · have pre70 : ∀ t, Steps p.tables e below (T66.setTop (mkF m 168 #[.val (.long q0), .second] [(.int (1 : Int32)), (.int ((((((((((((1 : Int32) + v5) + v11) + v17) + v23) + v29) + v35) + v41) + v47) + v53) + v59) + v65))])) t → P t := fun t k => pre67 t (by
          show Steps p.tables e below (T66.setTop (mkF m 160 #[.val (.long q0), .second] [(.int (lcmpW q0 (1000000000000 : Int64))), (.int ((((((((((((1 : Int32) + v5) + v11) + v17) + v23) + v29) + v35) + v41) + v47) + v53) + v59) + v65))])) _
          refine XS.ifNo X66.here hx rfl (hb hby d3_160) rfl ((if0 _ _).trans (flt (fun q => hc68 ((lw_lt _ _).mp q))).1) ?_
          show Steps p.tables e below (T66.setTop (mkF m 163 #[.val (.long q0), .second] [(.int ((((((((((((1 : Int32) + v5) + v11) + v17) + v23) + v29) + v35) + v41) + v47) + v53) + v59) + v65))])) _
          refine XS.iconst X66.here hx rfl (hb hby d3_163) ?_
          show Steps p.tables e below (T66.setTop (mkF m 164 #[.val (.long q0), .second] [(.int (1 : Int32)), (.int ((((((((((((1 : Int32) + v5) + v11) + v17) + v23) + v29) + v35) + v41) + v47) + v53) + v59) + v65))])) _
          refine XS.goto X66.here hx rfl (pc0 := 164) (pc' := 168) rfl (hb hby d3_164) (by decide) (by decide) ?_
          exact k)
      exact ⟨_, _, (1 : Int32), X66, e66, N66, (by first | (rw [if_neg hc68]; done) | simp only [if_neg hc68] | simp [if_neg hc68]), pre70⟩
  have pre73 : ∀ t, Steps p.tables e below (T72.setTop (mkF m 174 #[.val (.long q0), .second] [(.int (lcmpW q0 (10000000000000 : Int64))), (.int (((((((((((((1 : Int32) + v5) + v11) + v17) + v23) + v29) + v35) + v41) + v47) + v53) + v59) + v65) + v71))])) t → P t := fun t k => pre72 t (by
      show Steps p.tables e below (T72.setTop (mkF m 168 #[.val (.long q0), .second] [(.int v71), (.int ((((((((((((1 : Int32) + v5) + v11) + v17) + v23) + v29) + v35) + v41) + v47) + v53) + v59) + v65))])) _
      refine XS.iadd X72.here hx rfl (hb hby d3_168) rfl ?_
      show Steps p.tables e below (T72.setTop (mkF m 169 #[.val (.long q0), .second] [(.int (((((((((((((1 : Int32) + v5) + v11) + v17) + v23) + v29) + v35) + v41) + v47) + v53) + v59) + v65) + v71))])) _
      refine XS.lloadN X72.here hx rfl (hb hby d3_169) rfl ?_
      show Steps p.tables e below (T72.setTop (mkF m 170 #[.val (.long q0), .second] [(.long q0), (.int (((((((((((((1 : Int32) + v5) + v11) + v17) + v23) + v29) + v35) + v41) + v47) + v53) + v59) + v65) + v71))])) _
      refine X72.ldc2Long hx hown (mvT hZ (hw _ (List.mem_of_getElem? (i := 25) rfl))) (g := (mkF m 170 #[.val (.long q0), .second] [(.long q0), (.int (((((((((((((1 : Int32) + v5) + v11) + v17) + v23) + v29) + v35) + v41) + v47) + v53) + v59) + v65) + v71))])) rfl (hb hby d3_170) _ ?_
      show Steps p.tables e below (T72.setTop (mkF m 173 #[.val (.long q0), .second] [(.long (10000000000000 : Int64)), (.long q0), (.int (((((((((((((1 : Int32) + v5) + v11) + v17) + v23) + v29) + v35) + v41) + v47) + v53) + v59) + v65) + v71))])) _
      refine XS.lcmp X72.here hx rfl (hb hby d3_173) rfl ?_
      exact k)
  obtain ⟨T78, L78, v77, X78, e78, N78, hv77, pre78⟩ : ∃ (T' : State) (L' : List Loc) (v77 : Int32), Stand p l e ({ frames := 0, cells := 0, slots := 0, locals := 0 } : Room) s m #[(.long q0)] below meth c T' L' 0 0 ∧ T'.heap = h0 ∧ Fr n0 L' ∧ v77 = (if q0 < (10000000000000 : Int64) then (0 : Int32) else (1 : Int32)) ∧ (∀ t, Steps p.tables e below (T'.setTop (mkF m 182 #[.val (.long q0), .second] [(.int v77), (.int (((((((((((((1 : Int32) + v5) + v11) + v17) + v23) + v29) + v35) + v41) + v47) + v53) + v59) + v65) + v71))])) t → P t) := by
    by_cases hc74 : q0 < (10000000000000 : Int64)
    · have pre75 : ∀ t, Steps p.tables e below (T72.setTop (mkF m 182 #[.val (.long q0), .second] [(.int (0 : Int32)), (.int (((((((((((((1 : Int32) + v5) + v11) + v17) + v23) + v29) + v35) + v41) + v47) + v53) + v59) + v65) + v71))])) t → P t := fun t k => pre73 t (by
          show Steps p.tables e below (T72.setTop (mkF m 174 #[.val (.long q0), .second] [(.int (lcmpW q0 (10000000000000 : Int64))), (.int (((((((((((((1 : Int32) + v5) + v11) + v17) + v23) + v29) + v35) + v41) + v47) + v53) + v59) + v65) + v71))])) _
          refine XS.ifYes X72.here hx rfl (pc0 := 174) (pc' := 181) rfl (hb hby d3_174) rfl ((if0 _ _).trans (tlt ((lw_lt _ _).mpr hc74)).1) (by decide) (by decide) ?_
          show Steps p.tables e below (T72.setTop (mkF m 181 #[.val (.long q0), .second] [(.int (((((((((((((1 : Int32) + v5) + v11) + v17) + v23) + v29) + v35) + v41) + v47) + v53) + v59) + v65) + v71))])) _
          refine XS.iconst X72.here hx rfl (hb hby d3_181) ?_
          exact k)
      exact ⟨_, _, (0 : Int32), X72, e72, N72, (by first | (rw [if_pos hc74]; done) | simp only [if_pos hc74] | simp [if_pos hc74]), pre75⟩
    · have pre76 : ∀ t, Steps p.tables e below (T72.setTop (mkF m 182 #[.val (.long q0), .second] [(.int (1 : Int32)), (.int (((((((((((((1 : Int32) + v5) + v11) + v17) + v23) + v29) + v35) + v41) + v47) + v53) + v59) + v65) + v71))])) t → P t := fun t k => pre73 t (by
          show Steps p.tables e below (T72.setTop (mkF m 174 #[.val (.long q0), .second] [(.int (lcmpW q0 (10000000000000 : Int64))), (.int (((((((((((((1 : Int32) + v5) + v11) + v17) + v23) + v29) + v35) + v41) + v47) + v53) + v59) + v65) + v71))])) _
          refine XS.ifNo X72.here hx rfl (hb hby d3_174) rfl ((if0 _ _).trans (flt (fun q => hc74 ((lw_lt _ _).mp q))).1) ?_
          show Steps p.tables e below (T72.setTop (mkF m 177 #[.val (.long q0), .second] [(.int (((((((((((((1 : Int32) + v5) + v11) + v17) + v23) + v29) + v35) + v41) + v47) + v53) + v59) + v65) + v71))])) _
          refine XS.iconst X72.here hx rfl (hb hby d3_177) ?_
          show Steps p.tables e below (T72.setTop (mkF m 178 #[.val (.long q0), .second] [(.int (1 : Int32)), (.int (((((((((((((1 : Int32) + v5) + v11) + v17) + v23) + v29) + v35) + v41) + v47) + v53) + v59) + v65) + v71))])) _
          refine XS.goto X72.here hx rfl (pc0 := 178) (pc' := 182) rfl (hb hby d3_178) (by decide) (by decide) ?_
          exact k)
      exact ⟨_, _, (1 : Int32), X72, e72, N72, (by first | (rw [if_neg hc74]; done) | simp only [if_neg hc74] | simp [if_neg hc74]), pre76⟩
  have pre79 : ∀ t, Steps p.tables e below (T78.setTop (mkF m 188 #[.val (.long q0), .second] [(.int (lcmpW q0 (100000000000000 : Int64))), (.int ((((((((((((((1 : Int32) + v5) + v11) + v17) + v23) + v29) + v35) + v41) + v47) + v53) + v59) + v65) + v71) + v77))])) t → P t := fun t k => pre78 t (by
      show Steps p.tables e below (T78.setTop (mkF m 182 #[.val (.long q0), .second] [(.int v77), (.int (((((((((((((1 : Int32) + v5) + v11) + v17) + v23) + v29) + v35) + v41) + v47) + v53) + v59) + v65) + v71))])) _
      refine XS.iadd X78.here hx rfl (hb hby d3_182) rfl ?_
      show Steps p.tables e below (T78.setTop (mkF m 183 #[.val (.long q0), .second] [(.int ((((((((((((((1 : Int32) + v5) + v11) + v17) + v23) + v29) + v35) + v41) + v47) + v53) + v59) + v65) + v71) + v77))])) _
      refine XS.lloadN X78.here hx rfl (hb hby d3_183) rfl ?_
      show Steps p.tables e below (T78.setTop (mkF m 184 #[.val (.long q0), .second] [(.long q0), (.int ((((((((((((((1 : Int32) + v5) + v11) + v17) + v23) + v29) + v35) + v41) + v47) + v53) + v59) + v65) + v71) + v77))])) _
      refine X78.ldc2Long hx hown (mvT hZ (hw _ (List.mem_of_getElem? (i := 26) rfl))) (g := (mkF m 184 #[.val (.long q0), .second] [(.long q0), (.int ((((((((((((((1 : Int32) + v5) + v11) + v17) + v23) + v29) + v35) + v41) + v47) + v53) + v59) + v65) + v71) + v77))])) rfl (hb hby d3_184) _ ?_
      show Steps p.tables e below (T78.setTop (mkF m 187 #[.val (.long q0), .second] [(.long (100000000000000 : Int64)), (.long q0), (.int ((((((((((((((1 : Int32) + v5) + v11) + v17) + v23) + v29) + v35) + v41) + v47) + v53) + v59) + v65) + v71) + v77))])) _
      refine XS.lcmp X78.here hx rfl (hb hby d3_187) rfl ?_
      exact k)
  obtain ⟨T84, L84, v83, X84, e84, N84, hv83, pre84⟩ : ∃ (T' : State) (L' : List Loc) (v83 : Int32), Stand p l e ({ frames := 0, cells := 0, slots := 0, locals := 0 } : Room) s m #[(.long q0)] below meth c T' L' 0 0 ∧ T'.heap = h0 ∧ Fr n0 L' ∧ v83 = (if q0 < (100000000000000 : Int64) then (0 : Int32) else (1 : Int32)) ∧ (∀ t, Steps p.tables e below (T'.setTop (mkF m 196 #[.val (.long q0), .second] [(.int v83), (.int ((((((((((((((1 : Int32) + v5) + v11) + v17) + v23) + v29) + v35) + v41) + v47) + v53) + v59) + v65) + v71) + v77))])) t → P t) := by
    by_cases hc80 : q0 < (100000000000000 : Int64)
    · have pre81 : ∀ t, Steps p.tables e below (T78.setTop (mkF m 196 #[.val (.long q0), .second] [(.int (0 : Int32)), (.int ((((((((((((((1 : Int32) + v5) + v11) + v17) + v23) + v29) + v35) + v41) + v47) + v53) + v59) + v65) + v71) + v77))])) t → P t := fun t k => pre79 t (by
          show Steps p.tables e below (T78.setTop (mkF m 188 #[.val (.long q0), .second] [(.int (lcmpW q0 (100000000000000 : Int64))), (.int ((((((((((((((1 : Int32) + v5) + v11) + v17) + v23) + v29) + v35) + v41) + v47) + v53) + v59) + v65) + v71) + v77))])) _
          refine XS.ifYes X78.here hx rfl (pc0 := 188) (pc' := 195) rfl (hb hby d3_188) rfl ((if0 _ _).trans (tlt ((lw_lt _ _).mpr hc80)).1) (by decide) (by decide) ?_
          show Steps p.tables e below (T78.setTop (mkF m 195 #[.val (.long q0), .second] [(.int ((((((((((((((1 : Int32) + v5) + v11) + v17) + v23) + v29) + v35) + v41) + v47) + v53) + v59) + v65) + v71) + v77))])) _
          refine XS.iconst X78.here hx rfl (hb hby d3_195) ?_
          exact k)
      exact ⟨_, _, (0 : Int32), X78, e78, N78, (by first | (rw [if_pos hc80]; done) | simp only [if_pos hc80] | simp [if_pos hc80]), pre81⟩
    · have pre82 : ∀ t, Steps p.tables e below (T78.setTop (mkF m 196 #[.val (.long q0), .second] [(.int (1 : Int32)), (.int ((((((((((((((1 : Int32) + v5) + v11) + v17) + v23) + v29) + v35) + v41) + v47) + v53) + v59) + v65) + v71) + v77))])) t → P t := fun t k => pre79 t (by
          show Steps p.tables e below (T78.setTop (mkF m 188 #[.val (.long q0), .second] [(.int (lcmpW q0 (100000000000000 : Int64))), (.int ((((((((((((((1 : Int32) + v5) + v11) + v17) + v23) + v29) + v35) + v41) + v47) + v53) + v59) + v65) + v71) + v77))])) _
          refine XS.ifNo X78.here hx rfl (hb hby d3_188) rfl ((if0 _ _).trans (flt (fun q => hc80 ((lw_lt _ _).mp q))).1) ?_
          show Steps p.tables e below (T78.setTop (mkF m 191 #[.val (.long q0), .second] [(.int ((((((((((((((1 : Int32) + v5) + v11) + v17) + v23) + v29) + v35) + v41) + v47) + v53) + v59) + v65) + v71) + v77))])) _
          refine XS.iconst X78.here hx rfl (hb hby d3_191) ?_
          show Steps p.tables e below (T78.setTop (mkF m 192 #[.val (.long q0), .second] [(.int (1 : Int32)), (.int ((((((((((((((1 : Int32) + v5) + v11) + v17) + v23) + v29) + v35) + v41) + v47) + v53) + v59) + v65) + v71) + v77))])) _
          refine XS.goto X78.here hx rfl (pc0 := 192) (pc' := 196) rfl (hb hby d3_192) (by decide) (by decide) ?_
          exact k)
      exact ⟨_, _, (1 : Int32), X78, e78, N78, (by first | (rw [if_neg hc80]; done) | simp only [if_neg hc80] | simp [if_neg hc80]), pre82⟩
  have pre85 : ∀ t, Steps p.tables e below (T84.setTop (mkF m 202 #[.val (.long q0), .second] [(.int (lcmpW q0 (1000000000000000 : Int64))), (.int (((((((((((((((1 : Int32) + v5) + v11) + v17) + v23) + v29) + v35) + v41) + v47) + v53) + v59) + v65) + v71) + v77) + v83))])) t → P t := fun t k => pre84 t (by
      show Steps p.tables e below (T84.setTop (mkF m 196 #[.val (.long q0), .second] [(.int v83), (.int ((((((((((((((1 : Int32) + v5) + v11) + v17) + v23) + v29) + v35) + v41) + v47) + v53) + v59) + v65) + v71) + v77))])) _
      refine XS.iadd X84.here hx rfl (hb hby d3_196) rfl ?_
      show Steps p.tables e below (T84.setTop (mkF m 197 #[.val (.long q0), .second] [(.int (((((((((((((((1 : Int32) + v5) + v11) + v17) + v23) + v29) + v35) + v41) + v47) + v53) + v59) + v65) + v71) + v77) + v83))])) _
      refine XS.lloadN X84.here hx rfl (hb hby d3_197) rfl ?_
      show Steps p.tables e below (T84.setTop (mkF m 198 #[.val (.long q0), .second] [(.long q0), (.int (((((((((((((((1 : Int32) + v5) + v11) + v17) + v23) + v29) + v35) + v41) + v47) + v53) + v59) + v65) + v71) + v77) + v83))])) _
      refine X84.ldc2Long hx hown (mvT hZ (hw _ (List.mem_of_getElem? (i := 27) rfl))) (g := (mkF m 198 #[.val (.long q0), .second] [(.long q0), (.int (((((((((((((((1 : Int32) + v5) + v11) + v17) + v23) + v29) + v35) + v41) + v47) + v53) + v59) + v65) + v71) + v77) + v83))])) rfl (hb hby d3_198) _ ?_
      show Steps p.tables e below (T84.setTop (mkF m 201 #[.val (.long q0), .second] [(.long (1000000000000000 : Int64)), (.long q0), (.int (((((((((((((((1 : Int32) + v5) + v11) + v17) + v23) + v29) + v35) + v41) + v47) + v53) + v59) + v65) + v71) + v77) + v83))])) _
      refine XS.lcmp X84.here hx rfl (hb hby d3_201) rfl ?_
      exact k)
  obtain ⟨T90, L90, v89, X90, e90, N90, hv89, pre90⟩ : ∃ (T' : State) (L' : List Loc) (v89 : Int32), Stand p l e ({ frames := 0, cells := 0, slots := 0, locals := 0 } : Room) s m #[(.long q0)] below meth c T' L' 0 0 ∧ T'.heap = h0 ∧ Fr n0 L' ∧ v89 = (if q0 < (1000000000000000 : Int64) then (0 : Int32) else (1 : Int32)) ∧ (∀ t, Steps p.tables e below (T'.setTop (mkF m 210 #[.val (.long q0), .second] [(.int v89), (.int (((((((((((((((1 : Int32) + v5) + v11) + v17) + v23) + v29) + v35) + v41) + v47) + v53) + v59) + v65) + v71) + v77) + v83))])) t → P t) := by
    by_cases hc86 : q0 < (1000000000000000 : Int64)
    · have pre87 : ∀ t, Steps p.tables e below (T84.setTop (mkF m 210 #[.val (.long q0), .second] [(.int (0 : Int32)), (.int (((((((((((((((1 : Int32) + v5) + v11) + v17) + v23) + v29) + v35) + v41) + v47) + v53) + v59) + v65) + v71) + v77) + v83))])) t → P t := fun t k => pre85 t (by
          show Steps p.tables e below (T84.setTop (mkF m 202 #[.val (.long q0), .second] [(.int (lcmpW q0 (1000000000000000 : Int64))), (.int (((((((((((((((1 : Int32) + v5) + v11) + v17) + v23) + v29) + v35) + v41) + v47) + v53) + v59) + v65) + v71) + v77) + v83))])) _
          refine XS.ifYes X84.here hx rfl (pc0 := 202) (pc' := 209) rfl (hb hby d3_202) rfl ((if0 _ _).trans (tlt ((lw_lt _ _).mpr hc86)).1) (by decide) (by decide) ?_
          show Steps p.tables e below (T84.setTop (mkF m 209 #[.val (.long q0), .second] [(.int (((((((((((((((1 : Int32) + v5) + v11) + v17) + v23) + v29) + v35) + v41) + v47) + v53) + v59) + v65) + v71) + v77) + v83))])) _
          refine XS.iconst X84.here hx rfl (hb hby d3_209) ?_
          exact k)
      exact ⟨_, _, (0 : Int32), X84, e84, N84, (by first | (rw [if_pos hc86]; done) | simp only [if_pos hc86] | simp [if_pos hc86]), pre87⟩
    · have pre88 : ∀ t, Steps p.tables e below (T84.setTop (mkF m 210 #[.val (.long q0), .second] [(.int (1 : Int32)), (.int (((((((((((((((1 : Int32) + v5) + v11) + v17) + v23) + v29) + v35) + v41) + v47) + v53) + v59) + v65) + v71) + v77) + v83))])) t → P t := fun t k => pre85 t (by
          show Steps p.tables e below (T84.setTop (mkF m 202 #[.val (.long q0), .second] [(.int (lcmpW q0 (1000000000000000 : Int64))), (.int (((((((((((((((1 : Int32) + v5) + v11) + v17) + v23) + v29) + v35) + v41) + v47) + v53) + v59) + v65) + v71) + v77) + v83))])) _
          refine XS.ifNo X84.here hx rfl (hb hby d3_202) rfl ((if0 _ _).trans (flt (fun q => hc86 ((lw_lt _ _).mp q))).1) ?_
          show Steps p.tables e below (T84.setTop (mkF m 205 #[.val (.long q0), .second] [(.int (((((((((((((((1 : Int32) + v5) + v11) + v17) + v23) + v29) + v35) + v41) + v47) + v53) + v59) + v65) + v71) + v77) + v83))])) _
          refine XS.iconst X84.here hx rfl (hb hby d3_205) ?_
          show Steps p.tables e below (T84.setTop (mkF m 206 #[.val (.long q0), .second] [(.int (1 : Int32)), (.int (((((((((((((((1 : Int32) + v5) + v11) + v17) + v23) + v29) + v35) + v41) + v47) + v53) + v59) + v65) + v71) + v77) + v83))])) _
          refine XS.goto X84.here hx rfl (pc0 := 206) (pc' := 210) rfl (hb hby d3_206) (by decide) (by decide) ?_
          exact k)
      exact ⟨_, _, (1 : Int32), X84, e84, N84, (by first | (rw [if_neg hc86]; done) | simp only [if_neg hc86] | simp [if_neg hc86]), pre88⟩
  have pre91 : ∀ t, Steps p.tables e below (T90.setTop (mkF m 216 #[.val (.long q0), .second] [(.int (lcmpW q0 (10000000000000000 : Int64))), (.int ((((((((((((((((1 : Int32) + v5) + v11) + v17) + v23) + v29) + v35) + v41) + v47) + v53) + v59) + v65) + v71) + v77) + v83) + v89))])) t → P t := fun t k => pre90 t (by
      show Steps p.tables e below (T90.setTop (mkF m 210 #[.val (.long q0), .second] [(.int v89), (.int (((((((((((((((1 : Int32) + v5) + v11) + v17) + v23) + v29) + v35) + v41) + v47) + v53) + v59) + v65) + v71) + v77) + v83))])) _
      refine XS.iadd X90.here hx rfl (hb hby d3_210) rfl ?_
      show Steps p.tables e below (T90.setTop (mkF m 211 #[.val (.long q0), .second] [(.int ((((((((((((((((1 : Int32) + v5) + v11) + v17) + v23) + v29) + v35) + v41) + v47) + v53) + v59) + v65) + v71) + v77) + v83) + v89))])) _
      refine XS.lloadN X90.here hx rfl (hb hby d3_211) rfl ?_
      show Steps p.tables e below (T90.setTop (mkF m 212 #[.val (.long q0), .second] [(.long q0), (.int ((((((((((((((((1 : Int32) + v5) + v11) + v17) + v23) + v29) + v35) + v41) + v47) + v53) + v59) + v65) + v71) + v77) + v83) + v89))])) _
      refine X90.ldc2Long hx hown (mvT hZ (hw _ (List.mem_of_getElem? (i := 28) rfl))) (g := (mkF m 212 #[.val (.long q0), .second] [(.long q0), (.int ((((((((((((((((1 : Int32) + v5) + v11) + v17) + v23) + v29) + v35) + v41) + v47) + v53) + v59) + v65) + v71) + v77) + v83) + v89))])) rfl (hb hby d3_212) _ ?_
      show Steps p.tables e below (T90.setTop (mkF m 215 #[.val (.long q0), .second] [(.long (10000000000000000 : Int64)), (.long q0), (.int ((((((((((((((((1 : Int32) + v5) + v11) + v17) + v23) + v29) + v35) + v41) + v47) + v53) + v59) + v65) + v71) + v77) + v83) + v89))])) _
      refine XS.lcmp X90.here hx rfl (hb hby d3_215) rfl ?_
      exact k)
  obtain ⟨T96, L96, v95, X96, e96, N96, hv95, pre96⟩ : ∃ (T' : State) (L' : List Loc) (v95 : Int32), Stand p l e ({ frames := 0, cells := 0, slots := 0, locals := 0 } : Room) s m #[(.long q0)] below meth c T' L' 0 0 ∧ T'.heap = h0 ∧ Fr n0 L' ∧ v95 = (if q0 < (10000000000000000 : Int64) then (0 : Int32) else (1 : Int32)) ∧ (∀ t, Steps p.tables e below (T'.setTop (mkF m 224 #[.val (.long q0), .second] [(.int v95), (.int ((((((((((((((((1 : Int32) + v5) + v11) + v17) + v23) + v29) + v35) + v41) + v47) + v53) + v59) + v65) + v71) + v77) + v83) + v89))])) t → P t) := by
    by_cases hc92 : q0 < (10000000000000000 : Int64)
    · have pre93 : ∀ t, Steps p.tables e below (T90.setTop (mkF m 224 #[.val (.long q0), .second] [(.int (0 : Int32)), (.int ((((((((((((((((1 : Int32) + v5) + v11) + v17) + v23) + v29) + v35) + v41) + v47) + v53) + v59) + v65) + v71) + v77) + v83) + v89))])) t → P t := fun t k => pre91 t (by
          show Steps p.tables e below (T90.setTop (mkF m 216 #[.val (.long q0), .second] [(.int (lcmpW q0 (10000000000000000 : Int64))), (.int ((((((((((((((((1 : Int32) + v5) + v11) + v17) + v23) + v29) + v35) + v41) + v47) + v53) + v59) + v65) + v71) + v77) + v83) + v89))])) _
          refine XS.ifYes X90.here hx rfl (pc0 := 216) (pc' := 223) rfl (hb hby d3_216) rfl ((if0 _ _).trans (tlt ((lw_lt _ _).mpr hc92)).1) (by decide) (by decide) ?_
          show Steps p.tables e below (T90.setTop (mkF m 223 #[.val (.long q0), .second] [(.int ((((((((((((((((1 : Int32) + v5) + v11) + v17) + v23) + v29) + v35) + v41) + v47) + v53) + v59) + v65) + v71) + v77) + v83) + v89))])) _
          refine XS.iconst X90.here hx rfl (hb hby d3_223) ?_
          exact k)
      exact ⟨_, _, (0 : Int32), X90, e90, N90, (by first | (rw [if_pos hc92]; done) | simp only [if_pos hc92] | simp [if_pos hc92]), pre93⟩
    · have pre94 : ∀ t, Steps p.tables e below (T90.setTop (mkF m 224 #[.val (.long q0), .second] [(.int (1 : Int32)), (.int ((((((((((((((((1 : Int32) + v5) + v11) + v17) + v23) + v29) + v35) + v41) + v47) + v53) + v59) + v65) + v71) + v77) + v83) + v89))])) t → P t := fun t k => pre91 t (by
          show Steps p.tables e below (T90.setTop (mkF m 216 #[.val (.long q0), .second] [(.int (lcmpW q0 (10000000000000000 : Int64))), (.int ((((((((((((((((1 : Int32) + v5) + v11) + v17) + v23) + v29) + v35) + v41) + v47) + v53) + v59) + v65) + v71) + v77) + v83) + v89))])) _
          refine XS.ifNo X90.here hx rfl (hb hby d3_216) rfl ((if0 _ _).trans (flt (fun q => hc92 ((lw_lt _ _).mp q))).1) ?_
          show Steps p.tables e below (T90.setTop (mkF m 219 #[.val (.long q0), .second] [(.int ((((((((((((((((1 : Int32) + v5) + v11) + v17) + v23) + v29) + v35) + v41) + v47) + v53) + v59) + v65) + v71) + v77) + v83) + v89))])) _
          refine XS.iconst X90.here hx rfl (hb hby d3_219) ?_
          show Steps p.tables e below (T90.setTop (mkF m 220 #[.val (.long q0), .second] [(.int (1 : Int32)), (.int ((((((((((((((((1 : Int32) + v5) + v11) + v17) + v23) + v29) + v35) + v41) + v47) + v53) + v59) + v65) + v71) + v77) + v83) + v89))])) _
          refine XS.goto X90.here hx rfl (pc0 := 220) (pc' := 224) rfl (hb hby d3_220) (by decide) (by decide) ?_
          exact k)
      exact ⟨_, _, (1 : Int32), X90, e90, N90, (by first | (rw [if_neg hc92]; done) | simp only [if_neg hc92] | simp [if_neg hc92]), pre94⟩
  have pre97 : ∀ t, Steps p.tables e below (T96.setTop (mkF m 230 #[.val (.long q0), .second] [(.int (lcmpW q0 (100000000000000000 : Int64))), (.int (((((((((((((((((1 : Int32) + v5) + v11) + v17) + v23) + v29) + v35) + v41) + v47) + v53) + v59) + v65) + v71) + v77) + v83) + v89) + v95))])) t → P t := fun t k => pre96 t (by
      show Steps p.tables e below (T96.setTop (mkF m 224 #[.val (.long q0), .second] [(.int v95), (.int ((((((((((((((((1 : Int32) + v5) + v11) + v17) + v23) + v29) + v35) + v41) + v47) + v53) + v59) + v65) + v71) + v77) + v83) + v89))])) _
      refine XS.iadd X96.here hx rfl (hb hby d3_224) rfl ?_
      show Steps p.tables e below (T96.setTop (mkF m 225 #[.val (.long q0), .second] [(.int (((((((((((((((((1 : Int32) + v5) + v11) + v17) + v23) + v29) + v35) + v41) + v47) + v53) + v59) + v65) + v71) + v77) + v83) + v89) + v95))])) _
      refine XS.lloadN X96.here hx rfl (hb hby d3_225) rfl ?_
      show Steps p.tables e below (T96.setTop (mkF m 226 #[.val (.long q0), .second] [(.long q0), (.int (((((((((((((((((1 : Int32) + v5) + v11) + v17) + v23) + v29) + v35) + v41) + v47) + v53) + v59) + v65) + v71) + v77) + v83) + v89) + v95))])) _
      refine X96.ldc2Long hx hown (mvT hZ (hw _ (List.mem_of_getElem? (i := 29) rfl))) (g := (mkF m 226 #[.val (.long q0), .second] [(.long q0), (.int (((((((((((((((((1 : Int32) + v5) + v11) + v17) + v23) + v29) + v35) + v41) + v47) + v53) + v59) + v65) + v71) + v77) + v83) + v89) + v95))])) rfl (hb hby d3_226) _ ?_
      show Steps p.tables e below (T96.setTop (mkF m 229 #[.val (.long q0), .second] [(.long (100000000000000000 : Int64)), (.long q0), (.int (((((((((((((((((1 : Int32) + v5) + v11) + v17) + v23) + v29) + v35) + v41) + v47) + v53) + v59) + v65) + v71) + v77) + v83) + v89) + v95))])) _
      refine XS.lcmp X96.here hx rfl (hb hby d3_229) rfl ?_
      exact k)
  obtain ⟨T102, L102, v101, X102, e102, N102, hv101, pre102⟩ : ∃ (T' : State) (L' : List Loc) (v101 : Int32), Stand p l e ({ frames := 0, cells := 0, slots := 0, locals := 0 } : Room) s m #[(.long q0)] below meth c T' L' 0 0 ∧ T'.heap = h0 ∧ Fr n0 L' ∧ v101 = (if q0 < (100000000000000000 : Int64) then (0 : Int32) else (1 : Int32)) ∧ (∀ t, Steps p.tables e below (T'.setTop (mkF m 238 #[.val (.long q0), .second] [(.int v101), (.int (((((((((((((((((1 : Int32) + v5) + v11) + v17) + v23) + v29) + v35) + v41) + v47) + v53) + v59) + v65) + v71) + v77) + v83) + v89) + v95))])) t → P t) := by
    by_cases hc98 : q0 < (100000000000000000 : Int64)
    · have pre99 : ∀ t, Steps p.tables e below (T96.setTop (mkF m 238 #[.val (.long q0), .second] [(.int (0 : Int32)), (.int (((((((((((((((((1 : Int32) + v5) + v11) + v17) + v23) + v29) + v35) + v41) + v47) + v53) + v59) + v65) + v71) + v77) + v83) + v89) + v95))])) t → P t := fun t k => pre97 t (by
          show Steps p.tables e below (T96.setTop (mkF m 230 #[.val (.long q0), .second] [(.int (lcmpW q0 (100000000000000000 : Int64))), (.int (((((((((((((((((1 : Int32) + v5) + v11) + v17) + v23) + v29) + v35) + v41) + v47) + v53) + v59) + v65) + v71) + v77) + v83) + v89) + v95))])) _
          refine XS.ifYes X96.here hx rfl (pc0 := 230) (pc' := 237) rfl (hb hby d3_230) rfl ((if0 _ _).trans (tlt ((lw_lt _ _).mpr hc98)).1) (by decide) (by decide) ?_
          show Steps p.tables e below (T96.setTop (mkF m 237 #[.val (.long q0), .second] [(.int (((((((((((((((((1 : Int32) + v5) + v11) + v17) + v23) + v29) + v35) + v41) + v47) + v53) + v59) + v65) + v71) + v77) + v83) + v89) + v95))])) _
          refine XS.iconst X96.here hx rfl (hb hby d3_237) ?_
          exact k)
      exact ⟨_, _, (0 : Int32), X96, e96, N96, (by first | (rw [if_pos hc98]; done) | simp only [if_pos hc98] | simp [if_pos hc98]), pre99⟩
    · have pre100 : ∀ t, Steps p.tables e below (T96.setTop (mkF m 238 #[.val (.long q0), .second] [(.int (1 : Int32)), (.int (((((((((((((((((1 : Int32) + v5) + v11) + v17) + v23) + v29) + v35) + v41) + v47) + v53) + v59) + v65) + v71) + v77) + v83) + v89) + v95))])) t → P t := fun t k => pre97 t (by
          show Steps p.tables e below (T96.setTop (mkF m 230 #[.val (.long q0), .second] [(.int (lcmpW q0 (100000000000000000 : Int64))), (.int (((((((((((((((((1 : Int32) + v5) + v11) + v17) + v23) + v29) + v35) + v41) + v47) + v53) + v59) + v65) + v71) + v77) + v83) + v89) + v95))])) _
          refine XS.ifNo X96.here hx rfl (hb hby d3_230) rfl ((if0 _ _).trans (flt (fun q => hc98 ((lw_lt _ _).mp q))).1) ?_
          show Steps p.tables e below (T96.setTop (mkF m 233 #[.val (.long q0), .second] [(.int (((((((((((((((((1 : Int32) + v5) + v11) + v17) + v23) + v29) + v35) + v41) + v47) + v53) + v59) + v65) + v71) + v77) + v83) + v89) + v95))])) _
          refine XS.iconst X96.here hx rfl (hb hby d3_233) ?_
          show Steps p.tables e below (T96.setTop (mkF m 234 #[.val (.long q0), .second] [(.int (1 : Int32)), (.int (((((((((((((((((1 : Int32) + v5) + v11) + v17) + v23) + v29) + v35) + v41) + v47) + v53) + v59) + v65) + v71) + v77) + v83) + v89) + v95))])) _
          refine XS.goto X96.here hx rfl (pc0 := 234) (pc' := 238) rfl (hb hby d3_234) (by decide) (by decide) ?_
          exact k)
      exact ⟨_, _, (1 : Int32), X96, e96, N96, (by first | (rw [if_neg hc98]; done) | simp only [if_neg hc98] | simp [if_neg hc98]), pre100⟩
  have pre103 : ∀ t, Steps p.tables e below (T102.setTop (mkF m 244 #[.val (.long q0), .second] [(.int (lcmpW q0 (1000000000000000000 : Int64))), (.int ((((((((((((((((((1 : Int32) + v5) + v11) + v17) + v23) + v29) + v35) + v41) + v47) + v53) + v59) + v65) + v71) + v77) + v83) + v89) + v95) + v101))])) t → P t := fun t k => pre102 t (by
      show Steps p.tables e below (T102.setTop (mkF m 238 #[.val (.long q0), .second] [(.int v101), (.int (((((((((((((((((1 : Int32) + v5) + v11) + v17) + v23) + v29) + v35) + v41) + v47) + v53) + v59) + v65) + v71) + v77) + v83) + v89) + v95))])) _
      refine XS.iadd X102.here hx rfl (hb hby d3_238) rfl ?_
      show Steps p.tables e below (T102.setTop (mkF m 239 #[.val (.long q0), .second] [(.int ((((((((((((((((((1 : Int32) + v5) + v11) + v17) + v23) + v29) + v35) + v41) + v47) + v53) + v59) + v65) + v71) + v77) + v83) + v89) + v95) + v101))])) _
      refine XS.lloadN X102.here hx rfl (hb hby d3_239) rfl ?_
      show Steps p.tables e below (T102.setTop (mkF m 240 #[.val (.long q0), .second] [(.long q0), (.int ((((((((((((((((((1 : Int32) + v5) + v11) + v17) + v23) + v29) + v35) + v41) + v47) + v53) + v59) + v65) + v71) + v77) + v83) + v89) + v95) + v101))])) _
      refine X102.ldc2Long hx hown (mvT hZ (hw _ (List.mem_of_getElem? (i := 30) rfl))) (g := (mkF m 240 #[.val (.long q0), .second] [(.long q0), (.int ((((((((((((((((((1 : Int32) + v5) + v11) + v17) + v23) + v29) + v35) + v41) + v47) + v53) + v59) + v65) + v71) + v77) + v83) + v89) + v95) + v101))])) rfl (hb hby d3_240) _ ?_
      show Steps p.tables e below (T102.setTop (mkF m 243 #[.val (.long q0), .second] [(.long (1000000000000000000 : Int64)), (.long q0), (.int ((((((((((((((((((1 : Int32) + v5) + v11) + v17) + v23) + v29) + v35) + v41) + v47) + v53) + v59) + v65) + v71) + v77) + v83) + v89) + v95) + v101))])) _
      refine XS.lcmp X102.here hx rfl (hb hby d3_243) rfl ?_
      exact k)
  obtain ⟨T108, L108, v107, X108, e108, N108, hv107, pre108⟩ : ∃ (T' : State) (L' : List Loc) (v107 : Int32), Stand p l e ({ frames := 0, cells := 0, slots := 0, locals := 0 } : Room) s m #[(.long q0)] below meth c T' L' 0 0 ∧ T'.heap = h0 ∧ Fr n0 L' ∧ v107 = (if q0 < (1000000000000000000 : Int64) then (0 : Int32) else (1 : Int32)) ∧ (∀ t, Steps p.tables e below (T'.setTop (mkF m 252 #[.val (.long q0), .second] [(.int v107), (.int ((((((((((((((((((1 : Int32) + v5) + v11) + v17) + v23) + v29) + v35) + v41) + v47) + v53) + v59) + v65) + v71) + v77) + v83) + v89) + v95) + v101))])) t → P t) := by
    by_cases hc104 : q0 < (1000000000000000000 : Int64)
    · have pre105 : ∀ t, Steps p.tables e below (T102.setTop (mkF m 252 #[.val (.long q0), .second] [(.int (0 : Int32)), (.int ((((((((((((((((((1 : Int32) + v5) + v11) + v17) + v23) + v29) + v35) + v41) + v47) + v53) + v59) + v65) + v71) + v77) + v83) + v89) + v95) + v101))])) t → P t := fun t k => pre103 t (by
          show Steps p.tables e below (T102.setTop (mkF m 244 #[.val (.long q0), .second] [(.int (lcmpW q0 (1000000000000000000 : Int64))), (.int ((((((((((((((((((1 : Int32) + v5) + v11) + v17) + v23) + v29) + v35) + v41) + v47) + v53) + v59) + v65) + v71) + v77) + v83) + v89) + v95) + v101))])) _
          refine XS.ifYes X102.here hx rfl (pc0 := 244) (pc' := 251) rfl (hb hby d3_244) rfl ((if0 _ _).trans (tlt ((lw_lt _ _).mpr hc104)).1) (by decide) (by decide) ?_
          show Steps p.tables e below (T102.setTop (mkF m 251 #[.val (.long q0), .second] [(.int ((((((((((((((((((1 : Int32) + v5) + v11) + v17) + v23) + v29) + v35) + v41) + v47) + v53) + v59) + v65) + v71) + v77) + v83) + v89) + v95) + v101))])) _
          refine XS.iconst X102.here hx rfl (hb hby d3_251) ?_
          exact k)
      exact ⟨_, _, (0 : Int32), X102, e102, N102, (by first | (rw [if_pos hc104]; done) | simp only [if_pos hc104] | simp [if_pos hc104]), pre105⟩
    · have pre106 : ∀ t, Steps p.tables e below (T102.setTop (mkF m 252 #[.val (.long q0), .second] [(.int (1 : Int32)), (.int ((((((((((((((((((1 : Int32) + v5) + v11) + v17) + v23) + v29) + v35) + v41) + v47) + v53) + v59) + v65) + v71) + v77) + v83) + v89) + v95) + v101))])) t → P t := fun t k => pre103 t (by
          show Steps p.tables e below (T102.setTop (mkF m 244 #[.val (.long q0), .second] [(.int (lcmpW q0 (1000000000000000000 : Int64))), (.int ((((((((((((((((((1 : Int32) + v5) + v11) + v17) + v23) + v29) + v35) + v41) + v47) + v53) + v59) + v65) + v71) + v77) + v83) + v89) + v95) + v101))])) _
          refine XS.ifNo X102.here hx rfl (hb hby d3_244) rfl ((if0 _ _).trans (flt (fun q => hc104 ((lw_lt _ _).mp q))).1) ?_
          show Steps p.tables e below (T102.setTop (mkF m 247 #[.val (.long q0), .second] [(.int ((((((((((((((((((1 : Int32) + v5) + v11) + v17) + v23) + v29) + v35) + v41) + v47) + v53) + v59) + v65) + v71) + v77) + v83) + v89) + v95) + v101))])) _
          refine XS.iconst X102.here hx rfl (hb hby d3_247) ?_
          show Steps p.tables e below (T102.setTop (mkF m 248 #[.val (.long q0), .second] [(.int (1 : Int32)), (.int ((((((((((((((((((1 : Int32) + v5) + v11) + v17) + v23) + v29) + v35) + v41) + v47) + v53) + v59) + v65) + v71) + v77) + v83) + v89) + v95) + v101))])) _
          refine XS.goto X102.here hx rfl (pc0 := 248) (pc' := 252) rfl (hb hby d3_248) (by decide) (by decide) ?_
          exact k)
      exact ⟨_, _, (1 : Int32), X102, e102, N102, (by first | (rw [if_neg hc104]; done) | simp only [if_neg hc104] | simp [if_neg hc104]), pre106⟩
  have pre109 : ∀ t, Steps p.tables e below (T108.setTop (mkF m 253 #[.val (.long q0), .second] [(.int (((((((((((((((((((1 : Int32) + v5) + v11) + v17) + v23) + v29) + v35) + v41) + v47) + v53) + v59) + v65) + v71) + v77) + v83) + v89) + v95) + v101) + v107))])) t → P t := fun t k => pre108 t (by
      show Steps p.tables e below (T108.setTop (mkF m 252 #[.val (.long q0), .second] [(.int v107), (.int ((((((((((((((((((1 : Int32) + v5) + v11) + v17) + v23) + v29) + v35) + v41) + v47) + v53) + v59) + v65) + v71) + v77) + v83) + v89) + v95) + v101))])) _
      refine XS.iadd X108.here hx rfl (hb hby d3_252) rfl ?_
      exact k)
  obtain ⟨fs, hr, hrun, hended, hW, hsame⟩ := X108.leave (v := some (.int (((((((((((((((((((1 : Int32) + v5) + v11) + v17) + v23) + v29) + v35) + v41) + v47) + v53) + v59) + v65) + v71) + v77) + v83) + v89) + v95) + v101) + v107))) (fun h => by rw [Bd.returns] at h; cases h)
  refine ⟨_, _, fin _ (pre109 _ ?_), hrun, hended, _, _, rfl, ?_, ⟨_, rfl⟩, hW, hsame.mono (by decide) (by decide)⟩
  · show Steps p.tables e below (T108.setTop (mkF m 253 #[.val (.long q0), .second] [(.int (((((((((((((((((((1 : Int32) + v5) + v11) + v17) + v23) + v29) + v35) + v41) + v47) + v53) + v59) + v65) + v71) + v77) + v83) + v89) + v95) + v101) + v107))])) _
    exact retI X108 hx Bd.returns (hb hby d3_253) hr
  · show Q3 Z q0 h0 n0 _ T108.heap _
    rw [e108]
    exact ⟨(by subst hv5 hv11 hv17 hv23 hv29 hv35 hv41 hv47 hv53 hv59 hv65 hv71 hv77 hv83 hv89 hv95 hv101 hv107; first | rfl | simp only [own_f3]), N108, rfl⟩
theorem own_pd0 : parseMethodDescriptor "(J)J" = some ⟨[.long], some .long⟩ := by decide +kernel
theorem own_pd1 : parseMethodDescriptor "(J)I" = some ⟨[.long], some .int⟩ := by decide +kernel
theorem pn_0 : plainName "com/example/fairmark/fairmark/DecimalsDigitCountPinLaw" = true := by first | (simp [plainName, overriddenIn]; done) | decide +kernel
theorem ef_0 (m : MethodId) (q0 : Int64) (p1 : Int32) : entryFrame m #[(.long q0), (.int p1)] maxLocals = mkF m 0 #[.val (.long q0), .second, .val (.int p1), .unset, .unset, .unset, .unset, .unset, .unset] [] := by first | (simp [entryFrame, mkF, argsToLocals, Value.category, maxLocals]; done) | rfl
def own_f0 (q0 : Int64) (p1 : Int32) : Int32 := (let v2 : Int64 := (q0 >>> ((p1 &&& (63 : Int32)) &&& 0x3f).toInt64); (let v5 : Int64 := (v2 / (10 : Int64)); (let v18 : Int32 := (if v5 = (0 : Int64) then (1 : Int32) else (let v12 : Int64 := (own_f2 v5); (let v15 : Int32 := (own_f3 v12); ((1 : Int32) + v15)))); (let v24 : Int32 := (if v2 < (0 : Int64) then (1 : Int32) else (0 : Int32)); (let v27 : Int32 := (v18 + v24); (let v31 : Int32 := (own_f1 v2); (if v31 = v27 then (1 : Int32) else (0 : Int32))))))))
def Q0 (Z : State) (q0 : Int64) (p1 : Int32) (h0 : Heap) (n0 : Nat) (v : Option Value) (h : Heap) (L : List Loc) : Prop := v = some (.int (own_f0 q0 p1)) ∧ Fr n0 L
set_option maxRecDepth 65536 in
set_option maxHeartbeats 40000000 in
theorem rm0 (l : Launch) (Z : State) (a0 : Array Value) (hw : ∀ d ∈ tables_1, d.before a0 Z = true) (ws : List Jvm.Cond) (q0 : Int64) (p1 : Int32) (h0 : Heap) (n0 : Nat) (Z0 : n0 ≤ h0.size) :
    MetFree l x (head1 (Jvm.Cond.code x code maxLocals ret :: ws) room_1) (fun a U => a = #[(.long q0), (.int p1)] ∧ Z.Warmed39 U.vm ∧ U.heap = h0) (fun _ _ _ _ _ => True) (fun _ U o U' => ∃ v L, o = .returned v ∧ Q0 Z q0 p1 h0 n0 v U'.heap L ∧ FrameEnd U o U' L room_1.cells room_1.slots) := by
  refine MetFree.of_bodySF (plainFor_of_name pn_0) hisR ?_
  intro p e s m args below meth c s₁ Bd hml0 hP hK
  obtain ⟨rfl, hZ, hh⟩ := hP
  have hx := Bd.exec
  have hby := Bd.bytes
  have hml : c.maxLocals = 9 := hml0
  have hown : s.vm.findClass "com/example/fairmark/fairmark/DecimalsDigitCountPinLaw" = some m.cls := findClass_of_methodNamed Bd.named
  have hnm := (name_of_methodNamed Bd.named Bd.method).1
  have X0 : Stand p l e room_1 s m #[(.long q0), (.int p1)] below meth c s₁ [] 0 0 := Stand.of_body Bd
  have e0 : s₁.heap = h0 := by rw [← hh, Bd.state]; rfl
  have N0 := Fr.nil n0
  obtain ⟨P, pre0, fin⟩ : ∃ P : State → Prop, (∀ t, Steps p.tables e below (s₁.setTop (mkF m 0 #[.val (.long q0), .second, .val (.int p1), .unset, .unset, .unset, .unset, .unset, .unset] [])) t → P t) ∧ (∀ t, P t → Steps p.tables e below (s₁.setTop (entryFrame m #[(.long q0), (.int p1)] maxLocals)) t) := ⟨fun t => Steps p.tables e below (s₁.setTop (entryFrame m #[(.long q0), (.int p1)] maxLocals)) t, fun t k => castTop (ef_0 m q0 p1) k, fun t k => k⟩
  have K0 : Keep h0 h0 [] := Keep.refl _ _
  have pre1 : ∀ t, Steps p.tables e below (s₁.setTop (mkF m 7 #[.val (.long q0), .second, .val (.int p1), .val (.long (q0 >>> ((p1 &&& (63 : Int32)) &&& 0x3f).toInt64)), .second, .unset, .unset, .unset, .unset] [])) t → P t := fun t k => pre0 t (by
      show Steps p.tables e below (s₁.setTop (mkF m 0 #[.val (.long q0), .second, .val (.int p1), .unset, .unset, .unset, .unset, .unset, .unset] [])) _
      refine XS.lloadN X0.here hx rfl (hb hby at_0) rfl ?_
      show Steps p.tables e below (s₁.setTop (mkF m 1 #[.val (.long q0), .second, .val (.int p1), .unset, .unset, .unset, .unset, .unset, .unset] [(.long q0)])) _
      refine XS.iloadN X0.here hx rfl (hb hby at_1) rfl ?_
      show Steps p.tables e below (s₁.setTop (mkF m 2 #[.val (.long q0), .second, .val (.int p1), .unset, .unset, .unset, .unset, .unset, .unset] [(.int p1), (.long q0)])) _
      refine XS.bipush X0.here hx rfl (hb hby at_2) ?_
      show Steps p.tables e below (s₁.setTop (mkF m 4 #[.val (.long q0), .second, .val (.int p1), .unset, .unset, .unset, .unset, .unset, .unset] [(.int (63 : Int32)), (.int p1), (.long q0)])) _
      refine XS.iand X0.here hx rfl (hb hby at_4) rfl ?_
      show Steps p.tables e below (s₁.setTop (mkF m 5 #[.val (.long q0), .second, .val (.int p1), .unset, .unset, .unset, .unset, .unset, .unset] [(.int (p1 &&& (63 : Int32))), (.long q0)])) _
      refine XS.lshr X0.here hx rfl (hb hby at_5) rfl ?_
      show Steps p.tables e below (s₁.setTop (mkF m 6 #[.val (.long q0), .second, .val (.int p1), .unset, .unset, .unset, .unset, .unset, .unset] [(.long (q0 >>> ((p1 &&& (63 : Int32)) &&& 0x3f).toInt64))])) _
      refine XS.lstoreN X0.here hx rfl (hb hby at_6) rfl (l' := #[.val (.long q0), .second, .val (.int p1), .val (.long (q0 >>> ((p1 &&& (63 : Int32)) &&& 0x3f).toInt64)), .second, .unset, .unset, .unset, .unset]) rfl ?_
      exact k)
  obtain ⟨v2, hv2⟩ : ∃ z : Int64, z = (q0 >>> ((p1 &&& (63 : Int32)) &&& 0x3f).toInt64) := ⟨_, rfl⟩
  have pre3 : ∀ t, Steps p.tables e below (s₁.setTop (mkF m 7 #[.val (.long q0), .second, .val (.int p1), .val (.long v2), .second, .unset, .unset, .unset, .unset] [])) t → P t := fun t k => pre1 t (by subst hv2; exact k)
  have pre4 : ∀ t, Steps p.tables e below (s₁.setTop (mkF m 14 #[.val (.long q0), .second, .val (.int p1), .val (.long v2), .second, .val (.long (v2 / (10 : Int64))), .second, .unset, .unset] [])) t → P t := fun t k => pre3 t (by
      show Steps p.tables e below (s₁.setTop (mkF m 7 #[.val (.long q0), .second, .val (.int p1), .val (.long v2), .second, .unset, .unset, .unset, .unset] [])) _
      refine XS.lloadN X0.here hx rfl (hb hby at_7) rfl ?_
      show Steps p.tables e below (s₁.setTop (mkF m 8 #[.val (.long q0), .second, .val (.int p1), .val (.long v2), .second, .unset, .unset, .unset, .unset] [(.long v2)])) _
      refine X0.ldc2Long hx hown (mvT hZ (hw _ (List.mem_of_getElem? (i := 0) rfl))) (g := (mkF m 8 #[.val (.long q0), .second, .val (.int p1), .val (.long v2), .second, .unset, .unset, .unset, .unset] [(.long v2)])) rfl (hb hby at_8) _ ?_
      show Steps p.tables e below (s₁.setTop (mkF m 11 #[.val (.long q0), .second, .val (.int p1), .val (.long v2), .second, .unset, .unset, .unset, .unset] [(.long (10 : Int64)), (.long v2)])) _
      refine XS.ldiv X0.here hx rfl (hb hby at_11) rfl (by decide) ?_
      show Steps p.tables e below (s₁.setTop (mkF m 12 #[.val (.long q0), .second, .val (.int p1), .val (.long v2), .second, .unset, .unset, .unset, .unset] [(.long (v2 / (10 : Int64)))])) _
      refine XS.lstore X0.here hx rfl (hb hby at_12) rfl (l' := #[.val (.long q0), .second, .val (.int p1), .val (.long v2), .second, .val (.long (v2 / (10 : Int64))), .second, .unset, .unset]) rfl ?_
      exact k)
  obtain ⟨v5, hv5⟩ : ∃ z : Int64, z = (v2 / (10 : Int64)) := ⟨_, rfl⟩
  have pre6 : ∀ t, Steps p.tables e below (s₁.setTop (mkF m 14 #[.val (.long q0), .second, .val (.int p1), .val (.long v2), .second, .val (.long v5), .second, .unset, .unset] [])) t → P t := fun t k => pre4 t (by subst hv5; exact k)
  have pre7 : ∀ t, Steps p.tables e below (s₁.setTop (mkF m 18 #[.val (.long q0), .second, .val (.int p1), .val (.long v2), .second, .val (.long v5), .second, .unset, .unset] [(.int (lcmpW v5 (0 : Int64)))])) t → P t := fun t k => pre6 t (by
      show Steps p.tables e below (s₁.setTop (mkF m 14 #[.val (.long q0), .second, .val (.int p1), .val (.long v2), .second, .val (.long v5), .second, .unset, .unset] [])) _
      refine XS.lload X0.here hx rfl (hb hby at_14) rfl ?_
      show Steps p.tables e below (s₁.setTop (mkF m 16 #[.val (.long q0), .second, .val (.int p1), .val (.long v2), .second, .val (.long v5), .second, .unset, .unset] [(.long v5)])) _
      refine XS.lconst X0.here hx rfl (hb hby at_16) ?_
      show Steps p.tables e below (s₁.setTop (mkF m 17 #[.val (.long q0), .second, .val (.int p1), .val (.long v2), .second, .val (.long v5), .second, .unset, .unset] [(.long (0 : Int64)), (.long v5)])) _
      refine XS.lcmp X0.here hx rfl (hb hby at_17) rfl ?_
      exact k)
  obtain ⟨T19, L19, v18, X19, e19, N19, hv18, pre19⟩ : ∃ (T' : State) (L' : List Loc) (v18 : Int32), Stand p l e room_1 s m #[(.long q0), (.int p1)] below meth c T' L' 0 0 ∧ T'.heap = h0 ∧ Fr n0 L' ∧ v18 = (if v5 = (0 : Int64) then (1 : Int32) else (let v12 : Int64 := (own_f2 v5); (let v15 : Int32 := (own_f3 v12); ((1 : Int32) + v15)))) ∧ (∀ t, Steps p.tables e below (T'.setTop (mkF m 35 #[.val (.long q0), .second, .val (.int p1), .val (.long v2), .second, .val (.long v5), .second, .unset, .unset] [(.int v18)])) t → P t) := by
    by_cases hc8 : v5 = (0 : Int64)
    · have pre9 : ∀ t, Steps p.tables e below (s₁.setTop (mkF m 35 #[.val (.long q0), .second, .val (.int p1), .val (.long v2), .second, .val (.long v5), .second, .unset, .unset] [(.int (1 : Int32))])) t → P t := fun t k => pre7 t (by
          show Steps p.tables e below (s₁.setTop (mkF m 18 #[.val (.long q0), .second, .val (.int p1), .val (.long v2), .second, .val (.long v5), .second, .unset, .unset] [(.int (lcmpW v5 (0 : Int64)))])) _
          refine XS.ifNo X0.here hx rfl (hb hby at_18) rfl ((if0 _ _).trans (teq ((lw_eq _ _).mpr hc8)).2) ?_
          show Steps p.tables e below (s₁.setTop (mkF m 21 #[.val (.long q0), .second, .val (.int p1), .val (.long v2), .second, .val (.long v5), .second, .unset, .unset] [])) _
          refine XS.iconst X0.here hx rfl (hb hby at_21) ?_
          show Steps p.tables e below (s₁.setTop (mkF m 22 #[.val (.long q0), .second, .val (.int p1), .val (.long v2), .second, .val (.long v5), .second, .unset, .unset] [(.int (1 : Int32))])) _
          refine XS.goto X0.here hx rfl (pc0 := 22) (pc' := 35) rfl (hb hby at_22) (by decide) (by decide) ?_
          exact k)
      exact ⟨_, _, (1 : Int32), X0, e0, N0, (by first | (rw [if_pos hc8]; done) | simp only [if_pos hc8] | simp [if_pos hc8]), pre9⟩
    · have pre10 : ∀ t, Steps p.tables e below (s₁.setTop (mkF m 28 #[.val (.long q0), .second, .val (.int p1), .val (.long v2), .second, .val (.long v5), .second, .unset, .unset] [(.long v5), (.int (1 : Int32))])) t → P t := fun t k => pre7 t (by
          show Steps p.tables e below (s₁.setTop (mkF m 18 #[.val (.long q0), .second, .val (.int p1), .val (.long v2), .second, .val (.long v5), .second, .unset, .unset] [(.int (lcmpW v5 (0 : Int64)))])) _
          refine XS.ifYes X0.here hx rfl (pc0 := 18) (pc' := 25) rfl (hb hby at_18) rfl ((if0 _ _).trans (feq (fun q => hc8 ((lw_eq _ _).mp q))).2) (by decide) (by decide) ?_
          show Steps p.tables e below (s₁.setTop (mkF m 25 #[.val (.long q0), .second, .val (.int p1), .val (.long v2), .second, .val (.long v5), .second, .unset, .unset] [])) _
          refine XS.iconst X0.here hx rfl (hb hby at_25) ?_
          show Steps p.tables e below (s₁.setTop (mkF m 26 #[.val (.long q0), .second, .val (.int p1), .val (.long v2), .second, .val (.long v5), .second, .unset, .unset] [(.int (1 : Int32))])) _
          refine XS.lload X0.here hx rfl (hb hby at_26) rfl ?_
          exact k)
      obtain ⟨_, _, ⟨T11, L11, k11, n11⟩, -, X11, ⟨Lc11, hQ11, l11, y11, z11⟩, st11⟩ := Jvm.LawKit.callS X0 hx (y := (⟨"java/lang/Math", "abs", "(J)J"⟩ : MethodName)) hown (mvT hZ (hw _ (List.mem_of_getElem? (i := 6) rfl))) (mvT hZ (hw _ (List.mem_of_getElem? (i := 7) rfl))) (mvT hZ (hw _ (List.mem_of_getElem? (i := 8) rfl))) (mvT hZ (hw _ (List.mem_of_getElem? (i := 9) rfl))) (by decide) (backOf (W := 1) (rm2 l Z a0 hw [] v5 h0 n0 Z0 ) hZ (hw _ (List.mem_of_getElem? (i := 9) rfl)) (hw _ (List.mem_of_getElem? (i := 8) rfl)) (by decide) (by decide)) (g := (mkF m 28 #[.val (.long q0), .second, .val (.int p1), .val (.long v2), .second, .val (.long v5), .second, .unset, .unset] [(.long v5), (.int (1 : Int32))])) rfl (by rw [hml]; rfl) (argsL := [(.long v5)]) (rest := [(.int (1 : Int32))]) (lenOf own_pd0 rfl) rfl (by show 2 * 0 + _ ≤ _; exact Nat.le_of_eq rfl) (hb hby at_28) (fun _ _ => ⟨rfl, e0, (by decide : 0 + 0 ≤ _), (by decide : 0 + 0 ≤ _)⟩)
      dsimp only [Pt.U, Pt.locs, Pt.cells, Pt.slots] at X11 l11 y11 z11 st11 hQ11
      subst l11 y11 z11
      obtain ⟨rfl, N11q, e11⟩ := hQ11
      have N11 := Fr.app N0 N11q
      have pre11 : ∀ t, Steps p.tables e below (T11.setTop (mkF m 31 #[.val (.long q0), .second, .val (.int p1), .val (.long v2), .second, .val (.long v5), .second, .unset, .unset] [(.long (own_f2 v5)), (.int (1 : Int32))])) t → P t := fun t k => pre10 t (st11 _ k)
      obtain ⟨v12, hv12⟩ : ∃ z : Int64, z = (own_f2 v5) := ⟨_, rfl⟩
      have pre13 : ∀ t, Steps p.tables e below (T11.setTop (mkF m 31 #[.val (.long q0), .second, .val (.int p1), .val (.long v2), .second, .val (.long v5), .second, .unset, .unset] [(.long v12), (.int (1 : Int32))])) t → P t := fun t k => pre11 t (by subst hv12; exact k)
      obtain ⟨_, _, ⟨T14, L14, k14, n14⟩, -, X14, ⟨Lc14, hQ14, l14, y14, z14⟩, st14⟩ := Jvm.LawKit.callS X11 hx (y := (⟨"com/example/fairmark/fairmark/DecimalsDigitCountPinLaw", "mag", "(J)I"⟩ : MethodName)) hown (mvT hZ (hw _ (List.mem_of_getElem? (i := 10) rfl))) (mvT hZ (hw _ (List.mem_of_getElem? (i := 11) rfl))) (mvT hZ (hw _ (List.mem_of_getElem? (i := 12) rfl))) (mvT hZ (hw _ (List.mem_of_getElem? (i := 13) rfl))) (by decide) (backOf (W := 1) (rm3 l Z a0 hw [] v12 h0 n0 Z0 ) hZ (hw _ (List.mem_of_getElem? (i := 13) rfl)) (hw _ (List.mem_of_getElem? (i := 12) rfl)) (by decide) (by decide)) (g := (mkF m 31 #[.val (.long q0), .second, .val (.int p1), .val (.long v2), .second, .val (.long v5), .second, .unset, .unset] [(.long v12), (.int (1 : Int32))])) rfl (by rw [hml]; rfl) (argsL := [(.long v12)]) (rest := [(.int (1 : Int32))]) (lenOf own_pd1 rfl) rfl (by show 2 * 0 + _ ≤ _; exact Nat.le_of_eq rfl) (hb hby at_31) (fun _ _ => ⟨rfl, e11, (by decide : 0 + 0 ≤ _), (by decide : 0 + 0 ≤ _)⟩)
      dsimp only [Pt.U, Pt.locs, Pt.cells, Pt.slots] at X14 l14 y14 z14 st14 hQ14
      subst l14 y14 z14
      obtain ⟨rfl, N14q, e14⟩ := hQ14
      have N14 := Fr.app N11 N14q
      have pre14 : ∀ t, Steps p.tables e below (T14.setTop (mkF m 34 #[.val (.long q0), .second, .val (.int p1), .val (.long v2), .second, .val (.long v5), .second, .unset, .unset] [(.int (own_f3 v12)), (.int (1 : Int32))])) t → P t := fun t k => pre13 t (st14 _ k)
      obtain ⟨v15, hv15⟩ : ∃ z : Int32, z = (own_f3 v12) := ⟨_, rfl⟩
      have pre16 : ∀ t, Steps p.tables e below (T14.setTop (mkF m 34 #[.val (.long q0), .second, .val (.int p1), .val (.long v2), .second, .val (.long v5), .second, .unset, .unset] [(.int v15), (.int (1 : Int32))])) t → P t := fun t k => pre14 t (by subst hv15; exact k)
      have pre17 : ∀ t, Steps p.tables e below (T14.setTop (mkF m 35 #[.val (.long q0), .second, .val (.int p1), .val (.long v2), .second, .val (.long v5), .second, .unset, .unset] [(.int ((1 : Int32) + v15))])) t → P t := fun t k => pre16 t (by
          show Steps p.tables e below (T14.setTop (mkF m 34 #[.val (.long q0), .second, .val (.int p1), .val (.long v2), .second, .val (.long v5), .second, .unset, .unset] [(.int v15), (.int (1 : Int32))])) _
          refine XS.iadd X14.here hx rfl (hb hby at_34) rfl ?_
          exact k)
      exact ⟨_, _, ((1 : Int32) + v15), X14, e14, N14, (by subst hv12 hv15; first | (rw [if_neg hc8]; done) | simp only [if_neg hc8] | simp [if_neg hc8]), pre17⟩
  have pre20 : ∀ t, Steps p.tables e below (T19.setTop (mkF m 42 #[.val (.long q0), .second, .val (.int p1), .val (.long v2), .second, .val (.long v5), .second, .val (.int v18), .unset] [(.int (lcmpW v2 (0 : Int64))), (.int v18)])) t → P t := fun t k => pre19 t (by
      show Steps p.tables e below (T19.setTop (mkF m 35 #[.val (.long q0), .second, .val (.int p1), .val (.long v2), .second, .val (.long v5), .second, .unset, .unset] [(.int v18)])) _
      refine XS.istore X19.here hx rfl (hb hby at_35) rfl (l' := #[.val (.long q0), .second, .val (.int p1), .val (.long v2), .second, .val (.long v5), .second, .val (.int v18), .unset]) rfl ?_
      show Steps p.tables e below (T19.setTop (mkF m 37 #[.val (.long q0), .second, .val (.int p1), .val (.long v2), .second, .val (.long v5), .second, .val (.int v18), .unset] [])) _
      refine XS.iload X19.here hx rfl (hb hby at_37) rfl ?_
      show Steps p.tables e below (T19.setTop (mkF m 39 #[.val (.long q0), .second, .val (.int p1), .val (.long v2), .second, .val (.long v5), .second, .val (.int v18), .unset] [(.int v18)])) _
      refine XS.lloadN X19.here hx rfl (hb hby at_39) rfl ?_
      show Steps p.tables e below (T19.setTop (mkF m 40 #[.val (.long q0), .second, .val (.int p1), .val (.long v2), .second, .val (.long v5), .second, .val (.int v18), .unset] [(.long v2), (.int v18)])) _
      refine XS.lconst X19.here hx rfl (hb hby at_40) ?_
      show Steps p.tables e below (T19.setTop (mkF m 41 #[.val (.long q0), .second, .val (.int p1), .val (.long v2), .second, .val (.long v5), .second, .val (.int v18), .unset] [(.long (0 : Int64)), (.long v2), (.int v18)])) _
      refine XS.lcmp X19.here hx rfl (hb hby at_41) rfl ?_
      exact k)
  obtain ⟨T25, L25, v24, X25, e25, N25, hv24, pre25⟩ : ∃ (T' : State) (L' : List Loc) (v24 : Int32), Stand p l e room_1 s m #[(.long q0), (.int p1)] below meth c T' L' 0 0 ∧ T'.heap = h0 ∧ Fr n0 L' ∧ v24 = (if v2 < (0 : Int64) then (1 : Int32) else (0 : Int32)) ∧ (∀ t, Steps p.tables e below (T'.setTop (mkF m 50 #[.val (.long q0), .second, .val (.int p1), .val (.long v2), .second, .val (.long v5), .second, .val (.int v18), .unset] [(.int v24), (.int v18)])) t → P t) := by
    by_cases hc21 : v2 < (0 : Int64)
    · have pre22 : ∀ t, Steps p.tables e below (T19.setTop (mkF m 50 #[.val (.long q0), .second, .val (.int p1), .val (.long v2), .second, .val (.long v5), .second, .val (.int v18), .unset] [(.int (1 : Int32)), (.int v18)])) t → P t := fun t k => pre20 t (by
          show Steps p.tables e below (T19.setTop (mkF m 42 #[.val (.long q0), .second, .val (.int p1), .val (.long v2), .second, .val (.long v5), .second, .val (.int v18), .unset] [(.int (lcmpW v2 (0 : Int64))), (.int v18)])) _
          refine XS.ifNo X19.here hx rfl (hb hby at_42) rfl ((if0 _ _).trans (tlt ((lw_lt _ _).mpr hc21)).2.1) ?_
          show Steps p.tables e below (T19.setTop (mkF m 45 #[.val (.long q0), .second, .val (.int p1), .val (.long v2), .second, .val (.long v5), .second, .val (.int v18), .unset] [(.int v18)])) _
          refine XS.iconst X19.here hx rfl (hb hby at_45) ?_
          show Steps p.tables e below (T19.setTop (mkF m 46 #[.val (.long q0), .second, .val (.int p1), .val (.long v2), .second, .val (.long v5), .second, .val (.int v18), .unset] [(.int (1 : Int32)), (.int v18)])) _
          refine XS.goto X19.here hx rfl (pc0 := 46) (pc' := 50) rfl (hb hby at_46) (by decide) (by decide) ?_
          exact k)
      exact ⟨_, _, (1 : Int32), X19, e19, N19, (by first | (rw [if_pos hc21]; done) | simp only [if_pos hc21] | simp [if_pos hc21]), pre22⟩
    · have pre23 : ∀ t, Steps p.tables e below (T19.setTop (mkF m 50 #[.val (.long q0), .second, .val (.int p1), .val (.long v2), .second, .val (.long v5), .second, .val (.int v18), .unset] [(.int (0 : Int32)), (.int v18)])) t → P t := fun t k => pre20 t (by
          show Steps p.tables e below (T19.setTop (mkF m 42 #[.val (.long q0), .second, .val (.int p1), .val (.long v2), .second, .val (.long v5), .second, .val (.int v18), .unset] [(.int (lcmpW v2 (0 : Int64))), (.int v18)])) _
          refine XS.ifYes X19.here hx rfl (pc0 := 42) (pc' := 49) rfl (hb hby at_42) rfl ((if0 _ _).trans (flt (fun q => hc21 ((lw_lt _ _).mp q))).2.1) (by decide) (by decide) ?_
          show Steps p.tables e below (T19.setTop (mkF m 49 #[.val (.long q0), .second, .val (.int p1), .val (.long v2), .second, .val (.long v5), .second, .val (.int v18), .unset] [(.int v18)])) _
          refine XS.iconst X19.here hx rfl (hb hby at_49) ?_
          exact k)
      exact ⟨_, _, (0 : Int32), X19, e19, N19, (by first | (rw [if_neg hc21]; done) | simp only [if_neg hc21] | simp [if_neg hc21]), pre23⟩
  have pre26 : ∀ t, Steps p.tables e below (T25.setTop (mkF m 53 #[.val (.long q0), .second, .val (.int p1), .val (.long v2), .second, .val (.long v5), .second, .val (.int v18), .val (.int (v18 + v24))] [])) t → P t := fun t k => pre25 t (by
      show Steps p.tables e below (T25.setTop (mkF m 50 #[.val (.long q0), .second, .val (.int p1), .val (.long v2), .second, .val (.long v5), .second, .val (.int v18), .unset] [(.int v24), (.int v18)])) _
      refine XS.iadd X25.here hx rfl (hb hby at_50) rfl ?_
      show Steps p.tables e below (T25.setTop (mkF m 51 #[.val (.long q0), .second, .val (.int p1), .val (.long v2), .second, .val (.long v5), .second, .val (.int v18), .unset] [(.int (v18 + v24))])) _
      refine XS.istore X25.here hx rfl (hb hby at_51) rfl (l' := #[.val (.long q0), .second, .val (.int p1), .val (.long v2), .second, .val (.long v5), .second, .val (.int v18), .val (.int (v18 + v24))]) rfl ?_
      exact k)
  obtain ⟨v27, hv27⟩ : ∃ z : Int32, z = (v18 + v24) := ⟨_, rfl⟩
  have pre28 : ∀ t, Steps p.tables e below (T25.setTop (mkF m 53 #[.val (.long q0), .second, .val (.int p1), .val (.long v2), .second, .val (.long v5), .second, .val (.int v18), .val (.int v27)] [])) t → P t := fun t k => pre26 t (by subst hv27; exact k)
  have pre29 : ∀ t, Steps p.tables e below (T25.setTop (mkF m 54 #[.val (.long q0), .second, .val (.int p1), .val (.long v2), .second, .val (.long v5), .second, .val (.int v18), .val (.int v27)] [(.long v2)])) t → P t := fun t k => pre28 t (by
      show Steps p.tables e below (T25.setTop (mkF m 53 #[.val (.long q0), .second, .val (.int p1), .val (.long v2), .second, .val (.long v5), .second, .val (.int v18), .val (.int v27)] [])) _
      refine XS.lloadN X25.here hx rfl (hb hby at_53) rfl ?_
      exact k)
  obtain ⟨_, _, ⟨T30, L30, k30, n30⟩, -, X30, ⟨Lc30, hQ30, l30, y30, z30⟩, st30⟩ := Jvm.LawKit.callS X25 hx (y := (⟨"com/example/fairmark/fairmark/Decimals", "digitCount", "(J)I"⟩ : MethodName)) hown (mvT hZ (hw _ (List.mem_of_getElem? (i := 1) rfl))) (mvT hZ (hw _ (List.mem_of_getElem? (i := 2) rfl))) (mvT hZ (hw _ (List.mem_of_getElem? (i := 3) rfl))) (mvT hZ (hw _ (List.mem_of_getElem? (i := 4) rfl))) (by decide) (backOf (W := 0) (rm1 l Z a0 hw [] v2 h0 n0 Z0 ) hZ (hw _ (List.mem_of_getElem? (i := 4) rfl)) (hw _ (List.mem_of_getElem? (i := 3) rfl)) (by decide) (by decide)) (g := (mkF m 54 #[.val (.long q0), .second, .val (.int p1), .val (.long v2), .second, .val (.long v5), .second, .val (.int v18), .val (.int v27)] [(.long v2)])) rfl (by rw [hml]; rfl) (argsL := [(.long v2)]) (rest := []) (lenOf own_pd1 rfl) rfl (by show 2 * 0 + _ ≤ _; exact Nat.le_of_eq rfl) (hb hby at_54) (fun _ _ => ⟨rfl, e25, (by decide : 0 + 0 ≤ _), (by decide : 0 + 0 ≤ _)⟩)
  dsimp only [Pt.U, Pt.locs, Pt.cells, Pt.slots] at X30 l30 y30 z30 st30 hQ30
  subst l30 y30 z30
  obtain ⟨rfl, N30q, e30⟩ := hQ30
  have N30 := Fr.app N25 N30q
  have pre30 : ∀ t, Steps p.tables e below (T30.setTop (mkF m 57 #[.val (.long q0), .second, .val (.int p1), .val (.long v2), .second, .val (.long v5), .second, .val (.int v18), .val (.int v27)] [(.int (own_f1 v2))])) t → P t := fun t k => pre29 t (st30 _ k)
  obtain ⟨v31, hv31⟩ : ∃ z : Int32, z = (own_f1 v2) := ⟨_, rfl⟩
  have pre32 : ∀ t, Steps p.tables e below (T30.setTop (mkF m 57 #[.val (.long q0), .second, .val (.int p1), .val (.long v2), .second, .val (.long v5), .second, .val (.int v18), .val (.int v27)] [(.int v31)])) t → P t := fun t k => pre30 t (by subst hv31; exact k)
  have pre33 : ∀ t, Steps p.tables e below (T30.setTop (mkF m 59 #[.val (.long q0), .second, .val (.int p1), .val (.long v2), .second, .val (.long v5), .second, .val (.int v18), .val (.int v27)] [(.int v27), (.int v31)])) t → P t := fun t k => pre32 t (by
      show Steps p.tables e below (T30.setTop (mkF m 57 #[.val (.long q0), .second, .val (.int p1), .val (.long v2), .second, .val (.long v5), .second, .val (.int v18), .val (.int v27)] [(.int v31)])) _
      refine XS.iload X30.here hx rfl (hb hby at_57) rfl ?_
      exact k)
  obtain ⟨T38, L38, v37, X38, e38, N38, hv37, pre38⟩ : ∃ (T' : State) (L' : List Loc) (v37 : Int32), Stand p l e room_1 s m #[(.long q0), (.int p1)] below meth c T' L' 0 0 ∧ T'.heap = h0 ∧ Fr n0 L' ∧ v37 = (if v31 = v27 then (1 : Int32) else (0 : Int32)) ∧ (∀ t, Steps p.tables e below (T'.setTop (mkF m 67 #[.val (.long q0), .second, .val (.int p1), .val (.long v2), .second, .val (.long v5), .second, .val (.int v18), .val (.int v27)] [(.int v37)])) t → P t) := by
    by_cases hc34 : v31 = v27
    · have pre35 : ∀ t, Steps p.tables e below (T30.setTop (mkF m 67 #[.val (.long q0), .second, .val (.int p1), .val (.long v2), .second, .val (.long v5), .second, .val (.int v18), .val (.int v27)] [(.int (1 : Int32))])) t → P t := fun t k => pre33 t (by
          show Steps p.tables e below (T30.setTop (mkF m 59 #[.val (.long q0), .second, .val (.int p1), .val (.long v2), .second, .val (.long v5), .second, .val (.int v18), .val (.int v27)] [(.int v27), (.int v31)])) _
          refine XS.icmpNo X30.here hx rfl (hb hby at_59) rfl (teq hc34).2 ?_
          show Steps p.tables e below (T30.setTop (mkF m 62 #[.val (.long q0), .second, .val (.int p1), .val (.long v2), .second, .val (.long v5), .second, .val (.int v18), .val (.int v27)] [])) _
          refine XS.iconst X30.here hx rfl (hb hby at_62) ?_
          show Steps p.tables e below (T30.setTop (mkF m 63 #[.val (.long q0), .second, .val (.int p1), .val (.long v2), .second, .val (.long v5), .second, .val (.int v18), .val (.int v27)] [(.int (1 : Int32))])) _
          refine XS.goto X30.here hx rfl (pc0 := 63) (pc' := 67) rfl (hb hby at_63) (by decide) (by decide) ?_
          exact k)
      exact ⟨_, _, (1 : Int32), X30, e30, N30, (by first | (rw [if_pos hc34]; done) | simp only [if_pos hc34] | simp [if_pos hc34]), pre35⟩
    · have pre36 : ∀ t, Steps p.tables e below (T30.setTop (mkF m 67 #[.val (.long q0), .second, .val (.int p1), .val (.long v2), .second, .val (.long v5), .second, .val (.int v18), .val (.int v27)] [(.int (0 : Int32))])) t → P t := fun t k => pre33 t (by
          show Steps p.tables e below (T30.setTop (mkF m 59 #[.val (.long q0), .second, .val (.int p1), .val (.long v2), .second, .val (.long v5), .second, .val (.int v18), .val (.int v27)] [(.int v27), (.int v31)])) _
          refine XS.icmpYes X30.here hx rfl (pc0 := 59) (pc' := 66) rfl (hb hby at_59) rfl (feq hc34).2 (by decide) (by decide) ?_
          show Steps p.tables e below (T30.setTop (mkF m 66 #[.val (.long q0), .second, .val (.int p1), .val (.long v2), .second, .val (.long v5), .second, .val (.int v18), .val (.int v27)] [])) _
          refine XS.iconst X30.here hx rfl (hb hby at_66) ?_
          exact k)
      exact ⟨_, _, (0 : Int32), X30, e30, N30, (by first | (rw [if_neg hc34]; done) | simp only [if_neg hc34] | simp [if_neg hc34]), pre36⟩
  obtain ⟨fs, hr, hrun, hended, hW, hsame⟩ := X38.leave (v := some (.int v37)) (fun h => by rw [Bd.returns] at h; cases h)
  refine ⟨_, _, fin _ (pre38 _ ?_), hrun, hended, _, _, rfl, ?_, ⟨_, rfl⟩, hW, hsame.mono (by decide) (by decide)⟩
  · show Steps p.tables e below (T38.setTop (mkF m 67 #[.val (.long q0), .second, .val (.int p1), .val (.long v2), .second, .val (.long v5), .second, .val (.int v18), .val (.int v27)] [(.int v37)])) _
    have hnar : nar .boolean v37 = v37 := by subst hv2 hv5 hv18 hv24 hv27 hv31 hv37; first | rfl | (split <;> rfl) | ((try simp only []); (repeat' split) <;> rfl)
    exact retN X38 hx (t := .boolean) Bd.returns (by simp) (hb hby at_67) (by rw [hnar]; exact hr)
  · show Q0 Z q0 p1 h0 n0 _ T38.heap _
    rw [e38]
    exact ⟨(by subst hv2 hv5 hv18 hv24 hv27 hv31 hv37; first | rfl | simp only [own_f0]), N38⟩
def own_S : Nat → Nat → Int32
  | 0, _ => 0
  | k + 1, n => (if 1 ≤ n then (1 : Int32) else 0) + own_S k (n / 10)
theorem own_cnt_S : ∀ (k : Nat) (c : Int32) (v : Int64), own_cnt k c v = c + own_S k v.toInt.natAbs := by
  intro k
  induction k with
  | zero => intro c v; simp [own_cnt, own_S]
  | succ n ih =>
    intro c v
    rw [own_cnt, own_S]
    by_cases h : v = 0
    · subst h
      have z : ∀ m, own_S m 0 = 0 := by
        intro m
        induction m with
        | zero => rfl
        | succ j jh => rw [own_S]; simp [jh]
      have e0 : (0 : Int64).toInt.natAbs = 0 := by decide
      rw [if_pos rfl, e0]
      simp [z]
    · rw [if_neg h, ih, own_d10]
      have h1 : 1 ≤ v.toInt.natAbs := by
        rw [← Int64.toInt_inj] at h
        have e0 : (0 : Int64).toInt = 0 := by decide
        omega
      rw [if_pos h1, Int32.add_assoc]
theorem own_mag (q : Int64) (h : 1 ≤ q.toInt) : own_f3 q = own_S 19 q.toInt.natAbs := by
  obtain ⟨n, hn⟩ : ∃ n : Nat, q.toInt = n := ⟨q.toInt.toNat, by omega⟩
  have hn' : q.toInt.natAbs = n := by omega
  rw [hn']
  have c0 : 1 ≤ n := by omega
  have c1 : (if 1 ≤ n / 10 then (1 : Int32) else 0) = (if q < (10 : Int64) then (0 : Int32) else (1 : Int32)) := by
    have e : (10 : Int64).toInt = 10 := by decide
    by_cases z : q < (10 : Int64)
    · rw [if_pos z, if_neg]; rw [Int64.lt_iff_toInt_lt] at z; omega
    · rw [if_neg z, if_pos]; rw [Int64.lt_iff_toInt_lt] at z; omega
  have c2 : (if 1 ≤ n / 10 / 10 then (1 : Int32) else 0) = (if q < (100 : Int64) then (0 : Int32) else (1 : Int32)) := by
    have e : (100 : Int64).toInt = 100 := by decide
    by_cases z : q < (100 : Int64)
    · rw [if_pos z, if_neg]; rw [Int64.lt_iff_toInt_lt] at z; omega
    · rw [if_neg z, if_pos]; rw [Int64.lt_iff_toInt_lt] at z; omega
  have c3 : (if 1 ≤ n / 10 / 10 / 10 then (1 : Int32) else 0) = (if q < (1000 : Int64) then (0 : Int32) else (1 : Int32)) := by
    have e : (1000 : Int64).toInt = 1000 := by decide
    by_cases z : q < (1000 : Int64)
    · rw [if_pos z, if_neg]; rw [Int64.lt_iff_toInt_lt] at z; omega
    · rw [if_neg z, if_pos]; rw [Int64.lt_iff_toInt_lt] at z; omega
  have c4 : (if 1 ≤ n / 10 / 10 / 10 / 10 then (1 : Int32) else 0) = (if q < (10000 : Int64) then (0 : Int32) else (1 : Int32)) := by
    have e : (10000 : Int64).toInt = 10000 := by decide
    by_cases z : q < (10000 : Int64)
    · rw [if_pos z, if_neg]; rw [Int64.lt_iff_toInt_lt] at z; omega
    · rw [if_neg z, if_pos]; rw [Int64.lt_iff_toInt_lt] at z; omega
  have c5 : (if 1 ≤ n / 10 / 10 / 10 / 10 / 10 then (1 : Int32) else 0) = (if q < (100000 : Int64) then (0 : Int32) else (1 : Int32)) := by
    have e : (100000 : Int64).toInt = 100000 := by decide
    by_cases z : q < (100000 : Int64)
    · rw [if_pos z, if_neg]; rw [Int64.lt_iff_toInt_lt] at z; omega
    · rw [if_neg z, if_pos]; rw [Int64.lt_iff_toInt_lt] at z; omega
  have c6 : (if 1 ≤ n / 10 / 10 / 10 / 10 / 10 / 10 then (1 : Int32) else 0) = (if q < (1000000 : Int64) then (0 : Int32) else (1 : Int32)) := by
    have e : (1000000 : Int64).toInt = 1000000 := by decide
    by_cases z : q < (1000000 : Int64)
    · rw [if_pos z, if_neg]; rw [Int64.lt_iff_toInt_lt] at z; omega
    · rw [if_neg z, if_pos]; rw [Int64.lt_iff_toInt_lt] at z; omega
  have c7 : (if 1 ≤ n / 10 / 10 / 10 / 10 / 10 / 10 / 10 then (1 : Int32) else 0) = (if q < (10000000 : Int64) then (0 : Int32) else (1 : Int32)) := by
    have e : (10000000 : Int64).toInt = 10000000 := by decide
    by_cases z : q < (10000000 : Int64)
    · rw [if_pos z, if_neg]; rw [Int64.lt_iff_toInt_lt] at z; omega
    · rw [if_neg z, if_pos]; rw [Int64.lt_iff_toInt_lt] at z; omega
  have c8 : (if 1 ≤ n / 10 / 10 / 10 / 10 / 10 / 10 / 10 / 10 then (1 : Int32) else 0) = (if q < (100000000 : Int64) then (0 : Int32) else (1 : Int32)) := by
    have e : (100000000 : Int64).toInt = 100000000 := by decide
    by_cases z : q < (100000000 : Int64)
    · rw [if_pos z, if_neg]; rw [Int64.lt_iff_toInt_lt] at z; omega
    · rw [if_neg z, if_pos]; rw [Int64.lt_iff_toInt_lt] at z; omega
  have c9 : (if 1 ≤ n / 10 / 10 / 10 / 10 / 10 / 10 / 10 / 10 / 10 then (1 : Int32) else 0) = (if q < (1000000000 : Int64) then (0 : Int32) else (1 : Int32)) := by
    have e : (1000000000 : Int64).toInt = 1000000000 := by decide
    by_cases z : q < (1000000000 : Int64)
    · rw [if_pos z, if_neg]; rw [Int64.lt_iff_toInt_lt] at z; omega
    · rw [if_neg z, if_pos]; rw [Int64.lt_iff_toInt_lt] at z; omega
  have c10 : (if 1 ≤ n / 10 / 10 / 10 / 10 / 10 / 10 / 10 / 10 / 10 / 10 then (1 : Int32) else 0) = (if q < (10000000000 : Int64) then (0 : Int32) else (1 : Int32)) := by
    have e : (10000000000 : Int64).toInt = 10000000000 := by decide
    by_cases z : q < (10000000000 : Int64)
    · rw [if_pos z, if_neg]; rw [Int64.lt_iff_toInt_lt] at z; omega
    · rw [if_neg z, if_pos]; rw [Int64.lt_iff_toInt_lt] at z; omega
  have c11 : (if 1 ≤ n / 10 / 10 / 10 / 10 / 10 / 10 / 10 / 10 / 10 / 10 / 10 then (1 : Int32) else 0) = (if q < (100000000000 : Int64) then (0 : Int32) else (1 : Int32)) := by
    have e : (100000000000 : Int64).toInt = 100000000000 := by decide
    by_cases z : q < (100000000000 : Int64)
    · rw [if_pos z, if_neg]; rw [Int64.lt_iff_toInt_lt] at z; omega
    · rw [if_neg z, if_pos]; rw [Int64.lt_iff_toInt_lt] at z; omega
  have c12 : (if 1 ≤ n / 10 / 10 / 10 / 10 / 10 / 10 / 10 / 10 / 10 / 10 / 10 / 10 then (1 : Int32) else 0) = (if q < (1000000000000 : Int64) then (0 : Int32) else (1 : Int32)) := by
    have e : (1000000000000 : Int64).toInt = 1000000000000 := by decide
    by_cases z : q < (1000000000000 : Int64)
    · rw [if_pos z, if_neg]; rw [Int64.lt_iff_toInt_lt] at z; omega
    · rw [if_neg z, if_pos]; rw [Int64.lt_iff_toInt_lt] at z; omega
  have c13 : (if 1 ≤ n / 10 / 10 / 10 / 10 / 10 / 10 / 10 / 10 / 10 / 10 / 10 / 10 / 10 then (1 : Int32) else 0) = (if q < (10000000000000 : Int64) then (0 : Int32) else (1 : Int32)) := by
    have e : (10000000000000 : Int64).toInt = 10000000000000 := by decide
    by_cases z : q < (10000000000000 : Int64)
    · rw [if_pos z, if_neg]; rw [Int64.lt_iff_toInt_lt] at z; omega
    · rw [if_neg z, if_pos]; rw [Int64.lt_iff_toInt_lt] at z; omega
  have c14 : (if 1 ≤ n / 10 / 10 / 10 / 10 / 10 / 10 / 10 / 10 / 10 / 10 / 10 / 10 / 10 / 10 then (1 : Int32) else 0) = (if q < (100000000000000 : Int64) then (0 : Int32) else (1 : Int32)) := by
    have e : (100000000000000 : Int64).toInt = 100000000000000 := by decide
    by_cases z : q < (100000000000000 : Int64)
    · rw [if_pos z, if_neg]; rw [Int64.lt_iff_toInt_lt] at z; omega
    · rw [if_neg z, if_pos]; rw [Int64.lt_iff_toInt_lt] at z; omega
  have c15 : (if 1 ≤ n / 10 / 10 / 10 / 10 / 10 / 10 / 10 / 10 / 10 / 10 / 10 / 10 / 10 / 10 / 10 then (1 : Int32) else 0) = (if q < (1000000000000000 : Int64) then (0 : Int32) else (1 : Int32)) := by
    have e : (1000000000000000 : Int64).toInt = 1000000000000000 := by decide
    by_cases z : q < (1000000000000000 : Int64)
    · rw [if_pos z, if_neg]; rw [Int64.lt_iff_toInt_lt] at z; omega
    · rw [if_neg z, if_pos]; rw [Int64.lt_iff_toInt_lt] at z; omega
  have c16 : (if 1 ≤ n / 10 / 10 / 10 / 10 / 10 / 10 / 10 / 10 / 10 / 10 / 10 / 10 / 10 / 10 / 10 / 10 then (1 : Int32) else 0) = (if q < (10000000000000000 : Int64) then (0 : Int32) else (1 : Int32)) := by
    have e : (10000000000000000 : Int64).toInt = 10000000000000000 := by decide
    by_cases z : q < (10000000000000000 : Int64)
    · rw [if_pos z, if_neg]; rw [Int64.lt_iff_toInt_lt] at z; omega
    · rw [if_neg z, if_pos]; rw [Int64.lt_iff_toInt_lt] at z; omega
  have c17 : (if 1 ≤ n / 10 / 10 / 10 / 10 / 10 / 10 / 10 / 10 / 10 / 10 / 10 / 10 / 10 / 10 / 10 / 10 / 10 then (1 : Int32) else 0) = (if q < (100000000000000000 : Int64) then (0 : Int32) else (1 : Int32)) := by
    have e : (100000000000000000 : Int64).toInt = 100000000000000000 := by decide
    by_cases z : q < (100000000000000000 : Int64)
    · rw [if_pos z, if_neg]; rw [Int64.lt_iff_toInt_lt] at z; omega
    · rw [if_neg z, if_pos]; rw [Int64.lt_iff_toInt_lt] at z; omega
  have c18 : (if 1 ≤ n / 10 / 10 / 10 / 10 / 10 / 10 / 10 / 10 / 10 / 10 / 10 / 10 / 10 / 10 / 10 / 10 / 10 / 10 then (1 : Int32) else 0) = (if q < (1000000000000000000 : Int64) then (0 : Int32) else (1 : Int32)) := by
    have e : (1000000000000000000 : Int64).toInt = 1000000000000000000 := by decide
    by_cases z : q < (1000000000000000000 : Int64)
    · rw [if_pos z, if_neg]; rw [Int64.lt_iff_toInt_lt] at z; omega
    · rw [if_neg z, if_pos]; rw [Int64.lt_iff_toInt_lt] at z; omega
  unfold own_f3
  simp only [own_S, if_pos c0, c1, c2, c3, c4, c5, c6, c7, c8, c9, c10, c11, c12, c13, c14, c15, c16, c17, c18, Int32.add_zero, Int32.add_assoc]
theorem own_law (x : Int64) (s : Int32) : own_f0 x s = 1 := by
  unfold own_f0 own_f1
  generalize (x >>> ((s &&& (63 : Int32)) &&& 0x3f).toInt64) = v
  simp only [own_cnt_S]
  have hd := c_ldiv v 10 10 (by decide) (by decide)
  have hv := rng64 v
  have e0 : (0 : Int64).toInt = 0 := by decide
  by_cases c : v / 10 = 0
  · rw [c]
    have z : own_S 19 (0 : Int64).toInt.natAbs = 0 := by decide
    rw [z]
    split <;> simp
  · rw [if_neg c]
    have hq : own_f3 (own_f2 (v / 10)) = own_S 19 (v / 10).toInt.natAbs := by
      have hb : -922337203685477580 ≤ (v / 10).toInt ∧ (v / 10).toInt ≤ 922337203685477580 := by
        by_cases q : 0 ≤ v.toInt
        · have := hd.1 q; omega
        · have := hd.2 (by omega); omega
      rw [← Int64.toInt_inj] at c
      generalize v / 10 = w at *
      unfold own_f2
      split
      · next z =>
        rw [Int64.lt_iff_toInt_lt] at z
        have h1 := c_lneg w
        have h2 := rng64 (-w)
        rw [own_mag _ (by omega)]
        congr 1
        omega
      · next z =>
        rw [Int64.lt_iff_toInt_lt] at z
        rw [own_mag _ (by omega)]
    rw [hq]
    generalize own_S 19 (v / 10).toInt.natAbs = k
    have k1 : (2 : Int32) + k = 1 + k + 1 := by rw [Int32.add_comm 1 k, Int32.add_assoc, Int32.add_comm]; rfl
    by_cases z : v < 0
    · rw [if_pos z, if_pos z, k1, if_pos rfl]
    · rw [if_neg z, if_neg z, Int32.add_zero, if_pos rfl]
set_option maxRecDepth 65536 in
set_option maxHeartbeats 40000000 in
theorem comes_1 {Post : Tables → Env → Array Value → State → Outcome → State → Prop} (hpost : ∀ tb e args s v u, (limb_1_1.after args s (.returned v) u = true ∧ limb_1_2.after args s (.returned v) u = true ∧ True) → FrameEnd s (.returned v) u (Jvm.fieldLocs frame_1_writes args s ++ Jvm.arrayLocs frame_1_arrays args s ++ Jvm.staticLocs frame_1_statics s) 0 0 → Post tb e args s (.returned v) u) :
    ArmFor flags0 classFile x code maxLocals ret World_1 tables_1 room_1 Calls_1 rest_1 Pre_1 Post := by
  intro l hfl _ _ p e ha hc hk s m args below hf hA hF happ hP
  obtain ⟨hcalls, hrest, hpre⟩ := hP
  obtain ⟨-, -, -, hnamed, -, -, -, hat⟩ := (Spec.applies_iff hf).mp happ
  obtain ⟨hg, hn⟩ := and_e (Cond.before_iff.mp (show (Jvm.Cond.and given_1 narrow_1).before args s = true from hpre))
  obtain ⟨hg1, hg2⟩ := and_e hg
  obtain ⟨hg3, hg4⟩ := and_e hg2
  obtain ⟨w0, w1, rfl⟩ : ∃ w0 w1 : Value, args = #[w0, w1] := by
    have hs : args.size = 2 := by simpa [Cond.value, given_1] using hg1
    obtain ⟨L⟩ := args
    match L, hs with
    | [w0, w1], _ => exact ⟨w0, w1, rfl⟩
  have hw := fun d (hd : d ∈ tables_1) => atoms_spec (ws := Jvm.Cond.code x code maxLocals ret :: tables_1) hat d (List.mem_cons_of_mem _ hd)
  have hfit : Fit s := fun {y c} hc i hi => by
    obtain ⟨ha, rfl⟩ := Array.getElem?_eq_some_iff.mp hc
    have q := List.all_eq_true.mp ((Array.all_eq_true_iff_forall_mem.mp hF) _ (Array.getElem_mem ha)) i (List.mem_range.mpr hi)
    simpa [Array.getElem?_eq_getElem hi] using q
  obtain ⟨i0, ei0⟩ := isL_v hg3
  obtain rfl : w0 = (.long i0) := Option.some.inj ei0
  obtain ⟨i1, ei1⟩ := is_v hg4
  obtain rfl : w1 = (.int i1) := Option.some.inj ei1
  obtain ⟨n, o, h1, h2, h3, _, L, rfl, ⟨rfl, N⟩, hq⟩ := rm0 l s _ hw tables_1 i0 i1 s.heap s.heap.size (Nat.le_refl _) p e ha hc hk s m _ below hf ((Spec.applies_iff_loose hf).mp happ).1 ⟨rfl, State.Warmed39.refl s, rfl⟩ trivial
  refine ⟨n, _, h1, h2, h3, hpost _ _ _ _ _ _ ⟨Cond.after_iff.mpr rfl, Cond.after_iff.mpr (eq_i res_at (Term.int_eval (1)) (by rw [own_law])), trivial⟩ ⟨hq.1, hq.2.1, (hq.2.2.sift fun y hy => Or.inr (N y hy)).mono (by decide) (by decide)⟩⟩
theorem main_1_1 : Claimed_1_1 := comes_1 fun _ _ _ _ _ _ h hF => ⟨h.1, hF⟩
theorem main_1_2 : Claimed_1_2 := comes_1 fun _ _ _ _ _ _ h hF => ⟨h.2.1, hF⟩
end Jvm.Pilot.@@N@@
namespace Jvm.Pilot.@@N@@
open Jvm Jvm.ClassFile Sem Op Lib Jvm.Free Jvm.Stand Jvm.Pilot.@@N@@.Jvm.D
/-! MADE BY PROGRAM (witnessworld.py) out of the Statement's table words and the real class files: 10 classes; the members and pool entries that the words name. The judged class is class 1, her method 2. -/
namespace start1
open Jvm.ClassFile
def u (s : String) : CpInfo := .utf8 (stringToUtf16 s)
/-- a pool by its gaps: so many unusable entries, then the entry; so many at the end -/
def gap : Nat → List CpInfo → List CpInfo
  | 0, r => r
  | n + 1, r => .unusable :: gap n r
def poolList (es : List (Nat × CpInfo)) (last : Nat) : List CpInfo := es.foldr (fun e r => gap e.1 (e.2 :: r)) (gap last [])
def pool (es : List (Nat × CpInfo)) (last : Nat) : Array CpInfo := ⟨poolList es last⟩
def fileOf (pool : Array CpInfo) (this : Nat) (attrs : Array Attribute := #[]) (ms : Array MethodInfo := #[]) (fl : Nat := 33) (sup : Nat := 0) (ifs : Array Nat := #[]) (fds : Array FieldInfo := #[]) : ClassFile where
  minorVersion := 0
  majorVersion := 65
  constantPool := pool
  accessFlags := fl
  thisClass := this
  superClass := sup
  interfaces := ifs
  fields := fds
  methods := ms
  attributes := attrs
def plain (name : String) (sup : Option ClassId) : Class where
  name := name
  kind := .ordinary
  loader := none
  accessFlags := 33
  super := sup
  interfaces := #[]
  cf := none
  fields := #[]
  methods := #[]
  instanceTypes := #[]
  staticTypes := #[]
  resolved := #[]
  callSites := []
  init := .initialized
  statics := none
  mirror := none

def pool0 : Array CpInfo := pool [(5, u "<init>"), (0, u "()V"), (1, .class_ 10), (1, u "java/lang/Object")] 113

def k0m0 : Method := { name := "<init>", desc := "()V", sig := { parameters := [], returnType := none }, accessFlags := 1, code := none }
/-- java/lang/Object -/
def k0 : Class := { plain "java/lang/Object" none with
  accessFlags := 33
  interfaces := #[]
  cf := some (fileOf pool0 8 #[] #[{ accessFlags := 1, nameIndex := 5, descriptorIndex := 6, attributes := #[] }] 33 0 #[] #[])
  fields := #[]
  methods := #[k0m0]
  instanceTypes := #[]
  staticTypes := #[]
  resolved := Array.replicate 124 none
  statics := none }

def pool1 : Array CpInfo := pool [(2, .class_ 4), (1, u "java/lang/Object"), (0, u "<init>"), (0, u "()V"), (0, .long 10), (1, .long 100), (1, .long 1000), (1, .long 10000), (1, .long 100000), (1, .long 1000000), (1, .long 10000000), (1, .long 100000000), (1, .long 1000000000), (1, .long 10000000000), (1, .long 100000000000), (1, .long 1000000000000), (1, .long 10000000000000), (1, .long 100000000000000), (1, .long 1000000000000000), (1, .long 10000000000000000), (1, .long 100000000000000000), (1, .long 1000000000000000000), (1, .methodref 44 45), (0, .class_ 46), (0, .nameAndType 47 48), (0, u "java/lang/Math"), (0, u "abs"), (0, u "(J)J"), (0, .methodref 50 51), (0, .class_ 52), (0, .nameAndType 53 54), (0, u "com/example/fairmark/fairmark/DecimalsDigitCountPinLaw"), (0, u "mag"), (0, u "(J)I"), (0, .methodref 56 57), (0, .class_ 58), (0, .nameAndType 59 54), (0, u "com/example/fairmark/fairmark/Decimals"), (0, u "digitCount"), (3, u "law"), (0, u "(JI)Z")] 2

def k1m0 : Method := { name := "<init>", desc := "()V", sig := { parameters := [], returnType := none }, accessFlags := 2, code := none }
def k1c1 : Code := { maxStack := 5, maxLocals := 2, code := method_2_code, exceptionTable := #[], attributes := #[] }
def k1m1 : Method := { name := "mag", desc := "(J)I", sig := { parameters := [.long], returnType := some .int }, accessFlags := 10, code := some k1c1 }
def k1c2 : Code := { maxStack := 5, maxLocals := 9, code := code, exceptionTable := #[], attributes := #[] }
def k1m2 : Method := { name := "law", desc := "(JI)Z", sig := { parameters := [.long, .int], returnType := some .boolean }, accessFlags := 9, code := some k1c2 }
/-- com/example/fairmark/fairmark/DecimalsDigitCountPinLaw -/
def k1 : Class := { plain "com/example/fairmark/fairmark/DecimalsDigitCountPinLaw" (some 0) with
  accessFlags := 49
  interfaces := #[]
  cf := some (fileOf pool1 50 #[] #[{ accessFlags := 2, nameIndex := 5, descriptorIndex := 6, attributes := #[] }, { accessFlags := 10, nameIndex := 53, descriptorIndex := 54, attributes := #[] }, { accessFlags := 9, nameIndex := 63, descriptorIndex := 64, attributes := #[] }] 49 2 #[] #[])
  fields := #[]
  methods := #[k1m0, k1m1, k1m2]
  instanceTypes := #[]
  staticTypes := #[]
  resolved := Array.replicate 67 none
  statics := none }

def pool2 : Array CpInfo := pool [(1, .class_ 2), (0, u "com/example/fairmark/fairmark/Decimals"), (1, .class_ 6), (1, u "java/lang/Object"), (0, u "<init>"), (0, u "()V"), (30, u "TENS"), (0, u "[J"), (29, u "INTEGERS"), (0, u "[Ljava/math/BigDecimal;"), (3, .long 10), (3, u "digitCount"), (0, u "(J)I"), (82, u "FIVE"), (0, u "Ljava/math/BigInteger;"), (18, u "PLACES"), (0, u "I"), (2, u "DIGITS"), (1, u "RANGE"), (0, u "Ljava/lang/String;"), (2, u "TEXT_CHARS"), (1, u "MAX_LONG_DIGITS")] 26

def k2m0 : Method := { name := "<init>", desc := "()V", sig := { parameters := [], returnType := none }, accessFlags := 2, code := none }
def k2c1 : Code := { maxStack := 4, maxLocals := 5, code := prog_2_method_6_code, exceptionTable := #[], attributes := #[] }
def k2m1 : Method := { name := "digitCount", desc := "(J)I", sig := { parameters := [.long], returnType := some .int }, accessFlags := 8, code := some k2c1 }
/-- com/example/fairmark/fairmark/Decimals -/
def k2 : Class := { plain "com/example/fairmark/fairmark/Decimals" (some 0) with
  accessFlags := 48
  interfaces := #[]
  cf := some (fileOf pool2 1 #[] #[{ accessFlags := 2, nameIndex := 7, descriptorIndex := 8, attributes := #[] }, { accessFlags := 8, nameIndex := 79, descriptorIndex := 80, attributes := #[] }] 48 4 #[] #[{ accessFlags := 24, nameIndex := 183, descriptorIndex := 184, attributes := #[] }, { accessFlags := 24, nameIndex := 187, descriptorIndex := 184, attributes := #[] }, { accessFlags := 24, nameIndex := 189, descriptorIndex := 190, attributes := #[] }, { accessFlags := 24, nameIndex := 193, descriptorIndex := 184, attributes := #[] }, { accessFlags := 26, nameIndex := 163, descriptorIndex := 164, attributes := #[] }, { accessFlags := 26, nameIndex := 195, descriptorIndex := 184, attributes := #[] }, { accessFlags := 26, nameIndex := 39, descriptorIndex := 40, attributes := #[] }, { accessFlags := 26, nameIndex := 70, descriptorIndex := 71, attributes := #[] }])
  fields := #[{ name := "PLACES", type := .int, accessFlags := 24, slot := 0, constantValue := 0 }, { name := "DIGITS", type := .int, accessFlags := 24, slot := 1, constantValue := 0 }, { name := "RANGE", type := (.object "java/lang/String"), accessFlags := 24, slot := 2, constantValue := 0 }, { name := "TEXT_CHARS", type := .int, accessFlags := 24, slot := 3, constantValue := 0 }, { name := "FIVE", type := (.object "java/math/BigInteger"), accessFlags := 26, slot := 4, constantValue := 0 }, { name := "MAX_LONG_DIGITS", type := .int, accessFlags := 26, slot := 5, constantValue := 0 }, { name := "TENS", type := (.array .long), accessFlags := 26, slot := 6, constantValue := 0 }, { name := "INTEGERS", type := (.array (.object "java/math/BigDecimal")), accessFlags := 26, slot := 7, constantValue := 0 }]
  methods := #[k2m0, k2m1]
  instanceTypes := #[]
  staticTypes := #[.int, .int, (.object "java/lang/String"), .int, (.object "java/math/BigInteger"), .int, (.array .long), (.array (.object "java/math/BigDecimal"))]
  resolved := Array.replicate 222 none
  statics := none }

def pool3 : Array CpInfo := pool [(1, .class_ 2), (0, u "java/lang/Math"), (1, .class_ 6), (1, u "java/lang/Object"), (0, u "<init>"), (0, u "()V"), (89, .class_ 100), (1, u "java/lang/Math$RandomNumberGeneratorHolder"), (23, u "abs"), (0, u "(J)J"), (46, u "negativeZeroFloatBits"), (0, u "J"), (2, u "negativeZeroDoubleBits"), (68, u "$assertionsDisabled"), (0, u "Z"), (91, u "twoToTheDoubleScaleDown"), (0, u "D"), (4, u "twoToTheDoubleScaleUp"), (9, u "E"), (3, u "PI"), (2, u "TAU"), (2, u "DEGREES_TO_RADIANS"), (0, u "RADIANS_TO_DEGREES")] 94

def k3m0 : Method := { name := "<init>", desc := "()V", sig := { parameters := [], returnType := none }, accessFlags := 2, code := none }
def k3c1 : Code := { maxStack := 4, maxLocals := 2, code := jdk_29_method_61_code, exceptionTable := #[], attributes := #[] }
def k3m1 : Method := { name := "abs", desc := "(J)J", sig := { parameters := [.long], returnType := some .long }, accessFlags := 9, code := some k3c1 }
/-- java/lang/Math -/
def k3 : Class := { plain "java/lang/Math" (some 0) with
  accessFlags := 49
  interfaces := #[]
  cf := some (fileOf pool3 1 #[.nestMembers #[98]] #[{ accessFlags := 2, nameIndex := 7, descriptorIndex := 8, attributes := #[] }, { accessFlags := 9, nameIndex := 124, descriptorIndex := 125, attributes := #[] }] 49 4 #[] #[{ accessFlags := 25, nameIndex := 354, descriptorIndex := 339, attributes := #[] }, { accessFlags := 25, nameIndex := 358, descriptorIndex := 339, attributes := #[] }, { accessFlags := 25, nameIndex := 361, descriptorIndex := 339, attributes := #[] }, { accessFlags := 26, nameIndex := 364, descriptorIndex := 339, attributes := #[] }, { accessFlags := 26, nameIndex := 365, descriptorIndex := 339, attributes := #[] }, { accessFlags := 26, nameIndex := 172, descriptorIndex := 173, attributes := #[] }, { accessFlags := 26, nameIndex := 176, descriptorIndex := 173, attributes := #[] }, { accessFlags := 8, nameIndex := 344, descriptorIndex := 339, attributes := #[] }, { accessFlags := 8, nameIndex := 338, descriptorIndex := 339, attributes := #[] }, { accessFlags := 4120, nameIndex := 245, descriptorIndex := 246, attributes := #[] }])
  fields := #[{ name := "E", type := .double, accessFlags := 25, slot := 0, constantValue := 0 }, { name := "PI", type := .double, accessFlags := 25, slot := 1, constantValue := 0 }, { name := "TAU", type := .double, accessFlags := 25, slot := 2, constantValue := 0 }, { name := "DEGREES_TO_RADIANS", type := .double, accessFlags := 26, slot := 3, constantValue := 0 }, { name := "RADIANS_TO_DEGREES", type := .double, accessFlags := 26, slot := 4, constantValue := 0 }, { name := "negativeZeroFloatBits", type := .long, accessFlags := 26, slot := 5, constantValue := 0 }, { name := "negativeZeroDoubleBits", type := .long, accessFlags := 26, slot := 6, constantValue := 0 }, { name := "twoToTheDoubleScaleUp", type := .double, accessFlags := 8, slot := 7, constantValue := 0 }, { name := "twoToTheDoubleScaleDown", type := .double, accessFlags := 8, slot := 8, constantValue := 0 }, { name := "$assertionsDisabled", type := .boolean, accessFlags := 4120, slot := 9, constantValue := 0 }]
  methods := #[k3m0, k3m1]
  instanceTypes := #[]
  staticTypes := #[.double, .double, .double, .double, .double, .long, .long, .double, .double, .boolean]
  resolved := Array.replicate 460 none
  statics := none }

def pool4 : Array CpInfo := pool [(1, u "java/lang/Cloneable"), (0, .class_ 1), (0, u "java/lang/Object"), (0, .class_ 3)] 3

/-- java/lang/Cloneable -/
def k4 : Class := { plain "java/lang/Cloneable" (some 0) with
  accessFlags := 1537
  interfaces := #[]
  cf := some (fileOf pool4 2 #[] #[] 1537 4 #[] #[])
  fields := #[]
  methods := #[]
  instanceTypes := #[]
  staticTypes := #[]
  resolved := Array.replicate 8 none
  statics := none }

def pool5 : Array CpInfo := pool [(1, u "java/io/Serializable"), (0, .class_ 1), (0, u "java/lang/Object"), (0, .class_ 3)] 3

/-- java/io/Serializable -/
def k5 : Class := { plain "java/io/Serializable" (some 0) with
  accessFlags := 1537
  interfaces := #[]
  cf := some (fileOf pool5 2 #[] #[] 1537 4 #[] #[])
  fields := #[]
  methods := #[]
  instanceTypes := #[]
  staticTypes := #[]
  resolved := Array.replicate 8 none
  statics := none }

/-- the primitive byte -/
def k6 : Class := { plain "byte" none with kind := .primitive 'B', accessFlags := 0x411 }
/-- [B -/
def k7 : Class := { plain "[B" (some 0) with kind := .array 6 .byte, interfaces := #[4, 5], accessFlags := 1041 }

/-- the primitive int -/
def k8 : Class := { plain "int" none with kind := .primitive 'I', accessFlags := 0x411 }
/-- [I -/
def k9 : Class := { plain "[I" (some 0) with kind := .array 8 .int, interfaces := #[4, 5], accessFlags := 1041 }

def heap : Heap := #[]
def classes : Array Class := #[k0, k1, k2, k3, k4, k5, k6, k7, k8, k9]
def interned : List (Array UInt16 × Addr) := []
def slotsUsed : Nat := 0
def theMethod : MethodId := ⟨1, 2⟩
def args0 : Array Value := #[.long 5, .int 7]
def aboutOver (below : List Frame) : State where
  vm := { classes := classes, interned := interned.toArray }
  heap := heap
  slotsUsed := slotsUsed
  threads := #[{ frames := .invoking theMethod args0 :: below }]
def below0 : List Frame := [.native { method := ⟨0, 0⟩, args := #[] }]
def about1 : State := aboutOver below0
def p0 : Program := .bare "" "" ""
def e0 : Env := launch0.env 0 0 0
theorem w_frames : about1.frames = Frame.invoking theMethod args0 :: below0 := rfl
set_option maxRecDepth 65536 in
theorem w_args : argsFit about1.vm theMethod args0 = true := by decide +kernel
set_option maxRecDepth 65536 in
theorem w_heap : heapFits about1 = true := by decide +kernel
set_option maxRecDepth 65536 in
theorem w_runnable : about1.curStatus? = some .runnable := by decide +kernel
set_option maxRecDepth 65536 in
theorem w_alone : about1.alone = true := by decide +kernel
set_option maxRecDepth 65536 in
theorem w_named : about1.methodNamed? x = some theMethod := by decide +kernel
set_option maxRecDepth 65536 in
theorem w_hears : about1.hears theMethod below0 = true := by decide +kernel
set_option maxRecDepth 65536 in
theorem w_ripe : about1.ripe theMethod args0 below0 = true := by decide +kernel
theorem w_running : about1.status = .running := rfl
set_option maxRecDepth 65536 in
theorem w_room : about1.hasRoom e0.platform room_1 = true :=
  launch0.hasRoom_least _ room_1 (by decide +kernel) (by decide +kernel) (by decide +kernel) (by decide +kernel) (by decide +kernel) (by decide +kernel)
theorem allAtoms_all (ts : List Jvm.Cond) (a : Array Jvm.Value) (st : Jvm.State) : (allAtoms ts).before a st = ts.all (fun c => c.before a st) := by
  induction ts with
  | nil => rfl
  | cons c t ih =>
    show (Jvm.Cond.and c (allAtoms t)).before a st = _
    rw [Jvm.Cond.before_and, ih, List.all_cons]
def words1 : List Jvm.Cond := Jvm.Cond.code x code maxLocals ret :: tables_1
/-- a 'code' word, met by the world's own term for the bytes: nothing is compared byte by byte -/
theorem code_word {y : MethodName} {bytes : ByteArray} {mx : Nat} {rt : Option FieldType} {a : Array Value} {s : State} {m : MethodId} {meth : Method} {c : Code} (h1 : s.methodNamed? y = some m) (h2 : s.vm.method? m = some meth) (h3 : meth.code = some c) (h4 : c.code = bytes)
    (h5 : (c.maxLocals == mx && c.exceptionTable.isEmpty && decide (c.maxStack ≤ mostOperands) && decide (meth.sig.returnType = rt) && !meth.locks && decide (parseMethodDescriptor y.desc = some meth.sig)) = true) : (Jvm.Cond.code y bytes mx rt).before a s = true := by
  simp only [Bool.and_eq_true, beq_iff_eq, Bool.not_eq_true', decide_eq_true_eq] at h5
  obtain ⟨⟨⟨⟨⟨g1, g2⟩, g3⟩, g4⟩, g5⟩, g6⟩ := h5
  simp [Cond.before, Cond.holds, Cond.value, h1, h2, h3, h4, g1, g2, g3, g4, g5, g6]
def isCode : Jvm.Cond → Bool
  | .code _ _ _ _ => true
  | _ => false
theorem all_split {L : List Jvm.Cond} {P : Jvm.Cond → Bool} (h1 : L.all (fun c => isCode c || P c) = true) (h2 : ∀ c ∈ L.filter isCode, P c = true) : L.all P = true := by
  refine List.all_eq_true.mpr fun c hc => ?_
  have h := List.all_eq_true.mp h1 c hc
  rcases Bool.eq_false_or_eq_true (isCode c) with hi | hi
  · exact h2 c (List.mem_filter.mpr ⟨hc, hi⟩)
  · simpa [hi] using h
set_option maxRecDepth 65536 in
theorem w_c0 : (Jvm.Cond.code x code maxLocals ret).before args0 about1 = true := code_word (m := ⟨1, 2⟩) (meth := k1m2) (c := k1c2) (by decide +kernel) rfl rfl rfl (by decide +kernel)
set_option maxRecDepth 65536 in
theorem w_c1 : (Jvm.Cond.code ({ cls := "com/example/fairmark/fairmark/Decimals", name := "digitCount", desc := "(J)I" } : Jvm.MethodName) prog_2_method_6_code (5 : Nat) (Option.some Jvm.ClassFile.FieldType.int)).before args0 about1 = true := code_word (m := ⟨2, 1⟩) (meth := k2m1) (c := k2c1) (by decide +kernel) rfl rfl rfl (by decide +kernel)
set_option maxRecDepth 65536 in
theorem w_c2 : (Jvm.Cond.code ({ cls := "java/lang/Math", name := "abs", desc := "(J)J" } : Jvm.MethodName) jdk_29_method_61_code (2 : Nat) (Option.some Jvm.ClassFile.FieldType.long)).before args0 about1 = true := code_word (m := ⟨3, 1⟩) (meth := k3m1) (c := k3c1) (by decide +kernel) rfl rfl rfl (by decide +kernel)
set_option maxRecDepth 65536 in
theorem w_c3 : (Jvm.Cond.code ({ cls := "com/example/fairmark/fairmark/DecimalsDigitCountPinLaw", name := "mag", desc := "(J)I" } : Jvm.MethodName) method_2_code (2 : Nat) (Option.some Jvm.ClassFile.FieldType.int)).before args0 about1 = true := code_word (m := ⟨1, 1⟩) (meth := k1m1) (c := k1c1) (by decide +kernel) rfl rfl rfl (by decide +kernel)
def codes1 : List Jvm.Cond := [Jvm.Cond.code x code maxLocals ret, Jvm.Cond.code ({ cls := "com/example/fairmark/fairmark/Decimals", name := "digitCount", desc := "(J)I" } : Jvm.MethodName) prog_2_method_6_code (5 : Nat) (Option.some Jvm.ClassFile.FieldType.int), Jvm.Cond.code ({ cls := "java/lang/Math", name := "abs", desc := "(J)J" } : Jvm.MethodName) jdk_29_method_61_code (2 : Nat) (Option.some Jvm.ClassFile.FieldType.long), Jvm.Cond.code ({ cls := "com/example/fairmark/fairmark/DecimalsDigitCountPinLaw", name := "mag", desc := "(J)I" } : Jvm.MethodName) method_2_code (2 : Nat) (Option.some Jvm.ClassFile.FieldType.int)]
set_option maxRecDepth 65536 in
theorem codes_eq : words1.filter isCode = codes1 := rfl
theorem w_codes : ∀ c ∈ words1.filter isCode, c.before args0 about1 = true := by
  rw [codes_eq]
  intro c hc
  simp only [codes1, List.mem_cons, List.not_mem_nil, or_false] at hc
  rcases hc with rfl | rfl | rfl | rfl
  · exact w_c0
  · exact w_c1
  · exact w_c2
  · exact w_c3
set_option maxRecDepth 65536 in
theorem w_t1 : (words1.take 24).all (fun c => isCode c || c.before args0 about1) = true := by decide +kernel
set_option maxRecDepth 65536 in
theorem w_t2 : (words1.drop 24).all (fun c => isCode c || c.before args0 about1) = true := by decide +kernel
theorem w_tables : (allAtoms (Jvm.Cond.code x code maxLocals ret :: tables_1)).before args0 about1 = true := by
  rw [allAtoms_all]
  show words1.all (fun c => c.before args0 about1) = true
  refine all_split ?_ w_codes
  rw [← List.take_append_drop 24 words1, List.all_append, w_t1, w_t2]
  rfl
set_option maxRecDepth 65536 in
theorem w_case : (Jvm.Cond.and given_1 narrow_1).before args0 about1 = true := by decide +kernel
theorem w_applies : (headSpec (Jvm.Cond.code x code maxLocals ret :: tables_1) room_1).applies x e0.platform about1 = true :=
  (Spec.applies_iff w_frames).mpr ⟨w_running, w_runnable, w_alone, w_named, w_hears, w_ripe, w_room, w_tables⟩
theorem atStart : AtStart classFile x code maxLocals ret World_1 tables_1 room_1 Calls_1 rest_1 Pre_1 launch0 p0 e0 about1 theMethod args0 below0 :=
  ⟨lists_1, trivial, launch0.admits_env _ _ _, launch0.least_env, fairChoices_fair.cas, fairChoices_fair.clock, w_frames, w_args, w_heap, w_applies, trivial, trivial, w_case⟩
end start1
theorem witness_1 : WitnessClaimed_1 := ⟨start1.p0, start1.e0, start1.about1, start1.theMethod, start1.args0, start1.below0, start1.atStart⟩
end Jvm.Pilot.@@N@@
