import JvmDerived
import JvmDerived.Pilot.@@N@@Statement
import JvmDerived.Pilot.@@N@@Code
set_option linter.unusedVariables false
set_option linter.unusedSimpArgs false
namespace Jvm.RoadKit
open Sem ClassFile Op Lib Jvm.Stand Jvm.Free Jvm.LawKit
section New
variable {p : Program} {l : Launch} {e : Env} {R : Room} {s : State} {m : MethodId} {args : Array Value} {below : List Frame} {meth : Method} {c : Code} {T : State} {locs : List Loc} {cells slots : Nat}
theorem retI (X : Stand p l e R s m args below meth c T locs cells slots) (hx : p.tables.exec = Jvm.exec) {pc : Nat} {Ls : Array Slot} {z : Int32} {rest : List Value} (hret : meth.sig.returnType = some .int) (hd : decode c.code pc = .ok (.ireturn, 1)) {fs : List Frame}
    (hl : ∀ (f : JFrame) (acts : List Action), f.method = m → f.locked = none → f.entered = [] → (doReturn e (T.setTop f) acts (some (.int z))).1 = T.setFrames fs) : Steps p.tables e below (T.setTop (mkF m pc Ls (.int z :: rest))) (T.setFrames fs) := by
  have hm' : T.vm.method? m = some meth := X.method'
  have hn : narrow .int (.int z) = .int z := rfl
  show Steps p.tables e below (T.setTop { method := m, pc := pc, locals := Ls, stack := _ :: rest, locked := none }) _
  jvm_step X.here [X.here.top, hx, hd, hm', hret, hn]
  first | (intro acts; rw [hl _ acts rfl rfl rfl]) | rw [hl _ _ rfl rfl rfl]
  exact Steps.refl _
end New
end Jvm.RoadKit
namespace Jvm.Pilot.@@N@@
open Jvm Jvm.ClassFile Sem Op Lib Jvm.Free Jvm.Stand Jvm.LawKit Jvm.RoadKit Bundle Jvm.Pilot.@@N@@.Jvm.D
theorem own_nar {z : Int32} (h : z = 0 ∨ z = 1) : nar .boolean z = z := by rcases h with rfl | rfl <;> rfl
theorem d1_0 : decode prog_12_method_6_code 0 = .ok (.aload_n 0, 1) := by decide +kernel
theorem d1_1 : decode prog_12_method_6_code 1 = .ok (.getstatic 3, 3) := by decide +kernel
theorem d1_4 : decode prog_12_method_6_code 4 = .ok (.if_acmp .eq 17, 3) := by decide +kernel
theorem d1_7 : decode prog_12_method_6_code 7 = .ok (.aload_n 0, 1) := by decide +kernel
theorem d1_8 : decode prog_12_method_6_code 8 = .ok (.getstatic 7, 3) := by decide +kernel
theorem d1_11 : decode prog_12_method_6_code 11 = .ok (.if_acmp .eq 10, 3) := by decide +kernel
theorem d1_14 : decode prog_12_method_6_code 14 = .ok (.aload_n 0, 1) := by decide +kernel
theorem d1_15 : decode prog_12_method_6_code 15 = .ok (.getstatic 10, 3) := by decide +kernel
theorem d1_18 : decode prog_12_method_6_code 18 = .ok (.if_acmp .ne 7, 3) := by decide +kernel
theorem d1_21 : decode prog_12_method_6_code 21 = .ok (.iconst 1, 1) := by decide +kernel
theorem d1_22 : decode prog_12_method_6_code 22 = .ok (.goto 4, 3) := by decide +kernel
theorem d1_25 : decode prog_12_method_6_code 25 = .ok (.iconst 0, 1) := by decide +kernel
theorem d1_26 : decode prog_12_method_6_code 26 = .ok (.ireturn, 1) := by decide +kernel
theorem own_fld {args : Array Value} {s : State} {t : Term} {a : Addr} {C n d : String} {v : Value} (ev : t.eval args s none [] s = some (.ref a)) (q : (Term.field t C n d).eval args s none [] s = some v) : s.fieldOf? a C n d = some v := by
  simp only [Term.eval, ev] at q
  simpa using q
def own_att (a aP aF aW : Addr) : Int32 := if a = aP then 1 else if a = aF then 1 else if a = aW then 1 else 0
theorem own_att_01 (a aP aF aW : Addr) : own_att a aP aF aW = 0 ∨ own_att a aP aF aW = 1 := by
  unfold own_att
  repeat' (first | split | simp)
set_option maxRecDepth 65536 in
set_option maxHeartbeats 40000000 in
theorem own_att_b {p : Program} {l : Launch} {e : Env} {R : Room} {s : State} {m : MethodId} {args : Array Value} {below : List Frame} {meth : Method} {c : Code} {T0 : State} {locs : List Loc} {cells slots : Nat} {Z : State} {a0 : Array Value} {h0 : Heap} (a aP aF aW : Addr)
    (X0 : Stand p l e R s m args below meth c T0 locs cells slots) (hx : p.tables.exec = Jvm.exec) (hZ : Z.Warmed39 s.vm) (hw : ∀ d ∈ tables_1, d.before a0 Z = true) (hby : c.code = prog_12_method_6_code) (hown : s.vm.findClass "com/example/halyard/halyard/conformance/Result" = some m.cls) (e0 : T0.heap = h0) (SP : Sta Z h0 "com/example/halyard/halyard/conformance/Result" "PASS" "Lcom/example/halyard/halyard/conformance/Result;" (.ref aP)) (SF : Sta Z h0 "com/example/halyard/halyard/conformance/Result" "FAIL" "Lcom/example/halyard/halyard/conformance/Result;" (.ref aF)) (SW : Sta Z h0 "com/example/halyard/halyard/conformance/Result" "WRONG_ERROR" "Lcom/example/halyard/halyard/conformance/Result;" (.ref aW)) :
    ∃ (T' : State), Stand p l e R s m args below meth c T' locs cells slots ∧ T'.heap = h0 ∧
      ∀ target, Steps p.tables e below (T'.setTop (mkF m 26 #[.val (.ref a)] [.int (own_att a aP aF aW)])) target → Steps p.tables e below (T0.setTop (mkF m 0 #[.val (.ref a)] [])) target := by
  obtain ⟨T1, X1, e1, st1⟩ := getS2 X0 hx hZ hown (host := "") (Or.inl (hw _ (List.mem_of_getElem? (i := 9) rfl))) Via.refl e0 SP (g := (mkF m 1 #[.val (.ref a)] [(.ref a)])) rfl (hb hby d1_1)
  obtain ⟨T2, X2, e2, st2⟩ := getS2 X1 hx hZ hown (host := "") (Or.inl (hw _ (List.mem_of_getElem? (i := 12) rfl))) Via.refl e1 SF (g := (mkF m 8 #[.val (.ref a)] [(.ref a)])) rfl (hb hby d1_8)
  obtain ⟨T3, X3, e3, st3⟩ := getS2 X2 hx hZ hown (host := "") (Or.inl (hw _ (List.mem_of_getElem? (i := 14) rfl))) Via.refl e2 SW (g := (mkF m 15 #[.val (.ref a)] [(.ref a)])) rfl (hb hby d1_15)
  by_cases hP : a = aP
  · refine ⟨T1, X1, e1, fun target kt => ?_⟩
    rw [own_att, if_pos hP] at kt
    show Steps p.tables e below (T0.setTop (mkF m 0 #[.val (.ref a)] [])) _
    refine XS.aloadN X0.here hx rfl (hb hby d1_0) rfl rfl ?_
    refine st1 _ ?_
    show Steps p.tables e below (T1.setTop (mkF m 4 #[.val (.ref a)] [(.ref aP), (.ref a)])) _
    refine Jvm.RoadKit.acmp (g := (mkF m 4 #[.val (.ref a)] [(.ref aP), (.ref a)])) X1 hx rfl rfl rfl (pc0 := 4) (pc' := 21) (same := true) rfl (hb hby d1_4) rfl (decide_eq_true (congrArg Value.ref hP)) (by decide) (by decide) ?_
    show Steps p.tables e below (T1.setTop (mkF m 21 #[.val (.ref a)] [])) _
    refine XS.iconst X1.here hx rfl (hb hby d1_21) ?_
    show Steps p.tables e below (T1.setTop (mkF m 22 #[.val (.ref a)] [(.int (1 : Int32))])) _
    refine XS.goto X1.here hx rfl (pc0 := 22) (pc' := 26) rfl (hb hby d1_22) (by decide) (by decide) ?_
    show Steps p.tables e below (T1.setTop (mkF m 26 #[.val (.ref a)] [(.int (1 : Int32))])) _
    exact kt
  · by_cases hF : a = aF
    · refine ⟨T2, X2, e2, fun target kt => ?_⟩
      rw [own_att, if_neg hP, if_pos hF] at kt
      show Steps p.tables e below (T0.setTop (mkF m 0 #[.val (.ref a)] [])) _
      refine XS.aloadN X0.here hx rfl (hb hby d1_0) rfl rfl ?_
      refine st1 _ ?_
      show Steps p.tables e below (T1.setTop (mkF m 4 #[.val (.ref a)] [(.ref aP), (.ref a)])) _
      refine Jvm.RoadKit.acmp (g := (mkF m 4 #[.val (.ref a)] [(.ref aP), (.ref a)])) X1 hx rfl rfl rfl (pc0 := 4) (pc' := 7) (same := false) rfl (hb hby d1_4) rfl (decide_eq_false fun q => hP (Value.ref.inj q)) (by decide) (by decide) ?_
      show Steps p.tables e below (T1.setTop (mkF m 7 #[.val (.ref a)] [])) _
      refine XS.aloadN X1.here hx rfl (hb hby d1_7) rfl rfl ?_
      refine st2 _ ?_
      show Steps p.tables e below (T2.setTop (mkF m 11 #[.val (.ref a)] [(.ref aF), (.ref a)])) _
      refine Jvm.RoadKit.acmp (g := (mkF m 11 #[.val (.ref a)] [(.ref aF), (.ref a)])) X2 hx rfl rfl rfl (pc0 := 11) (pc' := 21) (same := true) rfl (hb hby d1_11) rfl (decide_eq_true (congrArg Value.ref hF)) (by decide) (by decide) ?_
      show Steps p.tables e below (T2.setTop (mkF m 21 #[.val (.ref a)] [])) _
      refine XS.iconst X2.here hx rfl (hb hby d1_21) ?_
      show Steps p.tables e below (T2.setTop (mkF m 22 #[.val (.ref a)] [(.int (1 : Int32))])) _
      refine XS.goto X2.here hx rfl (pc0 := 22) (pc' := 26) rfl (hb hby d1_22) (by decide) (by decide) ?_
      show Steps p.tables e below (T2.setTop (mkF m 26 #[.val (.ref a)] [(.int (1 : Int32))])) _
      exact kt
    · by_cases hW : a = aW
      · refine ⟨T3, X3, e3, fun target kt => ?_⟩
        rw [own_att, if_neg hP, if_neg hF, if_pos hW] at kt
        show Steps p.tables e below (T0.setTop (mkF m 0 #[.val (.ref a)] [])) _
        refine XS.aloadN X0.here hx rfl (hb hby d1_0) rfl rfl ?_
        refine st1 _ ?_
        show Steps p.tables e below (T1.setTop (mkF m 4 #[.val (.ref a)] [(.ref aP), (.ref a)])) _
        refine Jvm.RoadKit.acmp (g := (mkF m 4 #[.val (.ref a)] [(.ref aP), (.ref a)])) X1 hx rfl rfl rfl (pc0 := 4) (pc' := 7) (same := false) rfl (hb hby d1_4) rfl (decide_eq_false fun q => hP (Value.ref.inj q)) (by decide) (by decide) ?_
        show Steps p.tables e below (T1.setTop (mkF m 7 #[.val (.ref a)] [])) _
        refine XS.aloadN X1.here hx rfl (hb hby d1_7) rfl rfl ?_
        refine st2 _ ?_
        show Steps p.tables e below (T2.setTop (mkF m 11 #[.val (.ref a)] [(.ref aF), (.ref a)])) _
        refine Jvm.RoadKit.acmp (g := (mkF m 11 #[.val (.ref a)] [(.ref aF), (.ref a)])) X2 hx rfl rfl rfl (pc0 := 11) (pc' := 14) (same := false) rfl (hb hby d1_11) rfl (decide_eq_false fun q => hF (Value.ref.inj q)) (by decide) (by decide) ?_
        show Steps p.tables e below (T2.setTop (mkF m 14 #[.val (.ref a)] [])) _
        refine XS.aloadN X2.here hx rfl (hb hby d1_14) rfl rfl ?_
        refine st3 _ ?_
        show Steps p.tables e below (T3.setTop (mkF m 18 #[.val (.ref a)] [(.ref aW), (.ref a)])) _
        refine Jvm.RoadKit.acmp (g := (mkF m 18 #[.val (.ref a)] [(.ref aW), (.ref a)])) X3 hx rfl rfl rfl (pc0 := 18) (pc' := 21) (same := true) rfl (hb hby d1_18) rfl (decide_eq_true (congrArg Value.ref hW)) (by decide) (by decide) ?_
        show Steps p.tables e below (T3.setTop (mkF m 21 #[.val (.ref a)] [])) _
        refine XS.iconst X3.here hx rfl (hb hby d1_21) ?_
        show Steps p.tables e below (T3.setTop (mkF m 22 #[.val (.ref a)] [(.int (1 : Int32))])) _
        refine XS.goto X3.here hx rfl (pc0 := 22) (pc' := 26) rfl (hb hby d1_22) (by decide) (by decide) ?_
        show Steps p.tables e below (T3.setTop (mkF m 26 #[.val (.ref a)] [(.int (1 : Int32))])) _
        exact kt
      · refine ⟨T3, X3, e3, fun target kt => ?_⟩
        rw [own_att, if_neg hP, if_neg hF, if_neg hW] at kt
        show Steps p.tables e below (T0.setTop (mkF m 0 #[.val (.ref a)] [])) _
        refine XS.aloadN X0.here hx rfl (hb hby d1_0) rfl rfl ?_
        refine st1 _ ?_
        show Steps p.tables e below (T1.setTop (mkF m 4 #[.val (.ref a)] [(.ref aP), (.ref a)])) _
        refine Jvm.RoadKit.acmp (g := (mkF m 4 #[.val (.ref a)] [(.ref aP), (.ref a)])) X1 hx rfl rfl rfl (pc0 := 4) (pc' := 7) (same := false) rfl (hb hby d1_4) rfl (decide_eq_false fun q => hP (Value.ref.inj q)) (by decide) (by decide) ?_
        show Steps p.tables e below (T1.setTop (mkF m 7 #[.val (.ref a)] [])) _
        refine XS.aloadN X1.here hx rfl (hb hby d1_7) rfl rfl ?_
        refine st2 _ ?_
        show Steps p.tables e below (T2.setTop (mkF m 11 #[.val (.ref a)] [(.ref aF), (.ref a)])) _
        refine Jvm.RoadKit.acmp (g := (mkF m 11 #[.val (.ref a)] [(.ref aF), (.ref a)])) X2 hx rfl rfl rfl (pc0 := 11) (pc' := 14) (same := false) rfl (hb hby d1_11) rfl (decide_eq_false fun q => hF (Value.ref.inj q)) (by decide) (by decide) ?_
        show Steps p.tables e below (T2.setTop (mkF m 14 #[.val (.ref a)] [])) _
        refine XS.aloadN X2.here hx rfl (hb hby d1_14) rfl rfl ?_
        refine st3 _ ?_
        show Steps p.tables e below (T3.setTop (mkF m 18 #[.val (.ref a)] [(.ref aW), (.ref a)])) _
        refine Jvm.RoadKit.acmp (g := (mkF m 18 #[.val (.ref a)] [(.ref aW), (.ref a)])) X3 hx rfl rfl rfl (pc0 := 18) (pc' := 25) (same := false) rfl (hb hby d1_18) rfl (decide_eq_false fun q => hW (Value.ref.inj q)) (by decide) (by decide) ?_
        show Steps p.tables e below (T3.setTop (mkF m 25 #[.val (.ref a)] [])) _
        refine XS.iconst X3.here hx rfl (hb hby d1_25) ?_
        show Steps p.tables e below (T3.setTop (mkF m 26 #[.val (.ref a)] [(.int (0 : Int32))])) _
        exact kt
theorem pn_1 : plainName "com/example/halyard/halyard/conformance/Result" = true := by first | (simp [plainName, overriddenIn]; done) | decide +kernel
def Q1 (a aP aF aW : Addr) (h0 : Heap) (n0 : Nat) (v : Option Value) (h : Heap) (L : List Loc) : Prop := v = some (.int (own_att a aP aF aW)) ∧ Fr n0 L ∧ h = h0
theorem ef_1 (m : MethodId) (x0 : Addr) : entryFrame m #[(.ref x0)] 1 = mkF m 0 #[.val (.ref x0)] [] := by first | (simp [entryFrame, mkF, argsToLocals, Value.category]; done) | rfl
set_option maxRecDepth 65536 in
set_option maxHeartbeats 40000000 in
theorem rm1 (l : Launch) (Z : State) (a0 : Array Value) (hw : ∀ d ∈ tables_1, d.before a0 Z = true) (ws : List Jvm.Cond) (a aP aF aW : Addr) (h0 : Heap) (n0 : Nat) (Z0 : n0 ≤ h0.size) (SP : Sta Z h0 "com/example/halyard/halyard/conformance/Result" "PASS" "Lcom/example/halyard/halyard/conformance/Result;" (.ref aP)) (SF : Sta Z h0 "com/example/halyard/halyard/conformance/Result" "FAIL" "Lcom/example/halyard/halyard/conformance/Result;" (.ref aF)) (SW : Sta Z h0 "com/example/halyard/halyard/conformance/Result" "WRONG_ERROR" "Lcom/example/halyard/halyard/conformance/Result;" (.ref aW)) :
    MetFree l (⟨"com/example/halyard/halyard/conformance/Result", "attempted", "()Z"⟩ : MethodName) (head1 (Jvm.Cond.code (⟨"com/example/halyard/halyard/conformance/Result", "attempted", "()Z"⟩ : MethodName) prog_12_method_6_code 1 (some .boolean) :: ws) ({ frames := 0, cells := 0, slots := 0, locals := 0 } : Room)) (fun a' U => a' = #[(.ref a)] ∧ Z.Warmed39 U.vm ∧ U.heap = h0) (fun _ _ _ _ _ => True) (fun _ U o U' => ∃ v L, o = .returned v ∧ Q1 a aP aF aW h0 n0 v U'.heap L ∧ FrameEnd U o U' L (({ frames := 0, cells := 0, slots := 0, locals := 0 } : Room)).cells (({ frames := 0, cells := 0, slots := 0, locals := 0 } : Room)).slots) := by
  refine MetFree.of_bodySF (plainFor_of_name pn_1) hisR ?_
  intro p e s m args below meth c s₁ Bd hml0 hP hK
  obtain ⟨rfl, hZ, hh⟩ := hP
  have hx := Bd.exec
  have hby := Bd.bytes
  have hown : s.vm.findClass "com/example/halyard/halyard/conformance/Result" = some m.cls := findClass_of_methodNamed Bd.named
  have X0 : Stand p l e ({ frames := 0, cells := 0, slots := 0, locals := 0 } : Room) s m #[(.ref a)] below meth c s₁ [] 0 0 := Stand.of_body Bd
  have e0 : s₁.heap = h0 := by rw [← hh, Bd.state]; rfl
  obtain ⟨T', X', e', st'⟩ := own_att_b a aP aF aW X0 hx hZ hw hby hown e0 SP SF SW
  obtain ⟨fs, hr, hrun, hended, hW, hsame⟩ := X'.leave (v := some (.int (nar .boolean (own_att a aP aF aW)))) (fun h => by rw [Bd.returns] at h; cases h)
  refine ⟨_, _, castTop (ef_1 m a) (st' _ ?_), hrun, hended, _, _, rfl, ?_, ⟨_, rfl⟩, hW, hsame.mono (by decide) (by decide)⟩
  · exact retN X' hx (t := .boolean) Bd.returns (by simp) (hb hby d1_26) hr
  · exact ⟨by rw [own_nar (own_att_01 a aP aF aW)], Fr.nil n0, e'⟩
def own_k (q1 : Int32) : Int32 := ((q1 &&& (2147483647 : Int32)) - (q1 &&& (2147483647 : Int32)) / (5 : Int32) * (5 : Int32))
set_option maxRecDepth 65536 in
set_option maxHeartbeats 40000000 in
theorem own_sel {p : Program} {l : Launch} {e : Env} {R : Room} {s : State} {m : MethodId} {args : Array Value} {below : List Frame} {meth : Method} {c : Code} {T0 : State} {locs : List Loc} {cells slots : Nat} {Z : State} {a0 : Array Value} {h0 : Heap} (q1 : Int32) (aP aF aW aN aA : Addr)
    (X0 : Stand p l e R s m args below meth c T0 locs cells slots) (hx : p.tables.exec = Jvm.exec) (hZ : Z.Warmed39 s.vm) (hw : ∀ d ∈ tables_1, d.before a0 Z = true) (hby : c.code = code) (hown : s.vm.findClass "com/example/halyard/halyard/conformance/ResultAttemptedPinLaw" = some m.cls) (e0 : T0.heap = h0) (SP : Sta Z h0 "com/example/halyard/halyard/conformance/Result" "PASS" "Lcom/example/halyard/halyard/conformance/Result;" (.ref aP)) (SF : Sta Z h0 "com/example/halyard/halyard/conformance/Result" "FAIL" "Lcom/example/halyard/halyard/conformance/Result;" (.ref aF)) (SW : Sta Z h0 "com/example/halyard/halyard/conformance/Result" "WRONG_ERROR" "Lcom/example/halyard/halyard/conformance/Result;" (.ref aW)) (SN : Sta Z h0 "com/example/halyard/halyard/conformance/Result" "NOT_RUN" "Lcom/example/halyard/halyard/conformance/Result;" (.ref aN)) (SA : Sta Z h0 "com/example/halyard/halyard/conformance/Result" "NOT_APPLICABLE" "Lcom/example/halyard/halyard/conformance/Result;" (.ref aA)) :
    ∃ (T' : State) (a : Addr) (ex : Int32), Stand p l e R s m args below meth c T' locs cells slots ∧ T'.heap = h0 ∧ ((a = aP ∨ a = aF ∨ a = aW) ∧ ex = 1 ∨ (a = aN ∨ a = aA) ∧ ex = 0) ∧
      ∀ target, Steps p.tables e below (T'.setTop (mkF m 68 #[.val (.int q1), .val (.int (own_k q1)), .val (.ref a), .val (.int ex)] [])) target → Steps p.tables e below (T0.setTop (mkF m 0 #[.val (.int q1), .unset, .unset, .unset] [])) target := by
  by_cases hk0 : (own_k q1) = 0
  · obtain ⟨T1, X1, e1, st1⟩ := getS2 X0 hx hZ hown (host := "") (Or.inl (hw _ (List.mem_of_getElem? (i := 1) rfl))) Via.refl e0 SP (g := (mkF m 11 #[.val (.int q1), .val (.int (own_k q1)), .unset, .unset] [])) rfl (hb hby at_11)
    refine ⟨T1, aP, 1, X1, e1, Or.inl ⟨Or.inl rfl, rfl⟩, fun target kt => ?_⟩
    show Steps p.tables e below (T0.setTop (mkF m 0 #[.val (.int q1), .unset, .unset, .unset] [])) _
    refine XS.iloadN X0.here hx rfl (hb hby at_0) rfl ?_
    show Steps p.tables e below (T0.setTop (mkF m 1 #[.val (.int q1), .unset, .unset, .unset] [(.int q1)])) _
    refine X0.ldcInt hx hown (mvT hZ (hw _ (List.mem_of_getElem? (i := 0) rfl))) (g := (mkF m 1 #[.val (.int q1), .unset, .unset, .unset] [(.int q1)])) rfl (hb hby at_1) _ ?_
    show Steps p.tables e below (T0.setTop (mkF m 3 #[.val (.int q1), .unset, .unset, .unset] [(.int (2147483647 : Int32)), (.int q1)])) _
    refine XS.iand X0.here hx rfl (hb hby at_3) rfl ?_
    show Steps p.tables e below (T0.setTop (mkF m 4 #[.val (.int q1), .unset, .unset, .unset] [(.int (q1 &&& (2147483647 : Int32)))])) _
    refine XS.iconst X0.here hx rfl (hb hby at_4) ?_
    show Steps p.tables e below (T0.setTop (mkF m 5 #[.val (.int q1), .unset, .unset, .unset] [(.int (5 : Int32)), (.int (q1 &&& (2147483647 : Int32)))])) _
    refine XS.irem X0.here hx rfl (hb hby at_5) rfl (by decide) ?_
    show Steps p.tables e below (T0.setTop (mkF m 6 #[.val (.int q1), .unset, .unset, .unset] [(.int ((q1 &&& (2147483647 : Int32)) - (q1 &&& (2147483647 : Int32)) / (5 : Int32) * (5 : Int32)))])) _
    refine XS.istoreN X0.here hx rfl (hb hby at_6) rfl (l' := #[.val (.int q1), .val (.int ((q1 &&& (2147483647 : Int32)) - (q1 &&& (2147483647 : Int32)) / (5 : Int32) * (5 : Int32))), .unset, .unset]) rfl ?_
    show Steps p.tables e below (T0.setTop (mkF m 7 #[.val (.int q1), .val (.int (own_k q1)), .unset, .unset] [])) _
    refine XS.iloadN X0.here hx rfl (hb hby at_7) rfl ?_
    show Steps p.tables e below (T0.setTop (mkF m 8 #[.val (.int q1), .val (.int (own_k q1)), .unset, .unset] [(.int (own_k q1))])) _
    refine XS.ifNo X0.here hx rfl (hb hby at_8) rfl ((if0 _ _).trans (teq hk0).2) ?_
    show Steps p.tables e below (T0.setTop (mkF m 11 #[.val (.int q1), .val (.int (own_k q1)), .unset, .unset] [])) _
    refine st1 _ ?_
    show Steps p.tables e below (T1.setTop (mkF m 14 #[.val (.int q1), .val (.int (own_k q1)), .unset, .unset] [(.ref aP)])) _
    refine XS.astoreN X1.here hx rfl (hb hby at_14) rfl rfl (l' := #[.val (.int q1), .val (.int (own_k q1)), .val (.ref aP), .unset]) rfl ?_
    show Steps p.tables e below (T1.setTop (mkF m 15 #[.val (.int q1), .val (.int (own_k q1)), .val (.ref aP), .unset] [])) _
    refine XS.iconst X1.here hx rfl (hb hby at_15) ?_
    show Steps p.tables e below (T1.setTop (mkF m 16 #[.val (.int q1), .val (.int (own_k q1)), .val (.ref aP), .unset] [(.int (1 : Int32))])) _
    refine XS.istoreN X1.here hx rfl (hb hby at_16) rfl (l' := #[.val (.int q1), .val (.int (own_k q1)), .val (.ref aP), .val (.int (1 : Int32))]) rfl ?_
    show Steps p.tables e below (T1.setTop (mkF m 17 #[.val (.int q1), .val (.int (own_k q1)), .val (.ref aP), .val (.int (1 : Int32))] [])) _
    refine XS.goto X1.here hx rfl (pc0 := 17) (pc' := 68) rfl (hb hby at_17) (by decide) (by decide) ?_
    show Steps p.tables e below (T1.setTop (mkF m 68 #[.val (.int q1), .val (.int (own_k q1)), .val (.ref aP), .val (.int (1 : Int32))] [])) _
    exact kt
  · by_cases hk1 : (own_k q1) = 1
    · obtain ⟨T1, X1, e1, st1⟩ := getS2 X0 hx hZ hown (host := "") (Or.inl (hw _ (List.mem_of_getElem? (i := 16) rfl))) Via.refl e0 SF (g := (mkF m 25 #[.val (.int q1), .val (.int (own_k q1)), .unset, .unset] [])) rfl (hb hby at_25)
      refine ⟨T1, aF, 1, X1, e1, Or.inl ⟨Or.inr (Or.inl rfl), rfl⟩, fun target kt => ?_⟩
      show Steps p.tables e below (T0.setTop (mkF m 0 #[.val (.int q1), .unset, .unset, .unset] [])) _
      refine XS.iloadN X0.here hx rfl (hb hby at_0) rfl ?_
      show Steps p.tables e below (T0.setTop (mkF m 1 #[.val (.int q1), .unset, .unset, .unset] [(.int q1)])) _
      refine X0.ldcInt hx hown (mvT hZ (hw _ (List.mem_of_getElem? (i := 0) rfl))) (g := (mkF m 1 #[.val (.int q1), .unset, .unset, .unset] [(.int q1)])) rfl (hb hby at_1) _ ?_
      show Steps p.tables e below (T0.setTop (mkF m 3 #[.val (.int q1), .unset, .unset, .unset] [(.int (2147483647 : Int32)), (.int q1)])) _
      refine XS.iand X0.here hx rfl (hb hby at_3) rfl ?_
      show Steps p.tables e below (T0.setTop (mkF m 4 #[.val (.int q1), .unset, .unset, .unset] [(.int (q1 &&& (2147483647 : Int32)))])) _
      refine XS.iconst X0.here hx rfl (hb hby at_4) ?_
      show Steps p.tables e below (T0.setTop (mkF m 5 #[.val (.int q1), .unset, .unset, .unset] [(.int (5 : Int32)), (.int (q1 &&& (2147483647 : Int32)))])) _
      refine XS.irem X0.here hx rfl (hb hby at_5) rfl (by decide) ?_
      show Steps p.tables e below (T0.setTop (mkF m 6 #[.val (.int q1), .unset, .unset, .unset] [(.int ((q1 &&& (2147483647 : Int32)) - (q1 &&& (2147483647 : Int32)) / (5 : Int32) * (5 : Int32)))])) _
      refine XS.istoreN X0.here hx rfl (hb hby at_6) rfl (l' := #[.val (.int q1), .val (.int ((q1 &&& (2147483647 : Int32)) - (q1 &&& (2147483647 : Int32)) / (5 : Int32) * (5 : Int32))), .unset, .unset]) rfl ?_
      show Steps p.tables e below (T0.setTop (mkF m 7 #[.val (.int q1), .val (.int (own_k q1)), .unset, .unset] [])) _
      refine XS.iloadN X0.here hx rfl (hb hby at_7) rfl ?_
      show Steps p.tables e below (T0.setTop (mkF m 8 #[.val (.int q1), .val (.int (own_k q1)), .unset, .unset] [(.int (own_k q1))])) _
      refine XS.ifYes X0.here hx rfl (pc0 := 8) (pc' := 20) rfl (hb hby at_8) rfl ((if0 _ _).trans (feq hk0).2) (by decide) (by decide) ?_
      show Steps p.tables e below (T0.setTop (mkF m 20 #[.val (.int q1), .val (.int (own_k q1)), .unset, .unset] [])) _
      refine XS.iloadN X0.here hx rfl (hb hby at_20) rfl ?_
      show Steps p.tables e below (T0.setTop (mkF m 21 #[.val (.int q1), .val (.int (own_k q1)), .unset, .unset] [(.int (own_k q1))])) _
      refine XS.iconst X0.here hx rfl (hb hby at_21) ?_
      show Steps p.tables e below (T0.setTop (mkF m 22 #[.val (.int q1), .val (.int (own_k q1)), .unset, .unset] [(.int (1 : Int32)), (.int (own_k q1))])) _
      refine XS.icmpNo X0.here hx rfl (hb hby at_22) rfl (teq hk1).2 ?_
      show Steps p.tables e below (T0.setTop (mkF m 25 #[.val (.int q1), .val (.int (own_k q1)), .unset, .unset] [])) _
      refine st1 _ ?_
      show Steps p.tables e below (T1.setTop (mkF m 28 #[.val (.int q1), .val (.int (own_k q1)), .unset, .unset] [(.ref aF)])) _
      refine XS.astoreN X1.here hx rfl (hb hby at_28) rfl rfl (l' := #[.val (.int q1), .val (.int (own_k q1)), .val (.ref aF), .unset]) rfl ?_
      show Steps p.tables e below (T1.setTop (mkF m 29 #[.val (.int q1), .val (.int (own_k q1)), .val (.ref aF), .unset] [])) _
      refine XS.iconst X1.here hx rfl (hb hby at_29) ?_
      show Steps p.tables e below (T1.setTop (mkF m 30 #[.val (.int q1), .val (.int (own_k q1)), .val (.ref aF), .unset] [(.int (1 : Int32))])) _
      refine XS.istoreN X1.here hx rfl (hb hby at_30) rfl (l' := #[.val (.int q1), .val (.int (own_k q1)), .val (.ref aF), .val (.int (1 : Int32))]) rfl ?_
      show Steps p.tables e below (T1.setTop (mkF m 31 #[.val (.int q1), .val (.int (own_k q1)), .val (.ref aF), .val (.int (1 : Int32))] [])) _
      refine XS.goto X1.here hx rfl (pc0 := 31) (pc' := 68) rfl (hb hby at_31) (by decide) (by decide) ?_
      show Steps p.tables e below (T1.setTop (mkF m 68 #[.val (.int q1), .val (.int (own_k q1)), .val (.ref aF), .val (.int (1 : Int32))] [])) _
      exact kt
    · by_cases hk2 : (own_k q1) = 2
      · obtain ⟨T1, X1, e1, st1⟩ := getS2 X0 hx hZ hown (host := "") (Or.inl (hw _ (List.mem_of_getElem? (i := 19) rfl))) Via.refl e0 SW (g := (mkF m 39 #[.val (.int q1), .val (.int (own_k q1)), .unset, .unset] [])) rfl (hb hby at_39)
        refine ⟨T1, aW, 1, X1, e1, Or.inl ⟨Or.inr (Or.inr rfl), rfl⟩, fun target kt => ?_⟩
        show Steps p.tables e below (T0.setTop (mkF m 0 #[.val (.int q1), .unset, .unset, .unset] [])) _
        refine XS.iloadN X0.here hx rfl (hb hby at_0) rfl ?_
        show Steps p.tables e below (T0.setTop (mkF m 1 #[.val (.int q1), .unset, .unset, .unset] [(.int q1)])) _
        refine X0.ldcInt hx hown (mvT hZ (hw _ (List.mem_of_getElem? (i := 0) rfl))) (g := (mkF m 1 #[.val (.int q1), .unset, .unset, .unset] [(.int q1)])) rfl (hb hby at_1) _ ?_
        show Steps p.tables e below (T0.setTop (mkF m 3 #[.val (.int q1), .unset, .unset, .unset] [(.int (2147483647 : Int32)), (.int q1)])) _
        refine XS.iand X0.here hx rfl (hb hby at_3) rfl ?_
        show Steps p.tables e below (T0.setTop (mkF m 4 #[.val (.int q1), .unset, .unset, .unset] [(.int (q1 &&& (2147483647 : Int32)))])) _
        refine XS.iconst X0.here hx rfl (hb hby at_4) ?_
        show Steps p.tables e below (T0.setTop (mkF m 5 #[.val (.int q1), .unset, .unset, .unset] [(.int (5 : Int32)), (.int (q1 &&& (2147483647 : Int32)))])) _
        refine XS.irem X0.here hx rfl (hb hby at_5) rfl (by decide) ?_
        show Steps p.tables e below (T0.setTop (mkF m 6 #[.val (.int q1), .unset, .unset, .unset] [(.int ((q1 &&& (2147483647 : Int32)) - (q1 &&& (2147483647 : Int32)) / (5 : Int32) * (5 : Int32)))])) _
        refine XS.istoreN X0.here hx rfl (hb hby at_6) rfl (l' := #[.val (.int q1), .val (.int ((q1 &&& (2147483647 : Int32)) - (q1 &&& (2147483647 : Int32)) / (5 : Int32) * (5 : Int32))), .unset, .unset]) rfl ?_
        show Steps p.tables e below (T0.setTop (mkF m 7 #[.val (.int q1), .val (.int (own_k q1)), .unset, .unset] [])) _
        refine XS.iloadN X0.here hx rfl (hb hby at_7) rfl ?_
        show Steps p.tables e below (T0.setTop (mkF m 8 #[.val (.int q1), .val (.int (own_k q1)), .unset, .unset] [(.int (own_k q1))])) _
        refine XS.ifYes X0.here hx rfl (pc0 := 8) (pc' := 20) rfl (hb hby at_8) rfl ((if0 _ _).trans (feq hk0).2) (by decide) (by decide) ?_
        show Steps p.tables e below (T0.setTop (mkF m 20 #[.val (.int q1), .val (.int (own_k q1)), .unset, .unset] [])) _
        refine XS.iloadN X0.here hx rfl (hb hby at_20) rfl ?_
        show Steps p.tables e below (T0.setTop (mkF m 21 #[.val (.int q1), .val (.int (own_k q1)), .unset, .unset] [(.int (own_k q1))])) _
        refine XS.iconst X0.here hx rfl (hb hby at_21) ?_
        show Steps p.tables e below (T0.setTop (mkF m 22 #[.val (.int q1), .val (.int (own_k q1)), .unset, .unset] [(.int (1 : Int32)), (.int (own_k q1))])) _
        refine XS.icmpYes X0.here hx rfl (pc0 := 22) (pc' := 34) rfl (hb hby at_22) rfl (feq hk1).2 (by decide) (by decide) ?_
        show Steps p.tables e below (T0.setTop (mkF m 34 #[.val (.int q1), .val (.int (own_k q1)), .unset, .unset] [])) _
        refine XS.iloadN X0.here hx rfl (hb hby at_34) rfl ?_
        show Steps p.tables e below (T0.setTop (mkF m 35 #[.val (.int q1), .val (.int (own_k q1)), .unset, .unset] [(.int (own_k q1))])) _
        refine XS.iconst X0.here hx rfl (hb hby at_35) ?_
        show Steps p.tables e below (T0.setTop (mkF m 36 #[.val (.int q1), .val (.int (own_k q1)), .unset, .unset] [(.int (2 : Int32)), (.int (own_k q1))])) _
        refine XS.icmpNo X0.here hx rfl (hb hby at_36) rfl (teq hk2).2 ?_
        show Steps p.tables e below (T0.setTop (mkF m 39 #[.val (.int q1), .val (.int (own_k q1)), .unset, .unset] [])) _
        refine st1 _ ?_
        show Steps p.tables e below (T1.setTop (mkF m 42 #[.val (.int q1), .val (.int (own_k q1)), .unset, .unset] [(.ref aW)])) _
        refine XS.astoreN X1.here hx rfl (hb hby at_42) rfl rfl (l' := #[.val (.int q1), .val (.int (own_k q1)), .val (.ref aW), .unset]) rfl ?_
        show Steps p.tables e below (T1.setTop (mkF m 43 #[.val (.int q1), .val (.int (own_k q1)), .val (.ref aW), .unset] [])) _
        refine XS.iconst X1.here hx rfl (hb hby at_43) ?_
        show Steps p.tables e below (T1.setTop (mkF m 44 #[.val (.int q1), .val (.int (own_k q1)), .val (.ref aW), .unset] [(.int (1 : Int32))])) _
        refine XS.istoreN X1.here hx rfl (hb hby at_44) rfl (l' := #[.val (.int q1), .val (.int (own_k q1)), .val (.ref aW), .val (.int (1 : Int32))]) rfl ?_
        show Steps p.tables e below (T1.setTop (mkF m 45 #[.val (.int q1), .val (.int (own_k q1)), .val (.ref aW), .val (.int (1 : Int32))] [])) _
        refine XS.goto X1.here hx rfl (pc0 := 45) (pc' := 68) rfl (hb hby at_45) (by decide) (by decide) ?_
        show Steps p.tables e below (T1.setTop (mkF m 68 #[.val (.int q1), .val (.int (own_k q1)), .val (.ref aW), .val (.int (1 : Int32))] [])) _
        exact kt
      · by_cases hk3 : (own_k q1) = 3
        · obtain ⟨T1, X1, e1, st1⟩ := getS2 X0 hx hZ hown (host := "") (Or.inl (hw _ (List.mem_of_getElem? (i := 10) rfl))) Via.refl e0 SN (g := (mkF m 53 #[.val (.int q1), .val (.int (own_k q1)), .unset, .unset] [])) rfl (hb hby at_53)
          refine ⟨T1, aN, 0, X1, e1, Or.inr ⟨Or.inl rfl, rfl⟩, fun target kt => ?_⟩
          show Steps p.tables e below (T0.setTop (mkF m 0 #[.val (.int q1), .unset, .unset, .unset] [])) _
          refine XS.iloadN X0.here hx rfl (hb hby at_0) rfl ?_
          show Steps p.tables e below (T0.setTop (mkF m 1 #[.val (.int q1), .unset, .unset, .unset] [(.int q1)])) _
          refine X0.ldcInt hx hown (mvT hZ (hw _ (List.mem_of_getElem? (i := 0) rfl))) (g := (mkF m 1 #[.val (.int q1), .unset, .unset, .unset] [(.int q1)])) rfl (hb hby at_1) _ ?_
          show Steps p.tables e below (T0.setTop (mkF m 3 #[.val (.int q1), .unset, .unset, .unset] [(.int (2147483647 : Int32)), (.int q1)])) _
          refine XS.iand X0.here hx rfl (hb hby at_3) rfl ?_
          show Steps p.tables e below (T0.setTop (mkF m 4 #[.val (.int q1), .unset, .unset, .unset] [(.int (q1 &&& (2147483647 : Int32)))])) _
          refine XS.iconst X0.here hx rfl (hb hby at_4) ?_
          show Steps p.tables e below (T0.setTop (mkF m 5 #[.val (.int q1), .unset, .unset, .unset] [(.int (5 : Int32)), (.int (q1 &&& (2147483647 : Int32)))])) _
          refine XS.irem X0.here hx rfl (hb hby at_5) rfl (by decide) ?_
          show Steps p.tables e below (T0.setTop (mkF m 6 #[.val (.int q1), .unset, .unset, .unset] [(.int ((q1 &&& (2147483647 : Int32)) - (q1 &&& (2147483647 : Int32)) / (5 : Int32) * (5 : Int32)))])) _
          refine XS.istoreN X0.here hx rfl (hb hby at_6) rfl (l' := #[.val (.int q1), .val (.int ((q1 &&& (2147483647 : Int32)) - (q1 &&& (2147483647 : Int32)) / (5 : Int32) * (5 : Int32))), .unset, .unset]) rfl ?_
          show Steps p.tables e below (T0.setTop (mkF m 7 #[.val (.int q1), .val (.int (own_k q1)), .unset, .unset] [])) _
          refine XS.iloadN X0.here hx rfl (hb hby at_7) rfl ?_
          show Steps p.tables e below (T0.setTop (mkF m 8 #[.val (.int q1), .val (.int (own_k q1)), .unset, .unset] [(.int (own_k q1))])) _
          refine XS.ifYes X0.here hx rfl (pc0 := 8) (pc' := 20) rfl (hb hby at_8) rfl ((if0 _ _).trans (feq hk0).2) (by decide) (by decide) ?_
          show Steps p.tables e below (T0.setTop (mkF m 20 #[.val (.int q1), .val (.int (own_k q1)), .unset, .unset] [])) _
          refine XS.iloadN X0.here hx rfl (hb hby at_20) rfl ?_
          show Steps p.tables e below (T0.setTop (mkF m 21 #[.val (.int q1), .val (.int (own_k q1)), .unset, .unset] [(.int (own_k q1))])) _
          refine XS.iconst X0.here hx rfl (hb hby at_21) ?_
          show Steps p.tables e below (T0.setTop (mkF m 22 #[.val (.int q1), .val (.int (own_k q1)), .unset, .unset] [(.int (1 : Int32)), (.int (own_k q1))])) _
          refine XS.icmpYes X0.here hx rfl (pc0 := 22) (pc' := 34) rfl (hb hby at_22) rfl (feq hk1).2 (by decide) (by decide) ?_
          show Steps p.tables e below (T0.setTop (mkF m 34 #[.val (.int q1), .val (.int (own_k q1)), .unset, .unset] [])) _
          refine XS.iloadN X0.here hx rfl (hb hby at_34) rfl ?_
          show Steps p.tables e below (T0.setTop (mkF m 35 #[.val (.int q1), .val (.int (own_k q1)), .unset, .unset] [(.int (own_k q1))])) _
          refine XS.iconst X0.here hx rfl (hb hby at_35) ?_
          show Steps p.tables e below (T0.setTop (mkF m 36 #[.val (.int q1), .val (.int (own_k q1)), .unset, .unset] [(.int (2 : Int32)), (.int (own_k q1))])) _
          refine XS.icmpYes X0.here hx rfl (pc0 := 36) (pc' := 48) rfl (hb hby at_36) rfl (feq hk2).2 (by decide) (by decide) ?_
          show Steps p.tables e below (T0.setTop (mkF m 48 #[.val (.int q1), .val (.int (own_k q1)), .unset, .unset] [])) _
          refine XS.iloadN X0.here hx rfl (hb hby at_48) rfl ?_
          show Steps p.tables e below (T0.setTop (mkF m 49 #[.val (.int q1), .val (.int (own_k q1)), .unset, .unset] [(.int (own_k q1))])) _
          refine XS.iconst X0.here hx rfl (hb hby at_49) ?_
          show Steps p.tables e below (T0.setTop (mkF m 50 #[.val (.int q1), .val (.int (own_k q1)), .unset, .unset] [(.int (3 : Int32)), (.int (own_k q1))])) _
          refine XS.icmpNo X0.here hx rfl (hb hby at_50) rfl (teq hk3).2 ?_
          show Steps p.tables e below (T0.setTop (mkF m 53 #[.val (.int q1), .val (.int (own_k q1)), .unset, .unset] [])) _
          refine st1 _ ?_
          show Steps p.tables e below (T1.setTop (mkF m 56 #[.val (.int q1), .val (.int (own_k q1)), .unset, .unset] [(.ref aN)])) _
          refine XS.astoreN X1.here hx rfl (hb hby at_56) rfl rfl (l' := #[.val (.int q1), .val (.int (own_k q1)), .val (.ref aN), .unset]) rfl ?_
          show Steps p.tables e below (T1.setTop (mkF m 57 #[.val (.int q1), .val (.int (own_k q1)), .val (.ref aN), .unset] [])) _
          refine XS.iconst X1.here hx rfl (hb hby at_57) ?_
          show Steps p.tables e below (T1.setTop (mkF m 58 #[.val (.int q1), .val (.int (own_k q1)), .val (.ref aN), .unset] [(.int (0 : Int32))])) _
          refine XS.istoreN X1.here hx rfl (hb hby at_58) rfl (l' := #[.val (.int q1), .val (.int (own_k q1)), .val (.ref aN), .val (.int (0 : Int32))]) rfl ?_
          show Steps p.tables e below (T1.setTop (mkF m 59 #[.val (.int q1), .val (.int (own_k q1)), .val (.ref aN), .val (.int (0 : Int32))] [])) _
          refine XS.goto X1.here hx rfl (pc0 := 59) (pc' := 68) rfl (hb hby at_59) (by decide) (by decide) ?_
          show Steps p.tables e below (T1.setTop (mkF m 68 #[.val (.int q1), .val (.int (own_k q1)), .val (.ref aN), .val (.int (0 : Int32))] [])) _
          exact kt
        · obtain ⟨T1, X1, e1, st1⟩ := getS2 X0 hx hZ hown (host := "") (Or.inl (hw _ (List.mem_of_getElem? (i := 17) rfl))) Via.refl e0 SA (g := (mkF m 62 #[.val (.int q1), .val (.int (own_k q1)), .unset, .unset] [])) rfl (hb hby at_62)
          refine ⟨T1, aA, 0, X1, e1, Or.inr ⟨Or.inr rfl, rfl⟩, fun target kt => ?_⟩
          show Steps p.tables e below (T0.setTop (mkF m 0 #[.val (.int q1), .unset, .unset, .unset] [])) _
          refine XS.iloadN X0.here hx rfl (hb hby at_0) rfl ?_
          show Steps p.tables e below (T0.setTop (mkF m 1 #[.val (.int q1), .unset, .unset, .unset] [(.int q1)])) _
          refine X0.ldcInt hx hown (mvT hZ (hw _ (List.mem_of_getElem? (i := 0) rfl))) (g := (mkF m 1 #[.val (.int q1), .unset, .unset, .unset] [(.int q1)])) rfl (hb hby at_1) _ ?_
          show Steps p.tables e below (T0.setTop (mkF m 3 #[.val (.int q1), .unset, .unset, .unset] [(.int (2147483647 : Int32)), (.int q1)])) _
          refine XS.iand X0.here hx rfl (hb hby at_3) rfl ?_
          show Steps p.tables e below (T0.setTop (mkF m 4 #[.val (.int q1), .unset, .unset, .unset] [(.int (q1 &&& (2147483647 : Int32)))])) _
          refine XS.iconst X0.here hx rfl (hb hby at_4) ?_
          show Steps p.tables e below (T0.setTop (mkF m 5 #[.val (.int q1), .unset, .unset, .unset] [(.int (5 : Int32)), (.int (q1 &&& (2147483647 : Int32)))])) _
          refine XS.irem X0.here hx rfl (hb hby at_5) rfl (by decide) ?_
          show Steps p.tables e below (T0.setTop (mkF m 6 #[.val (.int q1), .unset, .unset, .unset] [(.int ((q1 &&& (2147483647 : Int32)) - (q1 &&& (2147483647 : Int32)) / (5 : Int32) * (5 : Int32)))])) _
          refine XS.istoreN X0.here hx rfl (hb hby at_6) rfl (l' := #[.val (.int q1), .val (.int ((q1 &&& (2147483647 : Int32)) - (q1 &&& (2147483647 : Int32)) / (5 : Int32) * (5 : Int32))), .unset, .unset]) rfl ?_
          show Steps p.tables e below (T0.setTop (mkF m 7 #[.val (.int q1), .val (.int (own_k q1)), .unset, .unset] [])) _
          refine XS.iloadN X0.here hx rfl (hb hby at_7) rfl ?_
          show Steps p.tables e below (T0.setTop (mkF m 8 #[.val (.int q1), .val (.int (own_k q1)), .unset, .unset] [(.int (own_k q1))])) _
          refine XS.ifYes X0.here hx rfl (pc0 := 8) (pc' := 20) rfl (hb hby at_8) rfl ((if0 _ _).trans (feq hk0).2) (by decide) (by decide) ?_
          show Steps p.tables e below (T0.setTop (mkF m 20 #[.val (.int q1), .val (.int (own_k q1)), .unset, .unset] [])) _
          refine XS.iloadN X0.here hx rfl (hb hby at_20) rfl ?_
          show Steps p.tables e below (T0.setTop (mkF m 21 #[.val (.int q1), .val (.int (own_k q1)), .unset, .unset] [(.int (own_k q1))])) _
          refine XS.iconst X0.here hx rfl (hb hby at_21) ?_
          show Steps p.tables e below (T0.setTop (mkF m 22 #[.val (.int q1), .val (.int (own_k q1)), .unset, .unset] [(.int (1 : Int32)), (.int (own_k q1))])) _
          refine XS.icmpYes X0.here hx rfl (pc0 := 22) (pc' := 34) rfl (hb hby at_22) rfl (feq hk1).2 (by decide) (by decide) ?_
          show Steps p.tables e below (T0.setTop (mkF m 34 #[.val (.int q1), .val (.int (own_k q1)), .unset, .unset] [])) _
          refine XS.iloadN X0.here hx rfl (hb hby at_34) rfl ?_
          show Steps p.tables e below (T0.setTop (mkF m 35 #[.val (.int q1), .val (.int (own_k q1)), .unset, .unset] [(.int (own_k q1))])) _
          refine XS.iconst X0.here hx rfl (hb hby at_35) ?_
          show Steps p.tables e below (T0.setTop (mkF m 36 #[.val (.int q1), .val (.int (own_k q1)), .unset, .unset] [(.int (2 : Int32)), (.int (own_k q1))])) _
          refine XS.icmpYes X0.here hx rfl (pc0 := 36) (pc' := 48) rfl (hb hby at_36) rfl (feq hk2).2 (by decide) (by decide) ?_
          show Steps p.tables e below (T0.setTop (mkF m 48 #[.val (.int q1), .val (.int (own_k q1)), .unset, .unset] [])) _
          refine XS.iloadN X0.here hx rfl (hb hby at_48) rfl ?_
          show Steps p.tables e below (T0.setTop (mkF m 49 #[.val (.int q1), .val (.int (own_k q1)), .unset, .unset] [(.int (own_k q1))])) _
          refine XS.iconst X0.here hx rfl (hb hby at_49) ?_
          show Steps p.tables e below (T0.setTop (mkF m 50 #[.val (.int q1), .val (.int (own_k q1)), .unset, .unset] [(.int (3 : Int32)), (.int (own_k q1))])) _
          refine XS.icmpYes X0.here hx rfl (pc0 := 50) (pc' := 62) rfl (hb hby at_50) rfl (feq hk3).2 (by decide) (by decide) ?_
          show Steps p.tables e below (T0.setTop (mkF m 62 #[.val (.int q1), .val (.int (own_k q1)), .unset, .unset] [])) _
          refine st1 _ ?_
          show Steps p.tables e below (T1.setTop (mkF m 65 #[.val (.int q1), .val (.int (own_k q1)), .unset, .unset] [(.ref aA)])) _
          refine XS.astoreN X1.here hx rfl (hb hby at_65) rfl rfl (l' := #[.val (.int q1), .val (.int (own_k q1)), .val (.ref aA), .unset]) rfl ?_
          show Steps p.tables e below (T1.setTop (mkF m 66 #[.val (.int q1), .val (.int (own_k q1)), .val (.ref aA), .unset] [])) _
          refine XS.iconst X1.here hx rfl (hb hby at_66) ?_
          show Steps p.tables e below (T1.setTop (mkF m 67 #[.val (.int q1), .val (.int (own_k q1)), .val (.ref aA), .unset] [(.int (0 : Int32))])) _
          refine XS.istoreN X1.here hx rfl (hb hby at_67) rfl (l' := #[.val (.int q1), .val (.int (own_k q1)), .val (.ref aA), .val (.int (0 : Int32))]) rfl ?_
          show Steps p.tables e below (T1.setTop (mkF m 68 #[.val (.int q1), .val (.int (own_k q1)), .val (.ref aA), .val (.int (0 : Int32))] [])) _
          exact kt
theorem pn_0 : plainName "com/example/halyard/halyard/conformance/ResultAttemptedPinLaw" = true := by first | (simp [plainName, overriddenIn]; done) | decide +kernel
theorem ef_0 (m : MethodId) (x0 : Int32) : entryFrame m #[(.int x0)] maxLocals = mkF m 0 #[.val (.int x0), .unset, .unset, .unset] [] := by first | (simp [entryFrame, mkF, argsToLocals, Value.category, maxLocals]; done) | rfl
set_option maxRecDepth 65536 in
set_option maxHeartbeats 40000000 in
theorem rm0 (l : Launch) (Z : State) (a0 : Array Value) (hw : ∀ d ∈ tables_1, d.before a0 Z = true) (ws : List Jvm.Cond) (q1 : Int32) (h0 : Heap) (n0 : Nat) (Z0 : n0 ≤ h0.size) (aP aF aW aN aA : Addr) (SP : Sta Z h0 "com/example/halyard/halyard/conformance/Result" "PASS" "Lcom/example/halyard/halyard/conformance/Result;" (.ref aP)) (SF : Sta Z h0 "com/example/halyard/halyard/conformance/Result" "FAIL" "Lcom/example/halyard/halyard/conformance/Result;" (.ref aF)) (SW : Sta Z h0 "com/example/halyard/halyard/conformance/Result" "WRONG_ERROR" "Lcom/example/halyard/halyard/conformance/Result;" (.ref aW)) (SN : Sta Z h0 "com/example/halyard/halyard/conformance/Result" "NOT_RUN" "Lcom/example/halyard/halyard/conformance/Result;" (.ref aN)) (SA : Sta Z h0 "com/example/halyard/halyard/conformance/Result" "NOT_APPLICABLE" "Lcom/example/halyard/halyard/conformance/Result;" (.ref aA))
    (EX : ∀ a, (a = aP ∨ a = aF ∨ a = aW) ∨ (a = aN ∨ a = aA) → Exa Z h0 a "com/example/halyard/halyard/conformance/Result") (NE : ∀ a, (a = aN ∨ a = aA) → ¬ a = aP ∧ ¬ a = aF ∧ ¬ a = aW) :
    MetFree l x (head1 (Jvm.Cond.code x code maxLocals ret :: ws) room_1) (fun a U => a = #[(.int q1)] ∧ Z.Warmed39 U.vm ∧ U.heap = h0) (fun _ _ _ _ _ => True) (fun _ U o U' => ∃ v L, o = .returned v ∧ (v = some (.int (1 : Int32)) ∧ Fr n0 L) ∧ FrameEnd U o U' L room_1.cells room_1.slots) := by
  refine MetFree.of_bodySF (plainFor_of_name pn_0) hisR ?_
  intro p e s m args below meth c s₁ Bd hml0 hP hK
  obtain ⟨rfl, hZ, hh⟩ := hP
  have hx := Bd.exec
  have hby := Bd.bytes
  have hml : c.maxLocals = 4 := hml0
  have hown : s.vm.findClass "com/example/halyard/halyard/conformance/ResultAttemptedPinLaw" = some m.cls := findClass_of_methodNamed Bd.named
  have X0 : Stand p l e room_1 s m #[(.int q1)] below meth c s₁ [] 0 0 := Stand.of_body Bd
  have e0 : s₁.heap = h0 := by rw [← hh, Bd.state]; rfl
  have N0 := Fr.nil n0
  obtain ⟨T1, a, ex, X1, e1, hsel, st1⟩ := own_sel q1 aP aF aW aN aA X0 hx hZ hw hby hown e0 SP SF SW SN SA
  have E1 : Exa Z h0 a "com/example/halyard/halyard/conformance/Result" := EX a (hsel.imp And.left And.left)
  have hs : own_att a aP aF aW = ex := by
    unfold own_att
    rcases hsel with ⟨h, rfl⟩ | ⟨h, rfl⟩
    · repeat' split
      all_goals first | rfl | (exfalso; rcases h with h | h | h <;> contradiction)
    · obtain ⟨n1, n2, n3⟩ := NE a h
      rw [if_neg n1, if_neg n2, if_neg n3]
  obtain ⟨cq2, kq2, q2a, q2b, q2c⟩ := isOf hZ e1 E1
  obtain ⟨_, _, ⟨T2, L2, k2, n2⟩, -, X2, ⟨Lc2, hQ2, l2, y2, z2⟩, st2⟩ := X1.virtualBack hx (y := (⟨"com/example/halyard/halyard/conformance/Result", "attempted", "()Z"⟩ : MethodName)) (z := (⟨"com/example/halyard/halyard/conformance/Result", "attempted", "()Z"⟩ : MethodName)) hown (mvT hZ (hw _ (List.mem_of_getElem? (i := 4) rfl))) (mvT hZ (hw _ (List.mem_of_getElem? (i := 5) rfl))) (notFace_of_selects (args := #[]) (mvT hZ (hw _ (List.mem_of_getElem? (i := 7) rfl)))) (mvT hZ (hw _ (List.mem_of_getElem? (i := 7) rfl))) (mvT hZ (hw _ (List.mem_of_getElem? (i := 6) rfl))) (by decide) (backOf (W := 0) (rm1 l Z a0 hw [] a aP aF aW h0 n0 Z0 SP SF SW) hZ (hw _ (List.mem_of_getElem? (i := 8) rfl)) (hw _ (List.mem_of_getElem? (i := 2) rfl)) (by decide) (by decide)) q2a q2c (g := (mkF m 69 #[.val (.int q1), .val (.int (own_k q1)), .val (.ref a), .val (.int ex)] [(.ref a)])) rfl (by rw [hml]; rfl) (Steps.refl _) (argsL := []) (rest := []) (lenOf (show parseMethodDescriptor "()Z" = some ⟨[], (some .boolean)⟩ from by decide +kernel) rfl) rfl (by show 2 * 0 + _ ≤ _; exact Nat.le_of_eq rfl) (hb hby at_69) (fun _ _ => ⟨rfl, e1, (by decide : 0 + 0 ≤ _), (by decide : 0 + 0 ≤ _)⟩)
  dsimp only [Pt.U, Pt.locs, Pt.cells, Pt.slots] at X2 l2 y2 z2 st2 hQ2
  subst l2 y2 z2
  obtain ⟨rfl, N2q, e2⟩ := hQ2
  have N2 := Fr.app N0 N2q
  obtain ⟨fs, hr, hrun, hended, hW, hsame⟩ := X2.leave (v := some (.int (1 : Int32))) (fun h => by rw [Bd.returns] at h; cases h)
  refine ⟨_, _, castTop (ef_0 m q1) (st1 _ ?_), hrun, hended, _, _, rfl, ?_, ⟨_, rfl⟩, hW, hsame.mono (by decide) (by decide)⟩
  · show Steps p.tables e below (T1.setTop (mkF m 68 #[.val (.int q1), .val (.int (own_k q1)), .val (.ref a), .val (.int ex)] [])) _
    refine XS.aloadN X1.here hx rfl (hb hby at_68) rfl rfl ?_
    show Steps p.tables e below (T1.setTop (mkF m 69 #[.val (.int q1), .val (.int (own_k q1)), .val (.ref a), .val (.int ex)] [(.ref a)])) _
    refine st2.trans ?_
    show Steps p.tables e below (T2.setTop (mkF m 72 #[.val (.int q1), .val (.int (own_k q1)), .val (.ref a), .val (.int ex)] [(.int (own_att a aP aF aW))])) _
    refine XS.iloadN X2.here hx rfl (hb hby at_72) rfl ?_
    show Steps p.tables e below (T2.setTop (mkF m 73 #[.val (.int q1), .val (.int (own_k q1)), .val (.ref a), .val (.int ex)] [(.int ex), (.int (own_att a aP aF aW))])) _
    refine XS.icmpNo X2.here hx rfl (hb hby at_73) rfl (teq hs).2 ?_
    show Steps p.tables e below (T2.setTop (mkF m 76 #[.val (.int q1), .val (.int (own_k q1)), .val (.ref a), .val (.int ex)] [])) _
    refine XS.iconst X2.here hx rfl (hb hby at_76) ?_
    show Steps p.tables e below (T2.setTop (mkF m 77 #[.val (.int q1), .val (.int (own_k q1)), .val (.ref a), .val (.int ex)] [(.int (1 : Int32))])) _
    refine XS.goto X2.here hx rfl (pc0 := 77) (pc' := 81) rfl (hb hby at_77) (by decide) (by decide) ?_
    show Steps p.tables e below (T2.setTop (mkF m 81 #[.val (.int q1), .val (.int (own_k q1)), .val (.ref a), .val (.int ex)] [(.int (1 : Int32))])) _
    exact retN X2 hx (t := .boolean) Bd.returns (by simp) (hb hby at_81) hr
  · exact ⟨rfl, N2⟩
set_option maxRecDepth 65536 in
set_option maxHeartbeats 40000000 in
theorem comes_1 {Post : Tables → Env → Array Value → State → Outcome → State → Prop} (hpost : ∀ tb e args s v u, (limb_1_1.after args s (.returned v) u = true ∧ limb_1_2.after args s (.returned v) u = true ∧ True) → FrameEnd s (.returned v) u (Jvm.fieldLocs frame_1_writes args s ++ Jvm.arrayLocs frame_1_arrays args s ++ Jvm.staticLocs frame_1_statics s) 0 0 → Post tb e args s (.returned v) u) :
    ArmFor flags0 classFile x code maxLocals ret World_1 tables_1 room_1 Calls_1 rest_1 Pre_1 Post := by
  intro l hfl _ _ p e ha hc hk s m args below hf hA hF happ hP
  obtain ⟨hcalls, hrest, hpre⟩ := hP
  obtain ⟨-, -, -, hnamed, -, -, -, hat⟩ := (Spec.applies_iff hf).mp happ
  obtain ⟨hg, hn⟩ := and_e (Cond.before_iff.mp (show (Jvm.Cond.and given_1 narrow_1).before args s = true from hpre))
  obtain ⟨gc, gr0⟩ := and_e hg
  obtain ⟨w0, rfl⟩ : ∃ w0 : Value, args = #[w0] := by
    have hs : args.size = 1 := by simpa [Cond.value, given_1] using gc
    obtain ⟨L⟩ := args
    match L, hs with
    | [w0], _ => exact ⟨w0, rfl⟩
  have hw := fun d (hd : d ∈ tables_1) => atoms_spec (ws := Jvm.Cond.code x code maxLocals ret :: tables_1) hat d (List.mem_cons_of_mem _ hd)
  have hfit : Fit s := fun {y c} hc i hi => by
    obtain ⟨ha, rfl⟩ := Array.getElem?_eq_some_iff.mp hc
    have q := List.all_eq_true.mp ((Array.all_eq_true_iff_forall_mem.mp hF) _ (Array.getElem_mem ha)) i (List.mem_range.mpr hi)
    simpa [Array.getElem?_eq_getElem hi] using q
  obtain ⟨i0, ei0⟩ := is_v gr0
  obtain rfl : w0 = (.int i0) := Option.some.inj ei0
  obtain ⟨nc0, nr0⟩ := and_e hn
  obtain ⟨nc1, nr1⟩ := and_e nr0
  obtain ⟨nc2, nr2⟩ := and_e nr1
  obtain ⟨nc3, nr3⟩ := and_e nr2
  obtain ⟨nc4, nr4⟩ := and_e nr3
  obtain ⟨nc5, nr5⟩ := and_e nr4
  obtain ⟨nc6, nr6⟩ := and_e nr5
  obtain ⟨nc7, nr7⟩ := and_e nr6
  obtain ⟨nc8, nr8⟩ := and_e nr7
  obtain ⟨aP, ev_aP⟩ := exa_v nc0
  have E_aP := Exa.start ev_aP nc0
  have SP := Sta.start ev_aP (Or.inr ⟨(hw _ (List.mem_of_getElem? (i := 2) rfl)), (hw _ (List.mem_of_getElem? (i := 3) rfl))⟩)
  obtain ⟨aN, ev_aN⟩ := exa_v nc1
  have E_aN := Exa.start ev_aN nc1
  have SN := Sta.start ev_aN (Or.inr ⟨(hw _ (List.mem_of_getElem? (i := 2) rfl)), (hw _ (List.mem_of_getElem? (i := 11) rfl))⟩)
  obtain ⟨aF, ev_aF⟩ := exa_v nc4
  have E_aF := Exa.start ev_aF nc4
  have SF := Sta.start ev_aF (Or.inr ⟨(hw _ (List.mem_of_getElem? (i := 2) rfl)), (hw _ (List.mem_of_getElem? (i := 13) rfl))⟩)
  obtain ⟨aW, ev_aW⟩ := exa_v nc6
  have E_aW := Exa.start ev_aW nc6
  have SW := Sta.start ev_aW (Or.inr ⟨(hw _ (List.mem_of_getElem? (i := 2) rfl)), (hw _ (List.mem_of_getElem? (i := 15) rfl))⟩)
  obtain ⟨aA, ev_aA⟩ := exa_v nc8
  have E_aA := Exa.start ev_aA nc8
  have SA := Sta.start ev_aA (Or.inr ⟨(hw _ (List.mem_of_getElem? (i := 2) rfl)), (hw _ (List.mem_of_getElem? (i := 18) rfl))⟩)
  have O_aN : Fld s s.heap aN "java/lang/Enum" "ordinal" "I" (.int 3) := Fld.start (by
    exact own_fld ev_aN (eqv_i (Term.int_eval _) nc2))
  have O_aP : Fld s s.heap aP "java/lang/Enum" "ordinal" "I" (.int 0) := Fld.start (by
    exact own_fld ev_aP (eqv_i (Term.int_eval _) nc3))
  have O_aF : Fld s s.heap aF "java/lang/Enum" "ordinal" "I" (.int 1) := Fld.start (by
    exact own_fld ev_aF (eqv_i (Term.int_eval _) nc5))
  have O_aW : Fld s s.heap aW "java/lang/Enum" "ordinal" "I" (.int 2) := Fld.start (by
    exact own_fld ev_aW (eqv_i (Term.int_eval _) nc7))
  have O_aA : Fld s s.heap aA "java/lang/Enum" "ordinal" "I" (.int 4) := Fld.start (by
    exact own_fld ev_aA (eqv_i (Term.int_eval _) nr8))
  have EX : ∀ a, (a = aP ∨ a = aF ∨ a = aW) ∨ (a = aN ∨ a = aA) → Exa s s.heap a "com/example/halyard/halyard/conformance/Result" := by
    rintro a ((rfl | rfl | rfl) | (rfl | rfl))
    all_goals assumption
  have NE : ∀ a, (a = aN ∨ a = aA) → ¬ a = aP ∧ ¬ a = aF ∧ ¬ a = aW := by
    rintro a (rfl | rfl)
    · exact ⟨O_aN.ne O_aP (by decide), O_aN.ne O_aF (by decide), O_aN.ne O_aW (by decide)⟩
    · exact ⟨O_aA.ne O_aP (by decide), O_aA.ne O_aF (by decide), O_aA.ne O_aW (by decide)⟩
  obtain ⟨n, o, h1, h2, h3, _, L, rfl, ⟨rfl, N⟩, hq⟩ := rm0 l s _ hw tables_1 i0 s.heap s.heap.size (Nat.le_refl _) aP aF aW aN aA SP SF SW SN SA EX NE p e ha hc hk s m _ below hf ((Spec.applies_iff_loose hf).mp happ).1 ⟨rfl, State.Warmed39.refl s, rfl⟩ trivial
  refine ⟨n, _, h1, h2, h3, hpost _ _ _ _ _ _ ⟨Cond.after_iff.mpr rfl, Cond.after_iff.mpr (eq_i res_at (Term.int_eval (1)) rfl), trivial⟩ ⟨hq.1, hq.2.1, (hq.2.2.sift fun y hy => Or.inr (N y hy)).mono (by decide) (by decide)⟩⟩
theorem main_1_1 : Claimed_1_1 := comes_1 fun _ _ _ _ _ _ h hF => ⟨h.1, hF⟩
theorem main_1_2 : Claimed_1_2 := comes_1 fun _ _ _ _ _ _ h hF => ⟨h.2.1, hF⟩
end Jvm.Pilot.@@N@@
namespace Jvm.Pilot.@@N@@
open Jvm Jvm.ClassFile Sem Op Lib Jvm.Free Jvm.Stand Jvm.Pilot.@@N@@.Jvm.D
/-! MADE BY PROGRAM (witnessworld.py) out of the Statement's table words and the real class files: 12 classes; the members and pool entries that the words name. The judged class is class 1, her method 1. -/
namespace start1
open Jvm.ClassFile
def u (s : String) : CpInfo := .utf8 (stringToUtf16 s)
/-- a pool by its gaps: so many unusable entries, then the entry; so many at the end -/
def gap : Nat → List CpInfo → List CpInfo
  | 0, r => r
  | n + 1, r => .unusable :: gap n r
def poolList (es : List (Nat × CpInfo)) (last : Nat) : List CpInfo := es.foldr (fun e r => gap e.1 (e.2 :: r)) (gap last [])
def pool (es : List (Nat × CpInfo)) (last : Nat) : Array CpInfo := ⟨poolList es last⟩
def fileOf (pool : Array CpInfo) (this : Nat) (attrs : Array Attribute := #[]) (ms : Array MethodInfo := #[]) (fl : Nat := 33) (sup : Nat := 0) (ifs : Array Nat := #[]) (fds : Array FieldInfo := #[]) : ClassFile where
  minorVersion := 0
  majorVersion := 65
  constantPool := pool
  accessFlags := fl
  thisClass := this
  superClass := sup
  interfaces := ifs
  fields := fds
  methods := ms
  attributes := attrs
def plain (name : String) (sup : Option ClassId) : Class where
  name := name
  kind := .ordinary
  loader := none
  accessFlags := 33
  super := sup
  interfaces := #[]
  cf := none
  fields := #[]
  methods := #[]
  instanceTypes := #[]
  staticTypes := #[]
  resolved := #[]
  callSites := []
  init := .initialized
  statics := none
  mirror := none

def pool0 : Array CpInfo := pool [(5, u "<init>"), (0, u "()V"), (1, .class_ 10), (1, u "java/lang/Object")] 113

def k0m0 : Method := { name := "<init>", desc := "()V", sig := { parameters := [], returnType := none }, accessFlags := 1, code := none }
/-- java/lang/Object -/
def k0 : Class := { plain "java/lang/Object" none with
  accessFlags := 33
  interfaces := #[]
  cf := some (fileOf pool0 8 #[] #[{ accessFlags := 1, nameIndex := 5, descriptorIndex := 6, attributes := #[] }] 33 0 #[] #[])
  fields := #[]
  methods := #[k0m0]
  instanceTypes := #[]
  staticTypes := #[]
  resolved := Array.replicate 124 none
  statics := none }

def pool1 : Array CpInfo := pool [(2, .class_ 4), (1, u "java/lang/Object"), (0, u "<init>"), (0, u "()V"), (0, .integer 2147483647), (0, .fieldref 9 10), (0, .class_ 11), (0, .nameAndType 12 13), (0, u "com/example/halyard/halyard/conformance/Result"), (0, u "PASS"), (0, u "Lcom/example/halyard/halyard/conformance/Result;"), (0, .fieldref 9 15), (0, .nameAndType 16 13), (0, u "FAIL"), (0, .fieldref 9 18), (0, .nameAndType 19 13), (0, u "WRONG_ERROR"), (0, .fieldref 9 21), (0, .nameAndType 22 13), (0, u "NOT_RUN"), (0, .fieldref 9 24), (0, .nameAndType 25 13), (0, u "NOT_APPLICABLE"), (0, .methodref 9 27), (0, .nameAndType 28 29), (0, u "attempted"), (0, u "()Z"), (0, .class_ 31), (0, u "com/example/halyard/halyard/conformance/ResultAttemptedPinLaw"), (2, u "law"), (0, u "(I)Z")] 3

def k1m0 : Method := { name := "<init>", desc := "()V", sig := { parameters := [], returnType := none }, accessFlags := 1, code := none }
def k1c1 : Code := { maxStack := 2, maxLocals := 4, code := code, exceptionTable := #[], attributes := #[] }
def k1m1 : Method := { name := "law", desc := "(I)Z", sig := { parameters := [.int], returnType := some .boolean }, accessFlags := 9, code := some k1c1 }
/-- com/example/halyard/halyard/conformance/ResultAttemptedPinLaw -/
def k1 : Class := { plain "com/example/halyard/halyard/conformance/ResultAttemptedPinLaw" (some 0) with
  accessFlags := 49
  interfaces := #[]
  cf := some (fileOf pool1 30 #[] #[{ accessFlags := 1, nameIndex := 5, descriptorIndex := 6, attributes := #[] }, { accessFlags := 9, nameIndex := 34, descriptorIndex := 35, attributes := #[] }] 49 2 #[] #[])
  fields := #[]
  methods := #[k1m0, k1m1]
  instanceTypes := #[]
  staticTypes := #[]
  resolved := Array.replicate 39 none
  statics := none }

def pool2 : Array CpInfo := pool [(1, .class_ 2), (0, u "java/lang/constant/Constable"), (0, .class_ 4), (0, u "java/lang/Object")] 6

/-- java/lang/constant/Constable -/
def k2 : Class := { plain "java/lang/constant/Constable" (some 0) with
  accessFlags := 1537
  interfaces := #[]
  cf := some (fileOf pool2 1 #[] #[] 1537 3 #[] #[])
  fields := #[]
  methods := #[]
  instanceTypes := #[]
  staticTypes := #[]
  resolved := Array.replicate 11 none
  statics := none }

def pool3 : Array CpInfo := pool [(1, .class_ 2), (0, u "java/lang/Comparable"), (0, .class_ 4), (0, u "java/lang/Object")] 7

/-- java/lang/Comparable -/
def k3 : Class := { plain "java/lang/Comparable" (some 0) with
  accessFlags := 1537
  interfaces := #[]
  cf := some (fileOf pool3 1 #[] #[] 1537 3 #[] #[])
  fields := #[]
  methods := #[]
  instanceTypes := #[]
  staticTypes := #[]
  resolved := Array.replicate 12 none
  statics := none }

def pool4 : Array CpInfo := pool [(1, .class_ 2), (0, u "java/io/Serializable"), (0, .class_ 4), (0, u "java/lang/Object")] 2

/-- java/io/Serializable -/
def k4 : Class := { plain "java/io/Serializable" (some 0) with
  accessFlags := 1537
  interfaces := #[]
  cf := some (fileOf pool4 1 #[] #[] 1537 3 #[] #[])
  fields := #[]
  methods := #[]
  instanceTypes := #[]
  staticTypes := #[]
  resolved := Array.replicate 7 none
  statics := none }

def pool5 : Array CpInfo := pool [(2, .class_ 4), (1, u "java/lang/Enum"), (0, u "name"), (0, u "Ljava/lang/String;"), (2, u "ordinal"), (0, u "I"), (1, .class_ 14), (1, u "java/lang/Object"), (4, u "hash"), (86, .class_ 108), (1, u "java/lang/Enum$EnumDesc"), (2, .class_ 112), (0, u "java/lang/constant/Constable"), (0, .class_ 114), (0, u "java/lang/Comparable"), (0, .class_ 116), (0, u "java/io/Serializable")] 87

/-- java/lang/Enum -/
def k5 : Class := { plain "java/lang/Enum" (some 0) with
  accessFlags := 1057
  interfaces := #[2, 3, 4]
  cf := some (fileOf pool5 2 #[.nestMembers #[106]] #[] 1057 12 #[111, 113, 115] #[{ accessFlags := 18, nameIndex := 5, descriptorIndex := 6, attributes := #[] }, { accessFlags := 18, nameIndex := 9, descriptorIndex := 10, attributes := #[] }, { accessFlags := 2, nameIndex := 19, descriptorIndex := 10, attributes := #[] }])
  fields := #[{ name := "name", type := (.object "java/lang/String"), accessFlags := 18, slot := 0, constantValue := 0 }, { name := "ordinal", type := .int, accessFlags := 18, slot := 1, constantValue := 0 }, { name := "hash", type := .int, accessFlags := 2, slot := 2, constantValue := 0 }]
  methods := #[]
  instanceTypes := #[(.object "java/lang/String"), .int, .int]
  staticTypes := #[]
  resolved := Array.replicate 204 none
  statics := none }

def pool6 : Array CpInfo := pool [(1, .class_ 2), (0, u "com/example/halyard/halyard/conformance/Result"), (0, .fieldref 1 4), (0, .nameAndType 5 6), (0, u "PASS"), (0, u "Lcom/example/halyard/halyard/conformance/Result;"), (0, .fieldref 1 8), (0, .nameAndType 9 6), (0, u "FAIL"), (0, .fieldref 1 11), (0, .nameAndType 12 6), (0, u "WRONG_ERROR"), (2, u "NOT_RUN"), (2, u "NOT_APPLICABLE"), (2, u "$VALUES"), (0, u "[Lcom/example/halyard/halyard/conformance/Result;"), (6, .class_ 31), (1, u "java/lang/Enum"), (8, u "label"), (0, u "Ljava/lang/String;"), (2, u "countName"), (32, u "attempted"), (0, u "()Z")] 6

def k6c0 : Code := { maxStack := 2, maxLocals := 1, code := prog_12_method_6_code, exceptionTable := #[], attributes := #[] }
def k6m0 : Method := { name := "attempted", desc := "()Z", sig := { parameters := [], returnType := some .boolean }, accessFlags := 0, code := some k6c0 }
/-- com/example/halyard/halyard/conformance/Result -/
def k6 : Class := { plain "com/example/halyard/halyard/conformance/Result" (some 5) with
  accessFlags := 16432
  interfaces := #[]
  cf := some (fileOf pool6 1 #[] #[{ accessFlags := 0, nameIndex := 77, descriptorIndex := 78, attributes := #[] }] 16432 29 #[] #[{ accessFlags := 16409, nameIndex := 5, descriptorIndex := 6, attributes := #[] }, { accessFlags := 16409, nameIndex := 9, descriptorIndex := 6, attributes := #[] }, { accessFlags := 16409, nameIndex := 12, descriptorIndex := 6, attributes := #[] }, { accessFlags := 16409, nameIndex := 15, descriptorIndex := 6, attributes := #[] }, { accessFlags := 16409, nameIndex := 18, descriptorIndex := 6, attributes := #[] }, { accessFlags := 18, nameIndex := 40, descriptorIndex := 41, attributes := #[] }, { accessFlags := 18, nameIndex := 44, descriptorIndex := 41, attributes := #[] }, { accessFlags := 4122, nameIndex := 21, descriptorIndex := 22, attributes := #[] }])
  fields := #[{ name := "PASS", type := (.object "com/example/halyard/halyard/conformance/Result"), accessFlags := 16409, slot := 0, constantValue := 0 }, { name := "FAIL", type := (.object "com/example/halyard/halyard/conformance/Result"), accessFlags := 16409, slot := 1, constantValue := 0 }, { name := "WRONG_ERROR", type := (.object "com/example/halyard/halyard/conformance/Result"), accessFlags := 16409, slot := 2, constantValue := 0 }, { name := "NOT_RUN", type := (.object "com/example/halyard/halyard/conformance/Result"), accessFlags := 16409, slot := 3, constantValue := 0 }, { name := "NOT_APPLICABLE", type := (.object "com/example/halyard/halyard/conformance/Result"), accessFlags := 16409, slot := 4, constantValue := 0 }, { name := "label", type := (.object "java/lang/String"), accessFlags := 18, slot := 3, constantValue := 0 }, { name := "countName", type := (.object "java/lang/String"), accessFlags := 18, slot := 4, constantValue := 0 }, { name := "$VALUES", type := (.array (.object "com/example/halyard/halyard/conformance/Result")), accessFlags := 4122, slot := 5, constantValue := 0 }]
  methods := #[k6m0]
  instanceTypes := #[(.object "java/lang/String"), .int, .int, (.object "java/lang/String"), (.object "java/lang/String")]
  staticTypes := #[(.object "com/example/halyard/halyard/conformance/Result"), (.object "com/example/halyard/halyard/conformance/Result"), (.object "com/example/halyard/halyard/conformance/Result"), (.object "com/example/halyard/halyard/conformance/Result"), (.object "com/example/halyard/halyard/conformance/Result"), (.array (.object "com/example/halyard/halyard/conformance/Result"))]
  resolved := Array.replicate 85 none
  statics := some 0 }

def pool7 : Array CpInfo := pool [(1, u "java/lang/Cloneable"), (0, .class_ 1), (0, u "java/lang/Object"), (0, .class_ 3)] 3

/-- java/lang/Cloneable -/
def k7 : Class := { plain "java/lang/Cloneable" (some 0) with
  accessFlags := 1537
  interfaces := #[]
  cf := some (fileOf pool7 2 #[] #[] 1537 4 #[] #[])
  fields := #[]
  methods := #[]
  instanceTypes := #[]
  staticTypes := #[]
  resolved := Array.replicate 8 none
  statics := none }

/-- the primitive byte -/
def k8 : Class := { plain "byte" none with kind := .primitive 'B', accessFlags := 0x411 }
/-- [B -/
def k9 : Class := { plain "[B" (some 0) with kind := .array 8 .byte, interfaces := #[7, 4], accessFlags := 1041 }

/-- the primitive int -/
def k10 : Class := { plain "int" none with kind := .primitive 'I', accessFlags := 0x411 }
/-- [I -/
def k11 : Class := { plain "[I" (some 0) with kind := .array 10 .int, interfaces := #[7, 4], accessFlags := 1041 }

def heap : Heap := #[{ cls := 6, slots := #[.ref 1, .ref 2, .ref 3, .ref 4, .ref 5, .null], vm := .statics 6 },
  { cls := 6, slots := #[.null, .int 0, .int 0, .null, .null], vm := .none },
  { cls := 6, slots := #[.null, .int 1, .int 0, .null, .null], vm := .none },
  { cls := 6, slots := #[.null, .int 2, .int 0, .null, .null], vm := .none },
  { cls := 6, slots := #[.null, .int 3, .int 0, .null, .null], vm := .none },
  { cls := 6, slots := #[.null, .int 4, .int 0, .null, .null], vm := .none }]
def classes : Array Class := #[k0, k1, k2, k3, k4, k5, k6, k7, k8, k9, k10, k11]
def interned : List (Array UInt16 × Addr) := []
def slotsUsed : Nat := 31
def theMethod : MethodId := ⟨1, 1⟩
def args0 : Array Value := #[.int 5]
def aboutOver (below : List Frame) : State where
  vm := { classes := classes, interned := interned.toArray }
  heap := heap
  slotsUsed := slotsUsed
  threads := #[{ frames := .invoking theMethod args0 :: below }]
def below0 : List Frame := [.native { method := ⟨0, 0⟩, args := #[] }]
def about1 : State := aboutOver below0
def p0 : Program := .bare "" "" ""
def e0 : Env := launch0.env 0 0 0
theorem w_frames : about1.frames = Frame.invoking theMethod args0 :: below0 := rfl
set_option maxRecDepth 65536 in
theorem w_args : argsFit about1.vm theMethod args0 = true := by decide +kernel
set_option maxRecDepth 65536 in
theorem w_heap : heapFits about1 = true := by decide +kernel
set_option maxRecDepth 65536 in
theorem w_runnable : about1.curStatus? = some .runnable := by decide +kernel
set_option maxRecDepth 65536 in
theorem w_alone : about1.alone = true := by decide +kernel
set_option maxRecDepth 65536 in
theorem w_named : about1.methodNamed? x = some theMethod := by decide +kernel
set_option maxRecDepth 65536 in
theorem w_hears : about1.hears theMethod below0 = true := by decide +kernel
set_option maxRecDepth 65536 in
theorem w_ripe : about1.ripe theMethod args0 below0 = true := by decide +kernel
theorem w_running : about1.status = .running := rfl
set_option maxRecDepth 65536 in
theorem w_room : about1.hasRoom e0.platform room_1 = true :=
  launch0.hasRoom_least _ room_1 (by decide +kernel) (by decide +kernel) (by decide +kernel) (by decide +kernel) (by decide +kernel) (by decide +kernel)
theorem allAtoms_all (ts : List Jvm.Cond) (a : Array Jvm.Value) (st : Jvm.State) : (allAtoms ts).before a st = ts.all (fun c => c.before a st) := by
  induction ts with
  | nil => rfl
  | cons c t ih =>
    show (Jvm.Cond.and c (allAtoms t)).before a st = _
    rw [Jvm.Cond.before_and, ih, List.all_cons]
def words1 : List Jvm.Cond := Jvm.Cond.code x code maxLocals ret :: tables_1
/-- a 'code' word, met by the world's own term for the bytes: nothing is compared byte by byte -/
theorem code_word {y : MethodName} {bytes : ByteArray} {mx : Nat} {rt : Option FieldType} {a : Array Value} {s : State} {m : MethodId} {meth : Method} {c : Code} (h1 : s.methodNamed? y = some m) (h2 : s.vm.method? m = some meth) (h3 : meth.code = some c) (h4 : c.code = bytes)
    (h5 : (c.maxLocals == mx && c.exceptionTable.isEmpty && decide (c.maxStack ≤ mostOperands) && decide (meth.sig.returnType = rt) && !meth.locks && decide (parseMethodDescriptor y.desc = some meth.sig)) = true) : (Jvm.Cond.code y bytes mx rt).before a s = true := by
  simp only [Bool.and_eq_true, beq_iff_eq, Bool.not_eq_true', decide_eq_true_eq] at h5
  obtain ⟨⟨⟨⟨⟨g1, g2⟩, g3⟩, g4⟩, g5⟩, g6⟩ := h5
  simp [Cond.before, Cond.holds, Cond.value, h1, h2, h3, h4, g1, g2, g3, g4, g5, g6]
def isCode : Jvm.Cond → Bool
  | .code _ _ _ _ => true
  | _ => false
theorem all_split {L : List Jvm.Cond} {P : Jvm.Cond → Bool} (h1 : L.all (fun c => isCode c || P c) = true) (h2 : ∀ c ∈ L.filter isCode, P c = true) : L.all P = true := by
  refine List.all_eq_true.mpr fun c hc => ?_
  have h := List.all_eq_true.mp h1 c hc
  rcases Bool.eq_false_or_eq_true (isCode c) with hi | hi
  · exact h2 c (List.mem_filter.mpr ⟨hc, hi⟩)
  · simpa [hi] using h
set_option maxRecDepth 65536 in
theorem w_c0 : (Jvm.Cond.code x code maxLocals ret).before args0 about1 = true := code_word (m := ⟨1, 1⟩) (meth := k1m1) (c := k1c1) (by decide +kernel) rfl rfl rfl (by decide +kernel)
set_option maxRecDepth 65536 in
theorem w_c1 : (Jvm.Cond.code ({ cls := "com/example/halyard/halyard/conformance/Result", name := "attempted", desc := "()Z" } : Jvm.MethodName) prog_12_method_6_code (1 : Nat) (Option.some Jvm.ClassFile.FieldType.boolean)).before args0 about1 = true := code_word (m := ⟨6, 0⟩) (meth := k6m0) (c := k6c0) (by decide +kernel) rfl rfl rfl (by decide +kernel)
def codes1 : List Jvm.Cond := [Jvm.Cond.code x code maxLocals ret, Jvm.Cond.code ({ cls := "com/example/halyard/halyard/conformance/Result", name := "attempted", desc := "()Z" } : Jvm.MethodName) prog_12_method_6_code (1 : Nat) (Option.some Jvm.ClassFile.FieldType.boolean)]
set_option maxRecDepth 65536 in
theorem codes_eq : words1.filter isCode = codes1 := rfl
theorem w_codes : ∀ c ∈ words1.filter isCode, c.before args0 about1 = true := by
  rw [codes_eq]
  intro c hc
  simp only [codes1, List.mem_cons, List.not_mem_nil, or_false] at hc
  rcases hc with rfl | rfl
  · exact w_c0
  · exact w_c1
set_option maxRecDepth 65536 in
theorem w_t1 : words1.all (fun c => isCode c || c.before args0 about1) = true := by decide +kernel
theorem w_tables : (allAtoms (Jvm.Cond.code x code maxLocals ret :: tables_1)).before args0 about1 = true := by
  rw [allAtoms_all]
  show words1.all (fun c => c.before args0 about1) = true
  refine all_split ?_ w_codes
  rw [w_t1]
set_option maxRecDepth 65536 in
theorem w_case : (Jvm.Cond.and given_1 narrow_1).before args0 about1 = true := by decide +kernel
theorem w_applies : (headSpec (Jvm.Cond.code x code maxLocals ret :: tables_1) room_1).applies x e0.platform about1 = true :=
  (Spec.applies_iff w_frames).mpr ⟨w_running, w_runnable, w_alone, w_named, w_hears, w_ripe, w_room, w_tables⟩
theorem atStart : AtStart classFile x code maxLocals ret World_1 tables_1 room_1 Calls_1 rest_1 Pre_1 launch0 p0 e0 about1 theMethod args0 below0 :=
  ⟨lists_1, trivial, launch0.admits_env _ _ _, launch0.least_env, fairChoices_fair.cas, fairChoices_fair.clock, w_frames, w_args, w_heap, w_applies, trivial, trivial, w_case⟩
end start1
theorem witness_1 : WitnessClaimed_1 := ⟨start1.p0, start1.e0, start1.about1, start1.theMethod, start1.args0, start1.below0, start1.atStart⟩
end Jvm.Pilot.@@N@@
