import JvmDerived
import JvmDerived.Pilot.@@N@@Statement
import JvmDerived.Pilot.@@N@@Code
set_option linter.unusedVariables false
set_option linter.unusedSimpArgs false
namespace Jvm.RoadKit
open Sem ClassFile Op Lib Jvm.Stand Jvm.Free Jvm.LawKit
section New
variable {p : Program} {l : Launch} {e : Env} {R : Room} {s : State} {m : MethodId} {args : Array Value} {below : List Frame} {meth : Method} {c : Code} {T : State} {locs : List Loc} {cells slots : Nat}
theorem retI (X : Stand p l e R s m args below meth c T locs cells slots) (hx : p.tables.exec = Jvm.exec) {pc : Nat} {Ls : Array Slot} {z : Int32} {rest : List Value} (hret : meth.sig.returnType = some .int) (hd : decode c.code pc = .ok (.ireturn, 1)) {fs : List Frame}
    (hl : ∀ (f : JFrame) (acts : List Action), f.method = m → f.locked = none → f.entered = [] → (doReturn e (T.setTop f) acts (some (.int z))).1 = T.setFrames fs) : Steps p.tables e below (T.setTop (mkF m pc Ls (.int z :: rest))) (T.setFrames fs) := by
  have hm' : T.vm.method? m = some meth := X.method'
  have hn : narrow .int (.int z) = .int z := rfl
  show Steps p.tables e below (T.setTop { method := m, pc := pc, locals := Ls, stack := _ :: rest, locked := none }) _
  jvm_step X.here [X.here.top, hx, hd, hm', hret, hn]
  first | (intro acts; rw [hl _ acts rfl rfl rfl]) | rw [hl _ _ rfl rfl rfl]
  exact Steps.refl _
end New
end Jvm.RoadKit
namespace Jvm.Pilot.@@N@@
open Jvm Jvm.ClassFile Sem Op Lib Jvm.Free Jvm.Stand Jvm.LawKit Jvm.RoadKit Bundle Jvm.Pilot.@@N@@.Jvm.D
theorem own_nar {z : Int32} (h : z = 0 ∨ z = 1) : nar .boolean z = z := by rcases h with rfl | rfl <;> rfl
theorem d1_0 : decode prog_89_method_8_code 0 = .ok (.lload_n 0, 1) := by decide +kernel
theorem d1_1 : decode prog_89_method_8_code 1 = .ok (.ldc2_w 93, 3) := by decide +kernel
theorem d1_4 : decode prog_89_method_8_code 4 = .ok (.lcmp, 1) := by decide +kernel
theorem d1_5 : decode prog_89_method_8_code 5 = .ok (.ifCond .eq 67, 3) := by decide +kernel
theorem d1_8 : decode prog_89_method_8_code 8 = .ok (.lload_n 0, 1) := by decide +kernel
theorem d1_9 : decode prog_89_method_8_code 9 = .ok (.ldc2_w 95, 3) := by decide +kernel
theorem d1_12 : decode prog_89_method_8_code 12 = .ok (.lcmp, 1) := by decide +kernel
theorem d1_13 : decode prog_89_method_8_code 13 = .ok (.ifCond .eq 59, 3) := by decide +kernel
theorem d1_16 : decode prog_89_method_8_code 16 = .ok (.lload_n 0, 1) := by decide +kernel
theorem d1_17 : decode prog_89_method_8_code 17 = .ok (.ldc2_w 97, 3) := by decide +kernel
theorem d1_20 : decode prog_89_method_8_code 20 = .ok (.lcmp, 1) := by decide +kernel
theorem d1_21 : decode prog_89_method_8_code 21 = .ok (.ifCond .eq 51, 3) := by decide +kernel
theorem d1_24 : decode prog_89_method_8_code 24 = .ok (.lload_n 0, 1) := by decide +kernel
theorem d1_25 : decode prog_89_method_8_code 25 = .ok (.ldc2_w 99, 3) := by decide +kernel
theorem d1_28 : decode prog_89_method_8_code 28 = .ok (.lcmp, 1) := by decide +kernel
theorem d1_29 : decode prog_89_method_8_code 29 = .ok (.ifCond .lt 11, 3) := by decide +kernel
theorem d1_32 : decode prog_89_method_8_code 32 = .ok (.lload_n 0, 1) := by decide +kernel
theorem d1_33 : decode prog_89_method_8_code 33 = .ok (.ldc2_w 101, 3) := by decide +kernel
theorem d1_36 : decode prog_89_method_8_code 36 = .ok (.lcmp, 1) := by decide +kernel
theorem d1_37 : decode prog_89_method_8_code 37 = .ok (.ifCond .le 35, 3) := by decide +kernel
theorem d1_40 : decode prog_89_method_8_code 40 = .ok (.lload_n 0, 1) := by decide +kernel
theorem d1_41 : decode prog_89_method_8_code 41 = .ok (.ldc2_w 103, 3) := by decide +kernel
theorem d1_44 : decode prog_89_method_8_code 44 = .ok (.lcmp, 1) := by decide +kernel
theorem d1_45 : decode prog_89_method_8_code 45 = .ok (.ifCond .lt 11, 3) := by decide +kernel
theorem d1_48 : decode prog_89_method_8_code 48 = .ok (.lload_n 0, 1) := by decide +kernel
theorem d1_49 : decode prog_89_method_8_code 49 = .ok (.ldc2_w 105, 3) := by decide +kernel
theorem d1_52 : decode prog_89_method_8_code 52 = .ok (.lcmp, 1) := by decide +kernel
theorem d1_53 : decode prog_89_method_8_code 53 = .ok (.ifCond .le 19, 3) := by decide +kernel
theorem d1_56 : decode prog_89_method_8_code 56 = .ok (.lload_n 0, 1) := by decide +kernel
theorem d1_57 : decode prog_89_method_8_code 57 = .ok (.ldc2_w 107, 3) := by decide +kernel
theorem d1_60 : decode prog_89_method_8_code 60 = .ok (.lcmp, 1) := by decide +kernel
theorem d1_61 : decode prog_89_method_8_code 61 = .ok (.ifCond .lt 15, 3) := by decide +kernel
theorem d1_64 : decode prog_89_method_8_code 64 = .ok (.lload_n 0, 1) := by decide +kernel
theorem d1_65 : decode prog_89_method_8_code 65 = .ok (.ldc2_w 109, 3) := by decide +kernel
theorem d1_68 : decode prog_89_method_8_code 68 = .ok (.lcmp, 1) := by decide +kernel
theorem d1_69 : decode prog_89_method_8_code 69 = .ok (.ifCond .gt 7, 3) := by decide +kernel
theorem d1_72 : decode prog_89_method_8_code 72 = .ok (.iconst 1, 1) := by decide +kernel
theorem d1_73 : decode prog_89_method_8_code 73 = .ok (.goto 4, 3) := by decide +kernel
theorem d1_76 : decode prog_89_method_8_code 76 = .ok (.iconst 0, 1) := by decide +kernel
theorem d1_77 : decode prog_89_method_8_code 77 = .ok (.ireturn, 1) := by decide +kernel
def own_xml_f76 (q1 : Int64) : Int32 := (0 : Int32)
set_option maxRecDepth 65536 in
set_option maxHeartbeats 40000000 in
theorem own_xml_b76 {p : Program} {l : Launch} {e : Env} {R : Room} {s : State} {m : MethodId} {args : Array Value} {below : List Frame} {meth : Method} {c : Code} {T0 : State} {locs : List Loc} {cells slots : Nat} {Z : State} {a0 : Array Value} {h0 : Heap} (q1 : Int64)
    (X0 : Stand p l e R s m args below meth c T0 locs cells slots) (hx : p.tables.exec = Jvm.exec) (hZ : Z.Warmed39 s.vm) (hw : ∀ d ∈ tables_1, d.before a0 Z = true) (hby : c.code = prog_89_method_8_code) (hml : c.maxLocals = 2) (hown : s.vm.findClass "com/example/halyard/halyard/model/Names" = some m.cls) (e0 : T0.heap = h0)  (F : Int32) (hF : F = own_xml_f76 q1 ) :
    ∃ (T' : State) (pc' : Nat) (Ls : Array Slot), Stand p l e R s m args below meth c T' locs cells slots ∧ T'.heap = h0 ∧ decode c.code pc' = .ok (.ireturn, 1) ∧
      ∀ target, Steps p.tables e below (T'.setTop (mkF m pc' Ls [.int F])) target → Steps p.tables e below (T0.setTop (mkF m 76 #[.val (.long q1), .second] [])) target := by
  have hv : F = (0 : Int32) := (hF.trans (by rw [own_xml_f76]))
  refine ⟨T0, 77, #[.val (.long q1), .second], X0, e0, (hb hby d1_77), fun target kt => ?_⟩
  rw [hv] at kt
  show Steps p.tables e below (T0.setTop (mkF m 76 #[.val (.long q1), .second] [])) _
  refine XS.iconst X0.here hx rfl (hb hby d1_76) ?_
  show Steps p.tables e below (T0.setTop (mkF m 77 #[.val (.long q1), .second] [(.int (0 : Int32))])) _
  exact kt
def own_xml_f72 (q1 : Int64) : Int32 := (1 : Int32)
set_option maxRecDepth 65536 in
set_option maxHeartbeats 40000000 in
theorem own_xml_b72 {p : Program} {l : Launch} {e : Env} {R : Room} {s : State} {m : MethodId} {args : Array Value} {below : List Frame} {meth : Method} {c : Code} {T0 : State} {locs : List Loc} {cells slots : Nat} {Z : State} {a0 : Array Value} {h0 : Heap} (q1 : Int64)
    (X0 : Stand p l e R s m args below meth c T0 locs cells slots) (hx : p.tables.exec = Jvm.exec) (hZ : Z.Warmed39 s.vm) (hw : ∀ d ∈ tables_1, d.before a0 Z = true) (hby : c.code = prog_89_method_8_code) (hml : c.maxLocals = 2) (hown : s.vm.findClass "com/example/halyard/halyard/model/Names" = some m.cls) (e0 : T0.heap = h0)  (F : Int32) (hF : F = own_xml_f72 q1 ) :
    ∃ (T' : State) (pc' : Nat) (Ls : Array Slot), Stand p l e R s m args below meth c T' locs cells slots ∧ T'.heap = h0 ∧ decode c.code pc' = .ok (.ireturn, 1) ∧
      ∀ target, Steps p.tables e below (T'.setTop (mkF m pc' Ls [.int F])) target → Steps p.tables e below (T0.setTop (mkF m 72 #[.val (.long q1), .second] [])) target := by
  have hv : F = (1 : Int32) := (hF.trans (by rw [own_xml_f72]))
  refine ⟨T0, 77, #[.val (.long q1), .second], X0, e0, (hb hby d1_77), fun target kt => ?_⟩
  rw [hv] at kt
  show Steps p.tables e below (T0.setTop (mkF m 72 #[.val (.long q1), .second] [])) _
  refine XS.iconst X0.here hx rfl (hb hby d1_72) ?_
  show Steps p.tables e below (T0.setTop (mkF m 73 #[.val (.long q1), .second] [(.int (1 : Int32))])) _
  refine XS.goto X0.here hx rfl (pc0 := 73) (pc' := 77) rfl (hb hby d1_73) (by decide) (by decide) ?_
  show Steps p.tables e below (T0.setTop (mkF m 77 #[.val (.long q1), .second] [(.int (1 : Int32))])) _
  exact kt
def own_xml_f56 (q1 : Int64) : Int32 := (if q1 < (65536 : Int64) then (own_xml_f76 q1) else (if (1114111 : Int64) < q1 then (own_xml_f76 q1) else (own_xml_f72 q1)))
set_option maxRecDepth 65536 in
set_option maxHeartbeats 40000000 in
theorem own_xml_b56 {p : Program} {l : Launch} {e : Env} {R : Room} {s : State} {m : MethodId} {args : Array Value} {below : List Frame} {meth : Method} {c : Code} {T0 : State} {locs : List Loc} {cells slots : Nat} {Z : State} {a0 : Array Value} {h0 : Heap} (q1 : Int64)
    (X0 : Stand p l e R s m args below meth c T0 locs cells slots) (hx : p.tables.exec = Jvm.exec) (hZ : Z.Warmed39 s.vm) (hw : ∀ d ∈ tables_1, d.before a0 Z = true) (hby : c.code = prog_89_method_8_code) (hml : c.maxLocals = 2) (hown : s.vm.findClass "com/example/halyard/halyard/model/Names" = some m.cls) (e0 : T0.heap = h0)  (F : Int32) (hF : F = own_xml_f56 q1 ) :
    ∃ (T' : State) (pc' : Nat) (Ls : Array Slot), Stand p l e R s m args below meth c T' locs cells slots ∧ T'.heap = h0 ∧ decode c.code pc' = .ok (.ireturn, 1) ∧
      ∀ target, Steps p.tables e below (T'.setTop (mkF m pc' Ls [.int F])) target → Steps p.tables e below (T0.setTop (mkF m 56 #[.val (.long q1), .second] [])) target := by
  by_cases hc61_1 : q1 < (65536 : Int64)
  · obtain ⟨T', pc', Ls, X', e', hd', st'⟩ := own_xml_b76 q1 X0 hx hZ hw hby hml hown e0  F (hF.trans (by rw [own_xml_f56, if_pos hc61_1]))
    refine ⟨T', pc', Ls, X', e', hd', fun target kt => ?_⟩
    show Steps p.tables e below (T0.setTop (mkF m 56 #[.val (.long q1), .second] [])) _
    refine XS.lloadN X0.here hx rfl (hb hby d1_56) rfl ?_
    show Steps p.tables e below (T0.setTop (mkF m 57 #[.val (.long q1), .second] [(.long q1)])) _
    refine X0.ldc2Long hx hown (mvT hZ (hw _ (List.mem_of_getElem? (i := 23) rfl))) (g := (mkF m 57 #[.val (.long q1), .second] [(.long q1)])) rfl (hb hby d1_57) _ ?_
    show Steps p.tables e below (T0.setTop (mkF m 60 #[.val (.long q1), .second] [(.long (65536 : Int64)), (.long q1)])) _
    refine XS.lcmp X0.here hx rfl (hb hby d1_60) rfl ?_
    show Steps p.tables e below (T0.setTop (mkF m 61 #[.val (.long q1), .second] [(.int (lcmpW q1 (65536 : Int64)))])) _
    refine XS.ifYes X0.here hx rfl (pc0 := 61) (pc' := 76) rfl (hb hby d1_61) rfl ((if0 _ _).trans (tlt ((lw_lt _ _).mpr hc61_1)).1) (by decide) (by decide) ?_
    exact st' target kt
  · by_cases hc69_2 : (1114111 : Int64) < q1
    · obtain ⟨T', pc', Ls, X', e', hd', st'⟩ := own_xml_b76 q1 X0 hx hZ hw hby hml hown e0  F (hF.trans (by rw [own_xml_f56, if_neg hc61_1, if_pos hc69_2]))
      refine ⟨T', pc', Ls, X', e', hd', fun target kt => ?_⟩
      show Steps p.tables e below (T0.setTop (mkF m 56 #[.val (.long q1), .second] [])) _
      refine XS.lloadN X0.here hx rfl (hb hby d1_56) rfl ?_
      show Steps p.tables e below (T0.setTop (mkF m 57 #[.val (.long q1), .second] [(.long q1)])) _
      refine X0.ldc2Long hx hown (mvT hZ (hw _ (List.mem_of_getElem? (i := 23) rfl))) (g := (mkF m 57 #[.val (.long q1), .second] [(.long q1)])) rfl (hb hby d1_57) _ ?_
      show Steps p.tables e below (T0.setTop (mkF m 60 #[.val (.long q1), .second] [(.long (65536 : Int64)), (.long q1)])) _
      refine XS.lcmp X0.here hx rfl (hb hby d1_60) rfl ?_
      show Steps p.tables e below (T0.setTop (mkF m 61 #[.val (.long q1), .second] [(.int (lcmpW q1 (65536 : Int64)))])) _
      refine XS.ifNo X0.here hx rfl (hb hby d1_61) rfl ((if0 _ _).trans (flt (fun z => hc61_1 ((lw_lt _ _).mp z))).1) ?_
      show Steps p.tables e below (T0.setTop (mkF m 64 #[.val (.long q1), .second] [])) _
      refine XS.lloadN X0.here hx rfl (hb hby d1_64) rfl ?_
      show Steps p.tables e below (T0.setTop (mkF m 65 #[.val (.long q1), .second] [(.long q1)])) _
      refine X0.ldc2Long hx hown (mvT hZ (hw _ (List.mem_of_getElem? (i := 30) rfl))) (g := (mkF m 65 #[.val (.long q1), .second] [(.long q1)])) rfl (hb hby d1_65) _ ?_
      show Steps p.tables e below (T0.setTop (mkF m 68 #[.val (.long q1), .second] [(.long (1114111 : Int64)), (.long q1)])) _
      refine XS.lcmp X0.here hx rfl (hb hby d1_68) rfl ?_
      show Steps p.tables e below (T0.setTop (mkF m 69 #[.val (.long q1), .second] [(.int (lcmpW q1 (1114111 : Int64)))])) _
      refine XS.ifYes X0.here hx rfl (pc0 := 69) (pc' := 76) rfl (hb hby d1_69) rfl ((if0 _ _).trans (tlt ((lw_gt _ _).mpr hc69_2)).2.2.1) (by decide) (by decide) ?_
      exact st' target kt
    · obtain ⟨T', pc', Ls, X', e', hd', st'⟩ := own_xml_b72 q1 X0 hx hZ hw hby hml hown e0  F (hF.trans (by rw [own_xml_f56, if_neg hc61_1, if_neg hc69_2]))
      refine ⟨T', pc', Ls, X', e', hd', fun target kt => ?_⟩
      show Steps p.tables e below (T0.setTop (mkF m 56 #[.val (.long q1), .second] [])) _
      refine XS.lloadN X0.here hx rfl (hb hby d1_56) rfl ?_
      show Steps p.tables e below (T0.setTop (mkF m 57 #[.val (.long q1), .second] [(.long q1)])) _
      refine X0.ldc2Long hx hown (mvT hZ (hw _ (List.mem_of_getElem? (i := 23) rfl))) (g := (mkF m 57 #[.val (.long q1), .second] [(.long q1)])) rfl (hb hby d1_57) _ ?_
      show Steps p.tables e below (T0.setTop (mkF m 60 #[.val (.long q1), .second] [(.long (65536 : Int64)), (.long q1)])) _
      refine XS.lcmp X0.here hx rfl (hb hby d1_60) rfl ?_
      show Steps p.tables e below (T0.setTop (mkF m 61 #[.val (.long q1), .second] [(.int (lcmpW q1 (65536 : Int64)))])) _
      refine XS.ifNo X0.here hx rfl (hb hby d1_61) rfl ((if0 _ _).trans (flt (fun z => hc61_1 ((lw_lt _ _).mp z))).1) ?_
      show Steps p.tables e below (T0.setTop (mkF m 64 #[.val (.long q1), .second] [])) _
      refine XS.lloadN X0.here hx rfl (hb hby d1_64) rfl ?_
      show Steps p.tables e below (T0.setTop (mkF m 65 #[.val (.long q1), .second] [(.long q1)])) _
      refine X0.ldc2Long hx hown (mvT hZ (hw _ (List.mem_of_getElem? (i := 30) rfl))) (g := (mkF m 65 #[.val (.long q1), .second] [(.long q1)])) rfl (hb hby d1_65) _ ?_
      show Steps p.tables e below (T0.setTop (mkF m 68 #[.val (.long q1), .second] [(.long (1114111 : Int64)), (.long q1)])) _
      refine XS.lcmp X0.here hx rfl (hb hby d1_68) rfl ?_
      show Steps p.tables e below (T0.setTop (mkF m 69 #[.val (.long q1), .second] [(.int (lcmpW q1 (1114111 : Int64)))])) _
      refine XS.ifNo X0.here hx rfl (hb hby d1_69) rfl ((if0 _ _).trans (flt (fun z => hc69_2 ((lw_gt _ _).mp z))).2.2.1) ?_
      exact st' target kt
def own_xml_f40 (q1 : Int64) : Int32 := (if q1 < (57344 : Int64) then (own_xml_f56 q1) else (if (65533 : Int64) < q1 then (own_xml_f56 q1) else (own_xml_f72 q1)))
set_option maxRecDepth 65536 in
set_option maxHeartbeats 40000000 in
theorem own_xml_b40 {p : Program} {l : Launch} {e : Env} {R : Room} {s : State} {m : MethodId} {args : Array Value} {below : List Frame} {meth : Method} {c : Code} {T0 : State} {locs : List Loc} {cells slots : Nat} {Z : State} {a0 : Array Value} {h0 : Heap} (q1 : Int64)
    (X0 : Stand p l e R s m args below meth c T0 locs cells slots) (hx : p.tables.exec = Jvm.exec) (hZ : Z.Warmed39 s.vm) (hw : ∀ d ∈ tables_1, d.before a0 Z = true) (hby : c.code = prog_89_method_8_code) (hml : c.maxLocals = 2) (hown : s.vm.findClass "com/example/halyard/halyard/model/Names" = some m.cls) (e0 : T0.heap = h0)  (F : Int32) (hF : F = own_xml_f40 q1 ) :
    ∃ (T' : State) (pc' : Nat) (Ls : Array Slot), Stand p l e R s m args below meth c T' locs cells slots ∧ T'.heap = h0 ∧ decode c.code pc' = .ok (.ireturn, 1) ∧
      ∀ target, Steps p.tables e below (T'.setTop (mkF m pc' Ls [.int F])) target → Steps p.tables e below (T0.setTop (mkF m 40 #[.val (.long q1), .second] [])) target := by
  by_cases hc45_1 : q1 < (57344 : Int64)
  · obtain ⟨T', pc', Ls, X', e', hd', st'⟩ := own_xml_b56 q1 X0 hx hZ hw hby hml hown e0  F (hF.trans (by rw [own_xml_f40, if_pos hc45_1]))
    refine ⟨T', pc', Ls, X', e', hd', fun target kt => ?_⟩
    show Steps p.tables e below (T0.setTop (mkF m 40 #[.val (.long q1), .second] [])) _
    refine XS.lloadN X0.here hx rfl (hb hby d1_40) rfl ?_
    show Steps p.tables e below (T0.setTop (mkF m 41 #[.val (.long q1), .second] [(.long q1)])) _
    refine X0.ldc2Long hx hown (mvT hZ (hw _ (List.mem_of_getElem? (i := 22) rfl))) (g := (mkF m 41 #[.val (.long q1), .second] [(.long q1)])) rfl (hb hby d1_41) _ ?_
    show Steps p.tables e below (T0.setTop (mkF m 44 #[.val (.long q1), .second] [(.long (57344 : Int64)), (.long q1)])) _
    refine XS.lcmp X0.here hx rfl (hb hby d1_44) rfl ?_
    show Steps p.tables e below (T0.setTop (mkF m 45 #[.val (.long q1), .second] [(.int (lcmpW q1 (57344 : Int64)))])) _
    refine XS.ifYes X0.here hx rfl (pc0 := 45) (pc' := 56) rfl (hb hby d1_45) rfl ((if0 _ _).trans (tlt ((lw_lt _ _).mpr hc45_1)).1) (by decide) (by decide) ?_
    exact st' target kt
  · by_cases hc53_2 : (65533 : Int64) < q1
    · obtain ⟨T', pc', Ls, X', e', hd', st'⟩ := own_xml_b56 q1 X0 hx hZ hw hby hml hown e0  F (hF.trans (by rw [own_xml_f40, if_neg hc45_1, if_pos hc53_2]))
      refine ⟨T', pc', Ls, X', e', hd', fun target kt => ?_⟩
      show Steps p.tables e below (T0.setTop (mkF m 40 #[.val (.long q1), .second] [])) _
      refine XS.lloadN X0.here hx rfl (hb hby d1_40) rfl ?_
      show Steps p.tables e below (T0.setTop (mkF m 41 #[.val (.long q1), .second] [(.long q1)])) _
      refine X0.ldc2Long hx hown (mvT hZ (hw _ (List.mem_of_getElem? (i := 22) rfl))) (g := (mkF m 41 #[.val (.long q1), .second] [(.long q1)])) rfl (hb hby d1_41) _ ?_
      show Steps p.tables e below (T0.setTop (mkF m 44 #[.val (.long q1), .second] [(.long (57344 : Int64)), (.long q1)])) _
      refine XS.lcmp X0.here hx rfl (hb hby d1_44) rfl ?_
      show Steps p.tables e below (T0.setTop (mkF m 45 #[.val (.long q1), .second] [(.int (lcmpW q1 (57344 : Int64)))])) _
      refine XS.ifNo X0.here hx rfl (hb hby d1_45) rfl ((if0 _ _).trans (flt (fun z => hc45_1 ((lw_lt _ _).mp z))).1) ?_
      show Steps p.tables e below (T0.setTop (mkF m 48 #[.val (.long q1), .second] [])) _
      refine XS.lloadN X0.here hx rfl (hb hby d1_48) rfl ?_
      show Steps p.tables e below (T0.setTop (mkF m 49 #[.val (.long q1), .second] [(.long q1)])) _
      refine X0.ldc2Long hx hown (mvT hZ (hw _ (List.mem_of_getElem? (i := 29) rfl))) (g := (mkF m 49 #[.val (.long q1), .second] [(.long q1)])) rfl (hb hby d1_49) _ ?_
      show Steps p.tables e below (T0.setTop (mkF m 52 #[.val (.long q1), .second] [(.long (65533 : Int64)), (.long q1)])) _
      refine XS.lcmp X0.here hx rfl (hb hby d1_52) rfl ?_
      show Steps p.tables e below (T0.setTop (mkF m 53 #[.val (.long q1), .second] [(.int (lcmpW q1 (65533 : Int64)))])) _
      refine XS.ifNo X0.here hx rfl (hb hby d1_53) rfl ((if0 _ _).trans (tlt ((lw_gt _ _).mpr hc53_2)).2.2.2) ?_
      exact st' target kt
    · obtain ⟨T', pc', Ls, X', e', hd', st'⟩ := own_xml_b72 q1 X0 hx hZ hw hby hml hown e0  F (hF.trans (by rw [own_xml_f40, if_neg hc45_1, if_neg hc53_2]))
      refine ⟨T', pc', Ls, X', e', hd', fun target kt => ?_⟩
      show Steps p.tables e below (T0.setTop (mkF m 40 #[.val (.long q1), .second] [])) _
      refine XS.lloadN X0.here hx rfl (hb hby d1_40) rfl ?_
      show Steps p.tables e below (T0.setTop (mkF m 41 #[.val (.long q1), .second] [(.long q1)])) _
      refine X0.ldc2Long hx hown (mvT hZ (hw _ (List.mem_of_getElem? (i := 22) rfl))) (g := (mkF m 41 #[.val (.long q1), .second] [(.long q1)])) rfl (hb hby d1_41) _ ?_
      show Steps p.tables e below (T0.setTop (mkF m 44 #[.val (.long q1), .second] [(.long (57344 : Int64)), (.long q1)])) _
      refine XS.lcmp X0.here hx rfl (hb hby d1_44) rfl ?_
      show Steps p.tables e below (T0.setTop (mkF m 45 #[.val (.long q1), .second] [(.int (lcmpW q1 (57344 : Int64)))])) _
      refine XS.ifNo X0.here hx rfl (hb hby d1_45) rfl ((if0 _ _).trans (flt (fun z => hc45_1 ((lw_lt _ _).mp z))).1) ?_
      show Steps p.tables e below (T0.setTop (mkF m 48 #[.val (.long q1), .second] [])) _
      refine XS.lloadN X0.here hx rfl (hb hby d1_48) rfl ?_
      show Steps p.tables e below (T0.setTop (mkF m 49 #[.val (.long q1), .second] [(.long q1)])) _
      refine X0.ldc2Long hx hown (mvT hZ (hw _ (List.mem_of_getElem? (i := 29) rfl))) (g := (mkF m 49 #[.val (.long q1), .second] [(.long q1)])) rfl (hb hby d1_49) _ ?_
      show Steps p.tables e below (T0.setTop (mkF m 52 #[.val (.long q1), .second] [(.long (65533 : Int64)), (.long q1)])) _
      refine XS.lcmp X0.here hx rfl (hb hby d1_52) rfl ?_
      show Steps p.tables e below (T0.setTop (mkF m 53 #[.val (.long q1), .second] [(.int (lcmpW q1 (65533 : Int64)))])) _
      refine XS.ifYes X0.here hx rfl (pc0 := 53) (pc' := 72) rfl (hb hby d1_53) rfl ((if0 _ _).trans (flt (fun z => hc53_2 ((lw_gt _ _).mp z))).2.2.2) (by decide) (by decide) ?_
      exact st' target kt
def own_xml_f0 (q1 : Int64) : Int32 := (if q1 = (9 : Int64) then (own_xml_f72 q1) else (if q1 = (10 : Int64) then (own_xml_f72 q1) else (if q1 = (13 : Int64) then (own_xml_f72 q1) else (if q1 < (32 : Int64) then (own_xml_f40 q1) else (if (55295 : Int64) < q1 then (own_xml_f40 q1) else (own_xml_f72 q1))))))
set_option maxRecDepth 65536 in
set_option maxHeartbeats 40000000 in
theorem own_xml_b0 {p : Program} {l : Launch} {e : Env} {R : Room} {s : State} {m : MethodId} {args : Array Value} {below : List Frame} {meth : Method} {c : Code} {T0 : State} {locs : List Loc} {cells slots : Nat} {Z : State} {a0 : Array Value} {h0 : Heap} (q1 : Int64)
    (X0 : Stand p l e R s m args below meth c T0 locs cells slots) (hx : p.tables.exec = Jvm.exec) (hZ : Z.Warmed39 s.vm) (hw : ∀ d ∈ tables_1, d.before a0 Z = true) (hby : c.code = prog_89_method_8_code) (hml : c.maxLocals = 2) (hown : s.vm.findClass "com/example/halyard/halyard/model/Names" = some m.cls) (e0 : T0.heap = h0)  (F : Int32) (hF : F = own_xml_f0 q1 ) :
    ∃ (T' : State) (pc' : Nat) (Ls : Array Slot), Stand p l e R s m args below meth c T' locs cells slots ∧ T'.heap = h0 ∧ decode c.code pc' = .ok (.ireturn, 1) ∧
      ∀ target, Steps p.tables e below (T'.setTop (mkF m pc' Ls [.int F])) target → Steps p.tables e below (T0.setTop (mkF m 0 #[.val (.long q1), .second] [])) target := by
  by_cases hc5_1 : q1 = (9 : Int64)
  · obtain ⟨T', pc', Ls, X', e', hd', st'⟩ := own_xml_b72 q1 X0 hx hZ hw hby hml hown e0  F (hF.trans (by rw [own_xml_f0, if_pos hc5_1]))
    refine ⟨T', pc', Ls, X', e', hd', fun target kt => ?_⟩
    show Steps p.tables e below (T0.setTop (mkF m 0 #[.val (.long q1), .second] [])) _
    refine XS.lloadN X0.here hx rfl (hb hby d1_0) rfl ?_
    show Steps p.tables e below (T0.setTop (mkF m 1 #[.val (.long q1), .second] [(.long q1)])) _
    refine X0.ldc2Long hx hown (mvT hZ (hw _ (List.mem_of_getElem? (i := 18) rfl))) (g := (mkF m 1 #[.val (.long q1), .second] [(.long q1)])) rfl (hb hby d1_1) _ ?_
    show Steps p.tables e below (T0.setTop (mkF m 4 #[.val (.long q1), .second] [(.long (9 : Int64)), (.long q1)])) _
    refine XS.lcmp X0.here hx rfl (hb hby d1_4) rfl ?_
    show Steps p.tables e below (T0.setTop (mkF m 5 #[.val (.long q1), .second] [(.int (lcmpW q1 (9 : Int64)))])) _
    refine XS.ifYes X0.here hx rfl (pc0 := 5) (pc' := 72) rfl (hb hby d1_5) rfl ((if0 _ _).trans (teq ((lw_eq _ _).mpr hc5_1)).1) (by decide) (by decide) ?_
    exact st' target kt
  · by_cases hc13_2 : q1 = (10 : Int64)
    · obtain ⟨T', pc', Ls, X', e', hd', st'⟩ := own_xml_b72 q1 X0 hx hZ hw hby hml hown e0  F (hF.trans (by rw [own_xml_f0, if_neg hc5_1, if_pos hc13_2]))
      refine ⟨T', pc', Ls, X', e', hd', fun target kt => ?_⟩
      show Steps p.tables e below (T0.setTop (mkF m 0 #[.val (.long q1), .second] [])) _
      refine XS.lloadN X0.here hx rfl (hb hby d1_0) rfl ?_
      show Steps p.tables e below (T0.setTop (mkF m 1 #[.val (.long q1), .second] [(.long q1)])) _
      refine X0.ldc2Long hx hown (mvT hZ (hw _ (List.mem_of_getElem? (i := 18) rfl))) (g := (mkF m 1 #[.val (.long q1), .second] [(.long q1)])) rfl (hb hby d1_1) _ ?_
      show Steps p.tables e below (T0.setTop (mkF m 4 #[.val (.long q1), .second] [(.long (9 : Int64)), (.long q1)])) _
      refine XS.lcmp X0.here hx rfl (hb hby d1_4) rfl ?_
      show Steps p.tables e below (T0.setTop (mkF m 5 #[.val (.long q1), .second] [(.int (lcmpW q1 (9 : Int64)))])) _
      refine XS.ifNo X0.here hx rfl (hb hby d1_5) rfl ((if0 _ _).trans (feq (fun z => hc5_1 ((lw_eq _ _).mp z))).1) ?_
      show Steps p.tables e below (T0.setTop (mkF m 8 #[.val (.long q1), .second] [])) _
      refine XS.lloadN X0.here hx rfl (hb hby d1_8) rfl ?_
      show Steps p.tables e below (T0.setTop (mkF m 9 #[.val (.long q1), .second] [(.long q1)])) _
      refine X0.ldc2Long hx hown (mvT hZ (hw _ (List.mem_of_getElem? (i := 19) rfl))) (g := (mkF m 9 #[.val (.long q1), .second] [(.long q1)])) rfl (hb hby d1_9) _ ?_
      show Steps p.tables e below (T0.setTop (mkF m 12 #[.val (.long q1), .second] [(.long (10 : Int64)), (.long q1)])) _
      refine XS.lcmp X0.here hx rfl (hb hby d1_12) rfl ?_
      show Steps p.tables e below (T0.setTop (mkF m 13 #[.val (.long q1), .second] [(.int (lcmpW q1 (10 : Int64)))])) _
      refine XS.ifYes X0.here hx rfl (pc0 := 13) (pc' := 72) rfl (hb hby d1_13) rfl ((if0 _ _).trans (teq ((lw_eq _ _).mpr hc13_2)).1) (by decide) (by decide) ?_
      exact st' target kt
    · by_cases hc21_3 : q1 = (13 : Int64)
      · obtain ⟨T', pc', Ls, X', e', hd', st'⟩ := own_xml_b72 q1 X0 hx hZ hw hby hml hown e0  F (hF.trans (by rw [own_xml_f0, if_neg hc5_1, if_neg hc13_2, if_pos hc21_3]))
        refine ⟨T', pc', Ls, X', e', hd', fun target kt => ?_⟩
        show Steps p.tables e below (T0.setTop (mkF m 0 #[.val (.long q1), .second] [])) _
        refine XS.lloadN X0.here hx rfl (hb hby d1_0) rfl ?_
        show Steps p.tables e below (T0.setTop (mkF m 1 #[.val (.long q1), .second] [(.long q1)])) _
        refine X0.ldc2Long hx hown (mvT hZ (hw _ (List.mem_of_getElem? (i := 18) rfl))) (g := (mkF m 1 #[.val (.long q1), .second] [(.long q1)])) rfl (hb hby d1_1) _ ?_
        show Steps p.tables e below (T0.setTop (mkF m 4 #[.val (.long q1), .second] [(.long (9 : Int64)), (.long q1)])) _
        refine XS.lcmp X0.here hx rfl (hb hby d1_4) rfl ?_
        show Steps p.tables e below (T0.setTop (mkF m 5 #[.val (.long q1), .second] [(.int (lcmpW q1 (9 : Int64)))])) _
        refine XS.ifNo X0.here hx rfl (hb hby d1_5) rfl ((if0 _ _).trans (feq (fun z => hc5_1 ((lw_eq _ _).mp z))).1) ?_
        show Steps p.tables e below (T0.setTop (mkF m 8 #[.val (.long q1), .second] [])) _
        refine XS.lloadN X0.here hx rfl (hb hby d1_8) rfl ?_
        show Steps p.tables e below (T0.setTop (mkF m 9 #[.val (.long q1), .second] [(.long q1)])) _
        refine X0.ldc2Long hx hown (mvT hZ (hw _ (List.mem_of_getElem? (i := 19) rfl))) (g := (mkF m 9 #[.val (.long q1), .second] [(.long q1)])) rfl (hb hby d1_9) _ ?_
        show Steps p.tables e below (T0.setTop (mkF m 12 #[.val (.long q1), .second] [(.long (10 : Int64)), (.long q1)])) _
        refine XS.lcmp X0.here hx rfl (hb hby d1_12) rfl ?_
        show Steps p.tables e below (T0.setTop (mkF m 13 #[.val (.long q1), .second] [(.int (lcmpW q1 (10 : Int64)))])) _
        refine XS.ifNo X0.here hx rfl (hb hby d1_13) rfl ((if0 _ _).trans (feq (fun z => hc13_2 ((lw_eq _ _).mp z))).1) ?_
        show Steps p.tables e below (T0.setTop (mkF m 16 #[.val (.long q1), .second] [])) _
        refine XS.lloadN X0.here hx rfl (hb hby d1_16) rfl ?_
        show Steps p.tables e below (T0.setTop (mkF m 17 #[.val (.long q1), .second] [(.long q1)])) _
        refine X0.ldc2Long hx hown (mvT hZ (hw _ (List.mem_of_getElem? (i := 20) rfl))) (g := (mkF m 17 #[.val (.long q1), .second] [(.long q1)])) rfl (hb hby d1_17) _ ?_
        show Steps p.tables e below (T0.setTop (mkF m 20 #[.val (.long q1), .second] [(.long (13 : Int64)), (.long q1)])) _
        refine XS.lcmp X0.here hx rfl (hb hby d1_20) rfl ?_
        show Steps p.tables e below (T0.setTop (mkF m 21 #[.val (.long q1), .second] [(.int (lcmpW q1 (13 : Int64)))])) _
        refine XS.ifYes X0.here hx rfl (pc0 := 21) (pc' := 72) rfl (hb hby d1_21) rfl ((if0 _ _).trans (teq ((lw_eq _ _).mpr hc21_3)).1) (by decide) (by decide) ?_
        exact st' target kt
      · by_cases hc29_4 : q1 < (32 : Int64)
        · obtain ⟨T', pc', Ls, X', e', hd', st'⟩ := own_xml_b40 q1 X0 hx hZ hw hby hml hown e0  F (hF.trans (by rw [own_xml_f0, if_neg hc5_1, if_neg hc13_2, if_neg hc21_3, if_pos hc29_4]))
          refine ⟨T', pc', Ls, X', e', hd', fun target kt => ?_⟩
          show Steps p.tables e below (T0.setTop (mkF m 0 #[.val (.long q1), .second] [])) _
          refine XS.lloadN X0.here hx rfl (hb hby d1_0) rfl ?_
          show Steps p.tables e below (T0.setTop (mkF m 1 #[.val (.long q1), .second] [(.long q1)])) _
          refine X0.ldc2Long hx hown (mvT hZ (hw _ (List.mem_of_getElem? (i := 18) rfl))) (g := (mkF m 1 #[.val (.long q1), .second] [(.long q1)])) rfl (hb hby d1_1) _ ?_
          show Steps p.tables e below (T0.setTop (mkF m 4 #[.val (.long q1), .second] [(.long (9 : Int64)), (.long q1)])) _
          refine XS.lcmp X0.here hx rfl (hb hby d1_4) rfl ?_
          show Steps p.tables e below (T0.setTop (mkF m 5 #[.val (.long q1), .second] [(.int (lcmpW q1 (9 : Int64)))])) _
          refine XS.ifNo X0.here hx rfl (hb hby d1_5) rfl ((if0 _ _).trans (feq (fun z => hc5_1 ((lw_eq _ _).mp z))).1) ?_
          show Steps p.tables e below (T0.setTop (mkF m 8 #[.val (.long q1), .second] [])) _
          refine XS.lloadN X0.here hx rfl (hb hby d1_8) rfl ?_
          show Steps p.tables e below (T0.setTop (mkF m 9 #[.val (.long q1), .second] [(.long q1)])) _
          refine X0.ldc2Long hx hown (mvT hZ (hw _ (List.mem_of_getElem? (i := 19) rfl))) (g := (mkF m 9 #[.val (.long q1), .second] [(.long q1)])) rfl (hb hby d1_9) _ ?_
          show Steps p.tables e below (T0.setTop (mkF m 12 #[.val (.long q1), .second] [(.long (10 : Int64)), (.long q1)])) _
          refine XS.lcmp X0.here hx rfl (hb hby d1_12) rfl ?_
          show Steps p.tables e below (T0.setTop (mkF m 13 #[.val (.long q1), .second] [(.int (lcmpW q1 (10 : Int64)))])) _
          refine XS.ifNo X0.here hx rfl (hb hby d1_13) rfl ((if0 _ _).trans (feq (fun z => hc13_2 ((lw_eq _ _).mp z))).1) ?_
          show Steps p.tables e below (T0.setTop (mkF m 16 #[.val (.long q1), .second] [])) _
          refine XS.lloadN X0.here hx rfl (hb hby d1_16) rfl ?_
          show Steps p.tables e below (T0.setTop (mkF m 17 #[.val (.long q1), .second] [(.long q1)])) _
          refine X0.ldc2Long hx hown (mvT hZ (hw _ (List.mem_of_getElem? (i := 20) rfl))) (g := (mkF m 17 #[.val (.long q1), .second] [(.long q1)])) rfl (hb hby d1_17) _ ?_
          show Steps p.tables e below (T0.setTop (mkF m 20 #[.val (.long q1), .second] [(.long (13 : Int64)), (.long q1)])) _
          refine XS.lcmp X0.here hx rfl (hb hby d1_20) rfl ?_
          show Steps p.tables e below (T0.setTop (mkF m 21 #[.val (.long q1), .second] [(.int (lcmpW q1 (13 : Int64)))])) _
          refine XS.ifNo X0.here hx rfl (hb hby d1_21) rfl ((if0 _ _).trans (feq (fun z => hc21_3 ((lw_eq _ _).mp z))).1) ?_
          show Steps p.tables e below (T0.setTop (mkF m 24 #[.val (.long q1), .second] [])) _
          refine XS.lloadN X0.here hx rfl (hb hby d1_24) rfl ?_
          show Steps p.tables e below (T0.setTop (mkF m 25 #[.val (.long q1), .second] [(.long q1)])) _
          refine X0.ldc2Long hx hown (mvT hZ (hw _ (List.mem_of_getElem? (i := 21) rfl))) (g := (mkF m 25 #[.val (.long q1), .second] [(.long q1)])) rfl (hb hby d1_25) _ ?_
          show Steps p.tables e below (T0.setTop (mkF m 28 #[.val (.long q1), .second] [(.long (32 : Int64)), (.long q1)])) _
          refine XS.lcmp X0.here hx rfl (hb hby d1_28) rfl ?_
          show Steps p.tables e below (T0.setTop (mkF m 29 #[.val (.long q1), .second] [(.int (lcmpW q1 (32 : Int64)))])) _
          refine XS.ifYes X0.here hx rfl (pc0 := 29) (pc' := 40) rfl (hb hby d1_29) rfl ((if0 _ _).trans (tlt ((lw_lt _ _).mpr hc29_4)).1) (by decide) (by decide) ?_
          exact st' target kt
        · by_cases hc37_5 : (55295 : Int64) < q1
          · obtain ⟨T', pc', Ls, X', e', hd', st'⟩ := own_xml_b40 q1 X0 hx hZ hw hby hml hown e0  F (hF.trans (by rw [own_xml_f0, if_neg hc5_1, if_neg hc13_2, if_neg hc21_3, if_neg hc29_4, if_pos hc37_5]))
            refine ⟨T', pc', Ls, X', e', hd', fun target kt => ?_⟩
            show Steps p.tables e below (T0.setTop (mkF m 0 #[.val (.long q1), .second] [])) _
            refine XS.lloadN X0.here hx rfl (hb hby d1_0) rfl ?_
            show Steps p.tables e below (T0.setTop (mkF m 1 #[.val (.long q1), .second] [(.long q1)])) _
            refine X0.ldc2Long hx hown (mvT hZ (hw _ (List.mem_of_getElem? (i := 18) rfl))) (g := (mkF m 1 #[.val (.long q1), .second] [(.long q1)])) rfl (hb hby d1_1) _ ?_
            show Steps p.tables e below (T0.setTop (mkF m 4 #[.val (.long q1), .second] [(.long (9 : Int64)), (.long q1)])) _
            refine XS.lcmp X0.here hx rfl (hb hby d1_4) rfl ?_
            show Steps p.tables e below (T0.setTop (mkF m 5 #[.val (.long q1), .second] [(.int (lcmpW q1 (9 : Int64)))])) _
            refine XS.ifNo X0.here hx rfl (hb hby d1_5) rfl ((if0 _ _).trans (feq (fun z => hc5_1 ((lw_eq _ _).mp z))).1) ?_
            show Steps p.tables e below (T0.setTop (mkF m 8 #[.val (.long q1), .second] [])) _
            refine XS.lloadN X0.here hx rfl (hb hby d1_8) rfl ?_
            show Steps p.tables e below (T0.setTop (mkF m 9 #[.val (.long q1), .second] [(.long q1)])) _
            refine X0.ldc2Long hx hown (mvT hZ (hw _ (List.mem_of_getElem? (i := 19) rfl))) (g := (mkF m 9 #[.val (.long q1), .second] [(.long q1)])) rfl (hb hby d1_9) _ ?_
            show Steps p.tables e below (T0.setTop (mkF m 12 #[.val (.long q1), .second] [(.long (10 : Int64)), (.long q1)])) _
            refine XS.lcmp X0.here hx rfl (hb hby d1_12) rfl ?_
            show Steps p.tables e below (T0.setTop (mkF m 13 #[.val (.long q1), .second] [(.int (lcmpW q1 (10 : Int64)))])) _
            refine XS.ifNo X0.here hx rfl (hb hby d1_13) rfl ((if0 _ _).trans (feq (fun z => hc13_2 ((lw_eq _ _).mp z))).1) ?_
            show Steps p.tables e below (T0.setTop (mkF m 16 #[.val (.long q1), .second] [])) _
            refine XS.lloadN X0.here hx rfl (hb hby d1_16) rfl ?_
            show Steps p.tables e below (T0.setTop (mkF m 17 #[.val (.long q1), .second] [(.long q1)])) _
            refine X0.ldc2Long hx hown (mvT hZ (hw _ (List.mem_of_getElem? (i := 20) rfl))) (g := (mkF m 17 #[.val (.long q1), .second] [(.long q1)])) rfl (hb hby d1_17) _ ?_
            show Steps p.tables e below (T0.setTop (mkF m 20 #[.val (.long q1), .second] [(.long (13 : Int64)), (.long q1)])) _
            refine XS.lcmp X0.here hx rfl (hb hby d1_20) rfl ?_
            show Steps p.tables e below (T0.setTop (mkF m 21 #[.val (.long q1), .second] [(.int (lcmpW q1 (13 : Int64)))])) _
            refine XS.ifNo X0.here hx rfl (hb hby d1_21) rfl ((if0 _ _).trans (feq (fun z => hc21_3 ((lw_eq _ _).mp z))).1) ?_
            show Steps p.tables e below (T0.setTop (mkF m 24 #[.val (.long q1), .second] [])) _
            refine XS.lloadN X0.here hx rfl (hb hby d1_24) rfl ?_
            show Steps p.tables e below (T0.setTop (mkF m 25 #[.val (.long q1), .second] [(.long q1)])) _
            refine X0.ldc2Long hx hown (mvT hZ (hw _ (List.mem_of_getElem? (i := 21) rfl))) (g := (mkF m 25 #[.val (.long q1), .second] [(.long q1)])) rfl (hb hby d1_25) _ ?_
            show Steps p.tables e below (T0.setTop (mkF m 28 #[.val (.long q1), .second] [(.long (32 : Int64)), (.long q1)])) _
            refine XS.lcmp X0.here hx rfl (hb hby d1_28) rfl ?_
            show Steps p.tables e below (T0.setTop (mkF m 29 #[.val (.long q1), .second] [(.int (lcmpW q1 (32 : Int64)))])) _
            refine XS.ifNo X0.here hx rfl (hb hby d1_29) rfl ((if0 _ _).trans (flt (fun z => hc29_4 ((lw_lt _ _).mp z))).1) ?_
            show Steps p.tables e below (T0.setTop (mkF m 32 #[.val (.long q1), .second] [])) _
            refine XS.lloadN X0.here hx rfl (hb hby d1_32) rfl ?_
            show Steps p.tables e below (T0.setTop (mkF m 33 #[.val (.long q1), .second] [(.long q1)])) _
            refine X0.ldc2Long hx hown (mvT hZ (hw _ (List.mem_of_getElem? (i := 28) rfl))) (g := (mkF m 33 #[.val (.long q1), .second] [(.long q1)])) rfl (hb hby d1_33) _ ?_
            show Steps p.tables e below (T0.setTop (mkF m 36 #[.val (.long q1), .second] [(.long (55295 : Int64)), (.long q1)])) _
            refine XS.lcmp X0.here hx rfl (hb hby d1_36) rfl ?_
            show Steps p.tables e below (T0.setTop (mkF m 37 #[.val (.long q1), .second] [(.int (lcmpW q1 (55295 : Int64)))])) _
            refine XS.ifNo X0.here hx rfl (hb hby d1_37) rfl ((if0 _ _).trans (tlt ((lw_gt _ _).mpr hc37_5)).2.2.2) ?_
            exact st' target kt
          · obtain ⟨T', pc', Ls, X', e', hd', st'⟩ := own_xml_b72 q1 X0 hx hZ hw hby hml hown e0  F (hF.trans (by rw [own_xml_f0, if_neg hc5_1, if_neg hc13_2, if_neg hc21_3, if_neg hc29_4, if_neg hc37_5]))
            refine ⟨T', pc', Ls, X', e', hd', fun target kt => ?_⟩
            show Steps p.tables e below (T0.setTop (mkF m 0 #[.val (.long q1), .second] [])) _
            refine XS.lloadN X0.here hx rfl (hb hby d1_0) rfl ?_
            show Steps p.tables e below (T0.setTop (mkF m 1 #[.val (.long q1), .second] [(.long q1)])) _
            refine X0.ldc2Long hx hown (mvT hZ (hw _ (List.mem_of_getElem? (i := 18) rfl))) (g := (mkF m 1 #[.val (.long q1), .second] [(.long q1)])) rfl (hb hby d1_1) _ ?_
            show Steps p.tables e below (T0.setTop (mkF m 4 #[.val (.long q1), .second] [(.long (9 : Int64)), (.long q1)])) _
            refine XS.lcmp X0.here hx rfl (hb hby d1_4) rfl ?_
            show Steps p.tables e below (T0.setTop (mkF m 5 #[.val (.long q1), .second] [(.int (lcmpW q1 (9 : Int64)))])) _
            refine XS.ifNo X0.here hx rfl (hb hby d1_5) rfl ((if0 _ _).trans (feq (fun z => hc5_1 ((lw_eq _ _).mp z))).1) ?_
            show Steps p.tables e below (T0.setTop (mkF m 8 #[.val (.long q1), .second] [])) _
            refine XS.lloadN X0.here hx rfl (hb hby d1_8) rfl ?_
            show Steps p.tables e below (T0.setTop (mkF m 9 #[.val (.long q1), .second] [(.long q1)])) _
            refine X0.ldc2Long hx hown (mvT hZ (hw _ (List.mem_of_getElem? (i := 19) rfl))) (g := (mkF m 9 #[.val (.long q1), .second] [(.long q1)])) rfl (hb hby d1_9) _ ?_
            show Steps p.tables e below (T0.setTop (mkF m 12 #[.val (.long q1), .second] [(.long (10 : Int64)), (.long q1)])) _
            refine XS.lcmp X0.here hx rfl (hb hby d1_12) rfl ?_
            show Steps p.tables e below (T0.setTop (mkF m 13 #[.val (.long q1), .second] [(.int (lcmpW q1 (10 : Int64)))])) _
            refine XS.ifNo X0.here hx rfl (hb hby d1_13) rfl ((if0 _ _).trans (feq (fun z => hc13_2 ((lw_eq _ _).mp z))).1) ?_
            show Steps p.tables e below (T0.setTop (mkF m 16 #[.val (.long q1), .second] [])) _
            refine XS.lloadN X0.here hx rfl (hb hby d1_16) rfl ?_
            show Steps p.tables e below (T0.setTop (mkF m 17 #[.val (.long q1), .second] [(.long q1)])) _
            refine X0.ldc2Long hx hown (mvT hZ (hw _ (List.mem_of_getElem? (i := 20) rfl))) (g := (mkF m 17 #[.val (.long q1), .second] [(.long q1)])) rfl (hb hby d1_17) _ ?_
            show Steps p.tables e below (T0.setTop (mkF m 20 #[.val (.long q1), .second] [(.long (13 : Int64)), (.long q1)])) _
            refine XS.lcmp X0.here hx rfl (hb hby d1_20) rfl ?_
            show Steps p.tables e below (T0.setTop (mkF m 21 #[.val (.long q1), .second] [(.int (lcmpW q1 (13 : Int64)))])) _
            refine XS.ifNo X0.here hx rfl (hb hby d1_21) rfl ((if0 _ _).trans (feq (fun z => hc21_3 ((lw_eq _ _).mp z))).1) ?_
            show Steps p.tables e below (T0.setTop (mkF m 24 #[.val (.long q1), .second] [])) _
            refine XS.lloadN X0.here hx rfl (hb hby d1_24) rfl ?_
            show Steps p.tables e below (T0.setTop (mkF m 25 #[.val (.long q1), .second] [(.long q1)])) _
            refine X0.ldc2Long hx hown (mvT hZ (hw _ (List.mem_of_getElem? (i := 21) rfl))) (g := (mkF m 25 #[.val (.long q1), .second] [(.long q1)])) rfl (hb hby d1_25) _ ?_
            show Steps p.tables e below (T0.setTop (mkF m 28 #[.val (.long q1), .second] [(.long (32 : Int64)), (.long q1)])) _
            refine XS.lcmp X0.here hx rfl (hb hby d1_28) rfl ?_
            show Steps p.tables e below (T0.setTop (mkF m 29 #[.val (.long q1), .second] [(.int (lcmpW q1 (32 : Int64)))])) _
            refine XS.ifNo X0.here hx rfl (hb hby d1_29) rfl ((if0 _ _).trans (flt (fun z => hc29_4 ((lw_lt _ _).mp z))).1) ?_
            show Steps p.tables e below (T0.setTop (mkF m 32 #[.val (.long q1), .second] [])) _
            refine XS.lloadN X0.here hx rfl (hb hby d1_32) rfl ?_
            show Steps p.tables e below (T0.setTop (mkF m 33 #[.val (.long q1), .second] [(.long q1)])) _
            refine X0.ldc2Long hx hown (mvT hZ (hw _ (List.mem_of_getElem? (i := 28) rfl))) (g := (mkF m 33 #[.val (.long q1), .second] [(.long q1)])) rfl (hb hby d1_33) _ ?_
            show Steps p.tables e below (T0.setTop (mkF m 36 #[.val (.long q1), .second] [(.long (55295 : Int64)), (.long q1)])) _
            refine XS.lcmp X0.here hx rfl (hb hby d1_36) rfl ?_
            show Steps p.tables e below (T0.setTop (mkF m 37 #[.val (.long q1), .second] [(.int (lcmpW q1 (55295 : Int64)))])) _
            refine XS.ifYes X0.here hx rfl (pc0 := 37) (pc' := 72) rfl (hb hby d1_37) rfl ((if0 _ _).trans (flt (fun z => hc37_5 ((lw_gt _ _).mp z))).2.2.2) (by decide) (by decide) ?_
            exact st' target kt
theorem own_xml_01 (q1 : Int64) : own_xml_f0 q1 = 0 ∨ own_xml_f0 q1 = 1 := by
  simp only [own_xml_f0, own_xml_f40, own_xml_f56, own_xml_f72, own_xml_f76]
  repeat' (first | split | simp)
theorem pn_1 : plainName "com/example/halyard/halyard/model/Names" = true := by first | (simp [plainName, overriddenIn]; done) | decide +kernel
theorem ef_1 (m : MethodId) (q1 : Int64) : entryFrame m #[(.long q1)] 2 = mkF m 0 #[.val (.long q1), .second] [] := by first | (simp [entryFrame, mkF, argsToLocals, Value.category]; done) | rfl
def Q1 (q1 : Int64)  (h0 : Heap) (n0 : Nat) (v : Option Value) (h : Heap) (L : List Loc) : Prop := v = some (.int (own_xml_f0 q1)) ∧ Fr n0 L ∧ h = h0
set_option maxRecDepth 65536 in
set_option maxHeartbeats 40000000 in
theorem rm1 (l : Launch) (Z : State) (a0 : Array Value) (hw : ∀ d ∈ tables_1, d.before a0 Z = true) (ws : List Jvm.Cond) (q1 : Int64)  (h0 : Heap) (n0 : Nat) (Z0 : n0 ≤ h0.size)  :
    MetFree l (⟨"com/example/halyard/halyard/model/Names", "isXmlChar", "(J)Z"⟩ : MethodName) (head1 (Jvm.Cond.code (⟨"com/example/halyard/halyard/model/Names", "isXmlChar", "(J)Z"⟩ : MethodName) prog_89_method_8_code 2 (some .boolean) :: ws) ({ frames := 0, cells := 0, slots := 0, locals := 0 } : Room)) (fun a U => a = #[(.long q1)] ∧ Z.Warmed39 U.vm ∧ U.heap = h0) (fun _ _ _ _ _ => True) (fun _ U o U' => ∃ v L, o = .returned v ∧ Q1 q1  h0 n0 v U'.heap L ∧ FrameEnd U o U' L (({ frames := 0, cells := 0, slots := 0, locals := 0 } : Room)).cells (({ frames := 0, cells := 0, slots := 0, locals := 0 } : Room)).slots) := by
  refine MetFree.of_bodySF (plainFor_of_name pn_1) hisR ?_
  intro p e s m args below meth c s₁ Bd hml0 hP hK
  obtain ⟨rfl, hZ, hh⟩ := hP
  have hx := Bd.exec
  have hby := Bd.bytes
  have hml : c.maxLocals = 2 := hml0
  have hown : s.vm.findClass "com/example/halyard/halyard/model/Names" = some m.cls := findClass_of_methodNamed Bd.named
  have X0 : Stand p l e ({ frames := 0, cells := 0, slots := 0, locals := 0 } : Room) s m #[(.long q1)] below meth c s₁ [] 0 0 := Stand.of_body Bd
  have e0 : s₁.heap = h0 := by rw [← hh, Bd.state]; rfl
  obtain ⟨T', pc', Ls, X', e', hd', st'⟩ := own_xml_b0 q1 X0 hx hZ hw hby hml hown e0  (own_xml_f0 q1) rfl
  obtain ⟨fs, hr, hrun, hended, hW, hsame⟩ := X'.leave (v := some (.int (nar .boolean (own_xml_f0 q1)))) (fun h => by rw [Bd.returns] at h; cases h)
  refine ⟨_, _, castTop (ef_1 m q1) (st' _ ?_), hrun, hended, _, _, rfl, ?_, ⟨_, rfl⟩, hW, hsame.mono (by decide) (by decide)⟩
  · exact retN X' hx (t := .boolean) Bd.returns (by simp) hd' hr
  · exact ⟨by rw [own_nar (own_xml_01 q1)], Fr.nil n0, e'⟩
theorem d2_0 : decode method_2_code 0 = .ok (.lload_n 0, 1) := by decide +kernel
theorem d2_1 : decode method_2_code 1 = .ok (.lconst 0, 1) := by decide +kernel
theorem d2_2 : decode method_2_code 2 = .ok (.lcmp, 1) := by decide +kernel
theorem d2_3 : decode method_2_code 3 = .ok (.ifCond .lt 11, 3) := by decide +kernel
theorem d2_6 : decode method_2_code 6 = .ok (.lload_n 0, 1) := by decide +kernel
theorem d2_7 : decode method_2_code 7 = .ok (.ldc2_w 7, 3) := by decide +kernel
theorem d2_10 : decode method_2_code 10 = .ok (.lcmp, 1) := by decide +kernel
theorem d2_11 : decode method_2_code 11 = .ok (.ifCond .le 5, 3) := by decide +kernel
theorem d2_14 : decode method_2_code 14 = .ok (.iconst 1, 1) := by decide +kernel
theorem d2_15 : decode method_2_code 15 = .ok (.ireturn, 1) := by decide +kernel
theorem d2_16 : decode method_2_code 16 = .ok (.lload_n 0, 1) := by decide +kernel
theorem d2_17 : decode method_2_code 17 = .ok (.ldc2_w 9, 3) := by decide +kernel
theorem d2_20 : decode method_2_code 20 = .ok (.lcmp, 1) := by decide +kernel
theorem d2_21 : decode method_2_code 21 = .ok (.ifCond .ge 33, 3) := by decide +kernel
theorem d2_24 : decode method_2_code 24 = .ok (.lload_n 0, 1) := by decide +kernel
theorem d2_25 : decode method_2_code 25 = .ok (.ldc2_w 11, 3) := by decide +kernel
theorem d2_28 : decode method_2_code 28 = .ok (.lcmp, 1) := by decide +kernel
theorem d2_29 : decode method_2_code 29 = .ok (.ifCond .eq 23, 3) := by decide +kernel
theorem d2_32 : decode method_2_code 32 = .ok (.lload_n 0, 1) := by decide +kernel
theorem d2_33 : decode method_2_code 33 = .ok (.ldc2_w 13, 3) := by decide +kernel
theorem d2_36 : decode method_2_code 36 = .ok (.lcmp, 1) := by decide +kernel
theorem d2_37 : decode method_2_code 37 = .ok (.ifCond .eq 15, 3) := by decide +kernel
theorem d2_40 : decode method_2_code 40 = .ok (.lload_n 0, 1) := by decide +kernel
theorem d2_41 : decode method_2_code 41 = .ok (.ldc2_w 15, 3) := by decide +kernel
theorem d2_44 : decode method_2_code 44 = .ok (.lcmp, 1) := by decide +kernel
theorem d2_45 : decode method_2_code 45 = .ok (.ifCond .eq 7, 3) := by decide +kernel
theorem d2_48 : decode method_2_code 48 = .ok (.iconst 1, 1) := by decide +kernel
theorem d2_49 : decode method_2_code 49 = .ok (.goto 4, 3) := by decide +kernel
theorem d2_52 : decode method_2_code 52 = .ok (.iconst 0, 1) := by decide +kernel
theorem d2_53 : decode method_2_code 53 = .ok (.ireturn, 1) := by decide +kernel
theorem d2_54 : decode method_2_code 54 = .ok (.lload_n 0, 1) := by decide +kernel
theorem d2_55 : decode method_2_code 55 = .ok (.ldc2_w 17, 3) := by decide +kernel
theorem d2_58 : decode method_2_code 58 = .ok (.lcmp, 1) := by decide +kernel
theorem d2_59 : decode method_2_code 59 = .ok (.ifCond .lt 13, 3) := by decide +kernel
theorem d2_62 : decode method_2_code 62 = .ok (.lload_n 0, 1) := by decide +kernel
theorem d2_63 : decode method_2_code 63 = .ok (.ldc2_w 19, 3) := by decide +kernel
theorem d2_66 : decode method_2_code 66 = .ok (.lcmp, 1) := by decide +kernel
theorem d2_67 : decode method_2_code 67 = .ok (.ifCond .gt 5, 3) := by decide +kernel
theorem d2_70 : decode method_2_code 70 = .ok (.iconst 1, 1) := by decide +kernel
theorem d2_71 : decode method_2_code 71 = .ok (.ireturn, 1) := by decide +kernel
theorem d2_72 : decode method_2_code 72 = .ok (.lload_n 0, 1) := by decide +kernel
theorem d2_73 : decode method_2_code 73 = .ok (.ldc2_w 21, 3) := by decide +kernel
theorem d2_76 : decode method_2_code 76 = .ok (.lcmp, 1) := by decide +kernel
theorem d2_77 : decode method_2_code 77 = .ok (.ifCond .eq 11, 3) := by decide +kernel
theorem d2_80 : decode method_2_code 80 = .ok (.lload_n 0, 1) := by decide +kernel
theorem d2_81 : decode method_2_code 81 = .ok (.ldc2_w 23, 3) := by decide +kernel
theorem d2_84 : decode method_2_code 84 = .ok (.lcmp, 1) := by decide +kernel
theorem d2_85 : decode method_2_code 85 = .ok (.ifCond .ne 7, 3) := by decide +kernel
theorem d2_88 : decode method_2_code 88 = .ok (.iconst 1, 1) := by decide +kernel
theorem d2_89 : decode method_2_code 89 = .ok (.goto 4, 3) := by decide +kernel
theorem d2_92 : decode method_2_code 92 = .ok (.iconst 0, 1) := by decide +kernel
theorem d2_93 : decode method_2_code 93 = .ok (.ireturn, 1) := by decide +kernel
def own_forb_f88 (q1 : Int64) : Int32 := (1 : Int32)
set_option maxRecDepth 65536 in
set_option maxHeartbeats 40000000 in
theorem own_forb_b88 {p : Program} {l : Launch} {e : Env} {R : Room} {s : State} {m : MethodId} {args : Array Value} {below : List Frame} {meth : Method} {c : Code} {T0 : State} {locs : List Loc} {cells slots : Nat} {Z : State} {a0 : Array Value} {h0 : Heap} (q1 : Int64)
    (X0 : Stand p l e R s m args below meth c T0 locs cells slots) (hx : p.tables.exec = Jvm.exec) (hZ : Z.Warmed39 s.vm) (hw : ∀ d ∈ tables_1, d.before a0 Z = true) (hby : c.code = method_2_code) (hml : c.maxLocals = 2) (hown : s.vm.findClass "com/example/halyard/halyard/model/NamesIsXmlCharPinLaw" = some m.cls) (e0 : T0.heap = h0)  (F : Int32) (hF : F = own_forb_f88 q1 ) :
    ∃ (T' : State) (pc' : Nat) (Ls : Array Slot), Stand p l e R s m args below meth c T' locs cells slots ∧ T'.heap = h0 ∧ decode c.code pc' = .ok (.ireturn, 1) ∧
      ∀ target, Steps p.tables e below (T'.setTop (mkF m pc' Ls [.int F])) target → Steps p.tables e below (T0.setTop (mkF m 88 #[.val (.long q1), .second] [])) target := by
  have hv : F = (1 : Int32) := (hF.trans (by rw [own_forb_f88]))
  refine ⟨T0, 93, #[.val (.long q1), .second], X0, e0, (hb hby d2_93), fun target kt => ?_⟩
  rw [hv] at kt
  show Steps p.tables e below (T0.setTop (mkF m 88 #[.val (.long q1), .second] [])) _
  refine XS.iconst X0.here hx rfl (hb hby d2_88) ?_
  show Steps p.tables e below (T0.setTop (mkF m 89 #[.val (.long q1), .second] [(.int (1 : Int32))])) _
  refine XS.goto X0.here hx rfl (pc0 := 89) (pc' := 93) rfl (hb hby d2_89) (by decide) (by decide) ?_
  show Steps p.tables e below (T0.setTop (mkF m 93 #[.val (.long q1), .second] [(.int (1 : Int32))])) _
  exact kt
def own_forb_f72 (q1 : Int64) : Int32 := (if q1 = (65534 : Int64) then (own_forb_f88 q1) else (if q1 = (65535 : Int64) then (own_forb_f88 q1) else (0 : Int32)))
set_option maxRecDepth 65536 in
set_option maxHeartbeats 40000000 in
theorem own_forb_b72 {p : Program} {l : Launch} {e : Env} {R : Room} {s : State} {m : MethodId} {args : Array Value} {below : List Frame} {meth : Method} {c : Code} {T0 : State} {locs : List Loc} {cells slots : Nat} {Z : State} {a0 : Array Value} {h0 : Heap} (q1 : Int64)
    (X0 : Stand p l e R s m args below meth c T0 locs cells slots) (hx : p.tables.exec = Jvm.exec) (hZ : Z.Warmed39 s.vm) (hw : ∀ d ∈ tables_1, d.before a0 Z = true) (hby : c.code = method_2_code) (hml : c.maxLocals = 2) (hown : s.vm.findClass "com/example/halyard/halyard/model/NamesIsXmlCharPinLaw" = some m.cls) (e0 : T0.heap = h0)  (F : Int32) (hF : F = own_forb_f72 q1 ) :
    ∃ (T' : State) (pc' : Nat) (Ls : Array Slot), Stand p l e R s m args below meth c T' locs cells slots ∧ T'.heap = h0 ∧ decode c.code pc' = .ok (.ireturn, 1) ∧
      ∀ target, Steps p.tables e below (T'.setTop (mkF m pc' Ls [.int F])) target → Steps p.tables e below (T0.setTop (mkF m 72 #[.val (.long q1), .second] [])) target := by
  by_cases hc77_1 : q1 = (65534 : Int64)
  · obtain ⟨T', pc', Ls, X', e', hd', st'⟩ := own_forb_b88 q1 X0 hx hZ hw hby hml hown e0  F (hF.trans (by rw [own_forb_f72, if_pos hc77_1]))
    refine ⟨T', pc', Ls, X', e', hd', fun target kt => ?_⟩
    show Steps p.tables e below (T0.setTop (mkF m 72 #[.val (.long q1), .second] [])) _
    refine XS.lloadN X0.here hx rfl (hb hby d2_72) rfl ?_
    show Steps p.tables e below (T0.setTop (mkF m 73 #[.val (.long q1), .second] [(.long q1)])) _
    refine X0.ldc2Long hx hown (mvT hZ (hw _ (List.mem_of_getElem? (i := 31) rfl))) (g := (mkF m 73 #[.val (.long q1), .second] [(.long q1)])) rfl (hb hby d2_73) _ ?_
    show Steps p.tables e below (T0.setTop (mkF m 76 #[.val (.long q1), .second] [(.long (65534 : Int64)), (.long q1)])) _
    refine XS.lcmp X0.here hx rfl (hb hby d2_76) rfl ?_
    show Steps p.tables e below (T0.setTop (mkF m 77 #[.val (.long q1), .second] [(.int (lcmpW q1 (65534 : Int64)))])) _
    refine XS.ifYes X0.here hx rfl (pc0 := 77) (pc' := 88) rfl (hb hby d2_77) rfl ((if0 _ _).trans (teq ((lw_eq _ _).mpr hc77_1)).1) (by decide) (by decide) ?_
    exact st' target kt
  · by_cases hc85_2 : q1 = (65535 : Int64)
    · obtain ⟨T', pc', Ls, X', e', hd', st'⟩ := own_forb_b88 q1 X0 hx hZ hw hby hml hown e0  F (hF.trans (by rw [own_forb_f72, if_neg hc77_1, if_pos hc85_2]))
      refine ⟨T', pc', Ls, X', e', hd', fun target kt => ?_⟩
      show Steps p.tables e below (T0.setTop (mkF m 72 #[.val (.long q1), .second] [])) _
      refine XS.lloadN X0.here hx rfl (hb hby d2_72) rfl ?_
      show Steps p.tables e below (T0.setTop (mkF m 73 #[.val (.long q1), .second] [(.long q1)])) _
      refine X0.ldc2Long hx hown (mvT hZ (hw _ (List.mem_of_getElem? (i := 31) rfl))) (g := (mkF m 73 #[.val (.long q1), .second] [(.long q1)])) rfl (hb hby d2_73) _ ?_
      show Steps p.tables e below (T0.setTop (mkF m 76 #[.val (.long q1), .second] [(.long (65534 : Int64)), (.long q1)])) _
      refine XS.lcmp X0.here hx rfl (hb hby d2_76) rfl ?_
      show Steps p.tables e below (T0.setTop (mkF m 77 #[.val (.long q1), .second] [(.int (lcmpW q1 (65534 : Int64)))])) _
      refine XS.ifNo X0.here hx rfl (hb hby d2_77) rfl ((if0 _ _).trans (feq (fun z => hc77_1 ((lw_eq _ _).mp z))).1) ?_
      show Steps p.tables e below (T0.setTop (mkF m 80 #[.val (.long q1), .second] [])) _
      refine XS.lloadN X0.here hx rfl (hb hby d2_80) rfl ?_
      show Steps p.tables e below (T0.setTop (mkF m 81 #[.val (.long q1), .second] [(.long q1)])) _
      refine X0.ldc2Long hx hown (mvT hZ (hw _ (List.mem_of_getElem? (i := 10) rfl))) (g := (mkF m 81 #[.val (.long q1), .second] [(.long q1)])) rfl (hb hby d2_81) _ ?_
      show Steps p.tables e below (T0.setTop (mkF m 84 #[.val (.long q1), .second] [(.long (65535 : Int64)), (.long q1)])) _
      refine XS.lcmp X0.here hx rfl (hb hby d2_84) rfl ?_
      show Steps p.tables e below (T0.setTop (mkF m 85 #[.val (.long q1), .second] [(.int (lcmpW q1 (65535 : Int64)))])) _
      refine XS.ifNo X0.here hx rfl (hb hby d2_85) rfl ((if0 _ _).trans (teq ((lw_eq _ _).mpr hc85_2)).2) ?_
      exact st' target kt
    · have hv : F = (0 : Int32) := (hF.trans (by rw [own_forb_f72, if_neg hc77_1, if_neg hc85_2]))
      refine ⟨T0, 93, #[.val (.long q1), .second], X0, e0, (hb hby d2_93), fun target kt => ?_⟩
      rw [hv] at kt
      show Steps p.tables e below (T0.setTop (mkF m 72 #[.val (.long q1), .second] [])) _
      refine XS.lloadN X0.here hx rfl (hb hby d2_72) rfl ?_
      show Steps p.tables e below (T0.setTop (mkF m 73 #[.val (.long q1), .second] [(.long q1)])) _
      refine X0.ldc2Long hx hown (mvT hZ (hw _ (List.mem_of_getElem? (i := 31) rfl))) (g := (mkF m 73 #[.val (.long q1), .second] [(.long q1)])) rfl (hb hby d2_73) _ ?_
      show Steps p.tables e below (T0.setTop (mkF m 76 #[.val (.long q1), .second] [(.long (65534 : Int64)), (.long q1)])) _
      refine XS.lcmp X0.here hx rfl (hb hby d2_76) rfl ?_
      show Steps p.tables e below (T0.setTop (mkF m 77 #[.val (.long q1), .second] [(.int (lcmpW q1 (65534 : Int64)))])) _
      refine XS.ifNo X0.here hx rfl (hb hby d2_77) rfl ((if0 _ _).trans (feq (fun z => hc77_1 ((lw_eq _ _).mp z))).1) ?_
      show Steps p.tables e below (T0.setTop (mkF m 80 #[.val (.long q1), .second] [])) _
      refine XS.lloadN X0.here hx rfl (hb hby d2_80) rfl ?_
      show Steps p.tables e below (T0.setTop (mkF m 81 #[.val (.long q1), .second] [(.long q1)])) _
      refine X0.ldc2Long hx hown (mvT hZ (hw _ (List.mem_of_getElem? (i := 10) rfl))) (g := (mkF m 81 #[.val (.long q1), .second] [(.long q1)])) rfl (hb hby d2_81) _ ?_
      show Steps p.tables e below (T0.setTop (mkF m 84 #[.val (.long q1), .second] [(.long (65535 : Int64)), (.long q1)])) _
      refine XS.lcmp X0.here hx rfl (hb hby d2_84) rfl ?_
      show Steps p.tables e below (T0.setTop (mkF m 85 #[.val (.long q1), .second] [(.int (lcmpW q1 (65535 : Int64)))])) _
      refine XS.ifYes X0.here hx rfl (pc0 := 85) (pc' := 92) rfl (hb hby d2_85) rfl ((if0 _ _).trans (feq (fun z => hc85_2 ((lw_eq _ _).mp z))).2) (by decide) (by decide) ?_
      show Steps p.tables e below (T0.setTop (mkF m 92 #[.val (.long q1), .second] [])) _
      refine XS.iconst X0.here hx rfl (hb hby d2_92) ?_
      show Steps p.tables e below (T0.setTop (mkF m 93 #[.val (.long q1), .second] [(.int (0 : Int32))])) _
      exact kt
def own_forb_f54 (q1 : Int64) : Int32 := (if q1 < (55296 : Int64) then (own_forb_f72 q1) else (if (57343 : Int64) < q1 then (own_forb_f72 q1) else (1 : Int32)))
set_option maxRecDepth 65536 in
set_option maxHeartbeats 40000000 in
theorem own_forb_b54 {p : Program} {l : Launch} {e : Env} {R : Room} {s : State} {m : MethodId} {args : Array Value} {below : List Frame} {meth : Method} {c : Code} {T0 : State} {locs : List Loc} {cells slots : Nat} {Z : State} {a0 : Array Value} {h0 : Heap} (q1 : Int64)
    (X0 : Stand p l e R s m args below meth c T0 locs cells slots) (hx : p.tables.exec = Jvm.exec) (hZ : Z.Warmed39 s.vm) (hw : ∀ d ∈ tables_1, d.before a0 Z = true) (hby : c.code = method_2_code) (hml : c.maxLocals = 2) (hown : s.vm.findClass "com/example/halyard/halyard/model/NamesIsXmlCharPinLaw" = some m.cls) (e0 : T0.heap = h0)  (F : Int32) (hF : F = own_forb_f54 q1 ) :
    ∃ (T' : State) (pc' : Nat) (Ls : Array Slot), Stand p l e R s m args below meth c T' locs cells slots ∧ T'.heap = h0 ∧ decode c.code pc' = .ok (.ireturn, 1) ∧
      ∀ target, Steps p.tables e below (T'.setTop (mkF m pc' Ls [.int F])) target → Steps p.tables e below (T0.setTop (mkF m 54 #[.val (.long q1), .second] [])) target := by
  by_cases hc59_1 : q1 < (55296 : Int64)
  · obtain ⟨T', pc', Ls, X', e', hd', st'⟩ := own_forb_b72 q1 X0 hx hZ hw hby hml hown e0  F (hF.trans (by rw [own_forb_f54, if_pos hc59_1]))
    refine ⟨T', pc', Ls, X', e', hd', fun target kt => ?_⟩
    show Steps p.tables e below (T0.setTop (mkF m 54 #[.val (.long q1), .second] [])) _
    refine XS.lloadN X0.here hx rfl (hb hby d2_54) rfl ?_
    show Steps p.tables e below (T0.setTop (mkF m 55 #[.val (.long q1), .second] [(.long q1)])) _
    refine X0.ldc2Long hx hown (mvT hZ (hw _ (List.mem_of_getElem? (i := 6) rfl))) (g := (mkF m 55 #[.val (.long q1), .second] [(.long q1)])) rfl (hb hby d2_55) _ ?_
    show Steps p.tables e below (T0.setTop (mkF m 58 #[.val (.long q1), .second] [(.long (55296 : Int64)), (.long q1)])) _
    refine XS.lcmp X0.here hx rfl (hb hby d2_58) rfl ?_
    show Steps p.tables e below (T0.setTop (mkF m 59 #[.val (.long q1), .second] [(.int (lcmpW q1 (55296 : Int64)))])) _
    refine XS.ifYes X0.here hx rfl (pc0 := 59) (pc' := 72) rfl (hb hby d2_59) rfl ((if0 _ _).trans (tlt ((lw_lt _ _).mpr hc59_1)).1) (by decide) (by decide) ?_
    exact st' target kt
  · by_cases hc67_2 : (57343 : Int64) < q1
    · obtain ⟨T', pc', Ls, X', e', hd', st'⟩ := own_forb_b72 q1 X0 hx hZ hw hby hml hown e0  F (hF.trans (by rw [own_forb_f54, if_neg hc59_1, if_pos hc67_2]))
      refine ⟨T', pc', Ls, X', e', hd', fun target kt => ?_⟩
      show Steps p.tables e below (T0.setTop (mkF m 54 #[.val (.long q1), .second] [])) _
      refine XS.lloadN X0.here hx rfl (hb hby d2_54) rfl ?_
      show Steps p.tables e below (T0.setTop (mkF m 55 #[.val (.long q1), .second] [(.long q1)])) _
      refine X0.ldc2Long hx hown (mvT hZ (hw _ (List.mem_of_getElem? (i := 6) rfl))) (g := (mkF m 55 #[.val (.long q1), .second] [(.long q1)])) rfl (hb hby d2_55) _ ?_
      show Steps p.tables e below (T0.setTop (mkF m 58 #[.val (.long q1), .second] [(.long (55296 : Int64)), (.long q1)])) _
      refine XS.lcmp X0.here hx rfl (hb hby d2_58) rfl ?_
      show Steps p.tables e below (T0.setTop (mkF m 59 #[.val (.long q1), .second] [(.int (lcmpW q1 (55296 : Int64)))])) _
      refine XS.ifNo X0.here hx rfl (hb hby d2_59) rfl ((if0 _ _).trans (flt (fun z => hc59_1 ((lw_lt _ _).mp z))).1) ?_
      show Steps p.tables e below (T0.setTop (mkF m 62 #[.val (.long q1), .second] [])) _
      refine XS.lloadN X0.here hx rfl (hb hby d2_62) rfl ?_
      show Steps p.tables e below (T0.setTop (mkF m 63 #[.val (.long q1), .second] [(.long q1)])) _
      refine X0.ldc2Long hx hown (mvT hZ (hw _ (List.mem_of_getElem? (i := 7) rfl))) (g := (mkF m 63 #[.val (.long q1), .second] [(.long q1)])) rfl (hb hby d2_63) _ ?_
      show Steps p.tables e below (T0.setTop (mkF m 66 #[.val (.long q1), .second] [(.long (57343 : Int64)), (.long q1)])) _
      refine XS.lcmp X0.here hx rfl (hb hby d2_66) rfl ?_
      show Steps p.tables e below (T0.setTop (mkF m 67 #[.val (.long q1), .second] [(.int (lcmpW q1 (57343 : Int64)))])) _
      refine XS.ifYes X0.here hx rfl (pc0 := 67) (pc' := 72) rfl (hb hby d2_67) rfl ((if0 _ _).trans (tlt ((lw_gt _ _).mpr hc67_2)).2.2.1) (by decide) (by decide) ?_
      exact st' target kt
    · have hv : F = (1 : Int32) := (hF.trans (by rw [own_forb_f54, if_neg hc59_1, if_neg hc67_2]))
      refine ⟨T0, 71, #[.val (.long q1), .second], X0, e0, (hb hby d2_71), fun target kt => ?_⟩
      rw [hv] at kt
      show Steps p.tables e below (T0.setTop (mkF m 54 #[.val (.long q1), .second] [])) _
      refine XS.lloadN X0.here hx rfl (hb hby d2_54) rfl ?_
      show Steps p.tables e below (T0.setTop (mkF m 55 #[.val (.long q1), .second] [(.long q1)])) _
      refine X0.ldc2Long hx hown (mvT hZ (hw _ (List.mem_of_getElem? (i := 6) rfl))) (g := (mkF m 55 #[.val (.long q1), .second] [(.long q1)])) rfl (hb hby d2_55) _ ?_
      show Steps p.tables e below (T0.setTop (mkF m 58 #[.val (.long q1), .second] [(.long (55296 : Int64)), (.long q1)])) _
      refine XS.lcmp X0.here hx rfl (hb hby d2_58) rfl ?_
      show Steps p.tables e below (T0.setTop (mkF m 59 #[.val (.long q1), .second] [(.int (lcmpW q1 (55296 : Int64)))])) _
      refine XS.ifNo X0.here hx rfl (hb hby d2_59) rfl ((if0 _ _).trans (flt (fun z => hc59_1 ((lw_lt _ _).mp z))).1) ?_
      show Steps p.tables e below (T0.setTop (mkF m 62 #[.val (.long q1), .second] [])) _
      refine XS.lloadN X0.here hx rfl (hb hby d2_62) rfl ?_
      show Steps p.tables e below (T0.setTop (mkF m 63 #[.val (.long q1), .second] [(.long q1)])) _
      refine X0.ldc2Long hx hown (mvT hZ (hw _ (List.mem_of_getElem? (i := 7) rfl))) (g := (mkF m 63 #[.val (.long q1), .second] [(.long q1)])) rfl (hb hby d2_63) _ ?_
      show Steps p.tables e below (T0.setTop (mkF m 66 #[.val (.long q1), .second] [(.long (57343 : Int64)), (.long q1)])) _
      refine XS.lcmp X0.here hx rfl (hb hby d2_66) rfl ?_
      show Steps p.tables e below (T0.setTop (mkF m 67 #[.val (.long q1), .second] [(.int (lcmpW q1 (57343 : Int64)))])) _
      refine XS.ifNo X0.here hx rfl (hb hby d2_67) rfl ((if0 _ _).trans (flt (fun z => hc67_2 ((lw_gt _ _).mp z))).2.2.1) ?_
      show Steps p.tables e below (T0.setTop (mkF m 70 #[.val (.long q1), .second] [])) _
      refine XS.iconst X0.here hx rfl (hb hby d2_70) ?_
      show Steps p.tables e below (T0.setTop (mkF m 71 #[.val (.long q1), .second] [(.int (1 : Int32))])) _
      exact kt
def own_forb_f16 (q1 : Int64) : Int32 := (if q1 < (32 : Int64) then (if q1 = (9 : Int64) then (0 : Int32) else (if q1 = (10 : Int64) then (0 : Int32) else (if q1 = (13 : Int64) then (0 : Int32) else (1 : Int32)))) else (own_forb_f54 q1))
set_option maxRecDepth 65536 in
set_option maxHeartbeats 40000000 in
theorem own_forb_b16 {p : Program} {l : Launch} {e : Env} {R : Room} {s : State} {m : MethodId} {args : Array Value} {below : List Frame} {meth : Method} {c : Code} {T0 : State} {locs : List Loc} {cells slots : Nat} {Z : State} {a0 : Array Value} {h0 : Heap} (q1 : Int64)
    (X0 : Stand p l e R s m args below meth c T0 locs cells slots) (hx : p.tables.exec = Jvm.exec) (hZ : Z.Warmed39 s.vm) (hw : ∀ d ∈ tables_1, d.before a0 Z = true) (hby : c.code = method_2_code) (hml : c.maxLocals = 2) (hown : s.vm.findClass "com/example/halyard/halyard/model/NamesIsXmlCharPinLaw" = some m.cls) (e0 : T0.heap = h0)  (F : Int32) (hF : F = own_forb_f16 q1 ) :
    ∃ (T' : State) (pc' : Nat) (Ls : Array Slot), Stand p l e R s m args below meth c T' locs cells slots ∧ T'.heap = h0 ∧ decode c.code pc' = .ok (.ireturn, 1) ∧
      ∀ target, Steps p.tables e below (T'.setTop (mkF m pc' Ls [.int F])) target → Steps p.tables e below (T0.setTop (mkF m 16 #[.val (.long q1), .second] [])) target := by
  by_cases hc21_1 : q1 < (32 : Int64)
  · by_cases hc29_2 : q1 = (9 : Int64)
    · have hv : F = (0 : Int32) := (hF.trans (by rw [own_forb_f16, if_pos hc21_1, if_pos hc29_2]))
      refine ⟨T0, 53, #[.val (.long q1), .second], X0, e0, (hb hby d2_53), fun target kt => ?_⟩
      rw [hv] at kt
      show Steps p.tables e below (T0.setTop (mkF m 16 #[.val (.long q1), .second] [])) _
      refine XS.lloadN X0.here hx rfl (hb hby d2_16) rfl ?_
      show Steps p.tables e below (T0.setTop (mkF m 17 #[.val (.long q1), .second] [(.long q1)])) _
      refine X0.ldc2Long hx hown (mvT hZ (hw _ (List.mem_of_getElem? (i := 4) rfl))) (g := (mkF m 17 #[.val (.long q1), .second] [(.long q1)])) rfl (hb hby d2_17) _ ?_
      show Steps p.tables e below (T0.setTop (mkF m 20 #[.val (.long q1), .second] [(.long (32 : Int64)), (.long q1)])) _
      refine XS.lcmp X0.here hx rfl (hb hby d2_20) rfl ?_
      show Steps p.tables e below (T0.setTop (mkF m 21 #[.val (.long q1), .second] [(.int (lcmpW q1 (32 : Int64)))])) _
      refine XS.ifNo X0.here hx rfl (hb hby d2_21) rfl ((if0 _ _).trans (tlt ((lw_lt _ _).mpr hc21_1)).2.1) ?_
      show Steps p.tables e below (T0.setTop (mkF m 24 #[.val (.long q1), .second] [])) _
      refine XS.lloadN X0.here hx rfl (hb hby d2_24) rfl ?_
      show Steps p.tables e below (T0.setTop (mkF m 25 #[.val (.long q1), .second] [(.long q1)])) _
      refine X0.ldc2Long hx hown (mvT hZ (hw _ (List.mem_of_getElem? (i := 1) rfl))) (g := (mkF m 25 #[.val (.long q1), .second] [(.long q1)])) rfl (hb hby d2_25) _ ?_
      show Steps p.tables e below (T0.setTop (mkF m 28 #[.val (.long q1), .second] [(.long (9 : Int64)), (.long q1)])) _
      refine XS.lcmp X0.here hx rfl (hb hby d2_28) rfl ?_
      show Steps p.tables e below (T0.setTop (mkF m 29 #[.val (.long q1), .second] [(.int (lcmpW q1 (9 : Int64)))])) _
      refine XS.ifYes X0.here hx rfl (pc0 := 29) (pc' := 52) rfl (hb hby d2_29) rfl ((if0 _ _).trans (teq ((lw_eq _ _).mpr hc29_2)).1) (by decide) (by decide) ?_
      show Steps p.tables e below (T0.setTop (mkF m 52 #[.val (.long q1), .second] [])) _
      refine XS.iconst X0.here hx rfl (hb hby d2_52) ?_
      show Steps p.tables e below (T0.setTop (mkF m 53 #[.val (.long q1), .second] [(.int (0 : Int32))])) _
      exact kt
    · by_cases hc37_3 : q1 = (10 : Int64)
      · have hv : F = (0 : Int32) := (hF.trans (by rw [own_forb_f16, if_pos hc21_1, if_neg hc29_2, if_pos hc37_3]))
        refine ⟨T0, 53, #[.val (.long q1), .second], X0, e0, (hb hby d2_53), fun target kt => ?_⟩
        rw [hv] at kt
        show Steps p.tables e below (T0.setTop (mkF m 16 #[.val (.long q1), .second] [])) _
        refine XS.lloadN X0.here hx rfl (hb hby d2_16) rfl ?_
        show Steps p.tables e below (T0.setTop (mkF m 17 #[.val (.long q1), .second] [(.long q1)])) _
        refine X0.ldc2Long hx hown (mvT hZ (hw _ (List.mem_of_getElem? (i := 4) rfl))) (g := (mkF m 17 #[.val (.long q1), .second] [(.long q1)])) rfl (hb hby d2_17) _ ?_
        show Steps p.tables e below (T0.setTop (mkF m 20 #[.val (.long q1), .second] [(.long (32 : Int64)), (.long q1)])) _
        refine XS.lcmp X0.here hx rfl (hb hby d2_20) rfl ?_
        show Steps p.tables e below (T0.setTop (mkF m 21 #[.val (.long q1), .second] [(.int (lcmpW q1 (32 : Int64)))])) _
        refine XS.ifNo X0.here hx rfl (hb hby d2_21) rfl ((if0 _ _).trans (tlt ((lw_lt _ _).mpr hc21_1)).2.1) ?_
        show Steps p.tables e below (T0.setTop (mkF m 24 #[.val (.long q1), .second] [])) _
        refine XS.lloadN X0.here hx rfl (hb hby d2_24) rfl ?_
        show Steps p.tables e below (T0.setTop (mkF m 25 #[.val (.long q1), .second] [(.long q1)])) _
        refine X0.ldc2Long hx hown (mvT hZ (hw _ (List.mem_of_getElem? (i := 1) rfl))) (g := (mkF m 25 #[.val (.long q1), .second] [(.long q1)])) rfl (hb hby d2_25) _ ?_
        show Steps p.tables e below (T0.setTop (mkF m 28 #[.val (.long q1), .second] [(.long (9 : Int64)), (.long q1)])) _
        refine XS.lcmp X0.here hx rfl (hb hby d2_28) rfl ?_
        show Steps p.tables e below (T0.setTop (mkF m 29 #[.val (.long q1), .second] [(.int (lcmpW q1 (9 : Int64)))])) _
        refine XS.ifNo X0.here hx rfl (hb hby d2_29) rfl ((if0 _ _).trans (feq (fun z => hc29_2 ((lw_eq _ _).mp z))).1) ?_
        show Steps p.tables e below (T0.setTop (mkF m 32 #[.val (.long q1), .second] [])) _
        refine XS.lloadN X0.here hx rfl (hb hby d2_32) rfl ?_
        show Steps p.tables e below (T0.setTop (mkF m 33 #[.val (.long q1), .second] [(.long q1)])) _
        refine X0.ldc2Long hx hown (mvT hZ (hw _ (List.mem_of_getElem? (i := 2) rfl))) (g := (mkF m 33 #[.val (.long q1), .second] [(.long q1)])) rfl (hb hby d2_33) _ ?_
        show Steps p.tables e below (T0.setTop (mkF m 36 #[.val (.long q1), .second] [(.long (10 : Int64)), (.long q1)])) _
        refine XS.lcmp X0.here hx rfl (hb hby d2_36) rfl ?_
        show Steps p.tables e below (T0.setTop (mkF m 37 #[.val (.long q1), .second] [(.int (lcmpW q1 (10 : Int64)))])) _
        refine XS.ifYes X0.here hx rfl (pc0 := 37) (pc' := 52) rfl (hb hby d2_37) rfl ((if0 _ _).trans (teq ((lw_eq _ _).mpr hc37_3)).1) (by decide) (by decide) ?_
        show Steps p.tables e below (T0.setTop (mkF m 52 #[.val (.long q1), .second] [])) _
        refine XS.iconst X0.here hx rfl (hb hby d2_52) ?_
        show Steps p.tables e below (T0.setTop (mkF m 53 #[.val (.long q1), .second] [(.int (0 : Int32))])) _
        exact kt
      · by_cases hc45_4 : q1 = (13 : Int64)
        · have hv : F = (0 : Int32) := (hF.trans (by rw [own_forb_f16, if_pos hc21_1, if_neg hc29_2, if_neg hc37_3, if_pos hc45_4]))
          refine ⟨T0, 53, #[.val (.long q1), .second], X0, e0, (hb hby d2_53), fun target kt => ?_⟩
          rw [hv] at kt
          show Steps p.tables e below (T0.setTop (mkF m 16 #[.val (.long q1), .second] [])) _
          refine XS.lloadN X0.here hx rfl (hb hby d2_16) rfl ?_
          show Steps p.tables e below (T0.setTop (mkF m 17 #[.val (.long q1), .second] [(.long q1)])) _
          refine X0.ldc2Long hx hown (mvT hZ (hw _ (List.mem_of_getElem? (i := 4) rfl))) (g := (mkF m 17 #[.val (.long q1), .second] [(.long q1)])) rfl (hb hby d2_17) _ ?_
          show Steps p.tables e below (T0.setTop (mkF m 20 #[.val (.long q1), .second] [(.long (32 : Int64)), (.long q1)])) _
          refine XS.lcmp X0.here hx rfl (hb hby d2_20) rfl ?_
          show Steps p.tables e below (T0.setTop (mkF m 21 #[.val (.long q1), .second] [(.int (lcmpW q1 (32 : Int64)))])) _
          refine XS.ifNo X0.here hx rfl (hb hby d2_21) rfl ((if0 _ _).trans (tlt ((lw_lt _ _).mpr hc21_1)).2.1) ?_
          show Steps p.tables e below (T0.setTop (mkF m 24 #[.val (.long q1), .second] [])) _
          refine XS.lloadN X0.here hx rfl (hb hby d2_24) rfl ?_
          show Steps p.tables e below (T0.setTop (mkF m 25 #[.val (.long q1), .second] [(.long q1)])) _
          refine X0.ldc2Long hx hown (mvT hZ (hw _ (List.mem_of_getElem? (i := 1) rfl))) (g := (mkF m 25 #[.val (.long q1), .second] [(.long q1)])) rfl (hb hby d2_25) _ ?_
          show Steps p.tables e below (T0.setTop (mkF m 28 #[.val (.long q1), .second] [(.long (9 : Int64)), (.long q1)])) _
          refine XS.lcmp X0.here hx rfl (hb hby d2_28) rfl ?_
          show Steps p.tables e below (T0.setTop (mkF m 29 #[.val (.long q1), .second] [(.int (lcmpW q1 (9 : Int64)))])) _
          refine XS.ifNo X0.here hx rfl (hb hby d2_29) rfl ((if0 _ _).trans (feq (fun z => hc29_2 ((lw_eq _ _).mp z))).1) ?_
          show Steps p.tables e below (T0.setTop (mkF m 32 #[.val (.long q1), .second] [])) _
          refine XS.lloadN X0.here hx rfl (hb hby d2_32) rfl ?_
          show Steps p.tables e below (T0.setTop (mkF m 33 #[.val (.long q1), .second] [(.long q1)])) _
          refine X0.ldc2Long hx hown (mvT hZ (hw _ (List.mem_of_getElem? (i := 2) rfl))) (g := (mkF m 33 #[.val (.long q1), .second] [(.long q1)])) rfl (hb hby d2_33) _ ?_
          show Steps p.tables e below (T0.setTop (mkF m 36 #[.val (.long q1), .second] [(.long (10 : Int64)), (.long q1)])) _
          refine XS.lcmp X0.here hx rfl (hb hby d2_36) rfl ?_
          show Steps p.tables e below (T0.setTop (mkF m 37 #[.val (.long q1), .second] [(.int (lcmpW q1 (10 : Int64)))])) _
          refine XS.ifNo X0.here hx rfl (hb hby d2_37) rfl ((if0 _ _).trans (feq (fun z => hc37_3 ((lw_eq _ _).mp z))).1) ?_
          show Steps p.tables e below (T0.setTop (mkF m 40 #[.val (.long q1), .second] [])) _
          refine XS.lloadN X0.here hx rfl (hb hby d2_40) rfl ?_
          show Steps p.tables e below (T0.setTop (mkF m 41 #[.val (.long q1), .second] [(.long q1)])) _
          refine X0.ldc2Long hx hown (mvT hZ (hw _ (List.mem_of_getElem? (i := 3) rfl))) (g := (mkF m 41 #[.val (.long q1), .second] [(.long q1)])) rfl (hb hby d2_41) _ ?_
          show Steps p.tables e below (T0.setTop (mkF m 44 #[.val (.long q1), .second] [(.long (13 : Int64)), (.long q1)])) _
          refine XS.lcmp X0.here hx rfl (hb hby d2_44) rfl ?_
          show Steps p.tables e below (T0.setTop (mkF m 45 #[.val (.long q1), .second] [(.int (lcmpW q1 (13 : Int64)))])) _
          refine XS.ifYes X0.here hx rfl (pc0 := 45) (pc' := 52) rfl (hb hby d2_45) rfl ((if0 _ _).trans (teq ((lw_eq _ _).mpr hc45_4)).1) (by decide) (by decide) ?_
          show Steps p.tables e below (T0.setTop (mkF m 52 #[.val (.long q1), .second] [])) _
          refine XS.iconst X0.here hx rfl (hb hby d2_52) ?_
          show Steps p.tables e below (T0.setTop (mkF m 53 #[.val (.long q1), .second] [(.int (0 : Int32))])) _
          exact kt
        · have hv : F = (1 : Int32) := (hF.trans (by rw [own_forb_f16, if_pos hc21_1, if_neg hc29_2, if_neg hc37_3, if_neg hc45_4]))
          refine ⟨T0, 53, #[.val (.long q1), .second], X0, e0, (hb hby d2_53), fun target kt => ?_⟩
          rw [hv] at kt
          show Steps p.tables e below (T0.setTop (mkF m 16 #[.val (.long q1), .second] [])) _
          refine XS.lloadN X0.here hx rfl (hb hby d2_16) rfl ?_
          show Steps p.tables e below (T0.setTop (mkF m 17 #[.val (.long q1), .second] [(.long q1)])) _
          refine X0.ldc2Long hx hown (mvT hZ (hw _ (List.mem_of_getElem? (i := 4) rfl))) (g := (mkF m 17 #[.val (.long q1), .second] [(.long q1)])) rfl (hb hby d2_17) _ ?_
          show Steps p.tables e below (T0.setTop (mkF m 20 #[.val (.long q1), .second] [(.long (32 : Int64)), (.long q1)])) _
          refine XS.lcmp X0.here hx rfl (hb hby d2_20) rfl ?_
          show Steps p.tables e below (T0.setTop (mkF m 21 #[.val (.long q1), .second] [(.int (lcmpW q1 (32 : Int64)))])) _
          refine XS.ifNo X0.here hx rfl (hb hby d2_21) rfl ((if0 _ _).trans (tlt ((lw_lt _ _).mpr hc21_1)).2.1) ?_
          show Steps p.tables e below (T0.setTop (mkF m 24 #[.val (.long q1), .second] [])) _
          refine XS.lloadN X0.here hx rfl (hb hby d2_24) rfl ?_
          show Steps p.tables e below (T0.setTop (mkF m 25 #[.val (.long q1), .second] [(.long q1)])) _
          refine X0.ldc2Long hx hown (mvT hZ (hw _ (List.mem_of_getElem? (i := 1) rfl))) (g := (mkF m 25 #[.val (.long q1), .second] [(.long q1)])) rfl (hb hby d2_25) _ ?_
          show Steps p.tables e below (T0.setTop (mkF m 28 #[.val (.long q1), .second] [(.long (9 : Int64)), (.long q1)])) _
          refine XS.lcmp X0.here hx rfl (hb hby d2_28) rfl ?_
          show Steps p.tables e below (T0.setTop (mkF m 29 #[.val (.long q1), .second] [(.int (lcmpW q1 (9 : Int64)))])) _
          refine XS.ifNo X0.here hx rfl (hb hby d2_29) rfl ((if0 _ _).trans (feq (fun z => hc29_2 ((lw_eq _ _).mp z))).1) ?_
          show Steps p.tables e below (T0.setTop (mkF m 32 #[.val (.long q1), .second] [])) _
          refine XS.lloadN X0.here hx rfl (hb hby d2_32) rfl ?_
          show Steps p.tables e below (T0.setTop (mkF m 33 #[.val (.long q1), .second] [(.long q1)])) _
          refine X0.ldc2Long hx hown (mvT hZ (hw _ (List.mem_of_getElem? (i := 2) rfl))) (g := (mkF m 33 #[.val (.long q1), .second] [(.long q1)])) rfl (hb hby d2_33) _ ?_
          show Steps p.tables e below (T0.setTop (mkF m 36 #[.val (.long q1), .second] [(.long (10 : Int64)), (.long q1)])) _
          refine XS.lcmp X0.here hx rfl (hb hby d2_36) rfl ?_
          show Steps p.tables e below (T0.setTop (mkF m 37 #[.val (.long q1), .second] [(.int (lcmpW q1 (10 : Int64)))])) _
          refine XS.ifNo X0.here hx rfl (hb hby d2_37) rfl ((if0 _ _).trans (feq (fun z => hc37_3 ((lw_eq _ _).mp z))).1) ?_
          show Steps p.tables e below (T0.setTop (mkF m 40 #[.val (.long q1), .second] [])) _
          refine XS.lloadN X0.here hx rfl (hb hby d2_40) rfl ?_
          show Steps p.tables e below (T0.setTop (mkF m 41 #[.val (.long q1), .second] [(.long q1)])) _
          refine X0.ldc2Long hx hown (mvT hZ (hw _ (List.mem_of_getElem? (i := 3) rfl))) (g := (mkF m 41 #[.val (.long q1), .second] [(.long q1)])) rfl (hb hby d2_41) _ ?_
          show Steps p.tables e below (T0.setTop (mkF m 44 #[.val (.long q1), .second] [(.long (13 : Int64)), (.long q1)])) _
          refine XS.lcmp X0.here hx rfl (hb hby d2_44) rfl ?_
          show Steps p.tables e below (T0.setTop (mkF m 45 #[.val (.long q1), .second] [(.int (lcmpW q1 (13 : Int64)))])) _
          refine XS.ifNo X0.here hx rfl (hb hby d2_45) rfl ((if0 _ _).trans (feq (fun z => hc45_4 ((lw_eq _ _).mp z))).1) ?_
          show Steps p.tables e below (T0.setTop (mkF m 48 #[.val (.long q1), .second] [])) _
          refine XS.iconst X0.here hx rfl (hb hby d2_48) ?_
          show Steps p.tables e below (T0.setTop (mkF m 49 #[.val (.long q1), .second] [(.int (1 : Int32))])) _
          refine XS.goto X0.here hx rfl (pc0 := 49) (pc' := 53) rfl (hb hby d2_49) (by decide) (by decide) ?_
          show Steps p.tables e below (T0.setTop (mkF m 53 #[.val (.long q1), .second] [(.int (1 : Int32))])) _
          exact kt
  · obtain ⟨T', pc', Ls, X', e', hd', st'⟩ := own_forb_b54 q1 X0 hx hZ hw hby hml hown e0  F (hF.trans (by rw [own_forb_f16, if_neg hc21_1]))
    refine ⟨T', pc', Ls, X', e', hd', fun target kt => ?_⟩
    show Steps p.tables e below (T0.setTop (mkF m 16 #[.val (.long q1), .second] [])) _
    refine XS.lloadN X0.here hx rfl (hb hby d2_16) rfl ?_
    show Steps p.tables e below (T0.setTop (mkF m 17 #[.val (.long q1), .second] [(.long q1)])) _
    refine X0.ldc2Long hx hown (mvT hZ (hw _ (List.mem_of_getElem? (i := 4) rfl))) (g := (mkF m 17 #[.val (.long q1), .second] [(.long q1)])) rfl (hb hby d2_17) _ ?_
    show Steps p.tables e below (T0.setTop (mkF m 20 #[.val (.long q1), .second] [(.long (32 : Int64)), (.long q1)])) _
    refine XS.lcmp X0.here hx rfl (hb hby d2_20) rfl ?_
    show Steps p.tables e below (T0.setTop (mkF m 21 #[.val (.long q1), .second] [(.int (lcmpW q1 (32 : Int64)))])) _
    refine XS.ifYes X0.here hx rfl (pc0 := 21) (pc' := 54) rfl (hb hby d2_21) rfl ((if0 _ _).trans (flt (fun z => hc21_1 ((lw_lt _ _).mp z))).2.1) (by decide) (by decide) ?_
    exact st' target kt
def own_forb_f14 (q1 : Int64) : Int32 := (1 : Int32)
set_option maxRecDepth 65536 in
set_option maxHeartbeats 40000000 in
theorem own_forb_b14 {p : Program} {l : Launch} {e : Env} {R : Room} {s : State} {m : MethodId} {args : Array Value} {below : List Frame} {meth : Method} {c : Code} {T0 : State} {locs : List Loc} {cells slots : Nat} {Z : State} {a0 : Array Value} {h0 : Heap} (q1 : Int64)
    (X0 : Stand p l e R s m args below meth c T0 locs cells slots) (hx : p.tables.exec = Jvm.exec) (hZ : Z.Warmed39 s.vm) (hw : ∀ d ∈ tables_1, d.before a0 Z = true) (hby : c.code = method_2_code) (hml : c.maxLocals = 2) (hown : s.vm.findClass "com/example/halyard/halyard/model/NamesIsXmlCharPinLaw" = some m.cls) (e0 : T0.heap = h0)  (F : Int32) (hF : F = own_forb_f14 q1 ) :
    ∃ (T' : State) (pc' : Nat) (Ls : Array Slot), Stand p l e R s m args below meth c T' locs cells slots ∧ T'.heap = h0 ∧ decode c.code pc' = .ok (.ireturn, 1) ∧
      ∀ target, Steps p.tables e below (T'.setTop (mkF m pc' Ls [.int F])) target → Steps p.tables e below (T0.setTop (mkF m 14 #[.val (.long q1), .second] [])) target := by
  have hv : F = (1 : Int32) := (hF.trans (by rw [own_forb_f14]))
  refine ⟨T0, 15, #[.val (.long q1), .second], X0, e0, (hb hby d2_15), fun target kt => ?_⟩
  rw [hv] at kt
  show Steps p.tables e below (T0.setTop (mkF m 14 #[.val (.long q1), .second] [])) _
  refine XS.iconst X0.here hx rfl (hb hby d2_14) ?_
  show Steps p.tables e below (T0.setTop (mkF m 15 #[.val (.long q1), .second] [(.int (1 : Int32))])) _
  exact kt
def own_forb_f0 (q1 : Int64) : Int32 := (if q1 < (0 : Int64) then (own_forb_f14 q1) else (if (1114111 : Int64) < q1 then (own_forb_f14 q1) else (own_forb_f16 q1)))
set_option maxRecDepth 65536 in
set_option maxHeartbeats 40000000 in
theorem own_forb_b0 {p : Program} {l : Launch} {e : Env} {R : Room} {s : State} {m : MethodId} {args : Array Value} {below : List Frame} {meth : Method} {c : Code} {T0 : State} {locs : List Loc} {cells slots : Nat} {Z : State} {a0 : Array Value} {h0 : Heap} (q1 : Int64)
    (X0 : Stand p l e R s m args below meth c T0 locs cells slots) (hx : p.tables.exec = Jvm.exec) (hZ : Z.Warmed39 s.vm) (hw : ∀ d ∈ tables_1, d.before a0 Z = true) (hby : c.code = method_2_code) (hml : c.maxLocals = 2) (hown : s.vm.findClass "com/example/halyard/halyard/model/NamesIsXmlCharPinLaw" = some m.cls) (e0 : T0.heap = h0)  (F : Int32) (hF : F = own_forb_f0 q1 ) :
    ∃ (T' : State) (pc' : Nat) (Ls : Array Slot), Stand p l e R s m args below meth c T' locs cells slots ∧ T'.heap = h0 ∧ decode c.code pc' = .ok (.ireturn, 1) ∧
      ∀ target, Steps p.tables e below (T'.setTop (mkF m pc' Ls [.int F])) target → Steps p.tables e below (T0.setTop (mkF m 0 #[.val (.long q1), .second] [])) target := by
  by_cases hc3_1 : q1 < (0 : Int64)
  · obtain ⟨T', pc', Ls, X', e', hd', st'⟩ := own_forb_b14 q1 X0 hx hZ hw hby hml hown e0  F (hF.trans (by rw [own_forb_f0, if_pos hc3_1]))
    refine ⟨T', pc', Ls, X', e', hd', fun target kt => ?_⟩
    show Steps p.tables e below (T0.setTop (mkF m 0 #[.val (.long q1), .second] [])) _
    refine XS.lloadN X0.here hx rfl (hb hby d2_0) rfl ?_
    show Steps p.tables e below (T0.setTop (mkF m 1 #[.val (.long q1), .second] [(.long q1)])) _
    refine XS.lconst X0.here hx rfl (hb hby d2_1) ?_
    show Steps p.tables e below (T0.setTop (mkF m 2 #[.val (.long q1), .second] [(.long (0 : Int64)), (.long q1)])) _
    refine XS.lcmp X0.here hx rfl (hb hby d2_2) rfl ?_
    show Steps p.tables e below (T0.setTop (mkF m 3 #[.val (.long q1), .second] [(.int (lcmpW q1 (0 : Int64)))])) _
    refine XS.ifYes X0.here hx rfl (pc0 := 3) (pc' := 14) rfl (hb hby d2_3) rfl ((if0 _ _).trans (tlt ((lw_lt _ _).mpr hc3_1)).1) (by decide) (by decide) ?_
    exact st' target kt
  · by_cases hc11_2 : (1114111 : Int64) < q1
    · obtain ⟨T', pc', Ls, X', e', hd', st'⟩ := own_forb_b14 q1 X0 hx hZ hw hby hml hown e0  F (hF.trans (by rw [own_forb_f0, if_neg hc3_1, if_pos hc11_2]))
      refine ⟨T', pc', Ls, X', e', hd', fun target kt => ?_⟩
      show Steps p.tables e below (T0.setTop (mkF m 0 #[.val (.long q1), .second] [])) _
      refine XS.lloadN X0.here hx rfl (hb hby d2_0) rfl ?_
      show Steps p.tables e below (T0.setTop (mkF m 1 #[.val (.long q1), .second] [(.long q1)])) _
      refine XS.lconst X0.here hx rfl (hb hby d2_1) ?_
      show Steps p.tables e below (T0.setTop (mkF m 2 #[.val (.long q1), .second] [(.long (0 : Int64)), (.long q1)])) _
      refine XS.lcmp X0.here hx rfl (hb hby d2_2) rfl ?_
      show Steps p.tables e below (T0.setTop (mkF m 3 #[.val (.long q1), .second] [(.int (lcmpW q1 (0 : Int64)))])) _
      refine XS.ifNo X0.here hx rfl (hb hby d2_3) rfl ((if0 _ _).trans (flt (fun z => hc3_1 ((lw_lt _ _).mp z))).1) ?_
      show Steps p.tables e below (T0.setTop (mkF m 6 #[.val (.long q1), .second] [])) _
      refine XS.lloadN X0.here hx rfl (hb hby d2_6) rfl ?_
      show Steps p.tables e below (T0.setTop (mkF m 7 #[.val (.long q1), .second] [(.long q1)])) _
      refine X0.ldc2Long hx hown (mvT hZ (hw _ (List.mem_of_getElem? (i := 12) rfl))) (g := (mkF m 7 #[.val (.long q1), .second] [(.long q1)])) rfl (hb hby d2_7) _ ?_
      show Steps p.tables e below (T0.setTop (mkF m 10 #[.val (.long q1), .second] [(.long (1114111 : Int64)), (.long q1)])) _
      refine XS.lcmp X0.here hx rfl (hb hby d2_10) rfl ?_
      show Steps p.tables e below (T0.setTop (mkF m 11 #[.val (.long q1), .second] [(.int (lcmpW q1 (1114111 : Int64)))])) _
      refine XS.ifNo X0.here hx rfl (hb hby d2_11) rfl ((if0 _ _).trans (tlt ((lw_gt _ _).mpr hc11_2)).2.2.2) ?_
      exact st' target kt
    · obtain ⟨T', pc', Ls, X', e', hd', st'⟩ := own_forb_b16 q1 X0 hx hZ hw hby hml hown e0  F (hF.trans (by rw [own_forb_f0, if_neg hc3_1, if_neg hc11_2]))
      refine ⟨T', pc', Ls, X', e', hd', fun target kt => ?_⟩
      show Steps p.tables e below (T0.setTop (mkF m 0 #[.val (.long q1), .second] [])) _
      refine XS.lloadN X0.here hx rfl (hb hby d2_0) rfl ?_
      show Steps p.tables e below (T0.setTop (mkF m 1 #[.val (.long q1), .second] [(.long q1)])) _
      refine XS.lconst X0.here hx rfl (hb hby d2_1) ?_
      show Steps p.tables e below (T0.setTop (mkF m 2 #[.val (.long q1), .second] [(.long (0 : Int64)), (.long q1)])) _
      refine XS.lcmp X0.here hx rfl (hb hby d2_2) rfl ?_
      show Steps p.tables e below (T0.setTop (mkF m 3 #[.val (.long q1), .second] [(.int (lcmpW q1 (0 : Int64)))])) _
      refine XS.ifNo X0.here hx rfl (hb hby d2_3) rfl ((if0 _ _).trans (flt (fun z => hc3_1 ((lw_lt _ _).mp z))).1) ?_
      show Steps p.tables e below (T0.setTop (mkF m 6 #[.val (.long q1), .second] [])) _
      refine XS.lloadN X0.here hx rfl (hb hby d2_6) rfl ?_
      show Steps p.tables e below (T0.setTop (mkF m 7 #[.val (.long q1), .second] [(.long q1)])) _
      refine X0.ldc2Long hx hown (mvT hZ (hw _ (List.mem_of_getElem? (i := 12) rfl))) (g := (mkF m 7 #[.val (.long q1), .second] [(.long q1)])) rfl (hb hby d2_7) _ ?_
      show Steps p.tables e below (T0.setTop (mkF m 10 #[.val (.long q1), .second] [(.long (1114111 : Int64)), (.long q1)])) _
      refine XS.lcmp X0.here hx rfl (hb hby d2_10) rfl ?_
      show Steps p.tables e below (T0.setTop (mkF m 11 #[.val (.long q1), .second] [(.int (lcmpW q1 (1114111 : Int64)))])) _
      refine XS.ifYes X0.here hx rfl (pc0 := 11) (pc' := 16) rfl (hb hby d2_11) rfl ((if0 _ _).trans (flt (fun z => hc11_2 ((lw_gt _ _).mp z))).2.2.2) (by decide) (by decide) ?_
      exact st' target kt
theorem own_forb_01 (q1 : Int64) : own_forb_f0 q1 = 0 ∨ own_forb_f0 q1 = 1 := by
  simp only [own_forb_f0, own_forb_f14, own_forb_f16, own_forb_f54, own_forb_f72, own_forb_f88]
  repeat' (first | split | simp)
theorem pn_2 : plainName "com/example/halyard/halyard/model/NamesIsXmlCharPinLaw" = true := by first | (simp [plainName, overriddenIn]; done) | decide +kernel
theorem ef_2 (m : MethodId) (q1 : Int64) : entryFrame m #[(.long q1)] 2 = mkF m 0 #[.val (.long q1), .second] [] := by first | (simp [entryFrame, mkF, argsToLocals, Value.category]; done) | rfl
def Q2 (q1 : Int64)  (h0 : Heap) (n0 : Nat) (v : Option Value) (h : Heap) (L : List Loc) : Prop := v = some (.int (own_forb_f0 q1)) ∧ Fr n0 L ∧ h = h0
set_option maxRecDepth 65536 in
set_option maxHeartbeats 40000000 in
theorem rm2 (l : Launch) (Z : State) (a0 : Array Value) (hw : ∀ d ∈ tables_1, d.before a0 Z = true) (ws : List Jvm.Cond) (q1 : Int64)  (h0 : Heap) (n0 : Nat) (Z0 : n0 ≤ h0.size)  :
    MetFree l (⟨"com/example/halyard/halyard/model/NamesIsXmlCharPinLaw", "forbidden", "(J)Z"⟩ : MethodName) (head1 (Jvm.Cond.code (⟨"com/example/halyard/halyard/model/NamesIsXmlCharPinLaw", "forbidden", "(J)Z"⟩ : MethodName) method_2_code 2 (some .boolean) :: ws) ({ frames := 0, cells := 0, slots := 0, locals := 0 } : Room)) (fun a U => a = #[(.long q1)] ∧ Z.Warmed39 U.vm ∧ U.heap = h0) (fun _ _ _ _ _ => True) (fun _ U o U' => ∃ v L, o = .returned v ∧ Q2 q1  h0 n0 v U'.heap L ∧ FrameEnd U o U' L (({ frames := 0, cells := 0, slots := 0, locals := 0 } : Room)).cells (({ frames := 0, cells := 0, slots := 0, locals := 0 } : Room)).slots) := by
  refine MetFree.of_bodySF (plainFor_of_name pn_2) hisR ?_
  intro p e s m args below meth c s₁ Bd hml0 hP hK
  obtain ⟨rfl, hZ, hh⟩ := hP
  have hx := Bd.exec
  have hby := Bd.bytes
  have hml : c.maxLocals = 2 := hml0
  have hown : s.vm.findClass "com/example/halyard/halyard/model/NamesIsXmlCharPinLaw" = some m.cls := findClass_of_methodNamed Bd.named
  have X0 : Stand p l e ({ frames := 0, cells := 0, slots := 0, locals := 0 } : Room) s m #[(.long q1)] below meth c s₁ [] 0 0 := Stand.of_body Bd
  have e0 : s₁.heap = h0 := by rw [← hh, Bd.state]; rfl
  obtain ⟨T', pc', Ls, X', e', hd', st'⟩ := own_forb_b0 q1 X0 hx hZ hw hby hml hown e0  (own_forb_f0 q1) rfl
  obtain ⟨fs, hr, hrun, hended, hW, hsame⟩ := X'.leave (v := some (.int (nar .boolean (own_forb_f0 q1)))) (fun h => by rw [Bd.returns] at h; cases h)
  refine ⟨_, _, castTop (ef_2 m q1) (st' _ ?_), hrun, hended, _, _, rfl, ?_, ⟨_, rfl⟩, hW, hsame.mono (by decide) (by decide)⟩
  · exact retN X' hx (t := .boolean) Bd.returns (by simp) hd' hr
  · exact ⟨by rw [own_nar (own_forb_01 q1)], Fr.nil n0, e'⟩
def own_P (z : Int) : Prop := z = 9 ∨ z = 10 ∨ z = 13 ∨ (32 ≤ z ∧ z ≤ 55295) ∨ (57344 ≤ z ∧ z ≤ 65533) ∨ (65536 ≤ z ∧ z ≤ 1114111)
theorem own_xml_v (q1 : Int64) : (own_P q1.toInt → own_xml_f0 q1 = 1) ∧ (¬ own_P q1.toInt → own_xml_f0 q1 = 0) := by
  simp only [own_P, own_xml_f0, own_xml_f40, own_xml_f56, own_xml_f72, own_xml_f76, Int64.lt_iff_toInt_lt, ← Int64.toInt_inj, Int64.reduceToInt]
  generalize q1.toInt = z
  constructor
  all_goals
    intro h
    repeat' split
    all_goals first | rfl | (exfalso; omega)
theorem own_forb_v (q1 : Int64) : (own_P q1.toInt → own_forb_f0 q1 = 0) ∧ (¬ own_P q1.toInt → own_forb_f0 q1 = 1) := by
  simp only [own_P, own_forb_f0, own_forb_f14, own_forb_f16, own_forb_f54, own_forb_f72, own_forb_f88, Int64.lt_iff_toInt_lt, ← Int64.toInt_inj, Int64.reduceToInt]
  generalize q1.toInt = z
  constructor
  all_goals
    intro h
    repeat' split
    all_goals first | rfl | (exfalso; omega)
theorem own_same (q1 : Int64) : own_xml_f0 q1 = if own_forb_f0 q1 = 0 then 1 else 0 := by
  by_cases h : own_P q1.toInt
  · rw [(own_xml_v q1).1 h, (own_forb_v q1).1 h]; rfl
  · rw [(own_xml_v q1).2 h, (own_forb_v q1).2 h]; rfl
def own_A14 (Z : State) (h : Heap) (b : Addr) : Prop := ∃ cl : Cell, Arr Z h b cl .long ∧ cl.slots.size = 14 ∧ ∀ i, i < 14 → ∃ x : Int64, cl.slots[i]? = some (.long x)
theorem own_st {p : Program} {l : Launch} {e : Env} {R : Room} {s : State} {m : MethodId} {args : Array Value} {below : List Frame} {meth : Method} {c : Code} {T : State} {locs : List Loc} {cells slots : Nat} {Z : State} {h : Heap} {n0 : Nat} {b : Addr}
    (X : Stand p l e R s m args below meth c T locs cells slots) (hx : p.tables.exec = Jvm.exec) (hZ : Z.Warmed39 s.vm) (eT : T.heap = h) (A : own_A14 Z h b) (gb : n0 ≤ b) (N : Fr n0 locs) (j : Int32) (hj : ¬ j < 0 ∧ j.toNatClampNeg < 14) (x : Int64) {g : JFrame} (hg : g.method = m) {rest : List Value} (hs : g.stack = .long x :: .int j :: .ref b :: rest) (hd : decode c.code g.pc = .ok (.lastore, 1)) :
    ∃ T' h' L', Stand p l e R s m args below meth c T' L' cells slots ∧ T'.heap = h' ∧ own_A14 Z h' b ∧ Fr n0 L' ∧ h'.size = h.size ∧ ∀ target, Steps p.tables e below (T'.setTop { g with pc := g.pc + 1, stack := rest }) target → Steps p.tables e below (T.setTop g) target := by
  obtain ⟨cl, Ar, S, H⟩ := A
  obtain ⟨T', h', X', e', W, st⟩ := stJ X hx hZ eT Ar (j := j) (x := x) (fun q => q.elim hj.1 fun q => by rw [S] at q; omega) hg hs hd
  refine ⟨T', h', _, X', e', ⟨_, Ar.same W, by rw [sz_set]; exact S, fun i hi => ?_⟩, Fr.snoc X' N gb, W.size, st⟩
  by_cases u : j.toNatClampNeg = i
  · subst u; exact ⟨x, by simp [Cell.setSlot, S, hi]⟩
  · obtain ⟨y, hy⟩ := H i hi
    exact ⟨y, by rw [Cell.setSlot]; exact (Array.getElem?_setIfInBounds_ne u).trans hy⟩
theorem own_rem {x y : Int32} {d : Int} (hy : y.toInt = d) (h1 : y ≠ -1) (hd : 0 < d) (hx : 0 ≤ x.toInt) : (x - x / y * y).toInt = x.toInt % d := by
  have a := (c_idiv x y d hy h1).1 hx
  have b := c_imul (x / y) y
  have e := c_isub x (x / y * y)
  have r1 := rng32 (x - x / y * y)
  have r2 := rng32 (x / y * y)
  have r3 := rng32 x
  rw [a, hy] at b
  have q := Int.emod_add_mul_ediv x.toInt d
  have q1 := Int.emod_nonneg x.toInt (show d ≠ 0 by omega)
  have q2 := Int.emod_lt_of_pos x.toInt hd
  rw [Int.mul_comm] at q
  have q3 : 0 ≤ x.toInt / d * d := Int.mul_nonneg (Int.ediv_nonneg hx (by omega)) (by omega)
  generalize x.toInt / d * d = z at *
  generalize x.toInt % d = w at *
  omega
theorem own_idx (p2 : Int32) : ¬ (((p2.toUInt32 >>> ((2 : Int32) &&& 31).toUInt32).toInt32) - ((p2.toUInt32 >>> ((2 : Int32) &&& 31).toUInt32).toInt32) / (14 : Int32) * (14 : Int32)) < 0 ∧ (((p2.toUInt32 >>> ((2 : Int32) &&& 31).toUInt32).toInt32) - ((p2.toUInt32 >>> ((2 : Int32) &&& 31).toUInt32).toInt32) / (14 : Int32) * (14 : Int32)).toNatClampNeg < 14 := by
  have h1 := c_iushr p2 2 2 (by decide) (by decide)
  have h2 := rng32 p2
  have h3 : 0 ≤ (((p2.toUInt32 >>> ((2 : Int32) &&& 31).toUInt32).toInt32)).toInt := by rw [h1]; omega
  have h4 := own_rem (x := ((p2.toUInt32 >>> ((2 : Int32) &&& 31).toUInt32).toInt32)) (y := 14) (d := 14) (by decide) (by decide) (by decide) h3
  rw [Int32.lt_iff_toInt_lt, Int32.toNatClampNeg, h4, show (0 : Int32).toInt = 0 from rfl]
  omega
set_option maxRecDepth 65536 in
set_option maxHeartbeats 40000000 in
theorem own_c {p : Program} {l : Launch} {e : Env} {R : Room} {s : State} {m : MethodId} {args : Array Value} {below : List Frame} {meth : Method} {c : Code} {T0 : State} {locs : List Loc} {cells slots : Nat} {Z : State} {h0 : Heap} (q1 : Int64) (p2 p3 : Int32) (b : Addr)
    (X0 : Stand p l e R s m args below meth c T0 locs cells slots) (hx : p.tables.exec = Jvm.exec) (hZ : Z.Warmed39 s.vm) (hby : c.code = code) (e0 : T0.heap = h0) (A : own_A14 Z h0 b) :
    ∃ (cc : Int64) (o : Slot), ∀ target, Steps p.tables e below (T0.setTop (mkF m 132 #[.val (.long q1), .second, .val (.int p2), .val (.int p3), .val (.ref b), .val (.long cc), .second, o] [])) target → Steps p.tables e below (T0.setTop (mkF m 96 #[.val (.long q1), .second, .val (.int p2), .val (.int p3), .val (.ref b), .unset, .unset, .unset] [])) target := by
  by_cases h : p2 &&& 3 = 0
  · refine ⟨q1, .unset, fun target kt => ?_⟩
    show Steps p.tables e below (T0.setTop (mkF m 96 #[.val (.long q1), .second, .val (.int p2), .val (.int p3), .val (.ref b), .unset, .unset, .unset] [])) _
    refine XS.iloadN X0.here hx rfl (hb hby at_96) rfl ?_
    show Steps p.tables e below (T0.setTop (mkF m 97 #[.val (.long q1), .second, .val (.int p2), .val (.int p3), .val (.ref b), .unset, .unset, .unset] [(.int p2)])) _
    refine XS.iconst X0.here hx rfl (hb hby at_97) ?_
    show Steps p.tables e below (T0.setTop (mkF m 98 #[.val (.long q1), .second, .val (.int p2), .val (.int p3), .val (.ref b), .unset, .unset, .unset] [(.int (3 : Int32)), (.int p2)])) _
    refine XS.iand X0.here hx rfl (hb hby at_98) rfl ?_
    show Steps p.tables e below (T0.setTop (mkF m 99 #[.val (.long q1), .second, .val (.int p2), .val (.int p3), .val (.ref b), .unset, .unset, .unset] [(.int (p2 &&& (3 : Int32)))])) _
    refine XS.ifNo X0.here hx rfl (hb hby at_99) rfl ((if0 _ _).trans (teq h).2) ?_
    show Steps p.tables e below (T0.setTop (mkF m 102 #[.val (.long q1), .second, .val (.int p2), .val (.int p3), .val (.ref b), .unset, .unset, .unset] [])) _
    refine XS.lloadN X0.here hx rfl (hb hby at_102) rfl ?_
    show Steps p.tables e below (T0.setTop (mkF m 103 #[.val (.long q1), .second, .val (.int p2), .val (.int p3), .val (.ref b), .unset, .unset, .unset] [(.long q1)])) _
    refine XS.lstore X0.here hx rfl (hb hby at_103) rfl (l' := #[.val (.long q1), .second, .val (.int p2), .val (.int p3), .val (.ref b), .val (.long q1), .second, .unset]) rfl ?_
    show Steps p.tables e below (T0.setTop (mkF m 105 #[.val (.long q1), .second, .val (.int p2), .val (.int p3), .val (.ref b), .val (.long q1), .second, .unset] [])) _
    refine XS.goto X0.here hx rfl (pc0 := 105) (pc' := 132) rfl (hb hby at_105) (by decide) (by decide) ?_
    show Steps p.tables e below (T0.setTop (mkF m 132 #[.val (.long q1), .second, .val (.int p2), .val (.int p3), .val (.ref b), .val (.long q1), .second, .unset] [])) _
    exact kt
  · obtain ⟨cl, Ar, S, H⟩ := A
    have S14 : cl.slots.size.toInt32 = 14 := by rw [S]; rfl
    obtain ⟨h1, h2⟩ := own_idx p2
    obtain ⟨v, hv⟩ := H _ h2
    have hin : ¬ ((((p2.toUInt32 >>> ((2 : Int32) &&& 31).toUInt32).toInt32) - ((p2.toUInt32 >>> ((2 : Int32) &&& 31).toUInt32).toInt32) / (14 : Int32) * (14 : Int32)) < 0 ∨ cl.slots.size ≤ ((((p2.toUInt32 >>> ((2 : Int32) &&& 31).toUInt32).toInt32) - ((p2.toUInt32 >>> ((2 : Int32) &&& 31).toUInt32).toInt32) / (14 : Int32) * (14 : Int32))).toNatClampNeg) := fun q => q.elim h1 fun q => by rw [S] at q; omega
    refine ⟨(v + (((p3 &&& (7 : Int32)) - (3 : Int32)).toInt64)), .val (.int (((p2.toUInt32 >>> ((2 : Int32) &&& 31).toUInt32).toInt32) - ((p2.toUInt32 >>> ((2 : Int32) &&& 31).toUInt32).toInt32) / (14 : Int32) * (14 : Int32))), fun target kt => ?_⟩
    show Steps p.tables e below (T0.setTop (mkF m 96 #[.val (.long q1), .second, .val (.int p2), .val (.int p3), .val (.ref b), .unset, .unset, .unset] [])) _
    refine XS.iloadN X0.here hx rfl (hb hby at_96) rfl ?_
    show Steps p.tables e below (T0.setTop (mkF m 97 #[.val (.long q1), .second, .val (.int p2), .val (.int p3), .val (.ref b), .unset, .unset, .unset] [(.int p2)])) _
    refine XS.iconst X0.here hx rfl (hb hby at_97) ?_
    show Steps p.tables e below (T0.setTop (mkF m 98 #[.val (.long q1), .second, .val (.int p2), .val (.int p3), .val (.ref b), .unset, .unset, .unset] [(.int (3 : Int32)), (.int p2)])) _
    refine XS.iand X0.here hx rfl (hb hby at_98) rfl ?_
    show Steps p.tables e below (T0.setTop (mkF m 99 #[.val (.long q1), .second, .val (.int p2), .val (.int p3), .val (.ref b), .unset, .unset, .unset] [(.int (p2 &&& (3 : Int32)))])) _
    refine XS.ifYes X0.here hx rfl (pc0 := 99) (pc' := 108) rfl (hb hby at_99) rfl ((if0 _ _).trans (feq h).2) (by decide) (by decide) ?_
    show Steps p.tables e below (T0.setTop (mkF m 108 #[.val (.long q1), .second, .val (.int p2), .val (.int p3), .val (.ref b), .unset, .unset, .unset] [])) _
    refine XS.iloadN X0.here hx rfl (hb hby at_108) rfl ?_
    show Steps p.tables e below (T0.setTop (mkF m 109 #[.val (.long q1), .second, .val (.int p2), .val (.int p3), .val (.ref b), .unset, .unset, .unset] [(.int p2)])) _
    refine XS.iconst X0.here hx rfl (hb hby at_109) ?_
    show Steps p.tables e below (T0.setTop (mkF m 110 #[.val (.long q1), .second, .val (.int p2), .val (.int p3), .val (.ref b), .unset, .unset, .unset] [(.int (2 : Int32)), (.int p2)])) _
    refine XS.iushr X0.here hx rfl (hb hby at_110) rfl ?_
    show Steps p.tables e below (T0.setTop (mkF m 111 #[.val (.long q1), .second, .val (.int p2), .val (.int p3), .val (.ref b), .unset, .unset, .unset] [(.int ((p2.toUInt32 >>> ((2 : Int32) &&& 31).toUInt32).toInt32))])) _
    refine XS.aload X0.here hx rfl (hb hby at_111) rfl rfl ?_
    show Steps p.tables e below (T0.setTop (mkF m 113 #[.val (.long q1), .second, .val (.int p2), .val (.int p3), .val (.ref b), .unset, .unset, .unset] [(.ref b), (.int ((p2.toUInt32 >>> ((2 : Int32) &&& 31).toUInt32).toInt32))])) _
    refine X0.arraylength hx (by rw [e0]; exact Ar.1) (State.isArrayOf_alike hZ.alike Ar.2.1) (g := (mkF m 113 #[.val (.long q1), .second, .val (.int p2), .val (.int p3), .val (.ref b), .unset, .unset, .unset] [(.ref b), (.int ((p2.toUInt32 >>> ((2 : Int32) &&& 31).toUInt32).toInt32))])) rfl rfl (hb hby at_113) _ ?_
    rw [S14]
    show Steps p.tables e below (T0.setTop (mkF m 114 #[.val (.long q1), .second, .val (.int p2), .val (.int p3), .val (.ref b), .unset, .unset, .unset] [(.int (14 : Int32)), (.int ((p2.toUInt32 >>> ((2 : Int32) &&& 31).toUInt32).toInt32))])) _
    refine XS.irem X0.here hx rfl (hb hby at_114) rfl (by decide) ?_
    show Steps p.tables e below (T0.setTop (mkF m 115 #[.val (.long q1), .second, .val (.int p2), .val (.int p3), .val (.ref b), .unset, .unset, .unset] [(.int (((p2.toUInt32 >>> ((2 : Int32) &&& 31).toUInt32).toInt32) - ((p2.toUInt32 >>> ((2 : Int32) &&& 31).toUInt32).toInt32) / (14 : Int32) * (14 : Int32)))])) _
    refine XS.istore X0.here hx rfl (hb hby at_115) rfl (l' := #[.val (.long q1), .second, .val (.int p2), .val (.int p3), .val (.ref b), .unset, .unset, .val (.int (((p2.toUInt32 >>> ((2 : Int32) &&& 31).toUInt32).toInt32) - ((p2.toUInt32 >>> ((2 : Int32) &&& 31).toUInt32).toInt32) / (14 : Int32) * (14 : Int32)))]) rfl ?_
    show Steps p.tables e below (T0.setTop (mkF m 117 #[.val (.long q1), .second, .val (.int p2), .val (.int p3), .val (.ref b), .unset, .unset, .val (.int (((p2.toUInt32 >>> ((2 : Int32) &&& 31).toUInt32).toInt32) - ((p2.toUInt32 >>> ((2 : Int32) &&& 31).toUInt32).toInt32) / (14 : Int32) * (14 : Int32)))] [])) _
    refine XS.aload X0.here hx rfl (hb hby at_117) rfl rfl ?_
    show Steps p.tables e below (T0.setTop (mkF m 119 #[.val (.long q1), .second, .val (.int p2), .val (.int p3), .val (.ref b), .unset, .unset, .val (.int (((p2.toUInt32 >>> ((2 : Int32) &&& 31).toUInt32).toInt32) - ((p2.toUInt32 >>> ((2 : Int32) &&& 31).toUInt32).toInt32) / (14 : Int32) * (14 : Int32)))] [(.ref b)])) _
    refine XS.iload X0.here hx rfl (hb hby at_119) rfl ?_
    show Steps p.tables e below (T0.setTop (mkF m 121 #[.val (.long q1), .second, .val (.int p2), .val (.int p3), .val (.ref b), .unset, .unset, .val (.int (((p2.toUInt32 >>> ((2 : Int32) &&& 31).toUInt32).toInt32) - ((p2.toUInt32 >>> ((2 : Int32) &&& 31).toUInt32).toInt32) / (14 : Int32) * (14 : Int32)))] [(.int (((p2.toUInt32 >>> ((2 : Int32) &&& 31).toUInt32).toInt32) - ((p2.toUInt32 >>> ((2 : Int32) &&& 31).toUInt32).toInt32) / (14 : Int32) * (14 : Int32))), (.ref b)])) _
    refine X0.laload hx (j := (((p2.toUInt32 >>> ((2 : Int32) &&& 31).toUInt32).toInt32) - ((p2.toUInt32 >>> ((2 : Int32) &&& 31).toUInt32).toInt32) / (14 : Int32) * (14 : Int32))) (v := (.long v)) (by rw [e0]; exact Ar.1) (State.isArrayOf_alike hZ.alike Ar.2.1) Ar.2.2 hin hv (g := (mkF m 121 #[.val (.long q1), .second, .val (.int p2), .val (.int p3), .val (.ref b), .unset, .unset, .val (.int (((p2.toUInt32 >>> ((2 : Int32) &&& 31).toUInt32).toInt32) - ((p2.toUInt32 >>> ((2 : Int32) &&& 31).toUInt32).toInt32) / (14 : Int32) * (14 : Int32)))] [(.int (((p2.toUInt32 >>> ((2 : Int32) &&& 31).toUInt32).toInt32) - ((p2.toUInt32 >>> ((2 : Int32) &&& 31).toUInt32).toInt32) / (14 : Int32) * (14 : Int32))), (.ref b)])) rfl rfl (hb hby at_121) _ ?_
    show Steps p.tables e below (T0.setTop (mkF m 122 #[.val (.long q1), .second, .val (.int p2), .val (.int p3), .val (.ref b), .unset, .unset, .val (.int (((p2.toUInt32 >>> ((2 : Int32) &&& 31).toUInt32).toInt32) - ((p2.toUInt32 >>> ((2 : Int32) &&& 31).toUInt32).toInt32) / (14 : Int32) * (14 : Int32)))] [(.long v)])) _
    refine XS.iloadN X0.here hx rfl (hb hby at_122) rfl ?_
    show Steps p.tables e below (T0.setTop (mkF m 123 #[.val (.long q1), .second, .val (.int p2), .val (.int p3), .val (.ref b), .unset, .unset, .val (.int (((p2.toUInt32 >>> ((2 : Int32) &&& 31).toUInt32).toInt32) - ((p2.toUInt32 >>> ((2 : Int32) &&& 31).toUInt32).toInt32) / (14 : Int32) * (14 : Int32)))] [(.int p3), (.long v)])) _
    refine XS.bipush X0.here hx rfl (hb hby at_123) ?_
    show Steps p.tables e below (T0.setTop (mkF m 125 #[.val (.long q1), .second, .val (.int p2), .val (.int p3), .val (.ref b), .unset, .unset, .val (.int (((p2.toUInt32 >>> ((2 : Int32) &&& 31).toUInt32).toInt32) - ((p2.toUInt32 >>> ((2 : Int32) &&& 31).toUInt32).toInt32) / (14 : Int32) * (14 : Int32)))] [(.int (7 : Int32)), (.int p3), (.long v)])) _
    refine XS.iand X0.here hx rfl (hb hby at_125) rfl ?_
    show Steps p.tables e below (T0.setTop (mkF m 126 #[.val (.long q1), .second, .val (.int p2), .val (.int p3), .val (.ref b), .unset, .unset, .val (.int (((p2.toUInt32 >>> ((2 : Int32) &&& 31).toUInt32).toInt32) - ((p2.toUInt32 >>> ((2 : Int32) &&& 31).toUInt32).toInt32) / (14 : Int32) * (14 : Int32)))] [(.int (p3 &&& (7 : Int32))), (.long v)])) _
    refine XS.iconst X0.here hx rfl (hb hby at_126) ?_
    show Steps p.tables e below (T0.setTop (mkF m 127 #[.val (.long q1), .second, .val (.int p2), .val (.int p3), .val (.ref b), .unset, .unset, .val (.int (((p2.toUInt32 >>> ((2 : Int32) &&& 31).toUInt32).toInt32) - ((p2.toUInt32 >>> ((2 : Int32) &&& 31).toUInt32).toInt32) / (14 : Int32) * (14 : Int32)))] [(.int (3 : Int32)), (.int (p3 &&& (7 : Int32))), (.long v)])) _
    refine XS.isub X0.here hx rfl (hb hby at_127) rfl ?_
    show Steps p.tables e below (T0.setTop (mkF m 128 #[.val (.long q1), .second, .val (.int p2), .val (.int p3), .val (.ref b), .unset, .unset, .val (.int (((p2.toUInt32 >>> ((2 : Int32) &&& 31).toUInt32).toInt32) - ((p2.toUInt32 >>> ((2 : Int32) &&& 31).toUInt32).toInt32) / (14 : Int32) * (14 : Int32)))] [(.int ((p3 &&& (7 : Int32)) - (3 : Int32))), (.long v)])) _
    refine XS.i2l X0.here hx rfl (hb hby at_128) rfl ?_
    show Steps p.tables e below (T0.setTop (mkF m 129 #[.val (.long q1), .second, .val (.int p2), .val (.int p3), .val (.ref b), .unset, .unset, .val (.int (((p2.toUInt32 >>> ((2 : Int32) &&& 31).toUInt32).toInt32) - ((p2.toUInt32 >>> ((2 : Int32) &&& 31).toUInt32).toInt32) / (14 : Int32) * (14 : Int32)))] [(.long (((p3 &&& (7 : Int32)) - (3 : Int32)).toInt64)), (.long v)])) _
    refine XS.ladd X0.here hx rfl (hb hby at_129) rfl ?_
    show Steps p.tables e below (T0.setTop (mkF m 130 #[.val (.long q1), .second, .val (.int p2), .val (.int p3), .val (.ref b), .unset, .unset, .val (.int (((p2.toUInt32 >>> ((2 : Int32) &&& 31).toUInt32).toInt32) - ((p2.toUInt32 >>> ((2 : Int32) &&& 31).toUInt32).toInt32) / (14 : Int32) * (14 : Int32)))] [(.long (v + (((p3 &&& (7 : Int32)) - (3 : Int32)).toInt64)))])) _
    refine XS.lstore X0.here hx rfl (hb hby at_130) rfl (l' := #[.val (.long q1), .second, .val (.int p2), .val (.int p3), .val (.ref b), .val (.long (v + (((p3 &&& (7 : Int32)) - (3 : Int32)).toInt64))), .second, .val (.int (((p2.toUInt32 >>> ((2 : Int32) &&& 31).toUInt32).toInt32) - ((p2.toUInt32 >>> ((2 : Int32) &&& 31).toUInt32).toInt32) / (14 : Int32) * (14 : Int32)))]) rfl ?_
    show Steps p.tables e below (T0.setTop (mkF m 132 #[.val (.long q1), .second, .val (.int p2), .val (.int p3), .val (.ref b), .val (.long (v + (((p3 &&& (7 : Int32)) - (3 : Int32)).toInt64))), .second, .val (.int (((p2.toUInt32 >>> ((2 : Int32) &&& 31).toUInt32).toInt32) - ((p2.toUInt32 >>> ((2 : Int32) &&& 31).toUInt32).toInt32) / (14 : Int32) * (14 : Int32)))] [])) _
    exact kt
theorem pn_0 : plainName "com/example/halyard/halyard/model/NamesIsXmlCharPinLaw" = true := by first | (simp [plainName, overriddenIn]; done) | decide +kernel
theorem ef_0 (m : MethodId) (x0 : Int64) (x1 : Int32) (x2 : Int32) : entryFrame m #[(.long x0), (.int x1), (.int x2)] maxLocals = mkF m 0 #[.val (.long x0), .second, .val (.int x1), .val (.int x2), .unset, .unset, .unset, .unset] [] := by first | (simp [entryFrame, mkF, argsToLocals, Value.category, maxLocals]; done) | rfl
set_option maxRecDepth 65536 in
set_option maxHeartbeats 40000000 in
theorem rm0 (l : Launch) (Z : State) (a0 : Array Value) (hw : ∀ d ∈ tables_1, d.before a0 Z = true) (ws : List Jvm.Cond) (q1 : Int64) (p2 : Int32) (p3 : Int32) (h0 : Heap) (n0 : Nat) (Z0 : n0 ≤ h0.size) :
    MetFree l x (head1 (Jvm.Cond.code x code maxLocals ret :: ws) room_1) (fun a U => a = #[(.long q1), (.int p2), (.int p3)] ∧ Z.Warmed39 U.vm ∧ U.heap = h0) (fun _ _ _ _ _ => True) (fun _ U o U' => ∃ v L, o = .returned v ∧ (v = some (.int (1 : Int32)) ∧ Fr n0 L) ∧ FrameEnd U o U' L room_1.cells room_1.slots) := by
  refine MetFree.of_bodySF (plainFor_of_name pn_0) hisR ?_
  intro p e s m args below meth c s₁ Bd hml0 hP hK
  obtain ⟨rfl, hZ, hh⟩ := hP
  have hx := Bd.exec
  have hby := Bd.bytes
  have hml : c.maxLocals = 8 := hml0
  have hown : s.vm.findClass "com/example/halyard/halyard/model/NamesIsXmlCharPinLaw" = some m.cls := findClass_of_methodNamed Bd.named
  have X0 : Stand p l e room_1 s m #[(.long q1), (.int p2), (.int p3)] below meth c s₁ [] 0 0 := Stand.of_body Bd
  have e0 : s₁.heap = h0 := by rw [← hh, Bd.state]; rfl
  have N0 := Fr.nil n0
  have pre0 : ∀ t, Steps p.tables e below (s₁.setTop (mkF m 0 #[.val (.long q1), .second, .val (.int p2), .val (.int p3), .unset, .unset, .unset, .unset] [])) t → Steps p.tables e below (s₁.setTop (entryFrame m #[(.long q1), (.int p2), (.int p3)] maxLocals)) t := fun t k => castTop (ef_0 m q1 p2 p3) k
  obtain ⟨T4, h4, k4, X4, e4, E4, Ar4, st4⟩ := newP X0 hx hZ (hw _ (List.mem_of_getElem? (i := 0) rfl)) e0 (g := (mkF m 2 #[.val (.long q1), .second, .val (.int p2), .val (.int p3), .unset, .unset, .unset, .unset] [(.int (14 : Int32))])) rfl (hb hby at_2) rfl (by decide) (cap := 14) (by decide) (by decide) (by decide) (by decide)
  obtain ⟨b4, g4⟩ : ∃ z, z = h0.size := ⟨_, rfl⟩
  rw [← g4] at Ar4 st4
  have A4 : own_A14 Z h4 b4 := ⟨_, Ar4, by rw [sz_new]; rfl, fun i hi => ⟨0, by show (Array.replicate (14 : Int32).toNatClampNeg (defaultValue (newarray.typeOf .long)))[i]? = some (.long 0); rw [Array.getElem?_replicate, if_pos (show i < (14 : Int32).toNatClampNeg from hi)]; rfl⟩⟩
  have gb : n0 ≤ b4 := Nat.le_trans Z0 (Nat.le_of_eq g4.symm)
  have N4 := N0
  have z4 : n0 ≤ h4.size := Nat.le_trans Z0 E4.1
  obtain ⟨T5, h5, L5, X5, e5, A5, N5, z5', st5⟩ := own_st X4 hx hZ e4 A4 gb N4 (0 : Int32) (by decide) (0 : Int64) (g := (mkF m 7 #[.val (.long q1), .second, .val (.int p2), .val (.int p3), .unset, .unset, .unset, .unset] [(.long (0 : Int64)), (.int (0 : Int32)), (.ref b4), (.ref b4)])) rfl rfl (hb hby at_7)
  have z5 : n0 ≤ h5.size := by rw [z5']; exact z4
  obtain ⟨T6, h6, L6, X6, e6, A6, N6, z6', st6⟩ := own_st X5 hx hZ e5 A5 gb N5 (1 : Int32) (by decide) (9 : Int64) (g := (mkF m 13 #[.val (.long q1), .second, .val (.int p2), .val (.int p3), .unset, .unset, .unset, .unset] [(.long (9 : Int64)), (.int (1 : Int32)), (.ref b4), (.ref b4)])) rfl rfl (hb hby at_13)
  have z6 : n0 ≤ h6.size := by rw [z6']; exact z5
  obtain ⟨T7, h7, L7, X7, e7, A7, N7, z7', st7⟩ := own_st X6 hx hZ e6 A6 gb N6 (2 : Int32) (by decide) (10 : Int64) (g := (mkF m 19 #[.val (.long q1), .second, .val (.int p2), .val (.int p3), .unset, .unset, .unset, .unset] [(.long (10 : Int64)), (.int (2 : Int32)), (.ref b4), (.ref b4)])) rfl rfl (hb hby at_19)
  have z7 : n0 ≤ h7.size := by rw [z7']; exact z6
  obtain ⟨T8, h8, L8, X8, e8, A8, N8, z8', st8⟩ := own_st X7 hx hZ e7 A7 gb N7 (3 : Int32) (by decide) (13 : Int64) (g := (mkF m 25 #[.val (.long q1), .second, .val (.int p2), .val (.int p3), .unset, .unset, .unset, .unset] [(.long (13 : Int64)), (.int (3 : Int32)), (.ref b4), (.ref b4)])) rfl rfl (hb hby at_25)
  have z8 : n0 ≤ h8.size := by rw [z8']; exact z7
  obtain ⟨T9, h9, L9, X9, e9, A9, N9, z9', st9⟩ := own_st X8 hx hZ e8 A8 gb N8 (4 : Int32) (by decide) (32 : Int64) (g := (mkF m 31 #[.val (.long q1), .second, .val (.int p2), .val (.int p3), .unset, .unset, .unset, .unset] [(.long (32 : Int64)), (.int (4 : Int32)), (.ref b4), (.ref b4)])) rfl rfl (hb hby at_31)
  have z9 : n0 ≤ h9.size := by rw [z9']; exact z8
  obtain ⟨T10, h10, L10, X10, e10, A10, N10, z10', st10⟩ := own_st X9 hx hZ e9 A9 gb N9 (5 : Int32) (by decide) (55295 : Int64) (g := (mkF m 37 #[.val (.long q1), .second, .val (.int p2), .val (.int p3), .unset, .unset, .unset, .unset] [(.long (55295 : Int64)), (.int (5 : Int32)), (.ref b4), (.ref b4)])) rfl rfl (hb hby at_37)
  have z10 : n0 ≤ h10.size := by rw [z10']; exact z9
  obtain ⟨T11, h11, L11, X11, e11, A11, N11, z11', st11⟩ := own_st X10 hx hZ e10 A10 gb N10 (6 : Int32) (by decide) (55296 : Int64) (g := (mkF m 44 #[.val (.long q1), .second, .val (.int p2), .val (.int p3), .unset, .unset, .unset, .unset] [(.long (55296 : Int64)), (.int (6 : Int32)), (.ref b4), (.ref b4)])) rfl rfl (hb hby at_44)
  have z11 : n0 ≤ h11.size := by rw [z11']; exact z10
  obtain ⟨T12, h12, L12, X12, e12, A12, N12, z12', st12⟩ := own_st X11 hx hZ e11 A11 gb N11 (7 : Int32) (by decide) (57343 : Int64) (g := (mkF m 51 #[.val (.long q1), .second, .val (.int p2), .val (.int p3), .unset, .unset, .unset, .unset] [(.long (57343 : Int64)), (.int (7 : Int32)), (.ref b4), (.ref b4)])) rfl rfl (hb hby at_51)
  have z12 : n0 ≤ h12.size := by rw [z12']; exact z11
  obtain ⟨T13, h13, L13, X13, e13, A13, N13, z13', st13⟩ := own_st X12 hx hZ e12 A12 gb N12 (8 : Int32) (by decide) (57344 : Int64) (g := (mkF m 58 #[.val (.long q1), .second, .val (.int p2), .val (.int p3), .unset, .unset, .unset, .unset] [(.long (57344 : Int64)), (.int (8 : Int32)), (.ref b4), (.ref b4)])) rfl rfl (hb hby at_58)
  have z13 : n0 ≤ h13.size := by rw [z13']; exact z12
  obtain ⟨T14, h14, L14, X14, e14, A14, N14, z14', st14⟩ := own_st X13 hx hZ e13 A13 gb N13 (9 : Int32) (by decide) (65533 : Int64) (g := (mkF m 65 #[.val (.long q1), .second, .val (.int p2), .val (.int p3), .unset, .unset, .unset, .unset] [(.long (65533 : Int64)), (.int (9 : Int32)), (.ref b4), (.ref b4)])) rfl rfl (hb hby at_65)
  have z14 : n0 ≤ h14.size := by rw [z14']; exact z13
  obtain ⟨T15, h15, L15, X15, e15, A15, N15, z15', st15⟩ := own_st X14 hx hZ e14 A14 gb N14 (10 : Int32) (by decide) (65535 : Int64) (g := (mkF m 72 #[.val (.long q1), .second, .val (.int p2), .val (.int p3), .unset, .unset, .unset, .unset] [(.long (65535 : Int64)), (.int (10 : Int32)), (.ref b4), (.ref b4)])) rfl rfl (hb hby at_72)
  have z15 : n0 ≤ h15.size := by rw [z15']; exact z14
  obtain ⟨T16, h16, L16, X16, e16, A16, N16, z16', st16⟩ := own_st X15 hx hZ e15 A15 gb N15 (11 : Int32) (by decide) (65536 : Int64) (g := (mkF m 79 #[.val (.long q1), .second, .val (.int p2), .val (.int p3), .unset, .unset, .unset, .unset] [(.long (65536 : Int64)), (.int (11 : Int32)), (.ref b4), (.ref b4)])) rfl rfl (hb hby at_79)
  have z16 : n0 ≤ h16.size := by rw [z16']; exact z15
  obtain ⟨T17, h17, L17, X17, e17, A17, N17, z17', st17⟩ := own_st X16 hx hZ e16 A16 gb N16 (12 : Int32) (by decide) (1114111 : Int64) (g := (mkF m 86 #[.val (.long q1), .second, .val (.int p2), .val (.int p3), .unset, .unset, .unset, .unset] [(.long (1114111 : Int64)), (.int (12 : Int32)), (.ref b4), (.ref b4)])) rfl rfl (hb hby at_86)
  have z17 : n0 ≤ h17.size := by rw [z17']; exact z16
  obtain ⟨T18, h18, L18, X18, e18, A18, N18, z18', st18⟩ := own_st X17 hx hZ e17 A17 gb N17 (13 : Int32) (by decide) (1114112 : Int64) (g := (mkF m 93 #[.val (.long q1), .second, .val (.int p2), .val (.int p3), .unset, .unset, .unset, .unset] [(.long (1114112 : Int64)), (.int (13 : Int32)), (.ref b4), (.ref b4)])) rfl rfl (hb hby at_93)
  have z18 : n0 ≤ h18.size := by rw [z18']; exact z17
  obtain ⟨cc, o7, stc⟩ := own_c q1 p2 p3 b4 X18 hx hZ hby e18 A18
  obtain ⟨_, _, ⟨T30, L30, k30, n30⟩, -, X30, ⟨Lc30, hQ30, l30, y30, z30⟩, st30⟩ := Jvm.LawKit.callS X18 hx (y := (⟨"com/example/halyard/halyard/model/Names", "isXmlChar", "(J)Z"⟩ : MethodName)) hown (mvT hZ (hw _ (List.mem_of_getElem? (i := 14) rfl))) (mvT hZ (hw _ (List.mem_of_getElem? (i := 15) rfl))) (mvT hZ (hw _ (List.mem_of_getElem? (i := 16) rfl))) (mvT hZ (hw _ (List.mem_of_getElem? (i := 17) rfl))) (by decide) (backOf (W := 0) (rm1 l Z a0 hw [] cc h18 n0 z18) hZ (hw _ (List.mem_of_getElem? (i := 17) rfl)) (hw _ (List.mem_of_getElem? (i := 16) rfl)) (by decide) (by decide)) (g := (mkF m 134 #[.val (.long q1), .second, .val (.int p2), .val (.int p3), .val (.ref b4), .val (.long cc), .second, o7] [(.long cc)])) rfl (by rw [hml]; rfl) (argsL := [(.long cc)]) (rest := []) (lenOf (show parseMethodDescriptor "(J)Z" = some ⟨[.long], (some .boolean)⟩ from by decide +kernel) rfl) rfl (by show 2 * 0 + _ ≤ _; exact Nat.le_of_eq rfl) (hb hby at_134) (fun _ _ => ⟨rfl, e18, (by decide : 1 + 0 ≤ _), (by decide : 14 + 0 ≤ _)⟩)
  dsimp only [Pt.U, Pt.locs, Pt.cells, Pt.slots] at X30 l30 y30 z30 st30 hQ30
  subst l30 y30 z30
  obtain ⟨rfl, N30q, e30⟩ := hQ30
  have N30 := Fr.app N18 N30q
  obtain ⟨_, _, ⟨T31, L31, k31, n31⟩, -, X31, ⟨Lc31, hQ31, l31, y31, z31⟩, st31⟩ := Jvm.LawKit.callS X30 hx (y := (⟨"com/example/halyard/halyard/model/NamesIsXmlCharPinLaw", "forbidden", "(J)Z"⟩ : MethodName)) hown (mvT hZ (hw _ (List.mem_of_getElem? (i := 24) rfl))) (mvT hZ (hw _ (List.mem_of_getElem? (i := 25) rfl))) (mvT hZ (hw _ (List.mem_of_getElem? (i := 26) rfl))) (mvT hZ (hw _ (List.mem_of_getElem? (i := 27) rfl))) (by decide) (backOf (W := 1) (rm2 l Z a0 hw [] cc h18 n0 z18) hZ (hw _ (List.mem_of_getElem? (i := 27) rfl)) (hw _ (List.mem_of_getElem? (i := 26) rfl)) (by decide) (by decide)) (g := (mkF m 139 #[.val (.long q1), .second, .val (.int p2), .val (.int p3), .val (.ref b4), .val (.long cc), .second, o7] [(.long cc), (.int (own_xml_f0 cc))])) rfl (by rw [hml]; rfl) (argsL := [(.long cc)]) (rest := [(.int (own_xml_f0 cc))]) (lenOf (show parseMethodDescriptor "(J)Z" = some ⟨[.long], (some .boolean)⟩ from by decide +kernel) rfl) rfl (by show 2 * 0 + _ ≤ _; exact Nat.le_of_eq rfl) (hb hby at_139) (fun _ _ => ⟨rfl, e30, (by decide : 1 + 0 ≤ _), (by decide : 14 + 0 ≤ _)⟩)
  dsimp only [Pt.U, Pt.locs, Pt.cells, Pt.slots] at X31 l31 y31 z31 st31 hQ31
  subst l31 y31 z31
  obtain ⟨rfl, N31q, e31⟩ := hQ31
  have N31 := Fr.app N30 N31q
  obtain ⟨fs, hr, hrun, hended, hW, hsame⟩ := X31.leave (v := some (.int (1 : Int32))) (fun h => by rw [Bd.returns] at h; cases h)
  refine ⟨_, _, pre0 _ ?_, hrun, hended, _, _, rfl, ?_, ⟨_, rfl⟩, hW, hsame.mono (by decide) (by decide)⟩
  · show Steps p.tables e below (s₁.setTop (mkF m 0 #[.val (.long q1), .second, .val (.int p2), .val (.int p3), .unset, .unset, .unset, .unset] [])) _
    refine XS.bipush X0.here hx rfl (hb hby at_0) ?_
    show Steps p.tables e below (s₁.setTop (mkF m 2 #[.val (.long q1), .second, .val (.int p2), .val (.int p3), .unset, .unset, .unset, .unset] [(.int (14 : Int32))])) _
    refine st4 _ ?_
    show Steps p.tables e below (T4.setTop (mkF m 4 #[.val (.long q1), .second, .val (.int p2), .val (.int p3), .unset, .unset, .unset, .unset] [(.ref b4)])) _
    refine XS.dup X4.here hx rfl (hb hby at_4) rfl rfl ?_
    show Steps p.tables e below (T4.setTop (mkF m 5 #[.val (.long q1), .second, .val (.int p2), .val (.int p3), .unset, .unset, .unset, .unset] [(.ref b4), (.ref b4)])) _
    refine XS.iconst X4.here hx rfl (hb hby at_5) ?_
    show Steps p.tables e below (T4.setTop (mkF m 6 #[.val (.long q1), .second, .val (.int p2), .val (.int p3), .unset, .unset, .unset, .unset] [(.int (0 : Int32)), (.ref b4), (.ref b4)])) _
    refine XS.lconst X4.here hx rfl (hb hby at_6) ?_
    show Steps p.tables e below (T4.setTop (mkF m 7 #[.val (.long q1), .second, .val (.int p2), .val (.int p3), .unset, .unset, .unset, .unset] [(.long (0 : Int64)), (.int (0 : Int32)), (.ref b4), (.ref b4)])) _
    refine st5 _ ?_
    show Steps p.tables e below (T5.setTop (mkF m 8 #[.val (.long q1), .second, .val (.int p2), .val (.int p3), .unset, .unset, .unset, .unset] [(.ref b4)])) _
    refine XS.dup X5.here hx rfl (hb hby at_8) rfl rfl ?_
    show Steps p.tables e below (T5.setTop (mkF m 9 #[.val (.long q1), .second, .val (.int p2), .val (.int p3), .unset, .unset, .unset, .unset] [(.ref b4), (.ref b4)])) _
    refine XS.iconst X5.here hx rfl (hb hby at_9) ?_
    show Steps p.tables e below (T5.setTop (mkF m 10 #[.val (.long q1), .second, .val (.int p2), .val (.int p3), .unset, .unset, .unset, .unset] [(.int (1 : Int32)), (.ref b4), (.ref b4)])) _
    refine X5.ldc2Long hx hown (mvT hZ (hw _ (List.mem_of_getElem? (i := 1) rfl))) (g := (mkF m 10 #[.val (.long q1), .second, .val (.int p2), .val (.int p3), .unset, .unset, .unset, .unset] [(.int (1 : Int32)), (.ref b4), (.ref b4)])) rfl (hb hby at_10) _ ?_
    show Steps p.tables e below (T5.setTop (mkF m 13 #[.val (.long q1), .second, .val (.int p2), .val (.int p3), .unset, .unset, .unset, .unset] [(.long (9 : Int64)), (.int (1 : Int32)), (.ref b4), (.ref b4)])) _
    refine st6 _ ?_
    show Steps p.tables e below (T6.setTop (mkF m 14 #[.val (.long q1), .second, .val (.int p2), .val (.int p3), .unset, .unset, .unset, .unset] [(.ref b4)])) _
    refine XS.dup X6.here hx rfl (hb hby at_14) rfl rfl ?_
    show Steps p.tables e below (T6.setTop (mkF m 15 #[.val (.long q1), .second, .val (.int p2), .val (.int p3), .unset, .unset, .unset, .unset] [(.ref b4), (.ref b4)])) _
    refine XS.iconst X6.here hx rfl (hb hby at_15) ?_
    show Steps p.tables e below (T6.setTop (mkF m 16 #[.val (.long q1), .second, .val (.int p2), .val (.int p3), .unset, .unset, .unset, .unset] [(.int (2 : Int32)), (.ref b4), (.ref b4)])) _
    refine X6.ldc2Long hx hown (mvT hZ (hw _ (List.mem_of_getElem? (i := 2) rfl))) (g := (mkF m 16 #[.val (.long q1), .second, .val (.int p2), .val (.int p3), .unset, .unset, .unset, .unset] [(.int (2 : Int32)), (.ref b4), (.ref b4)])) rfl (hb hby at_16) _ ?_
    show Steps p.tables e below (T6.setTop (mkF m 19 #[.val (.long q1), .second, .val (.int p2), .val (.int p3), .unset, .unset, .unset, .unset] [(.long (10 : Int64)), (.int (2 : Int32)), (.ref b4), (.ref b4)])) _
    refine st7 _ ?_
    show Steps p.tables e below (T7.setTop (mkF m 20 #[.val (.long q1), .second, .val (.int p2), .val (.int p3), .unset, .unset, .unset, .unset] [(.ref b4)])) _
    refine XS.dup X7.here hx rfl (hb hby at_20) rfl rfl ?_
    show Steps p.tables e below (T7.setTop (mkF m 21 #[.val (.long q1), .second, .val (.int p2), .val (.int p3), .unset, .unset, .unset, .unset] [(.ref b4), (.ref b4)])) _
    refine XS.iconst X7.here hx rfl (hb hby at_21) ?_
    show Steps p.tables e below (T7.setTop (mkF m 22 #[.val (.long q1), .second, .val (.int p2), .val (.int p3), .unset, .unset, .unset, .unset] [(.int (3 : Int32)), (.ref b4), (.ref b4)])) _
    refine X7.ldc2Long hx hown (mvT hZ (hw _ (List.mem_of_getElem? (i := 3) rfl))) (g := (mkF m 22 #[.val (.long q1), .second, .val (.int p2), .val (.int p3), .unset, .unset, .unset, .unset] [(.int (3 : Int32)), (.ref b4), (.ref b4)])) rfl (hb hby at_22) _ ?_
    show Steps p.tables e below (T7.setTop (mkF m 25 #[.val (.long q1), .second, .val (.int p2), .val (.int p3), .unset, .unset, .unset, .unset] [(.long (13 : Int64)), (.int (3 : Int32)), (.ref b4), (.ref b4)])) _
    refine st8 _ ?_
    show Steps p.tables e below (T8.setTop (mkF m 26 #[.val (.long q1), .second, .val (.int p2), .val (.int p3), .unset, .unset, .unset, .unset] [(.ref b4)])) _
    refine XS.dup X8.here hx rfl (hb hby at_26) rfl rfl ?_
    show Steps p.tables e below (T8.setTop (mkF m 27 #[.val (.long q1), .second, .val (.int p2), .val (.int p3), .unset, .unset, .unset, .unset] [(.ref b4), (.ref b4)])) _
    refine XS.iconst X8.here hx rfl (hb hby at_27) ?_
    show Steps p.tables e below (T8.setTop (mkF m 28 #[.val (.long q1), .second, .val (.int p2), .val (.int p3), .unset, .unset, .unset, .unset] [(.int (4 : Int32)), (.ref b4), (.ref b4)])) _
    refine X8.ldc2Long hx hown (mvT hZ (hw _ (List.mem_of_getElem? (i := 4) rfl))) (g := (mkF m 28 #[.val (.long q1), .second, .val (.int p2), .val (.int p3), .unset, .unset, .unset, .unset] [(.int (4 : Int32)), (.ref b4), (.ref b4)])) rfl (hb hby at_28) _ ?_
    show Steps p.tables e below (T8.setTop (mkF m 31 #[.val (.long q1), .second, .val (.int p2), .val (.int p3), .unset, .unset, .unset, .unset] [(.long (32 : Int64)), (.int (4 : Int32)), (.ref b4), (.ref b4)])) _
    refine st9 _ ?_
    show Steps p.tables e below (T9.setTop (mkF m 32 #[.val (.long q1), .second, .val (.int p2), .val (.int p3), .unset, .unset, .unset, .unset] [(.ref b4)])) _
    refine XS.dup X9.here hx rfl (hb hby at_32) rfl rfl ?_
    show Steps p.tables e below (T9.setTop (mkF m 33 #[.val (.long q1), .second, .val (.int p2), .val (.int p3), .unset, .unset, .unset, .unset] [(.ref b4), (.ref b4)])) _
    refine XS.iconst X9.here hx rfl (hb hby at_33) ?_
    show Steps p.tables e below (T9.setTop (mkF m 34 #[.val (.long q1), .second, .val (.int p2), .val (.int p3), .unset, .unset, .unset, .unset] [(.int (5 : Int32)), (.ref b4), (.ref b4)])) _
    refine X9.ldc2Long hx hown (mvT hZ (hw _ (List.mem_of_getElem? (i := 5) rfl))) (g := (mkF m 34 #[.val (.long q1), .second, .val (.int p2), .val (.int p3), .unset, .unset, .unset, .unset] [(.int (5 : Int32)), (.ref b4), (.ref b4)])) rfl (hb hby at_34) _ ?_
    show Steps p.tables e below (T9.setTop (mkF m 37 #[.val (.long q1), .second, .val (.int p2), .val (.int p3), .unset, .unset, .unset, .unset] [(.long (55295 : Int64)), (.int (5 : Int32)), (.ref b4), (.ref b4)])) _
    refine st10 _ ?_
    show Steps p.tables e below (T10.setTop (mkF m 38 #[.val (.long q1), .second, .val (.int p2), .val (.int p3), .unset, .unset, .unset, .unset] [(.ref b4)])) _
    refine XS.dup X10.here hx rfl (hb hby at_38) rfl rfl ?_
    show Steps p.tables e below (T10.setTop (mkF m 39 #[.val (.long q1), .second, .val (.int p2), .val (.int p3), .unset, .unset, .unset, .unset] [(.ref b4), (.ref b4)])) _
    refine XS.bipush X10.here hx rfl (hb hby at_39) ?_
    show Steps p.tables e below (T10.setTop (mkF m 41 #[.val (.long q1), .second, .val (.int p2), .val (.int p3), .unset, .unset, .unset, .unset] [(.int (6 : Int32)), (.ref b4), (.ref b4)])) _
    refine X10.ldc2Long hx hown (mvT hZ (hw _ (List.mem_of_getElem? (i := 6) rfl))) (g := (mkF m 41 #[.val (.long q1), .second, .val (.int p2), .val (.int p3), .unset, .unset, .unset, .unset] [(.int (6 : Int32)), (.ref b4), (.ref b4)])) rfl (hb hby at_41) _ ?_
    show Steps p.tables e below (T10.setTop (mkF m 44 #[.val (.long q1), .second, .val (.int p2), .val (.int p3), .unset, .unset, .unset, .unset] [(.long (55296 : Int64)), (.int (6 : Int32)), (.ref b4), (.ref b4)])) _
    refine st11 _ ?_
    show Steps p.tables e below (T11.setTop (mkF m 45 #[.val (.long q1), .second, .val (.int p2), .val (.int p3), .unset, .unset, .unset, .unset] [(.ref b4)])) _
    refine XS.dup X11.here hx rfl (hb hby at_45) rfl rfl ?_
    show Steps p.tables e below (T11.setTop (mkF m 46 #[.val (.long q1), .second, .val (.int p2), .val (.int p3), .unset, .unset, .unset, .unset] [(.ref b4), (.ref b4)])) _
    refine XS.bipush X11.here hx rfl (hb hby at_46) ?_
    show Steps p.tables e below (T11.setTop (mkF m 48 #[.val (.long q1), .second, .val (.int p2), .val (.int p3), .unset, .unset, .unset, .unset] [(.int (7 : Int32)), (.ref b4), (.ref b4)])) _
    refine X11.ldc2Long hx hown (mvT hZ (hw _ (List.mem_of_getElem? (i := 7) rfl))) (g := (mkF m 48 #[.val (.long q1), .second, .val (.int p2), .val (.int p3), .unset, .unset, .unset, .unset] [(.int (7 : Int32)), (.ref b4), (.ref b4)])) rfl (hb hby at_48) _ ?_
    show Steps p.tables e below (T11.setTop (mkF m 51 #[.val (.long q1), .second, .val (.int p2), .val (.int p3), .unset, .unset, .unset, .unset] [(.long (57343 : Int64)), (.int (7 : Int32)), (.ref b4), (.ref b4)])) _
    refine st12 _ ?_
    show Steps p.tables e below (T12.setTop (mkF m 52 #[.val (.long q1), .second, .val (.int p2), .val (.int p3), .unset, .unset, .unset, .unset] [(.ref b4)])) _
    refine XS.dup X12.here hx rfl (hb hby at_52) rfl rfl ?_
    show Steps p.tables e below (T12.setTop (mkF m 53 #[.val (.long q1), .second, .val (.int p2), .val (.int p3), .unset, .unset, .unset, .unset] [(.ref b4), (.ref b4)])) _
    refine XS.bipush X12.here hx rfl (hb hby at_53) ?_
    show Steps p.tables e below (T12.setTop (mkF m 55 #[.val (.long q1), .second, .val (.int p2), .val (.int p3), .unset, .unset, .unset, .unset] [(.int (8 : Int32)), (.ref b4), (.ref b4)])) _
    refine X12.ldc2Long hx hown (mvT hZ (hw _ (List.mem_of_getElem? (i := 8) rfl))) (g := (mkF m 55 #[.val (.long q1), .second, .val (.int p2), .val (.int p3), .unset, .unset, .unset, .unset] [(.int (8 : Int32)), (.ref b4), (.ref b4)])) rfl (hb hby at_55) _ ?_
    show Steps p.tables e below (T12.setTop (mkF m 58 #[.val (.long q1), .second, .val (.int p2), .val (.int p3), .unset, .unset, .unset, .unset] [(.long (57344 : Int64)), (.int (8 : Int32)), (.ref b4), (.ref b4)])) _
    refine st13 _ ?_
    show Steps p.tables e below (T13.setTop (mkF m 59 #[.val (.long q1), .second, .val (.int p2), .val (.int p3), .unset, .unset, .unset, .unset] [(.ref b4)])) _
    refine XS.dup X13.here hx rfl (hb hby at_59) rfl rfl ?_
    show Steps p.tables e below (T13.setTop (mkF m 60 #[.val (.long q1), .second, .val (.int p2), .val (.int p3), .unset, .unset, .unset, .unset] [(.ref b4), (.ref b4)])) _
    refine XS.bipush X13.here hx rfl (hb hby at_60) ?_
    show Steps p.tables e below (T13.setTop (mkF m 62 #[.val (.long q1), .second, .val (.int p2), .val (.int p3), .unset, .unset, .unset, .unset] [(.int (9 : Int32)), (.ref b4), (.ref b4)])) _
    refine X13.ldc2Long hx hown (mvT hZ (hw _ (List.mem_of_getElem? (i := 9) rfl))) (g := (mkF m 62 #[.val (.long q1), .second, .val (.int p2), .val (.int p3), .unset, .unset, .unset, .unset] [(.int (9 : Int32)), (.ref b4), (.ref b4)])) rfl (hb hby at_62) _ ?_
    show Steps p.tables e below (T13.setTop (mkF m 65 #[.val (.long q1), .second, .val (.int p2), .val (.int p3), .unset, .unset, .unset, .unset] [(.long (65533 : Int64)), (.int (9 : Int32)), (.ref b4), (.ref b4)])) _
    refine st14 _ ?_
    show Steps p.tables e below (T14.setTop (mkF m 66 #[.val (.long q1), .second, .val (.int p2), .val (.int p3), .unset, .unset, .unset, .unset] [(.ref b4)])) _
    refine XS.dup X14.here hx rfl (hb hby at_66) rfl rfl ?_
    show Steps p.tables e below (T14.setTop (mkF m 67 #[.val (.long q1), .second, .val (.int p2), .val (.int p3), .unset, .unset, .unset, .unset] [(.ref b4), (.ref b4)])) _
    refine XS.bipush X14.here hx rfl (hb hby at_67) ?_
    show Steps p.tables e below (T14.setTop (mkF m 69 #[.val (.long q1), .second, .val (.int p2), .val (.int p3), .unset, .unset, .unset, .unset] [(.int (10 : Int32)), (.ref b4), (.ref b4)])) _
    refine X14.ldc2Long hx hown (mvT hZ (hw _ (List.mem_of_getElem? (i := 10) rfl))) (g := (mkF m 69 #[.val (.long q1), .second, .val (.int p2), .val (.int p3), .unset, .unset, .unset, .unset] [(.int (10 : Int32)), (.ref b4), (.ref b4)])) rfl (hb hby at_69) _ ?_
    show Steps p.tables e below (T14.setTop (mkF m 72 #[.val (.long q1), .second, .val (.int p2), .val (.int p3), .unset, .unset, .unset, .unset] [(.long (65535 : Int64)), (.int (10 : Int32)), (.ref b4), (.ref b4)])) _
    refine st15 _ ?_
    show Steps p.tables e below (T15.setTop (mkF m 73 #[.val (.long q1), .second, .val (.int p2), .val (.int p3), .unset, .unset, .unset, .unset] [(.ref b4)])) _
    refine XS.dup X15.here hx rfl (hb hby at_73) rfl rfl ?_
    show Steps p.tables e below (T15.setTop (mkF m 74 #[.val (.long q1), .second, .val (.int p2), .val (.int p3), .unset, .unset, .unset, .unset] [(.ref b4), (.ref b4)])) _
    refine XS.bipush X15.here hx rfl (hb hby at_74) ?_
    show Steps p.tables e below (T15.setTop (mkF m 76 #[.val (.long q1), .second, .val (.int p2), .val (.int p3), .unset, .unset, .unset, .unset] [(.int (11 : Int32)), (.ref b4), (.ref b4)])) _
    refine X15.ldc2Long hx hown (mvT hZ (hw _ (List.mem_of_getElem? (i := 11) rfl))) (g := (mkF m 76 #[.val (.long q1), .second, .val (.int p2), .val (.int p3), .unset, .unset, .unset, .unset] [(.int (11 : Int32)), (.ref b4), (.ref b4)])) rfl (hb hby at_76) _ ?_
    show Steps p.tables e below (T15.setTop (mkF m 79 #[.val (.long q1), .second, .val (.int p2), .val (.int p3), .unset, .unset, .unset, .unset] [(.long (65536 : Int64)), (.int (11 : Int32)), (.ref b4), (.ref b4)])) _
    refine st16 _ ?_
    show Steps p.tables e below (T16.setTop (mkF m 80 #[.val (.long q1), .second, .val (.int p2), .val (.int p3), .unset, .unset, .unset, .unset] [(.ref b4)])) _
    refine XS.dup X16.here hx rfl (hb hby at_80) rfl rfl ?_
    show Steps p.tables e below (T16.setTop (mkF m 81 #[.val (.long q1), .second, .val (.int p2), .val (.int p3), .unset, .unset, .unset, .unset] [(.ref b4), (.ref b4)])) _
    refine XS.bipush X16.here hx rfl (hb hby at_81) ?_
    show Steps p.tables e below (T16.setTop (mkF m 83 #[.val (.long q1), .second, .val (.int p2), .val (.int p3), .unset, .unset, .unset, .unset] [(.int (12 : Int32)), (.ref b4), (.ref b4)])) _
    refine X16.ldc2Long hx hown (mvT hZ (hw _ (List.mem_of_getElem? (i := 12) rfl))) (g := (mkF m 83 #[.val (.long q1), .second, .val (.int p2), .val (.int p3), .unset, .unset, .unset, .unset] [(.int (12 : Int32)), (.ref b4), (.ref b4)])) rfl (hb hby at_83) _ ?_
    show Steps p.tables e below (T16.setTop (mkF m 86 #[.val (.long q1), .second, .val (.int p2), .val (.int p3), .unset, .unset, .unset, .unset] [(.long (1114111 : Int64)), (.int (12 : Int32)), (.ref b4), (.ref b4)])) _
    refine st17 _ ?_
    show Steps p.tables e below (T17.setTop (mkF m 87 #[.val (.long q1), .second, .val (.int p2), .val (.int p3), .unset, .unset, .unset, .unset] [(.ref b4)])) _
    refine XS.dup X17.here hx rfl (hb hby at_87) rfl rfl ?_
    show Steps p.tables e below (T17.setTop (mkF m 88 #[.val (.long q1), .second, .val (.int p2), .val (.int p3), .unset, .unset, .unset, .unset] [(.ref b4), (.ref b4)])) _
    refine XS.bipush X17.here hx rfl (hb hby at_88) ?_
    show Steps p.tables e below (T17.setTop (mkF m 90 #[.val (.long q1), .second, .val (.int p2), .val (.int p3), .unset, .unset, .unset, .unset] [(.int (13 : Int32)), (.ref b4), (.ref b4)])) _
    refine X17.ldc2Long hx hown (mvT hZ (hw _ (List.mem_of_getElem? (i := 13) rfl))) (g := (mkF m 90 #[.val (.long q1), .second, .val (.int p2), .val (.int p3), .unset, .unset, .unset, .unset] [(.int (13 : Int32)), (.ref b4), (.ref b4)])) rfl (hb hby at_90) _ ?_
    show Steps p.tables e below (T17.setTop (mkF m 93 #[.val (.long q1), .second, .val (.int p2), .val (.int p3), .unset, .unset, .unset, .unset] [(.long (1114112 : Int64)), (.int (13 : Int32)), (.ref b4), (.ref b4)])) _
    refine st18 _ ?_
    show Steps p.tables e below (T18.setTop (mkF m 94 #[.val (.long q1), .second, .val (.int p2), .val (.int p3), .unset, .unset, .unset, .unset] [(.ref b4)])) _
    refine XS.astore X18.here hx rfl (hb hby at_94) rfl rfl (l' := #[.val (.long q1), .second, .val (.int p2), .val (.int p3), .val (.ref b4), .unset, .unset, .unset]) rfl ?_
    show Steps p.tables e below (T18.setTop (mkF m 96 #[.val (.long q1), .second, .val (.int p2), .val (.int p3), .val (.ref b4), .unset, .unset, .unset] [])) _
    refine stc _ ?_
    show Steps p.tables e below (T18.setTop (mkF m 132 #[.val (.long q1), .second, .val (.int p2), .val (.int p3), .val (.ref b4), .val (.long cc), .second, o7] [])) _
    refine XS.lload X18.here hx rfl (hb hby at_132) rfl ?_
    show Steps p.tables e below (T18.setTop (mkF m 134 #[.val (.long q1), .second, .val (.int p2), .val (.int p3), .val (.ref b4), .val (.long cc), .second, o7] [(.long cc)])) _
    refine st30 _ ?_
    show Steps p.tables e below (T30.setTop (mkF m 137 #[.val (.long q1), .second, .val (.int p2), .val (.int p3), .val (.ref b4), .val (.long cc), .second, o7] [(.int (own_xml_f0 cc))])) _
    refine XS.lload X30.here hx rfl (hb hby at_137) rfl ?_
    show Steps p.tables e below (T30.setTop (mkF m 139 #[.val (.long q1), .second, .val (.int p2), .val (.int p3), .val (.ref b4), .val (.long cc), .second, o7] [(.long cc), (.int (own_xml_f0 cc))])) _
    refine st31 _ ?_
    by_cases hf : own_forb_f0 cc = 0
    · have hs : own_xml_f0 cc = 1 := by rw [own_same, if_pos hf]
      show Steps p.tables e below (T31.setTop (mkF m 142 #[.val (.long q1), .second, .val (.int p2), .val (.int p3), .val (.ref b4), .val (.long cc), .second, o7] [(.int (own_forb_f0 cc)), (.int (own_xml_f0 cc))])) _
      refine XS.ifNo X31.here hx rfl (hb hby at_142) rfl ((if0 _ _).trans (teq hf).2) ?_
      show Steps p.tables e below (T31.setTop (mkF m 145 #[.val (.long q1), .second, .val (.int p2), .val (.int p3), .val (.ref b4), .val (.long cc), .second, o7] [(.int (own_xml_f0 cc))])) _
      refine XS.iconst X31.here hx rfl (hb hby at_145) ?_
      show Steps p.tables e below (T31.setTop (mkF m 146 #[.val (.long q1), .second, .val (.int p2), .val (.int p3), .val (.ref b4), .val (.long cc), .second, o7] [(.int (1 : Int32)), (.int (own_xml_f0 cc))])) _
      refine XS.goto X31.here hx rfl (pc0 := 146) (pc' := 150) rfl (hb hby at_146) (by decide) (by decide) ?_
      show Steps p.tables e below (T31.setTop (mkF m 150 #[.val (.long q1), .second, .val (.int p2), .val (.int p3), .val (.ref b4), .val (.long cc), .second, o7] [(.int (1 : Int32)), (.int (own_xml_f0 cc))])) _
      refine XS.icmpNo X31.here hx rfl (hb hby at_150) rfl (teq hs).2 ?_
      show Steps p.tables e below (T31.setTop (mkF m 153 #[.val (.long q1), .second, .val (.int p2), .val (.int p3), .val (.ref b4), .val (.long cc), .second, o7] [])) _
      refine XS.iconst X31.here hx rfl (hb hby at_153) ?_
      show Steps p.tables e below (T31.setTop (mkF m 154 #[.val (.long q1), .second, .val (.int p2), .val (.int p3), .val (.ref b4), .val (.long cc), .second, o7] [(.int (1 : Int32))])) _
      refine XS.goto X31.here hx rfl (pc0 := 154) (pc' := 158) rfl (hb hby at_154) (by decide) (by decide) ?_
      show Steps p.tables e below (T31.setTop (mkF m 158 #[.val (.long q1), .second, .val (.int p2), .val (.int p3), .val (.ref b4), .val (.long cc), .second, o7] [(.int (1 : Int32))])) _
      exact retN X31 hx (t := .boolean) Bd.returns (by simp) (hb hby at_158) hr
    · have hs : own_xml_f0 cc = 0 := by rw [own_same, if_neg hf]
      show Steps p.tables e below (T31.setTop (mkF m 142 #[.val (.long q1), .second, .val (.int p2), .val (.int p3), .val (.ref b4), .val (.long cc), .second, o7] [(.int (own_forb_f0 cc)), (.int (own_xml_f0 cc))])) _
      refine XS.ifYes X31.here hx rfl (pc0 := 142) (pc' := 149) rfl (hb hby at_142) rfl ((if0 _ _).trans (feq hf).2) (by decide) (by decide) ?_
      show Steps p.tables e below (T31.setTop (mkF m 149 #[.val (.long q1), .second, .val (.int p2), .val (.int p3), .val (.ref b4), .val (.long cc), .second, o7] [(.int (own_xml_f0 cc))])) _
      refine XS.iconst X31.here hx rfl (hb hby at_149) ?_
      show Steps p.tables e below (T31.setTop (mkF m 150 #[.val (.long q1), .second, .val (.int p2), .val (.int p3), .val (.ref b4), .val (.long cc), .second, o7] [(.int (0 : Int32)), (.int (own_xml_f0 cc))])) _
      refine XS.icmpNo X31.here hx rfl (hb hby at_150) rfl (teq hs).2 ?_
      show Steps p.tables e below (T31.setTop (mkF m 153 #[.val (.long q1), .second, .val (.int p2), .val (.int p3), .val (.ref b4), .val (.long cc), .second, o7] [])) _
      refine XS.iconst X31.here hx rfl (hb hby at_153) ?_
      show Steps p.tables e below (T31.setTop (mkF m 154 #[.val (.long q1), .second, .val (.int p2), .val (.int p3), .val (.ref b4), .val (.long cc), .second, o7] [(.int (1 : Int32))])) _
      refine XS.goto X31.here hx rfl (pc0 := 154) (pc' := 158) rfl (hb hby at_154) (by decide) (by decide) ?_
      show Steps p.tables e below (T31.setTop (mkF m 158 #[.val (.long q1), .second, .val (.int p2), .val (.int p3), .val (.ref b4), .val (.long cc), .second, o7] [(.int (1 : Int32))])) _
      exact retN X31 hx (t := .boolean) Bd.returns (by simp) (hb hby at_158) hr
  · exact ⟨rfl, N31⟩
set_option maxRecDepth 65536 in
set_option maxHeartbeats 40000000 in
theorem comes_1 {Post : Tables → Env → Array Value → State → Outcome → State → Prop} (hpost : ∀ tb e args s v u, (limb_1_1.after args s (.returned v) u = true ∧ limb_1_2.after args s (.returned v) u = true ∧ True) → FrameEnd s (.returned v) u (Jvm.fieldLocs frame_1_writes args s ++ Jvm.arrayLocs frame_1_arrays args s ++ Jvm.staticLocs frame_1_statics s) 16 128 → Post tb e args s (.returned v) u) :
    ArmFor flags0 classFile x code maxLocals ret World_1 tables_1 room_1 Calls_1 rest_1 Pre_1 Post := by
  intro l hfl _ _ p e ha hc hk s m args below hf hA hF happ hP
  obtain ⟨hcalls, hrest, hpre⟩ := hP
  obtain ⟨-, -, -, hnamed, -, -, -, hat⟩ := (Spec.applies_iff hf).mp happ
  obtain ⟨hg, hn⟩ := and_e (Cond.before_iff.mp (show (Jvm.Cond.and given_1 narrow_1).before args s = true from hpre))
  obtain ⟨gc, gr0⟩ := and_e hg
  obtain ⟨gv0, gr1⟩ := and_e gr0
  obtain ⟨gv1, gr2⟩ := and_e gr1
  obtain ⟨w0, w1, w2, rfl⟩ : ∃ w0 w1 w2 : Value, args = #[w0, w1, w2] := by
    have hs : args.size = 3 := by simpa [Cond.value, given_1] using gc
    obtain ⟨L⟩ := args
    match L, hs with
    | [w0, w1, w2], _ => exact ⟨w0, w1, w2, rfl⟩
  have hw := fun d (hd : d ∈ tables_1) => atoms_spec (ws := Jvm.Cond.code x code maxLocals ret :: tables_1) hat d (List.mem_cons_of_mem _ hd)
  have hfit : Fit s := fun {y c} hc i hi => by
    obtain ⟨ha, rfl⟩ := Array.getElem?_eq_some_iff.mp hc
    have q := List.all_eq_true.mp ((Array.all_eq_true_iff_forall_mem.mp hF) _ (Array.getElem_mem ha)) i (List.mem_range.mpr hi)
    simpa [Array.getElem?_eq_getElem hi] using q
  obtain ⟨i0, ei0⟩ := isL_v gv0
  obtain rfl : w0 = (.long i0) := Option.some.inj ei0
  obtain ⟨i1, ei1⟩ := is_v gv1
  obtain rfl : w1 = (.int i1) := Option.some.inj ei1
  obtain ⟨i2, ei2⟩ := is_v gr2
  obtain rfl : w2 = (.int i2) := Option.some.inj ei2
  obtain ⟨n, o, h1, h2, h3, _, L, rfl, ⟨rfl, N⟩, hq⟩ := rm0 l s _ hw tables_1 i0 i1 i2 s.heap s.heap.size (Nat.le_refl _)  p e ha hc hk s m _ below hf ((Spec.applies_iff_loose hf).mp happ).1 ⟨rfl, State.Warmed39.refl s, rfl⟩ trivial
  refine ⟨n, _, h1, h2, h3, hpost _ _ _ _ _ _ ⟨Cond.after_iff.mpr rfl, Cond.after_iff.mpr (eq_i res_at (Term.int_eval (1)) rfl), trivial⟩ ⟨hq.1, hq.2.1, (hq.2.2.sift fun y hy => Or.inr (N y hy)).mono (by decide) (by decide)⟩⟩
theorem main_1_1 : Claimed_1_1 := comes_1 fun _ _ _ _ _ _ h hF => ⟨h.1, hF⟩
theorem main_1_2 : Claimed_1_2 := comes_1 fun _ _ _ _ _ _ h hF => ⟨h.2.1, hF⟩
end Jvm.Pilot.@@N@@
namespace Jvm.Pilot.@@N@@
open Jvm Jvm.ClassFile Sem Op Lib Jvm.Free Jvm.Stand Jvm.Pilot.@@N@@.Jvm.D
/-! MADE BY PROGRAM (witnessworld.py) out of the Statement's table words and the real class files: 11 classes; the members and pool entries that the words name. The judged class is class 1, her method 2. -/
namespace start1
open Jvm.ClassFile
def u (s : String) : CpInfo := .utf8 (stringToUtf16 s)
/-- a pool by its gaps: so many unusable entries, then the entry; so many at the end -/
def gap : Nat → List CpInfo → List CpInfo
  | 0, r => r
  | n + 1, r => .unusable :: gap n r
def poolList (es : List (Nat × CpInfo)) (last : Nat) : List CpInfo := es.foldr (fun e r => gap e.1 (e.2 :: r)) (gap last [])
def pool (es : List (Nat × CpInfo)) (last : Nat) : Array CpInfo := ⟨poolList es last⟩
def fileOf (pool : Array CpInfo) (this : Nat) (attrs : Array Attribute := #[]) (ms : Array MethodInfo := #[]) (fl : Nat := 33) (sup : Nat := 0) (ifs : Array Nat := #[]) (fds : Array FieldInfo := #[]) : ClassFile where
  minorVersion := 0
  majorVersion := 65
  constantPool := pool
  accessFlags := fl
  thisClass := this
  superClass := sup
  interfaces := ifs
  fields := fds
  methods := ms
  attributes := attrs
def plain (name : String) (sup : Option ClassId) : Class where
  name := name
  kind := .ordinary
  loader := none
  accessFlags := 33
  super := sup
  interfaces := #[]
  cf := none
  fields := #[]
  methods := #[]
  instanceTypes := #[]
  staticTypes := #[]
  resolved := #[]
  callSites := []
  init := .initialized
  statics := none
  mirror := none

def pool0 : Array CpInfo := pool [(5, u "<init>"), (0, u "()V"), (1, .class_ 10), (1, u "java/lang/Object")] 113

def k0m0 : Method := { name := "<init>", desc := "()V", sig := { parameters := [], returnType := none }, accessFlags := 1, code := none }
/-- java/lang/Object -/
def k0 : Class := { plain "java/lang/Object" none with
  accessFlags := 33
  interfaces := #[]
  cf := some (fileOf pool0 8 #[] #[{ accessFlags := 1, nameIndex := 5, descriptorIndex := 6, attributes := #[] }] 33 0 #[] #[])
  fields := #[]
  methods := #[k0m0]
  instanceTypes := #[]
  staticTypes := #[]
  resolved := Array.replicate 124 none
  statics := none }

def pool1 : Array CpInfo := pool [(2, .class_ 4), (1, u "java/lang/Object"), (0, u "<init>"), (0, u "()V"), (0, .long 1114111), (1, .long 32), (1, .long 9), (1, .long 10), (1, .long 13), (1, .long 55296), (1, .long 57343), (1, .long 65534), (1, .long 65535), (1, .long 55295), (1, .long 57344), (1, .long 65533), (1, .long 65536), (1, .long 1114112), (1, .methodref 36 37), (0, .class_ 38), (0, .nameAndType 39 40), (0, u "com/example/halyard/halyard/model/Names"), (0, u "isXmlChar"), (0, u "(J)Z"), (0, .methodref 42 43), (0, .class_ 44), (0, .nameAndType 45 40), (0, u "com/example/halyard/halyard/model/NamesIsXmlCharPinLaw"), (0, u "forbidden"), (3, u "law"), (0, u "(JII)Z")] 4

def k1m0 : Method := { name := "<init>", desc := "()V", sig := { parameters := [], returnType := none }, accessFlags := 1, code := none }
def k1c1 : Code := { maxStack := 4, maxLocals := 2, code := method_2_code, exceptionTable := #[], attributes := #[] }
def k1m1 : Method := { name := "forbidden", desc := "(J)Z", sig := { parameters := [.long], returnType := some .boolean }, accessFlags := 10, code := some k1c1 }
def k1c2 : Code := { maxStack := 5, maxLocals := 8, code := code, exceptionTable := #[], attributes := #[] }
def k1m2 : Method := { name := "law", desc := "(JII)Z", sig := { parameters := [.long, .int, .int], returnType := some .boolean }, accessFlags := 9, code := some k1c2 }
/-- com/example/halyard/halyard/model/NamesIsXmlCharPinLaw -/
def k1 : Class := { plain "com/example/halyard/halyard/model/NamesIsXmlCharPinLaw" (some 0) with
  accessFlags := 49
  interfaces := #[]
  cf := some (fileOf pool1 42 #[] #[{ accessFlags := 1, nameIndex := 5, descriptorIndex := 6, attributes := #[] }, { accessFlags := 10, nameIndex := 45, descriptorIndex := 40, attributes := #[] }, { accessFlags := 9, nameIndex := 49, descriptorIndex := 50, attributes := #[] }] 49 2 #[] #[])
  fields := #[]
  methods := #[k1m0, k1m1, k1m2]
  instanceTypes := #[]
  staticTypes := #[]
  resolved := Array.replicate 55 none
  statics := none }

def pool2 : Array CpInfo := pool [(2, .class_ 4), (1, u "java/lang/Object"), (0, u "<init>"), (0, u "()V"), (23, .class_ 32), (1, u "com/example/halyard/halyard/model/Names"), (60, .long 9), (1, .long 10), (1, .long 13), (1, .long 32), (1, .long 55295), (1, .long 57344), (1, .long 65533), (1, .long 65536), (1, .long 1114111), (11, u "isXmlChar"), (0, u "(J)Z")] 23

def k2m0 : Method := { name := "<init>", desc := "()V", sig := { parameters := [], returnType := none }, accessFlags := 2, code := none }
def k2c1 : Code := { maxStack := 4, maxLocals := 2, code := prog_89_method_8_code, exceptionTable := #[], attributes := #[] }
def k2m1 : Method := { name := "isXmlChar", desc := "(J)Z", sig := { parameters := [.long], returnType := some .boolean }, accessFlags := 9, code := some k2c1 }
/-- com/example/halyard/halyard/model/Names -/
def k2 : Class := { plain "com/example/halyard/halyard/model/Names" (some 0) with
  accessFlags := 49
  interfaces := #[]
  cf := some (fileOf pool2 30 #[] #[{ accessFlags := 2, nameIndex := 5, descriptorIndex := 6, attributes := #[] }, { accessFlags := 9, nameIndex := 121, descriptorIndex := 122, attributes := #[] }] 49 2 #[] #[])
  fields := #[]
  methods := #[k2m0, k2m1]
  instanceTypes := #[]
  staticTypes := #[]
  resolved := Array.replicate 146 none
  statics := none }

def pool3 : Array CpInfo := pool [(1, u "java/lang/Cloneable"), (0, .class_ 1), (0, u "java/lang/Object"), (0, .class_ 3)] 3

/-- java/lang/Cloneable -/
def k3 : Class := { plain "java/lang/Cloneable" (some 0) with
  accessFlags := 1537
  interfaces := #[]
  cf := some (fileOf pool3 2 #[] #[] 1537 4 #[] #[])
  fields := #[]
  methods := #[]
  instanceTypes := #[]
  staticTypes := #[]
  resolved := Array.replicate 8 none
  statics := none }

def pool4 : Array CpInfo := pool [(1, u "java/io/Serializable"), (0, .class_ 1), (0, u "java/lang/Object"), (0, .class_ 3)] 3

/-- java/io/Serializable -/
def k4 : Class := { plain "java/io/Serializable" (some 0) with
  accessFlags := 1537
  interfaces := #[]
  cf := some (fileOf pool4 2 #[] #[] 1537 4 #[] #[])
  fields := #[]
  methods := #[]
  instanceTypes := #[]
  staticTypes := #[]
  resolved := Array.replicate 8 none
  statics := none }

/-- the primitive byte -/
def k5 : Class := { plain "byte" none with kind := .primitive 'B', accessFlags := 0x411 }
/-- [B -/
def k6 : Class := { plain "[B" (some 0) with kind := .array 5 .byte, interfaces := #[3, 4], accessFlags := 1041 }

/-- the primitive int -/
def k7 : Class := { plain "int" none with kind := .primitive 'I', accessFlags := 0x411 }
/-- [I -/
def k8 : Class := { plain "[I" (some 0) with kind := .array 7 .int, interfaces := #[3, 4], accessFlags := 1041 }

/-- the primitive long -/
def k9 : Class := { plain "long" none with kind := .primitive 'J', accessFlags := 0x411 }
/-- [J -/
def k10 : Class := { plain "[J" (some 0) with kind := .array 9 .long, interfaces := #[3, 4], accessFlags := 1041 }

def heap : Heap := #[]
def classes : Array Class := #[k0, k1, k2, k3, k4, k5, k6, k7, k8, k9, k10]
def interned : List (Array UInt16 × Addr) := []
def slotsUsed : Nat := 0
def theMethod : MethodId := ⟨1, 2⟩
def args0 : Array Value := #[.long 5, .int 5, .int 7]
def aboutOver (below : List Frame) : State where
  vm := { classes := classes, interned := interned.toArray }
  heap := heap
  slotsUsed := slotsUsed
  threads := #[{ frames := .invoking theMethod args0 :: below }]
def below0 : List Frame := [.native { method := ⟨0, 0⟩, args := #[] }]
def about1 : State := aboutOver below0
def p0 : Program := .bare "" "" ""
def e0 : Env := launch0.env 0 0 0
theorem w_frames : about1.frames = Frame.invoking theMethod args0 :: below0 := rfl
set_option maxRecDepth 65536 in
theorem w_args : argsFit about1.vm theMethod args0 = true := by decide +kernel
set_option maxRecDepth 65536 in
theorem w_heap : heapFits about1 = true := by decide +kernel
set_option maxRecDepth 65536 in
theorem w_runnable : about1.curStatus? = some .runnable := by decide +kernel
set_option maxRecDepth 65536 in
theorem w_alone : about1.alone = true := by decide +kernel
set_option maxRecDepth 65536 in
theorem w_named : about1.methodNamed? x = some theMethod := by decide +kernel
set_option maxRecDepth 65536 in
theorem w_hears : about1.hears theMethod below0 = true := by decide +kernel
set_option maxRecDepth 65536 in
theorem w_ripe : about1.ripe theMethod args0 below0 = true := by decide +kernel
theorem w_running : about1.status = .running := rfl
set_option maxRecDepth 65536 in
theorem w_room : about1.hasRoom e0.platform room_1 = true :=
  launch0.hasRoom_least _ room_1 (by decide +kernel) (by decide +kernel) (by decide +kernel) (by decide +kernel) (by decide +kernel) (by decide +kernel)
theorem allAtoms_all (ts : List Jvm.Cond) (a : Array Jvm.Value) (st : Jvm.State) : (allAtoms ts).before a st = ts.all (fun c => c.before a st) := by
  induction ts with
  | nil => rfl
  | cons c t ih =>
    show (Jvm.Cond.and c (allAtoms t)).before a st = _
    rw [Jvm.Cond.before_and, ih, List.all_cons]
def words1 : List Jvm.Cond := Jvm.Cond.code x code maxLocals ret :: tables_1
/-- a 'code' word, met by the world's own term for the bytes: nothing is compared byte by byte -/
theorem code_word {y : MethodName} {bytes : ByteArray} {mx : Nat} {rt : Option FieldType} {a : Array Value} {s : State} {m : MethodId} {meth : Method} {c : Code} (h1 : s.methodNamed? y = some m) (h2 : s.vm.method? m = some meth) (h3 : meth.code = some c) (h4 : c.code = bytes)
    (h5 : (c.maxLocals == mx && c.exceptionTable.isEmpty && decide (c.maxStack ≤ mostOperands) && decide (meth.sig.returnType = rt) && !meth.locks && decide (parseMethodDescriptor y.desc = some meth.sig)) = true) : (Jvm.Cond.code y bytes mx rt).before a s = true := by
  simp only [Bool.and_eq_true, beq_iff_eq, Bool.not_eq_true', decide_eq_true_eq] at h5
  obtain ⟨⟨⟨⟨⟨g1, g2⟩, g3⟩, g4⟩, g5⟩, g6⟩ := h5
  simp [Cond.before, Cond.holds, Cond.value, h1, h2, h3, h4, g1, g2, g3, g4, g5, g6]
def isCode : Jvm.Cond → Bool
  | .code _ _ _ _ => true
  | _ => false
theorem all_split {L : List Jvm.Cond} {P : Jvm.Cond → Bool} (h1 : L.all (fun c => isCode c || P c) = true) (h2 : ∀ c ∈ L.filter isCode, P c = true) : L.all P = true := by
  refine List.all_eq_true.mpr fun c hc => ?_
  have h := List.all_eq_true.mp h1 c hc
  rcases Bool.eq_false_or_eq_true (isCode c) with hi | hi
  · exact h2 c (List.mem_filter.mpr ⟨hc, hi⟩)
  · simpa [hi] using h
set_option maxRecDepth 65536 in
theorem w_c0 : (Jvm.Cond.code x code maxLocals ret).before args0 about1 = true := code_word (m := ⟨1, 2⟩) (meth := k1m2) (c := k1c2) (by decide +kernel) rfl rfl rfl (by decide +kernel)
set_option maxRecDepth 65536 in
theorem w_c1 : (Jvm.Cond.code ({ cls := "com/example/halyard/halyard/model/Names", name := "isXmlChar", desc := "(J)Z" } : Jvm.MethodName) prog_89_method_8_code (2 : Nat) (Option.some Jvm.ClassFile.FieldType.boolean)).before args0 about1 = true := code_word (m := ⟨2, 1⟩) (meth := k2m1) (c := k2c1) (by decide +kernel) rfl rfl rfl (by decide +kernel)
set_option maxRecDepth 65536 in
theorem w_c2 : (Jvm.Cond.code ({ cls := "com/example/halyard/halyard/model/NamesIsXmlCharPinLaw", name := "forbidden", desc := "(J)Z" } : Jvm.MethodName) method_2_code (2 : Nat) (Option.some Jvm.ClassFile.FieldType.boolean)).before args0 about1 = true := code_word (m := ⟨1, 1⟩) (meth := k1m1) (c := k1c1) (by decide +kernel) rfl rfl rfl (by decide +kernel)
def codes1 : List Jvm.Cond := [Jvm.Cond.code x code maxLocals ret, Jvm.Cond.code ({ cls := "com/example/halyard/halyard/model/Names", name := "isXmlChar", desc := "(J)Z" } : Jvm.MethodName) prog_89_method_8_code (2 : Nat) (Option.some Jvm.ClassFile.FieldType.boolean), Jvm.Cond.code ({ cls := "com/example/halyard/halyard/model/NamesIsXmlCharPinLaw", name := "forbidden", desc := "(J)Z" } : Jvm.MethodName) method_2_code (2 : Nat) (Option.some Jvm.ClassFile.FieldType.boolean)]
set_option maxRecDepth 65536 in
theorem codes_eq : words1.filter isCode = codes1 := rfl
theorem w_codes : ∀ c ∈ words1.filter isCode, c.before args0 about1 = true := by
  rw [codes_eq]
  intro c hc
  simp only [codes1, List.mem_cons, List.not_mem_nil, or_false] at hc
  rcases hc with rfl | rfl | rfl
  · exact w_c0
  · exact w_c1
  · exact w_c2
set_option maxRecDepth 65536 in
theorem w_t1 : (words1.take 24).all (fun c => isCode c || c.before args0 about1) = true := by decide +kernel
set_option maxRecDepth 65536 in
theorem w_t2 : (words1.drop 24).all (fun c => isCode c || c.before args0 about1) = true := by decide +kernel
theorem w_tables : (allAtoms (Jvm.Cond.code x code maxLocals ret :: tables_1)).before args0 about1 = true := by
  rw [allAtoms_all]
  show words1.all (fun c => c.before args0 about1) = true
  refine all_split ?_ w_codes
  rw [← List.take_append_drop 24 words1, List.all_append, w_t1, w_t2]
  rfl
set_option maxRecDepth 65536 in
theorem w_case : (Jvm.Cond.and given_1 narrow_1).before args0 about1 = true := by decide +kernel
theorem w_applies : (headSpec (Jvm.Cond.code x code maxLocals ret :: tables_1) room_1).applies x e0.platform about1 = true :=
  (Spec.applies_iff w_frames).mpr ⟨w_running, w_runnable, w_alone, w_named, w_hears, w_ripe, w_room, w_tables⟩
theorem atStart : AtStart classFile x code maxLocals ret World_1 tables_1 room_1 Calls_1 rest_1 Pre_1 launch0 p0 e0 about1 theMethod args0 below0 :=
  ⟨lists_1, trivial, launch0.admits_env _ _ _, launch0.least_env, fairChoices_fair.cas, fairChoices_fair.clock, w_frames, w_args, w_heap, w_applies, trivial, trivial, w_case⟩
end start1
theorem witness_1 : WitnessClaimed_1 := ⟨start1.p0, start1.e0, start1.about1, start1.theMethod, start1.args0, start1.below0, start1.atStart⟩
end Jvm.Pilot.@@N@@
