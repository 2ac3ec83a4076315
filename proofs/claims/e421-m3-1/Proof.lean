import JvmDerived
import JvmDerived.Pilot.@@N@@Statement
import JvmDerived.Pilot.@@N@@Code
set_option linter.unusedVariables false
set_option linter.unusedSimpArgs false
namespace Jvm.RoadKit
open Sem ClassFile Op Lib Jvm.Stand Jvm.Free Jvm.LawKit
section New
variable {p : Program} {l : Launch} {e : Env} {R : Room} {s : State} {m : MethodId} {args : Array Value} {below : List Frame} {meth : Method} {c : Code} {T : State} {locs : List Loc} {cells slots : Nat}
theorem retI (X : Stand p l e R s m args below meth c T locs cells slots) (hx : p.tables.exec = Jvm.exec) {pc : Nat} {Ls : Array Slot} {z : Int32} {rest : List Value} (hret : meth.sig.returnType = some .int) (hd : decode c.code pc = .ok (.ireturn, 1)) {fs : List Frame}
    (hl : ∀ (f : JFrame) (acts : List Action), f.method = m → f.locked = none → f.entered = [] → (doReturn e (T.setTop f) acts (some (.int z))).1 = T.setFrames fs) : Steps p.tables e below (T.setTop (mkF m pc Ls (.int z :: rest))) (T.setFrames fs) := by
  have hm' : T.vm.method? m = some meth := X.method'
  have hn : narrow .int (.int z) = .int z := rfl
  show Steps p.tables e below (T.setTop { method := m, pc := pc, locals := Ls, stack := _ :: rest, locked := none }) _
  jvm_step X.here [X.here.top, hx, hd, hm', hret, hn]
  first | (intro acts; rw [hl _ acts rfl rfl rfl]) | rw [hl _ _ rfl rfl rfl]
  exact Steps.refl _
end New
end Jvm.RoadKit
namespace Jvm.Pilot.@@N@@
open Jvm Jvm.ClassFile Sem Op Lib Jvm.Free Jvm.Stand Jvm.LawKit Jvm.RoadKit Bundle Jvm.Pilot.@@N@@.Jvm.D
theorem own_nar {z : Int32} (h : z = 0 ∨ z = 1) : nar .boolean z = z := by rcases h with rfl | rfl <;> rfl
theorem d1_0 : decode prog_191_method_43_code 0 = .ok (.iload_n 0, 1) := by decide +kernel
theorem d1_1 : decode prog_191_method_43_code 1 = .ok (.bipush 32, 2) := by decide +kernel
theorem d1_3 : decode prog_191_method_43_code 3 = .ok (.if_icmp .eq 33, 3) := by decide +kernel
theorem d1_6 : decode prog_191_method_43_code 6 = .ok (.iload_n 0, 1) := by decide +kernel
theorem d1_7 : decode prog_191_method_43_code 7 = .ok (.bipush 9, 2) := by decide +kernel
theorem d1_9 : decode prog_191_method_43_code 9 = .ok (.if_icmp .eq 27, 3) := by decide +kernel
theorem d1_12 : decode prog_191_method_43_code 12 = .ok (.iload_n 0, 1) := by decide +kernel
theorem d1_13 : decode prog_191_method_43_code 13 = .ok (.bipush 10, 2) := by decide +kernel
theorem d1_15 : decode prog_191_method_43_code 15 = .ok (.if_icmp .eq 21, 3) := by decide +kernel
theorem d1_18 : decode prog_191_method_43_code 18 = .ok (.iload_n 0, 1) := by decide +kernel
theorem d1_19 : decode prog_191_method_43_code 19 = .ok (.bipush 11, 2) := by decide +kernel
theorem d1_21 : decode prog_191_method_43_code 21 = .ok (.if_icmp .eq 15, 3) := by decide +kernel
theorem d1_24 : decode prog_191_method_43_code 24 = .ok (.iload_n 0, 1) := by decide +kernel
theorem d1_25 : decode prog_191_method_43_code 25 = .ok (.bipush 12, 2) := by decide +kernel
theorem d1_27 : decode prog_191_method_43_code 27 = .ok (.if_icmp .eq 9, 3) := by decide +kernel
theorem d1_30 : decode prog_191_method_43_code 30 = .ok (.iload_n 0, 1) := by decide +kernel
theorem d1_31 : decode prog_191_method_43_code 31 = .ok (.bipush 13, 2) := by decide +kernel
theorem d1_33 : decode prog_191_method_43_code 33 = .ok (.if_icmp .ne 7, 3) := by decide +kernel
theorem d1_36 : decode prog_191_method_43_code 36 = .ok (.iconst 1, 1) := by decide +kernel
theorem d1_37 : decode prog_191_method_43_code 37 = .ok (.goto 4, 3) := by decide +kernel
theorem d1_40 : decode prog_191_method_43_code 40 = .ok (.iconst 0, 1) := by decide +kernel
theorem d1_41 : decode prog_191_method_43_code 41 = .ok (.ireturn, 1) := by decide +kernel
def own_blank_f0 (q1 : Int32) : Int32 := (if q1 = (32 : Int32) then (1 : Int32) else (if q1 = (9 : Int32) then (1 : Int32) else (if q1 = (10 : Int32) then (1 : Int32) else (if q1 = (11 : Int32) then (1 : Int32) else (if q1 = (12 : Int32) then (1 : Int32) else (if q1 = (13 : Int32) then (1 : Int32) else (0 : Int32)))))))
set_option maxRecDepth 65536 in
set_option maxHeartbeats 40000000 in
theorem own_blank_b0 {p : Program} {l : Launch} {e : Env} {R : Room} {s : State} {m : MethodId} {args : Array Value} {below : List Frame} {meth : Method} {c : Code} {T0 : State} {locs : List Loc} {cells slots : Nat} {Z : State} {a0 : Array Value} {h0 : Heap} (q1 : Int32)
    (X0 : Stand p l e R s m args below meth c T0 locs cells slots) (hx : p.tables.exec = Jvm.exec) (hZ : Z.Warmed39 s.vm) (hw : ∀ d ∈ tables_1, d.before a0 Z = true) (hby : c.code = prog_191_method_43_code) (hml : c.maxLocals = 1) (hown : s.vm.findClass "com/example/intact_keys/intactkeys/model/ValueType" = some m.cls) (e0 : T0.heap = h0)  (F : Int32) (hF : F = own_blank_f0 q1 ) :
    ∃ (T' : State) (pc' : Nat) (Ls : Array Slot), Stand p l e R s m args below meth c T' locs cells slots ∧ T'.heap = h0 ∧ decode c.code pc' = .ok (.ireturn, 1) ∧
      ∀ target, Steps p.tables e below (T'.setTop (mkF m pc' Ls [.int F])) target → Steps p.tables e below (T0.setTop (mkF m 0 #[.val (.int q1)] [])) target := by
  by_cases hc3_1 : q1 = (32 : Int32)
  · have hv : F = (1 : Int32) := (hF.trans (by rw [own_blank_f0, if_pos hc3_1]))
    subst hv
    refine ⟨T0, 41, #[.val (.int q1)], X0, e0, (hb hby d1_41), fun target kt => ?_⟩
    show Steps p.tables e below (T0.setTop (mkF m 0 #[.val (.int q1)] [])) _
    refine XS.iloadN X0.here hx rfl (hb hby d1_0) rfl ?_
    show Steps p.tables e below (T0.setTop (mkF m 1 #[.val (.int q1)] [(.int q1)])) _
    refine XS.bipush X0.here hx rfl (hb hby d1_1) ?_
    show Steps p.tables e below (T0.setTop (mkF m 3 #[.val (.int q1)] [(.int (32 : Int32)), (.int q1)])) _
    refine XS.icmpYes X0.here hx rfl (pc0 := 3) (pc' := 36) rfl (hb hby d1_3) rfl (teq hc3_1).1 (by decide) (by decide) ?_
    show Steps p.tables e below (T0.setTop (mkF m 36 #[.val (.int q1)] [])) _
    refine XS.iconst X0.here hx rfl (hb hby d1_36) ?_
    show Steps p.tables e below (T0.setTop (mkF m 37 #[.val (.int q1)] [(.int (1 : Int32))])) _
    refine XS.goto X0.here hx rfl (pc0 := 37) (pc' := 41) rfl (hb hby d1_37) (by decide) (by decide) ?_
    show Steps p.tables e below (T0.setTop (mkF m 41 #[.val (.int q1)] [(.int (1 : Int32))])) _
    exact kt
  · by_cases hc9_2 : q1 = (9 : Int32)
    · have hv : F = (1 : Int32) := (hF.trans (by rw [own_blank_f0, if_neg hc3_1, if_pos hc9_2]))
      subst hv
      refine ⟨T0, 41, #[.val (.int q1)], X0, e0, (hb hby d1_41), fun target kt => ?_⟩
      show Steps p.tables e below (T0.setTop (mkF m 0 #[.val (.int q1)] [])) _
      refine XS.iloadN X0.here hx rfl (hb hby d1_0) rfl ?_
      show Steps p.tables e below (T0.setTop (mkF m 1 #[.val (.int q1)] [(.int q1)])) _
      refine XS.bipush X0.here hx rfl (hb hby d1_1) ?_
      show Steps p.tables e below (T0.setTop (mkF m 3 #[.val (.int q1)] [(.int (32 : Int32)), (.int q1)])) _
      refine XS.icmpNo X0.here hx rfl (hb hby d1_3) rfl (feq hc3_1).1 ?_
      show Steps p.tables e below (T0.setTop (mkF m 6 #[.val (.int q1)] [])) _
      refine XS.iloadN X0.here hx rfl (hb hby d1_6) rfl ?_
      show Steps p.tables e below (T0.setTop (mkF m 7 #[.val (.int q1)] [(.int q1)])) _
      refine XS.bipush X0.here hx rfl (hb hby d1_7) ?_
      show Steps p.tables e below (T0.setTop (mkF m 9 #[.val (.int q1)] [(.int (9 : Int32)), (.int q1)])) _
      refine XS.icmpYes X0.here hx rfl (pc0 := 9) (pc' := 36) rfl (hb hby d1_9) rfl (teq hc9_2).1 (by decide) (by decide) ?_
      show Steps p.tables e below (T0.setTop (mkF m 36 #[.val (.int q1)] [])) _
      refine XS.iconst X0.here hx rfl (hb hby d1_36) ?_
      show Steps p.tables e below (T0.setTop (mkF m 37 #[.val (.int q1)] [(.int (1 : Int32))])) _
      refine XS.goto X0.here hx rfl (pc0 := 37) (pc' := 41) rfl (hb hby d1_37) (by decide) (by decide) ?_
      show Steps p.tables e below (T0.setTop (mkF m 41 #[.val (.int q1)] [(.int (1 : Int32))])) _
      exact kt
    · by_cases hc15_3 : q1 = (10 : Int32)
      · have hv : F = (1 : Int32) := (hF.trans (by rw [own_blank_f0, if_neg hc3_1, if_neg hc9_2, if_pos hc15_3]))
        subst hv
        refine ⟨T0, 41, #[.val (.int q1)], X0, e0, (hb hby d1_41), fun target kt => ?_⟩
        show Steps p.tables e below (T0.setTop (mkF m 0 #[.val (.int q1)] [])) _
        refine XS.iloadN X0.here hx rfl (hb hby d1_0) rfl ?_
        show Steps p.tables e below (T0.setTop (mkF m 1 #[.val (.int q1)] [(.int q1)])) _
        refine XS.bipush X0.here hx rfl (hb hby d1_1) ?_
        show Steps p.tables e below (T0.setTop (mkF m 3 #[.val (.int q1)] [(.int (32 : Int32)), (.int q1)])) _
        refine XS.icmpNo X0.here hx rfl (hb hby d1_3) rfl (feq hc3_1).1 ?_
        show Steps p.tables e below (T0.setTop (mkF m 6 #[.val (.int q1)] [])) _
        refine XS.iloadN X0.here hx rfl (hb hby d1_6) rfl ?_
        show Steps p.tables e below (T0.setTop (mkF m 7 #[.val (.int q1)] [(.int q1)])) _
        refine XS.bipush X0.here hx rfl (hb hby d1_7) ?_
        show Steps p.tables e below (T0.setTop (mkF m 9 #[.val (.int q1)] [(.int (9 : Int32)), (.int q1)])) _
        refine XS.icmpNo X0.here hx rfl (hb hby d1_9) rfl (feq hc9_2).1 ?_
        show Steps p.tables e below (T0.setTop (mkF m 12 #[.val (.int q1)] [])) _
        refine XS.iloadN X0.here hx rfl (hb hby d1_12) rfl ?_
        show Steps p.tables e below (T0.setTop (mkF m 13 #[.val (.int q1)] [(.int q1)])) _
        refine XS.bipush X0.here hx rfl (hb hby d1_13) ?_
        show Steps p.tables e below (T0.setTop (mkF m 15 #[.val (.int q1)] [(.int (10 : Int32)), (.int q1)])) _
        refine XS.icmpYes X0.here hx rfl (pc0 := 15) (pc' := 36) rfl (hb hby d1_15) rfl (teq hc15_3).1 (by decide) (by decide) ?_
        show Steps p.tables e below (T0.setTop (mkF m 36 #[.val (.int q1)] [])) _
        refine XS.iconst X0.here hx rfl (hb hby d1_36) ?_
        show Steps p.tables e below (T0.setTop (mkF m 37 #[.val (.int q1)] [(.int (1 : Int32))])) _
        refine XS.goto X0.here hx rfl (pc0 := 37) (pc' := 41) rfl (hb hby d1_37) (by decide) (by decide) ?_
        show Steps p.tables e below (T0.setTop (mkF m 41 #[.val (.int q1)] [(.int (1 : Int32))])) _
        exact kt
      · by_cases hc21_4 : q1 = (11 : Int32)
        · have hv : F = (1 : Int32) := (hF.trans (by rw [own_blank_f0, if_neg hc3_1, if_neg hc9_2, if_neg hc15_3, if_pos hc21_4]))
          subst hv
          refine ⟨T0, 41, #[.val (.int q1)], X0, e0, (hb hby d1_41), fun target kt => ?_⟩
          show Steps p.tables e below (T0.setTop (mkF m 0 #[.val (.int q1)] [])) _
          refine XS.iloadN X0.here hx rfl (hb hby d1_0) rfl ?_
          show Steps p.tables e below (T0.setTop (mkF m 1 #[.val (.int q1)] [(.int q1)])) _
          refine XS.bipush X0.here hx rfl (hb hby d1_1) ?_
          show Steps p.tables e below (T0.setTop (mkF m 3 #[.val (.int q1)] [(.int (32 : Int32)), (.int q1)])) _
          refine XS.icmpNo X0.here hx rfl (hb hby d1_3) rfl (feq hc3_1).1 ?_
          show Steps p.tables e below (T0.setTop (mkF m 6 #[.val (.int q1)] [])) _
          refine XS.iloadN X0.here hx rfl (hb hby d1_6) rfl ?_
          show Steps p.tables e below (T0.setTop (mkF m 7 #[.val (.int q1)] [(.int q1)])) _
          refine XS.bipush X0.here hx rfl (hb hby d1_7) ?_
          show Steps p.tables e below (T0.setTop (mkF m 9 #[.val (.int q1)] [(.int (9 : Int32)), (.int q1)])) _
          refine XS.icmpNo X0.here hx rfl (hb hby d1_9) rfl (feq hc9_2).1 ?_
          show Steps p.tables e below (T0.setTop (mkF m 12 #[.val (.int q1)] [])) _
          refine XS.iloadN X0.here hx rfl (hb hby d1_12) rfl ?_
          show Steps p.tables e below (T0.setTop (mkF m 13 #[.val (.int q1)] [(.int q1)])) _
          refine XS.bipush X0.here hx rfl (hb hby d1_13) ?_
          show Steps p.tables e below (T0.setTop (mkF m 15 #[.val (.int q1)] [(.int (10 : Int32)), (.int q1)])) _
          refine XS.icmpNo X0.here hx rfl (hb hby d1_15) rfl (feq hc15_3).1 ?_
          show Steps p.tables e below (T0.setTop (mkF m 18 #[.val (.int q1)] [])) _
          refine XS.iloadN X0.here hx rfl (hb hby d1_18) rfl ?_
          show Steps p.tables e below (T0.setTop (mkF m 19 #[.val (.int q1)] [(.int q1)])) _
          refine XS.bipush X0.here hx rfl (hb hby d1_19) ?_
          show Steps p.tables e below (T0.setTop (mkF m 21 #[.val (.int q1)] [(.int (11 : Int32)), (.int q1)])) _
          refine XS.icmpYes X0.here hx rfl (pc0 := 21) (pc' := 36) rfl (hb hby d1_21) rfl (teq hc21_4).1 (by decide) (by decide) ?_
          show Steps p.tables e below (T0.setTop (mkF m 36 #[.val (.int q1)] [])) _
          refine XS.iconst X0.here hx rfl (hb hby d1_36) ?_
          show Steps p.tables e below (T0.setTop (mkF m 37 #[.val (.int q1)] [(.int (1 : Int32))])) _
          refine XS.goto X0.here hx rfl (pc0 := 37) (pc' := 41) rfl (hb hby d1_37) (by decide) (by decide) ?_
          show Steps p.tables e below (T0.setTop (mkF m 41 #[.val (.int q1)] [(.int (1 : Int32))])) _
          exact kt
        · by_cases hc27_5 : q1 = (12 : Int32)
          · have hv : F = (1 : Int32) := (hF.trans (by rw [own_blank_f0, if_neg hc3_1, if_neg hc9_2, if_neg hc15_3, if_neg hc21_4, if_pos hc27_5]))
            subst hv
            refine ⟨T0, 41, #[.val (.int q1)], X0, e0, (hb hby d1_41), fun target kt => ?_⟩
            show Steps p.tables e below (T0.setTop (mkF m 0 #[.val (.int q1)] [])) _
            refine XS.iloadN X0.here hx rfl (hb hby d1_0) rfl ?_
            show Steps p.tables e below (T0.setTop (mkF m 1 #[.val (.int q1)] [(.int q1)])) _
            refine XS.bipush X0.here hx rfl (hb hby d1_1) ?_
            show Steps p.tables e below (T0.setTop (mkF m 3 #[.val (.int q1)] [(.int (32 : Int32)), (.int q1)])) _
            refine XS.icmpNo X0.here hx rfl (hb hby d1_3) rfl (feq hc3_1).1 ?_
            show Steps p.tables e below (T0.setTop (mkF m 6 #[.val (.int q1)] [])) _
            refine XS.iloadN X0.here hx rfl (hb hby d1_6) rfl ?_
            show Steps p.tables e below (T0.setTop (mkF m 7 #[.val (.int q1)] [(.int q1)])) _
            refine XS.bipush X0.here hx rfl (hb hby d1_7) ?_
            show Steps p.tables e below (T0.setTop (mkF m 9 #[.val (.int q1)] [(.int (9 : Int32)), (.int q1)])) _
            refine XS.icmpNo X0.here hx rfl (hb hby d1_9) rfl (feq hc9_2).1 ?_
            show Steps p.tables e below (T0.setTop (mkF m 12 #[.val (.int q1)] [])) _
            refine XS.iloadN X0.here hx rfl (hb hby d1_12) rfl ?_
            show Steps p.tables e below (T0.setTop (mkF m 13 #[.val (.int q1)] [(.int q1)])) _
            refine XS.bipush X0.here hx rfl (hb hby d1_13) ?_
            show Steps p.tables e below (T0.setTop (mkF m 15 #[.val (.int q1)] [(.int (10 : Int32)), (.int q1)])) _
            refine XS.icmpNo X0.here hx rfl (hb hby d1_15) rfl (feq hc15_3).1 ?_
            show Steps p.tables e below (T0.setTop (mkF m 18 #[.val (.int q1)] [])) _
            refine XS.iloadN X0.here hx rfl (hb hby d1_18) rfl ?_
            show Steps p.tables e below (T0.setTop (mkF m 19 #[.val (.int q1)] [(.int q1)])) _
            refine XS.bipush X0.here hx rfl (hb hby d1_19) ?_
            show Steps p.tables e below (T0.setTop (mkF m 21 #[.val (.int q1)] [(.int (11 : Int32)), (.int q1)])) _
            refine XS.icmpNo X0.here hx rfl (hb hby d1_21) rfl (feq hc21_4).1 ?_
            show Steps p.tables e below (T0.setTop (mkF m 24 #[.val (.int q1)] [])) _
            refine XS.iloadN X0.here hx rfl (hb hby d1_24) rfl ?_
            show Steps p.tables e below (T0.setTop (mkF m 25 #[.val (.int q1)] [(.int q1)])) _
            refine XS.bipush X0.here hx rfl (hb hby d1_25) ?_
            show Steps p.tables e below (T0.setTop (mkF m 27 #[.val (.int q1)] [(.int (12 : Int32)), (.int q1)])) _
            refine XS.icmpYes X0.here hx rfl (pc0 := 27) (pc' := 36) rfl (hb hby d1_27) rfl (teq hc27_5).1 (by decide) (by decide) ?_
            show Steps p.tables e below (T0.setTop (mkF m 36 #[.val (.int q1)] [])) _
            refine XS.iconst X0.here hx rfl (hb hby d1_36) ?_
            show Steps p.tables e below (T0.setTop (mkF m 37 #[.val (.int q1)] [(.int (1 : Int32))])) _
            refine XS.goto X0.here hx rfl (pc0 := 37) (pc' := 41) rfl (hb hby d1_37) (by decide) (by decide) ?_
            show Steps p.tables e below (T0.setTop (mkF m 41 #[.val (.int q1)] [(.int (1 : Int32))])) _
            exact kt
          · by_cases hc33_6 : q1 = (13 : Int32)
            · have hv : F = (1 : Int32) := (hF.trans (by rw [own_blank_f0, if_neg hc3_1, if_neg hc9_2, if_neg hc15_3, if_neg hc21_4, if_neg hc27_5, if_pos hc33_6]))
              subst hv
              refine ⟨T0, 41, #[.val (.int q1)], X0, e0, (hb hby d1_41), fun target kt => ?_⟩
              show Steps p.tables e below (T0.setTop (mkF m 0 #[.val (.int q1)] [])) _
              refine XS.iloadN X0.here hx rfl (hb hby d1_0) rfl ?_
              show Steps p.tables e below (T0.setTop (mkF m 1 #[.val (.int q1)] [(.int q1)])) _
              refine XS.bipush X0.here hx rfl (hb hby d1_1) ?_
              show Steps p.tables e below (T0.setTop (mkF m 3 #[.val (.int q1)] [(.int (32 : Int32)), (.int q1)])) _
              refine XS.icmpNo X0.here hx rfl (hb hby d1_3) rfl (feq hc3_1).1 ?_
              show Steps p.tables e below (T0.setTop (mkF m 6 #[.val (.int q1)] [])) _
              refine XS.iloadN X0.here hx rfl (hb hby d1_6) rfl ?_
              show Steps p.tables e below (T0.setTop (mkF m 7 #[.val (.int q1)] [(.int q1)])) _
              refine XS.bipush X0.here hx rfl (hb hby d1_7) ?_
              show Steps p.tables e below (T0.setTop (mkF m 9 #[.val (.int q1)] [(.int (9 : Int32)), (.int q1)])) _
              refine XS.icmpNo X0.here hx rfl (hb hby d1_9) rfl (feq hc9_2).1 ?_
              show Steps p.tables e below (T0.setTop (mkF m 12 #[.val (.int q1)] [])) _
              refine XS.iloadN X0.here hx rfl (hb hby d1_12) rfl ?_
              show Steps p.tables e below (T0.setTop (mkF m 13 #[.val (.int q1)] [(.int q1)])) _
              refine XS.bipush X0.here hx rfl (hb hby d1_13) ?_
              show Steps p.tables e below (T0.setTop (mkF m 15 #[.val (.int q1)] [(.int (10 : Int32)), (.int q1)])) _
              refine XS.icmpNo X0.here hx rfl (hb hby d1_15) rfl (feq hc15_3).1 ?_
              show Steps p.tables e below (T0.setTop (mkF m 18 #[.val (.int q1)] [])) _
              refine XS.iloadN X0.here hx rfl (hb hby d1_18) rfl ?_
              show Steps p.tables e below (T0.setTop (mkF m 19 #[.val (.int q1)] [(.int q1)])) _
              refine XS.bipush X0.here hx rfl (hb hby d1_19) ?_
              show Steps p.tables e below (T0.setTop (mkF m 21 #[.val (.int q1)] [(.int (11 : Int32)), (.int q1)])) _
              refine XS.icmpNo X0.here hx rfl (hb hby d1_21) rfl (feq hc21_4).1 ?_
              show Steps p.tables e below (T0.setTop (mkF m 24 #[.val (.int q1)] [])) _
              refine XS.iloadN X0.here hx rfl (hb hby d1_24) rfl ?_
              show Steps p.tables e below (T0.setTop (mkF m 25 #[.val (.int q1)] [(.int q1)])) _
              refine XS.bipush X0.here hx rfl (hb hby d1_25) ?_
              show Steps p.tables e below (T0.setTop (mkF m 27 #[.val (.int q1)] [(.int (12 : Int32)), (.int q1)])) _
              refine XS.icmpNo X0.here hx rfl (hb hby d1_27) rfl (feq hc27_5).1 ?_
              show Steps p.tables e below (T0.setTop (mkF m 30 #[.val (.int q1)] [])) _
              refine XS.iloadN X0.here hx rfl (hb hby d1_30) rfl ?_
              show Steps p.tables e below (T0.setTop (mkF m 31 #[.val (.int q1)] [(.int q1)])) _
              refine XS.bipush X0.here hx rfl (hb hby d1_31) ?_
              show Steps p.tables e below (T0.setTop (mkF m 33 #[.val (.int q1)] [(.int (13 : Int32)), (.int q1)])) _
              refine XS.icmpNo X0.here hx rfl (hb hby d1_33) rfl (teq hc33_6).2 ?_
              show Steps p.tables e below (T0.setTop (mkF m 36 #[.val (.int q1)] [])) _
              refine XS.iconst X0.here hx rfl (hb hby d1_36) ?_
              show Steps p.tables e below (T0.setTop (mkF m 37 #[.val (.int q1)] [(.int (1 : Int32))])) _
              refine XS.goto X0.here hx rfl (pc0 := 37) (pc' := 41) rfl (hb hby d1_37) (by decide) (by decide) ?_
              show Steps p.tables e below (T0.setTop (mkF m 41 #[.val (.int q1)] [(.int (1 : Int32))])) _
              exact kt
            · have hv : F = (0 : Int32) := (hF.trans (by rw [own_blank_f0, if_neg hc3_1, if_neg hc9_2, if_neg hc15_3, if_neg hc21_4, if_neg hc27_5, if_neg hc33_6]))
              subst hv
              refine ⟨T0, 41, #[.val (.int q1)], X0, e0, (hb hby d1_41), fun target kt => ?_⟩
              show Steps p.tables e below (T0.setTop (mkF m 0 #[.val (.int q1)] [])) _
              refine XS.iloadN X0.here hx rfl (hb hby d1_0) rfl ?_
              show Steps p.tables e below (T0.setTop (mkF m 1 #[.val (.int q1)] [(.int q1)])) _
              refine XS.bipush X0.here hx rfl (hb hby d1_1) ?_
              show Steps p.tables e below (T0.setTop (mkF m 3 #[.val (.int q1)] [(.int (32 : Int32)), (.int q1)])) _
              refine XS.icmpNo X0.here hx rfl (hb hby d1_3) rfl (feq hc3_1).1 ?_
              show Steps p.tables e below (T0.setTop (mkF m 6 #[.val (.int q1)] [])) _
              refine XS.iloadN X0.here hx rfl (hb hby d1_6) rfl ?_
              show Steps p.tables e below (T0.setTop (mkF m 7 #[.val (.int q1)] [(.int q1)])) _
              refine XS.bipush X0.here hx rfl (hb hby d1_7) ?_
              show Steps p.tables e below (T0.setTop (mkF m 9 #[.val (.int q1)] [(.int (9 : Int32)), (.int q1)])) _
              refine XS.icmpNo X0.here hx rfl (hb hby d1_9) rfl (feq hc9_2).1 ?_
              show Steps p.tables e below (T0.setTop (mkF m 12 #[.val (.int q1)] [])) _
              refine XS.iloadN X0.here hx rfl (hb hby d1_12) rfl ?_
              show Steps p.tables e below (T0.setTop (mkF m 13 #[.val (.int q1)] [(.int q1)])) _
              refine XS.bipush X0.here hx rfl (hb hby d1_13) ?_
              show Steps p.tables e below (T0.setTop (mkF m 15 #[.val (.int q1)] [(.int (10 : Int32)), (.int q1)])) _
              refine XS.icmpNo X0.here hx rfl (hb hby d1_15) rfl (feq hc15_3).1 ?_
              show Steps p.tables e below (T0.setTop (mkF m 18 #[.val (.int q1)] [])) _
              refine XS.iloadN X0.here hx rfl (hb hby d1_18) rfl ?_
              show Steps p.tables e below (T0.setTop (mkF m 19 #[.val (.int q1)] [(.int q1)])) _
              refine XS.bipush X0.here hx rfl (hb hby d1_19) ?_
              show Steps p.tables e below (T0.setTop (mkF m 21 #[.val (.int q1)] [(.int (11 : Int32)), (.int q1)])) _
              refine XS.icmpNo X0.here hx rfl (hb hby d1_21) rfl (feq hc21_4).1 ?_
              show Steps p.tables e below (T0.setTop (mkF m 24 #[.val (.int q1)] [])) _
              refine XS.iloadN X0.here hx rfl (hb hby d1_24) rfl ?_
              show Steps p.tables e below (T0.setTop (mkF m 25 #[.val (.int q1)] [(.int q1)])) _
              refine XS.bipush X0.here hx rfl (hb hby d1_25) ?_
              show Steps p.tables e below (T0.setTop (mkF m 27 #[.val (.int q1)] [(.int (12 : Int32)), (.int q1)])) _
              refine XS.icmpNo X0.here hx rfl (hb hby d1_27) rfl (feq hc27_5).1 ?_
              show Steps p.tables e below (T0.setTop (mkF m 30 #[.val (.int q1)] [])) _
              refine XS.iloadN X0.here hx rfl (hb hby d1_30) rfl ?_
              show Steps p.tables e below (T0.setTop (mkF m 31 #[.val (.int q1)] [(.int q1)])) _
              refine XS.bipush X0.here hx rfl (hb hby d1_31) ?_
              show Steps p.tables e below (T0.setTop (mkF m 33 #[.val (.int q1)] [(.int (13 : Int32)), (.int q1)])) _
              refine XS.icmpYes X0.here hx rfl (pc0 := 33) (pc' := 40) rfl (hb hby d1_33) rfl (feq hc33_6).2 (by decide) (by decide) ?_
              show Steps p.tables e below (T0.setTop (mkF m 40 #[.val (.int q1)] [])) _
              refine XS.iconst X0.here hx rfl (hb hby d1_40) ?_
              show Steps p.tables e below (T0.setTop (mkF m 41 #[.val (.int q1)] [(.int (0 : Int32))])) _
              exact kt
theorem own_blank_01 (q1 : Int32) : own_blank_f0 q1 = 0 ∨ own_blank_f0 q1 = 1 := by unfold own_blank_f0; repeat' (first | split | simp)
theorem pn_1 : plainName "com/example/intact_keys/intactkeys/model/ValueType" = true := by first | (simp [plainName, overriddenIn]; done) | decide +kernel
theorem ef_1 (m : MethodId) (q1 : Int32) : entryFrame m #[(.int q1)] 1 = mkF m 0 #[.val (.int q1)] [] := by first | (simp [entryFrame, mkF, argsToLocals, Value.category]; done) | rfl
def Q1 (q1 : Int32)  (h0 : Heap) (n0 : Nat) (v : Option Value) (h : Heap) (L : List Loc) : Prop := v = some (.int (own_blank_f0 q1)) ∧ Fr n0 L ∧ h = h0
set_option maxRecDepth 65536 in
set_option maxHeartbeats 40000000 in
theorem rm1 (l : Launch) (Z : State) (a0 : Array Value) (hw : ∀ d ∈ tables_1, d.before a0 Z = true) (ws : List Jvm.Cond) (q1 : Int32)  (h0 : Heap) (n0 : Nat) (Z0 : n0 ≤ h0.size)  :
    MetFree l (⟨"com/example/intact_keys/intactkeys/model/ValueType", "isBlank", "(C)Z"⟩ : MethodName) (head1 (Jvm.Cond.code (⟨"com/example/intact_keys/intactkeys/model/ValueType", "isBlank", "(C)Z"⟩ : MethodName) prog_191_method_43_code 1 (some .boolean) :: ws) ({ frames := 0, cells := 0, slots := 0, locals := 0 } : Room)) (fun a U => a = #[(.int q1)] ∧ Z.Warmed39 U.vm ∧ U.heap = h0) (fun _ _ _ _ _ => True) (fun _ U o U' => ∃ v L, o = .returned v ∧ Q1 q1  h0 n0 v U'.heap L ∧ FrameEnd U o U' L (({ frames := 0, cells := 0, slots := 0, locals := 0 } : Room)).cells (({ frames := 0, cells := 0, slots := 0, locals := 0 } : Room)).slots) := by
  refine MetFree.of_bodySF (plainFor_of_name pn_1) hisR ?_
  intro p e s m args below meth c s₁ Bd hml0 hP hK
  obtain ⟨rfl, hZ, hh⟩ := hP
  have hx := Bd.exec
  have hby := Bd.bytes
  have hml : c.maxLocals = 1 := hml0
  have hown : s.vm.findClass "com/example/intact_keys/intactkeys/model/ValueType" = some m.cls := findClass_of_methodNamed Bd.named
  have X0 : Stand p l e ({ frames := 0, cells := 0, slots := 0, locals := 0 } : Room) s m #[(.int q1)] below meth c s₁ [] 0 0 := Stand.of_body Bd
  have e0 : s₁.heap = h0 := by rw [← hh, Bd.state]; rfl
  obtain ⟨T', pc', Ls, X', e', hd', st'⟩ := own_blank_b0 q1 X0 hx hZ hw hby hml hown e0  (own_blank_f0 q1) rfl
  obtain ⟨fs, hr, hrun, hended, hW, hsame⟩ := X'.leave (v := some (.int (nar .boolean (own_blank_f0 q1)))) (fun h => by rw [Bd.returns] at h; cases h)
  refine ⟨_, _, castTop (ef_1 m q1) (st' _ ?_), hrun, hended, _, _, rfl, ?_, ⟨_, rfl⟩, hW, hsame.mono (by decide) (by decide)⟩
  · exact retN X' hx (t := .boolean) Bd.returns (by simp) hd' hr
  · exact ⟨by rw [own_nar (own_blank_01 q1)], Fr.nil n0, e'⟩
def own_law_f6 (q1 : Int32) (q2 : Int32) : Int32 := (if q2 = (32 : Int32) then (1 : Int32) else (if q2 < (9 : Int32) then (0 : Int32) else (if (13 : Int32) < q2 then (0 : Int32) else (1 : Int32))))
set_option maxRecDepth 65536 in
set_option maxHeartbeats 40000000 in
theorem own_law_b6 {p : Program} {l : Launch} {e : Env} {R : Room} {s : State} {m : MethodId} {args : Array Value} {below : List Frame} {meth : Method} {c : Code} {T0 : State} {locs : List Loc} {cells slots : Nat} {Z : State} {a0 : Array Value} {h0 : Heap} (q1 : Int32) (q2 : Int32)
    (X0 : Stand p l e R s m args below meth c T0 locs cells slots) (hx : p.tables.exec = Jvm.exec) (hZ : Z.Warmed39 s.vm) (hw : ∀ d ∈ tables_1, d.before a0 Z = true) (hby : c.code = code) (hml : c.maxLocals = 3) (hown : s.vm.findClass "com/example/intact_keys/intactkeys/model/ValueTypeIsBlankPinLaw" = some m.cls) (e0 : T0.heap = h0)  (F : Int32) (hF : F = own_law_f6 q1 q2 ) :
    ∃ (T' : State), Stand p l e R s m args below meth c T' locs cells slots ∧ T'.heap = h0 ∧
      ∀ target, Steps p.tables e below (T'.setTop (mkF m 30 #[.val (.int q1), .val (.int q2), .val (.int F)] [])) target → Steps p.tables e below (T0.setTop (mkF m 6 #[.val (.int q1), .val (.int q2), .unset] [])) target := by
  by_cases hc9_1 : q2 = (32 : Int32)
  · have hv := (hF.trans (by rw [own_law_f6, if_pos hc9_1]))
    subst hv
    refine ⟨T0, X0, e0, fun target kt => ?_⟩
    show Steps p.tables e below (T0.setTop (mkF m 6 #[.val (.int q1), .val (.int q2), .unset] [])) _
    refine XS.iloadN X0.here hx rfl (hb hby at_6) rfl ?_
    show Steps p.tables e below (T0.setTop (mkF m 7 #[.val (.int q1), .val (.int q2), .unset] [(.int q2)])) _
    refine XS.bipush X0.here hx rfl (hb hby at_7) ?_
    show Steps p.tables e below (T0.setTop (mkF m 9 #[.val (.int q1), .val (.int q2), .unset] [(.int (32 : Int32)), (.int q2)])) _
    refine XS.icmpYes X0.here hx rfl (pc0 := 9) (pc' := 24) rfl (hb hby at_9) rfl (teq hc9_1).1 (by decide) (by decide) ?_
    show Steps p.tables e below (T0.setTop (mkF m 24 #[.val (.int q1), .val (.int q2), .unset] [])) _
    refine XS.iconst X0.here hx rfl (hb hby at_24) ?_
    show Steps p.tables e below (T0.setTop (mkF m 25 #[.val (.int q1), .val (.int q2), .unset] [(.int (1 : Int32))])) _
    refine XS.goto X0.here hx rfl (pc0 := 25) (pc' := 29) rfl (hb hby at_25) (by decide) (by decide) ?_
    show Steps p.tables e below (T0.setTop (mkF m 29 #[.val (.int q1), .val (.int q2), .unset] [(.int (1 : Int32))])) _
    refine XS.istoreN X0.here hx rfl (hb hby at_29) rfl (l' := #[.val (.int q1), .val (.int q2), .val (.int (1 : Int32))]) rfl ?_
    exact kt
  · by_cases hc15_2 : q2 < (9 : Int32)
    · have hv := (hF.trans (by rw [own_law_f6, if_neg hc9_1, if_pos hc15_2]))
      subst hv
      refine ⟨T0, X0, e0, fun target kt => ?_⟩
      show Steps p.tables e below (T0.setTop (mkF m 6 #[.val (.int q1), .val (.int q2), .unset] [])) _
      refine XS.iloadN X0.here hx rfl (hb hby at_6) rfl ?_
      show Steps p.tables e below (T0.setTop (mkF m 7 #[.val (.int q1), .val (.int q2), .unset] [(.int q2)])) _
      refine XS.bipush X0.here hx rfl (hb hby at_7) ?_
      show Steps p.tables e below (T0.setTop (mkF m 9 #[.val (.int q1), .val (.int q2), .unset] [(.int (32 : Int32)), (.int q2)])) _
      refine XS.icmpNo X0.here hx rfl (hb hby at_9) rfl (feq hc9_1).1 ?_
      show Steps p.tables e below (T0.setTop (mkF m 12 #[.val (.int q1), .val (.int q2), .unset] [])) _
      refine XS.iloadN X0.here hx rfl (hb hby at_12) rfl ?_
      show Steps p.tables e below (T0.setTop (mkF m 13 #[.val (.int q1), .val (.int q2), .unset] [(.int q2)])) _
      refine XS.bipush X0.here hx rfl (hb hby at_13) ?_
      show Steps p.tables e below (T0.setTop (mkF m 15 #[.val (.int q1), .val (.int q2), .unset] [(.int (9 : Int32)), (.int q2)])) _
      refine XS.icmpYes X0.here hx rfl (pc0 := 15) (pc' := 28) rfl (hb hby at_15) rfl (tlt hc15_2).1 (by decide) (by decide) ?_
      show Steps p.tables e below (T0.setTop (mkF m 28 #[.val (.int q1), .val (.int q2), .unset] [])) _
      refine XS.iconst X0.here hx rfl (hb hby at_28) ?_
      show Steps p.tables e below (T0.setTop (mkF m 29 #[.val (.int q1), .val (.int q2), .unset] [(.int (0 : Int32))])) _
      refine XS.istoreN X0.here hx rfl (hb hby at_29) rfl (l' := #[.val (.int q1), .val (.int q2), .val (.int (0 : Int32))]) rfl ?_
      exact kt
    · by_cases hc21_3 : (13 : Int32) < q2
      · have hv := (hF.trans (by rw [own_law_f6, if_neg hc9_1, if_neg hc15_2, if_pos hc21_3]))
        subst hv
        refine ⟨T0, X0, e0, fun target kt => ?_⟩
        show Steps p.tables e below (T0.setTop (mkF m 6 #[.val (.int q1), .val (.int q2), .unset] [])) _
        refine XS.iloadN X0.here hx rfl (hb hby at_6) rfl ?_
        show Steps p.tables e below (T0.setTop (mkF m 7 #[.val (.int q1), .val (.int q2), .unset] [(.int q2)])) _
        refine XS.bipush X0.here hx rfl (hb hby at_7) ?_
        show Steps p.tables e below (T0.setTop (mkF m 9 #[.val (.int q1), .val (.int q2), .unset] [(.int (32 : Int32)), (.int q2)])) _
        refine XS.icmpNo X0.here hx rfl (hb hby at_9) rfl (feq hc9_1).1 ?_
        show Steps p.tables e below (T0.setTop (mkF m 12 #[.val (.int q1), .val (.int q2), .unset] [])) _
        refine XS.iloadN X0.here hx rfl (hb hby at_12) rfl ?_
        show Steps p.tables e below (T0.setTop (mkF m 13 #[.val (.int q1), .val (.int q2), .unset] [(.int q2)])) _
        refine XS.bipush X0.here hx rfl (hb hby at_13) ?_
        show Steps p.tables e below (T0.setTop (mkF m 15 #[.val (.int q1), .val (.int q2), .unset] [(.int (9 : Int32)), (.int q2)])) _
        refine XS.icmpNo X0.here hx rfl (hb hby at_15) rfl (flt hc15_2).1 ?_
        show Steps p.tables e below (T0.setTop (mkF m 18 #[.val (.int q1), .val (.int q2), .unset] [])) _
        refine XS.iloadN X0.here hx rfl (hb hby at_18) rfl ?_
        show Steps p.tables e below (T0.setTop (mkF m 19 #[.val (.int q1), .val (.int q2), .unset] [(.int q2)])) _
        refine XS.bipush X0.here hx rfl (hb hby at_19) ?_
        show Steps p.tables e below (T0.setTop (mkF m 21 #[.val (.int q1), .val (.int q2), .unset] [(.int (13 : Int32)), (.int q2)])) _
        refine XS.icmpYes X0.here hx rfl (pc0 := 21) (pc' := 28) rfl (hb hby at_21) rfl (tlt hc21_3).2.2.1 (by decide) (by decide) ?_
        show Steps p.tables e below (T0.setTop (mkF m 28 #[.val (.int q1), .val (.int q2), .unset] [])) _
        refine XS.iconst X0.here hx rfl (hb hby at_28) ?_
        show Steps p.tables e below (T0.setTop (mkF m 29 #[.val (.int q1), .val (.int q2), .unset] [(.int (0 : Int32))])) _
        refine XS.istoreN X0.here hx rfl (hb hby at_29) rfl (l' := #[.val (.int q1), .val (.int q2), .val (.int (0 : Int32))]) rfl ?_
        exact kt
      · have hv := (hF.trans (by rw [own_law_f6, if_neg hc9_1, if_neg hc15_2, if_neg hc21_3]))
        subst hv
        refine ⟨T0, X0, e0, fun target kt => ?_⟩
        show Steps p.tables e below (T0.setTop (mkF m 6 #[.val (.int q1), .val (.int q2), .unset] [])) _
        refine XS.iloadN X0.here hx rfl (hb hby at_6) rfl ?_
        show Steps p.tables e below (T0.setTop (mkF m 7 #[.val (.int q1), .val (.int q2), .unset] [(.int q2)])) _
        refine XS.bipush X0.here hx rfl (hb hby at_7) ?_
        show Steps p.tables e below (T0.setTop (mkF m 9 #[.val (.int q1), .val (.int q2), .unset] [(.int (32 : Int32)), (.int q2)])) _
        refine XS.icmpNo X0.here hx rfl (hb hby at_9) rfl (feq hc9_1).1 ?_
        show Steps p.tables e below (T0.setTop (mkF m 12 #[.val (.int q1), .val (.int q2), .unset] [])) _
        refine XS.iloadN X0.here hx rfl (hb hby at_12) rfl ?_
        show Steps p.tables e below (T0.setTop (mkF m 13 #[.val (.int q1), .val (.int q2), .unset] [(.int q2)])) _
        refine XS.bipush X0.here hx rfl (hb hby at_13) ?_
        show Steps p.tables e below (T0.setTop (mkF m 15 #[.val (.int q1), .val (.int q2), .unset] [(.int (9 : Int32)), (.int q2)])) _
        refine XS.icmpNo X0.here hx rfl (hb hby at_15) rfl (flt hc15_2).1 ?_
        show Steps p.tables e below (T0.setTop (mkF m 18 #[.val (.int q1), .val (.int q2), .unset] [])) _
        refine XS.iloadN X0.here hx rfl (hb hby at_18) rfl ?_
        show Steps p.tables e below (T0.setTop (mkF m 19 #[.val (.int q1), .val (.int q2), .unset] [(.int q2)])) _
        refine XS.bipush X0.here hx rfl (hb hby at_19) ?_
        show Steps p.tables e below (T0.setTop (mkF m 21 #[.val (.int q1), .val (.int q2), .unset] [(.int (13 : Int32)), (.int q2)])) _
        refine XS.icmpNo X0.here hx rfl (hb hby at_21) rfl (flt hc21_3).2.2.1 ?_
        show Steps p.tables e below (T0.setTop (mkF m 24 #[.val (.int q1), .val (.int q2), .unset] [])) _
        refine XS.iconst X0.here hx rfl (hb hby at_24) ?_
        show Steps p.tables e below (T0.setTop (mkF m 25 #[.val (.int q1), .val (.int q2), .unset] [(.int (1 : Int32))])) _
        refine XS.goto X0.here hx rfl (pc0 := 25) (pc' := 29) rfl (hb hby at_25) (by decide) (by decide) ?_
        show Steps p.tables e below (T0.setTop (mkF m 29 #[.val (.int q1), .val (.int q2), .unset] [(.int (1 : Int32))])) _
        refine XS.istoreN X0.here hx rfl (hb hby at_29) rfl (l' := #[.val (.int q1), .val (.int q2), .val (.int (1 : Int32))]) rfl ?_
        exact kt
theorem own_same (q1 q2 : Int32) : own_blank_f0 q2 = own_law_f6 q1 q2 := by
  unfold own_blank_f0 own_law_f6
  simp only [Int32.lt_iff_toInt_lt, ← Int32.toInt_inj, Int32.reduceToInt]
  repeat' split
  all_goals first | rfl | omega
theorem pn_0 : plainName "com/example/intact_keys/intactkeys/model/ValueTypeIsBlankPinLaw" = true := by first | (simp [plainName, overriddenIn]; done) | decide +kernel
theorem ef_0 (m : MethodId) (x0 : Int32) : entryFrame m #[(.int x0)] maxLocals = mkF m 0 #[.val (.int x0), .unset, .unset] [] := by first | (simp [entryFrame, mkF, argsToLocals, Value.category, maxLocals]; done) | rfl
set_option maxRecDepth 65536 in
set_option maxHeartbeats 40000000 in
theorem rm0 (l : Launch) (Z : State) (a0 : Array Value) (hw : ∀ d ∈ tables_1, d.before a0 Z = true) (ws : List Jvm.Cond) (q1 : Int32) (h0 : Heap) (n0 : Nat) (Z0 : n0 ≤ h0.size) :
    MetFree l x (head1 (Jvm.Cond.code x code maxLocals ret :: ws) room_1) (fun a U => a = #[(.int q1)] ∧ Z.Warmed39 U.vm ∧ U.heap = h0) (fun _ _ _ _ _ => True) (fun _ U o U' => ∃ v L, o = .returned v ∧ (v = some (.int 1) ∧ Fr n0 L) ∧ FrameEnd U o U' L room_1.cells room_1.slots) := by
  refine MetFree.of_bodySF (plainFor_of_name pn_0) hisR ?_
  intro p e s m args below meth c s₁ Bd hml0 hP hK
  obtain ⟨rfl, hZ, hh⟩ := hP
  have hx := Bd.exec
  have hby := Bd.bytes
  have hml : c.maxLocals = 3 := hml0
  have hown : s.vm.findClass "com/example/intact_keys/intactkeys/model/ValueTypeIsBlankPinLaw" = some m.cls := findClass_of_methodNamed Bd.named
  have X0 : Stand p l e room_1 s m #[(.int q1)] below meth c s₁ [] 0 0 := Stand.of_body Bd
  have e0 : s₁.heap = h0 := by rw [← hh, Bd.state]; rfl
  have N0 := Fr.nil n0
  have pre0 : ∀ t, Steps p.tables e below (s₁.setTop (mkF m 0 #[.val (.int q1), .unset, .unset] [])) t → Steps p.tables e below (s₁.setTop (entryFrame m #[(.int q1)] maxLocals)) t := fun t k => castTop (ef_0 m q1) k
  obtain ⟨q2, hq2⟩ : ∃ q2 : Int32, q2 = ((q1 &&& (65535 : Int32)).toUInt32.toUInt16.toUInt32.toInt32) := ⟨_, rfl⟩
  obtain ⟨TE, XE, eE, stE⟩ := own_law_b6 q1 q2 X0 hx hZ hw hby hml hown e0 (own_law_f6 q1 q2) rfl
  obtain ⟨_, _, ⟨T9, L9, k9, n9⟩, -, X9, ⟨Lc9, hQ9, l9, y9, z9⟩, st9⟩ := Jvm.LawKit.callS XE hx (y := (⟨"com/example/intact_keys/intactkeys/model/ValueType", "isBlank", "(C)Z"⟩ : MethodName)) hown (mvT hZ (hw _ (List.mem_of_getElem? (i := 1) rfl))) (mvT hZ (hw _ (List.mem_of_getElem? (i := 2) rfl))) (mvT hZ (hw _ (List.mem_of_getElem? (i := 3) rfl))) (mvT hZ (hw _ (List.mem_of_getElem? (i := 4) rfl))) (by decide) (backOf (W := 0) (rm1 l Z a0 hw [] q2 h0 n0 Z0) hZ (hw _ (List.mem_of_getElem? (i := 4) rfl)) (hw _ (List.mem_of_getElem? (i := 3) rfl)) (by decide) (by decide)) (g := (mkF m 31 #[.val (.int q1), .val (.int q2), .val (.int (own_law_f6 q1 q2))] [(.int q2)])) rfl (by rw [hml]; rfl) (argsL := [(.int q2)]) (rest := []) (lenOf (show parseMethodDescriptor "(C)Z" = some ⟨[.char], (some .boolean)⟩ from by decide +kernel) rfl) rfl (by show 2 * 0 + _ ≤ _; exact Nat.le_of_eq rfl) (hb hby at_31) (fun _ _ => ⟨rfl, eE, (by decide : 0 + 0 ≤ _), (by decide : 0 + 0 ≤ _)⟩)
  dsimp only [Pt.U, Pt.locs, Pt.cells, Pt.slots] at X9 l9 y9 z9 st9 hQ9
  subst l9 y9 z9
  obtain ⟨rfl, N9q, e9⟩ := hQ9
  have N9 := Fr.app N0 N9q
  obtain ⟨fs, hr, hrun, hended, hW, hsame⟩ := X9.leave (v := some (.int (1 : Int32))) (fun h => by rw [Bd.returns] at h; cases h)
  refine ⟨_, _, pre0 _ ?_, hrun, hended, _, _, rfl, ?_, ⟨_, rfl⟩, hW, hsame.mono (by decide) (by decide)⟩
  · show Steps p.tables e below (s₁.setTop (mkF m 0 #[.val (.int q1), .unset, .unset] [])) _
    refine XS.iloadN X0.here hx rfl (hb hby at_0) rfl ?_
    show Steps p.tables e below (s₁.setTop (mkF m 1 #[.val (.int q1), .unset, .unset] [(.int q1)])) _
    refine X0.ldcInt hx hown (mvT hZ (hw _ (List.mem_of_getElem? (i := 0) rfl))) (g := (mkF m 1 #[.val (.int q1), .unset, .unset] [(.int q1)])) rfl (hb hby at_1) _ ?_
    show Steps p.tables e below (s₁.setTop (mkF m 3 #[.val (.int q1), .unset, .unset] [(.int (65535 : Int32)), (.int q1)])) _
    refine XS.iand X0.here hx rfl (hb hby at_3) rfl ?_
    show Steps p.tables e below (s₁.setTop (mkF m 4 #[.val (.int q1), .unset, .unset] [(.int (q1 &&& (65535 : Int32)))])) _
    refine XS.i2c X0.here hx rfl (hb hby at_4) rfl ?_
    show Steps p.tables e below (s₁.setTop (mkF m 5 #[.val (.int q1), .unset, .unset] [(.int ((q1 &&& (65535 : Int32)).toUInt32.toUInt16.toUInt32.toInt32))])) _
    refine XS.istoreN X0.here hx rfl (hb hby at_5) rfl (l' := #[.val (.int q1), .val (.int ((q1 &&& (65535 : Int32)).toUInt32.toUInt16.toUInt32.toInt32)), .unset]) rfl ?_
    rw [← hq2]
    refine stE _ ?_
    show Steps p.tables e below (TE.setTop (mkF m 30 #[.val (.int q1), .val (.int q2), .val (.int (own_law_f6 q1 q2))] [])) _
    refine XS.iloadN XE.here hx rfl (hb hby at_30) rfl ?_
    show Steps p.tables e below (TE.setTop (mkF m 31 #[.val (.int q1), .val (.int q2), .val (.int (own_law_f6 q1 q2))] [(.int q2)])) _
    refine st9 _ ?_
    show Steps p.tables e below (T9.setTop (mkF m 34 #[.val (.int q1), .val (.int q2), .val (.int (own_law_f6 q1 q2))] [(.int (own_blank_f0 q2))])) _
    refine XS.iloadN X9.here hx rfl (hb hby at_34) rfl ?_
    show Steps p.tables e below (T9.setTop (mkF m 35 #[.val (.int q1), .val (.int q2), .val (.int (own_law_f6 q1 q2))] [(.int (own_law_f6 q1 q2)), (.int (own_blank_f0 q2))])) _
    refine XS.icmpNo X9.here hx rfl (hb hby at_35) rfl (teq (own_same q1 q2)).2 ?_
    show Steps p.tables e below (T9.setTop (mkF m 38 #[.val (.int q1), .val (.int q2), .val (.int (own_law_f6 q1 q2))] [])) _
    refine XS.iconst X9.here hx rfl (hb hby at_38) ?_
    show Steps p.tables e below (T9.setTop (mkF m 39 #[.val (.int q1), .val (.int q2), .val (.int (own_law_f6 q1 q2))] [(.int (1 : Int32))])) _
    refine XS.goto X9.here hx rfl (pc0 := 39) (pc' := 43) rfl (hb hby at_39) (by decide) (by decide) ?_
    show Steps p.tables e below (T9.setTop (mkF m 43 #[.val (.int q1), .val (.int q2), .val (.int (own_law_f6 q1 q2))] [(.int (1 : Int32))])) _
    exact retN X9 hx (t := .boolean) Bd.returns (by simp) (hb hby at_43) hr
  · exact ⟨rfl, N9⟩
set_option maxRecDepth 65536 in
set_option maxHeartbeats 40000000 in
theorem comes_1 {Post : Tables → Env → Array Value → State → Outcome → State → Prop} (hpost : ∀ tb e args s v u, (limb_1_1.after args s (.returned v) u = true ∧ limb_1_2.after args s (.returned v) u = true ∧ True) → FrameEnd s (.returned v) u (Jvm.fieldLocs frame_1_writes args s ++ Jvm.arrayLocs frame_1_arrays args s ++ Jvm.staticLocs frame_1_statics s) 0 0 → Post tb e args s (.returned v) u) :
    ArmFor flags0 classFile x code maxLocals ret World_1 tables_1 room_1 Calls_1 rest_1 Pre_1 Post := by
  intro l hfl _ _ p e ha hc hk s m args below hf hA hF happ hP
  obtain ⟨hcalls, hrest, hpre⟩ := hP
  obtain ⟨-, -, -, hnamed, -, -, -, hat⟩ := (Spec.applies_iff hf).mp happ
  obtain ⟨hg, hn⟩ := and_e (Cond.before_iff.mp (show (Jvm.Cond.and given_1 narrow_1).before args s = true from hpre))
  obtain ⟨gc, gr0⟩ := and_e hg
  obtain ⟨w0, rfl⟩ : ∃ w0 : Value, args = #[w0] := by
    have hs : args.size = 1 := by simpa [Cond.value, given_1] using gc
    obtain ⟨L⟩ := args
    match L, hs with
    | [w0], _ => exact ⟨w0, rfl⟩
  have hw := fun d (hd : d ∈ tables_1) => atoms_spec (ws := Jvm.Cond.code x code maxLocals ret :: tables_1) hat d (List.mem_cons_of_mem _ hd)
  have hfit : Fit s := fun {y c} hc i hi => by
    obtain ⟨ha, rfl⟩ := Array.getElem?_eq_some_iff.mp hc
    have q := List.all_eq_true.mp ((Array.all_eq_true_iff_forall_mem.mp hF) _ (Array.getElem_mem ha)) i (List.mem_range.mpr hi)
    simpa [Array.getElem?_eq_getElem hi] using q
  obtain ⟨i0, ei0⟩ := is_v gr0
  obtain rfl : w0 = (.int i0) := Option.some.inj ei0
  obtain ⟨n, o, h1, h2, h3, _, L, rfl, ⟨rfl, N⟩, hq⟩ := rm0 l s _ hw tables_1 i0 s.heap s.heap.size (Nat.le_refl _)  p e ha hc hk s m _ below hf ((Spec.applies_iff_loose hf).mp happ).1 ⟨rfl, State.Warmed39.refl s, rfl⟩ trivial
  refine ⟨n, _, h1, h2, h3, hpost _ _ _ _ _ _ ⟨Cond.after_iff.mpr rfl, Cond.after_iff.mpr (eq_i res_at (Term.int_eval (1)) rfl), trivial⟩ ⟨hq.1, hq.2.1, (hq.2.2.sift fun y hy => Or.inr (N y hy)).mono (by decide) (by decide)⟩⟩
theorem main_1_1 : Claimed_1_1 := comes_1 fun _ _ _ _ _ _ h hF => ⟨h.1, hF⟩
theorem main_1_2 : Claimed_1_2 := comes_1 fun _ _ _ _ _ _ h hF => ⟨h.2.1, hF⟩
end Jvm.Pilot.@@N@@
namespace Jvm.Pilot.@@N@@
open Jvm Jvm.ClassFile Sem Op Lib Jvm.Free Jvm.Stand Jvm.Pilot.@@N@@.Jvm.D
/-! MADE BY PROGRAM (witnessworld.py) out of the Statement's table words and the real class files: 9 classes; the members and pool entries that the words name. The judged class is class 1, her method 1. -/
namespace start1
open Jvm.ClassFile
def u (s : String) : CpInfo := .utf8 (stringToUtf16 s)
/-- a pool by its gaps: so many unusable entries, then the entry; so many at the end -/
def gap : Nat → List CpInfo → List CpInfo
  | 0, r => r
  | n + 1, r => .unusable :: gap n r
def poolList (es : List (Nat × CpInfo)) (last : Nat) : List CpInfo := es.foldr (fun e r => gap e.1 (e.2 :: r)) (gap last [])
def pool (es : List (Nat × CpInfo)) (last : Nat) : Array CpInfo := ⟨poolList es last⟩
def fileOf (pool : Array CpInfo) (this : Nat) (attrs : Array Attribute := #[]) (ms : Array MethodInfo := #[]) (fl : Nat := 33) (sup : Nat := 0) (ifs : Array Nat := #[]) (fds : Array FieldInfo := #[]) : ClassFile where
  minorVersion := 0
  majorVersion := 65
  constantPool := pool
  accessFlags := fl
  thisClass := this
  superClass := sup
  interfaces := ifs
  fields := fds
  methods := ms
  attributes := attrs
def plain (name : String) (sup : Option ClassId) : Class where
  name := name
  kind := .ordinary
  loader := none
  accessFlags := 33
  super := sup
  interfaces := #[]
  cf := none
  fields := #[]
  methods := #[]
  instanceTypes := #[]
  staticTypes := #[]
  resolved := #[]
  callSites := []
  init := .initialized
  statics := none
  mirror := none

def pool0 : Array CpInfo := pool [(5, u "<init>"), (0, u "()V"), (1, .class_ 10), (1, u "java/lang/Object")] 113

def k0m0 : Method := { name := "<init>", desc := "()V", sig := { parameters := [], returnType := none }, accessFlags := 1, code := none }
/-- java/lang/Object -/
def k0 : Class := { plain "java/lang/Object" none with
  accessFlags := 33
  interfaces := #[]
  cf := some (fileOf pool0 8 #[] #[{ accessFlags := 1, nameIndex := 5, descriptorIndex := 6, attributes := #[] }] 33 0 #[] #[])
  fields := #[]
  methods := #[k0m0]
  instanceTypes := #[]
  staticTypes := #[]
  resolved := Array.replicate 124 none
  statics := none }

def pool1 : Array CpInfo := pool [(2, .class_ 4), (1, u "java/lang/Object"), (0, u "<init>"), (0, u "()V"), (0, .integer 65535), (0, .methodref 9 10), (0, .class_ 11), (0, .nameAndType 12 13), (0, u "com/example/intact_keys/intactkeys/model/ValueType"), (0, u "isBlank"), (0, u "(C)Z"), (0, .class_ 15), (0, u "com/example/intact_keys/intactkeys/model/ValueTypeIsBlankPinLaw"), (2, u "law"), (0, u "(I)Z")] 3

def k1m0 : Method := { name := "<init>", desc := "()V", sig := { parameters := [], returnType := none }, accessFlags := 2, code := none }
def k1c1 : Code := { maxStack := 2, maxLocals := 3, code := code, exceptionTable := #[], attributes := #[] }
def k1m1 : Method := { name := "law", desc := "(I)Z", sig := { parameters := [.int], returnType := some .boolean }, accessFlags := 9, code := some k1c1 }
/-- com/example/intact_keys/intactkeys/model/ValueTypeIsBlankPinLaw -/
def k1 : Class := { plain "com/example/intact_keys/intactkeys/model/ValueTypeIsBlankPinLaw" (some 0) with
  accessFlags := 49
  interfaces := #[]
  cf := some (fileOf pool1 14 #[] #[{ accessFlags := 2, nameIndex := 5, descriptorIndex := 6, attributes := #[] }, { accessFlags := 9, nameIndex := 18, descriptorIndex := 19, attributes := #[] }] 49 2 #[] #[])
  fields := #[]
  methods := #[k1m0, k1m1]
  instanceTypes := #[]
  staticTypes := #[]
  resolved := Array.replicate 23 none
  statics := none }

def pool2 : Array CpInfo := pool [(4, .class_ 6), (1, u "java/lang/Object"), (3, .class_ 12), (1, u "com/example/intact_keys/intactkeys/model/ValueType"), (0, u "kind"), (0, u "Lcom/example/intact_keys/intactkeys/model/ValueType$Kind;"), (2, u "name"), (0, u "Ljava/lang/String;"), (42, .class_ 62), (0, u "com/example/intact_keys/intactkeys/model/ValueType$TypeName"), (21, u "SMALLINT"), (13, u "INTEGER"), (7, u "BIGINT"), (15, u "DECIMAL"), (3, u "REAL"), (3, u "DOUBLE"), (7, u "BOOLEAN"), (3, u "DATE"), (1, u "TIME"), (5, u "TIMETZ"), (1, u "TIMESTAMP"), (5, u "TIMESTAMPTZ"), (1, u "TEXT"), (1, u "VARCHAR"), (17, u "BPCHAR"), (57, .class_ 240), (1, u "com/example/intact_keys/intactkeys/model/ValueType$Kind"), (17, u "Lcom/example/intact_keys/intactkeys/model/ValueType;"), (43, u "FORMS"), (0, u "Ljava/lang/ThreadLocal;"), (46, u "isBlank"), (0, u "(C)Z"), (78, u "NO_NUMBER"), (0, u "J")] 91

def k2c0 : Code := { maxStack := 2, maxLocals := 1, code := prog_191_method_43_code, exceptionTable := #[], attributes := #[] }
def k2m0 : Method := { name := "isBlank", desc := "(C)Z", sig := { parameters := [.char], returnType := some .boolean }, accessFlags := 8, code := some k2c0 }
/-- com/example/intact_keys/intactkeys/model/ValueType -/
def k2 : Class := { plain "com/example/intact_keys/intactkeys/model/ValueType" (some 0) with
  accessFlags := 1057
  interfaces := #[]
  cf := some (fileOf pool2 10 #[.nestMembers #[61, 238]] #[{ accessFlags := 8, nameIndex := 350, descriptorIndex := 351, attributes := #[] }] 1057 4 #[] #[{ accessFlags := 25, nameIndex := 84, descriptorIndex := 258, attributes := #[] }, { accessFlags := 25, nameIndex := 98, descriptorIndex := 258, attributes := #[] }, { accessFlags := 25, nameIndex := 106, descriptorIndex := 258, attributes := #[] }, { accessFlags := 25, nameIndex := 122, descriptorIndex := 258, attributes := #[] }, { accessFlags := 25, nameIndex := 126, descriptorIndex := 258, attributes := #[] }, { accessFlags := 25, nameIndex := 130, descriptorIndex := 258, attributes := #[] }, { accessFlags := 25, nameIndex := 138, descriptorIndex := 258, attributes := #[] }, { accessFlags := 25, nameIndex := 142, descriptorIndex := 258, attributes := #[] }, { accessFlags := 25, nameIndex := 144, descriptorIndex := 258, attributes := #[] }, { accessFlags := 25, nameIndex := 150, descriptorIndex := 258, attributes := #[] }, { accessFlags := 25, nameIndex := 152, descriptorIndex := 258, attributes := #[] }, { accessFlags := 25, nameIndex := 158, descriptorIndex := 258, attributes := #[] }, { accessFlags := 25, nameIndex := 160, descriptorIndex := 258, attributes := #[] }, { accessFlags := 25, nameIndex := 162, descriptorIndex := 258, attributes := #[] }, { accessFlags := 25, nameIndex := 180, descriptorIndex := 258, attributes := #[] }, { accessFlags := 25, nameIndex := 430, descriptorIndex := 431, attributes := #[] }, { accessFlags := 26, nameIndex := 302, descriptorIndex := 303, attributes := #[] }, { accessFlags := 18, nameIndex := 13, descriptorIndex := 14, attributes := #[] }, { accessFlags := 18, nameIndex := 17, descriptorIndex := 18, attributes := #[] }])
  fields := #[{ name := "SMALLINT", type := (.object "com/example/intact_keys/intactkeys/model/ValueType"), accessFlags := 25, slot := 0, constantValue := 0 }, { name := "INTEGER", type := (.object "com/example/intact_keys/intactkeys/model/ValueType"), accessFlags := 25, slot := 1, constantValue := 0 }, { name := "BIGINT", type := (.object "com/example/intact_keys/intactkeys/model/ValueType"), accessFlags := 25, slot := 2, constantValue := 0 }, { name := "DECIMAL", type := (.object "com/example/intact_keys/intactkeys/model/ValueType"), accessFlags := 25, slot := 3, constantValue := 0 }, { name := "REAL", type := (.object "com/example/intact_keys/intactkeys/model/ValueType"), accessFlags := 25, slot := 4, constantValue := 0 }, { name := "DOUBLE", type := (.object "com/example/intact_keys/intactkeys/model/ValueType"), accessFlags := 25, slot := 5, constantValue := 0 }, { name := "BOOLEAN", type := (.object "com/example/intact_keys/intactkeys/model/ValueType"), accessFlags := 25, slot := 6, constantValue := 0 }, { name := "DATE", type := (.object "com/example/intact_keys/intactkeys/model/ValueType"), accessFlags := 25, slot := 7, constantValue := 0 }, { name := "TIME", type := (.object "com/example/intact_keys/intactkeys/model/ValueType"), accessFlags := 25, slot := 8, constantValue := 0 }, { name := "TIMETZ", type := (.object "com/example/intact_keys/intactkeys/model/ValueType"), accessFlags := 25, slot := 9, constantValue := 0 }, { name := "TIMESTAMP", type := (.object "com/example/intact_keys/intactkeys/model/ValueType"), accessFlags := 25, slot := 10, constantValue := 0 }, { name := "TIMESTAMPTZ", type := (.object "com/example/intact_keys/intactkeys/model/ValueType"), accessFlags := 25, slot := 11, constantValue := 0 }, { name := "TEXT", type := (.object "com/example/intact_keys/intactkeys/model/ValueType"), accessFlags := 25, slot := 12, constantValue := 0 }, { name := "VARCHAR", type := (.object "com/example/intact_keys/intactkeys/model/ValueType"), accessFlags := 25, slot := 13, constantValue := 0 }, { name := "BPCHAR", type := (.object "com/example/intact_keys/intactkeys/model/ValueType"), accessFlags := 25, slot := 14, constantValue := 0 }, { name := "NO_NUMBER", type := .long, accessFlags := 25, slot := 15, constantValue := 0 }, { name := "FORMS", type := (.object "java/lang/ThreadLocal"), accessFlags := 26, slot := 16, constantValue := 0 }, { name := "kind", type := (.object "com/example/intact_keys/intactkeys/model/ValueType$Kind"), accessFlags := 18, slot := 0, constantValue := 0 }, { name := "name", type := (.object "java/lang/String"), accessFlags := 18, slot := 1, constantValue := 0 }]
  methods := #[k2m0]
  instanceTypes := #[(.object "com/example/intact_keys/intactkeys/model/ValueType$Kind"), (.object "java/lang/String")]
  staticTypes := #[(.object "com/example/intact_keys/intactkeys/model/ValueType"), (.object "com/example/intact_keys/intactkeys/model/ValueType"), (.object "com/example/intact_keys/intactkeys/model/ValueType"), (.object "com/example/intact_keys/intactkeys/model/ValueType"), (.object "com/example/intact_keys/intactkeys/model/ValueType"), (.object "com/example/intact_keys/intactkeys/model/ValueType"), (.object "com/example/intact_keys/intactkeys/model/ValueType"), (.object "com/example/intact_keys/intactkeys/model/ValueType"), (.object "com/example/intact_keys/intactkeys/model/ValueType"), (.object "com/example/intact_keys/intactkeys/model/ValueType"), (.object "com/example/intact_keys/intactkeys/model/ValueType"), (.object "com/example/intact_keys/intactkeys/model/ValueType"), (.object "com/example/intact_keys/intactkeys/model/ValueType"), (.object "com/example/intact_keys/intactkeys/model/ValueType"), (.object "com/example/intact_keys/intactkeys/model/ValueType"), .long, (.object "java/lang/ThreadLocal")]
  resolved := Array.replicate 523 none
  statics := none }

def pool3 : Array CpInfo := pool [(1, u "java/lang/Cloneable"), (0, .class_ 1), (0, u "java/lang/Object"), (0, .class_ 3)] 3

/-- java/lang/Cloneable -/
def k3 : Class := { plain "java/lang/Cloneable" (some 0) with
  accessFlags := 1537
  interfaces := #[]
  cf := some (fileOf pool3 2 #[] #[] 1537 4 #[] #[])
  fields := #[]
  methods := #[]
  instanceTypes := #[]
  staticTypes := #[]
  resolved := Array.replicate 8 none
  statics := none }

def pool4 : Array CpInfo := pool [(1, u "java/io/Serializable"), (0, .class_ 1), (0, u "java/lang/Object"), (0, .class_ 3)] 3

/-- java/io/Serializable -/
def k4 : Class := { plain "java/io/Serializable" (some 0) with
  accessFlags := 1537
  interfaces := #[]
  cf := some (fileOf pool4 2 #[] #[] 1537 4 #[] #[])
  fields := #[]
  methods := #[]
  instanceTypes := #[]
  staticTypes := #[]
  resolved := Array.replicate 8 none
  statics := none }

/-- the primitive byte -/
def k5 : Class := { plain "byte" none with kind := .primitive 'B', accessFlags := 0x411 }
/-- [B -/
def k6 : Class := { plain "[B" (some 0) with kind := .array 5 .byte, interfaces := #[3, 4], accessFlags := 1041 }

/-- the primitive int -/
def k7 : Class := { plain "int" none with kind := .primitive 'I', accessFlags := 0x411 }
/-- [I -/
def k8 : Class := { plain "[I" (some 0) with kind := .array 7 .int, interfaces := #[3, 4], accessFlags := 1041 }

def heap : Heap := #[]
def classes : Array Class := #[k0, k1, k2, k3, k4, k5, k6, k7, k8]
def interned : List (Array UInt16 × Addr) := []
def slotsUsed : Nat := 0
def theMethod : MethodId := ⟨1, 1⟩
def args0 : Array Value := #[.int 5]
def aboutOver (below : List Frame) : State where
  vm := { classes := classes, interned := interned.toArray }
  heap := heap
  slotsUsed := slotsUsed
  threads := #[{ frames := .invoking theMethod args0 :: below }]
def below0 : List Frame := [.native { method := ⟨0, 0⟩, args := #[] }]
def about1 : State := aboutOver below0
def p0 : Program := .bare "" "" ""
def e0 : Env := launch0.env 0 0 0
theorem w_frames : about1.frames = Frame.invoking theMethod args0 :: below0 := rfl
set_option maxRecDepth 65536 in
theorem w_args : argsFit about1.vm theMethod args0 = true := by decide +kernel
set_option maxRecDepth 65536 in
theorem w_heap : heapFits about1 = true := by decide +kernel
set_option maxRecDepth 65536 in
theorem w_runnable : about1.curStatus? = some .runnable := by decide +kernel
set_option maxRecDepth 65536 in
theorem w_alone : about1.alone = true := by decide +kernel
set_option maxRecDepth 65536 in
theorem w_named : about1.methodNamed? x = some theMethod := by decide +kernel
set_option maxRecDepth 65536 in
theorem w_hears : about1.hears theMethod below0 = true := by decide +kernel
set_option maxRecDepth 65536 in
theorem w_ripe : about1.ripe theMethod args0 below0 = true := by decide +kernel
theorem w_running : about1.status = .running := rfl
set_option maxRecDepth 65536 in
theorem w_room : about1.hasRoom e0.platform room_1 = true :=
  launch0.hasRoom_least _ room_1 (by decide +kernel) (by decide +kernel) (by decide +kernel) (by decide +kernel) (by decide +kernel) (by decide +kernel)
theorem allAtoms_all (ts : List Jvm.Cond) (a : Array Jvm.Value) (st : Jvm.State) : (allAtoms ts).before a st = ts.all (fun c => c.before a st) := by
  induction ts with
  | nil => rfl
  | cons c t ih =>
    show (Jvm.Cond.and c (allAtoms t)).before a st = _
    rw [Jvm.Cond.before_and, ih, List.all_cons]
def words1 : List Jvm.Cond := Jvm.Cond.code x code maxLocals ret :: tables_1
/-- a 'code' word, met by the world's own term for the bytes: nothing is compared byte by byte -/
theorem code_word {y : MethodName} {bytes : ByteArray} {mx : Nat} {rt : Option FieldType} {a : Array Value} {s : State} {m : MethodId} {meth : Method} {c : Code} (h1 : s.methodNamed? y = some m) (h2 : s.vm.method? m = some meth) (h3 : meth.code = some c) (h4 : c.code = bytes)
    (h5 : (c.maxLocals == mx && c.exceptionTable.isEmpty && decide (c.maxStack ≤ mostOperands) && decide (meth.sig.returnType = rt) && !meth.locks && decide (parseMethodDescriptor y.desc = some meth.sig)) = true) : (Jvm.Cond.code y bytes mx rt).before a s = true := by
  simp only [Bool.and_eq_true, beq_iff_eq, Bool.not_eq_true', decide_eq_true_eq] at h5
  obtain ⟨⟨⟨⟨⟨g1, g2⟩, g3⟩, g4⟩, g5⟩, g6⟩ := h5
  simp [Cond.before, Cond.holds, Cond.value, h1, h2, h3, h4, g1, g2, g3, g4, g5, g6]
def isCode : Jvm.Cond → Bool
  | .code _ _ _ _ => true
  | _ => false
theorem all_split {L : List Jvm.Cond} {P : Jvm.Cond → Bool} (h1 : L.all (fun c => isCode c || P c) = true) (h2 : ∀ c ∈ L.filter isCode, P c = true) : L.all P = true := by
  refine List.all_eq_true.mpr fun c hc => ?_
  have h := List.all_eq_true.mp h1 c hc
  rcases Bool.eq_false_or_eq_true (isCode c) with hi | hi
  · exact h2 c (List.mem_filter.mpr ⟨hc, hi⟩)
  · simpa [hi] using h
set_option maxRecDepth 65536 in
theorem w_c0 : (Jvm.Cond.code x code maxLocals ret).before args0 about1 = true := code_word (m := ⟨1, 1⟩) (meth := k1m1) (c := k1c1) (by decide +kernel) rfl rfl rfl (by decide +kernel)
set_option maxRecDepth 65536 in
theorem w_c1 : (Jvm.Cond.code ({ cls := "com/example/intact_keys/intactkeys/model/ValueType", name := "isBlank", desc := "(C)Z" } : Jvm.MethodName) prog_191_method_43_code (1 : Nat) (Option.some Jvm.ClassFile.FieldType.boolean)).before args0 about1 = true := code_word (m := ⟨2, 0⟩) (meth := k2m0) (c := k2c0) (by decide +kernel) rfl rfl rfl (by decide +kernel)
def codes1 : List Jvm.Cond := [Jvm.Cond.code x code maxLocals ret, Jvm.Cond.code ({ cls := "com/example/intact_keys/intactkeys/model/ValueType", name := "isBlank", desc := "(C)Z" } : Jvm.MethodName) prog_191_method_43_code (1 : Nat) (Option.some Jvm.ClassFile.FieldType.boolean)]
set_option maxRecDepth 65536 in
theorem codes_eq : words1.filter isCode = codes1 := rfl
theorem w_codes : ∀ c ∈ words1.filter isCode, c.before args0 about1 = true := by
  rw [codes_eq]
  intro c hc
  simp only [codes1, List.mem_cons, List.not_mem_nil, or_false] at hc
  rcases hc with rfl | rfl
  · exact w_c0
  · exact w_c1
set_option maxRecDepth 65536 in
theorem w_t1 : words1.all (fun c => isCode c || c.before args0 about1) = true := by decide +kernel
theorem w_tables : (allAtoms (Jvm.Cond.code x code maxLocals ret :: tables_1)).before args0 about1 = true := by
  rw [allAtoms_all]
  show words1.all (fun c => c.before args0 about1) = true
  refine all_split ?_ w_codes
  rw [w_t1]
set_option maxRecDepth 65536 in
theorem w_case : (Jvm.Cond.and given_1 narrow_1).before args0 about1 = true := by decide +kernel
theorem w_applies : (headSpec (Jvm.Cond.code x code maxLocals ret :: tables_1) room_1).applies x e0.platform about1 = true :=
  (Spec.applies_iff w_frames).mpr ⟨w_running, w_runnable, w_alone, w_named, w_hears, w_ripe, w_room, w_tables⟩
theorem atStart : AtStart classFile x code maxLocals ret World_1 tables_1 room_1 Calls_1 rest_1 Pre_1 launch0 p0 e0 about1 theMethod args0 below0 :=
  ⟨lists_1, trivial, launch0.admits_env _ _ _, launch0.least_env, fairChoices_fair.cas, fairChoices_fair.clock, w_frames, w_args, w_heap, w_applies, trivial, trivial, w_case⟩
end start1
theorem witness_1 : WitnessClaimed_1 := ⟨start1.p0, start1.e0, start1.about1, start1.theMethod, start1.args0, start1.below0, start1.atStart⟩
end Jvm.Pilot.@@N@@
