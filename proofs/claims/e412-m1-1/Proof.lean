import JvmDerived
import JvmDerived.Pilot.@@N@@Statement
import JvmDerived.Pilot.@@N@@Code
set_option linter.unusedVariables false
set_option linter.unusedSimpArgs false
namespace Jvm.RoadKit
open Sem ClassFile Op Lib Jvm.Stand Jvm.Free Jvm.LawKit
section New
variable {p : Program} {l : Launch} {e : Env} {R : Room} {s : State} {m : MethodId} {args : Array Value} {below : List Frame} {meth : Method} {c : Code} {T : State} {locs : List Loc} {cells slots : Nat}
theorem retI (X : Stand p l e R s m args below meth c T locs cells slots) (hx : p.tables.exec = Jvm.exec) {pc : Nat} {Ls : Array Slot} {z : Int32} {rest : List Value} (hret : meth.sig.returnType = some .int) (hd : decode c.code pc = .ok (.ireturn, 1)) {fs : List Frame}
    (hl : ∀ (f : JFrame) (acts : List Action), f.method = m → f.locked = none → f.entered = [] → (doReturn e (T.setTop f) acts (some (.int z))).1 = T.setFrames fs) : Steps p.tables e below (T.setTop (mkF m pc Ls (.int z :: rest))) (T.setFrames fs) := by
  have hm' : T.vm.method? m = some meth := X.method'
  have hn : narrow .int (.int z) = .int z := rfl
  show Steps p.tables e below (T.setTop { method := m, pc := pc, locals := Ls, stack := _ :: rest, locked := none }) _
  jvm_step X.here [X.here.top, hx, hd, hm', hret, hn]
  first | (intro acts; rw [hl _ acts rfl rfl rfl]) | rw [hl _ _ rfl rfl rfl]
  exact Steps.refl _
end New
end Jvm.RoadKit
namespace Jvm.Pilot.@@N@@
open Jvm Jvm.ClassFile Sem Op Lib Jvm.Free Jvm.Stand Jvm.LawKit Jvm.RoadKit Bundle Jvm.Pilot.@@N@@.Jvm.D
theorem own_nar {z : Int32} (h : z = 0 ∨ z = 1) : nar .boolean z = z := by rcases h with rfl | rfl <;> rfl
theorem d1_0 : decode method_2_code 0 = .ok (.iload_n 0, 1) := by decide +kernel
theorem d1_1 : decode method_2_code 1 = .ok (.ifCond .ne 5, 3) := by decide +kernel
theorem d1_4 : decode method_2_code 4 = .ok (.iload_n 1, 1) := by decide +kernel
theorem d1_5 : decode method_2_code 5 = .ok (.ireturn, 1) := by decide +kernel
theorem d1_6 : decode method_2_code 6 = .ok (.iload_n 0, 1) := by decide +kernel
theorem d1_7 : decode method_2_code 7 = .ok (.iconst 1, 1) := by decide +kernel
theorem d1_8 : decode method_2_code 8 = .ok (.if_icmp .ne 5, 3) := by decide +kernel
theorem d1_11 : decode method_2_code 11 = .ok (.iload_n 2, 1) := by decide +kernel
theorem d1_12 : decode method_2_code 12 = .ok (.ireturn, 1) := by decide +kernel
theorem d1_13 : decode method_2_code 13 = .ok (.iload_n 0, 1) := by decide +kernel
theorem d1_14 : decode method_2_code 14 = .ok (.iconst 2, 1) := by decide +kernel
theorem d1_15 : decode method_2_code 15 = .ok (.if_icmp .ne 5, 3) := by decide +kernel
theorem d1_18 : decode method_2_code 18 = .ok (.iload_n 3, 1) := by decide +kernel
theorem d1_19 : decode method_2_code 19 = .ok (.ireturn, 1) := by decide +kernel
theorem d1_20 : decode method_2_code 20 = .ok (.iload 4, 2) := by decide +kernel
theorem d1_22 : decode method_2_code 22 = .ok (.ireturn, 1) := by decide +kernel
theorem d2_0 : decode prog_44_method_5_code 0 = .ok (.iconst 0, 1) := by decide +kernel
theorem d2_1 : decode prog_44_method_5_code 1 = .ok (.istore_n 2, 1) := by decide +kernel
theorem d2_2 : decode prog_44_method_5_code 2 = .ok (.aload_n 1, 1) := by decide +kernel
theorem d2_3 : decode prog_44_method_5_code 3 = .ok (.astore_n 3, 1) := by decide +kernel
theorem d2_4 : decode prog_44_method_5_code 4 = .ok (.aload_n 3, 1) := by decide +kernel
theorem d2_5 : decode prog_44_method_5_code 5 = .ok (.arraylength, 1) := by decide +kernel
theorem d2_6 : decode prog_44_method_5_code 6 = .ok (.istore 4, 2) := by decide +kernel
theorem d2_8 : decode prog_44_method_5_code 8 = .ok (.iconst 0, 1) := by decide +kernel
theorem d2_9 : decode prog_44_method_5_code 9 = .ok (.istore 5, 2) := by decide +kernel
theorem d2_11 : decode prog_44_method_5_code 11 = .ok (.iload 5, 2) := by decide +kernel
theorem d2_13 : decode prog_44_method_5_code 13 = .ok (.iload 4, 2) := by decide +kernel
theorem d2_15 : decode prog_44_method_5_code 15 = .ok (.if_icmp .ge 51, 3) := by decide +kernel
theorem d2_18 : decode prog_44_method_5_code 18 = .ok (.aload_n 3, 1) := by decide +kernel
theorem d2_19 : decode prog_44_method_5_code 19 = .ok (.iload 5, 2) := by decide +kernel
theorem d2_21 : decode prog_44_method_5_code 21 = .ok (.iaload, 1) := by decide +kernel
theorem d2_22 : decode prog_44_method_5_code 22 = .ok (.istore 6, 2) := by decide +kernel
theorem d2_24 : decode prog_44_method_5_code 24 = .ok (.iload_n 2, 1) := by decide +kernel
theorem d2_25 : decode prog_44_method_5_code 25 = .ok (.aload_n 0, 1) := by decide +kernel
theorem d2_26 : decode prog_44_method_5_code 26 = .ok (.arraylength, 1) := by decide +kernel
theorem d2_27 : decode prog_44_method_5_code 27 = .ok (.if_icmp .ge 17, 3) := by decide +kernel
theorem d2_30 : decode prog_44_method_5_code 30 = .ok (.aload_n 0, 1) := by decide +kernel
theorem d2_31 : decode prog_44_method_5_code 31 = .ok (.iload_n 2, 1) := by decide +kernel
theorem d2_32 : decode prog_44_method_5_code 32 = .ok (.iaload, 1) := by decide +kernel
theorem d2_33 : decode prog_44_method_5_code 33 = .ok (.iload 6, 2) := by decide +kernel
theorem d2_35 : decode prog_44_method_5_code 35 = .ok (.if_icmp .ge 9, 3) := by decide +kernel
theorem d2_38 : decode prog_44_method_5_code 38 = .ok (.iinc 2 1, 3) := by decide +kernel
theorem d2_41 : decode prog_44_method_5_code 41 = .ok (.goto (-17), 3) := by decide +kernel
theorem d2_44 : decode prog_44_method_5_code 44 = .ok (.iload_n 2, 1) := by decide +kernel
theorem d2_45 : decode prog_44_method_5_code 45 = .ok (.aload_n 0, 1) := by decide +kernel
theorem d2_46 : decode prog_44_method_5_code 46 = .ok (.arraylength, 1) := by decide +kernel
theorem d2_47 : decode prog_44_method_5_code 47 = .ok (.if_icmp .eq 11, 3) := by decide +kernel
theorem d2_50 : decode prog_44_method_5_code 50 = .ok (.aload_n 0, 1) := by decide +kernel
theorem d2_51 : decode prog_44_method_5_code 51 = .ok (.iload_n 2, 1) := by decide +kernel
theorem d2_52 : decode prog_44_method_5_code 52 = .ok (.iaload, 1) := by decide +kernel
theorem d2_53 : decode prog_44_method_5_code 53 = .ok (.iload 6, 2) := by decide +kernel
theorem d2_55 : decode prog_44_method_5_code 55 = .ok (.if_icmp .eq 5, 3) := by decide +kernel
theorem d2_58 : decode prog_44_method_5_code 58 = .ok (.iconst 0, 1) := by decide +kernel
theorem d2_59 : decode prog_44_method_5_code 59 = .ok (.ireturn, 1) := by decide +kernel
theorem d2_60 : decode prog_44_method_5_code 60 = .ok (.iinc 5 1, 3) := by decide +kernel
theorem d2_63 : decode prog_44_method_5_code 63 = .ok (.goto (-52), 3) := by decide +kernel
theorem d2_66 : decode prog_44_method_5_code 66 = .ok (.iconst 1, 1) := by decide +kernel
theorem d2_67 : decode prog_44_method_5_code 67 = .ok (.ireturn, 1) := by decide +kernel
theorem d3_0 : decode jdk_29_method_69_code 0 = .ok (.iload_n 0, 1) := by decide +kernel
theorem d3_1 : decode jdk_29_method_69_code 1 = .ok (.iload_n 1, 1) := by decide +kernel
theorem d3_2 : decode jdk_29_method_69_code 2 = .ok (.if_icmp .gt 7, 3) := by decide +kernel
theorem d3_5 : decode jdk_29_method_69_code 5 = .ok (.iload_n 0, 1) := by decide +kernel
theorem d3_6 : decode jdk_29_method_69_code 6 = .ok (.goto 4, 3) := by decide +kernel
theorem d3_9 : decode jdk_29_method_69_code 9 = .ok (.iload_n 1, 1) := by decide +kernel
theorem d3_10 : decode jdk_29_method_69_code 10 = .ok (.ireturn, 1) := by decide +kernel
theorem d4_0 : decode jdk_29_method_65_code 0 = .ok (.iload_n 0, 1) := by decide +kernel
theorem d4_1 : decode jdk_29_method_65_code 1 = .ok (.iload_n 1, 1) := by decide +kernel
theorem d4_2 : decode jdk_29_method_65_code 2 = .ok (.if_icmp .lt 7, 3) := by decide +kernel
theorem d4_5 : decode jdk_29_method_65_code 5 = .ok (.iload_n 0, 1) := by decide +kernel
theorem d4_6 : decode jdk_29_method_65_code 6 = .ok (.goto 4, 3) := by decide +kernel
theorem d4_9 : decode jdk_29_method_65_code 9 = .ok (.iload_n 1, 1) := by decide +kernel
theorem d4_10 : decode jdk_29_method_65_code 10 = .ok (.ireturn, 1) := by decide +kernel
theorem d5_0 : decode method_3_code 0 = .ok (.iload_n 1, 1) := by decide +kernel
theorem d5_1 : decode method_3_code 1 = .ok (.ifCond .le 10, 3) := by decide +kernel
theorem d5_4 : decode method_3_code 4 = .ok (.aload_n 0, 1) := by decide +kernel
theorem d5_5 : decode method_3_code 5 = .ok (.iconst 0, 1) := by decide +kernel
theorem d5_6 : decode method_3_code 6 = .ok (.iaload, 1) := by decide +kernel
theorem d5_7 : decode method_3_code 7 = .ok (.iload_n 2, 1) := by decide +kernel
theorem d5_8 : decode method_3_code 8 = .ok (.if_icmp .eq 27, 3) := by decide +kernel
theorem d5_11 : decode method_3_code 11 = .ok (.iload_n 1, 1) := by decide +kernel
theorem d5_12 : decode method_3_code 12 = .ok (.iconst 1, 1) := by decide +kernel
theorem d5_13 : decode method_3_code 13 = .ok (.if_icmp .le 10, 3) := by decide +kernel
theorem d5_16 : decode method_3_code 16 = .ok (.aload_n 0, 1) := by decide +kernel
theorem d5_17 : decode method_3_code 17 = .ok (.iconst 1, 1) := by decide +kernel
theorem d5_18 : decode method_3_code 18 = .ok (.iaload, 1) := by decide +kernel
theorem d5_19 : decode method_3_code 19 = .ok (.iload_n 2, 1) := by decide +kernel
theorem d5_20 : decode method_3_code 20 = .ok (.if_icmp .eq 15, 3) := by decide +kernel
theorem d5_23 : decode method_3_code 23 = .ok (.iload_n 1, 1) := by decide +kernel
theorem d5_24 : decode method_3_code 24 = .ok (.iconst 2, 1) := by decide +kernel
theorem d5_25 : decode method_3_code 25 = .ok (.if_icmp .le 14, 3) := by decide +kernel
theorem d5_28 : decode method_3_code 28 = .ok (.aload_n 0, 1) := by decide +kernel
theorem d5_29 : decode method_3_code 29 = .ok (.iconst 2, 1) := by decide +kernel
theorem d5_30 : decode method_3_code 30 = .ok (.iaload, 1) := by decide +kernel
theorem d5_31 : decode method_3_code 31 = .ok (.iload_n 2, 1) := by decide +kernel
theorem d5_32 : decode method_3_code 32 = .ok (.if_icmp .ne 7, 3) := by decide +kernel
theorem d5_35 : decode method_3_code 35 = .ok (.iconst 1, 1) := by decide +kernel
theorem d5_36 : decode method_3_code 36 = .ok (.goto 4, 3) := by decide +kernel
theorem d5_39 : decode method_3_code 39 = .ok (.iconst 0, 1) := by decide +kernel
theorem d5_40 : decode method_3_code 40 = .ok (.ireturn, 1) := by decide +kernel
def own_pick_f0 (k0 : Int32) (k1 : Int32) (k2 : Int32) (k3 : Int32) (k4 : Int32) : Int32 := (if k0 = (0 : Int32) then k1 else (if k0 = (1 : Int32) then k2 else (if k0 = (2 : Int32) then k3 else k4)))
set_option maxRecDepth 65536 in
set_option maxHeartbeats 40000000 in
theorem own_pick_b0 {p : Program} {l : Launch} {e : Env} {R : Room} {s : State} {m : MethodId} {args : Array Value} {below : List Frame} {meth : Method} {c : Code} {T0 : State} {locs : List Loc} {cells slots : Nat} {Z : State} {a0 : Array Value} {h0 : Heap} (k0 : Int32) (k1 : Int32) (k2 : Int32) (k3 : Int32) (k4 : Int32)
    (X0 : Stand p l e R s m args below meth c T0 locs cells slots) (hx : p.tables.exec = Jvm.exec) (hZ : Z.Warmed39 s.vm) (hw : ∀ d ∈ tables_1, d.before a0 Z = true) (hby : c.code = method_2_code) (hml : c.maxLocals = 5) (hown : s.vm.findClass "com/example/bundlewright/bundlewright/IntArraysHoldsAllPinLaw" = some m.cls) (e0 : T0.heap = h0)  (F : Int32) (hF : F = own_pick_f0 k0 k1 k2 k3 k4 ) :
    ∃ (T' : State) (pc' : Nat) (Ls : Array Slot), Stand p l e R s m args below meth c T' locs cells slots ∧ T'.heap = h0 ∧ decode c.code pc' = .ok (.ireturn, 1) ∧
      ∀ target, Steps p.tables e below (T'.setTop (mkF m pc' Ls [.int F])) target → Steps p.tables e below (T0.setTop (mkF m 0 #[.val (.int k0), .val (.int k1), .val (.int k2), .val (.int k3), .val (.int k4)] [])) target := by
  by_cases hc1_1 : k0 = (0 : Int32)
  · have hv : F = k1 := (hF.trans (by rw [own_pick_f0, if_pos hc1_1]))
    refine ⟨T0, 5, #[.val (.int k0), .val (.int k1), .val (.int k2), .val (.int k3), .val (.int k4)], X0, e0, (hb hby d1_5), fun target kt => ?_⟩
    rw [hv] at kt
    show Steps p.tables e below (T0.setTop (mkF m 0 #[.val (.int k0), .val (.int k1), .val (.int k2), .val (.int k3), .val (.int k4)] [])) _
    refine XS.iloadN X0.here hx rfl (hb hby d1_0) rfl ?_
    show Steps p.tables e below (T0.setTop (mkF m 1 #[.val (.int k0), .val (.int k1), .val (.int k2), .val (.int k3), .val (.int k4)] [(.int k0)])) _
    refine XS.ifNo X0.here hx rfl (hb hby d1_1) rfl ((if0 _ _).trans (teq hc1_1).2) ?_
    show Steps p.tables e below (T0.setTop (mkF m 4 #[.val (.int k0), .val (.int k1), .val (.int k2), .val (.int k3), .val (.int k4)] [])) _
    refine XS.iloadN X0.here hx rfl (hb hby d1_4) rfl ?_
    show Steps p.tables e below (T0.setTop (mkF m 5 #[.val (.int k0), .val (.int k1), .val (.int k2), .val (.int k3), .val (.int k4)] [(.int k1)])) _
    exact kt
  · by_cases hc8_2 : k0 = (1 : Int32)
    · have hv : F = k2 := (hF.trans (by rw [own_pick_f0, if_neg hc1_1, if_pos hc8_2]))
      refine ⟨T0, 12, #[.val (.int k0), .val (.int k1), .val (.int k2), .val (.int k3), .val (.int k4)], X0, e0, (hb hby d1_12), fun target kt => ?_⟩
      rw [hv] at kt
      show Steps p.tables e below (T0.setTop (mkF m 0 #[.val (.int k0), .val (.int k1), .val (.int k2), .val (.int k3), .val (.int k4)] [])) _
      refine XS.iloadN X0.here hx rfl (hb hby d1_0) rfl ?_
      show Steps p.tables e below (T0.setTop (mkF m 1 #[.val (.int k0), .val (.int k1), .val (.int k2), .val (.int k3), .val (.int k4)] [(.int k0)])) _
      refine XS.ifYes X0.here hx rfl (pc0 := 1) (pc' := 6) rfl (hb hby d1_1) rfl ((if0 _ _).trans (feq hc1_1).2) (by decide) (by decide) ?_
      show Steps p.tables e below (T0.setTop (mkF m 6 #[.val (.int k0), .val (.int k1), .val (.int k2), .val (.int k3), .val (.int k4)] [])) _
      refine XS.iloadN X0.here hx rfl (hb hby d1_6) rfl ?_
      show Steps p.tables e below (T0.setTop (mkF m 7 #[.val (.int k0), .val (.int k1), .val (.int k2), .val (.int k3), .val (.int k4)] [(.int k0)])) _
      refine XS.iconst X0.here hx rfl (hb hby d1_7) ?_
      show Steps p.tables e below (T0.setTop (mkF m 8 #[.val (.int k0), .val (.int k1), .val (.int k2), .val (.int k3), .val (.int k4)] [(.int (1 : Int32)), (.int k0)])) _
      refine XS.icmpNo X0.here hx rfl (hb hby d1_8) rfl (teq hc8_2).2 ?_
      show Steps p.tables e below (T0.setTop (mkF m 11 #[.val (.int k0), .val (.int k1), .val (.int k2), .val (.int k3), .val (.int k4)] [])) _
      refine XS.iloadN X0.here hx rfl (hb hby d1_11) rfl ?_
      show Steps p.tables e below (T0.setTop (mkF m 12 #[.val (.int k0), .val (.int k1), .val (.int k2), .val (.int k3), .val (.int k4)] [(.int k2)])) _
      exact kt
    · by_cases hc15_3 : k0 = (2 : Int32)
      · have hv : F = k3 := (hF.trans (by rw [own_pick_f0, if_neg hc1_1, if_neg hc8_2, if_pos hc15_3]))
        refine ⟨T0, 19, #[.val (.int k0), .val (.int k1), .val (.int k2), .val (.int k3), .val (.int k4)], X0, e0, (hb hby d1_19), fun target kt => ?_⟩
        rw [hv] at kt
        show Steps p.tables e below (T0.setTop (mkF m 0 #[.val (.int k0), .val (.int k1), .val (.int k2), .val (.int k3), .val (.int k4)] [])) _
        refine XS.iloadN X0.here hx rfl (hb hby d1_0) rfl ?_
        show Steps p.tables e below (T0.setTop (mkF m 1 #[.val (.int k0), .val (.int k1), .val (.int k2), .val (.int k3), .val (.int k4)] [(.int k0)])) _
        refine XS.ifYes X0.here hx rfl (pc0 := 1) (pc' := 6) rfl (hb hby d1_1) rfl ((if0 _ _).trans (feq hc1_1).2) (by decide) (by decide) ?_
        show Steps p.tables e below (T0.setTop (mkF m 6 #[.val (.int k0), .val (.int k1), .val (.int k2), .val (.int k3), .val (.int k4)] [])) _
        refine XS.iloadN X0.here hx rfl (hb hby d1_6) rfl ?_
        show Steps p.tables e below (T0.setTop (mkF m 7 #[.val (.int k0), .val (.int k1), .val (.int k2), .val (.int k3), .val (.int k4)] [(.int k0)])) _
        refine XS.iconst X0.here hx rfl (hb hby d1_7) ?_
        show Steps p.tables e below (T0.setTop (mkF m 8 #[.val (.int k0), .val (.int k1), .val (.int k2), .val (.int k3), .val (.int k4)] [(.int (1 : Int32)), (.int k0)])) _
        refine XS.icmpYes X0.here hx rfl (pc0 := 8) (pc' := 13) rfl (hb hby d1_8) rfl (feq hc8_2).2 (by decide) (by decide) ?_
        show Steps p.tables e below (T0.setTop (mkF m 13 #[.val (.int k0), .val (.int k1), .val (.int k2), .val (.int k3), .val (.int k4)] [])) _
        refine XS.iloadN X0.here hx rfl (hb hby d1_13) rfl ?_
        show Steps p.tables e below (T0.setTop (mkF m 14 #[.val (.int k0), .val (.int k1), .val (.int k2), .val (.int k3), .val (.int k4)] [(.int k0)])) _
        refine XS.iconst X0.here hx rfl (hb hby d1_14) ?_
        show Steps p.tables e below (T0.setTop (mkF m 15 #[.val (.int k0), .val (.int k1), .val (.int k2), .val (.int k3), .val (.int k4)] [(.int (2 : Int32)), (.int k0)])) _
        refine XS.icmpNo X0.here hx rfl (hb hby d1_15) rfl (teq hc15_3).2 ?_
        show Steps p.tables e below (T0.setTop (mkF m 18 #[.val (.int k0), .val (.int k1), .val (.int k2), .val (.int k3), .val (.int k4)] [])) _
        refine XS.iloadN X0.here hx rfl (hb hby d1_18) rfl ?_
        show Steps p.tables e below (T0.setTop (mkF m 19 #[.val (.int k0), .val (.int k1), .val (.int k2), .val (.int k3), .val (.int k4)] [(.int k3)])) _
        exact kt
      · have hv : F = k4 := (hF.trans (by rw [own_pick_f0, if_neg hc1_1, if_neg hc8_2, if_neg hc15_3]))
        refine ⟨T0, 22, #[.val (.int k0), .val (.int k1), .val (.int k2), .val (.int k3), .val (.int k4)], X0, e0, (hb hby d1_22), fun target kt => ?_⟩
        rw [hv] at kt
        show Steps p.tables e below (T0.setTop (mkF m 0 #[.val (.int k0), .val (.int k1), .val (.int k2), .val (.int k3), .val (.int k4)] [])) _
        refine XS.iloadN X0.here hx rfl (hb hby d1_0) rfl ?_
        show Steps p.tables e below (T0.setTop (mkF m 1 #[.val (.int k0), .val (.int k1), .val (.int k2), .val (.int k3), .val (.int k4)] [(.int k0)])) _
        refine XS.ifYes X0.here hx rfl (pc0 := 1) (pc' := 6) rfl (hb hby d1_1) rfl ((if0 _ _).trans (feq hc1_1).2) (by decide) (by decide) ?_
        show Steps p.tables e below (T0.setTop (mkF m 6 #[.val (.int k0), .val (.int k1), .val (.int k2), .val (.int k3), .val (.int k4)] [])) _
        refine XS.iloadN X0.here hx rfl (hb hby d1_6) rfl ?_
        show Steps p.tables e below (T0.setTop (mkF m 7 #[.val (.int k0), .val (.int k1), .val (.int k2), .val (.int k3), .val (.int k4)] [(.int k0)])) _
        refine XS.iconst X0.here hx rfl (hb hby d1_7) ?_
        show Steps p.tables e below (T0.setTop (mkF m 8 #[.val (.int k0), .val (.int k1), .val (.int k2), .val (.int k3), .val (.int k4)] [(.int (1 : Int32)), (.int k0)])) _
        refine XS.icmpYes X0.here hx rfl (pc0 := 8) (pc' := 13) rfl (hb hby d1_8) rfl (feq hc8_2).2 (by decide) (by decide) ?_
        show Steps p.tables e below (T0.setTop (mkF m 13 #[.val (.int k0), .val (.int k1), .val (.int k2), .val (.int k3), .val (.int k4)] [])) _
        refine XS.iloadN X0.here hx rfl (hb hby d1_13) rfl ?_
        show Steps p.tables e below (T0.setTop (mkF m 14 #[.val (.int k0), .val (.int k1), .val (.int k2), .val (.int k3), .val (.int k4)] [(.int k0)])) _
        refine XS.iconst X0.here hx rfl (hb hby d1_14) ?_
        show Steps p.tables e below (T0.setTop (mkF m 15 #[.val (.int k0), .val (.int k1), .val (.int k2), .val (.int k3), .val (.int k4)] [(.int (2 : Int32)), (.int k0)])) _
        refine XS.icmpYes X0.here hx rfl (pc0 := 15) (pc' := 20) rfl (hb hby d1_15) rfl (feq hc15_3).2 (by decide) (by decide) ?_
        show Steps p.tables e below (T0.setTop (mkF m 20 #[.val (.int k0), .val (.int k1), .val (.int k2), .val (.int k3), .val (.int k4)] [])) _
        refine XS.iload X0.here hx rfl (hb hby d1_20) rfl ?_
        show Steps p.tables e below (T0.setTop (mkF m 22 #[.val (.int k0), .val (.int k1), .val (.int k2), .val (.int k3), .val (.int k4)] [(.int k4)])) _
        exact kt
theorem pn_1 : plainName "com/example/bundlewright/bundlewright/IntArraysHoldsAllPinLaw" = true := by first | (simp [plainName, overriddenIn]; done) | decide +kernel
theorem ef_1 (m : MethodId) (k0 : Int32) (k1 : Int32) (k2 : Int32) (k3 : Int32) (k4 : Int32) : entryFrame m #[(.int k0), (.int k1), (.int k2), (.int k3), (.int k4)] 5 = mkF m 0 #[.val (.int k0), .val (.int k1), .val (.int k2), .val (.int k3), .val (.int k4)] [] := by first | (simp [entryFrame, mkF, argsToLocals, Value.category]; done) | rfl
def Q1 (k0 : Int32) (k1 : Int32) (k2 : Int32) (k3 : Int32) (k4 : Int32)  (h0 : Heap) (n0 : Nat) (v : Option Value) (h : Heap) (L : List Loc) : Prop := v = some (.int (own_pick_f0 k0 k1 k2 k3 k4)) ∧ Fr n0 L ∧ h = h0
set_option maxRecDepth 65536 in
set_option maxHeartbeats 40000000 in
theorem rm1 (l : Launch) (Z : State) (a0 : Array Value) (hw : ∀ d ∈ tables_1, d.before a0 Z = true) (ws : List Jvm.Cond) (k0 : Int32) (k1 : Int32) (k2 : Int32) (k3 : Int32) (k4 : Int32)  (h0 : Heap) (n0 : Nat) (Z0 : n0 ≤ h0.size)  :
    MetFree l (⟨"com/example/bundlewright/bundlewright/IntArraysHoldsAllPinLaw", "pick", "(IIIII)I"⟩ : MethodName) (head1 (Jvm.Cond.code (⟨"com/example/bundlewright/bundlewright/IntArraysHoldsAllPinLaw", "pick", "(IIIII)I"⟩ : MethodName) method_2_code 5 (some .int) :: ws) ({ frames := 0, cells := 0, slots := 0, locals := 0 } : Room)) (fun a U => a = #[(.int k0), (.int k1), (.int k2), (.int k3), (.int k4)] ∧ Z.Warmed39 U.vm ∧ U.heap = h0) (fun _ _ _ _ _ => True) (fun _ U o U' => ∃ v L, o = .returned v ∧ Q1 k0 k1 k2 k3 k4  h0 n0 v U'.heap L ∧ FrameEnd U o U' L (({ frames := 0, cells := 0, slots := 0, locals := 0 } : Room)).cells (({ frames := 0, cells := 0, slots := 0, locals := 0 } : Room)).slots) := by
  refine MetFree.of_bodySF (plainFor_of_name pn_1) hisR ?_
  intro p e s m args below meth c s₁ Bd hml0 hP hK
  obtain ⟨rfl, hZ, hh⟩ := hP
  have hx := Bd.exec
  have hby := Bd.bytes
  have hml : c.maxLocals = 5 := hml0
  have hown : s.vm.findClass "com/example/bundlewright/bundlewright/IntArraysHoldsAllPinLaw" = some m.cls := findClass_of_methodNamed Bd.named
  have X0 : Stand p l e ({ frames := 0, cells := 0, slots := 0, locals := 0 } : Room) s m #[(.int k0), (.int k1), (.int k2), (.int k3), (.int k4)] below meth c s₁ [] 0 0 := Stand.of_body Bd
  have e0 : s₁.heap = h0 := by rw [← hh, Bd.state]; rfl
  obtain ⟨T', pc', Ls, X', e', hd', st'⟩ := own_pick_b0 k0 k1 k2 k3 k4 X0 hx hZ hw hby hml hown e0  (own_pick_f0 k0 k1 k2 k3 k4) rfl
  obtain ⟨fs, hr, hrun, hended, hW, hsame⟩ := X'.leave (v := some (.int (own_pick_f0 k0 k1 k2 k3 k4))) (fun h => by rw [Bd.returns] at h; cases h)
  refine ⟨_, _, castTop (ef_1 m k0 k1 k2 k3 k4) (st' _ ?_), hrun, hended, _, _, rfl, ?_, ⟨_, rfl⟩, hW, hsame.mono (by decide) (by decide)⟩
  · exact retI X' hx Bd.returns hd' hr
  · exact ⟨rfl, Fr.nil n0, e'⟩
def own_min_f0 (k0 : Int32) (k1 : Int32) : Int32 := (if k1 < k0 then k1 else k0)
set_option maxRecDepth 65536 in
set_option maxHeartbeats 40000000 in
theorem own_min_b0 {p : Program} {l : Launch} {e : Env} {R : Room} {s : State} {m : MethodId} {args : Array Value} {below : List Frame} {meth : Method} {c : Code} {T0 : State} {locs : List Loc} {cells slots : Nat} {Z : State} {a0 : Array Value} {h0 : Heap} (k0 : Int32) (k1 : Int32)
    (X0 : Stand p l e R s m args below meth c T0 locs cells slots) (hx : p.tables.exec = Jvm.exec) (hZ : Z.Warmed39 s.vm) (hw : ∀ d ∈ tables_1, d.before a0 Z = true) (hby : c.code = jdk_29_method_69_code) (hml : c.maxLocals = 2) (hown : s.vm.findClass "java/lang/Math" = some m.cls) (e0 : T0.heap = h0)  (F : Int32) (hF : F = own_min_f0 k0 k1 ) :
    ∃ (T' : State) (pc' : Nat) (Ls : Array Slot), Stand p l e R s m args below meth c T' locs cells slots ∧ T'.heap = h0 ∧ decode c.code pc' = .ok (.ireturn, 1) ∧
      ∀ target, Steps p.tables e below (T'.setTop (mkF m pc' Ls [.int F])) target → Steps p.tables e below (T0.setTop (mkF m 0 #[.val (.int k0), .val (.int k1)] [])) target := by
  by_cases hc2_1 : k1 < k0
  · have hv : F = k1 := (hF.trans (by rw [own_min_f0, if_pos hc2_1]))
    refine ⟨T0, 10, #[.val (.int k0), .val (.int k1)], X0, e0, (hb hby d3_10), fun target kt => ?_⟩
    rw [hv] at kt
    show Steps p.tables e below (T0.setTop (mkF m 0 #[.val (.int k0), .val (.int k1)] [])) _
    refine XS.iloadN X0.here hx rfl (hb hby d3_0) rfl ?_
    show Steps p.tables e below (T0.setTop (mkF m 1 #[.val (.int k0), .val (.int k1)] [(.int k0)])) _
    refine XS.iloadN X0.here hx rfl (hb hby d3_1) rfl ?_
    show Steps p.tables e below (T0.setTop (mkF m 2 #[.val (.int k0), .val (.int k1)] [(.int k1), (.int k0)])) _
    refine XS.icmpYes X0.here hx rfl (pc0 := 2) (pc' := 9) rfl (hb hby d3_2) rfl (tlt hc2_1).2.2.1 (by decide) (by decide) ?_
    show Steps p.tables e below (T0.setTop (mkF m 9 #[.val (.int k0), .val (.int k1)] [])) _
    refine XS.iloadN X0.here hx rfl (hb hby d3_9) rfl ?_
    show Steps p.tables e below (T0.setTop (mkF m 10 #[.val (.int k0), .val (.int k1)] [(.int k1)])) _
    exact kt
  · have hv : F = k0 := (hF.trans (by rw [own_min_f0, if_neg hc2_1]))
    refine ⟨T0, 10, #[.val (.int k0), .val (.int k1)], X0, e0, (hb hby d3_10), fun target kt => ?_⟩
    rw [hv] at kt
    show Steps p.tables e below (T0.setTop (mkF m 0 #[.val (.int k0), .val (.int k1)] [])) _
    refine XS.iloadN X0.here hx rfl (hb hby d3_0) rfl ?_
    show Steps p.tables e below (T0.setTop (mkF m 1 #[.val (.int k0), .val (.int k1)] [(.int k0)])) _
    refine XS.iloadN X0.here hx rfl (hb hby d3_1) rfl ?_
    show Steps p.tables e below (T0.setTop (mkF m 2 #[.val (.int k0), .val (.int k1)] [(.int k1), (.int k0)])) _
    refine XS.icmpNo X0.here hx rfl (hb hby d3_2) rfl (flt hc2_1).2.2.1 ?_
    show Steps p.tables e below (T0.setTop (mkF m 5 #[.val (.int k0), .val (.int k1)] [])) _
    refine XS.iloadN X0.here hx rfl (hb hby d3_5) rfl ?_
    show Steps p.tables e below (T0.setTop (mkF m 6 #[.val (.int k0), .val (.int k1)] [(.int k0)])) _
    refine XS.goto X0.here hx rfl (pc0 := 6) (pc' := 10) rfl (hb hby d3_6) (by decide) (by decide) ?_
    show Steps p.tables e below (T0.setTop (mkF m 10 #[.val (.int k0), .val (.int k1)] [(.int k0)])) _
    exact kt
theorem ef_3 (m : MethodId) (k0 : Int32) (k1 : Int32) : entryFrame m #[(.int k0), (.int k1)] 2 = mkF m 0 #[.val (.int k0), .val (.int k1)] [] := by first | (simp [entryFrame, mkF, argsToLocals, Value.category]; done) | rfl
def Q3 (k0 : Int32) (k1 : Int32)  (h0 : Heap) (n0 : Nat) (v : Option Value) (h : Heap) (L : List Loc) : Prop := v = some (.int (own_min_f0 k0 k1)) ∧ Fr n0 L ∧ h = h0
set_option maxRecDepth 65536 in
set_option maxHeartbeats 40000000 in
theorem rm3 (l : Launch) (Z : State) (a0 : Array Value) (hw : ∀ d ∈ tables_1, d.before a0 Z = true) (ws : List Jvm.Cond) (k0 : Int32) (k1 : Int32)  (h0 : Heap) (n0 : Nat) (Z0 : n0 ≤ h0.size)  :
    MetFree l (⟨"java/lang/Math", "min", "(II)I"⟩ : MethodName) (head1 (Jvm.Cond.code (⟨"java/lang/Math", "min", "(II)I"⟩ : MethodName) jdk_29_method_69_code 2 (some .int) :: ws) ({ frames := 0, cells := 0, slots := 0, locals := 0 } : Room)) (fun a U => a = #[(.int k0), (.int k1)] ∧ Z.Warmed39 U.vm ∧ U.heap = h0) (fun _ _ _ _ _ => True) (fun _ U o U' => ∃ v L, o = .returned v ∧ Q3 k0 k1  h0 n0 v U'.heap L ∧ FrameEnd U o U' L (({ frames := 0, cells := 0, slots := 0, locals := 0 } : Room)).cells (({ frames := 0, cells := 0, slots := 0, locals := 0 } : Room)).slots) := by
  refine MetFree.of_bodySF (Jvm.Free.JP.mathPlain rfl (by decide)) hisR ?_
  intro p e s m args below meth c s₁ Bd hml0 hP hK
  obtain ⟨rfl, hZ, hh⟩ := hP
  have hx := Bd.exec
  have hby := Bd.bytes
  have hml : c.maxLocals = 2 := hml0
  have hown : s.vm.findClass "java/lang/Math" = some m.cls := findClass_of_methodNamed Bd.named
  have X0 : Stand p l e ({ frames := 0, cells := 0, slots := 0, locals := 0 } : Room) s m #[(.int k0), (.int k1)] below meth c s₁ [] 0 0 := Stand.of_body Bd
  have e0 : s₁.heap = h0 := by rw [← hh, Bd.state]; rfl
  obtain ⟨T', pc', Ls, X', e', hd', st'⟩ := own_min_b0 k0 k1 X0 hx hZ hw hby hml hown e0  (own_min_f0 k0 k1) rfl
  obtain ⟨fs, hr, hrun, hended, hW, hsame⟩ := X'.leave (v := some (.int (own_min_f0 k0 k1))) (fun h => by rw [Bd.returns] at h; cases h)
  refine ⟨_, _, castTop (ef_3 m k0 k1) (st' _ ?_), hrun, hended, _, _, rfl, ?_, ⟨_, rfl⟩, hW, hsame.mono (by decide) (by decide)⟩
  · exact retI X' hx Bd.returns hd' hr
  · exact ⟨rfl, Fr.nil n0, e'⟩
def own_max_f0 (k0 : Int32) (k1 : Int32) : Int32 := (if k0 < k1 then k1 else k0)
set_option maxRecDepth 65536 in
set_option maxHeartbeats 40000000 in
theorem own_max_b0 {p : Program} {l : Launch} {e : Env} {R : Room} {s : State} {m : MethodId} {args : Array Value} {below : List Frame} {meth : Method} {c : Code} {T0 : State} {locs : List Loc} {cells slots : Nat} {Z : State} {a0 : Array Value} {h0 : Heap} (k0 : Int32) (k1 : Int32)
    (X0 : Stand p l e R s m args below meth c T0 locs cells slots) (hx : p.tables.exec = Jvm.exec) (hZ : Z.Warmed39 s.vm) (hw : ∀ d ∈ tables_1, d.before a0 Z = true) (hby : c.code = jdk_29_method_65_code) (hml : c.maxLocals = 2) (hown : s.vm.findClass "java/lang/Math" = some m.cls) (e0 : T0.heap = h0)  (F : Int32) (hF : F = own_max_f0 k0 k1 ) :
    ∃ (T' : State) (pc' : Nat) (Ls : Array Slot), Stand p l e R s m args below meth c T' locs cells slots ∧ T'.heap = h0 ∧ decode c.code pc' = .ok (.ireturn, 1) ∧
      ∀ target, Steps p.tables e below (T'.setTop (mkF m pc' Ls [.int F])) target → Steps p.tables e below (T0.setTop (mkF m 0 #[.val (.int k0), .val (.int k1)] [])) target := by
  by_cases hc2_1 : k0 < k1
  · have hv : F = k1 := (hF.trans (by rw [own_max_f0, if_pos hc2_1]))
    refine ⟨T0, 10, #[.val (.int k0), .val (.int k1)], X0, e0, (hb hby d4_10), fun target kt => ?_⟩
    rw [hv] at kt
    show Steps p.tables e below (T0.setTop (mkF m 0 #[.val (.int k0), .val (.int k1)] [])) _
    refine XS.iloadN X0.here hx rfl (hb hby d4_0) rfl ?_
    show Steps p.tables e below (T0.setTop (mkF m 1 #[.val (.int k0), .val (.int k1)] [(.int k0)])) _
    refine XS.iloadN X0.here hx rfl (hb hby d4_1) rfl ?_
    show Steps p.tables e below (T0.setTop (mkF m 2 #[.val (.int k0), .val (.int k1)] [(.int k1), (.int k0)])) _
    refine XS.icmpYes X0.here hx rfl (pc0 := 2) (pc' := 9) rfl (hb hby d4_2) rfl (tlt hc2_1).1 (by decide) (by decide) ?_
    show Steps p.tables e below (T0.setTop (mkF m 9 #[.val (.int k0), .val (.int k1)] [])) _
    refine XS.iloadN X0.here hx rfl (hb hby d4_9) rfl ?_
    show Steps p.tables e below (T0.setTop (mkF m 10 #[.val (.int k0), .val (.int k1)] [(.int k1)])) _
    exact kt
  · have hv : F = k0 := (hF.trans (by rw [own_max_f0, if_neg hc2_1]))
    refine ⟨T0, 10, #[.val (.int k0), .val (.int k1)], X0, e0, (hb hby d4_10), fun target kt => ?_⟩
    rw [hv] at kt
    show Steps p.tables e below (T0.setTop (mkF m 0 #[.val (.int k0), .val (.int k1)] [])) _
    refine XS.iloadN X0.here hx rfl (hb hby d4_0) rfl ?_
    show Steps p.tables e below (T0.setTop (mkF m 1 #[.val (.int k0), .val (.int k1)] [(.int k0)])) _
    refine XS.iloadN X0.here hx rfl (hb hby d4_1) rfl ?_
    show Steps p.tables e below (T0.setTop (mkF m 2 #[.val (.int k0), .val (.int k1)] [(.int k1), (.int k0)])) _
    refine XS.icmpNo X0.here hx rfl (hb hby d4_2) rfl (flt hc2_1).1 ?_
    show Steps p.tables e below (T0.setTop (mkF m 5 #[.val (.int k0), .val (.int k1)] [])) _
    refine XS.iloadN X0.here hx rfl (hb hby d4_5) rfl ?_
    show Steps p.tables e below (T0.setTop (mkF m 6 #[.val (.int k0), .val (.int k1)] [(.int k0)])) _
    refine XS.goto X0.here hx rfl (pc0 := 6) (pc' := 10) rfl (hb hby d4_6) (by decide) (by decide) ?_
    show Steps p.tables e below (T0.setTop (mkF m 10 #[.val (.int k0), .val (.int k1)] [(.int k0)])) _
    exact kt
theorem ef_4 (m : MethodId) (k0 : Int32) (k1 : Int32) : entryFrame m #[(.int k0), (.int k1)] 2 = mkF m 0 #[.val (.int k0), .val (.int k1)] [] := by first | (simp [entryFrame, mkF, argsToLocals, Value.category]; done) | rfl
def Q4 (k0 : Int32) (k1 : Int32)  (h0 : Heap) (n0 : Nat) (v : Option Value) (h : Heap) (L : List Loc) : Prop := v = some (.int (own_max_f0 k0 k1)) ∧ Fr n0 L ∧ h = h0
set_option maxRecDepth 65536 in
set_option maxHeartbeats 40000000 in
theorem rm4 (l : Launch) (Z : State) (a0 : Array Value) (hw : ∀ d ∈ tables_1, d.before a0 Z = true) (ws : List Jvm.Cond) (k0 : Int32) (k1 : Int32)  (h0 : Heap) (n0 : Nat) (Z0 : n0 ≤ h0.size)  :
    MetFree l (⟨"java/lang/Math", "max", "(II)I"⟩ : MethodName) (head1 (Jvm.Cond.code (⟨"java/lang/Math", "max", "(II)I"⟩ : MethodName) jdk_29_method_65_code 2 (some .int) :: ws) ({ frames := 0, cells := 0, slots := 0, locals := 0 } : Room)) (fun a U => a = #[(.int k0), (.int k1)] ∧ Z.Warmed39 U.vm ∧ U.heap = h0) (fun _ _ _ _ _ => True) (fun _ U o U' => ∃ v L, o = .returned v ∧ Q4 k0 k1  h0 n0 v U'.heap L ∧ FrameEnd U o U' L (({ frames := 0, cells := 0, slots := 0, locals := 0 } : Room)).cells (({ frames := 0, cells := 0, slots := 0, locals := 0 } : Room)).slots) := by
  refine MetFree.of_bodySF (Jvm.Free.JP.mathPlain rfl (by decide)) hisR ?_
  intro p e s m args below meth c s₁ Bd hml0 hP hK
  obtain ⟨rfl, hZ, hh⟩ := hP
  have hx := Bd.exec
  have hby := Bd.bytes
  have hml : c.maxLocals = 2 := hml0
  have hown : s.vm.findClass "java/lang/Math" = some m.cls := findClass_of_methodNamed Bd.named
  have X0 : Stand p l e ({ frames := 0, cells := 0, slots := 0, locals := 0 } : Room) s m #[(.int k0), (.int k1)] below meth c s₁ [] 0 0 := Stand.of_body Bd
  have e0 : s₁.heap = h0 := by rw [← hh, Bd.state]; rfl
  obtain ⟨T', pc', Ls, X', e', hd', st'⟩ := own_max_b0 k0 k1 X0 hx hZ hw hby hml hown e0  (own_max_f0 k0 k1) rfl
  obtain ⟨fs, hr, hrun, hended, hW, hsame⟩ := X'.leave (v := some (.int (own_max_f0 k0 k1))) (fun h => by rw [Bd.returns] at h; cases h)
  refine ⟨_, _, castTop (ef_4 m k0 k1) (st' _ ?_), hrun, hended, _, _, rfl, ?_, ⟨_, rfl⟩, hW, hsame.mono (by decide) (by decide)⟩
  · exact retI X' hx Bd.returns hd' hr
  · exact ⟨rfl, Fr.nil n0, e'⟩
def own_L (Z : State) (h : Heap) (b : Addr) (xs : List Int32) : Prop := ∃ cl : Cell, Arr Z h b cl .int ∧ cl.slots.size = xs.length ∧ ∀ i, i < xs.length → cl.slots[i]? = some (.int (xs.getD i 0))
theorem own_L.ext {Z : State} {h h' : Heap} {b : Addr} {xs : List Int32} (A : own_L Z h b xs) (E : Ext h h') : own_L Z h' b xs := by obtain ⟨cl, A, r⟩ := A; exact ⟨cl, A.ext E, r⟩
theorem own_L.other {Z : State} {h h' : Heap} {a b : Addr} {sl : Nat} {v : Value} {xs : List Int32} (A : own_L Z h b xs) (W : Wr h h' a sl v) (q : b ≠ a) : own_L Z h' b xs := by obtain ⟨cl, A, r⟩ := A; exact ⟨cl, A.other W q, r⟩
theorem own_L.lt {Z : State} {h : Heap} {b : Addr} {xs : List Int32} (A : own_L Z h b xs) : b < h.size := by obtain ⟨cl, A, r⟩ := A; exact A.lt
theorem own_L.new {Z : State} {h : Heap} {b : Addr} {k : ClassId} {n : Int32} (A : Arr Z h b (newA k .int n) .int) : own_L Z h b (List.replicate n.toNatClampNeg 0) :=
  ⟨_, A, by rw [sz_new]; simp, fun i hi => by
    have q : i < n.toNatClampNeg := by simpa using hi
    simp [newA, q, defaultValue, List.getD]⟩
theorem own_st {p : Program} {l : Launch} {e : Env} {R : Room} {s : State} {m : MethodId} {args : Array Value} {below : List Frame} {meth : Method} {c : Code} {T : State} {locs : List Loc} {cells slots : Nat} {Z : State} {h : Heap} {n0 : Nat} {b : Addr} {xs : List Int32}
    (X : Stand p l e R s m args below meth c T locs cells slots) (hx : p.tables.exec = Jvm.exec) (hZ : Z.Warmed39 s.vm) (eT : T.heap = h) (A : own_L Z h b xs) (gb : n0 ≤ b) (N : Fr n0 locs) (j : Int32) (i : Nat) (hj : ¬ j < 0 ∧ j.toNatClampNeg = i) (hi : i < xs.length) (x : Int32) {g : JFrame} (hg : g.method = m) {rest : List Value} (hs : g.stack = .int x :: .int j :: .ref b :: rest) (hd : decode c.code g.pc = .ok (.iastore, 1)) :
    ∃ T' h' L', Stand p l e R s m args below meth c T' L' cells slots ∧ T'.heap = h' ∧ own_L Z h' b (xs.set i x) ∧ Fr n0 L' ∧ h'.size = h.size ∧ (∀ (d : Addr) (ys : List Int32), d ≠ b → own_L Z h d ys → own_L Z h' d ys) ∧ ∀ target, Steps p.tables e below (T'.setTop { g with pc := g.pc + 1, stack := rest }) target → Steps p.tables e below (T.setTop g) target := by
  obtain ⟨cl, Ar, S, H⟩ := A
  obtain ⟨h1, h2⟩ := hj
  obtain ⟨T', h', X', e', W, st⟩ := stI X hx hZ eT Ar (j := j) (x := x) (fun q => q.elim h1 fun q => by rw [S, h2] at q; omega) hg hs hd
  refine ⟨T', h', _, X', e', ⟨_, Ar.same W, by rw [sz_set, List.length_set]; exact S, fun u hu => ?_⟩, Fr.snoc X' N gb, W.size, fun d ys hd A => A.other W hd, st⟩
  rw [List.length_set] at hu
  by_cases q : i = u
  · subst q; simp [Cell.setSlot, S, hi, h2, List.getD]
  · have := H u hu
    rw [Cell.setSlot, h2]
    refine (Array.getElem?_setIfInBounds_ne q).trans ?_
    simpa [List.getD, List.getElem?_set_ne q] using this
theorem own_toInt {i : Nat} (h : i < 2 ^ 31) : i.toInt32.toInt = i := len_toInt h
theorem own_nat {i : Nat} (h : i < 2 ^ 31) : ¬ i.toInt32 < 0 ∧ i.toInt32.toNatClampNeg = i := by
  rw [Int32.lt_iff_toInt_lt, Int32.toNatClampNeg, own_toInt h]; exact ⟨by show ¬ (i : Int) < 0; omega, by omega⟩
theorem own_lt {i n : Nat} (hi : i < 2 ^ 31) (hn : n < 2 ^ 31) : i.toInt32 < n.toInt32 ↔ i < n := by
  rw [Int32.lt_iff_toInt_lt, own_toInt hi, own_toInt hn]; omega
theorem own_eq {i n : Nat} (hi : i < 2 ^ 31) (hn : n < 2 ^ 31) : i.toInt32 = n.toInt32 ↔ i = n := by
  rw [← Int32.toInt_inj, own_toInt hi, own_toInt hn]; omega
theorem own_succ (i : Nat) : i.toInt32 + 1 = (i + 1).toInt32 := by
  show Int32.ofNat i + Int32.ofNat 1 = Int32.ofNat (i + 1)
  exact (Int32.ofNat_add i 1).symm
theorem own_mem {x : Int32} {ws : List Int32} : x ∈ ws ↔ ∃ i, i < ws.length ∧ ws.getD i 0 = x := by
  rw [List.mem_iff_getElem]
  constructor
  · rintro ⟨i, h, e⟩; exact ⟨i, h, by simpa [List.getD, h] using e⟩
  · rintro ⟨i, h, e⟩; exact ⟨i, h, by simpa [List.getD, h] using e⟩
def own_all (ws ps : List Int32) : Int32 := if ∀ y ∈ ps, y ∈ ws then 1 else 0
theorem own_all_01 (ws ps : List Int32) : own_all ws ps = 0 ∨ own_all ws ps = 1 := by unfold own_all; split <;> simp
def own_in (ws : List Int32) (x : Int32) : Int32 := if x ∈ ws then 1 else 0
theorem own_in_01 (ws : List Int32) (x : Int32) : own_in ws x = 0 ∨ own_in ws x = 1 := by unfold own_in; split <;> simp
def own_sorted (ws : List Int32) : Prop := ∀ t u, t ≤ u → u < ws.length → (ws.getD t 0).toInt ≤ (ws.getD u 0).toInt
theorem own_os6 {s0 s1 s2 s3 s4 s5 s6 : Slot} {v : Int32} (h : One s6) : storeLocals #[s0, s1, s2, s3, s4, s5, s6] 6 (.int v) = some #[s0, s1, s2, s3, s4, s5, .val (.int v)] := by
  rcases h with rfl | ⟨w, rfl, hw⟩
  · rfl
  · cases w <;> first | rfl | (simp [Value.category] at hw)
theorem own_rlt {n k : Int32} {ws : List Int32} (hn : n = ws.length.toInt32) (hl : ws.length < 2 ^ 31) {i : Nat} (h : k < n) (hk : k.toNatClampNeg = i) (h0 : ¬ k < 0 := by decide) : i < ws.length := by
  subst hn; rw [Int32.lt_iff_toInt_lt, own_toInt hl] at h; rw [Int32.lt_iff_toInt_lt, show (0 : Int32).toInt = 0 from rfl] at h0; rw [← hk, Int32.toNatClampNeg]
  omega
theorem own_rin {n k : Int32} {cl : Cell} {ws : List Int32} (S : cl.slots.size = ws.length) (hn : n = ws.length.toInt32) (hl : ws.length < 2 ^ 31) {i : Nat} (h : k < n) (hk : k.toNatClampNeg = i) (h0 : ¬ k < 0 := by decide) : ¬ (k < 0 ∨ cl.slots.size ≤ k.toNatClampNeg) := by
  have := own_rlt hn hl h rfl h0
  rw [S]; intro q; rcases q with q | q
  · exact h0 q
  · omega
def own_cont_f39 (ws : List Int32) (wa : Addr) (n : Int32) (x : Int32) : Int32 := (0 : Int32)
set_option maxRecDepth 65536 in
set_option maxHeartbeats 40000000 in
theorem own_cont_b39 {p : Program} {l : Launch} {e : Env} {R : Room} {s : State} {m : MethodId} {args : Array Value} {below : List Frame} {meth : Method} {c : Code} {T0 : State} {locs : List Loc} {cells slots : Nat} {Z : State} {a0 : Array Value} {h0 : Heap} (ws : List Int32) (wa : Addr) (n : Int32) (x : Int32)
    (X0 : Stand p l e R s m args below meth c T0 locs cells slots) (hx : p.tables.exec = Jvm.exec) (hZ : Z.Warmed39 s.vm) (hw : ∀ d ∈ tables_1, d.before a0 Z = true) (hby : c.code = method_3_code) (hml : c.maxLocals = 3) (hown : s.vm.findClass "com/example/bundlewright/bundlewright/IntArraysHoldsAllPinLaw" = some m.cls) (e0 : T0.heap = h0) (cl : Cell) (Ar : Arr Z h0 wa cl .int) (Sz : cl.slots.size = ws.length) (Hs : ∀ i, i < ws.length → cl.slots[i]? = some (.int (ws.getD i 0))) (hn : n = ws.length.toInt32) (hl : ws.length < 2 ^ 31) (F : Int32) (hF : F = own_cont_f39 ws wa n x ) :
    ∃ (T' : State) (pc' : Nat) (Ls : Array Slot), Stand p l e R s m args below meth c T' locs cells slots ∧ T'.heap = h0 ∧ decode c.code pc' = .ok (.ireturn, 1) ∧
      ∀ target, Steps p.tables e below (T'.setTop (mkF m pc' Ls [.int F])) target → Steps p.tables e below (T0.setTop (mkF m 39 #[.val (.ref wa), .val (.int n), .val (.int x)] [])) target := by
  have hv : F = (0 : Int32) := (hF.trans (by rw [own_cont_f39]))
  refine ⟨T0, 40, #[.val (.ref wa), .val (.int n), .val (.int x)], X0, e0, (hb hby d5_40), fun target kt => ?_⟩
  rw [hv] at kt
  show Steps p.tables e below (T0.setTop (mkF m 39 #[.val (.ref wa), .val (.int n), .val (.int x)] [])) _
  refine XS.iconst X0.here hx rfl (hb hby d5_39) ?_
  show Steps p.tables e below (T0.setTop (mkF m 40 #[.val (.ref wa), .val (.int n), .val (.int x)] [(.int (0 : Int32))])) _
  exact kt
def own_cont_f35 (ws : List Int32) (wa : Addr) (n : Int32) (x : Int32) : Int32 := (1 : Int32)
set_option maxRecDepth 65536 in
set_option maxHeartbeats 40000000 in
theorem own_cont_b35 {p : Program} {l : Launch} {e : Env} {R : Room} {s : State} {m : MethodId} {args : Array Value} {below : List Frame} {meth : Method} {c : Code} {T0 : State} {locs : List Loc} {cells slots : Nat} {Z : State} {a0 : Array Value} {h0 : Heap} (ws : List Int32) (wa : Addr) (n : Int32) (x : Int32)
    (X0 : Stand p l e R s m args below meth c T0 locs cells slots) (hx : p.tables.exec = Jvm.exec) (hZ : Z.Warmed39 s.vm) (hw : ∀ d ∈ tables_1, d.before a0 Z = true) (hby : c.code = method_3_code) (hml : c.maxLocals = 3) (hown : s.vm.findClass "com/example/bundlewright/bundlewright/IntArraysHoldsAllPinLaw" = some m.cls) (e0 : T0.heap = h0) (cl : Cell) (Ar : Arr Z h0 wa cl .int) (Sz : cl.slots.size = ws.length) (Hs : ∀ i, i < ws.length → cl.slots[i]? = some (.int (ws.getD i 0))) (hn : n = ws.length.toInt32) (hl : ws.length < 2 ^ 31) (F : Int32) (hF : F = own_cont_f35 ws wa n x ) :
    ∃ (T' : State) (pc' : Nat) (Ls : Array Slot), Stand p l e R s m args below meth c T' locs cells slots ∧ T'.heap = h0 ∧ decode c.code pc' = .ok (.ireturn, 1) ∧
      ∀ target, Steps p.tables e below (T'.setTop (mkF m pc' Ls [.int F])) target → Steps p.tables e below (T0.setTop (mkF m 35 #[.val (.ref wa), .val (.int n), .val (.int x)] [])) target := by
  have hv : F = (1 : Int32) := (hF.trans (by rw [own_cont_f35]))
  refine ⟨T0, 40, #[.val (.ref wa), .val (.int n), .val (.int x)], X0, e0, (hb hby d5_40), fun target kt => ?_⟩
  rw [hv] at kt
  show Steps p.tables e below (T0.setTop (mkF m 35 #[.val (.ref wa), .val (.int n), .val (.int x)] [])) _
  refine XS.iconst X0.here hx rfl (hb hby d5_35) ?_
  show Steps p.tables e below (T0.setTop (mkF m 36 #[.val (.ref wa), .val (.int n), .val (.int x)] [(.int (1 : Int32))])) _
  refine XS.goto X0.here hx rfl (pc0 := 36) (pc' := 40) rfl (hb hby d5_36) (by decide) (by decide) ?_
  show Steps p.tables e below (T0.setTop (mkF m 40 #[.val (.ref wa), .val (.int n), .val (.int x)] [(.int (1 : Int32))])) _
  exact kt
def own_cont_f23 (ws : List Int32) (wa : Addr) (n : Int32) (x : Int32) : Int32 := (if (2 : Int32) < n then (if (ws.getD 2 0) = x then (own_cont_f35 ws wa n x) else (own_cont_f39 ws wa n x)) else (own_cont_f39 ws wa n x))
set_option maxRecDepth 65536 in
set_option maxHeartbeats 40000000 in
theorem own_cont_b23 {p : Program} {l : Launch} {e : Env} {R : Room} {s : State} {m : MethodId} {args : Array Value} {below : List Frame} {meth : Method} {c : Code} {T0 : State} {locs : List Loc} {cells slots : Nat} {Z : State} {a0 : Array Value} {h0 : Heap} (ws : List Int32) (wa : Addr) (n : Int32) (x : Int32)
    (X0 : Stand p l e R s m args below meth c T0 locs cells slots) (hx : p.tables.exec = Jvm.exec) (hZ : Z.Warmed39 s.vm) (hw : ∀ d ∈ tables_1, d.before a0 Z = true) (hby : c.code = method_3_code) (hml : c.maxLocals = 3) (hown : s.vm.findClass "com/example/bundlewright/bundlewright/IntArraysHoldsAllPinLaw" = some m.cls) (e0 : T0.heap = h0) (cl : Cell) (Ar : Arr Z h0 wa cl .int) (Sz : cl.slots.size = ws.length) (Hs : ∀ i, i < ws.length → cl.slots[i]? = some (.int (ws.getD i 0))) (hn : n = ws.length.toInt32) (hl : ws.length < 2 ^ 31) (F : Int32) (hF : F = own_cont_f23 ws wa n x ) :
    ∃ (T' : State) (pc' : Nat) (Ls : Array Slot), Stand p l e R s m args below meth c T' locs cells slots ∧ T'.heap = h0 ∧ decode c.code pc' = .ok (.ireturn, 1) ∧
      ∀ target, Steps p.tables e below (T'.setTop (mkF m pc' Ls [.int F])) target → Steps p.tables e below (T0.setTop (mkF m 23 #[.val (.ref wa), .val (.int n), .val (.int x)] [])) target := by
  by_cases hc25_1 : (2 : Int32) < n
  · by_cases hc32_2 : (ws.getD 2 0) = x
    · obtain ⟨T', pc', Ls, X', e', hd', st'⟩ := own_cont_b35 ws wa n x X0 hx hZ hw hby hml hown e0 cl Ar Sz Hs hn hl F (hF.trans (by rw [own_cont_f23, if_pos hc25_1, if_pos hc32_2]))
      refine ⟨T', pc', Ls, X', e', hd', fun target kt => ?_⟩
      show Steps p.tables e below (T0.setTop (mkF m 23 #[.val (.ref wa), .val (.int n), .val (.int x)] [])) _
      refine XS.iloadN X0.here hx rfl (hb hby d5_23) rfl ?_
      show Steps p.tables e below (T0.setTop (mkF m 24 #[.val (.ref wa), .val (.int n), .val (.int x)] [(.int n)])) _
      refine XS.iconst X0.here hx rfl (hb hby d5_24) ?_
      show Steps p.tables e below (T0.setTop (mkF m 25 #[.val (.ref wa), .val (.int n), .val (.int x)] [(.int (2 : Int32)), (.int n)])) _
      refine XS.icmpNo X0.here hx rfl (hb hby d5_25) rfl (tlt hc25_1).2.2.2 ?_
      show Steps p.tables e below (T0.setTop (mkF m 28 #[.val (.ref wa), .val (.int n), .val (.int x)] [])) _
      refine XS.aloadN X0.here hx rfl (hb hby d5_28) rfl rfl ?_
      show Steps p.tables e below (T0.setTop (mkF m 29 #[.val (.ref wa), .val (.int n), .val (.int x)] [(.ref wa)])) _
      refine XS.iconst X0.here hx rfl (hb hby d5_29) ?_
      show Steps p.tables e below (T0.setTop (mkF m 30 #[.val (.ref wa), .val (.int n), .val (.int x)] [(.int (2 : Int32)), (.ref wa)])) _
      refine X0.iaload hx (j := (2 : Int32)) (v := (.int (ws.getD 2 0))) (by rw [e0]; exact Ar.1) (State.isArrayOf_alike hZ.alike Ar.2.1) Ar.2.2 (own_rin Sz hn hl hc25_1 rfl) (Hs 2 (own_rlt hn hl hc25_1 rfl)) (g := (mkF m 30 #[.val (.ref wa), .val (.int n), .val (.int x)] [(.int (2 : Int32)), (.ref wa)])) rfl rfl (hb hby d5_30) _ ?_
      show Steps p.tables e below (T0.setTop (mkF m 31 #[.val (.ref wa), .val (.int n), .val (.int x)] [(.int (ws.getD 2 0))])) _
      refine XS.iloadN X0.here hx rfl (hb hby d5_31) rfl ?_
      show Steps p.tables e below (T0.setTop (mkF m 32 #[.val (.ref wa), .val (.int n), .val (.int x)] [(.int x), (.int (ws.getD 2 0))])) _
      refine XS.icmpNo X0.here hx rfl (hb hby d5_32) rfl (teq hc32_2).2 ?_
      exact st' target kt
    · obtain ⟨T', pc', Ls, X', e', hd', st'⟩ := own_cont_b39 ws wa n x X0 hx hZ hw hby hml hown e0 cl Ar Sz Hs hn hl F (hF.trans (by rw [own_cont_f23, if_pos hc25_1, if_neg hc32_2]))
      refine ⟨T', pc', Ls, X', e', hd', fun target kt => ?_⟩
      show Steps p.tables e below (T0.setTop (mkF m 23 #[.val (.ref wa), .val (.int n), .val (.int x)] [])) _
      refine XS.iloadN X0.here hx rfl (hb hby d5_23) rfl ?_
      show Steps p.tables e below (T0.setTop (mkF m 24 #[.val (.ref wa), .val (.int n), .val (.int x)] [(.int n)])) _
      refine XS.iconst X0.here hx rfl (hb hby d5_24) ?_
      show Steps p.tables e below (T0.setTop (mkF m 25 #[.val (.ref wa), .val (.int n), .val (.int x)] [(.int (2 : Int32)), (.int n)])) _
      refine XS.icmpNo X0.here hx rfl (hb hby d5_25) rfl (tlt hc25_1).2.2.2 ?_
      show Steps p.tables e below (T0.setTop (mkF m 28 #[.val (.ref wa), .val (.int n), .val (.int x)] [])) _
      refine XS.aloadN X0.here hx rfl (hb hby d5_28) rfl rfl ?_
      show Steps p.tables e below (T0.setTop (mkF m 29 #[.val (.ref wa), .val (.int n), .val (.int x)] [(.ref wa)])) _
      refine XS.iconst X0.here hx rfl (hb hby d5_29) ?_
      show Steps p.tables e below (T0.setTop (mkF m 30 #[.val (.ref wa), .val (.int n), .val (.int x)] [(.int (2 : Int32)), (.ref wa)])) _
      refine X0.iaload hx (j := (2 : Int32)) (v := (.int (ws.getD 2 0))) (by rw [e0]; exact Ar.1) (State.isArrayOf_alike hZ.alike Ar.2.1) Ar.2.2 (own_rin Sz hn hl hc25_1 rfl) (Hs 2 (own_rlt hn hl hc25_1 rfl)) (g := (mkF m 30 #[.val (.ref wa), .val (.int n), .val (.int x)] [(.int (2 : Int32)), (.ref wa)])) rfl rfl (hb hby d5_30) _ ?_
      show Steps p.tables e below (T0.setTop (mkF m 31 #[.val (.ref wa), .val (.int n), .val (.int x)] [(.int (ws.getD 2 0))])) _
      refine XS.iloadN X0.here hx rfl (hb hby d5_31) rfl ?_
      show Steps p.tables e below (T0.setTop (mkF m 32 #[.val (.ref wa), .val (.int n), .val (.int x)] [(.int x), (.int (ws.getD 2 0))])) _
      refine XS.icmpYes X0.here hx rfl (pc0 := 32) (pc' := 39) rfl (hb hby d5_32) rfl (feq hc32_2).2 (by decide) (by decide) ?_
      exact st' target kt
  · obtain ⟨T', pc', Ls, X', e', hd', st'⟩ := own_cont_b39 ws wa n x X0 hx hZ hw hby hml hown e0 cl Ar Sz Hs hn hl F (hF.trans (by rw [own_cont_f23, if_neg hc25_1]))
    refine ⟨T', pc', Ls, X', e', hd', fun target kt => ?_⟩
    show Steps p.tables e below (T0.setTop (mkF m 23 #[.val (.ref wa), .val (.int n), .val (.int x)] [])) _
    refine XS.iloadN X0.here hx rfl (hb hby d5_23) rfl ?_
    show Steps p.tables e below (T0.setTop (mkF m 24 #[.val (.ref wa), .val (.int n), .val (.int x)] [(.int n)])) _
    refine XS.iconst X0.here hx rfl (hb hby d5_24) ?_
    show Steps p.tables e below (T0.setTop (mkF m 25 #[.val (.ref wa), .val (.int n), .val (.int x)] [(.int (2 : Int32)), (.int n)])) _
    refine XS.icmpYes X0.here hx rfl (pc0 := 25) (pc' := 39) rfl (hb hby d5_25) rfl (flt hc25_1).2.2.2 (by decide) (by decide) ?_
    exact st' target kt
def own_cont_f11 (ws : List Int32) (wa : Addr) (n : Int32) (x : Int32) : Int32 := (if (1 : Int32) < n then (if (ws.getD 1 0) = x then (own_cont_f35 ws wa n x) else (own_cont_f23 ws wa n x)) else (own_cont_f23 ws wa n x))
set_option maxRecDepth 65536 in
set_option maxHeartbeats 40000000 in
theorem own_cont_b11 {p : Program} {l : Launch} {e : Env} {R : Room} {s : State} {m : MethodId} {args : Array Value} {below : List Frame} {meth : Method} {c : Code} {T0 : State} {locs : List Loc} {cells slots : Nat} {Z : State} {a0 : Array Value} {h0 : Heap} (ws : List Int32) (wa : Addr) (n : Int32) (x : Int32)
    (X0 : Stand p l e R s m args below meth c T0 locs cells slots) (hx : p.tables.exec = Jvm.exec) (hZ : Z.Warmed39 s.vm) (hw : ∀ d ∈ tables_1, d.before a0 Z = true) (hby : c.code = method_3_code) (hml : c.maxLocals = 3) (hown : s.vm.findClass "com/example/bundlewright/bundlewright/IntArraysHoldsAllPinLaw" = some m.cls) (e0 : T0.heap = h0) (cl : Cell) (Ar : Arr Z h0 wa cl .int) (Sz : cl.slots.size = ws.length) (Hs : ∀ i, i < ws.length → cl.slots[i]? = some (.int (ws.getD i 0))) (hn : n = ws.length.toInt32) (hl : ws.length < 2 ^ 31) (F : Int32) (hF : F = own_cont_f11 ws wa n x ) :
    ∃ (T' : State) (pc' : Nat) (Ls : Array Slot), Stand p l e R s m args below meth c T' locs cells slots ∧ T'.heap = h0 ∧ decode c.code pc' = .ok (.ireturn, 1) ∧
      ∀ target, Steps p.tables e below (T'.setTop (mkF m pc' Ls [.int F])) target → Steps p.tables e below (T0.setTop (mkF m 11 #[.val (.ref wa), .val (.int n), .val (.int x)] [])) target := by
  by_cases hc13_1 : (1 : Int32) < n
  · by_cases hc20_2 : (ws.getD 1 0) = x
    · obtain ⟨T', pc', Ls, X', e', hd', st'⟩ := own_cont_b35 ws wa n x X0 hx hZ hw hby hml hown e0 cl Ar Sz Hs hn hl F (hF.trans (by rw [own_cont_f11, if_pos hc13_1, if_pos hc20_2]))
      refine ⟨T', pc', Ls, X', e', hd', fun target kt => ?_⟩
      show Steps p.tables e below (T0.setTop (mkF m 11 #[.val (.ref wa), .val (.int n), .val (.int x)] [])) _
      refine XS.iloadN X0.here hx rfl (hb hby d5_11) rfl ?_
      show Steps p.tables e below (T0.setTop (mkF m 12 #[.val (.ref wa), .val (.int n), .val (.int x)] [(.int n)])) _
      refine XS.iconst X0.here hx rfl (hb hby d5_12) ?_
      show Steps p.tables e below (T0.setTop (mkF m 13 #[.val (.ref wa), .val (.int n), .val (.int x)] [(.int (1 : Int32)), (.int n)])) _
      refine XS.icmpNo X0.here hx rfl (hb hby d5_13) rfl (tlt hc13_1).2.2.2 ?_
      show Steps p.tables e below (T0.setTop (mkF m 16 #[.val (.ref wa), .val (.int n), .val (.int x)] [])) _
      refine XS.aloadN X0.here hx rfl (hb hby d5_16) rfl rfl ?_
      show Steps p.tables e below (T0.setTop (mkF m 17 #[.val (.ref wa), .val (.int n), .val (.int x)] [(.ref wa)])) _
      refine XS.iconst X0.here hx rfl (hb hby d5_17) ?_
      show Steps p.tables e below (T0.setTop (mkF m 18 #[.val (.ref wa), .val (.int n), .val (.int x)] [(.int (1 : Int32)), (.ref wa)])) _
      refine X0.iaload hx (j := (1 : Int32)) (v := (.int (ws.getD 1 0))) (by rw [e0]; exact Ar.1) (State.isArrayOf_alike hZ.alike Ar.2.1) Ar.2.2 (own_rin Sz hn hl hc13_1 rfl) (Hs 1 (own_rlt hn hl hc13_1 rfl)) (g := (mkF m 18 #[.val (.ref wa), .val (.int n), .val (.int x)] [(.int (1 : Int32)), (.ref wa)])) rfl rfl (hb hby d5_18) _ ?_
      show Steps p.tables e below (T0.setTop (mkF m 19 #[.val (.ref wa), .val (.int n), .val (.int x)] [(.int (ws.getD 1 0))])) _
      refine XS.iloadN X0.here hx rfl (hb hby d5_19) rfl ?_
      show Steps p.tables e below (T0.setTop (mkF m 20 #[.val (.ref wa), .val (.int n), .val (.int x)] [(.int x), (.int (ws.getD 1 0))])) _
      refine XS.icmpYes X0.here hx rfl (pc0 := 20) (pc' := 35) rfl (hb hby d5_20) rfl (teq hc20_2).1 (by decide) (by decide) ?_
      exact st' target kt
    · obtain ⟨T', pc', Ls, X', e', hd', st'⟩ := own_cont_b23 ws wa n x X0 hx hZ hw hby hml hown e0 cl Ar Sz Hs hn hl F (hF.trans (by rw [own_cont_f11, if_pos hc13_1, if_neg hc20_2]))
      refine ⟨T', pc', Ls, X', e', hd', fun target kt => ?_⟩
      show Steps p.tables e below (T0.setTop (mkF m 11 #[.val (.ref wa), .val (.int n), .val (.int x)] [])) _
      refine XS.iloadN X0.here hx rfl (hb hby d5_11) rfl ?_
      show Steps p.tables e below (T0.setTop (mkF m 12 #[.val (.ref wa), .val (.int n), .val (.int x)] [(.int n)])) _
      refine XS.iconst X0.here hx rfl (hb hby d5_12) ?_
      show Steps p.tables e below (T0.setTop (mkF m 13 #[.val (.ref wa), .val (.int n), .val (.int x)] [(.int (1 : Int32)), (.int n)])) _
      refine XS.icmpNo X0.here hx rfl (hb hby d5_13) rfl (tlt hc13_1).2.2.2 ?_
      show Steps p.tables e below (T0.setTop (mkF m 16 #[.val (.ref wa), .val (.int n), .val (.int x)] [])) _
      refine XS.aloadN X0.here hx rfl (hb hby d5_16) rfl rfl ?_
      show Steps p.tables e below (T0.setTop (mkF m 17 #[.val (.ref wa), .val (.int n), .val (.int x)] [(.ref wa)])) _
      refine XS.iconst X0.here hx rfl (hb hby d5_17) ?_
      show Steps p.tables e below (T0.setTop (mkF m 18 #[.val (.ref wa), .val (.int n), .val (.int x)] [(.int (1 : Int32)), (.ref wa)])) _
      refine X0.iaload hx (j := (1 : Int32)) (v := (.int (ws.getD 1 0))) (by rw [e0]; exact Ar.1) (State.isArrayOf_alike hZ.alike Ar.2.1) Ar.2.2 (own_rin Sz hn hl hc13_1 rfl) (Hs 1 (own_rlt hn hl hc13_1 rfl)) (g := (mkF m 18 #[.val (.ref wa), .val (.int n), .val (.int x)] [(.int (1 : Int32)), (.ref wa)])) rfl rfl (hb hby d5_18) _ ?_
      show Steps p.tables e below (T0.setTop (mkF m 19 #[.val (.ref wa), .val (.int n), .val (.int x)] [(.int (ws.getD 1 0))])) _
      refine XS.iloadN X0.here hx rfl (hb hby d5_19) rfl ?_
      show Steps p.tables e below (T0.setTop (mkF m 20 #[.val (.ref wa), .val (.int n), .val (.int x)] [(.int x), (.int (ws.getD 1 0))])) _
      refine XS.icmpNo X0.here hx rfl (hb hby d5_20) rfl (feq hc20_2).1 ?_
      exact st' target kt
  · obtain ⟨T', pc', Ls, X', e', hd', st'⟩ := own_cont_b23 ws wa n x X0 hx hZ hw hby hml hown e0 cl Ar Sz Hs hn hl F (hF.trans (by rw [own_cont_f11, if_neg hc13_1]))
    refine ⟨T', pc', Ls, X', e', hd', fun target kt => ?_⟩
    show Steps p.tables e below (T0.setTop (mkF m 11 #[.val (.ref wa), .val (.int n), .val (.int x)] [])) _
    refine XS.iloadN X0.here hx rfl (hb hby d5_11) rfl ?_
    show Steps p.tables e below (T0.setTop (mkF m 12 #[.val (.ref wa), .val (.int n), .val (.int x)] [(.int n)])) _
    refine XS.iconst X0.here hx rfl (hb hby d5_12) ?_
    show Steps p.tables e below (T0.setTop (mkF m 13 #[.val (.ref wa), .val (.int n), .val (.int x)] [(.int (1 : Int32)), (.int n)])) _
    refine XS.icmpYes X0.here hx rfl (pc0 := 13) (pc' := 23) rfl (hb hby d5_13) rfl (flt hc13_1).2.2.2 (by decide) (by decide) ?_
    exact st' target kt
def own_cont_f0 (ws : List Int32) (wa : Addr) (n : Int32) (x : Int32) : Int32 := (if (0 : Int32) < n then (if (ws.getD 0 0) = x then (own_cont_f35 ws wa n x) else (own_cont_f11 ws wa n x)) else (own_cont_f11 ws wa n x))
set_option maxRecDepth 65536 in
set_option maxHeartbeats 40000000 in
theorem own_cont_b0 {p : Program} {l : Launch} {e : Env} {R : Room} {s : State} {m : MethodId} {args : Array Value} {below : List Frame} {meth : Method} {c : Code} {T0 : State} {locs : List Loc} {cells slots : Nat} {Z : State} {a0 : Array Value} {h0 : Heap} (ws : List Int32) (wa : Addr) (n : Int32) (x : Int32)
    (X0 : Stand p l e R s m args below meth c T0 locs cells slots) (hx : p.tables.exec = Jvm.exec) (hZ : Z.Warmed39 s.vm) (hw : ∀ d ∈ tables_1, d.before a0 Z = true) (hby : c.code = method_3_code) (hml : c.maxLocals = 3) (hown : s.vm.findClass "com/example/bundlewright/bundlewright/IntArraysHoldsAllPinLaw" = some m.cls) (e0 : T0.heap = h0) (cl : Cell) (Ar : Arr Z h0 wa cl .int) (Sz : cl.slots.size = ws.length) (Hs : ∀ i, i < ws.length → cl.slots[i]? = some (.int (ws.getD i 0))) (hn : n = ws.length.toInt32) (hl : ws.length < 2 ^ 31) (F : Int32) (hF : F = own_cont_f0 ws wa n x ) :
    ∃ (T' : State) (pc' : Nat) (Ls : Array Slot), Stand p l e R s m args below meth c T' locs cells slots ∧ T'.heap = h0 ∧ decode c.code pc' = .ok (.ireturn, 1) ∧
      ∀ target, Steps p.tables e below (T'.setTop (mkF m pc' Ls [.int F])) target → Steps p.tables e below (T0.setTop (mkF m 0 #[.val (.ref wa), .val (.int n), .val (.int x)] [])) target := by
  by_cases hc1_1 : (0 : Int32) < n
  · by_cases hc8_2 : (ws.getD 0 0) = x
    · obtain ⟨T', pc', Ls, X', e', hd', st'⟩ := own_cont_b35 ws wa n x X0 hx hZ hw hby hml hown e0 cl Ar Sz Hs hn hl F (hF.trans (by rw [own_cont_f0, if_pos hc1_1, if_pos hc8_2]))
      refine ⟨T', pc', Ls, X', e', hd', fun target kt => ?_⟩
      show Steps p.tables e below (T0.setTop (mkF m 0 #[.val (.ref wa), .val (.int n), .val (.int x)] [])) _
      refine XS.iloadN X0.here hx rfl (hb hby d5_0) rfl ?_
      show Steps p.tables e below (T0.setTop (mkF m 1 #[.val (.ref wa), .val (.int n), .val (.int x)] [(.int n)])) _
      refine XS.ifNo X0.here hx rfl (hb hby d5_1) rfl ((if0 _ _).trans (tlt hc1_1).2.2.2) ?_
      show Steps p.tables e below (T0.setTop (mkF m 4 #[.val (.ref wa), .val (.int n), .val (.int x)] [])) _
      refine XS.aloadN X0.here hx rfl (hb hby d5_4) rfl rfl ?_
      show Steps p.tables e below (T0.setTop (mkF m 5 #[.val (.ref wa), .val (.int n), .val (.int x)] [(.ref wa)])) _
      refine XS.iconst X0.here hx rfl (hb hby d5_5) ?_
      show Steps p.tables e below (T0.setTop (mkF m 6 #[.val (.ref wa), .val (.int n), .val (.int x)] [(.int (0 : Int32)), (.ref wa)])) _
      refine X0.iaload hx (j := (0 : Int32)) (v := (.int (ws.getD 0 0))) (by rw [e0]; exact Ar.1) (State.isArrayOf_alike hZ.alike Ar.2.1) Ar.2.2 (own_rin Sz hn hl hc1_1 rfl) (Hs 0 (own_rlt hn hl hc1_1 rfl)) (g := (mkF m 6 #[.val (.ref wa), .val (.int n), .val (.int x)] [(.int (0 : Int32)), (.ref wa)])) rfl rfl (hb hby d5_6) _ ?_
      show Steps p.tables e below (T0.setTop (mkF m 7 #[.val (.ref wa), .val (.int n), .val (.int x)] [(.int (ws.getD 0 0))])) _
      refine XS.iloadN X0.here hx rfl (hb hby d5_7) rfl ?_
      show Steps p.tables e below (T0.setTop (mkF m 8 #[.val (.ref wa), .val (.int n), .val (.int x)] [(.int x), (.int (ws.getD 0 0))])) _
      refine XS.icmpYes X0.here hx rfl (pc0 := 8) (pc' := 35) rfl (hb hby d5_8) rfl (teq hc8_2).1 (by decide) (by decide) ?_
      exact st' target kt
    · obtain ⟨T', pc', Ls, X', e', hd', st'⟩ := own_cont_b11 ws wa n x X0 hx hZ hw hby hml hown e0 cl Ar Sz Hs hn hl F (hF.trans (by rw [own_cont_f0, if_pos hc1_1, if_neg hc8_2]))
      refine ⟨T', pc', Ls, X', e', hd', fun target kt => ?_⟩
      show Steps p.tables e below (T0.setTop (mkF m 0 #[.val (.ref wa), .val (.int n), .val (.int x)] [])) _
      refine XS.iloadN X0.here hx rfl (hb hby d5_0) rfl ?_
      show Steps p.tables e below (T0.setTop (mkF m 1 #[.val (.ref wa), .val (.int n), .val (.int x)] [(.int n)])) _
      refine XS.ifNo X0.here hx rfl (hb hby d5_1) rfl ((if0 _ _).trans (tlt hc1_1).2.2.2) ?_
      show Steps p.tables e below (T0.setTop (mkF m 4 #[.val (.ref wa), .val (.int n), .val (.int x)] [])) _
      refine XS.aloadN X0.here hx rfl (hb hby d5_4) rfl rfl ?_
      show Steps p.tables e below (T0.setTop (mkF m 5 #[.val (.ref wa), .val (.int n), .val (.int x)] [(.ref wa)])) _
      refine XS.iconst X0.here hx rfl (hb hby d5_5) ?_
      show Steps p.tables e below (T0.setTop (mkF m 6 #[.val (.ref wa), .val (.int n), .val (.int x)] [(.int (0 : Int32)), (.ref wa)])) _
      refine X0.iaload hx (j := (0 : Int32)) (v := (.int (ws.getD 0 0))) (by rw [e0]; exact Ar.1) (State.isArrayOf_alike hZ.alike Ar.2.1) Ar.2.2 (own_rin Sz hn hl hc1_1 rfl) (Hs 0 (own_rlt hn hl hc1_1 rfl)) (g := (mkF m 6 #[.val (.ref wa), .val (.int n), .val (.int x)] [(.int (0 : Int32)), (.ref wa)])) rfl rfl (hb hby d5_6) _ ?_
      show Steps p.tables e below (T0.setTop (mkF m 7 #[.val (.ref wa), .val (.int n), .val (.int x)] [(.int (ws.getD 0 0))])) _
      refine XS.iloadN X0.here hx rfl (hb hby d5_7) rfl ?_
      show Steps p.tables e below (T0.setTop (mkF m 8 #[.val (.ref wa), .val (.int n), .val (.int x)] [(.int x), (.int (ws.getD 0 0))])) _
      refine XS.icmpNo X0.here hx rfl (hb hby d5_8) rfl (feq hc8_2).1 ?_
      exact st' target kt
  · obtain ⟨T', pc', Ls, X', e', hd', st'⟩ := own_cont_b11 ws wa n x X0 hx hZ hw hby hml hown e0 cl Ar Sz Hs hn hl F (hF.trans (by rw [own_cont_f0, if_neg hc1_1]))
    refine ⟨T', pc', Ls, X', e', hd', fun target kt => ?_⟩
    show Steps p.tables e below (T0.setTop (mkF m 0 #[.val (.ref wa), .val (.int n), .val (.int x)] [])) _
    refine XS.iloadN X0.here hx rfl (hb hby d5_0) rfl ?_
    show Steps p.tables e below (T0.setTop (mkF m 1 #[.val (.ref wa), .val (.int n), .val (.int x)] [(.int n)])) _
    refine XS.ifYes X0.here hx rfl (pc0 := 1) (pc' := 11) rfl (hb hby d5_1) rfl ((if0 _ _).trans (flt hc1_1).2.2.2) (by decide) (by decide) ?_
    exact st' target kt
theorem own_cont_in (ws : List Int32) (wa : Addr) (n x : Int32) (hn : n = ws.length.toInt32) (hl : ws.length ≤ 3) : own_cont_f0 ws wa n x = own_in ws x := by
  subst hn
  match ws, hl with
  | [], _ =>
    have e0 : ¬ (0 : Int32) < (0 : Nat).toInt32 := by decide
    have e1 : ¬ (1 : Int32) < (0 : Nat).toInt32 := by decide
    have e2 : ¬ (2 : Int32) < (0 : Nat).toInt32 := by decide
    change own_cont_f0 [] wa (0 : Nat).toInt32 x = _
    simp only [own_cont_f0, own_cont_f11, own_cont_f23, own_cont_f35, own_cont_f39, e0, e1, e2, if_true, if_false, own_in, List.getD_cons_zero, List.getD_cons_succ, List.mem_cons, List.not_mem_nil, or_false]
  | [a], _ =>
    have e0 : (0 : Int32) < (1 : Nat).toInt32 := by decide
    have e1 : ¬ (1 : Int32) < (1 : Nat).toInt32 := by decide
    have e2 : ¬ (2 : Int32) < (1 : Nat).toInt32 := by decide
    change own_cont_f0 [a] wa (1 : Nat).toInt32 x = _
    simp only [own_cont_f0, own_cont_f11, own_cont_f23, own_cont_f35, own_cont_f39, e0, e1, e2, if_true, if_false, own_in, List.getD_cons_zero, List.getD_cons_succ, List.mem_cons, List.not_mem_nil, or_false]
    by_cases h0 : a = x
    · simp [h0]
    · have h0' : ¬ x = a := fun q => h0 q.symm
      simp [h0, h0']
  | [a, b], _ =>
    have e0 : (0 : Int32) < (2 : Nat).toInt32 := by decide
    have e1 : (1 : Int32) < (2 : Nat).toInt32 := by decide
    have e2 : ¬ (2 : Int32) < (2 : Nat).toInt32 := by decide
    change own_cont_f0 [a, b] wa (2 : Nat).toInt32 x = _
    simp only [own_cont_f0, own_cont_f11, own_cont_f23, own_cont_f35, own_cont_f39, e0, e1, e2, if_true, if_false, own_in, List.getD_cons_zero, List.getD_cons_succ, List.mem_cons, List.not_mem_nil, or_false]
    by_cases h0 : a = x
    · simp [h0]
    · have h0' : ¬ x = a := fun q => h0 q.symm
      by_cases h1 : b = x
      · simp [h0, h1]
      · have h1' : ¬ x = b := fun q => h1 q.symm
        simp [h0, h0', h1, h1']
  | [a, b, d], _ =>
    have e0 : (0 : Int32) < (3 : Nat).toInt32 := by decide
    have e1 : (1 : Int32) < (3 : Nat).toInt32 := by decide
    have e2 : (2 : Int32) < (3 : Nat).toInt32 := by decide
    change own_cont_f0 [a, b, d] wa (3 : Nat).toInt32 x = _
    simp only [own_cont_f0, own_cont_f11, own_cont_f23, own_cont_f35, own_cont_f39, e0, e1, e2, if_true, if_false, own_in, List.getD_cons_zero, List.getD_cons_succ, List.mem_cons, List.not_mem_nil, or_false]
    by_cases h0 : a = x
    · simp [h0]
    · have h0' : ¬ x = a := fun q => h0 q.symm
      by_cases h1 : b = x
      · simp [h0, h1]
      · have h1' : ¬ x = b := fun q => h1 q.symm
        by_cases h2 : d = x
        · simp [h0, h1, h2]
        · have h2' : ¬ x = d := fun q => h2 q.symm
          simp [h0, h0', h1, h1', h2, h2']
theorem pn_5 : plainName "com/example/bundlewright/bundlewright/IntArraysHoldsAllPinLaw" = true := by first | (simp [plainName, overriddenIn]; done) | decide +kernel
theorem ef_5 (m : MethodId) (x0 : Addr) (x1 x2 : Int32) : entryFrame m #[(.ref x0), (.int x1), (.int x2)] 3 = mkF m 0 #[.val (.ref x0), .val (.int x1), .val (.int x2)] [] := by first | (simp [entryFrame, mkF, argsToLocals, Value.category]; done) | rfl
def Q5 (wa : Addr) (n x : Int32) (ws : List Int32) (h0 : Heap) (n0 : Nat) (v : Option Value) (h : Heap) (L : List Loc) : Prop := v = some (.int (own_in ws x)) ∧ Fr n0 L ∧ h = h0
set_option maxRecDepth 65536 in
set_option maxHeartbeats 40000000 in
theorem rm5 (l : Launch) (Z : State) (a0 : Array Value) (hw : ∀ d ∈ tables_1, d.before a0 Z = true) (ws' : List Jvm.Cond) (wa : Addr) (n x : Int32) (ws : List Int32) (h0 : Heap) (n0 : Nat) (Z0 : n0 ≤ h0.size) (A : own_L Z h0 wa ws) (hn : n = ws.length.toInt32) (hl : ws.length ≤ 3) :
    MetFree l (⟨"com/example/bundlewright/bundlewright/IntArraysHoldsAllPinLaw", "contains", "([III)Z"⟩ : MethodName) (head1 (Jvm.Cond.code (⟨"com/example/bundlewright/bundlewright/IntArraysHoldsAllPinLaw", "contains", "([III)Z"⟩ : MethodName) method_3_code 3 (some .boolean) :: ws') ({ frames := 0, cells := 0, slots := 0, locals := 0 } : Room)) (fun a U => a = #[(.ref wa), (.int n), (.int x)] ∧ Z.Warmed39 U.vm ∧ U.heap = h0) (fun _ _ _ _ _ => True) (fun _ U o U' => ∃ v L, o = .returned v ∧ Q5 wa n x ws h0 n0 v U'.heap L ∧ FrameEnd U o U' L (({ frames := 0, cells := 0, slots := 0, locals := 0 } : Room)).cells (({ frames := 0, cells := 0, slots := 0, locals := 0 } : Room)).slots) := by
  refine MetFree.of_bodySF (plainFor_of_name pn_5) hisR ?_
  intro p e s m args below meth c s₁ Bd hml0 hP hK
  obtain ⟨rfl, hZ, hh⟩ := hP
  have hx := Bd.exec
  have hby := Bd.bytes
  have hml : c.maxLocals = 3 := hml0
  have hown : s.vm.findClass "com/example/bundlewright/bundlewright/IntArraysHoldsAllPinLaw" = some m.cls := findClass_of_methodNamed Bd.named
  have X0 : Stand p l e ({ frames := 0, cells := 0, slots := 0, locals := 0 } : Room) s m #[(.ref wa), (.int n), (.int x)] below meth c s₁ [] 0 0 := Stand.of_body Bd
  have e0 : s₁.heap = h0 := by rw [← hh, Bd.state]; rfl
  obtain ⟨cl, Ar, Sz, Hs⟩ := A
  obtain ⟨T', pc', Ls, X', e', hd', st'⟩ := own_cont_b0 ws wa n x X0 hx hZ hw hby hml hown e0 cl Ar Sz Hs hn (by omega) (own_in ws x) (own_cont_in ws wa n x hn hl).symm
  obtain ⟨fs, hr, hrun, hended, hW, hsame⟩ := X'.leave (v := some (.int (nar .boolean (own_in ws x)))) (fun h => by rw [Bd.returns] at h; cases h)
  refine ⟨_, _, castTop (ef_5 m wa n x) (st' _ ?_), hrun, hended, _, _, rfl, ?_, ⟨_, rfl⟩, hW, hsame.mono (by decide) (by decide)⟩
  · exact retN X' hx (t := .boolean) Bd.returns (by simp) hd' hr
  · exact ⟨by rw [own_nar (own_in_01 ws x)], Fr.nil n0, e'⟩
theorem own_ix {cl : Cell} {ws : List Int32} {i : Nat} (S : cl.slots.size = ws.length) (hi : i < ws.length) (hl : ws.length < 2 ^ 31) : ¬ (i.toInt32 < 0 ∨ cl.slots.size ≤ i.toInt32.toNatClampNeg) := by
  obtain ⟨a, b⟩ := own_nat (Nat.lt_trans hi hl)
  rw [S, b]; rintro (q | q)
  · exact a q
  · omega
set_option maxRecDepth 65536 in
set_option maxHeartbeats 40000000 in
theorem own_inner {p : Program} {l : Launch} {e : Env} {R : Room} {s : State} {m : MethodId} {args : Array Value} {below : List Frame} {meth : Method} {c : Code} {T0 : State} {locs : List Loc} {cells slots : Nat} {Z : State} {h0 : Heap} (wa pa : Addr) (ws ps : List Int32) (want jj : Int32)
    (X0 : Stand p l e R s m args below meth c T0 locs cells slots) (hx : p.tables.exec = Jvm.exec) (hZ : Z.Warmed39 s.vm) (hby : c.code = prog_44_method_5_code) (e0 : T0.heap = h0) (clw : Cell) (Aw : Arr Z h0 wa clw .int) (Sw : clw.slots.size = ws.length) (Hw : ∀ i, i < ws.length → clw.slots[i]? = some (.int (ws.getD i 0))) (hlw : ws.length < 2 ^ 31) (target : State) :
    ∀ (k i : Nat), i + k = ws.length → (∀ i', i ≤ i' → i' ≤ ws.length → (∀ t, i ≤ t → t < i' → ws.getD t 0 < want) → (i' < ws.length → ¬ ws.getD i' 0 < want) → Steps p.tables e below (T0.setTop (mkF m 44 #[.val (.ref wa), .val (.ref pa), .val (.int i'.toInt32), .val (.ref pa), .val (.int ps.length.toInt32), .val (.int jj), .val (.int want)] [])) target) →
      Steps p.tables e below (T0.setTop (mkF m 24 #[.val (.ref wa), .val (.ref pa), .val (.int i.toInt32), .val (.ref pa), .val (.int ps.length.toInt32), .val (.int jj), .val (.int want)] [])) target := by
  intro k
  induction k with
  | zero =>
    intro i hk kt
    have hge : ¬ i.toInt32 < ws.length.toInt32 := by rw [own_lt (by omega) hlw]; omega
    show Steps p.tables e below (T0.setTop (mkF m 24 #[.val (.ref wa), .val (.ref pa), .val (.int i.toInt32), .val (.ref pa), .val (.int ps.length.toInt32), .val (.int jj), .val (.int want)] [])) _
    refine XS.iloadN X0.here hx rfl (hb hby d2_24) rfl ?_
    show Steps p.tables e below (T0.setTop (mkF m 25 #[.val (.ref wa), .val (.ref pa), .val (.int i.toInt32), .val (.ref pa), .val (.int ps.length.toInt32), .val (.int jj), .val (.int want)] [(.int i.toInt32)])) _
    refine XS.aloadN X0.here hx rfl (hb hby d2_25) rfl rfl ?_
    show Steps p.tables e below (T0.setTop (mkF m 26 #[.val (.ref wa), .val (.ref pa), .val (.int i.toInt32), .val (.ref pa), .val (.int ps.length.toInt32), .val (.int jj), .val (.int want)] [(.ref wa), (.int i.toInt32)])) _
    refine X0.arraylength hx (by rw [e0]; exact Aw.1) (State.isArrayOf_alike hZ.alike Aw.2.1) (g := (mkF m 26 #[.val (.ref wa), .val (.ref pa), .val (.int i.toInt32), .val (.ref pa), .val (.int ps.length.toInt32), .val (.int jj), .val (.int want)] [(.ref wa), (.int i.toInt32)])) rfl rfl (hb hby d2_26) _ ?_
    rw [Sw]
    show Steps p.tables e below (T0.setTop (mkF m 27 #[.val (.ref wa), .val (.ref pa), .val (.int i.toInt32), .val (.ref pa), .val (.int ps.length.toInt32), .val (.int jj), .val (.int want)] [(.int ws.length.toInt32), (.int i.toInt32)])) _
    refine XS.icmpYes X0.here hx rfl (pc0 := 27) (pc' := 44) rfl (hb hby d2_27) rfl (flt hge).2.1 (by decide) (by decide) ?_
    show Steps p.tables e below (T0.setTop (mkF m 44 #[.val (.ref wa), .val (.ref pa), .val (.int i.toInt32), .val (.ref pa), .val (.int ps.length.toInt32), .val (.int jj), .val (.int want)] [])) _
    exact kt i (Nat.le_refl _) (by omega) (fun t a b => by omega) (fun h => by omega)
  | succ k ih =>
    intro i hk kt
    have hi : i < ws.length := by omega
    have hlt : i.toInt32 < ws.length.toInt32 := by rw [own_lt (by omega) hlw]; omega
    by_cases hc : ws.getD i 0 < want
    ·
      show Steps p.tables e below (T0.setTop (mkF m 24 #[.val (.ref wa), .val (.ref pa), .val (.int i.toInt32), .val (.ref pa), .val (.int ps.length.toInt32), .val (.int jj), .val (.int want)] [])) _
      refine XS.iloadN X0.here hx rfl (hb hby d2_24) rfl ?_
      show Steps p.tables e below (T0.setTop (mkF m 25 #[.val (.ref wa), .val (.ref pa), .val (.int i.toInt32), .val (.ref pa), .val (.int ps.length.toInt32), .val (.int jj), .val (.int want)] [(.int i.toInt32)])) _
      refine XS.aloadN X0.here hx rfl (hb hby d2_25) rfl rfl ?_
      show Steps p.tables e below (T0.setTop (mkF m 26 #[.val (.ref wa), .val (.ref pa), .val (.int i.toInt32), .val (.ref pa), .val (.int ps.length.toInt32), .val (.int jj), .val (.int want)] [(.ref wa), (.int i.toInt32)])) _
      refine X0.arraylength hx (by rw [e0]; exact Aw.1) (State.isArrayOf_alike hZ.alike Aw.2.1) (g := (mkF m 26 #[.val (.ref wa), .val (.ref pa), .val (.int i.toInt32), .val (.ref pa), .val (.int ps.length.toInt32), .val (.int jj), .val (.int want)] [(.ref wa), (.int i.toInt32)])) rfl rfl (hb hby d2_26) _ ?_
      rw [Sw]
      show Steps p.tables e below (T0.setTop (mkF m 27 #[.val (.ref wa), .val (.ref pa), .val (.int i.toInt32), .val (.ref pa), .val (.int ps.length.toInt32), .val (.int jj), .val (.int want)] [(.int ws.length.toInt32), (.int i.toInt32)])) _
      refine XS.icmpNo X0.here hx rfl (hb hby d2_27) rfl (tlt hlt).2.1 ?_
      show Steps p.tables e below (T0.setTop (mkF m 30 #[.val (.ref wa), .val (.ref pa), .val (.int i.toInt32), .val (.ref pa), .val (.int ps.length.toInt32), .val (.int jj), .val (.int want)] [])) _
      refine XS.aloadN X0.here hx rfl (hb hby d2_30) rfl rfl ?_
      show Steps p.tables e below (T0.setTop (mkF m 31 #[.val (.ref wa), .val (.ref pa), .val (.int i.toInt32), .val (.ref pa), .val (.int ps.length.toInt32), .val (.int jj), .val (.int want)] [(.ref wa)])) _
      refine XS.iloadN X0.here hx rfl (hb hby d2_31) rfl ?_
      show Steps p.tables e below (T0.setTop (mkF m 32 #[.val (.ref wa), .val (.ref pa), .val (.int i.toInt32), .val (.ref pa), .val (.int ps.length.toInt32), .val (.int jj), .val (.int want)] [(.int i.toInt32), (.ref wa)])) _
      refine X0.iaload hx (j := i.toInt32) (v := (.int (ws.getD i 0))) (by rw [e0]; exact Aw.1) (State.isArrayOf_alike hZ.alike Aw.2.1) Aw.2.2 (own_ix Sw hi hlw) (by rw [(own_nat (Nat.lt_trans hi hlw)).2]; exact Hw i hi) (g := (mkF m 32 #[.val (.ref wa), .val (.ref pa), .val (.int i.toInt32), .val (.ref pa), .val (.int ps.length.toInt32), .val (.int jj), .val (.int want)] [(.int i.toInt32), (.ref wa)])) rfl rfl (hb hby d2_32) _ ?_
      show Steps p.tables e below (T0.setTop (mkF m 33 #[.val (.ref wa), .val (.ref pa), .val (.int i.toInt32), .val (.ref pa), .val (.int ps.length.toInt32), .val (.int jj), .val (.int want)] [(.int (ws.getD i 0))])) _
      refine XS.iload X0.here hx rfl (hb hby d2_33) rfl ?_
      show Steps p.tables e below (T0.setTop (mkF m 35 #[.val (.ref wa), .val (.ref pa), .val (.int i.toInt32), .val (.ref pa), .val (.int ps.length.toInt32), .val (.int jj), .val (.int want)] [(.int want), (.int (ws.getD i 0))])) _
      refine XS.icmpNo X0.here hx rfl (hb hby d2_35) rfl (tlt hc).2.1 ?_
      show Steps p.tables e below (T0.setTop (mkF m 38 #[.val (.ref wa), .val (.ref pa), .val (.int i.toInt32), .val (.ref pa), .val (.int ps.length.toInt32), .val (.int jj), .val (.int want)] [])) _
      refine XS.iinc X0.here hx rfl (hb hby d2_38) rfl (l' := #[.val (.ref wa), .val (.ref pa), .val (.int (i.toInt32 + (1 : Int32))), .val (.ref pa), .val (.int ps.length.toInt32), .val (.int jj), .val (.int want)]) rfl ?_
      show Steps p.tables e below (T0.setTop (mkF m 41 #[.val (.ref wa), .val (.ref pa), .val (.int (i.toInt32 + (1 : Int32))), .val (.ref pa), .val (.int ps.length.toInt32), .val (.int jj), .val (.int want)] [])) _
      refine XS.goto X0.here hx rfl (pc0 := 41) (pc' := 24) rfl (hb hby d2_41) (by decide) (by decide) ?_
      show Steps p.tables e below (T0.setTop (mkF m 24 #[.val (.ref wa), .val (.ref pa), .val (.int (i.toInt32 + (1 : Int32))), .val (.ref pa), .val (.int ps.length.toInt32), .val (.int jj), .val (.int want)] [])) _
      rw [own_succ]
      refine ih (i + 1) (by omega) fun i' a b c' d => kt i' (by omega) b (fun t u v => ?_) d
      by_cases q : t = i
      · subst q; exact hc
      · exact c' t (by omega) v
    ·
      show Steps p.tables e below (T0.setTop (mkF m 24 #[.val (.ref wa), .val (.ref pa), .val (.int i.toInt32), .val (.ref pa), .val (.int ps.length.toInt32), .val (.int jj), .val (.int want)] [])) _
      refine XS.iloadN X0.here hx rfl (hb hby d2_24) rfl ?_
      show Steps p.tables e below (T0.setTop (mkF m 25 #[.val (.ref wa), .val (.ref pa), .val (.int i.toInt32), .val (.ref pa), .val (.int ps.length.toInt32), .val (.int jj), .val (.int want)] [(.int i.toInt32)])) _
      refine XS.aloadN X0.here hx rfl (hb hby d2_25) rfl rfl ?_
      show Steps p.tables e below (T0.setTop (mkF m 26 #[.val (.ref wa), .val (.ref pa), .val (.int i.toInt32), .val (.ref pa), .val (.int ps.length.toInt32), .val (.int jj), .val (.int want)] [(.ref wa), (.int i.toInt32)])) _
      refine X0.arraylength hx (by rw [e0]; exact Aw.1) (State.isArrayOf_alike hZ.alike Aw.2.1) (g := (mkF m 26 #[.val (.ref wa), .val (.ref pa), .val (.int i.toInt32), .val (.ref pa), .val (.int ps.length.toInt32), .val (.int jj), .val (.int want)] [(.ref wa), (.int i.toInt32)])) rfl rfl (hb hby d2_26) _ ?_
      rw [Sw]
      show Steps p.tables e below (T0.setTop (mkF m 27 #[.val (.ref wa), .val (.ref pa), .val (.int i.toInt32), .val (.ref pa), .val (.int ps.length.toInt32), .val (.int jj), .val (.int want)] [(.int ws.length.toInt32), (.int i.toInt32)])) _
      refine XS.icmpNo X0.here hx rfl (hb hby d2_27) rfl (tlt hlt).2.1 ?_
      show Steps p.tables e below (T0.setTop (mkF m 30 #[.val (.ref wa), .val (.ref pa), .val (.int i.toInt32), .val (.ref pa), .val (.int ps.length.toInt32), .val (.int jj), .val (.int want)] [])) _
      refine XS.aloadN X0.here hx rfl (hb hby d2_30) rfl rfl ?_
      show Steps p.tables e below (T0.setTop (mkF m 31 #[.val (.ref wa), .val (.ref pa), .val (.int i.toInt32), .val (.ref pa), .val (.int ps.length.toInt32), .val (.int jj), .val (.int want)] [(.ref wa)])) _
      refine XS.iloadN X0.here hx rfl (hb hby d2_31) rfl ?_
      show Steps p.tables e below (T0.setTop (mkF m 32 #[.val (.ref wa), .val (.ref pa), .val (.int i.toInt32), .val (.ref pa), .val (.int ps.length.toInt32), .val (.int jj), .val (.int want)] [(.int i.toInt32), (.ref wa)])) _
      refine X0.iaload hx (j := i.toInt32) (v := (.int (ws.getD i 0))) (by rw [e0]; exact Aw.1) (State.isArrayOf_alike hZ.alike Aw.2.1) Aw.2.2 (own_ix Sw hi hlw) (by rw [(own_nat (Nat.lt_trans hi hlw)).2]; exact Hw i hi) (g := (mkF m 32 #[.val (.ref wa), .val (.ref pa), .val (.int i.toInt32), .val (.ref pa), .val (.int ps.length.toInt32), .val (.int jj), .val (.int want)] [(.int i.toInt32), (.ref wa)])) rfl rfl (hb hby d2_32) _ ?_
      show Steps p.tables e below (T0.setTop (mkF m 33 #[.val (.ref wa), .val (.ref pa), .val (.int i.toInt32), .val (.ref pa), .val (.int ps.length.toInt32), .val (.int jj), .val (.int want)] [(.int (ws.getD i 0))])) _
      refine XS.iload X0.here hx rfl (hb hby d2_33) rfl ?_
      show Steps p.tables e below (T0.setTop (mkF m 35 #[.val (.ref wa), .val (.ref pa), .val (.int i.toInt32), .val (.ref pa), .val (.int ps.length.toInt32), .val (.int jj), .val (.int want)] [(.int want), (.int (ws.getD i 0))])) _
      refine XS.icmpYes X0.here hx rfl (pc0 := 35) (pc' := 44) rfl (hb hby d2_35) rfl (flt hc).2.1 (by decide) (by decide) ?_
      show Steps p.tables e below (T0.setTop (mkF m 44 #[.val (.ref wa), .val (.ref pa), .val (.int i.toInt32), .val (.ref pa), .val (.int ps.length.toInt32), .val (.int jj), .val (.int want)] [])) _
      exact kt i (Nat.le_refl _) (by omega) (fun t a b => by omega) (fun _ => hc)
set_option maxRecDepth 65536 in
set_option maxHeartbeats 40000000 in
theorem own_outer {p : Program} {l : Launch} {e : Env} {R : Room} {s : State} {m : MethodId} {args : Array Value} {below : List Frame} {meth : Method} {c : Code} {T0 : State} {locs : List Loc} {cells slots : Nat} {Z : State} {h0 : Heap} (wa pa : Addr) (ws ps : List Int32)
    (X0 : Stand p l e R s m args below meth c T0 locs cells slots) (hx : p.tables.exec = Jvm.exec) (hZ : Z.Warmed39 s.vm) (hby : c.code = prog_44_method_5_code) (e0 : T0.heap = h0) (clw : Cell) (Aw : Arr Z h0 wa clw .int) (Sw : clw.slots.size = ws.length) (Hw : ∀ i, i < ws.length → clw.slots[i]? = some (.int (ws.getD i 0))) (hlw : ws.length < 2 ^ 31) (clp : Cell) (Ap : Arr Z h0 pa clp .int) (Sp : clp.slots.size = ps.length) (Hp : ∀ i, i < ps.length → clp.slots[i]? = some (.int (ps.getD i 0))) (hlp : ps.length < 2 ^ 31) (sw : own_sorted ws) (sp : own_sorted ps) (target : State) :
    ∀ (k j i : Nat) (o6 : Slot), One o6 → j + k = ps.length → i ≤ ws.length → (∀ t u, t < i → j ≤ u → u < ps.length → (ws.getD t 0).toInt < (ps.getD u 0).toInt) →
      ((∀ u, j ≤ u → u < ps.length → ps.getD u 0 ∈ ws) → ∀ Ls, Steps p.tables e below (T0.setTop (mkF m 67 Ls [.int 1])) target) →
      ((∃ u, u < ps.length ∧ ¬ ps.getD u 0 ∈ ws) → ∀ Ls, Steps p.tables e below (T0.setTop (mkF m 59 Ls [.int 0])) target) →
      Steps p.tables e below (T0.setTop (mkF m 11 #[.val (.ref wa), .val (.ref pa), .val (.int i.toInt32), .val (.ref pa), .val (.int ps.length.toInt32), .val (.int j.toInt32), o6] [])) target := by
  intro k
  induction k with
  | zero =>
    intro j i o6 ho6 hk hi inv k1 k0
    have hge : ¬ j.toInt32 < ps.length.toInt32 := by rw [own_lt (by omega) hlp]; omega
    show Steps p.tables e below (T0.setTop (mkF m 11 #[.val (.ref wa), .val (.ref pa), .val (.int i.toInt32), .val (.ref pa), .val (.int ps.length.toInt32), .val (.int j.toInt32), o6] [])) _
    refine XS.iload X0.here hx rfl (hb hby d2_11) rfl ?_
    show Steps p.tables e below (T0.setTop (mkF m 13 #[.val (.ref wa), .val (.ref pa), .val (.int i.toInt32), .val (.ref pa), .val (.int ps.length.toInt32), .val (.int j.toInt32), o6] [(.int j.toInt32)])) _
    refine XS.iload X0.here hx rfl (hb hby d2_13) rfl ?_
    show Steps p.tables e below (T0.setTop (mkF m 15 #[.val (.ref wa), .val (.ref pa), .val (.int i.toInt32), .val (.ref pa), .val (.int ps.length.toInt32), .val (.int j.toInt32), o6] [(.int ps.length.toInt32), (.int j.toInt32)])) _
    refine XS.icmpYes X0.here hx rfl (pc0 := 15) (pc' := 66) rfl (hb hby d2_15) rfl (flt hge).2.1 (by decide) (by decide) ?_
    show Steps p.tables e below (T0.setTop (mkF m 66 #[.val (.ref wa), .val (.ref pa), .val (.int i.toInt32), .val (.ref pa), .val (.int ps.length.toInt32), .val (.int j.toInt32), o6] [])) _
    refine XS.iconst X0.here hx rfl (hb hby d2_66) ?_
    show Steps p.tables e below (T0.setTop (mkF m 67 #[.val (.ref wa), .val (.ref pa), .val (.int i.toInt32), .val (.ref pa), .val (.int ps.length.toInt32), .val (.int j.toInt32), o6] [(.int (1 : Int32))])) _
    exact k1 (fun u a b => by omega) _
  | succ k ih =>
    intro j i o6 ho6 hk hi inv k1 k0
    have hj : j < ps.length := by omega
    have hlt : j.toInt32 < ps.length.toInt32 := by rw [own_lt (by omega) hlp]; omega
    show Steps p.tables e below (T0.setTop (mkF m 11 #[.val (.ref wa), .val (.ref pa), .val (.int i.toInt32), .val (.ref pa), .val (.int ps.length.toInt32), .val (.int j.toInt32), o6] [])) _
    refine XS.iload X0.here hx rfl (hb hby d2_11) rfl ?_
    show Steps p.tables e below (T0.setTop (mkF m 13 #[.val (.ref wa), .val (.ref pa), .val (.int i.toInt32), .val (.ref pa), .val (.int ps.length.toInt32), .val (.int j.toInt32), o6] [(.int j.toInt32)])) _
    refine XS.iload X0.here hx rfl (hb hby d2_13) rfl ?_
    show Steps p.tables e below (T0.setTop (mkF m 15 #[.val (.ref wa), .val (.ref pa), .val (.int i.toInt32), .val (.ref pa), .val (.int ps.length.toInt32), .val (.int j.toInt32), o6] [(.int ps.length.toInt32), (.int j.toInt32)])) _
    refine XS.icmpNo X0.here hx rfl (hb hby d2_15) rfl (tlt hlt).2.1 ?_
    show Steps p.tables e below (T0.setTop (mkF m 18 #[.val (.ref wa), .val (.ref pa), .val (.int i.toInt32), .val (.ref pa), .val (.int ps.length.toInt32), .val (.int j.toInt32), o6] [])) _
    refine XS.aloadN X0.here hx rfl (hb hby d2_18) rfl rfl ?_
    show Steps p.tables e below (T0.setTop (mkF m 19 #[.val (.ref wa), .val (.ref pa), .val (.int i.toInt32), .val (.ref pa), .val (.int ps.length.toInt32), .val (.int j.toInt32), o6] [(.ref pa)])) _
    refine XS.iload X0.here hx rfl (hb hby d2_19) rfl ?_
    show Steps p.tables e below (T0.setTop (mkF m 21 #[.val (.ref wa), .val (.ref pa), .val (.int i.toInt32), .val (.ref pa), .val (.int ps.length.toInt32), .val (.int j.toInt32), o6] [(.int j.toInt32), (.ref pa)])) _
    refine X0.iaload hx (j := j.toInt32) (v := (.int (ps.getD j 0))) (by rw [e0]; exact Ap.1) (State.isArrayOf_alike hZ.alike Ap.2.1) Ap.2.2 (own_ix Sp hj hlp) (by rw [(own_nat (Nat.lt_trans hj hlp)).2]; exact Hp j hj) (g := (mkF m 21 #[.val (.ref wa), .val (.ref pa), .val (.int i.toInt32), .val (.ref pa), .val (.int ps.length.toInt32), .val (.int j.toInt32), o6] [(.int j.toInt32), (.ref pa)])) rfl rfl (hb hby d2_21) _ ?_
    show Steps p.tables e below (T0.setTop (mkF m 22 #[.val (.ref wa), .val (.ref pa), .val (.int i.toInt32), .val (.ref pa), .val (.int ps.length.toInt32), .val (.int j.toInt32), o6] [(.int (ps.getD j 0))])) _
    refine XS.istore X0.here hx rfl (hb hby d2_22) rfl (l' := #[.val (.ref wa), .val (.ref pa), .val (.int i.toInt32), .val (.ref pa), .val (.int ps.length.toInt32), .val (.int j.toInt32), .val (.int (ps.getD j 0))]) (own_os6 ho6) ?_
    show Steps p.tables e below (T0.setTop (mkF m 24 #[.val (.ref wa), .val (.ref pa), .val (.int i.toInt32), .val (.ref pa), .val (.int ps.length.toInt32), .val (.int j.toInt32), .val (.int (ps.getD j 0))] [])) _
    refine own_inner wa pa ws ps (ps.getD j 0) j.toInt32 X0 hx hZ hby e0 clw Aw Sw Hw hlw target (ws.length - i) i (by omega) fun i' a b c1 c2 => ?_
    have below1 : ∀ t, t < i' → (ws.getD t 0).toInt < (ps.getD j 0).toInt := fun t ht => by
      by_cases q : t < i
      · exact inv t j q (Nat.le_refl _) hj
      · exact Int32.lt_iff_toInt_lt.mp (c1 t (by omega) ht)
    by_cases heq : i'.toInt32 = ws.length.toInt32
    · have e1 := (own_eq (by omega) hlw).mp heq
      show Steps p.tables e below (T0.setTop (mkF m 44 #[.val (.ref wa), .val (.ref pa), .val (.int i'.toInt32), .val (.ref pa), .val (.int ps.length.toInt32), .val (.int j.toInt32), .val (.int (ps.getD j 0))] [])) _
      refine XS.iloadN X0.here hx rfl (hb hby d2_44) rfl ?_
      show Steps p.tables e below (T0.setTop (mkF m 45 #[.val (.ref wa), .val (.ref pa), .val (.int i'.toInt32), .val (.ref pa), .val (.int ps.length.toInt32), .val (.int j.toInt32), .val (.int (ps.getD j 0))] [(.int i'.toInt32)])) _
      refine XS.aloadN X0.here hx rfl (hb hby d2_45) rfl rfl ?_
      show Steps p.tables e below (T0.setTop (mkF m 46 #[.val (.ref wa), .val (.ref pa), .val (.int i'.toInt32), .val (.ref pa), .val (.int ps.length.toInt32), .val (.int j.toInt32), .val (.int (ps.getD j 0))] [(.ref wa), (.int i'.toInt32)])) _
      refine X0.arraylength hx (by rw [e0]; exact Aw.1) (State.isArrayOf_alike hZ.alike Aw.2.1) (g := (mkF m 46 #[.val (.ref wa), .val (.ref pa), .val (.int i'.toInt32), .val (.ref pa), .val (.int ps.length.toInt32), .val (.int j.toInt32), .val (.int (ps.getD j 0))] [(.ref wa), (.int i'.toInt32)])) rfl rfl (hb hby d2_46) _ ?_
      rw [Sw]
      show Steps p.tables e below (T0.setTop (mkF m 47 #[.val (.ref wa), .val (.ref pa), .val (.int i'.toInt32), .val (.ref pa), .val (.int ps.length.toInt32), .val (.int j.toInt32), .val (.int (ps.getD j 0))] [(.int ws.length.toInt32), (.int i'.toInt32)])) _
      refine XS.icmpYes X0.here hx rfl (pc0 := 47) (pc' := 58) rfl (hb hby d2_47) rfl (teq heq).1 (by decide) (by decide) ?_
      show Steps p.tables e below (T0.setTop (mkF m 58 #[.val (.ref wa), .val (.ref pa), .val (.int i'.toInt32), .val (.ref pa), .val (.int ps.length.toInt32), .val (.int j.toInt32), .val (.int (ps.getD j 0))] [])) _
      refine XS.iconst X0.here hx rfl (hb hby d2_58) ?_
      show Steps p.tables e below (T0.setTop (mkF m 59 #[.val (.ref wa), .val (.ref pa), .val (.int i'.toInt32), .val (.ref pa), .val (.int ps.length.toInt32), .val (.int j.toInt32), .val (.int (ps.getD j 0))] [(.int (0 : Int32))])) _
      refine k0 ⟨j, hj, fun q => ?_⟩ _
      obtain ⟨t, h1, h2⟩ := own_mem.mp q
      have := below1 t (by omega)
      rw [h2] at this; omega
    · have e1 : i' ≠ ws.length := fun q => heq ((own_eq (by omega) hlw).mpr q)
      have hi' : i' < ws.length := by omega
      have hne := heq
      by_cases hw1 : ws.getD i' 0 = ps.getD j 0
      ·
        show Steps p.tables e below (T0.setTop (mkF m 44 #[.val (.ref wa), .val (.ref pa), .val (.int i'.toInt32), .val (.ref pa), .val (.int ps.length.toInt32), .val (.int j.toInt32), .val (.int (ps.getD j 0))] [])) _
        refine XS.iloadN X0.here hx rfl (hb hby d2_44) rfl ?_
        show Steps p.tables e below (T0.setTop (mkF m 45 #[.val (.ref wa), .val (.ref pa), .val (.int i'.toInt32), .val (.ref pa), .val (.int ps.length.toInt32), .val (.int j.toInt32), .val (.int (ps.getD j 0))] [(.int i'.toInt32)])) _
        refine XS.aloadN X0.here hx rfl (hb hby d2_45) rfl rfl ?_
        show Steps p.tables e below (T0.setTop (mkF m 46 #[.val (.ref wa), .val (.ref pa), .val (.int i'.toInt32), .val (.ref pa), .val (.int ps.length.toInt32), .val (.int j.toInt32), .val (.int (ps.getD j 0))] [(.ref wa), (.int i'.toInt32)])) _
        refine X0.arraylength hx (by rw [e0]; exact Aw.1) (State.isArrayOf_alike hZ.alike Aw.2.1) (g := (mkF m 46 #[.val (.ref wa), .val (.ref pa), .val (.int i'.toInt32), .val (.ref pa), .val (.int ps.length.toInt32), .val (.int j.toInt32), .val (.int (ps.getD j 0))] [(.ref wa), (.int i'.toInt32)])) rfl rfl (hb hby d2_46) _ ?_
        rw [Sw]
        show Steps p.tables e below (T0.setTop (mkF m 47 #[.val (.ref wa), .val (.ref pa), .val (.int i'.toInt32), .val (.ref pa), .val (.int ps.length.toInt32), .val (.int j.toInt32), .val (.int (ps.getD j 0))] [(.int ws.length.toInt32), (.int i'.toInt32)])) _
        refine XS.icmpNo X0.here hx rfl (hb hby d2_47) rfl (feq hne).1 ?_
        show Steps p.tables e below (T0.setTop (mkF m 50 #[.val (.ref wa), .val (.ref pa), .val (.int i'.toInt32), .val (.ref pa), .val (.int ps.length.toInt32), .val (.int j.toInt32), .val (.int (ps.getD j 0))] [])) _
        refine XS.aloadN X0.here hx rfl (hb hby d2_50) rfl rfl ?_
        show Steps p.tables e below (T0.setTop (mkF m 51 #[.val (.ref wa), .val (.ref pa), .val (.int i'.toInt32), .val (.ref pa), .val (.int ps.length.toInt32), .val (.int j.toInt32), .val (.int (ps.getD j 0))] [(.ref wa)])) _
        refine XS.iloadN X0.here hx rfl (hb hby d2_51) rfl ?_
        show Steps p.tables e below (T0.setTop (mkF m 52 #[.val (.ref wa), .val (.ref pa), .val (.int i'.toInt32), .val (.ref pa), .val (.int ps.length.toInt32), .val (.int j.toInt32), .val (.int (ps.getD j 0))] [(.int i'.toInt32), (.ref wa)])) _
        refine X0.iaload hx (j := i'.toInt32) (v := (.int (ws.getD i' 0))) (by rw [e0]; exact Aw.1) (State.isArrayOf_alike hZ.alike Aw.2.1) Aw.2.2 (own_ix Sw hi' hlw) (by rw [(own_nat (Nat.lt_trans hi' hlw)).2]; exact Hw i' hi') (g := (mkF m 52 #[.val (.ref wa), .val (.ref pa), .val (.int i'.toInt32), .val (.ref pa), .val (.int ps.length.toInt32), .val (.int j.toInt32), .val (.int (ps.getD j 0))] [(.int i'.toInt32), (.ref wa)])) rfl rfl (hb hby d2_52) _ ?_
        show Steps p.tables e below (T0.setTop (mkF m 53 #[.val (.ref wa), .val (.ref pa), .val (.int i'.toInt32), .val (.ref pa), .val (.int ps.length.toInt32), .val (.int j.toInt32), .val (.int (ps.getD j 0))] [(.int (ws.getD i' 0))])) _
        refine XS.iload X0.here hx rfl (hb hby d2_53) rfl ?_
        show Steps p.tables e below (T0.setTop (mkF m 55 #[.val (.ref wa), .val (.ref pa), .val (.int i'.toInt32), .val (.ref pa), .val (.int ps.length.toInt32), .val (.int j.toInt32), .val (.int (ps.getD j 0))] [(.int (ps.getD j 0)), (.int (ws.getD i' 0))])) _
        refine XS.icmpYes X0.here hx rfl (pc0 := 55) (pc' := 60) rfl (hb hby d2_55) rfl (teq hw1).1 (by decide) (by decide) ?_
        show Steps p.tables e below (T0.setTop (mkF m 60 #[.val (.ref wa), .val (.ref pa), .val (.int i'.toInt32), .val (.ref pa), .val (.int ps.length.toInt32), .val (.int j.toInt32), .val (.int (ps.getD j 0))] [])) _
        refine XS.iinc X0.here hx rfl (hb hby d2_60) rfl (l' := #[.val (.ref wa), .val (.ref pa), .val (.int i'.toInt32), .val (.ref pa), .val (.int ps.length.toInt32), .val (.int (j.toInt32 + (1 : Int32))), .val (.int (ps.getD j 0))]) rfl ?_
        show Steps p.tables e below (T0.setTop (mkF m 63 #[.val (.ref wa), .val (.ref pa), .val (.int i'.toInt32), .val (.ref pa), .val (.int ps.length.toInt32), .val (.int (j.toInt32 + (1 : Int32))), .val (.int (ps.getD j 0))] [])) _
        refine XS.goto X0.here hx rfl (pc0 := 63) (pc' := 11) rfl (hb hby d2_63) (by decide) (by decide) ?_
        show Steps p.tables e below (T0.setTop (mkF m 11 #[.val (.ref wa), .val (.ref pa), .val (.int i'.toInt32), .val (.ref pa), .val (.int ps.length.toInt32), .val (.int (j.toInt32 + (1 : Int32))), .val (.int (ps.getD j 0))] [])) _
        rw [own_succ]
        refine ih (j + 1) i' _ (One.val rfl) (by omega) b (fun t u h1 h2 h3 => ?_) (fun q => k1 fun u h1 h2 => ?_) k0
        · have := below1 t h1
          have := sp j u (by omega) h3
          omega
        · by_cases q1 : u = j
          · subst q1; exact own_mem.mpr ⟨i', hi', hw1⟩
          · exact q u (by omega) h2
      ·
        show Steps p.tables e below (T0.setTop (mkF m 44 #[.val (.ref wa), .val (.ref pa), .val (.int i'.toInt32), .val (.ref pa), .val (.int ps.length.toInt32), .val (.int j.toInt32), .val (.int (ps.getD j 0))] [])) _
        refine XS.iloadN X0.here hx rfl (hb hby d2_44) rfl ?_
        show Steps p.tables e below (T0.setTop (mkF m 45 #[.val (.ref wa), .val (.ref pa), .val (.int i'.toInt32), .val (.ref pa), .val (.int ps.length.toInt32), .val (.int j.toInt32), .val (.int (ps.getD j 0))] [(.int i'.toInt32)])) _
        refine XS.aloadN X0.here hx rfl (hb hby d2_45) rfl rfl ?_
        show Steps p.tables e below (T0.setTop (mkF m 46 #[.val (.ref wa), .val (.ref pa), .val (.int i'.toInt32), .val (.ref pa), .val (.int ps.length.toInt32), .val (.int j.toInt32), .val (.int (ps.getD j 0))] [(.ref wa), (.int i'.toInt32)])) _
        refine X0.arraylength hx (by rw [e0]; exact Aw.1) (State.isArrayOf_alike hZ.alike Aw.2.1) (g := (mkF m 46 #[.val (.ref wa), .val (.ref pa), .val (.int i'.toInt32), .val (.ref pa), .val (.int ps.length.toInt32), .val (.int j.toInt32), .val (.int (ps.getD j 0))] [(.ref wa), (.int i'.toInt32)])) rfl rfl (hb hby d2_46) _ ?_
        rw [Sw]
        show Steps p.tables e below (T0.setTop (mkF m 47 #[.val (.ref wa), .val (.ref pa), .val (.int i'.toInt32), .val (.ref pa), .val (.int ps.length.toInt32), .val (.int j.toInt32), .val (.int (ps.getD j 0))] [(.int ws.length.toInt32), (.int i'.toInt32)])) _
        refine XS.icmpNo X0.here hx rfl (hb hby d2_47) rfl (feq hne).1 ?_
        show Steps p.tables e below (T0.setTop (mkF m 50 #[.val (.ref wa), .val (.ref pa), .val (.int i'.toInt32), .val (.ref pa), .val (.int ps.length.toInt32), .val (.int j.toInt32), .val (.int (ps.getD j 0))] [])) _
        refine XS.aloadN X0.here hx rfl (hb hby d2_50) rfl rfl ?_
        show Steps p.tables e below (T0.setTop (mkF m 51 #[.val (.ref wa), .val (.ref pa), .val (.int i'.toInt32), .val (.ref pa), .val (.int ps.length.toInt32), .val (.int j.toInt32), .val (.int (ps.getD j 0))] [(.ref wa)])) _
        refine XS.iloadN X0.here hx rfl (hb hby d2_51) rfl ?_
        show Steps p.tables e below (T0.setTop (mkF m 52 #[.val (.ref wa), .val (.ref pa), .val (.int i'.toInt32), .val (.ref pa), .val (.int ps.length.toInt32), .val (.int j.toInt32), .val (.int (ps.getD j 0))] [(.int i'.toInt32), (.ref wa)])) _
        refine X0.iaload hx (j := i'.toInt32) (v := (.int (ws.getD i' 0))) (by rw [e0]; exact Aw.1) (State.isArrayOf_alike hZ.alike Aw.2.1) Aw.2.2 (own_ix Sw hi' hlw) (by rw [(own_nat (Nat.lt_trans hi' hlw)).2]; exact Hw i' hi') (g := (mkF m 52 #[.val (.ref wa), .val (.ref pa), .val (.int i'.toInt32), .val (.ref pa), .val (.int ps.length.toInt32), .val (.int j.toInt32), .val (.int (ps.getD j 0))] [(.int i'.toInt32), (.ref wa)])) rfl rfl (hb hby d2_52) _ ?_
        show Steps p.tables e below (T0.setTop (mkF m 53 #[.val (.ref wa), .val (.ref pa), .val (.int i'.toInt32), .val (.ref pa), .val (.int ps.length.toInt32), .val (.int j.toInt32), .val (.int (ps.getD j 0))] [(.int (ws.getD i' 0))])) _
        refine XS.iload X0.here hx rfl (hb hby d2_53) rfl ?_
        show Steps p.tables e below (T0.setTop (mkF m 55 #[.val (.ref wa), .val (.ref pa), .val (.int i'.toInt32), .val (.ref pa), .val (.int ps.length.toInt32), .val (.int j.toInt32), .val (.int (ps.getD j 0))] [(.int (ps.getD j 0)), (.int (ws.getD i' 0))])) _
        refine XS.icmpNo X0.here hx rfl (hb hby d2_55) rfl (feq hw1).1 ?_
        show Steps p.tables e below (T0.setTop (mkF m 58 #[.val (.ref wa), .val (.ref pa), .val (.int i'.toInt32), .val (.ref pa), .val (.int ps.length.toInt32), .val (.int j.toInt32), .val (.int (ps.getD j 0))] [])) _
        refine XS.iconst X0.here hx rfl (hb hby d2_58) ?_
        show Steps p.tables e below (T0.setTop (mkF m 59 #[.val (.ref wa), .val (.ref pa), .val (.int i'.toInt32), .val (.ref pa), .val (.int ps.length.toInt32), .val (.int j.toInt32), .val (.int (ps.getD j 0))] [(.int (0 : Int32))])) _
        refine k0 ⟨j, hj, fun q => ?_⟩ _
        obtain ⟨t, h1, h2⟩ := own_mem.mp q
        by_cases q1 : t < i'
        · have := below1 t q1
          rw [h2] at this; omega
        · have h3 := sw i' t (by omega) h1
          have h4 := c2 hi'
          rw [Int32.lt_iff_toInt_lt] at h4
          rw [h2] at h3
          exact hw1 (Int32.toInt_inj.mp (by omega))
theorem pn_2 : plainName "com/example/bundlewright/bundlewright/IntArrays" = true := by first | (simp [plainName, overriddenIn]; done) | decide +kernel
theorem ef_2 (m : MethodId) (x0 x1 : Addr) : entryFrame m #[(.ref x0), (.ref x1)] 7 = mkF m 0 #[.val (.ref x0), .val (.ref x1), .unset, .unset, .unset, .unset, .unset] [] := by first | (simp [entryFrame, mkF, argsToLocals, Value.category]; done) | rfl
def Q2 (wa pa : Addr) (ws ps : List Int32) (h0 : Heap) (n0 : Nat) (v : Option Value) (h : Heap) (L : List Loc) : Prop := v = some (.int (own_all ws ps)) ∧ Fr n0 L ∧ h = h0
set_option maxRecDepth 65536 in
set_option maxHeartbeats 40000000 in
theorem rm2 (l : Launch) (Z : State) (a0 : Array Value) (hw : ∀ d ∈ tables_1, d.before a0 Z = true) (ws' : List Jvm.Cond) (wa pa : Addr) (ws ps : List Int32) (h0 : Heap) (n0 : Nat) (Z0 : n0 ≤ h0.size) (A : own_L Z h0 wa ws) (B : own_L Z h0 pa ps) (hlw : ws.length < 2 ^ 31) (hlp : ps.length < 2 ^ 31) (sw : own_sorted ws) (sp : own_sorted ps) :
    MetFree l (⟨"com/example/bundlewright/bundlewright/IntArrays", "holdsAll", "([I[I)Z"⟩ : MethodName) (head1 (Jvm.Cond.code (⟨"com/example/bundlewright/bundlewright/IntArrays", "holdsAll", "([I[I)Z"⟩ : MethodName) prog_44_method_5_code 7 (some .boolean) :: ws') ({ frames := 0, cells := 0, slots := 0, locals := 0 } : Room)) (fun a U => a = #[(.ref wa), (.ref pa)] ∧ Z.Warmed39 U.vm ∧ U.heap = h0) (fun _ _ _ _ _ => True) (fun _ U o U' => ∃ v L, o = .returned v ∧ Q2 wa pa ws ps h0 n0 v U'.heap L ∧ FrameEnd U o U' L (({ frames := 0, cells := 0, slots := 0, locals := 0 } : Room)).cells (({ frames := 0, cells := 0, slots := 0, locals := 0 } : Room)).slots) := by
  refine MetFree.of_bodySF (plainFor_of_name pn_2) hisR ?_
  intro p e s m args below meth c s₁ Bd hml0 hP hK
  obtain ⟨rfl, hZ, hh⟩ := hP
  have hx := Bd.exec
  have hby := Bd.bytes
  have hml : c.maxLocals = 7 := hml0
  have hown : s.vm.findClass "com/example/bundlewright/bundlewright/IntArrays" = some m.cls := findClass_of_methodNamed Bd.named
  have X0 : Stand p l e ({ frames := 0, cells := 0, slots := 0, locals := 0 } : Room) s m #[(.ref wa), (.ref pa)] below meth c s₁ [] 0 0 := Stand.of_body Bd
  have e0 : s₁.heap = h0 := by rw [← hh, Bd.state]; rfl
  obtain ⟨clw, Aw, Sw, Hw⟩ := A
  obtain ⟨clp, Ap, Sp, Hp⟩ := B
  obtain ⟨fs, hr, hrun, hended, hW, hsame⟩ := X0.leave (v := some (.int (nar .boolean (own_all ws ps)))) (fun h => by rw [Bd.returns] at h; cases h)
  refine ⟨_, _, castTop (ef_2 m wa pa) ?_, hrun, hended, _, _, rfl, ?_, ⟨_, rfl⟩, hW, hsame.mono (by decide) (by decide)⟩
  ·
    show Steps p.tables e below (s₁.setTop (mkF m 0 #[.val (.ref wa), .val (.ref pa), .unset, .unset, .unset, .unset, .unset] [])) _
    refine XS.iconst X0.here hx rfl (hb hby d2_0) ?_
    show Steps p.tables e below (s₁.setTop (mkF m 1 #[.val (.ref wa), .val (.ref pa), .unset, .unset, .unset, .unset, .unset] [(.int (0 : Int32))])) _
    refine XS.istoreN X0.here hx rfl (hb hby d2_1) rfl (l' := #[.val (.ref wa), .val (.ref pa), .val (.int (0 : Int32)), .unset, .unset, .unset, .unset]) rfl ?_
    show Steps p.tables e below (s₁.setTop (mkF m 2 #[.val (.ref wa), .val (.ref pa), .val (.int (0 : Int32)), .unset, .unset, .unset, .unset] [])) _
    refine XS.aloadN X0.here hx rfl (hb hby d2_2) rfl rfl ?_
    show Steps p.tables e below (s₁.setTop (mkF m 3 #[.val (.ref wa), .val (.ref pa), .val (.int (0 : Int32)), .unset, .unset, .unset, .unset] [(.ref pa)])) _
    refine XS.astoreN X0.here hx rfl (hb hby d2_3) rfl rfl (l' := #[.val (.ref wa), .val (.ref pa), .val (.int (0 : Int32)), .val (.ref pa), .unset, .unset, .unset]) rfl ?_
    show Steps p.tables e below (s₁.setTop (mkF m 4 #[.val (.ref wa), .val (.ref pa), .val (.int (0 : Int32)), .val (.ref pa), .unset, .unset, .unset] [])) _
    refine XS.aloadN X0.here hx rfl (hb hby d2_4) rfl rfl ?_
    show Steps p.tables e below (s₁.setTop (mkF m 5 #[.val (.ref wa), .val (.ref pa), .val (.int (0 : Int32)), .val (.ref pa), .unset, .unset, .unset] [(.ref pa)])) _
    refine X0.arraylength hx (by rw [e0]; exact Ap.1) (State.isArrayOf_alike hZ.alike Ap.2.1) (g := (mkF m 5 #[.val (.ref wa), .val (.ref pa), .val (.int (0 : Int32)), .val (.ref pa), .unset, .unset, .unset] [(.ref pa)])) rfl rfl (hb hby d2_5) _ ?_
    rw [Sp]
    show Steps p.tables e below (s₁.setTop (mkF m 6 #[.val (.ref wa), .val (.ref pa), .val (.int (0 : Int32)), .val (.ref pa), .unset, .unset, .unset] [(.int ps.length.toInt32)])) _
    refine XS.istore X0.here hx rfl (hb hby d2_6) rfl (l' := #[.val (.ref wa), .val (.ref pa), .val (.int (0 : Int32)), .val (.ref pa), .val (.int ps.length.toInt32), .unset, .unset]) rfl ?_
    show Steps p.tables e below (s₁.setTop (mkF m 8 #[.val (.ref wa), .val (.ref pa), .val (.int (0 : Int32)), .val (.ref pa), .val (.int ps.length.toInt32), .unset, .unset] [])) _
    refine XS.iconst X0.here hx rfl (hb hby d2_8) ?_
    show Steps p.tables e below (s₁.setTop (mkF m 9 #[.val (.ref wa), .val (.ref pa), .val (.int (0 : Int32)), .val (.ref pa), .val (.int ps.length.toInt32), .unset, .unset] [(.int (0 : Int32))])) _
    refine XS.istore X0.here hx rfl (hb hby d2_9) rfl (l' := #[.val (.ref wa), .val (.ref pa), .val (.int (0 : Int32)), .val (.ref pa), .val (.int ps.length.toInt32), .val (.int (0 : Int32)), .unset]) rfl ?_
    show Steps p.tables e below (s₁.setTop (mkF m 11 #[.val (.ref wa), .val (.ref pa), .val (.int (0 : Nat).toInt32), .val (.ref pa), .val (.int ps.length.toInt32), .val (.int (0 : Nat).toInt32), .unset] [])) _
    refine own_outer wa pa ws ps X0 hx hZ hby e0 clw Aw Sw Hw hlw clp Ap Sp Hp hlp sw sp _ ps.length 0 0 .unset One.u (by omega) (by omega) (fun t u h => by omega) (fun q Ls => ?_) (fun q Ls => ?_)
    · have e1 : own_all ws ps = 1 := by
        unfold own_all; rw [if_pos]; intro y hy
        obtain ⟨u, h1, h2⟩ := own_mem.mp hy
        rw [← h2]; exact q u (Nat.zero_le _) h1
      rw [e1] at hr
      exact retN X0 hx (t := .boolean) Bd.returns (by simp) (hb hby d2_67) hr
    · have e1 : own_all ws ps = 0 := by
        unfold own_all; rw [if_neg]; intro h
        obtain ⟨u, h1, h2⟩ := q
        exact h2 (h _ (own_mem.mpr ⟨u, h1, rfl⟩))
      rw [e1] at hr
      exact retN X0 hx (t := .boolean) Bd.returns (by simp) (hb hby d2_59) hr
  · exact ⟨by rw [own_nar (own_all_01 ws ps)], Fr.nil n0, e0⟩
def own_n (v5 : Int32) : Int32 := (v5 &&& (3 : Int32))
def own_m (v5 : Int32) : Int32 := ((((v5.toUInt32 >>> ((2 : Int32) &&& 31).toUInt32).toInt32) &&& (255 : Int32)) - (((v5.toUInt32 >>> ((2 : Int32) &&& 31).toUInt32).toInt32) &&& (255 : Int32)) / (3 : Int32) * (3 : Int32))
def own_k1 (v5 : Int32) : Int32 := (((v5.toUInt32 >>> ((10 : Int32) &&& 31).toUInt32).toInt32) &&& (3 : Int32))
def own_k2 (v5 : Int32) : Int32 := (((v5.toUInt32 >>> ((12 : Int32) &&& 31).toUInt32).toInt32) &&& (3 : Int32))
theorem own_rem {x y : Int32} {d : Int} (hy : y.toInt = d) (h1 : y ≠ -1) (hd : 0 < d) (hx : 0 ≤ x.toInt) : (x - x / y * y).toInt = x.toInt % d := by
  have a := (c_idiv x y d hy h1).1 hx
  have b := c_imul (x / y) y
  have e := c_isub x (x / y * y)
  have r1 := rng32 (x - x / y * y)
  have r2 := rng32 (x / y * y)
  have r3 := rng32 x
  rw [a, hy] at b
  have q := Int.emod_add_mul_ediv x.toInt d
  have q1 := Int.emod_nonneg x.toInt (show d ≠ 0 by omega)
  have q2 := Int.emod_lt_of_pos x.toInt hd
  rw [Int.mul_comm] at q
  have q3 : 0 ≤ x.toInt / d * d := Int.mul_nonneg (Int.ediv_nonneg hx (by omega)) (by omega)
  generalize x.toInt / d * d = z at *
  generalize x.toInt % d = w at *
  omega
theorem own_n_r (v5 : Int32) : 0 ≤ (own_n v5).toInt ∧ (own_n v5).toInt ≤ 3 := by
  have := c_mask v5 3 2 (by decide) (by decide)
  unfold own_n; rw [this]; omega
theorem own_m_r (v5 : Int32) : own_m v5 = 0 ∨ own_m v5 = 1 ∨ own_m v5 = 2 := by
  have h1 := c_mask ((v5.toUInt32 >>> ((2 : Int32) &&& 31).toUInt32).toInt32) 255 8 (by decide) (by decide)
  have h2 := own_rem (x := ((v5.toUInt32 >>> ((2 : Int32) &&& 31).toUInt32).toInt32 &&& (255 : Int32))) (y := 3) (d := 3) (by decide) (by decide) (by decide) (by rw [h1]; omega)
  unfold own_m
  simp only [← Int32.toInt_inj, h2, Int32.reduceToInt]
  omega
theorem own_os13 {s0 s1 s2 s3 s4 s5 s6 s7 s8 s9 s10 s11 s12 s13 s14 s15 s16 s17 s18 : Slot} {v : Int32} (h : One s13) : storeLocals #[s0, s1, s2, s3, s4, s5, s6, s7, s8, s9, s10, s11, s12, s13, s14, s15, s16, s17, s18] 13 (.int v) = some #[s0, s1, s2, s3, s4, s5, s6, s7, s8, s9, s10, s11, s12, .val (.int v), s14, s15, s16, s17, s18] := by
  rcases h with rfl | ⟨w, rfl, hw⟩
  · rfl
  · cases w <;> first | rfl | (simp [Value.category] at hw)
set_option maxRecDepth 65536 in
set_option maxHeartbeats 40000000 in
theorem own_sw45 {p : Program} {l : Launch} {e : Env} {R : Room} {s : State} {m : MethodId} {args : Array Value} {below : List Frame} {meth : Method} {c : Code} {T0 : State} {locs : List Loc} {cells slots : Nat} {Z : State}  (s0 s1 : Int32) (zs0 : Slot) (zs1 : Slot) (zs2 : Slot) (zs3 : Slot) (zs4 : Slot) (zs5 : Slot) (zs6 : Slot) (zs7 : Slot) (zs8 : Slot) (zs9 : Slot) (zs12 : Slot) (zs13 : Slot) (zs14 : Slot) (zs15 : Slot) (zs16 : Slot) (zs17 : Slot) (zs18 : Slot) (ho : One zs13)
    (X0 : Stand p l e R s m args below meth c T0 locs cells slots) (hx : p.tables.exec = Jvm.exec) (hZ : Z.Warmed39 s.vm) (hby : c.code = code) :
    ∃ (t0 t1 : Int32) (o : Slot), One o ∧ t0.toInt ≤ t1.toInt ∧ (t0 = s0 ∧ t1 = s1 ∨ t0 = s1 ∧ t1 = s0) ∧ ∀ target, Steps p.tables e below (T0.setTop (mkF m 64 #[zs0, zs1, zs2, zs3, zs4, zs5, zs6, zs7, zs8, zs9, .val (.int t0), .val (.int t1), zs12, o, zs14, zs15, zs16, zs17, zs18] [])) target → Steps p.tables e below (T0.setTop (mkF m 45 #[zs0, zs1, zs2, zs3, zs4, zs5, zs6, zs7, zs8, zs9, .val (.int s0), .val (.int s1), zs12, zs13, zs14, zs15, zs16, zs17, zs18] [])) target := by
  by_cases h : s1 < s0
  · refine ⟨s1, s0, .val (.int s0), One.val rfl, by rw [Int32.lt_iff_toInt_lt] at h; omega, Or.inr ⟨rfl, rfl⟩, fun target kt => ?_⟩
    show Steps p.tables e below (T0.setTop (mkF m 45 #[zs0, zs1, zs2, zs3, zs4, zs5, zs6, zs7, zs8, zs9, .val (.int s0), .val (.int s1), zs12, zs13, zs14, zs15, zs16, zs17, zs18] [])) _
    refine XS.iload X0.here hx rfl (hb hby at_45) rfl ?_
    show Steps p.tables e below (T0.setTop (mkF m 47 #[zs0, zs1, zs2, zs3, zs4, zs5, zs6, zs7, zs8, zs9, .val (.int s0), .val (.int s1), zs12, zs13, zs14, zs15, zs16, zs17, zs18] [(.int s0)])) _
    refine XS.iload X0.here hx rfl (hb hby at_47) rfl ?_
    show Steps p.tables e below (T0.setTop (mkF m 49 #[zs0, zs1, zs2, zs3, zs4, zs5, zs6, zs7, zs8, zs9, .val (.int s0), .val (.int s1), zs12, zs13, zs14, zs15, zs16, zs17, zs18] [(.int s1), (.int s0)])) _
    refine XS.icmpNo X0.here hx rfl (hb hby at_49) rfl (tlt h).2.2.2 ?_
    show Steps p.tables e below (T0.setTop (mkF m 52 #[zs0, zs1, zs2, zs3, zs4, zs5, zs6, zs7, zs8, zs9, .val (.int s0), .val (.int s1), zs12, zs13, zs14, zs15, zs16, zs17, zs18] [])) _
    refine XS.iload X0.here hx rfl (hb hby at_52) rfl ?_
    show Steps p.tables e below (T0.setTop (mkF m 54 #[zs0, zs1, zs2, zs3, zs4, zs5, zs6, zs7, zs8, zs9, .val (.int s0), .val (.int s1), zs12, zs13, zs14, zs15, zs16, zs17, zs18] [(.int s0)])) _
    refine XS.istore X0.here hx rfl (hb hby at_54) rfl (l' := #[zs0, zs1, zs2, zs3, zs4, zs5, zs6, zs7, zs8, zs9, .val (.int s0), .val (.int s1), zs12, .val (.int s0), zs14, zs15, zs16, zs17, zs18]) (own_os13 ho) ?_
    show Steps p.tables e below (T0.setTop (mkF m 56 #[zs0, zs1, zs2, zs3, zs4, zs5, zs6, zs7, zs8, zs9, .val (.int s0), .val (.int s1), zs12, .val (.int s0), zs14, zs15, zs16, zs17, zs18] [])) _
    refine XS.iload X0.here hx rfl (hb hby at_56) rfl ?_
    show Steps p.tables e below (T0.setTop (mkF m 58 #[zs0, zs1, zs2, zs3, zs4, zs5, zs6, zs7, zs8, zs9, .val (.int s0), .val (.int s1), zs12, .val (.int s0), zs14, zs15, zs16, zs17, zs18] [(.int s1)])) _
    refine XS.istore X0.here hx rfl (hb hby at_58) rfl (l' := #[zs0, zs1, zs2, zs3, zs4, zs5, zs6, zs7, zs8, zs9, .val (.int s1), .val (.int s1), zs12, .val (.int s0), zs14, zs15, zs16, zs17, zs18]) rfl ?_
    show Steps p.tables e below (T0.setTop (mkF m 60 #[zs0, zs1, zs2, zs3, zs4, zs5, zs6, zs7, zs8, zs9, .val (.int s1), .val (.int s1), zs12, .val (.int s0), zs14, zs15, zs16, zs17, zs18] [])) _
    refine XS.iload X0.here hx rfl (hb hby at_60) rfl ?_
    show Steps p.tables e below (T0.setTop (mkF m 62 #[zs0, zs1, zs2, zs3, zs4, zs5, zs6, zs7, zs8, zs9, .val (.int s1), .val (.int s1), zs12, .val (.int s0), zs14, zs15, zs16, zs17, zs18] [(.int s0)])) _
    refine XS.istore X0.here hx rfl (hb hby at_62) rfl (l' := #[zs0, zs1, zs2, zs3, zs4, zs5, zs6, zs7, zs8, zs9, .val (.int s1), .val (.int s0), zs12, .val (.int s0), zs14, zs15, zs16, zs17, zs18]) rfl ?_
    show Steps p.tables e below (T0.setTop (mkF m 64 #[zs0, zs1, zs2, zs3, zs4, zs5, zs6, zs7, zs8, zs9, .val (.int s1), .val (.int s0), zs12, .val (.int s0), zs14, zs15, zs16, zs17, zs18] [])) _
    exact kt
  · refine ⟨s0, s1, zs13, ho, by rw [Int32.lt_iff_toInt_lt] at h; omega, Or.inl ⟨rfl, rfl⟩, fun target kt => ?_⟩
    show Steps p.tables e below (T0.setTop (mkF m 45 #[zs0, zs1, zs2, zs3, zs4, zs5, zs6, zs7, zs8, zs9, .val (.int s0), .val (.int s1), zs12, zs13, zs14, zs15, zs16, zs17, zs18] [])) _
    refine XS.iload X0.here hx rfl (hb hby at_45) rfl ?_
    show Steps p.tables e below (T0.setTop (mkF m 47 #[zs0, zs1, zs2, zs3, zs4, zs5, zs6, zs7, zs8, zs9, .val (.int s0), .val (.int s1), zs12, zs13, zs14, zs15, zs16, zs17, zs18] [(.int s0)])) _
    refine XS.iload X0.here hx rfl (hb hby at_47) rfl ?_
    show Steps p.tables e below (T0.setTop (mkF m 49 #[zs0, zs1, zs2, zs3, zs4, zs5, zs6, zs7, zs8, zs9, .val (.int s0), .val (.int s1), zs12, zs13, zs14, zs15, zs16, zs17, zs18] [(.int s1), (.int s0)])) _
    refine XS.icmpYes X0.here hx rfl (pc0 := 49) (pc' := 64) rfl (hb hby at_49) rfl (flt h).2.2.2 (by decide) (by decide) ?_
    show Steps p.tables e below (T0.setTop (mkF m 64 #[zs0, zs1, zs2, zs3, zs4, zs5, zs6, zs7, zs8, zs9, .val (.int s0), .val (.int s1), zs12, zs13, zs14, zs15, zs16, zs17, zs18] [])) _
    exact kt
set_option maxRecDepth 65536 in
set_option maxHeartbeats 40000000 in
theorem own_sw64 {p : Program} {l : Launch} {e : Env} {R : Room} {s : State} {m : MethodId} {args : Array Value} {below : List Frame} {meth : Method} {c : Code} {T0 : State} {locs : List Loc} {cells slots : Nat} {Z : State}  (s0 s1 : Int32) (zs0 : Slot) (zs1 : Slot) (zs2 : Slot) (zs3 : Slot) (zs4 : Slot) (zs5 : Slot) (zs6 : Slot) (zs7 : Slot) (zs8 : Slot) (zs9 : Slot) (zs10 : Slot) (zs13 : Slot) (zs14 : Slot) (zs15 : Slot) (zs16 : Slot) (zs17 : Slot) (zs18 : Slot) (ho : One zs13)
    (X0 : Stand p l e R s m args below meth c T0 locs cells slots) (hx : p.tables.exec = Jvm.exec) (hZ : Z.Warmed39 s.vm) (hby : c.code = code) :
    ∃ (t0 t1 : Int32) (o : Slot), One o ∧ t0.toInt ≤ t1.toInt ∧ (t0 = s0 ∧ t1 = s1 ∨ t0 = s1 ∧ t1 = s0) ∧ ∀ target, Steps p.tables e below (T0.setTop (mkF m 83 #[zs0, zs1, zs2, zs3, zs4, zs5, zs6, zs7, zs8, zs9, zs10, .val (.int t0), .val (.int t1), o, zs14, zs15, zs16, zs17, zs18] [])) target → Steps p.tables e below (T0.setTop (mkF m 64 #[zs0, zs1, zs2, zs3, zs4, zs5, zs6, zs7, zs8, zs9, zs10, .val (.int s0), .val (.int s1), zs13, zs14, zs15, zs16, zs17, zs18] [])) target := by
  by_cases h : s1 < s0
  · refine ⟨s1, s0, .val (.int s0), One.val rfl, by rw [Int32.lt_iff_toInt_lt] at h; omega, Or.inr ⟨rfl, rfl⟩, fun target kt => ?_⟩
    show Steps p.tables e below (T0.setTop (mkF m 64 #[zs0, zs1, zs2, zs3, zs4, zs5, zs6, zs7, zs8, zs9, zs10, .val (.int s0), .val (.int s1), zs13, zs14, zs15, zs16, zs17, zs18] [])) _
    refine XS.iload X0.here hx rfl (hb hby at_64) rfl ?_
    show Steps p.tables e below (T0.setTop (mkF m 66 #[zs0, zs1, zs2, zs3, zs4, zs5, zs6, zs7, zs8, zs9, zs10, .val (.int s0), .val (.int s1), zs13, zs14, zs15, zs16, zs17, zs18] [(.int s0)])) _
    refine XS.iload X0.here hx rfl (hb hby at_66) rfl ?_
    show Steps p.tables e below (T0.setTop (mkF m 68 #[zs0, zs1, zs2, zs3, zs4, zs5, zs6, zs7, zs8, zs9, zs10, .val (.int s0), .val (.int s1), zs13, zs14, zs15, zs16, zs17, zs18] [(.int s1), (.int s0)])) _
    refine XS.icmpNo X0.here hx rfl (hb hby at_68) rfl (tlt h).2.2.2 ?_
    show Steps p.tables e below (T0.setTop (mkF m 71 #[zs0, zs1, zs2, zs3, zs4, zs5, zs6, zs7, zs8, zs9, zs10, .val (.int s0), .val (.int s1), zs13, zs14, zs15, zs16, zs17, zs18] [])) _
    refine XS.iload X0.here hx rfl (hb hby at_71) rfl ?_
    show Steps p.tables e below (T0.setTop (mkF m 73 #[zs0, zs1, zs2, zs3, zs4, zs5, zs6, zs7, zs8, zs9, zs10, .val (.int s0), .val (.int s1), zs13, zs14, zs15, zs16, zs17, zs18] [(.int s0)])) _
    refine XS.istore X0.here hx rfl (hb hby at_73) rfl (l' := #[zs0, zs1, zs2, zs3, zs4, zs5, zs6, zs7, zs8, zs9, zs10, .val (.int s0), .val (.int s1), .val (.int s0), zs14, zs15, zs16, zs17, zs18]) (own_os13 ho) ?_
    show Steps p.tables e below (T0.setTop (mkF m 75 #[zs0, zs1, zs2, zs3, zs4, zs5, zs6, zs7, zs8, zs9, zs10, .val (.int s0), .val (.int s1), .val (.int s0), zs14, zs15, zs16, zs17, zs18] [])) _
    refine XS.iload X0.here hx rfl (hb hby at_75) rfl ?_
    show Steps p.tables e below (T0.setTop (mkF m 77 #[zs0, zs1, zs2, zs3, zs4, zs5, zs6, zs7, zs8, zs9, zs10, .val (.int s0), .val (.int s1), .val (.int s0), zs14, zs15, zs16, zs17, zs18] [(.int s1)])) _
    refine XS.istore X0.here hx rfl (hb hby at_77) rfl (l' := #[zs0, zs1, zs2, zs3, zs4, zs5, zs6, zs7, zs8, zs9, zs10, .val (.int s1), .val (.int s1), .val (.int s0), zs14, zs15, zs16, zs17, zs18]) rfl ?_
    show Steps p.tables e below (T0.setTop (mkF m 79 #[zs0, zs1, zs2, zs3, zs4, zs5, zs6, zs7, zs8, zs9, zs10, .val (.int s1), .val (.int s1), .val (.int s0), zs14, zs15, zs16, zs17, zs18] [])) _
    refine XS.iload X0.here hx rfl (hb hby at_79) rfl ?_
    show Steps p.tables e below (T0.setTop (mkF m 81 #[zs0, zs1, zs2, zs3, zs4, zs5, zs6, zs7, zs8, zs9, zs10, .val (.int s1), .val (.int s1), .val (.int s0), zs14, zs15, zs16, zs17, zs18] [(.int s0)])) _
    refine XS.istore X0.here hx rfl (hb hby at_81) rfl (l' := #[zs0, zs1, zs2, zs3, zs4, zs5, zs6, zs7, zs8, zs9, zs10, .val (.int s1), .val (.int s0), .val (.int s0), zs14, zs15, zs16, zs17, zs18]) rfl ?_
    show Steps p.tables e below (T0.setTop (mkF m 83 #[zs0, zs1, zs2, zs3, zs4, zs5, zs6, zs7, zs8, zs9, zs10, .val (.int s1), .val (.int s0), .val (.int s0), zs14, zs15, zs16, zs17, zs18] [])) _
    exact kt
  · refine ⟨s0, s1, zs13, ho, by rw [Int32.lt_iff_toInt_lt] at h; omega, Or.inl ⟨rfl, rfl⟩, fun target kt => ?_⟩
    show Steps p.tables e below (T0.setTop (mkF m 64 #[zs0, zs1, zs2, zs3, zs4, zs5, zs6, zs7, zs8, zs9, zs10, .val (.int s0), .val (.int s1), zs13, zs14, zs15, zs16, zs17, zs18] [])) _
    refine XS.iload X0.here hx rfl (hb hby at_64) rfl ?_
    show Steps p.tables e below (T0.setTop (mkF m 66 #[zs0, zs1, zs2, zs3, zs4, zs5, zs6, zs7, zs8, zs9, zs10, .val (.int s0), .val (.int s1), zs13, zs14, zs15, zs16, zs17, zs18] [(.int s0)])) _
    refine XS.iload X0.here hx rfl (hb hby at_66) rfl ?_
    show Steps p.tables e below (T0.setTop (mkF m 68 #[zs0, zs1, zs2, zs3, zs4, zs5, zs6, zs7, zs8, zs9, zs10, .val (.int s0), .val (.int s1), zs13, zs14, zs15, zs16, zs17, zs18] [(.int s1), (.int s0)])) _
    refine XS.icmpYes X0.here hx rfl (pc0 := 68) (pc' := 83) rfl (hb hby at_68) rfl (flt h).2.2.2 (by decide) (by decide) ?_
    show Steps p.tables e below (T0.setTop (mkF m 83 #[zs0, zs1, zs2, zs3, zs4, zs5, zs6, zs7, zs8, zs9, zs10, .val (.int s0), .val (.int s1), zs13, zs14, zs15, zs16, zs17, zs18] [])) _
    exact kt
set_option maxRecDepth 65536 in
set_option maxHeartbeats 40000000 in
theorem own_sw83 {p : Program} {l : Launch} {e : Env} {R : Room} {s : State} {m : MethodId} {args : Array Value} {below : List Frame} {meth : Method} {c : Code} {T0 : State} {locs : List Loc} {cells slots : Nat} {Z : State}  (s0 s1 : Int32) (zs0 : Slot) (zs1 : Slot) (zs2 : Slot) (zs3 : Slot) (zs4 : Slot) (zs5 : Slot) (zs6 : Slot) (zs7 : Slot) (zs8 : Slot) (zs9 : Slot) (zs12 : Slot) (zs13 : Slot) (zs14 : Slot) (zs15 : Slot) (zs16 : Slot) (zs17 : Slot) (zs18 : Slot) (ho : One zs13)
    (X0 : Stand p l e R s m args below meth c T0 locs cells slots) (hx : p.tables.exec = Jvm.exec) (hZ : Z.Warmed39 s.vm) (hby : c.code = code) :
    ∃ (t0 t1 : Int32) (o : Slot), One o ∧ t0.toInt ≤ t1.toInt ∧ (t0 = s0 ∧ t1 = s1 ∨ t0 = s1 ∧ t1 = s0) ∧ ∀ target, Steps p.tables e below (T0.setTop (mkF m 102 #[zs0, zs1, zs2, zs3, zs4, zs5, zs6, zs7, zs8, zs9, .val (.int t0), .val (.int t1), zs12, o, zs14, zs15, zs16, zs17, zs18] [])) target → Steps p.tables e below (T0.setTop (mkF m 83 #[zs0, zs1, zs2, zs3, zs4, zs5, zs6, zs7, zs8, zs9, .val (.int s0), .val (.int s1), zs12, zs13, zs14, zs15, zs16, zs17, zs18] [])) target := by
  by_cases h : s1 < s0
  · refine ⟨s1, s0, .val (.int s0), One.val rfl, by rw [Int32.lt_iff_toInt_lt] at h; omega, Or.inr ⟨rfl, rfl⟩, fun target kt => ?_⟩
    show Steps p.tables e below (T0.setTop (mkF m 83 #[zs0, zs1, zs2, zs3, zs4, zs5, zs6, zs7, zs8, zs9, .val (.int s0), .val (.int s1), zs12, zs13, zs14, zs15, zs16, zs17, zs18] [])) _
    refine XS.iload X0.here hx rfl (hb hby at_83) rfl ?_
    show Steps p.tables e below (T0.setTop (mkF m 85 #[zs0, zs1, zs2, zs3, zs4, zs5, zs6, zs7, zs8, zs9, .val (.int s0), .val (.int s1), zs12, zs13, zs14, zs15, zs16, zs17, zs18] [(.int s0)])) _
    refine XS.iload X0.here hx rfl (hb hby at_85) rfl ?_
    show Steps p.tables e below (T0.setTop (mkF m 87 #[zs0, zs1, zs2, zs3, zs4, zs5, zs6, zs7, zs8, zs9, .val (.int s0), .val (.int s1), zs12, zs13, zs14, zs15, zs16, zs17, zs18] [(.int s1), (.int s0)])) _
    refine XS.icmpNo X0.here hx rfl (hb hby at_87) rfl (tlt h).2.2.2 ?_
    show Steps p.tables e below (T0.setTop (mkF m 90 #[zs0, zs1, zs2, zs3, zs4, zs5, zs6, zs7, zs8, zs9, .val (.int s0), .val (.int s1), zs12, zs13, zs14, zs15, zs16, zs17, zs18] [])) _
    refine XS.iload X0.here hx rfl (hb hby at_90) rfl ?_
    show Steps p.tables e below (T0.setTop (mkF m 92 #[zs0, zs1, zs2, zs3, zs4, zs5, zs6, zs7, zs8, zs9, .val (.int s0), .val (.int s1), zs12, zs13, zs14, zs15, zs16, zs17, zs18] [(.int s0)])) _
    refine XS.istore X0.here hx rfl (hb hby at_92) rfl (l' := #[zs0, zs1, zs2, zs3, zs4, zs5, zs6, zs7, zs8, zs9, .val (.int s0), .val (.int s1), zs12, .val (.int s0), zs14, zs15, zs16, zs17, zs18]) (own_os13 ho) ?_
    show Steps p.tables e below (T0.setTop (mkF m 94 #[zs0, zs1, zs2, zs3, zs4, zs5, zs6, zs7, zs8, zs9, .val (.int s0), .val (.int s1), zs12, .val (.int s0), zs14, zs15, zs16, zs17, zs18] [])) _
    refine XS.iload X0.here hx rfl (hb hby at_94) rfl ?_
    show Steps p.tables e below (T0.setTop (mkF m 96 #[zs0, zs1, zs2, zs3, zs4, zs5, zs6, zs7, zs8, zs9, .val (.int s0), .val (.int s1), zs12, .val (.int s0), zs14, zs15, zs16, zs17, zs18] [(.int s1)])) _
    refine XS.istore X0.here hx rfl (hb hby at_96) rfl (l' := #[zs0, zs1, zs2, zs3, zs4, zs5, zs6, zs7, zs8, zs9, .val (.int s1), .val (.int s1), zs12, .val (.int s0), zs14, zs15, zs16, zs17, zs18]) rfl ?_
    show Steps p.tables e below (T0.setTop (mkF m 98 #[zs0, zs1, zs2, zs3, zs4, zs5, zs6, zs7, zs8, zs9, .val (.int s1), .val (.int s1), zs12, .val (.int s0), zs14, zs15, zs16, zs17, zs18] [])) _
    refine XS.iload X0.here hx rfl (hb hby at_98) rfl ?_
    show Steps p.tables e below (T0.setTop (mkF m 100 #[zs0, zs1, zs2, zs3, zs4, zs5, zs6, zs7, zs8, zs9, .val (.int s1), .val (.int s1), zs12, .val (.int s0), zs14, zs15, zs16, zs17, zs18] [(.int s0)])) _
    refine XS.istore X0.here hx rfl (hb hby at_100) rfl (l' := #[zs0, zs1, zs2, zs3, zs4, zs5, zs6, zs7, zs8, zs9, .val (.int s1), .val (.int s0), zs12, .val (.int s0), zs14, zs15, zs16, zs17, zs18]) rfl ?_
    show Steps p.tables e below (T0.setTop (mkF m 102 #[zs0, zs1, zs2, zs3, zs4, zs5, zs6, zs7, zs8, zs9, .val (.int s1), .val (.int s0), zs12, .val (.int s0), zs14, zs15, zs16, zs17, zs18] [])) _
    exact kt
  · refine ⟨s0, s1, zs13, ho, by rw [Int32.lt_iff_toInt_lt] at h; omega, Or.inl ⟨rfl, rfl⟩, fun target kt => ?_⟩
    show Steps p.tables e below (T0.setTop (mkF m 83 #[zs0, zs1, zs2, zs3, zs4, zs5, zs6, zs7, zs8, zs9, .val (.int s0), .val (.int s1), zs12, zs13, zs14, zs15, zs16, zs17, zs18] [])) _
    refine XS.iload X0.here hx rfl (hb hby at_83) rfl ?_
    show Steps p.tables e below (T0.setTop (mkF m 85 #[zs0, zs1, zs2, zs3, zs4, zs5, zs6, zs7, zs8, zs9, .val (.int s0), .val (.int s1), zs12, zs13, zs14, zs15, zs16, zs17, zs18] [(.int s0)])) _
    refine XS.iload X0.here hx rfl (hb hby at_85) rfl ?_
    show Steps p.tables e below (T0.setTop (mkF m 87 #[zs0, zs1, zs2, zs3, zs4, zs5, zs6, zs7, zs8, zs9, .val (.int s0), .val (.int s1), zs12, zs13, zs14, zs15, zs16, zs17, zs18] [(.int s1), (.int s0)])) _
    refine XS.icmpYes X0.here hx rfl (pc0 := 87) (pc' := 102) rfl (hb hby at_87) rfl (flt h).2.2.2 (by decide) (by decide) ?_
    show Steps p.tables e below (T0.setTop (mkF m 102 #[zs0, zs1, zs2, zs3, zs4, zs5, zs6, zs7, zs8, zs9, .val (.int s0), .val (.int s1), zs12, zs13, zs14, zs15, zs16, zs17, zs18] [])) _
    exact kt
set_option maxRecDepth 65536 in
set_option maxHeartbeats 40000000 in
theorem own_put0 {p : Program} {l : Launch} {e : Env} {R : Room} {s : State} {m : MethodId} {args : Array Value} {below : List Frame} {meth : Method} {c : Code} {T0 : State} {locs : List Loc} {cells slots : Nat} {Z : State} {h0 : Heap} (nn sk : Int32) (b : Addr) (zs0 : Slot) (zs1 : Slot) (zs2 : Slot) (zs3 : Slot) (zs4 : Slot) (zs5 : Slot) (zs7 : Slot) (zs8 : Slot) (zs9 : Slot) (zs11 : Slot) (zs12 : Slot) (zs13 : Slot) (zs15 : Slot) (zs16 : Slot) (zs17 : Slot) (zs18 : Slot) {n0 : Nat} (xs : List Int32)
    (X0 : Stand p l e R s m args below meth c T0 locs cells slots) (hx : p.tables.exec = Jvm.exec) (hZ : Z.Warmed39 s.vm) (hby : c.code = code) (e0 : T0.heap = h0) (A : own_L Z h0 b xs) (hlen : xs.length = nn.toNatClampNeg) (gb : n0 ≤ b) (N : Fr n0 locs) :
    ∃ T' h' L', Stand p l e R s m args below meth c T' L' cells slots ∧ T'.heap = h' ∧ own_L Z h' b (if (0 : Int32) < nn then xs.set 0 sk else xs) ∧ Fr n0 L' ∧ h'.size = h0.size ∧ ∀ target, Steps p.tables e below (T'.setTop (mkF m 119 #[zs0, zs1, zs2, zs3, zs4, zs5, .val (.int nn), zs7, zs8, zs9, .val (.int sk), zs11, zs12, zs13, .val (.ref b), zs15, zs16, zs17, zs18] [])) target → Steps p.tables e below (T0.setTop (mkF m 108 #[zs0, zs1, zs2, zs3, zs4, zs5, .val (.int nn), zs7, zs8, zs9, .val (.int sk), zs11, zs12, zs13, .val (.ref b), zs15, zs16, zs17, zs18] [])) target := by
  by_cases h : (0 : Int32) < nn
  · have hi : 0 < xs.length := by rw [hlen]; rw [Int32.lt_iff_toInt_lt] at h; rw [Int32.toNatClampNeg]; simp only [Int32.reduceToInt] at h; omega
    obtain ⟨T1, h1, L1, X1, e1, A1, N1, z1', -, st1⟩ := own_st X0 hx hZ e0 A gb N (0 : Int32) 0 (by decide) hi sk (g := (mkF m 118 #[zs0, zs1, zs2, zs3, zs4, zs5, .val (.int nn), zs7, zs8, zs9, .val (.int sk), zs11, zs12, zs13, .val (.ref b), zs15, zs16, zs17, zs18] [(.int sk), (.int (0 : Int32)), (.ref b)])) rfl rfl (hb hby at_118)
    refine ⟨T1, h1, L1, X1, e1, by rw [if_pos h]; exact A1, N1, z1', fun target kt => ?_⟩
    show Steps p.tables e below (T0.setTop (mkF m 108 #[zs0, zs1, zs2, zs3, zs4, zs5, .val (.int nn), zs7, zs8, zs9, .val (.int sk), zs11, zs12, zs13, .val (.ref b), zs15, zs16, zs17, zs18] [])) _
    refine XS.iload X0.here hx rfl (hb hby at_108) rfl ?_
    show Steps p.tables e below (T0.setTop (mkF m 110 #[zs0, zs1, zs2, zs3, zs4, zs5, .val (.int nn), zs7, zs8, zs9, .val (.int sk), zs11, zs12, zs13, .val (.ref b), zs15, zs16, zs17, zs18] [(.int nn)])) _
    refine XS.ifNo X0.here hx rfl (hb hby at_110) rfl ((if0 _ _).trans (tlt h).2.2.2) ?_
    show Steps p.tables e below (T0.setTop (mkF m 113 #[zs0, zs1, zs2, zs3, zs4, zs5, .val (.int nn), zs7, zs8, zs9, .val (.int sk), zs11, zs12, zs13, .val (.ref b), zs15, zs16, zs17, zs18] [])) _
    refine XS.aload X0.here hx rfl (hb hby at_113) rfl rfl ?_
    show Steps p.tables e below (T0.setTop (mkF m 115 #[zs0, zs1, zs2, zs3, zs4, zs5, .val (.int nn), zs7, zs8, zs9, .val (.int sk), zs11, zs12, zs13, .val (.ref b), zs15, zs16, zs17, zs18] [(.ref b)])) _
    refine XS.iconst X0.here hx rfl (hb hby at_115) ?_
    show Steps p.tables e below (T0.setTop (mkF m 116 #[zs0, zs1, zs2, zs3, zs4, zs5, .val (.int nn), zs7, zs8, zs9, .val (.int sk), zs11, zs12, zs13, .val (.ref b), zs15, zs16, zs17, zs18] [(.int (0 : Int32)), (.ref b)])) _
    refine XS.iload X0.here hx rfl (hb hby at_116) rfl ?_
    show Steps p.tables e below (T0.setTop (mkF m 118 #[zs0, zs1, zs2, zs3, zs4, zs5, .val (.int nn), zs7, zs8, zs9, .val (.int sk), zs11, zs12, zs13, .val (.ref b), zs15, zs16, zs17, zs18] [(.int sk), (.int (0 : Int32)), (.ref b)])) _
    refine st1 _ ?_
    exact kt
  · refine ⟨T0, h0, locs, X0, e0, by rw [if_neg h]; exact A, N, rfl, fun target kt => ?_⟩
    show Steps p.tables e below (T0.setTop (mkF m 108 #[zs0, zs1, zs2, zs3, zs4, zs5, .val (.int nn), zs7, zs8, zs9, .val (.int sk), zs11, zs12, zs13, .val (.ref b), zs15, zs16, zs17, zs18] [])) _
    refine XS.iload X0.here hx rfl (hb hby at_108) rfl ?_
    show Steps p.tables e below (T0.setTop (mkF m 110 #[zs0, zs1, zs2, zs3, zs4, zs5, .val (.int nn), zs7, zs8, zs9, .val (.int sk), zs11, zs12, zs13, .val (.ref b), zs15, zs16, zs17, zs18] [(.int nn)])) _
    refine XS.ifYes X0.here hx rfl (pc0 := 110) (pc' := 119) rfl (hb hby at_110) rfl ((if0 _ _).trans (flt h).2.2.2) (by decide) (by decide) ?_
    show Steps p.tables e below (T0.setTop (mkF m 119 #[zs0, zs1, zs2, zs3, zs4, zs5, .val (.int nn), zs7, zs8, zs9, .val (.int sk), zs11, zs12, zs13, .val (.ref b), zs15, zs16, zs17, zs18] [])) _
    exact kt
set_option maxRecDepth 65536 in
set_option maxHeartbeats 40000000 in
theorem own_put1 {p : Program} {l : Launch} {e : Env} {R : Room} {s : State} {m : MethodId} {args : Array Value} {below : List Frame} {meth : Method} {c : Code} {T0 : State} {locs : List Loc} {cells slots : Nat} {Z : State} {h0 : Heap} (nn sk : Int32) (b : Addr) (zs0 : Slot) (zs1 : Slot) (zs2 : Slot) (zs3 : Slot) (zs4 : Slot) (zs5 : Slot) (zs7 : Slot) (zs8 : Slot) (zs9 : Slot) (zs10 : Slot) (zs12 : Slot) (zs13 : Slot) (zs15 : Slot) (zs16 : Slot) (zs17 : Slot) (zs18 : Slot) {n0 : Nat} (xs : List Int32)
    (X0 : Stand p l e R s m args below meth c T0 locs cells slots) (hx : p.tables.exec = Jvm.exec) (hZ : Z.Warmed39 s.vm) (hby : c.code = code) (e0 : T0.heap = h0) (A : own_L Z h0 b xs) (hlen : xs.length = nn.toNatClampNeg) (gb : n0 ≤ b) (N : Fr n0 locs) :
    ∃ T' h' L', Stand p l e R s m args below meth c T' L' cells slots ∧ T'.heap = h' ∧ own_L Z h' b (if (1 : Int32) < nn then xs.set 1 sk else xs) ∧ Fr n0 L' ∧ h'.size = h0.size ∧ ∀ target, Steps p.tables e below (T'.setTop (mkF m 131 #[zs0, zs1, zs2, zs3, zs4, zs5, .val (.int nn), zs7, zs8, zs9, zs10, .val (.int sk), zs12, zs13, .val (.ref b), zs15, zs16, zs17, zs18] [])) target → Steps p.tables e below (T0.setTop (mkF m 119 #[zs0, zs1, zs2, zs3, zs4, zs5, .val (.int nn), zs7, zs8, zs9, zs10, .val (.int sk), zs12, zs13, .val (.ref b), zs15, zs16, zs17, zs18] [])) target := by
  by_cases h : (1 : Int32) < nn
  · have hi : 1 < xs.length := by rw [hlen]; rw [Int32.lt_iff_toInt_lt] at h; rw [Int32.toNatClampNeg]; simp only [Int32.reduceToInt] at h; omega
    obtain ⟨T1, h1, L1, X1, e1, A1, N1, z1', -, st1⟩ := own_st X0 hx hZ e0 A gb N (1 : Int32) 1 (by decide) hi sk (g := (mkF m 130 #[zs0, zs1, zs2, zs3, zs4, zs5, .val (.int nn), zs7, zs8, zs9, zs10, .val (.int sk), zs12, zs13, .val (.ref b), zs15, zs16, zs17, zs18] [(.int sk), (.int (1 : Int32)), (.ref b)])) rfl rfl (hb hby at_130)
    refine ⟨T1, h1, L1, X1, e1, by rw [if_pos h]; exact A1, N1, z1', fun target kt => ?_⟩
    show Steps p.tables e below (T0.setTop (mkF m 119 #[zs0, zs1, zs2, zs3, zs4, zs5, .val (.int nn), zs7, zs8, zs9, zs10, .val (.int sk), zs12, zs13, .val (.ref b), zs15, zs16, zs17, zs18] [])) _
    refine XS.iload X0.here hx rfl (hb hby at_119) rfl ?_
    show Steps p.tables e below (T0.setTop (mkF m 121 #[zs0, zs1, zs2, zs3, zs4, zs5, .val (.int nn), zs7, zs8, zs9, zs10, .val (.int sk), zs12, zs13, .val (.ref b), zs15, zs16, zs17, zs18] [(.int nn)])) _
    refine XS.iconst X0.here hx rfl (hb hby at_121) ?_
    show Steps p.tables e below (T0.setTop (mkF m 122 #[zs0, zs1, zs2, zs3, zs4, zs5, .val (.int nn), zs7, zs8, zs9, zs10, .val (.int sk), zs12, zs13, .val (.ref b), zs15, zs16, zs17, zs18] [(.int (1 : Int32)), (.int nn)])) _
    refine XS.icmpNo X0.here hx rfl (hb hby at_122) rfl (tlt h).2.2.2 ?_
    show Steps p.tables e below (T0.setTop (mkF m 125 #[zs0, zs1, zs2, zs3, zs4, zs5, .val (.int nn), zs7, zs8, zs9, zs10, .val (.int sk), zs12, zs13, .val (.ref b), zs15, zs16, zs17, zs18] [])) _
    refine XS.aload X0.here hx rfl (hb hby at_125) rfl rfl ?_
    show Steps p.tables e below (T0.setTop (mkF m 127 #[zs0, zs1, zs2, zs3, zs4, zs5, .val (.int nn), zs7, zs8, zs9, zs10, .val (.int sk), zs12, zs13, .val (.ref b), zs15, zs16, zs17, zs18] [(.ref b)])) _
    refine XS.iconst X0.here hx rfl (hb hby at_127) ?_
    show Steps p.tables e below (T0.setTop (mkF m 128 #[zs0, zs1, zs2, zs3, zs4, zs5, .val (.int nn), zs7, zs8, zs9, zs10, .val (.int sk), zs12, zs13, .val (.ref b), zs15, zs16, zs17, zs18] [(.int (1 : Int32)), (.ref b)])) _
    refine XS.iload X0.here hx rfl (hb hby at_128) rfl ?_
    show Steps p.tables e below (T0.setTop (mkF m 130 #[zs0, zs1, zs2, zs3, zs4, zs5, .val (.int nn), zs7, zs8, zs9, zs10, .val (.int sk), zs12, zs13, .val (.ref b), zs15, zs16, zs17, zs18] [(.int sk), (.int (1 : Int32)), (.ref b)])) _
    refine st1 _ ?_
    exact kt
  · refine ⟨T0, h0, locs, X0, e0, by rw [if_neg h]; exact A, N, rfl, fun target kt => ?_⟩
    show Steps p.tables e below (T0.setTop (mkF m 119 #[zs0, zs1, zs2, zs3, zs4, zs5, .val (.int nn), zs7, zs8, zs9, zs10, .val (.int sk), zs12, zs13, .val (.ref b), zs15, zs16, zs17, zs18] [])) _
    refine XS.iload X0.here hx rfl (hb hby at_119) rfl ?_
    show Steps p.tables e below (T0.setTop (mkF m 121 #[zs0, zs1, zs2, zs3, zs4, zs5, .val (.int nn), zs7, zs8, zs9, zs10, .val (.int sk), zs12, zs13, .val (.ref b), zs15, zs16, zs17, zs18] [(.int nn)])) _
    refine XS.iconst X0.here hx rfl (hb hby at_121) ?_
    show Steps p.tables e below (T0.setTop (mkF m 122 #[zs0, zs1, zs2, zs3, zs4, zs5, .val (.int nn), zs7, zs8, zs9, zs10, .val (.int sk), zs12, zs13, .val (.ref b), zs15, zs16, zs17, zs18] [(.int (1 : Int32)), (.int nn)])) _
    refine XS.icmpYes X0.here hx rfl (pc0 := 122) (pc' := 131) rfl (hb hby at_122) rfl (flt h).2.2.2 (by decide) (by decide) ?_
    show Steps p.tables e below (T0.setTop (mkF m 131 #[zs0, zs1, zs2, zs3, zs4, zs5, .val (.int nn), zs7, zs8, zs9, zs10, .val (.int sk), zs12, zs13, .val (.ref b), zs15, zs16, zs17, zs18] [])) _
    exact kt
set_option maxRecDepth 65536 in
set_option maxHeartbeats 40000000 in
theorem own_put2 {p : Program} {l : Launch} {e : Env} {R : Room} {s : State} {m : MethodId} {args : Array Value} {below : List Frame} {meth : Method} {c : Code} {T0 : State} {locs : List Loc} {cells slots : Nat} {Z : State} {h0 : Heap} (nn sk : Int32) (b : Addr) (zs0 : Slot) (zs1 : Slot) (zs2 : Slot) (zs3 : Slot) (zs4 : Slot) (zs5 : Slot) (zs7 : Slot) (zs8 : Slot) (zs9 : Slot) (zs10 : Slot) (zs11 : Slot) (zs13 : Slot) (zs15 : Slot) (zs16 : Slot) (zs17 : Slot) (zs18 : Slot) {n0 : Nat} (xs : List Int32)
    (X0 : Stand p l e R s m args below meth c T0 locs cells slots) (hx : p.tables.exec = Jvm.exec) (hZ : Z.Warmed39 s.vm) (hby : c.code = code) (e0 : T0.heap = h0) (A : own_L Z h0 b xs) (hlen : xs.length = nn.toNatClampNeg) (gb : n0 ≤ b) (N : Fr n0 locs) :
    ∃ T' h' L', Stand p l e R s m args below meth c T' L' cells slots ∧ T'.heap = h' ∧ own_L Z h' b (if (2 : Int32) < nn then xs.set 2 sk else xs) ∧ Fr n0 L' ∧ h'.size = h0.size ∧ ∀ target, Steps p.tables e below (T'.setTop (mkF m 143 #[zs0, zs1, zs2, zs3, zs4, zs5, .val (.int nn), zs7, zs8, zs9, zs10, zs11, .val (.int sk), zs13, .val (.ref b), zs15, zs16, zs17, zs18] [])) target → Steps p.tables e below (T0.setTop (mkF m 131 #[zs0, zs1, zs2, zs3, zs4, zs5, .val (.int nn), zs7, zs8, zs9, zs10, zs11, .val (.int sk), zs13, .val (.ref b), zs15, zs16, zs17, zs18] [])) target := by
  by_cases h : (2 : Int32) < nn
  · have hi : 2 < xs.length := by rw [hlen]; rw [Int32.lt_iff_toInt_lt] at h; rw [Int32.toNatClampNeg]; simp only [Int32.reduceToInt] at h; omega
    obtain ⟨T1, h1, L1, X1, e1, A1, N1, z1', -, st1⟩ := own_st X0 hx hZ e0 A gb N (2 : Int32) 2 (by decide) hi sk (g := (mkF m 142 #[zs0, zs1, zs2, zs3, zs4, zs5, .val (.int nn), zs7, zs8, zs9, zs10, zs11, .val (.int sk), zs13, .val (.ref b), zs15, zs16, zs17, zs18] [(.int sk), (.int (2 : Int32)), (.ref b)])) rfl rfl (hb hby at_142)
    refine ⟨T1, h1, L1, X1, e1, by rw [if_pos h]; exact A1, N1, z1', fun target kt => ?_⟩
    show Steps p.tables e below (T0.setTop (mkF m 131 #[zs0, zs1, zs2, zs3, zs4, zs5, .val (.int nn), zs7, zs8, zs9, zs10, zs11, .val (.int sk), zs13, .val (.ref b), zs15, zs16, zs17, zs18] [])) _
    refine XS.iload X0.here hx rfl (hb hby at_131) rfl ?_
    show Steps p.tables e below (T0.setTop (mkF m 133 #[zs0, zs1, zs2, zs3, zs4, zs5, .val (.int nn), zs7, zs8, zs9, zs10, zs11, .val (.int sk), zs13, .val (.ref b), zs15, zs16, zs17, zs18] [(.int nn)])) _
    refine XS.iconst X0.here hx rfl (hb hby at_133) ?_
    show Steps p.tables e below (T0.setTop (mkF m 134 #[zs0, zs1, zs2, zs3, zs4, zs5, .val (.int nn), zs7, zs8, zs9, zs10, zs11, .val (.int sk), zs13, .val (.ref b), zs15, zs16, zs17, zs18] [(.int (2 : Int32)), (.int nn)])) _
    refine XS.icmpNo X0.here hx rfl (hb hby at_134) rfl (tlt h).2.2.2 ?_
    show Steps p.tables e below (T0.setTop (mkF m 137 #[zs0, zs1, zs2, zs3, zs4, zs5, .val (.int nn), zs7, zs8, zs9, zs10, zs11, .val (.int sk), zs13, .val (.ref b), zs15, zs16, zs17, zs18] [])) _
    refine XS.aload X0.here hx rfl (hb hby at_137) rfl rfl ?_
    show Steps p.tables e below (T0.setTop (mkF m 139 #[zs0, zs1, zs2, zs3, zs4, zs5, .val (.int nn), zs7, zs8, zs9, zs10, zs11, .val (.int sk), zs13, .val (.ref b), zs15, zs16, zs17, zs18] [(.ref b)])) _
    refine XS.iconst X0.here hx rfl (hb hby at_139) ?_
    show Steps p.tables e below (T0.setTop (mkF m 140 #[zs0, zs1, zs2, zs3, zs4, zs5, .val (.int nn), zs7, zs8, zs9, zs10, zs11, .val (.int sk), zs13, .val (.ref b), zs15, zs16, zs17, zs18] [(.int (2 : Int32)), (.ref b)])) _
    refine XS.iload X0.here hx rfl (hb hby at_140) rfl ?_
    show Steps p.tables e below (T0.setTop (mkF m 142 #[zs0, zs1, zs2, zs3, zs4, zs5, .val (.int nn), zs7, zs8, zs9, zs10, zs11, .val (.int sk), zs13, .val (.ref b), zs15, zs16, zs17, zs18] [(.int sk), (.int (2 : Int32)), (.ref b)])) _
    refine st1 _ ?_
    exact kt
  · refine ⟨T0, h0, locs, X0, e0, by rw [if_neg h]; exact A, N, rfl, fun target kt => ?_⟩
    show Steps p.tables e below (T0.setTop (mkF m 131 #[zs0, zs1, zs2, zs3, zs4, zs5, .val (.int nn), zs7, zs8, zs9, zs10, zs11, .val (.int sk), zs13, .val (.ref b), zs15, zs16, zs17, zs18] [])) _
    refine XS.iload X0.here hx rfl (hb hby at_131) rfl ?_
    show Steps p.tables e below (T0.setTop (mkF m 133 #[zs0, zs1, zs2, zs3, zs4, zs5, .val (.int nn), zs7, zs8, zs9, zs10, zs11, .val (.int sk), zs13, .val (.ref b), zs15, zs16, zs17, zs18] [(.int nn)])) _
    refine XS.iconst X0.here hx rfl (hb hby at_133) ?_
    show Steps p.tables e below (T0.setTop (mkF m 134 #[zs0, zs1, zs2, zs3, zs4, zs5, .val (.int nn), zs7, zs8, zs9, zs10, zs11, .val (.int sk), zs13, .val (.ref b), zs15, zs16, zs17, zs18] [(.int (2 : Int32)), (.int nn)])) _
    refine XS.icmpYes X0.here hx rfl (pc0 := 134) (pc' := 143) rfl (hb hby at_134) rfl (flt h).2.2.2 (by decide) (by decide) ?_
    show Steps p.tables e below (T0.setTop (mkF m 143 #[zs0, zs1, zs2, zs3, zs4, zs5, .val (.int nn), zs7, zs8, zs9, zs10, zs11, .val (.int sk), zs13, .val (.ref b), zs15, zs16, zs17, zs18] [])) _
    exact kt
def own_w1 (nn s0 : Int32) (xs : List Int32) : List Int32 := if (0 : Int32) < nn then xs.set 0 s0 else xs
def own_w2 (nn s1 : Int32) (xs : List Int32) : List Int32 := if (1 : Int32) < nn then xs.set 1 s1 else xs
def own_w3 (nn s2 : Int32) (xs : List Int32) : List Int32 := if (2 : Int32) < nn then xs.set 2 s2 else xs
theorem own_w1_len (nn s : Int32) (xs : List Int32) : (own_w1 nn s xs).length = xs.length := by unfold own_w1; split <;> simp
theorem own_w2_len (nn s : Int32) (xs : List Int32) : (own_w2 nn s xs).length = xs.length := by unfold own_w2; split <;> simp
theorem own_w3_len (nn s : Int32) (xs : List Int32) : (own_w3 nn s xs).length = xs.length := by unfold own_w3; split <;> simp
theorem own_n4 {nn : Int32} (h : 0 ≤ nn.toInt ∧ nn.toInt ≤ 3) : nn = 0 ∨ nn = 1 ∨ nn = 2 ∨ nn = 3 := by
  simp only [← Int32.toInt_inj, Int32.reduceToInt]; omega
theorem own_ws_sorted {nn s0 s1 s2 : Int32} (h : 0 ≤ nn.toInt ∧ nn.toInt ≤ 3) (h1 : s0.toInt ≤ s1.toInt) (h2 : s1.toInt ≤ s2.toInt) : own_sorted (own_w3 nn s2 (own_w2 nn s1 (own_w1 nn s0 (List.replicate nn.toNatClampNeg 0)))) := by
  rcases own_n4 h with rfl | rfl | rfl | rfl
  · intro t u a b; exact absurd b (by simp +decide [own_w3_len, own_w2_len, own_w1_len])
  · have e : own_w3 1 s2 (own_w2 1 s1 (own_w1 1 s0 (List.replicate (1 : Int32).toNatClampNeg 0))) = [s0] := rfl
    rw [e]; intro t u a b
    have b' : u < 1 := b
    obtain rfl : u = 0 := by omega
    obtain rfl : t = 0 := by omega
    exact Int.le_refl _
  · have e : own_w3 2 s2 (own_w2 2 s1 (own_w1 2 s0 (List.replicate (2 : Int32).toNatClampNeg 0))) = [s0, s1] := rfl
    rw [e]; intro t u a b
    have b' : u < 2 := b
    obtain rfl | rfl : u = 0 ∨ u = 1 := by omega
    · obtain rfl : t = 0 := by omega
      exact Int.le_refl _
    · obtain rfl | rfl : t = 0 ∨ t = 1 := by omega
      · exact h1
      · exact Int.le_refl _
  · have e : own_w3 3 s2 (own_w2 3 s1 (own_w1 3 s0 (List.replicate (3 : Int32).toNatClampNeg 0))) = [s0, s1, s2] := rfl
    rw [e]; intro t u a b
    have b' : u < 3 := b
    obtain rfl | rfl | rfl : u = 0 ∨ u = 1 ∨ u = 2 := by omega
    · obtain rfl : t = 0 := by omega
      exact Int.le_refl _
    · obtain rfl | rfl : t = 0 ∨ t = 1 := by omega
      · exact h1
      · exact Int.le_refl _
    · obtain rfl | rfl | rfl : t = 0 ∨ t = 1 ∨ t = 2 := by omega
      · exact Int.le_trans h1 h2
      · exact h2
      · exact Int.le_refl _
theorem own_pair (ws : List Int32) (x y : Int32) : own_all ws [own_min_f0 x y, own_max_f0 x y] = if own_in ws x = 0 then 0 else if own_in ws y = 0 then 0 else 1 := by
  have e : ∀ z, (own_in ws z = 0) ↔ ¬ z ∈ ws := fun z => by unfold own_in; split <;> simp_all
  simp only [e, own_all, own_min_f0, own_max_f0, List.mem_cons, List.not_mem_nil, or_false, forall_eq_or_imp, forall_eq]
  by_cases h : y < x
  · have h' : ¬ x < y := by rw [Int32.lt_iff_toInt_lt] at h ⊢; omega
    simp only [h, h', if_true, if_false]
    by_cases p : x ∈ ws <;> by_cases q : y ∈ ws <;> simp [p, q]
  · by_cases h' : x < y
    · simp only [h, h', if_true, if_false]
      by_cases p : x ∈ ws <;> by_cases q : y ∈ ws <;> simp [p, q]
    · obtain rfl : x = y := Int32.toInt_inj.mp (by rw [Int32.lt_iff_toInt_lt] at h h'; omega)
      simp only [h, if_false]
      by_cases p : x ∈ ws <;> simp [p]
theorem own_pair_s (x y : Int32) : own_sorted [own_min_f0 x y, own_max_f0 x y] := by
  intro t u a b
  have b' : u < 2 := b
  have h : (own_min_f0 x y).toInt ≤ (own_max_f0 x y).toInt := by
    unfold own_min_f0 own_max_f0
    simp only [Int32.lt_iff_toInt_lt]
    split <;> split <;> omega
  obtain rfl | rfl : u = 0 ∨ u = 1 := by omega
  · obtain rfl : t = 0 := by omega
    exact Int.le_refl _
  · obtain rfl | rfl : t = 0 ∨ t = 1 := by omega
    · exact h
    · exact Int.le_refl _
theorem own_one_s (x : Int32) : own_sorted [x] := by
  intro t u a b
  have b' : u < 1 := b
  obtain rfl : u = 0 := by omega
  obtain rfl : t = 0 := by omega
  exact Int.le_refl _
set_option maxRecDepth 65536 in
set_option maxHeartbeats 40000000 in
theorem own_mid {p : Program} {l : Launch} {e : Env} {s : State} {m : MethodId} {args : Array Value} {below : List Frame} {meth : Method} {c : Code} {T0 : State} {locs : List Loc} {Z : State} {a0 : Array Value} {h0 : Heap} (zs0 : Slot) (zs1 : Slot) (zs2 : Slot) (zs3 : Slot) (zs4 : Slot) (zs5 : Slot) (zs8 : Slot) (zs9 : Slot) (zs10 : Slot) (zs11 : Slot) (zs12 : Slot) (zs13 : Slot) (nn mm x y : Int32) (wa b2 : Addr) (ws : List Int32)
    (X0 : Stand p l e room_1 s m args below meth c T0 locs (0 + 1 + 1) (0 + 3 + 2)) (hx : p.tables.exec = Jvm.exec) (hZ : Z.Warmed39 s.vm) (hw : ∀ d ∈ tables_1, d.before a0 Z = true) (hby : c.code = code) (hml : c.maxLocals = 19) (hown : s.vm.findClass "com/example/bundlewright/bundlewright/IntArraysHoldsAllPinLaw" = some m.cls) (e0 : T0.heap = h0) (n0 : Nat) (Z0 : n0 ≤ h0.size) (N : Fr n0 locs) (A : own_L Z h0 wa ws) (hn : nn = ws.length.toInt32) (hl : ws.length ≤ 3) (B : own_L Z h0 b2 (List.replicate mm.toNatClampNeg 0)) (hm : mm = 0 ∨ mm = 1 ∨ mm = 2) (gb : n0 ≤ b2) (ne : wa ≠ b2) :
    ∃ (T' : State) (h' : Heap) (L' : List Loc) (ps : List Int32) (ex : Int32), Stand p l e room_1 s m args below meth c T' L' (0 + 1 + 1) (0 + 3 + 2) ∧ T'.heap = h' ∧ Fr n0 L' ∧ n0 ≤ h'.size ∧ own_L Z h' wa ws ∧ own_L Z h' b2 ps ∧ ps.length ≤ 2 ∧ own_sorted ps ∧ ex = own_all ws ps ∧
      ∀ target, Steps p.tables e below (T'.setTop (mkF m 262 #[zs0, zs1, zs2, zs3, zs4, zs5, .val (.int nn), .val (.int mm), zs8, zs9, zs10, zs11, zs12, zs13, .val (.ref wa), .val (.int x), .val (.int y), .val (.ref b2), .val (.int ex)] [])) target → Steps p.tables e below (T0.setTop (mkF m 172 #[zs0, zs1, zs2, zs3, zs4, zs5, .val (.int nn), .val (.int mm), zs8, zs9, zs10, zs11, zs12, zs13, .val (.ref wa), .val (.int x), .val (.int y), .val (.ref b2), .unset] [])) target := by
  by_cases hm0 : mm = 0
  · refine ⟨T0, h0, locs, [], 1, X0, e0, N, Z0, A, by subst hm0; exact B, by decide, (fun t u a b => absurd b (Nat.not_lt_zero _)), by simp [own_all], fun target kt => ?_⟩
    show Steps p.tables e below (T0.setTop (mkF m 172 #[zs0, zs1, zs2, zs3, zs4, zs5, .val (.int nn), .val (.int mm), zs8, zs9, zs10, zs11, zs12, zs13, .val (.ref wa), .val (.int x), .val (.int y), .val (.ref b2), .unset] [])) _
    refine XS.iload X0.here hx rfl (hb hby at_172) rfl ?_
    show Steps p.tables e below (T0.setTop (mkF m 174 #[zs0, zs1, zs2, zs3, zs4, zs5, .val (.int nn), .val (.int mm), zs8, zs9, zs10, zs11, zs12, zs13, .val (.ref wa), .val (.int x), .val (.int y), .val (.ref b2), .unset] [(.int mm)])) _
    refine XS.ifNo X0.here hx rfl (hb hby at_174) rfl ((if0 _ _).trans (teq hm0).2) ?_
    show Steps p.tables e below (T0.setTop (mkF m 177 #[zs0, zs1, zs2, zs3, zs4, zs5, .val (.int nn), .val (.int mm), zs8, zs9, zs10, zs11, zs12, zs13, .val (.ref wa), .val (.int x), .val (.int y), .val (.ref b2), .unset] [])) _
    refine XS.iconst X0.here hx rfl (hb hby at_177) ?_
    show Steps p.tables e below (T0.setTop (mkF m 178 #[zs0, zs1, zs2, zs3, zs4, zs5, .val (.int nn), .val (.int mm), zs8, zs9, zs10, zs11, zs12, zs13, .val (.ref wa), .val (.int x), .val (.int y), .val (.ref b2), .unset] [(.int (1 : Int32))])) _
    refine XS.istore X0.here hx rfl (hb hby at_178) rfl (l' := #[zs0, zs1, zs2, zs3, zs4, zs5, .val (.int nn), .val (.int mm), zs8, zs9, zs10, zs11, zs12, zs13, .val (.ref wa), .val (.int x), .val (.int y), .val (.ref b2), .val (.int (1 : Int32))]) rfl ?_
    show Steps p.tables e below (T0.setTop (mkF m 180 #[zs0, zs1, zs2, zs3, zs4, zs5, .val (.int nn), .val (.int mm), zs8, zs9, zs10, zs11, zs12, zs13, .val (.ref wa), .val (.int x), .val (.int y), .val (.ref b2), .val (.int (1 : Int32))] [])) _
    refine XS.goto X0.here hx rfl (pc0 := 180) (pc' := 262) rfl (hb hby at_180) (by decide) (by decide) ?_
    show Steps p.tables e below (T0.setTop (mkF m 262 #[zs0, zs1, zs2, zs3, zs4, zs5, .val (.int nn), .val (.int mm), zs8, zs9, zs10, zs11, zs12, zs13, .val (.ref wa), .val (.int x), .val (.int y), .val (.ref b2), .val (.int (1 : Int32))] [])) _
    exact kt
  · by_cases hm1 : mm = 1
    · obtain ⟨T1, h1, L1, X1, e1, B1, N1, z1, K1, st1⟩ := own_st X0 hx hZ e0 (by subst hm1; exact B) gb N (0 : Int32) 0 (by decide) (by decide) x (g := (mkF m 194 #[zs0, zs1, zs2, zs3, zs4, zs5, .val (.int nn), .val (.int mm), zs8, zs9, zs10, zs11, zs12, zs13, .val (.ref wa), .val (.int x), .val (.int y), .val (.ref b2), .unset] [(.int x), (.int (0 : Int32)), (.ref b2)])) rfl rfl (hb hby at_194)
      have A1 := K1 wa ws ne A
      have Z1 : n0 ≤ h1.size := by rw [z1]; exact Z0
      obtain ⟨_, _, ⟨T2, L2, k2, n2⟩, -, X2, ⟨Lc2, hQ2, l2, y2, z2⟩, st2⟩ := Jvm.LawKit.callS X1 hx (y := (⟨"com/example/bundlewright/bundlewright/IntArraysHoldsAllPinLaw", "contains", "([III)Z"⟩ : MethodName)) hown (mvT hZ (hw _ (List.mem_of_getElem? (i := 16) rfl))) (mvT hZ (hw _ (List.mem_of_getElem? (i := 17) rfl))) (mvT hZ (hw _ (List.mem_of_getElem? (i := 3) rfl))) (mvT hZ (hw _ (List.mem_of_getElem? (i := 18) rfl))) (by decide) (backOf (W := 0) (rm5 l Z a0 hw [] wa nn x ws h1 n0 Z1 A1 hn hl) hZ (hw _ (List.mem_of_getElem? (i := 18) rfl)) (hw _ (List.mem_of_getElem? (i := 3) rfl)) (by decide) (by decide)) (g := (mkF m 201 #[zs0, zs1, zs2, zs3, zs4, zs5, .val (.int nn), .val (.int mm), zs8, zs9, zs10, zs11, zs12, zs13, .val (.ref wa), .val (.int x), .val (.int y), .val (.ref b2), .unset] [(.int x), (.int nn), (.ref wa)])) rfl (by rw [hml]; rfl) (argsL := [(.ref wa), (.int nn), (.int x)]) (rest := []) (lenOf (show parseMethodDescriptor "([III)Z" = some ⟨[(.array .int), .int, .int], (some .boolean)⟩ from by decide +kernel) rfl) rfl (by show 2 * 0 + _ ≤ _; exact Nat.le_of_eq rfl) (hb hby at_201) (fun _ _ => ⟨rfl, e1, (by decide : 1 + 1 + 0 ≤ _), (by decide : 3 + 2 + 0 ≤ _)⟩)
      dsimp only [Pt.U, Pt.locs, Pt.cells, Pt.slots] at X2 l2 y2 z2 st2 hQ2
      subst l2 y2 z2
      obtain ⟨rfl, N2q, e2⟩ := hQ2
      have N2 := Fr.app N1 N2q
      refine ⟨T2, h1, _, [x], own_in ws x, X2, e2, N2, Z1, A1, B1, Nat.le_of_ble_eq_true rfl, own_one_s x, by simp [own_all, own_in], fun target kt => ?_⟩
      show Steps p.tables e below (T0.setTop (mkF m 172 #[zs0, zs1, zs2, zs3, zs4, zs5, .val (.int nn), .val (.int mm), zs8, zs9, zs10, zs11, zs12, zs13, .val (.ref wa), .val (.int x), .val (.int y), .val (.ref b2), .unset] [])) _
      refine XS.iload X0.here hx rfl (hb hby at_172) rfl ?_
      show Steps p.tables e below (T0.setTop (mkF m 174 #[zs0, zs1, zs2, zs3, zs4, zs5, .val (.int nn), .val (.int mm), zs8, zs9, zs10, zs11, zs12, zs13, .val (.ref wa), .val (.int x), .val (.int y), .val (.ref b2), .unset] [(.int mm)])) _
      refine XS.ifYes X0.here hx rfl (pc0 := 174) (pc' := 183) rfl (hb hby at_174) rfl ((if0 _ _).trans (feq hm0).2) (by decide) (by decide) ?_
      show Steps p.tables e below (T0.setTop (mkF m 183 #[zs0, zs1, zs2, zs3, zs4, zs5, .val (.int nn), .val (.int mm), zs8, zs9, zs10, zs11, zs12, zs13, .val (.ref wa), .val (.int x), .val (.int y), .val (.ref b2), .unset] [])) _
      refine XS.iload X0.here hx rfl (hb hby at_183) rfl ?_
      show Steps p.tables e below (T0.setTop (mkF m 185 #[zs0, zs1, zs2, zs3, zs4, zs5, .val (.int nn), .val (.int mm), zs8, zs9, zs10, zs11, zs12, zs13, .val (.ref wa), .val (.int x), .val (.int y), .val (.ref b2), .unset] [(.int mm)])) _
      refine XS.iconst X0.here hx rfl (hb hby at_185) ?_
      show Steps p.tables e below (T0.setTop (mkF m 186 #[zs0, zs1, zs2, zs3, zs4, zs5, .val (.int nn), .val (.int mm), zs8, zs9, zs10, zs11, zs12, zs13, .val (.ref wa), .val (.int x), .val (.int y), .val (.ref b2), .unset] [(.int (1 : Int32)), (.int mm)])) _
      refine XS.icmpNo X0.here hx rfl (hb hby at_186) rfl (teq hm1).2 ?_
      show Steps p.tables e below (T0.setTop (mkF m 189 #[zs0, zs1, zs2, zs3, zs4, zs5, .val (.int nn), .val (.int mm), zs8, zs9, zs10, zs11, zs12, zs13, .val (.ref wa), .val (.int x), .val (.int y), .val (.ref b2), .unset] [])) _
      refine XS.aload X0.here hx rfl (hb hby at_189) rfl rfl ?_
      show Steps p.tables e below (T0.setTop (mkF m 191 #[zs0, zs1, zs2, zs3, zs4, zs5, .val (.int nn), .val (.int mm), zs8, zs9, zs10, zs11, zs12, zs13, .val (.ref wa), .val (.int x), .val (.int y), .val (.ref b2), .unset] [(.ref b2)])) _
      refine XS.iconst X0.here hx rfl (hb hby at_191) ?_
      show Steps p.tables e below (T0.setTop (mkF m 192 #[zs0, zs1, zs2, zs3, zs4, zs5, .val (.int nn), .val (.int mm), zs8, zs9, zs10, zs11, zs12, zs13, .val (.ref wa), .val (.int x), .val (.int y), .val (.ref b2), .unset] [(.int (0 : Int32)), (.ref b2)])) _
      refine XS.iload X0.here hx rfl (hb hby at_192) rfl ?_
      show Steps p.tables e below (T0.setTop (mkF m 194 #[zs0, zs1, zs2, zs3, zs4, zs5, .val (.int nn), .val (.int mm), zs8, zs9, zs10, zs11, zs12, zs13, .val (.ref wa), .val (.int x), .val (.int y), .val (.ref b2), .unset] [(.int x), (.int (0 : Int32)), (.ref b2)])) _
      refine st1 _ ?_
      show Steps p.tables e below (T1.setTop (mkF m 195 #[zs0, zs1, zs2, zs3, zs4, zs5, .val (.int nn), .val (.int mm), zs8, zs9, zs10, zs11, zs12, zs13, .val (.ref wa), .val (.int x), .val (.int y), .val (.ref b2), .unset] [])) _
      refine XS.aload X1.here hx rfl (hb hby at_195) rfl rfl ?_
      show Steps p.tables e below (T1.setTop (mkF m 197 #[zs0, zs1, zs2, zs3, zs4, zs5, .val (.int nn), .val (.int mm), zs8, zs9, zs10, zs11, zs12, zs13, .val (.ref wa), .val (.int x), .val (.int y), .val (.ref b2), .unset] [(.ref wa)])) _
      refine XS.iload X1.here hx rfl (hb hby at_197) rfl ?_
      show Steps p.tables e below (T1.setTop (mkF m 199 #[zs0, zs1, zs2, zs3, zs4, zs5, .val (.int nn), .val (.int mm), zs8, zs9, zs10, zs11, zs12, zs13, .val (.ref wa), .val (.int x), .val (.int y), .val (.ref b2), .unset] [(.int nn), (.ref wa)])) _
      refine XS.iload X1.here hx rfl (hb hby at_199) rfl ?_
      show Steps p.tables e below (T1.setTop (mkF m 201 #[zs0, zs1, zs2, zs3, zs4, zs5, .val (.int nn), .val (.int mm), zs8, zs9, zs10, zs11, zs12, zs13, .val (.ref wa), .val (.int x), .val (.int y), .val (.ref b2), .unset] [(.int x), (.int nn), (.ref wa)])) _
      refine st2 _ ?_
      show Steps p.tables e below (T2.setTop (mkF m 204 #[zs0, zs1, zs2, zs3, zs4, zs5, .val (.int nn), .val (.int mm), zs8, zs9, zs10, zs11, zs12, zs13, .val (.ref wa), .val (.int x), .val (.int y), .val (.ref b2), .unset] [(.int (own_in ws x))])) _
      refine XS.istore X2.here hx rfl (hb hby at_204) rfl (l' := #[zs0, zs1, zs2, zs3, zs4, zs5, .val (.int nn), .val (.int mm), zs8, zs9, zs10, zs11, zs12, zs13, .val (.ref wa), .val (.int x), .val (.int y), .val (.ref b2), .val (.int (own_in ws x))]) rfl ?_
      show Steps p.tables e below (T2.setTop (mkF m 206 #[zs0, zs1, zs2, zs3, zs4, zs5, .val (.int nn), .val (.int mm), zs8, zs9, zs10, zs11, zs12, zs13, .val (.ref wa), .val (.int x), .val (.int y), .val (.ref b2), .val (.int (own_in ws x))] [])) _
      refine XS.goto X2.here hx rfl (pc0 := 206) (pc' := 262) rfl (hb hby at_206) (by decide) (by decide) ?_
      show Steps p.tables e below (T2.setTop (mkF m 262 #[zs0, zs1, zs2, zs3, zs4, zs5, .val (.int nn), .val (.int mm), zs8, zs9, zs10, zs11, zs12, zs13, .val (.ref wa), .val (.int x), .val (.int y), .val (.ref b2), .val (.int (own_in ws x))] [])) _
      exact kt
    · have hm2 : mm = 2 := by rcases hm with q | q | q <;> first | contradiction | exact q
      obtain ⟨_, _, ⟨T1, L1, k1, n1⟩, -, X1, ⟨Lc1, hQ1, l1, y1, z1⟩, st1⟩ := Jvm.LawKit.callS X0 hx (y := (⟨"java/lang/Math", "min", "(II)I"⟩ : MethodName)) hown (mvT hZ (hw _ (List.mem_of_getElem? (i := 9) rfl))) (mvT hZ (hw _ (List.mem_of_getElem? (i := 10) rfl))) (mvT hZ (hw _ (List.mem_of_getElem? (i := 11) rfl))) (mvT hZ (hw _ (List.mem_of_getElem? (i := 12) rfl))) (by decide) (backOf (W := 2) (rm3 l Z a0 hw [] x y h0 n0 Z0) hZ (hw _ (List.mem_of_getElem? (i := 12) rfl)) (hw _ (List.mem_of_getElem? (i := 11) rfl)) (by decide) (by decide)) (g := (mkF m 216 #[zs0, zs1, zs2, zs3, zs4, zs5, .val (.int nn), .val (.int mm), zs8, zs9, zs10, zs11, zs12, zs13, .val (.ref wa), .val (.int x), .val (.int y), .val (.ref b2), .unset] [(.int y), (.int x), (.int (0 : Int32)), (.ref b2)])) rfl (by rw [hml]; rfl) (argsL := [(.int x), (.int y)]) (rest := [(.int (0 : Int32)), (.ref b2)]) (lenOf (show parseMethodDescriptor "(II)I" = some ⟨[.int, .int], (some .int)⟩ from by decide +kernel) rfl) rfl (by show 2 * 0 + _ ≤ _; exact Nat.le_of_eq rfl) (hb hby at_216) (fun _ _ => ⟨rfl, e0, (by decide : 1 + 1 + 0 ≤ _), (by decide : 3 + 2 + 0 ≤ _)⟩)
      dsimp only [Pt.U, Pt.locs, Pt.cells, Pt.slots] at X1 l1 y1 z1 st1 hQ1
      subst l1 y1 z1
      obtain ⟨rfl, N1q, e1⟩ := hQ1
      have N1 := Fr.app N N1q
      obtain ⟨T2, h2, L2, X2, e2, B2, N2, z2, K2, st2⟩ := own_st X1 hx hZ e1 B gb N1 (0 : Int32) 0 (by decide) (by rw [hm2]; decide) (own_min_f0 x y) (g := (mkF m 219 #[zs0, zs1, zs2, zs3, zs4, zs5, .val (.int nn), .val (.int mm), zs8, zs9, zs10, zs11, zs12, zs13, .val (.ref wa), .val (.int x), .val (.int y), .val (.ref b2), .unset] [(.int (own_min_f0 x y)), (.int (0 : Int32)), (.ref b2)])) rfl rfl (hb hby at_219)
      have A2 := K2 wa ws ne A
      have Z2 : n0 ≤ h2.size := by rw [z2]; exact Z0
      obtain ⟨_, _, ⟨T3, L3, k3, n3⟩, -, X3, ⟨Lc3, hQ3, l3, y3, z3⟩, st3⟩ := Jvm.LawKit.callS X2 hx (y := (⟨"java/lang/Math", "max", "(II)I"⟩ : MethodName)) hown (mvT hZ (hw _ (List.mem_of_getElem? (i := 13) rfl))) (mvT hZ (hw _ (List.mem_of_getElem? (i := 14) rfl))) (mvT hZ (hw _ (List.mem_of_getElem? (i := 11) rfl))) (mvT hZ (hw _ (List.mem_of_getElem? (i := 15) rfl))) (by decide) (backOf (W := 2) (rm4 l Z a0 hw [] x y h2 n0 Z2) hZ (hw _ (List.mem_of_getElem? (i := 15) rfl)) (hw _ (List.mem_of_getElem? (i := 11) rfl)) (by decide) (by decide)) (g := (mkF m 227 #[zs0, zs1, zs2, zs3, zs4, zs5, .val (.int nn), .val (.int mm), zs8, zs9, zs10, zs11, zs12, zs13, .val (.ref wa), .val (.int x), .val (.int y), .val (.ref b2), .unset] [(.int y), (.int x), (.int (1 : Int32)), (.ref b2)])) rfl (by rw [hml]; rfl) (argsL := [(.int x), (.int y)]) (rest := [(.int (1 : Int32)), (.ref b2)]) (lenOf (show parseMethodDescriptor "(II)I" = some ⟨[.int, .int], (some .int)⟩ from by decide +kernel) rfl) rfl (by show 2 * 0 + _ ≤ _; exact Nat.le_of_eq rfl) (hb hby at_227) (fun _ _ => ⟨rfl, e2, (by decide : 1 + 1 + 0 ≤ _), (by decide : 3 + 2 + 0 ≤ _)⟩)
      dsimp only [Pt.U, Pt.locs, Pt.cells, Pt.slots] at X3 l3 y3 z3 st3 hQ3
      subst l3 y3 z3
      obtain ⟨rfl, N3q, e3⟩ := hQ3
      have N3 := Fr.app N2 N3q
      obtain ⟨T4, h4, L4, X4, e4, B4, N4, z4, K4, st4⟩ := own_st X3 hx hZ e3 B2 gb N3 (1 : Int32) 1 (by decide) (by rw [hm2, List.length_set]; decide) (own_max_f0 x y) (g := (mkF m 230 #[zs0, zs1, zs2, zs3, zs4, zs5, .val (.int nn), .val (.int mm), zs8, zs9, zs10, zs11, zs12, zs13, .val (.ref wa), .val (.int x), .val (.int y), .val (.ref b2), .unset] [(.int (own_max_f0 x y)), (.int (1 : Int32)), (.ref b2)])) rfl rfl (hb hby at_230)
      have A4 := K4 wa ws ne A2
      have Z4 : n0 ≤ h4.size := by rw [z4]; exact Z2
      have B5 : own_L Z h4 b2 [own_min_f0 x y, own_max_f0 x y] := by subst hm2; exact B4
      obtain ⟨_, _, ⟨T6, L6, k6, n6⟩, -, X6, ⟨Lc6, hQ6, l6, y6, z6⟩, st6⟩ := Jvm.LawKit.callS X4 hx (y := (⟨"com/example/bundlewright/bundlewright/IntArraysHoldsAllPinLaw", "contains", "([III)Z"⟩ : MethodName)) hown (mvT hZ (hw _ (List.mem_of_getElem? (i := 16) rfl))) (mvT hZ (hw _ (List.mem_of_getElem? (i := 17) rfl))) (mvT hZ (hw _ (List.mem_of_getElem? (i := 3) rfl))) (mvT hZ (hw _ (List.mem_of_getElem? (i := 18) rfl))) (by decide) (backOf (W := 0) (rm5 l Z a0 hw [] wa nn x ws h4 n0 Z4 A4 hn hl) hZ (hw _ (List.mem_of_getElem? (i := 18) rfl)) (hw _ (List.mem_of_getElem? (i := 3) rfl)) (by decide) (by decide)) (g := (mkF m 237 #[zs0, zs1, zs2, zs3, zs4, zs5, .val (.int nn), .val (.int mm), zs8, zs9, zs10, zs11, zs12, zs13, .val (.ref wa), .val (.int x), .val (.int y), .val (.ref b2), .unset] [(.int x), (.int nn), (.ref wa)])) rfl (by rw [hml]; rfl) (argsL := [(.ref wa), (.int nn), (.int x)]) (rest := []) (lenOf (show parseMethodDescriptor "([III)Z" = some ⟨[(.array .int), .int, .int], (some .boolean)⟩ from by decide +kernel) rfl) rfl (by show 2 * 0 + _ ≤ _; exact Nat.le_of_eq rfl) (hb hby at_237) (fun _ _ => ⟨rfl, e4, (by decide : 1 + 1 + 0 ≤ _), (by decide : 3 + 2 + 0 ≤ _)⟩)
      dsimp only [Pt.U, Pt.locs, Pt.cells, Pt.slots] at X6 l6 y6 z6 st6 hQ6
      subst l6 y6 z6
      obtain ⟨rfl, N6q, e6⟩ := hQ6
      have N6 := Fr.app N4 N6q
      by_cases hq : own_in ws x = 0
      · refine ⟨T6, h4, _, [own_min_f0 x y, own_max_f0 x y], 0, X6, e6, N6, Z4, A4, B5, Nat.le_of_ble_eq_true rfl, own_pair_s x y, by rw [own_pair, if_pos hq], fun target kt => ?_⟩
        show Steps p.tables e below (T0.setTop (mkF m 172 #[zs0, zs1, zs2, zs3, zs4, zs5, .val (.int nn), .val (.int mm), zs8, zs9, zs10, zs11, zs12, zs13, .val (.ref wa), .val (.int x), .val (.int y), .val (.ref b2), .unset] [])) _
        refine XS.iload X0.here hx rfl (hb hby at_172) rfl ?_
        show Steps p.tables e below (T0.setTop (mkF m 174 #[zs0, zs1, zs2, zs3, zs4, zs5, .val (.int nn), .val (.int mm), zs8, zs9, zs10, zs11, zs12, zs13, .val (.ref wa), .val (.int x), .val (.int y), .val (.ref b2), .unset] [(.int mm)])) _
        refine XS.ifYes X0.here hx rfl (pc0 := 174) (pc' := 183) rfl (hb hby at_174) rfl ((if0 _ _).trans (feq hm0).2) (by decide) (by decide) ?_
        show Steps p.tables e below (T0.setTop (mkF m 183 #[zs0, zs1, zs2, zs3, zs4, zs5, .val (.int nn), .val (.int mm), zs8, zs9, zs10, zs11, zs12, zs13, .val (.ref wa), .val (.int x), .val (.int y), .val (.ref b2), .unset] [])) _
        refine XS.iload X0.here hx rfl (hb hby at_183) rfl ?_
        show Steps p.tables e below (T0.setTop (mkF m 185 #[zs0, zs1, zs2, zs3, zs4, zs5, .val (.int nn), .val (.int mm), zs8, zs9, zs10, zs11, zs12, zs13, .val (.ref wa), .val (.int x), .val (.int y), .val (.ref b2), .unset] [(.int mm)])) _
        refine XS.iconst X0.here hx rfl (hb hby at_185) ?_
        show Steps p.tables e below (T0.setTop (mkF m 186 #[zs0, zs1, zs2, zs3, zs4, zs5, .val (.int nn), .val (.int mm), zs8, zs9, zs10, zs11, zs12, zs13, .val (.ref wa), .val (.int x), .val (.int y), .val (.ref b2), .unset] [(.int (1 : Int32)), (.int mm)])) _
        refine XS.icmpYes X0.here hx rfl (pc0 := 186) (pc' := 209) rfl (hb hby at_186) rfl (feq hm1).2 (by decide) (by decide) ?_
        show Steps p.tables e below (T0.setTop (mkF m 209 #[zs0, zs1, zs2, zs3, zs4, zs5, .val (.int nn), .val (.int mm), zs8, zs9, zs10, zs11, zs12, zs13, .val (.ref wa), .val (.int x), .val (.int y), .val (.ref b2), .unset] [])) _
        refine XS.aload X0.here hx rfl (hb hby at_209) rfl rfl ?_
        show Steps p.tables e below (T0.setTop (mkF m 211 #[zs0, zs1, zs2, zs3, zs4, zs5, .val (.int nn), .val (.int mm), zs8, zs9, zs10, zs11, zs12, zs13, .val (.ref wa), .val (.int x), .val (.int y), .val (.ref b2), .unset] [(.ref b2)])) _
        refine XS.iconst X0.here hx rfl (hb hby at_211) ?_
        show Steps p.tables e below (T0.setTop (mkF m 212 #[zs0, zs1, zs2, zs3, zs4, zs5, .val (.int nn), .val (.int mm), zs8, zs9, zs10, zs11, zs12, zs13, .val (.ref wa), .val (.int x), .val (.int y), .val (.ref b2), .unset] [(.int (0 : Int32)), (.ref b2)])) _
        refine XS.iload X0.here hx rfl (hb hby at_212) rfl ?_
        show Steps p.tables e below (T0.setTop (mkF m 214 #[zs0, zs1, zs2, zs3, zs4, zs5, .val (.int nn), .val (.int mm), zs8, zs9, zs10, zs11, zs12, zs13, .val (.ref wa), .val (.int x), .val (.int y), .val (.ref b2), .unset] [(.int x), (.int (0 : Int32)), (.ref b2)])) _
        refine XS.iload X0.here hx rfl (hb hby at_214) rfl ?_
        show Steps p.tables e below (T0.setTop (mkF m 216 #[zs0, zs1, zs2, zs3, zs4, zs5, .val (.int nn), .val (.int mm), zs8, zs9, zs10, zs11, zs12, zs13, .val (.ref wa), .val (.int x), .val (.int y), .val (.ref b2), .unset] [(.int y), (.int x), (.int (0 : Int32)), (.ref b2)])) _
        refine st1 _ ?_
        show Steps p.tables e below (T1.setTop (mkF m 219 #[zs0, zs1, zs2, zs3, zs4, zs5, .val (.int nn), .val (.int mm), zs8, zs9, zs10, zs11, zs12, zs13, .val (.ref wa), .val (.int x), .val (.int y), .val (.ref b2), .unset] [(.int (own_min_f0 x y)), (.int (0 : Int32)), (.ref b2)])) _
        refine st2 _ ?_
        show Steps p.tables e below (T2.setTop (mkF m 220 #[zs0, zs1, zs2, zs3, zs4, zs5, .val (.int nn), .val (.int mm), zs8, zs9, zs10, zs11, zs12, zs13, .val (.ref wa), .val (.int x), .val (.int y), .val (.ref b2), .unset] [])) _
        refine XS.aload X2.here hx rfl (hb hby at_220) rfl rfl ?_
        show Steps p.tables e below (T2.setTop (mkF m 222 #[zs0, zs1, zs2, zs3, zs4, zs5, .val (.int nn), .val (.int mm), zs8, zs9, zs10, zs11, zs12, zs13, .val (.ref wa), .val (.int x), .val (.int y), .val (.ref b2), .unset] [(.ref b2)])) _
        refine XS.iconst X2.here hx rfl (hb hby at_222) ?_
        show Steps p.tables e below (T2.setTop (mkF m 223 #[zs0, zs1, zs2, zs3, zs4, zs5, .val (.int nn), .val (.int mm), zs8, zs9, zs10, zs11, zs12, zs13, .val (.ref wa), .val (.int x), .val (.int y), .val (.ref b2), .unset] [(.int (1 : Int32)), (.ref b2)])) _
        refine XS.iload X2.here hx rfl (hb hby at_223) rfl ?_
        show Steps p.tables e below (T2.setTop (mkF m 225 #[zs0, zs1, zs2, zs3, zs4, zs5, .val (.int nn), .val (.int mm), zs8, zs9, zs10, zs11, zs12, zs13, .val (.ref wa), .val (.int x), .val (.int y), .val (.ref b2), .unset] [(.int x), (.int (1 : Int32)), (.ref b2)])) _
        refine XS.iload X2.here hx rfl (hb hby at_225) rfl ?_
        show Steps p.tables e below (T2.setTop (mkF m 227 #[zs0, zs1, zs2, zs3, zs4, zs5, .val (.int nn), .val (.int mm), zs8, zs9, zs10, zs11, zs12, zs13, .val (.ref wa), .val (.int x), .val (.int y), .val (.ref b2), .unset] [(.int y), (.int x), (.int (1 : Int32)), (.ref b2)])) _
        refine st3 _ ?_
        show Steps p.tables e below (T3.setTop (mkF m 230 #[zs0, zs1, zs2, zs3, zs4, zs5, .val (.int nn), .val (.int mm), zs8, zs9, zs10, zs11, zs12, zs13, .val (.ref wa), .val (.int x), .val (.int y), .val (.ref b2), .unset] [(.int (own_max_f0 x y)), (.int (1 : Int32)), (.ref b2)])) _
        refine st4 _ ?_
        show Steps p.tables e below (T4.setTop (mkF m 231 #[zs0, zs1, zs2, zs3, zs4, zs5, .val (.int nn), .val (.int mm), zs8, zs9, zs10, zs11, zs12, zs13, .val (.ref wa), .val (.int x), .val (.int y), .val (.ref b2), .unset] [])) _
        refine XS.aload X4.here hx rfl (hb hby at_231) rfl rfl ?_
        show Steps p.tables e below (T4.setTop (mkF m 233 #[zs0, zs1, zs2, zs3, zs4, zs5, .val (.int nn), .val (.int mm), zs8, zs9, zs10, zs11, zs12, zs13, .val (.ref wa), .val (.int x), .val (.int y), .val (.ref b2), .unset] [(.ref wa)])) _
        refine XS.iload X4.here hx rfl (hb hby at_233) rfl ?_
        show Steps p.tables e below (T4.setTop (mkF m 235 #[zs0, zs1, zs2, zs3, zs4, zs5, .val (.int nn), .val (.int mm), zs8, zs9, zs10, zs11, zs12, zs13, .val (.ref wa), .val (.int x), .val (.int y), .val (.ref b2), .unset] [(.int nn), (.ref wa)])) _
        refine XS.iload X4.here hx rfl (hb hby at_235) rfl ?_
        show Steps p.tables e below (T4.setTop (mkF m 237 #[zs0, zs1, zs2, zs3, zs4, zs5, .val (.int nn), .val (.int mm), zs8, zs9, zs10, zs11, zs12, zs13, .val (.ref wa), .val (.int x), .val (.int y), .val (.ref b2), .unset] [(.int x), (.int nn), (.ref wa)])) _
        refine st6 _ ?_
        show Steps p.tables e below (T6.setTop (mkF m 240 #[zs0, zs1, zs2, zs3, zs4, zs5, .val (.int nn), .val (.int mm), zs8, zs9, zs10, zs11, zs12, zs13, .val (.ref wa), .val (.int x), .val (.int y), .val (.ref b2), .unset] [(.int (own_in ws x))])) _
        refine XS.ifYes X6.here hx rfl (pc0 := 240) (pc' := 259) rfl (hb hby at_240) rfl ((if0 _ _).trans (teq hq).1) (by decide) (by decide) ?_
        show Steps p.tables e below (T6.setTop (mkF m 259 #[zs0, zs1, zs2, zs3, zs4, zs5, .val (.int nn), .val (.int mm), zs8, zs9, zs10, zs11, zs12, zs13, .val (.ref wa), .val (.int x), .val (.int y), .val (.ref b2), .unset] [])) _
        refine XS.iconst X6.here hx rfl (hb hby at_259) ?_
        show Steps p.tables e below (T6.setTop (mkF m 260 #[zs0, zs1, zs2, zs3, zs4, zs5, .val (.int nn), .val (.int mm), zs8, zs9, zs10, zs11, zs12, zs13, .val (.ref wa), .val (.int x), .val (.int y), .val (.ref b2), .unset] [(.int (0 : Int32))])) _
        refine XS.istore X6.here hx rfl (hb hby at_260) rfl (l' := #[zs0, zs1, zs2, zs3, zs4, zs5, .val (.int nn), .val (.int mm), zs8, zs9, zs10, zs11, zs12, zs13, .val (.ref wa), .val (.int x), .val (.int y), .val (.ref b2), .val (.int (0 : Int32))]) rfl ?_
        show Steps p.tables e below (T6.setTop (mkF m 262 #[zs0, zs1, zs2, zs3, zs4, zs5, .val (.int nn), .val (.int mm), zs8, zs9, zs10, zs11, zs12, zs13, .val (.ref wa), .val (.int x), .val (.int y), .val (.ref b2), .val (.int (0 : Int32))] [])) _
        exact kt
      · obtain ⟨_, _, ⟨T7, L7, k7, n7⟩, -, X7, ⟨Lc7, hQ7, l7, y7, z7⟩, st7⟩ := Jvm.LawKit.callS X6 hx (y := (⟨"com/example/bundlewright/bundlewright/IntArraysHoldsAllPinLaw", "contains", "([III)Z"⟩ : MethodName)) hown (mvT hZ (hw _ (List.mem_of_getElem? (i := 16) rfl))) (mvT hZ (hw _ (List.mem_of_getElem? (i := 17) rfl))) (mvT hZ (hw _ (List.mem_of_getElem? (i := 3) rfl))) (mvT hZ (hw _ (List.mem_of_getElem? (i := 18) rfl))) (by decide) (backOf (W := 0) (rm5 l Z a0 hw [] wa nn y ws h4 n0 Z4 A4 hn hl) hZ (hw _ (List.mem_of_getElem? (i := 18) rfl)) (hw _ (List.mem_of_getElem? (i := 3) rfl)) (by decide) (by decide)) (g := (mkF m 249 #[zs0, zs1, zs2, zs3, zs4, zs5, .val (.int nn), .val (.int mm), zs8, zs9, zs10, zs11, zs12, zs13, .val (.ref wa), .val (.int x), .val (.int y), .val (.ref b2), .unset] [(.int y), (.int nn), (.ref wa)])) rfl (by rw [hml]; rfl) (argsL := [(.ref wa), (.int nn), (.int y)]) (rest := []) (lenOf (show parseMethodDescriptor "([III)Z" = some ⟨[(.array .int), .int, .int], (some .boolean)⟩ from by decide +kernel) rfl) rfl (by show 2 * 0 + _ ≤ _; exact Nat.le_of_eq rfl) (hb hby at_249) (fun _ _ => ⟨rfl, e6, (by decide : 1 + 1 + 0 ≤ _), (by decide : 3 + 2 + 0 ≤ _)⟩)
        dsimp only [Pt.U, Pt.locs, Pt.cells, Pt.slots] at X7 l7 y7 z7 st7 hQ7
        subst l7 y7 z7
        obtain ⟨rfl, N7q, e7⟩ := hQ7
        have N7 := Fr.app N6 N7q
        by_cases hq2 : own_in ws y = 0
        · refine ⟨T7, h4, _, [own_min_f0 x y, own_max_f0 x y], 0, X7, e7, N7, Z4, A4, B5, Nat.le_of_ble_eq_true rfl, own_pair_s x y, by rw [own_pair, if_neg hq, if_pos hq2], fun target kt => ?_⟩
          show Steps p.tables e below (T0.setTop (mkF m 172 #[zs0, zs1, zs2, zs3, zs4, zs5, .val (.int nn), .val (.int mm), zs8, zs9, zs10, zs11, zs12, zs13, .val (.ref wa), .val (.int x), .val (.int y), .val (.ref b2), .unset] [])) _
          refine XS.iload X0.here hx rfl (hb hby at_172) rfl ?_
          show Steps p.tables e below (T0.setTop (mkF m 174 #[zs0, zs1, zs2, zs3, zs4, zs5, .val (.int nn), .val (.int mm), zs8, zs9, zs10, zs11, zs12, zs13, .val (.ref wa), .val (.int x), .val (.int y), .val (.ref b2), .unset] [(.int mm)])) _
          refine XS.ifYes X0.here hx rfl (pc0 := 174) (pc' := 183) rfl (hb hby at_174) rfl ((if0 _ _).trans (feq hm0).2) (by decide) (by decide) ?_
          show Steps p.tables e below (T0.setTop (mkF m 183 #[zs0, zs1, zs2, zs3, zs4, zs5, .val (.int nn), .val (.int mm), zs8, zs9, zs10, zs11, zs12, zs13, .val (.ref wa), .val (.int x), .val (.int y), .val (.ref b2), .unset] [])) _
          refine XS.iload X0.here hx rfl (hb hby at_183) rfl ?_
          show Steps p.tables e below (T0.setTop (mkF m 185 #[zs0, zs1, zs2, zs3, zs4, zs5, .val (.int nn), .val (.int mm), zs8, zs9, zs10, zs11, zs12, zs13, .val (.ref wa), .val (.int x), .val (.int y), .val (.ref b2), .unset] [(.int mm)])) _
          refine XS.iconst X0.here hx rfl (hb hby at_185) ?_
          show Steps p.tables e below (T0.setTop (mkF m 186 #[zs0, zs1, zs2, zs3, zs4, zs5, .val (.int nn), .val (.int mm), zs8, zs9, zs10, zs11, zs12, zs13, .val (.ref wa), .val (.int x), .val (.int y), .val (.ref b2), .unset] [(.int (1 : Int32)), (.int mm)])) _
          refine XS.icmpYes X0.here hx rfl (pc0 := 186) (pc' := 209) rfl (hb hby at_186) rfl (feq hm1).2 (by decide) (by decide) ?_
          show Steps p.tables e below (T0.setTop (mkF m 209 #[zs0, zs1, zs2, zs3, zs4, zs5, .val (.int nn), .val (.int mm), zs8, zs9, zs10, zs11, zs12, zs13, .val (.ref wa), .val (.int x), .val (.int y), .val (.ref b2), .unset] [])) _
          refine XS.aload X0.here hx rfl (hb hby at_209) rfl rfl ?_
          show Steps p.tables e below (T0.setTop (mkF m 211 #[zs0, zs1, zs2, zs3, zs4, zs5, .val (.int nn), .val (.int mm), zs8, zs9, zs10, zs11, zs12, zs13, .val (.ref wa), .val (.int x), .val (.int y), .val (.ref b2), .unset] [(.ref b2)])) _
          refine XS.iconst X0.here hx rfl (hb hby at_211) ?_
          show Steps p.tables e below (T0.setTop (mkF m 212 #[zs0, zs1, zs2, zs3, zs4, zs5, .val (.int nn), .val (.int mm), zs8, zs9, zs10, zs11, zs12, zs13, .val (.ref wa), .val (.int x), .val (.int y), .val (.ref b2), .unset] [(.int (0 : Int32)), (.ref b2)])) _
          refine XS.iload X0.here hx rfl (hb hby at_212) rfl ?_
          show Steps p.tables e below (T0.setTop (mkF m 214 #[zs0, zs1, zs2, zs3, zs4, zs5, .val (.int nn), .val (.int mm), zs8, zs9, zs10, zs11, zs12, zs13, .val (.ref wa), .val (.int x), .val (.int y), .val (.ref b2), .unset] [(.int x), (.int (0 : Int32)), (.ref b2)])) _
          refine XS.iload X0.here hx rfl (hb hby at_214) rfl ?_
          show Steps p.tables e below (T0.setTop (mkF m 216 #[zs0, zs1, zs2, zs3, zs4, zs5, .val (.int nn), .val (.int mm), zs8, zs9, zs10, zs11, zs12, zs13, .val (.ref wa), .val (.int x), .val (.int y), .val (.ref b2), .unset] [(.int y), (.int x), (.int (0 : Int32)), (.ref b2)])) _
          refine st1 _ ?_
          show Steps p.tables e below (T1.setTop (mkF m 219 #[zs0, zs1, zs2, zs3, zs4, zs5, .val (.int nn), .val (.int mm), zs8, zs9, zs10, zs11, zs12, zs13, .val (.ref wa), .val (.int x), .val (.int y), .val (.ref b2), .unset] [(.int (own_min_f0 x y)), (.int (0 : Int32)), (.ref b2)])) _
          refine st2 _ ?_
          show Steps p.tables e below (T2.setTop (mkF m 220 #[zs0, zs1, zs2, zs3, zs4, zs5, .val (.int nn), .val (.int mm), zs8, zs9, zs10, zs11, zs12, zs13, .val (.ref wa), .val (.int x), .val (.int y), .val (.ref b2), .unset] [])) _
          refine XS.aload X2.here hx rfl (hb hby at_220) rfl rfl ?_
          show Steps p.tables e below (T2.setTop (mkF m 222 #[zs0, zs1, zs2, zs3, zs4, zs5, .val (.int nn), .val (.int mm), zs8, zs9, zs10, zs11, zs12, zs13, .val (.ref wa), .val (.int x), .val (.int y), .val (.ref b2), .unset] [(.ref b2)])) _
          refine XS.iconst X2.here hx rfl (hb hby at_222) ?_
          show Steps p.tables e below (T2.setTop (mkF m 223 #[zs0, zs1, zs2, zs3, zs4, zs5, .val (.int nn), .val (.int mm), zs8, zs9, zs10, zs11, zs12, zs13, .val (.ref wa), .val (.int x), .val (.int y), .val (.ref b2), .unset] [(.int (1 : Int32)), (.ref b2)])) _
          refine XS.iload X2.here hx rfl (hb hby at_223) rfl ?_
          show Steps p.tables e below (T2.setTop (mkF m 225 #[zs0, zs1, zs2, zs3, zs4, zs5, .val (.int nn), .val (.int mm), zs8, zs9, zs10, zs11, zs12, zs13, .val (.ref wa), .val (.int x), .val (.int y), .val (.ref b2), .unset] [(.int x), (.int (1 : Int32)), (.ref b2)])) _
          refine XS.iload X2.here hx rfl (hb hby at_225) rfl ?_
          show Steps p.tables e below (T2.setTop (mkF m 227 #[zs0, zs1, zs2, zs3, zs4, zs5, .val (.int nn), .val (.int mm), zs8, zs9, zs10, zs11, zs12, zs13, .val (.ref wa), .val (.int x), .val (.int y), .val (.ref b2), .unset] [(.int y), (.int x), (.int (1 : Int32)), (.ref b2)])) _
          refine st3 _ ?_
          show Steps p.tables e below (T3.setTop (mkF m 230 #[zs0, zs1, zs2, zs3, zs4, zs5, .val (.int nn), .val (.int mm), zs8, zs9, zs10, zs11, zs12, zs13, .val (.ref wa), .val (.int x), .val (.int y), .val (.ref b2), .unset] [(.int (own_max_f0 x y)), (.int (1 : Int32)), (.ref b2)])) _
          refine st4 _ ?_
          show Steps p.tables e below (T4.setTop (mkF m 231 #[zs0, zs1, zs2, zs3, zs4, zs5, .val (.int nn), .val (.int mm), zs8, zs9, zs10, zs11, zs12, zs13, .val (.ref wa), .val (.int x), .val (.int y), .val (.ref b2), .unset] [])) _
          refine XS.aload X4.here hx rfl (hb hby at_231) rfl rfl ?_
          show Steps p.tables e below (T4.setTop (mkF m 233 #[zs0, zs1, zs2, zs3, zs4, zs5, .val (.int nn), .val (.int mm), zs8, zs9, zs10, zs11, zs12, zs13, .val (.ref wa), .val (.int x), .val (.int y), .val (.ref b2), .unset] [(.ref wa)])) _
          refine XS.iload X4.here hx rfl (hb hby at_233) rfl ?_
          show Steps p.tables e below (T4.setTop (mkF m 235 #[zs0, zs1, zs2, zs3, zs4, zs5, .val (.int nn), .val (.int mm), zs8, zs9, zs10, zs11, zs12, zs13, .val (.ref wa), .val (.int x), .val (.int y), .val (.ref b2), .unset] [(.int nn), (.ref wa)])) _
          refine XS.iload X4.here hx rfl (hb hby at_235) rfl ?_
          show Steps p.tables e below (T4.setTop (mkF m 237 #[zs0, zs1, zs2, zs3, zs4, zs5, .val (.int nn), .val (.int mm), zs8, zs9, zs10, zs11, zs12, zs13, .val (.ref wa), .val (.int x), .val (.int y), .val (.ref b2), .unset] [(.int x), (.int nn), (.ref wa)])) _
          refine st6 _ ?_
          show Steps p.tables e below (T6.setTop (mkF m 240 #[zs0, zs1, zs2, zs3, zs4, zs5, .val (.int nn), .val (.int mm), zs8, zs9, zs10, zs11, zs12, zs13, .val (.ref wa), .val (.int x), .val (.int y), .val (.ref b2), .unset] [(.int (own_in ws x))])) _
          refine XS.ifNo X6.here hx rfl (hb hby at_240) rfl ((if0 _ _).trans (feq hq).1) ?_
          show Steps p.tables e below (T6.setTop (mkF m 243 #[zs0, zs1, zs2, zs3, zs4, zs5, .val (.int nn), .val (.int mm), zs8, zs9, zs10, zs11, zs12, zs13, .val (.ref wa), .val (.int x), .val (.int y), .val (.ref b2), .unset] [])) _
          refine XS.aload X6.here hx rfl (hb hby at_243) rfl rfl ?_
          show Steps p.tables e below (T6.setTop (mkF m 245 #[zs0, zs1, zs2, zs3, zs4, zs5, .val (.int nn), .val (.int mm), zs8, zs9, zs10, zs11, zs12, zs13, .val (.ref wa), .val (.int x), .val (.int y), .val (.ref b2), .unset] [(.ref wa)])) _
          refine XS.iload X6.here hx rfl (hb hby at_245) rfl ?_
          show Steps p.tables e below (T6.setTop (mkF m 247 #[zs0, zs1, zs2, zs3, zs4, zs5, .val (.int nn), .val (.int mm), zs8, zs9, zs10, zs11, zs12, zs13, .val (.ref wa), .val (.int x), .val (.int y), .val (.ref b2), .unset] [(.int nn), (.ref wa)])) _
          refine XS.iload X6.here hx rfl (hb hby at_247) rfl ?_
          show Steps p.tables e below (T6.setTop (mkF m 249 #[zs0, zs1, zs2, zs3, zs4, zs5, .val (.int nn), .val (.int mm), zs8, zs9, zs10, zs11, zs12, zs13, .val (.ref wa), .val (.int x), .val (.int y), .val (.ref b2), .unset] [(.int y), (.int nn), (.ref wa)])) _
          refine st7 _ ?_
          show Steps p.tables e below (T7.setTop (mkF m 252 #[zs0, zs1, zs2, zs3, zs4, zs5, .val (.int nn), .val (.int mm), zs8, zs9, zs10, zs11, zs12, zs13, .val (.ref wa), .val (.int x), .val (.int y), .val (.ref b2), .unset] [(.int (own_in ws y))])) _
          refine XS.ifYes X7.here hx rfl (pc0 := 252) (pc' := 259) rfl (hb hby at_252) rfl ((if0 _ _).trans (teq hq2).1) (by decide) (by decide) ?_
          show Steps p.tables e below (T7.setTop (mkF m 259 #[zs0, zs1, zs2, zs3, zs4, zs5, .val (.int nn), .val (.int mm), zs8, zs9, zs10, zs11, zs12, zs13, .val (.ref wa), .val (.int x), .val (.int y), .val (.ref b2), .unset] [])) _
          refine XS.iconst X7.here hx rfl (hb hby at_259) ?_
          show Steps p.tables e below (T7.setTop (mkF m 260 #[zs0, zs1, zs2, zs3, zs4, zs5, .val (.int nn), .val (.int mm), zs8, zs9, zs10, zs11, zs12, zs13, .val (.ref wa), .val (.int x), .val (.int y), .val (.ref b2), .unset] [(.int (0 : Int32))])) _
          refine XS.istore X7.here hx rfl (hb hby at_260) rfl (l' := #[zs0, zs1, zs2, zs3, zs4, zs5, .val (.int nn), .val (.int mm), zs8, zs9, zs10, zs11, zs12, zs13, .val (.ref wa), .val (.int x), .val (.int y), .val (.ref b2), .val (.int (0 : Int32))]) rfl ?_
          show Steps p.tables e below (T7.setTop (mkF m 262 #[zs0, zs1, zs2, zs3, zs4, zs5, .val (.int nn), .val (.int mm), zs8, zs9, zs10, zs11, zs12, zs13, .val (.ref wa), .val (.int x), .val (.int y), .val (.ref b2), .val (.int (0 : Int32))] [])) _
          exact kt
        · refine ⟨T7, h4, _, [own_min_f0 x y, own_max_f0 x y], 1, X7, e7, N7, Z4, A4, B5, Nat.le_of_ble_eq_true rfl, own_pair_s x y, by rw [own_pair, if_neg hq, if_neg hq2], fun target kt => ?_⟩
          show Steps p.tables e below (T0.setTop (mkF m 172 #[zs0, zs1, zs2, zs3, zs4, zs5, .val (.int nn), .val (.int mm), zs8, zs9, zs10, zs11, zs12, zs13, .val (.ref wa), .val (.int x), .val (.int y), .val (.ref b2), .unset] [])) _
          refine XS.iload X0.here hx rfl (hb hby at_172) rfl ?_
          show Steps p.tables e below (T0.setTop (mkF m 174 #[zs0, zs1, zs2, zs3, zs4, zs5, .val (.int nn), .val (.int mm), zs8, zs9, zs10, zs11, zs12, zs13, .val (.ref wa), .val (.int x), .val (.int y), .val (.ref b2), .unset] [(.int mm)])) _
          refine XS.ifYes X0.here hx rfl (pc0 := 174) (pc' := 183) rfl (hb hby at_174) rfl ((if0 _ _).trans (feq hm0).2) (by decide) (by decide) ?_
          show Steps p.tables e below (T0.setTop (mkF m 183 #[zs0, zs1, zs2, zs3, zs4, zs5, .val (.int nn), .val (.int mm), zs8, zs9, zs10, zs11, zs12, zs13, .val (.ref wa), .val (.int x), .val (.int y), .val (.ref b2), .unset] [])) _
          refine XS.iload X0.here hx rfl (hb hby at_183) rfl ?_
          show Steps p.tables e below (T0.setTop (mkF m 185 #[zs0, zs1, zs2, zs3, zs4, zs5, .val (.int nn), .val (.int mm), zs8, zs9, zs10, zs11, zs12, zs13, .val (.ref wa), .val (.int x), .val (.int y), .val (.ref b2), .unset] [(.int mm)])) _
          refine XS.iconst X0.here hx rfl (hb hby at_185) ?_
          show Steps p.tables e below (T0.setTop (mkF m 186 #[zs0, zs1, zs2, zs3, zs4, zs5, .val (.int nn), .val (.int mm), zs8, zs9, zs10, zs11, zs12, zs13, .val (.ref wa), .val (.int x), .val (.int y), .val (.ref b2), .unset] [(.int (1 : Int32)), (.int mm)])) _
          refine XS.icmpYes X0.here hx rfl (pc0 := 186) (pc' := 209) rfl (hb hby at_186) rfl (feq hm1).2 (by decide) (by decide) ?_
          show Steps p.tables e below (T0.setTop (mkF m 209 #[zs0, zs1, zs2, zs3, zs4, zs5, .val (.int nn), .val (.int mm), zs8, zs9, zs10, zs11, zs12, zs13, .val (.ref wa), .val (.int x), .val (.int y), .val (.ref b2), .unset] [])) _
          refine XS.aload X0.here hx rfl (hb hby at_209) rfl rfl ?_
          show Steps p.tables e below (T0.setTop (mkF m 211 #[zs0, zs1, zs2, zs3, zs4, zs5, .val (.int nn), .val (.int mm), zs8, zs9, zs10, zs11, zs12, zs13, .val (.ref wa), .val (.int x), .val (.int y), .val (.ref b2), .unset] [(.ref b2)])) _
          refine XS.iconst X0.here hx rfl (hb hby at_211) ?_
          show Steps p.tables e below (T0.setTop (mkF m 212 #[zs0, zs1, zs2, zs3, zs4, zs5, .val (.int nn), .val (.int mm), zs8, zs9, zs10, zs11, zs12, zs13, .val (.ref wa), .val (.int x), .val (.int y), .val (.ref b2), .unset] [(.int (0 : Int32)), (.ref b2)])) _
          refine XS.iload X0.here hx rfl (hb hby at_212) rfl ?_
          show Steps p.tables e below (T0.setTop (mkF m 214 #[zs0, zs1, zs2, zs3, zs4, zs5, .val (.int nn), .val (.int mm), zs8, zs9, zs10, zs11, zs12, zs13, .val (.ref wa), .val (.int x), .val (.int y), .val (.ref b2), .unset] [(.int x), (.int (0 : Int32)), (.ref b2)])) _
          refine XS.iload X0.here hx rfl (hb hby at_214) rfl ?_
          show Steps p.tables e below (T0.setTop (mkF m 216 #[zs0, zs1, zs2, zs3, zs4, zs5, .val (.int nn), .val (.int mm), zs8, zs9, zs10, zs11, zs12, zs13, .val (.ref wa), .val (.int x), .val (.int y), .val (.ref b2), .unset] [(.int y), (.int x), (.int (0 : Int32)), (.ref b2)])) _
          refine st1 _ ?_
          show Steps p.tables e below (T1.setTop (mkF m 219 #[zs0, zs1, zs2, zs3, zs4, zs5, .val (.int nn), .val (.int mm), zs8, zs9, zs10, zs11, zs12, zs13, .val (.ref wa), .val (.int x), .val (.int y), .val (.ref b2), .unset] [(.int (own_min_f0 x y)), (.int (0 : Int32)), (.ref b2)])) _
          refine st2 _ ?_
          show Steps p.tables e below (T2.setTop (mkF m 220 #[zs0, zs1, zs2, zs3, zs4, zs5, .val (.int nn), .val (.int mm), zs8, zs9, zs10, zs11, zs12, zs13, .val (.ref wa), .val (.int x), .val (.int y), .val (.ref b2), .unset] [])) _
          refine XS.aload X2.here hx rfl (hb hby at_220) rfl rfl ?_
          show Steps p.tables e below (T2.setTop (mkF m 222 #[zs0, zs1, zs2, zs3, zs4, zs5, .val (.int nn), .val (.int mm), zs8, zs9, zs10, zs11, zs12, zs13, .val (.ref wa), .val (.int x), .val (.int y), .val (.ref b2), .unset] [(.ref b2)])) _
          refine XS.iconst X2.here hx rfl (hb hby at_222) ?_
          show Steps p.tables e below (T2.setTop (mkF m 223 #[zs0, zs1, zs2, zs3, zs4, zs5, .val (.int nn), .val (.int mm), zs8, zs9, zs10, zs11, zs12, zs13, .val (.ref wa), .val (.int x), .val (.int y), .val (.ref b2), .unset] [(.int (1 : Int32)), (.ref b2)])) _
          refine XS.iload X2.here hx rfl (hb hby at_223) rfl ?_
          show Steps p.tables e below (T2.setTop (mkF m 225 #[zs0, zs1, zs2, zs3, zs4, zs5, .val (.int nn), .val (.int mm), zs8, zs9, zs10, zs11, zs12, zs13, .val (.ref wa), .val (.int x), .val (.int y), .val (.ref b2), .unset] [(.int x), (.int (1 : Int32)), (.ref b2)])) _
          refine XS.iload X2.here hx rfl (hb hby at_225) rfl ?_
          show Steps p.tables e below (T2.setTop (mkF m 227 #[zs0, zs1, zs2, zs3, zs4, zs5, .val (.int nn), .val (.int mm), zs8, zs9, zs10, zs11, zs12, zs13, .val (.ref wa), .val (.int x), .val (.int y), .val (.ref b2), .unset] [(.int y), (.int x), (.int (1 : Int32)), (.ref b2)])) _
          refine st3 _ ?_
          show Steps p.tables e below (T3.setTop (mkF m 230 #[zs0, zs1, zs2, zs3, zs4, zs5, .val (.int nn), .val (.int mm), zs8, zs9, zs10, zs11, zs12, zs13, .val (.ref wa), .val (.int x), .val (.int y), .val (.ref b2), .unset] [(.int (own_max_f0 x y)), (.int (1 : Int32)), (.ref b2)])) _
          refine st4 _ ?_
          show Steps p.tables e below (T4.setTop (mkF m 231 #[zs0, zs1, zs2, zs3, zs4, zs5, .val (.int nn), .val (.int mm), zs8, zs9, zs10, zs11, zs12, zs13, .val (.ref wa), .val (.int x), .val (.int y), .val (.ref b2), .unset] [])) _
          refine XS.aload X4.here hx rfl (hb hby at_231) rfl rfl ?_
          show Steps p.tables e below (T4.setTop (mkF m 233 #[zs0, zs1, zs2, zs3, zs4, zs5, .val (.int nn), .val (.int mm), zs8, zs9, zs10, zs11, zs12, zs13, .val (.ref wa), .val (.int x), .val (.int y), .val (.ref b2), .unset] [(.ref wa)])) _
          refine XS.iload X4.here hx rfl (hb hby at_233) rfl ?_
          show Steps p.tables e below (T4.setTop (mkF m 235 #[zs0, zs1, zs2, zs3, zs4, zs5, .val (.int nn), .val (.int mm), zs8, zs9, zs10, zs11, zs12, zs13, .val (.ref wa), .val (.int x), .val (.int y), .val (.ref b2), .unset] [(.int nn), (.ref wa)])) _
          refine XS.iload X4.here hx rfl (hb hby at_235) rfl ?_
          show Steps p.tables e below (T4.setTop (mkF m 237 #[zs0, zs1, zs2, zs3, zs4, zs5, .val (.int nn), .val (.int mm), zs8, zs9, zs10, zs11, zs12, zs13, .val (.ref wa), .val (.int x), .val (.int y), .val (.ref b2), .unset] [(.int x), (.int nn), (.ref wa)])) _
          refine st6 _ ?_
          show Steps p.tables e below (T6.setTop (mkF m 240 #[zs0, zs1, zs2, zs3, zs4, zs5, .val (.int nn), .val (.int mm), zs8, zs9, zs10, zs11, zs12, zs13, .val (.ref wa), .val (.int x), .val (.int y), .val (.ref b2), .unset] [(.int (own_in ws x))])) _
          refine XS.ifNo X6.here hx rfl (hb hby at_240) rfl ((if0 _ _).trans (feq hq).1) ?_
          show Steps p.tables e below (T6.setTop (mkF m 243 #[zs0, zs1, zs2, zs3, zs4, zs5, .val (.int nn), .val (.int mm), zs8, zs9, zs10, zs11, zs12, zs13, .val (.ref wa), .val (.int x), .val (.int y), .val (.ref b2), .unset] [])) _
          refine XS.aload X6.here hx rfl (hb hby at_243) rfl rfl ?_
          show Steps p.tables e below (T6.setTop (mkF m 245 #[zs0, zs1, zs2, zs3, zs4, zs5, .val (.int nn), .val (.int mm), zs8, zs9, zs10, zs11, zs12, zs13, .val (.ref wa), .val (.int x), .val (.int y), .val (.ref b2), .unset] [(.ref wa)])) _
          refine XS.iload X6.here hx rfl (hb hby at_245) rfl ?_
          show Steps p.tables e below (T6.setTop (mkF m 247 #[zs0, zs1, zs2, zs3, zs4, zs5, .val (.int nn), .val (.int mm), zs8, zs9, zs10, zs11, zs12, zs13, .val (.ref wa), .val (.int x), .val (.int y), .val (.ref b2), .unset] [(.int nn), (.ref wa)])) _
          refine XS.iload X6.here hx rfl (hb hby at_247) rfl ?_
          show Steps p.tables e below (T6.setTop (mkF m 249 #[zs0, zs1, zs2, zs3, zs4, zs5, .val (.int nn), .val (.int mm), zs8, zs9, zs10, zs11, zs12, zs13, .val (.ref wa), .val (.int x), .val (.int y), .val (.ref b2), .unset] [(.int y), (.int nn), (.ref wa)])) _
          refine st7 _ ?_
          show Steps p.tables e below (T7.setTop (mkF m 252 #[zs0, zs1, zs2, zs3, zs4, zs5, .val (.int nn), .val (.int mm), zs8, zs9, zs10, zs11, zs12, zs13, .val (.ref wa), .val (.int x), .val (.int y), .val (.ref b2), .unset] [(.int (own_in ws y))])) _
          refine XS.ifNo X7.here hx rfl (hb hby at_252) rfl ((if0 _ _).trans (feq hq2).1) ?_
          show Steps p.tables e below (T7.setTop (mkF m 255 #[zs0, zs1, zs2, zs3, zs4, zs5, .val (.int nn), .val (.int mm), zs8, zs9, zs10, zs11, zs12, zs13, .val (.ref wa), .val (.int x), .val (.int y), .val (.ref b2), .unset] [])) _
          refine XS.iconst X7.here hx rfl (hb hby at_255) ?_
          show Steps p.tables e below (T7.setTop (mkF m 256 #[zs0, zs1, zs2, zs3, zs4, zs5, .val (.int nn), .val (.int mm), zs8, zs9, zs10, zs11, zs12, zs13, .val (.ref wa), .val (.int x), .val (.int y), .val (.ref b2), .unset] [(.int (1 : Int32))])) _
          refine XS.goto X7.here hx rfl (pc0 := 256) (pc' := 260) rfl (hb hby at_256) (by decide) (by decide) ?_
          show Steps p.tables e below (T7.setTop (mkF m 260 #[zs0, zs1, zs2, zs3, zs4, zs5, .val (.int nn), .val (.int mm), zs8, zs9, zs10, zs11, zs12, zs13, .val (.ref wa), .val (.int x), .val (.int y), .val (.ref b2), .unset] [(.int (1 : Int32))])) _
          refine XS.istore X7.here hx rfl (hb hby at_260) rfl (l' := #[zs0, zs1, zs2, zs3, zs4, zs5, .val (.int nn), .val (.int mm), zs8, zs9, zs10, zs11, zs12, zs13, .val (.ref wa), .val (.int x), .val (.int y), .val (.ref b2), .val (.int (1 : Int32))]) rfl ?_
          show Steps p.tables e below (T7.setTop (mkF m 262 #[zs0, zs1, zs2, zs3, zs4, zs5, .val (.int nn), .val (.int mm), zs8, zs9, zs10, zs11, zs12, zs13, .val (.ref wa), .val (.int x), .val (.int y), .val (.ref b2), .val (.int (1 : Int32))] [])) _
          exact kt
theorem pn_0 : plainName "com/example/bundlewright/bundlewright/IntArraysHoldsAllPinLaw" = true := by first | (simp [plainName, overriddenIn]; done) | decide +kernel
theorem ef_0 (m : MethodId) (v0 v1 v2 v3 v4 v5 : Int32) : entryFrame m #[(.int v0), (.int v1), (.int v2), (.int v3), (.int v4), (.int v5)] maxLocals = (mkF m 0 #[.val (.int v0), .val (.int v1), .val (.int v2), .val (.int v3), .val (.int v4), .val (.int v5), .unset, .unset, .unset, .unset, .unset, .unset, .unset, .unset, .unset, .unset, .unset, .unset, .unset] []) := by first | (simp [entryFrame, mkF, argsToLocals, Value.category, maxLocals]; done) | rfl
set_option maxRecDepth 65536 in
set_option maxHeartbeats 40000000 in
theorem rm0 (l : Launch) (Z : State) (a0 : Array Value) (hw : ∀ d ∈ tables_1, d.before a0 Z = true) (ws' : List Jvm.Cond) (v0 v1 v2 v3 v4 v5 : Int32) (h0 : Heap) (n0 : Nat) (Z0 : n0 ≤ h0.size) :
    MetFree l x (head1 (Jvm.Cond.code x code maxLocals ret :: ws') room_1) (fun a U => a = #[(.int v0), (.int v1), (.int v2), (.int v3), (.int v4), (.int v5)] ∧ Z.Warmed39 U.vm ∧ U.heap = h0) (fun _ _ _ _ _ => True) (fun _ U o U' => ∃ v L, o = .returned v ∧ (v = some (.int (1 : Int32)) ∧ Fr n0 L) ∧ FrameEnd U o U' L room_1.cells room_1.slots) := by
  refine MetFree.of_bodySF (plainFor_of_name pn_0) hisR ?_
  intro p e s m args below meth c s₁ Bd hml0 hP hK
  obtain ⟨rfl, hZ, hh⟩ := hP
  have hx := Bd.exec
  have hby := Bd.bytes
  have hml : c.maxLocals = 19 := hml0
  have hown : s.vm.findClass "com/example/bundlewright/bundlewright/IntArraysHoldsAllPinLaw" = some m.cls := findClass_of_methodNamed Bd.named
  have X0 : Stand p l e room_1 s m #[(.int v0), (.int v1), (.int v2), (.int v3), (.int v4), (.int v5)] below meth c s₁ [] 0 0 := Stand.of_body Bd
  have e0 : s₁.heap = h0 := by rw [← hh, Bd.state]; rfl
  have N0 := Fr.nil n0
  obtain ⟨nn, hnn⟩ : ∃ z, z = own_n v5 := ⟨_, rfl⟩
  obtain ⟨mm, hmm⟩ : ∃ z, z = own_m v5 := ⟨_, rfl⟩
  obtain ⟨k1, hk1⟩ : ∃ z, z = own_k1 v5 := ⟨_, rfl⟩
  obtain ⟨k2, hk2⟩ : ∃ z, z = own_k2 v5 := ⟨_, rfl⟩
  have hnr : 0 ≤ nn.toInt ∧ nn.toInt ≤ 3 := by rw [hnn]; exact own_n_r v5
  have hmr : mm = 0 ∨ mm = 1 ∨ mm = 2 := by rw [hmm]; exact own_m_r v5
  have hn0 : ¬ nn < 0 := by rw [Int32.lt_iff_toInt_lt]; show ¬ nn.toInt < 0; omega
  have hm0 : ¬ mm < 0 := by rcases hmr with rfl | rfl | rfl <;> decide
  have hnc : nn.toNatClampNeg ≤ 3 := by rw [Int32.toNatClampNeg]; omega
  have hmc : mm.toNatClampNeg ≤ 2 := by rcases hmr with rfl | rfl | rfl <;> decide
  have start : ∀ t, Steps p.tables e below (s₁.setTop (mkF m 45 #[.val (.int v0), .val (.int v1), .val (.int v2), .val (.int v3), .val (.int v4), .val (.int v5), .val (.int nn), .val (.int mm), .val (.int k1), .val (.int k2), .val (.int v0), .val (.int v1), .val (.int v2), .unset, .unset, .unset, .unset, .unset, .unset] [])) t → Steps p.tables e below (s₁.setTop (mkF m 0 #[.val (.int v0), .val (.int v1), .val (.int v2), .val (.int v3), .val (.int v4), .val (.int v5), .unset, .unset, .unset, .unset, .unset, .unset, .unset, .unset, .unset, .unset, .unset, .unset, .unset] [])) t := fun t kt => by
    subst hnn hmm hk1 hk2
    show Steps p.tables e below (s₁.setTop (mkF m 0 #[.val (.int v0), .val (.int v1), .val (.int v2), .val (.int v3), .val (.int v4), .val (.int v5), .unset, .unset, .unset, .unset, .unset, .unset, .unset, .unset, .unset, .unset, .unset, .unset, .unset] [])) _
    refine XS.iload X0.here hx rfl (hb hby at_0) rfl ?_
    show Steps p.tables e below (s₁.setTop (mkF m 2 #[.val (.int v0), .val (.int v1), .val (.int v2), .val (.int v3), .val (.int v4), .val (.int v5), .unset, .unset, .unset, .unset, .unset, .unset, .unset, .unset, .unset, .unset, .unset, .unset, .unset] [(.int v5)])) _
    refine XS.iconst X0.here hx rfl (hb hby at_2) ?_
    show Steps p.tables e below (s₁.setTop (mkF m 3 #[.val (.int v0), .val (.int v1), .val (.int v2), .val (.int v3), .val (.int v4), .val (.int v5), .unset, .unset, .unset, .unset, .unset, .unset, .unset, .unset, .unset, .unset, .unset, .unset, .unset] [(.int (3 : Int32)), (.int v5)])) _
    refine XS.iand X0.here hx rfl (hb hby at_3) rfl ?_
    show Steps p.tables e below (s₁.setTop (mkF m 4 #[.val (.int v0), .val (.int v1), .val (.int v2), .val (.int v3), .val (.int v4), .val (.int v5), .unset, .unset, .unset, .unset, .unset, .unset, .unset, .unset, .unset, .unset, .unset, .unset, .unset] [(.int (v5 &&& (3 : Int32)))])) _
    refine XS.istore X0.here hx rfl (hb hby at_4) rfl (l' := #[.val (.int v0), .val (.int v1), .val (.int v2), .val (.int v3), .val (.int v4), .val (.int v5), .val (.int (v5 &&& (3 : Int32))), .unset, .unset, .unset, .unset, .unset, .unset, .unset, .unset, .unset, .unset, .unset, .unset]) rfl ?_
    show Steps p.tables e below (s₁.setTop (mkF m 6 #[.val (.int v0), .val (.int v1), .val (.int v2), .val (.int v3), .val (.int v4), .val (.int v5), .val (.int (v5 &&& (3 : Int32))), .unset, .unset, .unset, .unset, .unset, .unset, .unset, .unset, .unset, .unset, .unset, .unset] [])) _
    refine XS.iload X0.here hx rfl (hb hby at_6) rfl ?_
    show Steps p.tables e below (s₁.setTop (mkF m 8 #[.val (.int v0), .val (.int v1), .val (.int v2), .val (.int v3), .val (.int v4), .val (.int v5), .val (.int (v5 &&& (3 : Int32))), .unset, .unset, .unset, .unset, .unset, .unset, .unset, .unset, .unset, .unset, .unset, .unset] [(.int v5)])) _
    refine XS.iconst X0.here hx rfl (hb hby at_8) ?_
    show Steps p.tables e below (s₁.setTop (mkF m 9 #[.val (.int v0), .val (.int v1), .val (.int v2), .val (.int v3), .val (.int v4), .val (.int v5), .val (.int (v5 &&& (3 : Int32))), .unset, .unset, .unset, .unset, .unset, .unset, .unset, .unset, .unset, .unset, .unset, .unset] [(.int (2 : Int32)), (.int v5)])) _
    refine XS.iushr X0.here hx rfl (hb hby at_9) rfl ?_
    show Steps p.tables e below (s₁.setTop (mkF m 10 #[.val (.int v0), .val (.int v1), .val (.int v2), .val (.int v3), .val (.int v4), .val (.int v5), .val (.int (v5 &&& (3 : Int32))), .unset, .unset, .unset, .unset, .unset, .unset, .unset, .unset, .unset, .unset, .unset, .unset] [(.int ((v5.toUInt32 >>> ((2 : Int32) &&& 31).toUInt32).toInt32))])) _
    refine XS.sipush X0.here hx rfl (hb hby at_10) ?_
    show Steps p.tables e below (s₁.setTop (mkF m 13 #[.val (.int v0), .val (.int v1), .val (.int v2), .val (.int v3), .val (.int v4), .val (.int v5), .val (.int (v5 &&& (3 : Int32))), .unset, .unset, .unset, .unset, .unset, .unset, .unset, .unset, .unset, .unset, .unset, .unset] [(.int (255 : Int32)), (.int ((v5.toUInt32 >>> ((2 : Int32) &&& 31).toUInt32).toInt32))])) _
    refine XS.iand X0.here hx rfl (hb hby at_13) rfl ?_
    show Steps p.tables e below (s₁.setTop (mkF m 14 #[.val (.int v0), .val (.int v1), .val (.int v2), .val (.int v3), .val (.int v4), .val (.int v5), .val (.int (v5 &&& (3 : Int32))), .unset, .unset, .unset, .unset, .unset, .unset, .unset, .unset, .unset, .unset, .unset, .unset] [(.int (((v5.toUInt32 >>> ((2 : Int32) &&& 31).toUInt32).toInt32) &&& (255 : Int32)))])) _
    refine XS.iconst X0.here hx rfl (hb hby at_14) ?_
    show Steps p.tables e below (s₁.setTop (mkF m 15 #[.val (.int v0), .val (.int v1), .val (.int v2), .val (.int v3), .val (.int v4), .val (.int v5), .val (.int (v5 &&& (3 : Int32))), .unset, .unset, .unset, .unset, .unset, .unset, .unset, .unset, .unset, .unset, .unset, .unset] [(.int (3 : Int32)), (.int (((v5.toUInt32 >>> ((2 : Int32) &&& 31).toUInt32).toInt32) &&& (255 : Int32)))])) _
    refine XS.irem X0.here hx rfl (hb hby at_15) rfl (by decide) ?_
    show Steps p.tables e below (s₁.setTop (mkF m 16 #[.val (.int v0), .val (.int v1), .val (.int v2), .val (.int v3), .val (.int v4), .val (.int v5), .val (.int (v5 &&& (3 : Int32))), .unset, .unset, .unset, .unset, .unset, .unset, .unset, .unset, .unset, .unset, .unset, .unset] [(.int ((((v5.toUInt32 >>> ((2 : Int32) &&& 31).toUInt32).toInt32) &&& (255 : Int32)) - (((v5.toUInt32 >>> ((2 : Int32) &&& 31).toUInt32).toInt32) &&& (255 : Int32)) / (3 : Int32) * (3 : Int32)))])) _
    refine XS.istore X0.here hx rfl (hb hby at_16) rfl (l' := #[.val (.int v0), .val (.int v1), .val (.int v2), .val (.int v3), .val (.int v4), .val (.int v5), .val (.int (v5 &&& (3 : Int32))), .val (.int ((((v5.toUInt32 >>> ((2 : Int32) &&& 31).toUInt32).toInt32) &&& (255 : Int32)) - (((v5.toUInt32 >>> ((2 : Int32) &&& 31).toUInt32).toInt32) &&& (255 : Int32)) / (3 : Int32) * (3 : Int32))), .unset, .unset, .unset, .unset, .unset, .unset, .unset, .unset, .unset, .unset, .unset]) rfl ?_
    show Steps p.tables e below (s₁.setTop (mkF m 18 #[.val (.int v0), .val (.int v1), .val (.int v2), .val (.int v3), .val (.int v4), .val (.int v5), .val (.int (v5 &&& (3 : Int32))), .val (.int ((((v5.toUInt32 >>> ((2 : Int32) &&& 31).toUInt32).toInt32) &&& (255 : Int32)) - (((v5.toUInt32 >>> ((2 : Int32) &&& 31).toUInt32).toInt32) &&& (255 : Int32)) / (3 : Int32) * (3 : Int32))), .unset, .unset, .unset, .unset, .unset, .unset, .unset, .unset, .unset, .unset, .unset] [])) _
    refine XS.iload X0.here hx rfl (hb hby at_18) rfl ?_
    show Steps p.tables e below (s₁.setTop (mkF m 20 #[.val (.int v0), .val (.int v1), .val (.int v2), .val (.int v3), .val (.int v4), .val (.int v5), .val (.int (v5 &&& (3 : Int32))), .val (.int ((((v5.toUInt32 >>> ((2 : Int32) &&& 31).toUInt32).toInt32) &&& (255 : Int32)) - (((v5.toUInt32 >>> ((2 : Int32) &&& 31).toUInt32).toInt32) &&& (255 : Int32)) / (3 : Int32) * (3 : Int32))), .unset, .unset, .unset, .unset, .unset, .unset, .unset, .unset, .unset, .unset, .unset] [(.int v5)])) _
    refine XS.bipush X0.here hx rfl (hb hby at_20) ?_
    show Steps p.tables e below (s₁.setTop (mkF m 22 #[.val (.int v0), .val (.int v1), .val (.int v2), .val (.int v3), .val (.int v4), .val (.int v5), .val (.int (v5 &&& (3 : Int32))), .val (.int ((((v5.toUInt32 >>> ((2 : Int32) &&& 31).toUInt32).toInt32) &&& (255 : Int32)) - (((v5.toUInt32 >>> ((2 : Int32) &&& 31).toUInt32).toInt32) &&& (255 : Int32)) / (3 : Int32) * (3 : Int32))), .unset, .unset, .unset, .unset, .unset, .unset, .unset, .unset, .unset, .unset, .unset] [(.int (10 : Int32)), (.int v5)])) _
    refine XS.iushr X0.here hx rfl (hb hby at_22) rfl ?_
    show Steps p.tables e below (s₁.setTop (mkF m 23 #[.val (.int v0), .val (.int v1), .val (.int v2), .val (.int v3), .val (.int v4), .val (.int v5), .val (.int (v5 &&& (3 : Int32))), .val (.int ((((v5.toUInt32 >>> ((2 : Int32) &&& 31).toUInt32).toInt32) &&& (255 : Int32)) - (((v5.toUInt32 >>> ((2 : Int32) &&& 31).toUInt32).toInt32) &&& (255 : Int32)) / (3 : Int32) * (3 : Int32))), .unset, .unset, .unset, .unset, .unset, .unset, .unset, .unset, .unset, .unset, .unset] [(.int ((v5.toUInt32 >>> ((10 : Int32) &&& 31).toUInt32).toInt32))])) _
    refine XS.iconst X0.here hx rfl (hb hby at_23) ?_
    show Steps p.tables e below (s₁.setTop (mkF m 24 #[.val (.int v0), .val (.int v1), .val (.int v2), .val (.int v3), .val (.int v4), .val (.int v5), .val (.int (v5 &&& (3 : Int32))), .val (.int ((((v5.toUInt32 >>> ((2 : Int32) &&& 31).toUInt32).toInt32) &&& (255 : Int32)) - (((v5.toUInt32 >>> ((2 : Int32) &&& 31).toUInt32).toInt32) &&& (255 : Int32)) / (3 : Int32) * (3 : Int32))), .unset, .unset, .unset, .unset, .unset, .unset, .unset, .unset, .unset, .unset, .unset] [(.int (3 : Int32)), (.int ((v5.toUInt32 >>> ((10 : Int32) &&& 31).toUInt32).toInt32))])) _
    refine XS.iand X0.here hx rfl (hb hby at_24) rfl ?_
    show Steps p.tables e below (s₁.setTop (mkF m 25 #[.val (.int v0), .val (.int v1), .val (.int v2), .val (.int v3), .val (.int v4), .val (.int v5), .val (.int (v5 &&& (3 : Int32))), .val (.int ((((v5.toUInt32 >>> ((2 : Int32) &&& 31).toUInt32).toInt32) &&& (255 : Int32)) - (((v5.toUInt32 >>> ((2 : Int32) &&& 31).toUInt32).toInt32) &&& (255 : Int32)) / (3 : Int32) * (3 : Int32))), .unset, .unset, .unset, .unset, .unset, .unset, .unset, .unset, .unset, .unset, .unset] [(.int (((v5.toUInt32 >>> ((10 : Int32) &&& 31).toUInt32).toInt32) &&& (3 : Int32)))])) _
    refine XS.istore X0.here hx rfl (hb hby at_25) rfl (l' := #[.val (.int v0), .val (.int v1), .val (.int v2), .val (.int v3), .val (.int v4), .val (.int v5), .val (.int (v5 &&& (3 : Int32))), .val (.int ((((v5.toUInt32 >>> ((2 : Int32) &&& 31).toUInt32).toInt32) &&& (255 : Int32)) - (((v5.toUInt32 >>> ((2 : Int32) &&& 31).toUInt32).toInt32) &&& (255 : Int32)) / (3 : Int32) * (3 : Int32))), .val (.int (((v5.toUInt32 >>> ((10 : Int32) &&& 31).toUInt32).toInt32) &&& (3 : Int32))), .unset, .unset, .unset, .unset, .unset, .unset, .unset, .unset, .unset, .unset]) rfl ?_
    show Steps p.tables e below (s₁.setTop (mkF m 27 #[.val (.int v0), .val (.int v1), .val (.int v2), .val (.int v3), .val (.int v4), .val (.int v5), .val (.int (v5 &&& (3 : Int32))), .val (.int ((((v5.toUInt32 >>> ((2 : Int32) &&& 31).toUInt32).toInt32) &&& (255 : Int32)) - (((v5.toUInt32 >>> ((2 : Int32) &&& 31).toUInt32).toInt32) &&& (255 : Int32)) / (3 : Int32) * (3 : Int32))), .val (.int (((v5.toUInt32 >>> ((10 : Int32) &&& 31).toUInt32).toInt32) &&& (3 : Int32))), .unset, .unset, .unset, .unset, .unset, .unset, .unset, .unset, .unset, .unset] [])) _
    refine XS.iload X0.here hx rfl (hb hby at_27) rfl ?_
    show Steps p.tables e below (s₁.setTop (mkF m 29 #[.val (.int v0), .val (.int v1), .val (.int v2), .val (.int v3), .val (.int v4), .val (.int v5), .val (.int (v5 &&& (3 : Int32))), .val (.int ((((v5.toUInt32 >>> ((2 : Int32) &&& 31).toUInt32).toInt32) &&& (255 : Int32)) - (((v5.toUInt32 >>> ((2 : Int32) &&& 31).toUInt32).toInt32) &&& (255 : Int32)) / (3 : Int32) * (3 : Int32))), .val (.int (((v5.toUInt32 >>> ((10 : Int32) &&& 31).toUInt32).toInt32) &&& (3 : Int32))), .unset, .unset, .unset, .unset, .unset, .unset, .unset, .unset, .unset, .unset] [(.int v5)])) _
    refine XS.bipush X0.here hx rfl (hb hby at_29) ?_
    show Steps p.tables e below (s₁.setTop (mkF m 31 #[.val (.int v0), .val (.int v1), .val (.int v2), .val (.int v3), .val (.int v4), .val (.int v5), .val (.int (v5 &&& (3 : Int32))), .val (.int ((((v5.toUInt32 >>> ((2 : Int32) &&& 31).toUInt32).toInt32) &&& (255 : Int32)) - (((v5.toUInt32 >>> ((2 : Int32) &&& 31).toUInt32).toInt32) &&& (255 : Int32)) / (3 : Int32) * (3 : Int32))), .val (.int (((v5.toUInt32 >>> ((10 : Int32) &&& 31).toUInt32).toInt32) &&& (3 : Int32))), .unset, .unset, .unset, .unset, .unset, .unset, .unset, .unset, .unset, .unset] [(.int (12 : Int32)), (.int v5)])) _
    refine XS.iushr X0.here hx rfl (hb hby at_31) rfl ?_
    show Steps p.tables e below (s₁.setTop (mkF m 32 #[.val (.int v0), .val (.int v1), .val (.int v2), .val (.int v3), .val (.int v4), .val (.int v5), .val (.int (v5 &&& (3 : Int32))), .val (.int ((((v5.toUInt32 >>> ((2 : Int32) &&& 31).toUInt32).toInt32) &&& (255 : Int32)) - (((v5.toUInt32 >>> ((2 : Int32) &&& 31).toUInt32).toInt32) &&& (255 : Int32)) / (3 : Int32) * (3 : Int32))), .val (.int (((v5.toUInt32 >>> ((10 : Int32) &&& 31).toUInt32).toInt32) &&& (3 : Int32))), .unset, .unset, .unset, .unset, .unset, .unset, .unset, .unset, .unset, .unset] [(.int ((v5.toUInt32 >>> ((12 : Int32) &&& 31).toUInt32).toInt32))])) _
    refine XS.iconst X0.here hx rfl (hb hby at_32) ?_
    show Steps p.tables e below (s₁.setTop (mkF m 33 #[.val (.int v0), .val (.int v1), .val (.int v2), .val (.int v3), .val (.int v4), .val (.int v5), .val (.int (v5 &&& (3 : Int32))), .val (.int ((((v5.toUInt32 >>> ((2 : Int32) &&& 31).toUInt32).toInt32) &&& (255 : Int32)) - (((v5.toUInt32 >>> ((2 : Int32) &&& 31).toUInt32).toInt32) &&& (255 : Int32)) / (3 : Int32) * (3 : Int32))), .val (.int (((v5.toUInt32 >>> ((10 : Int32) &&& 31).toUInt32).toInt32) &&& (3 : Int32))), .unset, .unset, .unset, .unset, .unset, .unset, .unset, .unset, .unset, .unset] [(.int (3 : Int32)), (.int ((v5.toUInt32 >>> ((12 : Int32) &&& 31).toUInt32).toInt32))])) _
    refine XS.iand X0.here hx rfl (hb hby at_33) rfl ?_
    show Steps p.tables e below (s₁.setTop (mkF m 34 #[.val (.int v0), .val (.int v1), .val (.int v2), .val (.int v3), .val (.int v4), .val (.int v5), .val (.int (v5 &&& (3 : Int32))), .val (.int ((((v5.toUInt32 >>> ((2 : Int32) &&& 31).toUInt32).toInt32) &&& (255 : Int32)) - (((v5.toUInt32 >>> ((2 : Int32) &&& 31).toUInt32).toInt32) &&& (255 : Int32)) / (3 : Int32) * (3 : Int32))), .val (.int (((v5.toUInt32 >>> ((10 : Int32) &&& 31).toUInt32).toInt32) &&& (3 : Int32))), .unset, .unset, .unset, .unset, .unset, .unset, .unset, .unset, .unset, .unset] [(.int (((v5.toUInt32 >>> ((12 : Int32) &&& 31).toUInt32).toInt32) &&& (3 : Int32)))])) _
    refine XS.istore X0.here hx rfl (hb hby at_34) rfl (l' := #[.val (.int v0), .val (.int v1), .val (.int v2), .val (.int v3), .val (.int v4), .val (.int v5), .val (.int (v5 &&& (3 : Int32))), .val (.int ((((v5.toUInt32 >>> ((2 : Int32) &&& 31).toUInt32).toInt32) &&& (255 : Int32)) - (((v5.toUInt32 >>> ((2 : Int32) &&& 31).toUInt32).toInt32) &&& (255 : Int32)) / (3 : Int32) * (3 : Int32))), .val (.int (((v5.toUInt32 >>> ((10 : Int32) &&& 31).toUInt32).toInt32) &&& (3 : Int32))), .val (.int (((v5.toUInt32 >>> ((12 : Int32) &&& 31).toUInt32).toInt32) &&& (3 : Int32))), .unset, .unset, .unset, .unset, .unset, .unset, .unset, .unset, .unset]) rfl ?_
    show Steps p.tables e below (s₁.setTop (mkF m 36 #[.val (.int v0), .val (.int v1), .val (.int v2), .val (.int v3), .val (.int v4), .val (.int v5), .val (.int (v5 &&& (3 : Int32))), .val (.int ((((v5.toUInt32 >>> ((2 : Int32) &&& 31).toUInt32).toInt32) &&& (255 : Int32)) - (((v5.toUInt32 >>> ((2 : Int32) &&& 31).toUInt32).toInt32) &&& (255 : Int32)) / (3 : Int32) * (3 : Int32))), .val (.int (((v5.toUInt32 >>> ((10 : Int32) &&& 31).toUInt32).toInt32) &&& (3 : Int32))), .val (.int (((v5.toUInt32 >>> ((12 : Int32) &&& 31).toUInt32).toInt32) &&& (3 : Int32))), .unset, .unset, .unset, .unset, .unset, .unset, .unset, .unset, .unset] [])) _
    refine XS.iloadN X0.here hx rfl (hb hby at_36) rfl ?_
    show Steps p.tables e below (s₁.setTop (mkF m 37 #[.val (.int v0), .val (.int v1), .val (.int v2), .val (.int v3), .val (.int v4), .val (.int v5), .val (.int (v5 &&& (3 : Int32))), .val (.int ((((v5.toUInt32 >>> ((2 : Int32) &&& 31).toUInt32).toInt32) &&& (255 : Int32)) - (((v5.toUInt32 >>> ((2 : Int32) &&& 31).toUInt32).toInt32) &&& (255 : Int32)) / (3 : Int32) * (3 : Int32))), .val (.int (((v5.toUInt32 >>> ((10 : Int32) &&& 31).toUInt32).toInt32) &&& (3 : Int32))), .val (.int (((v5.toUInt32 >>> ((12 : Int32) &&& 31).toUInt32).toInt32) &&& (3 : Int32))), .unset, .unset, .unset, .unset, .unset, .unset, .unset, .unset, .unset] [(.int v0)])) _
    refine XS.istore X0.here hx rfl (hb hby at_37) rfl (l' := #[.val (.int v0), .val (.int v1), .val (.int v2), .val (.int v3), .val (.int v4), .val (.int v5), .val (.int (v5 &&& (3 : Int32))), .val (.int ((((v5.toUInt32 >>> ((2 : Int32) &&& 31).toUInt32).toInt32) &&& (255 : Int32)) - (((v5.toUInt32 >>> ((2 : Int32) &&& 31).toUInt32).toInt32) &&& (255 : Int32)) / (3 : Int32) * (3 : Int32))), .val (.int (((v5.toUInt32 >>> ((10 : Int32) &&& 31).toUInt32).toInt32) &&& (3 : Int32))), .val (.int (((v5.toUInt32 >>> ((12 : Int32) &&& 31).toUInt32).toInt32) &&& (3 : Int32))), .val (.int v0), .unset, .unset, .unset, .unset, .unset, .unset, .unset, .unset]) rfl ?_
    show Steps p.tables e below (s₁.setTop (mkF m 39 #[.val (.int v0), .val (.int v1), .val (.int v2), .val (.int v3), .val (.int v4), .val (.int v5), .val (.int (v5 &&& (3 : Int32))), .val (.int ((((v5.toUInt32 >>> ((2 : Int32) &&& 31).toUInt32).toInt32) &&& (255 : Int32)) - (((v5.toUInt32 >>> ((2 : Int32) &&& 31).toUInt32).toInt32) &&& (255 : Int32)) / (3 : Int32) * (3 : Int32))), .val (.int (((v5.toUInt32 >>> ((10 : Int32) &&& 31).toUInt32).toInt32) &&& (3 : Int32))), .val (.int (((v5.toUInt32 >>> ((12 : Int32) &&& 31).toUInt32).toInt32) &&& (3 : Int32))), .val (.int v0), .unset, .unset, .unset, .unset, .unset, .unset, .unset, .unset] [])) _
    refine XS.iloadN X0.here hx rfl (hb hby at_39) rfl ?_
    show Steps p.tables e below (s₁.setTop (mkF m 40 #[.val (.int v0), .val (.int v1), .val (.int v2), .val (.int v3), .val (.int v4), .val (.int v5), .val (.int (v5 &&& (3 : Int32))), .val (.int ((((v5.toUInt32 >>> ((2 : Int32) &&& 31).toUInt32).toInt32) &&& (255 : Int32)) - (((v5.toUInt32 >>> ((2 : Int32) &&& 31).toUInt32).toInt32) &&& (255 : Int32)) / (3 : Int32) * (3 : Int32))), .val (.int (((v5.toUInt32 >>> ((10 : Int32) &&& 31).toUInt32).toInt32) &&& (3 : Int32))), .val (.int (((v5.toUInt32 >>> ((12 : Int32) &&& 31).toUInt32).toInt32) &&& (3 : Int32))), .val (.int v0), .unset, .unset, .unset, .unset, .unset, .unset, .unset, .unset] [(.int v1)])) _
    refine XS.istore X0.here hx rfl (hb hby at_40) rfl (l' := #[.val (.int v0), .val (.int v1), .val (.int v2), .val (.int v3), .val (.int v4), .val (.int v5), .val (.int (v5 &&& (3 : Int32))), .val (.int ((((v5.toUInt32 >>> ((2 : Int32) &&& 31).toUInt32).toInt32) &&& (255 : Int32)) - (((v5.toUInt32 >>> ((2 : Int32) &&& 31).toUInt32).toInt32) &&& (255 : Int32)) / (3 : Int32) * (3 : Int32))), .val (.int (((v5.toUInt32 >>> ((10 : Int32) &&& 31).toUInt32).toInt32) &&& (3 : Int32))), .val (.int (((v5.toUInt32 >>> ((12 : Int32) &&& 31).toUInt32).toInt32) &&& (3 : Int32))), .val (.int v0), .val (.int v1), .unset, .unset, .unset, .unset, .unset, .unset, .unset]) rfl ?_
    show Steps p.tables e below (s₁.setTop (mkF m 42 #[.val (.int v0), .val (.int v1), .val (.int v2), .val (.int v3), .val (.int v4), .val (.int v5), .val (.int (v5 &&& (3 : Int32))), .val (.int ((((v5.toUInt32 >>> ((2 : Int32) &&& 31).toUInt32).toInt32) &&& (255 : Int32)) - (((v5.toUInt32 >>> ((2 : Int32) &&& 31).toUInt32).toInt32) &&& (255 : Int32)) / (3 : Int32) * (3 : Int32))), .val (.int (((v5.toUInt32 >>> ((10 : Int32) &&& 31).toUInt32).toInt32) &&& (3 : Int32))), .val (.int (((v5.toUInt32 >>> ((12 : Int32) &&& 31).toUInt32).toInt32) &&& (3 : Int32))), .val (.int v0), .val (.int v1), .unset, .unset, .unset, .unset, .unset, .unset, .unset] [])) _
    refine XS.iloadN X0.here hx rfl (hb hby at_42) rfl ?_
    show Steps p.tables e below (s₁.setTop (mkF m 43 #[.val (.int v0), .val (.int v1), .val (.int v2), .val (.int v3), .val (.int v4), .val (.int v5), .val (.int (v5 &&& (3 : Int32))), .val (.int ((((v5.toUInt32 >>> ((2 : Int32) &&& 31).toUInt32).toInt32) &&& (255 : Int32)) - (((v5.toUInt32 >>> ((2 : Int32) &&& 31).toUInt32).toInt32) &&& (255 : Int32)) / (3 : Int32) * (3 : Int32))), .val (.int (((v5.toUInt32 >>> ((10 : Int32) &&& 31).toUInt32).toInt32) &&& (3 : Int32))), .val (.int (((v5.toUInt32 >>> ((12 : Int32) &&& 31).toUInt32).toInt32) &&& (3 : Int32))), .val (.int v0), .val (.int v1), .unset, .unset, .unset, .unset, .unset, .unset, .unset] [(.int v2)])) _
    refine XS.istore X0.here hx rfl (hb hby at_43) rfl (l' := #[.val (.int v0), .val (.int v1), .val (.int v2), .val (.int v3), .val (.int v4), .val (.int v5), .val (.int (v5 &&& (3 : Int32))), .val (.int ((((v5.toUInt32 >>> ((2 : Int32) &&& 31).toUInt32).toInt32) &&& (255 : Int32)) - (((v5.toUInt32 >>> ((2 : Int32) &&& 31).toUInt32).toInt32) &&& (255 : Int32)) / (3 : Int32) * (3 : Int32))), .val (.int (((v5.toUInt32 >>> ((10 : Int32) &&& 31).toUInt32).toInt32) &&& (3 : Int32))), .val (.int (((v5.toUInt32 >>> ((12 : Int32) &&& 31).toUInt32).toInt32) &&& (3 : Int32))), .val (.int v0), .val (.int v1), .val (.int v2), .unset, .unset, .unset, .unset, .unset, .unset]) rfl ?_
    show Steps p.tables e below (s₁.setTop (mkF m 45 #[.val (.int v0), .val (.int v1), .val (.int v2), .val (.int v3), .val (.int v4), .val (.int v5), .val (.int (v5 &&& (3 : Int32))), .val (.int ((((v5.toUInt32 >>> ((2 : Int32) &&& 31).toUInt32).toInt32) &&& (255 : Int32)) - (((v5.toUInt32 >>> ((2 : Int32) &&& 31).toUInt32).toInt32) &&& (255 : Int32)) / (3 : Int32) * (3 : Int32))), .val (.int (((v5.toUInt32 >>> ((10 : Int32) &&& 31).toUInt32).toInt32) &&& (3 : Int32))), .val (.int (((v5.toUInt32 >>> ((12 : Int32) &&& 31).toUInt32).toInt32) &&& (3 : Int32))), .val (.int v0), .val (.int v1), .val (.int v2), .unset, .unset, .unset, .unset, .unset, .unset] [])) _
    exact kt
  obtain ⟨a0', a1', oa, ha, hale, hap, sta⟩ := own_sw45 v0 v1 (.val (.int v0)) (.val (.int v1)) (.val (.int v2)) (.val (.int v3)) (.val (.int v4)) (.val (.int v5)) (.val (.int nn)) (.val (.int mm)) (.val (.int k1)) (.val (.int k2)) (.val (.int v2)) (.unset) (.unset) (.unset) (.unset) (.unset) (.unset) One.u X0 hx hZ hby
  obtain ⟨b1', b2', ob, hb', hble, hbp, stb⟩ := own_sw64 a1' v2 (.val (.int v0)) (.val (.int v1)) (.val (.int v2)) (.val (.int v3)) (.val (.int v4)) (.val (.int v5)) (.val (.int nn)) (.val (.int mm)) (.val (.int k1)) (.val (.int k2)) (.val (.int a0')) (oa) (.unset) (.unset) (.unset) (.unset) (.unset) ha X0 hx hZ hby
  obtain ⟨s0, s1, oc, hc', hcle, hcp, stc⟩ := own_sw83 a0' b1' (.val (.int v0)) (.val (.int v1)) (.val (.int v2)) (.val (.int v3)) (.val (.int v4)) (.val (.int v5)) (.val (.int nn)) (.val (.int mm)) (.val (.int k1)) (.val (.int k2)) (.val (.int b2')) (ob) (.unset) (.unset) (.unset) (.unset) (.unset) hb' X0 hx hZ hby
  have hs01 : s0.toInt ≤ s1.toInt := hcle
  have hs12 : s1.toInt ≤ b2'.toInt := by
    rcases hcp with ⟨rfl, rfl⟩ | ⟨rfl, rfl⟩
    · exact hble
    · rcases hbp with ⟨rfl, rfl⟩ | ⟨rfl, rfl⟩ <;> omega
  obtain ⟨T1, h1, kA, X1, e1, E1, Ar1, st1⟩ := newP X0 hx hZ (hw _ (List.mem_of_getElem? (i := 0) rfl)) e0 (g := (mkF m 104 #[.val (.int v0), .val (.int v1), .val (.int v2), .val (.int v3), .val (.int v4), .val (.int v5), .val (.int nn), .val (.int mm), .val (.int k1), .val (.int k2), .val (.int s0), .val (.int s1), .val (.int b2'), oc, .unset, .unset, .unset, .unset, .unset] [(.int nn)])) rfl (hb hby at_104) rfl hn0 (cap := 3) hnc (by decide) (by decide) (by decide)
  obtain ⟨wa, gw⟩ : ∃ z, z = h0.size := ⟨_, rfl⟩
  rw [← gw] at Ar1 st1
  have A1 := own_L.new Ar1
  have gwb : n0 ≤ wa := Nat.le_trans Z0 (Nat.le_of_eq gw.symm)
  have Z1 : n0 ≤ h1.size := Nat.le_trans Z0 E1.1
  have len1 : (List.replicate nn.toNatClampNeg (0 : Int32)).length = nn.toNatClampNeg := by simp
  obtain ⟨T2, h2, L2, X2, e2, A2, N2, z2, st2⟩ := own_put0 nn s0 wa (.val (.int v0)) (.val (.int v1)) (.val (.int v2)) (.val (.int v3)) (.val (.int v4)) (.val (.int v5)) (.val (.int mm)) (.val (.int k1)) (.val (.int k2)) (.val (.int s1)) (.val (.int b2')) (oc) (.unset) (.unset) (.unset) (.unset) (List.replicate nn.toNatClampNeg (0 : Int32)) X1 hx hZ hby e1 A1 len1 gwb N0
  have Z2 : n0 ≤ h2.size := by rw [z2]; exact Z1
  have len2 : (own_w1 nn s0 (List.replicate nn.toNatClampNeg (0 : Int32))).length = nn.toNatClampNeg := by rw [own_w1_len]; exact len1
  have A2' : own_L Z h2 wa (own_w1 nn s0 (List.replicate nn.toNatClampNeg (0 : Int32))) := A2
  obtain ⟨T3, h3, L3, X3, e3, A3, N3, z3, st3⟩ := own_put1 nn s1 wa (.val (.int v0)) (.val (.int v1)) (.val (.int v2)) (.val (.int v3)) (.val (.int v4)) (.val (.int v5)) (.val (.int mm)) (.val (.int k1)) (.val (.int k2)) (.val (.int s0)) (.val (.int b2')) (oc) (.unset) (.unset) (.unset) (.unset) (own_w1 nn s0 (List.replicate nn.toNatClampNeg (0 : Int32))) X2 hx hZ hby e2 A2 len2 gwb N2
  have Z3 : n0 ≤ h3.size := by rw [z3]; exact Z2
  have len3 : (own_w2 nn s1 (own_w1 nn s0 (List.replicate nn.toNatClampNeg (0 : Int32)))).length = nn.toNatClampNeg := by rw [own_w2_len]; exact len2
  have A3' : own_L Z h3 wa (own_w2 nn s1 (own_w1 nn s0 (List.replicate nn.toNatClampNeg (0 : Int32)))) := A3
  obtain ⟨T4, h4, L4, X4, e4, A4, N4, z4, st4⟩ := own_put2 nn b2' wa (.val (.int v0)) (.val (.int v1)) (.val (.int v2)) (.val (.int v3)) (.val (.int v4)) (.val (.int v5)) (.val (.int mm)) (.val (.int k1)) (.val (.int k2)) (.val (.int s0)) (.val (.int s1)) (oc) (.unset) (.unset) (.unset) (.unset) (own_w2 nn s1 (own_w1 nn s0 (List.replicate nn.toNatClampNeg (0 : Int32)))) X3 hx hZ hby e3 A3 len3 gwb N3
  have Z4 : n0 ≤ h4.size := by rw [z4]; exact Z3
  have len4 : (own_w3 nn b2' (own_w2 nn s1 (own_w1 nn s0 (List.replicate nn.toNatClampNeg (0 : Int32))))).length = nn.toNatClampNeg := by rw [own_w3_len]; exact len3
  have A4' : own_L Z h4 wa (own_w3 nn b2' (own_w2 nn s1 (own_w1 nn s0 (List.replicate nn.toNatClampNeg (0 : Int32))))) := A4
  obtain ⟨ws, hws⟩ : ∃ z, z = (own_w3 nn b2' (own_w2 nn s1 (own_w1 nn s0 (List.replicate nn.toNatClampNeg (0 : Int32))))) := ⟨_, rfl⟩
  have sws : own_sorted ws := by rw [hws]; exact own_ws_sorted hnr hs01 hs12
  rw [← hws] at A4' len4
  have hwl : ws.length ≤ 3 := by rw [len4]; exact hnc
  have hwn : nn = ws.length.toInt32 := by rw [len4]; exact (back32 hn0).1.symm
  obtain ⟨_, _, ⟨T5, L5, k5, n5⟩, -, X5, ⟨Lc5, hQ5, l5, y5, z5⟩, st5⟩ := Jvm.LawKit.callS X4 hx (y := (⟨"com/example/bundlewright/bundlewright/IntArraysHoldsAllPinLaw", "pick", "(IIIII)I"⟩ : MethodName)) hown (mvT hZ (hw _ (List.mem_of_getElem? (i := 1) rfl))) (mvT hZ (hw _ (List.mem_of_getElem? (i := 2) rfl))) (mvT hZ (hw _ (List.mem_of_getElem? (i := 3) rfl))) (mvT hZ (hw _ (List.mem_of_getElem? (i := 4) rfl))) (by decide) (backOf (W := 0) (rm1 l Z a0 hw [] k1 v3 v0 v1 v2 h4 n0 Z4) hZ (hw _ (List.mem_of_getElem? (i := 4) rfl)) (hw _ (List.mem_of_getElem? (i := 3) rfl)) (by decide) (by decide)) (g := (mkF m 149 #[.val (.int v0), .val (.int v1), .val (.int v2), .val (.int v3), .val (.int v4), .val (.int v5), .val (.int nn), .val (.int mm), .val (.int k1), .val (.int k2), .val (.int s0), .val (.int s1), .val (.int b2'), oc, .val (.ref wa), .unset, .unset, .unset, .unset] [(.int v2), (.int v1), (.int v0), (.int v3), (.int k1)])) rfl (by rw [hml]; rfl) (argsL := [(.int k1), (.int v3), (.int v0), (.int v1), (.int v2)]) (rest := []) (lenOf (show parseMethodDescriptor "(IIIII)I" = some ⟨[.int, .int, .int, .int, .int], (some .int)⟩ from by decide +kernel) rfl) rfl (by show 2 * 0 + _ ≤ _; exact Nat.le_of_eq rfl) (hb hby at_149) (fun _ _ => ⟨rfl, e4, (by decide : 0 + 1 + 0 ≤ _), (by decide : 0 + 3 + 0 ≤ _)⟩)
  dsimp only [Pt.U, Pt.locs, Pt.cells, Pt.slots] at X5 l5 y5 z5 st5 hQ5
  subst l5 y5 z5
  obtain ⟨rfl, N5q, e5⟩ := hQ5
  have N5 := Fr.app N4 N5q
  obtain ⟨x, hx'⟩ : ∃ z, z = own_pick_f0 k1 v3 v0 v1 v2 := ⟨_, rfl⟩
  rw [← hx'] at st5
  obtain ⟨_, _, ⟨T6, L6, k6, n6⟩, -, X6, ⟨Lc6, hQ6, l6, y6, z6⟩, st6⟩ := Jvm.LawKit.callS X5 hx (y := (⟨"com/example/bundlewright/bundlewright/IntArraysHoldsAllPinLaw", "pick", "(IIIII)I"⟩ : MethodName)) hown (mvT hZ (hw _ (List.mem_of_getElem? (i := 1) rfl))) (mvT hZ (hw _ (List.mem_of_getElem? (i := 2) rfl))) (mvT hZ (hw _ (List.mem_of_getElem? (i := 3) rfl))) (mvT hZ (hw _ (List.mem_of_getElem? (i := 4) rfl))) (by decide) (backOf (W := 0) (rm1 l Z a0 hw [] k2 v4 v0 v1 v2 h4 n0 Z4) hZ (hw _ (List.mem_of_getElem? (i := 4) rfl)) (hw _ (List.mem_of_getElem? (i := 3) rfl)) (by decide) (by decide)) (g := (mkF m 161 #[.val (.int v0), .val (.int v1), .val (.int v2), .val (.int v3), .val (.int v4), .val (.int v5), .val (.int nn), .val (.int mm), .val (.int k1), .val (.int k2), .val (.int s0), .val (.int s1), .val (.int b2'), oc, .val (.ref wa), .val (.int x), .unset, .unset, .unset] [(.int v2), (.int v1), (.int v0), (.int v4), (.int k2)])) rfl (by rw [hml]; rfl) (argsL := [(.int k2), (.int v4), (.int v0), (.int v1), (.int v2)]) (rest := []) (lenOf (show parseMethodDescriptor "(IIIII)I" = some ⟨[.int, .int, .int, .int, .int], (some .int)⟩ from by decide +kernel) rfl) rfl (by show 2 * 0 + _ ≤ _; exact Nat.le_of_eq rfl) (hb hby at_161) (fun _ _ => ⟨rfl, e5, (by decide : 0 + 1 + 0 ≤ _), (by decide : 0 + 3 + 0 ≤ _)⟩)
  dsimp only [Pt.U, Pt.locs, Pt.cells, Pt.slots] at X6 l6 y6 z6 st6 hQ6
  subst l6 y6 z6
  obtain ⟨rfl, N6q, e6⟩ := hQ6
  have N6 := Fr.app N5 N6q
  obtain ⟨y, hy'⟩ : ∃ z, z = own_pick_f0 k2 v4 v0 v1 v2 := ⟨_, rfl⟩
  rw [← hy'] at st6
  obtain ⟨T7, h7, kB, X7, e7, E7, Ar7, st7⟩ := newP X6 hx hZ (hw _ (List.mem_of_getElem? (i := 0) rfl)) e6 (g := (mkF m 168 #[.val (.int v0), .val (.int v1), .val (.int v2), .val (.int v3), .val (.int v4), .val (.int v5), .val (.int nn), .val (.int mm), .val (.int k1), .val (.int k2), .val (.int s0), .val (.int s1), .val (.int b2'), oc, .val (.ref wa), .val (.int x), .val (.int y), .unset, .unset] [(.int mm)])) rfl (hb hby at_168) rfl hm0 (cap := 2) hmc (by decide) (by decide) (by decide)
  obtain ⟨pa, gp⟩ : ∃ z, z = h4.size := ⟨_, rfl⟩
  rw [← gp] at Ar7 st7
  have B7 := own_L.new Ar7
  have gpb : n0 ≤ pa := Nat.le_trans Z4 (Nat.le_of_eq gp.symm)
  have Z7 : n0 ≤ h7.size := Nat.le_trans Z4 E7.1
  have A7 := A4'.ext E7
  have ne7 : wa ≠ pa := Nat.ne_of_lt (by rw [gp]; exact A4'.lt)
  obtain ⟨T8, h8, L8, ps, ex, X8, e8, N8, Z8, A8, B8, hpl, sps, hex, st8⟩ := own_mid (.val (.int v0)) (.val (.int v1)) (.val (.int v2)) (.val (.int v3)) (.val (.int v4)) (.val (.int v5)) (.val (.int k1)) (.val (.int k2)) (.val (.int s0)) (.val (.int s1)) (.val (.int b2')) (oc) nn mm x y wa pa ws X7 hx hZ hw hby hml hown e7 n0 Z7 N6 A7 hwn hwl B7 hmr gpb ne7
  obtain ⟨_, _, ⟨T9, L9, k9, n9⟩, -, X9, ⟨Lc9, hQ9, l9, y9, z9⟩, st9⟩ := Jvm.LawKit.callS X8 hx (y := (⟨"com/example/bundlewright/bundlewright/IntArrays", "holdsAll", "([I[I)Z"⟩ : MethodName)) hown (mvT hZ (hw _ (List.mem_of_getElem? (i := 5) rfl))) (mvT hZ (hw _ (List.mem_of_getElem? (i := 6) rfl))) (mvT hZ (hw _ (List.mem_of_getElem? (i := 7) rfl))) (mvT hZ (hw _ (List.mem_of_getElem? (i := 8) rfl))) (by decide) (backOf (W := 0) (rm2 l Z a0 hw [] wa pa ws ps h8 n0 Z8 A8 B8 (by omega) (by omega) sws sps) hZ (hw _ (List.mem_of_getElem? (i := 8) rfl)) (hw _ (List.mem_of_getElem? (i := 7) rfl)) (by decide) (by decide)) (g := (mkF m 266 #[.val (.int v0), .val (.int v1), .val (.int v2), .val (.int v3), .val (.int v4), .val (.int v5), .val (.int nn), .val (.int mm), .val (.int k1), .val (.int k2), .val (.int s0), .val (.int s1), .val (.int b2'), oc, .val (.ref wa), .val (.int x), .val (.int y), .val (.ref pa), .val (.int ex)] [(.ref pa), (.ref wa)])) rfl (by rw [hml]; rfl) (argsL := [(.ref wa), (.ref pa)]) (rest := []) (lenOf (show parseMethodDescriptor "([I[I)Z" = some ⟨[(.array .int), (.array .int)], (some .boolean)⟩ from by decide +kernel) rfl) rfl (by show 2 * 0 + _ ≤ _; exact Nat.le_of_eq rfl) (hb hby at_266) (fun _ _ => ⟨rfl, e8, (by decide : 1 + 1 + 0 ≤ _), (by decide : 3 + 2 + 0 ≤ _)⟩)
  dsimp only [Pt.U, Pt.locs, Pt.cells, Pt.slots] at X9 l9 y9 z9 st9 hQ9
  subst l9 y9 z9
  obtain ⟨rfl, N9q, e9⟩ := hQ9
  have N9 := Fr.app N8 N9q
  obtain ⟨fs, hr, hrun, hended, hW, hsame⟩ := X9.leave (v := some (.int (1 : Int32))) (fun h => by rw [Bd.returns] at h; cases h)
  refine ⟨_, _, castTop (ef_0 m v0 v1 v2 v3 v4 v5) ?_, hrun, hended, _, _, rfl, ?_, ⟨_, rfl⟩, hW, hsame.mono (by decide) (by decide)⟩
  · refine start _ ?_
    refine sta _ ?_
    refine stb _ ?_
    refine stc _ ?_
    show Steps p.tables e below (s₁.setTop (mkF m 102 #[.val (.int v0), .val (.int v1), .val (.int v2), .val (.int v3), .val (.int v4), .val (.int v5), .val (.int nn), .val (.int mm), .val (.int k1), .val (.int k2), .val (.int s0), .val (.int s1), .val (.int b2'), oc, .unset, .unset, .unset, .unset, .unset] [])) _
    refine XS.iload X0.here hx rfl (hb hby at_102) rfl ?_
    show Steps p.tables e below (s₁.setTop (mkF m 104 #[.val (.int v0), .val (.int v1), .val (.int v2), .val (.int v3), .val (.int v4), .val (.int v5), .val (.int nn), .val (.int mm), .val (.int k1), .val (.int k2), .val (.int s0), .val (.int s1), .val (.int b2'), oc, .unset, .unset, .unset, .unset, .unset] [(.int nn)])) _
    refine st1 _ ?_
    show Steps p.tables e below (T1.setTop (mkF m 106 #[.val (.int v0), .val (.int v1), .val (.int v2), .val (.int v3), .val (.int v4), .val (.int v5), .val (.int nn), .val (.int mm), .val (.int k1), .val (.int k2), .val (.int s0), .val (.int s1), .val (.int b2'), oc, .unset, .unset, .unset, .unset, .unset] [(.ref wa)])) _
    refine XS.astore X1.here hx rfl (hb hby at_106) rfl rfl (l' := #[.val (.int v0), .val (.int v1), .val (.int v2), .val (.int v3), .val (.int v4), .val (.int v5), .val (.int nn), .val (.int mm), .val (.int k1), .val (.int k2), .val (.int s0), .val (.int s1), .val (.int b2'), oc, .val (.ref wa), .unset, .unset, .unset, .unset]) rfl ?_
    show Steps p.tables e below (T1.setTop (mkF m 108 #[.val (.int v0), .val (.int v1), .val (.int v2), .val (.int v3), .val (.int v4), .val (.int v5), .val (.int nn), .val (.int mm), .val (.int k1), .val (.int k2), .val (.int s0), .val (.int s1), .val (.int b2'), oc, .val (.ref wa), .unset, .unset, .unset, .unset] [])) _
    refine st2 _ ?_
    refine st3 _ ?_
    refine st4 _ ?_
    show Steps p.tables e below (T4.setTop (mkF m 143 #[.val (.int v0), .val (.int v1), .val (.int v2), .val (.int v3), .val (.int v4), .val (.int v5), .val (.int nn), .val (.int mm), .val (.int k1), .val (.int k2), .val (.int s0), .val (.int s1), .val (.int b2'), oc, .val (.ref wa), .unset, .unset, .unset, .unset] [])) _
    refine XS.iload X4.here hx rfl (hb hby at_143) rfl ?_
    show Steps p.tables e below (T4.setTop (mkF m 145 #[.val (.int v0), .val (.int v1), .val (.int v2), .val (.int v3), .val (.int v4), .val (.int v5), .val (.int nn), .val (.int mm), .val (.int k1), .val (.int k2), .val (.int s0), .val (.int s1), .val (.int b2'), oc, .val (.ref wa), .unset, .unset, .unset, .unset] [(.int k1)])) _
    refine XS.iloadN X4.here hx rfl (hb hby at_145) rfl ?_
    show Steps p.tables e below (T4.setTop (mkF m 146 #[.val (.int v0), .val (.int v1), .val (.int v2), .val (.int v3), .val (.int v4), .val (.int v5), .val (.int nn), .val (.int mm), .val (.int k1), .val (.int k2), .val (.int s0), .val (.int s1), .val (.int b2'), oc, .val (.ref wa), .unset, .unset, .unset, .unset] [(.int v3), (.int k1)])) _
    refine XS.iloadN X4.here hx rfl (hb hby at_146) rfl ?_
    show Steps p.tables e below (T4.setTop (mkF m 147 #[.val (.int v0), .val (.int v1), .val (.int v2), .val (.int v3), .val (.int v4), .val (.int v5), .val (.int nn), .val (.int mm), .val (.int k1), .val (.int k2), .val (.int s0), .val (.int s1), .val (.int b2'), oc, .val (.ref wa), .unset, .unset, .unset, .unset] [(.int v0), (.int v3), (.int k1)])) _
    refine XS.iloadN X4.here hx rfl (hb hby at_147) rfl ?_
    show Steps p.tables e below (T4.setTop (mkF m 148 #[.val (.int v0), .val (.int v1), .val (.int v2), .val (.int v3), .val (.int v4), .val (.int v5), .val (.int nn), .val (.int mm), .val (.int k1), .val (.int k2), .val (.int s0), .val (.int s1), .val (.int b2'), oc, .val (.ref wa), .unset, .unset, .unset, .unset] [(.int v1), (.int v0), (.int v3), (.int k1)])) _
    refine XS.iloadN X4.here hx rfl (hb hby at_148) rfl ?_
    show Steps p.tables e below (T4.setTop (mkF m 149 #[.val (.int v0), .val (.int v1), .val (.int v2), .val (.int v3), .val (.int v4), .val (.int v5), .val (.int nn), .val (.int mm), .val (.int k1), .val (.int k2), .val (.int s0), .val (.int s1), .val (.int b2'), oc, .val (.ref wa), .unset, .unset, .unset, .unset] [(.int v2), (.int v1), (.int v0), (.int v3), (.int k1)])) _
    refine st5 _ ?_
    show Steps p.tables e below (T5.setTop (mkF m 152 #[.val (.int v0), .val (.int v1), .val (.int v2), .val (.int v3), .val (.int v4), .val (.int v5), .val (.int nn), .val (.int mm), .val (.int k1), .val (.int k2), .val (.int s0), .val (.int s1), .val (.int b2'), oc, .val (.ref wa), .unset, .unset, .unset, .unset] [(.int x)])) _
    refine XS.istore X5.here hx rfl (hb hby at_152) rfl (l' := #[.val (.int v0), .val (.int v1), .val (.int v2), .val (.int v3), .val (.int v4), .val (.int v5), .val (.int nn), .val (.int mm), .val (.int k1), .val (.int k2), .val (.int s0), .val (.int s1), .val (.int b2'), oc, .val (.ref wa), .val (.int x), .unset, .unset, .unset]) rfl ?_
    show Steps p.tables e below (T5.setTop (mkF m 154 #[.val (.int v0), .val (.int v1), .val (.int v2), .val (.int v3), .val (.int v4), .val (.int v5), .val (.int nn), .val (.int mm), .val (.int k1), .val (.int k2), .val (.int s0), .val (.int s1), .val (.int b2'), oc, .val (.ref wa), .val (.int x), .unset, .unset, .unset] [])) _
    refine XS.iload X5.here hx rfl (hb hby at_154) rfl ?_
    show Steps p.tables e below (T5.setTop (mkF m 156 #[.val (.int v0), .val (.int v1), .val (.int v2), .val (.int v3), .val (.int v4), .val (.int v5), .val (.int nn), .val (.int mm), .val (.int k1), .val (.int k2), .val (.int s0), .val (.int s1), .val (.int b2'), oc, .val (.ref wa), .val (.int x), .unset, .unset, .unset] [(.int k2)])) _
    refine XS.iload X5.here hx rfl (hb hby at_156) rfl ?_
    show Steps p.tables e below (T5.setTop (mkF m 158 #[.val (.int v0), .val (.int v1), .val (.int v2), .val (.int v3), .val (.int v4), .val (.int v5), .val (.int nn), .val (.int mm), .val (.int k1), .val (.int k2), .val (.int s0), .val (.int s1), .val (.int b2'), oc, .val (.ref wa), .val (.int x), .unset, .unset, .unset] [(.int v4), (.int k2)])) _
    refine XS.iloadN X5.here hx rfl (hb hby at_158) rfl ?_
    show Steps p.tables e below (T5.setTop (mkF m 159 #[.val (.int v0), .val (.int v1), .val (.int v2), .val (.int v3), .val (.int v4), .val (.int v5), .val (.int nn), .val (.int mm), .val (.int k1), .val (.int k2), .val (.int s0), .val (.int s1), .val (.int b2'), oc, .val (.ref wa), .val (.int x), .unset, .unset, .unset] [(.int v0), (.int v4), (.int k2)])) _
    refine XS.iloadN X5.here hx rfl (hb hby at_159) rfl ?_
    show Steps p.tables e below (T5.setTop (mkF m 160 #[.val (.int v0), .val (.int v1), .val (.int v2), .val (.int v3), .val (.int v4), .val (.int v5), .val (.int nn), .val (.int mm), .val (.int k1), .val (.int k2), .val (.int s0), .val (.int s1), .val (.int b2'), oc, .val (.ref wa), .val (.int x), .unset, .unset, .unset] [(.int v1), (.int v0), (.int v4), (.int k2)])) _
    refine XS.iloadN X5.here hx rfl (hb hby at_160) rfl ?_
    show Steps p.tables e below (T5.setTop (mkF m 161 #[.val (.int v0), .val (.int v1), .val (.int v2), .val (.int v3), .val (.int v4), .val (.int v5), .val (.int nn), .val (.int mm), .val (.int k1), .val (.int k2), .val (.int s0), .val (.int s1), .val (.int b2'), oc, .val (.ref wa), .val (.int x), .unset, .unset, .unset] [(.int v2), (.int v1), (.int v0), (.int v4), (.int k2)])) _
    refine st6 _ ?_
    show Steps p.tables e below (T6.setTop (mkF m 164 #[.val (.int v0), .val (.int v1), .val (.int v2), .val (.int v3), .val (.int v4), .val (.int v5), .val (.int nn), .val (.int mm), .val (.int k1), .val (.int k2), .val (.int s0), .val (.int s1), .val (.int b2'), oc, .val (.ref wa), .val (.int x), .unset, .unset, .unset] [(.int y)])) _
    refine XS.istore X6.here hx rfl (hb hby at_164) rfl (l' := #[.val (.int v0), .val (.int v1), .val (.int v2), .val (.int v3), .val (.int v4), .val (.int v5), .val (.int nn), .val (.int mm), .val (.int k1), .val (.int k2), .val (.int s0), .val (.int s1), .val (.int b2'), oc, .val (.ref wa), .val (.int x), .val (.int y), .unset, .unset]) rfl ?_
    show Steps p.tables e below (T6.setTop (mkF m 166 #[.val (.int v0), .val (.int v1), .val (.int v2), .val (.int v3), .val (.int v4), .val (.int v5), .val (.int nn), .val (.int mm), .val (.int k1), .val (.int k2), .val (.int s0), .val (.int s1), .val (.int b2'), oc, .val (.ref wa), .val (.int x), .val (.int y), .unset, .unset] [])) _
    refine XS.iload X6.here hx rfl (hb hby at_166) rfl ?_
    show Steps p.tables e below (T6.setTop (mkF m 168 #[.val (.int v0), .val (.int v1), .val (.int v2), .val (.int v3), .val (.int v4), .val (.int v5), .val (.int nn), .val (.int mm), .val (.int k1), .val (.int k2), .val (.int s0), .val (.int s1), .val (.int b2'), oc, .val (.ref wa), .val (.int x), .val (.int y), .unset, .unset] [(.int mm)])) _
    refine st7 _ ?_
    show Steps p.tables e below (T7.setTop (mkF m 170 #[.val (.int v0), .val (.int v1), .val (.int v2), .val (.int v3), .val (.int v4), .val (.int v5), .val (.int nn), .val (.int mm), .val (.int k1), .val (.int k2), .val (.int s0), .val (.int s1), .val (.int b2'), oc, .val (.ref wa), .val (.int x), .val (.int y), .unset, .unset] [(.ref pa)])) _
    refine XS.astore X7.here hx rfl (hb hby at_170) rfl rfl (l' := #[.val (.int v0), .val (.int v1), .val (.int v2), .val (.int v3), .val (.int v4), .val (.int v5), .val (.int nn), .val (.int mm), .val (.int k1), .val (.int k2), .val (.int s0), .val (.int s1), .val (.int b2'), oc, .val (.ref wa), .val (.int x), .val (.int y), .val (.ref pa), .unset]) rfl ?_
    show Steps p.tables e below (T7.setTop (mkF m 172 #[.val (.int v0), .val (.int v1), .val (.int v2), .val (.int v3), .val (.int v4), .val (.int v5), .val (.int nn), .val (.int mm), .val (.int k1), .val (.int k2), .val (.int s0), .val (.int s1), .val (.int b2'), oc, .val (.ref wa), .val (.int x), .val (.int y), .val (.ref pa), .unset] [])) _
    refine st8 _ ?_
    show Steps p.tables e below (T8.setTop (mkF m 262 #[.val (.int v0), .val (.int v1), .val (.int v2), .val (.int v3), .val (.int v4), .val (.int v5), .val (.int nn), .val (.int mm), .val (.int k1), .val (.int k2), .val (.int s0), .val (.int s1), .val (.int b2'), oc, .val (.ref wa), .val (.int x), .val (.int y), .val (.ref pa), .val (.int ex)] [])) _
    refine XS.aload X8.here hx rfl (hb hby at_262) rfl rfl ?_
    show Steps p.tables e below (T8.setTop (mkF m 264 #[.val (.int v0), .val (.int v1), .val (.int v2), .val (.int v3), .val (.int v4), .val (.int v5), .val (.int nn), .val (.int mm), .val (.int k1), .val (.int k2), .val (.int s0), .val (.int s1), .val (.int b2'), oc, .val (.ref wa), .val (.int x), .val (.int y), .val (.ref pa), .val (.int ex)] [(.ref wa)])) _
    refine XS.aload X8.here hx rfl (hb hby at_264) rfl rfl ?_
    show Steps p.tables e below (T8.setTop (mkF m 266 #[.val (.int v0), .val (.int v1), .val (.int v2), .val (.int v3), .val (.int v4), .val (.int v5), .val (.int nn), .val (.int mm), .val (.int k1), .val (.int k2), .val (.int s0), .val (.int s1), .val (.int b2'), oc, .val (.ref wa), .val (.int x), .val (.int y), .val (.ref pa), .val (.int ex)] [(.ref pa), (.ref wa)])) _
    refine st9 _ ?_
    show Steps p.tables e below (T9.setTop (mkF m 269 #[.val (.int v0), .val (.int v1), .val (.int v2), .val (.int v3), .val (.int v4), .val (.int v5), .val (.int nn), .val (.int mm), .val (.int k1), .val (.int k2), .val (.int s0), .val (.int s1), .val (.int b2'), oc, .val (.ref wa), .val (.int x), .val (.int y), .val (.ref pa), .val (.int ex)] [(.int (own_all ws ps))])) _
    refine XS.iload X9.here hx rfl (hb hby at_269) rfl ?_
    show Steps p.tables e below (T9.setTop (mkF m 271 #[.val (.int v0), .val (.int v1), .val (.int v2), .val (.int v3), .val (.int v4), .val (.int v5), .val (.int nn), .val (.int mm), .val (.int k1), .val (.int k2), .val (.int s0), .val (.int s1), .val (.int b2'), oc, .val (.ref wa), .val (.int x), .val (.int y), .val (.ref pa), .val (.int ex)] [(.int ex), (.int (own_all ws ps))])) _
    refine XS.icmpNo X9.here hx rfl (hb hby at_271) rfl (teq hex.symm).2 ?_
    show Steps p.tables e below (T9.setTop (mkF m 274 #[.val (.int v0), .val (.int v1), .val (.int v2), .val (.int v3), .val (.int v4), .val (.int v5), .val (.int nn), .val (.int mm), .val (.int k1), .val (.int k2), .val (.int s0), .val (.int s1), .val (.int b2'), oc, .val (.ref wa), .val (.int x), .val (.int y), .val (.ref pa), .val (.int ex)] [])) _
    refine XS.iconst X9.here hx rfl (hb hby at_274) ?_
    show Steps p.tables e below (T9.setTop (mkF m 275 #[.val (.int v0), .val (.int v1), .val (.int v2), .val (.int v3), .val (.int v4), .val (.int v5), .val (.int nn), .val (.int mm), .val (.int k1), .val (.int k2), .val (.int s0), .val (.int s1), .val (.int b2'), oc, .val (.ref wa), .val (.int x), .val (.int y), .val (.ref pa), .val (.int ex)] [(.int (1 : Int32))])) _
    refine XS.goto X9.here hx rfl (pc0 := 275) (pc' := 279) rfl (hb hby at_275) (by decide) (by decide) ?_
    show Steps p.tables e below (T9.setTop (mkF m 279 #[.val (.int v0), .val (.int v1), .val (.int v2), .val (.int v3), .val (.int v4), .val (.int v5), .val (.int nn), .val (.int mm), .val (.int k1), .val (.int k2), .val (.int s0), .val (.int s1), .val (.int b2'), oc, .val (.ref wa), .val (.int x), .val (.int y), .val (.ref pa), .val (.int ex)] [(.int (1 : Int32))])) _
    exact retN X9 hx (t := .boolean) Bd.returns (by simp) (hb hby at_279) hr
  · exact ⟨rfl, N9⟩
set_option maxRecDepth 65536 in
set_option maxHeartbeats 40000000 in
theorem comes_1 {Post : Tables → Env → Array Value → State → Outcome → State → Prop} (hpost : ∀ tb e args s v u, (limb_1_1.after args s (.returned v) u = true ∧ limb_1_2.after args s (.returned v) u = true ∧ True) → FrameEnd s (.returned v) u (Jvm.fieldLocs frame_1_writes args s ++ Jvm.arrayLocs frame_1_arrays args s ++ Jvm.staticLocs frame_1_statics s) 16 128 → Post tb e args s (.returned v) u) :
    ArmFor flags0 classFile x code maxLocals ret World_1 tables_1 room_1 Calls_1 rest_1 Pre_1 Post := by
  intro l hfl _ _ p e ha hc hk s m args below hf hA hF happ hP
  obtain ⟨hcalls, hrest, hpre⟩ := hP
  obtain ⟨-, -, -, hnamed, -, -, -, hat⟩ := (Spec.applies_iff hf).mp happ
  obtain ⟨hg, hn⟩ := and_e (Cond.before_iff.mp (show (Jvm.Cond.and given_1 narrow_1).before args s = true from hpre))
  obtain ⟨gc, gr0⟩ := and_e hg
  obtain ⟨gv0, gr1⟩ := and_e gr0
  obtain ⟨gv1, gr2⟩ := and_e gr1
  obtain ⟨gv2, gr3⟩ := and_e gr2
  obtain ⟨gv3, gr4⟩ := and_e gr3
  obtain ⟨gv4, gr5⟩ := and_e gr4
  obtain ⟨w0, w1, w2, w3, w4, w5, rfl⟩ : ∃ w0 w1 w2 w3 w4 w5 : Value, args = #[w0, w1, w2, w3, w4, w5] := by
    have hs : args.size = 6 := by simpa [Cond.value, given_1] using gc
    obtain ⟨L⟩ := args
    match L, hs with
    | [w0, w1, w2, w3, w4, w5], _ => exact ⟨w0, w1, w2, w3, w4, w5, rfl⟩
  have hw := fun d (hd : d ∈ tables_1) => atoms_spec (ws := Jvm.Cond.code x code maxLocals ret :: tables_1) hat d (List.mem_cons_of_mem _ hd)
  have hfit : Fit s := fun {y c} hc i hi => by
    obtain ⟨ha, rfl⟩ := Array.getElem?_eq_some_iff.mp hc
    have q := List.all_eq_true.mp ((Array.all_eq_true_iff_forall_mem.mp hF) _ (Array.getElem_mem ha)) i (List.mem_range.mpr hi)
    simpa [Array.getElem?_eq_getElem hi] using q
  obtain ⟨i0, ei0⟩ := is_v gv0
  obtain rfl : w0 = (.int i0) := Option.some.inj ei0
  obtain ⟨i1, ei1⟩ := is_v gv1
  obtain rfl : w1 = (.int i1) := Option.some.inj ei1
  obtain ⟨i2, ei2⟩ := is_v gv2
  obtain rfl : w2 = (.int i2) := Option.some.inj ei2
  obtain ⟨i3, ei3⟩ := is_v gv3
  obtain rfl : w3 = (.int i3) := Option.some.inj ei3
  obtain ⟨i4, ei4⟩ := is_v gv4
  obtain rfl : w4 = (.int i4) := Option.some.inj ei4
  obtain ⟨i5, ei5⟩ := is_v gr5
  obtain rfl : w5 = (.int i5) := Option.some.inj ei5
  obtain ⟨n, o, h1, h2, h3, _, L, rfl, ⟨rfl, N⟩, hq⟩ := rm0 l s _ hw tables_1 i0 i1 i2 i3 i4 i5 s.heap s.heap.size (Nat.le_refl _)  p e ha hc hk s m _ below hf ((Spec.applies_iff_loose hf).mp happ).1 ⟨rfl, State.Warmed39.refl s, rfl⟩ trivial
  refine ⟨n, _, h1, h2, h3, hpost _ _ _ _ _ _ ⟨Cond.after_iff.mpr rfl, Cond.after_iff.mpr (eq_i res_at (Term.int_eval (1)) rfl), trivial⟩ ⟨hq.1, hq.2.1, (hq.2.2.sift fun y hy => Or.inr (N y hy)).mono (by decide) (by decide)⟩⟩
theorem main_1_1 : Claimed_1_1 := comes_1 fun _ _ _ _ _ _ h hF => ⟨h.1, hF⟩
theorem main_1_2 : Claimed_1_2 := comes_1 fun _ _ _ _ _ _ h hF => ⟨h.2.1, hF⟩
end Jvm.Pilot.@@N@@
namespace Jvm.Pilot.@@N@@
open Jvm Jvm.ClassFile Sem Op Lib Jvm.Free Jvm.Stand Jvm.Pilot.@@N@@.Jvm.D
/-! MADE BY PROGRAM (witnessworld.py) out of the Statement's table words and the real class files: 10 classes; the members and pool entries that the words name. The judged class is class 1, her method 3. -/
namespace start1
open Jvm.ClassFile
def u (s : String) : CpInfo := .utf8 (stringToUtf16 s)
/-- a pool by its gaps: so many unusable entries, then the entry; so many at the end -/
def gap : Nat → List CpInfo → List CpInfo
  | 0, r => r
  | n + 1, r => .unusable :: gap n r
def poolList (es : List (Nat × CpInfo)) (last : Nat) : List CpInfo := es.foldr (fun e r => gap e.1 (e.2 :: r)) (gap last [])
def pool (es : List (Nat × CpInfo)) (last : Nat) : Array CpInfo := ⟨poolList es last⟩
def fileOf (pool : Array CpInfo) (this : Nat) (attrs : Array Attribute := #[]) (ms : Array MethodInfo := #[]) (fl : Nat := 33) (sup : Nat := 0) (ifs : Array Nat := #[]) (fds : Array FieldInfo := #[]) : ClassFile where
  minorVersion := 0
  majorVersion := 65
  constantPool := pool
  accessFlags := fl
  thisClass := this
  superClass := sup
  interfaces := ifs
  fields := fds
  methods := ms
  attributes := attrs
def plain (name : String) (sup : Option ClassId) : Class where
  name := name
  kind := .ordinary
  loader := none
  accessFlags := 33
  super := sup
  interfaces := #[]
  cf := none
  fields := #[]
  methods := #[]
  instanceTypes := #[]
  staticTypes := #[]
  resolved := #[]
  callSites := []
  init := .initialized
  statics := none
  mirror := none

def pool0 : Array CpInfo := pool [(5, u "<init>"), (0, u "()V"), (1, .class_ 10), (1, u "java/lang/Object")] 113

def k0m0 : Method := { name := "<init>", desc := "()V", sig := { parameters := [], returnType := none }, accessFlags := 1, code := none }
/-- java/lang/Object -/
def k0 : Class := { plain "java/lang/Object" none with
  accessFlags := 33
  interfaces := #[]
  cf := some (fileOf pool0 8 #[] #[{ accessFlags := 1, nameIndex := 5, descriptorIndex := 6, attributes := #[] }] 33 0 #[] #[])
  fields := #[]
  methods := #[k0m0]
  instanceTypes := #[]
  staticTypes := #[]
  resolved := Array.replicate 124 none
  statics := none }

def pool1 : Array CpInfo := pool [(2, .class_ 4), (1, u "java/lang/Object"), (0, u "<init>"), (0, u "()V"), (0, .methodref 8 9), (0, .class_ 10), (0, .nameAndType 11 12), (0, u "com/example/bundlewright/bundlewright/IntArraysHoldsAllPinLaw"), (0, u "pick"), (0, u "(IIIII)I"), (0, .methodref 8 14), (0, .nameAndType 15 16), (0, u "contains"), (0, u "([III)Z"), (0, .methodref 18 19), (0, .class_ 20), (0, .nameAndType 21 22), (0, u "java/lang/Math"), (0, u "min"), (0, u "(II)I"), (0, .methodref 18 24), (0, .nameAndType 25 22), (0, u "max"), (0, .methodref 27 28), (0, .class_ 29), (0, .nameAndType 30 31), (0, u "com/example/bundlewright/bundlewright/IntArrays"), (0, u "holdsAll"), (0, u "([I[I)Z"), (3, u "law"), (0, u "(IIIIII)Z")] 4

def k1m0 : Method := { name := "<init>", desc := "()V", sig := { parameters := [], returnType := none }, accessFlags := 2, code := none }
def k1c1 : Code := { maxStack := 2, maxLocals := 5, code := method_2_code, exceptionTable := #[], attributes := #[] }
def k1m1 : Method := { name := "pick", desc := "(IIIII)I", sig := { parameters := [.int, .int, .int, .int, .int], returnType := some .int }, accessFlags := 10, code := some k1c1 }
def k1c2 : Code := { maxStack := 2, maxLocals := 3, code := method_3_code, exceptionTable := #[], attributes := #[] }
def k1m2 : Method := { name := "contains", desc := "([III)Z", sig := { parameters := [(.array .int), .int, .int], returnType := some .boolean }, accessFlags := 10, code := some k1c2 }
def k1c3 : Code := { maxStack := 5, maxLocals := 19, code := code, exceptionTable := #[], attributes := #[] }
def k1m3 : Method := { name := "law", desc := "(IIIIII)Z", sig := { parameters := [.int, .int, .int, .int, .int, .int], returnType := some .boolean }, accessFlags := 9, code := some k1c3 }
/-- com/example/bundlewright/bundlewright/IntArraysHoldsAllPinLaw -/
def k1 : Class := { plain "com/example/bundlewright/bundlewright/IntArraysHoldsAllPinLaw" (some 0) with
  accessFlags := 49
  interfaces := #[]
  cf := some (fileOf pool1 8 #[] #[{ accessFlags := 2, nameIndex := 5, descriptorIndex := 6, attributes := #[] }, { accessFlags := 10, nameIndex := 11, descriptorIndex := 12, attributes := #[] }, { accessFlags := 10, nameIndex := 15, descriptorIndex := 16, attributes := #[] }, { accessFlags := 9, nameIndex := 35, descriptorIndex := 36, attributes := #[] }] 49 2 #[] #[])
  fields := #[]
  methods := #[k1m0, k1m1, k1m2, k1m3]
  instanceTypes := #[]
  staticTypes := #[]
  resolved := Array.replicate 41 none
  statics := none }

def pool2 : Array CpInfo := pool [(2, .class_ 4), (1, u "java/lang/Object"), (0, u "<init>"), (0, u "()V"), (3, .class_ 12), (1, u "com/example/bundlewright/bundlewright/IntArrays"), (47, u "holdsAll"), (0, u "([I[I)Z")] 9

def k2m0 : Method := { name := "<init>", desc := "()V", sig := { parameters := [], returnType := none }, accessFlags := 2, code := none }
def k2c1 : Code := { maxStack := 2, maxLocals := 7, code := prog_44_method_5_code, exceptionTable := #[], attributes := #[] }
def k2m1 : Method := { name := "holdsAll", desc := "([I[I)Z", sig := { parameters := [(.array .int), (.array .int)], returnType := some .boolean }, accessFlags := 8, code := some k2c1 }
/-- com/example/bundlewright/bundlewright/IntArrays -/
def k2 : Class := { plain "com/example/bundlewright/bundlewright/IntArrays" (some 0) with
  accessFlags := 48
  interfaces := #[]
  cf := some (fileOf pool2 10 #[] #[{ accessFlags := 2, nameIndex := 5, descriptorIndex := 6, attributes := #[] }, { accessFlags := 8, nameIndex := 60, descriptorIndex := 61, attributes := #[] }] 48 2 #[] #[])
  fields := #[]
  methods := #[k2m0, k2m1]
  instanceTypes := #[]
  staticTypes := #[]
  resolved := Array.replicate 71 none
  statics := none }

def pool3 : Array CpInfo := pool [(1, .class_ 2), (0, u "java/lang/Math"), (1, .class_ 6), (1, u "java/lang/Object"), (0, u "<init>"), (0, u "()V"), (89, .class_ 100), (1, u "java/lang/Math$RandomNumberGeneratorHolder"), (71, u "negativeZeroFloatBits"), (0, u "J"), (2, u "negativeZeroDoubleBits"), (21, u "max"), (2, u "min"), (43, u "$assertionsDisabled"), (0, u "Z"), (88, u "(II)I"), (2, u "twoToTheDoubleScaleDown"), (0, u "D"), (4, u "twoToTheDoubleScaleUp"), (9, u "E"), (3, u "PI"), (2, u "TAU"), (2, u "DEGREES_TO_RADIANS"), (0, u "RADIANS_TO_DEGREES")] 94

def k3m0 : Method := { name := "<init>", desc := "()V", sig := { parameters := [], returnType := none }, accessFlags := 2, code := none }
def k3c1 : Code := { maxStack := 2, maxLocals := 2, code := jdk_29_method_65_code, exceptionTable := #[], attributes := #[] }
def k3m1 : Method := { name := "max", desc := "(II)I", sig := { parameters := [.int, .int], returnType := some .int }, accessFlags := 9, code := some k3c1 }
def k3c2 : Code := { maxStack := 2, maxLocals := 2, code := jdk_29_method_69_code, exceptionTable := #[], attributes := #[] }
def k3m2 : Method := { name := "min", desc := "(II)I", sig := { parameters := [.int, .int], returnType := some .int }, accessFlags := 9, code := some k3c2 }
/-- java/lang/Math -/
def k3 : Class := { plain "java/lang/Math" (some 0) with
  accessFlags := 49
  interfaces := #[]
  cf := some (fileOf pool3 1 #[.nestMembers #[98]] #[{ accessFlags := 2, nameIndex := 7, descriptorIndex := 8, attributes := #[] }, { accessFlags := 9, nameIndex := 198, descriptorIndex := 335, attributes := #[] }, { accessFlags := 9, nameIndex := 201, descriptorIndex := 335, attributes := #[] }] 49 4 #[] #[{ accessFlags := 25, nameIndex := 354, descriptorIndex := 339, attributes := #[] }, { accessFlags := 25, nameIndex := 358, descriptorIndex := 339, attributes := #[] }, { accessFlags := 25, nameIndex := 361, descriptorIndex := 339, attributes := #[] }, { accessFlags := 26, nameIndex := 364, descriptorIndex := 339, attributes := #[] }, { accessFlags := 26, nameIndex := 365, descriptorIndex := 339, attributes := #[] }, { accessFlags := 26, nameIndex := 172, descriptorIndex := 173, attributes := #[] }, { accessFlags := 26, nameIndex := 176, descriptorIndex := 173, attributes := #[] }, { accessFlags := 8, nameIndex := 344, descriptorIndex := 339, attributes := #[] }, { accessFlags := 8, nameIndex := 338, descriptorIndex := 339, attributes := #[] }, { accessFlags := 4120, nameIndex := 245, descriptorIndex := 246, attributes := #[] }])
  fields := #[{ name := "E", type := .double, accessFlags := 25, slot := 0, constantValue := 0 }, { name := "PI", type := .double, accessFlags := 25, slot := 1, constantValue := 0 }, { name := "TAU", type := .double, accessFlags := 25, slot := 2, constantValue := 0 }, { name := "DEGREES_TO_RADIANS", type := .double, accessFlags := 26, slot := 3, constantValue := 0 }, { name := "RADIANS_TO_DEGREES", type := .double, accessFlags := 26, slot := 4, constantValue := 0 }, { name := "negativeZeroFloatBits", type := .long, accessFlags := 26, slot := 5, constantValue := 0 }, { name := "negativeZeroDoubleBits", type := .long, accessFlags := 26, slot := 6, constantValue := 0 }, { name := "twoToTheDoubleScaleUp", type := .double, accessFlags := 8, slot := 7, constantValue := 0 }, { name := "twoToTheDoubleScaleDown", type := .double, accessFlags := 8, slot := 8, constantValue := 0 }, { name := "$assertionsDisabled", type := .boolean, accessFlags := 4120, slot := 9, constantValue := 0 }]
  methods := #[k3m0, k3m1, k3m2]
  instanceTypes := #[]
  staticTypes := #[.double, .double, .double, .double, .double, .long, .long, .double, .double, .boolean]
  resolved := Array.replicate 460 none
  statics := none }

def pool4 : Array CpInfo := pool [(1, u "java/lang/Cloneable"), (0, .class_ 1), (0, u "java/lang/Object"), (0, .class_ 3)] 3

/-- java/lang/Cloneable -/
def k4 : Class := { plain "java/lang/Cloneable" (some 0) with
  accessFlags := 1537
  interfaces := #[]
  cf := some (fileOf pool4 2 #[] #[] 1537 4 #[] #[])
  fields := #[]
  methods := #[]
  instanceTypes := #[]
  staticTypes := #[]
  resolved := Array.replicate 8 none
  statics := none }

def pool5 : Array CpInfo := pool [(1, u "java/io/Serializable"), (0, .class_ 1), (0, u "java/lang/Object"), (0, .class_ 3)] 3

/-- java/io/Serializable -/
def k5 : Class := { plain "java/io/Serializable" (some 0) with
  accessFlags := 1537
  interfaces := #[]
  cf := some (fileOf pool5 2 #[] #[] 1537 4 #[] #[])
  fields := #[]
  methods := #[]
  instanceTypes := #[]
  staticTypes := #[]
  resolved := Array.replicate 8 none
  statics := none }

/-- the primitive byte -/
def k6 : Class := { plain "byte" none with kind := .primitive 'B', accessFlags := 0x411 }
/-- [B -/
def k7 : Class := { plain "[B" (some 0) with kind := .array 6 .byte, interfaces := #[4, 5], accessFlags := 1041 }

/-- the primitive int -/
def k8 : Class := { plain "int" none with kind := .primitive 'I', accessFlags := 0x411 }
/-- [I -/
def k9 : Class := { plain "[I" (some 0) with kind := .array 8 .int, interfaces := #[4, 5], accessFlags := 1041 }

def heap : Heap := #[]
def classes : Array Class := #[k0, k1, k2, k3, k4, k5, k6, k7, k8, k9]
def interned : List (Array UInt16 × Addr) := []
def slotsUsed : Nat := 0
def theMethod : MethodId := ⟨1, 3⟩
def args0 : Array Value := #[.int 5, .int 3, .int 7, .int 3, .int 4, .int 11]
def aboutOver (below : List Frame) : State where
  vm := { classes := classes, interned := interned.toArray }
  heap := heap
  slotsUsed := slotsUsed
  threads := #[{ frames := .invoking theMethod args0 :: below }]
def below0 : List Frame := [.native { method := ⟨0, 0⟩, args := #[] }]
def about1 : State := aboutOver below0
def p0 : Program := .bare "" "" ""
def e0 : Env := launch0.env 0 0 0
theorem w_frames : about1.frames = Frame.invoking theMethod args0 :: below0 := rfl
set_option maxRecDepth 65536 in
theorem w_args : argsFit about1.vm theMethod args0 = true := by decide +kernel
set_option maxRecDepth 65536 in
theorem w_heap : heapFits about1 = true := by decide +kernel
set_option maxRecDepth 65536 in
theorem w_runnable : about1.curStatus? = some .runnable := by decide +kernel
set_option maxRecDepth 65536 in
theorem w_alone : about1.alone = true := by decide +kernel
set_option maxRecDepth 65536 in
theorem w_named : about1.methodNamed? x = some theMethod := by decide +kernel
set_option maxRecDepth 65536 in
theorem w_hears : about1.hears theMethod below0 = true := by decide +kernel
set_option maxRecDepth 65536 in
theorem w_ripe : about1.ripe theMethod args0 below0 = true := by decide +kernel
theorem w_running : about1.status = .running := rfl
set_option maxRecDepth 65536 in
theorem w_room : about1.hasRoom e0.platform room_1 = true :=
  launch0.hasRoom_least _ room_1 (by decide +kernel) (by decide +kernel) (by decide +kernel) (by decide +kernel) (by decide +kernel) (by decide +kernel)
theorem allAtoms_all (ts : List Jvm.Cond) (a : Array Jvm.Value) (st : Jvm.State) : (allAtoms ts).before a st = ts.all (fun c => c.before a st) := by
  induction ts with
  | nil => rfl
  | cons c t ih =>
    show (Jvm.Cond.and c (allAtoms t)).before a st = _
    rw [Jvm.Cond.before_and, ih, List.all_cons]
def words1 : List Jvm.Cond := Jvm.Cond.code x code maxLocals ret :: tables_1
/-- a 'code' word, met by the world's own term for the bytes: nothing is compared byte by byte -/
theorem code_word {y : MethodName} {bytes : ByteArray} {mx : Nat} {rt : Option FieldType} {a : Array Value} {s : State} {m : MethodId} {meth : Method} {c : Code} (h1 : s.methodNamed? y = some m) (h2 : s.vm.method? m = some meth) (h3 : meth.code = some c) (h4 : c.code = bytes)
    (h5 : (c.maxLocals == mx && c.exceptionTable.isEmpty && decide (c.maxStack ≤ mostOperands) && decide (meth.sig.returnType = rt) && !meth.locks && decide (parseMethodDescriptor y.desc = some meth.sig)) = true) : (Jvm.Cond.code y bytes mx rt).before a s = true := by
  simp only [Bool.and_eq_true, beq_iff_eq, Bool.not_eq_true', decide_eq_true_eq] at h5
  obtain ⟨⟨⟨⟨⟨g1, g2⟩, g3⟩, g4⟩, g5⟩, g6⟩ := h5
  simp [Cond.before, Cond.holds, Cond.value, h1, h2, h3, h4, g1, g2, g3, g4, g5, g6]
def isCode : Jvm.Cond → Bool
  | .code _ _ _ _ => true
  | _ => false
theorem all_split {L : List Jvm.Cond} {P : Jvm.Cond → Bool} (h1 : L.all (fun c => isCode c || P c) = true) (h2 : ∀ c ∈ L.filter isCode, P c = true) : L.all P = true := by
  refine List.all_eq_true.mpr fun c hc => ?_
  have h := List.all_eq_true.mp h1 c hc
  rcases Bool.eq_false_or_eq_true (isCode c) with hi | hi
  · exact h2 c (List.mem_filter.mpr ⟨hc, hi⟩)
  · simpa [hi] using h
set_option maxRecDepth 65536 in
theorem w_c0 : (Jvm.Cond.code x code maxLocals ret).before args0 about1 = true := code_word (m := ⟨1, 3⟩) (meth := k1m3) (c := k1c3) (by decide +kernel) rfl rfl rfl (by decide +kernel)
set_option maxRecDepth 65536 in
theorem w_c1 : (Jvm.Cond.code ({ cls := "com/example/bundlewright/bundlewright/IntArraysHoldsAllPinLaw", name := "pick", desc := "(IIIII)I" } : Jvm.MethodName) method_2_code (5 : Nat) (Option.some Jvm.ClassFile.FieldType.int)).before args0 about1 = true := code_word (m := ⟨1, 1⟩) (meth := k1m1) (c := k1c1) (by decide +kernel) rfl rfl rfl (by decide +kernel)
set_option maxRecDepth 65536 in
theorem w_c2 : (Jvm.Cond.code ({ cls := "com/example/bundlewright/bundlewright/IntArrays", name := "holdsAll", desc := "([I[I)Z" } : Jvm.MethodName) prog_44_method_5_code (7 : Nat) (Option.some Jvm.ClassFile.FieldType.boolean)).before args0 about1 = true := code_word (m := ⟨2, 1⟩) (meth := k2m1) (c := k2c1) (by decide +kernel) rfl rfl rfl (by decide +kernel)
set_option maxRecDepth 65536 in
theorem w_c3 : (Jvm.Cond.code ({ cls := "java/lang/Math", name := "min", desc := "(II)I" } : Jvm.MethodName) jdk_29_method_69_code (2 : Nat) (Option.some Jvm.ClassFile.FieldType.int)).before args0 about1 = true := code_word (m := ⟨3, 2⟩) (meth := k3m2) (c := k3c2) (by decide +kernel) rfl rfl rfl (by decide +kernel)
set_option maxRecDepth 65536 in
theorem w_c4 : (Jvm.Cond.code ({ cls := "java/lang/Math", name := "max", desc := "(II)I" } : Jvm.MethodName) jdk_29_method_65_code (2 : Nat) (Option.some Jvm.ClassFile.FieldType.int)).before args0 about1 = true := code_word (m := ⟨3, 1⟩) (meth := k3m1) (c := k3c1) (by decide +kernel) rfl rfl rfl (by decide +kernel)
set_option maxRecDepth 65536 in
theorem w_c5 : (Jvm.Cond.code ({ cls := "com/example/bundlewright/bundlewright/IntArraysHoldsAllPinLaw", name := "contains", desc := "([III)Z" } : Jvm.MethodName) method_3_code (3 : Nat) (Option.some Jvm.ClassFile.FieldType.boolean)).before args0 about1 = true := code_word (m := ⟨1, 2⟩) (meth := k1m2) (c := k1c2) (by decide +kernel) rfl rfl rfl (by decide +kernel)
def codes1 : List Jvm.Cond := [Jvm.Cond.code x code maxLocals ret, Jvm.Cond.code ({ cls := "com/example/bundlewright/bundlewright/IntArraysHoldsAllPinLaw", name := "pick", desc := "(IIIII)I" } : Jvm.MethodName) method_2_code (5 : Nat) (Option.some Jvm.ClassFile.FieldType.int), Jvm.Cond.code ({ cls := "com/example/bundlewright/bundlewright/IntArrays", name := "holdsAll", desc := "([I[I)Z" } : Jvm.MethodName) prog_44_method_5_code (7 : Nat) (Option.some Jvm.ClassFile.FieldType.boolean), Jvm.Cond.code ({ cls := "java/lang/Math", name := "min", desc := "(II)I" } : Jvm.MethodName) jdk_29_method_69_code (2 : Nat) (Option.some Jvm.ClassFile.FieldType.int), Jvm.Cond.code ({ cls := "java/lang/Math", name := "max", desc := "(II)I" } : Jvm.MethodName) jdk_29_method_65_code (2 : Nat) (Option.some Jvm.ClassFile.FieldType.int), Jvm.Cond.code ({ cls := "com/example/bundlewright/bundlewright/IntArraysHoldsAllPinLaw", name := "contains", desc := "([III)Z" } : Jvm.MethodName) method_3_code (3 : Nat) (Option.some Jvm.ClassFile.FieldType.boolean)]
set_option maxRecDepth 65536 in
theorem codes_eq : words1.filter isCode = codes1 := rfl
theorem w_codes : ∀ c ∈ words1.filter isCode, c.before args0 about1 = true := by
  rw [codes_eq]
  intro c hc
  simp only [codes1, List.mem_cons, List.not_mem_nil, or_false] at hc
  rcases hc with rfl | rfl | rfl | rfl | rfl | rfl
  · exact w_c0
  · exact w_c1
  · exact w_c2
  · exact w_c3
  · exact w_c4
  · exact w_c5
set_option maxRecDepth 65536 in
theorem w_t1 : words1.all (fun c => isCode c || c.before args0 about1) = true := by decide +kernel
theorem w_tables : (allAtoms (Jvm.Cond.code x code maxLocals ret :: tables_1)).before args0 about1 = true := by
  rw [allAtoms_all]
  show words1.all (fun c => c.before args0 about1) = true
  refine all_split ?_ w_codes
  rw [w_t1]
set_option maxRecDepth 65536 in
theorem w_case : (Jvm.Cond.and given_1 narrow_1).before args0 about1 = true := by decide +kernel
theorem w_applies : (headSpec (Jvm.Cond.code x code maxLocals ret :: tables_1) room_1).applies x e0.platform about1 = true :=
  (Spec.applies_iff w_frames).mpr ⟨w_running, w_runnable, w_alone, w_named, w_hears, w_ripe, w_room, w_tables⟩
theorem atStart : AtStart classFile x code maxLocals ret World_1 tables_1 room_1 Calls_1 rest_1 Pre_1 launch0 p0 e0 about1 theMethod args0 below0 :=
  ⟨lists_1, trivial, launch0.admits_env _ _ _, launch0.least_env, fairChoices_fair.cas, fairChoices_fair.clock, w_frames, w_args, w_heap, w_applies, trivial, trivial, w_case⟩
end start1
theorem witness_1 : WitnessClaimed_1 := ⟨start1.p0, start1.e0, start1.about1, start1.theMethod, start1.args0, start1.below0, start1.atStart⟩
end Jvm.Pilot.@@N@@
